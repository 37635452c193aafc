import JvmDerived
import JvmDerived.Pilot.@@N@@Statement
import JvmDerived.Pilot.@@N@@Code
set_option linter.unusedVariables false
set_option linter.unusedSimpArgs false
namespace Jvm.OwnW
open Sem ClassFile Op Lib Jvm.Stand Jvm.Free Jvm.LawKit Jvm.RoadKit
/-- false: nothing may have been interned; true: the wide word -/
def Md (w : Bool) (s : State) (vm0 : Vm) (n : Nat) : Prop := (w = false → vm0 = s.vm) ∧ ∃ k0, s.Since vm0 k0 ∧ k0 ≤ n
theorem Md.mono {w : Bool} {s : State} {vm0 : Vm} {n n' : Nat} (h : Md w s vm0 n) (q : n ≤ n') : Md w s vm0 n' := ⟨h.1, h.2.imp fun _ r => ⟨r.1, Nat.le_trans r.2 q⟩⟩
theorem Md.start (w : Bool) (s : State) (n : Nat) : Md w s s.vm n := ⟨fun _ => rfl, 0, (State.WarmedH.refl s).since 0, Nat.zero_le _⟩
def EndF (w : Bool) (s : State) (o : Outcome) (t : State) (L : List Loc) (k n : Nat) : Prop := match w with
  | false => FrameEnd s o t L k n
  | true => ReturnedEndW s o t L k n
abbrev Kx : Type := Bool × Program × Launch × Env × Room × State × MethodId × Array Value × List Frame × Method × Code × State × String × Nat × (Option Value → Heap → Prop)
abbrev Kx.w (κ : Kx) : Bool := κ.1
abbrev Kx.p (κ : Kx) : Program := κ.2.1
abbrev Kx.l (κ : Kx) : Launch := κ.2.2.1
abbrev Kx.e (κ : Kx) : Env := κ.2.2.2.1
abbrev Kx.R (κ : Kx) : Room := κ.2.2.2.2.1
abbrev Kx.s (κ : Kx) : State := κ.2.2.2.2.2.1
abbrev Kx.m (κ : Kx) : MethodId := κ.2.2.2.2.2.2.1
abbrev Kx.a (κ : Kx) : Array Value := κ.2.2.2.2.2.2.2.1
abbrev Kx.below (κ : Kx) : List Frame := κ.2.2.2.2.2.2.2.2.1
abbrev Kx.meth (κ : Kx) : Method := κ.2.2.2.2.2.2.2.2.2.1
abbrev Kx.c (κ : Kx) : Code := κ.2.2.2.2.2.2.2.2.2.2.1
abbrev Kx.Z (κ : Kx) : State := κ.2.2.2.2.2.2.2.2.2.2.2.1
abbrev Kx.own (κ : Kx) : String := κ.2.2.2.2.2.2.2.2.2.2.2.2.1
abbrev Kx.n0 (κ : Kx) : Nat := κ.2.2.2.2.2.2.2.2.2.2.2.2.2.1
abbrev Kx.Q (κ : Kx) : Option Value → Heap → Prop := κ.2.2.2.2.2.2.2.2.2.2.2.2.2.2
/-- the body's run from T with the frame g ends as κ.Q says -/
def Ends (κ : Kx) (T : State) (g : JFrame) : Prop := ∃ (t : State) (o : Outcome), Steps κ.p.tables κ.e κ.below (T.setTop g) t ∧ t.status = .running ∧ Ended t κ.below o ∧ ∃ v L, o = .returned v ∧ (κ.Q v t.heap ∧ Fr κ.n0 L) ∧ EndF κ.w κ.s o t L κ.R.cells κ.R.slots
def WP (κ : Kx) (h : Heap) (k n : Nat) (g : JFrame) : Prop :=
  ∀ (T : State) (locs : List Loc) (vm0 : Vm), Stand κ.p κ.l κ.e κ.R (κ.s.setVm vm0) κ.m κ.a κ.below κ.meth κ.c T locs k n → T.heap = h → Md κ.w κ.s vm0 h.size → κ.Z.Warmed39 vm0 → vm0.findClass κ.own = some κ.m.cls → Fr κ.n0 locs → Ends κ T g
/-- what stands fast through a body's walk -/
def Cx (κ : Kx) (w : Bool) (l : Launch) (Z : State) (own : String) (n0 : Nat) (rm : Room) (bytes : ByteArray) (maxL : Nat) (ret : Option FieldType) (nm : String) (Q : Option Value → Heap → Prop) : Prop :=
  κ.p.tables.exec = Jvm.exec ∧ κ.c.code = bytes ∧ κ.c.maxLocals = maxL ∧ κ.meth.sig.returnType = ret ∧ κ.meth.locks = false ∧ κ.meth.name = nm ∧ κ.w = w ∧ κ.l = l ∧ κ.Z = Z ∧ κ.own = own ∧ κ.n0 = n0 ∧ κ.R = rm ∧ κ.Q = Q
/-- a body's contract -/
def Met (w : Bool) (l : Launch) (Z : State) (y : MethodName) (bytes : ByteArray) (maxL : Nat) (ret : Option FieldType) (ws : List Cond) (rm : Room) (as' : Array Value) (h0 : Heap) (n0 : Nat) (Q : Option Value → Heap → Prop) : Prop :=
  MetFree l y (head1 (Cond.code y bytes maxL ret :: ws) rm) (fun a U => a = as' ∧ Z.Warmed39 U.vm ∧ U.heap = h0) (fun _ _ _ _ _ => True) (fun _ U o U' => ∃ v L, o = .returned v ∧ (Q v U'.heap ∧ Fr n0 L) ∧ EndF w U o U' L rm.cells rm.slots)
theorem Met.of {w : Bool} {l : Launch} {Z : State} {y : MethodName} {bytes : ByteArray} {maxL : Nat} {ret : Option FieldType} {ws : List Cond} {rm : Room} {as' : Array Value} {h0 : Heap} {n0 : Nat} {Q : Option Value → Heap → Prop} (hp : plainFor y = true)
    (body : ∀ κ : Kx, Cx κ w l Z y.cls n0 rm bytes maxL ret y.name Q → WP κ h0 0 0 (entryFrame κ.m as' maxL)) : Met w l Z y bytes maxL ret ws rm as' h0 n0 Q := by
  refine MetFree.of_bodySF hp hisR ?_
  intro p e s m args below meth c s₁ Bd hml0 hP hK
  obtain ⟨rfl, hZ, hh⟩ := hP
  exact body (w, p, l, e, rm, s, m, args, below, meth, c, Z, y.cls, n0, Q) ⟨Bd.exec, Bd.bytes, hml0, Bd.returns, Bd.notSynchronized, (name_of_methodNamed Bd.named Bd.method).1, rfl, rfl, rfl, rfl, rfl, rfl, rfl⟩ s₁ [] s.vm (Stand.of_body Bd) (by rw [← hh, Bd.state]; rfl) (Md.start _ _ _) hZ (findClass_of_methodNamed Bd.named) (Fr.nil n0)
theorem EndF.widen {w : Bool} {s : State} {o : Outcome} {t : State} {L : List Loc} {k n : Nat} (h : EndF w s o t L k n) : ReturnedEndW s o t L k n := by
  cases w
  · exact ReturnedEndW.of_narrow h.1 h.2.1 h.2.2
  · exact h
section Rules
variable {κ : Kx} {w : Bool} {l : Launch} {Z : State} {own nm : String} {n0 : Nat} {rm : Room} {bytes : ByteArray} {maxL : Nat} {ret : Option FieldType} {Q : Option Value → Heap → Prop} {h h' : Heap} {k n k' n' : Nat} {pc pc' : Nat} {L L' : Array Slot} {S : List Value} {a0 : Array Value}
theorem WP.go {g g' : JFrame} (st : ∀ (T : State) (locs : List Loc) (vm0 : Vm), Stand κ.p κ.l κ.e κ.R (κ.s.setVm vm0) κ.m κ.a κ.below κ.meth κ.c T locs k n → T.heap = h → κ.Z.Warmed39 vm0 → vm0.findClass κ.own = some κ.m.cls → ∀ t, Steps κ.p.tables κ.e κ.below (T.setTop g') t → Steps κ.p.tables κ.e κ.below (T.setTop g) t)
    (H : WP κ h k n g') : WP κ h k n g := fun T locs vm0 X e M hZ ho N => by
  obtain ⟨t, o, h1, r⟩ := H T locs vm0 X e M hZ ho N
  exact ⟨t, o, st T locs vm0 X e hZ ho t h1, r⟩
theorem WP.frame {g g' : JFrame} (q : g = g') (H : WP κ h k n g') : WP κ h k n g := q ▸ H
theorem WP.more {g : JFrame} (H : WP κ h k' n' g) (hk : k ≤ k') (hn : n ≤ n') : WP κ h k n g := fun T locs vm0 X e M hZ ho N => H T locs vm0 (X.mono hk hn) e M hZ ho N
/-- a pure stretch with several roads that meet again -/
theorem WP.meet {g g' : JFrame} (H : WP κ h k n g' → WP κ h k n g) (K : WP κ h k n g') : WP κ h k n g := H K
theorem WP.iadd (K : Cx κ w l Z own n0 rm bytes maxL ret nm Q) {x y : Int32} (hd : decode bytes pc = .ok (.iadd, 1))  (hp : pc + 1 = pc') (H : WP κ h k n (mkF κ.m pc' L (.int (x + y) :: S))) : WP κ h k n (mkF κ.m pc L (.int y :: .int x :: S)) := by
  obtain ⟨hx, hby, -⟩ := K
  subst hp
  exact WP.go (fun T locs vm0 X e hZ ho t k => XS.iadd X.here hx rfl (hb hby hd) rfl k) H
theorem WP.isub (K : Cx κ w l Z own n0 rm bytes maxL ret nm Q) {x y : Int32} (hd : decode bytes pc = .ok (.isub, 1))  (hp : pc + 1 = pc') (H : WP κ h k n (mkF κ.m pc' L (.int (x - y) :: S))) : WP κ h k n (mkF κ.m pc L (.int y :: .int x :: S)) := by
  obtain ⟨hx, hby, -⟩ := K
  subst hp
  exact WP.go (fun T locs vm0 X e hZ ho t k => XS.isub X.here hx rfl (hb hby hd) rfl k) H
theorem WP.imul (K : Cx κ w l Z own n0 rm bytes maxL ret nm Q) {x y : Int32} (hd : decode bytes pc = .ok (.imul, 1))  (hp : pc + 1 = pc') (H : WP κ h k n (mkF κ.m pc' L (.int (x * y) :: S))) : WP κ h k n (mkF κ.m pc L (.int y :: .int x :: S)) := by
  obtain ⟨hx, hby, -⟩ := K
  subst hp
  exact WP.go (fun T locs vm0 X e hZ ho t k => XS.imul X.here hx rfl (hb hby hd) rfl k) H
theorem WP.iand (K : Cx κ w l Z own n0 rm bytes maxL ret nm Q) {x y : Int32} (hd : decode bytes pc = .ok (.iand, 1))  (hp : pc + 1 = pc') (H : WP κ h k n (mkF κ.m pc' L (.int (x &&& y) :: S))) : WP κ h k n (mkF κ.m pc L (.int y :: .int x :: S)) := by
  obtain ⟨hx, hby, -⟩ := K
  subst hp
  exact WP.go (fun T locs vm0 X e hZ ho t k => XS.iand X.here hx rfl (hb hby hd) rfl k) H
theorem WP.ixor (K : Cx κ w l Z own n0 rm bytes maxL ret nm Q) {x y : Int32} (hd : decode bytes pc = .ok (.ixor, 1))  (hp : pc + 1 = pc') (H : WP κ h k n (mkF κ.m pc' L (.int (x ^^^ y) :: S))) : WP κ h k n (mkF κ.m pc L (.int y :: .int x :: S)) := by
  obtain ⟨hx, hby, -⟩ := K
  subst hp
  exact WP.go (fun T locs vm0 X e hZ ho t k => XS.ixor X.here hx rfl (hb hby hd) rfl k) H
theorem WP.ior (K : Cx κ w l Z own n0 rm bytes maxL ret nm Q) {x y : Int32} (hd : decode bytes pc = .ok (.ior, 1))  (hp : pc + 1 = pc') (H : WP κ h k n (mkF κ.m pc' L (.int (x ||| y) :: S))) : WP κ h k n (mkF κ.m pc L (.int y :: .int x :: S)) := by
  obtain ⟨hx, hby, -⟩ := K
  subst hp
  exact WP.go (fun T locs vm0 X e hZ ho t k => XS.ior X.here hx rfl (hb hby hd) rfl k) H
theorem WP.ishl (K : Cx κ w l Z own n0 rm bytes maxL ret nm Q) {x y : Int32} (hd : decode bytes pc = .ok (.ishl, 1))  (hp : pc + 1 = pc') (H : WP κ h k n (mkF κ.m pc' L (.int (x <<< (y &&& 31)) :: S))) : WP κ h k n (mkF κ.m pc L (.int y :: .int x :: S)) := by
  obtain ⟨hx, hby, -⟩ := K
  subst hp
  exact WP.go (fun T locs vm0 X e hZ ho t k => XS.ishl X.here hx rfl (hb hby hd) rfl k) H
theorem WP.ishr (K : Cx κ w l Z own n0 rm bytes maxL ret nm Q) {x y : Int32} (hd : decode bytes pc = .ok (.ishr, 1))  (hp : pc + 1 = pc') (H : WP κ h k n (mkF κ.m pc' L (.int (x >>> (y &&& 31)) :: S))) : WP κ h k n (mkF κ.m pc L (.int y :: .int x :: S)) := by
  obtain ⟨hx, hby, -⟩ := K
  subst hp
  exact WP.go (fun T locs vm0 X e hZ ho t k => XS.ishr X.here hx rfl (hb hby hd) rfl k) H
theorem WP.iushr (K : Cx κ w l Z own n0 rm bytes maxL ret nm Q) {x y : Int32} (hd : decode bytes pc = .ok (.iushr, 1))  (hp : pc + 1 = pc') (H : WP κ h k n (mkF κ.m pc' L (.int ((x.toUInt32 >>> (y &&& 31).toUInt32).toInt32) :: S))) : WP κ h k n (mkF κ.m pc L (.int y :: .int x :: S)) := by
  obtain ⟨hx, hby, -⟩ := K
  subst hp
  exact WP.go (fun T locs vm0 X e hZ ho t k => XS.iushr X.here hx rfl (hb hby hd) rfl k) H
theorem WP.ladd (K : Cx κ w l Z own n0 rm bytes maxL ret nm Q) {x y : Int64} (hd : decode bytes pc = .ok (.ladd, 1))  (hp : pc + 1 = pc') (H : WP κ h k n (mkF κ.m pc' L (.long (x + y) :: S))) : WP κ h k n (mkF κ.m pc L (.long y :: .long x :: S)) := by
  obtain ⟨hx, hby, -⟩ := K
  subst hp
  exact WP.go (fun T locs vm0 X e hZ ho t k => XS.ladd X.here hx rfl (hb hby hd) rfl k) H
theorem WP.lsub (K : Cx κ w l Z own n0 rm bytes maxL ret nm Q) {x y : Int64} (hd : decode bytes pc = .ok (.lsub, 1))  (hp : pc + 1 = pc') (H : WP κ h k n (mkF κ.m pc' L (.long (x - y) :: S))) : WP κ h k n (mkF κ.m pc L (.long y :: .long x :: S)) := by
  obtain ⟨hx, hby, -⟩ := K
  subst hp
  exact WP.go (fun T locs vm0 X e hZ ho t k => XS.lsub X.here hx rfl (hb hby hd) rfl k) H
theorem WP.lmul (K : Cx κ w l Z own n0 rm bytes maxL ret nm Q) {x y : Int64} (hd : decode bytes pc = .ok (.lmul, 1))  (hp : pc + 1 = pc') (H : WP κ h k n (mkF κ.m pc' L (.long (x * y) :: S))) : WP κ h k n (mkF κ.m pc L (.long y :: .long x :: S)) := by
  obtain ⟨hx, hby, -⟩ := K
  subst hp
  exact WP.go (fun T locs vm0 X e hZ ho t k => XS.lmul X.here hx rfl (hb hby hd) rfl k) H
theorem WP.land (K : Cx κ w l Z own n0 rm bytes maxL ret nm Q) {x y : Int64} (hd : decode bytes pc = .ok (.land, 1))  (hp : pc + 1 = pc') (H : WP κ h k n (mkF κ.m pc' L (.long (x &&& y) :: S))) : WP κ h k n (mkF κ.m pc L (.long y :: .long x :: S)) := by
  obtain ⟨hx, hby, -⟩ := K
  subst hp
  exact WP.go (fun T locs vm0 X e hZ ho t k => XS.land X.here hx rfl (hb hby hd) rfl k) H
theorem WP.lor (K : Cx κ w l Z own n0 rm bytes maxL ret nm Q) {x y : Int64} (hd : decode bytes pc = .ok (.lor, 1))  (hp : pc + 1 = pc') (H : WP κ h k n (mkF κ.m pc' L (.long (x ||| y) :: S))) : WP κ h k n (mkF κ.m pc L (.long y :: .long x :: S)) := by
  obtain ⟨hx, hby, -⟩ := K
  subst hp
  exact WP.go (fun T locs vm0 X e hZ ho t k => XS.lor X.here hx rfl (hb hby hd) rfl k) H
theorem WP.lxor (K : Cx κ w l Z own n0 rm bytes maxL ret nm Q) {x y : Int64} (hd : decode bytes pc = .ok (.lxor, 1))  (hp : pc + 1 = pc') (H : WP κ h k n (mkF κ.m pc' L (.long (x ^^^ y) :: S))) : WP κ h k n (mkF κ.m pc L (.long y :: .long x :: S)) := by
  obtain ⟨hx, hby, -⟩ := K
  subst hp
  exact WP.go (fun T locs vm0 X e hZ ho t k => XS.lxor X.here hx rfl (hb hby hd) rfl k) H
theorem WP.idiv (K : Cx κ w l Z own n0 rm bytes maxL ret nm Q) {x y : Int32} (hd : decode bytes pc = .ok (.idiv, 1)) (hy : y ≠ 0) (hp : pc + 1 = pc') (H : WP κ h k n (mkF κ.m pc' L (.int (x / y) :: S))) : WP κ h k n (mkF κ.m pc L (.int y :: .int x :: S)) := by
  obtain ⟨hx, hby, -⟩ := K
  subst hp
  exact WP.go (fun T locs vm0 X e hZ ho t k => XS.idiv X.here hx rfl (hb hby hd) rfl hy k) H
theorem WP.irem (K : Cx κ w l Z own n0 rm bytes maxL ret nm Q) {x y : Int32} (hd : decode bytes pc = .ok (.irem, 1)) (hy : y ≠ 0) (hp : pc + 1 = pc') (H : WP κ h k n (mkF κ.m pc' L (.int (x % y) :: S))) : WP κ h k n (mkF κ.m pc L (.int y :: .int x :: S)) := by
  obtain ⟨hx, hby, -⟩ := K
  subst hp
  exact WP.go (fun T locs vm0 X e hZ ho t k => iremM X hx rfl (hb hby hd) rfl hy k) H
theorem WP.ldiv (K : Cx κ w l Z own n0 rm bytes maxL ret nm Q) {x y : Int64} (hd : decode bytes pc = .ok (.ldiv, 1)) (hy : y ≠ 0) (hp : pc + 1 = pc') (H : WP κ h k n (mkF κ.m pc' L (.long (x / y) :: S))) : WP κ h k n (mkF κ.m pc L (.long y :: .long x :: S)) := by
  obtain ⟨hx, hby, -⟩ := K
  subst hp
  exact WP.go (fun T locs vm0 X e hZ ho t k => XT.ldiv X.here hx rfl (hb hby hd) rfl hy k) H
theorem WP.lrem (K : Cx κ w l Z own n0 rm bytes maxL ret nm Q) {x y : Int64} (hd : decode bytes pc = .ok (.lrem, 1)) (hy : y ≠ 0) (hp : pc + 1 = pc') (H : WP κ h k n (mkF κ.m pc' L (.long (x % y) :: S))) : WP κ h k n (mkF κ.m pc L (.long y :: .long x :: S)) := by
  obtain ⟨hx, hby, -⟩ := K
  subst hp
  exact WP.go (fun T locs vm0 X e hZ ho t k => XT.lrem X.here hx rfl (hb hby hd) rfl hy (by rw [lrem_mod]; exact k)) H
theorem WP.ineg (K : Cx κ w l Z own n0 rm bytes maxL ret nm Q) {x : Int32} (hd : decode bytes pc = .ok (.ineg, 1))  (hp : pc + 1 = pc') (H : WP κ h k n (mkF κ.m pc' L (.int (-x) :: S))) : WP κ h k n (mkF κ.m pc L (.int x :: S)) := by
  obtain ⟨hx, hby, -⟩ := K
  subst hp
  exact WP.go (fun T locs vm0 X e hZ ho t k => XS.ineg X.here hx rfl (hb hby hd) rfl k) H
theorem WP.lneg (K : Cx κ w l Z own n0 rm bytes maxL ret nm Q) {x : Int64} (hd : decode bytes pc = .ok (.lneg, 1))  (hp : pc + 1 = pc') (H : WP κ h k n (mkF κ.m pc' L (.long (-x) :: S))) : WP κ h k n (mkF κ.m pc L (.long x :: S)) := by
  obtain ⟨hx, hby, -⟩ := K
  subst hp
  exact WP.go (fun T locs vm0 X e hZ ho t k => XT.lneg X.here hx rfl (hb hby hd) rfl k) H
theorem WP.lshl (K : Cx κ w l Z own n0 rm bytes maxL ret nm Q) {x : Int64} {y : Int32} (hd : decode bytes pc = .ok (.lshl, 1))  (hp : pc + 1 = pc') (H : WP κ h k n (mkF κ.m pc' L (.long (x <<< (y &&& 0x3f).toInt64) :: S))) : WP κ h k n (mkF κ.m pc L (.int y :: .long x :: S)) := by
  obtain ⟨hx, hby, -⟩ := K
  subst hp
  exact WP.go (fun T locs vm0 X e hZ ho t k => XS.lshl X.here hx rfl (hb hby hd) rfl k) H
theorem WP.lshr (K : Cx κ w l Z own n0 rm bytes maxL ret nm Q) {x : Int64} {y : Int32} (hd : decode bytes pc = .ok (.lshr, 1))  (hp : pc + 1 = pc') (H : WP κ h k n (mkF κ.m pc' L (.long (x >>> (y &&& 0x3f).toInt64) :: S))) : WP κ h k n (mkF κ.m pc L (.int y :: .long x :: S)) := by
  obtain ⟨hx, hby, -⟩ := K
  subst hp
  exact WP.go (fun T locs vm0 X e hZ ho t k => XS.lshr X.here hx rfl (hb hby hd) rfl k) H
theorem WP.lushr (K : Cx κ w l Z own n0 rm bytes maxL ret nm Q) {x : Int64} {y : Int32} (hd : decode bytes pc = .ok (.lushr, 1))  (hp : pc + 1 = pc') (H : WP κ h k n (mkF κ.m pc' L (.long ((x.toUInt64 >>> (y &&& 0x3f).toInt64.toUInt64).toInt64) :: S))) : WP κ h k n (mkF κ.m pc L (.int y :: .long x :: S)) := by
  obtain ⟨hx, hby, -⟩ := K
  subst hp
  exact WP.go (fun T locs vm0 X e hZ ho t k => XS.lushr X.here hx rfl (hb hby hd) rfl k) H
theorem WP.i2l (K : Cx κ w l Z own n0 rm bytes maxL ret nm Q) {x : Int32} (hd : decode bytes pc = .ok (.i2l, 1))  (hp : pc + 1 = pc') (H : WP κ h k n (mkF κ.m pc' L (.long (x.toInt64) :: S))) : WP κ h k n (mkF κ.m pc L (.int x :: S)) := by
  obtain ⟨hx, hby, -⟩ := K
  subst hp
  exact WP.go (fun T locs vm0 X e hZ ho t k => XS.i2l X.here hx rfl (hb hby hd) rfl k) H
theorem WP.l2i (K : Cx κ w l Z own n0 rm bytes maxL ret nm Q) {x : Int64} (hd : decode bytes pc = .ok (.l2i, 1))  (hp : pc + 1 = pc') (H : WP κ h k n (mkF κ.m pc' L (.int (x.toInt32) :: S))) : WP κ h k n (mkF κ.m pc L (.long x :: S)) := by
  obtain ⟨hx, hby, -⟩ := K
  subst hp
  exact WP.go (fun T locs vm0 X e hZ ho t k => XS.l2i X.here hx rfl (hb hby hd) rfl k) H
theorem WP.i2b (K : Cx κ w l Z own n0 rm bytes maxL ret nm Q) {x : Int32} (hd : decode bytes pc = .ok (.i2b, 1))  (hp : pc + 1 = pc') (H : WP κ h k n (mkF κ.m pc' L (.int (x.toInt8.toInt32) :: S))) : WP κ h k n (mkF κ.m pc L (.int x :: S)) := by
  obtain ⟨hx, hby, -⟩ := K
  subst hp
  exact WP.go (fun T locs vm0 X e hZ ho t k => XS.i2b X.here hx rfl (hb hby hd) rfl k) H
theorem WP.i2c (K : Cx κ w l Z own n0 rm bytes maxL ret nm Q) {x : Int32} (hd : decode bytes pc = .ok (.i2c, 1))  (hp : pc + 1 = pc') (H : WP κ h k n (mkF κ.m pc' L (.int (x.toUInt32.toUInt16.toUInt32.toInt32) :: S))) : WP κ h k n (mkF κ.m pc L (.int x :: S)) := by
  obtain ⟨hx, hby, -⟩ := K
  subst hp
  exact WP.go (fun T locs vm0 X e hZ ho t k => XS.i2c X.here hx rfl (hb hby hd) rfl k) H
theorem WP.i2s (K : Cx κ w l Z own n0 rm bytes maxL ret nm Q) {x : Int32} (hd : decode bytes pc = .ok (.i2s, 1))  (hp : pc + 1 = pc') (H : WP κ h k n (mkF κ.m pc' L (.int (x.toInt16.toInt32) :: S))) : WP κ h k n (mkF κ.m pc L (.int x :: S)) := by
  obtain ⟨hx, hby, -⟩ := K
  subst hp
  exact WP.go (fun T locs vm0 X e hZ ho t k => XS.i2s X.here hx rfl (hb hby hd) rfl k) H
theorem WP.lcmp (K : Cx κ w l Z own n0 rm bytes maxL ret nm Q) {x y : Int64} (hd : decode bytes pc = .ok (.lcmp, 1))  (hp : pc + 1 = pc') (H : WP κ h k n (mkF κ.m pc' L (.int (lcmpW x y) :: S))) : WP κ h k n (mkF κ.m pc L (.long y :: .long x :: S)) := by
  obtain ⟨hx, hby, -⟩ := K
  subst hp
  exact WP.go (fun T locs vm0 X e hZ ho t k => XS.lcmp X.here hx rfl (hb hby hd) rfl k) H
theorem WP.iconst (K : Cx κ w l Z own n0 rm bytes maxL ret nm Q) {i : Int} {v : Int32} (hd : decode bytes pc = .ok (.iconst i, 1)) (hv : Int32.ofInt i = v) (hp : pc + 1 = pc') (H : WP κ h k n (mkF κ.m pc' L (.int v :: S))) : WP κ h k n (mkF κ.m pc L (S)) := by
  obtain ⟨hx, hby, -⟩ := K
  subst hp
  exact WP.go (fun T locs vm0 X e hZ ho t k => XT.iconstV X.here hx rfl v (hb hby hd) hv k) H
theorem WP.bipush (K : Cx κ w l Z own n0 rm bytes maxL ret nm Q) {i : Int} {v : Int32} (hd : decode bytes pc = .ok (.bipush i, 2)) (hv : (Int8.ofInt i).toInt32 = v) (hp : pc + 2 = pc') (H : WP κ h k n (mkF κ.m pc' L (.int v :: S))) : WP κ h k n (mkF κ.m pc L (S)) := by
  obtain ⟨hx, hby, -⟩ := K
  subst hp
  exact WP.go (fun T locs vm0 X e hZ ho t k => XT.bipushV X.here hx rfl v (hb hby hd) hv k) H
theorem WP.sipush (K : Cx κ w l Z own n0 rm bytes maxL ret nm Q) {i : Int} {v : Int32} (hd : decode bytes pc = .ok (.sipush i, 3)) (hv : (Int16.ofInt i).toInt32 = v) (hp : pc + 3 = pc') (H : WP κ h k n (mkF κ.m pc' L (.int v :: S))) : WP κ h k n (mkF κ.m pc L (S)) := by
  obtain ⟨hx, hby, -⟩ := K
  subst hp
  exact WP.go (fun T locs vm0 X e hZ ho t k => XT.sipushV X.here hx rfl v (hb hby hd) hv k) H
theorem WP.lconst (K : Cx κ w l Z own n0 rm bytes maxL ret nm Q) {i : Fin 2} {v : Int64} (hd : decode bytes pc = .ok (.lconst i, 1)) (hv : Int64.ofNat i = v) (hp : pc + 1 = pc') (H : WP κ h k n (mkF κ.m pc' L (.long v :: S))) : WP κ h k n (mkF κ.m pc L (S)) := by
  obtain ⟨hx, hby, -⟩ := K
  subst hp
  exact WP.go (fun T locs vm0 X e hZ ho t k => XT.lconstV X.here hx rfl v (hb hby hd) hv k) H
theorem WP.aconst_null (K : Cx κ w l Z own n0 rm bytes maxL ret nm Q)  (hd : decode bytes pc = .ok (.aconst_null, 1))  (hp : pc + 1 = pc') (H : WP κ h k n (mkF κ.m pc' L (.null :: S))) : WP κ h k n (mkF κ.m pc L (S)) := by
  obtain ⟨hx, hby, -⟩ := K
  subst hp
  exact WP.go (fun T locs vm0 X e hZ ho t k => XS.aconstNull X.here hx rfl (hb hby hd) k) H
theorem WP.iloadN (K : Cx κ w l Z own n0 rm bytes maxL ret nm Q) {j : Fin 4} {v : Int32} (hd : decode bytes pc = .ok (.iload_n j, 1)) (hl : L[j.val]? = some (.val (.int v))) (hp : pc + 1 = pc') (H : WP κ h k n (mkF κ.m pc' L (.int v :: S))) : WP κ h k n (mkF κ.m pc L (S)) := by
  obtain ⟨hx, hby, -⟩ := K
  subst hp
  exact WP.go (fun T locs vm0 X e hZ ho t k => XS.iloadN X.here hx rfl (hb hby hd) hl k) H
theorem WP.iload (K : Cx κ w l Z own n0 rm bytes maxL ret nm Q) {j : Nat} {v : Int32} (hd : decode bytes pc = .ok (.iload j, 2)) (hl : L[j]? = some (.val (.int v))) (hp : pc + 2 = pc') (H : WP κ h k n (mkF κ.m pc' L (.int v :: S))) : WP κ h k n (mkF κ.m pc L (S)) := by
  obtain ⟨hx, hby, -⟩ := K
  subst hp
  exact WP.go (fun T locs vm0 X e hZ ho t k => XS.iload X.here hx rfl (hb hby hd) hl k) H
theorem WP.lloadN (K : Cx κ w l Z own n0 rm bytes maxL ret nm Q) {j : Fin 4} {v : Int64} (hd : decode bytes pc = .ok (.lload_n j, 1)) (hl : L[j.val]? = some (.val (.long v))) (hp : pc + 1 = pc') (H : WP κ h k n (mkF κ.m pc' L (.long v :: S))) : WP κ h k n (mkF κ.m pc L (S)) := by
  obtain ⟨hx, hby, -⟩ := K
  subst hp
  exact WP.go (fun T locs vm0 X e hZ ho t k => XT.lloadN X.here hx rfl (hb hby hd) hl k) H
theorem WP.lload (K : Cx κ w l Z own n0 rm bytes maxL ret nm Q) {j : Nat} {v : Int64} (hd : decode bytes pc = .ok (.lload j, 2)) (hl : L[j]? = some (.val (.long v))) (hp : pc + 2 = pc') (H : WP κ h k n (mkF κ.m pc' L (.long v :: S))) : WP κ h k n (mkF κ.m pc L (S)) := by
  obtain ⟨hx, hby, -⟩ := K
  subst hp
  exact WP.go (fun T locs vm0 X e hZ ho t k => XT.lload X.here hx rfl (hb hby hd) hl k) H
theorem WP.aloadN (K : Cx κ w l Z own n0 rm bytes maxL ret nm Q) {j : Fin 4} {v : Value} (hd : decode bytes pc = .ok (.aload_n j, 1)) (hl : L[j.val]? = some (.val v)) (hv : v.isRef = true) (hp : pc + 1 = pc') (H : WP κ h k n (mkF κ.m pc' L (v :: S))) : WP κ h k n (mkF κ.m pc L (S)) := by
  obtain ⟨hx, hby, -⟩ := K
  subst hp
  exact WP.go (fun T locs vm0 X e hZ ho t k => XS.aloadN X.here hx rfl (hb hby hd) hl hv k) H
theorem WP.aload (K : Cx κ w l Z own n0 rm bytes maxL ret nm Q) {j : Nat} {v : Value} (hd : decode bytes pc = .ok (.aload j, 2)) (hl : L[j]? = some (.val v)) (hv : v.isRef = true) (hp : pc + 2 = pc') (H : WP κ h k n (mkF κ.m pc' L (v :: S))) : WP κ h k n (mkF κ.m pc L (S)) := by
  obtain ⟨hx, hby, -⟩ := K
  subst hp
  exact WP.go (fun T locs vm0 X e hZ ho t k => XS.aload X.here hx rfl (hb hby hd) hl hv k) H
theorem WP.dloadN (K : Cx κ w l Z own n0 rm bytes maxL ret nm Q) {j : Fin 4} {v : UInt64} (hd : decode bytes pc = .ok (.dload_n j, 1)) (hl : L[j.val]? = some (.val (.double v))) (hp : pc + 1 = pc') (H : WP κ h k n (mkF κ.m pc' L (.double v :: S))) : WP κ h k n (mkF κ.m pc L (S)) := by
  obtain ⟨hx, hby, -⟩ := K
  subst hp
  exact WP.go (fun T locs vm0 X e hZ ho t k => XT.dloadN X.here hx rfl (hb hby hd) hl k) H
theorem WP.dload (K : Cx κ w l Z own n0 rm bytes maxL ret nm Q) {j : Nat} {v : UInt64} (hd : decode bytes pc = .ok (.dload j, 2)) (hl : L[j]? = some (.val (.double v))) (hp : pc + 2 = pc') (H : WP κ h k n (mkF κ.m pc' L (.double v :: S))) : WP κ h k n (mkF κ.m pc L (S)) := by
  obtain ⟨hx, hby, -⟩ := K
  subst hp
  exact WP.go (fun T locs vm0 X e hZ ho t k => XT.dload X.here hx rfl (hb hby hd) hl k) H
theorem WP.dup (K : Cx κ w l Z own n0 rm bytes maxL ret nm Q) {x : Value} (hd : decode bytes pc = .ok (.dup, 1)) (hc : x.category = 1) (hp : pc + 1 = pc') (H : WP κ h k n (mkF κ.m pc' L (x :: x :: S))) : WP κ h k n (mkF κ.m pc L (x :: S)) := by
  obtain ⟨hx, hby, -⟩ := K
  subst hp
  exact WP.go (fun T locs vm0 X e hZ ho t k => XS.dup X.here hx rfl (hb hby hd) rfl hc k) H
theorem WP.pop (K : Cx κ w l Z own n0 rm bytes maxL ret nm Q) {x : Value} (hd : decode bytes pc = .ok (.pop, 1)) (hc : x.category = 1) (hp : pc + 1 = pc') (H : WP κ h k n (mkF κ.m pc' L (S))) : WP κ h k n (mkF κ.m pc L (x :: S)) := by
  obtain ⟨hx, hby, -⟩ := K
  subst hp
  exact WP.go (fun T locs vm0 X e hZ ho t k => XT.pop X.here hx rfl (hb hby hd) rfl hc k) H
theorem WP.dup_x1 (K : Cx κ w l Z own n0 rm bytes maxL ret nm Q) {x y : Value} (hd : decode bytes pc = .ok (.dup_x1, 1)) (hc : x.category = 1) (hc' : y.category = 1) (hp : pc + 1 = pc') (H : WP κ h k n (mkF κ.m pc' L (x :: y :: x :: S))) : WP κ h k n (mkF κ.m pc L (x :: y :: S)) := by
  obtain ⟨hx, hby, -⟩ := K
  subst hp
  exact WP.go (fun T locs vm0 X e hZ ho t k => XT.dupX1 X.here hx rfl (hb hby hd) rfl hc hc' k) H
theorem WP.dup2 (K : Cx κ w l Z own n0 rm bytes maxL ret nm Q) {x y : Value} (hd : decode bytes pc = .ok (.dup2, 1)) (hc : x.category = 1) (hc' : y.category = 1) (hp : pc + 1 = pc') (H : WP κ h k n (mkF κ.m pc' L (x :: y :: x :: y :: S))) : WP κ h k n (mkF κ.m pc L (x :: y :: S)) := by
  obtain ⟨hx, hby, -⟩ := K
  subst hp
  exact WP.go (fun T locs vm0 X e hZ ho t k => XT.dup2 X.here hx rfl (hb hby hd) rfl hc hc' k) H
theorem WP.dup2L (K : Cx κ w l Z own n0 rm bytes maxL ret nm Q) {x : Int64} (hd : decode bytes pc = .ok (.dup2, 1))  (hp : pc + 1 = pc') (H : WP κ h k n (mkF κ.m pc' L (.long x :: .long x :: S))) : WP κ h k n (mkF κ.m pc L (.long x :: S)) := by
  obtain ⟨hx, hby, -⟩ := K
  subst hp
  exact WP.go (fun T locs vm0 X e hZ ho t k => XT.dup2L X.here hx rfl (hb hby hd) rfl k) H
theorem WP.i2d (K : Cx κ w l Z own n0 rm bytes maxL ret nm Q) {x : Int32} (hd : decode bytes pc = .ok (.i2d, 1))  (hp : pc + 1 = pc') (H : WP κ h k n (mkF κ.m pc' L (.double (FP.i2d x) :: S))) : WP κ h k n (mkF κ.m pc L (.int x :: S)) := by
  obtain ⟨hx, hby, -⟩ := K
  subst hp
  exact WP.go (fun T locs vm0 X e hZ ho t k => Jvm.Free.XS.i2dS X.here hx rfl (hb hby hd) rfl rfl k) H
theorem WP.l2d (K : Cx κ w l Z own n0 rm bytes maxL ret nm Q) {x : Int64} (hd : decode bytes pc = .ok (.l2d, 1))  (hp : pc + 1 = pc') (H : WP κ h k n (mkF κ.m pc' L (.double (FP.l2d x) :: S))) : WP κ h k n (mkF κ.m pc L (.long x :: S)) := by
  obtain ⟨hx, hby, -⟩ := K
  subst hp
  exact WP.go (fun T locs vm0 X e hZ ho t k => Jvm.Free.XS.l2dS X.here hx rfl (hb hby hd) rfl rfl k) H
theorem WP.dcmp (K : Cx κ w l Z own n0 rm bytes maxL ret nm Q) {o : CmpOp} {x y : UInt64} (hd : decode bytes pc = .ok (.dcmp o, 1))  (hp : pc + 1 = pc') (H : WP κ h k n (mkF κ.m pc' L (.int (cmpValue (FP.dcmp x y) o) :: S))) : WP κ h k n (mkF κ.m pc L (.double y :: .double x :: S)) := by
  obtain ⟨hx, hby, -⟩ := K
  subst hp
  exact WP.go (fun T locs vm0 X e hZ ho t k => Jvm.Free.XS.dcmpS X.here hx rfl (hb hby hd) rfl rfl k) H
theorem WP.istoreN (K : Cx κ w l Z own n0 rm bytes maxL ret nm Q) {j : Fin 4} {x : Int32} (hd : decode bytes pc = .ok (.istore_n j, 1))  (hl : storeLocals L j.val (.int x) = some L') (hp : pc + 1 = pc') (H : WP κ h k n (mkF κ.m pc' L' S)) : WP κ h k n (mkF κ.m pc L ((.int x) :: S)) := by
  obtain ⟨hx, hby, -⟩ := K
  subst hp
  exact WP.go (fun T locs vm0 X e hZ ho t k => XS.istoreN X.here hx rfl (hb hby hd) rfl hl k) H
theorem WP.istore (K : Cx κ w l Z own n0 rm bytes maxL ret nm Q) {j : Nat} {x : Int32} (hd : decode bytes pc = .ok (.istore j, 2))  (hl : storeLocals L j (.int x) = some L') (hp : pc + 2 = pc') (H : WP κ h k n (mkF κ.m pc' L' S)) : WP κ h k n (mkF κ.m pc L ((.int x) :: S)) := by
  obtain ⟨hx, hby, -⟩ := K
  subst hp
  exact WP.go (fun T locs vm0 X e hZ ho t k => XS.istore X.here hx rfl (hb hby hd) rfl hl k) H
theorem WP.lstoreN (K : Cx κ w l Z own n0 rm bytes maxL ret nm Q) {j : Fin 4} {x : Int64} (hd : decode bytes pc = .ok (.lstore_n j, 1))  (hl : storeLocals L j.val (.long x) = some L') (hp : pc + 1 = pc') (H : WP κ h k n (mkF κ.m pc' L' S)) : WP κ h k n (mkF κ.m pc L ((.long x) :: S)) := by
  obtain ⟨hx, hby, -⟩ := K
  subst hp
  exact WP.go (fun T locs vm0 X e hZ ho t k => XT.lstoreN X.here hx rfl (hb hby hd) rfl hl k) H
theorem WP.lstore (K : Cx κ w l Z own n0 rm bytes maxL ret nm Q) {j : Nat} {x : Int64} (hd : decode bytes pc = .ok (.lstore j, 2))  (hl : storeLocals L j (.long x) = some L') (hp : pc + 2 = pc') (H : WP κ h k n (mkF κ.m pc' L' S)) : WP κ h k n (mkF κ.m pc L ((.long x) :: S)) := by
  obtain ⟨hx, hby, -⟩ := K
  subst hp
  exact WP.go (fun T locs vm0 X e hZ ho t k => XT.lstore X.here hx rfl (hb hby hd) rfl hl k) H
theorem WP.astoreN (K : Cx κ w l Z own n0 rm bytes maxL ret nm Q) {j : Fin 4} {x : Value} (hd : decode bytes pc = .ok (.astore_n j, 1)) (hv : x.isRef = true) (hl : storeLocals L j.val x = some L') (hp : pc + 1 = pc') (H : WP κ h k n (mkF κ.m pc' L' S)) : WP κ h k n (mkF κ.m pc L (x :: S)) := by
  obtain ⟨hx, hby, -⟩ := K
  subst hp
  exact WP.go (fun T locs vm0 X e hZ ho t k => XS.astoreN X.here hx rfl (hb hby hd) rfl hv hl k) H
theorem WP.astore (K : Cx κ w l Z own n0 rm bytes maxL ret nm Q) {j : Nat} {x : Value} (hd : decode bytes pc = .ok (.astore j, 2)) (hv : x.isRef = true) (hl : storeLocals L j x = some L') (hp : pc + 2 = pc') (H : WP κ h k n (mkF κ.m pc' L' S)) : WP κ h k n (mkF κ.m pc L (x :: S)) := by
  obtain ⟨hx, hby, -⟩ := K
  subst hp
  exact WP.go (fun T locs vm0 X e hZ ho t k => XS.astore X.here hx rfl (hb hby hd) rfl hv hl k) H
theorem WP.dstoreN (K : Cx κ w l Z own n0 rm bytes maxL ret nm Q) {j : Fin 4} {x : UInt64} (hd : decode bytes pc = .ok (.dstore_n j, 1))  (hl : storeLocals L j.val (.double x) = some L') (hp : pc + 1 = pc') (H : WP κ h k n (mkF κ.m pc' L' S)) : WP κ h k n (mkF κ.m pc L ((.double x) :: S)) := by
  obtain ⟨hx, hby, -⟩ := K
  subst hp
  exact WP.go (fun T locs vm0 X e hZ ho t k => Jvm.Free.XS.dstoreN X.here hx rfl (hb hby hd) rfl hl k) H
theorem WP.dstore (K : Cx κ w l Z own n0 rm bytes maxL ret nm Q) {j : Nat} {x : UInt64} (hd : decode bytes pc = .ok (.dstore j, 2))  (hl : storeLocals L j (.double x) = some L') (hp : pc + 2 = pc') (H : WP κ h k n (mkF κ.m pc' L' S)) : WP κ h k n (mkF κ.m pc L ((.double x) :: S)) := by
  obtain ⟨hx, hby, -⟩ := K
  subst hp
  exact WP.go (fun T locs vm0 X e hZ ho t k => Jvm.Free.XS.dstore X.here hx rfl (hb hby hd) rfl hl k) H
theorem WP.iinc (K : Cx κ w l Z own n0 rm bytes maxL ret nm Q) {j : Nat} {cst : Int} {x v : Int32} (hd : decode bytes pc = .ok (.iinc j cst, 3)) (hv : Int32.ofInt cst = v) (hl : L[j]? = some (.val (.int x))) (hl' : storeLocals L j (.int (x + v)) = some L') (hp : pc + 3 = pc') (H : WP κ h k n (mkF κ.m pc' L' S)) : WP κ h k n (mkF κ.m pc L S) := by
  obtain ⟨hx, hby, -⟩ := K
  subst hp
  exact WP.go (fun T locs vm0 X e hZ ho t k => XT.iincV X.here hx rfl v (hb hby hd) hv hl hl' k) H
theorem WP.goto (K : Cx κ w l Z own n0 rm bytes maxL ret nm Q) {o : Int} (hd : decode bytes pc = .ok (.goto o, 3)) (ho : 0 ≤ (pc : Int) + o) (hp : ((pc : Int) + o).toNat = pc') (H : WP κ h k n (mkF κ.m pc' L S)) : WP κ h k n (mkF κ.m pc L S) := by
  obtain ⟨hx, hby, -⟩ := K
  exact WP.go (fun T locs vm0 X e hZ ho' t k => XS.goto X.here hx rfl rfl (hb hby hd) ho hp k) H
theorem WP.if0T (K : Cx κ w l Z own n0 rm bytes maxL ret nm Q) {cd : ClassFile.Cond} {x : Int32} {o : Int} (hd : decode bytes pc = .ok (.ifCond cd o, 3)) (hc : ifCond.holds cd x = true) (ho : 0 ≤ (pc : Int) + o) (hp : ((pc : Int) + o).toNat = pc') (H : WP κ h k n (mkF κ.m pc' L S)) : WP κ h k n (mkF κ.m pc L (.int x :: S)) := by
  obtain ⟨hx, hby, -⟩ := K
  exact WP.go (fun T locs vm0 X e hZ ho' t k => XS.ifYes X.here hx rfl rfl (hb hby hd) rfl hc ho hp k) H
theorem WP.if0F (K : Cx κ w l Z own n0 rm bytes maxL ret nm Q) {cd : ClassFile.Cond} {x : Int32} {o : Int} (hd : decode bytes pc = .ok (.ifCond cd o, 3)) (hc : ifCond.holds cd x = false) (hp : pc + 3 = pc') (H : WP κ h k n (mkF κ.m pc' L S)) : WP κ h k n (mkF κ.m pc L (.int x :: S)) := by
  obtain ⟨hx, hby, -⟩ := K
  subst hp
  exact WP.go (fun T locs vm0 X e hZ ho' t k => XS.ifNo X.here hx rfl (hb hby hd) rfl hc k) H
theorem WP.icmpT (K : Cx κ w l Z own n0 rm bytes maxL ret nm Q) {cd : ClassFile.Cond} {x y : Int32} {o : Int} (hd : decode bytes pc = .ok (.if_icmp cd o, 3)) (hc : if_icmp.holds cd x y = true) (ho : 0 ≤ (pc : Int) + o) (hp : ((pc : Int) + o).toNat = pc') (H : WP κ h k n (mkF κ.m pc' L S)) : WP κ h k n (mkF κ.m pc L (.int y :: .int x :: S)) := by
  obtain ⟨hx, hby, -⟩ := K
  exact WP.go (fun T locs vm0 X e hZ ho' t k => XS.icmpYes X.here hx rfl rfl (hb hby hd) rfl hc ho hp k) H
theorem WP.icmpF (K : Cx κ w l Z own n0 rm bytes maxL ret nm Q) {cd : ClassFile.Cond} {x y : Int32} {o : Int} (hd : decode bytes pc = .ok (.if_icmp cd o, 3)) (hc : if_icmp.holds cd x y = false) (hp : pc + 3 = pc') (H : WP κ h k n (mkF κ.m pc' L S)) : WP κ h k n (mkF κ.m pc L (.int y :: .int x :: S)) := by
  obtain ⟨hx, hby, -⟩ := K
  subst hp
  exact WP.go (fun T locs vm0 X e hZ ho' t k => XS.icmpNo X.here hx rfl (hb hby hd) rfl hc k) H
theorem WP.acmpT (K : Cx κ w l Z own n0 rm bytes maxL ret nm Q) {cd : ClassFile.ACond} {x y : Value} {o : Int} (hd : decode bytes pc = .ok (.if_acmp cd o, 3)) (h1 : x.isRef = true) (h2 : y.isRef = true) (hc : XT.acmp cd x y = true) (ho : 0 ≤ (pc : Int) + o) (hp : ((pc : Int) + o).toNat = pc') (H : WP κ h k n (mkF κ.m pc' L S)) : WP κ h k n (mkF κ.m pc L (y :: x :: S)) := by
  obtain ⟨hx, hby, -⟩ := K
  exact WP.go (fun T locs vm0 X e hZ ho' t k => XT.acmpYes X.here hx rfl rfl (hb hby hd) rfl h1 h2 hc ho hp k) H
theorem WP.acmpF (K : Cx κ w l Z own n0 rm bytes maxL ret nm Q) {cd : ClassFile.ACond} {x y : Value} {o : Int} (hd : decode bytes pc = .ok (.if_acmp cd o, 3)) (h1 : x.isRef = true) (h2 : y.isRef = true) (hc : XT.acmp cd x y = false) (hp : pc + 3 = pc') (H : WP κ h k n (mkF κ.m pc' L S)) : WP κ h k n (mkF κ.m pc L (y :: x :: S)) := by
  obtain ⟨hx, hby, -⟩ := K
  subst hp
  exact WP.go (fun T locs vm0 X e hZ ho' t k => XT.acmpNo X.here hx rfl (hb hby hd) rfl h1 h2 hc k) H
theorem WP.ifnullT (K : Cx κ w l Z own n0 rm bytes maxL ret nm Q) {o : Int} {b : Addr} (hd : decode bytes pc = .ok (.ifnull o, 3)) (ho : 0 ≤ (pc : Int) + o) (hp : ((pc : Int) + o).toNat = pc') (H : WP κ h k n (mkF κ.m pc' L S)) : WP κ h k n (mkF κ.m pc L (.null :: S)) := by
  obtain ⟨hx, hby, -⟩ := K
  exact WP.go (fun T locs vm0 X e hZ ho' t k => XS.ifnullYes X.here hx rfl rfl (hb hby hd) rfl ho hp k) H
theorem WP.ifnullF (K : Cx κ w l Z own n0 rm bytes maxL ret nm Q) {o : Int} {b : Addr} (hd : decode bytes pc = .ok (.ifnull o, 3)) (hp : pc + 3 = pc') (H : WP κ h k n (mkF κ.m pc' L S)) : WP κ h k n (mkF κ.m pc L (.ref b :: S)) := by
  obtain ⟨hx, hby, -⟩ := K
  subst hp
  exact WP.go (fun T locs vm0 X e hZ ho' t k => XS.ifnullNo X.here hx rfl (hb hby hd) rfl k) H
theorem WP.ifnonnullT (K : Cx κ w l Z own n0 rm bytes maxL ret nm Q) {o : Int} {b : Addr} (hd : decode bytes pc = .ok (.ifnonnull o, 3)) (ho : 0 ≤ (pc : Int) + o) (hp : ((pc : Int) + o).toNat = pc') (H : WP κ h k n (mkF κ.m pc' L S)) : WP κ h k n (mkF κ.m pc L (.ref b :: S)) := by
  obtain ⟨hx, hby, -⟩ := K
  exact WP.go (fun T locs vm0 X e hZ ho' t k => XT.ifnonnullYes X.here hx rfl rfl (hb hby hd) rfl ho hp k) H
theorem WP.ifnonnullF (K : Cx κ w l Z own n0 rm bytes maxL ret nm Q) {o : Int} {b : Addr} (hd : decode bytes pc = .ok (.ifnonnull o, 3)) (hp : pc + 3 = pc') (H : WP κ h k n (mkF κ.m pc' L S)) : WP κ h k n (mkF κ.m pc L (.null :: S)) := by
  obtain ⟨hx, hby, -⟩ := K
  subst hp
  exact WP.go (fun T locs vm0 X e hZ ho' t k => XT.ifnonnullNo X.here hx rfl (hb hby hd) rfl k) H
theorem WP.ldcI (K : Cx κ w l Z own n0 rm bytes maxL ret nm Q) {i : Nat} {v : Int32} (wc : (Cond.constant own i v).before a0 Z = true) (hd : decode bytes pc = .ok (.ldc i, 2)) (hp : pc + 2 = pc') (H : WP κ h k n (mkF κ.m pc' L (.int v :: S))) : WP κ h k n (mkF κ.m pc L S) := by
  obtain ⟨hx, hby, -, -, -, -, -, -, rfl, rfl, -⟩ := K
  subst hp
  exact WP.go (fun T locs vm0 X e hZ ho t k => X.ldcInt hx (own := κ.own) ho (mvT (args := κ.a) (s := κ.s.setVm vm0) hZ wc) (g := mkF κ.m pc L S) rfl (hb hby hd) t k) H
theorem WP.ldcwI (K : Cx κ w l Z own n0 rm bytes maxL ret nm Q) {i : Nat} {v : Int32} (wc : (Cond.constant own i v).before a0 Z = true) (hd : decode bytes pc = .ok (.ldc_w i, 3)) (hp : pc + 3 = pc') (H : WP κ h k n (mkF κ.m pc' L (.int v :: S))) : WP κ h k n (mkF κ.m pc L S) := by
  obtain ⟨hx, hby, -, -, -, -, -, -, rfl, rfl, -⟩ := K
  subst hp
  exact WP.go (fun T locs vm0 X e hZ ho t k => X.ldcwInt hx (own := κ.own) ho (mvT (args := κ.a) (s := κ.s.setVm vm0) hZ wc) (g := mkF κ.m pc L S) rfl (hb hby hd) t k) H
theorem WP.ldc2J (K : Cx κ w l Z own n0 rm bytes maxL ret nm Q) {i : Nat} {v : Int64} (wc : (Cond.constantLong own i v).before a0 Z = true) (hd : decode bytes pc = .ok (.ldc2_w i, 3)) (hp : pc + 3 = pc') (H : WP κ h k n (mkF κ.m pc' L (.long v :: S))) : WP κ h k n (mkF κ.m pc L S) := by
  obtain ⟨hx, hby, -, -, -, -, -, -, rfl, rfl, -⟩ := K
  subst hp
  exact WP.go (fun T locs vm0 X e hZ ho t k => X.ldc2Long hx (own := κ.own) ho (mvT (args := κ.a) (s := κ.s.setVm vm0) hZ wc) (g := mkF κ.m pc L S) rfl (hb hby hd) t k) H
theorem Ends.of {T : State} {locs : List Loc} {vm0 : Vm} {v : Option Value} {g : JFrame} (X : Stand κ.p κ.l κ.e κ.R (κ.s.setVm vm0) κ.m κ.a κ.below κ.meth κ.c T locs k n) (M : Md κ.w κ.s vm0 T.heap.size) (N : Fr κ.n0 locs) (hv : κ.meth.sig.returnType = none → v = none) (hlk : κ.meth.locks = false) (hk : k ≤ κ.R.cells) (hn : n ≤ κ.R.slots) (hq : κ.Q v T.heap)
    (st : ∀ fs, (∀ (f : JFrame) (acts : List Action), f.method = κ.m → f.locked = none → f.entered = [] → (doReturn κ.e (T.setTop f) acts v).1 = T.setFrames fs) → Steps κ.p.tables κ.e κ.below (T.setTop g) (T.setFrames fs)) : Ends κ T g := by
  obtain ⟨k0, hS, hk0⟩ := M.2
  by_cases hw : κ.w = true
  · obtain ⟨fs, h1, h2, h3, h4⟩ := (X.mono hk hn).leaveW hS hk0 hv hlk
    exact ⟨_, _, st fs h1, h2, h3, v, locs, rfl, ⟨hq, N⟩, by rw [hw]; exact h4⟩
  · have hw' : κ.w = false := by simpa using hw
    have e := M.1 hw'
    subst e
    obtain ⟨fs, h1, h2, h3, h4, h5⟩ := (X.mono hk hn).leave hv hlk
    exact ⟨_, _, st fs h1, h2, h3, v, locs, rfl, ⟨hq, N⟩, by rw [hw']; exact ⟨⟨v, rfl⟩, h4, h5⟩⟩
theorem WP.ret0 (K : Cx κ w l Z own n0 rm bytes maxL none nm Q) (hd : decode bytes pc = .ok (.return_, 1)) (hk : k ≤ rm.cells) (hn : n ≤ rm.slots) (hq : Q none h) : WP κ h k n (mkF κ.m pc L ([])) := by
  obtain ⟨hx, hby, -, hr, hlk, -, -, -, rfl, rfl, rfl, rfl, rfl⟩ := K
  intro T locs vm0 X e M hZ ho N
  subst e
  exact Ends.of X M N (fun _ => rfl) hlk hk hn hq fun fs hl => X.returnOut hx hr (hb hby hd) hl
theorem WP.retI (K : Cx κ w l Z own n0 rm bytes maxL (some .int) nm Q) {z : Int32} (hd : decode bytes pc = .ok (.ireturn, 1)) (hk : k ≤ rm.cells) (hn : n ≤ rm.slots) (hq : Q (some (.int z)) h) : WP κ h k n (mkF κ.m pc L (.int z :: S)) := by
  obtain ⟨hx, hby, -, hr, hlk, -, -, -, rfl, rfl, rfl, rfl, rfl⟩ := K
  intro T locs vm0 X e M hZ ho N
  subst e
  exact Ends.of X M N (fun q => by rw [hr] at q; cases q) hlk hk hn hq fun fs hl => retOut X hx hr rfl (Or.inl ⟨rfl, Or.inl rfl, z, rfl⟩) (hb hby hd) hl
theorem WP.retJ (K : Cx κ w l Z own n0 rm bytes maxL (some .long) nm Q) {z : Int64} (hd : decode bytes pc = .ok (.lreturn, 1)) (hk : k ≤ rm.cells) (hn : n ≤ rm.slots) (hq : Q (some (.long z)) h) : WP κ h k n (mkF κ.m pc L (.long z :: S)) := by
  obtain ⟨hx, hby, -, hr, hlk, -, -, -, rfl, rfl, rfl, rfl, rfl⟩ := K
  intro T locs vm0 X e M hZ ho N
  subst e
  exact Ends.of X M N (fun q => by rw [hr] at q; cases q) hlk hk hn hq fun fs hl => retOut X hx hr rfl (Or.inr (Or.inl ⟨rfl, rfl, z, rfl⟩)) (hb hby hd) hl
theorem WP.retD (K : Cx κ w l Z own n0 rm bytes maxL (some .double) nm Q) {z : UInt64} (hd : decode bytes pc = .ok (.dreturn, 1)) (hk : k ≤ rm.cells) (hn : n ≤ rm.slots) (hq : Q (some (.double z)) h) : WP κ h k n (mkF κ.m pc L (.double z :: S)) := by
  obtain ⟨hx, hby, -, hr, hlk, -, -, -, rfl, rfl, rfl, rfl, rfl⟩ := K
  intro T locs vm0 X e M hZ ho N
  subst e
  exact Ends.of X M N (fun q => by rw [hr] at q; cases q) hlk hk hn hq fun fs hl => retOut X hx hr rfl (Or.inr (Or.inr (Or.inl ⟨rfl, rfl, z, rfl⟩))) (hb hby hd) hl
theorem WP.retR {ty : FieldType} (K : Cx κ w l Z own n0 rm bytes maxL (some ty) nm Q) {v : Value} (ht : ty.isReference = true) (hv : v.isRef = true) (hd : decode bytes pc = .ok (.areturn, 1)) (hk : k ≤ rm.cells) (hn : n ≤ rm.slots) (hq : Q (some v) h) : WP κ h k n (mkF κ.m pc L (v :: S)) := by
  obtain ⟨hx, hby, -, hr, hlk, -, -, -, rfl, rfl, rfl, rfl, rfl⟩ := K
  intro T locs vm0 X e M hZ ho N
  subst e
  exact Ends.of X M N (fun q => by rw [hr] at q; cases q) hlk hk hn hq fun fs hl => retOut X hx hr (by cases ty <;> first | rfl | (cases ht) | (rcases ref_cases hv with rfl | ⟨_, rfl⟩ <;> rfl)) (Or.inr (Or.inr (Or.inr (Or.inr ⟨rfl, ht, hv⟩)))) (hb hby hd) hl
theorem WP.retN {ty : FieldType} (K : Cx κ w l Z own n0 rm bytes maxL (some ty) nm Q) {z : Int32} (ht : ty = .boolean ∨ ty = .byte ∨ ty = .char ∨ ty = .short) (hd : decode bytes pc = .ok (.ireturn, 1)) (hk : k ≤ rm.cells) (hn : n ≤ rm.slots) (hq : Q (some (.int (nar ty z))) h) : WP κ h k n (mkF κ.m pc L (.int z :: S)) := by
  obtain ⟨hx, hby, -, hr, hlk, -, -, -, rfl, rfl, rfl, rfl, rfl⟩ := K
  intro T locs vm0 X e M hZ ho N
  subst e
  exact Ends.of X M N (fun q => by rw [hr] at q; cases q) hlk hk hn hq fun fs hl => RoadKit.retN X hx hr ht (hb hby hd) hl
theorem WP.getF (K : Cx κ w l Z own n0 rm bytes maxL ret nm Q) {i : Nat} {R0 O f d : String} {a : Addr} {v : Value} (wl : (Cond.fieldLink own i R0 f d).before a0 Z = true) (via : Via Z R0 O f d) (F : Fld Z h a O f d v) (hd : decode bytes pc = .ok (.getfield i, 3)) (hp : pc + 3 = pc') (H : WP κ h k n (mkF κ.m pc' L (v :: S))) : WP κ h k n (mkF κ.m pc L (.ref a :: S)) := by
  obtain ⟨hx, hby, -, -, -, hnm, -, -, rfl, rfl, rfl, rfl, -⟩ := K
  subst hp
  intro T locs vm0 X e M hZ ho N
  obtain ⟨T', X', e', st⟩ := RoadKit.getF X hx (s := κ.s.setVm vm0) hZ ho (host := "") (Or.inl wl) via e F (g := mkF κ.m pc L (.ref a :: S)) rfl rfl (hb hby hd)
  obtain ⟨t, o, h1, r⟩ := H T' locs vm0 X' e' M hZ ho N
  exact ⟨t, o, st _ h1, r⟩
theorem WP.getS (K : Cx κ w l Z own n0 rm bytes maxL ret nm Q) {i : Nat} {R0 O f d : String} {v : Value} (wl : (Cond.fieldLink own i R0 f d).before a0 Z = true) (via : Via Z R0 O f d) (F : Sta Z h O f d v) (hd : decode bytes pc = .ok (.getstatic i, 3)) (hp : pc + 3 = pc') (H : WP κ h k n (mkF κ.m pc' L (v :: S))) : WP κ h k n (mkF κ.m pc L S) := by
  obtain ⟨hx, hby, -, -, -, hnm, -, -, rfl, rfl, rfl, rfl, -⟩ := K
  subst hp
  intro T locs vm0 X e M hZ ho N
  obtain ⟨T', X', e', st⟩ := RoadKit.getS (host := "") X hx (s := κ.s.setVm vm0) hZ ho wl via e F (g := mkF κ.m pc L S) rfl (hb hby hd)
  obtain ⟨t, o, h1, r⟩ := H T' locs vm0 X' e' M hZ ho N
  exact ⟨t, o, st _ h1, r⟩
theorem WP.putF (K : Cx κ w l Z own n0 rm bytes maxL ret nm Q) {i kk : Nat} {R0 O f d C : String} {ty : FieldType} {a : Addr} {v old : Value} (wl : (Cond.fieldLink own i R0 f d).before a0 Z = true) (via : Via Z R0 O f d) (F : Fld Z h a O f d old) (E : Exa Z h a C) (la : (Cond.lays C O f d).before a0 Z = true ∨ ((Cond.laysFinal C O f d).before a0 Z = true ∧ own = O ∧ nm = "<init>")) (wi : (Cond.instantiable C kk).before a0 Z = true)
    (hty : parseFieldDescriptor d = some ty) (hn1 : narrow ty v = v) (hf : fits ty v = true) (ha : n0 ≤ a) (hd : decode bytes pc = .ok (.putfield i, 3)) (hp : pc + 3 = pc') (H : ∀ h', Wr h h' a (Jvm.RoadKit.slotOf Z O f d) v → WP κ h' k n (mkF κ.m pc' L S)) : WP κ h k n (mkF κ.m pc L (v :: .ref a :: S)) := by
  obtain ⟨hx, hby, -, -, -, hnm, -, -, rfl, rfl, rfl, rfl, -⟩ := K
  subst hp
  intro T locs vm0 X e M hZ ho N
  obtain ⟨T', h', X', e', W, st⟩ := RoadKit.putF X hx (s := κ.s.setVm vm0) hZ ho (host := "") (Or.inl wl) via e F E (la.imp id fun q => ⟨q.1, q.2.1, hnm.trans q.2.2⟩) wi hty hn1 hf (g := mkF κ.m pc L (v :: .ref a :: S)) rfl rfl (hb hby hd)
  obtain ⟨t, o, h1, r⟩ := H h' W T' _ vm0 X' e' (M.mono (Nat.le_of_eq W.size.symm)) hZ ho (Fr.snoc X' N ha)
  exact ⟨t, o, st _ h1, r⟩
theorem WP.putFN (K : Cx κ w l Z own n0 rm bytes maxL ret nm Q) {i kk : Nat} {R0 O f d C : String} {ty : FieldType} {a : Addr} {v v' old : Value} (wl : (Cond.fieldLink own i R0 f d).before a0 Z = true) (via : Via Z R0 O f d) (F : Fld Z h a O f d old) (E : Exa Z h a C) (la : (Cond.lays C O f d).before a0 Z = true ∨ ((Cond.laysFinal C O f d).before a0 Z = true ∧ own = O ∧ nm = "<init>")) (wi : (Cond.instantiable C kk).before a0 Z = true)
    (hty : parseFieldDescriptor d = some ty) (hn1 : narrow ty v = v') (hf : fits ty v' = true) (ha : n0 ≤ a) (hd : decode bytes pc = .ok (.putfield i, 3)) (hp : pc + 3 = pc') (H : ∀ h', Wr h h' a (Jvm.RoadKit.slotOf Z O f d) v' → WP κ h' k n (mkF κ.m pc' L S)) : WP κ h k n (mkF κ.m pc L (v :: .ref a :: S)) := by
  obtain ⟨hx, hby, -, -, -, hnm, -, -, rfl, rfl, rfl, rfl, -⟩ := K
  subst hp
  intro T locs vm0 X e M hZ ho N
  obtain ⟨T', h', X', e', W, st⟩ := RoadKit.putFN X hx (s := κ.s.setVm vm0) hZ ho wl via e F E (la.imp id fun q => ⟨q.1, q.2.1, hnm.trans q.2.2⟩) wi hty hn1 hf (g := mkF κ.m pc L (v :: .ref a :: S)) rfl rfl (hb hby hd)
  obtain ⟨t, o, h1, r⟩ := H h' W T' _ vm0 X' e' (M.mono (Nat.le_of_eq W.size.symm)) hZ ho (Fr.snoc X' N ha)
  exact ⟨t, o, st _ h1, r⟩
theorem WP.new (K : Cx κ w l Z own n0 rm bytes maxL ret nm Q) {i sl : Nat} {C : String} (w1 : (Cond.classLink own i C).before a0 Z = true) (w2 : (Cond.instantiable C sl).before a0 Z = true) (w3 : (Cond.initialized C).before a0 Z = true) (hd : decode bytes pc = .ok (.new i, 3)) (hk : k + 1 = k') (hn : n + sl = n') (hk' : k' ≤ rm.cells) (hn' : n' ≤ rm.slots) (hp : pc + 3 = pc')
    (H : ∀ (h' : Heap) (a : Addr), @Eq Nat h.size a → Ext h h' → Exa Z h' a C → (∀ {O f d : String} {ty : FieldType}, Laid Z a0 C O f d → parseFieldDescriptor d = some ty → Fld Z h' a O f d (defaultValue ty)) → WP κ h' k' n' (mkF κ.m pc' L (.ref a :: S))) : WP κ h k n (mkF κ.m pc L S) := by
  obtain ⟨hx, hby, -, -, -, hnm, -, -, rfl, rfl, rfl, rfl, -⟩ := K
  subst hp hk hn
  intro T locs vm0 X e M hZ ho N
  obtain ⟨T', h', X', e', E, A, D, -, st⟩ := newO X hx (s := κ.s.setVm vm0) hZ ho w1 w2 w3 e (g := mkF κ.m pc L S) rfl (hb hby hd) hk' hn'
  obtain ⟨t, o, h1, r⟩ := H h' _ rfl E A D T' _ vm0 X' e' (M.mono E.1) hZ ho N
  exact ⟨t, o, st _ h1, r⟩
theorem WP.initO (K : Cx κ w l Z own n0 rm bytes maxL ret nm Q) {i W : Nat} {a : Addr} (w1 : (Cond.methodLink own i Lib.objectInit).before a0 Z = true) (w2 : (Cond.instanceMethod Lib.objectInit).before a0 Z = true) (w3 : (Cond.code Lib.objectInit ⟨#[0xb1]⟩ 1 none).before a0 Z = true) (hd : decode bytes pc = .ok (.invokespecial i, 3)) (hL : L.size = maxL) (hf : 1 ≤ rm.frames) (hW : (S.map fun v => v.category).sum = W) (hl : W + 12 ≤ rm.locals) (hp : pc + 3 = pc')
    (H : WP κ h k n (mkF κ.m pc' L S)) : WP κ h k n (mkF κ.m pc L (.ref a :: S)) := by
  obtain ⟨hx, hby, hml, -, -, -, -, -, rfl, rfl, rfl, rfl, -⟩ := K
  subst hp
  intro T locs vm0 X e M hZ ho N
  obtain ⟨T', X', e', st⟩ := RoadKit.initO X hx (s := κ.s.setVm vm0) hZ ho w1 w2 w3 e (g := mkF κ.m pc L (.ref a :: S)) rfl (hL.trans hml.symm) rfl (hb hby hd) hf (W := W) (by show 2 * 0 + _ ≤ _; omega) hl
  obtain ⟨t, o, h1, r⟩ := H T' locs vm0 X' e' M hZ ho N
  exact ⟨t, o, st _ h1, r⟩
/-- an array: its class, its kind of component, its length, its components -/
def Ary (Z : State) (h : Heap) (a : Addr) (kA : ClassId) (ty : FieldType) (N : Nat) (f : Nat → Value) : Prop := ∃ c : Cell, Arr Z h a c ty ∧ c.cls = kA ∧ c.slots.size = N ∧ N < 2 ^ 31 ∧ (∀ i, i < N → c.slots[i]? = some (f i)) ∧ ∀ i, i < N → fits ty (f i) = true
def upd (f : Nat → Value) (i : Nat) (v : Value) : Nat → Value := fun j => if j = i then v else f j
theorem upd_same (f : Nat → Value) (i : Nat) (v : Value) : upd f i v i = v := if_pos rfl
theorem upd_ne (f : Nat → Value) {i j : Nat} (v : Value) (q : j ≠ i) : upd f i v j = f j := if_neg q
def fset {α : Type} (f : Nat → α) (i : Nat) (v : α) : Nat → α := fun j => if j = i then v else f j
theorem fset_same {α : Type} (f : Nat → α) (i : Nat) (v : α) : fset f i v i = v := if_pos rfl
theorem fset_ne {α : Type} (f : Nat → α) {i j : Nat} (v : α) (q : j ≠ i) : fset f i v j = f j := if_neg q
theorem upd_int (F : Nat → Int32) (i : Nat) (v : Int32) : upd (fun j => .int (F j)) i (.int v) = fun j => .int (fset F i v j) := by funext j; unfold upd fset; split <;> rfl
theorem upd_long (F : Nat → Int64) (i : Nat) (v : Int64) : upd (fun j => .long (F j)) i (.long v) = fun j => .long (fset F i v j) := by funext j; unfold upd fset; split <;> rfl
theorem upd_double (F : Nat → UInt64) (i : Nat) (v : UInt64) : upd (fun j => .double (F j)) i (.double v) = fun j => .double (fset F i v j) := by funext j; unfold upd fset; split <;> rfl
section Arrays
variable {a b : Addr} {kA : ClassId} {ty : FieldType} {N : Nat} {f f' : Nat → Value} {sl : Nat} {v : Value} {ws : List Addr}
theorem Ary.lt (A : Ary Z h a kA ty N f) : a < h.size := by obtain ⟨c, q, -⟩ := A; exact q.lt
theorem Ary.len (A : Ary Z h a kA ty N f) : N < 2 ^ 31 := by obtain ⟨c, -, -, -, q, -⟩ := A; exact q
theorem Ary.ext (E : Ext h h') (A : Ary Z h a kA ty N f) : Ary Z h' a kA ty N f := by obtain ⟨c, q, r⟩ := A; exact ⟨c, q.ext E, r⟩
theorem Ary.other (W : Wr h h' b sl v) (A : Ary Z h a kA ty N f) (q : a ≠ b) : Ary Z h' a kA ty N f := by obtain ⟨c, A, r⟩ := A; exact ⟨c, A.other W q, r⟩
theorem Ary.keep (K : Keep h h' ws) (A : Ary Z h a kA ty N f) (q : a ∉ ws) : Ary Z h' a kA ty N f := by obtain ⟨c, A, r⟩ := A; exact ⟨c, ⟨K.2.1 a c A.1 q, A.2⟩, r⟩
theorem Ary.congr (A : Ary Z h a kA ty N f) (q : ∀ i, i < N → f i = f' i) : Ary Z h a kA ty N f' := by obtain ⟨c, A, r1, r2, r3, r4, r5⟩ := A; exact ⟨c, A, r1, r2, r3, fun i hi => by rw [← q i hi]; exact r4 i hi, fun i hi => by rw [← q i hi]; exact r5 i hi⟩
theorem Ary.fits (A : Ary Z h a kA ty N f) {i : Nat} (hi : i < N) : Jvm.fits ty (f i) = true := by obtain ⟨c, -, -, -, -, -, q⟩ := A; exact q i hi
theorem Ary.set (W : Wr h h' a sl v) (A : Ary Z h a kA ty N f) (hv : Jvm.fits ty v = true) : Ary Z h' a kA ty N (upd f sl v) := by
  obtain ⟨c, A, r1, r2, r3, r4, r5⟩ := A
  refine ⟨_, A.same W, r1, by rw [sz_set]; exact r2, r3, fun i hi => ?_, fun i hi => ?_⟩
  · by_cases q : i = sl
    · subst q; rw [upd_same]; simp [Cell.setSlot, r2, hi]
    · rw [upd_ne f v q]; simp only [Cell.setSlot]; rw [Array.getElem?_setIfInBounds_ne (Ne.symm q)]; exact r4 i hi
  · by_cases q : i = sl
    · subst q; rw [upd_same]; exact hv
    · rw [upd_ne f v q]; exact r5 i hi
theorem Ary.ints (A : Ary Z h a kA ty N f) (ht : ty = .int ∨ ty = .boolean ∨ ty = .byte ∨ ty = .char ∨ ty = .short) : ∃ F : Nat → Int32, Ary Z h a kA ty N (fun i => .int (F i)) := by
  refine ⟨fun i => match f i with | .int x => x | _ => 0, A.congr fun i hi => ?_⟩
  obtain ⟨x, e⟩ := fit_I (A.fits hi) ht
  simp only [e]
theorem Ary.doubles (A : Ary Z h a kA .double N f) : ∃ F : Nat → UInt64, Ary Z h a kA .double N (fun i => .double (F i)) := by
  refine ⟨fun i => match f i with | .double x => x | _ => 0, A.congr fun i hi => ?_⟩
  obtain ⟨x, e⟩ := fit_D (A.fits hi)
  simp only [e]
theorem Ary.longs (A : Ary Z h a kA .long N f) : ∃ F : Nat → Int64, Ary Z h a kA .long N (fun i => .long (F i)) := by
  refine ⟨fun i => match f i with | .long x => x | _ => 0, A.congr fun i hi => ?_⟩
  obtain ⟨x, e⟩ := fit_J (A.fits hi)
  simp only [e]
theorem static_ary {s : State} {args : Array Value} {C nm d : String} {z : Int32} (hf : Fit s) (wl : (Cond.laysStatic C nm d).before args s = true) (wi : (Cond.initialized C).before args s = true) (hd : parseFieldDescriptor d = some (.array ty))
    (hA : (Cond.arrayOf (Term.static C nm d) ty).value args s none s [] = some true) (hL : (Cond.eq (Term.length (Term.static C nm d)) (Term.int z)).value args s none s [] = some true) (hz : z.toInt = (N : Int)) :
    ∃ (a : Addr) (kA : ClassId) (f : Nat → Value), Sta s s.heap C nm d (.ref a) ∧ Ary s s.heap a kA ty N f ∧ ∀ (i : Nat) (j v : Int32), j.toInt = (i : Int) → i < N → (Cond.eq (Term.elem (Term.static C nm d) (Term.int j)) (Term.int v)).value args s none s [] = some true → f i = .int v := by
  obtain ⟨v, ev, hv⟩ := static_fit hf wl hd
  have hr := fit_R hv rfl
  rcases ref_cases hr with rfl | ⟨a, rfl⟩
  · exfalso; simp [Cond.value, ev] at hA
  obtain ⟨c, A⟩ := Arr.start ev hA
  have hc := A.fin (Vm.Alike.refl _)
  have hs : c.slots.size < 2 ^ 31 ∧ c.slots.size.toInt32 = z := by
    obtain ⟨x, y, ex, ey⟩ := cmp_v (Or.inl hL)
    obtain ⟨a', c', ea, hc', rfl, q⟩ := Jvm.Free.SB.Term.length_small ex
    cases ev.symm.trans ea
    cases hc.symm.trans hc'
    exact ⟨q, by simpa [Cond.value, ex, Term.int_eval] using hL⟩
  have hN : c.slots.size = N := by have e := len_toInt hs.1; rw [hs.2, hz] at e; omega
  refine ⟨a, c.cls, fun i => c.slots.getD i .null, Sta.start ev (Or.inr ⟨wi, wl⟩), ⟨c, A, rfl, hN, by omega, fun i hi => ?_, fun i hi => ?_⟩, fun i j v hj hi he => ?_⟩
  · simp [Array.getD, hN, hi]
  · have q := hf A.1 (i := i) (by omega)
    obtain ⟨hst, k, hk, comp, hkind⟩ := A.2.1
    have e : s.slotType? c.cls c.vm i = some ty := by
      cases hq : c.vm <;> first | exact absurd hq (hst _) | simp [State.slotType?, hk, hkind]
    have hi' : i < c.slots.size := by omega
    simpa [State.fitsSlot, e, Array.getD, hi'] using q
  · have hi' : i < c.slots.size := by omega
    have hn : j.toNatClampNeg = i := by simp only [Int32.toNatClampNeg, hj]; omega
    obtain ⟨x, y, ex, ey⟩ := cmp_v (Or.inl he)
    obtain ⟨a', j', c', ea, ej, hc', -, hx⟩ := Term.elem_spec ex
    cases ev.symm.trans ea
    cases hc.symm.trans hc'
    cases (Term.int_eval j).symm.trans ej
    rw [hn] at hx
    have q : x = .int v := by
      have r := hf A.1 (i := i) hi'
      simp only [Cond.value, ex, Term.int_eval] at he
      cases x <;> simp at he
      rw [he]
    simp only [Array.getD, hi', dif_pos]
    rw [Array.getElem?_eq_getElem hi'] at hx
    exact (Option.some.inj hx).trans q
theorem Ary.of_new {cA : ClassId} {z : Int32} (A : Arr Z h a (newA cA ty z) ty) (hz : z.toInt = (N : Int)) : Ary Z h a cA ty N (fun _ => defaultValue ty) := by
  have e : z.toNatClampNeg = N := by simp only [Int32.toNatClampNeg]; omega
  have q := z.toInt_lt
  refine ⟨_, A, rfl, by rw [sz_new, e], by omega, fun i hi => ?_, fun i _ => by cases ty <;> rfl⟩
  simp [newA, e, hi]
theorem Ary.ne {a0 : Array Value} {C : String} {m : Nat} (E : Exa Z h b C) (A : Ary Z h a kA ty N f) (w : (Cond.instantiable C m).before a0 Z = true) : b ≠ a := by obtain ⟨c, q, -⟩ := A; exact ne_arr E w q
theorem in_of {c : Cell} {j : Int32} {i N : Nat} (S : c.slots.size = N) (hj : j.toInt = (i : Int)) (hi : i < N) : ¬ (j < 0 ∨ c.slots.size ≤ j.toNatClampNeg) := by
  rw [S, Int32.lt_iff_toInt_lt]; simp only [Int32.toNatClampNeg, hj]; have : (0 : Int32).toInt = 0 := rfl; omega
theorem nat_of {j : Int32} {i : Nat} (hj : j.toInt = (i : Int)) : j.toNatClampNeg = i := by simp only [Int32.toNatClampNeg, hj]; omega
end Arrays
theorem WP.iaload (K : Cx κ w l Z own n0 rm bytes maxL ret nm Q) {a : Addr} {kA : ClassId} {N i : Nat} {f : Nat → Value} {j : Int32} {v : Value} (A : Ary Z h a kA .int N f) (hj : j.toInt = (i : Int)) (hi : i < N) (hv : f i = v) (hd : decode bytes pc = .ok (.iaload, 1)) (hp : pc + 1 = pc') (H : WP κ h k n (mkF κ.m pc' L (v :: S))) : WP κ h k n (mkF κ.m pc L (.int j :: .ref a :: S)) := by
  obtain ⟨hx, hby, -, -, -, -, -, -, rfl, rfl, -⟩ := K
  subst hp hv
  obtain ⟨c, A, -, r2, -, r4, -⟩ := A
  refine WP.go (fun T locs vm0 X e hZ ho t k => ?_) H
  exact X.iaload hx (by rw [e]; exact A.1) (State.isArrayOf_alike (T := κ.s.setVm vm0) hZ.alike A.2.1) A.2.2 (in_of r2 hj hi) (by rw [nat_of hj]; exact r4 i hi) (g := mkF κ.m pc L (.int j :: .ref a :: S)) rfl rfl (hb hby hd) t k
theorem WP.laload (K : Cx κ w l Z own n0 rm bytes maxL ret nm Q) {a : Addr} {kA : ClassId} {N i : Nat} {f : Nat → Value} {j : Int32} {v : Value} (A : Ary Z h a kA .long N f) (hj : j.toInt = (i : Int)) (hi : i < N) (hv : f i = v) (hd : decode bytes pc = .ok (.laload, 1)) (hp : pc + 1 = pc') (H : WP κ h k n (mkF κ.m pc' L (v :: S))) : WP κ h k n (mkF κ.m pc L (.int j :: .ref a :: S)) := by
  obtain ⟨hx, hby, -, -, -, -, -, -, rfl, rfl, -⟩ := K
  subst hp hv
  obtain ⟨c, A, -, r2, -, r4, -⟩ := A
  refine WP.go (fun T locs vm0 X e hZ ho t k => ?_) H
  exact X.laload hx (by rw [e]; exact A.1) (State.isArrayOf_alike (T := κ.s.setVm vm0) hZ.alike A.2.1) A.2.2 (in_of r2 hj hi) (by rw [nat_of hj]; exact r4 i hi) (g := mkF κ.m pc L (.int j :: .ref a :: S)) rfl rfl (hb hby hd) t k
theorem WP.caload (K : Cx κ w l Z own n0 rm bytes maxL ret nm Q) {a : Addr} {kA : ClassId} {N i : Nat} {f : Nat → Value} {j : Int32} {v : Value} (A : Ary Z h a kA .char N f) (hj : j.toInt = (i : Int)) (hi : i < N) (hv : f i = v) (hd : decode bytes pc = .ok (.caload, 1)) (hp : pc + 1 = pc') (H : WP κ h k n (mkF κ.m pc' L (v :: S))) : WP κ h k n (mkF κ.m pc L (.int j :: .ref a :: S)) := by
  obtain ⟨hx, hby, -, -, -, -, -, -, rfl, rfl, -⟩ := K
  subst hp hv
  obtain ⟨c, A, -, r2, -, r4, -⟩ := A
  refine WP.go (fun T locs vm0 X e hZ ho t k => ?_) H
  exact X.caload hx (by rw [e]; exact A.1) (State.isArrayOf_alike (T := κ.s.setVm vm0) hZ.alike A.2.1) A.2.2 (in_of r2 hj hi) (by rw [nat_of hj]; exact r4 i hi) (g := mkF κ.m pc L (.int j :: .ref a :: S)) rfl rfl (hb hby hd) t k
theorem WP.baload (K : Cx κ w l Z own n0 rm bytes maxL ret nm Q) {a : Addr} {kA : ClassId} {N i : Nat} {f : Nat → Value} {j : Int32} {v : Value} (A : Ary Z h a kA .byte N f) (hj : j.toInt = (i : Int)) (hi : i < N) (hv : f i = v) (hd : decode bytes pc = .ok (.baload, 1)) (hp : pc + 1 = pc') (H : WP κ h k n (mkF κ.m pc' L (v :: S))) : WP κ h k n (mkF κ.m pc L (.int j :: .ref a :: S)) := by
  obtain ⟨hx, hby, -, -, -, -, -, -, rfl, rfl, -⟩ := K
  subst hp hv
  obtain ⟨c, A, -, r2, -, r4, -⟩ := A
  refine WP.go (fun T locs vm0 X e hZ ho t k => ?_) H
  exact X.baloadBytes hx (by rw [e]; exact A.1) (State.isArrayOf_alike (T := κ.s.setVm vm0) hZ.alike A.2.1) A.2.2 (in_of r2 hj hi) (by rw [nat_of hj]; exact r4 i hi) (g := mkF κ.m pc L (.int j :: .ref a :: S)) rfl rfl (hb hby hd) t k
theorem WP.baloadZ (K : Cx κ w l Z own n0 rm bytes maxL ret nm Q) {a : Addr} {kA : ClassId} {N i : Nat} {f : Nat → Value} {j : Int32} {v : Value} (A : Ary Z h a kA .boolean N f) (hj : j.toInt = (i : Int)) (hi : i < N) (hv : f i = v) (hd : decode bytes pc = .ok (.baload, 1)) (hp : pc + 1 = pc') (H : WP κ h k n (mkF κ.m pc' L (v :: S))) : WP κ h k n (mkF κ.m pc L (.int j :: .ref a :: S)) := by
  obtain ⟨hx, hby, -, -, -, -, -, -, rfl, rfl, -⟩ := K
  subst hp hv
  obtain ⟨c, A, -, r2, -, r4, -⟩ := A
  refine WP.go (fun T locs vm0 X e hZ ho t k => ?_) H
  exact X.baloadBooleans hx (by rw [e]; exact A.1) (State.isArrayOf_alike (T := κ.s.setVm vm0) hZ.alike A.2.1) A.2.2 (in_of r2 hj hi) (by rw [nat_of hj]; exact r4 i hi) (g := mkF κ.m pc L (.int j :: .ref a :: S)) rfl rfl (hb hby hd) t k
theorem WP.daload (K : Cx κ w l Z own n0 rm bytes maxL ret nm Q) {a : Addr} {kA : ClassId} {N i : Nat} {f : Nat → Value} {j : Int32} {v : Value} (A : Ary Z h a kA .double N f) (hj : j.toInt = (i : Int)) (hi : i < N) (hv : f i = v) (hd : decode bytes pc = .ok (.daload, 1)) (hp : pc + 1 = pc') (H : WP κ h k n (mkF κ.m pc' L (v :: S))) : WP κ h k n (mkF κ.m pc L (.int j :: .ref a :: S)) := by
  obtain ⟨hx, hby, -, -, -, -, -, -, rfl, rfl, -⟩ := K
  subst hp hv
  obtain ⟨c, A, -, r2, -, r4, -⟩ := A
  refine WP.go (fun T locs vm0 X e hZ ho t k => ?_) H
  exact X.daload hx (by rw [e]; exact A.1) (State.isArrayOf_alike (T := κ.s.setVm vm0) hZ.alike A.2.1) A.2.2 (in_of r2 hj hi) (by rw [nat_of hj]; exact r4 i hi) (g := mkF κ.m pc L (.int j :: .ref a :: S)) rfl rfl (hb hby hd) t k
theorem WP.aaload (K : Cx κ w l Z own n0 rm bytes maxL ret nm Q) {a : Addr} {kA : ClassId} {N i : Nat} {f : Nat → Value} {j : Int32} {v : Value} {ty : FieldType} (ht : ty.isReference = true) (A : Ary Z h a kA ty N f) (hj : j.toInt = (i : Int)) (hi : i < N) (hv : f i = v) (hd : decode bytes pc = .ok (.aaload, 1)) (hp : pc + 1 = pc') (H : WP κ h k n (mkF κ.m pc' L (v :: S))) : WP κ h k n (mkF κ.m pc L (.int j :: .ref a :: S)) := by
  obtain ⟨hx, hby, -, -, -, -, -, -, rfl, rfl, -⟩ := K
  subst hp hv
  obtain ⟨c, A, -, r2, -, r4, -⟩ := A
  refine WP.go (fun T locs vm0 X e hZ ho t k => ?_) H
  exact X.aaload hx (by rw [e]; exact A.1) (State.isArrayOf_alike (T := κ.s.setVm vm0) hZ.alike A.2.1) ht A.2.2 (in_of r2 hj hi) (by rw [nat_of hj]; exact r4 i hi) (g := mkF κ.m pc L (.int j :: .ref a :: S)) rfl rfl (hb hby hd) t k
theorem WP.arraylength (K : Cx κ w l Z own n0 rm bytes maxL ret nm Q) {a : Addr} {kA : ClassId} {ty : FieldType} {N : Nat} {f : Nat → Value} (A : Ary Z h a kA ty N f) (hd : decode bytes pc = .ok (.arraylength, 1)) (hp : pc + 1 = pc') (H : WP κ h k n (mkF κ.m pc' L (.int (Int32.ofNat N) :: S))) : WP κ h k n (mkF κ.m pc L (.ref a :: S)) := by
  obtain ⟨hx, hby, -, -, -, -, -, -, rfl, rfl, -⟩ := K
  subst hp
  obtain ⟨c, A, -, r2, -⟩ := A
  refine WP.go (fun T locs vm0 X e hZ ho t k => ?_) H
  exact X.arraylength hx (by rw [e]; exact A.1) (State.isArrayOf_alike (T := κ.s.setVm vm0) hZ.alike A.2.1) (g := mkF κ.m pc L (.ref a :: S)) rfl rfl (hb hby hd) t (by rw [r2]; exact k)
theorem WP.iastore (K : Cx κ w l Z own n0 rm bytes maxL ret nm Q) {a : Addr} {kA : ClassId} {N i : Nat} {f : Nat → Value} {j : Int32} {x : Int32} (A : Ary Z h a kA .int N f) (hj : j.toInt = (i : Int)) (hi : i < N) (ha : n0 ≤ a) (hd : decode bytes pc = .ok (.iastore, 1)) (hp : pc + 1 = pc')
    (H : ∀ h', Wr h h' a i (.int x) → Ary Z h' a kA .int N (upd f i (.int x)) → WP κ h' k n (mkF κ.m pc' L S)) : WP κ h k n (mkF κ.m pc L (.int x :: .int j :: .ref a :: S)) := by
  obtain ⟨hx, hby, -, -, -, hnm, -, -, rfl, rfl, rfl, rfl, -⟩ := K
  subst hp
  have A0 := A
  obtain ⟨c, A, -, r2, -⟩ := A
  intro T locs vm0 X e M hZ ho N
  obtain ⟨T', h', X', e', W, st⟩ := RoadKit.stI X hx (s := κ.s.setVm vm0) hZ e A (in_of r2 hj hi) (g := mkF κ.m pc L (.int x :: .int j :: .ref a :: S)) rfl rfl (hb hby hd)
  rw [nat_of hj] at W
  obtain ⟨t, o, h1, r⟩ := H h' W (A0.set W rfl) T' _ vm0 X' e' (M.mono (Nat.le_of_eq W.size.symm)) hZ ho (Fr.snoc X' N ha)
  exact ⟨t, o, st _ h1, r⟩
theorem WP.lastore (K : Cx κ w l Z own n0 rm bytes maxL ret nm Q) {a : Addr} {kA : ClassId} {N i : Nat} {f : Nat → Value} {j : Int32} {x : Int64} (A : Ary Z h a kA .long N f) (hj : j.toInt = (i : Int)) (hi : i < N) (ha : n0 ≤ a) (hd : decode bytes pc = .ok (.lastore, 1)) (hp : pc + 1 = pc')
    (H : ∀ h', Wr h h' a i (.long x) → Ary Z h' a kA .long N (upd f i (.long x)) → WP κ h' k n (mkF κ.m pc' L S)) : WP κ h k n (mkF κ.m pc L (.long x :: .int j :: .ref a :: S)) := by
  obtain ⟨hx, hby, -, -, -, hnm, -, -, rfl, rfl, rfl, rfl, -⟩ := K
  subst hp
  have A0 := A
  obtain ⟨c, A, -, r2, -⟩ := A
  intro T locs vm0 X e M hZ ho N
  obtain ⟨T', h', X', e', W, st⟩ := RoadKit.stJ X hx (s := κ.s.setVm vm0) hZ e A (in_of r2 hj hi) (g := mkF κ.m pc L (.long x :: .int j :: .ref a :: S)) rfl rfl (hb hby hd)
  rw [nat_of hj] at W
  obtain ⟨t, o, h1, r⟩ := H h' W (A0.set W rfl) T' _ vm0 X' e' (M.mono (Nat.le_of_eq W.size.symm)) hZ ho (Fr.snoc X' N ha)
  exact ⟨t, o, st _ h1, r⟩
theorem WP.castore (K : Cx κ w l Z own n0 rm bytes maxL ret nm Q) {a : Addr} {kA : ClassId} {N i : Nat} {f : Nat → Value} {j : Int32} {x : Int32} (A : Ary Z h a kA .char N f) (hj : j.toInt = (i : Int)) (hi : i < N) (ha : n0 ≤ a) (hd : decode bytes pc = .ok (.castore, 1)) (hp : pc + 1 = pc')
    (H : ∀ h', Wr h h' a i (.int (nar .char x)) → Ary Z h' a kA .char N (upd f i (.int (nar .char x))) → WP κ h' k n (mkF κ.m pc' L S)) : WP κ h k n (mkF κ.m pc L (.int x :: .int j :: .ref a :: S)) := by
  obtain ⟨hx, hby, -, -, -, hnm, -, -, rfl, rfl, rfl, rfl, -⟩ := K
  subst hp
  have A0 := A
  obtain ⟨c, A, -, r2, -⟩ := A
  intro T locs vm0 X e M hZ ho N
  obtain ⟨T', h', X', e', W, st⟩ := RoadKit.stC X hx (s := κ.s.setVm vm0) hZ e A (in_of r2 hj hi) (g := mkF κ.m pc L (.int x :: .int j :: .ref a :: S)) rfl rfl (hb hby hd)
  rw [nat_of hj] at W
  obtain ⟨t, o, h1, r⟩ := H h' W (A0.set W (fits_nar_char x)) T' _ vm0 X' e' (M.mono (Nat.le_of_eq W.size.symm)) hZ ho (Fr.snoc X' N ha)
  exact ⟨t, o, st _ h1, r⟩
theorem WP.bastore (K : Cx κ w l Z own n0 rm bytes maxL ret nm Q) {a : Addr} {kA : ClassId} {N i : Nat} {f : Nat → Value} {j : Int32} {x : Int32} (A : Ary Z h a kA .byte N f) (hj : j.toInt = (i : Int)) (hi : i < N) (ha : n0 ≤ a) (hd : decode bytes pc = .ok (.bastore, 1)) (hp : pc + 1 = pc')
    (H : ∀ h', Wr h h' a i (.int (nar .byte x)) → Ary Z h' a kA .byte N (upd f i (.int (nar .byte x))) → WP κ h' k n (mkF κ.m pc' L S)) : WP κ h k n (mkF κ.m pc L (.int x :: .int j :: .ref a :: S)) := by
  obtain ⟨hx, hby, -, -, -, hnm, -, -, rfl, rfl, rfl, rfl, -⟩ := K
  subst hp
  have A0 := A
  obtain ⟨c, A, -, r2, -⟩ := A
  intro T locs vm0 X e M hZ ho N
  obtain ⟨T', h', X', e', W, st⟩ := RoadKit.stB X hx (s := κ.s.setVm vm0) hZ e A (in_of r2 hj hi) (g := mkF κ.m pc L (.int x :: .int j :: .ref a :: S)) rfl rfl (hb hby hd)
  rw [nat_of hj] at W
  obtain ⟨t, o, h1, r⟩ := H h' W (A0.set W (fits_nar_byte x)) T' _ vm0 X' e' (M.mono (Nat.le_of_eq W.size.symm)) hZ ho (Fr.snoc X' N ha)
  exact ⟨t, o, st _ h1, r⟩
theorem WP.bastoreZ (K : Cx κ w l Z own n0 rm bytes maxL ret nm Q) {a : Addr} {kA : ClassId} {N i : Nat} {f : Nat → Value} {j : Int32} {x : Int32} (A : Ary Z h a kA .boolean N f) (hj : j.toInt = (i : Int)) (hi : i < N) (ha : n0 ≤ a) (hd : decode bytes pc = .ok (.bastore, 1)) (hp : pc + 1 = pc')
    (H : ∀ h', Wr h h' a i (.int (nar .boolean x)) → Ary Z h' a kA .boolean N (upd f i (.int (nar .boolean x))) → WP κ h' k n (mkF κ.m pc' L S)) : WP κ h k n (mkF κ.m pc L (.int x :: .int j :: .ref a :: S)) := by
  obtain ⟨hx, hby, -, -, -, hnm, -, -, rfl, rfl, rfl, rfl, -⟩ := K
  subst hp
  have A0 := A
  obtain ⟨c, A, -, r2, -⟩ := A
  intro T locs vm0 X e M hZ ho N
  obtain ⟨T', h', X', e', W, st⟩ := RoadKit.stZ X hx (s := κ.s.setVm vm0) hZ e A (in_of r2 hj hi) (g := mkF κ.m pc L (.int x :: .int j :: .ref a :: S)) rfl rfl (hb hby hd)
  rw [nat_of hj] at W
  obtain ⟨t, o, h1, r⟩ := H h' W (A0.set W (fits_nar_bool x)) T' _ vm0 X' e' (M.mono (Nat.le_of_eq W.size.symm)) hZ ho (Fr.snoc X' N ha)
  exact ⟨t, o, st _ h1, r⟩
theorem WP.dastore (K : Cx κ w l Z own n0 rm bytes maxL ret nm Q) {a : Addr} {kA : ClassId} {N i : Nat} {f : Nat → Value} {j : Int32} {x : UInt64} (A : Ary Z h a kA .double N f) (hj : j.toInt = (i : Int)) (hi : i < N) (ha : n0 ≤ a) (hd : decode bytes pc = .ok (.dastore, 1)) (hp : pc + 1 = pc')
    (H : ∀ h', Wr h h' a i (.double x) → Ary Z h' a kA .double N (upd f i (.double x)) → WP κ h' k n (mkF κ.m pc' L S)) : WP κ h k n (mkF κ.m pc L (.double x :: .int j :: .ref a :: S)) := by
  obtain ⟨hx, hby, -, -, -, hnm, -, -, rfl, rfl, rfl, rfl, -⟩ := K
  subst hp
  have A0 := A
  obtain ⟨c, A, -, r2, -⟩ := A
  intro T locs vm0 X e M hZ ho N
  obtain ⟨T', h', X', e', W, st⟩ := RoadKit.stD X hx (s := κ.s.setVm vm0) hZ e A (in_of r2 hj hi) (g := mkF κ.m pc L (.double x :: .int j :: .ref a :: S)) rfl rfl (hb hby hd)
  rw [nat_of hj] at W
  obtain ⟨t, o, h1, r⟩ := H h' W (A0.set W rfl) T' _ vm0 X' e' (M.mono (Nat.le_of_eq W.size.symm)) hZ ho (Fr.snoc X' N ha)
  exact ⟨t, o, st _ h1, r⟩
theorem WP.newarray (K : Cx κ w l Z own n0 rm bytes maxL ret nm Q) {aty : ArrayType} {z : Int32} {N cap : Nat} (w1 : (Cond.arrayClass (newarray.typeOf aty)).before a0 Z = true) (hd : decode bytes pc = .ok (.newarray aty, 2)) (hz : z.toInt = (N : Int)) (hcap : N ≤ cap) (hbig : cap * 8 ≤ 536870912) (hk : k + 1 = k') (hn : n + cap = n') (hk' : k' ≤ rm.cells) (hn' : n' ≤ rm.slots) (hp : pc + 2 = pc')
    (H : ∀ (h' : Heap) (a : Addr) (kA : ClassId), @Eq Nat h.size a → Ext h h' → Ary Z h' a kA (newarray.typeOf aty) N (fun _ => defaultValue (newarray.typeOf aty)) → WP κ h' k' n' (mkF κ.m pc' L (.ref a :: S))) : WP κ h k n (mkF κ.m pc L (.int z :: S)) := by
  obtain ⟨hx, hby, -, -, -, hnm, -, -, rfl, rfl, rfl, rfl, -⟩ := K
  subst hp hk hn
  intro T locs vm0 X e M hZ ho N
  obtain ⟨T', h', cA, X', e', E, A, st⟩ := newP X hx (s := κ.s.setVm vm0) hZ w1 e (g := mkF κ.m pc L (.int z :: S)) rfl (hb hby hd) rfl (by rw [Int32.lt_iff_toInt_lt, hz]; show ¬ _ < (0 : Int); omega) (cap := cap) (by rw [nat_of hz]; exact hcap) hbig hk' hn'
  obtain ⟨t, o, h1, r⟩ := H h' _ cA rfl E (Ary.of_new A hz) T' _ vm0 X' e' (M.mono E.1) hZ ho N
  exact ⟨t, o, st _ h1, r⟩
/-- what a call's law hands back, in both modes -/
theorem Met.back {y : MethodName} {by' : ByteArray} {mL' : Nat} {rt' : Option FieldType} {rm' : Room} {as' : Array Value} {Q' : Option Value → Heap → Prop} {len W : Nat} {R : Room} {p : Program} {e : Env} {below : List Frame} {s : State} {args : Array Value}
    (hM : Met false l Z y by' mL' rt' [] rm' as' h n0 Q') (hZ : Z.Warmed39 s.vm) (wc : (Cond.code y by' mL' rt').before a0 Z = true) (wz : (Cond.initialized y.cls).before a0 Z = true) (hf : rm'.frames + 1 ≤ R.frames) (hl : W + (mL' + 11) + rm'.locals ≤ R.locals) :
    Back l R p e below s args y len W (fun A a => a = as' ∧ A.U.heap = h ∧ A.cells + rm'.cells ≤ R.cells ∧ A.slots + rm'.slots ≤ R.slots) (fun A _ v B => ∃ L, (Q' v B.U.heap ∧ Fr n0 L) ∧ B.locs = A.locs ++ L ∧ B.cells = A.cells + rm'.cells ∧ B.slots = A.slots + rm'.slots) :=
  backOf (Q := fun v h L => Q' v h ∧ Fr n0 L) hM hZ wc wz hf hl
theorem Met.backW {y : MethodName} {by' : ByteArray} {mL' : Nat} {rt' : Option FieldType} {rm' : Room} {as' : Array Value} {Q' : Option Value → Heap → Prop} {len W : Nat} {R : Room} {p : Program} {e : Env} {below : List Frame} {s : State} {args : Array Value}
    (hM : Met true l Z y by' mL' rt' [] rm' as' h n0 Q') (hZ : Z.Warmed39 s.vm) (wc : (Cond.code y by' mL' rt').before a0 Z = true) (wz : (Cond.initialized y.cls).before a0 Z = true) (hf : rm'.frames + 1 ≤ R.frames) (hl : W + (mL' + 11) + rm'.locals ≤ R.locals) :
    BackS l R p e below s args y len W (fun A a => a = as' ∧ A.U.heap = h ∧ A.cells + rm'.cells ≤ R.cells ∧ A.slots + rm'.slots ≤ R.slots) (fun A _ v B => ∃ L, (Q' v B.U.heap ∧ Fr n0 L) ∧ B.locs = A.locs ++ L ∧ B.cells = A.cells + rm'.cells ∧ B.slots = A.slots + rm'.slots) :=
  backOfS (Q := fun v h L => Q' v h ∧ Fr n0 L) hM hZ wc wz hf hl
theorem Ends.call {T : State} {locs : List Loc} {vm0 : Vm} {g g' : JFrame} {rm' : Room} {Q' : Option Value → Heap → Prop} {T1 B : Pt} {v : Option Value} (M : Md κ.w κ.s vm0 h.size) (N : Fr κ.n0 locs) (hc : T1 = ⟨T1.1, locs, k, n⟩)
    (hpost : ∃ L, (Q' v B.U.heap ∧ Fr κ.n0 L) ∧ B.locs = T1.locs ++ L ∧ B.cells = T1.cells + rm'.cells ∧ B.slots = T1.slots + rm'.slots) (hk : k + rm'.cells = k') (hn : n + rm'.slots = n') {vm1 : Vm}
    (X' : Stand κ.p κ.l κ.e κ.R (κ.s.setVm vm1) κ.m κ.a κ.below κ.meth κ.c B.U B.locs B.cells B.slots) (M' : Md κ.w κ.s vm1 B.U.heap.size) (hZ : κ.Z.Warmed39 vm1) (ho : vm1.findClass κ.own = some κ.m.cls) (st : Steps κ.p.tables κ.e κ.below (T.setTop g) (B.U.setTop g'))
    (H : ∀ h', Q' v h' → WP κ h' k' n' g') : Ends κ T g := by
  obtain ⟨Lc, ⟨hQ, hN⟩, l1, l2, l3⟩ := hpost
  rw [hc] at l1 l2 l3
  dsimp only [Pt.U, Pt.locs, Pt.cells, Pt.slots] at l1 l2 l3 X' hQ M' st
  subst hk hn
  rw [l1, l2, l3] at X'
  obtain ⟨t, o, h1, r⟩ := H _ hQ _ _ vm1 X' rfl M' hZ ho (Fr.app N hN)
  exact ⟨t, o, st.trans h1, r⟩
theorem WP.callS (K : Cx κ w l Z own n0 rm bytes maxL ret nm Q) {y : MethodName} {by' : ByteArray} {mL' : Nat} {rt' : Option FieldType} {rm' : Room} {Q' : Option Value → Heap → Prop} {i W : Nat} {argsL : List Value} {S' : List Value} (w1 : (Cond.methodLink own i y).before a0 Z = true) (w2 : (Cond.static y).before a0 Z = true) (hM : Met w l Z y by' mL' rt' [] rm' argsL.toArray h n0 Q') (wc : (Cond.code y by' mL' rt').before a0 Z = true) (wz : (Cond.initialized y.cls).before a0 Z = true) (hy : y.cls ≠ "java/lang/invoke/MethodHandle" ∧ y.cls ≠ "java/lang/invoke/VarHandle")
    (hL : L.size = maxL) (hlen : ∀ sig, parseMethodDescriptor y.desc = some sig → argsL.length = sig.parameters.length) (hS : S' = argsL.reverse ++ S) (hW : (S.map fun v => v.category).sum = W) (hf : rm'.frames + 1 ≤ rm.frames) (hl : W + (mL' + 11) + rm'.locals ≤ rm.locals) (hk : k + rm'.cells = k') (hn : n + rm'.slots = n') (hk' : k' ≤ rm.cells) (hn' : n' ≤ rm.slots) (hd : decode bytes pc = .ok (.invokestatic i, 3)) (hp : pc + 3 = pc')
    (H : ∀ (v : Option Value) (h' : Heap), Q' v h' → WP κ h' k' n' (mkF κ.m pc' L (v.toList ++ S))) : WP κ h k n (mkF κ.m pc L S') := by
  obtain ⟨hx, hby, hml, -, -, -, rfl, rfl, rfl, rfl, rfl, rfl, -⟩ := K
  subst hp hS
  intro T locs vm0 X e M hZ ho N
  by_cases hw : κ.w = true
  · rw [hw] at hM
    obtain ⟨v, vm₁, B, -, X', hSi, hgr, hpost, st⟩ := callSS X hx (y := y) ho (mvT (s := κ.s.setVm vm0) hZ w1) (mvT (s := κ.s.setVm vm0) hZ w2) (mvT (s := κ.s.setVm vm0) hZ wz) (mvT (s := κ.s.setVm vm0) hZ wc) hy (Met.backW (s := κ.s.setVm vm0) hM hZ wc wz hf hl) (g := mkF κ.m pc L (argsL.reverse ++ S)) rfl (hL.trans hml.symm) (argsL := argsL) (rest := S) hlen rfl (by show 2 * 0 + _ ≤ _; omega) (hb hby hd) (fun _ _ => ⟨rfl, e, by rw [← hk] at hk'; exact hk', by rw [← hn] at hn'; exact hn'⟩)
    obtain ⟨k0, hS0, hk0⟩ := M.2
    obtain ⟨X'', hS1, hZ1, ho1⟩ := rebS hS0 hk0 X' hSi (e ▸ hgr) hZ ho
    exact Ends.call (Q' := Q') (T1 := ⟨T.setVm vm₁, locs, k, n⟩) M N rfl hpost hk hn X'' ⟨fun q => (by rw [hw] at q; cases q), _, hS1, Nat.le_refl _⟩ hZ1 ho1 st (H v)
  · have hw' : κ.w = false := by simpa using hw
    rw [hw'] at hM
    obtain ⟨v, vm₁, B, -, X', hpost, st⟩ := Jvm.LawKit.callS X hx (y := y) ho (mvT (s := κ.s.setVm vm0) hZ w1) (mvT (s := κ.s.setVm vm0) hZ w2) (mvT (s := κ.s.setVm vm0) hZ wz) (mvT (s := κ.s.setVm vm0) hZ wc) hy (Met.back (s := κ.s.setVm vm0) hM hZ wc wz hf hl) (g := mkF κ.m pc L (argsL.reverse ++ S)) rfl (hL.trans hml.symm) (argsL := argsL) (rest := S) hlen rfl (by show 2 * 0 + _ ≤ _; omega) (hb hby hd) (fun _ _ => ⟨rfl, e, by rw [← hk] at hk'; exact hk', by rw [← hn] at hn'; exact hn'⟩)
    refine Ends.call (Q' := Q') (T1 := ⟨T.setVm vm₁, locs, k, n⟩) M N rfl hpost hk hn X' ?_ hZ ho (st _ (Steps.refl _)) (H v)
    have e0 := M.1 hw'
    subst e0
    exact Md.start _ _ _
theorem WP.callI (K : Cx κ w l Z own n0 rm bytes maxL ret nm Q) {y : MethodName} {by' : ByteArray} {mL' : Nat}  {rm' : Room} {Q' : Option Value → Heap → Prop} {i W : Nat} {argsL : List Value} {S' : List Value} {a : Addr} (hy1 : y.name = "<init>") (w1 : (Cond.methodLink own i y).before a0 Z = true) (w2 : (Cond.instanceMethod y).before a0 Z = true) (hM : Met w l Z y by' mL' none [] rm' (.ref a :: argsL).toArray h n0 Q') (wc : (Cond.code y by' mL' none).before a0 Z = true) (wz : (Cond.initialized y.cls).before a0 Z = true) (hy : y.cls ≠ "java/lang/invoke/MethodHandle" ∧ y.cls ≠ "java/lang/invoke/VarHandle")
    (hL : L.size = maxL) (hlen : ∀ sig, parseMethodDescriptor y.desc = some sig → argsL.length = sig.parameters.length) (hS : S' = argsL.reverse ++ .ref a :: S) (hW : (S.map fun v => v.category).sum = W) (hf : rm'.frames + 1 ≤ rm.frames) (hl : W + (mL' + 11) + rm'.locals ≤ rm.locals) (hk : k + rm'.cells = k') (hn : n + rm'.slots = n') (hk' : k' ≤ rm.cells) (hn' : n' ≤ rm.slots) (hd : decode bytes pc = .ok (.invokespecial i, 3)) (hp : pc + 3 = pc')
    (H : ∀ (v : Option Value) (h' : Heap), Q' v h' → WP κ h' k' n' (mkF κ.m pc' L (v.toList ++ S))) : WP κ h k n (mkF κ.m pc L S') := by
  obtain ⟨hx, hby, hml, -, -, -, rfl, rfl, rfl, rfl, rfl, rfl, -⟩ := K
  subst hp hS
  intro T locs vm0 X e M hZ ho N
  by_cases hw : κ.w = true
  · rw [hw] at hM
    obtain ⟨v, vm₁, B, -, X', hSi, hgr, hpost, st⟩ := X.specialBackS hx (y := y) hy1 ho (mvT (s := κ.s.setVm vm0) hZ w1) (mvT (s := κ.s.setVm vm0) hZ w2) (mvT (s := κ.s.setVm vm0) hZ wc) hy (Met.backW (s := κ.s.setVm vm0) hM hZ wc wz hf hl) (g := mkF κ.m pc L (argsL.reverse ++ .ref a :: S)) rfl (hL.trans hml.symm) (Steps.refl _) (a := a) (argsL := argsL) (rest := S) hlen rfl (by show 2 * 0 + _ ≤ _; omega) (hb hby hd) (fun _ _ => ⟨rfl, e, by rw [← hk] at hk'; exact hk', by rw [← hn] at hn'; exact hn'⟩)
    obtain ⟨k0, hS0, hk0⟩ := M.2
    obtain ⟨X'', hS1, hZ1, ho1⟩ := rebS hS0 hk0 X' hSi (e ▸ hgr) hZ ho
    exact Ends.call (Q' := Q') (T1 := ⟨T.setVm vm₁, locs, k, n⟩) M N rfl hpost hk hn X'' ⟨fun q => (by rw [hw] at q; cases q), _, hS1, Nat.le_refl _⟩ hZ1 ho1 st (H v)
  · have hw' : κ.w = false := by simpa using hw
    rw [hw'] at hM
    obtain ⟨v, vm₁, B, -, X', hpost, st⟩ := X.specialBack hx (y := y) hy1 ho (mvT (s := κ.s.setVm vm0) hZ w1) (mvT (s := κ.s.setVm vm0) hZ w2) (mvT (s := κ.s.setVm vm0) hZ wc) hy (Met.back (s := κ.s.setVm vm0) hM hZ wc wz hf hl) (g := mkF κ.m pc L (argsL.reverse ++ .ref a :: S)) rfl (hL.trans hml.symm) (Steps.refl _) (a := a) (argsL := argsL) (rest := S) hlen rfl (by show 2 * 0 + _ ≤ _; omega) (hb hby hd) (fun _ _ => ⟨rfl, e, by rw [← hk] at hk'; exact hk', by rw [← hn] at hn'; exact hn'⟩)
    refine Ends.call (Q' := Q') (T1 := ⟨T.setVm vm₁, locs, k, n⟩) M N rfl hpost hk hn X' ?_ hZ ho st (H v)
    have e0 := M.1 hw'
    subst e0
    exact Md.start _ _ _
theorem WP.callV (K : Cx κ w l Z own n0 rm bytes maxL ret nm Q) {x y : MethodName} {by' : ByteArray} {mL' : Nat} {rt' : Option FieldType} {rm' : Room} {Q' : Option Value → Heap → Prop} {i W : Nat} {argsL : List Value} {S' : List Value} {a : Addr} {C : String} (w1 : (Cond.methodLink own i x).before a0 Z = true) (w2 : (Cond.declares x).before a0 Z = true) (nf : ∀ vm0 : Vm, Z.Warmed39 vm0 → NotFace (κ.s.setVm vm0) x) (w3 : (Cond.selects C x y).before a0 Z = true) (w4 : (Cond.instanceMethod y).before a0 Z = true) (hx' : x.cls ≠ "java/lang/invoke/MethodHandle" ∧ x.cls ≠ "java/lang/invoke/VarHandle") (E : Exa Z h a C) (hM : Met w l Z y by' mL' rt' [] rm' (.ref a :: argsL).toArray h n0 Q') (wc : (Cond.code y by' mL' rt').before a0 Z = true) (wz : (Cond.initialized y.cls).before a0 Z = true) (hy : y.cls ≠ "java/lang/invoke/MethodHandle" ∧ y.cls ≠ "java/lang/invoke/VarHandle")
    (hL : L.size = maxL) (hlen : ∀ sig, parseMethodDescriptor x.desc = some sig → argsL.length = sig.parameters.length) (hS : S' = argsL.reverse ++ .ref a :: S) (hW : (S.map fun v => v.category).sum = W) (hf : rm'.frames + 1 ≤ rm.frames) (hl : W + (mL' + 11) + rm'.locals ≤ rm.locals) (hk : k + rm'.cells = k') (hn : n + rm'.slots = n') (hk' : k' ≤ rm.cells) (hn' : n' ≤ rm.slots) (hd : decode bytes pc = .ok (.invokevirtual i, 3)) (hp : pc + 3 = pc')
    (H : ∀ (v : Option Value) (h' : Heap), Q' v h' → WP κ h' k' n' (mkF κ.m pc' L (v.toList ++ S))) : WP κ h k n (mkF κ.m pc L S') := by
  obtain ⟨hx, hby, hml, -, -, -, rfl, rfl, rfl, rfl, rfl, rfl, -⟩ := K
  subst hp hS
  intro T locs vm0 X e M hZ ho N
  obtain ⟨cB, kB, q1, q2, q3⟩ := isOf (s := κ.s.setVm vm0) hZ e E
  by_cases hw : κ.w = true
  · rw [hw] at hM
    obtain ⟨v, vm₁, B, -, X', hSi, hgr, hpost, st⟩ := X.virtualBackS hx (y := x) (z := y) ho (mvT (s := κ.s.setVm vm0) hZ w1) (mvT (s := κ.s.setVm vm0) hZ w2) (nf vm0 hZ) (mvT (s := κ.s.setVm vm0) hZ w3) (mvT (s := κ.s.setVm vm0) hZ w4) hx' (Met.backW (s := κ.s.setVm vm0) hM hZ wc wz hf hl) q1 q3 (g := mkF κ.m pc L (argsL.reverse ++ .ref a :: S)) rfl (hL.trans hml.symm) (Steps.refl _) (argsL := argsL) (rest := S) hlen rfl (by show 2 * 0 + _ ≤ _; omega) (hb hby hd) (fun _ _ => ⟨rfl, e, by rw [← hk] at hk'; exact hk', by rw [← hn] at hn'; exact hn'⟩)
    obtain ⟨k0, hS0, hk0⟩ := M.2
    obtain ⟨X'', hS1, hZ1, ho1⟩ := rebS hS0 hk0 X' hSi (e ▸ hgr) hZ ho
    exact Ends.call (Q' := Q') (T1 := ⟨T.setVm vm₁, locs, k, n⟩) M N rfl hpost hk hn X'' ⟨fun q => (by rw [hw] at q; cases q), _, hS1, Nat.le_refl _⟩ hZ1 ho1 st (H v)
  · have hw' : κ.w = false := by simpa using hw
    rw [hw'] at hM
    obtain ⟨v, vm₁, B, -, X', hpost, st⟩ := X.virtualBack hx (y := x) (z := y) ho (mvT (s := κ.s.setVm vm0) hZ w1) (mvT (s := κ.s.setVm vm0) hZ w2) (nf vm0 hZ) (mvT (s := κ.s.setVm vm0) hZ w3) (mvT (s := κ.s.setVm vm0) hZ w4) hx' (Met.back (s := κ.s.setVm vm0) hM hZ wc wz hf hl) q1 q3 (g := mkF κ.m pc L (argsL.reverse ++ .ref a :: S)) rfl (hL.trans hml.symm) (Steps.refl _) (argsL := argsL) (rest := S) hlen rfl (by show 2 * 0 + _ ≤ _; omega) (hb hby hd) (fun _ _ => ⟨rfl, e, by rw [← hk] at hk'; exact hk', by rw [← hn] at hn'; exact hn'⟩)
    refine Ends.call (Q' := Q') (T1 := ⟨T.setVm vm₁, locs, k, n⟩) M N rfl hpost hk hn X' ?_ hZ ho st (H v)
    have e0 := M.1 hw'
    subst e0
    exact Md.start _ _ _
end Rules
end Jvm.OwnW
namespace Jvm.Pilot.@@N@@
open Jvm Jvm.ClassFile Sem Op Lib Jvm.Free Jvm.Stand Jvm.LawKit Jvm.RoadKit Bundle Jvm.OwnW Jvm.Pilot.@@N@@.Jvm.D

def own_up (time : UInt64) (tag : Int32) : Nat → Nat → (Nat → UInt64) → (Nat → Int32) → (Nat → UInt64) × (Nat → Int32)
  | 0, hole, T, G => (fset T hole time, fset G hole tag)
  | f + 1, hole, T, G => if hole = 0 then (fset T hole time, fset G hole tag)
    else if (0 : Int32) < cmpValue (FP.dcmp (T ((hole - 1) / 2)) time) .l then own_up time tag f ((hole - 1) / 2) (fset T hole (T ((hole - 1) / 2))) (fset G hole (G ((hole - 1) / 2)))
    else (fset T hole time, fset G hole tag)
def own_pick (m : Nat) (T : Nat → UInt64) (child : Nat) : Nat := if child + 1 < m ∧ cmpValue (FP.dcmp (T (child + 1)) (T child)) .g < (0 : Int32) then child + 1 else child
def own_dn (time : UInt64) (tag : Int32) (m : Nat) : Nat → Nat → Nat → (Nat → UInt64) → (Nat → Int32) → (Nat → UInt64) × (Nat → Int32)
  | 0, hole, _, T, G => (fset T hole time, fset G hole tag)
  | f + 1, hole, child, T, G => if child < m then
      (if cmpValue (FP.dcmp (T (own_pick m T child)) time) .l < (0 : Int32) then own_dn time tag m f (own_pick m T child) (2 * own_pick m T child + 1) (fset T hole (T (own_pick m T child))) (fset G hole (G (own_pick m T child)))
       else (fset T hole time, fset G hole tag))
    else (fset T hole time, fset G hole tag)
theorem own_par {x : Int32} {n : Nat} (h : x.toInt = (n : Int)) (h0 : 0 < n) : ((x - (1 : Int32)) / (2 : Int32)).toInt = (((n - 1) / 2 : Nat) : Int) := by
  have r := rng32 x
  have q := c_isub x 1
  have r2 := rng32 (x - 1)
  have e1 : (1 : Int32).toInt = 1 := by decide
  rw [e1] at q
  have e : (x - 1).toInt = x.toInt - 1 := by omega
  have d := (c_idiv (x - 1) 2 2 (by decide) (by decide)).1 (by omega)
  rw [d, e]; omega
theorem own_inc {x y : Int32} {n k : Nat} (h : x.toInt = (n : Int)) (hy : y.toInt = (k : Int)) (hn : n + k < 2147483648) : (x + y).toInt = ((n + k : Nat) : Int) := by
  have q := c_iadd x y
  have r2 := rng32 (x + y)
  omega
theorem own_dec {x : Int32} {n : Nat} (h : x.toInt = (n : Int)) (h0 : 0 < n) : (x - (1 : Int32)).toInt = ((n - 1 : Nat) : Int) := by
  have r := rng32 x
  have q := c_isub x 1
  have r2 := rng32 (x - 1)
  have e1 : (1 : Int32).toInt = 1 := by decide
  rw [e1] at q
  omega
theorem own_two {x : Int32} {n : Nat} (h : x.toInt = (n : Int)) (hn : n ≤ 100) : ((2 : Int32) * x + (1 : Int32)).toInt = ((2 * n + 1 : Nat) : Int) := by
  have q := c_imul 2 x
  have r := rng32 ((2 : Int32) * x)
  have e2 : (2 : Int32).toInt = 2 := by decide
  rw [e2, h] at q
  have e : ((2 : Int32) * x).toInt = 2 * n := by omega
  have q1 := c_iadd ((2 : Int32) * x) 1
  have r1 := rng32 ((2 : Int32) * x + 1)
  have e1 : (1 : Int32).toInt = 1 := by decide
  rw [e1] at q1
  omega
theorem own_ltN {x y : Int32} {n k : Nat} (h : x.toInt = (n : Int)) (hy : y.toInt = (k : Int)) : x < y ↔ n < k := by rw [Int32.lt_iff_toInt_lt]; omega

theorem own_n4 (p : Int32) : (p &&& (3 : Int32)) = 0 ∨ (p &&& (3 : Int32)) = 1 ∨ (p &&& (3 : Int32)) = 2 ∨ (p &&& (3 : Int32)) = 3 := by
  have e : (p &&& (3 : Int32)).toInt = p.toInt % 4 := c_mask p 3 2 (by decide) (by decide)
  have h : (p &&& (3 : Int32)).toInt = 0 ∨ (p &&& (3 : Int32)).toInt = 1 ∨ (p &&& (3 : Int32)).toInt = 2 ∨ (p &&& (3 : Int32)).toInt = 3 := by omega
  rcases h with h | h | h | h
  · exact Or.inl (Int32.toInt_inj.mp h)
  · exact Or.inr (Or.inl (Int32.toInt_inj.mp h))
  · exact Or.inr (Or.inr (Or.inl (Int32.toInt_inj.mp h)))
  · exact Or.inr (Or.inr (Or.inr (Int32.toInt_inj.mp h)))
theorem own_mx (p d : Int32) (k : Int) (hd : d.toInt = k) (hk : 0 < k) : 0 ≤ ((p &&& (2147483647 : Int32)) % d).toInt ∧ ((p &&& (2147483647 : Int32)) % d).toInt < k := by
  have e1 : (p &&& (2147483647 : Int32)).toInt = p.toInt % 2147483648 := c_mask p 2147483647 31 (by decide) (by decide)
  have e2 := (c_irem (p &&& (2147483647 : Int32)) d k hd).1 (by omega)
  rw [e2]
  exact ⟨Int.emod_nonneg _ (by omega), Int.emod_lt_of_pos _ hk⟩
theorem own_l1 {x : Int32} (h : 0 ≤ x.toInt ∧ x.toInt < 1) : x = 0 := Int32.toInt_inj.mp (show x.toInt = 0 by omega)
theorem own_l2 {x : Int32} (h : 0 ≤ x.toInt ∧ x.toInt < 2) : x = 0 ∨ x = 1 := by
  have h : x.toInt = 0 ∨ x.toInt = 1 := by omega
  rcases h with h | h
  · exact Or.inl (Int32.toInt_inj.mp h)
  · exact Or.inr (Int32.toInt_inj.mp h)
theorem own_l3 {x : Int32} (h : 0 ≤ x.toInt ∧ x.toInt < 3) : x = 0 ∨ x = 1 ∨ x = 2 := by
  have h : x.toInt = 0 ∨ x.toInt = 1 ∨ x.toInt = 2 := by omega
  rcases h with h | h | h
  · exact Or.inl (Int32.toInt_inj.mp h)
  · exact Or.inr (Or.inl (Int32.toInt_inj.mp h))
  · exact Or.inr (Or.inr (Int32.toInt_inj.mp h))
theorem own_l4 {x : Int32} (h : 0 ≤ x.toInt ∧ x.toInt < 4) : x = 0 ∨ x = 1 ∨ x = 2 ∨ x = 3 := by
  have h : x.toInt = 0 ∨ x.toInt = 1 ∨ x.toInt = 2 ∨ x.toInt = 3 := by omega
  rcases h with h | h | h | h
  · exact Or.inl (Int32.toInt_inj.mp h)
  · exact Or.inr (Or.inl (Int32.toInt_inj.mp h))
  · exact Or.inr (Or.inr (Or.inl (Int32.toInt_inj.mp h)))
  · exact Or.inr (Or.inr (Or.inr (Int32.toInt_inj.mp h)))
theorem w_0 {Z : State} {a0 : Array Value} (hw : ∀ d ∈ tables_1, d.before a0 Z = true) : (Jvm.Cond.classLink "com/example/wedge/wedge/link/DepartureQueueIsEmptyPinLaw" (7 : Nat) "com/example/wedge/wedge/link/DepartureQueue").before a0 Z = true := hw _ (List.mem_of_getElem? (i := 0) rfl)
theorem w_1 {Z : State} {a0 : Array Value} (hw : ∀ d ∈ tables_1, d.before a0 Z = true) : (Jvm.Cond.instantiable "com/example/wedge/wedge/link/DepartureQueue" (3 : Nat)).before a0 Z = true := hw _ (List.mem_of_getElem? (i := 1) rfl)
theorem w_2 {Z : State} {a0 : Array Value} (hw : ∀ d ∈ tables_1, d.before a0 Z = true) : (Jvm.Cond.initialized "com/example/wedge/wedge/link/DepartureQueue").before a0 Z = true := hw _ (List.mem_of_getElem? (i := 2) rfl)
theorem w_3 {Z : State} {a0 : Array Value} (hw : ∀ d ∈ tables_1, d.before a0 Z = true) : (Jvm.Cond.methodLink "com/example/wedge/wedge/link/DepartureQueueIsEmptyPinLaw" (9 : Nat) ({ cls := "com/example/wedge/wedge/link/DepartureQueue", name := "<init>", desc := "()V" } : Jvm.MethodName)).before a0 Z = true := hw _ (List.mem_of_getElem? (i := 3) rfl)
theorem w_4 {Z : State} {a0 : Array Value} (hw : ∀ d ∈ tables_1, d.before a0 Z = true) : (Jvm.Cond.instanceMethod ({ cls := "com/example/wedge/wedge/link/DepartureQueue", name := "<init>", desc := "()V" } : Jvm.MethodName)).before a0 Z = true := hw _ (List.mem_of_getElem? (i := 4) rfl)
theorem w_5 {Z : State} {a0 : Array Value} (hw : ∀ d ∈ tables_1, d.before a0 Z = true) : (Jvm.Cond.code ({ cls := "com/example/wedge/wedge/link/DepartureQueue", name := "<init>", desc := "()V" } : Jvm.MethodName) prog_7_method_1_code (1 : Nat) (Option.none : Option Jvm.ClassFile.FieldType)).before a0 Z = true := hw _ (List.mem_of_getElem? (i := 5) rfl)
theorem w_6 {Z : State} {a0 : Array Value} (hw : ∀ d ∈ tables_1, d.before a0 Z = true) : (Jvm.Cond.methodLink "com/example/wedge/wedge/link/DepartureQueue" (1 : Nat) ({ cls := "java/lang/Object", name := "<init>", desc := "()V" } : Jvm.MethodName)).before a0 Z = true := hw _ (List.mem_of_getElem? (i := 6) rfl)
theorem w_7 {Z : State} {a0 : Array Value} (hw : ∀ d ∈ tables_1, d.before a0 Z = true) : (Jvm.Cond.instanceMethod ({ cls := "java/lang/Object", name := "<init>", desc := "()V" } : Jvm.MethodName)).before a0 Z = true := hw _ (List.mem_of_getElem? (i := 7) rfl)
theorem w_8 {Z : State} {a0 : Array Value} (hw : ∀ d ∈ tables_1, d.before a0 Z = true) : (Jvm.Cond.code ({ cls := "java/lang/Object", name := "<init>", desc := "()V" } : Jvm.MethodName) object_method_1_code (1 : Nat) (Option.none : Option Jvm.ClassFile.FieldType)).before a0 Z = true := hw _ (List.mem_of_getElem? (i := 8) rfl)
theorem w_9 {Z : State} {a0 : Array Value} (hw : ∀ d ∈ tables_1, d.before a0 Z = true) : (Jvm.Cond.arrayClass Jvm.ClassFile.FieldType.double).before a0 Z = true := hw _ (List.mem_of_getElem? (i := 9) rfl)
theorem w_10 {Z : State} {a0 : Array Value} (hw : ∀ d ∈ tables_1, d.before a0 Z = true) : (Jvm.Cond.fieldLink "com/example/wedge/wedge/link/DepartureQueue" (7 : Nat) "com/example/wedge/wedge/link/DepartureQueue" "times" "[D").before a0 Z = true := hw _ (List.mem_of_getElem? (i := 10) rfl)
theorem w_11 {Z : State} {a0 : Array Value} (hw : ∀ d ∈ tables_1, d.before a0 Z = true) : (Jvm.Cond.lays "com/example/wedge/wedge/link/DepartureQueue" "com/example/wedge/wedge/link/DepartureQueue" "times" "[D").before a0 Z = true := hw _ (List.mem_of_getElem? (i := 11) rfl)
theorem w_12 {Z : State} {a0 : Array Value} (hw : ∀ d ∈ tables_1, d.before a0 Z = true) : (Jvm.Cond.arrayClass Jvm.ClassFile.FieldType.int).before a0 Z = true := hw _ (List.mem_of_getElem? (i := 12) rfl)
theorem w_13 {Z : State} {a0 : Array Value} (hw : ∀ d ∈ tables_1, d.before a0 Z = true) : (Jvm.Cond.fieldLink "com/example/wedge/wedge/link/DepartureQueue" (13 : Nat) "com/example/wedge/wedge/link/DepartureQueue" "tags" "[I").before a0 Z = true := hw _ (List.mem_of_getElem? (i := 13) rfl)
theorem w_14 {Z : State} {a0 : Array Value} (hw : ∀ d ∈ tables_1, d.before a0 Z = true) : (Jvm.Cond.lays "com/example/wedge/wedge/link/DepartureQueue" "com/example/wedge/wedge/link/DepartureQueue" "tags" "[I").before a0 Z = true := hw _ (List.mem_of_getElem? (i := 14) rfl)
theorem w_15 {Z : State} {a0 : Array Value} (hw : ∀ d ∈ tables_1, d.before a0 Z = true) : (Jvm.Cond.methodLink "com/example/wedge/wedge/link/DepartureQueueIsEmptyPinLaw" (10 : Nat) ({ cls := "com/example/wedge/wedge/link/DepartureQueue", name := "isEmpty", desc := "()Z" } : Jvm.MethodName)).before a0 Z = true := hw _ (List.mem_of_getElem? (i := 15) rfl)
theorem w_16 {Z : State} {a0 : Array Value} (hw : ∀ d ∈ tables_1, d.before a0 Z = true) : (Jvm.Cond.declares ({ cls := "com/example/wedge/wedge/link/DepartureQueue", name := "isEmpty", desc := "()Z" } : Jvm.MethodName)).before a0 Z = true := hw _ (List.mem_of_getElem? (i := 16) rfl)
theorem w_17 {Z : State} {a0 : Array Value} (hw : ∀ d ∈ tables_1, d.before a0 Z = true) : (Jvm.Cond.instanceMethod ({ cls := "com/example/wedge/wedge/link/DepartureQueue", name := "isEmpty", desc := "()Z" } : Jvm.MethodName)).before a0 Z = true := hw _ (List.mem_of_getElem? (i := 17) rfl)
theorem w_18 {Z : State} {a0 : Array Value} (hw : ∀ d ∈ tables_1, d.before a0 Z = true) : (Jvm.Cond.selects "com/example/wedge/wedge/link/DepartureQueue" ({ cls := "com/example/wedge/wedge/link/DepartureQueue", name := "isEmpty", desc := "()Z" } : Jvm.MethodName) ({ cls := "com/example/wedge/wedge/link/DepartureQueue", name := "isEmpty", desc := "()Z" } : Jvm.MethodName)).before a0 Z = true := hw _ (List.mem_of_getElem? (i := 18) rfl)
theorem w_19 {Z : State} {a0 : Array Value} (hw : ∀ d ∈ tables_1, d.before a0 Z = true) : (Jvm.Cond.code ({ cls := "com/example/wedge/wedge/link/DepartureQueue", name := "isEmpty", desc := "()Z" } : Jvm.MethodName) prog_7_method_2_code (1 : Nat) (Option.some Jvm.ClassFile.FieldType.boolean)).before a0 Z = true := hw _ (List.mem_of_getElem? (i := 19) rfl)
theorem w_20 {Z : State} {a0 : Array Value} (hw : ∀ d ∈ tables_1, d.before a0 Z = true) : (Jvm.Cond.fieldLink "com/example/wedge/wedge/link/DepartureQueue" (17 : Nat) "com/example/wedge/wedge/link/DepartureQueue" "size" "I").before a0 Z = true := hw _ (List.mem_of_getElem? (i := 20) rfl)
theorem w_21 {Z : State} {a0 : Array Value} (hw : ∀ d ∈ tables_1, d.before a0 Z = true) : (Jvm.Cond.lays "com/example/wedge/wedge/link/DepartureQueue" "com/example/wedge/wedge/link/DepartureQueue" "size" "I").before a0 Z = true := hw _ (List.mem_of_getElem? (i := 21) rfl)
theorem w_22 {Z : State} {a0 : Array Value} (hw : ∀ d ∈ tables_1, d.before a0 Z = true) : (Jvm.Cond.constant "com/example/wedge/wedge/link/DepartureQueueIsEmptyPinLaw" (14 : Nat) (2147483647 : Int32)).before a0 Z = true := hw _ (List.mem_of_getElem? (i := 22) rfl)
theorem w_23 {Z : State} {a0 : Array Value} (hw : ∀ d ∈ tables_1, d.before a0 Z = true) : (Jvm.Cond.methodLink "com/example/wedge/wedge/link/DepartureQueueIsEmptyPinLaw" (15 : Nat) ({ cls := "com/example/wedge/wedge/link/DepartureQueue", name := "add", desc := "(DI)V" } : Jvm.MethodName)).before a0 Z = true := hw _ (List.mem_of_getElem? (i := 23) rfl)
theorem w_24 {Z : State} {a0 : Array Value} (hw : ∀ d ∈ tables_1, d.before a0 Z = true) : (Jvm.Cond.declares ({ cls := "com/example/wedge/wedge/link/DepartureQueue", name := "add", desc := "(DI)V" } : Jvm.MethodName)).before a0 Z = true := hw _ (List.mem_of_getElem? (i := 24) rfl)
theorem w_25 {Z : State} {a0 : Array Value} (hw : ∀ d ∈ tables_1, d.before a0 Z = true) : (Jvm.Cond.instanceMethod ({ cls := "com/example/wedge/wedge/link/DepartureQueue", name := "add", desc := "(DI)V" } : Jvm.MethodName)).before a0 Z = true := hw _ (List.mem_of_getElem? (i := 25) rfl)
theorem w_26 {Z : State} {a0 : Array Value} (hw : ∀ d ∈ tables_1, d.before a0 Z = true) : (Jvm.Cond.selects "com/example/wedge/wedge/link/DepartureQueue" ({ cls := "com/example/wedge/wedge/link/DepartureQueue", name := "add", desc := "(DI)V" } : Jvm.MethodName) ({ cls := "com/example/wedge/wedge/link/DepartureQueue", name := "add", desc := "(DI)V" } : Jvm.MethodName)).before a0 Z = true := hw _ (List.mem_of_getElem? (i := 26) rfl)
theorem w_27 {Z : State} {a0 : Array Value} (hw : ∀ d ∈ tables_1, d.before a0 Z = true) : (Jvm.Cond.code ({ cls := "com/example/wedge/wedge/link/DepartureQueue", name := "add", desc := "(DI)V" } : Jvm.MethodName) prog_7_method_4_code (6 : Nat) (Option.none : Option Jvm.ClassFile.FieldType)).before a0 Z = true := hw _ (List.mem_of_getElem? (i := 27) rfl)
theorem w_28 {Z : State} {a0 : Array Value} (hw : ∀ d ∈ tables_1, d.before a0 Z = true) : (Jvm.Cond.methodLink "com/example/wedge/wedge/link/DepartureQueueIsEmptyPinLaw" (19 : Nat) ({ cls := "com/example/wedge/wedge/link/DepartureQueue", name := "removeFirst", desc := "()I" } : Jvm.MethodName)).before a0 Z = true := hw _ (List.mem_of_getElem? (i := 28) rfl)
theorem w_29 {Z : State} {a0 : Array Value} (hw : ∀ d ∈ tables_1, d.before a0 Z = true) : (Jvm.Cond.declares ({ cls := "com/example/wedge/wedge/link/DepartureQueue", name := "removeFirst", desc := "()I" } : Jvm.MethodName)).before a0 Z = true := hw _ (List.mem_of_getElem? (i := 29) rfl)
theorem w_30 {Z : State} {a0 : Array Value} (hw : ∀ d ∈ tables_1, d.before a0 Z = true) : (Jvm.Cond.instanceMethod ({ cls := "com/example/wedge/wedge/link/DepartureQueue", name := "removeFirst", desc := "()I" } : Jvm.MethodName)).before a0 Z = true := hw _ (List.mem_of_getElem? (i := 30) rfl)
theorem w_31 {Z : State} {a0 : Array Value} (hw : ∀ d ∈ tables_1, d.before a0 Z = true) : (Jvm.Cond.selects "com/example/wedge/wedge/link/DepartureQueue" ({ cls := "com/example/wedge/wedge/link/DepartureQueue", name := "removeFirst", desc := "()I" } : Jvm.MethodName) ({ cls := "com/example/wedge/wedge/link/DepartureQueue", name := "removeFirst", desc := "()I" } : Jvm.MethodName)).before a0 Z = true := hw _ (List.mem_of_getElem? (i := 31) rfl)
theorem w_32 {Z : State} {a0 : Array Value} (hw : ∀ d ∈ tables_1, d.before a0 Z = true) : (Jvm.Cond.code ({ cls := "com/example/wedge/wedge/link/DepartureQueue", name := "removeFirst", desc := "()I" } : Jvm.MethodName) prog_7_method_5_code (7 : Nat) (Option.some Jvm.ClassFile.FieldType.int)).before a0 Z = true := hw _ (List.mem_of_getElem? (i := 32) rfl)
theorem pd_0 : parseMethodDescriptor "()V" = some ⟨[], none⟩ := by decide +kernel
theorem pd_1 : parseMethodDescriptor "()Z" = some ⟨[], some .boolean⟩ := by decide +kernel
theorem pd_2 : parseMethodDescriptor "(DI)V" = some ⟨[.double, .int], none⟩ := by decide +kernel
theorem pd_3 : parseMethodDescriptor "()I" = some ⟨[], some .int⟩ := by decide +kernel
theorem d1_0 : decode prog_7_method_1_code 0 = .ok (.aload_n 0, 1) := by decide +kernel
theorem d1_1 : decode prog_7_method_1_code 1 = .ok (.invokespecial 1, 3) := by decide +kernel
theorem d1_12 : decode prog_7_method_1_code 12 = .ok (.aload_n 0, 1) := by decide +kernel
theorem d1_13 : decode prog_7_method_1_code 13 = .ok (.bipush 16, 2) := by decide +kernel
theorem d1_15 : decode prog_7_method_1_code 15 = .ok (.newarray .int, 2) := by decide +kernel
theorem d1_17 : decode prog_7_method_1_code 17 = .ok (.putfield 13, 3) := by decide +kernel
theorem d1_20 : decode prog_7_method_1_code 20 = .ok (.return_, 1) := by decide +kernel
theorem d1_4 : decode prog_7_method_1_code 4 = .ok (.aload_n 0, 1) := by decide +kernel
theorem d1_5 : decode prog_7_method_1_code 5 = .ok (.bipush 16, 2) := by decide +kernel
theorem d1_7 : decode prog_7_method_1_code 7 = .ok (.newarray .double, 2) := by decide +kernel
theorem d1_9 : decode prog_7_method_1_code 9 = .ok (.putfield 7, 3) := by decide +kernel
theorem d3_0 : decode prog_7_method_2_code 0 = .ok (.aload_n 0, 1) := by decide +kernel
theorem d3_1 : decode prog_7_method_2_code 1 = .ok (.getfield 17, 3) := by decide +kernel
theorem d3_11 : decode prog_7_method_2_code 11 = .ok (.iconst 0, 1) := by decide +kernel
theorem d3_12 : decode prog_7_method_2_code 12 = .ok (.ireturn, 1) := by decide +kernel
theorem d3_4 : decode prog_7_method_2_code 4 = .ok (.ifCond .ne 7, 3) := by decide +kernel
theorem d3_7 : decode prog_7_method_2_code 7 = .ok (.iconst 1, 1) := by decide +kernel
theorem d3_8 : decode prog_7_method_2_code 8 = .ok (.goto 4, 3) := by decide +kernel
theorem d4_0 : decode prog_7_method_4_code 0 = .ok (.aload_n 0, 1) := by decide +kernel
theorem d4_1 : decode prog_7_method_4_code 1 = .ok (.getfield 17, 3) := by decide +kernel
theorem d4_100 : decode prog_7_method_4_code 100 = .ok (.daload, 1) := by decide +kernel
theorem d4_101 : decode prog_7_method_4_code 101 = .ok (.dastore, 1) := by decide +kernel
theorem d4_102 : decode prog_7_method_4_code 102 = .ok (.aload_n 0, 1) := by decide +kernel
theorem d4_103 : decode prog_7_method_4_code 103 = .ok (.getfield 13, 3) := by decide +kernel
theorem d4_106 : decode prog_7_method_4_code 106 = .ok (.iload 4, 2) := by decide +kernel
theorem d4_108 : decode prog_7_method_4_code 108 = .ok (.aload_n 0, 1) := by decide +kernel
theorem d4_109 : decode prog_7_method_4_code 109 = .ok (.getfield 13, 3) := by decide +kernel
theorem d4_112 : decode prog_7_method_4_code 112 = .ok (.iload 5, 2) := by decide +kernel
theorem d4_114 : decode prog_7_method_4_code 114 = .ok (.iaload, 1) := by decide +kernel
theorem d4_115 : decode prog_7_method_4_code 115 = .ok (.iastore, 1) := by decide +kernel
theorem d4_116 : decode prog_7_method_4_code 116 = .ok (.iload 5, 2) := by decide +kernel
theorem d4_118 : decode prog_7_method_4_code 118 = .ok (.istore 4, 2) := by decide +kernel
theorem d4_120 : decode prog_7_method_4_code 120 = .ok (.goto (-61), 3) := by decide +kernel
theorem d4_123 : decode prog_7_method_4_code 123 = .ok (.aload_n 0, 1) := by decide +kernel
theorem d4_124 : decode prog_7_method_4_code 124 = .ok (.getfield 7, 3) := by decide +kernel
theorem d4_127 : decode prog_7_method_4_code 127 = .ok (.iload 4, 2) := by decide +kernel
theorem d4_129 : decode prog_7_method_4_code 129 = .ok (.dload_n 1, 1) := by decide +kernel
theorem d4_130 : decode prog_7_method_4_code 130 = .ok (.dastore, 1) := by decide +kernel
theorem d4_131 : decode prog_7_method_4_code 131 = .ok (.aload_n 0, 1) := by decide +kernel
theorem d4_132 : decode prog_7_method_4_code 132 = .ok (.getfield 13, 3) := by decide +kernel
theorem d4_135 : decode prog_7_method_4_code 135 = .ok (.iload 4, 2) := by decide +kernel
theorem d4_137 : decode prog_7_method_4_code 137 = .ok (.iload_n 3, 1) := by decide +kernel
theorem d4_138 : decode prog_7_method_4_code 138 = .ok (.iastore, 1) := by decide +kernel
theorem d4_139 : decode prog_7_method_4_code 139 = .ok (.return_, 1) := by decide +kernel
theorem d4_4 : decode prog_7_method_4_code 4 = .ok (.aload_n 0, 1) := by decide +kernel
theorem d4_46 : decode prog_7_method_4_code 46 = .ok (.aload_n 0, 1) := by decide +kernel
theorem d4_47 : decode prog_7_method_4_code 47 = .ok (.dup, 1) := by decide +kernel
theorem d4_48 : decode prog_7_method_4_code 48 = .ok (.getfield 17, 3) := by decide +kernel
theorem d4_5 : decode prog_7_method_4_code 5 = .ok (.getfield 7, 3) := by decide +kernel
theorem d4_51 : decode prog_7_method_4_code 51 = .ok (.dup_x1, 1) := by decide +kernel
theorem d4_52 : decode prog_7_method_4_code 52 = .ok (.iconst 1, 1) := by decide +kernel
theorem d4_53 : decode prog_7_method_4_code 53 = .ok (.iadd, 1) := by decide +kernel
theorem d4_54 : decode prog_7_method_4_code 54 = .ok (.putfield 17, 3) := by decide +kernel
theorem d4_57 : decode prog_7_method_4_code 57 = .ok (.istore 4, 2) := by decide +kernel
theorem d4_59 : decode prog_7_method_4_code 59 = .ok (.iload 4, 2) := by decide +kernel
theorem d4_61 : decode prog_7_method_4_code 61 = .ok (.ifCond .le 62, 3) := by decide +kernel
theorem d4_64 : decode prog_7_method_4_code 64 = .ok (.aload_n 0, 1) := by decide +kernel
theorem d4_65 : decode prog_7_method_4_code 65 = .ok (.getfield 7, 3) := by decide +kernel
theorem d4_68 : decode prog_7_method_4_code 68 = .ok (.iload 4, 2) := by decide +kernel
theorem d4_70 : decode prog_7_method_4_code 70 = .ok (.iconst 1, 1) := by decide +kernel
theorem d4_71 : decode prog_7_method_4_code 71 = .ok (.isub, 1) := by decide +kernel
theorem d4_72 : decode prog_7_method_4_code 72 = .ok (.iconst 2, 1) := by decide +kernel
theorem d4_73 : decode prog_7_method_4_code 73 = .ok (.idiv, 1) := by decide +kernel
theorem d4_74 : decode prog_7_method_4_code 74 = .ok (.daload, 1) := by decide +kernel
theorem d4_75 : decode prog_7_method_4_code 75 = .ok (.dload_n 1, 1) := by decide +kernel
theorem d4_76 : decode prog_7_method_4_code 76 = .ok (.dcmp .l, 1) := by decide +kernel
theorem d4_77 : decode prog_7_method_4_code 77 = .ok (.ifCond .le 46, 3) := by decide +kernel
theorem d4_8 : decode prog_7_method_4_code 8 = .ok (.arraylength, 1) := by decide +kernel
theorem d4_80 : decode prog_7_method_4_code 80 = .ok (.iload 4, 2) := by decide +kernel
theorem d4_82 : decode prog_7_method_4_code 82 = .ok (.iconst 1, 1) := by decide +kernel
theorem d4_83 : decode prog_7_method_4_code 83 = .ok (.isub, 1) := by decide +kernel
theorem d4_84 : decode prog_7_method_4_code 84 = .ok (.iconst 2, 1) := by decide +kernel
theorem d4_85 : decode prog_7_method_4_code 85 = .ok (.idiv, 1) := by decide +kernel
theorem d4_86 : decode prog_7_method_4_code 86 = .ok (.istore 5, 2) := by decide +kernel
theorem d4_88 : decode prog_7_method_4_code 88 = .ok (.aload_n 0, 1) := by decide +kernel
theorem d4_89 : decode prog_7_method_4_code 89 = .ok (.getfield 7, 3) := by decide +kernel
theorem d4_9 : decode prog_7_method_4_code 9 = .ok (.if_icmp .ne 37, 3) := by decide +kernel
theorem d4_92 : decode prog_7_method_4_code 92 = .ok (.iload 4, 2) := by decide +kernel
theorem d4_94 : decode prog_7_method_4_code 94 = .ok (.aload_n 0, 1) := by decide +kernel
theorem d4_95 : decode prog_7_method_4_code 95 = .ok (.getfield 7, 3) := by decide +kernel
theorem d4_98 : decode prog_7_method_4_code 98 = .ok (.iload 5, 2) := by decide +kernel
theorem d5_0 : decode prog_7_method_5_code 0 = .ok (.aload_n 0, 1) := by decide +kernel
theorem d5_1 : decode prog_7_method_5_code 1 = .ok (.getfield 13, 3) := by decide +kernel
theorem d5_102 : decode prog_7_method_5_code 102 = .ok (.aload_n 0, 1) := by decide +kernel
theorem d5_103 : decode prog_7_method_5_code 103 = .ok (.getfield 7, 3) := by decide +kernel
theorem d5_106 : decode prog_7_method_5_code 106 = .ok (.iload 5, 2) := by decide +kernel
theorem d5_108 : decode prog_7_method_5_code 108 = .ok (.aload_n 0, 1) := by decide +kernel
theorem d5_109 : decode prog_7_method_5_code 109 = .ok (.getfield 7, 3) := by decide +kernel
theorem d5_112 : decode prog_7_method_5_code 112 = .ok (.iload 6, 2) := by decide +kernel
theorem d5_114 : decode prog_7_method_5_code 114 = .ok (.daload, 1) := by decide +kernel
theorem d5_115 : decode prog_7_method_5_code 115 = .ok (.dastore, 1) := by decide +kernel
theorem d5_116 : decode prog_7_method_5_code 116 = .ok (.aload_n 0, 1) := by decide +kernel
theorem d5_117 : decode prog_7_method_5_code 117 = .ok (.getfield 13, 3) := by decide +kernel
theorem d5_12 : decode prog_7_method_5_code 12 = .ok (.iconst 1, 1) := by decide +kernel
theorem d5_120 : decode prog_7_method_5_code 120 = .ok (.iload 5, 2) := by decide +kernel
theorem d5_122 : decode prog_7_method_5_code 122 = .ok (.aload_n 0, 1) := by decide +kernel
theorem d5_123 : decode prog_7_method_5_code 123 = .ok (.getfield 13, 3) := by decide +kernel
theorem d5_126 : decode prog_7_method_5_code 126 = .ok (.iload 6, 2) := by decide +kernel
theorem d5_128 : decode prog_7_method_5_code 128 = .ok (.iaload, 1) := by decide +kernel
theorem d5_129 : decode prog_7_method_5_code 129 = .ok (.iastore, 1) := by decide +kernel
theorem d5_13 : decode prog_7_method_5_code 13 = .ok (.isub, 1) := by decide +kernel
theorem d5_130 : decode prog_7_method_5_code 130 = .ok (.iload 6, 2) := by decide +kernel
theorem d5_132 : decode prog_7_method_5_code 132 = .ok (.istore 5, 2) := by decide +kernel
theorem d5_134 : decode prog_7_method_5_code 134 = .ok (.iconst 2, 1) := by decide +kernel
theorem d5_135 : decode prog_7_method_5_code 135 = .ok (.iload 5, 2) := by decide +kernel
theorem d5_137 : decode prog_7_method_5_code 137 = .ok (.imul, 1) := by decide +kernel
theorem d5_138 : decode prog_7_method_5_code 138 = .ok (.iconst 1, 1) := by decide +kernel
theorem d5_139 : decode prog_7_method_5_code 139 = .ok (.iadd, 1) := by decide +kernel
theorem d5_14 : decode prog_7_method_5_code 14 = .ok (.putfield 17, 3) := by decide +kernel
theorem d5_140 : decode prog_7_method_5_code 140 = .ok (.istore 6, 2) := by decide +kernel
theorem d5_142 : decode prog_7_method_5_code 142 = .ok (.goto (-98), 3) := by decide +kernel
theorem d5_145 : decode prog_7_method_5_code 145 = .ok (.aload_n 0, 1) := by decide +kernel
theorem d5_146 : decode prog_7_method_5_code 146 = .ok (.getfield 7, 3) := by decide +kernel
theorem d5_149 : decode prog_7_method_5_code 149 = .ok (.iload 5, 2) := by decide +kernel
theorem d5_151 : decode prog_7_method_5_code 151 = .ok (.dload_n 2, 1) := by decide +kernel
theorem d5_152 : decode prog_7_method_5_code 152 = .ok (.dastore, 1) := by decide +kernel
theorem d5_153 : decode prog_7_method_5_code 153 = .ok (.aload_n 0, 1) := by decide +kernel
theorem d5_154 : decode prog_7_method_5_code 154 = .ok (.getfield 13, 3) := by decide +kernel
theorem d5_157 : decode prog_7_method_5_code 157 = .ok (.iload 5, 2) := by decide +kernel
theorem d5_159 : decode prog_7_method_5_code 159 = .ok (.iload 4, 2) := by decide +kernel
theorem d5_161 : decode prog_7_method_5_code 161 = .ok (.iastore, 1) := by decide +kernel
theorem d5_162 : decode prog_7_method_5_code 162 = .ok (.iload_n 1, 1) := by decide +kernel
theorem d5_163 : decode prog_7_method_5_code 163 = .ok (.ireturn, 1) := by decide +kernel
theorem d5_17 : decode prog_7_method_5_code 17 = .ok (.aload_n 0, 1) := by decide +kernel
theorem d5_18 : decode prog_7_method_5_code 18 = .ok (.getfield 7, 3) := by decide +kernel
theorem d5_21 : decode prog_7_method_5_code 21 = .ok (.aload_n 0, 1) := by decide +kernel
theorem d5_22 : decode prog_7_method_5_code 22 = .ok (.getfield 17, 3) := by decide +kernel
theorem d5_25 : decode prog_7_method_5_code 25 = .ok (.daload, 1) := by decide +kernel
theorem d5_26 : decode prog_7_method_5_code 26 = .ok (.dstore_n 2, 1) := by decide +kernel
theorem d5_27 : decode prog_7_method_5_code 27 = .ok (.aload_n 0, 1) := by decide +kernel
theorem d5_28 : decode prog_7_method_5_code 28 = .ok (.getfield 13, 3) := by decide +kernel
theorem d5_31 : decode prog_7_method_5_code 31 = .ok (.aload_n 0, 1) := by decide +kernel
theorem d5_32 : decode prog_7_method_5_code 32 = .ok (.getfield 17, 3) := by decide +kernel
theorem d5_35 : decode prog_7_method_5_code 35 = .ok (.iaload, 1) := by decide +kernel
theorem d5_36 : decode prog_7_method_5_code 36 = .ok (.istore 4, 2) := by decide +kernel
theorem d5_38 : decode prog_7_method_5_code 38 = .ok (.iconst 0, 1) := by decide +kernel
theorem d5_39 : decode prog_7_method_5_code 39 = .ok (.istore 5, 2) := by decide +kernel
theorem d5_4 : decode prog_7_method_5_code 4 = .ok (.iconst 0, 1) := by decide +kernel
theorem d5_41 : decode prog_7_method_5_code 41 = .ok (.iconst 1, 1) := by decide +kernel
theorem d5_42 : decode prog_7_method_5_code 42 = .ok (.istore 6, 2) := by decide +kernel
theorem d5_44 : decode prog_7_method_5_code 44 = .ok (.iload 6, 2) := by decide +kernel
theorem d5_46 : decode prog_7_method_5_code 46 = .ok (.aload_n 0, 1) := by decide +kernel
theorem d5_47 : decode prog_7_method_5_code 47 = .ok (.getfield 17, 3) := by decide +kernel
theorem d5_5 : decode prog_7_method_5_code 5 = .ok (.iaload, 1) := by decide +kernel
theorem d5_50 : decode prog_7_method_5_code 50 = .ok (.if_icmp .ge 95, 3) := by decide +kernel
theorem d5_53 : decode prog_7_method_5_code 53 = .ok (.iload 6, 2) := by decide +kernel
theorem d5_55 : decode prog_7_method_5_code 55 = .ok (.iconst 1, 1) := by decide +kernel
theorem d5_56 : decode prog_7_method_5_code 56 = .ok (.iadd, 1) := by decide +kernel
theorem d5_57 : decode prog_7_method_5_code 57 = .ok (.aload_n 0, 1) := by decide +kernel
theorem d5_58 : decode prog_7_method_5_code 58 = .ok (.getfield 17, 3) := by decide +kernel
theorem d5_6 : decode prog_7_method_5_code 6 = .ok (.istore_n 1, 1) := by decide +kernel
theorem d5_61 : decode prog_7_method_5_code 61 = .ok (.if_icmp .ge 26, 3) := by decide +kernel
theorem d5_64 : decode prog_7_method_5_code 64 = .ok (.aload_n 0, 1) := by decide +kernel
theorem d5_65 : decode prog_7_method_5_code 65 = .ok (.getfield 7, 3) := by decide +kernel
theorem d5_68 : decode prog_7_method_5_code 68 = .ok (.iload 6, 2) := by decide +kernel
theorem d5_7 : decode prog_7_method_5_code 7 = .ok (.aload_n 0, 1) := by decide +kernel
theorem d5_70 : decode prog_7_method_5_code 70 = .ok (.iconst 1, 1) := by decide +kernel
theorem d5_71 : decode prog_7_method_5_code 71 = .ok (.iadd, 1) := by decide +kernel
theorem d5_72 : decode prog_7_method_5_code 72 = .ok (.daload, 1) := by decide +kernel
theorem d5_73 : decode prog_7_method_5_code 73 = .ok (.aload_n 0, 1) := by decide +kernel
theorem d5_74 : decode prog_7_method_5_code 74 = .ok (.getfield 7, 3) := by decide +kernel
theorem d5_77 : decode prog_7_method_5_code 77 = .ok (.iload 6, 2) := by decide +kernel
theorem d5_79 : decode prog_7_method_5_code 79 = .ok (.daload, 1) := by decide +kernel
theorem d5_8 : decode prog_7_method_5_code 8 = .ok (.dup, 1) := by decide +kernel
theorem d5_80 : decode prog_7_method_5_code 80 = .ok (.dcmp .g, 1) := by decide +kernel
theorem d5_81 : decode prog_7_method_5_code 81 = .ok (.ifCond .ge 6, 3) := by decide +kernel
theorem d5_84 : decode prog_7_method_5_code 84 = .ok (.iinc 6 1, 3) := by decide +kernel
theorem d5_87 : decode prog_7_method_5_code 87 = .ok (.aload_n 0, 1) := by decide +kernel
theorem d5_88 : decode prog_7_method_5_code 88 = .ok (.getfield 7, 3) := by decide +kernel
theorem d5_9 : decode prog_7_method_5_code 9 = .ok (.getfield 17, 3) := by decide +kernel
theorem d5_91 : decode prog_7_method_5_code 91 = .ok (.iload 6, 2) := by decide +kernel
theorem d5_93 : decode prog_7_method_5_code 93 = .ok (.daload, 1) := by decide +kernel
theorem d5_94 : decode prog_7_method_5_code 94 = .ok (.dload_n 2, 1) := by decide +kernel
theorem d5_95 : decode prog_7_method_5_code 95 = .ok (.dcmp .l, 1) := by decide +kernel
theorem d5_96 : decode prog_7_method_5_code 96 = .ok (.ifCond .lt 6, 3) := by decide +kernel
theorem d5_99 : decode prog_7_method_5_code 99 = .ok (.goto 46, 3) := by decide +kernel
/-- an object of class com/example/wedge/wedge/link/DepartureQueue, and what its fields hold -/
def IsDQ (Z : State) (h : Heap) (a : Addr) (v_times v_tags v_size : Value) : Prop := Exa Z h a "com/example/wedge/wedge/link/DepartureQueue" ∧ Fld Z h a "com/example/wedge/wedge/link/DepartureQueue" "times" "[D" v_times ∧ Fld Z h a "com/example/wedge/wedge/link/DepartureQueue" "tags" "[I" v_tags ∧ Fld Z h a "com/example/wedge/wedge/link/DepartureQueue" "size" "I" v_size
theorem IsDQ.exa {Z : State} {h : Heap} {a : Addr} {v_times v_tags v_size : Value} (O : IsDQ Z h a v_times v_tags v_size) : Exa Z h a "com/example/wedge/wedge/link/DepartureQueue" := O.1
theorem IsDQ.lt {Z : State} {h : Heap} {a : Addr} {v_times v_tags v_size : Value} (O : IsDQ Z h a v_times v_tags v_size) : a < h.size := (IsDQ.exa O).lt
theorem IsDQ.f_times {Z : State} {h : Heap} {a : Addr} {v_times v_tags v_size : Value} (O : IsDQ Z h a v_times v_tags v_size) : Fld Z h a "com/example/wedge/wedge/link/DepartureQueue" "times" "[D" v_times := O.2.1
theorem IsDQ.f_tags {Z : State} {h : Heap} {a : Addr} {v_times v_tags v_size : Value} (O : IsDQ Z h a v_times v_tags v_size) : Fld Z h a "com/example/wedge/wedge/link/DepartureQueue" "tags" "[I" v_tags := O.2.2.1
theorem IsDQ.f_size {Z : State} {h : Heap} {a : Addr} {v_times v_tags v_size : Value} (O : IsDQ Z h a v_times v_tags v_size) : Fld Z h a "com/example/wedge/wedge/link/DepartureQueue" "size" "I" v_size := O.2.2.2
theorem IsDQ.ext {Z : State} {h h' : Heap} {a : Addr} {v_times v_tags v_size : Value} (E : Ext h h') (O : IsDQ Z h a v_times v_tags v_size) : IsDQ Z h' a v_times v_tags v_size := ⟨(O.1).ext E, (O.2.1).ext E, (O.2.2.1).ext E, (O.2.2.2).ext E⟩
theorem IsDQ.keep {Z : State} {h h' : Heap} {a : Addr} {v_times v_tags v_size : Value} {ws : List Addr} (K : Keep h h' ws) (O : IsDQ Z h a v_times v_tags v_size) (q : a ∉ ws) : IsDQ Z h' a v_times v_tags v_size := ⟨(O.1).keep K, (O.2.1).keep K q, (O.2.2.1).keep K q, (O.2.2.2).keep K q⟩
theorem IsDQ.other {Z : State} {h h' : Heap} {a b : Addr} {v_times v_tags v_size : Value} {sl : Nat} {v : Value} (W : Wr h h' b sl v) (O : IsDQ Z h a v_times v_tags v_size) (q : a ≠ b) : IsDQ Z h' a v_times v_tags v_size := ⟨(O.1).wr W, (O.2.1).other W (Or.inl q), (O.2.2.1).other W (Or.inl q), (O.2.2.2).other W (Or.inl q)⟩
theorem IsDQ.s_times {Z : State} {h h' : Heap} {a : Addr} {v_times v_tags v_size : Value} {v : Value} {a0 : Array Value} (hw : ∀ d ∈ tables_1, d.before a0 Z = true) (W : Wr h h' a (RoadKit.slotOf Z "com/example/wedge/wedge/link/DepartureQueue" "times" "[D") v) (O : IsDQ Z h a v_times v_tags v_size) : IsDQ Z h' a v v_tags v_size := ⟨(O.1).wr W, (O.2.1).same W, (O.2.2.1).other W (Or.inr (slot_ne (a0 := a0) (C := "com/example/wedge/wedge/link/DepartureQueue") (Or.inl (w_14 hw)) (Or.inl (w_11 hw)) (by decide) (t := (.array .int)) (t' := (.array .double)) (by decide) (by decide))), (O.2.2.2).other W (Or.inr (slot_ne (a0 := a0) (C := "com/example/wedge/wedge/link/DepartureQueue") (Or.inl (w_21 hw)) (Or.inl (w_11 hw)) (by decide) (t := .int) (t' := (.array .double)) (by decide) (by decide)))⟩
theorem IsDQ.s_tags {Z : State} {h h' : Heap} {a : Addr} {v_times v_tags v_size : Value} {v : Value} {a0 : Array Value} (hw : ∀ d ∈ tables_1, d.before a0 Z = true) (W : Wr h h' a (RoadKit.slotOf Z "com/example/wedge/wedge/link/DepartureQueue" "tags" "[I") v) (O : IsDQ Z h a v_times v_tags v_size) : IsDQ Z h' a v_times v v_size := ⟨(O.1).wr W, (O.2.1).other W (Or.inr (slot_ne (a0 := a0) (C := "com/example/wedge/wedge/link/DepartureQueue") (Or.inl (w_11 hw)) (Or.inl (w_14 hw)) (by decide) (t := (.array .double)) (t' := (.array .int)) (by decide) (by decide))), (O.2.2.1).same W, (O.2.2.2).other W (Or.inr (slot_ne (a0 := a0) (C := "com/example/wedge/wedge/link/DepartureQueue") (Or.inl (w_21 hw)) (Or.inl (w_14 hw)) (by decide) (t := .int) (t' := (.array .int)) (by decide) (by decide)))⟩
theorem IsDQ.s_size {Z : State} {h h' : Heap} {a : Addr} {v_times v_tags v_size : Value} {v : Value} {a0 : Array Value} (hw : ∀ d ∈ tables_1, d.before a0 Z = true) (W : Wr h h' a (RoadKit.slotOf Z "com/example/wedge/wedge/link/DepartureQueue" "size" "I") v) (O : IsDQ Z h a v_times v_tags v_size) : IsDQ Z h' a v_times v_tags v := ⟨(O.1).wr W, (O.2.1).other W (Or.inr (slot_ne (a0 := a0) (C := "com/example/wedge/wedge/link/DepartureQueue") (Or.inl (w_11 hw)) (Or.inl (w_21 hw)) (by decide) (t := (.array .double)) (t' := .int) (by decide) (by decide))), (O.2.2.1).other W (Or.inr (slot_ne (a0 := a0) (C := "com/example/wedge/wedge/link/DepartureQueue") (Or.inl (w_14 hw)) (Or.inl (w_21 hw)) (by decide) (t := (.array .int)) (t' := .int) (by decide) (by decide))), (O.2.2.2).same W⟩
set_option maxRecDepth 65536 in
set_option maxHeartbeats 40000000 in
theorem rm_init (w : Bool) (l : Launch) (Z : State) (a0 : Array Value) (hw : ∀ d ∈ tables_1, d.before a0 Z = true) (q : Addr) (u1 u2 u3 : Value) (h0 : Heap) (n0 : Nat) (Z0 : n0 ≤ h0.size) (O_q : IsDQ Z h0 q u1 u2 u3) (old_q : n0 ≤ q) :
    Met w l Z (⟨"com/example/wedge/wedge/link/DepartureQueue", "<init>", "()V"⟩ : MethodName) prog_7_method_1_code 1 none [] ({ frames := 1, cells := 2, slots := 32, locals := 12 } : Room) #[(.ref q)] h0 n0 (fun v h => v = none ∧ Keep h0 h [q] ∧ ∃ (tm tg : Addr) (kT kG : ClassId), h0.size ≤ tm ∧ h0.size ≤ tg ∧ tm ≠ tg ∧ IsDQ Z h q (.ref tm) (.ref tg) u3 ∧ Ary Z h tm kT .double 16 (fun j => .double ((fun _ => 0) j)) ∧ Ary Z h tg kG .int 16 (fun j => .int ((fun _ => 0) j))) := by
  refine Met.of (plainFor_of_name (by first | (simp [plainName, overriddenIn]; done) | decide +kernel)) fun κ K => ?_
  refine WP.frame (g' := (mkF κ.m 0 #[.val (.ref q)] [])) (by first | (simp [entryFrame, mkF, argsToLocals, Value.category]; done) | rfl) ?_
  have KP := Keep.refl h0 [q]
  refine WP.aloadN K d1_0 rfl rfl (pc' := 1) rfl ?_
  refine WP.initO K (w_6 hw) (w_7 hw) (w_8 hw) d1_1 rfl (by decide) (W := 0) rfl (by decide) (pc' := 4) rfl ?_
  refine WP.aloadN K d1_4 rfl rfl (pc' := 5) rfl ?_
  refine WP.bipush K d1_5 (v := (16 : Int32)) rfl (pc' := 7) rfl ?_
  refine WP.newarray (aty := .double) K (w_9 hw) d1_7 (N := 16) (cap := 16) rfl (Nat.le_refl _) (by decide) (k' := 1) (n' := 16) rfl rfl (by decide) (by decide) (pc' := 9) rfl fun h1 tm kA_tm g1 E1 A_tm => ?_
  have ne_q_tm : q ≠ tm := fun z_ => by have q_ : @LT.lt Nat _ q h0.size := (IsDQ.lt O_q); have r_ : @Eq Nat q tm := z_; omega
  have old_tm : n0 ≤ tm := by have q_ := Z0; omega
  have osz_tm : h0.size ≤ tm := by have q_ := KP.1; omega
  have O_q := IsDQ.ext E1 O_q
  have KP := Keep.ext KP E1
  have Z0 := Nat.le_trans Z0 E1.1
  refine WP.putF K (w_10 hw) Via.refl (IsDQ.f_times O_q) (IsDQ.exa O_q) (Or.inl (w_11 hw)) (w_1 hw) (ty := (.array .double)) (by decide) rfl rfl old_q d1_9 (pc' := 12) rfl fun h2 W2 => ?_
  have A_tm := Ary.other W2 A_tm (Ne.symm ne_q_tm)
  have KP := Keep.wr KP W2 (Or.inl (List.mem_of_getElem? (i := 0) rfl))
  have Z0 := Nat.le_trans Z0 (Nat.le_of_eq W2.size.symm)
  have O_q := IsDQ.s_times hw W2 O_q
  refine WP.aloadN K d1_12 rfl rfl (pc' := 13) rfl ?_
  refine WP.bipush K d1_13 (v := (16 : Int32)) rfl (pc' := 15) rfl ?_
  refine WP.newarray (aty := .int) K (w_12 hw) d1_15 (N := 16) (cap := 16) rfl (Nat.le_refl _) (by decide) (k' := 2) (n' := 32) rfl rfl (by decide) (by decide) (pc' := 17) rfl fun h3 tg kA_tg g3 E3 A_tg => ?_
  have ne_q_tg : q ≠ tg := fun z_ => by have q_ : @LT.lt Nat _ q h2.size := (IsDQ.lt O_q); have r_ : @Eq Nat q tg := z_; omega
  have ne_tm_tg : tm ≠ tg := fun z_ => by have q_ : @LT.lt Nat _ tm h2.size := (Ary.lt A_tm); have r_ : @Eq Nat tm tg := z_; omega
  have old_tg : n0 ≤ tg := by have q_ := Z0; omega
  have osz_tg : h0.size ≤ tg := by have q_ := KP.1; omega
  have O_q := IsDQ.ext E3 O_q
  have A_tm := Ary.ext E3 A_tm
  have KP := Keep.ext KP E3
  have Z0 := Nat.le_trans Z0 E3.1
  refine WP.putF K (w_13 hw) Via.refl (IsDQ.f_tags O_q) (IsDQ.exa O_q) (Or.inl (w_14 hw)) (w_1 hw) (ty := (.array .int)) (by decide) rfl rfl old_q d1_17 (pc' := 20) rfl fun h4 W4 => ?_
  have A_tm := Ary.other W4 A_tm (Ne.symm ne_q_tm)
  have A_tg := Ary.other W4 A_tg (Ne.symm ne_q_tg)
  have KP := Keep.wr KP W4 (Or.inl (List.mem_of_getElem? (i := 0) rfl))
  have Z0 := Nat.le_trans Z0 (Nat.le_of_eq W4.size.symm)
  have O_q := IsDQ.s_tags hw W4 O_q
  exact WP.ret0 K d1_20 (by decide) (by decide) ⟨rfl, KP, tm, tg, kA_tm, kA_tg, osz_tm, osz_tg, ne_tm_tg, O_q, A_tm, A_tg⟩
set_option maxRecDepth 65536 in
set_option maxHeartbeats 40000000 in
theorem rm_isEmpty (w : Bool) (l : Launch) (Z : State) (a0 : Array Value) (hw : ∀ d ∈ tables_1, d.before a0 Z = true) (q tm tg : Addr) (sz : Int32) (h0 : Heap) (n0 : Nat) (Z0 : n0 ≤ h0.size) (O_q : IsDQ Z h0 q (.ref tm) (.ref tg) (.int sz)) :
    Met w l Z (⟨"com/example/wedge/wedge/link/DepartureQueue", "isEmpty", "()Z"⟩ : MethodName) prog_7_method_2_code 1 (some .boolean) [] ({ frames := 0, cells := 0, slots := 0, locals := 0 } : Room) #[(.ref q)] h0 n0 (fun v h => v = some (.int (nar .boolean (if sz = (0 : Int32) then (1 : Int32) else (0 : Int32)))) ∧ h0 = h) := by
  refine Met.of (plainFor_of_name (by first | (simp [plainName, overriddenIn]; done) | decide +kernel)) fun κ K => ?_
  refine WP.frame (g' := (mkF κ.m 0 #[.val (.ref q)] [])) (by first | (simp [entryFrame, mkF, argsToLocals, Value.category]; done) | rfl) ?_
  refine WP.aloadN K d3_0 rfl rfl (pc' := 1) rfl ?_
  refine WP.getF K (w_20 hw) Via.refl (IsDQ.f_size O_q) d3_1 (pc' := 4) rfl ?_
  refine WP.meet (g' := (mkF κ.m 12 #[.val (.ref q)] [(.int (if sz = (0 : Int32) then (1 : Int32) else (0 : Int32)))])) (fun HJ => ?_) ?_
  · by_cases c5 : sz = (0 : Int32)
    · try simp only [if_pos c5] at HJ
      refine WP.if0F K d3_4 ((if0 _ _).trans (teq c5).2) (pc' := 7) rfl ?_
      refine WP.iconst K d3_7 (v := (1 : Int32)) rfl (pc' := 8) rfl ?_
      refine WP.goto K d3_8 (by decide) (pc' := 12) (by decide) ?_
      exact HJ
    · try simp only [if_neg c5] at HJ
      refine WP.if0T K d3_4 ((if0 _ _).trans (feq c5).2) (by decide) (pc' := 11) (by decide) ?_
      refine WP.iconst K d3_11 (v := (0 : Int32)) rfl (pc' := 12) rfl ?_
      exact HJ
  · skip
    exact WP.retN K (ty := .boolean) (by decide) d3_12 (by decide) (by decide) ⟨rfl, rfl⟩
set_option maxRecDepth 65536 in
set_option maxHeartbeats 40000000 in
theorem rm_add (w : Bool) (l : Launch) (Z : State) (a0 : Array Value) (hw : ∀ d ∈ tables_1, d.before a0 Z = true) (q tm tg : Addr) (kT kG : ClassId) (sz : Int32) (n : Nat) (T : Nat → UInt64) (G : Nat → Int32) (time : UInt64) (tag : Int32) (h0 : Heap) (n0 : Nat) (Z0 : n0 ≤ h0.size) (O_q : IsDQ Z h0 q (.ref tm) (.ref tg) (.int sz)) (A_tm : Ary Z h0 tm kT .double 16 (fun j => .double (T j))) (A_tg : Ary Z h0 tg kG .int 16 (fun j => .int (G j))) (ne_t : tm ≠ tg) (old_q : n0 ≤ q) (old_tm : n0 ≤ tm) (old_tg : n0 ≤ tg) (hn : sz.toInt = (n : Int)) (hb : n < 15) :
    Met w l Z (⟨"com/example/wedge/wedge/link/DepartureQueue", "add", "(DI)V"⟩ : MethodName) prog_7_method_4_code 6 none [] ({ frames := 0, cells := 0, slots := 0, locals := 0 } : Room) #[(.ref q), (.double time), (.int tag)] h0 n0 (fun v h => v = none ∧ Keep h0 h [q, tm, tg] ∧ IsDQ Z h q (.ref tm) (.ref tg) (.int (sz + (1 : Int32))) ∧ Ary Z h tm kT .double 16 (fun j => .double ((own_up time tag (n + 1) n T G).1 j)) ∧ Ary Z h tg kG .int 16 (fun j => .int ((own_up time tag (n + 1) n T G).2 j))) := by
  refine Met.of (plainFor_of_name (by first | (simp [plainName, overriddenIn]; done) | decide +kernel)) fun κ K => ?_
  refine WP.frame (g' := (mkF κ.m 0 #[.val (.ref q), .val (.double time), .second, .val (.int tag), .unset, .unset] [])) (by first | (simp [entryFrame, mkF, argsToLocals, Value.category]; done) | rfl) ?_
  have KP := Keep.refl h0 [q, tm, tg]
  refine WP.aloadN K d4_0 rfl rfl (pc' := 1) rfl ?_
  refine WP.getF K (w_20 hw) Via.refl (IsDQ.f_size O_q) d4_1 (pc' := 4) rfl ?_
  refine WP.aloadN K d4_4 rfl rfl (pc' := 5) rfl ?_
  refine WP.getF K (w_10 hw) Via.refl (IsDQ.f_times O_q) d4_5 (pc' := 8) rfl ?_
  refine WP.arraylength K A_tm d4_8 (pc' := 9) rfl ?_
  show WP κ h0 0 0 (mkF κ.m 9 #[.val (.ref q), .val (.double time), .second, .val (.int tag), .unset, .unset] [(.int (16 : Int32)), (.int sz)])
  have c0 : ¬ (sz = (16 : Int32)) := fun z => by rw [z] at hn; have e : (16 : Int32).toInt = 16 := (by decide); omega
  refine WP.icmpT K d4_9 (feq c0).2 (by decide) (pc' := 46) (by decide) ?_
  refine WP.aloadN K d4_46 rfl rfl (pc' := 47) rfl ?_
  refine WP.dup K d4_47 rfl (pc' := 48) rfl ?_
  refine WP.getF K (w_20 hw) Via.refl (IsDQ.f_size O_q) d4_48 (pc' := 51) rfl ?_
  refine WP.dup_x1 K d4_51 rfl rfl (pc' := 52) rfl ?_
  refine WP.iconst K d4_52 (v := (1 : Int32)) rfl (pc' := 53) rfl ?_
  refine WP.iadd K d4_53 (pc' := 54) rfl ?_
  refine WP.putF K (w_20 hw) Via.refl (IsDQ.f_size O_q) (IsDQ.exa O_q) (Or.inl (w_21 hw)) (w_1 hw) (ty := .int) (by decide) rfl rfl old_q d4_54 (pc' := 57) rfl fun h6 W6 => ?_
  have A_tm := Ary.other W6 A_tm (Ne.symm (Ary.ne (IsDQ.exa O_q) A_tm (w_1 hw)))
  have A_tg := Ary.other W6 A_tg (Ne.symm (Ary.ne (IsDQ.exa O_q) A_tg (w_1 hw)))
  have KP := Keep.wr KP W6 (Or.inl (List.mem_of_getElem? (i := 0) rfl))
  have Z0 := Nat.le_trans Z0 (Nat.le_of_eq W6.size.symm)
  have O_q := IsDQ.s_size hw W6 O_q
  refine WP.istore K d4_57 (L' := #[.val (.ref q), .val (.double time), .second, .val (.int tag), .val (.int sz), .unset]) rfl (pc' := 59) rfl ?_
  have LOOP : ∀ (f hole : Nat) (x : Int32) (s5 : Slot) (h : Heap) (T' : Nat → UInt64) (G' : Nat → Int32), hole < f → x.toInt = (hole : Int) → hole ≤ n → One s5 → own_up time tag f hole T' G' = own_up time tag (n + 1) n T G → IsDQ Z h q (.ref tm) (.ref tg) (.int (sz + (1 : Int32))) → Ary Z h tm kT .double 16 (fun j => .double (T' j)) → Ary Z h tg kG .int 16 (fun j => .int (G' j)) → Keep h0 h [q, tm, tg] → n0 ≤ h.size → WP κ h 0 0 (mkF κ.m 59 #[.val (.ref q), .val (.double time), .second, .val (.int tag), .val (.int x), s5] []) := by
    intro f
    induction f with
    | zero => intro hole x s5 h T' G' hf; omega
    | succ f ih =>
      intro hole x s5 h T' G' hf hx hle o_s5 hres O_q A_tm A_tg KP Z0
      have STOP : (fset T' hole time, fset G' hole tag) = own_up time tag (n + 1) n T G → WP κ h 0 0 (mkF κ.m 123 #[.val (.ref q), .val (.double time), .second, .val (.int tag), .val (.int x), s5] []) := by
        intro hr
        refine WP.aloadN K d4_123 rfl rfl (pc' := 124) rfl ?_
        refine WP.getF K (w_10 hw) Via.refl (IsDQ.f_times O_q) d4_124 (pc' := 127) rfl ?_
        refine WP.iload K d4_127 rfl (pc' := 129) rfl ?_
        refine WP.dloadN K d4_129 rfl (pc' := 130) rfl ?_
        refine WP.dastore K (i := hole) A_tm hx (by omega) old_tm d4_130 (pc' := 131) rfl fun h7 W7 A_n => ?_
        have O_q := IsDQ.other W7 O_q (Ary.ne (IsDQ.exa O_q) A_tm (w_1 hw))
        have A_tg := Ary.other W7 A_tg (Ne.symm ne_t)
        have KP := Keep.wr KP W7 (Or.inl (List.mem_of_getElem? (i := 1) rfl))
        have Z0 := Nat.le_trans Z0 (Nat.le_of_eq W7.size.symm)
        have A_tm := A_n
        rw [upd_double] at A_tm
        refine WP.aloadN K d4_131 rfl rfl (pc' := 132) rfl ?_
        refine WP.getF K (w_13 hw) Via.refl (IsDQ.f_tags O_q) d4_132 (pc' := 135) rfl ?_
        refine WP.iload K d4_135 rfl (pc' := 137) rfl ?_
        refine WP.iloadN K d4_137 rfl (pc' := 138) rfl ?_
        refine WP.iastore K (i := hole) A_tg hx (by omega) old_tg d4_138 (pc' := 139) rfl fun h8 W8 A_n => ?_
        have O_q := IsDQ.other W8 O_q (Ary.ne (IsDQ.exa O_q) A_tg (w_1 hw))
        have A_tm := Ary.other W8 A_tm ne_t
        have KP := Keep.wr KP W8 (Or.inl (List.mem_of_getElem? (i := 2) rfl))
        have Z0 := Nat.le_trans Z0 (Nat.le_of_eq W8.size.symm)
        have A_tg := A_n
        rw [upd_int] at A_tg
        exact WP.ret0 K d4_139 (by decide) (by decide) ⟨rfl, KP, O_q, by rw [← hr]; exact A_tm, by rw [← hr]; exact A_tg⟩
      refine WP.iload K d4_59 rfl (pc' := 61) rfl ?_
      by_cases c1 : (0 : Int32) < x
      · have hz : ¬ hole = 0 := by rw [Int32.lt_iff_toInt_lt] at c1; have e : (0 : Int32).toInt = 0 := (rfl); omega
        refine WP.if0F K d4_61 ((if0 _ _).trans (tlt c1).2.2.2) (pc' := 64) rfl ?_
        have hp := own_par hx (by omega)
        refine WP.aloadN K d4_64 rfl rfl (pc' := 65) rfl ?_
        refine WP.getF K (w_10 hw) Via.refl (IsDQ.f_times O_q) d4_65 (pc' := 68) rfl ?_
        refine WP.iload K d4_68 rfl (pc' := 70) rfl ?_
        refine WP.iconst K d4_70 (v := (1 : Int32)) rfl (pc' := 71) rfl ?_
        refine WP.isub K d4_71 (pc' := 72) rfl ?_
        refine WP.iconst K d4_72 (v := (2 : Int32)) rfl (pc' := 73) rfl ?_
        refine WP.idiv K d4_73 (by decide) (pc' := 74) rfl ?_
        refine WP.daload K (i := ((hole - 1) / 2)) A_tm hp (by omega) (v := (.double (T' ((hole - 1) / 2)))) rfl d4_74 (pc' := 75) rfl ?_
        refine WP.dloadN K d4_75 rfl (pc' := 76) rfl ?_
        refine WP.dcmp K d4_76 (pc' := 77) rfl ?_
        by_cases c2 : (0 : Int32) < (cmpValue (FP.dcmp (T' ((hole - 1) / 2)) time) .l)
        · refine WP.if0F K d4_77 ((if0 _ _).trans (tlt c2).2.2.2) (pc' := 80) rfl ?_
          refine WP.iload K d4_80 rfl (pc' := 82) rfl ?_
          refine WP.iconst K d4_82 (v := (1 : Int32)) rfl (pc' := 83) rfl ?_
          refine WP.isub K d4_83 (pc' := 84) rfl ?_
          refine WP.iconst K d4_84 (v := (2 : Int32)) rfl (pc' := 85) rfl ?_
          refine WP.idiv K d4_85 (by decide) (pc' := 86) rfl ?_
          refine WP.istore K d4_86 (L' := #[.val (.ref q), .val (.double time), .second, .val (.int tag), .val (.int x), .val (.int ((x - (1 : Int32)) / (2 : Int32)))]) (by rcases o_s5 with rfl | ⟨w, rfl, hw⟩ <;> first | rfl | (cases w <;> first | rfl | (simp [Value.category] at hw))) (pc' := 88) rfl ?_
          refine WP.aloadN K d4_88 rfl rfl (pc' := 89) rfl ?_
          refine WP.getF K (w_10 hw) Via.refl (IsDQ.f_times O_q) d4_89 (pc' := 92) rfl ?_
          refine WP.iload K d4_92 rfl (pc' := 94) rfl ?_
          refine WP.aloadN K d4_94 rfl rfl (pc' := 95) rfl ?_
          refine WP.getF K (w_10 hw) Via.refl (IsDQ.f_times O_q) d4_95 (pc' := 98) rfl ?_
          refine WP.iload K d4_98 rfl (pc' := 100) rfl ?_
          refine WP.daload K (i := ((hole - 1) / 2)) A_tm hp (by omega) (v := (.double (T' ((hole - 1) / 2)))) rfl d4_100 (pc' := 101) rfl ?_
          refine WP.dastore K (i := hole) A_tm hx (by omega) old_tm d4_101 (pc' := 102) rfl fun h9 W9 A_n => ?_
          have O_q := IsDQ.other W9 O_q (Ary.ne (IsDQ.exa O_q) A_tm (w_1 hw))
          have A_tg := Ary.other W9 A_tg (Ne.symm ne_t)
          have KP := Keep.wr KP W9 (Or.inl (List.mem_of_getElem? (i := 1) rfl))
          have Z0 := Nat.le_trans Z0 (Nat.le_of_eq W9.size.symm)
          have A_tm := A_n
          rw [upd_double] at A_tm
          refine WP.aloadN K d4_102 rfl rfl (pc' := 103) rfl ?_
          refine WP.getF K (w_13 hw) Via.refl (IsDQ.f_tags O_q) d4_103 (pc' := 106) rfl ?_
          refine WP.iload K d4_106 rfl (pc' := 108) rfl ?_
          refine WP.aloadN K d4_108 rfl rfl (pc' := 109) rfl ?_
          refine WP.getF K (w_13 hw) Via.refl (IsDQ.f_tags O_q) d4_109 (pc' := 112) rfl ?_
          refine WP.iload K d4_112 rfl (pc' := 114) rfl ?_
          refine WP.iaload K (i := ((hole - 1) / 2)) A_tg hp (by omega) (v := (.int (G' ((hole - 1) / 2)))) rfl d4_114 (pc' := 115) rfl ?_
          refine WP.iastore K (i := hole) A_tg hx (by omega) old_tg d4_115 (pc' := 116) rfl fun h10 W10 A_n => ?_
          have O_q := IsDQ.other W10 O_q (Ary.ne (IsDQ.exa O_q) A_tg (w_1 hw))
          have A_tm := Ary.other W10 A_tm ne_t
          have KP := Keep.wr KP W10 (Or.inl (List.mem_of_getElem? (i := 2) rfl))
          have Z0 := Nat.le_trans Z0 (Nat.le_of_eq W10.size.symm)
          have A_tg := A_n
          rw [upd_int] at A_tg
          refine WP.iload K d4_116 rfl (pc' := 118) rfl ?_
          refine WP.istore K d4_118 (L' := #[.val (.ref q), .val (.double time), .second, .val (.int tag), .val (.int ((x - (1 : Int32)) / (2 : Int32))), .val (.int ((x - (1 : Int32)) / (2 : Int32)))]) rfl (pc' := 120) rfl ?_
          refine WP.goto K d4_120 (by decide) (pc' := 59) (by decide) ?_
          refine ih ((hole - 1) / 2) _ _ _ _ _ (by omega) hp (by omega) (One.val rfl) ?_ O_q A_tm A_tg KP Z0
          rw [← hres, own_up, if_neg hz, if_pos c2]
        · refine WP.if0T K d4_77 ((if0 _ _).trans (flt c2).2.2.2) (by decide) (pc' := 123) (by decide) ?_
          refine STOP ?_
          rw [← hres, own_up, if_neg hz, if_neg c2]
      · have hz : hole = 0 := by rw [Int32.lt_iff_toInt_lt] at c1; have e : (0 : Int32).toInt = 0 := (rfl); omega
        refine WP.if0T K d4_61 ((if0 _ _).trans (flt c1).2.2.2) (by decide) (pc' := 123) (by decide) ?_
        refine STOP ?_
        rw [← hres, own_up, if_pos hz]
  exact LOOP (n + 1) n sz .unset _ T G (by omega) hn (by omega) One.u rfl O_q A_tm A_tg KP Z0
set_option maxRecDepth 65536 in
set_option maxHeartbeats 40000000 in
theorem rm_rem (w : Bool) (l : Launch) (Z : State) (a0 : Array Value) (hw : ∀ d ∈ tables_1, d.before a0 Z = true) (q tm tg : Addr) (kT kG : ClassId) (sz : Int32) (n : Nat) (T : Nat → UInt64) (G : Nat → Int32) (h0 : Heap) (n0 : Nat) (Z0 : n0 ≤ h0.size) (O_q : IsDQ Z h0 q (.ref tm) (.ref tg) (.int sz)) (A_tm : Ary Z h0 tm kT .double 16 (fun j => .double (T j))) (A_tg : Ary Z h0 tg kG .int 16 (fun j => .int (G j))) (ne_t : tm ≠ tg) (old_q : n0 ≤ q) (old_tm : n0 ≤ tm) (old_tg : n0 ≤ tg) (hn : sz.toInt = (n : Int)) (hb : n < 16) (hb0 : 0 < n) :
    Met w l Z (⟨"com/example/wedge/wedge/link/DepartureQueue", "removeFirst", "()I"⟩ : MethodName) prog_7_method_5_code 7 (some .int) [] ({ frames := 0, cells := 0, slots := 0, locals := 0 } : Room) #[(.ref q)] h0 n0 (fun v h => v = some (.int (G 0)) ∧ Keep h0 h [q, tm, tg] ∧ IsDQ Z h q (.ref tm) (.ref tg) (.int (sz - (1 : Int32))) ∧ Ary Z h tm kT .double 16 (fun j => .double ((own_dn (T (n - 1)) (G (n - 1)) (n - 1) (n + 1) 0 1 T G).1 j)) ∧ Ary Z h tg kG .int 16 (fun j => .int ((own_dn (T (n - 1)) (G (n - 1)) (n - 1) (n + 1) 0 1 T G).2 j))) := by
  refine Met.of (plainFor_of_name (by first | (simp [plainName, overriddenIn]; done) | decide +kernel)) fun κ K => ?_
  refine WP.frame (g' := (mkF κ.m 0 #[.val (.ref q), .unset, .unset, .unset, .unset, .unset, .unset] [])) (by first | (simp [entryFrame, mkF, argsToLocals, Value.category]; done) | rfl) ?_
  have KP := Keep.refl h0 [q, tm, tg]
  refine WP.aloadN K d5_0 rfl rfl (pc' := 1) rfl ?_
  refine WP.getF K (w_13 hw) Via.refl (IsDQ.f_tags O_q) d5_1 (pc' := 4) rfl ?_
  refine WP.iconst K d5_4 (v := (0 : Int32)) rfl (pc' := 5) rfl ?_
  refine WP.iaload K (i := 0) A_tg rfl (by decide) (v := (.int (G 0))) rfl d5_5 (pc' := 6) rfl ?_
  refine WP.istoreN K d5_6 (L' := #[.val (.ref q), .val (.int (G 0)), .unset, .unset, .unset, .unset, .unset]) rfl (pc' := 7) rfl ?_
  refine WP.aloadN K d5_7 rfl rfl (pc' := 8) rfl ?_
  refine WP.dup K d5_8 rfl (pc' := 9) rfl ?_
  refine WP.getF K (w_20 hw) Via.refl (IsDQ.f_size O_q) d5_9 (pc' := 12) rfl ?_
  refine WP.iconst K d5_12 (v := (1 : Int32)) rfl (pc' := 13) rfl ?_
  refine WP.isub K d5_13 (pc' := 14) rfl ?_
  refine WP.putF K (w_20 hw) Via.refl (IsDQ.f_size O_q) (IsDQ.exa O_q) (Or.inl (w_21 hw)) (w_1 hw) (ty := .int) (by decide) rfl rfl old_q d5_14 (pc' := 17) rfl fun h11 W11 => ?_
  have A_tm := Ary.other W11 A_tm (Ne.symm (Ary.ne (IsDQ.exa O_q) A_tm (w_1 hw)))
  have A_tg := Ary.other W11 A_tg (Ne.symm (Ary.ne (IsDQ.exa O_q) A_tg (w_1 hw)))
  have KP := Keep.wr KP W11 (Or.inl (List.mem_of_getElem? (i := 0) rfl))
  have Z0 := Nat.le_trans Z0 (Nat.le_of_eq W11.size.symm)
  have O_q := IsDQ.s_size hw W11 O_q
  refine WP.aloadN K d5_17 rfl rfl (pc' := 18) rfl ?_
  refine WP.getF K (w_10 hw) Via.refl (IsDQ.f_times O_q) d5_18 (pc' := 21) rfl ?_
  refine WP.aloadN K d5_21 rfl rfl (pc' := 22) rfl ?_
  refine WP.getF K (w_20 hw) Via.refl (IsDQ.f_size O_q) d5_22 (pc' := 25) rfl ?_
  have hm := own_dec hn hb0
  refine WP.daload K (i := (n - 1)) A_tm hm (by omega) (v := (.double (T (n - 1)))) rfl d5_25 (pc' := 26) rfl ?_
  refine WP.dstoreN K d5_26 (L' := #[.val (.ref q), .val (.int (G 0)), .val (.double (T (n - 1))), .second, .unset, .unset, .unset]) rfl (pc' := 27) rfl ?_
  refine WP.aloadN K d5_27 rfl rfl (pc' := 28) rfl ?_
  refine WP.getF K (w_13 hw) Via.refl (IsDQ.f_tags O_q) d5_28 (pc' := 31) rfl ?_
  refine WP.aloadN K d5_31 rfl rfl (pc' := 32) rfl ?_
  refine WP.getF K (w_20 hw) Via.refl (IsDQ.f_size O_q) d5_32 (pc' := 35) rfl ?_
  refine WP.iaload K (i := (n - 1)) A_tg hm (by omega) (v := (.int (G (n - 1)))) rfl d5_35 (pc' := 36) rfl ?_
  refine WP.istore K d5_36 (L' := #[.val (.ref q), .val (.int (G 0)), .val (.double (T (n - 1))), .second, .val (.int (G (n - 1))), .unset, .unset]) rfl (pc' := 38) rfl ?_
  refine WP.iconst K d5_38 (v := (0 : Int32)) rfl (pc' := 39) rfl ?_
  refine WP.istore K d5_39 (L' := #[.val (.ref q), .val (.int (G 0)), .val (.double (T (n - 1))), .second, .val (.int (G (n - 1))), .val (.int (0 : Int32)), .unset]) rfl (pc' := 41) rfl ?_
  refine WP.iconst K d5_41 (v := (1 : Int32)) rfl (pc' := 42) rfl ?_
  refine WP.istore K d5_42 (L' := #[.val (.ref q), .val (.int (G 0)), .val (.double (T (n - 1))), .second, .val (.int (G (n - 1))), .val (.int (0 : Int32)), .val (.int (1 : Int32))]) rfl (pc' := 44) rfl ?_
  have LOOP : ∀ (f hole child : Nat) (x y : Int32) (h : Heap) (T' : Nat → UInt64) (G' : Nat → Int32), n < f + hole → hole < child → hole < n → child ≤ 2 * n + 1 → x.toInt = (hole : Int) → y.toInt = (child : Int) → own_dn (T (n - 1)) (G (n - 1)) (n - 1) f hole child T' G' = own_dn (T (n - 1)) (G (n - 1)) (n - 1) (n + 1) 0 1 T G → IsDQ Z h q (.ref tm) (.ref tg) (.int (sz - (1 : Int32))) → Ary Z h tm kT .double 16 (fun j => .double (T' j)) → Ary Z h tg kG .int 16 (fun j => .int (G' j)) → Keep h0 h [q, tm, tg] → n0 ≤ h.size → WP κ h 0 0 (mkF κ.m 44 #[.val (.ref q), .val (.int (G 0)), .val (.double (T (n - 1))), .second, .val (.int (G (n - 1))), .val (.int x), .val (.int y)] []) := by
    intro f
    induction f with
    | zero => intro hole child x y h T' G' hf; omega
    | succ f ih =>
      intro hole child x y h T' G' hf hhc hhn hcn hx hy hres O_q A_tm A_tg KP Z0
      have STOP : ∀ y' : Int32, (fset T' hole (T (n - 1)), fset G' hole (G (n - 1))) = own_dn (T (n - 1)) (G (n - 1)) (n - 1) (n + 1) 0 1 T G → WP κ h 0 0 (mkF κ.m 145 #[.val (.ref q), .val (.int (G 0)), .val (.double (T (n - 1))), .second, .val (.int (G (n - 1))), .val (.int x), .val (.int y')] []) := by
        intro y' hr
        refine WP.aloadN K d5_145 rfl rfl (pc' := 146) rfl ?_
        refine WP.getF K (w_10 hw) Via.refl (IsDQ.f_times O_q) d5_146 (pc' := 149) rfl ?_
        refine WP.iload K d5_149 rfl (pc' := 151) rfl ?_
        refine WP.dloadN K d5_151 rfl (pc' := 152) rfl ?_
        refine WP.dastore K (i := hole) A_tm hx (by omega) old_tm d5_152 (pc' := 153) rfl fun h12 W12 A_n => ?_
        have O_q := IsDQ.other W12 O_q (Ary.ne (IsDQ.exa O_q) A_tm (w_1 hw))
        have A_tg := Ary.other W12 A_tg (Ne.symm ne_t)
        have KP := Keep.wr KP W12 (Or.inl (List.mem_of_getElem? (i := 1) rfl))
        have Z0 := Nat.le_trans Z0 (Nat.le_of_eq W12.size.symm)
        have A_tm := A_n
        rw [upd_double] at A_tm
        refine WP.aloadN K d5_153 rfl rfl (pc' := 154) rfl ?_
        refine WP.getF K (w_13 hw) Via.refl (IsDQ.f_tags O_q) d5_154 (pc' := 157) rfl ?_
        refine WP.iload K d5_157 rfl (pc' := 159) rfl ?_
        refine WP.iload K d5_159 rfl (pc' := 161) rfl ?_
        refine WP.iastore K (i := hole) A_tg hx (by omega) old_tg d5_161 (pc' := 162) rfl fun h13 W13 A_n => ?_
        have O_q := IsDQ.other W13 O_q (Ary.ne (IsDQ.exa O_q) A_tg (w_1 hw))
        have A_tm := Ary.other W13 A_tm ne_t
        have KP := Keep.wr KP W13 (Or.inl (List.mem_of_getElem? (i := 2) rfl))
        have Z0 := Nat.le_trans Z0 (Nat.le_of_eq W13.size.symm)
        have A_tg := A_n
        rw [upd_int] at A_tg
        refine WP.iloadN K d5_162 rfl (pc' := 163) rfl ?_
        exact WP.retI K d5_163 (by decide) (by decide) ⟨rfl, KP, O_q, by rw [← hr]; exact A_tm, by rw [← hr]; exact A_tg⟩
      refine WP.iload K d5_44 rfl (pc' := 46) rfl ?_
      refine WP.aloadN K d5_46 rfl rfl (pc' := 47) rfl ?_
      refine WP.getF K (w_20 hw) Via.refl (IsDQ.f_size O_q) d5_47 (pc' := 50) rfl ?_
      by_cases c1 : y < (sz - (1 : Int32))
      · refine WP.icmpF K d5_50 (tlt c1).2.1 (pc' := 53) rfl ?_
        rw [own_ltN hy hm] at c1
        have hy1 := own_inc hy (y := (1 : Int32)) (k := 1) rfl (by omega)
        have PICK : ∀ (y' : Int32) (c : Nat), c = own_pick (n - 1) T' child → y'.toInt = (c : Int) → child ≤ c → c < n - 1 → WP κ h 0 0 (mkF κ.m 87 #[.val (.ref q), .val (.int (G 0)), .val (.double (T (n - 1))), .second, .val (.int (G (n - 1))), .val (.int x), .val (.int y')] []) := by
          intro y' c hc hy' hcc hcm
          refine WP.aloadN K d5_87 rfl rfl (pc' := 88) rfl ?_
          refine WP.getF K (w_10 hw) Via.refl (IsDQ.f_times O_q) d5_88 (pc' := 91) rfl ?_
          refine WP.iload K d5_91 rfl (pc' := 93) rfl ?_
          refine WP.daload K (i := c) A_tm hy' (by omega) (v := (.double (T' c))) rfl d5_93 (pc' := 94) rfl ?_
          refine WP.dloadN K d5_94 rfl (pc' := 95) rfl ?_
          refine WP.dcmp K d5_95 (pc' := 96) rfl ?_
          by_cases c5 : (cmpValue (FP.dcmp (T' c) (T (n - 1))) .l) < (0 : Int32)
          · refine WP.if0T K d5_96 ((if0 _ _).trans (tlt c5).1) (by decide) (pc' := 102) (by decide) ?_
            refine WP.aloadN K d5_102 rfl rfl (pc' := 103) rfl ?_
            refine WP.getF K (w_10 hw) Via.refl (IsDQ.f_times O_q) d5_103 (pc' := 106) rfl ?_
            refine WP.iload K d5_106 rfl (pc' := 108) rfl ?_
            refine WP.aloadN K d5_108 rfl rfl (pc' := 109) rfl ?_
            refine WP.getF K (w_10 hw) Via.refl (IsDQ.f_times O_q) d5_109 (pc' := 112) rfl ?_
            refine WP.iload K d5_112 rfl (pc' := 114) rfl ?_
            refine WP.daload K (i := c) A_tm hy' (by omega) (v := (.double (T' c))) rfl d5_114 (pc' := 115) rfl ?_
            refine WP.dastore K (i := hole) A_tm hx (by omega) old_tm d5_115 (pc' := 116) rfl fun h14 W14 A_n => ?_
            have O_q := IsDQ.other W14 O_q (Ary.ne (IsDQ.exa O_q) A_tm (w_1 hw))
            have A_tg := Ary.other W14 A_tg (Ne.symm ne_t)
            have KP := Keep.wr KP W14 (Or.inl (List.mem_of_getElem? (i := 1) rfl))
            have Z0 := Nat.le_trans Z0 (Nat.le_of_eq W14.size.symm)
            have A_tm := A_n
            rw [upd_double] at A_tm
            refine WP.aloadN K d5_116 rfl rfl (pc' := 117) rfl ?_
            refine WP.getF K (w_13 hw) Via.refl (IsDQ.f_tags O_q) d5_117 (pc' := 120) rfl ?_
            refine WP.iload K d5_120 rfl (pc' := 122) rfl ?_
            refine WP.aloadN K d5_122 rfl rfl (pc' := 123) rfl ?_
            refine WP.getF K (w_13 hw) Via.refl (IsDQ.f_tags O_q) d5_123 (pc' := 126) rfl ?_
            refine WP.iload K d5_126 rfl (pc' := 128) rfl ?_
            refine WP.iaload K (i := c) A_tg hy' (by omega) (v := (.int (G' c))) rfl d5_128 (pc' := 129) rfl ?_
            refine WP.iastore K (i := hole) A_tg hx (by omega) old_tg d5_129 (pc' := 130) rfl fun h15 W15 A_n => ?_
            have O_q := IsDQ.other W15 O_q (Ary.ne (IsDQ.exa O_q) A_tg (w_1 hw))
            have A_tm := Ary.other W15 A_tm ne_t
            have KP := Keep.wr KP W15 (Or.inl (List.mem_of_getElem? (i := 2) rfl))
            have Z0 := Nat.le_trans Z0 (Nat.le_of_eq W15.size.symm)
            have A_tg := A_n
            rw [upd_int] at A_tg
            refine WP.iload K d5_130 rfl (pc' := 132) rfl ?_
            refine WP.istore K d5_132 (L' := #[.val (.ref q), .val (.int (G 0)), .val (.double (T (n - 1))), .second, .val (.int (G (n - 1))), .val (.int y'), .val (.int y')]) rfl (pc' := 134) rfl ?_
            refine WP.iconst K d5_134 (v := (2 : Int32)) rfl (pc' := 135) rfl ?_
            refine WP.iload K d5_135 rfl (pc' := 137) rfl ?_
            refine WP.imul K d5_137 (pc' := 138) rfl ?_
            refine WP.iconst K d5_138 (v := (1 : Int32)) rfl (pc' := 139) rfl ?_
            refine WP.iadd K d5_139 (pc' := 140) rfl ?_
            refine WP.istore K d5_140 (L' := #[.val (.ref q), .val (.int (G 0)), .val (.double (T (n - 1))), .second, .val (.int (G (n - 1))), .val (.int y'), .val (.int (((2 : Int32) * y') + (1 : Int32)))]) rfl (pc' := 142) rfl ?_
            refine WP.goto K d5_142 (by decide) (pc' := 44) (by decide) ?_
            refine ih c (2 * c + 1) _ _ _ _ _ (by omega) (by omega) (by omega) (by omega) hy' (own_two hy' (by omega)) ?_ O_q A_tm A_tg KP Z0
            rw [← hres, own_dn, if_pos c1, ← hc, if_pos c5]
          · refine WP.if0F K d5_96 ((if0 _ _).trans (flt c5).1) (pc' := 99) rfl ?_
            refine WP.goto K d5_99 (by decide) (pc' := 145) (by decide) ?_
            refine STOP _ ?_
            rw [← hres, own_dn, if_pos c1, ← hc, if_neg c5]
        refine WP.iload K d5_53 rfl (pc' := 55) rfl ?_
        refine WP.iconst K d5_55 (v := (1 : Int32)) rfl (pc' := 56) rfl ?_
        refine WP.iadd K d5_56 (pc' := 57) rfl ?_
        refine WP.aloadN K d5_57 rfl rfl (pc' := 58) rfl ?_
        refine WP.getF K (w_20 hw) Via.refl (IsDQ.f_size O_q) d5_58 (pc' := 61) rfl ?_
        by_cases c3 : (y + (1 : Int32)) < (sz - (1 : Int32))
        · refine WP.icmpF K d5_61 (tlt c3).2.1 (pc' := 64) rfl ?_
          rw [own_ltN hy1 hm] at c3
          refine WP.aloadN K d5_64 rfl rfl (pc' := 65) rfl ?_
          refine WP.getF K (w_10 hw) Via.refl (IsDQ.f_times O_q) d5_65 (pc' := 68) rfl ?_
          refine WP.iload K d5_68 rfl (pc' := 70) rfl ?_
          refine WP.iconst K d5_70 (v := (1 : Int32)) rfl (pc' := 71) rfl ?_
          refine WP.iadd K d5_71 (pc' := 72) rfl ?_
          refine WP.daload K (i := (child + 1)) A_tm hy1 (by omega) (v := (.double (T' (child + 1)))) rfl d5_72 (pc' := 73) rfl ?_
          refine WP.aloadN K d5_73 rfl rfl (pc' := 74) rfl ?_
          refine WP.getF K (w_10 hw) Via.refl (IsDQ.f_times O_q) d5_74 (pc' := 77) rfl ?_
          refine WP.iload K d5_77 rfl (pc' := 79) rfl ?_
          refine WP.daload K (i := child) A_tm hy (by omega) (v := (.double (T' child))) rfl d5_79 (pc' := 80) rfl ?_
          refine WP.dcmp K d5_80 (pc' := 81) rfl ?_
          by_cases c4 : (cmpValue (FP.dcmp (T' (child + 1)) (T' child)) .g) < (0 : Int32)
          · refine WP.if0F K d5_81 ((if0 _ _).trans (tlt c4).2.1) (pc' := 84) rfl ?_
            refine WP.iinc K d5_84 (v := (1 : Int32)) rfl rfl (L' := #[.val (.ref q), .val (.int (G 0)), .val (.double (T (n - 1))), .second, .val (.int (G (n - 1))), .val (.int x), .val (.int (y + (1 : Int32)))]) rfl (pc' := 87) rfl ?_
            refine PICK _ (child + 1) ?_ hy1 (by omega) c3
            rw [own_pick, if_pos ⟨c3, c4⟩]
          · refine WP.if0T K d5_81 ((if0 _ _).trans (flt c4).2.1) (by decide) (pc' := 87) (by decide) ?_
            refine PICK y child ?_ hy (by omega) c1
            rw [own_pick, if_neg (fun z => c4 z.2)]
        · refine WP.icmpT K d5_61 (flt c3).2.1 (by decide) (pc' := 87) (by decide) ?_
          rw [own_ltN hy1 hm] at c3
          refine PICK y child ?_ hy (by omega) c1
          rw [own_pick, if_neg (fun z => c3 z.1)]
      · refine WP.icmpT K d5_50 (flt c1).2.1 (by decide) (pc' := 145) (by decide) ?_
        rw [own_ltN hy hm] at c1
        refine STOP _ ?_
        rw [← hres, own_dn, if_neg c1]
  exact LOOP (n + 1) 0 1 _ _ _ T G (by omega) (by omega) (by omega) (by omega) rfl rfl rfl O_q A_tm A_tg KP Z0
set_option maxRecDepth 65536 in
set_option maxHeartbeats 40000000 in
theorem rm_law (w : Bool) (l : Launch) (Z : State) (a0 : Array Value) (hw : ∀ d ∈ tables_1, d.before a0 Z = true) (p0 p1 p2 p3 p4 : Int32) (h0 : Heap) (n0 : Nat) (Z0 : n0 ≤ h0.size)  :
    Met w l Z x code maxLocals ret tables_1 room_1 #[(.int p0), (.int p1), (.int p2), (.int p3), (.int p4)] h0 n0 (fun v h => v = some (.int 1)) := by
  refine Met.of (plainFor_of_name (by first | (simp [plainName, overriddenIn]; done) | decide +kernel)) fun κ K => ?_
  have K : Cx κ w l Z "com/example/wedge/wedge/link/DepartureQueueIsEmptyPinLaw" n0 room_1 code 11 (some .boolean) "law" _ := K
  refine WP.frame (g' := (mkF κ.m 0 #[.val (.int p0), .val (.int p1), .val (.int p2), .val (.int p3), .val (.int p4), .unset, .unset, .unset, .unset, .unset, .unset] [])) (by first | (simp [entryFrame, mkF, argsToLocals, Value.category, maxLocals]; done) | rfl) ?_
  refine WP.new K (w_0 hw) (w_1 hw) (w_2 hw) at_0 (k' := 1) (n' := 3) rfl rfl (by decide) (by decide) (pc' := 3) rfl fun h16 q g16 E16 X16 D16 => ?_
  have old_q : n0 ≤ q := by have q_ := Z0; omega
  have Z0 := Nat.le_trans Z0 E16.1
  have O_q : IsDQ Z h16 q .null .null (.int (0 : Int32)) := ⟨X16, D16 (O := "com/example/wedge/wedge/link/DepartureQueue") (f := "times") (d := "[D") (Or.inl (w_11 hw)) (ty := (.array .double)) (by decide), D16 (O := "com/example/wedge/wedge/link/DepartureQueue") (f := "tags") (d := "[I") (Or.inl (w_14 hw)) (ty := (.array .int)) (by decide), D16 (O := "com/example/wedge/wedge/link/DepartureQueue") (f := "size") (d := "I") (Or.inl (w_21 hw)) (ty := .int) (by decide)⟩
  refine WP.dup K at_3 rfl (pc' := 4) rfl ?_
  refine WP.callI K (a := q) (argsL := []) (S := [(.ref q)]) rfl (w_3 hw) (w_4 hw) (rm_init w l Z a0 hw q _ _ _ h16 n0 Z0 O_q old_q) (w_5 hw) (w_2 hw) (by decide) rfl (lenOf pd_0 rfl) rfl (W := 1) rfl (by decide) (by decide) (k' := 3) (n' := 35) rfl rfl (by decide) (by decide) at_4 (pc' := 7) rfl fun v h17 hq => ?_
  obtain ⟨rfl, K0, tm, tg, kT, kG, s_tm, s_tg, ne_t, O_q, A_tm, A_tg⟩ := hq
  have Z0 := Nat.le_trans Z0 K0.1
  show WP κ h17 3 35 (mkF κ.m 7 #[.val (.int p0), .val (.int p1), .val (.int p2), .val (.int p3), .val (.int p4), .unset, .unset, .unset, .unset, .unset, .unset] [(.ref q)])
  have old_tm : n0 ≤ tm := by omega
  have old_tg : n0 ≤ tg := by omega
  refine WP.astore K at_7 rfl (L' := #[.val (.int p0), .val (.int p1), .val (.int p2), .val (.int p3), .val (.int p4), .val (.ref q), .unset, .unset, .unset, .unset, .unset]) rfl (pc' := 9) rfl ?_
  refine WP.aload K at_9 rfl rfl (pc' := 11) rfl ?_
  refine WP.callV K (a := q) (argsL := []) (S := []) (w_15 hw) (w_16 hw) (fun vm0 hZ => notFace_of_selects (args := #[]) (mvT (s := κ.s.setVm vm0) hZ (w_18 hw))) (w_18 hw) (w_17 hw) (by decide) (IsDQ.exa O_q) (rm_isEmpty w l Z a0 hw q tm tg (0 : Int32) h17 n0 Z0 O_q) (w_19 hw) (w_2 hw) (by decide) rfl (lenOf pd_1 rfl) rfl (W := 0) rfl (by decide) (by decide) (k' := 3) (n' := 35) rfl rfl (by decide) (by decide) at_11 (pc' := 14) rfl fun v h18 hq => ?_
  obtain ⟨rfl, rfl⟩ := hq
  show WP κ h17 3 35 (mkF κ.m 14 #[.val (.int p0), .val (.int p1), .val (.int p2), .val (.int p3), .val (.int p4), .val (.ref q), .unset, .unset, .unset, .unset, .unset] [(.int (nar .boolean (if (0 : Int32) = (0 : Int32) then (1 : Int32) else (0 : Int32))))])
  rw [show (nar .boolean (if (0 : Int32) = (0 : Int32) then (1 : Int32) else (0 : Int32))) = (1 : Int32) from by decide]
  show WP κ h17 3 35 (mkF κ.m 14 #[.val (.int p0), .val (.int p1), .val (.int p2), .val (.int p3), .val (.int p4), .val (.ref q), .unset, .unset, .unset, .unset, .unset] [(.int (1 : Int32))])
  refine WP.istore K at_14 (L' := #[.val (.int p0), .val (.int p1), .val (.int p2), .val (.int p3), .val (.int p4), .val (.ref q), .val (.int (1 : Int32)), .unset, .unset, .unset, .unset]) rfl (pc' := 16) rfl ?_
  refine WP.iloadN K at_16 rfl (pc' := 17) rfl ?_
  refine WP.iconst K at_17 (v := (3 : Int32)) rfl (pc' := 18) rfl ?_
  refine WP.iand K at_18 (pc' := 19) rfl ?_
  refine WP.istore K at_19 (L' := #[.val (.int p0), .val (.int p1), .val (.int p2), .val (.int p3), .val (.int p4), .val (.ref q), .val (.int (1 : Int32)), .val (.int (p0 &&& (3 : Int32))), .unset, .unset, .unset]) rfl (pc' := 21) rfl ?_
  have hn := own_n4 p0
  generalize e_N : (p0 &&& (3 : Int32)) = N at hn ⊢
  rcases hn with rfl | rfl | rfl | rfl
  · show WP κ h17 3 35 (mkF κ.m 21 #[.val (.int p0), .val (.int p1), .val (.int p2), .val (.int p3), .val (.int p4), .val (.ref q), .val (.int (1 : Int32)), .val (.int (0 : Int32)), .unset, .unset, .unset] [])
    refine WP.iloadN K at_21 rfl (pc' := 22) rfl ?_
    refine WP.ldcI K (w_22 hw) at_22 (pc' := 24) rfl ?_
    refine WP.iand K at_24 (pc' := 25) rfl ?_
    refine WP.iload K at_25 rfl (pc' := 27) rfl ?_
    refine WP.iconst K at_27 (v := (1 : Int32)) rfl (pc' := 28) rfl ?_
    refine WP.iadd K at_28 (pc' := 29) rfl ?_
    show WP κ h17 3 35 (mkF κ.m 29 #[.val (.int p0), .val (.int p1), .val (.int p2), .val (.int p3), .val (.int p4), .val (.ref q), .val (.int (1 : Int32)), .val (.int (0 : Int32)), .unset, .unset, .unset] [(.int (1 : Int32)), (.int (p1 &&& (2147483647 : Int32)))])
    refine WP.irem K at_29 (by decide) (pc' := 30) rfl ?_
    refine WP.istore K at_30 (L' := #[.val (.int p0), .val (.int p1), .val (.int p2), .val (.int p3), .val (.int p4), .val (.ref q), .val (.int (1 : Int32)), .val (.int (0 : Int32)), .val (.int ((p1 &&& (2147483647 : Int32)) % (1 : Int32))), .unset, .unset]) rfl (pc' := 32) rfl ?_
    have hm := own_mx p1 (1 : Int32) 1 rfl (by decide)
    generalize e_M : ((p1 &&& (2147483647 : Int32)) % (1 : Int32)) = M at hm ⊢
    have hm := own_l1 hm
    subst hm
    show WP κ h17 3 35 (mkF κ.m 32 #[.val (.int p0), .val (.int p1), .val (.int p2), .val (.int p3), .val (.int p4), .val (.ref q), .val (.int (1 : Int32)), .val (.int (0 : Int32)), .val (.int (0 : Int32)), .unset, .unset] [])
    refine WP.iload K at_32 rfl (pc' := 34) rfl ?_
    refine WP.if0T K at_34 (by decide) (by decide) (pc' := 48) (by decide) ?_
    refine WP.iload K at_48 rfl (pc' := 50) rfl ?_
    refine WP.iconst K at_50 (v := (1 : Int32)) rfl (pc' := 51) rfl ?_
    refine WP.icmpT K at_51 (by decide) (by decide) (pc' := 65) (by decide) ?_
    refine WP.iload K at_65 rfl (pc' := 67) rfl ?_
    refine WP.iconst K at_67 (v := (2 : Int32)) rfl (pc' := 68) rfl ?_
    refine WP.icmpT K at_68 (by decide) (by decide) (pc' := 84) (by decide) ?_
    refine WP.aload K at_84 rfl rfl (pc' := 86) rfl ?_
    refine WP.callV K (a := q) (argsL := []) (S := []) (w_15 hw) (w_16 hw) (fun vm0 hZ => notFace_of_selects (args := #[]) (mvT (s := κ.s.setVm vm0) hZ (w_18 hw))) (w_18 hw) (w_17 hw) (by decide) (IsDQ.exa O_q) (rm_isEmpty w l Z a0 hw q tm tg (0 : Int32) h17 n0 Z0 O_q) (w_19 hw) (w_2 hw) (by decide) rfl (lenOf pd_1 rfl) rfl (W := 0) rfl (by decide) (by decide) (k' := 3) (n' := 35) rfl rfl (by decide) (by decide) at_86 (pc' := 89) rfl fun v h19 hq => ?_
    obtain ⟨rfl, rfl⟩ := hq
    show WP κ h17 3 35 (mkF κ.m 89 #[.val (.int p0), .val (.int p1), .val (.int p2), .val (.int p3), .val (.int p4), .val (.ref q), .val (.int (1 : Int32)), .val (.int (0 : Int32)), .val (.int (0 : Int32)), .unset, .unset] [(.int (nar .boolean (if (0 : Int32) = (0 : Int32) then (1 : Int32) else (0 : Int32))))])
    rw [show (nar .boolean (if (0 : Int32) = (0 : Int32) then (1 : Int32) else (0 : Int32))) = (1 : Int32) from by decide]
    show WP κ h17 3 35 (mkF κ.m 89 #[.val (.int p0), .val (.int p1), .val (.int p2), .val (.int p3), .val (.int p4), .val (.ref q), .val (.int (1 : Int32)), .val (.int (0 : Int32)), .val (.int (0 : Int32)), .unset, .unset] [(.int (1 : Int32))])
    refine WP.istore K at_89 (L' := #[.val (.int p0), .val (.int p1), .val (.int p2), .val (.int p3), .val (.int p4), .val (.ref q), .val (.int (1 : Int32)), .val (.int (0 : Int32)), .val (.int (0 : Int32)), .val (.int (1 : Int32)), .unset]) rfl (pc' := 91) rfl ?_
    refine WP.iload K at_91 rfl (pc' := 93) rfl ?_
    refine WP.if0T K at_93 (by decide) (by decide) (pc' := 102) (by decide) ?_
    refine WP.iload K at_102 rfl (pc' := 104) rfl ?_
    refine WP.iconst K at_104 (v := (1 : Int32)) rfl (pc' := 105) rfl ?_
    refine WP.icmpT K at_105 (by decide) (by decide) (pc' := 114) (by decide) ?_
    refine WP.iload K at_114 rfl (pc' := 116) rfl ?_
    refine WP.iconst K at_116 (v := (2 : Int32)) rfl (pc' := 117) rfl ?_
    refine WP.icmpT K at_117 (by decide) (by decide) (pc' := 126) (by decide) ?_
    refine WP.aload K at_126 rfl rfl (pc' := 128) rfl ?_
    refine WP.callV K (a := q) (argsL := []) (S := []) (w_15 hw) (w_16 hw) (fun vm0 hZ => notFace_of_selects (args := #[]) (mvT (s := κ.s.setVm vm0) hZ (w_18 hw))) (w_18 hw) (w_17 hw) (by decide) (IsDQ.exa O_q) (rm_isEmpty w l Z a0 hw q tm tg (0 : Int32) h17 n0 Z0 O_q) (w_19 hw) (w_2 hw) (by decide) rfl (lenOf pd_1 rfl) rfl (W := 0) rfl (by decide) (by decide) (k' := 3) (n' := 35) rfl rfl (by decide) (by decide) at_128 (pc' := 131) rfl fun v h20 hq => ?_
    obtain ⟨rfl, rfl⟩ := hq
    show WP κ h17 3 35 (mkF κ.m 131 #[.val (.int p0), .val (.int p1), .val (.int p2), .val (.int p3), .val (.int p4), .val (.ref q), .val (.int (1 : Int32)), .val (.int (0 : Int32)), .val (.int (0 : Int32)), .val (.int (1 : Int32)), .unset] [(.int (nar .boolean (if (0 : Int32) = (0 : Int32) then (1 : Int32) else (0 : Int32))))])
    rw [show (nar .boolean (if (0 : Int32) = (0 : Int32) then (1 : Int32) else (0 : Int32))) = (1 : Int32) from by decide]
    show WP κ h17 3 35 (mkF κ.m 131 #[.val (.int p0), .val (.int p1), .val (.int p2), .val (.int p3), .val (.int p4), .val (.ref q), .val (.int (1 : Int32)), .val (.int (0 : Int32)), .val (.int (0 : Int32)), .val (.int (1 : Int32)), .unset] [(.int (1 : Int32))])
    refine WP.istore K at_131 (L' := #[.val (.int p0), .val (.int p1), .val (.int p2), .val (.int p3), .val (.int p4), .val (.ref q), .val (.int (1 : Int32)), .val (.int (0 : Int32)), .val (.int (0 : Int32)), .val (.int (1 : Int32)), .val (.int (1 : Int32))]) rfl (pc' := 133) rfl ?_
    refine WP.iload K at_133 rfl (pc' := 135) rfl ?_
    refine WP.if0F K at_135 (by decide) (pc' := 138) rfl ?_
    refine WP.iload K at_138 rfl (pc' := 140) rfl ?_
    refine WP.iload K at_140 rfl (pc' := 142) rfl ?_
    refine WP.if0F K at_142 (by decide) (pc' := 145) rfl ?_
    refine WP.iconst K at_145 (v := (1 : Int32)) rfl (pc' := 146) rfl ?_
    refine WP.goto K at_146 (by decide) (pc' := 150) (by decide) ?_
    refine WP.icmpF K at_150 (by decide) (pc' := 153) rfl ?_
    refine WP.iload K at_153 rfl (pc' := 155) rfl ?_
    refine WP.iload K at_155 rfl (pc' := 157) rfl ?_
    refine WP.iload K at_157 rfl (pc' := 159) rfl ?_
    refine WP.icmpF K at_159 (by decide) (pc' := 162) rfl ?_
    refine WP.iconst K at_162 (v := (1 : Int32)) rfl (pc' := 163) rfl ?_
    refine WP.goto K at_163 (by decide) (pc' := 167) (by decide) ?_
    refine WP.icmpF K at_167 (by decide) (pc' := 170) rfl ?_
    refine WP.iconst K at_170 (v := (1 : Int32)) rfl (pc' := 171) rfl ?_
    refine WP.goto K at_171 (by decide) (pc' := 175) (by decide) ?_
    exact WP.retN K (ty := .boolean) (by decide) at_175 (by decide) (by decide) rfl
  · show WP κ h17 3 35 (mkF κ.m 21 #[.val (.int p0), .val (.int p1), .val (.int p2), .val (.int p3), .val (.int p4), .val (.ref q), .val (.int (1 : Int32)), .val (.int (1 : Int32)), .unset, .unset, .unset] [])
    refine WP.iloadN K at_21 rfl (pc' := 22) rfl ?_
    refine WP.ldcI K (w_22 hw) at_22 (pc' := 24) rfl ?_
    refine WP.iand K at_24 (pc' := 25) rfl ?_
    refine WP.iload K at_25 rfl (pc' := 27) rfl ?_
    refine WP.iconst K at_27 (v := (1 : Int32)) rfl (pc' := 28) rfl ?_
    refine WP.iadd K at_28 (pc' := 29) rfl ?_
    show WP κ h17 3 35 (mkF κ.m 29 #[.val (.int p0), .val (.int p1), .val (.int p2), .val (.int p3), .val (.int p4), .val (.ref q), .val (.int (1 : Int32)), .val (.int (1 : Int32)), .unset, .unset, .unset] [(.int (2 : Int32)), (.int (p1 &&& (2147483647 : Int32)))])
    refine WP.irem K at_29 (by decide) (pc' := 30) rfl ?_
    refine WP.istore K at_30 (L' := #[.val (.int p0), .val (.int p1), .val (.int p2), .val (.int p3), .val (.int p4), .val (.ref q), .val (.int (1 : Int32)), .val (.int (1 : Int32)), .val (.int ((p1 &&& (2147483647 : Int32)) % (2 : Int32))), .unset, .unset]) rfl (pc' := 32) rfl ?_
    have hm := own_mx p1 (2 : Int32) 2 rfl (by decide)
    generalize e_M : ((p1 &&& (2147483647 : Int32)) % (2 : Int32)) = M at hm ⊢
    have hm := own_l2 hm
    rcases hm with rfl | rfl
    · show WP κ h17 3 35 (mkF κ.m 32 #[.val (.int p0), .val (.int p1), .val (.int p2), .val (.int p3), .val (.int p4), .val (.ref q), .val (.int (1 : Int32)), .val (.int (1 : Int32)), .val (.int (0 : Int32)), .unset, .unset] [])
      refine WP.iload K at_32 rfl (pc' := 34) rfl ?_
      refine WP.if0F K at_34 (by decide) (pc' := 37) rfl ?_
      refine WP.aload K at_37 rfl rfl (pc' := 39) rfl ?_
      refine WP.iloadN K at_39 rfl (pc' := 40) rfl ?_
      refine WP.bipush K at_40 (v := (24 : Int32)) rfl (pc' := 42) rfl ?_
      refine WP.ishr K at_42 (pc' := 43) rfl ?_
      refine WP.i2d K at_43 (pc' := 44) rfl ?_
      refine WP.iloadN K at_44 rfl (pc' := 45) rfl ?_
      refine WP.callV K (a := q) (argsL := [(.double (FP.i2d (p2 >>> ((24 : Int32) &&& 31)))), (.int p2)]) (S := []) (w_23 hw) (w_24 hw) (fun vm0 hZ => notFace_of_selects (args := #[]) (mvT (s := κ.s.setVm vm0) hZ (w_26 hw))) (w_26 hw) (w_25 hw) (by decide) (IsDQ.exa O_q) (rm_add w l Z a0 hw q tm tg kT kG (0 : Int32) 0 (fun _ => 0) (fun _ => 0) (FP.i2d (p2 >>> ((24 : Int32) &&& 31))) p2 h17 n0 Z0 O_q A_tm A_tg ne_t old_q old_tm old_tg rfl (by decide)) (w_27 hw) (w_2 hw) (by decide) rfl (lenOf pd_2 rfl) rfl (W := 0) rfl (by decide) (by decide) (k' := 3) (n' := 35) rfl rfl (by decide) (by decide) at_45 (pc' := 48) rfl fun v h21 hq => ?_
      obtain ⟨rfl, K1, O_q, A_tm, A_tg⟩ := hq
      have Z0 := Nat.le_trans Z0 K1.1
      show WP κ h21 3 35 (mkF κ.m 48 #[.val (.int p0), .val (.int p1), .val (.int p2), .val (.int p3), .val (.int p4), .val (.ref q), .val (.int (1 : Int32)), .val (.int (1 : Int32)), .val (.int (0 : Int32)), .unset, .unset] [])
      have O_q : IsDQ Z h21 q (.ref tm) (.ref tg) (.int (1 : Int32)) := O_q
      obtain ⟨T22, A_tm⟩ : ∃ T : Nat → UInt64, Ary Z h21 tm kT .double 16 (fun j => .double (T j)) := ⟨_, A_tm⟩
      obtain ⟨G22, A_tg⟩ : ∃ G : Nat → Int32, Ary Z h21 tg kG .int 16 (fun j => .int (G j)) := ⟨_, A_tg⟩
      refine WP.iload K at_48 rfl (pc' := 50) rfl ?_
      refine WP.iconst K at_50 (v := (1 : Int32)) rfl (pc' := 51) rfl ?_
      refine WP.icmpT K at_51 (by decide) (by decide) (pc' := 65) (by decide) ?_
      refine WP.iload K at_65 rfl (pc' := 67) rfl ?_
      refine WP.iconst K at_67 (v := (2 : Int32)) rfl (pc' := 68) rfl ?_
      refine WP.icmpT K at_68 (by decide) (by decide) (pc' := 84) (by decide) ?_
      refine WP.aload K at_84 rfl rfl (pc' := 86) rfl ?_
      refine WP.callV K (a := q) (argsL := []) (S := []) (w_15 hw) (w_16 hw) (fun vm0 hZ => notFace_of_selects (args := #[]) (mvT (s := κ.s.setVm vm0) hZ (w_18 hw))) (w_18 hw) (w_17 hw) (by decide) (IsDQ.exa O_q) (rm_isEmpty w l Z a0 hw q tm tg (1 : Int32) h21 n0 Z0 O_q) (w_19 hw) (w_2 hw) (by decide) rfl (lenOf pd_1 rfl) rfl (W := 0) rfl (by decide) (by decide) (k' := 3) (n' := 35) rfl rfl (by decide) (by decide) at_86 (pc' := 89) rfl fun v h23 hq => ?_
      obtain ⟨rfl, rfl⟩ := hq
      show WP κ h21 3 35 (mkF κ.m 89 #[.val (.int p0), .val (.int p1), .val (.int p2), .val (.int p3), .val (.int p4), .val (.ref q), .val (.int (1 : Int32)), .val (.int (1 : Int32)), .val (.int (0 : Int32)), .unset, .unset] [(.int (nar .boolean (if (1 : Int32) = (0 : Int32) then (1 : Int32) else (0 : Int32))))])
      rw [show (nar .boolean (if (1 : Int32) = (0 : Int32) then (1 : Int32) else (0 : Int32))) = (0 : Int32) from by decide]
      show WP κ h21 3 35 (mkF κ.m 89 #[.val (.int p0), .val (.int p1), .val (.int p2), .val (.int p3), .val (.int p4), .val (.ref q), .val (.int (1 : Int32)), .val (.int (1 : Int32)), .val (.int (0 : Int32)), .unset, .unset] [(.int (0 : Int32))])
      refine WP.istore K at_89 (L' := #[.val (.int p0), .val (.int p1), .val (.int p2), .val (.int p3), .val (.int p4), .val (.ref q), .val (.int (1 : Int32)), .val (.int (1 : Int32)), .val (.int (0 : Int32)), .val (.int (0 : Int32)), .unset]) rfl (pc' := 91) rfl ?_
      refine WP.iload K at_91 rfl (pc' := 93) rfl ?_
      refine WP.if0T K at_93 (by decide) (by decide) (pc' := 102) (by decide) ?_
      refine WP.iload K at_102 rfl (pc' := 104) rfl ?_
      refine WP.iconst K at_104 (v := (1 : Int32)) rfl (pc' := 105) rfl ?_
      refine WP.icmpT K at_105 (by decide) (by decide) (pc' := 114) (by decide) ?_
      refine WP.iload K at_114 rfl (pc' := 116) rfl ?_
      refine WP.iconst K at_116 (v := (2 : Int32)) rfl (pc' := 117) rfl ?_
      refine WP.icmpT K at_117 (by decide) (by decide) (pc' := 126) (by decide) ?_
      refine WP.aload K at_126 rfl rfl (pc' := 128) rfl ?_
      refine WP.callV K (a := q) (argsL := []) (S := []) (w_15 hw) (w_16 hw) (fun vm0 hZ => notFace_of_selects (args := #[]) (mvT (s := κ.s.setVm vm0) hZ (w_18 hw))) (w_18 hw) (w_17 hw) (by decide) (IsDQ.exa O_q) (rm_isEmpty w l Z a0 hw q tm tg (1 : Int32) h21 n0 Z0 O_q) (w_19 hw) (w_2 hw) (by decide) rfl (lenOf pd_1 rfl) rfl (W := 0) rfl (by decide) (by decide) (k' := 3) (n' := 35) rfl rfl (by decide) (by decide) at_128 (pc' := 131) rfl fun v h24 hq => ?_
      obtain ⟨rfl, rfl⟩ := hq
      show WP κ h21 3 35 (mkF κ.m 131 #[.val (.int p0), .val (.int p1), .val (.int p2), .val (.int p3), .val (.int p4), .val (.ref q), .val (.int (1 : Int32)), .val (.int (1 : Int32)), .val (.int (0 : Int32)), .val (.int (0 : Int32)), .unset] [(.int (nar .boolean (if (1 : Int32) = (0 : Int32) then (1 : Int32) else (0 : Int32))))])
      rw [show (nar .boolean (if (1 : Int32) = (0 : Int32) then (1 : Int32) else (0 : Int32))) = (0 : Int32) from by decide]
      show WP κ h21 3 35 (mkF κ.m 131 #[.val (.int p0), .val (.int p1), .val (.int p2), .val (.int p3), .val (.int p4), .val (.ref q), .val (.int (1 : Int32)), .val (.int (1 : Int32)), .val (.int (0 : Int32)), .val (.int (0 : Int32)), .unset] [(.int (0 : Int32))])
      refine WP.istore K at_131 (L' := #[.val (.int p0), .val (.int p1), .val (.int p2), .val (.int p3), .val (.int p4), .val (.ref q), .val (.int (1 : Int32)), .val (.int (1 : Int32)), .val (.int (0 : Int32)), .val (.int (0 : Int32)), .val (.int (0 : Int32))]) rfl (pc' := 133) rfl ?_
      refine WP.iload K at_133 rfl (pc' := 135) rfl ?_
      refine WP.if0F K at_135 (by decide) (pc' := 138) rfl ?_
      refine WP.iload K at_138 rfl (pc' := 140) rfl ?_
      refine WP.iload K at_140 rfl (pc' := 142) rfl ?_
      refine WP.if0T K at_142 (by decide) (by decide) (pc' := 149) (by decide) ?_
      refine WP.iconst K at_149 (v := (0 : Int32)) rfl (pc' := 150) rfl ?_
      refine WP.icmpF K at_150 (by decide) (pc' := 153) rfl ?_
      refine WP.iload K at_153 rfl (pc' := 155) rfl ?_
      refine WP.iload K at_155 rfl (pc' := 157) rfl ?_
      refine WP.iload K at_157 rfl (pc' := 159) rfl ?_
      refine WP.icmpT K at_159 (by decide) (by decide) (pc' := 166) (by decide) ?_
      refine WP.iconst K at_166 (v := (0 : Int32)) rfl (pc' := 167) rfl ?_
      refine WP.icmpF K at_167 (by decide) (pc' := 170) rfl ?_
      refine WP.iconst K at_170 (v := (1 : Int32)) rfl (pc' := 171) rfl ?_
      refine WP.goto K at_171 (by decide) (pc' := 175) (by decide) ?_
      exact WP.retN K (ty := .boolean) (by decide) at_175 (by decide) (by decide) rfl
    · show WP κ h17 3 35 (mkF κ.m 32 #[.val (.int p0), .val (.int p1), .val (.int p2), .val (.int p3), .val (.int p4), .val (.ref q), .val (.int (1 : Int32)), .val (.int (1 : Int32)), .val (.int (1 : Int32)), .unset, .unset] [])
      refine WP.iload K at_32 rfl (pc' := 34) rfl ?_
      refine WP.if0F K at_34 (by decide) (pc' := 37) rfl ?_
      refine WP.aload K at_37 rfl rfl (pc' := 39) rfl ?_
      refine WP.iloadN K at_39 rfl (pc' := 40) rfl ?_
      refine WP.bipush K at_40 (v := (24 : Int32)) rfl (pc' := 42) rfl ?_
      refine WP.ishr K at_42 (pc' := 43) rfl ?_
      refine WP.i2d K at_43 (pc' := 44) rfl ?_
      refine WP.iloadN K at_44 rfl (pc' := 45) rfl ?_
      refine WP.callV K (a := q) (argsL := [(.double (FP.i2d (p2 >>> ((24 : Int32) &&& 31)))), (.int p2)]) (S := []) (w_23 hw) (w_24 hw) (fun vm0 hZ => notFace_of_selects (args := #[]) (mvT (s := κ.s.setVm vm0) hZ (w_26 hw))) (w_26 hw) (w_25 hw) (by decide) (IsDQ.exa O_q) (rm_add w l Z a0 hw q tm tg kT kG (0 : Int32) 0 (fun _ => 0) (fun _ => 0) (FP.i2d (p2 >>> ((24 : Int32) &&& 31))) p2 h17 n0 Z0 O_q A_tm A_tg ne_t old_q old_tm old_tg rfl (by decide)) (w_27 hw) (w_2 hw) (by decide) rfl (lenOf pd_2 rfl) rfl (W := 0) rfl (by decide) (by decide) (k' := 3) (n' := 35) rfl rfl (by decide) (by decide) at_45 (pc' := 48) rfl fun v h25 hq => ?_
      obtain ⟨rfl, K1, O_q, A_tm, A_tg⟩ := hq
      have Z0 := Nat.le_trans Z0 K1.1
      show WP κ h25 3 35 (mkF κ.m 48 #[.val (.int p0), .val (.int p1), .val (.int p2), .val (.int p3), .val (.int p4), .val (.ref q), .val (.int (1 : Int32)), .val (.int (1 : Int32)), .val (.int (1 : Int32)), .unset, .unset] [])
      have O_q : IsDQ Z h25 q (.ref tm) (.ref tg) (.int (1 : Int32)) := O_q
      obtain ⟨T26, A_tm⟩ : ∃ T : Nat → UInt64, Ary Z h25 tm kT .double 16 (fun j => .double (T j)) := ⟨_, A_tm⟩
      obtain ⟨G26, A_tg⟩ : ∃ G : Nat → Int32, Ary Z h25 tg kG .int 16 (fun j => .int (G j)) := ⟨_, A_tg⟩
      refine WP.iload K at_48 rfl (pc' := 50) rfl ?_
      refine WP.iconst K at_50 (v := (1 : Int32)) rfl (pc' := 51) rfl ?_
      refine WP.icmpT K at_51 (by decide) (by decide) (pc' := 65) (by decide) ?_
      refine WP.iload K at_65 rfl (pc' := 67) rfl ?_
      refine WP.iconst K at_67 (v := (2 : Int32)) rfl (pc' := 68) rfl ?_
      refine WP.icmpT K at_68 (by decide) (by decide) (pc' := 84) (by decide) ?_
      refine WP.aload K at_84 rfl rfl (pc' := 86) rfl ?_
      refine WP.callV K (a := q) (argsL := []) (S := []) (w_15 hw) (w_16 hw) (fun vm0 hZ => notFace_of_selects (args := #[]) (mvT (s := κ.s.setVm vm0) hZ (w_18 hw))) (w_18 hw) (w_17 hw) (by decide) (IsDQ.exa O_q) (rm_isEmpty w l Z a0 hw q tm tg (1 : Int32) h25 n0 Z0 O_q) (w_19 hw) (w_2 hw) (by decide) rfl (lenOf pd_1 rfl) rfl (W := 0) rfl (by decide) (by decide) (k' := 3) (n' := 35) rfl rfl (by decide) (by decide) at_86 (pc' := 89) rfl fun v h27 hq => ?_
      obtain ⟨rfl, rfl⟩ := hq
      show WP κ h25 3 35 (mkF κ.m 89 #[.val (.int p0), .val (.int p1), .val (.int p2), .val (.int p3), .val (.int p4), .val (.ref q), .val (.int (1 : Int32)), .val (.int (1 : Int32)), .val (.int (1 : Int32)), .unset, .unset] [(.int (nar .boolean (if (1 : Int32) = (0 : Int32) then (1 : Int32) else (0 : Int32))))])
      rw [show (nar .boolean (if (1 : Int32) = (0 : Int32) then (1 : Int32) else (0 : Int32))) = (0 : Int32) from by decide]
      show WP κ h25 3 35 (mkF κ.m 89 #[.val (.int p0), .val (.int p1), .val (.int p2), .val (.int p3), .val (.int p4), .val (.ref q), .val (.int (1 : Int32)), .val (.int (1 : Int32)), .val (.int (1 : Int32)), .unset, .unset] [(.int (0 : Int32))])
      refine WP.istore K at_89 (L' := #[.val (.int p0), .val (.int p1), .val (.int p2), .val (.int p3), .val (.int p4), .val (.ref q), .val (.int (1 : Int32)), .val (.int (1 : Int32)), .val (.int (1 : Int32)), .val (.int (0 : Int32)), .unset]) rfl (pc' := 91) rfl ?_
      refine WP.iload K at_91 rfl (pc' := 93) rfl ?_
      refine WP.if0F K at_93 (by decide) (pc' := 96) rfl ?_
      refine WP.aload K at_96 rfl rfl (pc' := 98) rfl ?_
      refine WP.callV K (a := q) (argsL := []) (S := []) (w_28 hw) (w_29 hw) (fun vm0 hZ => notFace_of_selects (args := #[]) (mvT (s := κ.s.setVm vm0) hZ (w_31 hw))) (w_31 hw) (w_30 hw) (by decide) (IsDQ.exa O_q) (rm_rem w l Z a0 hw q tm tg kT kG (1 : Int32) 1 T26 G26 h25 n0 Z0 O_q A_tm A_tg ne_t old_q old_tm old_tg rfl (by decide) (by decide)) (w_32 hw) (w_2 hw) (by decide) rfl (lenOf pd_3 rfl) rfl (W := 0) rfl (by decide) (by decide) (k' := 3) (n' := 35) rfl rfl (by decide) (by decide) at_98 (pc' := 101) rfl fun v h28 hq => ?_
      obtain ⟨rfl, K1, O_q, A_tm, A_tg⟩ := hq
      have Z0 := Nat.le_trans Z0 K1.1
      show WP κ h28 3 35 (mkF κ.m 101 #[.val (.int p0), .val (.int p1), .val (.int p2), .val (.int p3), .val (.int p4), .val (.ref q), .val (.int (1 : Int32)), .val (.int (1 : Int32)), .val (.int (1 : Int32)), .val (.int (0 : Int32)), .unset] [(.int (G26 0))])
      have O_q : IsDQ Z h28 q (.ref tm) (.ref tg) (.int (0 : Int32)) := O_q
      obtain ⟨T29, A_tm⟩ : ∃ T : Nat → UInt64, Ary Z h28 tm kT .double 16 (fun j => .double (T j)) := ⟨_, A_tm⟩
      obtain ⟨G29, A_tg⟩ : ∃ G : Nat → Int32, Ary Z h28 tg kG .int 16 (fun j => .int (G j)) := ⟨_, A_tg⟩
      refine WP.pop K at_101 rfl (pc' := 102) rfl ?_
      refine WP.iload K at_102 rfl (pc' := 104) rfl ?_
      refine WP.iconst K at_104 (v := (1 : Int32)) rfl (pc' := 105) rfl ?_
      refine WP.icmpT K at_105 (by decide) (by decide) (pc' := 114) (by decide) ?_
      refine WP.iload K at_114 rfl (pc' := 116) rfl ?_
      refine WP.iconst K at_116 (v := (2 : Int32)) rfl (pc' := 117) rfl ?_
      refine WP.icmpT K at_117 (by decide) (by decide) (pc' := 126) (by decide) ?_
      refine WP.aload K at_126 rfl rfl (pc' := 128) rfl ?_
      refine WP.callV K (a := q) (argsL := []) (S := []) (w_15 hw) (w_16 hw) (fun vm0 hZ => notFace_of_selects (args := #[]) (mvT (s := κ.s.setVm vm0) hZ (w_18 hw))) (w_18 hw) (w_17 hw) (by decide) (IsDQ.exa O_q) (rm_isEmpty w l Z a0 hw q tm tg (0 : Int32) h28 n0 Z0 O_q) (w_19 hw) (w_2 hw) (by decide) rfl (lenOf pd_1 rfl) rfl (W := 0) rfl (by decide) (by decide) (k' := 3) (n' := 35) rfl rfl (by decide) (by decide) at_128 (pc' := 131) rfl fun v h30 hq => ?_
      obtain ⟨rfl, rfl⟩ := hq
      show WP κ h28 3 35 (mkF κ.m 131 #[.val (.int p0), .val (.int p1), .val (.int p2), .val (.int p3), .val (.int p4), .val (.ref q), .val (.int (1 : Int32)), .val (.int (1 : Int32)), .val (.int (1 : Int32)), .val (.int (0 : Int32)), .unset] [(.int (nar .boolean (if (0 : Int32) = (0 : Int32) then (1 : Int32) else (0 : Int32))))])
      rw [show (nar .boolean (if (0 : Int32) = (0 : Int32) then (1 : Int32) else (0 : Int32))) = (1 : Int32) from by decide]
      show WP κ h28 3 35 (mkF κ.m 131 #[.val (.int p0), .val (.int p1), .val (.int p2), .val (.int p3), .val (.int p4), .val (.ref q), .val (.int (1 : Int32)), .val (.int (1 : Int32)), .val (.int (1 : Int32)), .val (.int (0 : Int32)), .unset] [(.int (1 : Int32))])
      refine WP.istore K at_131 (L' := #[.val (.int p0), .val (.int p1), .val (.int p2), .val (.int p3), .val (.int p4), .val (.ref q), .val (.int (1 : Int32)), .val (.int (1 : Int32)), .val (.int (1 : Int32)), .val (.int (0 : Int32)), .val (.int (1 : Int32))]) rfl (pc' := 133) rfl ?_
      refine WP.iload K at_133 rfl (pc' := 135) rfl ?_
      refine WP.if0F K at_135 (by decide) (pc' := 138) rfl ?_
      refine WP.iload K at_138 rfl (pc' := 140) rfl ?_
      refine WP.iload K at_140 rfl (pc' := 142) rfl ?_
      refine WP.if0T K at_142 (by decide) (by decide) (pc' := 149) (by decide) ?_
      refine WP.iconst K at_149 (v := (0 : Int32)) rfl (pc' := 150) rfl ?_
      refine WP.icmpF K at_150 (by decide) (pc' := 153) rfl ?_
      refine WP.iload K at_153 rfl (pc' := 155) rfl ?_
      refine WP.iload K at_155 rfl (pc' := 157) rfl ?_
      refine WP.iload K at_157 rfl (pc' := 159) rfl ?_
      refine WP.icmpF K at_159 (by decide) (pc' := 162) rfl ?_
      refine WP.iconst K at_162 (v := (1 : Int32)) rfl (pc' := 163) rfl ?_
      refine WP.goto K at_163 (by decide) (pc' := 167) (by decide) ?_
      refine WP.icmpF K at_167 (by decide) (pc' := 170) rfl ?_
      refine WP.iconst K at_170 (v := (1 : Int32)) rfl (pc' := 171) rfl ?_
      refine WP.goto K at_171 (by decide) (pc' := 175) (by decide) ?_
      exact WP.retN K (ty := .boolean) (by decide) at_175 (by decide) (by decide) rfl
  · show WP κ h17 3 35 (mkF κ.m 21 #[.val (.int p0), .val (.int p1), .val (.int p2), .val (.int p3), .val (.int p4), .val (.ref q), .val (.int (1 : Int32)), .val (.int (2 : Int32)), .unset, .unset, .unset] [])
    refine WP.iloadN K at_21 rfl (pc' := 22) rfl ?_
    refine WP.ldcI K (w_22 hw) at_22 (pc' := 24) rfl ?_
    refine WP.iand K at_24 (pc' := 25) rfl ?_
    refine WP.iload K at_25 rfl (pc' := 27) rfl ?_
    refine WP.iconst K at_27 (v := (1 : Int32)) rfl (pc' := 28) rfl ?_
    refine WP.iadd K at_28 (pc' := 29) rfl ?_
    show WP κ h17 3 35 (mkF κ.m 29 #[.val (.int p0), .val (.int p1), .val (.int p2), .val (.int p3), .val (.int p4), .val (.ref q), .val (.int (1 : Int32)), .val (.int (2 : Int32)), .unset, .unset, .unset] [(.int (3 : Int32)), (.int (p1 &&& (2147483647 : Int32)))])
    refine WP.irem K at_29 (by decide) (pc' := 30) rfl ?_
    refine WP.istore K at_30 (L' := #[.val (.int p0), .val (.int p1), .val (.int p2), .val (.int p3), .val (.int p4), .val (.ref q), .val (.int (1 : Int32)), .val (.int (2 : Int32)), .val (.int ((p1 &&& (2147483647 : Int32)) % (3 : Int32))), .unset, .unset]) rfl (pc' := 32) rfl ?_
    have hm := own_mx p1 (3 : Int32) 3 rfl (by decide)
    generalize e_M : ((p1 &&& (2147483647 : Int32)) % (3 : Int32)) = M at hm ⊢
    have hm := own_l3 hm
    rcases hm with rfl | rfl | rfl
    · show WP κ h17 3 35 (mkF κ.m 32 #[.val (.int p0), .val (.int p1), .val (.int p2), .val (.int p3), .val (.int p4), .val (.ref q), .val (.int (1 : Int32)), .val (.int (2 : Int32)), .val (.int (0 : Int32)), .unset, .unset] [])
      refine WP.iload K at_32 rfl (pc' := 34) rfl ?_
      refine WP.if0F K at_34 (by decide) (pc' := 37) rfl ?_
      refine WP.aload K at_37 rfl rfl (pc' := 39) rfl ?_
      refine WP.iloadN K at_39 rfl (pc' := 40) rfl ?_
      refine WP.bipush K at_40 (v := (24 : Int32)) rfl (pc' := 42) rfl ?_
      refine WP.ishr K at_42 (pc' := 43) rfl ?_
      refine WP.i2d K at_43 (pc' := 44) rfl ?_
      refine WP.iloadN K at_44 rfl (pc' := 45) rfl ?_
      refine WP.callV K (a := q) (argsL := [(.double (FP.i2d (p2 >>> ((24 : Int32) &&& 31)))), (.int p2)]) (S := []) (w_23 hw) (w_24 hw) (fun vm0 hZ => notFace_of_selects (args := #[]) (mvT (s := κ.s.setVm vm0) hZ (w_26 hw))) (w_26 hw) (w_25 hw) (by decide) (IsDQ.exa O_q) (rm_add w l Z a0 hw q tm tg kT kG (0 : Int32) 0 (fun _ => 0) (fun _ => 0) (FP.i2d (p2 >>> ((24 : Int32) &&& 31))) p2 h17 n0 Z0 O_q A_tm A_tg ne_t old_q old_tm old_tg rfl (by decide)) (w_27 hw) (w_2 hw) (by decide) rfl (lenOf pd_2 rfl) rfl (W := 0) rfl (by decide) (by decide) (k' := 3) (n' := 35) rfl rfl (by decide) (by decide) at_45 (pc' := 48) rfl fun v h31 hq => ?_
      obtain ⟨rfl, K1, O_q, A_tm, A_tg⟩ := hq
      have Z0 := Nat.le_trans Z0 K1.1
      show WP κ h31 3 35 (mkF κ.m 48 #[.val (.int p0), .val (.int p1), .val (.int p2), .val (.int p3), .val (.int p4), .val (.ref q), .val (.int (1 : Int32)), .val (.int (2 : Int32)), .val (.int (0 : Int32)), .unset, .unset] [])
      have O_q : IsDQ Z h31 q (.ref tm) (.ref tg) (.int (1 : Int32)) := O_q
      obtain ⟨T32, A_tm⟩ : ∃ T : Nat → UInt64, Ary Z h31 tm kT .double 16 (fun j => .double (T j)) := ⟨_, A_tm⟩
      obtain ⟨G32, A_tg⟩ : ∃ G : Nat → Int32, Ary Z h31 tg kG .int 16 (fun j => .int (G j)) := ⟨_, A_tg⟩
      refine WP.iload K at_48 rfl (pc' := 50) rfl ?_
      refine WP.iconst K at_50 (v := (1 : Int32)) rfl (pc' := 51) rfl ?_
      refine WP.icmpF K at_51 (by decide) (pc' := 54) rfl ?_
      refine WP.aload K at_54 rfl rfl (pc' := 56) rfl ?_
      refine WP.iloadN K at_56 rfl (pc' := 57) rfl ?_
      refine WP.bipush K at_57 (v := (24 : Int32)) rfl (pc' := 59) rfl ?_
      refine WP.ishr K at_59 (pc' := 60) rfl ?_
      refine WP.i2d K at_60 (pc' := 61) rfl ?_
      refine WP.iloadN K at_61 rfl (pc' := 62) rfl ?_
      refine WP.callV K (a := q) (argsL := [(.double (FP.i2d (p3 >>> ((24 : Int32) &&& 31)))), (.int p3)]) (S := []) (w_23 hw) (w_24 hw) (fun vm0 hZ => notFace_of_selects (args := #[]) (mvT (s := κ.s.setVm vm0) hZ (w_26 hw))) (w_26 hw) (w_25 hw) (by decide) (IsDQ.exa O_q) (rm_add w l Z a0 hw q tm tg kT kG (1 : Int32) 1 T32 G32 (FP.i2d (p3 >>> ((24 : Int32) &&& 31))) p3 h31 n0 Z0 O_q A_tm A_tg ne_t old_q old_tm old_tg rfl (by decide)) (w_27 hw) (w_2 hw) (by decide) rfl (lenOf pd_2 rfl) rfl (W := 0) rfl (by decide) (by decide) (k' := 3) (n' := 35) rfl rfl (by decide) (by decide) at_62 (pc' := 65) rfl fun v h33 hq => ?_
      obtain ⟨rfl, K1, O_q, A_tm, A_tg⟩ := hq
      have Z0 := Nat.le_trans Z0 K1.1
      show WP κ h33 3 35 (mkF κ.m 65 #[.val (.int p0), .val (.int p1), .val (.int p2), .val (.int p3), .val (.int p4), .val (.ref q), .val (.int (1 : Int32)), .val (.int (2 : Int32)), .val (.int (0 : Int32)), .unset, .unset] [])
      have O_q : IsDQ Z h33 q (.ref tm) (.ref tg) (.int (2 : Int32)) := O_q
      obtain ⟨T34, A_tm⟩ : ∃ T : Nat → UInt64, Ary Z h33 tm kT .double 16 (fun j => .double (T j)) := ⟨_, A_tm⟩
      obtain ⟨G34, A_tg⟩ : ∃ G : Nat → Int32, Ary Z h33 tg kG .int 16 (fun j => .int (G j)) := ⟨_, A_tg⟩
      refine WP.iload K at_65 rfl (pc' := 67) rfl ?_
      refine WP.iconst K at_67 (v := (2 : Int32)) rfl (pc' := 68) rfl ?_
      refine WP.icmpT K at_68 (by decide) (by decide) (pc' := 84) (by decide) ?_
      refine WP.aload K at_84 rfl rfl (pc' := 86) rfl ?_
      refine WP.callV K (a := q) (argsL := []) (S := []) (w_15 hw) (w_16 hw) (fun vm0 hZ => notFace_of_selects (args := #[]) (mvT (s := κ.s.setVm vm0) hZ (w_18 hw))) (w_18 hw) (w_17 hw) (by decide) (IsDQ.exa O_q) (rm_isEmpty w l Z a0 hw q tm tg (2 : Int32) h33 n0 Z0 O_q) (w_19 hw) (w_2 hw) (by decide) rfl (lenOf pd_1 rfl) rfl (W := 0) rfl (by decide) (by decide) (k' := 3) (n' := 35) rfl rfl (by decide) (by decide) at_86 (pc' := 89) rfl fun v h35 hq => ?_
      obtain ⟨rfl, rfl⟩ := hq
      show WP κ h33 3 35 (mkF κ.m 89 #[.val (.int p0), .val (.int p1), .val (.int p2), .val (.int p3), .val (.int p4), .val (.ref q), .val (.int (1 : Int32)), .val (.int (2 : Int32)), .val (.int (0 : Int32)), .unset, .unset] [(.int (nar .boolean (if (2 : Int32) = (0 : Int32) then (1 : Int32) else (0 : Int32))))])
      rw [show (nar .boolean (if (2 : Int32) = (0 : Int32) then (1 : Int32) else (0 : Int32))) = (0 : Int32) from by decide]
      show WP κ h33 3 35 (mkF κ.m 89 #[.val (.int p0), .val (.int p1), .val (.int p2), .val (.int p3), .val (.int p4), .val (.ref q), .val (.int (1 : Int32)), .val (.int (2 : Int32)), .val (.int (0 : Int32)), .unset, .unset] [(.int (0 : Int32))])
      refine WP.istore K at_89 (L' := #[.val (.int p0), .val (.int p1), .val (.int p2), .val (.int p3), .val (.int p4), .val (.ref q), .val (.int (1 : Int32)), .val (.int (2 : Int32)), .val (.int (0 : Int32)), .val (.int (0 : Int32)), .unset]) rfl (pc' := 91) rfl ?_
      refine WP.iload K at_91 rfl (pc' := 93) rfl ?_
      refine WP.if0T K at_93 (by decide) (by decide) (pc' := 102) (by decide) ?_
      refine WP.iload K at_102 rfl (pc' := 104) rfl ?_
      refine WP.iconst K at_104 (v := (1 : Int32)) rfl (pc' := 105) rfl ?_
      refine WP.icmpT K at_105 (by decide) (by decide) (pc' := 114) (by decide) ?_
      refine WP.iload K at_114 rfl (pc' := 116) rfl ?_
      refine WP.iconst K at_116 (v := (2 : Int32)) rfl (pc' := 117) rfl ?_
      refine WP.icmpT K at_117 (by decide) (by decide) (pc' := 126) (by decide) ?_
      refine WP.aload K at_126 rfl rfl (pc' := 128) rfl ?_
      refine WP.callV K (a := q) (argsL := []) (S := []) (w_15 hw) (w_16 hw) (fun vm0 hZ => notFace_of_selects (args := #[]) (mvT (s := κ.s.setVm vm0) hZ (w_18 hw))) (w_18 hw) (w_17 hw) (by decide) (IsDQ.exa O_q) (rm_isEmpty w l Z a0 hw q tm tg (2 : Int32) h33 n0 Z0 O_q) (w_19 hw) (w_2 hw) (by decide) rfl (lenOf pd_1 rfl) rfl (W := 0) rfl (by decide) (by decide) (k' := 3) (n' := 35) rfl rfl (by decide) (by decide) at_128 (pc' := 131) rfl fun v h36 hq => ?_
      obtain ⟨rfl, rfl⟩ := hq
      show WP κ h33 3 35 (mkF κ.m 131 #[.val (.int p0), .val (.int p1), .val (.int p2), .val (.int p3), .val (.int p4), .val (.ref q), .val (.int (1 : Int32)), .val (.int (2 : Int32)), .val (.int (0 : Int32)), .val (.int (0 : Int32)), .unset] [(.int (nar .boolean (if (2 : Int32) = (0 : Int32) then (1 : Int32) else (0 : Int32))))])
      rw [show (nar .boolean (if (2 : Int32) = (0 : Int32) then (1 : Int32) else (0 : Int32))) = (0 : Int32) from by decide]
      show WP κ h33 3 35 (mkF κ.m 131 #[.val (.int p0), .val (.int p1), .val (.int p2), .val (.int p3), .val (.int p4), .val (.ref q), .val (.int (1 : Int32)), .val (.int (2 : Int32)), .val (.int (0 : Int32)), .val (.int (0 : Int32)), .unset] [(.int (0 : Int32))])
      refine WP.istore K at_131 (L' := #[.val (.int p0), .val (.int p1), .val (.int p2), .val (.int p3), .val (.int p4), .val (.ref q), .val (.int (1 : Int32)), .val (.int (2 : Int32)), .val (.int (0 : Int32)), .val (.int (0 : Int32)), .val (.int (0 : Int32))]) rfl (pc' := 133) rfl ?_
      refine WP.iload K at_133 rfl (pc' := 135) rfl ?_
      refine WP.if0F K at_135 (by decide) (pc' := 138) rfl ?_
      refine WP.iload K at_138 rfl (pc' := 140) rfl ?_
      refine WP.iload K at_140 rfl (pc' := 142) rfl ?_
      refine WP.if0T K at_142 (by decide) (by decide) (pc' := 149) (by decide) ?_
      refine WP.iconst K at_149 (v := (0 : Int32)) rfl (pc' := 150) rfl ?_
      refine WP.icmpF K at_150 (by decide) (pc' := 153) rfl ?_
      refine WP.iload K at_153 rfl (pc' := 155) rfl ?_
      refine WP.iload K at_155 rfl (pc' := 157) rfl ?_
      refine WP.iload K at_157 rfl (pc' := 159) rfl ?_
      refine WP.icmpT K at_159 (by decide) (by decide) (pc' := 166) (by decide) ?_
      refine WP.iconst K at_166 (v := (0 : Int32)) rfl (pc' := 167) rfl ?_
      refine WP.icmpF K at_167 (by decide) (pc' := 170) rfl ?_
      refine WP.iconst K at_170 (v := (1 : Int32)) rfl (pc' := 171) rfl ?_
      refine WP.goto K at_171 (by decide) (pc' := 175) (by decide) ?_
      exact WP.retN K (ty := .boolean) (by decide) at_175 (by decide) (by decide) rfl
    · show WP κ h17 3 35 (mkF κ.m 32 #[.val (.int p0), .val (.int p1), .val (.int p2), .val (.int p3), .val (.int p4), .val (.ref q), .val (.int (1 : Int32)), .val (.int (2 : Int32)), .val (.int (1 : Int32)), .unset, .unset] [])
      refine WP.iload K at_32 rfl (pc' := 34) rfl ?_
      refine WP.if0F K at_34 (by decide) (pc' := 37) rfl ?_
      refine WP.aload K at_37 rfl rfl (pc' := 39) rfl ?_
      refine WP.iloadN K at_39 rfl (pc' := 40) rfl ?_
      refine WP.bipush K at_40 (v := (24 : Int32)) rfl (pc' := 42) rfl ?_
      refine WP.ishr K at_42 (pc' := 43) rfl ?_
      refine WP.i2d K at_43 (pc' := 44) rfl ?_
      refine WP.iloadN K at_44 rfl (pc' := 45) rfl ?_
      refine WP.callV K (a := q) (argsL := [(.double (FP.i2d (p2 >>> ((24 : Int32) &&& 31)))), (.int p2)]) (S := []) (w_23 hw) (w_24 hw) (fun vm0 hZ => notFace_of_selects (args := #[]) (mvT (s := κ.s.setVm vm0) hZ (w_26 hw))) (w_26 hw) (w_25 hw) (by decide) (IsDQ.exa O_q) (rm_add w l Z a0 hw q tm tg kT kG (0 : Int32) 0 (fun _ => 0) (fun _ => 0) (FP.i2d (p2 >>> ((24 : Int32) &&& 31))) p2 h17 n0 Z0 O_q A_tm A_tg ne_t old_q old_tm old_tg rfl (by decide)) (w_27 hw) (w_2 hw) (by decide) rfl (lenOf pd_2 rfl) rfl (W := 0) rfl (by decide) (by decide) (k' := 3) (n' := 35) rfl rfl (by decide) (by decide) at_45 (pc' := 48) rfl fun v h37 hq => ?_
      obtain ⟨rfl, K1, O_q, A_tm, A_tg⟩ := hq
      have Z0 := Nat.le_trans Z0 K1.1
      show WP κ h37 3 35 (mkF κ.m 48 #[.val (.int p0), .val (.int p1), .val (.int p2), .val (.int p3), .val (.int p4), .val (.ref q), .val (.int (1 : Int32)), .val (.int (2 : Int32)), .val (.int (1 : Int32)), .unset, .unset] [])
      have O_q : IsDQ Z h37 q (.ref tm) (.ref tg) (.int (1 : Int32)) := O_q
      obtain ⟨T38, A_tm⟩ : ∃ T : Nat → UInt64, Ary Z h37 tm kT .double 16 (fun j => .double (T j)) := ⟨_, A_tm⟩
      obtain ⟨G38, A_tg⟩ : ∃ G : Nat → Int32, Ary Z h37 tg kG .int 16 (fun j => .int (G j)) := ⟨_, A_tg⟩
      refine WP.iload K at_48 rfl (pc' := 50) rfl ?_
      refine WP.iconst K at_50 (v := (1 : Int32)) rfl (pc' := 51) rfl ?_
      refine WP.icmpF K at_51 (by decide) (pc' := 54) rfl ?_
      refine WP.aload K at_54 rfl rfl (pc' := 56) rfl ?_
      refine WP.iloadN K at_56 rfl (pc' := 57) rfl ?_
      refine WP.bipush K at_57 (v := (24 : Int32)) rfl (pc' := 59) rfl ?_
      refine WP.ishr K at_59 (pc' := 60) rfl ?_
      refine WP.i2d K at_60 (pc' := 61) rfl ?_
      refine WP.iloadN K at_61 rfl (pc' := 62) rfl ?_
      refine WP.callV K (a := q) (argsL := [(.double (FP.i2d (p3 >>> ((24 : Int32) &&& 31)))), (.int p3)]) (S := []) (w_23 hw) (w_24 hw) (fun vm0 hZ => notFace_of_selects (args := #[]) (mvT (s := κ.s.setVm vm0) hZ (w_26 hw))) (w_26 hw) (w_25 hw) (by decide) (IsDQ.exa O_q) (rm_add w l Z a0 hw q tm tg kT kG (1 : Int32) 1 T38 G38 (FP.i2d (p3 >>> ((24 : Int32) &&& 31))) p3 h37 n0 Z0 O_q A_tm A_tg ne_t old_q old_tm old_tg rfl (by decide)) (w_27 hw) (w_2 hw) (by decide) rfl (lenOf pd_2 rfl) rfl (W := 0) rfl (by decide) (by decide) (k' := 3) (n' := 35) rfl rfl (by decide) (by decide) at_62 (pc' := 65) rfl fun v h39 hq => ?_
      obtain ⟨rfl, K1, O_q, A_tm, A_tg⟩ := hq
      have Z0 := Nat.le_trans Z0 K1.1
      show WP κ h39 3 35 (mkF κ.m 65 #[.val (.int p0), .val (.int p1), .val (.int p2), .val (.int p3), .val (.int p4), .val (.ref q), .val (.int (1 : Int32)), .val (.int (2 : Int32)), .val (.int (1 : Int32)), .unset, .unset] [])
      have O_q : IsDQ Z h39 q (.ref tm) (.ref tg) (.int (2 : Int32)) := O_q
      obtain ⟨T40, A_tm⟩ : ∃ T : Nat → UInt64, Ary Z h39 tm kT .double 16 (fun j => .double (T j)) := ⟨_, A_tm⟩
      obtain ⟨G40, A_tg⟩ : ∃ G : Nat → Int32, Ary Z h39 tg kG .int 16 (fun j => .int (G j)) := ⟨_, A_tg⟩
      refine WP.iload K at_65 rfl (pc' := 67) rfl ?_
      refine WP.iconst K at_67 (v := (2 : Int32)) rfl (pc' := 68) rfl ?_
      refine WP.icmpT K at_68 (by decide) (by decide) (pc' := 84) (by decide) ?_
      refine WP.aload K at_84 rfl rfl (pc' := 86) rfl ?_
      refine WP.callV K (a := q) (argsL := []) (S := []) (w_15 hw) (w_16 hw) (fun vm0 hZ => notFace_of_selects (args := #[]) (mvT (s := κ.s.setVm vm0) hZ (w_18 hw))) (w_18 hw) (w_17 hw) (by decide) (IsDQ.exa O_q) (rm_isEmpty w l Z a0 hw q tm tg (2 : Int32) h39 n0 Z0 O_q) (w_19 hw) (w_2 hw) (by decide) rfl (lenOf pd_1 rfl) rfl (W := 0) rfl (by decide) (by decide) (k' := 3) (n' := 35) rfl rfl (by decide) (by decide) at_86 (pc' := 89) rfl fun v h41 hq => ?_
      obtain ⟨rfl, rfl⟩ := hq
      show WP κ h39 3 35 (mkF κ.m 89 #[.val (.int p0), .val (.int p1), .val (.int p2), .val (.int p3), .val (.int p4), .val (.ref q), .val (.int (1 : Int32)), .val (.int (2 : Int32)), .val (.int (1 : Int32)), .unset, .unset] [(.int (nar .boolean (if (2 : Int32) = (0 : Int32) then (1 : Int32) else (0 : Int32))))])
      rw [show (nar .boolean (if (2 : Int32) = (0 : Int32) then (1 : Int32) else (0 : Int32))) = (0 : Int32) from by decide]
      show WP κ h39 3 35 (mkF κ.m 89 #[.val (.int p0), .val (.int p1), .val (.int p2), .val (.int p3), .val (.int p4), .val (.ref q), .val (.int (1 : Int32)), .val (.int (2 : Int32)), .val (.int (1 : Int32)), .unset, .unset] [(.int (0 : Int32))])
      refine WP.istore K at_89 (L' := #[.val (.int p0), .val (.int p1), .val (.int p2), .val (.int p3), .val (.int p4), .val (.ref q), .val (.int (1 : Int32)), .val (.int (2 : Int32)), .val (.int (1 : Int32)), .val (.int (0 : Int32)), .unset]) rfl (pc' := 91) rfl ?_
      refine WP.iload K at_91 rfl (pc' := 93) rfl ?_
      refine WP.if0F K at_93 (by decide) (pc' := 96) rfl ?_
      refine WP.aload K at_96 rfl rfl (pc' := 98) rfl ?_
      refine WP.callV K (a := q) (argsL := []) (S := []) (w_28 hw) (w_29 hw) (fun vm0 hZ => notFace_of_selects (args := #[]) (mvT (s := κ.s.setVm vm0) hZ (w_31 hw))) (w_31 hw) (w_30 hw) (by decide) (IsDQ.exa O_q) (rm_rem w l Z a0 hw q tm tg kT kG (2 : Int32) 2 T40 G40 h39 n0 Z0 O_q A_tm A_tg ne_t old_q old_tm old_tg rfl (by decide) (by decide)) (w_32 hw) (w_2 hw) (by decide) rfl (lenOf pd_3 rfl) rfl (W := 0) rfl (by decide) (by decide) (k' := 3) (n' := 35) rfl rfl (by decide) (by decide) at_98 (pc' := 101) rfl fun v h42 hq => ?_
      obtain ⟨rfl, K1, O_q, A_tm, A_tg⟩ := hq
      have Z0 := Nat.le_trans Z0 K1.1
      show WP κ h42 3 35 (mkF κ.m 101 #[.val (.int p0), .val (.int p1), .val (.int p2), .val (.int p3), .val (.int p4), .val (.ref q), .val (.int (1 : Int32)), .val (.int (2 : Int32)), .val (.int (1 : Int32)), .val (.int (0 : Int32)), .unset] [(.int (G40 0))])
      have O_q : IsDQ Z h42 q (.ref tm) (.ref tg) (.int (1 : Int32)) := O_q
      obtain ⟨T43, A_tm⟩ : ∃ T : Nat → UInt64, Ary Z h42 tm kT .double 16 (fun j => .double (T j)) := ⟨_, A_tm⟩
      obtain ⟨G43, A_tg⟩ : ∃ G : Nat → Int32, Ary Z h42 tg kG .int 16 (fun j => .int (G j)) := ⟨_, A_tg⟩
      refine WP.pop K at_101 rfl (pc' := 102) rfl ?_
      refine WP.iload K at_102 rfl (pc' := 104) rfl ?_
      refine WP.iconst K at_104 (v := (1 : Int32)) rfl (pc' := 105) rfl ?_
      refine WP.icmpT K at_105 (by decide) (by decide) (pc' := 114) (by decide) ?_
      refine WP.iload K at_114 rfl (pc' := 116) rfl ?_
      refine WP.iconst K at_116 (v := (2 : Int32)) rfl (pc' := 117) rfl ?_
      refine WP.icmpT K at_117 (by decide) (by decide) (pc' := 126) (by decide) ?_
      refine WP.aload K at_126 rfl rfl (pc' := 128) rfl ?_
      refine WP.callV K (a := q) (argsL := []) (S := []) (w_15 hw) (w_16 hw) (fun vm0 hZ => notFace_of_selects (args := #[]) (mvT (s := κ.s.setVm vm0) hZ (w_18 hw))) (w_18 hw) (w_17 hw) (by decide) (IsDQ.exa O_q) (rm_isEmpty w l Z a0 hw q tm tg (1 : Int32) h42 n0 Z0 O_q) (w_19 hw) (w_2 hw) (by decide) rfl (lenOf pd_1 rfl) rfl (W := 0) rfl (by decide) (by decide) (k' := 3) (n' := 35) rfl rfl (by decide) (by decide) at_128 (pc' := 131) rfl fun v h44 hq => ?_
      obtain ⟨rfl, rfl⟩ := hq
      show WP κ h42 3 35 (mkF κ.m 131 #[.val (.int p0), .val (.int p1), .val (.int p2), .val (.int p3), .val (.int p4), .val (.ref q), .val (.int (1 : Int32)), .val (.int (2 : Int32)), .val (.int (1 : Int32)), .val (.int (0 : Int32)), .unset] [(.int (nar .boolean (if (1 : Int32) = (0 : Int32) then (1 : Int32) else (0 : Int32))))])
      rw [show (nar .boolean (if (1 : Int32) = (0 : Int32) then (1 : Int32) else (0 : Int32))) = (0 : Int32) from by decide]
      show WP κ h42 3 35 (mkF κ.m 131 #[.val (.int p0), .val (.int p1), .val (.int p2), .val (.int p3), .val (.int p4), .val (.ref q), .val (.int (1 : Int32)), .val (.int (2 : Int32)), .val (.int (1 : Int32)), .val (.int (0 : Int32)), .unset] [(.int (0 : Int32))])
      refine WP.istore K at_131 (L' := #[.val (.int p0), .val (.int p1), .val (.int p2), .val (.int p3), .val (.int p4), .val (.ref q), .val (.int (1 : Int32)), .val (.int (2 : Int32)), .val (.int (1 : Int32)), .val (.int (0 : Int32)), .val (.int (0 : Int32))]) rfl (pc' := 133) rfl ?_
      refine WP.iload K at_133 rfl (pc' := 135) rfl ?_
      refine WP.if0F K at_135 (by decide) (pc' := 138) rfl ?_
      refine WP.iload K at_138 rfl (pc' := 140) rfl ?_
      refine WP.iload K at_140 rfl (pc' := 142) rfl ?_
      refine WP.if0T K at_142 (by decide) (by decide) (pc' := 149) (by decide) ?_
      refine WP.iconst K at_149 (v := (0 : Int32)) rfl (pc' := 150) rfl ?_
      refine WP.icmpF K at_150 (by decide) (pc' := 153) rfl ?_
      refine WP.iload K at_153 rfl (pc' := 155) rfl ?_
      refine WP.iload K at_155 rfl (pc' := 157) rfl ?_
      refine WP.iload K at_157 rfl (pc' := 159) rfl ?_
      refine WP.icmpT K at_159 (by decide) (by decide) (pc' := 166) (by decide) ?_
      refine WP.iconst K at_166 (v := (0 : Int32)) rfl (pc' := 167) rfl ?_
      refine WP.icmpF K at_167 (by decide) (pc' := 170) rfl ?_
      refine WP.iconst K at_170 (v := (1 : Int32)) rfl (pc' := 171) rfl ?_
      refine WP.goto K at_171 (by decide) (pc' := 175) (by decide) ?_
      exact WP.retN K (ty := .boolean) (by decide) at_175 (by decide) (by decide) rfl
    · show WP κ h17 3 35 (mkF κ.m 32 #[.val (.int p0), .val (.int p1), .val (.int p2), .val (.int p3), .val (.int p4), .val (.ref q), .val (.int (1 : Int32)), .val (.int (2 : Int32)), .val (.int (2 : Int32)), .unset, .unset] [])
      refine WP.iload K at_32 rfl (pc' := 34) rfl ?_
      refine WP.if0F K at_34 (by decide) (pc' := 37) rfl ?_
      refine WP.aload K at_37 rfl rfl (pc' := 39) rfl ?_
      refine WP.iloadN K at_39 rfl (pc' := 40) rfl ?_
      refine WP.bipush K at_40 (v := (24 : Int32)) rfl (pc' := 42) rfl ?_
      refine WP.ishr K at_42 (pc' := 43) rfl ?_
      refine WP.i2d K at_43 (pc' := 44) rfl ?_
      refine WP.iloadN K at_44 rfl (pc' := 45) rfl ?_
      refine WP.callV K (a := q) (argsL := [(.double (FP.i2d (p2 >>> ((24 : Int32) &&& 31)))), (.int p2)]) (S := []) (w_23 hw) (w_24 hw) (fun vm0 hZ => notFace_of_selects (args := #[]) (mvT (s := κ.s.setVm vm0) hZ (w_26 hw))) (w_26 hw) (w_25 hw) (by decide) (IsDQ.exa O_q) (rm_add w l Z a0 hw q tm tg kT kG (0 : Int32) 0 (fun _ => 0) (fun _ => 0) (FP.i2d (p2 >>> ((24 : Int32) &&& 31))) p2 h17 n0 Z0 O_q A_tm A_tg ne_t old_q old_tm old_tg rfl (by decide)) (w_27 hw) (w_2 hw) (by decide) rfl (lenOf pd_2 rfl) rfl (W := 0) rfl (by decide) (by decide) (k' := 3) (n' := 35) rfl rfl (by decide) (by decide) at_45 (pc' := 48) rfl fun v h45 hq => ?_
      obtain ⟨rfl, K1, O_q, A_tm, A_tg⟩ := hq
      have Z0 := Nat.le_trans Z0 K1.1
      show WP κ h45 3 35 (mkF κ.m 48 #[.val (.int p0), .val (.int p1), .val (.int p2), .val (.int p3), .val (.int p4), .val (.ref q), .val (.int (1 : Int32)), .val (.int (2 : Int32)), .val (.int (2 : Int32)), .unset, .unset] [])
      have O_q : IsDQ Z h45 q (.ref tm) (.ref tg) (.int (1 : Int32)) := O_q
      obtain ⟨T46, A_tm⟩ : ∃ T : Nat → UInt64, Ary Z h45 tm kT .double 16 (fun j => .double (T j)) := ⟨_, A_tm⟩
      obtain ⟨G46, A_tg⟩ : ∃ G : Nat → Int32, Ary Z h45 tg kG .int 16 (fun j => .int (G j)) := ⟨_, A_tg⟩
      refine WP.iload K at_48 rfl (pc' := 50) rfl ?_
      refine WP.iconst K at_50 (v := (1 : Int32)) rfl (pc' := 51) rfl ?_
      refine WP.icmpF K at_51 (by decide) (pc' := 54) rfl ?_
      refine WP.aload K at_54 rfl rfl (pc' := 56) rfl ?_
      refine WP.iloadN K at_56 rfl (pc' := 57) rfl ?_
      refine WP.bipush K at_57 (v := (24 : Int32)) rfl (pc' := 59) rfl ?_
      refine WP.ishr K at_59 (pc' := 60) rfl ?_
      refine WP.i2d K at_60 (pc' := 61) rfl ?_
      refine WP.iloadN K at_61 rfl (pc' := 62) rfl ?_
      refine WP.callV K (a := q) (argsL := [(.double (FP.i2d (p3 >>> ((24 : Int32) &&& 31)))), (.int p3)]) (S := []) (w_23 hw) (w_24 hw) (fun vm0 hZ => notFace_of_selects (args := #[]) (mvT (s := κ.s.setVm vm0) hZ (w_26 hw))) (w_26 hw) (w_25 hw) (by decide) (IsDQ.exa O_q) (rm_add w l Z a0 hw q tm tg kT kG (1 : Int32) 1 T46 G46 (FP.i2d (p3 >>> ((24 : Int32) &&& 31))) p3 h45 n0 Z0 O_q A_tm A_tg ne_t old_q old_tm old_tg rfl (by decide)) (w_27 hw) (w_2 hw) (by decide) rfl (lenOf pd_2 rfl) rfl (W := 0) rfl (by decide) (by decide) (k' := 3) (n' := 35) rfl rfl (by decide) (by decide) at_62 (pc' := 65) rfl fun v h47 hq => ?_
      obtain ⟨rfl, K1, O_q, A_tm, A_tg⟩ := hq
      have Z0 := Nat.le_trans Z0 K1.1
      show WP κ h47 3 35 (mkF κ.m 65 #[.val (.int p0), .val (.int p1), .val (.int p2), .val (.int p3), .val (.int p4), .val (.ref q), .val (.int (1 : Int32)), .val (.int (2 : Int32)), .val (.int (2 : Int32)), .unset, .unset] [])
      have O_q : IsDQ Z h47 q (.ref tm) (.ref tg) (.int (2 : Int32)) := O_q
      obtain ⟨T48, A_tm⟩ : ∃ T : Nat → UInt64, Ary Z h47 tm kT .double 16 (fun j => .double (T j)) := ⟨_, A_tm⟩
      obtain ⟨G48, A_tg⟩ : ∃ G : Nat → Int32, Ary Z h47 tg kG .int 16 (fun j => .int (G j)) := ⟨_, A_tg⟩
      refine WP.iload K at_65 rfl (pc' := 67) rfl ?_
      refine WP.iconst K at_67 (v := (2 : Int32)) rfl (pc' := 68) rfl ?_
      refine WP.icmpT K at_68 (by decide) (by decide) (pc' := 84) (by decide) ?_
      refine WP.aload K at_84 rfl rfl (pc' := 86) rfl ?_
      refine WP.callV K (a := q) (argsL := []) (S := []) (w_15 hw) (w_16 hw) (fun vm0 hZ => notFace_of_selects (args := #[]) (mvT (s := κ.s.setVm vm0) hZ (w_18 hw))) (w_18 hw) (w_17 hw) (by decide) (IsDQ.exa O_q) (rm_isEmpty w l Z a0 hw q tm tg (2 : Int32) h47 n0 Z0 O_q) (w_19 hw) (w_2 hw) (by decide) rfl (lenOf pd_1 rfl) rfl (W := 0) rfl (by decide) (by decide) (k' := 3) (n' := 35) rfl rfl (by decide) (by decide) at_86 (pc' := 89) rfl fun v h49 hq => ?_
      obtain ⟨rfl, rfl⟩ := hq
      show WP κ h47 3 35 (mkF κ.m 89 #[.val (.int p0), .val (.int p1), .val (.int p2), .val (.int p3), .val (.int p4), .val (.ref q), .val (.int (1 : Int32)), .val (.int (2 : Int32)), .val (.int (2 : Int32)), .unset, .unset] [(.int (nar .boolean (if (2 : Int32) = (0 : Int32) then (1 : Int32) else (0 : Int32))))])
      rw [show (nar .boolean (if (2 : Int32) = (0 : Int32) then (1 : Int32) else (0 : Int32))) = (0 : Int32) from by decide]
      show WP κ h47 3 35 (mkF κ.m 89 #[.val (.int p0), .val (.int p1), .val (.int p2), .val (.int p3), .val (.int p4), .val (.ref q), .val (.int (1 : Int32)), .val (.int (2 : Int32)), .val (.int (2 : Int32)), .unset, .unset] [(.int (0 : Int32))])
      refine WP.istore K at_89 (L' := #[.val (.int p0), .val (.int p1), .val (.int p2), .val (.int p3), .val (.int p4), .val (.ref q), .val (.int (1 : Int32)), .val (.int (2 : Int32)), .val (.int (2 : Int32)), .val (.int (0 : Int32)), .unset]) rfl (pc' := 91) rfl ?_
      refine WP.iload K at_91 rfl (pc' := 93) rfl ?_
      refine WP.if0F K at_93 (by decide) (pc' := 96) rfl ?_
      refine WP.aload K at_96 rfl rfl (pc' := 98) rfl ?_
      refine WP.callV K (a := q) (argsL := []) (S := []) (w_28 hw) (w_29 hw) (fun vm0 hZ => notFace_of_selects (args := #[]) (mvT (s := κ.s.setVm vm0) hZ (w_31 hw))) (w_31 hw) (w_30 hw) (by decide) (IsDQ.exa O_q) (rm_rem w l Z a0 hw q tm tg kT kG (2 : Int32) 2 T48 G48 h47 n0 Z0 O_q A_tm A_tg ne_t old_q old_tm old_tg rfl (by decide) (by decide)) (w_32 hw) (w_2 hw) (by decide) rfl (lenOf pd_3 rfl) rfl (W := 0) rfl (by decide) (by decide) (k' := 3) (n' := 35) rfl rfl (by decide) (by decide) at_98 (pc' := 101) rfl fun v h50 hq => ?_
      obtain ⟨rfl, K1, O_q, A_tm, A_tg⟩ := hq
      have Z0 := Nat.le_trans Z0 K1.1
      show WP κ h50 3 35 (mkF κ.m 101 #[.val (.int p0), .val (.int p1), .val (.int p2), .val (.int p3), .val (.int p4), .val (.ref q), .val (.int (1 : Int32)), .val (.int (2 : Int32)), .val (.int (2 : Int32)), .val (.int (0 : Int32)), .unset] [(.int (G48 0))])
      have O_q : IsDQ Z h50 q (.ref tm) (.ref tg) (.int (1 : Int32)) := O_q
      obtain ⟨T51, A_tm⟩ : ∃ T : Nat → UInt64, Ary Z h50 tm kT .double 16 (fun j => .double (T j)) := ⟨_, A_tm⟩
      obtain ⟨G51, A_tg⟩ : ∃ G : Nat → Int32, Ary Z h50 tg kG .int 16 (fun j => .int (G j)) := ⟨_, A_tg⟩
      refine WP.pop K at_101 rfl (pc' := 102) rfl ?_
      refine WP.iload K at_102 rfl (pc' := 104) rfl ?_
      refine WP.iconst K at_104 (v := (1 : Int32)) rfl (pc' := 105) rfl ?_
      refine WP.icmpF K at_105 (by decide) (pc' := 108) rfl ?_
      refine WP.aload K at_108 rfl rfl (pc' := 110) rfl ?_
      refine WP.callV K (a := q) (argsL := []) (S := []) (w_28 hw) (w_29 hw) (fun vm0 hZ => notFace_of_selects (args := #[]) (mvT (s := κ.s.setVm vm0) hZ (w_31 hw))) (w_31 hw) (w_30 hw) (by decide) (IsDQ.exa O_q) (rm_rem w l Z a0 hw q tm tg kT kG (1 : Int32) 1 T51 G51 h50 n0 Z0 O_q A_tm A_tg ne_t old_q old_tm old_tg rfl (by decide) (by decide)) (w_32 hw) (w_2 hw) (by decide) rfl (lenOf pd_3 rfl) rfl (W := 0) rfl (by decide) (by decide) (k' := 3) (n' := 35) rfl rfl (by decide) (by decide) at_110 (pc' := 113) rfl fun v h52 hq => ?_
      obtain ⟨rfl, K1, O_q, A_tm, A_tg⟩ := hq
      have Z0 := Nat.le_trans Z0 K1.1
      show WP κ h52 3 35 (mkF κ.m 113 #[.val (.int p0), .val (.int p1), .val (.int p2), .val (.int p3), .val (.int p4), .val (.ref q), .val (.int (1 : Int32)), .val (.int (2 : Int32)), .val (.int (2 : Int32)), .val (.int (0 : Int32)), .unset] [(.int (G51 0))])
      have O_q : IsDQ Z h52 q (.ref tm) (.ref tg) (.int (0 : Int32)) := O_q
      obtain ⟨T53, A_tm⟩ : ∃ T : Nat → UInt64, Ary Z h52 tm kT .double 16 (fun j => .double (T j)) := ⟨_, A_tm⟩
      obtain ⟨G53, A_tg⟩ : ∃ G : Nat → Int32, Ary Z h52 tg kG .int 16 (fun j => .int (G j)) := ⟨_, A_tg⟩
      refine WP.pop K at_113 rfl (pc' := 114) rfl ?_
      refine WP.iload K at_114 rfl (pc' := 116) rfl ?_
      refine WP.iconst K at_116 (v := (2 : Int32)) rfl (pc' := 117) rfl ?_
      refine WP.icmpT K at_117 (by decide) (by decide) (pc' := 126) (by decide) ?_
      refine WP.aload K at_126 rfl rfl (pc' := 128) rfl ?_
      refine WP.callV K (a := q) (argsL := []) (S := []) (w_15 hw) (w_16 hw) (fun vm0 hZ => notFace_of_selects (args := #[]) (mvT (s := κ.s.setVm vm0) hZ (w_18 hw))) (w_18 hw) (w_17 hw) (by decide) (IsDQ.exa O_q) (rm_isEmpty w l Z a0 hw q tm tg (0 : Int32) h52 n0 Z0 O_q) (w_19 hw) (w_2 hw) (by decide) rfl (lenOf pd_1 rfl) rfl (W := 0) rfl (by decide) (by decide) (k' := 3) (n' := 35) rfl rfl (by decide) (by decide) at_128 (pc' := 131) rfl fun v h54 hq => ?_
      obtain ⟨rfl, rfl⟩ := hq
      show WP κ h52 3 35 (mkF κ.m 131 #[.val (.int p0), .val (.int p1), .val (.int p2), .val (.int p3), .val (.int p4), .val (.ref q), .val (.int (1 : Int32)), .val (.int (2 : Int32)), .val (.int (2 : Int32)), .val (.int (0 : Int32)), .unset] [(.int (nar .boolean (if (0 : Int32) = (0 : Int32) then (1 : Int32) else (0 : Int32))))])
      rw [show (nar .boolean (if (0 : Int32) = (0 : Int32) then (1 : Int32) else (0 : Int32))) = (1 : Int32) from by decide]
      show WP κ h52 3 35 (mkF κ.m 131 #[.val (.int p0), .val (.int p1), .val (.int p2), .val (.int p3), .val (.int p4), .val (.ref q), .val (.int (1 : Int32)), .val (.int (2 : Int32)), .val (.int (2 : Int32)), .val (.int (0 : Int32)), .unset] [(.int (1 : Int32))])
      refine WP.istore K at_131 (L' := #[.val (.int p0), .val (.int p1), .val (.int p2), .val (.int p3), .val (.int p4), .val (.ref q), .val (.int (1 : Int32)), .val (.int (2 : Int32)), .val (.int (2 : Int32)), .val (.int (0 : Int32)), .val (.int (1 : Int32))]) rfl (pc' := 133) rfl ?_
      refine WP.iload K at_133 rfl (pc' := 135) rfl ?_
      refine WP.if0F K at_135 (by decide) (pc' := 138) rfl ?_
      refine WP.iload K at_138 rfl (pc' := 140) rfl ?_
      refine WP.iload K at_140 rfl (pc' := 142) rfl ?_
      refine WP.if0T K at_142 (by decide) (by decide) (pc' := 149) (by decide) ?_
      refine WP.iconst K at_149 (v := (0 : Int32)) rfl (pc' := 150) rfl ?_
      refine WP.icmpF K at_150 (by decide) (pc' := 153) rfl ?_
      refine WP.iload K at_153 rfl (pc' := 155) rfl ?_
      refine WP.iload K at_155 rfl (pc' := 157) rfl ?_
      refine WP.iload K at_157 rfl (pc' := 159) rfl ?_
      refine WP.icmpF K at_159 (by decide) (pc' := 162) rfl ?_
      refine WP.iconst K at_162 (v := (1 : Int32)) rfl (pc' := 163) rfl ?_
      refine WP.goto K at_163 (by decide) (pc' := 167) (by decide) ?_
      refine WP.icmpF K at_167 (by decide) (pc' := 170) rfl ?_
      refine WP.iconst K at_170 (v := (1 : Int32)) rfl (pc' := 171) rfl ?_
      refine WP.goto K at_171 (by decide) (pc' := 175) (by decide) ?_
      exact WP.retN K (ty := .boolean) (by decide) at_175 (by decide) (by decide) rfl
  · show WP κ h17 3 35 (mkF κ.m 21 #[.val (.int p0), .val (.int p1), .val (.int p2), .val (.int p3), .val (.int p4), .val (.ref q), .val (.int (1 : Int32)), .val (.int (3 : Int32)), .unset, .unset, .unset] [])
    refine WP.iloadN K at_21 rfl (pc' := 22) rfl ?_
    refine WP.ldcI K (w_22 hw) at_22 (pc' := 24) rfl ?_
    refine WP.iand K at_24 (pc' := 25) rfl ?_
    refine WP.iload K at_25 rfl (pc' := 27) rfl ?_
    refine WP.iconst K at_27 (v := (1 : Int32)) rfl (pc' := 28) rfl ?_
    refine WP.iadd K at_28 (pc' := 29) rfl ?_
    show WP κ h17 3 35 (mkF κ.m 29 #[.val (.int p0), .val (.int p1), .val (.int p2), .val (.int p3), .val (.int p4), .val (.ref q), .val (.int (1 : Int32)), .val (.int (3 : Int32)), .unset, .unset, .unset] [(.int (4 : Int32)), (.int (p1 &&& (2147483647 : Int32)))])
    refine WP.irem K at_29 (by decide) (pc' := 30) rfl ?_
    refine WP.istore K at_30 (L' := #[.val (.int p0), .val (.int p1), .val (.int p2), .val (.int p3), .val (.int p4), .val (.ref q), .val (.int (1 : Int32)), .val (.int (3 : Int32)), .val (.int ((p1 &&& (2147483647 : Int32)) % (4 : Int32))), .unset, .unset]) rfl (pc' := 32) rfl ?_
    have hm := own_mx p1 (4 : Int32) 4 rfl (by decide)
    generalize e_M : ((p1 &&& (2147483647 : Int32)) % (4 : Int32)) = M at hm ⊢
    have hm := own_l4 hm
    rcases hm with rfl | rfl | rfl | rfl
    · show WP κ h17 3 35 (mkF κ.m 32 #[.val (.int p0), .val (.int p1), .val (.int p2), .val (.int p3), .val (.int p4), .val (.ref q), .val (.int (1 : Int32)), .val (.int (3 : Int32)), .val (.int (0 : Int32)), .unset, .unset] [])
      refine WP.iload K at_32 rfl (pc' := 34) rfl ?_
      refine WP.if0F K at_34 (by decide) (pc' := 37) rfl ?_
      refine WP.aload K at_37 rfl rfl (pc' := 39) rfl ?_
      refine WP.iloadN K at_39 rfl (pc' := 40) rfl ?_
      refine WP.bipush K at_40 (v := (24 : Int32)) rfl (pc' := 42) rfl ?_
      refine WP.ishr K at_42 (pc' := 43) rfl ?_
      refine WP.i2d K at_43 (pc' := 44) rfl ?_
      refine WP.iloadN K at_44 rfl (pc' := 45) rfl ?_
      refine WP.callV K (a := q) (argsL := [(.double (FP.i2d (p2 >>> ((24 : Int32) &&& 31)))), (.int p2)]) (S := []) (w_23 hw) (w_24 hw) (fun vm0 hZ => notFace_of_selects (args := #[]) (mvT (s := κ.s.setVm vm0) hZ (w_26 hw))) (w_26 hw) (w_25 hw) (by decide) (IsDQ.exa O_q) (rm_add w l Z a0 hw q tm tg kT kG (0 : Int32) 0 (fun _ => 0) (fun _ => 0) (FP.i2d (p2 >>> ((24 : Int32) &&& 31))) p2 h17 n0 Z0 O_q A_tm A_tg ne_t old_q old_tm old_tg rfl (by decide)) (w_27 hw) (w_2 hw) (by decide) rfl (lenOf pd_2 rfl) rfl (W := 0) rfl (by decide) (by decide) (k' := 3) (n' := 35) rfl rfl (by decide) (by decide) at_45 (pc' := 48) rfl fun v h55 hq => ?_
      obtain ⟨rfl, K1, O_q, A_tm, A_tg⟩ := hq
      have Z0 := Nat.le_trans Z0 K1.1
      show WP κ h55 3 35 (mkF κ.m 48 #[.val (.int p0), .val (.int p1), .val (.int p2), .val (.int p3), .val (.int p4), .val (.ref q), .val (.int (1 : Int32)), .val (.int (3 : Int32)), .val (.int (0 : Int32)), .unset, .unset] [])
      have O_q : IsDQ Z h55 q (.ref tm) (.ref tg) (.int (1 : Int32)) := O_q
      obtain ⟨T56, A_tm⟩ : ∃ T : Nat → UInt64, Ary Z h55 tm kT .double 16 (fun j => .double (T j)) := ⟨_, A_tm⟩
      obtain ⟨G56, A_tg⟩ : ∃ G : Nat → Int32, Ary Z h55 tg kG .int 16 (fun j => .int (G j)) := ⟨_, A_tg⟩
      refine WP.iload K at_48 rfl (pc' := 50) rfl ?_
      refine WP.iconst K at_50 (v := (1 : Int32)) rfl (pc' := 51) rfl ?_
      refine WP.icmpF K at_51 (by decide) (pc' := 54) rfl ?_
      refine WP.aload K at_54 rfl rfl (pc' := 56) rfl ?_
      refine WP.iloadN K at_56 rfl (pc' := 57) rfl ?_
      refine WP.bipush K at_57 (v := (24 : Int32)) rfl (pc' := 59) rfl ?_
      refine WP.ishr K at_59 (pc' := 60) rfl ?_
      refine WP.i2d K at_60 (pc' := 61) rfl ?_
      refine WP.iloadN K at_61 rfl (pc' := 62) rfl ?_
      refine WP.callV K (a := q) (argsL := [(.double (FP.i2d (p3 >>> ((24 : Int32) &&& 31)))), (.int p3)]) (S := []) (w_23 hw) (w_24 hw) (fun vm0 hZ => notFace_of_selects (args := #[]) (mvT (s := κ.s.setVm vm0) hZ (w_26 hw))) (w_26 hw) (w_25 hw) (by decide) (IsDQ.exa O_q) (rm_add w l Z a0 hw q tm tg kT kG (1 : Int32) 1 T56 G56 (FP.i2d (p3 >>> ((24 : Int32) &&& 31))) p3 h55 n0 Z0 O_q A_tm A_tg ne_t old_q old_tm old_tg rfl (by decide)) (w_27 hw) (w_2 hw) (by decide) rfl (lenOf pd_2 rfl) rfl (W := 0) rfl (by decide) (by decide) (k' := 3) (n' := 35) rfl rfl (by decide) (by decide) at_62 (pc' := 65) rfl fun v h57 hq => ?_
      obtain ⟨rfl, K1, O_q, A_tm, A_tg⟩ := hq
      have Z0 := Nat.le_trans Z0 K1.1
      show WP κ h57 3 35 (mkF κ.m 65 #[.val (.int p0), .val (.int p1), .val (.int p2), .val (.int p3), .val (.int p4), .val (.ref q), .val (.int (1 : Int32)), .val (.int (3 : Int32)), .val (.int (0 : Int32)), .unset, .unset] [])
      have O_q : IsDQ Z h57 q (.ref tm) (.ref tg) (.int (2 : Int32)) := O_q
      obtain ⟨T58, A_tm⟩ : ∃ T : Nat → UInt64, Ary Z h57 tm kT .double 16 (fun j => .double (T j)) := ⟨_, A_tm⟩
      obtain ⟨G58, A_tg⟩ : ∃ G : Nat → Int32, Ary Z h57 tg kG .int 16 (fun j => .int (G j)) := ⟨_, A_tg⟩
      refine WP.iload K at_65 rfl (pc' := 67) rfl ?_
      refine WP.iconst K at_67 (v := (2 : Int32)) rfl (pc' := 68) rfl ?_
      refine WP.icmpF K at_68 (by decide) (pc' := 71) rfl ?_
      refine WP.aload K at_71 rfl rfl (pc' := 73) rfl ?_
      refine WP.iload K at_73 rfl (pc' := 75) rfl ?_
      refine WP.bipush K at_75 (v := (24 : Int32)) rfl (pc' := 77) rfl ?_
      refine WP.ishr K at_77 (pc' := 78) rfl ?_
      refine WP.i2d K at_78 (pc' := 79) rfl ?_
      refine WP.iload K at_79 rfl (pc' := 81) rfl ?_
      refine WP.callV K (a := q) (argsL := [(.double (FP.i2d (p4 >>> ((24 : Int32) &&& 31)))), (.int p4)]) (S := []) (w_23 hw) (w_24 hw) (fun vm0 hZ => notFace_of_selects (args := #[]) (mvT (s := κ.s.setVm vm0) hZ (w_26 hw))) (w_26 hw) (w_25 hw) (by decide) (IsDQ.exa O_q) (rm_add w l Z a0 hw q tm tg kT kG (2 : Int32) 2 T58 G58 (FP.i2d (p4 >>> ((24 : Int32) &&& 31))) p4 h57 n0 Z0 O_q A_tm A_tg ne_t old_q old_tm old_tg rfl (by decide)) (w_27 hw) (w_2 hw) (by decide) rfl (lenOf pd_2 rfl) rfl (W := 0) rfl (by decide) (by decide) (k' := 3) (n' := 35) rfl rfl (by decide) (by decide) at_81 (pc' := 84) rfl fun v h59 hq => ?_
      obtain ⟨rfl, K1, O_q, A_tm, A_tg⟩ := hq
      have Z0 := Nat.le_trans Z0 K1.1
      show WP κ h59 3 35 (mkF κ.m 84 #[.val (.int p0), .val (.int p1), .val (.int p2), .val (.int p3), .val (.int p4), .val (.ref q), .val (.int (1 : Int32)), .val (.int (3 : Int32)), .val (.int (0 : Int32)), .unset, .unset] [])
      have O_q : IsDQ Z h59 q (.ref tm) (.ref tg) (.int (3 : Int32)) := O_q
      obtain ⟨T60, A_tm⟩ : ∃ T : Nat → UInt64, Ary Z h59 tm kT .double 16 (fun j => .double (T j)) := ⟨_, A_tm⟩
      obtain ⟨G60, A_tg⟩ : ∃ G : Nat → Int32, Ary Z h59 tg kG .int 16 (fun j => .int (G j)) := ⟨_, A_tg⟩
      refine WP.aload K at_84 rfl rfl (pc' := 86) rfl ?_
      refine WP.callV K (a := q) (argsL := []) (S := []) (w_15 hw) (w_16 hw) (fun vm0 hZ => notFace_of_selects (args := #[]) (mvT (s := κ.s.setVm vm0) hZ (w_18 hw))) (w_18 hw) (w_17 hw) (by decide) (IsDQ.exa O_q) (rm_isEmpty w l Z a0 hw q tm tg (3 : Int32) h59 n0 Z0 O_q) (w_19 hw) (w_2 hw) (by decide) rfl (lenOf pd_1 rfl) rfl (W := 0) rfl (by decide) (by decide) (k' := 3) (n' := 35) rfl rfl (by decide) (by decide) at_86 (pc' := 89) rfl fun v h61 hq => ?_
      obtain ⟨rfl, rfl⟩ := hq
      show WP κ h59 3 35 (mkF κ.m 89 #[.val (.int p0), .val (.int p1), .val (.int p2), .val (.int p3), .val (.int p4), .val (.ref q), .val (.int (1 : Int32)), .val (.int (3 : Int32)), .val (.int (0 : Int32)), .unset, .unset] [(.int (nar .boolean (if (3 : Int32) = (0 : Int32) then (1 : Int32) else (0 : Int32))))])
      rw [show (nar .boolean (if (3 : Int32) = (0 : Int32) then (1 : Int32) else (0 : Int32))) = (0 : Int32) from by decide]
      show WP κ h59 3 35 (mkF κ.m 89 #[.val (.int p0), .val (.int p1), .val (.int p2), .val (.int p3), .val (.int p4), .val (.ref q), .val (.int (1 : Int32)), .val (.int (3 : Int32)), .val (.int (0 : Int32)), .unset, .unset] [(.int (0 : Int32))])
      refine WP.istore K at_89 (L' := #[.val (.int p0), .val (.int p1), .val (.int p2), .val (.int p3), .val (.int p4), .val (.ref q), .val (.int (1 : Int32)), .val (.int (3 : Int32)), .val (.int (0 : Int32)), .val (.int (0 : Int32)), .unset]) rfl (pc' := 91) rfl ?_
      refine WP.iload K at_91 rfl (pc' := 93) rfl ?_
      refine WP.if0T K at_93 (by decide) (by decide) (pc' := 102) (by decide) ?_
      refine WP.iload K at_102 rfl (pc' := 104) rfl ?_
      refine WP.iconst K at_104 (v := (1 : Int32)) rfl (pc' := 105) rfl ?_
      refine WP.icmpT K at_105 (by decide) (by decide) (pc' := 114) (by decide) ?_
      refine WP.iload K at_114 rfl (pc' := 116) rfl ?_
      refine WP.iconst K at_116 (v := (2 : Int32)) rfl (pc' := 117) rfl ?_
      refine WP.icmpT K at_117 (by decide) (by decide) (pc' := 126) (by decide) ?_
      refine WP.aload K at_126 rfl rfl (pc' := 128) rfl ?_
      refine WP.callV K (a := q) (argsL := []) (S := []) (w_15 hw) (w_16 hw) (fun vm0 hZ => notFace_of_selects (args := #[]) (mvT (s := κ.s.setVm vm0) hZ (w_18 hw))) (w_18 hw) (w_17 hw) (by decide) (IsDQ.exa O_q) (rm_isEmpty w l Z a0 hw q tm tg (3 : Int32) h59 n0 Z0 O_q) (w_19 hw) (w_2 hw) (by decide) rfl (lenOf pd_1 rfl) rfl (W := 0) rfl (by decide) (by decide) (k' := 3) (n' := 35) rfl rfl (by decide) (by decide) at_128 (pc' := 131) rfl fun v h62 hq => ?_
      obtain ⟨rfl, rfl⟩ := hq
      show WP κ h59 3 35 (mkF κ.m 131 #[.val (.int p0), .val (.int p1), .val (.int p2), .val (.int p3), .val (.int p4), .val (.ref q), .val (.int (1 : Int32)), .val (.int (3 : Int32)), .val (.int (0 : Int32)), .val (.int (0 : Int32)), .unset] [(.int (nar .boolean (if (3 : Int32) = (0 : Int32) then (1 : Int32) else (0 : Int32))))])
      rw [show (nar .boolean (if (3 : Int32) = (0 : Int32) then (1 : Int32) else (0 : Int32))) = (0 : Int32) from by decide]
      show WP κ h59 3 35 (mkF κ.m 131 #[.val (.int p0), .val (.int p1), .val (.int p2), .val (.int p3), .val (.int p4), .val (.ref q), .val (.int (1 : Int32)), .val (.int (3 : Int32)), .val (.int (0 : Int32)), .val (.int (0 : Int32)), .unset] [(.int (0 : Int32))])
      refine WP.istore K at_131 (L' := #[.val (.int p0), .val (.int p1), .val (.int p2), .val (.int p3), .val (.int p4), .val (.ref q), .val (.int (1 : Int32)), .val (.int (3 : Int32)), .val (.int (0 : Int32)), .val (.int (0 : Int32)), .val (.int (0 : Int32))]) rfl (pc' := 133) rfl ?_
      refine WP.iload K at_133 rfl (pc' := 135) rfl ?_
      refine WP.if0F K at_135 (by decide) (pc' := 138) rfl ?_
      refine WP.iload K at_138 rfl (pc' := 140) rfl ?_
      refine WP.iload K at_140 rfl (pc' := 142) rfl ?_
      refine WP.if0T K at_142 (by decide) (by decide) (pc' := 149) (by decide) ?_
      refine WP.iconst K at_149 (v := (0 : Int32)) rfl (pc' := 150) rfl ?_
      refine WP.icmpF K at_150 (by decide) (pc' := 153) rfl ?_
      refine WP.iload K at_153 rfl (pc' := 155) rfl ?_
      refine WP.iload K at_155 rfl (pc' := 157) rfl ?_
      refine WP.iload K at_157 rfl (pc' := 159) rfl ?_
      refine WP.icmpT K at_159 (by decide) (by decide) (pc' := 166) (by decide) ?_
      refine WP.iconst K at_166 (v := (0 : Int32)) rfl (pc' := 167) rfl ?_
      refine WP.icmpF K at_167 (by decide) (pc' := 170) rfl ?_
      refine WP.iconst K at_170 (v := (1 : Int32)) rfl (pc' := 171) rfl ?_
      refine WP.goto K at_171 (by decide) (pc' := 175) (by decide) ?_
      exact WP.retN K (ty := .boolean) (by decide) at_175 (by decide) (by decide) rfl
    · show WP κ h17 3 35 (mkF κ.m 32 #[.val (.int p0), .val (.int p1), .val (.int p2), .val (.int p3), .val (.int p4), .val (.ref q), .val (.int (1 : Int32)), .val (.int (3 : Int32)), .val (.int (1 : Int32)), .unset, .unset] [])
      refine WP.iload K at_32 rfl (pc' := 34) rfl ?_
      refine WP.if0F K at_34 (by decide) (pc' := 37) rfl ?_
      refine WP.aload K at_37 rfl rfl (pc' := 39) rfl ?_
      refine WP.iloadN K at_39 rfl (pc' := 40) rfl ?_
      refine WP.bipush K at_40 (v := (24 : Int32)) rfl (pc' := 42) rfl ?_
      refine WP.ishr K at_42 (pc' := 43) rfl ?_
      refine WP.i2d K at_43 (pc' := 44) rfl ?_
      refine WP.iloadN K at_44 rfl (pc' := 45) rfl ?_
      refine WP.callV K (a := q) (argsL := [(.double (FP.i2d (p2 >>> ((24 : Int32) &&& 31)))), (.int p2)]) (S := []) (w_23 hw) (w_24 hw) (fun vm0 hZ => notFace_of_selects (args := #[]) (mvT (s := κ.s.setVm vm0) hZ (w_26 hw))) (w_26 hw) (w_25 hw) (by decide) (IsDQ.exa O_q) (rm_add w l Z a0 hw q tm tg kT kG (0 : Int32) 0 (fun _ => 0) (fun _ => 0) (FP.i2d (p2 >>> ((24 : Int32) &&& 31))) p2 h17 n0 Z0 O_q A_tm A_tg ne_t old_q old_tm old_tg rfl (by decide)) (w_27 hw) (w_2 hw) (by decide) rfl (lenOf pd_2 rfl) rfl (W := 0) rfl (by decide) (by decide) (k' := 3) (n' := 35) rfl rfl (by decide) (by decide) at_45 (pc' := 48) rfl fun v h63 hq => ?_
      obtain ⟨rfl, K1, O_q, A_tm, A_tg⟩ := hq
      have Z0 := Nat.le_trans Z0 K1.1
      show WP κ h63 3 35 (mkF κ.m 48 #[.val (.int p0), .val (.int p1), .val (.int p2), .val (.int p3), .val (.int p4), .val (.ref q), .val (.int (1 : Int32)), .val (.int (3 : Int32)), .val (.int (1 : Int32)), .unset, .unset] [])
      have O_q : IsDQ Z h63 q (.ref tm) (.ref tg) (.int (1 : Int32)) := O_q
      obtain ⟨T64, A_tm⟩ : ∃ T : Nat → UInt64, Ary Z h63 tm kT .double 16 (fun j => .double (T j)) := ⟨_, A_tm⟩
      obtain ⟨G64, A_tg⟩ : ∃ G : Nat → Int32, Ary Z h63 tg kG .int 16 (fun j => .int (G j)) := ⟨_, A_tg⟩
      refine WP.iload K at_48 rfl (pc' := 50) rfl ?_
      refine WP.iconst K at_50 (v := (1 : Int32)) rfl (pc' := 51) rfl ?_
      refine WP.icmpF K at_51 (by decide) (pc' := 54) rfl ?_
      refine WP.aload K at_54 rfl rfl (pc' := 56) rfl ?_
      refine WP.iloadN K at_56 rfl (pc' := 57) rfl ?_
      refine WP.bipush K at_57 (v := (24 : Int32)) rfl (pc' := 59) rfl ?_
      refine WP.ishr K at_59 (pc' := 60) rfl ?_
      refine WP.i2d K at_60 (pc' := 61) rfl ?_
      refine WP.iloadN K at_61 rfl (pc' := 62) rfl ?_
      refine WP.callV K (a := q) (argsL := [(.double (FP.i2d (p3 >>> ((24 : Int32) &&& 31)))), (.int p3)]) (S := []) (w_23 hw) (w_24 hw) (fun vm0 hZ => notFace_of_selects (args := #[]) (mvT (s := κ.s.setVm vm0) hZ (w_26 hw))) (w_26 hw) (w_25 hw) (by decide) (IsDQ.exa O_q) (rm_add w l Z a0 hw q tm tg kT kG (1 : Int32) 1 T64 G64 (FP.i2d (p3 >>> ((24 : Int32) &&& 31))) p3 h63 n0 Z0 O_q A_tm A_tg ne_t old_q old_tm old_tg rfl (by decide)) (w_27 hw) (w_2 hw) (by decide) rfl (lenOf pd_2 rfl) rfl (W := 0) rfl (by decide) (by decide) (k' := 3) (n' := 35) rfl rfl (by decide) (by decide) at_62 (pc' := 65) rfl fun v h65 hq => ?_
      obtain ⟨rfl, K1, O_q, A_tm, A_tg⟩ := hq
      have Z0 := Nat.le_trans Z0 K1.1
      show WP κ h65 3 35 (mkF κ.m 65 #[.val (.int p0), .val (.int p1), .val (.int p2), .val (.int p3), .val (.int p4), .val (.ref q), .val (.int (1 : Int32)), .val (.int (3 : Int32)), .val (.int (1 : Int32)), .unset, .unset] [])
      have O_q : IsDQ Z h65 q (.ref tm) (.ref tg) (.int (2 : Int32)) := O_q
      obtain ⟨T66, A_tm⟩ : ∃ T : Nat → UInt64, Ary Z h65 tm kT .double 16 (fun j => .double (T j)) := ⟨_, A_tm⟩
      obtain ⟨G66, A_tg⟩ : ∃ G : Nat → Int32, Ary Z h65 tg kG .int 16 (fun j => .int (G j)) := ⟨_, A_tg⟩
      refine WP.iload K at_65 rfl (pc' := 67) rfl ?_
      refine WP.iconst K at_67 (v := (2 : Int32)) rfl (pc' := 68) rfl ?_
      refine WP.icmpF K at_68 (by decide) (pc' := 71) rfl ?_
      refine WP.aload K at_71 rfl rfl (pc' := 73) rfl ?_
      refine WP.iload K at_73 rfl (pc' := 75) rfl ?_
      refine WP.bipush K at_75 (v := (24 : Int32)) rfl (pc' := 77) rfl ?_
      refine WP.ishr K at_77 (pc' := 78) rfl ?_
      refine WP.i2d K at_78 (pc' := 79) rfl ?_
      refine WP.iload K at_79 rfl (pc' := 81) rfl ?_
      refine WP.callV K (a := q) (argsL := [(.double (FP.i2d (p4 >>> ((24 : Int32) &&& 31)))), (.int p4)]) (S := []) (w_23 hw) (w_24 hw) (fun vm0 hZ => notFace_of_selects (args := #[]) (mvT (s := κ.s.setVm vm0) hZ (w_26 hw))) (w_26 hw) (w_25 hw) (by decide) (IsDQ.exa O_q) (rm_add w l Z a0 hw q tm tg kT kG (2 : Int32) 2 T66 G66 (FP.i2d (p4 >>> ((24 : Int32) &&& 31))) p4 h65 n0 Z0 O_q A_tm A_tg ne_t old_q old_tm old_tg rfl (by decide)) (w_27 hw) (w_2 hw) (by decide) rfl (lenOf pd_2 rfl) rfl (W := 0) rfl (by decide) (by decide) (k' := 3) (n' := 35) rfl rfl (by decide) (by decide) at_81 (pc' := 84) rfl fun v h67 hq => ?_
      obtain ⟨rfl, K1, O_q, A_tm, A_tg⟩ := hq
      have Z0 := Nat.le_trans Z0 K1.1
      show WP κ h67 3 35 (mkF κ.m 84 #[.val (.int p0), .val (.int p1), .val (.int p2), .val (.int p3), .val (.int p4), .val (.ref q), .val (.int (1 : Int32)), .val (.int (3 : Int32)), .val (.int (1 : Int32)), .unset, .unset] [])
      have O_q : IsDQ Z h67 q (.ref tm) (.ref tg) (.int (3 : Int32)) := O_q
      obtain ⟨T68, A_tm⟩ : ∃ T : Nat → UInt64, Ary Z h67 tm kT .double 16 (fun j => .double (T j)) := ⟨_, A_tm⟩
      obtain ⟨G68, A_tg⟩ : ∃ G : Nat → Int32, Ary Z h67 tg kG .int 16 (fun j => .int (G j)) := ⟨_, A_tg⟩
      refine WP.aload K at_84 rfl rfl (pc' := 86) rfl ?_
      refine WP.callV K (a := q) (argsL := []) (S := []) (w_15 hw) (w_16 hw) (fun vm0 hZ => notFace_of_selects (args := #[]) (mvT (s := κ.s.setVm vm0) hZ (w_18 hw))) (w_18 hw) (w_17 hw) (by decide) (IsDQ.exa O_q) (rm_isEmpty w l Z a0 hw q tm tg (3 : Int32) h67 n0 Z0 O_q) (w_19 hw) (w_2 hw) (by decide) rfl (lenOf pd_1 rfl) rfl (W := 0) rfl (by decide) (by decide) (k' := 3) (n' := 35) rfl rfl (by decide) (by decide) at_86 (pc' := 89) rfl fun v h69 hq => ?_
      obtain ⟨rfl, rfl⟩ := hq
      show WP κ h67 3 35 (mkF κ.m 89 #[.val (.int p0), .val (.int p1), .val (.int p2), .val (.int p3), .val (.int p4), .val (.ref q), .val (.int (1 : Int32)), .val (.int (3 : Int32)), .val (.int (1 : Int32)), .unset, .unset] [(.int (nar .boolean (if (3 : Int32) = (0 : Int32) then (1 : Int32) else (0 : Int32))))])
      rw [show (nar .boolean (if (3 : Int32) = (0 : Int32) then (1 : Int32) else (0 : Int32))) = (0 : Int32) from by decide]
      show WP κ h67 3 35 (mkF κ.m 89 #[.val (.int p0), .val (.int p1), .val (.int p2), .val (.int p3), .val (.int p4), .val (.ref q), .val (.int (1 : Int32)), .val (.int (3 : Int32)), .val (.int (1 : Int32)), .unset, .unset] [(.int (0 : Int32))])
      refine WP.istore K at_89 (L' := #[.val (.int p0), .val (.int p1), .val (.int p2), .val (.int p3), .val (.int p4), .val (.ref q), .val (.int (1 : Int32)), .val (.int (3 : Int32)), .val (.int (1 : Int32)), .val (.int (0 : Int32)), .unset]) rfl (pc' := 91) rfl ?_
      refine WP.iload K at_91 rfl (pc' := 93) rfl ?_
      refine WP.if0F K at_93 (by decide) (pc' := 96) rfl ?_
      refine WP.aload K at_96 rfl rfl (pc' := 98) rfl ?_
      refine WP.callV K (a := q) (argsL := []) (S := []) (w_28 hw) (w_29 hw) (fun vm0 hZ => notFace_of_selects (args := #[]) (mvT (s := κ.s.setVm vm0) hZ (w_31 hw))) (w_31 hw) (w_30 hw) (by decide) (IsDQ.exa O_q) (rm_rem w l Z a0 hw q tm tg kT kG (3 : Int32) 3 T68 G68 h67 n0 Z0 O_q A_tm A_tg ne_t old_q old_tm old_tg rfl (by decide) (by decide)) (w_32 hw) (w_2 hw) (by decide) rfl (lenOf pd_3 rfl) rfl (W := 0) rfl (by decide) (by decide) (k' := 3) (n' := 35) rfl rfl (by decide) (by decide) at_98 (pc' := 101) rfl fun v h70 hq => ?_
      obtain ⟨rfl, K1, O_q, A_tm, A_tg⟩ := hq
      have Z0 := Nat.le_trans Z0 K1.1
      show WP κ h70 3 35 (mkF κ.m 101 #[.val (.int p0), .val (.int p1), .val (.int p2), .val (.int p3), .val (.int p4), .val (.ref q), .val (.int (1 : Int32)), .val (.int (3 : Int32)), .val (.int (1 : Int32)), .val (.int (0 : Int32)), .unset] [(.int (G68 0))])
      have O_q : IsDQ Z h70 q (.ref tm) (.ref tg) (.int (2 : Int32)) := O_q
      obtain ⟨T71, A_tm⟩ : ∃ T : Nat → UInt64, Ary Z h70 tm kT .double 16 (fun j => .double (T j)) := ⟨_, A_tm⟩
      obtain ⟨G71, A_tg⟩ : ∃ G : Nat → Int32, Ary Z h70 tg kG .int 16 (fun j => .int (G j)) := ⟨_, A_tg⟩
      refine WP.pop K at_101 rfl (pc' := 102) rfl ?_
      refine WP.iload K at_102 rfl (pc' := 104) rfl ?_
      refine WP.iconst K at_104 (v := (1 : Int32)) rfl (pc' := 105) rfl ?_
      refine WP.icmpT K at_105 (by decide) (by decide) (pc' := 114) (by decide) ?_
      refine WP.iload K at_114 rfl (pc' := 116) rfl ?_
      refine WP.iconst K at_116 (v := (2 : Int32)) rfl (pc' := 117) rfl ?_
      refine WP.icmpT K at_117 (by decide) (by decide) (pc' := 126) (by decide) ?_
      refine WP.aload K at_126 rfl rfl (pc' := 128) rfl ?_
      refine WP.callV K (a := q) (argsL := []) (S := []) (w_15 hw) (w_16 hw) (fun vm0 hZ => notFace_of_selects (args := #[]) (mvT (s := κ.s.setVm vm0) hZ (w_18 hw))) (w_18 hw) (w_17 hw) (by decide) (IsDQ.exa O_q) (rm_isEmpty w l Z a0 hw q tm tg (2 : Int32) h70 n0 Z0 O_q) (w_19 hw) (w_2 hw) (by decide) rfl (lenOf pd_1 rfl) rfl (W := 0) rfl (by decide) (by decide) (k' := 3) (n' := 35) rfl rfl (by decide) (by decide) at_128 (pc' := 131) rfl fun v h72 hq => ?_
      obtain ⟨rfl, rfl⟩ := hq
      show WP κ h70 3 35 (mkF κ.m 131 #[.val (.int p0), .val (.int p1), .val (.int p2), .val (.int p3), .val (.int p4), .val (.ref q), .val (.int (1 : Int32)), .val (.int (3 : Int32)), .val (.int (1 : Int32)), .val (.int (0 : Int32)), .unset] [(.int (nar .boolean (if (2 : Int32) = (0 : Int32) then (1 : Int32) else (0 : Int32))))])
      rw [show (nar .boolean (if (2 : Int32) = (0 : Int32) then (1 : Int32) else (0 : Int32))) = (0 : Int32) from by decide]
      show WP κ h70 3 35 (mkF κ.m 131 #[.val (.int p0), .val (.int p1), .val (.int p2), .val (.int p3), .val (.int p4), .val (.ref q), .val (.int (1 : Int32)), .val (.int (3 : Int32)), .val (.int (1 : Int32)), .val (.int (0 : Int32)), .unset] [(.int (0 : Int32))])
      refine WP.istore K at_131 (L' := #[.val (.int p0), .val (.int p1), .val (.int p2), .val (.int p3), .val (.int p4), .val (.ref q), .val (.int (1 : Int32)), .val (.int (3 : Int32)), .val (.int (1 : Int32)), .val (.int (0 : Int32)), .val (.int (0 : Int32))]) rfl (pc' := 133) rfl ?_
      refine WP.iload K at_133 rfl (pc' := 135) rfl ?_
      refine WP.if0F K at_135 (by decide) (pc' := 138) rfl ?_
      refine WP.iload K at_138 rfl (pc' := 140) rfl ?_
      refine WP.iload K at_140 rfl (pc' := 142) rfl ?_
      refine WP.if0T K at_142 (by decide) (by decide) (pc' := 149) (by decide) ?_
      refine WP.iconst K at_149 (v := (0 : Int32)) rfl (pc' := 150) rfl ?_
      refine WP.icmpF K at_150 (by decide) (pc' := 153) rfl ?_
      refine WP.iload K at_153 rfl (pc' := 155) rfl ?_
      refine WP.iload K at_155 rfl (pc' := 157) rfl ?_
      refine WP.iload K at_157 rfl (pc' := 159) rfl ?_
      refine WP.icmpT K at_159 (by decide) (by decide) (pc' := 166) (by decide) ?_
      refine WP.iconst K at_166 (v := (0 : Int32)) rfl (pc' := 167) rfl ?_
      refine WP.icmpF K at_167 (by decide) (pc' := 170) rfl ?_
      refine WP.iconst K at_170 (v := (1 : Int32)) rfl (pc' := 171) rfl ?_
      refine WP.goto K at_171 (by decide) (pc' := 175) (by decide) ?_
      exact WP.retN K (ty := .boolean) (by decide) at_175 (by decide) (by decide) rfl
    · show WP κ h17 3 35 (mkF κ.m 32 #[.val (.int p0), .val (.int p1), .val (.int p2), .val (.int p3), .val (.int p4), .val (.ref q), .val (.int (1 : Int32)), .val (.int (3 : Int32)), .val (.int (2 : Int32)), .unset, .unset] [])
      refine WP.iload K at_32 rfl (pc' := 34) rfl ?_
      refine WP.if0F K at_34 (by decide) (pc' := 37) rfl ?_
      refine WP.aload K at_37 rfl rfl (pc' := 39) rfl ?_
      refine WP.iloadN K at_39 rfl (pc' := 40) rfl ?_
      refine WP.bipush K at_40 (v := (24 : Int32)) rfl (pc' := 42) rfl ?_
      refine WP.ishr K at_42 (pc' := 43) rfl ?_
      refine WP.i2d K at_43 (pc' := 44) rfl ?_
      refine WP.iloadN K at_44 rfl (pc' := 45) rfl ?_
      refine WP.callV K (a := q) (argsL := [(.double (FP.i2d (p2 >>> ((24 : Int32) &&& 31)))), (.int p2)]) (S := []) (w_23 hw) (w_24 hw) (fun vm0 hZ => notFace_of_selects (args := #[]) (mvT (s := κ.s.setVm vm0) hZ (w_26 hw))) (w_26 hw) (w_25 hw) (by decide) (IsDQ.exa O_q) (rm_add w l Z a0 hw q tm tg kT kG (0 : Int32) 0 (fun _ => 0) (fun _ => 0) (FP.i2d (p2 >>> ((24 : Int32) &&& 31))) p2 h17 n0 Z0 O_q A_tm A_tg ne_t old_q old_tm old_tg rfl (by decide)) (w_27 hw) (w_2 hw) (by decide) rfl (lenOf pd_2 rfl) rfl (W := 0) rfl (by decide) (by decide) (k' := 3) (n' := 35) rfl rfl (by decide) (by decide) at_45 (pc' := 48) rfl fun v h73 hq => ?_
      obtain ⟨rfl, K1, O_q, A_tm, A_tg⟩ := hq
      have Z0 := Nat.le_trans Z0 K1.1
      show WP κ h73 3 35 (mkF κ.m 48 #[.val (.int p0), .val (.int p1), .val (.int p2), .val (.int p3), .val (.int p4), .val (.ref q), .val (.int (1 : Int32)), .val (.int (3 : Int32)), .val (.int (2 : Int32)), .unset, .unset] [])
      have O_q : IsDQ Z h73 q (.ref tm) (.ref tg) (.int (1 : Int32)) := O_q
      obtain ⟨T74, A_tm⟩ : ∃ T : Nat → UInt64, Ary Z h73 tm kT .double 16 (fun j => .double (T j)) := ⟨_, A_tm⟩
      obtain ⟨G74, A_tg⟩ : ∃ G : Nat → Int32, Ary Z h73 tg kG .int 16 (fun j => .int (G j)) := ⟨_, A_tg⟩
      refine WP.iload K at_48 rfl (pc' := 50) rfl ?_
      refine WP.iconst K at_50 (v := (1 : Int32)) rfl (pc' := 51) rfl ?_
      refine WP.icmpF K at_51 (by decide) (pc' := 54) rfl ?_
      refine WP.aload K at_54 rfl rfl (pc' := 56) rfl ?_
      refine WP.iloadN K at_56 rfl (pc' := 57) rfl ?_
      refine WP.bipush K at_57 (v := (24 : Int32)) rfl (pc' := 59) rfl ?_
      refine WP.ishr K at_59 (pc' := 60) rfl ?_
      refine WP.i2d K at_60 (pc' := 61) rfl ?_
      refine WP.iloadN K at_61 rfl (pc' := 62) rfl ?_
      refine WP.callV K (a := q) (argsL := [(.double (FP.i2d (p3 >>> ((24 : Int32) &&& 31)))), (.int p3)]) (S := []) (w_23 hw) (w_24 hw) (fun vm0 hZ => notFace_of_selects (args := #[]) (mvT (s := κ.s.setVm vm0) hZ (w_26 hw))) (w_26 hw) (w_25 hw) (by decide) (IsDQ.exa O_q) (rm_add w l Z a0 hw q tm tg kT kG (1 : Int32) 1 T74 G74 (FP.i2d (p3 >>> ((24 : Int32) &&& 31))) p3 h73 n0 Z0 O_q A_tm A_tg ne_t old_q old_tm old_tg rfl (by decide)) (w_27 hw) (w_2 hw) (by decide) rfl (lenOf pd_2 rfl) rfl (W := 0) rfl (by decide) (by decide) (k' := 3) (n' := 35) rfl rfl (by decide) (by decide) at_62 (pc' := 65) rfl fun v h75 hq => ?_
      obtain ⟨rfl, K1, O_q, A_tm, A_tg⟩ := hq
      have Z0 := Nat.le_trans Z0 K1.1
      show WP κ h75 3 35 (mkF κ.m 65 #[.val (.int p0), .val (.int p1), .val (.int p2), .val (.int p3), .val (.int p4), .val (.ref q), .val (.int (1 : Int32)), .val (.int (3 : Int32)), .val (.int (2 : Int32)), .unset, .unset] [])
      have O_q : IsDQ Z h75 q (.ref tm) (.ref tg) (.int (2 : Int32)) := O_q
      obtain ⟨T76, A_tm⟩ : ∃ T : Nat → UInt64, Ary Z h75 tm kT .double 16 (fun j => .double (T j)) := ⟨_, A_tm⟩
      obtain ⟨G76, A_tg⟩ : ∃ G : Nat → Int32, Ary Z h75 tg kG .int 16 (fun j => .int (G j)) := ⟨_, A_tg⟩
      refine WP.iload K at_65 rfl (pc' := 67) rfl ?_
      refine WP.iconst K at_67 (v := (2 : Int32)) rfl (pc' := 68) rfl ?_
      refine WP.icmpF K at_68 (by decide) (pc' := 71) rfl ?_
      refine WP.aload K at_71 rfl rfl (pc' := 73) rfl ?_
      refine WP.iload K at_73 rfl (pc' := 75) rfl ?_
      refine WP.bipush K at_75 (v := (24 : Int32)) rfl (pc' := 77) rfl ?_
      refine WP.ishr K at_77 (pc' := 78) rfl ?_
      refine WP.i2d K at_78 (pc' := 79) rfl ?_
      refine WP.iload K at_79 rfl (pc' := 81) rfl ?_
      refine WP.callV K (a := q) (argsL := [(.double (FP.i2d (p4 >>> ((24 : Int32) &&& 31)))), (.int p4)]) (S := []) (w_23 hw) (w_24 hw) (fun vm0 hZ => notFace_of_selects (args := #[]) (mvT (s := κ.s.setVm vm0) hZ (w_26 hw))) (w_26 hw) (w_25 hw) (by decide) (IsDQ.exa O_q) (rm_add w l Z a0 hw q tm tg kT kG (2 : Int32) 2 T76 G76 (FP.i2d (p4 >>> ((24 : Int32) &&& 31))) p4 h75 n0 Z0 O_q A_tm A_tg ne_t old_q old_tm old_tg rfl (by decide)) (w_27 hw) (w_2 hw) (by decide) rfl (lenOf pd_2 rfl) rfl (W := 0) rfl (by decide) (by decide) (k' := 3) (n' := 35) rfl rfl (by decide) (by decide) at_81 (pc' := 84) rfl fun v h77 hq => ?_
      obtain ⟨rfl, K1, O_q, A_tm, A_tg⟩ := hq
      have Z0 := Nat.le_trans Z0 K1.1
      show WP κ h77 3 35 (mkF κ.m 84 #[.val (.int p0), .val (.int p1), .val (.int p2), .val (.int p3), .val (.int p4), .val (.ref q), .val (.int (1 : Int32)), .val (.int (3 : Int32)), .val (.int (2 : Int32)), .unset, .unset] [])
      have O_q : IsDQ Z h77 q (.ref tm) (.ref tg) (.int (3 : Int32)) := O_q
      obtain ⟨T78, A_tm⟩ : ∃ T : Nat → UInt64, Ary Z h77 tm kT .double 16 (fun j => .double (T j)) := ⟨_, A_tm⟩
      obtain ⟨G78, A_tg⟩ : ∃ G : Nat → Int32, Ary Z h77 tg kG .int 16 (fun j => .int (G j)) := ⟨_, A_tg⟩
      refine WP.aload K at_84 rfl rfl (pc' := 86) rfl ?_
      refine WP.callV K (a := q) (argsL := []) (S := []) (w_15 hw) (w_16 hw) (fun vm0 hZ => notFace_of_selects (args := #[]) (mvT (s := κ.s.setVm vm0) hZ (w_18 hw))) (w_18 hw) (w_17 hw) (by decide) (IsDQ.exa O_q) (rm_isEmpty w l Z a0 hw q tm tg (3 : Int32) h77 n0 Z0 O_q) (w_19 hw) (w_2 hw) (by decide) rfl (lenOf pd_1 rfl) rfl (W := 0) rfl (by decide) (by decide) (k' := 3) (n' := 35) rfl rfl (by decide) (by decide) at_86 (pc' := 89) rfl fun v h79 hq => ?_
      obtain ⟨rfl, rfl⟩ := hq
      show WP κ h77 3 35 (mkF κ.m 89 #[.val (.int p0), .val (.int p1), .val (.int p2), .val (.int p3), .val (.int p4), .val (.ref q), .val (.int (1 : Int32)), .val (.int (3 : Int32)), .val (.int (2 : Int32)), .unset, .unset] [(.int (nar .boolean (if (3 : Int32) = (0 : Int32) then (1 : Int32) else (0 : Int32))))])
      rw [show (nar .boolean (if (3 : Int32) = (0 : Int32) then (1 : Int32) else (0 : Int32))) = (0 : Int32) from by decide]
      show WP κ h77 3 35 (mkF κ.m 89 #[.val (.int p0), .val (.int p1), .val (.int p2), .val (.int p3), .val (.int p4), .val (.ref q), .val (.int (1 : Int32)), .val (.int (3 : Int32)), .val (.int (2 : Int32)), .unset, .unset] [(.int (0 : Int32))])
      refine WP.istore K at_89 (L' := #[.val (.int p0), .val (.int p1), .val (.int p2), .val (.int p3), .val (.int p4), .val (.ref q), .val (.int (1 : Int32)), .val (.int (3 : Int32)), .val (.int (2 : Int32)), .val (.int (0 : Int32)), .unset]) rfl (pc' := 91) rfl ?_
      refine WP.iload K at_91 rfl (pc' := 93) rfl ?_
      refine WP.if0F K at_93 (by decide) (pc' := 96) rfl ?_
      refine WP.aload K at_96 rfl rfl (pc' := 98) rfl ?_
      refine WP.callV K (a := q) (argsL := []) (S := []) (w_28 hw) (w_29 hw) (fun vm0 hZ => notFace_of_selects (args := #[]) (mvT (s := κ.s.setVm vm0) hZ (w_31 hw))) (w_31 hw) (w_30 hw) (by decide) (IsDQ.exa O_q) (rm_rem w l Z a0 hw q tm tg kT kG (3 : Int32) 3 T78 G78 h77 n0 Z0 O_q A_tm A_tg ne_t old_q old_tm old_tg rfl (by decide) (by decide)) (w_32 hw) (w_2 hw) (by decide) rfl (lenOf pd_3 rfl) rfl (W := 0) rfl (by decide) (by decide) (k' := 3) (n' := 35) rfl rfl (by decide) (by decide) at_98 (pc' := 101) rfl fun v h80 hq => ?_
      obtain ⟨rfl, K1, O_q, A_tm, A_tg⟩ := hq
      have Z0 := Nat.le_trans Z0 K1.1
      show WP κ h80 3 35 (mkF κ.m 101 #[.val (.int p0), .val (.int p1), .val (.int p2), .val (.int p3), .val (.int p4), .val (.ref q), .val (.int (1 : Int32)), .val (.int (3 : Int32)), .val (.int (2 : Int32)), .val (.int (0 : Int32)), .unset] [(.int (G78 0))])
      have O_q : IsDQ Z h80 q (.ref tm) (.ref tg) (.int (2 : Int32)) := O_q
      obtain ⟨T81, A_tm⟩ : ∃ T : Nat → UInt64, Ary Z h80 tm kT .double 16 (fun j => .double (T j)) := ⟨_, A_tm⟩
      obtain ⟨G81, A_tg⟩ : ∃ G : Nat → Int32, Ary Z h80 tg kG .int 16 (fun j => .int (G j)) := ⟨_, A_tg⟩
      refine WP.pop K at_101 rfl (pc' := 102) rfl ?_
      refine WP.iload K at_102 rfl (pc' := 104) rfl ?_
      refine WP.iconst K at_104 (v := (1 : Int32)) rfl (pc' := 105) rfl ?_
      refine WP.icmpF K at_105 (by decide) (pc' := 108) rfl ?_
      refine WP.aload K at_108 rfl rfl (pc' := 110) rfl ?_
      refine WP.callV K (a := q) (argsL := []) (S := []) (w_28 hw) (w_29 hw) (fun vm0 hZ => notFace_of_selects (args := #[]) (mvT (s := κ.s.setVm vm0) hZ (w_31 hw))) (w_31 hw) (w_30 hw) (by decide) (IsDQ.exa O_q) (rm_rem w l Z a0 hw q tm tg kT kG (2 : Int32) 2 T81 G81 h80 n0 Z0 O_q A_tm A_tg ne_t old_q old_tm old_tg rfl (by decide) (by decide)) (w_32 hw) (w_2 hw) (by decide) rfl (lenOf pd_3 rfl) rfl (W := 0) rfl (by decide) (by decide) (k' := 3) (n' := 35) rfl rfl (by decide) (by decide) at_110 (pc' := 113) rfl fun v h82 hq => ?_
      obtain ⟨rfl, K1, O_q, A_tm, A_tg⟩ := hq
      have Z0 := Nat.le_trans Z0 K1.1
      show WP κ h82 3 35 (mkF κ.m 113 #[.val (.int p0), .val (.int p1), .val (.int p2), .val (.int p3), .val (.int p4), .val (.ref q), .val (.int (1 : Int32)), .val (.int (3 : Int32)), .val (.int (2 : Int32)), .val (.int (0 : Int32)), .unset] [(.int (G81 0))])
      have O_q : IsDQ Z h82 q (.ref tm) (.ref tg) (.int (1 : Int32)) := O_q
      obtain ⟨T83, A_tm⟩ : ∃ T : Nat → UInt64, Ary Z h82 tm kT .double 16 (fun j => .double (T j)) := ⟨_, A_tm⟩
      obtain ⟨G83, A_tg⟩ : ∃ G : Nat → Int32, Ary Z h82 tg kG .int 16 (fun j => .int (G j)) := ⟨_, A_tg⟩
      refine WP.pop K at_113 rfl (pc' := 114) rfl ?_
      refine WP.iload K at_114 rfl (pc' := 116) rfl ?_
      refine WP.iconst K at_116 (v := (2 : Int32)) rfl (pc' := 117) rfl ?_
      refine WP.icmpT K at_117 (by decide) (by decide) (pc' := 126) (by decide) ?_
      refine WP.aload K at_126 rfl rfl (pc' := 128) rfl ?_
      refine WP.callV K (a := q) (argsL := []) (S := []) (w_15 hw) (w_16 hw) (fun vm0 hZ => notFace_of_selects (args := #[]) (mvT (s := κ.s.setVm vm0) hZ (w_18 hw))) (w_18 hw) (w_17 hw) (by decide) (IsDQ.exa O_q) (rm_isEmpty w l Z a0 hw q tm tg (1 : Int32) h82 n0 Z0 O_q) (w_19 hw) (w_2 hw) (by decide) rfl (lenOf pd_1 rfl) rfl (W := 0) rfl (by decide) (by decide) (k' := 3) (n' := 35) rfl rfl (by decide) (by decide) at_128 (pc' := 131) rfl fun v h84 hq => ?_
      obtain ⟨rfl, rfl⟩ := hq
      show WP κ h82 3 35 (mkF κ.m 131 #[.val (.int p0), .val (.int p1), .val (.int p2), .val (.int p3), .val (.int p4), .val (.ref q), .val (.int (1 : Int32)), .val (.int (3 : Int32)), .val (.int (2 : Int32)), .val (.int (0 : Int32)), .unset] [(.int (nar .boolean (if (1 : Int32) = (0 : Int32) then (1 : Int32) else (0 : Int32))))])
      rw [show (nar .boolean (if (1 : Int32) = (0 : Int32) then (1 : Int32) else (0 : Int32))) = (0 : Int32) from by decide]
      show WP κ h82 3 35 (mkF κ.m 131 #[.val (.int p0), .val (.int p1), .val (.int p2), .val (.int p3), .val (.int p4), .val (.ref q), .val (.int (1 : Int32)), .val (.int (3 : Int32)), .val (.int (2 : Int32)), .val (.int (0 : Int32)), .unset] [(.int (0 : Int32))])
      refine WP.istore K at_131 (L' := #[.val (.int p0), .val (.int p1), .val (.int p2), .val (.int p3), .val (.int p4), .val (.ref q), .val (.int (1 : Int32)), .val (.int (3 : Int32)), .val (.int (2 : Int32)), .val (.int (0 : Int32)), .val (.int (0 : Int32))]) rfl (pc' := 133) rfl ?_
      refine WP.iload K at_133 rfl (pc' := 135) rfl ?_
      refine WP.if0F K at_135 (by decide) (pc' := 138) rfl ?_
      refine WP.iload K at_138 rfl (pc' := 140) rfl ?_
      refine WP.iload K at_140 rfl (pc' := 142) rfl ?_
      refine WP.if0T K at_142 (by decide) (by decide) (pc' := 149) (by decide) ?_
      refine WP.iconst K at_149 (v := (0 : Int32)) rfl (pc' := 150) rfl ?_
      refine WP.icmpF K at_150 (by decide) (pc' := 153) rfl ?_
      refine WP.iload K at_153 rfl (pc' := 155) rfl ?_
      refine WP.iload K at_155 rfl (pc' := 157) rfl ?_
      refine WP.iload K at_157 rfl (pc' := 159) rfl ?_
      refine WP.icmpT K at_159 (by decide) (by decide) (pc' := 166) (by decide) ?_
      refine WP.iconst K at_166 (v := (0 : Int32)) rfl (pc' := 167) rfl ?_
      refine WP.icmpF K at_167 (by decide) (pc' := 170) rfl ?_
      refine WP.iconst K at_170 (v := (1 : Int32)) rfl (pc' := 171) rfl ?_
      refine WP.goto K at_171 (by decide) (pc' := 175) (by decide) ?_
      exact WP.retN K (ty := .boolean) (by decide) at_175 (by decide) (by decide) rfl
    · show WP κ h17 3 35 (mkF κ.m 32 #[.val (.int p0), .val (.int p1), .val (.int p2), .val (.int p3), .val (.int p4), .val (.ref q), .val (.int (1 : Int32)), .val (.int (3 : Int32)), .val (.int (3 : Int32)), .unset, .unset] [])
      refine WP.iload K at_32 rfl (pc' := 34) rfl ?_
      refine WP.if0F K at_34 (by decide) (pc' := 37) rfl ?_
      refine WP.aload K at_37 rfl rfl (pc' := 39) rfl ?_
      refine WP.iloadN K at_39 rfl (pc' := 40) rfl ?_
      refine WP.bipush K at_40 (v := (24 : Int32)) rfl (pc' := 42) rfl ?_
      refine WP.ishr K at_42 (pc' := 43) rfl ?_
      refine WP.i2d K at_43 (pc' := 44) rfl ?_
      refine WP.iloadN K at_44 rfl (pc' := 45) rfl ?_
      refine WP.callV K (a := q) (argsL := [(.double (FP.i2d (p2 >>> ((24 : Int32) &&& 31)))), (.int p2)]) (S := []) (w_23 hw) (w_24 hw) (fun vm0 hZ => notFace_of_selects (args := #[]) (mvT (s := κ.s.setVm vm0) hZ (w_26 hw))) (w_26 hw) (w_25 hw) (by decide) (IsDQ.exa O_q) (rm_add w l Z a0 hw q tm tg kT kG (0 : Int32) 0 (fun _ => 0) (fun _ => 0) (FP.i2d (p2 >>> ((24 : Int32) &&& 31))) p2 h17 n0 Z0 O_q A_tm A_tg ne_t old_q old_tm old_tg rfl (by decide)) (w_27 hw) (w_2 hw) (by decide) rfl (lenOf pd_2 rfl) rfl (W := 0) rfl (by decide) (by decide) (k' := 3) (n' := 35) rfl rfl (by decide) (by decide) at_45 (pc' := 48) rfl fun v h85 hq => ?_
      obtain ⟨rfl, K1, O_q, A_tm, A_tg⟩ := hq
      have Z0 := Nat.le_trans Z0 K1.1
      show WP κ h85 3 35 (mkF κ.m 48 #[.val (.int p0), .val (.int p1), .val (.int p2), .val (.int p3), .val (.int p4), .val (.ref q), .val (.int (1 : Int32)), .val (.int (3 : Int32)), .val (.int (3 : Int32)), .unset, .unset] [])
      have O_q : IsDQ Z h85 q (.ref tm) (.ref tg) (.int (1 : Int32)) := O_q
      obtain ⟨T86, A_tm⟩ : ∃ T : Nat → UInt64, Ary Z h85 tm kT .double 16 (fun j => .double (T j)) := ⟨_, A_tm⟩
      obtain ⟨G86, A_tg⟩ : ∃ G : Nat → Int32, Ary Z h85 tg kG .int 16 (fun j => .int (G j)) := ⟨_, A_tg⟩
      refine WP.iload K at_48 rfl (pc' := 50) rfl ?_
      refine WP.iconst K at_50 (v := (1 : Int32)) rfl (pc' := 51) rfl ?_
      refine WP.icmpF K at_51 (by decide) (pc' := 54) rfl ?_
      refine WP.aload K at_54 rfl rfl (pc' := 56) rfl ?_
      refine WP.iloadN K at_56 rfl (pc' := 57) rfl ?_
      refine WP.bipush K at_57 (v := (24 : Int32)) rfl (pc' := 59) rfl ?_
      refine WP.ishr K at_59 (pc' := 60) rfl ?_
      refine WP.i2d K at_60 (pc' := 61) rfl ?_
      refine WP.iloadN K at_61 rfl (pc' := 62) rfl ?_
      refine WP.callV K (a := q) (argsL := [(.double (FP.i2d (p3 >>> ((24 : Int32) &&& 31)))), (.int p3)]) (S := []) (w_23 hw) (w_24 hw) (fun vm0 hZ => notFace_of_selects (args := #[]) (mvT (s := κ.s.setVm vm0) hZ (w_26 hw))) (w_26 hw) (w_25 hw) (by decide) (IsDQ.exa O_q) (rm_add w l Z a0 hw q tm tg kT kG (1 : Int32) 1 T86 G86 (FP.i2d (p3 >>> ((24 : Int32) &&& 31))) p3 h85 n0 Z0 O_q A_tm A_tg ne_t old_q old_tm old_tg rfl (by decide)) (w_27 hw) (w_2 hw) (by decide) rfl (lenOf pd_2 rfl) rfl (W := 0) rfl (by decide) (by decide) (k' := 3) (n' := 35) rfl rfl (by decide) (by decide) at_62 (pc' := 65) rfl fun v h87 hq => ?_
      obtain ⟨rfl, K1, O_q, A_tm, A_tg⟩ := hq
      have Z0 := Nat.le_trans Z0 K1.1
      show WP κ h87 3 35 (mkF κ.m 65 #[.val (.int p0), .val (.int p1), .val (.int p2), .val (.int p3), .val (.int p4), .val (.ref q), .val (.int (1 : Int32)), .val (.int (3 : Int32)), .val (.int (3 : Int32)), .unset, .unset] [])
      have O_q : IsDQ Z h87 q (.ref tm) (.ref tg) (.int (2 : Int32)) := O_q
      obtain ⟨T88, A_tm⟩ : ∃ T : Nat → UInt64, Ary Z h87 tm kT .double 16 (fun j => .double (T j)) := ⟨_, A_tm⟩
      obtain ⟨G88, A_tg⟩ : ∃ G : Nat → Int32, Ary Z h87 tg kG .int 16 (fun j => .int (G j)) := ⟨_, A_tg⟩
      refine WP.iload K at_65 rfl (pc' := 67) rfl ?_
      refine WP.iconst K at_67 (v := (2 : Int32)) rfl (pc' := 68) rfl ?_
      refine WP.icmpF K at_68 (by decide) (pc' := 71) rfl ?_
      refine WP.aload K at_71 rfl rfl (pc' := 73) rfl ?_
      refine WP.iload K at_73 rfl (pc' := 75) rfl ?_
      refine WP.bipush K at_75 (v := (24 : Int32)) rfl (pc' := 77) rfl ?_
      refine WP.ishr K at_77 (pc' := 78) rfl ?_
      refine WP.i2d K at_78 (pc' := 79) rfl ?_
      refine WP.iload K at_79 rfl (pc' := 81) rfl ?_
      refine WP.callV K (a := q) (argsL := [(.double (FP.i2d (p4 >>> ((24 : Int32) &&& 31)))), (.int p4)]) (S := []) (w_23 hw) (w_24 hw) (fun vm0 hZ => notFace_of_selects (args := #[]) (mvT (s := κ.s.setVm vm0) hZ (w_26 hw))) (w_26 hw) (w_25 hw) (by decide) (IsDQ.exa O_q) (rm_add w l Z a0 hw q tm tg kT kG (2 : Int32) 2 T88 G88 (FP.i2d (p4 >>> ((24 : Int32) &&& 31))) p4 h87 n0 Z0 O_q A_tm A_tg ne_t old_q old_tm old_tg rfl (by decide)) (w_27 hw) (w_2 hw) (by decide) rfl (lenOf pd_2 rfl) rfl (W := 0) rfl (by decide) (by decide) (k' := 3) (n' := 35) rfl rfl (by decide) (by decide) at_81 (pc' := 84) rfl fun v h89 hq => ?_
      obtain ⟨rfl, K1, O_q, A_tm, A_tg⟩ := hq
      have Z0 := Nat.le_trans Z0 K1.1
      show WP κ h89 3 35 (mkF κ.m 84 #[.val (.int p0), .val (.int p1), .val (.int p2), .val (.int p3), .val (.int p4), .val (.ref q), .val (.int (1 : Int32)), .val (.int (3 : Int32)), .val (.int (3 : Int32)), .unset, .unset] [])
      have O_q : IsDQ Z h89 q (.ref tm) (.ref tg) (.int (3 : Int32)) := O_q
      obtain ⟨T90, A_tm⟩ : ∃ T : Nat → UInt64, Ary Z h89 tm kT .double 16 (fun j => .double (T j)) := ⟨_, A_tm⟩
      obtain ⟨G90, A_tg⟩ : ∃ G : Nat → Int32, Ary Z h89 tg kG .int 16 (fun j => .int (G j)) := ⟨_, A_tg⟩
      refine WP.aload K at_84 rfl rfl (pc' := 86) rfl ?_
      refine WP.callV K (a := q) (argsL := []) (S := []) (w_15 hw) (w_16 hw) (fun vm0 hZ => notFace_of_selects (args := #[]) (mvT (s := κ.s.setVm vm0) hZ (w_18 hw))) (w_18 hw) (w_17 hw) (by decide) (IsDQ.exa O_q) (rm_isEmpty w l Z a0 hw q tm tg (3 : Int32) h89 n0 Z0 O_q) (w_19 hw) (w_2 hw) (by decide) rfl (lenOf pd_1 rfl) rfl (W := 0) rfl (by decide) (by decide) (k' := 3) (n' := 35) rfl rfl (by decide) (by decide) at_86 (pc' := 89) rfl fun v h91 hq => ?_
      obtain ⟨rfl, rfl⟩ := hq
      show WP κ h89 3 35 (mkF κ.m 89 #[.val (.int p0), .val (.int p1), .val (.int p2), .val (.int p3), .val (.int p4), .val (.ref q), .val (.int (1 : Int32)), .val (.int (3 : Int32)), .val (.int (3 : Int32)), .unset, .unset] [(.int (nar .boolean (if (3 : Int32) = (0 : Int32) then (1 : Int32) else (0 : Int32))))])
      rw [show (nar .boolean (if (3 : Int32) = (0 : Int32) then (1 : Int32) else (0 : Int32))) = (0 : Int32) from by decide]
      show WP κ h89 3 35 (mkF κ.m 89 #[.val (.int p0), .val (.int p1), .val (.int p2), .val (.int p3), .val (.int p4), .val (.ref q), .val (.int (1 : Int32)), .val (.int (3 : Int32)), .val (.int (3 : Int32)), .unset, .unset] [(.int (0 : Int32))])
      refine WP.istore K at_89 (L' := #[.val (.int p0), .val (.int p1), .val (.int p2), .val (.int p3), .val (.int p4), .val (.ref q), .val (.int (1 : Int32)), .val (.int (3 : Int32)), .val (.int (3 : Int32)), .val (.int (0 : Int32)), .unset]) rfl (pc' := 91) rfl ?_
      refine WP.iload K at_91 rfl (pc' := 93) rfl ?_
      refine WP.if0F K at_93 (by decide) (pc' := 96) rfl ?_
      refine WP.aload K at_96 rfl rfl (pc' := 98) rfl ?_
      refine WP.callV K (a := q) (argsL := []) (S := []) (w_28 hw) (w_29 hw) (fun vm0 hZ => notFace_of_selects (args := #[]) (mvT (s := κ.s.setVm vm0) hZ (w_31 hw))) (w_31 hw) (w_30 hw) (by decide) (IsDQ.exa O_q) (rm_rem w l Z a0 hw q tm tg kT kG (3 : Int32) 3 T90 G90 h89 n0 Z0 O_q A_tm A_tg ne_t old_q old_tm old_tg rfl (by decide) (by decide)) (w_32 hw) (w_2 hw) (by decide) rfl (lenOf pd_3 rfl) rfl (W := 0) rfl (by decide) (by decide) (k' := 3) (n' := 35) rfl rfl (by decide) (by decide) at_98 (pc' := 101) rfl fun v h92 hq => ?_
      obtain ⟨rfl, K1, O_q, A_tm, A_tg⟩ := hq
      have Z0 := Nat.le_trans Z0 K1.1
      show WP κ h92 3 35 (mkF κ.m 101 #[.val (.int p0), .val (.int p1), .val (.int p2), .val (.int p3), .val (.int p4), .val (.ref q), .val (.int (1 : Int32)), .val (.int (3 : Int32)), .val (.int (3 : Int32)), .val (.int (0 : Int32)), .unset] [(.int (G90 0))])
      have O_q : IsDQ Z h92 q (.ref tm) (.ref tg) (.int (2 : Int32)) := O_q
      obtain ⟨T93, A_tm⟩ : ∃ T : Nat → UInt64, Ary Z h92 tm kT .double 16 (fun j => .double (T j)) := ⟨_, A_tm⟩
      obtain ⟨G93, A_tg⟩ : ∃ G : Nat → Int32, Ary Z h92 tg kG .int 16 (fun j => .int (G j)) := ⟨_, A_tg⟩
      refine WP.pop K at_101 rfl (pc' := 102) rfl ?_
      refine WP.iload K at_102 rfl (pc' := 104) rfl ?_
      refine WP.iconst K at_104 (v := (1 : Int32)) rfl (pc' := 105) rfl ?_
      refine WP.icmpF K at_105 (by decide) (pc' := 108) rfl ?_
      refine WP.aload K at_108 rfl rfl (pc' := 110) rfl ?_
      refine WP.callV K (a := q) (argsL := []) (S := []) (w_28 hw) (w_29 hw) (fun vm0 hZ => notFace_of_selects (args := #[]) (mvT (s := κ.s.setVm vm0) hZ (w_31 hw))) (w_31 hw) (w_30 hw) (by decide) (IsDQ.exa O_q) (rm_rem w l Z a0 hw q tm tg kT kG (2 : Int32) 2 T93 G93 h92 n0 Z0 O_q A_tm A_tg ne_t old_q old_tm old_tg rfl (by decide) (by decide)) (w_32 hw) (w_2 hw) (by decide) rfl (lenOf pd_3 rfl) rfl (W := 0) rfl (by decide) (by decide) (k' := 3) (n' := 35) rfl rfl (by decide) (by decide) at_110 (pc' := 113) rfl fun v h94 hq => ?_
      obtain ⟨rfl, K1, O_q, A_tm, A_tg⟩ := hq
      have Z0 := Nat.le_trans Z0 K1.1
      show WP κ h94 3 35 (mkF κ.m 113 #[.val (.int p0), .val (.int p1), .val (.int p2), .val (.int p3), .val (.int p4), .val (.ref q), .val (.int (1 : Int32)), .val (.int (3 : Int32)), .val (.int (3 : Int32)), .val (.int (0 : Int32)), .unset] [(.int (G93 0))])
      have O_q : IsDQ Z h94 q (.ref tm) (.ref tg) (.int (1 : Int32)) := O_q
      obtain ⟨T95, A_tm⟩ : ∃ T : Nat → UInt64, Ary Z h94 tm kT .double 16 (fun j => .double (T j)) := ⟨_, A_tm⟩
      obtain ⟨G95, A_tg⟩ : ∃ G : Nat → Int32, Ary Z h94 tg kG .int 16 (fun j => .int (G j)) := ⟨_, A_tg⟩
      refine WP.pop K at_113 rfl (pc' := 114) rfl ?_
      refine WP.iload K at_114 rfl (pc' := 116) rfl ?_
      refine WP.iconst K at_116 (v := (2 : Int32)) rfl (pc' := 117) rfl ?_
      refine WP.icmpF K at_117 (by decide) (pc' := 120) rfl ?_
      refine WP.aload K at_120 rfl rfl (pc' := 122) rfl ?_
      refine WP.callV K (a := q) (argsL := []) (S := []) (w_28 hw) (w_29 hw) (fun vm0 hZ => notFace_of_selects (args := #[]) (mvT (s := κ.s.setVm vm0) hZ (w_31 hw))) (w_31 hw) (w_30 hw) (by decide) (IsDQ.exa O_q) (rm_rem w l Z a0 hw q tm tg kT kG (1 : Int32) 1 T95 G95 h94 n0 Z0 O_q A_tm A_tg ne_t old_q old_tm old_tg rfl (by decide) (by decide)) (w_32 hw) (w_2 hw) (by decide) rfl (lenOf pd_3 rfl) rfl (W := 0) rfl (by decide) (by decide) (k' := 3) (n' := 35) rfl rfl (by decide) (by decide) at_122 (pc' := 125) rfl fun v h96 hq => ?_
      obtain ⟨rfl, K1, O_q, A_tm, A_tg⟩ := hq
      have Z0 := Nat.le_trans Z0 K1.1
      show WP κ h96 3 35 (mkF κ.m 125 #[.val (.int p0), .val (.int p1), .val (.int p2), .val (.int p3), .val (.int p4), .val (.ref q), .val (.int (1 : Int32)), .val (.int (3 : Int32)), .val (.int (3 : Int32)), .val (.int (0 : Int32)), .unset] [(.int (G95 0))])
      have O_q : IsDQ Z h96 q (.ref tm) (.ref tg) (.int (0 : Int32)) := O_q
      obtain ⟨T97, A_tm⟩ : ∃ T : Nat → UInt64, Ary Z h96 tm kT .double 16 (fun j => .double (T j)) := ⟨_, A_tm⟩
      obtain ⟨G97, A_tg⟩ : ∃ G : Nat → Int32, Ary Z h96 tg kG .int 16 (fun j => .int (G j)) := ⟨_, A_tg⟩
      refine WP.pop K at_125 rfl (pc' := 126) rfl ?_
      refine WP.aload K at_126 rfl rfl (pc' := 128) rfl ?_
      refine WP.callV K (a := q) (argsL := []) (S := []) (w_15 hw) (w_16 hw) (fun vm0 hZ => notFace_of_selects (args := #[]) (mvT (s := κ.s.setVm vm0) hZ (w_18 hw))) (w_18 hw) (w_17 hw) (by decide) (IsDQ.exa O_q) (rm_isEmpty w l Z a0 hw q tm tg (0 : Int32) h96 n0 Z0 O_q) (w_19 hw) (w_2 hw) (by decide) rfl (lenOf pd_1 rfl) rfl (W := 0) rfl (by decide) (by decide) (k' := 3) (n' := 35) rfl rfl (by decide) (by decide) at_128 (pc' := 131) rfl fun v h98 hq => ?_
      obtain ⟨rfl, rfl⟩ := hq
      show WP κ h96 3 35 (mkF κ.m 131 #[.val (.int p0), .val (.int p1), .val (.int p2), .val (.int p3), .val (.int p4), .val (.ref q), .val (.int (1 : Int32)), .val (.int (3 : Int32)), .val (.int (3 : Int32)), .val (.int (0 : Int32)), .unset] [(.int (nar .boolean (if (0 : Int32) = (0 : Int32) then (1 : Int32) else (0 : Int32))))])
      rw [show (nar .boolean (if (0 : Int32) = (0 : Int32) then (1 : Int32) else (0 : Int32))) = (1 : Int32) from by decide]
      show WP κ h96 3 35 (mkF κ.m 131 #[.val (.int p0), .val (.int p1), .val (.int p2), .val (.int p3), .val (.int p4), .val (.ref q), .val (.int (1 : Int32)), .val (.int (3 : Int32)), .val (.int (3 : Int32)), .val (.int (0 : Int32)), .unset] [(.int (1 : Int32))])
      refine WP.istore K at_131 (L' := #[.val (.int p0), .val (.int p1), .val (.int p2), .val (.int p3), .val (.int p4), .val (.ref q), .val (.int (1 : Int32)), .val (.int (3 : Int32)), .val (.int (3 : Int32)), .val (.int (0 : Int32)), .val (.int (1 : Int32))]) rfl (pc' := 133) rfl ?_
      refine WP.iload K at_133 rfl (pc' := 135) rfl ?_
      refine WP.if0F K at_135 (by decide) (pc' := 138) rfl ?_
      refine WP.iload K at_138 rfl (pc' := 140) rfl ?_
      refine WP.iload K at_140 rfl (pc' := 142) rfl ?_
      refine WP.if0T K at_142 (by decide) (by decide) (pc' := 149) (by decide) ?_
      refine WP.iconst K at_149 (v := (0 : Int32)) rfl (pc' := 150) rfl ?_
      refine WP.icmpF K at_150 (by decide) (pc' := 153) rfl ?_
      refine WP.iload K at_153 rfl (pc' := 155) rfl ?_
      refine WP.iload K at_155 rfl (pc' := 157) rfl ?_
      refine WP.iload K at_157 rfl (pc' := 159) rfl ?_
      refine WP.icmpF K at_159 (by decide) (pc' := 162) rfl ?_
      refine WP.iconst K at_162 (v := (1 : Int32)) rfl (pc' := 163) rfl ?_
      refine WP.goto K at_163 (by decide) (pc' := 167) (by decide) ?_
      refine WP.icmpF K at_167 (by decide) (pc' := 170) rfl ?_
      refine WP.iconst K at_170 (v := (1 : Int32)) rfl (pc' := 171) rfl ?_
      refine WP.goto K at_171 (by decide) (pc' := 175) (by decide) ?_
      exact WP.retN K (ty := .boolean) (by decide) at_175 (by decide) (by decide) rfl
set_option maxRecDepth 65536 in
set_option maxHeartbeats 40000000 in
theorem comes_1 {Post : Tables → Env → Array Value → State → Outcome → State → Prop} (hpost : ∀ tb e args s v u, (limb_1_1.after args s (.returned v) u = true ∧ limb_1_2.after args s (.returned v) u = true ∧ True) → FrameEnd s (.returned v) u (Jvm.fieldLocs frame_1_writes args s ++ Jvm.arrayLocs frame_1_arrays args s ++ Jvm.staticLocs frame_1_statics s) 16 192 → Post tb e args s (.returned v) u) :
    ArmFor flags0 classFile x code maxLocals ret World_1 tables_1 room_1 Calls_1 rest_1 Pre_1 Post := by
  intro l hfl _ _ p e ha hc hk s m args below hf hA hF happ hP
  obtain ⟨hcalls, hrest, hpre⟩ := hP
  obtain ⟨-, -, -, hnamed, -, -, -, hat⟩ := (Spec.applies_iff hf).mp happ
  obtain ⟨hg, hn⟩ := and_e (Cond.before_iff.mp (show (Jvm.Cond.and given_1 narrow_1).before args s = true from hpre))
  obtain ⟨q0, r0⟩ := and_e hg
  obtain ⟨q1, r1⟩ := and_e r0
  obtain ⟨q2, r2⟩ := and_e r1
  obtain ⟨q3, r3⟩ := and_e r2
  obtain ⟨q4, r4⟩ := and_e r3
  obtain ⟨v0, v1, v2, v3, v4, rfl⟩ : ∃ v0 v1 v2 v3 v4 : Value, args = #[v0, v1, v2, v3, v4] := by
    have hs : args.size = 5 := by simpa [Cond.value, given_1] using q0
    obtain ⟨L⟩ := args
    match L, hs with
    | [v0, v1, v2, v3, v4], _ => exact ⟨v0, v1, v2, v3, v4, rfl⟩
  have hw := fun d (hd : d ∈ tables_1) => atoms_spec (ws := Jvm.Cond.code x code maxLocals ret :: tables_1) hat d (List.mem_cons_of_mem _ hd)
  obtain ⟨i0, ei0⟩ := is_v q1
  obtain rfl : v0 = (.int i0) := Option.some.inj ei0
  obtain ⟨i1, ei1⟩ := is_v q2
  obtain rfl : v1 = (.int i1) := Option.some.inj ei1
  obtain ⟨i2, ei2⟩ := is_v q3
  obtain rfl : v2 = (.int i2) := Option.some.inj ei2
  obtain ⟨i3, ei3⟩ := is_v q4
  obtain rfl : v3 = (.int i3) := Option.some.inj ei3
  obtain ⟨i4, ei4⟩ := is_v r4
  obtain rfl : v4 = (.int i4) := Option.some.inj ei4
  obtain ⟨n, o, h1, h2, h3, _, L, rfl, ⟨rfl, N⟩, hq⟩ := rm_law false l s _ hw i0 i1 i2 i3 i4 s.heap s.heap.size (Nat.le_refl _)  p e ha hc hk s m _ below hf ((Spec.applies_iff_loose hf).mp happ).1 ⟨rfl, State.Warmed39.refl s, rfl⟩ trivial
  refine ⟨n, _, h1, h2, h3, hpost _ _ _ _ _ _ ⟨Cond.after_iff.mpr rfl, Cond.after_iff.mpr (eq_i res_at (Term.int_eval (1)) rfl), trivial⟩ ⟨hq.1, hq.2.1, (hq.2.2.sift fun y hy => Or.inr (N y hy)).mono (by decide) (by decide)⟩⟩
theorem main_1_1 : Claimed_1_1 := comes_1 fun _ _ _ _ _ _ h hF => ⟨h.1, hF⟩
theorem main_1_2 : Claimed_1_2 := comes_1 fun _ _ _ _ _ _ h hF => ⟨h.2.1, hF⟩
end Jvm.Pilot.@@N@@
namespace Jvm.Pilot.@@N@@
open Jvm Jvm.ClassFile Sem Op Lib Jvm.Free Jvm.Stand Jvm.Pilot.@@N@@.Jvm.D
/-! MADE BY PROGRAM (witnessworld.py) out of the Statement's table words and the real class files: 9 classes; the members and pool entries that the words name. The judged class is class 1, her method 1. -/
namespace start1
open Jvm.ClassFile
def u (s : String) : CpInfo := .utf8 (stringToUtf16 s)
/-- a pool by its gaps: so many unusable entries, then the entry; so many at the end -/
def gap : Nat → List CpInfo → List CpInfo
  | 0, r => r
  | n + 1, r => .unusable :: gap n r
def poolList (es : List (Nat × CpInfo)) (last : Nat) : List CpInfo := es.foldr (fun e r => gap e.1 (e.2 :: r)) (gap last [])
def pool (es : List (Nat × CpInfo)) (last : Nat) : Array CpInfo := ⟨poolList es last⟩
def fileOf (pool : Array CpInfo) (this : Nat) (attrs : Array Attribute := #[]) (ms : Array MethodInfo := #[]) (fl : Nat := 33) (sup : Nat := 0) (ifs : Array Nat := #[]) (fds : Array FieldInfo := #[]) : ClassFile where
  minorVersion := 0
  majorVersion := 65
  constantPool := pool
  accessFlags := fl
  thisClass := this
  superClass := sup
  interfaces := ifs
  fields := fds
  methods := ms
  attributes := attrs
def plain (name : String) (sup : Option ClassId) : Class where
  name := name
  kind := .ordinary
  loader := none
  accessFlags := 33
  super := sup
  interfaces := #[]
  cf := none
  fields := #[]
  methods := #[]
  instanceTypes := #[]
  staticTypes := #[]
  resolved := #[]
  callSites := []
  init := .initialized
  statics := none
  mirror := none

def pool0 : Array CpInfo := pool [(5, u "<init>"), (0, u "()V"), (1, .class_ 10), (1, u "java/lang/Object")] 113

def k0c0 : Code := { maxStack := 0, maxLocals := 1, code := object_method_1_code, exceptionTable := #[], attributes := #[] }
def k0m0 : Method := { name := "<init>", desc := "()V", sig := { parameters := [], returnType := none }, accessFlags := 1, code := some k0c0 }
/-- java/lang/Object -/
def k0 : Class := { plain "java/lang/Object" none with
  accessFlags := 33
  interfaces := #[]
  cf := some (fileOf pool0 8 #[] #[{ accessFlags := 1, nameIndex := 5, descriptorIndex := 6, attributes := #[] }] 33 0 #[] #[])
  fields := #[]
  methods := #[k0m0]
  instanceTypes := #[]
  staticTypes := #[]
  resolved := Array.replicate 124 none
  statics := none }

def pool1 : Array CpInfo := pool [(2, .class_ 4), (0, .nameAndType 5 6), (0, u "java/lang/Object"), (0, u "<init>"), (0, u "()V"), (0, .class_ 8), (0, u "com/example/wedge/wedge/link/DepartureQueue"), (0, .methodref 7 3), (0, .methodref 7 11), (0, .nameAndType 12 13), (0, u "isEmpty"), (0, u "()Z"), (0, .integer 2147483647), (0, .methodref 7 16), (0, .nameAndType 17 18), (0, u "add"), (0, u "(DI)V"), (0, .methodref 7 20), (0, .nameAndType 21 22), (0, u "removeFirst"), (0, u "()I"), (0, .class_ 24), (0, u "com/example/wedge/wedge/link/DepartureQueueIsEmptyPinLaw"), (2, u "law"), (0, u "(IIIII)Z")] 3

def k1m0 : Method := { name := "<init>", desc := "()V", sig := { parameters := [], returnType := none }, accessFlags := 1, code := none }
def k1c1 : Code := { maxStack := 4, maxLocals := 11, code := code, exceptionTable := #[], attributes := #[] }
def k1m1 : Method := { name := "law", desc := "(IIIII)Z", sig := { parameters := [.int, .int, .int, .int, .int], returnType := some .boolean }, accessFlags := 9, code := some k1c1 }
/-- com/example/wedge/wedge/link/DepartureQueueIsEmptyPinLaw -/
def k1 : Class := { plain "com/example/wedge/wedge/link/DepartureQueueIsEmptyPinLaw" (some 0) with
  accessFlags := 49
  interfaces := #[]
  cf := some (fileOf pool1 23 #[] #[{ accessFlags := 1, nameIndex := 5, descriptorIndex := 6, attributes := #[] }, { accessFlags := 9, nameIndex := 27, descriptorIndex := 28, attributes := #[] }] 49 2 #[] #[])
  fields := #[]
  methods := #[k1m0, k1m1]
  instanceTypes := #[]
  staticTypes := #[]
  resolved := Array.replicate 32 none
  statics := none }

def pool2 : Array CpInfo := pool [(1, .methodref 2 3), (0, .class_ 4), (0, .nameAndType 5 6), (0, u "java/lang/Object"), (0, u "<init>"), (0, u "()V"), (0, .fieldref 8 9), (0, .class_ 10), (0, .nameAndType 11 12), (0, u "com/example/wedge/wedge/link/DepartureQueue"), (0, u "times"), (0, u "[D"), (0, .fieldref 8 14), (0, .nameAndType 15 16), (0, u "tags"), (0, u "[I"), (0, .fieldref 8 18), (0, .nameAndType 19 20), (0, u "size"), (0, u "I"), (11, u "isEmpty"), (0, u "()Z"), (3, u "add"), (0, u "(DI)V"), (0, u "removeFirst"), (0, u "()I")] 2

def k2c0 : Code := { maxStack := 2, maxLocals := 1, code := prog_7_method_1_code, exceptionTable := #[], attributes := #[] }
def k2m0 : Method := { name := "<init>", desc := "()V", sig := { parameters := [], returnType := none }, accessFlags := 0, code := some k2c0 }
def k2c1 : Code := { maxStack := 1, maxLocals := 1, code := prog_7_method_2_code, exceptionTable := #[], attributes := #[] }
def k2m1 : Method := { name := "isEmpty", desc := "()Z", sig := { parameters := [], returnType := some .boolean }, accessFlags := 0, code := some k2c1 }
def k2c2 : Code := { maxStack := 4, maxLocals := 6, code := prog_7_method_4_code, exceptionTable := #[], attributes := #[] }
def k2m2 : Method := { name := "add", desc := "(DI)V", sig := { parameters := [.double, .int], returnType := none }, accessFlags := 0, code := some k2c2 }
def k2c3 : Code := { maxStack := 4, maxLocals := 7, code := prog_7_method_5_code, exceptionTable := #[], attributes := #[] }
def k2m3 : Method := { name := "removeFirst", desc := "()I", sig := { parameters := [], returnType := some .int }, accessFlags := 0, code := some k2c3 }
/-- com/example/wedge/wedge/link/DepartureQueue -/
def k2 : Class := { plain "com/example/wedge/wedge/link/DepartureQueue" (some 0) with
  accessFlags := 32
  interfaces := #[]
  cf := some (fileOf pool2 8 #[] #[{ accessFlags := 0, nameIndex := 5, descriptorIndex := 6, attributes := #[] }, { accessFlags := 0, nameIndex := 32, descriptorIndex := 33, attributes := #[] }, { accessFlags := 0, nameIndex := 37, descriptorIndex := 38, attributes := #[] }, { accessFlags := 0, nameIndex := 39, descriptorIndex := 40, attributes := #[] }] 32 2 #[] #[{ accessFlags := 2, nameIndex := 11, descriptorIndex := 12, attributes := #[] }, { accessFlags := 2, nameIndex := 15, descriptorIndex := 16, attributes := #[] }, { accessFlags := 2, nameIndex := 19, descriptorIndex := 20, attributes := #[] }])
  fields := #[{ name := "times", type := (.array .double), accessFlags := 2, slot := 0, constantValue := 0 }, { name := "tags", type := (.array .int), accessFlags := 2, slot := 1, constantValue := 0 }, { name := "size", type := .int, accessFlags := 2, slot := 2, constantValue := 0 }]
  methods := #[k2m0, k2m1, k2m2, k2m3]
  instanceTypes := #[(.array .double), (.array .int), .int]
  staticTypes := #[]
  resolved := Array.replicate 43 none
  statics := none }

def pool3 : Array CpInfo := pool [(1, u "java/lang/Cloneable"), (0, .class_ 1), (0, u "java/lang/Object"), (0, .class_ 3)] 3

/-- java/lang/Cloneable -/
def k3 : Class := { plain "java/lang/Cloneable" (some 0) with
  accessFlags := 1537
  interfaces := #[]
  cf := some (fileOf pool3 2 #[] #[] 1537 4 #[] #[])
  fields := #[]
  methods := #[]
  instanceTypes := #[]
  staticTypes := #[]
  resolved := Array.replicate 8 none
  statics := none }

def pool4 : Array CpInfo := pool [(1, u "java/io/Serializable"), (0, .class_ 1), (0, u "java/lang/Object"), (0, .class_ 3)] 3

/-- java/io/Serializable -/
def k4 : Class := { plain "java/io/Serializable" (some 0) with
  accessFlags := 1537
  interfaces := #[]
  cf := some (fileOf pool4 2 #[] #[] 1537 4 #[] #[])
  fields := #[]
  methods := #[]
  instanceTypes := #[]
  staticTypes := #[]
  resolved := Array.replicate 8 none
  statics := none }

/-- the primitive byte -/
def k5 : Class := { plain "byte" none with kind := .primitive 'B', accessFlags := 0x411 }
/-- [B -/
def k6 : Class := { plain "[B" (some 0) with kind := .array 5 .byte, interfaces := #[3, 4], accessFlags := 1041 }

/-- the primitive int -/
def k7 : Class := { plain "int" none with kind := .primitive 'I', accessFlags := 0x411 }
/-- [I -/
def k8 : Class := { plain "[I" (some 0) with kind := .array 7 .int, interfaces := #[3, 4], accessFlags := 1041 }

/-- the primitive double -/
def k9 : Class := { plain "double" none with kind := .primitive 'D', accessFlags := 0x411 }
/-- [D -/
def k10 : Class := { plain "[D" (some 0) with kind := .array 9 .double, interfaces := #[3, 4], accessFlags := 1041 }

def heap : Heap := #[]
def classes : Array Class := #[k0, k1, k2, k3, k4, k5, k6, k7, k8, k9, k10]
def interned : List (Array UInt16 × Addr) := []
def slotsUsed : Nat := 0
def theMethod : MethodId := ⟨1, 1⟩
def args0 : Array Value := #[.int 5, .int 1, .int 3, .int 4, .int 9]
def aboutOver (below : List Frame) : State where
  vm := { classes := classes, interned := interned.toArray }
  heap := heap
  slotsUsed := slotsUsed
  threads := #[{ frames := .invoking theMethod args0 :: below }]
def below0 : List Frame := [.native { method := ⟨0, 0⟩, args := #[] }]
def about1 : State := aboutOver below0
def p0 : Program := .bare "" "" ""
def e0 : Env := launch0.env 0 0 0
theorem w_frames : about1.frames = Frame.invoking theMethod args0 :: below0 := rfl
set_option maxRecDepth 65536 in
theorem w_args : argsFit about1.vm theMethod args0 = true := by decide +kernel
set_option maxRecDepth 65536 in
theorem w_heap : heapFits about1 = true := by decide +kernel
set_option maxRecDepth 65536 in
theorem w_runnable : about1.curStatus? = some .runnable := by decide +kernel
set_option maxRecDepth 65536 in
theorem w_alone : about1.alone = true := by decide +kernel
set_option maxRecDepth 65536 in
theorem w_named : about1.methodNamed? x = some theMethod := by decide +kernel
set_option maxRecDepth 65536 in
theorem w_hears : about1.hears theMethod below0 = true := by decide +kernel
set_option maxRecDepth 65536 in
theorem w_ripe : about1.ripe theMethod args0 below0 = true := by decide +kernel
theorem w_running : about1.status = .running := rfl
set_option maxRecDepth 65536 in
theorem w_room : about1.hasRoom e0.platform room_1 = true :=
  launch0.hasRoom_least _ room_1 (by decide +kernel) (by decide +kernel) (by decide +kernel) (by decide +kernel) (by decide +kernel) (by decide +kernel)
theorem allAtoms_all (ts : List Jvm.Cond) (a : Array Jvm.Value) (st : Jvm.State) : (allAtoms ts).before a st = ts.all (fun c => c.before a st) := by
  induction ts with
  | nil => rfl
  | cons c t ih =>
    show (Jvm.Cond.and c (allAtoms t)).before a st = _
    rw [Jvm.Cond.before_and, ih, List.all_cons]
def words1 : List Jvm.Cond := Jvm.Cond.code x code maxLocals ret :: tables_1
/-- a 'code' word, met by the world's own term for the bytes: nothing is compared byte by byte -/
theorem code_word {y : MethodName} {bytes : ByteArray} {mx : Nat} {rt : Option FieldType} {a : Array Value} {s : State} {m : MethodId} {meth : Method} {c : Code} (h1 : s.methodNamed? y = some m) (h2 : s.vm.method? m = some meth) (h3 : meth.code = some c) (h4 : c.code = bytes)
    (h5 : (c.maxLocals == mx && c.exceptionTable.isEmpty && decide (c.maxStack ≤ mostOperands) && decide (meth.sig.returnType = rt) && !meth.locks && decide (parseMethodDescriptor y.desc = some meth.sig)) = true) : (Jvm.Cond.code y bytes mx rt).before a s = true := by
  simp only [Bool.and_eq_true, beq_iff_eq, Bool.not_eq_true', decide_eq_true_eq] at h5
  obtain ⟨⟨⟨⟨⟨g1, g2⟩, g3⟩, g4⟩, g5⟩, g6⟩ := h5
  simp [Cond.before, Cond.holds, Cond.value, h1, h2, h3, h4, g1, g2, g3, g4, g5, g6]
def isCode : Jvm.Cond → Bool
  | .code _ _ _ _ => true
  | _ => false
theorem all_split {L : List Jvm.Cond} {P : Jvm.Cond → Bool} (h1 : L.all (fun c => isCode c || P c) = true) (h2 : ∀ c ∈ L.filter isCode, P c = true) : L.all P = true := by
  refine List.all_eq_true.mpr fun c hc => ?_
  have h := List.all_eq_true.mp h1 c hc
  rcases Bool.eq_false_or_eq_true (isCode c) with hi | hi
  · exact h2 c (List.mem_filter.mpr ⟨hc, hi⟩)
  · simpa [hi] using h
set_option maxRecDepth 65536 in
theorem w_c0 : (Jvm.Cond.code x code maxLocals ret).before args0 about1 = true := code_word (m := ⟨1, 1⟩) (meth := k1m1) (c := k1c1) (by decide +kernel) rfl rfl rfl (by decide +kernel)
set_option maxRecDepth 65536 in
theorem w_c1 : (Jvm.Cond.code ({ cls := "com/example/wedge/wedge/link/DepartureQueue", name := "<init>", desc := "()V" } : Jvm.MethodName) prog_7_method_1_code (1 : Nat) (Option.none : Option Jvm.ClassFile.FieldType)).before args0 about1 = true := code_word (m := ⟨2, 0⟩) (meth := k2m0) (c := k2c0) (by decide +kernel) rfl rfl rfl (by decide +kernel)
set_option maxRecDepth 65536 in
theorem w_c2 : (Jvm.Cond.code ({ cls := "java/lang/Object", name := "<init>", desc := "()V" } : Jvm.MethodName) object_method_1_code (1 : Nat) (Option.none : Option Jvm.ClassFile.FieldType)).before args0 about1 = true := code_word (m := ⟨0, 0⟩) (meth := k0m0) (c := k0c0) (by decide +kernel) rfl rfl rfl (by decide +kernel)
set_option maxRecDepth 65536 in
theorem w_c3 : (Jvm.Cond.code ({ cls := "com/example/wedge/wedge/link/DepartureQueue", name := "isEmpty", desc := "()Z" } : Jvm.MethodName) prog_7_method_2_code (1 : Nat) (Option.some Jvm.ClassFile.FieldType.boolean)).before args0 about1 = true := code_word (m := ⟨2, 1⟩) (meth := k2m1) (c := k2c1) (by decide +kernel) rfl rfl rfl (by decide +kernel)
set_option maxRecDepth 65536 in
theorem w_c4 : (Jvm.Cond.code ({ cls := "com/example/wedge/wedge/link/DepartureQueue", name := "add", desc := "(DI)V" } : Jvm.MethodName) prog_7_method_4_code (6 : Nat) (Option.none : Option Jvm.ClassFile.FieldType)).before args0 about1 = true := code_word (m := ⟨2, 2⟩) (meth := k2m2) (c := k2c2) (by decide +kernel) rfl rfl rfl (by decide +kernel)
set_option maxRecDepth 65536 in
theorem w_c5 : (Jvm.Cond.code ({ cls := "com/example/wedge/wedge/link/DepartureQueue", name := "removeFirst", desc := "()I" } : Jvm.MethodName) prog_7_method_5_code (7 : Nat) (Option.some Jvm.ClassFile.FieldType.int)).before args0 about1 = true := code_word (m := ⟨2, 3⟩) (meth := k2m3) (c := k2c3) (by decide +kernel) rfl rfl rfl (by decide +kernel)
def codes1 : List Jvm.Cond := [Jvm.Cond.code x code maxLocals ret, Jvm.Cond.code ({ cls := "com/example/wedge/wedge/link/DepartureQueue", name := "<init>", desc := "()V" } : Jvm.MethodName) prog_7_method_1_code (1 : Nat) (Option.none : Option Jvm.ClassFile.FieldType), Jvm.Cond.code ({ cls := "java/lang/Object", name := "<init>", desc := "()V" } : Jvm.MethodName) object_method_1_code (1 : Nat) (Option.none : Option Jvm.ClassFile.FieldType), Jvm.Cond.code ({ cls := "com/example/wedge/wedge/link/DepartureQueue", name := "isEmpty", desc := "()Z" } : Jvm.MethodName) prog_7_method_2_code (1 : Nat) (Option.some Jvm.ClassFile.FieldType.boolean), Jvm.Cond.code ({ cls := "com/example/wedge/wedge/link/DepartureQueue", name := "add", desc := "(DI)V" } : Jvm.MethodName) prog_7_method_4_code (6 : Nat) (Option.none : Option Jvm.ClassFile.FieldType), Jvm.Cond.code ({ cls := "com/example/wedge/wedge/link/DepartureQueue", name := "removeFirst", desc := "()I" } : Jvm.MethodName) prog_7_method_5_code (7 : Nat) (Option.some Jvm.ClassFile.FieldType.int)]
set_option maxRecDepth 65536 in
theorem codes_eq : words1.filter isCode = codes1 := rfl
theorem w_codes : ∀ c ∈ words1.filter isCode, c.before args0 about1 = true := by
  rw [codes_eq]
  intro c hc
  simp only [codes1, List.mem_cons, List.not_mem_nil, or_false] at hc
  rcases hc with rfl | rfl | rfl | rfl | rfl | rfl
  · exact w_c0
  · exact w_c1
  · exact w_c2
  · exact w_c3
  · exact w_c4
  · exact w_c5
set_option maxRecDepth 65536 in
theorem w_t1 : (words1.take 24).all (fun c => isCode c || c.before args0 about1) = true := by decide +kernel
set_option maxRecDepth 65536 in
theorem w_t2 : (words1.drop 24).all (fun c => isCode c || c.before args0 about1) = true := by decide +kernel
theorem w_tables : (allAtoms (Jvm.Cond.code x code maxLocals ret :: tables_1)).before args0 about1 = true := by
  rw [allAtoms_all]
  show words1.all (fun c => c.before args0 about1) = true
  refine all_split ?_ w_codes
  rw [← List.take_append_drop 24 words1, List.all_append, w_t1, w_t2]
  rfl
set_option maxRecDepth 65536 in
theorem w_case : (Jvm.Cond.and given_1 narrow_1).before args0 about1 = true := by decide +kernel
theorem w_applies : (headSpec (Jvm.Cond.code x code maxLocals ret :: tables_1) room_1).applies x e0.platform about1 = true :=
  (Spec.applies_iff w_frames).mpr ⟨w_running, w_runnable, w_alone, w_named, w_hears, w_ripe, w_room, w_tables⟩
theorem atStart : AtStart classFile x code maxLocals ret World_1 tables_1 room_1 Calls_1 rest_1 Pre_1 launch0 p0 e0 about1 theMethod args0 below0 :=
  ⟨lists_1, trivial, launch0.admits_env _ _ _, launch0.least_env, fairChoices_fair.cas, fairChoices_fair.clock, w_frames, w_args, w_heap, w_applies, trivial, trivial, w_case⟩
end start1
theorem witness_1 : WitnessClaimed_1 := ⟨start1.p0, start1.e0, start1.about1, start1.theMethod, start1.args0, start1.below0, start1.atStart⟩
end Jvm.Pilot.@@N@@
