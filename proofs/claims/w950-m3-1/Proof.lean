import JvmDerived
import JvmDerived.Pilot.@@N@@Statement
import JvmDerived.Pilot.@@N@@Code
set_option linter.unusedVariables false
set_option linter.unusedSimpArgs false
namespace Jvm.OwnW
open Sem ClassFile Op Lib Jvm.Stand Jvm.Free Jvm.LawKit Jvm.RoadKit
/-- false: nothing may have been interned; true: the wide word -/
def Md (w : Bool) (s : State) (vm0 : Vm) (n : Nat) : Prop := (w = false → vm0 = s.vm) ∧ ∃ k0, s.Since vm0 k0 ∧ k0 ≤ n
theorem Md.mono {w : Bool} {s : State} {vm0 : Vm} {n n' : Nat} (h : Md w s vm0 n) (q : n ≤ n') : Md w s vm0 n' := ⟨h.1, h.2.imp fun _ r => ⟨r.1, Nat.le_trans r.2 q⟩⟩
theorem Md.start (w : Bool) (s : State) (n : Nat) : Md w s s.vm n := ⟨fun _ => rfl, 0, (State.WarmedH.refl s).since 0, Nat.zero_le _⟩
def EndF (w : Bool) (s : State) (o : Outcome) (t : State) (L : List Loc) (k n : Nat) : Prop := match w with
  | false => FrameEnd s o t L k n
  | true => ReturnedEndW s o t L k n
abbrev Kx : Type := Bool × Program × Launch × Env × Room × State × MethodId × Array Value × List Frame × Method × Code × State × String × Nat × (Option Value → Heap → Prop)
abbrev Kx.w (κ : Kx) : Bool := κ.1
abbrev Kx.p (κ : Kx) : Program := κ.2.1
abbrev Kx.l (κ : Kx) : Launch := κ.2.2.1
abbrev Kx.e (κ : Kx) : Env := κ.2.2.2.1
abbrev Kx.R (κ : Kx) : Room := κ.2.2.2.2.1
abbrev Kx.s (κ : Kx) : State := κ.2.2.2.2.2.1
abbrev Kx.m (κ : Kx) : MethodId := κ.2.2.2.2.2.2.1
abbrev Kx.a (κ : Kx) : Array Value := κ.2.2.2.2.2.2.2.1
abbrev Kx.below (κ : Kx) : List Frame := κ.2.2.2.2.2.2.2.2.1
abbrev Kx.meth (κ : Kx) : Method := κ.2.2.2.2.2.2.2.2.2.1
abbrev Kx.c (κ : Kx) : Code := κ.2.2.2.2.2.2.2.2.2.2.1
abbrev Kx.Z (κ : Kx) : State := κ.2.2.2.2.2.2.2.2.2.2.2.1
abbrev Kx.own (κ : Kx) : String := κ.2.2.2.2.2.2.2.2.2.2.2.2.1
abbrev Kx.n0 (κ : Kx) : Nat := κ.2.2.2.2.2.2.2.2.2.2.2.2.2.1
abbrev Kx.Q (κ : Kx) : Option Value → Heap → Prop := κ.2.2.2.2.2.2.2.2.2.2.2.2.2.2
/-- the body's run from T with the frame g ends as κ.Q says -/
def Ends (κ : Kx) (T : State) (g : JFrame) : Prop := ∃ (t : State) (o : Outcome), Steps κ.p.tables κ.e κ.below (T.setTop g) t ∧ t.status = .running ∧ Ended t κ.below o ∧ ∃ v L, o = .returned v ∧ (κ.Q v t.heap ∧ Fr κ.n0 L) ∧ EndF κ.w κ.s o t L κ.R.cells κ.R.slots
def WP (κ : Kx) (h : Heap) (k n : Nat) (g : JFrame) : Prop :=
  ∀ (T : State) (locs : List Loc) (vm0 : Vm), Stand κ.p κ.l κ.e κ.R (κ.s.setVm vm0) κ.m κ.a κ.below κ.meth κ.c T locs k n → T.heap = h → Md κ.w κ.s vm0 h.size → κ.Z.Warmed39 vm0 → vm0.findClass κ.own = some κ.m.cls → Fr κ.n0 locs → Ends κ T g
/-- what stands fast through a body's walk -/
def Cx (κ : Kx) (w : Bool) (l : Launch) (Z : State) (own : String) (n0 : Nat) (rm : Room) (bytes : ByteArray) (maxL : Nat) (ret : Option FieldType) (nm : String) (Q : Option Value → Heap → Prop) : Prop :=
  κ.p.tables.exec = Jvm.exec ∧ κ.c.code = bytes ∧ κ.c.maxLocals = maxL ∧ κ.meth.sig.returnType = ret ∧ κ.meth.locks = false ∧ κ.meth.name = nm ∧ κ.w = w ∧ κ.l = l ∧ κ.Z = Z ∧ κ.own = own ∧ κ.n0 = n0 ∧ κ.R = rm ∧ κ.Q = Q
/-- a body's contract -/
def Met (w : Bool) (l : Launch) (Z : State) (y : MethodName) (bytes : ByteArray) (maxL : Nat) (ret : Option FieldType) (ws : List Cond) (rm : Room) (as' : Array Value) (h0 : Heap) (n0 : Nat) (Q : Option Value → Heap → Prop) : Prop :=
  MetFree l y (head1 (Cond.code y bytes maxL ret :: ws) rm) (fun a U => a = as' ∧ Z.Warmed39 U.vm ∧ U.heap = h0) (fun _ _ _ _ _ => True) (fun _ U o U' => ∃ v L, o = .returned v ∧ (Q v U'.heap ∧ Fr n0 L) ∧ EndF w U o U' L rm.cells rm.slots)
theorem Met.of {w : Bool} {l : Launch} {Z : State} {y : MethodName} {bytes : ByteArray} {maxL : Nat} {ret : Option FieldType} {ws : List Cond} {rm : Room} {as' : Array Value} {h0 : Heap} {n0 : Nat} {Q : Option Value → Heap → Prop} (hp : plainFor y = true)
    (body : ∀ κ : Kx, Cx κ w l Z y.cls n0 rm bytes maxL ret y.name Q → WP κ h0 0 0 (entryFrame κ.m as' maxL)) : Met w l Z y bytes maxL ret ws rm as' h0 n0 Q := by
  refine MetFree.of_bodySF hp hisR ?_
  intro p e s m args below meth c s₁ Bd hml0 hP hK
  obtain ⟨rfl, hZ, hh⟩ := hP
  exact body (w, p, l, e, rm, s, m, args, below, meth, c, Z, y.cls, n0, Q) ⟨Bd.exec, Bd.bytes, hml0, Bd.returns, Bd.notSynchronized, (name_of_methodNamed Bd.named Bd.method).1, rfl, rfl, rfl, rfl, rfl, rfl, rfl⟩ s₁ [] s.vm (Stand.of_body Bd) (by rw [← hh, Bd.state]; rfl) (Md.start _ _ _) hZ (findClass_of_methodNamed Bd.named) (Fr.nil n0)
theorem EndF.widen {w : Bool} {s : State} {o : Outcome} {t : State} {L : List Loc} {k n : Nat} (h : EndF w s o t L k n) : ReturnedEndW s o t L k n := by
  cases w
  · exact ReturnedEndW.of_narrow h.1 h.2.1 h.2.2
  · exact h
section Rules
variable {κ : Kx} {w : Bool} {l : Launch} {Z : State} {own nm : String} {n0 : Nat} {rm : Room} {bytes : ByteArray} {maxL : Nat} {ret : Option FieldType} {Q : Option Value → Heap → Prop} {h h' : Heap} {k n k' n' : Nat} {pc pc' : Nat} {L L' : Array Slot} {S : List Value} {a0 : Array Value}
theorem WP.go {g g' : JFrame} (st : ∀ (T : State) (locs : List Loc) (vm0 : Vm), Stand κ.p κ.l κ.e κ.R (κ.s.setVm vm0) κ.m κ.a κ.below κ.meth κ.c T locs k n → T.heap = h → κ.Z.Warmed39 vm0 → vm0.findClass κ.own = some κ.m.cls → ∀ t, Steps κ.p.tables κ.e κ.below (T.setTop g') t → Steps κ.p.tables κ.e κ.below (T.setTop g) t)
    (H : WP κ h k n g') : WP κ h k n g := fun T locs vm0 X e M hZ ho N => by
  obtain ⟨t, o, h1, r⟩ := H T locs vm0 X e M hZ ho N
  exact ⟨t, o, st T locs vm0 X e hZ ho t h1, r⟩
theorem WP.frame {g g' : JFrame} (q : g = g') (H : WP κ h k n g') : WP κ h k n g := q ▸ H
theorem WP.more {g : JFrame} (H : WP κ h k' n' g) (hk : k ≤ k') (hn : n ≤ n') : WP κ h k n g := fun T locs vm0 X e M hZ ho N => H T locs vm0 (X.mono hk hn) e M hZ ho N
/-- a pure stretch with several roads that meet again -/
theorem WP.meet {g g' : JFrame} (H : WP κ h k n g' → WP κ h k n g) (K : WP κ h k n g') : WP κ h k n g := H K
theorem WP.iadd (K : Cx κ w l Z own n0 rm bytes maxL ret nm Q) {x y : Int32} (hd : decode bytes pc = .ok (.iadd, 1))  (hp : pc + 1 = pc') (H : WP κ h k n (mkF κ.m pc' L (.int (x + y) :: S))) : WP κ h k n (mkF κ.m pc L (.int y :: .int x :: S)) := by
  obtain ⟨hx, hby, -⟩ := K
  subst hp
  exact WP.go (fun T locs vm0 X e hZ ho t k => XS.iadd X.here hx rfl (hb hby hd) rfl k) H
theorem WP.isub (K : Cx κ w l Z own n0 rm bytes maxL ret nm Q) {x y : Int32} (hd : decode bytes pc = .ok (.isub, 1))  (hp : pc + 1 = pc') (H : WP κ h k n (mkF κ.m pc' L (.int (x - y) :: S))) : WP κ h k n (mkF κ.m pc L (.int y :: .int x :: S)) := by
  obtain ⟨hx, hby, -⟩ := K
  subst hp
  exact WP.go (fun T locs vm0 X e hZ ho t k => XS.isub X.here hx rfl (hb hby hd) rfl k) H
theorem WP.imul (K : Cx κ w l Z own n0 rm bytes maxL ret nm Q) {x y : Int32} (hd : decode bytes pc = .ok (.imul, 1))  (hp : pc + 1 = pc') (H : WP κ h k n (mkF κ.m pc' L (.int (x * y) :: S))) : WP κ h k n (mkF κ.m pc L (.int y :: .int x :: S)) := by
  obtain ⟨hx, hby, -⟩ := K
  subst hp
  exact WP.go (fun T locs vm0 X e hZ ho t k => XS.imul X.here hx rfl (hb hby hd) rfl k) H
theorem WP.iand (K : Cx κ w l Z own n0 rm bytes maxL ret nm Q) {x y : Int32} (hd : decode bytes pc = .ok (.iand, 1))  (hp : pc + 1 = pc') (H : WP κ h k n (mkF κ.m pc' L (.int (x &&& y) :: S))) : WP κ h k n (mkF κ.m pc L (.int y :: .int x :: S)) := by
  obtain ⟨hx, hby, -⟩ := K
  subst hp
  exact WP.go (fun T locs vm0 X e hZ ho t k => XS.iand X.here hx rfl (hb hby hd) rfl k) H
theorem WP.ixor (K : Cx κ w l Z own n0 rm bytes maxL ret nm Q) {x y : Int32} (hd : decode bytes pc = .ok (.ixor, 1))  (hp : pc + 1 = pc') (H : WP κ h k n (mkF κ.m pc' L (.int (x ^^^ y) :: S))) : WP κ h k n (mkF κ.m pc L (.int y :: .int x :: S)) := by
  obtain ⟨hx, hby, -⟩ := K
  subst hp
  exact WP.go (fun T locs vm0 X e hZ ho t k => XS.ixor X.here hx rfl (hb hby hd) rfl k) H
theorem WP.ior (K : Cx κ w l Z own n0 rm bytes maxL ret nm Q) {x y : Int32} (hd : decode bytes pc = .ok (.ior, 1))  (hp : pc + 1 = pc') (H : WP κ h k n (mkF κ.m pc' L (.int (x ||| y) :: S))) : WP κ h k n (mkF κ.m pc L (.int y :: .int x :: S)) := by
  obtain ⟨hx, hby, -⟩ := K
  subst hp
  exact WP.go (fun T locs vm0 X e hZ ho t k => XS.ior X.here hx rfl (hb hby hd) rfl k) H
theorem WP.ishl (K : Cx κ w l Z own n0 rm bytes maxL ret nm Q) {x y : Int32} (hd : decode bytes pc = .ok (.ishl, 1))  (hp : pc + 1 = pc') (H : WP κ h k n (mkF κ.m pc' L (.int (x <<< (y &&& 31)) :: S))) : WP κ h k n (mkF κ.m pc L (.int y :: .int x :: S)) := by
  obtain ⟨hx, hby, -⟩ := K
  subst hp
  exact WP.go (fun T locs vm0 X e hZ ho t k => XS.ishl X.here hx rfl (hb hby hd) rfl k) H
theorem WP.ishr (K : Cx κ w l Z own n0 rm bytes maxL ret nm Q) {x y : Int32} (hd : decode bytes pc = .ok (.ishr, 1))  (hp : pc + 1 = pc') (H : WP κ h k n (mkF κ.m pc' L (.int (x >>> (y &&& 31)) :: S))) : WP κ h k n (mkF κ.m pc L (.int y :: .int x :: S)) := by
  obtain ⟨hx, hby, -⟩ := K
  subst hp
  exact WP.go (fun T locs vm0 X e hZ ho t k => XS.ishr X.here hx rfl (hb hby hd) rfl k) H
theorem WP.iushr (K : Cx κ w l Z own n0 rm bytes maxL ret nm Q) {x y : Int32} (hd : decode bytes pc = .ok (.iushr, 1))  (hp : pc + 1 = pc') (H : WP κ h k n (mkF κ.m pc' L (.int ((x.toUInt32 >>> (y &&& 31).toUInt32).toInt32) :: S))) : WP κ h k n (mkF κ.m pc L (.int y :: .int x :: S)) := by
  obtain ⟨hx, hby, -⟩ := K
  subst hp
  exact WP.go (fun T locs vm0 X e hZ ho t k => XS.iushr X.here hx rfl (hb hby hd) rfl k) H
theorem WP.ladd (K : Cx κ w l Z own n0 rm bytes maxL ret nm Q) {x y : Int64} (hd : decode bytes pc = .ok (.ladd, 1))  (hp : pc + 1 = pc') (H : WP κ h k n (mkF κ.m pc' L (.long (x + y) :: S))) : WP κ h k n (mkF κ.m pc L (.long y :: .long x :: S)) := by
  obtain ⟨hx, hby, -⟩ := K
  subst hp
  exact WP.go (fun T locs vm0 X e hZ ho t k => XS.ladd X.here hx rfl (hb hby hd) rfl k) H
theorem WP.lsub (K : Cx κ w l Z own n0 rm bytes maxL ret nm Q) {x y : Int64} (hd : decode bytes pc = .ok (.lsub, 1))  (hp : pc + 1 = pc') (H : WP κ h k n (mkF κ.m pc' L (.long (x - y) :: S))) : WP κ h k n (mkF κ.m pc L (.long y :: .long x :: S)) := by
  obtain ⟨hx, hby, -⟩ := K
  subst hp
  exact WP.go (fun T locs vm0 X e hZ ho t k => XS.lsub X.here hx rfl (hb hby hd) rfl k) H
theorem WP.lmul (K : Cx κ w l Z own n0 rm bytes maxL ret nm Q) {x y : Int64} (hd : decode bytes pc = .ok (.lmul, 1))  (hp : pc + 1 = pc') (H : WP κ h k n (mkF κ.m pc' L (.long (x * y) :: S))) : WP κ h k n (mkF κ.m pc L (.long y :: .long x :: S)) := by
  obtain ⟨hx, hby, -⟩ := K
  subst hp
  exact WP.go (fun T locs vm0 X e hZ ho t k => XS.lmul X.here hx rfl (hb hby hd) rfl k) H
theorem WP.land (K : Cx κ w l Z own n0 rm bytes maxL ret nm Q) {x y : Int64} (hd : decode bytes pc = .ok (.land, 1))  (hp : pc + 1 = pc') (H : WP κ h k n (mkF κ.m pc' L (.long (x &&& y) :: S))) : WP κ h k n (mkF κ.m pc L (.long y :: .long x :: S)) := by
  obtain ⟨hx, hby, -⟩ := K
  subst hp
  exact WP.go (fun T locs vm0 X e hZ ho t k => XS.land X.here hx rfl (hb hby hd) rfl k) H
theorem WP.lor (K : Cx κ w l Z own n0 rm bytes maxL ret nm Q) {x y : Int64} (hd : decode bytes pc = .ok (.lor, 1))  (hp : pc + 1 = pc') (H : WP κ h k n (mkF κ.m pc' L (.long (x ||| y) :: S))) : WP κ h k n (mkF κ.m pc L (.long y :: .long x :: S)) := by
  obtain ⟨hx, hby, -⟩ := K
  subst hp
  exact WP.go (fun T locs vm0 X e hZ ho t k => XS.lor X.here hx rfl (hb hby hd) rfl k) H
theorem WP.lxor (K : Cx κ w l Z own n0 rm bytes maxL ret nm Q) {x y : Int64} (hd : decode bytes pc = .ok (.lxor, 1))  (hp : pc + 1 = pc') (H : WP κ h k n (mkF κ.m pc' L (.long (x ^^^ y) :: S))) : WP κ h k n (mkF κ.m pc L (.long y :: .long x :: S)) := by
  obtain ⟨hx, hby, -⟩ := K
  subst hp
  exact WP.go (fun T locs vm0 X e hZ ho t k => XS.lxor X.here hx rfl (hb hby hd) rfl k) H
theorem WP.idiv (K : Cx κ w l Z own n0 rm bytes maxL ret nm Q) {x y : Int32} (hd : decode bytes pc = .ok (.idiv, 1)) (hy : y ≠ 0) (hp : pc + 1 = pc') (H : WP κ h k n (mkF κ.m pc' L (.int (x / y) :: S))) : WP κ h k n (mkF κ.m pc L (.int y :: .int x :: S)) := by
  obtain ⟨hx, hby, -⟩ := K
  subst hp
  exact WP.go (fun T locs vm0 X e hZ ho t k => XS.idiv X.here hx rfl (hb hby hd) rfl hy k) H
theorem WP.irem (K : Cx κ w l Z own n0 rm bytes maxL ret nm Q) {x y : Int32} (hd : decode bytes pc = .ok (.irem, 1)) (hy : y ≠ 0) (hp : pc + 1 = pc') (H : WP κ h k n (mkF κ.m pc' L (.int (x % y) :: S))) : WP κ h k n (mkF κ.m pc L (.int y :: .int x :: S)) := by
  obtain ⟨hx, hby, -⟩ := K
  subst hp
  exact WP.go (fun T locs vm0 X e hZ ho t k => iremM X hx rfl (hb hby hd) rfl hy k) H
theorem WP.ldiv (K : Cx κ w l Z own n0 rm bytes maxL ret nm Q) {x y : Int64} (hd : decode bytes pc = .ok (.ldiv, 1)) (hy : y ≠ 0) (hp : pc + 1 = pc') (H : WP κ h k n (mkF κ.m pc' L (.long (x / y) :: S))) : WP κ h k n (mkF κ.m pc L (.long y :: .long x :: S)) := by
  obtain ⟨hx, hby, -⟩ := K
  subst hp
  exact WP.go (fun T locs vm0 X e hZ ho t k => XT.ldiv X.here hx rfl (hb hby hd) rfl hy k) H
theorem WP.lrem (K : Cx κ w l Z own n0 rm bytes maxL ret nm Q) {x y : Int64} (hd : decode bytes pc = .ok (.lrem, 1)) (hy : y ≠ 0) (hp : pc + 1 = pc') (H : WP κ h k n (mkF κ.m pc' L (.long (x % y) :: S))) : WP κ h k n (mkF κ.m pc L (.long y :: .long x :: S)) := by
  obtain ⟨hx, hby, -⟩ := K
  subst hp
  exact WP.go (fun T locs vm0 X e hZ ho t k => XT.lrem X.here hx rfl (hb hby hd) rfl hy (by rw [lrem_mod]; exact k)) H
theorem WP.ineg (K : Cx κ w l Z own n0 rm bytes maxL ret nm Q) {x : Int32} (hd : decode bytes pc = .ok (.ineg, 1))  (hp : pc + 1 = pc') (H : WP κ h k n (mkF κ.m pc' L (.int (-x) :: S))) : WP κ h k n (mkF κ.m pc L (.int x :: S)) := by
  obtain ⟨hx, hby, -⟩ := K
  subst hp
  exact WP.go (fun T locs vm0 X e hZ ho t k => XS.ineg X.here hx rfl (hb hby hd) rfl k) H
theorem WP.lneg (K : Cx κ w l Z own n0 rm bytes maxL ret nm Q) {x : Int64} (hd : decode bytes pc = .ok (.lneg, 1))  (hp : pc + 1 = pc') (H : WP κ h k n (mkF κ.m pc' L (.long (-x) :: S))) : WP κ h k n (mkF κ.m pc L (.long x :: S)) := by
  obtain ⟨hx, hby, -⟩ := K
  subst hp
  exact WP.go (fun T locs vm0 X e hZ ho t k => XT.lneg X.here hx rfl (hb hby hd) rfl k) H
theorem WP.lshl (K : Cx κ w l Z own n0 rm bytes maxL ret nm Q) {x : Int64} {y : Int32} (hd : decode bytes pc = .ok (.lshl, 1))  (hp : pc + 1 = pc') (H : WP κ h k n (mkF κ.m pc' L (.long (x <<< (y &&& 0x3f).toInt64) :: S))) : WP κ h k n (mkF κ.m pc L (.int y :: .long x :: S)) := by
  obtain ⟨hx, hby, -⟩ := K
  subst hp
  exact WP.go (fun T locs vm0 X e hZ ho t k => XS.lshl X.here hx rfl (hb hby hd) rfl k) H
theorem WP.lshr (K : Cx κ w l Z own n0 rm bytes maxL ret nm Q) {x : Int64} {y : Int32} (hd : decode bytes pc = .ok (.lshr, 1))  (hp : pc + 1 = pc') (H : WP κ h k n (mkF κ.m pc' L (.long (x >>> (y &&& 0x3f).toInt64) :: S))) : WP κ h k n (mkF κ.m pc L (.int y :: .long x :: S)) := by
  obtain ⟨hx, hby, -⟩ := K
  subst hp
  exact WP.go (fun T locs vm0 X e hZ ho t k => XS.lshr X.here hx rfl (hb hby hd) rfl k) H
theorem WP.lushr (K : Cx κ w l Z own n0 rm bytes maxL ret nm Q) {x : Int64} {y : Int32} (hd : decode bytes pc = .ok (.lushr, 1))  (hp : pc + 1 = pc') (H : WP κ h k n (mkF κ.m pc' L (.long ((x.toUInt64 >>> (y &&& 0x3f).toInt64.toUInt64).toInt64) :: S))) : WP κ h k n (mkF κ.m pc L (.int y :: .long x :: S)) := by
  obtain ⟨hx, hby, -⟩ := K
  subst hp
  exact WP.go (fun T locs vm0 X e hZ ho t k => XS.lushr X.here hx rfl (hb hby hd) rfl k) H
theorem WP.i2l (K : Cx κ w l Z own n0 rm bytes maxL ret nm Q) {x : Int32} (hd : decode bytes pc = .ok (.i2l, 1))  (hp : pc + 1 = pc') (H : WP κ h k n (mkF κ.m pc' L (.long (x.toInt64) :: S))) : WP κ h k n (mkF κ.m pc L (.int x :: S)) := by
  obtain ⟨hx, hby, -⟩ := K
  subst hp
  exact WP.go (fun T locs vm0 X e hZ ho t k => XS.i2l X.here hx rfl (hb hby hd) rfl k) H
theorem WP.l2i (K : Cx κ w l Z own n0 rm bytes maxL ret nm Q) {x : Int64} (hd : decode bytes pc = .ok (.l2i, 1))  (hp : pc + 1 = pc') (H : WP κ h k n (mkF κ.m pc' L (.int (x.toInt32) :: S))) : WP κ h k n (mkF κ.m pc L (.long x :: S)) := by
  obtain ⟨hx, hby, -⟩ := K
  subst hp
  exact WP.go (fun T locs vm0 X e hZ ho t k => XS.l2i X.here hx rfl (hb hby hd) rfl k) H
theorem WP.i2b (K : Cx κ w l Z own n0 rm bytes maxL ret nm Q) {x : Int32} (hd : decode bytes pc = .ok (.i2b, 1))  (hp : pc + 1 = pc') (H : WP κ h k n (mkF κ.m pc' L (.int (x.toInt8.toInt32) :: S))) : WP κ h k n (mkF κ.m pc L (.int x :: S)) := by
  obtain ⟨hx, hby, -⟩ := K
  subst hp
  exact WP.go (fun T locs vm0 X e hZ ho t k => XS.i2b X.here hx rfl (hb hby hd) rfl k) H
theorem WP.i2c (K : Cx κ w l Z own n0 rm bytes maxL ret nm Q) {x : Int32} (hd : decode bytes pc = .ok (.i2c, 1))  (hp : pc + 1 = pc') (H : WP κ h k n (mkF κ.m pc' L (.int (x.toUInt32.toUInt16.toUInt32.toInt32) :: S))) : WP κ h k n (mkF κ.m pc L (.int x :: S)) := by
  obtain ⟨hx, hby, -⟩ := K
  subst hp
  exact WP.go (fun T locs vm0 X e hZ ho t k => XS.i2c X.here hx rfl (hb hby hd) rfl k) H
theorem WP.i2s (K : Cx κ w l Z own n0 rm bytes maxL ret nm Q) {x : Int32} (hd : decode bytes pc = .ok (.i2s, 1))  (hp : pc + 1 = pc') (H : WP κ h k n (mkF κ.m pc' L (.int (x.toInt16.toInt32) :: S))) : WP κ h k n (mkF κ.m pc L (.int x :: S)) := by
  obtain ⟨hx, hby, -⟩ := K
  subst hp
  exact WP.go (fun T locs vm0 X e hZ ho t k => XS.i2s X.here hx rfl (hb hby hd) rfl k) H
theorem WP.lcmp (K : Cx κ w l Z own n0 rm bytes maxL ret nm Q) {x y : Int64} (hd : decode bytes pc = .ok (.lcmp, 1))  (hp : pc + 1 = pc') (H : WP κ h k n (mkF κ.m pc' L (.int (lcmpW x y) :: S))) : WP κ h k n (mkF κ.m pc L (.long y :: .long x :: S)) := by
  obtain ⟨hx, hby, -⟩ := K
  subst hp
  exact WP.go (fun T locs vm0 X e hZ ho t k => XS.lcmp X.here hx rfl (hb hby hd) rfl k) H
theorem WP.iconst (K : Cx κ w l Z own n0 rm bytes maxL ret nm Q) {i : Int} {v : Int32} (hd : decode bytes pc = .ok (.iconst i, 1)) (hv : Int32.ofInt i = v) (hp : pc + 1 = pc') (H : WP κ h k n (mkF κ.m pc' L (.int v :: S))) : WP κ h k n (mkF κ.m pc L (S)) := by
  obtain ⟨hx, hby, -⟩ := K
  subst hp
  exact WP.go (fun T locs vm0 X e hZ ho t k => XT.iconstV X.here hx rfl v (hb hby hd) hv k) H
theorem WP.bipush (K : Cx κ w l Z own n0 rm bytes maxL ret nm Q) {i : Int} {v : Int32} (hd : decode bytes pc = .ok (.bipush i, 2)) (hv : (Int8.ofInt i).toInt32 = v) (hp : pc + 2 = pc') (H : WP κ h k n (mkF κ.m pc' L (.int v :: S))) : WP κ h k n (mkF κ.m pc L (S)) := by
  obtain ⟨hx, hby, -⟩ := K
  subst hp
  exact WP.go (fun T locs vm0 X e hZ ho t k => XT.bipushV X.here hx rfl v (hb hby hd) hv k) H
theorem WP.sipush (K : Cx κ w l Z own n0 rm bytes maxL ret nm Q) {i : Int} {v : Int32} (hd : decode bytes pc = .ok (.sipush i, 3)) (hv : (Int16.ofInt i).toInt32 = v) (hp : pc + 3 = pc') (H : WP κ h k n (mkF κ.m pc' L (.int v :: S))) : WP κ h k n (mkF κ.m pc L (S)) := by
  obtain ⟨hx, hby, -⟩ := K
  subst hp
  exact WP.go (fun T locs vm0 X e hZ ho t k => XT.sipushV X.here hx rfl v (hb hby hd) hv k) H
theorem WP.lconst (K : Cx κ w l Z own n0 rm bytes maxL ret nm Q) {i : Fin 2} {v : Int64} (hd : decode bytes pc = .ok (.lconst i, 1)) (hv : Int64.ofNat i = v) (hp : pc + 1 = pc') (H : WP κ h k n (mkF κ.m pc' L (.long v :: S))) : WP κ h k n (mkF κ.m pc L (S)) := by
  obtain ⟨hx, hby, -⟩ := K
  subst hp
  exact WP.go (fun T locs vm0 X e hZ ho t k => XT.lconstV X.here hx rfl v (hb hby hd) hv k) H
theorem WP.aconst_null (K : Cx κ w l Z own n0 rm bytes maxL ret nm Q)  (hd : decode bytes pc = .ok (.aconst_null, 1))  (hp : pc + 1 = pc') (H : WP κ h k n (mkF κ.m pc' L (.null :: S))) : WP κ h k n (mkF κ.m pc L (S)) := by
  obtain ⟨hx, hby, -⟩ := K
  subst hp
  exact WP.go (fun T locs vm0 X e hZ ho t k => XS.aconstNull X.here hx rfl (hb hby hd) k) H
theorem WP.iloadN (K : Cx κ w l Z own n0 rm bytes maxL ret nm Q) {j : Fin 4} {v : Int32} (hd : decode bytes pc = .ok (.iload_n j, 1)) (hl : L[j.val]? = some (.val (.int v))) (hp : pc + 1 = pc') (H : WP κ h k n (mkF κ.m pc' L (.int v :: S))) : WP κ h k n (mkF κ.m pc L (S)) := by
  obtain ⟨hx, hby, -⟩ := K
  subst hp
  exact WP.go (fun T locs vm0 X e hZ ho t k => XS.iloadN X.here hx rfl (hb hby hd) hl k) H
theorem WP.iload (K : Cx κ w l Z own n0 rm bytes maxL ret nm Q) {j : Nat} {v : Int32} (hd : decode bytes pc = .ok (.iload j, 2)) (hl : L[j]? = some (.val (.int v))) (hp : pc + 2 = pc') (H : WP κ h k n (mkF κ.m pc' L (.int v :: S))) : WP κ h k n (mkF κ.m pc L (S)) := by
  obtain ⟨hx, hby, -⟩ := K
  subst hp
  exact WP.go (fun T locs vm0 X e hZ ho t k => XS.iload X.here hx rfl (hb hby hd) hl k) H
theorem WP.lloadN (K : Cx κ w l Z own n0 rm bytes maxL ret nm Q) {j : Fin 4} {v : Int64} (hd : decode bytes pc = .ok (.lload_n j, 1)) (hl : L[j.val]? = some (.val (.long v))) (hp : pc + 1 = pc') (H : WP κ h k n (mkF κ.m pc' L (.long v :: S))) : WP κ h k n (mkF κ.m pc L (S)) := by
  obtain ⟨hx, hby, -⟩ := K
  subst hp
  exact WP.go (fun T locs vm0 X e hZ ho t k => XT.lloadN X.here hx rfl (hb hby hd) hl k) H
theorem WP.lload (K : Cx κ w l Z own n0 rm bytes maxL ret nm Q) {j : Nat} {v : Int64} (hd : decode bytes pc = .ok (.lload j, 2)) (hl : L[j]? = some (.val (.long v))) (hp : pc + 2 = pc') (H : WP κ h k n (mkF κ.m pc' L (.long v :: S))) : WP κ h k n (mkF κ.m pc L (S)) := by
  obtain ⟨hx, hby, -⟩ := K
  subst hp
  exact WP.go (fun T locs vm0 X e hZ ho t k => XT.lload X.here hx rfl (hb hby hd) hl k) H
theorem WP.aloadN (K : Cx κ w l Z own n0 rm bytes maxL ret nm Q) {j : Fin 4} {v : Value} (hd : decode bytes pc = .ok (.aload_n j, 1)) (hl : L[j.val]? = some (.val v)) (hv : v.isRef = true) (hp : pc + 1 = pc') (H : WP κ h k n (mkF κ.m pc' L (v :: S))) : WP κ h k n (mkF κ.m pc L (S)) := by
  obtain ⟨hx, hby, -⟩ := K
  subst hp
  exact WP.go (fun T locs vm0 X e hZ ho t k => XS.aloadN X.here hx rfl (hb hby hd) hl hv k) H
theorem WP.aload (K : Cx κ w l Z own n0 rm bytes maxL ret nm Q) {j : Nat} {v : Value} (hd : decode bytes pc = .ok (.aload j, 2)) (hl : L[j]? = some (.val v)) (hv : v.isRef = true) (hp : pc + 2 = pc') (H : WP κ h k n (mkF κ.m pc' L (v :: S))) : WP κ h k n (mkF κ.m pc L (S)) := by
  obtain ⟨hx, hby, -⟩ := K
  subst hp
  exact WP.go (fun T locs vm0 X e hZ ho t k => XS.aload X.here hx rfl (hb hby hd) hl hv k) H
theorem WP.dloadN (K : Cx κ w l Z own n0 rm bytes maxL ret nm Q) {j : Fin 4} {v : UInt64} (hd : decode bytes pc = .ok (.dload_n j, 1)) (hl : L[j.val]? = some (.val (.double v))) (hp : pc + 1 = pc') (H : WP κ h k n (mkF κ.m pc' L (.double v :: S))) : WP κ h k n (mkF κ.m pc L (S)) := by
  obtain ⟨hx, hby, -⟩ := K
  subst hp
  exact WP.go (fun T locs vm0 X e hZ ho t k => XT.dloadN X.here hx rfl (hb hby hd) hl k) H
theorem WP.dload (K : Cx κ w l Z own n0 rm bytes maxL ret nm Q) {j : Nat} {v : UInt64} (hd : decode bytes pc = .ok (.dload j, 2)) (hl : L[j]? = some (.val (.double v))) (hp : pc + 2 = pc') (H : WP κ h k n (mkF κ.m pc' L (.double v :: S))) : WP κ h k n (mkF κ.m pc L (S)) := by
  obtain ⟨hx, hby, -⟩ := K
  subst hp
  exact WP.go (fun T locs vm0 X e hZ ho t k => XT.dload X.here hx rfl (hb hby hd) hl k) H
theorem WP.dup (K : Cx κ w l Z own n0 rm bytes maxL ret nm Q) {x : Value} (hd : decode bytes pc = .ok (.dup, 1)) (hc : x.category = 1) (hp : pc + 1 = pc') (H : WP κ h k n (mkF κ.m pc' L (x :: x :: S))) : WP κ h k n (mkF κ.m pc L (x :: S)) := by
  obtain ⟨hx, hby, -⟩ := K
  subst hp
  exact WP.go (fun T locs vm0 X e hZ ho t k => XS.dup X.here hx rfl (hb hby hd) rfl hc k) H
theorem WP.pop (K : Cx κ w l Z own n0 rm bytes maxL ret nm Q) {x : Value} (hd : decode bytes pc = .ok (.pop, 1)) (hc : x.category = 1) (hp : pc + 1 = pc') (H : WP κ h k n (mkF κ.m pc' L (S))) : WP κ h k n (mkF κ.m pc L (x :: S)) := by
  obtain ⟨hx, hby, -⟩ := K
  subst hp
  exact WP.go (fun T locs vm0 X e hZ ho t k => XT.pop X.here hx rfl (hb hby hd) rfl hc k) H
theorem WP.dup_x1 (K : Cx κ w l Z own n0 rm bytes maxL ret nm Q) {x y : Value} (hd : decode bytes pc = .ok (.dup_x1, 1)) (hc : x.category = 1) (hc' : y.category = 1) (hp : pc + 1 = pc') (H : WP κ h k n (mkF κ.m pc' L (x :: y :: x :: S))) : WP κ h k n (mkF κ.m pc L (x :: y :: S)) := by
  obtain ⟨hx, hby, -⟩ := K
  subst hp
  exact WP.go (fun T locs vm0 X e hZ ho t k => XT.dupX1 X.here hx rfl (hb hby hd) rfl hc hc' k) H
theorem WP.dup2 (K : Cx κ w l Z own n0 rm bytes maxL ret nm Q) {x y : Value} (hd : decode bytes pc = .ok (.dup2, 1)) (hc : x.category = 1) (hc' : y.category = 1) (hp : pc + 1 = pc') (H : WP κ h k n (mkF κ.m pc' L (x :: y :: x :: y :: S))) : WP κ h k n (mkF κ.m pc L (x :: y :: S)) := by
  obtain ⟨hx, hby, -⟩ := K
  subst hp
  exact WP.go (fun T locs vm0 X e hZ ho t k => XT.dup2 X.here hx rfl (hb hby hd) rfl hc hc' k) H
theorem WP.dup2L (K : Cx κ w l Z own n0 rm bytes maxL ret nm Q) {x : Int64} (hd : decode bytes pc = .ok (.dup2, 1))  (hp : pc + 1 = pc') (H : WP κ h k n (mkF κ.m pc' L (.long x :: .long x :: S))) : WP κ h k n (mkF κ.m pc L (.long x :: S)) := by
  obtain ⟨hx, hby, -⟩ := K
  subst hp
  exact WP.go (fun T locs vm0 X e hZ ho t k => XT.dup2L X.here hx rfl (hb hby hd) rfl k) H
theorem WP.i2d (K : Cx κ w l Z own n0 rm bytes maxL ret nm Q) {x : Int32} (hd : decode bytes pc = .ok (.i2d, 1))  (hp : pc + 1 = pc') (H : WP κ h k n (mkF κ.m pc' L (.double (FP.i2d x) :: S))) : WP κ h k n (mkF κ.m pc L (.int x :: S)) := by
  obtain ⟨hx, hby, -⟩ := K
  subst hp
  exact WP.go (fun T locs vm0 X e hZ ho t k => Jvm.Free.XS.i2dS X.here hx rfl (hb hby hd) rfl rfl k) H
theorem WP.l2d (K : Cx κ w l Z own n0 rm bytes maxL ret nm Q) {x : Int64} (hd : decode bytes pc = .ok (.l2d, 1))  (hp : pc + 1 = pc') (H : WP κ h k n (mkF κ.m pc' L (.double (FP.l2d x) :: S))) : WP κ h k n (mkF κ.m pc L (.long x :: S)) := by
  obtain ⟨hx, hby, -⟩ := K
  subst hp
  exact WP.go (fun T locs vm0 X e hZ ho t k => Jvm.Free.XS.l2dS X.here hx rfl (hb hby hd) rfl rfl k) H
theorem WP.dcmp (K : Cx κ w l Z own n0 rm bytes maxL ret nm Q) {o : CmpOp} {x y : UInt64} (hd : decode bytes pc = .ok (.dcmp o, 1))  (hp : pc + 1 = pc') (H : WP κ h k n (mkF κ.m pc' L (.int (cmpValue (FP.dcmp x y) o) :: S))) : WP κ h k n (mkF κ.m pc L (.double y :: .double x :: S)) := by
  obtain ⟨hx, hby, -⟩ := K
  subst hp
  exact WP.go (fun T locs vm0 X e hZ ho t k => Jvm.Free.XS.dcmpS X.here hx rfl (hb hby hd) rfl rfl k) H
theorem WP.istoreN (K : Cx κ w l Z own n0 rm bytes maxL ret nm Q) {j : Fin 4} {x : Int32} (hd : decode bytes pc = .ok (.istore_n j, 1))  (hl : storeLocals L j.val (.int x) = some L') (hp : pc + 1 = pc') (H : WP κ h k n (mkF κ.m pc' L' S)) : WP κ h k n (mkF κ.m pc L ((.int x) :: S)) := by
  obtain ⟨hx, hby, -⟩ := K
  subst hp
  exact WP.go (fun T locs vm0 X e hZ ho t k => XS.istoreN X.here hx rfl (hb hby hd) rfl hl k) H
theorem WP.istore (K : Cx κ w l Z own n0 rm bytes maxL ret nm Q) {j : Nat} {x : Int32} (hd : decode bytes pc = .ok (.istore j, 2))  (hl : storeLocals L j (.int x) = some L') (hp : pc + 2 = pc') (H : WP κ h k n (mkF κ.m pc' L' S)) : WP κ h k n (mkF κ.m pc L ((.int x) :: S)) := by
  obtain ⟨hx, hby, -⟩ := K
  subst hp
  exact WP.go (fun T locs vm0 X e hZ ho t k => XS.istore X.here hx rfl (hb hby hd) rfl hl k) H
theorem WP.lstoreN (K : Cx κ w l Z own n0 rm bytes maxL ret nm Q) {j : Fin 4} {x : Int64} (hd : decode bytes pc = .ok (.lstore_n j, 1))  (hl : storeLocals L j.val (.long x) = some L') (hp : pc + 1 = pc') (H : WP κ h k n (mkF κ.m pc' L' S)) : WP κ h k n (mkF κ.m pc L ((.long x) :: S)) := by
  obtain ⟨hx, hby, -⟩ := K
  subst hp
  exact WP.go (fun T locs vm0 X e hZ ho t k => XT.lstoreN X.here hx rfl (hb hby hd) rfl hl k) H
theorem WP.lstore (K : Cx κ w l Z own n0 rm bytes maxL ret nm Q) {j : Nat} {x : Int64} (hd : decode bytes pc = .ok (.lstore j, 2))  (hl : storeLocals L j (.long x) = some L') (hp : pc + 2 = pc') (H : WP κ h k n (mkF κ.m pc' L' S)) : WP κ h k n (mkF κ.m pc L ((.long x) :: S)) := by
  obtain ⟨hx, hby, -⟩ := K
  subst hp
  exact WP.go (fun T locs vm0 X e hZ ho t k => XT.lstore X.here hx rfl (hb hby hd) rfl hl k) H
theorem WP.astoreN (K : Cx κ w l Z own n0 rm bytes maxL ret nm Q) {j : Fin 4} {x : Value} (hd : decode bytes pc = .ok (.astore_n j, 1)) (hv : x.isRef = true) (hl : storeLocals L j.val x = some L') (hp : pc + 1 = pc') (H : WP κ h k n (mkF κ.m pc' L' S)) : WP κ h k n (mkF κ.m pc L (x :: S)) := by
  obtain ⟨hx, hby, -⟩ := K
  subst hp
  exact WP.go (fun T locs vm0 X e hZ ho t k => XS.astoreN X.here hx rfl (hb hby hd) rfl hv hl k) H
theorem WP.astore (K : Cx κ w l Z own n0 rm bytes maxL ret nm Q) {j : Nat} {x : Value} (hd : decode bytes pc = .ok (.astore j, 2)) (hv : x.isRef = true) (hl : storeLocals L j x = some L') (hp : pc + 2 = pc') (H : WP κ h k n (mkF κ.m pc' L' S)) : WP κ h k n (mkF κ.m pc L (x :: S)) := by
  obtain ⟨hx, hby, -⟩ := K
  subst hp
  exact WP.go (fun T locs vm0 X e hZ ho t k => XS.astore X.here hx rfl (hb hby hd) rfl hv hl k) H
theorem WP.dstoreN (K : Cx κ w l Z own n0 rm bytes maxL ret nm Q) {j : Fin 4} {x : UInt64} (hd : decode bytes pc = .ok (.dstore_n j, 1))  (hl : storeLocals L j.val (.double x) = some L') (hp : pc + 1 = pc') (H : WP κ h k n (mkF κ.m pc' L' S)) : WP κ h k n (mkF κ.m pc L ((.double x) :: S)) := by
  obtain ⟨hx, hby, -⟩ := K
  subst hp
  exact WP.go (fun T locs vm0 X e hZ ho t k => Jvm.Free.XS.dstoreN X.here hx rfl (hb hby hd) rfl hl k) H
theorem WP.dstore (K : Cx κ w l Z own n0 rm bytes maxL ret nm Q) {j : Nat} {x : UInt64} (hd : decode bytes pc = .ok (.dstore j, 2))  (hl : storeLocals L j (.double x) = some L') (hp : pc + 2 = pc') (H : WP κ h k n (mkF κ.m pc' L' S)) : WP κ h k n (mkF κ.m pc L ((.double x) :: S)) := by
  obtain ⟨hx, hby, -⟩ := K
  subst hp
  exact WP.go (fun T locs vm0 X e hZ ho t k => Jvm.Free.XS.dstore X.here hx rfl (hb hby hd) rfl hl k) H
theorem WP.iinc (K : Cx κ w l Z own n0 rm bytes maxL ret nm Q) {j : Nat} {cst : Int} {x v : Int32} (hd : decode bytes pc = .ok (.iinc j cst, 3)) (hv : Int32.ofInt cst = v) (hl : L[j]? = some (.val (.int x))) (hl' : storeLocals L j (.int (x + v)) = some L') (hp : pc + 3 = pc') (H : WP κ h k n (mkF κ.m pc' L' S)) : WP κ h k n (mkF κ.m pc L S) := by
  obtain ⟨hx, hby, -⟩ := K
  subst hp
  exact WP.go (fun T locs vm0 X e hZ ho t k => XT.iincV X.here hx rfl v (hb hby hd) hv hl hl' k) H
theorem WP.goto (K : Cx κ w l Z own n0 rm bytes maxL ret nm Q) {o : Int} (hd : decode bytes pc = .ok (.goto o, 3)) (ho : 0 ≤ (pc : Int) + o) (hp : ((pc : Int) + o).toNat = pc') (H : WP κ h k n (mkF κ.m pc' L S)) : WP κ h k n (mkF κ.m pc L S) := by
  obtain ⟨hx, hby, -⟩ := K
  exact WP.go (fun T locs vm0 X e hZ ho' t k => XS.goto X.here hx rfl rfl (hb hby hd) ho hp k) H
theorem WP.if0T (K : Cx κ w l Z own n0 rm bytes maxL ret nm Q) {cd : ClassFile.Cond} {x : Int32} {o : Int} (hd : decode bytes pc = .ok (.ifCond cd o, 3)) (hc : ifCond.holds cd x = true) (ho : 0 ≤ (pc : Int) + o) (hp : ((pc : Int) + o).toNat = pc') (H : WP κ h k n (mkF κ.m pc' L S)) : WP κ h k n (mkF κ.m pc L (.int x :: S)) := by
  obtain ⟨hx, hby, -⟩ := K
  exact WP.go (fun T locs vm0 X e hZ ho' t k => XS.ifYes X.here hx rfl rfl (hb hby hd) rfl hc ho hp k) H
theorem WP.if0F (K : Cx κ w l Z own n0 rm bytes maxL ret nm Q) {cd : ClassFile.Cond} {x : Int32} {o : Int} (hd : decode bytes pc = .ok (.ifCond cd o, 3)) (hc : ifCond.holds cd x = false) (hp : pc + 3 = pc') (H : WP κ h k n (mkF κ.m pc' L S)) : WP κ h k n (mkF κ.m pc L (.int x :: S)) := by
  obtain ⟨hx, hby, -⟩ := K
  subst hp
  exact WP.go (fun T locs vm0 X e hZ ho' t k => XS.ifNo X.here hx rfl (hb hby hd) rfl hc k) H
theorem WP.icmpT (K : Cx κ w l Z own n0 rm bytes maxL ret nm Q) {cd : ClassFile.Cond} {x y : Int32} {o : Int} (hd : decode bytes pc = .ok (.if_icmp cd o, 3)) (hc : if_icmp.holds cd x y = true) (ho : 0 ≤ (pc : Int) + o) (hp : ((pc : Int) + o).toNat = pc') (H : WP κ h k n (mkF κ.m pc' L S)) : WP κ h k n (mkF κ.m pc L (.int y :: .int x :: S)) := by
  obtain ⟨hx, hby, -⟩ := K
  exact WP.go (fun T locs vm0 X e hZ ho' t k => XS.icmpYes X.here hx rfl rfl (hb hby hd) rfl hc ho hp k) H
theorem WP.icmpF (K : Cx κ w l Z own n0 rm bytes maxL ret nm Q) {cd : ClassFile.Cond} {x y : Int32} {o : Int} (hd : decode bytes pc = .ok (.if_icmp cd o, 3)) (hc : if_icmp.holds cd x y = false) (hp : pc + 3 = pc') (H : WP κ h k n (mkF κ.m pc' L S)) : WP κ h k n (mkF κ.m pc L (.int y :: .int x :: S)) := by
  obtain ⟨hx, hby, -⟩ := K
  subst hp
  exact WP.go (fun T locs vm0 X e hZ ho' t k => XS.icmpNo X.here hx rfl (hb hby hd) rfl hc k) H
theorem WP.acmpT (K : Cx κ w l Z own n0 rm bytes maxL ret nm Q) {cd : ClassFile.ACond} {x y : Value} {o : Int} (hd : decode bytes pc = .ok (.if_acmp cd o, 3)) (h1 : x.isRef = true) (h2 : y.isRef = true) (hc : XT.acmp cd x y = true) (ho : 0 ≤ (pc : Int) + o) (hp : ((pc : Int) + o).toNat = pc') (H : WP κ h k n (mkF κ.m pc' L S)) : WP κ h k n (mkF κ.m pc L (y :: x :: S)) := by
  obtain ⟨hx, hby, -⟩ := K
  exact WP.go (fun T locs vm0 X e hZ ho' t k => XT.acmpYes X.here hx rfl rfl (hb hby hd) rfl h1 h2 hc ho hp k) H
theorem WP.acmpF (K : Cx κ w l Z own n0 rm bytes maxL ret nm Q) {cd : ClassFile.ACond} {x y : Value} {o : Int} (hd : decode bytes pc = .ok (.if_acmp cd o, 3)) (h1 : x.isRef = true) (h2 : y.isRef = true) (hc : XT.acmp cd x y = false) (hp : pc + 3 = pc') (H : WP κ h k n (mkF κ.m pc' L S)) : WP κ h k n (mkF κ.m pc L (y :: x :: S)) := by
  obtain ⟨hx, hby, -⟩ := K
  subst hp
  exact WP.go (fun T locs vm0 X e hZ ho' t k => XT.acmpNo X.here hx rfl (hb hby hd) rfl h1 h2 hc k) H
theorem WP.ifnullT (K : Cx κ w l Z own n0 rm bytes maxL ret nm Q) {o : Int} {b : Addr} (hd : decode bytes pc = .ok (.ifnull o, 3)) (ho : 0 ≤ (pc : Int) + o) (hp : ((pc : Int) + o).toNat = pc') (H : WP κ h k n (mkF κ.m pc' L S)) : WP κ h k n (mkF κ.m pc L (.null :: S)) := by
  obtain ⟨hx, hby, -⟩ := K
  exact WP.go (fun T locs vm0 X e hZ ho' t k => XS.ifnullYes X.here hx rfl rfl (hb hby hd) rfl ho hp k) H
theorem WP.ifnullF (K : Cx κ w l Z own n0 rm bytes maxL ret nm Q) {o : Int} {b : Addr} (hd : decode bytes pc = .ok (.ifnull o, 3)) (hp : pc + 3 = pc') (H : WP κ h k n (mkF κ.m pc' L S)) : WP κ h k n (mkF κ.m pc L (.ref b :: S)) := by
  obtain ⟨hx, hby, -⟩ := K
  subst hp
  exact WP.go (fun T locs vm0 X e hZ ho' t k => XS.ifnullNo X.here hx rfl (hb hby hd) rfl k) H
theorem WP.ifnonnullT (K : Cx κ w l Z own n0 rm bytes maxL ret nm Q) {o : Int} {b : Addr} (hd : decode bytes pc = .ok (.ifnonnull o, 3)) (ho : 0 ≤ (pc : Int) + o) (hp : ((pc : Int) + o).toNat = pc') (H : WP κ h k n (mkF κ.m pc' L S)) : WP κ h k n (mkF κ.m pc L (.ref b :: S)) := by
  obtain ⟨hx, hby, -⟩ := K
  exact WP.go (fun T locs vm0 X e hZ ho' t k => XT.ifnonnullYes X.here hx rfl rfl (hb hby hd) rfl ho hp k) H
theorem WP.ifnonnullF (K : Cx κ w l Z own n0 rm bytes maxL ret nm Q) {o : Int} {b : Addr} (hd : decode bytes pc = .ok (.ifnonnull o, 3)) (hp : pc + 3 = pc') (H : WP κ h k n (mkF κ.m pc' L S)) : WP κ h k n (mkF κ.m pc L (.null :: S)) := by
  obtain ⟨hx, hby, -⟩ := K
  subst hp
  exact WP.go (fun T locs vm0 X e hZ ho' t k => XT.ifnonnullNo X.here hx rfl (hb hby hd) rfl k) H
theorem WP.ldcI (K : Cx κ w l Z own n0 rm bytes maxL ret nm Q) {i : Nat} {v : Int32} (wc : (Cond.constant own i v).before a0 Z = true) (hd : decode bytes pc = .ok (.ldc i, 2)) (hp : pc + 2 = pc') (H : WP κ h k n (mkF κ.m pc' L (.int v :: S))) : WP κ h k n (mkF κ.m pc L S) := by
  obtain ⟨hx, hby, -, -, -, -, -, -, rfl, rfl, -⟩ := K
  subst hp
  exact WP.go (fun T locs vm0 X e hZ ho t k => X.ldcInt hx (own := κ.own) ho (mvT (args := κ.a) (s := κ.s.setVm vm0) hZ wc) (g := mkF κ.m pc L S) rfl (hb hby hd) t k) H
theorem WP.ldcwI (K : Cx κ w l Z own n0 rm bytes maxL ret nm Q) {i : Nat} {v : Int32} (wc : (Cond.constant own i v).before a0 Z = true) (hd : decode bytes pc = .ok (.ldc_w i, 3)) (hp : pc + 3 = pc') (H : WP κ h k n (mkF κ.m pc' L (.int v :: S))) : WP κ h k n (mkF κ.m pc L S) := by
  obtain ⟨hx, hby, -, -, -, -, -, -, rfl, rfl, -⟩ := K
  subst hp
  exact WP.go (fun T locs vm0 X e hZ ho t k => X.ldcwInt hx (own := κ.own) ho (mvT (args := κ.a) (s := κ.s.setVm vm0) hZ wc) (g := mkF κ.m pc L S) rfl (hb hby hd) t k) H
theorem WP.ldc2J (K : Cx κ w l Z own n0 rm bytes maxL ret nm Q) {i : Nat} {v : Int64} (wc : (Cond.constantLong own i v).before a0 Z = true) (hd : decode bytes pc = .ok (.ldc2_w i, 3)) (hp : pc + 3 = pc') (H : WP κ h k n (mkF κ.m pc' L (.long v :: S))) : WP κ h k n (mkF κ.m pc L S) := by
  obtain ⟨hx, hby, -, -, -, -, -, -, rfl, rfl, -⟩ := K
  subst hp
  exact WP.go (fun T locs vm0 X e hZ ho t k => X.ldc2Long hx (own := κ.own) ho (mvT (args := κ.a) (s := κ.s.setVm vm0) hZ wc) (g := mkF κ.m pc L S) rfl (hb hby hd) t k) H
theorem Ends.of {T : State} {locs : List Loc} {vm0 : Vm} {v : Option Value} {g : JFrame} (X : Stand κ.p κ.l κ.e κ.R (κ.s.setVm vm0) κ.m κ.a κ.below κ.meth κ.c T locs k n) (M : Md κ.w κ.s vm0 T.heap.size) (N : Fr κ.n0 locs) (hv : κ.meth.sig.returnType = none → v = none) (hlk : κ.meth.locks = false) (hk : k ≤ κ.R.cells) (hn : n ≤ κ.R.slots) (hq : κ.Q v T.heap)
    (st : ∀ fs, (∀ (f : JFrame) (acts : List Action), f.method = κ.m → f.locked = none → f.entered = [] → (doReturn κ.e (T.setTop f) acts v).1 = T.setFrames fs) → Steps κ.p.tables κ.e κ.below (T.setTop g) (T.setFrames fs)) : Ends κ T g := by
  obtain ⟨k0, hS, hk0⟩ := M.2
  by_cases hw : κ.w = true
  · obtain ⟨fs, h1, h2, h3, h4⟩ := (X.mono hk hn).leaveW hS hk0 hv hlk
    exact ⟨_, _, st fs h1, h2, h3, v, locs, rfl, ⟨hq, N⟩, by rw [hw]; exact h4⟩
  · have hw' : κ.w = false := by simpa using hw
    have e := M.1 hw'
    subst e
    obtain ⟨fs, h1, h2, h3, h4, h5⟩ := (X.mono hk hn).leave hv hlk
    exact ⟨_, _, st fs h1, h2, h3, v, locs, rfl, ⟨hq, N⟩, by rw [hw']; exact ⟨⟨v, rfl⟩, h4, h5⟩⟩
theorem WP.ret0 (K : Cx κ w l Z own n0 rm bytes maxL none nm Q) (hd : decode bytes pc = .ok (.return_, 1)) (hk : k ≤ rm.cells) (hn : n ≤ rm.slots) (hq : Q none h) : WP κ h k n (mkF κ.m pc L ([])) := by
  obtain ⟨hx, hby, -, hr, hlk, -, -, -, rfl, rfl, rfl, rfl, rfl⟩ := K
  intro T locs vm0 X e M hZ ho N
  subst e
  exact Ends.of X M N (fun _ => rfl) hlk hk hn hq fun fs hl => X.returnOut hx hr (hb hby hd) hl
theorem WP.retI (K : Cx κ w l Z own n0 rm bytes maxL (some .int) nm Q) {z : Int32} (hd : decode bytes pc = .ok (.ireturn, 1)) (hk : k ≤ rm.cells) (hn : n ≤ rm.slots) (hq : Q (some (.int z)) h) : WP κ h k n (mkF κ.m pc L (.int z :: S)) := by
  obtain ⟨hx, hby, -, hr, hlk, -, -, -, rfl, rfl, rfl, rfl, rfl⟩ := K
  intro T locs vm0 X e M hZ ho N
  subst e
  exact Ends.of X M N (fun q => by rw [hr] at q; cases q) hlk hk hn hq fun fs hl => retOut X hx hr rfl (Or.inl ⟨rfl, Or.inl rfl, z, rfl⟩) (hb hby hd) hl
theorem WP.retJ (K : Cx κ w l Z own n0 rm bytes maxL (some .long) nm Q) {z : Int64} (hd : decode bytes pc = .ok (.lreturn, 1)) (hk : k ≤ rm.cells) (hn : n ≤ rm.slots) (hq : Q (some (.long z)) h) : WP κ h k n (mkF κ.m pc L (.long z :: S)) := by
  obtain ⟨hx, hby, -, hr, hlk, -, -, -, rfl, rfl, rfl, rfl, rfl⟩ := K
  intro T locs vm0 X e M hZ ho N
  subst e
  exact Ends.of X M N (fun q => by rw [hr] at q; cases q) hlk hk hn hq fun fs hl => retOut X hx hr rfl (Or.inr (Or.inl ⟨rfl, rfl, z, rfl⟩)) (hb hby hd) hl
theorem WP.retD (K : Cx κ w l Z own n0 rm bytes maxL (some .double) nm Q) {z : UInt64} (hd : decode bytes pc = .ok (.dreturn, 1)) (hk : k ≤ rm.cells) (hn : n ≤ rm.slots) (hq : Q (some (.double z)) h) : WP κ h k n (mkF κ.m pc L (.double z :: S)) := by
  obtain ⟨hx, hby, -, hr, hlk, -, -, -, rfl, rfl, rfl, rfl, rfl⟩ := K
  intro T locs vm0 X e M hZ ho N
  subst e
  exact Ends.of X M N (fun q => by rw [hr] at q; cases q) hlk hk hn hq fun fs hl => retOut X hx hr rfl (Or.inr (Or.inr (Or.inl ⟨rfl, rfl, z, rfl⟩))) (hb hby hd) hl
theorem WP.retR {ty : FieldType} (K : Cx κ w l Z own n0 rm bytes maxL (some ty) nm Q) {v : Value} (ht : ty.isReference = true) (hv : v.isRef = true) (hd : decode bytes pc = .ok (.areturn, 1)) (hk : k ≤ rm.cells) (hn : n ≤ rm.slots) (hq : Q (some v) h) : WP κ h k n (mkF κ.m pc L (v :: S)) := by
  obtain ⟨hx, hby, -, hr, hlk, -, -, -, rfl, rfl, rfl, rfl, rfl⟩ := K
  intro T locs vm0 X e M hZ ho N
  subst e
  exact Ends.of X M N (fun q => by rw [hr] at q; cases q) hlk hk hn hq fun fs hl => retOut X hx hr (by cases ty <;> first | rfl | (cases ht) | (rcases ref_cases hv with rfl | ⟨_, rfl⟩ <;> rfl)) (Or.inr (Or.inr (Or.inr (Or.inr ⟨rfl, ht, hv⟩)))) (hb hby hd) hl
theorem WP.retN {ty : FieldType} (K : Cx κ w l Z own n0 rm bytes maxL (some ty) nm Q) {z : Int32} (ht : ty = .boolean ∨ ty = .byte ∨ ty = .char ∨ ty = .short) (hd : decode bytes pc = .ok (.ireturn, 1)) (hk : k ≤ rm.cells) (hn : n ≤ rm.slots) (hq : Q (some (.int (nar ty z))) h) : WP κ h k n (mkF κ.m pc L (.int z :: S)) := by
  obtain ⟨hx, hby, -, hr, hlk, -, -, -, rfl, rfl, rfl, rfl, rfl⟩ := K
  intro T locs vm0 X e M hZ ho N
  subst e
  exact Ends.of X M N (fun q => by rw [hr] at q; cases q) hlk hk hn hq fun fs hl => RoadKit.retN X hx hr ht (hb hby hd) hl
theorem WP.getF (K : Cx κ w l Z own n0 rm bytes maxL ret nm Q) {i : Nat} {R0 O f d : String} {a : Addr} {v : Value} (wl : (Cond.fieldLink own i R0 f d).before a0 Z = true) (via : Via Z R0 O f d) (F : Fld Z h a O f d v) (hd : decode bytes pc = .ok (.getfield i, 3)) (hp : pc + 3 = pc') (H : WP κ h k n (mkF κ.m pc' L (v :: S))) : WP κ h k n (mkF κ.m pc L (.ref a :: S)) := by
  obtain ⟨hx, hby, -, -, -, hnm, -, -, rfl, rfl, rfl, rfl, -⟩ := K
  subst hp
  intro T locs vm0 X e M hZ ho N
  obtain ⟨T', X', e', st⟩ := RoadKit.getF X hx (s := κ.s.setVm vm0) hZ ho (host := "") (Or.inl wl) via e F (g := mkF κ.m pc L (.ref a :: S)) rfl rfl (hb hby hd)
  obtain ⟨t, o, h1, r⟩ := H T' locs vm0 X' e' M hZ ho N
  exact ⟨t, o, st _ h1, r⟩
theorem WP.getS (K : Cx κ w l Z own n0 rm bytes maxL ret nm Q) {i : Nat} {R0 O f d : String} {v : Value} (wl : (Cond.fieldLink own i R0 f d).before a0 Z = true) (via : Via Z R0 O f d) (F : Sta Z h O f d v) (hd : decode bytes pc = .ok (.getstatic i, 3)) (hp : pc + 3 = pc') (H : WP κ h k n (mkF κ.m pc' L (v :: S))) : WP κ h k n (mkF κ.m pc L S) := by
  obtain ⟨hx, hby, -, -, -, hnm, -, -, rfl, rfl, rfl, rfl, -⟩ := K
  subst hp
  intro T locs vm0 X e M hZ ho N
  obtain ⟨T', X', e', st⟩ := RoadKit.getS (host := "") X hx (s := κ.s.setVm vm0) hZ ho wl via e F (g := mkF κ.m pc L S) rfl (hb hby hd)
  obtain ⟨t, o, h1, r⟩ := H T' locs vm0 X' e' M hZ ho N
  exact ⟨t, o, st _ h1, r⟩
theorem WP.putF (K : Cx κ w l Z own n0 rm bytes maxL ret nm Q) {i kk : Nat} {R0 O f d C : String} {ty : FieldType} {a : Addr} {v old : Value} (wl : (Cond.fieldLink own i R0 f d).before a0 Z = true) (via : Via Z R0 O f d) (F : Fld Z h a O f d old) (E : Exa Z h a C) (la : (Cond.lays C O f d).before a0 Z = true ∨ ((Cond.laysFinal C O f d).before a0 Z = true ∧ own = O ∧ nm = "<init>")) (wi : (Cond.instantiable C kk).before a0 Z = true)
    (hty : parseFieldDescriptor d = some ty) (hn1 : narrow ty v = v) (hf : fits ty v = true) (ha : n0 ≤ a) (hd : decode bytes pc = .ok (.putfield i, 3)) (hp : pc + 3 = pc') (H : ∀ h', Wr h h' a (Jvm.RoadKit.slotOf Z O f d) v → WP κ h' k n (mkF κ.m pc' L S)) : WP κ h k n (mkF κ.m pc L (v :: .ref a :: S)) := by
  obtain ⟨hx, hby, -, -, -, hnm, -, -, rfl, rfl, rfl, rfl, -⟩ := K
  subst hp
  intro T locs vm0 X e M hZ ho N
  obtain ⟨T', h', X', e', W, st⟩ := RoadKit.putF X hx (s := κ.s.setVm vm0) hZ ho (host := "") (Or.inl wl) via e F E (la.imp id fun q => ⟨q.1, q.2.1, hnm.trans q.2.2⟩) wi hty hn1 hf (g := mkF κ.m pc L (v :: .ref a :: S)) rfl rfl (hb hby hd)
  obtain ⟨t, o, h1, r⟩ := H h' W T' _ vm0 X' e' (M.mono (Nat.le_of_eq W.size.symm)) hZ ho (Fr.snoc X' N ha)
  exact ⟨t, o, st _ h1, r⟩
theorem WP.putFN (K : Cx κ w l Z own n0 rm bytes maxL ret nm Q) {i kk : Nat} {R0 O f d C : String} {ty : FieldType} {a : Addr} {v v' old : Value} (wl : (Cond.fieldLink own i R0 f d).before a0 Z = true) (via : Via Z R0 O f d) (F : Fld Z h a O f d old) (E : Exa Z h a C) (la : (Cond.lays C O f d).before a0 Z = true ∨ ((Cond.laysFinal C O f d).before a0 Z = true ∧ own = O ∧ nm = "<init>")) (wi : (Cond.instantiable C kk).before a0 Z = true)
    (hty : parseFieldDescriptor d = some ty) (hn1 : narrow ty v = v') (hf : fits ty v' = true) (ha : n0 ≤ a) (hd : decode bytes pc = .ok (.putfield i, 3)) (hp : pc + 3 = pc') (H : ∀ h', Wr h h' a (Jvm.RoadKit.slotOf Z O f d) v' → WP κ h' k n (mkF κ.m pc' L S)) : WP κ h k n (mkF κ.m pc L (v :: .ref a :: S)) := by
  obtain ⟨hx, hby, -, -, -, hnm, -, -, rfl, rfl, rfl, rfl, -⟩ := K
  subst hp
  intro T locs vm0 X e M hZ ho N
  obtain ⟨T', h', X', e', W, st⟩ := RoadKit.putFN X hx (s := κ.s.setVm vm0) hZ ho wl via e F E (la.imp id fun q => ⟨q.1, q.2.1, hnm.trans q.2.2⟩) wi hty hn1 hf (g := mkF κ.m pc L (v :: .ref a :: S)) rfl rfl (hb hby hd)
  obtain ⟨t, o, h1, r⟩ := H h' W T' _ vm0 X' e' (M.mono (Nat.le_of_eq W.size.symm)) hZ ho (Fr.snoc X' N ha)
  exact ⟨t, o, st _ h1, r⟩
theorem WP.new (K : Cx κ w l Z own n0 rm bytes maxL ret nm Q) {i sl : Nat} {C : String} (w1 : (Cond.classLink own i C).before a0 Z = true) (w2 : (Cond.instantiable C sl).before a0 Z = true) (w3 : (Cond.initialized C).before a0 Z = true) (hd : decode bytes pc = .ok (.new i, 3)) (hk : k + 1 = k') (hn : n + sl = n') (hk' : k' ≤ rm.cells) (hn' : n' ≤ rm.slots) (hp : pc + 3 = pc')
    (H : ∀ (h' : Heap) (a : Addr), @Eq Nat h.size a → Ext h h' → Exa Z h' a C → (∀ {O f d : String} {ty : FieldType}, Laid Z a0 C O f d → parseFieldDescriptor d = some ty → Fld Z h' a O f d (defaultValue ty)) → WP κ h' k' n' (mkF κ.m pc' L (.ref a :: S))) : WP κ h k n (mkF κ.m pc L S) := by
  obtain ⟨hx, hby, -, -, -, hnm, -, -, rfl, rfl, rfl, rfl, -⟩ := K
  subst hp hk hn
  intro T locs vm0 X e M hZ ho N
  obtain ⟨T', h', X', e', E, A, D, -, st⟩ := newO X hx (s := κ.s.setVm vm0) hZ ho w1 w2 w3 e (g := mkF κ.m pc L S) rfl (hb hby hd) hk' hn'
  obtain ⟨t, o, h1, r⟩ := H h' _ rfl E A D T' _ vm0 X' e' (M.mono E.1) hZ ho N
  exact ⟨t, o, st _ h1, r⟩
theorem WP.initO (K : Cx κ w l Z own n0 rm bytes maxL ret nm Q) {i W : Nat} {a : Addr} (w1 : (Cond.methodLink own i Lib.objectInit).before a0 Z = true) (w2 : (Cond.instanceMethod Lib.objectInit).before a0 Z = true) (w3 : (Cond.code Lib.objectInit ⟨#[0xb1]⟩ 1 none).before a0 Z = true) (hd : decode bytes pc = .ok (.invokespecial i, 3)) (hL : L.size = maxL) (hf : 1 ≤ rm.frames) (hW : (S.map fun v => v.category).sum = W) (hl : W + 12 ≤ rm.locals) (hp : pc + 3 = pc')
    (H : WP κ h k n (mkF κ.m pc' L S)) : WP κ h k n (mkF κ.m pc L (.ref a :: S)) := by
  obtain ⟨hx, hby, hml, -, -, -, -, -, rfl, rfl, rfl, rfl, -⟩ := K
  subst hp
  intro T locs vm0 X e M hZ ho N
  obtain ⟨T', X', e', st⟩ := RoadKit.initO X hx (s := κ.s.setVm vm0) hZ ho w1 w2 w3 e (g := mkF κ.m pc L (.ref a :: S)) rfl (hL.trans hml.symm) rfl (hb hby hd) hf (W := W) (by show 2 * 0 + _ ≤ _; omega) hl
  obtain ⟨t, o, h1, r⟩ := H T' locs vm0 X' e' M hZ ho N
  exact ⟨t, o, st _ h1, r⟩
/-- an array: its class, its kind of component, its length, its components -/
def Ary (Z : State) (h : Heap) (a : Addr) (kA : ClassId) (ty : FieldType) (N : Nat) (f : Nat → Value) : Prop := ∃ c : Cell, Arr Z h a c ty ∧ c.cls = kA ∧ c.slots.size = N ∧ N < 2 ^ 31 ∧ (∀ i, i < N → c.slots[i]? = some (f i)) ∧ ∀ i, i < N → fits ty (f i) = true
def upd (f : Nat → Value) (i : Nat) (v : Value) : Nat → Value := fun j => if j = i then v else f j
theorem upd_same (f : Nat → Value) (i : Nat) (v : Value) : upd f i v i = v := if_pos rfl
theorem upd_ne (f : Nat → Value) {i j : Nat} (v : Value) (q : j ≠ i) : upd f i v j = f j := if_neg q
def fset {α : Type} (f : Nat → α) (i : Nat) (v : α) : Nat → α := fun j => if j = i then v else f j
theorem fset_same {α : Type} (f : Nat → α) (i : Nat) (v : α) : fset f i v i = v := if_pos rfl
theorem fset_ne {α : Type} (f : Nat → α) {i j : Nat} (v : α) (q : j ≠ i) : fset f i v j = f j := if_neg q
theorem upd_int (F : Nat → Int32) (i : Nat) (v : Int32) : upd (fun j => .int (F j)) i (.int v) = fun j => .int (fset F i v j) := by funext j; unfold upd fset; split <;> rfl
theorem upd_long (F : Nat → Int64) (i : Nat) (v : Int64) : upd (fun j => .long (F j)) i (.long v) = fun j => .long (fset F i v j) := by funext j; unfold upd fset; split <;> rfl
theorem upd_double (F : Nat → UInt64) (i : Nat) (v : UInt64) : upd (fun j => .double (F j)) i (.double v) = fun j => .double (fset F i v j) := by funext j; unfold upd fset; split <;> rfl
section Arrays
variable {a b : Addr} {kA : ClassId} {ty : FieldType} {N : Nat} {f f' : Nat → Value} {sl : Nat} {v : Value} {ws : List Addr}
theorem Ary.lt (A : Ary Z h a kA ty N f) : a < h.size := by obtain ⟨c, q, -⟩ := A; exact q.lt
theorem Ary.len (A : Ary Z h a kA ty N f) : N < 2 ^ 31 := by obtain ⟨c, -, -, -, q, -⟩ := A; exact q
theorem Ary.ext (E : Ext h h') (A : Ary Z h a kA ty N f) : Ary Z h' a kA ty N f := by obtain ⟨c, q, r⟩ := A; exact ⟨c, q.ext E, r⟩
theorem Ary.other (W : Wr h h' b sl v) (A : Ary Z h a kA ty N f) (q : a ≠ b) : Ary Z h' a kA ty N f := by obtain ⟨c, A, r⟩ := A; exact ⟨c, A.other W q, r⟩
theorem Ary.keep (K : Keep h h' ws) (A : Ary Z h a kA ty N f) (q : a ∉ ws) : Ary Z h' a kA ty N f := by obtain ⟨c, A, r⟩ := A; exact ⟨c, ⟨K.2.1 a c A.1 q, A.2⟩, r⟩
theorem Ary.congr (A : Ary Z h a kA ty N f) (q : ∀ i, i < N → f i = f' i) : Ary Z h a kA ty N f' := by obtain ⟨c, A, r1, r2, r3, r4, r5⟩ := A; exact ⟨c, A, r1, r2, r3, fun i hi => by rw [← q i hi]; exact r4 i hi, fun i hi => by rw [← q i hi]; exact r5 i hi⟩
theorem Ary.fits (A : Ary Z h a kA ty N f) {i : Nat} (hi : i < N) : Jvm.fits ty (f i) = true := by obtain ⟨c, -, -, -, -, -, q⟩ := A; exact q i hi
theorem Ary.set (W : Wr h h' a sl v) (A : Ary Z h a kA ty N f) (hv : Jvm.fits ty v = true) : Ary Z h' a kA ty N (upd f sl v) := by
  obtain ⟨c, A, r1, r2, r3, r4, r5⟩ := A
  refine ⟨_, A.same W, r1, by rw [sz_set]; exact r2, r3, fun i hi => ?_, fun i hi => ?_⟩
  · by_cases q : i = sl
    · subst q; rw [upd_same]; simp [Cell.setSlot, r2, hi]
    · rw [upd_ne f v q]; simp only [Cell.setSlot]; rw [Array.getElem?_setIfInBounds_ne (Ne.symm q)]; exact r4 i hi
  · by_cases q : i = sl
    · subst q; rw [upd_same]; exact hv
    · rw [upd_ne f v q]; exact r5 i hi
theorem Ary.ints (A : Ary Z h a kA ty N f) (ht : ty = .int ∨ ty = .boolean ∨ ty = .byte ∨ ty = .char ∨ ty = .short) : ∃ F : Nat → Int32, Ary Z h a kA ty N (fun i => .int (F i)) := by
  refine ⟨fun i => match f i with | .int x => x | _ => 0, A.congr fun i hi => ?_⟩
  obtain ⟨x, e⟩ := fit_I (A.fits hi) ht
  simp only [e]
theorem Ary.doubles (A : Ary Z h a kA .double N f) : ∃ F : Nat → UInt64, Ary Z h a kA .double N (fun i => .double (F i)) := by
  refine ⟨fun i => match f i with | .double x => x | _ => 0, A.congr fun i hi => ?_⟩
  obtain ⟨x, e⟩ := fit_D (A.fits hi)
  simp only [e]
theorem Ary.longs (A : Ary Z h a kA .long N f) : ∃ F : Nat → Int64, Ary Z h a kA .long N (fun i => .long (F i)) := by
  refine ⟨fun i => match f i with | .long x => x | _ => 0, A.congr fun i hi => ?_⟩
  obtain ⟨x, e⟩ := fit_J (A.fits hi)
  simp only [e]
theorem static_ary {s : State} {args : Array Value} {C nm d : String} {z : Int32} (hf : Fit s) (wl : (Cond.laysStatic C nm d).before args s = true) (wi : (Cond.initialized C).before args s = true) (hd : parseFieldDescriptor d = some (.array ty))
    (hA : (Cond.arrayOf (Term.static C nm d) ty).value args s none s [] = some true) (hL : (Cond.eq (Term.length (Term.static C nm d)) (Term.int z)).value args s none s [] = some true) (hz : z.toInt = (N : Int)) :
    ∃ (a : Addr) (kA : ClassId) (f : Nat → Value), Sta s s.heap C nm d (.ref a) ∧ Ary s s.heap a kA ty N f ∧ ∀ (i : Nat) (j v : Int32), j.toInt = (i : Int) → i < N → (Cond.eq (Term.elem (Term.static C nm d) (Term.int j)) (Term.int v)).value args s none s [] = some true → f i = .int v := by
  obtain ⟨v, ev, hv⟩ := static_fit hf wl hd
  have hr := fit_R hv rfl
  rcases ref_cases hr with rfl | ⟨a, rfl⟩
  · exfalso; simp [Cond.value, ev] at hA
  obtain ⟨c, A⟩ := Arr.start ev hA
  have hc := A.fin (Vm.Alike.refl _)
  have hs : c.slots.size < 2 ^ 31 ∧ c.slots.size.toInt32 = z := by
    obtain ⟨x, y, ex, ey⟩ := cmp_v (Or.inl hL)
    obtain ⟨a', c', ea, hc', rfl, q⟩ := Jvm.Free.SB.Term.length_small ex
    cases ev.symm.trans ea
    cases hc.symm.trans hc'
    exact ⟨q, by simpa [Cond.value, ex, Term.int_eval] using hL⟩
  have hN : c.slots.size = N := by have e := len_toInt hs.1; rw [hs.2, hz] at e; omega
  refine ⟨a, c.cls, fun i => c.slots.getD i .null, Sta.start ev (Or.inr ⟨wi, wl⟩), ⟨c, A, rfl, hN, by omega, fun i hi => ?_, fun i hi => ?_⟩, fun i j v hj hi he => ?_⟩
  · simp [Array.getD, hN, hi]
  · have q := hf A.1 (i := i) (by omega)
    obtain ⟨hst, k, hk, comp, hkind⟩ := A.2.1
    have e : s.slotType? c.cls c.vm i = some ty := by
      cases hq : c.vm <;> first | exact absurd hq (hst _) | simp [State.slotType?, hk, hkind]
    have hi' : i < c.slots.size := by omega
    simpa [State.fitsSlot, e, Array.getD, hi'] using q
  · have hi' : i < c.slots.size := by omega
    have hn : j.toNatClampNeg = i := by simp only [Int32.toNatClampNeg, hj]; omega
    obtain ⟨x, y, ex, ey⟩ := cmp_v (Or.inl he)
    obtain ⟨a', j', c', ea, ej, hc', -, hx⟩ := Term.elem_spec ex
    cases ev.symm.trans ea
    cases hc.symm.trans hc'
    cases (Term.int_eval j).symm.trans ej
    rw [hn] at hx
    have q : x = .int v := by
      have r := hf A.1 (i := i) hi'
      simp only [Cond.value, ex, Term.int_eval] at he
      cases x <;> simp at he
      rw [he]
    simp only [Array.getD, hi', dif_pos]
    rw [Array.getElem?_eq_getElem hi'] at hx
    exact (Option.some.inj hx).trans q
theorem Ary.of_new {cA : ClassId} {z : Int32} (A : Arr Z h a (newA cA ty z) ty) (hz : z.toInt = (N : Int)) : Ary Z h a cA ty N (fun _ => defaultValue ty) := by
  have e : z.toNatClampNeg = N := by simp only [Int32.toNatClampNeg]; omega
  have q := z.toInt_lt
  refine ⟨_, A, rfl, by rw [sz_new, e], by omega, fun i hi => ?_, fun i _ => by cases ty <;> rfl⟩
  simp [newA, e, hi]
theorem Ary.ne {a0 : Array Value} {C : String} {m : Nat} (E : Exa Z h b C) (A : Ary Z h a kA ty N f) (w : (Cond.instantiable C m).before a0 Z = true) : b ≠ a := by obtain ⟨c, q, -⟩ := A; exact ne_arr E w q
theorem in_of {c : Cell} {j : Int32} {i N : Nat} (S : c.slots.size = N) (hj : j.toInt = (i : Int)) (hi : i < N) : ¬ (j < 0 ∨ c.slots.size ≤ j.toNatClampNeg) := by
  rw [S, Int32.lt_iff_toInt_lt]; simp only [Int32.toNatClampNeg, hj]; have : (0 : Int32).toInt = 0 := rfl; omega
theorem nat_of {j : Int32} {i : Nat} (hj : j.toInt = (i : Int)) : j.toNatClampNeg = i := by simp only [Int32.toNatClampNeg, hj]; omega
end Arrays
theorem WP.iaload (K : Cx κ w l Z own n0 rm bytes maxL ret nm Q) {a : Addr} {kA : ClassId} {N i : Nat} {f : Nat → Value} {j : Int32} {v : Value} (A : Ary Z h a kA .int N f) (hj : j.toInt = (i : Int)) (hi : i < N) (hv : f i = v) (hd : decode bytes pc = .ok (.iaload, 1)) (hp : pc + 1 = pc') (H : WP κ h k n (mkF κ.m pc' L (v :: S))) : WP κ h k n (mkF κ.m pc L (.int j :: .ref a :: S)) := by
  obtain ⟨hx, hby, -, -, -, -, -, -, rfl, rfl, -⟩ := K
  subst hp hv
  obtain ⟨c, A, -, r2, -, r4, -⟩ := A
  refine WP.go (fun T locs vm0 X e hZ ho t k => ?_) H
  exact X.iaload hx (by rw [e]; exact A.1) (State.isArrayOf_alike (T := κ.s.setVm vm0) hZ.alike A.2.1) A.2.2 (in_of r2 hj hi) (by rw [nat_of hj]; exact r4 i hi) (g := mkF κ.m pc L (.int j :: .ref a :: S)) rfl rfl (hb hby hd) t k
theorem WP.laload (K : Cx κ w l Z own n0 rm bytes maxL ret nm Q) {a : Addr} {kA : ClassId} {N i : Nat} {f : Nat → Value} {j : Int32} {v : Value} (A : Ary Z h a kA .long N f) (hj : j.toInt = (i : Int)) (hi : i < N) (hv : f i = v) (hd : decode bytes pc = .ok (.laload, 1)) (hp : pc + 1 = pc') (H : WP κ h k n (mkF κ.m pc' L (v :: S))) : WP κ h k n (mkF κ.m pc L (.int j :: .ref a :: S)) := by
  obtain ⟨hx, hby, -, -, -, -, -, -, rfl, rfl, -⟩ := K
  subst hp hv
  obtain ⟨c, A, -, r2, -, r4, -⟩ := A
  refine WP.go (fun T locs vm0 X e hZ ho t k => ?_) H
  exact X.laload hx (by rw [e]; exact A.1) (State.isArrayOf_alike (T := κ.s.setVm vm0) hZ.alike A.2.1) A.2.2 (in_of r2 hj hi) (by rw [nat_of hj]; exact r4 i hi) (g := mkF κ.m pc L (.int j :: .ref a :: S)) rfl rfl (hb hby hd) t k
theorem WP.caload (K : Cx κ w l Z own n0 rm bytes maxL ret nm Q) {a : Addr} {kA : ClassId} {N i : Nat} {f : Nat → Value} {j : Int32} {v : Value} (A : Ary Z h a kA .char N f) (hj : j.toInt = (i : Int)) (hi : i < N) (hv : f i = v) (hd : decode bytes pc = .ok (.caload, 1)) (hp : pc + 1 = pc') (H : WP κ h k n (mkF κ.m pc' L (v :: S))) : WP κ h k n (mkF κ.m pc L (.int j :: .ref a :: S)) := by
  obtain ⟨hx, hby, -, -, -, -, -, -, rfl, rfl, -⟩ := K
  subst hp hv
  obtain ⟨c, A, -, r2, -, r4, -⟩ := A
  refine WP.go (fun T locs vm0 X e hZ ho t k => ?_) H
  exact X.caload hx (by rw [e]; exact A.1) (State.isArrayOf_alike (T := κ.s.setVm vm0) hZ.alike A.2.1) A.2.2 (in_of r2 hj hi) (by rw [nat_of hj]; exact r4 i hi) (g := mkF κ.m pc L (.int j :: .ref a :: S)) rfl rfl (hb hby hd) t k
theorem WP.baload (K : Cx κ w l Z own n0 rm bytes maxL ret nm Q) {a : Addr} {kA : ClassId} {N i : Nat} {f : Nat → Value} {j : Int32} {v : Value} (A : Ary Z h a kA .byte N f) (hj : j.toInt = (i : Int)) (hi : i < N) (hv : f i = v) (hd : decode bytes pc = .ok (.baload, 1)) (hp : pc + 1 = pc') (H : WP κ h k n (mkF κ.m pc' L (v :: S))) : WP κ h k n (mkF κ.m pc L (.int j :: .ref a :: S)) := by
  obtain ⟨hx, hby, -, -, -, -, -, -, rfl, rfl, -⟩ := K
  subst hp hv
  obtain ⟨c, A, -, r2, -, r4, -⟩ := A
  refine WP.go (fun T locs vm0 X e hZ ho t k => ?_) H
  exact X.baloadBytes hx (by rw [e]; exact A.1) (State.isArrayOf_alike (T := κ.s.setVm vm0) hZ.alike A.2.1) A.2.2 (in_of r2 hj hi) (by rw [nat_of hj]; exact r4 i hi) (g := mkF κ.m pc L (.int j :: .ref a :: S)) rfl rfl (hb hby hd) t k
theorem WP.baloadZ (K : Cx κ w l Z own n0 rm bytes maxL ret nm Q) {a : Addr} {kA : ClassId} {N i : Nat} {f : Nat → Value} {j : Int32} {v : Value} (A : Ary Z h a kA .boolean N f) (hj : j.toInt = (i : Int)) (hi : i < N) (hv : f i = v) (hd : decode bytes pc = .ok (.baload, 1)) (hp : pc + 1 = pc') (H : WP κ h k n (mkF κ.m pc' L (v :: S))) : WP κ h k n (mkF κ.m pc L (.int j :: .ref a :: S)) := by
  obtain ⟨hx, hby, -, -, -, -, -, -, rfl, rfl, -⟩ := K
  subst hp hv
  obtain ⟨c, A, -, r2, -, r4, -⟩ := A
  refine WP.go (fun T locs vm0 X e hZ ho t k => ?_) H
  exact X.baloadBooleans hx (by rw [e]; exact A.1) (State.isArrayOf_alike (T := κ.s.setVm vm0) hZ.alike A.2.1) A.2.2 (in_of r2 hj hi) (by rw [nat_of hj]; exact r4 i hi) (g := mkF κ.m pc L (.int j :: .ref a :: S)) rfl rfl (hb hby hd) t k
theorem WP.daload (K : Cx κ w l Z own n0 rm bytes maxL ret nm Q) {a : Addr} {kA : ClassId} {N i : Nat} {f : Nat → Value} {j : Int32} {v : Value} (A : Ary Z h a kA .double N f) (hj : j.toInt = (i : Int)) (hi : i < N) (hv : f i = v) (hd : decode bytes pc = .ok (.daload, 1)) (hp : pc + 1 = pc') (H : WP κ h k n (mkF κ.m pc' L (v :: S))) : WP κ h k n (mkF κ.m pc L (.int j :: .ref a :: S)) := by
  obtain ⟨hx, hby, -, -, -, -, -, -, rfl, rfl, -⟩ := K
  subst hp hv
  obtain ⟨c, A, -, r2, -, r4, -⟩ := A
  refine WP.go (fun T locs vm0 X e hZ ho t k => ?_) H
  exact X.daload hx (by rw [e]; exact A.1) (State.isArrayOf_alike (T := κ.s.setVm vm0) hZ.alike A.2.1) A.2.2 (in_of r2 hj hi) (by rw [nat_of hj]; exact r4 i hi) (g := mkF κ.m pc L (.int j :: .ref a :: S)) rfl rfl (hb hby hd) t k
theorem WP.aaload (K : Cx κ w l Z own n0 rm bytes maxL ret nm Q) {a : Addr} {kA : ClassId} {N i : Nat} {f : Nat → Value} {j : Int32} {v : Value} {ty : FieldType} (ht : ty.isReference = true) (A : Ary Z h a kA ty N f) (hj : j.toInt = (i : Int)) (hi : i < N) (hv : f i = v) (hd : decode bytes pc = .ok (.aaload, 1)) (hp : pc + 1 = pc') (H : WP κ h k n (mkF κ.m pc' L (v :: S))) : WP κ h k n (mkF κ.m pc L (.int j :: .ref a :: S)) := by
  obtain ⟨hx, hby, -, -, -, -, -, -, rfl, rfl, -⟩ := K
  subst hp hv
  obtain ⟨c, A, -, r2, -, r4, -⟩ := A
  refine WP.go (fun T locs vm0 X e hZ ho t k => ?_) H
  exact X.aaload hx (by rw [e]; exact A.1) (State.isArrayOf_alike (T := κ.s.setVm vm0) hZ.alike A.2.1) ht A.2.2 (in_of r2 hj hi) (by rw [nat_of hj]; exact r4 i hi) (g := mkF κ.m pc L (.int j :: .ref a :: S)) rfl rfl (hb hby hd) t k
theorem WP.arraylength (K : Cx κ w l Z own n0 rm bytes maxL ret nm Q) {a : Addr} {kA : ClassId} {ty : FieldType} {N : Nat} {f : Nat → Value} (A : Ary Z h a kA ty N f) (hd : decode bytes pc = .ok (.arraylength, 1)) (hp : pc + 1 = pc') (H : WP κ h k n (mkF κ.m pc' L (.int (Int32.ofNat N) :: S))) : WP κ h k n (mkF κ.m pc L (.ref a :: S)) := by
  obtain ⟨hx, hby, -, -, -, -, -, -, rfl, rfl, -⟩ := K
  subst hp
  obtain ⟨c, A, -, r2, -⟩ := A
  refine WP.go (fun T locs vm0 X e hZ ho t k => ?_) H
  exact X.arraylength hx (by rw [e]; exact A.1) (State.isArrayOf_alike (T := κ.s.setVm vm0) hZ.alike A.2.1) (g := mkF κ.m pc L (.ref a :: S)) rfl rfl (hb hby hd) t (by rw [r2]; exact k)
theorem WP.iastore (K : Cx κ w l Z own n0 rm bytes maxL ret nm Q) {a : Addr} {kA : ClassId} {N i : Nat} {f : Nat → Value} {j : Int32} {x : Int32} (A : Ary Z h a kA .int N f) (hj : j.toInt = (i : Int)) (hi : i < N) (ha : n0 ≤ a) (hd : decode bytes pc = .ok (.iastore, 1)) (hp : pc + 1 = pc')
    (H : ∀ h', Wr h h' a i (.int x) → Ary Z h' a kA .int N (upd f i (.int x)) → WP κ h' k n (mkF κ.m pc' L S)) : WP κ h k n (mkF κ.m pc L (.int x :: .int j :: .ref a :: S)) := by
  obtain ⟨hx, hby, -, -, -, hnm, -, -, rfl, rfl, rfl, rfl, -⟩ := K
  subst hp
  have A0 := A
  obtain ⟨c, A, -, r2, -⟩ := A
  intro T locs vm0 X e M hZ ho N
  obtain ⟨T', h', X', e', W, st⟩ := RoadKit.stI X hx (s := κ.s.setVm vm0) hZ e A (in_of r2 hj hi) (g := mkF κ.m pc L (.int x :: .int j :: .ref a :: S)) rfl rfl (hb hby hd)
  rw [nat_of hj] at W
  obtain ⟨t, o, h1, r⟩ := H h' W (A0.set W rfl) T' _ vm0 X' e' (M.mono (Nat.le_of_eq W.size.symm)) hZ ho (Fr.snoc X' N ha)
  exact ⟨t, o, st _ h1, r⟩
theorem WP.lastore (K : Cx κ w l Z own n0 rm bytes maxL ret nm Q) {a : Addr} {kA : ClassId} {N i : Nat} {f : Nat → Value} {j : Int32} {x : Int64} (A : Ary Z h a kA .long N f) (hj : j.toInt = (i : Int)) (hi : i < N) (ha : n0 ≤ a) (hd : decode bytes pc = .ok (.lastore, 1)) (hp : pc + 1 = pc')
    (H : ∀ h', Wr h h' a i (.long x) → Ary Z h' a kA .long N (upd f i (.long x)) → WP κ h' k n (mkF κ.m pc' L S)) : WP κ h k n (mkF κ.m pc L (.long x :: .int j :: .ref a :: S)) := by
  obtain ⟨hx, hby, -, -, -, hnm, -, -, rfl, rfl, rfl, rfl, -⟩ := K
  subst hp
  have A0 := A
  obtain ⟨c, A, -, r2, -⟩ := A
  intro T locs vm0 X e M hZ ho N
  obtain ⟨T', h', X', e', W, st⟩ := RoadKit.stJ X hx (s := κ.s.setVm vm0) hZ e A (in_of r2 hj hi) (g := mkF κ.m pc L (.long x :: .int j :: .ref a :: S)) rfl rfl (hb hby hd)
  rw [nat_of hj] at W
  obtain ⟨t, o, h1, r⟩ := H h' W (A0.set W rfl) T' _ vm0 X' e' (M.mono (Nat.le_of_eq W.size.symm)) hZ ho (Fr.snoc X' N ha)
  exact ⟨t, o, st _ h1, r⟩
theorem WP.castore (K : Cx κ w l Z own n0 rm bytes maxL ret nm Q) {a : Addr} {kA : ClassId} {N i : Nat} {f : Nat → Value} {j : Int32} {x : Int32} (A : Ary Z h a kA .char N f) (hj : j.toInt = (i : Int)) (hi : i < N) (ha : n0 ≤ a) (hd : decode bytes pc = .ok (.castore, 1)) (hp : pc + 1 = pc')
    (H : ∀ h', Wr h h' a i (.int (nar .char x)) → Ary Z h' a kA .char N (upd f i (.int (nar .char x))) → WP κ h' k n (mkF κ.m pc' L S)) : WP κ h k n (mkF κ.m pc L (.int x :: .int j :: .ref a :: S)) := by
  obtain ⟨hx, hby, -, -, -, hnm, -, -, rfl, rfl, rfl, rfl, -⟩ := K
  subst hp
  have A0 := A
  obtain ⟨c, A, -, r2, -⟩ := A
  intro T locs vm0 X e M hZ ho N
  obtain ⟨T', h', X', e', W, st⟩ := RoadKit.stC X hx (s := κ.s.setVm vm0) hZ e A (in_of r2 hj hi) (g := mkF κ.m pc L (.int x :: .int j :: .ref a :: S)) rfl rfl (hb hby hd)
  rw [nat_of hj] at W
  obtain ⟨t, o, h1, r⟩ := H h' W (A0.set W (fits_nar_char x)) T' _ vm0 X' e' (M.mono (Nat.le_of_eq W.size.symm)) hZ ho (Fr.snoc X' N ha)
  exact ⟨t, o, st _ h1, r⟩
theorem WP.bastore (K : Cx κ w l Z own n0 rm bytes maxL ret nm Q) {a : Addr} {kA : ClassId} {N i : Nat} {f : Nat → Value} {j : Int32} {x : Int32} (A : Ary Z h a kA .byte N f) (hj : j.toInt = (i : Int)) (hi : i < N) (ha : n0 ≤ a) (hd : decode bytes pc = .ok (.bastore, 1)) (hp : pc + 1 = pc')
    (H : ∀ h', Wr h h' a i (.int (nar .byte x)) → Ary Z h' a kA .byte N (upd f i (.int (nar .byte x))) → WP κ h' k n (mkF κ.m pc' L S)) : WP κ h k n (mkF κ.m pc L (.int x :: .int j :: .ref a :: S)) := by
  obtain ⟨hx, hby, -, -, -, hnm, -, -, rfl, rfl, rfl, rfl, -⟩ := K
  subst hp
  have A0 := A
  obtain ⟨c, A, -, r2, -⟩ := A
  intro T locs vm0 X e M hZ ho N
  obtain ⟨T', h', X', e', W, st⟩ := RoadKit.stB X hx (s := κ.s.setVm vm0) hZ e A (in_of r2 hj hi) (g := mkF κ.m pc L (.int x :: .int j :: .ref a :: S)) rfl rfl (hb hby hd)
  rw [nat_of hj] at W
  obtain ⟨t, o, h1, r⟩ := H h' W (A0.set W (fits_nar_byte x)) T' _ vm0 X' e' (M.mono (Nat.le_of_eq W.size.symm)) hZ ho (Fr.snoc X' N ha)
  exact ⟨t, o, st _ h1, r⟩
theorem WP.bastoreZ (K : Cx κ w l Z own n0 rm bytes maxL ret nm Q) {a : Addr} {kA : ClassId} {N i : Nat} {f : Nat → Value} {j : Int32} {x : Int32} (A : Ary Z h a kA .boolean N f) (hj : j.toInt = (i : Int)) (hi : i < N) (ha : n0 ≤ a) (hd : decode bytes pc = .ok (.bastore, 1)) (hp : pc + 1 = pc')
    (H : ∀ h', Wr h h' a i (.int (nar .boolean x)) → Ary Z h' a kA .boolean N (upd f i (.int (nar .boolean x))) → WP κ h' k n (mkF κ.m pc' L S)) : WP κ h k n (mkF κ.m pc L (.int x :: .int j :: .ref a :: S)) := by
  obtain ⟨hx, hby, -, -, -, hnm, -, -, rfl, rfl, rfl, rfl, -⟩ := K
  subst hp
  have A0 := A
  obtain ⟨c, A, -, r2, -⟩ := A
  intro T locs vm0 X e M hZ ho N
  obtain ⟨T', h', X', e', W, st⟩ := RoadKit.stZ X hx (s := κ.s.setVm vm0) hZ e A (in_of r2 hj hi) (g := mkF κ.m pc L (.int x :: .int j :: .ref a :: S)) rfl rfl (hb hby hd)
  rw [nat_of hj] at W
  obtain ⟨t, o, h1, r⟩ := H h' W (A0.set W (fits_nar_bool x)) T' _ vm0 X' e' (M.mono (Nat.le_of_eq W.size.symm)) hZ ho (Fr.snoc X' N ha)
  exact ⟨t, o, st _ h1, r⟩
theorem WP.dastore (K : Cx κ w l Z own n0 rm bytes maxL ret nm Q) {a : Addr} {kA : ClassId} {N i : Nat} {f : Nat → Value} {j : Int32} {x : UInt64} (A : Ary Z h a kA .double N f) (hj : j.toInt = (i : Int)) (hi : i < N) (ha : n0 ≤ a) (hd : decode bytes pc = .ok (.dastore, 1)) (hp : pc + 1 = pc')
    (H : ∀ h', Wr h h' a i (.double x) → Ary Z h' a kA .double N (upd f i (.double x)) → WP κ h' k n (mkF κ.m pc' L S)) : WP κ h k n (mkF κ.m pc L (.double x :: .int j :: .ref a :: S)) := by
  obtain ⟨hx, hby, -, -, -, hnm, -, -, rfl, rfl, rfl, rfl, -⟩ := K
  subst hp
  have A0 := A
  obtain ⟨c, A, -, r2, -⟩ := A
  intro T locs vm0 X e M hZ ho N
  obtain ⟨T', h', X', e', W, st⟩ := RoadKit.stD X hx (s := κ.s.setVm vm0) hZ e A (in_of r2 hj hi) (g := mkF κ.m pc L (.double x :: .int j :: .ref a :: S)) rfl rfl (hb hby hd)
  rw [nat_of hj] at W
  obtain ⟨t, o, h1, r⟩ := H h' W (A0.set W rfl) T' _ vm0 X' e' (M.mono (Nat.le_of_eq W.size.symm)) hZ ho (Fr.snoc X' N ha)
  exact ⟨t, o, st _ h1, r⟩
theorem WP.newarray (K : Cx κ w l Z own n0 rm bytes maxL ret nm Q) {aty : ArrayType} {z : Int32} {N cap : Nat} (w1 : (Cond.arrayClass (newarray.typeOf aty)).before a0 Z = true) (hd : decode bytes pc = .ok (.newarray aty, 2)) (hz : z.toInt = (N : Int)) (hcap : N ≤ cap) (hbig : cap * 8 ≤ 536870912) (hk : k + 1 = k') (hn : n + cap = n') (hk' : k' ≤ rm.cells) (hn' : n' ≤ rm.slots) (hp : pc + 2 = pc')
    (H : ∀ (h' : Heap) (a : Addr) (kA : ClassId), @Eq Nat h.size a → Ext h h' → Ary Z h' a kA (newarray.typeOf aty) N (fun _ => defaultValue (newarray.typeOf aty)) → WP κ h' k' n' (mkF κ.m pc' L (.ref a :: S))) : WP κ h k n (mkF κ.m pc L (.int z :: S)) := by
  obtain ⟨hx, hby, -, -, -, hnm, -, -, rfl, rfl, rfl, rfl, -⟩ := K
  subst hp hk hn
  intro T locs vm0 X e M hZ ho N
  obtain ⟨T', h', cA, X', e', E, A, st⟩ := newP X hx (s := κ.s.setVm vm0) hZ w1 e (g := mkF κ.m pc L (.int z :: S)) rfl (hb hby hd) rfl (by rw [Int32.lt_iff_toInt_lt, hz]; show ¬ _ < (0 : Int); omega) (cap := cap) (by rw [nat_of hz]; exact hcap) hbig hk' hn'
  obtain ⟨t, o, h1, r⟩ := H h' _ cA rfl E (Ary.of_new A hz) T' _ vm0 X' e' (M.mono E.1) hZ ho N
  exact ⟨t, o, st _ h1, r⟩
/-- what a call's law hands back, in both modes -/
theorem Met.back {y : MethodName} {by' : ByteArray} {mL' : Nat} {rt' : Option FieldType} {rm' : Room} {as' : Array Value} {Q' : Option Value → Heap → Prop} {len W : Nat} {R : Room} {p : Program} {e : Env} {below : List Frame} {s : State} {args : Array Value}
    (hM : Met false l Z y by' mL' rt' [] rm' as' h n0 Q') (hZ : Z.Warmed39 s.vm) (wc : (Cond.code y by' mL' rt').before a0 Z = true) (wz : (Cond.initialized y.cls).before a0 Z = true) (hf : rm'.frames + 1 ≤ R.frames) (hl : W + (mL' + 11) + rm'.locals ≤ R.locals) :
    Back l R p e below s args y len W (fun A a => a = as' ∧ A.U.heap = h ∧ A.cells + rm'.cells ≤ R.cells ∧ A.slots + rm'.slots ≤ R.slots) (fun A _ v B => ∃ L, (Q' v B.U.heap ∧ Fr n0 L) ∧ B.locs = A.locs ++ L ∧ B.cells = A.cells + rm'.cells ∧ B.slots = A.slots + rm'.slots) :=
  backOf (Q := fun v h L => Q' v h ∧ Fr n0 L) hM hZ wc wz hf hl
theorem Met.backW {y : MethodName} {by' : ByteArray} {mL' : Nat} {rt' : Option FieldType} {rm' : Room} {as' : Array Value} {Q' : Option Value → Heap → Prop} {len W : Nat} {R : Room} {p : Program} {e : Env} {below : List Frame} {s : State} {args : Array Value}
    (hM : Met true l Z y by' mL' rt' [] rm' as' h n0 Q') (hZ : Z.Warmed39 s.vm) (wc : (Cond.code y by' mL' rt').before a0 Z = true) (wz : (Cond.initialized y.cls).before a0 Z = true) (hf : rm'.frames + 1 ≤ R.frames) (hl : W + (mL' + 11) + rm'.locals ≤ R.locals) :
    BackS l R p e below s args y len W (fun A a => a = as' ∧ A.U.heap = h ∧ A.cells + rm'.cells ≤ R.cells ∧ A.slots + rm'.slots ≤ R.slots) (fun A _ v B => ∃ L, (Q' v B.U.heap ∧ Fr n0 L) ∧ B.locs = A.locs ++ L ∧ B.cells = A.cells + rm'.cells ∧ B.slots = A.slots + rm'.slots) :=
  backOfS (Q := fun v h L => Q' v h ∧ Fr n0 L) hM hZ wc wz hf hl
theorem Ends.call {T : State} {locs : List Loc} {vm0 : Vm} {g g' : JFrame} {rm' : Room} {Q' : Option Value → Heap → Prop} {T1 B : Pt} {v : Option Value} (M : Md κ.w κ.s vm0 h.size) (N : Fr κ.n0 locs) (hc : T1 = ⟨T1.1, locs, k, n⟩)
    (hpost : ∃ L, (Q' v B.U.heap ∧ Fr κ.n0 L) ∧ B.locs = T1.locs ++ L ∧ B.cells = T1.cells + rm'.cells ∧ B.slots = T1.slots + rm'.slots) (hk : k + rm'.cells = k') (hn : n + rm'.slots = n') {vm1 : Vm}
    (X' : Stand κ.p κ.l κ.e κ.R (κ.s.setVm vm1) κ.m κ.a κ.below κ.meth κ.c B.U B.locs B.cells B.slots) (M' : Md κ.w κ.s vm1 B.U.heap.size) (hZ : κ.Z.Warmed39 vm1) (ho : vm1.findClass κ.own = some κ.m.cls) (st : Steps κ.p.tables κ.e κ.below (T.setTop g) (B.U.setTop g'))
    (H : ∀ h', Q' v h' → WP κ h' k' n' g') : Ends κ T g := by
  obtain ⟨Lc, ⟨hQ, hN⟩, l1, l2, l3⟩ := hpost
  rw [hc] at l1 l2 l3
  dsimp only [Pt.U, Pt.locs, Pt.cells, Pt.slots] at l1 l2 l3 X' hQ M' st
  subst hk hn
  rw [l1, l2, l3] at X'
  obtain ⟨t, o, h1, r⟩ := H _ hQ _ _ vm1 X' rfl M' hZ ho (Fr.app N hN)
  exact ⟨t, o, st.trans h1, r⟩
theorem WP.callS (K : Cx κ w l Z own n0 rm bytes maxL ret nm Q) {y : MethodName} {by' : ByteArray} {mL' : Nat} {rt' : Option FieldType} {rm' : Room} {Q' : Option Value → Heap → Prop} {i W : Nat} {argsL : List Value} {S' : List Value} (w1 : (Cond.methodLink own i y).before a0 Z = true) (w2 : (Cond.static y).before a0 Z = true) (hM : Met w l Z y by' mL' rt' [] rm' argsL.toArray h n0 Q') (wc : (Cond.code y by' mL' rt').before a0 Z = true) (wz : (Cond.initialized y.cls).before a0 Z = true) (hy : y.cls ≠ "java/lang/invoke/MethodHandle" ∧ y.cls ≠ "java/lang/invoke/VarHandle")
    (hL : L.size = maxL) (hlen : ∀ sig, parseMethodDescriptor y.desc = some sig → argsL.length = sig.parameters.length) (hS : S' = argsL.reverse ++ S) (hW : (S.map fun v => v.category).sum = W) (hf : rm'.frames + 1 ≤ rm.frames) (hl : W + (mL' + 11) + rm'.locals ≤ rm.locals) (hk : k + rm'.cells = k') (hn : n + rm'.slots = n') (hk' : k' ≤ rm.cells) (hn' : n' ≤ rm.slots) (hd : decode bytes pc = .ok (.invokestatic i, 3)) (hp : pc + 3 = pc')
    (H : ∀ (v : Option Value) (h' : Heap), Q' v h' → WP κ h' k' n' (mkF κ.m pc' L (v.toList ++ S))) : WP κ h k n (mkF κ.m pc L S') := by
  obtain ⟨hx, hby, hml, -, -, -, rfl, rfl, rfl, rfl, rfl, rfl, -⟩ := K
  subst hp hS
  intro T locs vm0 X e M hZ ho N
  by_cases hw : κ.w = true
  · rw [hw] at hM
    obtain ⟨v, vm₁, B, -, X', hSi, hgr, hpost, st⟩ := callSS X hx (y := y) ho (mvT (s := κ.s.setVm vm0) hZ w1) (mvT (s := κ.s.setVm vm0) hZ w2) (mvT (s := κ.s.setVm vm0) hZ wz) (mvT (s := κ.s.setVm vm0) hZ wc) hy (Met.backW (s := κ.s.setVm vm0) hM hZ wc wz hf hl) (g := mkF κ.m pc L (argsL.reverse ++ S)) rfl (hL.trans hml.symm) (argsL := argsL) (rest := S) hlen rfl (by show 2 * 0 + _ ≤ _; omega) (hb hby hd) (fun _ _ => ⟨rfl, e, by rw [← hk] at hk'; exact hk', by rw [← hn] at hn'; exact hn'⟩)
    obtain ⟨k0, hS0, hk0⟩ := M.2
    obtain ⟨X'', hS1, hZ1, ho1⟩ := rebS hS0 hk0 X' hSi (e ▸ hgr) hZ ho
    exact Ends.call (Q' := Q') (T1 := ⟨T.setVm vm₁, locs, k, n⟩) M N rfl hpost hk hn X'' ⟨fun q => (by rw [hw] at q; cases q), _, hS1, Nat.le_refl _⟩ hZ1 ho1 st (H v)
  · have hw' : κ.w = false := by simpa using hw
    rw [hw'] at hM
    obtain ⟨v, vm₁, B, -, X', hpost, st⟩ := Jvm.LawKit.callS X hx (y := y) ho (mvT (s := κ.s.setVm vm0) hZ w1) (mvT (s := κ.s.setVm vm0) hZ w2) (mvT (s := κ.s.setVm vm0) hZ wz) (mvT (s := κ.s.setVm vm0) hZ wc) hy (Met.back (s := κ.s.setVm vm0) hM hZ wc wz hf hl) (g := mkF κ.m pc L (argsL.reverse ++ S)) rfl (hL.trans hml.symm) (argsL := argsL) (rest := S) hlen rfl (by show 2 * 0 + _ ≤ _; omega) (hb hby hd) (fun _ _ => ⟨rfl, e, by rw [← hk] at hk'; exact hk', by rw [← hn] at hn'; exact hn'⟩)
    refine Ends.call (Q' := Q') (T1 := ⟨T.setVm vm₁, locs, k, n⟩) M N rfl hpost hk hn X' ?_ hZ ho (st _ (Steps.refl _)) (H v)
    have e0 := M.1 hw'
    subst e0
    exact Md.start _ _ _
theorem WP.callI (K : Cx κ w l Z own n0 rm bytes maxL ret nm Q) {y : MethodName} {by' : ByteArray} {mL' : Nat}  {rm' : Room} {Q' : Option Value → Heap → Prop} {i W : Nat} {argsL : List Value} {S' : List Value} {a : Addr} (hy1 : y.name = "<init>") (w1 : (Cond.methodLink own i y).before a0 Z = true) (w2 : (Cond.instanceMethod y).before a0 Z = true) (hM : Met w l Z y by' mL' none [] rm' (.ref a :: argsL).toArray h n0 Q') (wc : (Cond.code y by' mL' none).before a0 Z = true) (wz : (Cond.initialized y.cls).before a0 Z = true) (hy : y.cls ≠ "java/lang/invoke/MethodHandle" ∧ y.cls ≠ "java/lang/invoke/VarHandle")
    (hL : L.size = maxL) (hlen : ∀ sig, parseMethodDescriptor y.desc = some sig → argsL.length = sig.parameters.length) (hS : S' = argsL.reverse ++ .ref a :: S) (hW : (S.map fun v => v.category).sum = W) (hf : rm'.frames + 1 ≤ rm.frames) (hl : W + (mL' + 11) + rm'.locals ≤ rm.locals) (hk : k + rm'.cells = k') (hn : n + rm'.slots = n') (hk' : k' ≤ rm.cells) (hn' : n' ≤ rm.slots) (hd : decode bytes pc = .ok (.invokespecial i, 3)) (hp : pc + 3 = pc')
    (H : ∀ (v : Option Value) (h' : Heap), Q' v h' → WP κ h' k' n' (mkF κ.m pc' L (v.toList ++ S))) : WP κ h k n (mkF κ.m pc L S') := by
  obtain ⟨hx, hby, hml, -, -, -, rfl, rfl, rfl, rfl, rfl, rfl, -⟩ := K
  subst hp hS
  intro T locs vm0 X e M hZ ho N
  by_cases hw : κ.w = true
  · rw [hw] at hM
    obtain ⟨v, vm₁, B, -, X', hSi, hgr, hpost, st⟩ := X.specialBackS hx (y := y) hy1 ho (mvT (s := κ.s.setVm vm0) hZ w1) (mvT (s := κ.s.setVm vm0) hZ w2) (mvT (s := κ.s.setVm vm0) hZ wc) hy (Met.backW (s := κ.s.setVm vm0) hM hZ wc wz hf hl) (g := mkF κ.m pc L (argsL.reverse ++ .ref a :: S)) rfl (hL.trans hml.symm) (Steps.refl _) (a := a) (argsL := argsL) (rest := S) hlen rfl (by show 2 * 0 + _ ≤ _; omega) (hb hby hd) (fun _ _ => ⟨rfl, e, by rw [← hk] at hk'; exact hk', by rw [← hn] at hn'; exact hn'⟩)
    obtain ⟨k0, hS0, hk0⟩ := M.2
    obtain ⟨X'', hS1, hZ1, ho1⟩ := rebS hS0 hk0 X' hSi (e ▸ hgr) hZ ho
    exact Ends.call (Q' := Q') (T1 := ⟨T.setVm vm₁, locs, k, n⟩) M N rfl hpost hk hn X'' ⟨fun q => (by rw [hw] at q; cases q), _, hS1, Nat.le_refl _⟩ hZ1 ho1 st (H v)
  · have hw' : κ.w = false := by simpa using hw
    rw [hw'] at hM
    obtain ⟨v, vm₁, B, -, X', hpost, st⟩ := X.specialBack hx (y := y) hy1 ho (mvT (s := κ.s.setVm vm0) hZ w1) (mvT (s := κ.s.setVm vm0) hZ w2) (mvT (s := κ.s.setVm vm0) hZ wc) hy (Met.back (s := κ.s.setVm vm0) hM hZ wc wz hf hl) (g := mkF κ.m pc L (argsL.reverse ++ .ref a :: S)) rfl (hL.trans hml.symm) (Steps.refl _) (a := a) (argsL := argsL) (rest := S) hlen rfl (by show 2 * 0 + _ ≤ _; omega) (hb hby hd) (fun _ _ => ⟨rfl, e, by rw [← hk] at hk'; exact hk', by rw [← hn] at hn'; exact hn'⟩)
    refine Ends.call (Q' := Q') (T1 := ⟨T.setVm vm₁, locs, k, n⟩) M N rfl hpost hk hn X' ?_ hZ ho st (H v)
    have e0 := M.1 hw'
    subst e0
    exact Md.start _ _ _
theorem WP.callV (K : Cx κ w l Z own n0 rm bytes maxL ret nm Q) {x y : MethodName} {by' : ByteArray} {mL' : Nat} {rt' : Option FieldType} {rm' : Room} {Q' : Option Value → Heap → Prop} {i W : Nat} {argsL : List Value} {S' : List Value} {a : Addr} {C : String} (w1 : (Cond.methodLink own i x).before a0 Z = true) (w2 : (Cond.declares x).before a0 Z = true) (nf : ∀ vm0 : Vm, Z.Warmed39 vm0 → NotFace (κ.s.setVm vm0) x) (w3 : (Cond.selects C x y).before a0 Z = true) (w4 : (Cond.instanceMethod y).before a0 Z = true) (hx' : x.cls ≠ "java/lang/invoke/MethodHandle" ∧ x.cls ≠ "java/lang/invoke/VarHandle") (E : Exa Z h a C) (hM : Met w l Z y by' mL' rt' [] rm' (.ref a :: argsL).toArray h n0 Q') (wc : (Cond.code y by' mL' rt').before a0 Z = true) (wz : (Cond.initialized y.cls).before a0 Z = true) (hy : y.cls ≠ "java/lang/invoke/MethodHandle" ∧ y.cls ≠ "java/lang/invoke/VarHandle")
    (hL : L.size = maxL) (hlen : ∀ sig, parseMethodDescriptor x.desc = some sig → argsL.length = sig.parameters.length) (hS : S' = argsL.reverse ++ .ref a :: S) (hW : (S.map fun v => v.category).sum = W) (hf : rm'.frames + 1 ≤ rm.frames) (hl : W + (mL' + 11) + rm'.locals ≤ rm.locals) (hk : k + rm'.cells = k') (hn : n + rm'.slots = n') (hk' : k' ≤ rm.cells) (hn' : n' ≤ rm.slots) (hd : decode bytes pc = .ok (.invokevirtual i, 3)) (hp : pc + 3 = pc')
    (H : ∀ (v : Option Value) (h' : Heap), Q' v h' → WP κ h' k' n' (mkF κ.m pc' L (v.toList ++ S))) : WP κ h k n (mkF κ.m pc L S') := by
  obtain ⟨hx, hby, hml, -, -, -, rfl, rfl, rfl, rfl, rfl, rfl, -⟩ := K
  subst hp hS
  intro T locs vm0 X e M hZ ho N
  obtain ⟨cB, kB, q1, q2, q3⟩ := isOf (s := κ.s.setVm vm0) hZ e E
  by_cases hw : κ.w = true
  · rw [hw] at hM
    obtain ⟨v, vm₁, B, -, X', hSi, hgr, hpost, st⟩ := X.virtualBackS hx (y := x) (z := y) ho (mvT (s := κ.s.setVm vm0) hZ w1) (mvT (s := κ.s.setVm vm0) hZ w2) (nf vm0 hZ) (mvT (s := κ.s.setVm vm0) hZ w3) (mvT (s := κ.s.setVm vm0) hZ w4) hx' (Met.backW (s := κ.s.setVm vm0) hM hZ wc wz hf hl) q1 q3 (g := mkF κ.m pc L (argsL.reverse ++ .ref a :: S)) rfl (hL.trans hml.symm) (Steps.refl _) (argsL := argsL) (rest := S) hlen rfl (by show 2 * 0 + _ ≤ _; omega) (hb hby hd) (fun _ _ => ⟨rfl, e, by rw [← hk] at hk'; exact hk', by rw [← hn] at hn'; exact hn'⟩)
    obtain ⟨k0, hS0, hk0⟩ := M.2
    obtain ⟨X'', hS1, hZ1, ho1⟩ := rebS hS0 hk0 X' hSi (e ▸ hgr) hZ ho
    exact Ends.call (Q' := Q') (T1 := ⟨T.setVm vm₁, locs, k, n⟩) M N rfl hpost hk hn X'' ⟨fun q => (by rw [hw] at q; cases q), _, hS1, Nat.le_refl _⟩ hZ1 ho1 st (H v)
  · have hw' : κ.w = false := by simpa using hw
    rw [hw'] at hM
    obtain ⟨v, vm₁, B, -, X', hpost, st⟩ := X.virtualBack hx (y := x) (z := y) ho (mvT (s := κ.s.setVm vm0) hZ w1) (mvT (s := κ.s.setVm vm0) hZ w2) (nf vm0 hZ) (mvT (s := κ.s.setVm vm0) hZ w3) (mvT (s := κ.s.setVm vm0) hZ w4) hx' (Met.back (s := κ.s.setVm vm0) hM hZ wc wz hf hl) q1 q3 (g := mkF κ.m pc L (argsL.reverse ++ .ref a :: S)) rfl (hL.trans hml.symm) (Steps.refl _) (argsL := argsL) (rest := S) hlen rfl (by show 2 * 0 + _ ≤ _; omega) (hb hby hd) (fun _ _ => ⟨rfl, e, by rw [← hk] at hk'; exact hk', by rw [← hn] at hn'; exact hn'⟩)
    refine Ends.call (Q' := Q') (T1 := ⟨T.setVm vm₁, locs, k, n⟩) M N rfl hpost hk hn X' ?_ hZ ho st (H v)
    have e0 := M.1 hw'
    subst e0
    exact Md.start _ _ _
theorem WP.callP (K : Cx κ w l Z own n0 rm bytes maxL ret nm Q) {y : MethodName} {by' : ByteArray} {mL' : Nat} {rt' : Option FieldType} {rm' : Room} {Q' : Option Value → Heap → Prop} {i W : Nat} {argsL : List Value} {S' : List Value} {a : Addr} {nI : Nat} {C : String} (w1 : (Cond.methodLink own i y).before a0 Z = true) (w2 : (Cond.instanceMethod y).before a0 Z = true) (wi : (Cond.instantiable y.cls nI).before a0 Z = true) (w3 : (Cond.privateMethod y).before a0 Z = true) (E : Exa Z h a C) (hM : Met w l Z y by' mL' rt' [] rm' (.ref a :: argsL).toArray h n0 Q') (wc : (Cond.code y by' mL' rt').before a0 Z = true) (wz : (Cond.initialized y.cls).before a0 Z = true) (hy : y.cls ≠ "java/lang/invoke/MethodHandle" ∧ y.cls ≠ "java/lang/invoke/VarHandle")
    (hL : L.size = maxL) (hlen : ∀ sig, parseMethodDescriptor y.desc = some sig → argsL.length = sig.parameters.length) (hS : S' = argsL.reverse ++ .ref a :: S) (hW : (S.map fun v => v.category).sum = W) (hf : rm'.frames + 1 ≤ rm.frames) (hl : W + (mL' + 11) + rm'.locals ≤ rm.locals) (hk : k + rm'.cells = k') (hn : n + rm'.slots = n') (hk' : k' ≤ rm.cells) (hn' : n' ≤ rm.slots) (hd : decode bytes pc = .ok (.invokevirtual i, 3)) (hp : pc + 3 = pc')
    (H : ∀ (v : Option Value) (h' : Heap), Q' v h' → WP κ h' k' n' (mkF κ.m pc' L (v.toList ++ S))) : WP κ h k n (mkF κ.m pc L S') := by
  obtain ⟨hx, hby, hml, -, -, -, rfl, rfl, rfl, rfl, rfl, rfl, -⟩ := K
  subst hp hS
  intro T locs vm0 X e M hZ ho N
  obtain ⟨cell, e1, e2⟩ := E.cell
  have hpr : (κ.s.setVm vm0).PrivateAt y := Cond.privateMethod_at (mvP (s := κ.s.setVm vm0) hZ w3 (args := #[]))
  have hsel : (Cond.selects y.cls y y).before κ.a (κ.s.setVm vm0) = true := by
    obtain ⟨c1, k1, i1, i2, i3, i4, -⟩ := Cond.instantiable_spec (mvT (args := κ.a) (s := κ.s.setVm vm0) hZ wi)
    rw [Bool.or_eq_false_iff] at i4
    exact Jvm.Stand.selects_self_of_private i1 i2 i4.1 hpr (mvT (s := κ.s.setVm vm0) hZ w2) hy
  by_cases hw : κ.w = true
  · rw [hw] at hM
    obtain ⟨v, vm₁, B, -, X', hSi, hgr, hpost, st⟩ := X.privateBackS hx (y := y) ho (mvT (s := κ.s.setVm vm0) hZ w1) (mvT (s := κ.s.setVm vm0) hZ w2) hsel hpr (mvT (s := κ.s.setVm vm0) hZ wc) hy (Met.backW (s := κ.s.setVm vm0) hM hZ wc wz hf hl) (g := mkF κ.m pc L (argsL.reverse ++ .ref a :: S)) rfl (hL.trans hml.symm) (Steps.refl _) (a := a) (by rw [e]; exact e1) e2 (argsL := argsL) (rest := S) hlen rfl (by show 2 * 0 + _ ≤ _; omega) (hb hby hd) (fun _ _ => ⟨rfl, e, by rw [← hk] at hk'; exact hk', by rw [← hn] at hn'; exact hn'⟩)
    obtain ⟨k0, hS0, hk0⟩ := M.2
    obtain ⟨X'', hS1, hZ1, ho1⟩ := rebS hS0 hk0 X' hSi (e ▸ hgr) hZ ho
    exact Ends.call (Q' := Q') (T1 := ⟨T.setVm vm₁, locs, k, n⟩) M N rfl hpost hk hn X'' ⟨fun q => (by rw [hw] at q; cases q), _, hS1, Nat.le_refl _⟩ hZ1 ho1 st (H v)
  · have hw' : κ.w = false := by simpa using hw
    rw [hw'] at hM
    obtain ⟨v, vm₁, B, -, X', hpost, st⟩ := X.privateBack hx (y := y) ho (mvT (s := κ.s.setVm vm0) hZ w1) (mvT (s := κ.s.setVm vm0) hZ w2) hsel hpr (mvT (s := κ.s.setVm vm0) hZ wc) hy (Met.back (s := κ.s.setVm vm0) hM hZ wc wz hf hl) (g := mkF κ.m pc L (argsL.reverse ++ .ref a :: S)) rfl (hL.trans hml.symm) (Steps.refl _) (a := a) (by rw [e]; exact e1) e2 (argsL := argsL) (rest := S) hlen rfl (by show 2 * 0 + _ ≤ _; omega) (hb hby hd) (fun _ _ => ⟨rfl, e, by rw [← hk] at hk'; exact hk', by rw [← hn] at hn'; exact hn'⟩)
    refine Ends.call (Q' := Q') (T1 := ⟨T.setVm vm₁, locs, k, n⟩) M N rfl hpost hk hn X' ?_ hZ ho st (H v)
    have e0 := M.1 hw'
    subst e0
    exact Md.start _ _ _
theorem Ary.arv {a : Addr} {kA : ClassId} {ty : FieldType} {N : Nat} {f : Nat → Value} (A : Ary Z h a kA ty N f) (dv : Value) : Arv Z h a kA ty (Int32.ofNat N) ((List.range N).map f) dv := by
  obtain ⟨c, A, r1, r2, r3, r4, r5⟩ := A
  have e : (Int32.ofNat N).toNatClampNeg = N := by simp only [Int32.toNatClampNeg, Int32.toInt_ofNat_small r3]; omega
  have g : ∀ i, i < N → ((List.range N).map f).getD i dv = f i := fun i hi => by simp [List.getD_eq_getElem?_getD, hi]
  refine ⟨c, A, r1, by rw [e]; exact r2, ?_, fun i hi => ?_, fun i hi => ?_⟩
  · rw [Int32.lt_iff_toInt_lt, Int32.toInt_ofNat_small r3]; show ¬ (N : Int) < 0; omega
  · rw [g i (by omega)]; exact r4 i (by omega)
  · rw [g i (by omega)]; exact r5 i (by omega)
theorem Arv.ary {a : Addr} {kA : ClassId} {ty : FieldType} {N : Nat} {vs : List Value} {dv : Value} (r3 : N < 2 ^ 31) (A : Arv Z h a kA ty (Int32.ofNat N) vs dv) : Ary Z h a kA ty N (fun i => vs.getD i dv) := by
  obtain ⟨c, A, r1, r2, -, H, G⟩ := A
  have e : (Int32.ofNat N).toNatClampNeg = N := by simp only [Int32.toNatClampNeg, Int32.toInt_ofNat_small r3]; omega
  rw [e] at r2
  exact ⟨c, A, r1, r2, r3, fun i hi => H i (by omega), fun i hi => G i (by omega)⟩
theorem cp_get {f g : Nat → Value} {N i j m : Nat} {dv : Value} (hj : j + m ≤ N) {x : Nat} (hx : x < N) : (((List.range N).map g).take j ++ ((List.range m).map fun t => f (i + t)) ++ ((List.range N).map g).drop (j + m)).getD x dv = if j ≤ x ∧ x < j + m then f (i + (x - j)) else g x := by
  simp only [List.getD_eq_getElem?_getD]
  by_cases h1 : x < j
  · rw [List.append_assoc, List.getElem?_append_left (by simp; omega), if_neg (by omega)]
    simp [List.getElem?_take, h1, hx]
  · by_cases h2 : x < j + m
    · rw [List.append_assoc, List.getElem?_append_right (by simp; omega), if_pos ⟨by omega, h2⟩]
      have e : (((List.range N).map g).take j).length = j := by simp; omega
      rw [e, List.getElem?_append_left (by simp; omega)]
      simp [show x - j < m by omega]
    · rw [List.getElem?_append_right (by simp; omega), if_neg (by omega)]
      have e : (((List.range N).map g).take j ++ ((List.range m).map fun t => f (i + t))).length = j + m := by simp; omega
      rw [e]
      simp [List.getElem?_drop, show j + m + (x - (j + m)) = x by omega, hx]
theorem WP.arraycopy (K : Cx κ w l Z own n0 rm bytes maxL ret nm Q) {i0 W : Nat} {a b : Addr} {kA kB : ClassId} {ty : FieldType} {N M i j m : Nat} {f g : Nat → Value} {sp dp nn : Int32} (w1 : (Cond.methodLink own i0 Jvm.Stand.acN).before a0 Z = true) (w2 : (Cond.native Jvm.Stand.acN).before a0 Z = true) (w3 : (Cond.static Jvm.Stand.acN).before a0 Z = true) (w4 : (Cond.initialized "java/lang/System").before a0 Z = true)
    (A : Ary Z h a kA ty N f) (B : Ary Z h b kB ty M g) (hp : refKind ty = false) (hsp : sp.toInt = (i : Int)) (hdp : dp.toInt = (j : Int)) (hnn : nn.toInt = (m : Int)) (h1 : i + m ≤ N) (h2 : j + m ≤ M) (ha : n0 ≤ b) (hd : decode bytes pc = .ok (.invokestatic i0, 3)) (hL : L.size = maxL) (hf : 1 ≤ rm.frames) (hW : (S.map fun v => v.category).sum = W) (hl : W + (nativeFrameWords "java/lang/System" "arraycopy" 5 + 11) ≤ rm.locals) (hpc : pc + 3 = pc')
    (H : ∀ h', Keep h h' [b] → Ary Z h' b kB ty M (fun x => if j ≤ x ∧ x < j + m then f (i + (x - j)) else g x) → WP κ h' k n (mkF κ.m pc' L S)) : WP κ h k n (mkF κ.m pc L (.int nn :: .int dp :: .ref b :: .int sp :: .ref a :: S)) := by
  obtain ⟨hx, hby, hml, -, -, hnm, -, -, rfl, rfl, rfl, rfl, -⟩ := K
  subst hpc
  intro T locs vm0 X e M' hZ ho N'
  have nA := A.len; have nB := B.len
  have eA : (Int32.ofNat N).toNatClampNeg = N := by simp only [Int32.toNatClampNeg, Int32.toInt_ofNat_small nA]; omega
  have eB : (Int32.ofNat M).toNatClampNeg = M := by simp only [Int32.toNatClampNeg, Int32.toInt_ofNat_small nB]; omega
  have nn0 : ∀ {z : Int32} {q : Nat}, z.toInt = (q : Int) → ¬ z < 0 := fun {z q} hz => by rw [Int32.lt_iff_toInt_lt, hz]; show ¬ (q : Int) < 0; omega
  obtain ⟨T', h', L', X', e', NF, K', A', st⟩ := cpA X hx (s := κ.s.setVm vm0) hZ ho w1 w2 w3 w4 e (A.arv .null) (B.arv .null) (Or.inl ⟨rfl, hp⟩) (nn0 hsp) (nn0 hdp) (nn0 hnn) (by rw [nat_of hsp, nat_of hnn, eA]; exact h1) (by rw [nat_of hdp, nat_of hnn, eB]; exact h2) rfl (by rw [nat_of hdp, nat_of hnn]; simpa using h2) N' ha (g := mkF κ.m pc L (.int nn :: .int dp :: .ref b :: .int sp :: .ref a :: S)) rfl (hL.trans hml.symm) rfl (hb hby hd) hf (W := W) (by show 2 * 0 + _ ≤ _; omega) hl
  have A2 := (Arv.ary nB A').congr (f' := fun x => if j ≤ x ∧ x < j + m then f (i + (x - j)) else g x) (fun x hx' => by
    rw [nat_of hdp, nat_of hnn, nat_of hsp]
    have q : (List.map (fun t => ((List.range N).map f).getD (i + t) Value.null) (List.range m)) = (List.range m).map fun t => f (i + t) := List.map_congr_left fun t ht => by
      have := List.mem_range.mp ht
      simp [List.getD_eq_getElem?_getD, show i + t < N by omega]
    rw [q]
    exact cp_get h2 hx')
  obtain ⟨t, o, h1', r⟩ := H h' K' A2 T' _ vm0 X' e' (M'.mono K'.1) hZ ho NF
  exact ⟨t, o, st _ h1', r⟩
theorem WP.callF (K : Cx κ w l Z own n0 rm bytes maxL ret nm Q) {x y : MethodName} {by' : ByteArray} {mL' : Nat} {rt' : Option FieldType} {rm' : Room} {Q' : Option Value → Heap → Prop} {i W : Nat} {argsL : List Value} {S' : List Value} {a : Addr} {C : String} {cnt : Nat} (w1 : (Cond.methodLink own i x).before a0 Z = true) (w2 : (Cond.declares x).before a0 Z = true) (w3 : ∀ vm0 : Vm, Z.Warmed39 vm0 → (Cond.interfaceMethod x.cls x.cls x.name x.desc).before κ.a (κ.s.setVm vm0) = true) (w4 : (Cond.selects C x y).before a0 Z = true) (w5 : (Cond.instanceMethod y).before a0 Z = true) (w6 : (Cond.publicMethod y).before a0 Z = true) (w7 : (Cond.unhidden C x.name x.desc).before a0 Z = true) (w8 : (Cond.castable C x.cls).before a0 Z = true) (hx' : x.cls ≠ "java/lang/invoke/MethodHandle" ∧ x.cls ≠ "java/lang/invoke/VarHandle") (E : Exa Z h a C) (hM : Met w l Z y by' mL' rt' [] rm' (.ref a :: argsL).toArray h n0 Q') (wc : (Cond.code y by' mL' rt').before a0 Z = true) (wz : (Cond.initialized y.cls).before a0 Z = true) (hy : y.cls ≠ "java/lang/invoke/MethodHandle" ∧ y.cls ≠ "java/lang/invoke/VarHandle")
    (hL : L.size = maxL) (hlen : ∀ sig, parseMethodDescriptor x.desc = some sig → argsL.length = sig.parameters.length) (hS : S' = argsL.reverse ++ .ref a :: S) (hW : (S.map fun v => v.category).sum = W) (hf : rm'.frames + 1 ≤ rm.frames) (hl : W + (mL' + 11) + rm'.locals ≤ rm.locals) (hk : k + rm'.cells = k') (hn : n + rm'.slots = n') (hk' : k' ≤ rm.cells) (hn' : n' ≤ rm.slots) (hd : decode bytes pc = .ok (.invokeinterface i cnt, 5)) (hp : pc + 5 = pc')
    (H : ∀ (v : Option Value) (h' : Heap), Q' v h' → WP κ h' k' n' (mkF κ.m pc' L (v.toList ++ S))) : WP κ h k n (mkF κ.m pc L S') := by
  obtain ⟨hx, hby, hml, -, -, -, rfl, rfl, rfl, rfl, rfl, rfl, -⟩ := K
  subst hp hS
  intro T locs vm0 X e M hZ ho N
  obtain ⟨cB, kB, q1, q2, q3⟩ := isOf (s := κ.s.setVm vm0) hZ e E
  by_cases hw : κ.w = true
  · rw [hw] at hM
    obtain ⟨v, vm₁, B, -, X', hSi, hgr, hpost, st⟩ := X.interfaceBackS hx (xi := x) (y := y) ho (mvT (s := κ.s.setVm vm0) hZ w1) (mvT (s := κ.s.setVm vm0) hZ w2) (w3 vm0 hZ) (mvT (s := κ.s.setVm vm0) hZ w4) (mvT (s := κ.s.setVm vm0) hZ w5) (mvT (s := κ.s.setVm vm0) hZ w6) (mvT (s := κ.s.setVm vm0) hZ w7) (mvT (s := κ.s.setVm vm0) hZ w8) hx' (Met.backW (s := κ.s.setVm vm0) hM hZ wc wz hf hl) q1 q2 q3 (g := mkF κ.m pc L (argsL.reverse ++ .ref a :: S)) rfl (hL.trans hml.symm) (Steps.refl _) (argsL := argsL) (rest := S) hlen rfl (by show 2 * 0 + _ ≤ _; omega) (hb hby hd) (fun _ _ => ⟨rfl, e, by rw [← hk] at hk'; exact hk', by rw [← hn] at hn'; exact hn'⟩)
    obtain ⟨k0, hS0, hk0⟩ := M.2
    obtain ⟨X'', hS1, hZ1, ho1⟩ := rebS hS0 hk0 X' hSi (e ▸ hgr) hZ ho
    exact Ends.call (Q' := Q') (T1 := ⟨T.setVm vm₁, locs, k, n⟩) M N rfl hpost hk hn X'' ⟨fun q => (by rw [hw] at q; cases q), _, hS1, Nat.le_refl _⟩ hZ1 ho1 st (H v)
  · have hw' : κ.w = false := by simpa using hw
    rw [hw'] at hM
    obtain ⟨v, vm₁, B, -, X', hpost, st⟩ := X.interfaceBack hx (xi := x) (y := y) ho (mvT (s := κ.s.setVm vm0) hZ w1) (mvT (s := κ.s.setVm vm0) hZ w2) (w3 vm0 hZ) (mvT (s := κ.s.setVm vm0) hZ w4) (mvT (s := κ.s.setVm vm0) hZ w5) (mvT (s := κ.s.setVm vm0) hZ w6) (mvT (s := κ.s.setVm vm0) hZ w7) (mvT (s := κ.s.setVm vm0) hZ w8) hx' (Met.back (s := κ.s.setVm vm0) hM hZ wc wz hf hl) q1 q2 q3 (g := mkF κ.m pc L (argsL.reverse ++ .ref a :: S)) rfl (hL.trans hml.symm) (Steps.refl _) (argsL := argsL) (rest := S) hlen rfl (by show 2 * 0 + _ ≤ _; omega) (hb hby hd) (fun _ _ => ⟨rfl, e, by rw [← hk] at hk'; exact hk', by rw [← hn] at hn'; exact hn'⟩)
    refine Ends.call (Q' := Q') (T1 := ⟨T.setVm vm₁, locs, k, n⟩) M N rfl hpost hk hn X' ?_ hZ ho st (H v)
    have e0 := M.1 hw'
    subst e0
    exact Md.start _ _ _
theorem Ary.newR {cA : ClassId} {C : String} {z : Int32} {a : Addr} {N : Nat} (A : Arr Z h a (newA cA (.object C) z) (.object C)) (hz : z.toInt = (N : Int)) : Ary Z h a cA (.object C) N (fun _ => .null) := Ary.of_new (ty := .object C) A hz
theorem WP.anewarray (K : Cx κ w l Z own n0 rm bytes maxL ret nm Q) {i : Nat} {C : String} {z : Int32} {N cap : Nat} (w1 : (Cond.classLink own i C).before a0 Z = true) (w2 : (Cond.arrayOver (.object C)).before a0 Z = true) (hd : decode bytes pc = .ok (.anewarray i, 3)) (hz : z.toInt = (N : Int)) (hcap : N ≤ cap) (hbig : cap * 8 ≤ 536870912) (hk : k + 1 = k') (hn : n + cap = n') (hk' : k' ≤ rm.cells) (hn' : n' ≤ rm.slots) (hp : pc + 3 = pc')
    (H : ∀ (h' : Heap) (a : Addr) (kA : ClassId), @Eq Nat h.size a → Ext h h' → Ary Z h' a kA (.object C) N (fun _ => .null) → Ovr Z kA C → WP κ h' k' n' (mkF κ.m pc' L (.ref a :: S))) : WP κ h k n (mkF κ.m pc L (.int z :: S)) := by
  obtain ⟨hx, hby, -, -, -, hnm, -, -, rfl, rfl, rfl, rfl, -⟩ := K
  subst hp hk hn
  intro T locs vm0 X e M hZ ho N
  obtain ⟨T', h', cA, X', e', E, A, O, st⟩ := RoadKit.newR X hx (s := κ.s.setVm vm0) hZ ho w1 w2 e (g := mkF κ.m pc L (.int z :: S)) rfl (hb hby hd) rfl (by rw [Int32.lt_iff_toInt_lt, hz]; show ¬ _ < (0 : Int); omega) (cap := cap) (by rw [nat_of hz]; exact hcap) hbig hk' hn'
  obtain ⟨t, o, h1, r⟩ := H h' _ cA rfl E (Ary.newR A hz) O T' _ vm0 X' e' (M.mono E.1) hZ ho N
  exact ⟨t, o, st _ h1, r⟩
theorem WP.aastore (K : Cx κ w l Z own n0 rm bytes maxL ret nm Q) {a y : Addr} {kA : ClassId} {ty : FieldType} {C : String} {N i : Nat} {f : Nat → Value} {j : Int32} (A : Ary Z h a kA ty N f) (ht : ty.isReference = true) (O : Ovr Z kA C) (I : Ins Z h y C true) (hj : j.toInt = (i : Int)) (hi : i < N) (ha : n0 ≤ a) (hd : decode bytes pc = .ok (.aastore, 1)) (hp : pc + 1 = pc')
    (H : ∀ h', Wr h h' a i (.ref y) → Ary Z h' a kA ty N (upd f i (.ref y)) → WP κ h' k n (mkF κ.m pc' L S)) : WP κ h k n (mkF κ.m pc L (.ref y :: .int j :: .ref a :: S)) := by
  obtain ⟨hx, hby, -, -, -, hnm, -, -, rfl, rfl, rfl, rfl, -⟩ := K
  subst hp
  have A0 := A
  obtain ⟨c, A, q, r2, -⟩ := A
  intro T locs vm0 X e M hZ ho N
  obtain ⟨T', h', X', e', W, st⟩ := RoadKit.stR X hx (s := κ.s.setVm vm0) hZ e A (in_of r2 hj hi) ht (Sto.ofV A q O I) (g := mkF κ.m pc L (.ref y :: .int j :: .ref a :: S)) rfl rfl (hb hby hd)
  rw [nat_of hj] at W
  obtain ⟨t, o, h1, r⟩ := H h' W (A0.set W (by cases ty <;> first | rfl | (cases ht))) T' _ vm0 X' e' (M.mono (Nat.le_of_eq W.size.symm)) hZ ho (Fr.snoc X' N ha)
  exact ⟨t, o, st _ h1, r⟩
theorem WP.checkcast (K : Cx κ w l Z own n0 rm bytes maxL ret nm Q) {i : Nat} {C : String} {a : Addr} (w1 : (Cond.classLink own i C).before a0 Z = true) (I : Ins Z h a C true) (hd : decode bytes pc = .ok (.checkcast i, 3)) (hp : pc + 3 = pc') (H : WP κ h k n (mkF κ.m pc' L (.ref a :: S))) : WP κ h k n (mkF κ.m pc L (.ref a :: S)) := by
  obtain ⟨hx, hby, -, -, -, hnm, -, -, rfl, rfl, rfl, rfl, -⟩ := K
  subst hp
  intro T locs vm0 X e M hZ ho N
  obtain ⟨T', X', e', st⟩ := castY X hx (s := κ.s.setVm vm0) hZ ho w1 e I (g := mkF κ.m pc L (.ref a :: S)) rfl rfl (hb hby hd)
  obtain ⟨t, o, h1, r⟩ := H T' locs vm0 X' e' M hZ ho N
  exact ⟨t, o, st _ h1, r⟩
theorem WP.instY (K : Cx κ w l Z own n0 rm bytes maxL ret nm Q) {i : Nat} {C : String} {a : Addr} (w1 : (Cond.classLink own i C).before a0 Z = true) (I : Ins Z h a C true) (hd : decode bytes pc = .ok (.instanceof i, 3)) (hp : pc + 3 = pc') (H : WP κ h k n (mkF κ.m pc' L (.int 1 :: S))) : WP κ h k n (mkF κ.m pc L (.ref a :: S)) := by
  obtain ⟨hx, hby, -, -, -, hnm, -, -, rfl, rfl, rfl, rfl, -⟩ := K
  subst hp
  intro T locs vm0 X e M hZ ho N
  obtain ⟨T', X', e', st⟩ := RoadKit.instY X hx (s := κ.s.setVm vm0) hZ ho w1 e I (g := mkF κ.m pc L (.ref a :: S)) rfl rfl (hb hby hd)
  obtain ⟨t, o, h1, r⟩ := H T' locs vm0 X' e' M hZ ho N
  exact ⟨t, o, st _ h1, r⟩
/-- 'ldc' of a String constant (the wide mode alone): some String, of whose text nothing is said -/
theorem WP.ldcS (K : Cx κ true l Z own n0 rm bytes maxL ret nm Q) {i cap : Nat} {text : String} (w1 : (Cond.stringLink own i text).before a0 Z = true) (wS : ∀ a ∈ Bundle.stringAtoms, a.before a0 Z = true) (hd : decode bytes pc = .ok (.ldc i, 2)) (hcap : 4 * text.toList.length ≤ cap) (hbig : cap ≤ 536870912) (hk : k + 2 = k') (hn : n + (cap + 4) = n') (hk' : k' ≤ rm.cells) (hn' : n' ≤ rm.slots) (hp : pc + 2 = pc')
    (H : ∀ (h' : Heap) (a : Addr), Ext h h' → WP κ h' k' n' (mkF κ.m pc' L (.ref a :: S))) : WP κ h k n (mkF κ.m pc L S) := by
  obtain ⟨hx, hby, -, -, -, -, hw, -, rfl, rfl, rfl, rfl, -⟩ := K
  subst hp hk hn
  intro T locs vm0 X e M hZ ho N
  obtain ⟨k0, hS, hk0⟩ := M.2
  obtain ⟨a, T', h', k1, X', e', E, hS', hk1, hZ', ho', st⟩ := RoadKit.ldcS X hx hZ ho w1 wS e hS hk0 (g := mkF κ.m pc L S) rfl (hb hby hd) hcap hbig hk' hn'
  obtain ⟨t, o, h1, r⟩ := H h' a E T' locs T'.vm X' e' ⟨fun q => (by rw [hw] at q; cases q), k1, hS', hk1⟩ hZ' ho' N
  exact ⟨t, o, st _ h1, r⟩
theorem WP.newarrayE (K : Cx κ w l Z own n0 rm bytes maxL ret nm Q) {aty : ArrayType} {z : Int32} {N cap : Nat} {ad : String} (had : "[" ++ (newarray.typeOf aty).toString = ad) (w1 : (Cond.arrayClass (newarray.typeOf aty)).before a0 Z = true) (hd : decode bytes pc = .ok (.newarray aty, 2)) (hz : z.toInt = (N : Int)) (hcap : N ≤ cap) (hbig : cap * 8 ≤ 536870912) (hk : k + 1 = k') (hn : n + cap = n') (hk' : k' ≤ rm.cells) (hn' : n' ≤ rm.slots) (hp : pc + 2 = pc')
    (H : ∀ (h' : Heap) (a : Addr) (kA : ClassId), @Eq Nat h.size a → Ext h h' → Ary Z h' a kA (newarray.typeOf aty) N (fun _ => defaultValue (newarray.typeOf aty)) → Exa Z h' a ad → WP κ h' k' n' (mkF κ.m pc' L (.ref a :: S))) : WP κ h k n (mkF κ.m pc L (.int z :: S)) := by
  obtain ⟨hx, hby, -, -, -, hnm, -, -, rfl, rfl, rfl, rfl, -⟩ := K
  subst hp hk hn
  intro T locs vm0 X e M hZ ho N
  obtain ⟨T', h', cA, X', e', E, A, Ex, st⟩ := newPE X hx (s := κ.s.setVm vm0) hZ w1 e (g := mkF κ.m pc L (.int z :: S)) rfl (hb hby hd) rfl (by rw [Int32.lt_iff_toInt_lt, hz]; show ¬ _ < (0 : Int); omega) (cap := cap) (by rw [nat_of hz]; exact hcap) hbig hk' hn' had
  obtain ⟨t, o, h1, r⟩ := H h' _ cA rfl E (Ary.of_new A hz) Ex T' _ vm0 X' e' (M.mono E.1) hZ ho N
  exact ⟨t, o, st _ h1, r⟩
/-- the native clone of an array -/
theorem WP.cloneA (K : Cx κ w l Z own n0 rm bytes maxL ret nm Q) {i W cap : Nat} {ad : String} {a : Addr} {kA : ClassId} {ty : FieldType} {N : Nat} {f : Nat → Value} (w1 : (Cond.methodLink own i ⟨ad, "clone", "()Ljava/lang/Object;"⟩).before a0 Z = true) (w2 : (Cond.sameMethod ad "java/lang/Object" "clone" "()Ljava/lang/Object;").before a0 Z = true) (w3 : (Cond.native ⟨"java/lang/Object", "clone", "()Ljava/lang/Object;"⟩).before a0 Z = true)
    (w4 : (Cond.instanceMethod ⟨"java/lang/Object", "clone", "()Ljava/lang/Object;"⟩).before a0 Z = true) (w5 : (Cond.selects ad ⟨ad, "clone", "()Ljava/lang/Object;"⟩ ⟨"java/lang/Object", "clone", "()Ljava/lang/Object;"⟩).before a0 Z = true) (w6 : (Cond.castable ad "java/lang/Cloneable").before a0 Z = true)
    (A : Ary Z h a kA ty N f) (E : Exa Z h a ad) (hd : decode bytes pc = .ok (.invokevirtual i, 3)) (hL : L.size = maxL) (hf : 1 ≤ rm.frames) (hW : (S.map fun v => v.category).sum = W) (hl : W + 14 ≤ rm.locals) (hcap : N ≤ cap) (hk : k + 1 = k') (hn : n + cap = n') (hk' : k' ≤ rm.cells) (hn' : n' ≤ rm.slots) (hp : pc + 3 = pc')
    (H : ∀ (h' : Heap) (b : Addr), @Eq Nat h.size b → Ext h h' → Ary Z h' b kA ty N f → Exa Z h' b ad → WP κ h' k' n' (mkF κ.m pc' L (.ref b :: S))) : WP κ h k n (mkF κ.m pc L (.ref a :: S)) := by
  obtain ⟨hx, hby, hml, -, -, -, -, -, rfl, rfl, rfl, rfl, -⟩ := K
  subst hp hk hn
  intro T locs vm0 X e M hZ ho N'
  obtain ⟨c, A, r1, r2, r3, r4, r5⟩ := A
  have FC : FitC κ.Z c := fitC_of A fun i hi v hv => by rw [r4 i (by omega)] at hv; cases hv; exact r5 i (by omega)
  obtain ⟨T', h', X', e', E', A', Ex, st⟩ := RoadKit.cloneA X hx (s := κ.s.setVm vm0) hZ ho w1 w2 w3 w4 w5 w6 e A E FC (g := mkF κ.m pc L (.ref a :: S)) rfl (hL.trans hml.symm) rfl (hb hby hd) hf (W := W) (by show 2 * 0 + _ ≤ _; omega) hl (cap := cap) (by rw [r2]; exact hcap) hk' hn'
  obtain ⟨t, o, h1, r⟩ := H h' _ rfl E' ⟨cloneOf c, A', r1, r2, r3, r4, r5⟩ Ex T' _ vm0 X' e' (M.mono E'.1) hZ ho N'
  exact ⟨t, o, st _ h1, r⟩
end Rules
end Jvm.OwnW
namespace Jvm.Pilot.@@N@@
open Jvm Jvm.ClassFile Sem Op Lib Jvm.Free Jvm.Stand Jvm.LawKit Jvm.RoadKit Bundle Jvm.OwnW Jvm.Pilot.@@N@@.Jvm.D

def own_One (s : Slot) : Prop := s = .unset ∨ ∃ w : Value, s = .val w ∧ w.category = 1
theorem own_One.u : own_One .unset := Or.inl rfl
theorem own_One.v {w : Value} (h : w.category = 1) : own_One (.val w) := Or.inr ⟨w, rfl, h⟩
theorem own_add1 {x : Int32} {k : Nat} (hx : x.toInt = (k : Int)) (h : k < 10000) : (x + (1 : Int32)).toInt = ((k + 1 : Nat) : Int) := by
  have q := c_iadd x 1; have r := rng32 (x + 1); have e : (1 : Int32).toInt = 1 := (by decide); omega
theorem own_sub {x y : Int32} {a b : Nat} (hx : x.toInt = (a : Int)) (hy : y.toInt = (b : Int)) (h : b ≤ a) : (x - y).toInt = ((a - b : Nat) : Int) := by
  have q := c_isub x y; have r := rng32 (x - y); have r1 := rng32 x; omega
theorem own_rem {x y : Int32} {a b : Nat} (hx : x.toInt = (a : Int)) (hy : y.toInt = (b : Int)) : (x % y).toInt = ((a % b : Nat) : Int) := by
  rw [(c_irem x y b hy).1 (by omega), hx]; exact (Int.natCast_emod a b).symm
theorem own_div {x y : Int32} {a b : Nat} (hx : x.toInt = (a : Int)) (hy : y.toInt = (b : Int)) : (x / y).toInt = ((a / b : Nat) : Int) := by
  rw [(c_idiv x y b hy (fun q => by rw [q] at hy; have e : (-1 : Int32).toInt = -1 := (by decide); omega)).1 (by omega), hx]; exact (Int.natCast_ediv a b).symm
theorem own_nz {y : Int32} {b : Nat} (hy : y.toInt = (b : Int)) (h : 0 < b) : y ≠ 0 := fun q => by rw [q] at hy; have e : (0 : Int32).toInt = 0 := rfl; omega
theorem own_mulx {x y : Int32} {a b : Nat} (hx : x.toInt = (a : Int)) (hy : y.toInt = (b : Int)) (h : a * b < 2147483648) : (x.toInt64 * y.toInt64).toInt = ((a * b : Nat) : Int) := by
  have q := c_lmul x.toInt64 y.toInt64; have r := rng64 (x.toInt64 * y.toInt64)
  rw [c_i2l, c_i2l, hx, hy] at q
  have e : (a : Int) * (b : Int) = ((a * b : Nat) : Int) := (Int.natCast_mul a b).symm
  rw [e] at q
  generalize a * b = m at *
  omega
theorem own_mul32 {m : Int64} {c : Nat} (hm : m.toInt = (c : Int)) (h : c < 2147483648) : m.toInt32.toInt = (c : Int) := by
  have q := c_l2i m; have r := rng32 m.toInt32; omega
def own_full (b1 b2 : Nat) (T : Nat → Int32) : Prop := ∀ m, m ≤ 4096 → (b1 ∣ m ∨ b2 ∣ m) → T m = 1
def own_inv (b1 b2 k : Nat) (T : Nat → Int32) : Prop := (∀ m, m < k → (b1 ∣ m ∨ b2 ∣ m) → T m = 1) ∧ ∀ m, k ≤ m → T m = 0
theorem own_inv_step {b1 b2 k : Nat} {T G : Nat → Int32} (I : own_inv b1 b2 k T) (hG : ∀ m, m ≠ k → G m = T m) (hk : b1 ∣ k ∨ b2 ∣ k → G k = 1) : own_inv b1 b2 (k + 1) G := by
  refine ⟨fun m hm hd => ?_, fun m hm => ?_⟩
  · by_cases e : m = k
    · subst e; exact hk hd
    · rw [hG m e]; exact I.1 m (by omega) hd
  · rw [hG m (by omega)]; exact I.2 m (by omega)
theorem own_inv_0 (b1 b2 : Nat) : own_inv b1 b2 1 (fset (fun _ => (0 : Int32)) 0 (nar .boolean (1 : Int32))) := by
  refine ⟨fun m hm _ => ?_, fun m hm => ?_⟩
  · obtain rfl : m = 0 := by omega
    exact (fset_same _ _ _).trans (by decide)
  · exact fset_ne _ _ (by omega)
theorem own_per {b1 b2 : Nat} (h1 : 1 ≤ b1) (h2 : 1 ≤ b2) : 0 < b1 / Nat.gcd b1 b2 * b2 ∧ b1 ∣ b1 / Nat.gcd b1 b2 * b2 ∧ b2 ∣ b1 / Nat.gcd b1 b2 * b2 := by
  have g0 : 0 < Nat.gcd b1 b2 := Nat.gcd_pos_of_pos_left _ h1
  refine ⟨Nat.mul_pos (Nat.div_pos (Nat.le_of_dvd h1 (Nat.gcd_dvd_left _ _)) g0) h2, ?_, Nat.dvd_mul_left _ _⟩
  obtain ⟨c, hc⟩ := Nat.gcd_dvd_right b1 b2
  have e : b1 / Nat.gcd b1 b2 * b2 = b1 * c := by
    calc b1 / Nat.gcd b1 b2 * b2 = b1 / Nat.gcd b1 b2 * (Nat.gcd b1 b2 * c) := by rw [← hc]
      _ = b1 / Nat.gcd b1 b2 * Nat.gcd b1 b2 * c := by rw [Nat.mul_assoc]
      _ = b1 * c := by rw [Nat.div_mul_cancel (Nat.gcd_dvd_left _ _)]
  rw [e]; exact Nat.dvd_mul_right _ _
def own_lvl (size other per len fl : Int32) : Int32 := if len < size then 0 else if (len % size) = (0 : Int32) ∧ len < per then 1 else if fl = (0 : Int32) then 5 else if (len % per) = (0 : Int32) then 3 else if (len % other) = (0 : Int32) ∧ len < per then 4 else 2
theorem own_b1 (p : Int32) : ∃ b : Nat, ((1 : Int32) + (p &&& (2147483647 : Int32)) % (4095 : Int32)).toInt = (b : Int) ∧ 1 ≤ b ∧ b ≤ 4095 := by
  have e1 : (p &&& (2147483647 : Int32)).toInt = p.toInt % 2147483648 := c_mask p 2147483647 31 (by decide) (by decide)
  have e2 := (c_irem (p &&& (2147483647 : Int32)) 4095 4095 (by decide)).1 (by omega)
  have q := c_iadd 1 ((p &&& (2147483647 : Int32)) % (4095 : Int32)); have r := rng32 ((1 : Int32) + (p &&& (2147483647 : Int32)) % (4095 : Int32)); have e : (1 : Int32).toInt = 1 := (by decide)
  exact ⟨((1 : Int32) + (p &&& (2147483647 : Int32)) % (4095 : Int32)).toInt.toNat, by omega, by omega, by omega⟩
theorem own_4096 {x : Int32} {b : Nat} (hx : x.toInt = (b : Int)) (h : b ≤ 4095) : ((4096 : Int32) - x).toInt = 4096 - (b : Int) := by
  have q := c_isub 4096 x; have r := rng32 ((4096 : Int32) - x); have e : (4096 : Int32).toInt = 4096 := (by decide); omega
theorem own_4096nz {x : Int32} {b : Nat} (hx : x.toInt = (b : Int)) (h : b ≤ 4095) : (4096 : Int32) - x ≠ 0 := fun q => by
  have e := own_4096 hx h; rw [q] at e; have e0 : (0 : Int32).toInt = 0 := rfl; omega
theorem own_b2 (p : Int32) {x : Int32} {b : Nat} (hx : x.toInt = (b : Int)) (h0 : 1 ≤ b) (h : b ≤ 4095) : ∃ c : Nat, ((x + (1 : Int32)) + (p &&& (2147483647 : Int32)) % ((4096 : Int32) - x)).toInt = (c : Int) ∧ 1 ≤ c ∧ c ≤ 4096 := by
  have e1 : (p &&& (2147483647 : Int32)).toInt = p.toInt % 2147483648 := c_mask p 2147483647 31 (by decide) (by decide)
  have e2 := own_4096 hx h
  have e3 := (c_iremV (p &&& (2147483647 : Int32)) ((4096 : Int32) - x)).1 (by omega) (by omega)
  have e4 := own_add1 hx (by omega)
  have q := c_iadd (x + (1 : Int32)) ((p &&& (2147483647 : Int32)) % ((4096 : Int32) - x)); have r := rng32 ((x + (1 : Int32)) + (p &&& (2147483647 : Int32)) % ((4096 : Int32) - x))
  exact ⟨((x + (1 : Int32)) + (p &&& (2147483647 : Int32)) % ((4096 : Int32) - x)).toInt.toNat, by omega, by omega, by omega⟩
theorem own_len (p : Int32) : ∃ b : Nat, ((p &&& (2147483647 : Int32)) % (4097 : Int32)).toInt = (b : Int) ∧ b ≤ 4096 := by
  have e1 : (p &&& (2147483647 : Int32)).toInt = p.toInt % 2147483648 := c_mask p 2147483647 31 (by decide) (by decide)
  have e2 := (c_irem (p &&& (2147483647 : Int32)) 4097 4097 (by decide)).1 (by omega)
  exact ⟨((p &&& (2147483647 : Int32)) % (4097 : Int32)).toInt.toNat, by omega, by omega⟩
theorem own_rem0 {x y : Int32} {a b : Nat} (hx : x.toInt = (a : Int)) (hy : y.toInt = (b : Int)) : (x % y) = (0 : Int32) ↔ b ∣ a := by
  have e := own_rem hx hy
  rw [Nat.dvd_iff_mod_eq_zero]
  constructor
  · intro q; rw [q] at e; have e0 : (0 : Int32).toInt = 0 := rfl; omega
  · intro q; rw [q] at e; exact Int32.toInt_inj.mp e
theorem own_lt {x y : Int32} {a b : Nat} (hx : x.toInt = (a : Int)) (hy : y.toInt = (b : Int)) : x < y ↔ a < b := by rw [Int32.lt_iff_toInt_lt]; omega
theorem own_law {size other per len fl : Int32} {s o n P : Nat} (hs : size.toInt = (s : Int)) (ho : other.toInt = (o : Int)) (hlen : len.toInt = (n : Int)) (hP : per.toInt = (P : Int)) (s0 : 0 < s) (P0 : 0 < P) (o0 : 0 < o) (h1 : P ∣ n → fl = 1) (h2 : s ∣ n → fl = 1) : own_lvl size other per len fl = (if len < size then (0 : Int32) else (if (len % per) = (0 : Int32) then (3 : Int32) else (if fl = (0 : Int32) then (5 : Int32) else (if len < per then (if (len % size) = (0 : Int32) then (1 : Int32) else (if (len % other) = (0 : Int32) then (4 : Int32) else (2 : Int32))) else (2 : Int32))))) := by
  unfold own_lvl
  have a1 := own_lt hlen hs; have a2 := own_lt hlen hP; have a3 := own_rem0 hlen hs; have a4 := own_rem0 hlen hP; have a5 := own_rem0 hlen ho
  by_cases c1 : len < size
  · simp only [if_pos c1]
  simp only [if_neg c1]
  have n0 : 0 < n := by rw [a1] at c1; omega
  by_cases c2 : (len % per) = (0 : Int32)
  · have d := a4.mp c2
    have c3 : ¬ len < per := by rw [a2]; have := Nat.le_of_dvd n0 d; omega
    have f1 : ¬ fl = (0 : Int32) := by rw [h1 d]; decide
    simp only [c2, c3, f1, if_true, if_false, and_false]
  · by_cases c4 : (len % size) = (0 : Int32)
    · have f1 : ¬ fl = (0 : Int32) := by rw [h2 (a3.mp c4)]; decide
      by_cases c3 : len < per <;> by_cases c5 : (len % other) = (0 : Int32) <;> simp only [c2, c3, c4, c5, f1, if_true, if_false, and_false, and_true]
    · by_cases f1 : fl = (0 : Int32) <;> by_cases c3 : len < per <;> by_cases c5 : (len % other) = (0 : Int32) <;> simp only [c2, c3, c4, c5, f1, if_true, if_false, and_false, and_true, false_and]
theorem w_0 {Z : State} {a0 : Array Value} (hw : ∀ d ∈ tables_1, d.before a0 Z = true) : (Jvm.Cond.constant "com/example/wedge/wedge/link/FunctionalVoidLevelPinLaw" (7 : Nat) (2147483647 : Int32)).before a0 Z = true := hw _ (List.mem_of_getElem? (i := 0) rfl)
theorem w_1 {Z : State} {a0 : Array Value} (hw : ∀ d ∈ tables_1, d.before a0 Z = true) : (Jvm.Cond.arrayClass Jvm.ClassFile.FieldType.int).before a0 Z = true := hw _ (List.mem_of_getElem? (i := 1) rfl)
theorem w_2 {Z : State} {a0 : Array Value} (hw : ∀ d ∈ tables_1, d.before a0 Z = true) : (Jvm.Cond.classLink "com/example/wedge/wedge/link/FunctionalVoidLevelPinLaw" (8 : Nat) "com/example/wedge/wedge/voids/Fillability").before a0 Z = true := hw _ (List.mem_of_getElem? (i := 2) rfl)
theorem w_3 {Z : State} {a0 : Array Value} (hw : ∀ d ∈ tables_1, d.before a0 Z = true) : (Jvm.Cond.instantiable "com/example/wedge/wedge/voids/Fillability" (2 : Nat)).before a0 Z = true := hw _ (List.mem_of_getElem? (i := 3) rfl)
theorem w_4 {Z : State} {a0 : Array Value} (hw : ∀ d ∈ tables_1, d.before a0 Z = true) : (Jvm.Cond.initialized "com/example/wedge/wedge/voids/Fillability").before a0 Z = true := hw _ (List.mem_of_getElem? (i := 4) rfl)
theorem w_5 {Z : State} {a0 : Array Value} (hw : ∀ d ∈ tables_1, d.before a0 Z = true) : (Jvm.Cond.methodLink "com/example/wedge/wedge/link/FunctionalVoidLevelPinLaw" (10 : Nat) ({ cls := "com/example/wedge/wedge/voids/Fillability", name := "<init>", desc := "([II)V" } : Jvm.MethodName)).before a0 Z = true := hw _ (List.mem_of_getElem? (i := 5) rfl)
theorem w_6 {Z : State} {a0 : Array Value} (hw : ∀ d ∈ tables_1, d.before a0 Z = true) : (Jvm.Cond.instanceMethod ({ cls := "com/example/wedge/wedge/voids/Fillability", name := "<init>", desc := "([II)V" } : Jvm.MethodName)).before a0 Z = true := hw _ (List.mem_of_getElem? (i := 6) rfl)
theorem w_7 {Z : State} {a0 : Array Value} (hw : ∀ d ∈ tables_1, d.before a0 Z = true) : (Jvm.Cond.code ({ cls := "com/example/wedge/wedge/voids/Fillability", name := "<init>", desc := "([II)V" } : Jvm.MethodName) prog_25_method_1_code (7 : Nat) (Option.none : Option Jvm.ClassFile.FieldType)).before a0 Z = true := hw _ (List.mem_of_getElem? (i := 7) rfl)
theorem w_8 {Z : State} {a0 : Array Value} (hw : ∀ d ∈ tables_1, d.before a0 Z = true) : (Jvm.Cond.methodLink "com/example/wedge/wedge/voids/Fillability" (3 : Nat) ({ cls := "java/lang/Object", name := "<init>", desc := "()V" } : Jvm.MethodName)).before a0 Z = true := hw _ (List.mem_of_getElem? (i := 8) rfl)
theorem w_9 {Z : State} {a0 : Array Value} (hw : ∀ d ∈ tables_1, d.before a0 Z = true) : (Jvm.Cond.instanceMethod ({ cls := "java/lang/Object", name := "<init>", desc := "()V" } : Jvm.MethodName)).before a0 Z = true := hw _ (List.mem_of_getElem? (i := 9) rfl)
theorem w_10 {Z : State} {a0 : Array Value} (hw : ∀ d ∈ tables_1, d.before a0 Z = true) : (Jvm.Cond.code ({ cls := "java/lang/Object", name := "<init>", desc := "()V" } : Jvm.MethodName) object_method_1_code (1 : Nat) (Option.none : Option Jvm.ClassFile.FieldType)).before a0 Z = true := hw _ (List.mem_of_getElem? (i := 10) rfl)
theorem w_11 {Z : State} {a0 : Array Value} (hw : ∀ d ∈ tables_1, d.before a0 Z = true) : (Jvm.Cond.stringLink "com/example/wedge/wedge/voids/Fillability" (9 : Nat) "sizes").before a0 Z = true := hw _ (List.mem_of_getElem? (i := 11) rfl)
theorem w_12 {Z : State} {a0 : Array Value} (hw : ∀ d ∈ tables_1, d.before a0 Z = true) : (Jvm.Cond.initialized "java/lang/String").before a0 Z = true := hw _ (List.mem_of_getElem? (i := 12) rfl)
theorem w_13 {Z : State} {a0 : Array Value} (hw : ∀ d ∈ tables_1, d.before a0 Z = true) : (Jvm.Cond.instantiable "java/lang/String" (4 : Nat)).before a0 Z = true := hw _ (List.mem_of_getElem? (i := 13) rfl)
theorem w_14 {Z : State} {a0 : Array Value} (hw : ∀ d ∈ tables_1, d.before a0 Z = true) : (Jvm.Cond.arrayClass Jvm.ClassFile.FieldType.byte).before a0 Z = true := hw _ (List.mem_of_getElem? (i := 14) rfl)
theorem w_15 {Z : State} {a0 : Array Value} (hw : ∀ d ∈ tables_1, d.before a0 Z = true) : (Jvm.Cond.laysFinal "java/lang/String" "java/lang/String" "value" "[B").before a0 Z = true := hw _ (List.mem_of_getElem? (i := 15) rfl)
theorem w_16 {Z : State} {a0 : Array Value} (hw : ∀ d ∈ tables_1, d.before a0 Z = true) : (Jvm.Cond.laysFinal "java/lang/String" "java/lang/String" "coder" "B").before a0 Z = true := hw _ (List.mem_of_getElem? (i := 16) rfl)
theorem w_17 {Z : State} {a0 : Array Value} (hw : ∀ d ∈ tables_1, d.before a0 Z = true) : (Jvm.Cond.soleField "java/lang/String" "value").before a0 Z = true := hw _ (List.mem_of_getElem? (i := 17) rfl)
theorem w_18 {Z : State} {a0 : Array Value} (hw : ∀ d ∈ tables_1, d.before a0 Z = true) : (Jvm.Cond.soleField "java/lang/String" "coder").before a0 Z = true := hw _ (List.mem_of_getElem? (i := 18) rfl)
theorem w_19 {Z : State} {a0 : Array Value} (hw : ∀ d ∈ tables_1, d.before a0 Z = true) : (Jvm.Cond.methodLink "com/example/wedge/wedge/voids/Fillability" (11 : Nat) ({ cls := "java/util/Objects", name := "requireNonNull", desc := "(Ljava/lang/Object;Ljava/lang/String;)Ljava/lang/Object;" } : Jvm.MethodName)).before a0 Z = true := hw _ (List.mem_of_getElem? (i := 19) rfl)
theorem w_20 {Z : State} {a0 : Array Value} (hw : ∀ d ∈ tables_1, d.before a0 Z = true) : (Jvm.Cond.static ({ cls := "java/util/Objects", name := "requireNonNull", desc := "(Ljava/lang/Object;Ljava/lang/String;)Ljava/lang/Object;" } : Jvm.MethodName)).before a0 Z = true := hw _ (List.mem_of_getElem? (i := 20) rfl)
theorem w_21 {Z : State} {a0 : Array Value} (hw : ∀ d ∈ tables_1, d.before a0 Z = true) : (Jvm.Cond.initialized "java/util/Objects").before a0 Z = true := hw _ (List.mem_of_getElem? (i := 21) rfl)
theorem w_22 {Z : State} {a0 : Array Value} (hw : ∀ d ∈ tables_1, d.before a0 Z = true) : (Jvm.Cond.code ({ cls := "java/util/Objects", name := "requireNonNull", desc := "(Ljava/lang/Object;Ljava/lang/String;)Ljava/lang/Object;" } : Jvm.MethodName) jdk_31_method_11_code (2 : Nat) (Option.some (Jvm.ClassFile.FieldType.object "java/lang/Object"))).before a0 Z = true := hw _ (List.mem_of_getElem? (i := 22) rfl)
theorem w_23 {Z : State} {a0 : Array Value} (hw : ∀ d ∈ tables_1, d.before a0 Z = true) : (Jvm.Cond.methodLink "com/example/wedge/wedge/voids/Fillability" (31 : Nat) ({ cls := "com/example/wedge/wedge/voids/Fillability", name := "checkUpTo", desc := "(I)V" } : Jvm.MethodName)).before a0 Z = true := hw _ (List.mem_of_getElem? (i := 23) rfl)
theorem w_24 {Z : State} {a0 : Array Value} (hw : ∀ d ∈ tables_1, d.before a0 Z = true) : (Jvm.Cond.static ({ cls := "com/example/wedge/wedge/voids/Fillability", name := "checkUpTo", desc := "(I)V" } : Jvm.MethodName)).before a0 Z = true := hw _ (List.mem_of_getElem? (i := 24) rfl)
theorem w_25 {Z : State} {a0 : Array Value} (hw : ∀ d ∈ tables_1, d.before a0 Z = true) : (Jvm.Cond.code ({ cls := "com/example/wedge/wedge/voids/Fillability", name := "checkUpTo", desc := "(I)V" } : Jvm.MethodName) prog_25_method_2_code (1 : Nat) (Option.none : Option Jvm.ClassFile.FieldType)).before a0 Z = true := hw _ (List.mem_of_getElem? (i := 25) rfl)
theorem w_26 {Z : State} {a0 : Array Value} (hw : ∀ d ∈ tables_1, d.before a0 Z = true) : (Jvm.Cond.methodLink "com/example/wedge/wedge/voids/Fillability" (35 : Nat) ({ cls := "[I", name := "clone", desc := "()Ljava/lang/Object;" } : Jvm.MethodName)).before a0 Z = true := hw _ (List.mem_of_getElem? (i := 26) rfl)
theorem w_27 {Z : State} {a0 : Array Value} (hw : ∀ d ∈ tables_1, d.before a0 Z = true) : (Jvm.Cond.sameMethod "[I" "java/lang/Object" "clone" "()Ljava/lang/Object;").before a0 Z = true := hw _ (List.mem_of_getElem? (i := 27) rfl)
theorem w_29 {Z : State} {a0 : Array Value} (hw : ∀ d ∈ tables_1, d.before a0 Z = true) : (Jvm.Cond.instanceMethod ({ cls := "java/lang/Object", name := "clone", desc := "()Ljava/lang/Object;" } : Jvm.MethodName)).before a0 Z = true := hw _ (List.mem_of_getElem? (i := 29) rfl)
theorem w_30 {Z : State} {a0 : Array Value} (hw : ∀ d ∈ tables_1, d.before a0 Z = true) : (Jvm.Cond.selects "[I" ({ cls := "[I", name := "clone", desc := "()Ljava/lang/Object;" } : Jvm.MethodName) ({ cls := "java/lang/Object", name := "clone", desc := "()Ljava/lang/Object;" } : Jvm.MethodName)).before a0 Z = true := hw _ (List.mem_of_getElem? (i := 30) rfl)
theorem w_31 {Z : State} {a0 : Array Value} (hw : ∀ d ∈ tables_1, d.before a0 Z = true) : (Jvm.Cond.native ({ cls := "java/lang/Object", name := "clone", desc := "()Ljava/lang/Object;" } : Jvm.MethodName)).before a0 Z = true := hw _ (List.mem_of_getElem? (i := 31) rfl)
theorem w_32 {Z : State} {a0 : Array Value} (hw : ∀ d ∈ tables_1, d.before a0 Z = true) : (Jvm.Cond.castable "[I" "java/lang/Cloneable").before a0 Z = true := hw _ (List.mem_of_getElem? (i := 32) rfl)
theorem w_33 {Z : State} {a0 : Array Value} (hw : ∀ d ∈ tables_1, d.before a0 Z = true) : (Jvm.Cond.classLink "com/example/wedge/wedge/voids/Fillability" (36 : Nat) "[I").before a0 Z = true := hw _ (List.mem_of_getElem? (i := 33) rfl)
theorem w_34 {Z : State} {a0 : Array Value} (hw : ∀ d ∈ tables_1, d.before a0 Z = true) : (Jvm.Cond.castable "[I" "[I").before a0 Z = true := hw _ (List.mem_of_getElem? (i := 34) rfl)
theorem w_35 {Z : State} {a0 : Array Value} (hw : ∀ d ∈ tables_1, d.before a0 Z = true) : (Jvm.Cond.fieldLink "com/example/wedge/wedge/voids/Fillability" (41 : Nat) "com/example/wedge/wedge/voids/Fillability" "sizes" "[I").before a0 Z = true := hw _ (List.mem_of_getElem? (i := 35) rfl)
theorem w_36 {Z : State} {a0 : Array Value} (hw : ∀ d ∈ tables_1, d.before a0 Z = true) : (Jvm.Cond.laysFinal "com/example/wedge/wedge/voids/Fillability" "com/example/wedge/wedge/voids/Fillability" "sizes" "[I").before a0 Z = true := hw _ (List.mem_of_getElem? (i := 36) rfl)
theorem w_37 {Z : State} {a0 : Array Value} (hw : ∀ d ∈ tables_1, d.before a0 Z = true) : (Jvm.Cond.methodLink "com/example/wedge/wedge/voids/Fillability" (43 : Nat) ({ cls := "com/example/wedge/wedge/voids/Fillability", name := "table", desc := "([II)[Z" } : Jvm.MethodName)).before a0 Z = true := hw _ (List.mem_of_getElem? (i := 37) rfl)
theorem w_38 {Z : State} {a0 : Array Value} (hw : ∀ d ∈ tables_1, d.before a0 Z = true) : (Jvm.Cond.static ({ cls := "com/example/wedge/wedge/voids/Fillability", name := "table", desc := "([II)[Z" } : Jvm.MethodName)).before a0 Z = true := hw _ (List.mem_of_getElem? (i := 38) rfl)
theorem w_39 {Z : State} {a0 : Array Value} (hw : ∀ d ∈ tables_1, d.before a0 Z = true) : (Jvm.Cond.code ({ cls := "com/example/wedge/wedge/voids/Fillability", name := "table", desc := "([II)[Z" } : Jvm.MethodName) prog_25_method_12_code (5 : Nat) (Option.some (Jvm.ClassFile.FieldType.array Jvm.ClassFile.FieldType.boolean))).before a0 Z = true := hw _ (List.mem_of_getElem? (i := 39) rfl)
theorem w_40 {Z : State} {a0 : Array Value} (hw : ∀ d ∈ tables_1, d.before a0 Z = true) : (Jvm.Cond.arrayClass Jvm.ClassFile.FieldType.boolean).before a0 Z = true := hw _ (List.mem_of_getElem? (i := 40) rfl)
theorem w_41 {Z : State} {a0 : Array Value} (hw : ∀ d ∈ tables_1, d.before a0 Z = true) : (Jvm.Cond.fieldLink "com/example/wedge/wedge/voids/Fillability" (47 : Nat) "com/example/wedge/wedge/voids/Fillability" "fillable" "[Z").before a0 Z = true := hw _ (List.mem_of_getElem? (i := 41) rfl)
theorem w_42 {Z : State} {a0 : Array Value} (hw : ∀ d ∈ tables_1, d.before a0 Z = true) : (Jvm.Cond.laysFinal "com/example/wedge/wedge/voids/Fillability" "com/example/wedge/wedge/voids/Fillability" "fillable" "[Z").before a0 Z = true := hw _ (List.mem_of_getElem? (i := 42) rfl)
theorem w_43 {Z : State} {a0 : Array Value} (hw : ∀ d ∈ tables_1, d.before a0 Z = true) : (Jvm.Cond.methodLink "com/example/wedge/wedge/link/FunctionalVoidLevelPinLaw" (13 : Nat) ({ cls := "com/example/wedge/wedge/voids/Fillability", name := "period", desc := "()I" } : Jvm.MethodName)).before a0 Z = true := hw _ (List.mem_of_getElem? (i := 43) rfl)
theorem w_44 {Z : State} {a0 : Array Value} (hw : ∀ d ∈ tables_1, d.before a0 Z = true) : (Jvm.Cond.declares ({ cls := "com/example/wedge/wedge/voids/Fillability", name := "period", desc := "()I" } : Jvm.MethodName)).before a0 Z = true := hw _ (List.mem_of_getElem? (i := 44) rfl)
theorem w_45 {Z : State} {a0 : Array Value} (hw : ∀ d ∈ tables_1, d.before a0 Z = true) : (Jvm.Cond.instanceMethod ({ cls := "com/example/wedge/wedge/voids/Fillability", name := "period", desc := "()I" } : Jvm.MethodName)).before a0 Z = true := hw _ (List.mem_of_getElem? (i := 45) rfl)
theorem w_46 {Z : State} {a0 : Array Value} (hw : ∀ d ∈ tables_1, d.before a0 Z = true) : (Jvm.Cond.selects "com/example/wedge/wedge/voids/Fillability" ({ cls := "com/example/wedge/wedge/voids/Fillability", name := "period", desc := "()I" } : Jvm.MethodName) ({ cls := "com/example/wedge/wedge/voids/Fillability", name := "period", desc := "()I" } : Jvm.MethodName)).before a0 Z = true := hw _ (List.mem_of_getElem? (i := 46) rfl)
theorem w_47 {Z : State} {a0 : Array Value} (hw : ∀ d ∈ tables_1, d.before a0 Z = true) : (Jvm.Cond.code ({ cls := "com/example/wedge/wedge/voids/Fillability", name := "period", desc := "()I" } : Jvm.MethodName) prog_25_method_6_code (6 : Nat) (Option.some Jvm.ClassFile.FieldType.int)).before a0 Z = true := hw _ (List.mem_of_getElem? (i := 47) rfl)
theorem w_48 {Z : State} {a0 : Array Value} (hw : ∀ d ∈ tables_1, d.before a0 Z = true) : (Jvm.Cond.methodLink "com/example/wedge/wedge/voids/Fillability" (53 : Nat) ({ cls := "com/example/wedge/wedge/voids/Fillability", name := "gcd", desc := "(II)I" } : Jvm.MethodName)).before a0 Z = true := hw _ (List.mem_of_getElem? (i := 48) rfl)
theorem w_49 {Z : State} {a0 : Array Value} (hw : ∀ d ∈ tables_1, d.before a0 Z = true) : (Jvm.Cond.static ({ cls := "com/example/wedge/wedge/voids/Fillability", name := "gcd", desc := "(II)I" } : Jvm.MethodName)).before a0 Z = true := hw _ (List.mem_of_getElem? (i := 49) rfl)
theorem w_50 {Z : State} {a0 : Array Value} (hw : ∀ d ∈ tables_1, d.before a0 Z = true) : (Jvm.Cond.code ({ cls := "com/example/wedge/wedge/voids/Fillability", name := "gcd", desc := "(II)I" } : Jvm.MethodName) prog_25_method_13_code (5 : Nat) (Option.some Jvm.ClassFile.FieldType.int)).before a0 Z = true := hw _ (List.mem_of_getElem? (i := 50) rfl)
theorem w_51 {Z : State} {a0 : Array Value} (hw : ∀ d ∈ tables_1, d.before a0 Z = true) : (Jvm.Cond.methodLink "com/example/wedge/wedge/voids/Fillability" (57 : Nat) ({ cls := "java/lang/Math", name := "multiplyExact", desc := "(II)I" } : Jvm.MethodName)).before a0 Z = true := hw _ (List.mem_of_getElem? (i := 51) rfl)
theorem w_52 {Z : State} {a0 : Array Value} (hw : ∀ d ∈ tables_1, d.before a0 Z = true) : (Jvm.Cond.static ({ cls := "java/lang/Math", name := "multiplyExact", desc := "(II)I" } : Jvm.MethodName)).before a0 Z = true := hw _ (List.mem_of_getElem? (i := 52) rfl)
theorem w_53 {Z : State} {a0 : Array Value} (hw : ∀ d ∈ tables_1, d.before a0 Z = true) : (Jvm.Cond.initialized "java/lang/Math").before a0 Z = true := hw _ (List.mem_of_getElem? (i := 53) rfl)
theorem w_54 {Z : State} {a0 : Array Value} (hw : ∀ d ∈ tables_1, d.before a0 Z = true) : (Jvm.Cond.code ({ cls := "java/lang/Math", name := "multiplyExact", desc := "(II)I" } : Jvm.MethodName) jdk_29_method_28_code (4 : Nat) (Option.some Jvm.ClassFile.FieldType.int)).before a0 Z = true := hw _ (List.mem_of_getElem? (i := 54) rfl)
theorem w_55 {Z : State} {a0 : Array Value} (hw : ∀ d ∈ tables_1, d.before a0 Z = true) : (Jvm.Cond.methodLink "com/example/wedge/wedge/link/FunctionalVoidLevelPinLaw" (17 : Nat) ({ cls := "com/example/wedge/wedge/voids/Fillability", name := "isFillable", desc := "(I)Z" } : Jvm.MethodName)).before a0 Z = true := hw _ (List.mem_of_getElem? (i := 55) rfl)
theorem w_56 {Z : State} {a0 : Array Value} (hw : ∀ d ∈ tables_1, d.before a0 Z = true) : (Jvm.Cond.declares ({ cls := "com/example/wedge/wedge/voids/Fillability", name := "isFillable", desc := "(I)Z" } : Jvm.MethodName)).before a0 Z = true := hw _ (List.mem_of_getElem? (i := 56) rfl)
theorem w_57 {Z : State} {a0 : Array Value} (hw : ∀ d ∈ tables_1, d.before a0 Z = true) : (Jvm.Cond.instanceMethod ({ cls := "com/example/wedge/wedge/voids/Fillability", name := "isFillable", desc := "(I)Z" } : Jvm.MethodName)).before a0 Z = true := hw _ (List.mem_of_getElem? (i := 57) rfl)
theorem w_58 {Z : State} {a0 : Array Value} (hw : ∀ d ∈ tables_1, d.before a0 Z = true) : (Jvm.Cond.selects "com/example/wedge/wedge/voids/Fillability" ({ cls := "com/example/wedge/wedge/voids/Fillability", name := "isFillable", desc := "(I)Z" } : Jvm.MethodName) ({ cls := "com/example/wedge/wedge/voids/Fillability", name := "isFillable", desc := "(I)Z" } : Jvm.MethodName)).before a0 Z = true := hw _ (List.mem_of_getElem? (i := 58) rfl)
theorem w_59 {Z : State} {a0 : Array Value} (hw : ∀ d ∈ tables_1, d.before a0 Z = true) : (Jvm.Cond.code ({ cls := "com/example/wedge/wedge/voids/Fillability", name := "isFillable", desc := "(I)Z" } : Jvm.MethodName) prog_25_method_4_code (2 : Nat) (Option.some Jvm.ClassFile.FieldType.boolean)).before a0 Z = true := hw _ (List.mem_of_getElem? (i := 59) rfl)
theorem w_60 {Z : State} {a0 : Array Value} (hw : ∀ d ∈ tables_1, d.before a0 Z = true) : (Jvm.Cond.methodLink "com/example/wedge/wedge/link/FunctionalVoidLevelPinLaw" (21 : Nat) ({ cls := "com/example/wedge/wedge/link/FunctionalVoid", name := "level", desc := "(Lcom/example/wedge/wedge/voids/Fillability;IIII)I" } : Jvm.MethodName)).before a0 Z = true := hw _ (List.mem_of_getElem? (i := 60) rfl)
theorem w_61 {Z : State} {a0 : Array Value} (hw : ∀ d ∈ tables_1, d.before a0 Z = true) : (Jvm.Cond.static ({ cls := "com/example/wedge/wedge/link/FunctionalVoid", name := "level", desc := "(Lcom/example/wedge/wedge/voids/Fillability;IIII)I" } : Jvm.MethodName)).before a0 Z = true := hw _ (List.mem_of_getElem? (i := 61) rfl)
theorem w_62 {Z : State} {a0 : Array Value} (hw : ∀ d ∈ tables_1, d.before a0 Z = true) : (Jvm.Cond.initialized "com/example/wedge/wedge/link/FunctionalVoid").before a0 Z = true := hw _ (List.mem_of_getElem? (i := 62) rfl)
theorem w_63 {Z : State} {a0 : Array Value} (hw : ∀ d ∈ tables_1, d.before a0 Z = true) : (Jvm.Cond.code ({ cls := "com/example/wedge/wedge/link/FunctionalVoid", name := "level", desc := "(Lcom/example/wedge/wedge/voids/Fillability;IIII)I" } : Jvm.MethodName) prog_12_method_5_code (6 : Nat) (Option.some Jvm.ClassFile.FieldType.int)).before a0 Z = true := hw _ (List.mem_of_getElem? (i := 63) rfl)
theorem w_64 {Z : State} {a0 : Array Value} (hw : ∀ d ∈ tables_1, d.before a0 Z = true) : (Jvm.Cond.methodLink "com/example/wedge/wedge/link/FunctionalVoid" (95 : Nat) ({ cls := "com/example/wedge/wedge/voids/Fillability", name := "isFillable", desc := "(I)Z" } : Jvm.MethodName)).before a0 Z = true := hw _ (List.mem_of_getElem? (i := 64) rfl)
theorem pd_0 : parseMethodDescriptor "(II)I" = some ⟨[.int, .int], some .int⟩ := by decide +kernel
theorem pd_1 : parseMethodDescriptor "(I)Z" = some ⟨[.int], some .boolean⟩ := by decide +kernel
theorem pd_2 : parseMethodDescriptor "(Ljava/lang/Object;Ljava/lang/String;)Ljava/lang/Object;" = some ⟨[(.object "java/lang/Object"), (.object "java/lang/String")], some (.object "java/lang/Object")⟩ := by decide +kernel
theorem pd_3 : parseMethodDescriptor "(I)V" = some ⟨[.int], none⟩ := by decide +kernel
theorem pd_4 : parseMethodDescriptor "([II)[Z" = some ⟨[(.array .int), .int], some (.array .boolean)⟩ := by decide +kernel
theorem pd_5 : parseMethodDescriptor "([II)V" = some ⟨[(.array .int), .int], none⟩ := by decide +kernel
theorem pd_6 : parseMethodDescriptor "()I" = some ⟨[], some .int⟩ := by decide +kernel
theorem pd_7 : parseMethodDescriptor "(Lcom/example/wedge/wedge/voids/Fillability;IIII)I" = some ⟨[(.object "com/example/wedge/wedge/voids/Fillability"), .int, .int, .int, .int], some .int⟩ := by decide +kernel
theorem d10_0 : decode prog_12_method_5_code 0 = .ok (.iload 4, 2) := by decide +kernel
theorem d10_12 : decode prog_12_method_5_code 12 = .ok (.iload 4, 2) := by decide +kernel
theorem d10_14 : decode prog_12_method_5_code 14 = .ok (.iload_n 1, 1) := by decide +kernel
theorem d10_15 : decode prog_12_method_5_code 15 = .ok (.irem, 1) := by decide +kernel
theorem d10_16 : decode prog_12_method_5_code 16 = .ok (.ifCond .ne 15, 3) := by decide +kernel
theorem d10_19 : decode prog_12_method_5_code 19 = .ok (.iload 4, 2) := by decide +kernel
theorem d10_2 : decode prog_12_method_5_code 2 = .ok (.iload_n 1, 1) := by decide +kernel
theorem d10_21 : decode prog_12_method_5_code 21 = .ok (.iload_n 3, 1) := by decide +kernel
theorem d10_22 : decode prog_12_method_5_code 22 = .ok (.if_icmp .ge 9, 3) := by decide +kernel
theorem d10_25 : decode prog_12_method_5_code 25 = .ok (.iconst 1, 1) := by decide +kernel
theorem d10_26 : decode prog_12_method_5_code 26 = .ok (.istore 5, 2) := by decide +kernel
theorem d10_28 : decode prog_12_method_5_code 28 = .ok (.goto 53, 3) := by decide +kernel
theorem d10_3 : decode prog_12_method_5_code 3 = .ok (.if_icmp .ge 9, 3) := by decide +kernel
theorem d10_31 : decode prog_12_method_5_code 31 = .ok (.aload_n 0, 1) := by decide +kernel
theorem d10_32 : decode prog_12_method_5_code 32 = .ok (.iload 4, 2) := by decide +kernel
theorem d10_34 : decode prog_12_method_5_code 34 = .ok (.invokevirtual 95, 3) := by decide +kernel
theorem d10_37 : decode prog_12_method_5_code 37 = .ok (.ifCond .ne 9, 3) := by decide +kernel
theorem d10_40 : decode prog_12_method_5_code 40 = .ok (.iconst 5, 1) := by decide +kernel
theorem d10_41 : decode prog_12_method_5_code 41 = .ok (.istore 5, 2) := by decide +kernel
theorem d10_43 : decode prog_12_method_5_code 43 = .ok (.goto 38, 3) := by decide +kernel
theorem d10_46 : decode prog_12_method_5_code 46 = .ok (.iload 4, 2) := by decide +kernel
theorem d10_48 : decode prog_12_method_5_code 48 = .ok (.iload_n 3, 1) := by decide +kernel
theorem d10_49 : decode prog_12_method_5_code 49 = .ok (.irem, 1) := by decide +kernel
theorem d10_50 : decode prog_12_method_5_code 50 = .ok (.ifCond .ne 9, 3) := by decide +kernel
theorem d10_53 : decode prog_12_method_5_code 53 = .ok (.iconst 3, 1) := by decide +kernel
theorem d10_54 : decode prog_12_method_5_code 54 = .ok (.istore 5, 2) := by decide +kernel
theorem d10_56 : decode prog_12_method_5_code 56 = .ok (.goto 25, 3) := by decide +kernel
theorem d10_59 : decode prog_12_method_5_code 59 = .ok (.iload 4, 2) := by decide +kernel
theorem d10_6 : decode prog_12_method_5_code 6 = .ok (.iconst 0, 1) := by decide +kernel
theorem d10_61 : decode prog_12_method_5_code 61 = .ok (.iload_n 2, 1) := by decide +kernel
theorem d10_62 : decode prog_12_method_5_code 62 = .ok (.irem, 1) := by decide +kernel
theorem d10_63 : decode prog_12_method_5_code 63 = .ok (.ifCond .ne 15, 3) := by decide +kernel
theorem d10_66 : decode prog_12_method_5_code 66 = .ok (.iload 4, 2) := by decide +kernel
theorem d10_68 : decode prog_12_method_5_code 68 = .ok (.iload_n 3, 1) := by decide +kernel
theorem d10_69 : decode prog_12_method_5_code 69 = .ok (.if_icmp .ge 9, 3) := by decide +kernel
theorem d10_7 : decode prog_12_method_5_code 7 = .ok (.istore 5, 2) := by decide +kernel
theorem d10_72 : decode prog_12_method_5_code 72 = .ok (.iconst 4, 1) := by decide +kernel
theorem d10_73 : decode prog_12_method_5_code 73 = .ok (.istore 5, 2) := by decide +kernel
theorem d10_75 : decode prog_12_method_5_code 75 = .ok (.goto 6, 3) := by decide +kernel
theorem d10_78 : decode prog_12_method_5_code 78 = .ok (.iconst 2, 1) := by decide +kernel
theorem d10_79 : decode prog_12_method_5_code 79 = .ok (.istore 5, 2) := by decide +kernel
theorem d10_81 : decode prog_12_method_5_code 81 = .ok (.iload 5, 2) := by decide +kernel
theorem d10_83 : decode prog_12_method_5_code 83 = .ok (.ireturn, 1) := by decide +kernel
theorem d10_9 : decode prog_12_method_5_code 9 = .ok (.goto 72, 3) := by decide +kernel
theorem d1_0 : decode prog_25_method_1_code 0 = .ok (.aload_n 0, 1) := by decide +kernel
theorem d1_1 : decode prog_25_method_1_code 1 = .ok (.invokespecial 3, 3) := by decide +kernel
theorem d1_10 : decode prog_25_method_1_code 10 = .ok (.pop, 1) := by decide +kernel
theorem d1_102 : decode prog_25_method_1_code 102 = .ok (.aload_n 0, 1) := by decide +kernel
theorem d1_103 : decode prog_25_method_1_code 103 = .ok (.aload_n 1, 1) := by decide +kernel
theorem d1_104 : decode prog_25_method_1_code 104 = .ok (.invokevirtual 35, 3) := by decide +kernel
theorem d1_107 : decode prog_25_method_1_code 107 = .ok (.checkcast 36, 3) := by decide +kernel
theorem d1_11 : decode prog_25_method_1_code 11 = .ok (.aload_n 1, 1) := by decide +kernel
theorem d1_110 : decode prog_25_method_1_code 110 = .ok (.putfield 41, 3) := by decide +kernel
theorem d1_113 : decode prog_25_method_1_code 113 = .ok (.aload_n 0, 1) := by decide +kernel
theorem d1_114 : decode prog_25_method_1_code 114 = .ok (.aload_n 0, 1) := by decide +kernel
theorem d1_115 : decode prog_25_method_1_code 115 = .ok (.getfield 41, 3) := by decide +kernel
theorem d1_118 : decode prog_25_method_1_code 118 = .ok (.iload_n 2, 1) := by decide +kernel
theorem d1_119 : decode prog_25_method_1_code 119 = .ok (.invokestatic 43, 3) := by decide +kernel
theorem d1_12 : decode prog_25_method_1_code 12 = .ok (.arraylength, 1) := by decide +kernel
theorem d1_122 : decode prog_25_method_1_code 122 = .ok (.putfield 47, 3) := by decide +kernel
theorem d1_125 : decode prog_25_method_1_code 125 = .ok (.return_, 1) := by decide +kernel
theorem d1_13 : decode prog_25_method_1_code 13 = .ok (.ifCond .ne 13, 3) := by decide +kernel
theorem d1_26 : decode prog_25_method_1_code 26 = .ok (.aload_n 1, 1) := by decide +kernel
theorem d1_27 : decode prog_25_method_1_code 27 = .ok (.astore_n 3, 1) := by decide +kernel
theorem d1_28 : decode prog_25_method_1_code 28 = .ok (.aload_n 3, 1) := by decide +kernel
theorem d1_29 : decode prog_25_method_1_code 29 = .ok (.arraylength, 1) := by decide +kernel
theorem d1_30 : decode prog_25_method_1_code 30 = .ok (.istore 4, 2) := by decide +kernel
theorem d1_32 : decode prog_25_method_1_code 32 = .ok (.iconst 0, 1) := by decide +kernel
theorem d1_33 : decode prog_25_method_1_code 33 = .ok (.istore 5, 2) := by decide +kernel
theorem d1_35 : decode prog_25_method_1_code 35 = .ok (.iload 5, 2) := by decide +kernel
theorem d1_37 : decode prog_25_method_1_code 37 = .ok (.iload 4, 2) := by decide +kernel
theorem d1_39 : decode prog_25_method_1_code 39 = .ok (.if_icmp .ge 59, 3) := by decide +kernel
theorem d1_4 : decode prog_25_method_1_code 4 = .ok (.aload_n 1, 1) := by decide +kernel
theorem d1_42 : decode prog_25_method_1_code 42 = .ok (.aload_n 3, 1) := by decide +kernel
theorem d1_43 : decode prog_25_method_1_code 43 = .ok (.iload 5, 2) := by decide +kernel
theorem d1_45 : decode prog_25_method_1_code 45 = .ok (.iaload, 1) := by decide +kernel
theorem d1_46 : decode prog_25_method_1_code 46 = .ok (.istore 6, 2) := by decide +kernel
theorem d1_48 : decode prog_25_method_1_code 48 = .ok (.iload 6, 2) := by decide +kernel
theorem d1_5 : decode prog_25_method_1_code 5 = .ok (.ldc 9, 2) := by decide +kernel
theorem d1_50 : decode prog_25_method_1_code 50 = .ok (.iconst 1, 1) := by decide +kernel
theorem d1_51 : decode prog_25_method_1_code 51 = .ok (.if_icmp .ge 18, 3) := by decide +kernel
theorem d1_69 : decode prog_25_method_1_code 69 = .ok (.iload 6, 2) := by decide +kernel
theorem d1_7 : decode prog_25_method_1_code 7 = .ok (.invokestatic 11, 3) := by decide +kernel
theorem d1_71 : decode prog_25_method_1_code 71 = .ok (.sipush 4096, 3) := by decide +kernel
theorem d1_74 : decode prog_25_method_1_code 74 = .ok (.if_icmp .le 18, 3) := by decide +kernel
theorem d1_92 : decode prog_25_method_1_code 92 = .ok (.iinc 5 1, 3) := by decide +kernel
theorem d1_95 : decode prog_25_method_1_code 95 = .ok (.goto (-60), 3) := by decide +kernel
theorem d1_98 : decode prog_25_method_1_code 98 = .ok (.iload_n 2, 1) := by decide +kernel
theorem d1_99 : decode prog_25_method_1_code 99 = .ok (.invokestatic 31, 3) := by decide +kernel
theorem d3_0 : decode jdk_31_method_11_code 0 = .ok (.aload_n 0, 1) := by decide +kernel
theorem d3_1 : decode jdk_31_method_11_code 1 = .ok (.ifnonnull 12, 3) := by decide +kernel
theorem d3_13 : decode jdk_31_method_11_code 13 = .ok (.aload_n 0, 1) := by decide +kernel
theorem d3_14 : decode jdk_31_method_11_code 14 = .ok (.areturn, 1) := by decide +kernel
theorem d4_0 : decode prog_25_method_2_code 0 = .ok (.iload_n 0, 1) := by decide +kernel
theorem d4_1 : decode prog_25_method_2_code 1 = .ok (.ifCond .ge 17, 3) := by decide +kernel
theorem d4_18 : decode prog_25_method_2_code 18 = .ok (.iload_n 0, 1) := by decide +kernel
theorem d4_19 : decode prog_25_method_2_code 19 = .ok (.sipush 4096, 3) := by decide +kernel
theorem d4_22 : decode prog_25_method_2_code 22 = .ok (.if_icmp .le 17, 3) := by decide +kernel
theorem d4_39 : decode prog_25_method_2_code 39 = .ok (.return_, 1) := by decide +kernel
theorem d5_0 : decode prog_25_method_12_code 0 = .ok (.iload_n 1, 1) := by decide +kernel
theorem d5_1 : decode prog_25_method_12_code 1 = .ok (.iconst 1, 1) := by decide +kernel
theorem d5_10 : decode prog_25_method_12_code 10 = .ok (.iconst 1, 1) := by decide +kernel
theorem d5_11 : decode prog_25_method_12_code 11 = .ok (.istore_n 3, 1) := by decide +kernel
theorem d5_12 : decode prog_25_method_12_code 12 = .ok (.iload_n 3, 1) := by decide +kernel
theorem d5_13 : decode prog_25_method_12_code 13 = .ok (.iload_n 1, 1) := by decide +kernel
theorem d5_14 : decode prog_25_method_12_code 14 = .ok (.if_icmp .gt 58, 3) := by decide +kernel
theorem d5_17 : decode prog_25_method_12_code 17 = .ok (.iconst 0, 1) := by decide +kernel
theorem d5_18 : decode prog_25_method_12_code 18 = .ok (.istore 4, 2) := by decide +kernel
theorem d5_2 : decode prog_25_method_12_code 2 = .ok (.iadd, 1) := by decide +kernel
theorem d5_20 : decode prog_25_method_12_code 20 = .ok (.iload 4, 2) := by decide +kernel
theorem d5_22 : decode prog_25_method_12_code 22 = .ok (.aload_n 0, 1) := by decide +kernel
theorem d5_23 : decode prog_25_method_12_code 23 = .ok (.arraylength, 1) := by decide +kernel
theorem d5_24 : decode prog_25_method_12_code 24 = .ok (.if_icmp .ge 42, 3) := by decide +kernel
theorem d5_27 : decode prog_25_method_12_code 27 = .ok (.aload_n 2, 1) := by decide +kernel
theorem d5_28 : decode prog_25_method_12_code 28 = .ok (.iload_n 3, 1) := by decide +kernel
theorem d5_29 : decode prog_25_method_12_code 29 = .ok (.baload, 1) := by decide +kernel
theorem d5_3 : decode prog_25_method_12_code 3 = .ok (.newarray .boolean, 2) := by decide +kernel
theorem d5_30 : decode prog_25_method_12_code 30 = .ok (.ifCond .ne 36, 3) := by decide +kernel
theorem d5_33 : decode prog_25_method_12_code 33 = .ok (.aload_n 2, 1) := by decide +kernel
theorem d5_34 : decode prog_25_method_12_code 34 = .ok (.iload_n 3, 1) := by decide +kernel
theorem d5_35 : decode prog_25_method_12_code 35 = .ok (.aload_n 0, 1) := by decide +kernel
theorem d5_36 : decode prog_25_method_12_code 36 = .ok (.iload 4, 2) := by decide +kernel
theorem d5_38 : decode prog_25_method_12_code 38 = .ok (.iaload, 1) := by decide +kernel
theorem d5_39 : decode prog_25_method_12_code 39 = .ok (.iload_n 3, 1) := by decide +kernel
theorem d5_40 : decode prog_25_method_12_code 40 = .ok (.if_icmp .gt 18, 3) := by decide +kernel
theorem d5_43 : decode prog_25_method_12_code 43 = .ok (.aload_n 2, 1) := by decide +kernel
theorem d5_44 : decode prog_25_method_12_code 44 = .ok (.iload_n 3, 1) := by decide +kernel
theorem d5_45 : decode prog_25_method_12_code 45 = .ok (.aload_n 0, 1) := by decide +kernel
theorem d5_46 : decode prog_25_method_12_code 46 = .ok (.iload 4, 2) := by decide +kernel
theorem d5_48 : decode prog_25_method_12_code 48 = .ok (.iaload, 1) := by decide +kernel
theorem d5_49 : decode prog_25_method_12_code 49 = .ok (.isub, 1) := by decide +kernel
theorem d5_5 : decode prog_25_method_12_code 5 = .ok (.astore_n 2, 1) := by decide +kernel
theorem d5_50 : decode prog_25_method_12_code 50 = .ok (.baload, 1) := by decide +kernel
theorem d5_51 : decode prog_25_method_12_code 51 = .ok (.ifCond .eq 7, 3) := by decide +kernel
theorem d5_54 : decode prog_25_method_12_code 54 = .ok (.iconst 1, 1) := by decide +kernel
theorem d5_55 : decode prog_25_method_12_code 55 = .ok (.goto 4, 3) := by decide +kernel
theorem d5_58 : decode prog_25_method_12_code 58 = .ok (.iconst 0, 1) := by decide +kernel
theorem d5_59 : decode prog_25_method_12_code 59 = .ok (.bastore, 1) := by decide +kernel
theorem d5_6 : decode prog_25_method_12_code 6 = .ok (.aload_n 2, 1) := by decide +kernel
theorem d5_60 : decode prog_25_method_12_code 60 = .ok (.iinc 4 1, 3) := by decide +kernel
theorem d5_63 : decode prog_25_method_12_code 63 = .ok (.goto (-43), 3) := by decide +kernel
theorem d5_66 : decode prog_25_method_12_code 66 = .ok (.iinc 3 1, 3) := by decide +kernel
theorem d5_69 : decode prog_25_method_12_code 69 = .ok (.goto (-57), 3) := by decide +kernel
theorem d5_7 : decode prog_25_method_12_code 7 = .ok (.iconst 0, 1) := by decide +kernel
theorem d5_72 : decode prog_25_method_12_code 72 = .ok (.aload_n 2, 1) := by decide +kernel
theorem d5_73 : decode prog_25_method_12_code 73 = .ok (.areturn, 1) := by decide +kernel
theorem d5_8 : decode prog_25_method_12_code 8 = .ok (.iconst 1, 1) := by decide +kernel
theorem d5_9 : decode prog_25_method_12_code 9 = .ok (.bastore, 1) := by decide +kernel
theorem d6_0 : decode prog_25_method_6_code 0 = .ok (.iconst 1, 1) := by decide +kernel
theorem d6_1 : decode prog_25_method_6_code 1 = .ok (.istore_n 1, 1) := by decide +kernel
theorem d6_10 : decode prog_25_method_6_code 10 = .ok (.iconst 0, 1) := by decide +kernel
theorem d6_11 : decode prog_25_method_6_code 11 = .ok (.istore 4, 2) := by decide +kernel
theorem d6_13 : decode prog_25_method_6_code 13 = .ok (.iload 4, 2) := by decide +kernel
theorem d6_15 : decode prog_25_method_6_code 15 = .ok (.iload_n 3, 1) := by decide +kernel
theorem d6_16 : decode prog_25_method_6_code 16 = .ok (.if_icmp .ge 29, 3) := by decide +kernel
theorem d6_19 : decode prog_25_method_6_code 19 = .ok (.aload_n 2, 1) := by decide +kernel
theorem d6_2 : decode prog_25_method_6_code 2 = .ok (.aload_n 0, 1) := by decide +kernel
theorem d6_20 : decode prog_25_method_6_code 20 = .ok (.iload 4, 2) := by decide +kernel
theorem d6_22 : decode prog_25_method_6_code 22 = .ok (.iaload, 1) := by decide +kernel
theorem d6_23 : decode prog_25_method_6_code 23 = .ok (.istore 5, 2) := by decide +kernel
theorem d6_25 : decode prog_25_method_6_code 25 = .ok (.iload_n 1, 1) := by decide +kernel
theorem d6_26 : decode prog_25_method_6_code 26 = .ok (.iload_n 1, 1) := by decide +kernel
theorem d6_27 : decode prog_25_method_6_code 27 = .ok (.iload 5, 2) := by decide +kernel
theorem d6_29 : decode prog_25_method_6_code 29 = .ok (.invokestatic 53, 3) := by decide +kernel
theorem d6_3 : decode prog_25_method_6_code 3 = .ok (.getfield 41, 3) := by decide +kernel
theorem d6_32 : decode prog_25_method_6_code 32 = .ok (.idiv, 1) := by decide +kernel
theorem d6_33 : decode prog_25_method_6_code 33 = .ok (.iload 5, 2) := by decide +kernel
theorem d6_35 : decode prog_25_method_6_code 35 = .ok (.invokestatic 57, 3) := by decide +kernel
theorem d6_38 : decode prog_25_method_6_code 38 = .ok (.istore_n 1, 1) := by decide +kernel
theorem d6_39 : decode prog_25_method_6_code 39 = .ok (.iinc 4 1, 3) := by decide +kernel
theorem d6_42 : decode prog_25_method_6_code 42 = .ok (.goto (-29), 3) := by decide +kernel
theorem d6_45 : decode prog_25_method_6_code 45 = .ok (.iload_n 1, 1) := by decide +kernel
theorem d6_46 : decode prog_25_method_6_code 46 = .ok (.ireturn, 1) := by decide +kernel
theorem d6_6 : decode prog_25_method_6_code 6 = .ok (.astore_n 2, 1) := by decide +kernel
theorem d6_7 : decode prog_25_method_6_code 7 = .ok (.aload_n 2, 1) := by decide +kernel
theorem d6_8 : decode prog_25_method_6_code 8 = .ok (.arraylength, 1) := by decide +kernel
theorem d6_9 : decode prog_25_method_6_code 9 = .ok (.istore_n 3, 1) := by decide +kernel
theorem d7_0 : decode prog_25_method_13_code 0 = .ok (.iload_n 0, 1) := by decide +kernel
theorem d7_1 : decode prog_25_method_13_code 1 = .ok (.istore_n 2, 1) := by decide +kernel
theorem d7_10 : decode prog_25_method_13_code 10 = .ok (.irem, 1) := by decide +kernel
theorem d7_11 : decode prog_25_method_13_code 11 = .ok (.istore 4, 2) := by decide +kernel
theorem d7_13 : decode prog_25_method_13_code 13 = .ok (.iload_n 3, 1) := by decide +kernel
theorem d7_14 : decode prog_25_method_13_code 14 = .ok (.istore_n 2, 1) := by decide +kernel
theorem d7_15 : decode prog_25_method_13_code 15 = .ok (.iload 4, 2) := by decide +kernel
theorem d7_17 : decode prog_25_method_13_code 17 = .ok (.istore_n 3, 1) := by decide +kernel
theorem d7_18 : decode prog_25_method_13_code 18 = .ok (.goto (-14), 3) := by decide +kernel
theorem d7_2 : decode prog_25_method_13_code 2 = .ok (.iload_n 1, 1) := by decide +kernel
theorem d7_21 : decode prog_25_method_13_code 21 = .ok (.iload_n 2, 1) := by decide +kernel
theorem d7_22 : decode prog_25_method_13_code 22 = .ok (.ireturn, 1) := by decide +kernel
theorem d7_3 : decode prog_25_method_13_code 3 = .ok (.istore_n 3, 1) := by decide +kernel
theorem d7_4 : decode prog_25_method_13_code 4 = .ok (.iload_n 3, 1) := by decide +kernel
theorem d7_5 : decode prog_25_method_13_code 5 = .ok (.ifCond .eq 16, 3) := by decide +kernel
theorem d7_8 : decode prog_25_method_13_code 8 = .ok (.iload_n 2, 1) := by decide +kernel
theorem d7_9 : decode prog_25_method_13_code 9 = .ok (.iload_n 3, 1) := by decide +kernel
theorem d8_0 : decode jdk_29_method_28_code 0 = .ok (.iload_n 0, 1) := by decide +kernel
theorem d8_1 : decode jdk_29_method_28_code 1 = .ok (.i2l, 1) := by decide +kernel
theorem d8_10 : decode jdk_29_method_28_code 10 = .ok (.lcmp, 1) := by decide +kernel
theorem d8_11 : decode jdk_29_method_28_code 11 = .ok (.ifCond .eq 13, 3) := by decide +kernel
theorem d8_2 : decode jdk_29_method_28_code 2 = .ok (.iload_n 1, 1) := by decide +kernel
theorem d8_24 : decode jdk_29_method_28_code 24 = .ok (.lload_n 2, 1) := by decide +kernel
theorem d8_25 : decode jdk_29_method_28_code 25 = .ok (.l2i, 1) := by decide +kernel
theorem d8_26 : decode jdk_29_method_28_code 26 = .ok (.ireturn, 1) := by decide +kernel
theorem d8_3 : decode jdk_29_method_28_code 3 = .ok (.i2l, 1) := by decide +kernel
theorem d8_4 : decode jdk_29_method_28_code 4 = .ok (.lmul, 1) := by decide +kernel
theorem d8_5 : decode jdk_29_method_28_code 5 = .ok (.lstore_n 2, 1) := by decide +kernel
theorem d8_6 : decode jdk_29_method_28_code 6 = .ok (.lload_n 2, 1) := by decide +kernel
theorem d8_7 : decode jdk_29_method_28_code 7 = .ok (.l2i, 1) := by decide +kernel
theorem d8_8 : decode jdk_29_method_28_code 8 = .ok (.i2l, 1) := by decide +kernel
theorem d8_9 : decode jdk_29_method_28_code 9 = .ok (.lload_n 2, 1) := by decide +kernel
theorem d9_0 : decode prog_25_method_4_code 0 = .ok (.aload_n 0, 1) := by decide +kernel
theorem d9_1 : decode prog_25_method_4_code 1 = .ok (.getfield 47, 3) := by decide +kernel
theorem d9_4 : decode prog_25_method_4_code 4 = .ok (.iload_n 1, 1) := by decide +kernel
theorem d9_5 : decode prog_25_method_4_code 5 = .ok (.baload, 1) := by decide +kernel
theorem d9_6 : decode prog_25_method_4_code 6 = .ok (.ireturn, 1) := by decide +kernel
/-- an object of class com/example/wedge/wedge/voids/Fillability, and what its fields hold -/
def IsFi (Z : State) (h : Heap) (a : Addr) (v_sizes v_fillable : Value) : Prop := Exa Z h a "com/example/wedge/wedge/voids/Fillability" ∧ Fld Z h a "com/example/wedge/wedge/voids/Fillability" "sizes" "[I" v_sizes ∧ Fld Z h a "com/example/wedge/wedge/voids/Fillability" "fillable" "[Z" v_fillable
theorem IsFi.exa {Z : State} {h : Heap} {a : Addr} {v_sizes v_fillable : Value} (O : IsFi Z h a v_sizes v_fillable) : Exa Z h a "com/example/wedge/wedge/voids/Fillability" := O.1
theorem IsFi.lt {Z : State} {h : Heap} {a : Addr} {v_sizes v_fillable : Value} (O : IsFi Z h a v_sizes v_fillable) : a < h.size := (IsFi.exa O).lt
theorem IsFi.f_sizes {Z : State} {h : Heap} {a : Addr} {v_sizes v_fillable : Value} (O : IsFi Z h a v_sizes v_fillable) : Fld Z h a "com/example/wedge/wedge/voids/Fillability" "sizes" "[I" v_sizes := O.2.1
theorem IsFi.f_fillable {Z : State} {h : Heap} {a : Addr} {v_sizes v_fillable : Value} (O : IsFi Z h a v_sizes v_fillable) : Fld Z h a "com/example/wedge/wedge/voids/Fillability" "fillable" "[Z" v_fillable := O.2.2
theorem IsFi.ext {Z : State} {h h' : Heap} {a : Addr} {v_sizes v_fillable : Value} (E : Ext h h') (O : IsFi Z h a v_sizes v_fillable) : IsFi Z h' a v_sizes v_fillable := ⟨(O.1).ext E, (O.2.1).ext E, (O.2.2).ext E⟩
theorem IsFi.keep {Z : State} {h h' : Heap} {a : Addr} {v_sizes v_fillable : Value} {ws : List Addr} (K : Keep h h' ws) (O : IsFi Z h a v_sizes v_fillable) (q : a ∉ ws) : IsFi Z h' a v_sizes v_fillable := ⟨(O.1).keep K, (O.2.1).keep K q, (O.2.2).keep K q⟩
theorem IsFi.other {Z : State} {h h' : Heap} {a b : Addr} {v_sizes v_fillable : Value} {sl : Nat} {v : Value} (W : Wr h h' b sl v) (O : IsFi Z h a v_sizes v_fillable) (q : a ≠ b) : IsFi Z h' a v_sizes v_fillable := ⟨(O.1).wr W, (O.2.1).other W (Or.inl q), (O.2.2).other W (Or.inl q)⟩
theorem IsFi.s_sizes {Z : State} {h h' : Heap} {a : Addr} {v_sizes v_fillable : Value} {v : Value} {a0 : Array Value} (hw : ∀ d ∈ tables_1, d.before a0 Z = true) (W : Wr h h' a (RoadKit.slotOf Z "com/example/wedge/wedge/voids/Fillability" "sizes" "[I") v) (O : IsFi Z h a v_sizes v_fillable) : IsFi Z h' a v v_fillable := ⟨(O.1).wr W, (O.2.1).same W, (O.2.2).other W (Or.inr (slot_ne (a0 := a0) (C := "com/example/wedge/wedge/voids/Fillability") (Or.inr (w_42 hw)) (Or.inr (w_36 hw)) (by decide) (t := (.array .boolean)) (t' := (.array .int)) (by decide) (by decide)))⟩
theorem IsFi.s_fillable {Z : State} {h h' : Heap} {a : Addr} {v_sizes v_fillable : Value} {v : Value} {a0 : Array Value} (hw : ∀ d ∈ tables_1, d.before a0 Z = true) (W : Wr h h' a (RoadKit.slotOf Z "com/example/wedge/wedge/voids/Fillability" "fillable" "[Z") v) (O : IsFi Z h a v_sizes v_fillable) : IsFi Z h' a v_sizes v := ⟨(O.1).wr W, (O.2.1).other W (Or.inr (slot_ne (a0 := a0) (C := "com/example/wedge/wedge/voids/Fillability") (Or.inr (w_36 hw)) (Or.inr (w_42 hw)) (by decide) (t := (.array .int)) (t' := (.array .boolean)) (by decide) (by decide))), (O.2.2).same W⟩
theorem own_str {Z : State} {a0 : Array Value} (hw : ∀ d ∈ tables_1, d.before a0 Z = true) : ∀ a ∈ Bundle.stringAtoms, a.before a0 Z = true := by
  intro a ha
  simp only [Bundle.stringAtoms, List.mem_cons, List.not_mem_nil, or_false] at ha
  rcases ha with rfl | rfl | rfl | rfl | rfl | rfl | rfl
  · exact (w_12 hw)
  · exact (w_13 hw)
  · exact (w_14 hw)
  · exact (w_15 hw)
  · exact (w_16 hw)
  · exact (w_17 hw)
  · exact (w_18 hw)
set_option maxRecDepth 65536 in
set_option maxHeartbeats 40000000 in
theorem rm_rnn (w : Bool) (l : Launch) (Z : State) (a0 : Array Value) (hw : ∀ d ∈ tables_1, d.before a0 Z = true) (a s : Addr) (h0 : Heap) (n0 : Nat) (Z0 : n0 ≤ h0.size)  :
    Met w l Z (⟨"java/util/Objects", "requireNonNull", "(Ljava/lang/Object;Ljava/lang/String;)Ljava/lang/Object;"⟩ : MethodName) jdk_31_method_11_code 2 (some (.object "java/lang/Object")) [] ({ frames := 0, cells := 0, slots := 0, locals := 0 } : Room) #[(.ref a), (.ref s)] h0 n0 (fun v h => v = some (.ref a) ∧ h0 = h) := by
  refine Met.of (plainFor_of_name (by first | (simp [plainName, overriddenIn]; done) | decide +kernel)) fun κ K => ?_
  refine WP.frame (g' := (mkF κ.m 0 #[.val (.ref a), .val (.ref s)] [])) (by first | (simp [entryFrame, mkF, argsToLocals, Value.category]; done) | rfl) ?_
  refine WP.aloadN K d3_0 rfl rfl (pc' := 1) rfl ?_
  refine WP.ifnonnullT K (b := a) d3_1 (by decide) (pc' := 13) (by decide) ?_
  refine WP.aloadN K d3_13 rfl rfl (pc' := 14) rfl ?_
  exact WP.retR K rfl rfl d3_14 (by decide) (by decide) ⟨rfl, rfl⟩
set_option maxRecDepth 65536 in
set_option maxHeartbeats 40000000 in
theorem rm_upto (w : Bool) (l : Launch) (Z : State) (a0 : Array Value) (hw : ∀ d ∈ tables_1, d.before a0 Z = true)  (h0 : Heap) (n0 : Nat) (Z0 : n0 ≤ h0.size)  :
    Met w l Z (⟨"com/example/wedge/wedge/voids/Fillability", "checkUpTo", "(I)V"⟩ : MethodName) prog_25_method_2_code 1 none [] ({ frames := 0, cells := 0, slots := 0, locals := 0 } : Room) #[(.int (4096 : Int32))] h0 n0 (fun v h => v = none ∧ h0 = h) := by
  refine Met.of (plainFor_of_name (by first | (simp [plainName, overriddenIn]; done) | decide +kernel)) fun κ K => ?_
  refine WP.frame (g' := (mkF κ.m 0 #[.val (.int (4096 : Int32))] [])) (by first | (simp [entryFrame, mkF, argsToLocals, Value.category]; done) | rfl) ?_
  refine WP.iloadN K d4_0 rfl (pc' := 1) rfl ?_
  refine WP.if0T K d4_1 (by decide) (by decide) (pc' := 18) (by decide) ?_
  refine WP.iloadN K d4_18 rfl (pc' := 19) rfl ?_
  refine WP.sipush K d4_19 (v := (4096 : Int32)) rfl (pc' := 22) rfl ?_
  refine WP.icmpT K d4_22 (by decide) (by decide) (pc' := 39) (by decide) ?_
  exact WP.ret0 K d4_39 (by decide) (by decide) ⟨rfl, rfl⟩
set_option maxRecDepth 65536 in
set_option maxHeartbeats 40000000 in
theorem rm_table (w : Bool) (l : Launch) (Z : State) (a0 : Array Value) (hw : ∀ d ∈ tables_1, d.before a0 Z = true) (sz : Addr) (kS : ClassId) (F : Nat → Int32) (b1 b2 : Nat) (h0 : Heap) (n0 : Nat) (Z0 : n0 ≤ h0.size) (A_sz : Ary Z h0 sz kS .int 2 (fun j => .int (F j))) (hb1 : (F 0).toInt = (b1 : Int)) (hb2 : (F 1).toInt = (b2 : Int)) (l1 : 1 ≤ b1) (u1 : b1 ≤ 4096) (l2 : 1 ≤ b2) (u2 : b2 ≤ 4096) :
    Met w l Z (⟨"com/example/wedge/wedge/voids/Fillability", "table", "([II)[Z"⟩ : MethodName) prog_25_method_12_code 5 (some (.array .boolean)) [] ({ frames := 0, cells := 1, slots := 4097, locals := 0 } : Room) #[(.ref sz), (.int (4096 : Int32))] h0 n0 (fun v h => Keep h0 h [] ∧ ∃ (tb : Addr) (kT : ClassId) (T : Nat → Int32), v = some (.ref tb) ∧ h0.size ≤ tb ∧ Ary Z h tb kT .boolean 4097 (fun j => .int (T j)) ∧ own_full b1 b2 T) := by
  refine Met.of (plainFor_of_name (by first | (simp [plainName, overriddenIn]; done) | decide +kernel)) fun κ K => ?_
  refine WP.frame (g' := (mkF κ.m 0 #[.val (.ref sz), .val (.int (4096 : Int32)), .unset, .unset, .unset] [])) (by first | (simp [entryFrame, mkF, argsToLocals, Value.category]; done) | rfl) ?_
  have KP := Keep.refl h0 []
  refine WP.iloadN K d5_0 rfl (pc' := 1) rfl ?_
  refine WP.iconst K d5_1 (v := (1 : Int32)) rfl (pc' := 2) rfl ?_
  refine WP.iadd K d5_2 (pc' := 3) rfl ?_
  show WP κ h0 0 0 (mkF κ.m 3 #[.val (.ref sz), .val (.int (4096 : Int32)), .unset, .unset, .unset] [(.int (4097 : Int32))])
  refine WP.newarray (aty := .boolean) K (w_40 hw) d5_3 (N := 4097) (cap := 4097) rfl (Nat.le_refl _) (by decide) (k' := 1) (n' := 4097) rfl rfl (by decide) (by decide) (pc' := 5) rfl fun h1 tb kA_tb g1 E1 A_tb => ?_
  have ne_sz_tb : sz ≠ tb := fun z_ => by have q_ : @LT.lt Nat _ sz h0.size := (Ary.lt A_sz); have r_ : @Eq Nat sz tb := z_; omega
  have old_tb : n0 ≤ tb := by have q_ := Z0; omega
  have osz_tb : h0.size ≤ tb := by have q_ := KP.1; omega
  have A_sz := Ary.ext E1 A_sz
  have KP := Keep.ext KP E1
  have Z0 := Nat.le_trans Z0 E1.1
  have A_tb : Ary Z h1 tb kA_tb .boolean 4097 (fun j => .int ((fun _ => (0 : Int32)) j)) := A_tb
  refine WP.astoreN K d5_5 rfl (L' := #[.val (.ref sz), .val (.int (4096 : Int32)), .val (.ref tb), .unset, .unset]) rfl (pc' := 6) rfl ?_
  refine WP.aloadN K d5_6 rfl rfl (pc' := 7) rfl ?_
  refine WP.iconst K d5_7 (v := (0 : Int32)) rfl (pc' := 8) rfl ?_
  refine WP.iconst K d5_8 (v := (1 : Int32)) rfl (pc' := 9) rfl ?_
  refine WP.bastoreZ K (i := 0) A_tb rfl (by decide) old_tb d5_9 (pc' := 10) rfl fun h2 W2 A_n => ?_
  have A_sz := Ary.other W2 A_sz ne_sz_tb
  have KP := Keep.wr KP W2 (Or.inr osz_tb)
  have Z0 := Nat.le_trans Z0 (Nat.le_of_eq W2.size.symm)
  have A_tb := A_n
  rw [upd_int] at A_tb
  refine WP.iconst K d5_10 (v := (1 : Int32)) rfl (pc' := 11) rfl ?_
  refine WP.istoreN K d5_11 (L' := #[.val (.ref sz), .val (.int (4096 : Int32)), .val (.ref tb), .val (.int (1 : Int32)), .unset]) rfl (pc' := 12) rfl ?_
  have LOOP : ∀ (d k : Nat) (c : Int32) (s4 : Slot) (h : Heap) (T : Nat → Int32), k + d = 4097 → 1 ≤ k → c.toInt = (k : Int) → own_One s4 → own_inv b1 b2 k T → Ary Z h sz kS .int 2 (fun j => .int (F j)) → Ary Z h tb kA_tb .boolean 4097 (fun j => .int (T j)) → Keep h0 h [] → n0 ≤ h.size → WP κ h 1 4097 (mkF κ.m 12 #[.val (.ref sz), .val (.int (4096 : Int32)), .val (.ref tb), .val (.int c), s4] []) := by
    intro d
    induction d with
    | zero =>
      intro k c s4 h T hkd hk1 hc o_s4 I A_sz A_tb KP Z0
      refine WP.iloadN K d5_12 rfl (pc' := 13) rfl ?_
      refine WP.iloadN K d5_13 rfl (pc' := 14) rfl ?_
      have q : (4096 : Int32) < c := by rw [Int32.lt_iff_toInt_lt]; have e : (4096 : Int32).toInt = 4096 := (by decide); omega
      refine WP.icmpT K d5_14 (tlt q).2.2.1 (by decide) (pc' := 72) (by decide) ?_
      refine WP.aloadN K d5_72 rfl rfl (pc' := 73) rfl ?_
      exact WP.retR K rfl rfl d5_73 (by decide) (by decide) ⟨KP, tb, kA_tb, T, rfl, osz_tb, A_tb, fun m hm => I.1 m (by omega)⟩
    | succ d ih =>
      intro k c s4 h T hkd hk1 hc o_s4 I A_sz A_tb KP Z0
      refine WP.iloadN K d5_12 rfl (pc' := 13) rfl ?_
      refine WP.iloadN K d5_13 rfl (pc' := 14) rfl ?_
      have q : ¬ ((4096 : Int32) < c) := by rw [Int32.lt_iff_toInt_lt]; have e : (4096 : Int32).toInt = 4096 := (by decide); omega
      have J66 : ∀ (y : Int32) (h : Heap) (G : Nat → Int32), (∀ m, m ≠ k → G m = T m) → (b1 ∣ k ∨ b2 ∣ k → G k = 1) → Ary Z h sz kS .int 2 (fun j => .int (F j)) → Ary Z h tb kA_tb .boolean 4097 (fun j => .int (G j)) → Keep h0 h [] → n0 ≤ h.size → WP κ h 1 4097 (mkF κ.m 66 #[.val (.ref sz), .val (.int (4096 : Int32)), .val (.ref tb), .val (.int c), .val (.int y)] []) := by
        intro y h G hG hGk A_sz A_tb KP Z0
        refine WP.iinc K d5_66 (v := (1 : Int32)) rfl rfl (L' := #[.val (.ref sz), .val (.int (4096 : Int32)), .val (.ref tb), .val (.int (c + (1 : Int32))), .val (.int y)]) rfl (pc' := 69) rfl ?_
        refine WP.goto K d5_69 (by decide) (pc' := 12) (by decide) ?_
        exact ih (k + 1) _ _ h G (by omega) (by omega) (own_add1 hc (by omega)) (own_One.v rfl) (own_inv_step I hG hGk) A_sz A_tb KP Z0
      have JB : ∀ (z : Int32) (h : Heap) (G : Nat → Int32), (∀ m, m ≠ k → G m = T m) → ¬ b1 ∣ k → (b2 ∣ k → nar .boolean z = 1) → Ary Z h sz kS .int 2 (fun j => .int (F j)) → Ary Z h tb kA_tb .boolean 4097 (fun j => .int (G j)) → Keep h0 h [] → n0 ≤ h.size → WP κ h 1 4097 (mkF κ.m 59 #[.val (.ref sz), .val (.int (4096 : Int32)), .val (.ref tb), .val (.int c), .val (.int (1 : Int32))] [.int z, .int c, .ref tb]) := by
        intro z h G hG hn1 hz A_sz A_tb KP Z0
        refine WP.bastoreZ K (i := k) A_tb hc (by omega) old_tb d5_59 (pc' := 60) rfl fun h3 W3 A_n => ?_
        have A_sz := Ary.other W3 A_sz ne_sz_tb
        have KP := Keep.wr KP W3 (Or.inr osz_tb)
        have Z0 := Nat.le_trans Z0 (Nat.le_of_eq W3.size.symm)
        have A_tb := A_n
        rw [upd_int] at A_tb
        refine WP.iinc K d5_60 (v := (1 : Int32)) rfl rfl (L' := #[.val (.ref sz), .val (.int (4096 : Int32)), .val (.ref tb), .val (.int c), .val (.int (2 : Int32))]) rfl (pc' := 63) rfl ?_
        refine WP.goto K d5_63 (by decide) (pc' := 20) (by decide) ?_
        refine WP.iload K d5_20 rfl (pc' := 22) rfl ?_
        refine WP.aloadN K d5_22 rfl rfl (pc' := 23) rfl ?_
        refine WP.arraylength K A_sz d5_23 (pc' := 24) rfl ?_
        show WP κ h3 1 4097 (mkF κ.m 24 #[.val (.ref sz), .val (.int (4096 : Int32)), .val (.ref tb), .val (.int c), .val (.int (2 : Int32))] [(.int (2 : Int32)), (.int (2 : Int32))])
        refine WP.icmpT K d5_24 (by decide) (by decide) (pc' := 66) (by decide) ?_
        exact J66 _ _ _ (fun m hm => (fset_ne G _ hm).trans (hG m hm)) (fun hd => hd.elim (fun q => absurd q hn1) (fun q => (fset_same _ _ _).trans (hz q))) A_sz A_tb KP Z0
      have JA0 : ¬ b1 ∣ k → WP κ h 1 4097 (mkF κ.m 59 #[.val (.ref sz), .val (.int (4096 : Int32)), .val (.ref tb), .val (.int c), .val (.int (0 : Int32))] [.int (0 : Int32), .int c, .ref tb]) := by
        intro hn1
        refine WP.bastoreZ K (i := k) A_tb hc (by omega) old_tb d5_59 (pc' := 60) rfl fun h4 W4 A_n => ?_
        have A_sz := Ary.other W4 A_sz ne_sz_tb
        have KP := Keep.wr KP W4 (Or.inr osz_tb)
        have Z0 := Nat.le_trans Z0 (Nat.le_of_eq W4.size.symm)
        have A_tb := A_n
        rw [upd_int] at A_tb
        refine WP.iinc K d5_60 (v := (1 : Int32)) rfl rfl (L' := #[.val (.ref sz), .val (.int (4096 : Int32)), .val (.ref tb), .val (.int c), .val (.int (1 : Int32))]) rfl (pc' := 63) rfl ?_
        refine WP.goto K d5_63 (by decide) (pc' := 20) (by decide) ?_
        refine WP.iload K d5_20 rfl (pc' := 22) rfl ?_
        refine WP.aloadN K d5_22 rfl rfl (pc' := 23) rfl ?_
        refine WP.arraylength K A_sz d5_23 (pc' := 24) rfl ?_
        show WP κ h4 1 4097 (mkF κ.m 24 #[.val (.ref sz), .val (.int (4096 : Int32)), .val (.ref tb), .val (.int c), .val (.int (1 : Int32))] [(.int (2 : Int32)), (.int (1 : Int32))])
        refine WP.icmpF K d5_24 (by decide) (pc' := 27) rfl ?_
        refine WP.aloadN K d5_27 rfl rfl (pc' := 28) rfl ?_
        refine WP.iloadN K d5_28 rfl (pc' := 29) rfl ?_
        refine WP.baloadZ K (i := k) A_tb hc (by omega) (v := (.int (0 : Int32))) (congrArg Value.int ((fset_same _ _ _).trans (by decide))) d5_29 (pc' := 30) rfl ?_
        refine WP.if0F K d5_30 (by decide) (pc' := 33) rfl ?_
        refine WP.aloadN K d5_33 rfl rfl (pc' := 34) rfl ?_
        refine WP.iloadN K d5_34 rfl (pc' := 35) rfl ?_
        refine WP.aloadN K d5_35 rfl rfl (pc' := 36) rfl ?_
        refine WP.iload K d5_36 rfl (pc' := 38) rfl ?_
        refine WP.iaload K (i := 1) A_sz rfl (by decide) (v := (.int (F 1))) rfl d5_38 (pc' := 39) rfl ?_
        refine WP.iloadN K d5_39 rfl (pc' := 40) rfl ?_
        by_cases e1 : c < (F 1)
        · refine WP.icmpT K d5_40 (tlt e1).2.2.1 (by decide) (pc' := 58) (by decide) ?_
          refine WP.iconst K d5_58 (v := (0 : Int32)) rfl (pc' := 59) rfl ?_
          have nd : ¬ b2 ∣ k := fun q => by have r := Nat.le_of_dvd (by omega) q; rw [Int32.lt_iff_toInt_lt] at e1; omega
          exact JB _ _ _ (fun m hm => fset_ne T _ hm) hn1 (fun q => absurd q nd) A_sz A_tb KP Z0
        · refine WP.icmpF K d5_40 (flt e1).2.2.1 (pc' := 43) rfl ?_
          have le : b2 ≤ k := by rw [Int32.lt_iff_toInt_lt] at e1; omega
          refine WP.aloadN K d5_43 rfl rfl (pc' := 44) rfl ?_
          refine WP.iloadN K d5_44 rfl (pc' := 45) rfl ?_
          refine WP.aloadN K d5_45 rfl rfl (pc' := 46) rfl ?_
          refine WP.iload K d5_46 rfl (pc' := 48) rfl ?_
          refine WP.iaload K (i := 1) A_sz rfl (by decide) (v := (.int (F 1))) rfl d5_48 (pc' := 49) rfl ?_
          refine WP.isub K d5_49 (pc' := 50) rfl ?_
          refine WP.baloadZ K (i := (k - b2)) A_tb (own_sub hc hb2 le) (by omega) (v := (.int ((fset T k (nar .boolean (0 : Int32))) (k - b2)))) rfl d5_50 (pc' := 51) rfl ?_
          by_cases g1 : ((fset T k (nar .boolean (0 : Int32))) (k - b2)) = (0 : Int32)
          · refine WP.if0T K d5_51 ((if0 _ _).trans (teq g1).1) (by decide) (pc' := 58) (by decide) ?_
            refine WP.iconst K d5_58 (v := (0 : Int32)) rfl (pc' := 59) rfl ?_
            have nd : ¬ b2 ∣ k := fun q => by have r : (fset T k (nar .boolean (0 : Int32))) (k - b2) = 1 := (fset_ne _ _ (by omega)).trans (I.1 _ (by omega) (Or.inr (Nat.dvd_sub q (Nat.dvd_refl _)))); rw [r] at g1; exact absurd g1 (by decide)
            exact JB _ _ _ (fun m hm => fset_ne T _ hm) hn1 (fun q => absurd q nd) A_sz A_tb KP Z0
          · refine WP.if0F K d5_51 ((if0 _ _).trans (feq g1).1) (pc' := 54) rfl ?_
            refine WP.iconst K d5_54 (v := (1 : Int32)) rfl (pc' := 55) rfl ?_
            refine WP.goto K d5_55 (by decide) (pc' := 59) (by decide) ?_
            exact JB _ _ _ (fun m hm => fset_ne T _ hm) hn1 (fun q => by decide) A_sz A_tb KP Z0
      have JA1 : WP κ h 1 4097 (mkF κ.m 59 #[.val (.ref sz), .val (.int (4096 : Int32)), .val (.ref tb), .val (.int c), .val (.int (0 : Int32))] [.int (1 : Int32), .int c, .ref tb]) := by
        skip
        refine WP.bastoreZ K (i := k) A_tb hc (by omega) old_tb d5_59 (pc' := 60) rfl fun h5 W5 A_n => ?_
        have A_sz := Ary.other W5 A_sz ne_sz_tb
        have KP := Keep.wr KP W5 (Or.inr osz_tb)
        have Z0 := Nat.le_trans Z0 (Nat.le_of_eq W5.size.symm)
        have A_tb := A_n
        rw [upd_int] at A_tb
        refine WP.iinc K d5_60 (v := (1 : Int32)) rfl rfl (L' := #[.val (.ref sz), .val (.int (4096 : Int32)), .val (.ref tb), .val (.int c), .val (.int (1 : Int32))]) rfl (pc' := 63) rfl ?_
        refine WP.goto K d5_63 (by decide) (pc' := 20) (by decide) ?_
        refine WP.iload K d5_20 rfl (pc' := 22) rfl ?_
        refine WP.aloadN K d5_22 rfl rfl (pc' := 23) rfl ?_
        refine WP.arraylength K A_sz d5_23 (pc' := 24) rfl ?_
        show WP κ h5 1 4097 (mkF κ.m 24 #[.val (.ref sz), .val (.int (4096 : Int32)), .val (.ref tb), .val (.int c), .val (.int (1 : Int32))] [(.int (2 : Int32)), (.int (1 : Int32))])
        refine WP.icmpF K d5_24 (by decide) (pc' := 27) rfl ?_
        refine WP.aloadN K d5_27 rfl rfl (pc' := 28) rfl ?_
        refine WP.iloadN K d5_28 rfl (pc' := 29) rfl ?_
        refine WP.baloadZ K (i := k) A_tb hc (by omega) (v := (.int (1 : Int32))) (congrArg Value.int ((fset_same _ _ _).trans (by decide))) d5_29 (pc' := 30) rfl ?_
        refine WP.if0T K d5_30 (by decide) (by decide) (pc' := 66) (by decide) ?_
        exact J66 _ _ _ (fun m hm => fset_ne T _ hm) (fun _ => (fset_same _ _ _).trans (by decide)) A_sz A_tb KP Z0
      refine WP.icmpF K d5_14 (flt q).2.2.1 (pc' := 17) rfl ?_
      refine WP.iconst K d5_17 (v := (0 : Int32)) rfl (pc' := 18) rfl ?_
      refine WP.istore K d5_18 (L' := #[.val (.ref sz), .val (.int (4096 : Int32)), .val (.ref tb), .val (.int c), .val (.int (0 : Int32))]) (by rcases o_s4 with rfl | ⟨w, rfl, hw⟩ <;> first | rfl | (cases w <;> first | rfl | (simp [Value.category] at hw))) (pc' := 20) rfl ?_
      refine WP.iload K d5_20 rfl (pc' := 22) rfl ?_
      refine WP.aloadN K d5_22 rfl rfl (pc' := 23) rfl ?_
      refine WP.arraylength K A_sz d5_23 (pc' := 24) rfl ?_
      show WP κ h 1 4097 (mkF κ.m 24 #[.val (.ref sz), .val (.int (4096 : Int32)), .val (.ref tb), .val (.int c), .val (.int (0 : Int32))] [(.int (2 : Int32)), (.int (0 : Int32))])
      refine WP.icmpF K d5_24 (by decide) (pc' := 27) rfl ?_
      refine WP.aloadN K d5_27 rfl rfl (pc' := 28) rfl ?_
      refine WP.iloadN K d5_28 rfl (pc' := 29) rfl ?_
      refine WP.baloadZ K (i := k) A_tb hc (by omega) (v := (.int (0 : Int32))) (congrArg Value.int (I.2 k (Nat.le_refl _))) d5_29 (pc' := 30) rfl ?_
      refine WP.if0F K d5_30 (by decide) (pc' := 33) rfl ?_
      refine WP.aloadN K d5_33 rfl rfl (pc' := 34) rfl ?_
      refine WP.iloadN K d5_34 rfl (pc' := 35) rfl ?_
      refine WP.aloadN K d5_35 rfl rfl (pc' := 36) rfl ?_
      refine WP.iload K d5_36 rfl (pc' := 38) rfl ?_
      refine WP.iaload K (i := 0) A_sz rfl (by decide) (v := (.int (F 0))) rfl d5_38 (pc' := 39) rfl ?_
      refine WP.iloadN K d5_39 rfl (pc' := 40) rfl ?_
      by_cases e0 : c < (F 0)
      · refine WP.icmpT K d5_40 (tlt e0).2.2.1 (by decide) (pc' := 58) (by decide) ?_
        refine WP.iconst K d5_58 (v := (0 : Int32)) rfl (pc' := 59) rfl ?_
        have nd : ¬ b1 ∣ k := fun q => by have r := Nat.le_of_dvd (by omega) q; rw [Int32.lt_iff_toInt_lt] at e0; omega
        exact JA0 nd
      · refine WP.icmpF K d5_40 (flt e0).2.2.1 (pc' := 43) rfl ?_
        have le : b1 ≤ k := by rw [Int32.lt_iff_toInt_lt] at e0; omega
        refine WP.aloadN K d5_43 rfl rfl (pc' := 44) rfl ?_
        refine WP.iloadN K d5_44 rfl (pc' := 45) rfl ?_
        refine WP.aloadN K d5_45 rfl rfl (pc' := 46) rfl ?_
        refine WP.iload K d5_46 rfl (pc' := 48) rfl ?_
        refine WP.iaload K (i := 0) A_sz rfl (by decide) (v := (.int (F 0))) rfl d5_48 (pc' := 49) rfl ?_
        refine WP.isub K d5_49 (pc' := 50) rfl ?_
        refine WP.baloadZ K (i := (k - b1)) A_tb (own_sub hc hb1 le) (by omega) (v := (.int (T (k - b1)))) rfl d5_50 (pc' := 51) rfl ?_
        by_cases g0 : (T (k - b1)) = (0 : Int32)
        · refine WP.if0T K d5_51 ((if0 _ _).trans (teq g0).1) (by decide) (pc' := 58) (by decide) ?_
          refine WP.iconst K d5_58 (v := (0 : Int32)) rfl (pc' := 59) rfl ?_
          have nd : ¬ b1 ∣ k := fun q => by have r : T (k - b1) = 1 := (I.1 _ (by omega) (Or.inl (Nat.dvd_sub q (Nat.dvd_refl _)))); rw [r] at g0; exact absurd g0 (by decide)
          exact JA0 nd
        · refine WP.if0F K d5_51 ((if0 _ _).trans (feq g0).1) (pc' := 54) rfl ?_
          refine WP.iconst K d5_54 (v := (1 : Int32)) rfl (pc' := 55) rfl ?_
          refine WP.goto K d5_55 (by decide) (pc' := 59) (by decide) ?_
          exact JA1
  exact LOOP 4096 1 _ _ _ _ (by omega) (by omega) rfl own_One.u (own_inv_0 b1 b2) A_sz A_tb KP Z0
set_option maxRecDepth 65536 in
set_option maxHeartbeats 40000000 in
theorem rm_gcd (w : Bool) (l : Launch) (Z : State) (a0 : Array Value) (hw : ∀ d ∈ tables_1, d.before a0 Z = true) (x y : Int32) (a b : Nat) (h0 : Heap) (n0 : Nat) (Z0 : n0 ≤ h0.size) (hx : x.toInt = (a : Int)) (hy : y.toInt = (b : Int)) :
    Met w l Z (⟨"com/example/wedge/wedge/voids/Fillability", "gcd", "(II)I"⟩ : MethodName) prog_25_method_13_code 5 (some .int) [] ({ frames := 0, cells := 0, slots := 0, locals := 0 } : Room) #[(.int x), (.int y)] h0 n0 (fun v h => (∃ z : Int32, v = some (.int z) ∧ z.toInt = ((Nat.gcd a b : Nat) : Int)) ∧ h0 = h) := by
  refine Met.of (plainFor_of_name (by first | (simp [plainName, overriddenIn]; done) | decide +kernel)) fun κ K => ?_
  refine WP.frame (g' := (mkF κ.m 0 #[.val (.int x), .val (.int y), .unset, .unset, .unset] [])) (by first | (simp [entryFrame, mkF, argsToLocals, Value.category]; done) | rfl) ?_
  refine WP.iloadN K d7_0 rfl (pc' := 1) rfl ?_
  refine WP.istoreN K d7_1 (L' := #[.val (.int x), .val (.int y), .val (.int x), .unset, .unset]) rfl (pc' := 2) rfl ?_
  refine WP.iloadN K d7_2 rfl (pc' := 3) rfl ?_
  refine WP.istoreN K d7_3 (L' := #[.val (.int x), .val (.int y), .val (.int x), .val (.int y), .unset]) rfl (pc' := 4) rfl ?_
  have LOOP : ∀ (f a' b' : Nat) (x' y' : Int32) (s4 : Slot), b' < f → x'.toInt = (a' : Int) → y'.toInt = (b' : Int) → own_One s4 → Nat.gcd a' b' = Nat.gcd a b → WP κ h0 0 0 (mkF κ.m 4 #[.val (.int x), .val (.int y), .val (.int x'), .val (.int y'), s4] []) := by
    intro f
    induction f with
    | zero => intro a' b' x' y' s4 hf; omega
    | succ f ih =>
      intro a' b' x' y' s4 hf hx' hy' o_s4 hg
      refine WP.iloadN K d7_4 rfl (pc' := 5) rfl ?_
      by_cases c0 : y' = (0 : Int32)
      · refine WP.if0T K d7_5 ((if0 _ _).trans (teq c0).1) (by decide) (pc' := 21) (by decide) ?_
        refine WP.iloadN K d7_21 rfl (pc' := 22) rfl ?_
        have z0 : b' = 0 := by rw [c0] at hy'; have e : (0 : Int32).toInt = 0 := rfl; omega
        rw [z0, Nat.gcd_zero_right] at hg
        exact WP.retI K d7_22 (by decide) (by decide) ⟨⟨x', rfl, by rw [← hg]; exact hx'⟩, rfl⟩
      · refine WP.if0F K d7_5 ((if0 _ _).trans (feq c0).1) (pc' := 8) rfl ?_
        have p0 : 0 < b' := by rcases Nat.eq_zero_or_pos b' with q | q; (exact absurd (Int32.toInt_inj.mp (by rw [hy', q]; rfl)) c0); exact q
        refine WP.iloadN K d7_8 rfl (pc' := 9) rfl ?_
        refine WP.iloadN K d7_9 rfl (pc' := 10) rfl ?_
        refine WP.irem K d7_10 c0 (pc' := 11) rfl ?_
        refine WP.istore K d7_11 (L' := #[.val (.int x), .val (.int y), .val (.int x'), .val (.int y'), .val (.int (x' % y'))]) (by rcases o_s4 with rfl | ⟨w, rfl, hw⟩ <;> first | rfl | (cases w <;> first | rfl | (simp [Value.category] at hw))) (pc' := 13) rfl ?_
        refine WP.iloadN K d7_13 rfl (pc' := 14) rfl ?_
        refine WP.istoreN K d7_14 (L' := #[.val (.int x), .val (.int y), .val (.int y'), .val (.int y'), .val (.int (x' % y'))]) rfl (pc' := 15) rfl ?_
        refine WP.iload K d7_15 rfl (pc' := 17) rfl ?_
        refine WP.istoreN K d7_17 (L' := #[.val (.int x), .val (.int y), .val (.int y'), .val (.int (x' % y')), .val (.int (x' % y'))]) rfl (pc' := 18) rfl ?_
        refine WP.goto K d7_18 (by decide) (pc' := 4) (by decide) ?_
        exact ih b' (a' % b') _ _ _ (Nat.lt_of_lt_of_le (Nat.mod_lt _ p0) (by omega)) hy' (own_rem hx' hy') (own_One.v rfl) (by rw [← hg, Nat.gcd_comm a' b', Nat.gcd_rec b' a', Nat.gcd_comm])
  exact LOOP (b + 1) a b _ _ _ (by omega) hx hy own_One.u rfl
set_option maxRecDepth 65536 in
set_option maxHeartbeats 40000000 in
theorem rm_mul (w : Bool) (l : Launch) (Z : State) (a0 : Array Value) (hw : ∀ d ∈ tables_1, d.before a0 Z = true) (x y : Int32) (a b : Nat) (h0 : Heap) (n0 : Nat) (Z0 : n0 ≤ h0.size) (hx : x.toInt = (a : Int)) (hy : y.toInt = (b : Int)) (hab : a * b < 2147483648) :
    Met w l Z (⟨"java/lang/Math", "multiplyExact", "(II)I"⟩ : MethodName) jdk_29_method_28_code 4 (some .int) [] ({ frames := 0, cells := 0, slots := 0, locals := 0 } : Room) #[(.int x), (.int y)] h0 n0 (fun v h => (∃ z : Int32, v = some (.int z) ∧ z.toInt = ((a * b : Nat) : Int)) ∧ h0 = h) := by
  refine Met.of (Jvm.Free.JP.mathPlain rfl (by decide +kernel)) fun κ K => ?_
  refine WP.frame (g' := (mkF κ.m 0 #[.val (.int x), .val (.int y), .unset, .unset] [])) (by first | (simp [entryFrame, mkF, argsToLocals, Value.category]; done) | rfl) ?_
  have hm := own_mulx hx hy hab
  refine WP.iloadN K d8_0 rfl (pc' := 1) rfl ?_
  refine WP.i2l K d8_1 (pc' := 2) rfl ?_
  refine WP.iloadN K d8_2 rfl (pc' := 3) rfl ?_
  refine WP.i2l K d8_3 (pc' := 4) rfl ?_
  refine WP.lmul K d8_4 (pc' := 5) rfl ?_
  refine WP.lstoreN K d8_5 (L' := #[.val (.int x), .val (.int y), .val (.long (((x).toInt64) * ((y).toInt64))), .second]) rfl (pc' := 6) rfl ?_
  generalize e_m : (((x).toInt64) * ((y).toInt64)) = m at hm ⊢
  refine WP.lloadN K d8_6 rfl (pc' := 7) rfl ?_
  refine WP.l2i K d8_7 (pc' := 8) rfl ?_
  refine WP.i2l K d8_8 (pc' := 9) rfl ?_
  refine WP.lloadN K d8_9 rfl (pc' := 10) rfl ?_
  refine WP.lcmp K d8_10 (pc' := 11) rfl ?_
  have q : ((((m).toInt32)).toInt64) = m := by apply Int64.toInt_inj.mp; rw [c_i2l, own_mul32 hm hab, hm]
  refine WP.if0T K d8_11 ((if0 _ _).trans (teq ((lw_eq _ _).mpr q)).1) (by decide) (pc' := 24) (by decide) ?_
  refine WP.lloadN K d8_24 rfl (pc' := 25) rfl ?_
  refine WP.l2i K d8_25 (pc' := 26) rfl ?_
  exact WP.retI K d8_26 (by decide) (by decide) ⟨⟨_, rfl, own_mul32 hm hab⟩, rfl⟩
set_option maxRecDepth 65536 in
set_option maxHeartbeats 40000000 in
theorem rm_period (w : Bool) (l : Launch) (Z : State) (a0 : Array Value) (hw : ∀ d ∈ tables_1, d.before a0 Z = true) (fi sz : Addr) (kS : ClassId) (F : Nat → Int32) (u : Value) (b1 b2 : Nat) (h0 : Heap) (n0 : Nat) (Z0 : n0 ≤ h0.size) (O_fi : IsFi Z h0 fi (.ref sz) u) (A_sz : Ary Z h0 sz kS .int 2 (fun j => .int (F j))) (hb1 : (F 0).toInt = (b1 : Int)) (hb2 : (F 1).toInt = (b2 : Int)) (l1 : 1 ≤ b1) (u1 : b1 ≤ 4096) (l2 : 1 ≤ b2) (u2 : b2 ≤ 4096) :
    Met w l Z (⟨"com/example/wedge/wedge/voids/Fillability", "period", "()I"⟩ : MethodName) prog_25_method_6_code 6 (some .int) [] ({ frames := 1, cells := 0, slots := 0, locals := 17 } : Room) #[(.ref fi)] h0 n0 (fun v h => (∃ (z : Int32) (P : Nat), v = some (.int z) ∧ z.toInt = (P : Int) ∧ 0 < P ∧ b1 ∣ P ∧ b2 ∣ P) ∧ h0 = h) := by
  refine Met.of (plainFor_of_name (by first | (simp [plainName, overriddenIn]; done) | decide +kernel)) fun κ K => ?_
  refine WP.frame (g' := (mkF κ.m 0 #[.val (.ref fi), .unset, .unset, .unset, .unset, .unset] [])) (by first | (simp [entryFrame, mkF, argsToLocals, Value.category]; done) | rfl) ?_
  refine WP.iconst K d6_0 (v := (1 : Int32)) rfl (pc' := 1) rfl ?_
  refine WP.istoreN K d6_1 (L' := #[.val (.ref fi), .val (.int (1 : Int32)), .unset, .unset, .unset, .unset]) rfl (pc' := 2) rfl ?_
  refine WP.aloadN K d6_2 rfl rfl (pc' := 3) rfl ?_
  refine WP.getF K (w_35 hw) Via.refl (IsFi.f_sizes O_fi) d6_3 (pc' := 6) rfl ?_
  refine WP.astoreN K d6_6 rfl (L' := #[.val (.ref fi), .val (.int (1 : Int32)), .val (.ref sz), .unset, .unset, .unset]) rfl (pc' := 7) rfl ?_
  refine WP.aloadN K d6_7 rfl rfl (pc' := 8) rfl ?_
  refine WP.arraylength K A_sz d6_8 (pc' := 9) rfl ?_
  show WP κ h0 0 0 (mkF κ.m 9 #[.val (.ref fi), .val (.int (1 : Int32)), .val (.ref sz), .unset, .unset, .unset] [(.int (2 : Int32))])
  refine WP.istoreN K d6_9 (L' := #[.val (.ref fi), .val (.int (1 : Int32)), .val (.ref sz), .val (.int (2 : Int32)), .unset, .unset]) rfl (pc' := 10) rfl ?_
  refine WP.iconst K d6_10 (v := (0 : Int32)) rfl (pc' := 11) rfl ?_
  refine WP.istore K d6_11 (L' := #[.val (.ref fi), .val (.int (1 : Int32)), .val (.ref sz), .val (.int (2 : Int32)), .val (.int (0 : Int32)), .unset]) rfl (pc' := 13) rfl ?_
  refine WP.iload K d6_13 rfl (pc' := 15) rfl ?_
  refine WP.iloadN K d6_15 rfl (pc' := 16) rfl ?_
  refine WP.icmpF K d6_16 (by decide) (pc' := 19) rfl ?_
  refine WP.aloadN K d6_19 rfl rfl (pc' := 20) rfl ?_
  refine WP.iload K d6_20 rfl (pc' := 22) rfl ?_
  refine WP.iaload K (i := 0) A_sz rfl (by decide) (v := (.int (F 0))) rfl d6_22 (pc' := 23) rfl ?_
  refine WP.istore K d6_23 (L' := #[.val (.ref fi), .val (.int (1 : Int32)), .val (.ref sz), .val (.int (2 : Int32)), .val (.int (0 : Int32)), .val (.int (F 0))]) rfl (pc' := 25) rfl ?_
  refine WP.iloadN K d6_25 rfl (pc' := 26) rfl ?_
  refine WP.iloadN K d6_26 rfl (pc' := 27) rfl ?_
  refine WP.iload K d6_27 rfl (pc' := 29) rfl ?_
  refine WP.callS K (argsL := [(.int (1 : Int32)), (.int (F 0))]) (S := [(.int (1 : Int32))]) (w_48 hw) (w_49 hw) (rm_gcd w l Z a0 hw (1 : Int32) (F 0) 1 b1 h0 n0 Z0 rfl hb1) (w_50 hw) (w_4 hw) (by decide) rfl (lenOf pd_0 rfl) rfl (W := 1) rfl (by decide) (by decide) (k' := 0) (n' := 0) rfl rfl (by decide) (by decide) d6_29 (pc' := 32) rfl fun v h6 hq => ?_
  obtain ⟨⟨g1, rfl, hg1⟩, rfl⟩ := hq
  show WP κ h0 0 0 (mkF κ.m 32 #[.val (.ref fi), .val (.int (1 : Int32)), .val (.ref sz), .val (.int (2 : Int32)), .val (.int (0 : Int32)), .val (.int (F 0))] [(.int g1), (.int (1 : Int32))])
  rw [Nat.gcd_one_left] at hg1
  refine WP.idiv K d6_32 (own_nz hg1 (by decide)) (pc' := 33) rfl ?_
  refine WP.iload K d6_33 rfl (pc' := 35) rfl ?_
  refine WP.callS K (argsL := [(.int ((1 : Int32) / g1)), (.int (F 0))]) (S := []) (w_51 hw) (w_52 hw) (rm_mul w l Z a0 hw ((1 : Int32) / g1) (F 0) (1 / 1) b1 h0 n0 Z0 (own_div rfl hg1) hb1 (by omega)) (w_54 hw) (w_53 hw) (by decide) rfl (lenOf pd_0 rfl) rfl (W := 0) rfl (by decide) (by decide) (k' := 0) (n' := 0) rfl rfl (by decide) (by decide) d6_35 (pc' := 38) rfl fun v h7 hq => ?_
  obtain ⟨⟨m1, rfl, hm1⟩, rfl⟩ := hq
  show WP κ h0 0 0 (mkF κ.m 38 #[.val (.ref fi), .val (.int (1 : Int32)), .val (.ref sz), .val (.int (2 : Int32)), .val (.int (0 : Int32)), .val (.int (F 0))] [(.int m1)])
  rw [Nat.div_one, Nat.one_mul] at hm1
  refine WP.istoreN K d6_38 (L' := #[.val (.ref fi), .val (.int m1), .val (.ref sz), .val (.int (2 : Int32)), .val (.int (0 : Int32)), .val (.int (F 0))]) rfl (pc' := 39) rfl ?_
  refine WP.iinc K d6_39 (v := (1 : Int32)) rfl rfl (L' := #[.val (.ref fi), .val (.int m1), .val (.ref sz), .val (.int (2 : Int32)), .val (.int (1 : Int32)), .val (.int (F 0))]) rfl (pc' := 42) rfl ?_
  refine WP.goto K d6_42 (by decide) (pc' := 13) (by decide) ?_
  refine WP.iload K d6_13 rfl (pc' := 15) rfl ?_
  refine WP.iloadN K d6_15 rfl (pc' := 16) rfl ?_
  refine WP.icmpF K d6_16 (by decide) (pc' := 19) rfl ?_
  refine WP.aloadN K d6_19 rfl rfl (pc' := 20) rfl ?_
  refine WP.iload K d6_20 rfl (pc' := 22) rfl ?_
  refine WP.iaload K (i := 1) A_sz rfl (by decide) (v := (.int (F 1))) rfl d6_22 (pc' := 23) rfl ?_
  refine WP.istore K d6_23 (L' := #[.val (.ref fi), .val (.int m1), .val (.ref sz), .val (.int (2 : Int32)), .val (.int (1 : Int32)), .val (.int (F 1))]) rfl (pc' := 25) rfl ?_
  refine WP.iloadN K d6_25 rfl (pc' := 26) rfl ?_
  refine WP.iloadN K d6_26 rfl (pc' := 27) rfl ?_
  refine WP.iload K d6_27 rfl (pc' := 29) rfl ?_
  refine WP.callS K (argsL := [(.int m1), (.int (F 1))]) (S := [(.int m1)]) (w_48 hw) (w_49 hw) (rm_gcd w l Z a0 hw m1 (F 1) b1 b2 h0 n0 Z0 hm1 hb2) (w_50 hw) (w_4 hw) (by decide) rfl (lenOf pd_0 rfl) rfl (W := 1) rfl (by decide) (by decide) (k' := 0) (n' := 0) rfl rfl (by decide) (by decide) d6_29 (pc' := 32) rfl fun v h8 hq => ?_
  obtain ⟨⟨g2, rfl, hg2⟩, rfl⟩ := hq
  show WP κ h0 0 0 (mkF κ.m 32 #[.val (.ref fi), .val (.int m1), .val (.ref sz), .val (.int (2 : Int32)), .val (.int (1 : Int32)), .val (.int (F 1))] [(.int g2), (.int m1)])
  refine WP.idiv K d6_32 (own_nz hg2 (Nat.gcd_pos_of_pos_left _ l1)) (pc' := 33) rfl ?_
  refine WP.iload K d6_33 rfl (pc' := 35) rfl ?_
  have bnd : b1 / Nat.gcd b1 b2 * b2 < 2147483648 := Nat.lt_of_le_of_lt (Nat.mul_le_mul (Nat.le_trans (Nat.div_le_self _ _) u1) u2) (by decide)
  refine WP.callS K (argsL := [(.int (m1 / g2)), (.int (F 1))]) (S := []) (w_51 hw) (w_52 hw) (rm_mul w l Z a0 hw (m1 / g2) (F 1) (b1 / Nat.gcd b1 b2) b2 h0 n0 Z0 (own_div hm1 hg2) hb2 bnd) (w_54 hw) (w_53 hw) (by decide) rfl (lenOf pd_0 rfl) rfl (W := 0) rfl (by decide) (by decide) (k' := 0) (n' := 0) rfl rfl (by decide) (by decide) d6_35 (pc' := 38) rfl fun v h9 hq => ?_
  obtain ⟨⟨m2, rfl, hm2⟩, rfl⟩ := hq
  show WP κ h0 0 0 (mkF κ.m 38 #[.val (.ref fi), .val (.int m1), .val (.ref sz), .val (.int (2 : Int32)), .val (.int (1 : Int32)), .val (.int (F 1))] [(.int m2)])
  refine WP.istoreN K d6_38 (L' := #[.val (.ref fi), .val (.int m2), .val (.ref sz), .val (.int (2 : Int32)), .val (.int (1 : Int32)), .val (.int (F 1))]) rfl (pc' := 39) rfl ?_
  refine WP.iinc K d6_39 (v := (1 : Int32)) rfl rfl (L' := #[.val (.ref fi), .val (.int m2), .val (.ref sz), .val (.int (2 : Int32)), .val (.int (2 : Int32)), .val (.int (F 1))]) rfl (pc' := 42) rfl ?_
  refine WP.goto K d6_42 (by decide) (pc' := 13) (by decide) ?_
  refine WP.iload K d6_13 rfl (pc' := 15) rfl ?_
  refine WP.iloadN K d6_15 rfl (pc' := 16) rfl ?_
  refine WP.icmpT K d6_16 (by decide) (by decide) (pc' := 45) (by decide) ?_
  refine WP.iloadN K d6_45 rfl (pc' := 46) rfl ?_
  obtain ⟨p1, p2, p3⟩ := own_per l1 l2
  exact WP.retI K d6_46 (by decide) (by decide) ⟨⟨m2, _, rfl, hm2, p1, p2, p3⟩, rfl⟩
set_option maxRecDepth 65536 in
set_option maxHeartbeats 40000000 in
theorem rm_isf (w : Bool) (l : Launch) (Z : State) (a0 : Array Value) (hw : ∀ d ∈ tables_1, d.before a0 Z = true) (fi tb : Addr) (kT : ClassId) (T : Nat → Int32) (u : Value) (len : Int32) (n : Nat) (h0 : Heap) (n0 : Nat) (Z0 : n0 ≤ h0.size) (O_fi : IsFi Z h0 fi u (.ref tb)) (A_tb : Ary Z h0 tb kT .boolean 4097 (fun j => .int (T j))) (hlen : len.toInt = (n : Int)) (hn : n ≤ 4096) :
    Met w l Z (⟨"com/example/wedge/wedge/voids/Fillability", "isFillable", "(I)Z"⟩ : MethodName) prog_25_method_4_code 2 (some .boolean) [] ({ frames := 0, cells := 0, slots := 0, locals := 0 } : Room) #[(.ref fi), (.int len)] h0 n0 (fun v h => v = some (.int (nar .boolean (T n))) ∧ h0 = h) := by
  refine Met.of (plainFor_of_name (by first | (simp [plainName, overriddenIn]; done) | decide +kernel)) fun κ K => ?_
  refine WP.frame (g' := (mkF κ.m 0 #[.val (.ref fi), .val (.int len)] [])) (by first | (simp [entryFrame, mkF, argsToLocals, Value.category]; done) | rfl) ?_
  refine WP.aloadN K d9_0 rfl rfl (pc' := 1) rfl ?_
  refine WP.getF K (w_41 hw) Via.refl (IsFi.f_fillable O_fi) d9_1 (pc' := 4) rfl ?_
  refine WP.iloadN K d9_4 rfl (pc' := 5) rfl ?_
  refine WP.baloadZ K (i := n) A_tb hlen (by omega) (v := (.int (T n))) rfl d9_5 (pc' := 6) rfl ?_
  exact WP.retN K (ty := .boolean) (by decide) d9_6 (by decide) (by decide) ⟨rfl, rfl⟩
set_option maxRecDepth 65536 in
set_option maxHeartbeats 40000000 in
theorem rm_level (w : Bool) (l : Launch) (Z : State) (a0 : Array Value) (hw : ∀ d ∈ tables_1, d.before a0 Z = true) (fi tb : Addr) (kT : ClassId) (T : Nat → Int32) (u : Value) (size other per len : Int32) (n : Nat) (h0 : Heap) (n0 : Nat) (Z0 : n0 ≤ h0.size) (O_fi : IsFi Z h0 fi u (.ref tb)) (A_tb : Ary Z h0 tb kT .boolean 4097 (fun j => .int (T j))) (hlen : len.toInt = (n : Int)) (hn : n ≤ 4096) (z1 : size ≠ 0) (z2 : other ≠ 0) (z3 : per ≠ 0) :
    Met w l Z (⟨"com/example/wedge/wedge/link/FunctionalVoid", "level", "(Lcom/example/wedge/wedge/voids/Fillability;IIII)I"⟩ : MethodName) prog_12_method_5_code 6 (some .int) [] ({ frames := 1, cells := 0, slots := 0, locals := 13 } : Room) #[(.ref fi), (.int size), (.int other), (.int per), (.int len)] h0 n0 (fun v h => v = some (.int (own_lvl size other per len (nar .boolean (T n)))) ∧ h0 = h) := by
  refine Met.of (plainFor_of_name (by first | (simp [plainName, overriddenIn]; done) | decide +kernel)) fun κ K => ?_
  refine WP.frame (g' := (mkF κ.m 0 #[.val (.ref fi), .val (.int size), .val (.int other), .val (.int per), .val (.int len), .unset] [])) (by first | (simp [entryFrame, mkF, argsToLocals, Value.category]; done) | rfl) ?_
  refine WP.iload K d10_0 rfl (pc' := 2) rfl ?_
  refine WP.iloadN K d10_2 rfl (pc' := 3) rfl ?_
  by_cases c10 : len < size
  · refine WP.icmpF K d10_3 (tlt c10).2.1 (pc' := 6) rfl ?_
    refine WP.iconst K d10_6 (v := (0 : Int32)) rfl (pc' := 7) rfl ?_
    refine WP.istore K d10_7 (L' := #[.val (.ref fi), .val (.int size), .val (.int other), .val (.int per), .val (.int len), .val (.int (0 : Int32))]) rfl (pc' := 9) rfl ?_
    refine WP.goto K d10_9 (by decide) (pc' := 81) (by decide) ?_
    refine WP.iload K d10_81 rfl (pc' := 83) rfl ?_
    have e : own_lvl size other per len (nar .boolean (T n)) = (0 : Int32) := by unfold own_lvl; simp only [c10, if_true, if_false, true_and, and_true, and_false, false_and, not_false_eq_true]
    rw [← e]
    exact WP.retI K d10_83 (by decide) (by decide) ⟨rfl, rfl⟩
  · refine WP.icmpT K d10_3 (flt c10).2.1 (by decide) (pc' := 12) (by decide) ?_
    refine WP.iload K d10_12 rfl (pc' := 14) rfl ?_
    refine WP.iloadN K d10_14 rfl (pc' := 15) rfl ?_
    refine WP.irem K d10_15 z1 (pc' := 16) rfl ?_
    by_cases c11 : (len % size) = (0 : Int32)
    · refine WP.if0F K d10_16 ((if0 _ _).trans (teq c11).2) (pc' := 19) rfl ?_
      refine WP.iload K d10_19 rfl (pc' := 21) rfl ?_
      refine WP.iloadN K d10_21 rfl (pc' := 22) rfl ?_
      by_cases c12 : len < per
      · refine WP.icmpF K d10_22 (tlt c12).2.1 (pc' := 25) rfl ?_
        refine WP.iconst K d10_25 (v := (1 : Int32)) rfl (pc' := 26) rfl ?_
        refine WP.istore K d10_26 (L' := #[.val (.ref fi), .val (.int size), .val (.int other), .val (.int per), .val (.int len), .val (.int (1 : Int32))]) rfl (pc' := 28) rfl ?_
        refine WP.goto K d10_28 (by decide) (pc' := 81) (by decide) ?_
        refine WP.iload K d10_81 rfl (pc' := 83) rfl ?_
        have e : own_lvl size other per len (nar .boolean (T n)) = (1 : Int32) := by unfold own_lvl; simp only [c10, c11, c12, if_true, if_false, true_and, and_true, and_false, false_and, not_false_eq_true]
        rw [← e]
        exact WP.retI K d10_83 (by decide) (by decide) ⟨rfl, rfl⟩
      · refine WP.icmpT K d10_22 (flt c12).2.1 (by decide) (pc' := 31) (by decide) ?_
        refine WP.aloadN K d10_31 rfl rfl (pc' := 32) rfl ?_
        refine WP.iload K d10_32 rfl (pc' := 34) rfl ?_
        refine WP.callV K (a := fi) (argsL := [(.int len)]) (S := []) (w_64 hw) (w_56 hw) (fun vm0 hZ => notFace_of_selects (args := #[]) (mvT (s := κ.s.setVm vm0) hZ (w_58 hw))) (w_58 hw) (w_57 hw) (by decide) (IsFi.exa O_fi) (rm_isf w l Z a0 hw fi tb kT T u len n h0 n0 Z0 O_fi A_tb hlen hn) (w_59 hw) (w_4 hw) (by decide) rfl (lenOf pd_1 rfl) rfl (W := 0) rfl (by decide) (by decide) (k' := 0) (n' := 0) rfl rfl (by decide) (by decide) d10_34 (pc' := 37) rfl fun v h13 hq => ?_
        obtain ⟨rfl, rfl⟩ := hq
        show WP κ h0 0 0 (mkF κ.m 37 #[.val (.ref fi), .val (.int size), .val (.int other), .val (.int per), .val (.int len), .unset] [(.int (nar .boolean (T n)))])
        by_cases c14 : (nar .boolean (T n)) = (0 : Int32)
        · refine WP.if0F K d10_37 ((if0 _ _).trans (teq c14).2) (pc' := 40) rfl ?_
          refine WP.iconst K d10_40 (v := (5 : Int32)) rfl (pc' := 41) rfl ?_
          refine WP.istore K d10_41 (L' := #[.val (.ref fi), .val (.int size), .val (.int other), .val (.int per), .val (.int len), .val (.int (5 : Int32))]) rfl (pc' := 43) rfl ?_
          refine WP.goto K d10_43 (by decide) (pc' := 81) (by decide) ?_
          refine WP.iload K d10_81 rfl (pc' := 83) rfl ?_
          have e : own_lvl size other per len (nar .boolean (T n)) = (5 : Int32) := by unfold own_lvl; simp only [c10, c11, c12, c14, if_true, if_false, true_and, and_true, and_false, false_and, not_false_eq_true]
          rw [← e]
          exact WP.retI K d10_83 (by decide) (by decide) ⟨rfl, rfl⟩
        · refine WP.if0T K d10_37 ((if0 _ _).trans (feq c14).2) (by decide) (pc' := 46) (by decide) ?_
          refine WP.iload K d10_46 rfl (pc' := 48) rfl ?_
          refine WP.iloadN K d10_48 rfl (pc' := 49) rfl ?_
          refine WP.irem K d10_49 z3 (pc' := 50) rfl ?_
          by_cases c15 : (len % per) = (0 : Int32)
          · refine WP.if0F K d10_50 ((if0 _ _).trans (teq c15).2) (pc' := 53) rfl ?_
            refine WP.iconst K d10_53 (v := (3 : Int32)) rfl (pc' := 54) rfl ?_
            refine WP.istore K d10_54 (L' := #[.val (.ref fi), .val (.int size), .val (.int other), .val (.int per), .val (.int len), .val (.int (3 : Int32))]) rfl (pc' := 56) rfl ?_
            refine WP.goto K d10_56 (by decide) (pc' := 81) (by decide) ?_
            refine WP.iload K d10_81 rfl (pc' := 83) rfl ?_
            have e : own_lvl size other per len (nar .boolean (T n)) = (3 : Int32) := by unfold own_lvl; simp only [c10, c11, c12, c14, c15, if_true, if_false, true_and, and_true, and_false, false_and, not_false_eq_true]
            rw [← e]
            exact WP.retI K d10_83 (by decide) (by decide) ⟨rfl, rfl⟩
          · refine WP.if0T K d10_50 ((if0 _ _).trans (feq c15).2) (by decide) (pc' := 59) (by decide) ?_
            refine WP.iload K d10_59 rfl (pc' := 61) rfl ?_
            refine WP.iloadN K d10_61 rfl (pc' := 62) rfl ?_
            refine WP.irem K d10_62 z2 (pc' := 63) rfl ?_
            by_cases c16 : (len % other) = (0 : Int32)
            · refine WP.if0F K d10_63 ((if0 _ _).trans (teq c16).2) (pc' := 66) rfl ?_
              refine WP.iload K d10_66 rfl (pc' := 68) rfl ?_
              refine WP.iloadN K d10_68 rfl (pc' := 69) rfl ?_
              refine WP.icmpT K d10_69 (flt c12).2.1 (by decide) (pc' := 78) (by decide) ?_
              refine WP.iconst K d10_78 (v := (2 : Int32)) rfl (pc' := 79) rfl ?_
              refine WP.istore K d10_79 (L' := #[.val (.ref fi), .val (.int size), .val (.int other), .val (.int per), .val (.int len), .val (.int (2 : Int32))]) rfl (pc' := 81) rfl ?_
              refine WP.iload K d10_81 rfl (pc' := 83) rfl ?_
              have e : own_lvl size other per len (nar .boolean (T n)) = (2 : Int32) := by unfold own_lvl; simp only [c10, c11, c12, c14, c15, c16, if_true, if_false, true_and, and_true, and_false, false_and, not_false_eq_true]
              rw [← e]
              exact WP.retI K d10_83 (by decide) (by decide) ⟨rfl, rfl⟩
            · refine WP.if0T K d10_63 ((if0 _ _).trans (feq c16).2) (by decide) (pc' := 78) (by decide) ?_
              refine WP.iconst K d10_78 (v := (2 : Int32)) rfl (pc' := 79) rfl ?_
              refine WP.istore K d10_79 (L' := #[.val (.ref fi), .val (.int size), .val (.int other), .val (.int per), .val (.int len), .val (.int (2 : Int32))]) rfl (pc' := 81) rfl ?_
              refine WP.iload K d10_81 rfl (pc' := 83) rfl ?_
              have e : own_lvl size other per len (nar .boolean (T n)) = (2 : Int32) := by unfold own_lvl; simp only [c10, c11, c12, c14, c15, c16, if_true, if_false, true_and, and_true, and_false, false_and, not_false_eq_true]
              rw [← e]
              exact WP.retI K d10_83 (by decide) (by decide) ⟨rfl, rfl⟩
    · refine WP.if0T K d10_16 ((if0 _ _).trans (feq c11).2) (by decide) (pc' := 31) (by decide) ?_
      refine WP.aloadN K d10_31 rfl rfl (pc' := 32) rfl ?_
      refine WP.iload K d10_32 rfl (pc' := 34) rfl ?_
      refine WP.callV K (a := fi) (argsL := [(.int len)]) (S := []) (w_64 hw) (w_56 hw) (fun vm0 hZ => notFace_of_selects (args := #[]) (mvT (s := κ.s.setVm vm0) hZ (w_58 hw))) (w_58 hw) (w_57 hw) (by decide) (IsFi.exa O_fi) (rm_isf w l Z a0 hw fi tb kT T u len n h0 n0 Z0 O_fi A_tb hlen hn) (w_59 hw) (w_4 hw) (by decide) rfl (lenOf pd_1 rfl) rfl (W := 0) rfl (by decide) (by decide) (k' := 0) (n' := 0) rfl rfl (by decide) (by decide) d10_34 (pc' := 37) rfl fun v h17 hq => ?_
      obtain ⟨rfl, rfl⟩ := hq
      show WP κ h0 0 0 (mkF κ.m 37 #[.val (.ref fi), .val (.int size), .val (.int other), .val (.int per), .val (.int len), .unset] [(.int (nar .boolean (T n)))])
      by_cases c18 : (nar .boolean (T n)) = (0 : Int32)
      · refine WP.if0F K d10_37 ((if0 _ _).trans (teq c18).2) (pc' := 40) rfl ?_
        refine WP.iconst K d10_40 (v := (5 : Int32)) rfl (pc' := 41) rfl ?_
        refine WP.istore K d10_41 (L' := #[.val (.ref fi), .val (.int size), .val (.int other), .val (.int per), .val (.int len), .val (.int (5 : Int32))]) rfl (pc' := 43) rfl ?_
        refine WP.goto K d10_43 (by decide) (pc' := 81) (by decide) ?_
        refine WP.iload K d10_81 rfl (pc' := 83) rfl ?_
        have e : own_lvl size other per len (nar .boolean (T n)) = (5 : Int32) := by unfold own_lvl; simp only [c10, c11, c18, if_true, if_false, true_and, and_true, and_false, false_and, not_false_eq_true]
        rw [← e]
        exact WP.retI K d10_83 (by decide) (by decide) ⟨rfl, rfl⟩
      · refine WP.if0T K d10_37 ((if0 _ _).trans (feq c18).2) (by decide) (pc' := 46) (by decide) ?_
        refine WP.iload K d10_46 rfl (pc' := 48) rfl ?_
        refine WP.iloadN K d10_48 rfl (pc' := 49) rfl ?_
        refine WP.irem K d10_49 z3 (pc' := 50) rfl ?_
        by_cases c19 : (len % per) = (0 : Int32)
        · refine WP.if0F K d10_50 ((if0 _ _).trans (teq c19).2) (pc' := 53) rfl ?_
          refine WP.iconst K d10_53 (v := (3 : Int32)) rfl (pc' := 54) rfl ?_
          refine WP.istore K d10_54 (L' := #[.val (.ref fi), .val (.int size), .val (.int other), .val (.int per), .val (.int len), .val (.int (3 : Int32))]) rfl (pc' := 56) rfl ?_
          refine WP.goto K d10_56 (by decide) (pc' := 81) (by decide) ?_
          refine WP.iload K d10_81 rfl (pc' := 83) rfl ?_
          have e : own_lvl size other per len (nar .boolean (T n)) = (3 : Int32) := by unfold own_lvl; simp only [c10, c11, c18, c19, if_true, if_false, true_and, and_true, and_false, false_and, not_false_eq_true]
          rw [← e]
          exact WP.retI K d10_83 (by decide) (by decide) ⟨rfl, rfl⟩
        · refine WP.if0T K d10_50 ((if0 _ _).trans (feq c19).2) (by decide) (pc' := 59) (by decide) ?_
          refine WP.iload K d10_59 rfl (pc' := 61) rfl ?_
          refine WP.iloadN K d10_61 rfl (pc' := 62) rfl ?_
          refine WP.irem K d10_62 z2 (pc' := 63) rfl ?_
          by_cases c20 : (len % other) = (0 : Int32)
          · refine WP.if0F K d10_63 ((if0 _ _).trans (teq c20).2) (pc' := 66) rfl ?_
            refine WP.iload K d10_66 rfl (pc' := 68) rfl ?_
            refine WP.iloadN K d10_68 rfl (pc' := 69) rfl ?_
            by_cases c21 : len < per
            · refine WP.icmpF K d10_69 (tlt c21).2.1 (pc' := 72) rfl ?_
              refine WP.iconst K d10_72 (v := (4 : Int32)) rfl (pc' := 73) rfl ?_
              refine WP.istore K d10_73 (L' := #[.val (.ref fi), .val (.int size), .val (.int other), .val (.int per), .val (.int len), .val (.int (4 : Int32))]) rfl (pc' := 75) rfl ?_
              refine WP.goto K d10_75 (by decide) (pc' := 81) (by decide) ?_
              refine WP.iload K d10_81 rfl (pc' := 83) rfl ?_
              have e : own_lvl size other per len (nar .boolean (T n)) = (4 : Int32) := by unfold own_lvl; simp only [c10, c11, c18, c19, c20, c21, if_true, if_false, true_and, and_true, and_false, false_and, not_false_eq_true]
              rw [← e]
              exact WP.retI K d10_83 (by decide) (by decide) ⟨rfl, rfl⟩
            · refine WP.icmpT K d10_69 (flt c21).2.1 (by decide) (pc' := 78) (by decide) ?_
              refine WP.iconst K d10_78 (v := (2 : Int32)) rfl (pc' := 79) rfl ?_
              refine WP.istore K d10_79 (L' := #[.val (.ref fi), .val (.int size), .val (.int other), .val (.int per), .val (.int len), .val (.int (2 : Int32))]) rfl (pc' := 81) rfl ?_
              refine WP.iload K d10_81 rfl (pc' := 83) rfl ?_
              have e : own_lvl size other per len (nar .boolean (T n)) = (2 : Int32) := by unfold own_lvl; simp only [c10, c11, c18, c19, c20, c21, if_true, if_false, true_and, and_true, and_false, false_and, not_false_eq_true]
              rw [← e]
              exact WP.retI K d10_83 (by decide) (by decide) ⟨rfl, rfl⟩
          · refine WP.if0T K d10_63 ((if0 _ _).trans (feq c20).2) (by decide) (pc' := 78) (by decide) ?_
            refine WP.iconst K d10_78 (v := (2 : Int32)) rfl (pc' := 79) rfl ?_
            refine WP.istore K d10_79 (L' := #[.val (.ref fi), .val (.int size), .val (.int other), .val (.int per), .val (.int len), .val (.int (2 : Int32))]) rfl (pc' := 81) rfl ?_
            refine WP.iload K d10_81 rfl (pc' := 83) rfl ?_
            have e : own_lvl size other per len (nar .boolean (T n)) = (2 : Int32) := by unfold own_lvl; simp only [c10, c11, c18, c19, c20, if_true, if_false, true_and, and_true, and_false, false_and, not_false_eq_true]
            rw [← e]
            exact WP.retI K d10_83 (by decide) (by decide) ⟨rfl, rfl⟩
set_option maxRecDepth 65536 in
set_option maxHeartbeats 40000000 in
theorem rm_init (l : Launch) (Z : State) (a0 : Array Value) (hw : ∀ d ∈ tables_1, d.before a0 Z = true) (fi sz : Addr) (kS : ClassId) (F : Nat → Int32) (v1 v2 : Value) (b1 b2 : Nat) (h0 : Heap) (n0 : Nat) (Z0 : n0 ≤ h0.size) (O_fi : IsFi Z h0 fi v1 v2) (old_fi : n0 ≤ fi) (X_sz : Exa Z h0 sz "[I") (A_sz : Ary Z h0 sz kS .int 2 (fun j => .int (F j))) (hb1 : (F 0).toInt = (b1 : Int)) (hb2 : (F 1).toInt = (b2 : Int)) (l1 : 1 ≤ b1) (u1 : b1 ≤ 4096) (l2 : 1 ≤ b2) (u2 : b2 ≤ 4096) :
    Met true l Z (⟨"com/example/wedge/wedge/voids/Fillability", "<init>", "([II)V"⟩ : MethodName) prog_25_method_1_code 7 none [] ({ frames := 1, cells := 4, slots := 4123, locals := 17 } : Room) #[(.ref fi), (.ref sz), (.int (4096 : Int32))] h0 n0 (fun v h => v = none ∧ Keep h0 h [fi] ∧ ∃ (s2 tb : Addr) (kT : ClassId) (T : Nat → Int32), IsFi Z h fi (.ref s2) (.ref tb) ∧ Ary Z h s2 kS .int 2 (fun j => .int (F j)) ∧ Ary Z h tb kT .boolean 4097 (fun j => .int (T j)) ∧ own_full b1 b2 T) := by
  refine Met.of (plainFor_of_name (by first | (simp [plainName, overriddenIn]; done) | decide +kernel)) fun κ K => ?_
  refine WP.frame (g' := (mkF κ.m 0 #[.val (.ref fi), .val (.ref sz), .val (.int (4096 : Int32)), .unset, .unset, .unset, .unset] [])) (by first | (simp [entryFrame, mkF, argsToLocals, Value.category]; done) | rfl) ?_
  have KP := Keep.refl h0 [fi]
  refine WP.aloadN K d1_0 rfl rfl (pc' := 1) rfl ?_
  refine WP.initO K (w_8 hw) (w_9 hw) (w_10 hw) d1_1 rfl (by decide) (W := 0) rfl (by decide) (pc' := 4) rfl ?_
  refine WP.aloadN K d1_4 rfl rfl (pc' := 5) rfl ?_
  refine WP.ldcS K (cap := 20) (w_11 hw) (own_str hw) d1_5 (by decide) (by decide) (k' := 2) (n' := 24) rfl rfl (by decide) (by decide) (pc' := 7) rfl fun h22 st E22 => ?_
  have O_fi := IsFi.ext E22 O_fi
  have A_sz := Ary.ext E22 A_sz
  have X_sz := X_sz.ext E22
  have KP := Keep.ext KP E22
  have Z0 := Nat.le_trans Z0 E22.1
  refine WP.callS K (argsL := [(.ref sz), (.ref st)]) (S := []) (w_19 hw) (w_20 hw) (rm_rnn true l Z a0 hw sz st h22 n0 Z0) (w_22 hw) (w_21 hw) (by decide) rfl (lenOf pd_2 rfl) rfl (W := 0) rfl (by decide) (by decide) (k' := 2) (n' := 24) rfl rfl (by decide) (by decide) d1_7 (pc' := 10) rfl fun v h23 hq => ?_
  obtain ⟨rfl, rfl⟩ := hq
  show WP κ h22 2 24 (mkF κ.m 10 #[.val (.ref fi), .val (.ref sz), .val (.int (4096 : Int32)), .unset, .unset, .unset, .unset] [(.ref sz)])
  refine WP.pop K d1_10 rfl (pc' := 11) rfl ?_
  refine WP.aloadN K d1_11 rfl rfl (pc' := 12) rfl ?_
  refine WP.arraylength K A_sz d1_12 (pc' := 13) rfl ?_
  show WP κ h22 2 24 (mkF κ.m 13 #[.val (.ref fi), .val (.ref sz), .val (.int (4096 : Int32)), .unset, .unset, .unset, .unset] [(.int (2 : Int32))])
  refine WP.if0T K d1_13 (by decide) (by decide) (pc' := 26) (by decide) ?_
  refine WP.aloadN K d1_26 rfl rfl (pc' := 27) rfl ?_
  refine WP.astoreN K d1_27 rfl (L' := #[.val (.ref fi), .val (.ref sz), .val (.int (4096 : Int32)), .val (.ref sz), .unset, .unset, .unset]) rfl (pc' := 28) rfl ?_
  refine WP.aloadN K d1_28 rfl rfl (pc' := 29) rfl ?_
  refine WP.arraylength K A_sz d1_29 (pc' := 30) rfl ?_
  show WP κ h22 2 24 (mkF κ.m 30 #[.val (.ref fi), .val (.ref sz), .val (.int (4096 : Int32)), .val (.ref sz), .unset, .unset, .unset] [(.int (2 : Int32))])
  refine WP.istore K d1_30 (L' := #[.val (.ref fi), .val (.ref sz), .val (.int (4096 : Int32)), .val (.ref sz), .val (.int (2 : Int32)), .unset, .unset]) rfl (pc' := 32) rfl ?_
  refine WP.iconst K d1_32 (v := (0 : Int32)) rfl (pc' := 33) rfl ?_
  refine WP.istore K d1_33 (L' := #[.val (.ref fi), .val (.ref sz), .val (.int (4096 : Int32)), .val (.ref sz), .val (.int (2 : Int32)), .val (.int (0 : Int32)), .unset]) rfl (pc' := 35) rfl ?_
  refine WP.iload K d1_35 rfl (pc' := 37) rfl ?_
  refine WP.iload K d1_37 rfl (pc' := 39) rfl ?_
  refine WP.icmpF K d1_39 (by decide) (pc' := 42) rfl ?_
  refine WP.aloadN K d1_42 rfl rfl (pc' := 43) rfl ?_
  refine WP.iload K d1_43 rfl (pc' := 45) rfl ?_
  refine WP.iaload K (i := 0) A_sz rfl (by decide) (v := (.int (F 0))) rfl d1_45 (pc' := 46) rfl ?_
  refine WP.istore K d1_46 (L' := #[.val (.ref fi), .val (.ref sz), .val (.int (4096 : Int32)), .val (.ref sz), .val (.int (2 : Int32)), .val (.int (0 : Int32)), .val (.int (F 0))]) rfl (pc' := 48) rfl ?_
  refine WP.iload K d1_48 rfl (pc' := 50) rfl ?_
  refine WP.iconst K d1_50 (v := (1 : Int32)) rfl (pc' := 51) rfl ?_
  have q0a : ¬ ((F 0) < (1 : Int32)) := by rw [Int32.lt_iff_toInt_lt, hb1]; have e : (1 : Int32).toInt = 1 := (by decide); omega
  refine WP.icmpT K d1_51 (flt q0a).2.1 (by decide) (pc' := 69) (by decide) ?_
  refine WP.iload K d1_69 rfl (pc' := 71) rfl ?_
  refine WP.sipush K d1_71 (v := (4096 : Int32)) rfl (pc' := 74) rfl ?_
  have q0b : ¬ ((4096 : Int32) < (F 0)) := by rw [Int32.lt_iff_toInt_lt, hb1]; have e : (4096 : Int32).toInt = 4096 := (by decide); omega
  refine WP.icmpT K d1_74 (flt q0b).2.2.2 (by decide) (pc' := 92) (by decide) ?_
  refine WP.iinc K d1_92 (v := (1 : Int32)) rfl rfl (L' := #[.val (.ref fi), .val (.ref sz), .val (.int (4096 : Int32)), .val (.ref sz), .val (.int (2 : Int32)), .val (.int (1 : Int32)), .val (.int (F 0))]) rfl (pc' := 95) rfl ?_
  refine WP.goto K d1_95 (by decide) (pc' := 35) (by decide) ?_
  refine WP.iload K d1_35 rfl (pc' := 37) rfl ?_
  refine WP.iload K d1_37 rfl (pc' := 39) rfl ?_
  refine WP.icmpF K d1_39 (by decide) (pc' := 42) rfl ?_
  refine WP.aloadN K d1_42 rfl rfl (pc' := 43) rfl ?_
  refine WP.iload K d1_43 rfl (pc' := 45) rfl ?_
  refine WP.iaload K (i := 1) A_sz rfl (by decide) (v := (.int (F 1))) rfl d1_45 (pc' := 46) rfl ?_
  refine WP.istore K d1_46 (L' := #[.val (.ref fi), .val (.ref sz), .val (.int (4096 : Int32)), .val (.ref sz), .val (.int (2 : Int32)), .val (.int (1 : Int32)), .val (.int (F 1))]) rfl (pc' := 48) rfl ?_
  refine WP.iload K d1_48 rfl (pc' := 50) rfl ?_
  refine WP.iconst K d1_50 (v := (1 : Int32)) rfl (pc' := 51) rfl ?_
  have q1a : ¬ ((F 1) < (1 : Int32)) := by rw [Int32.lt_iff_toInt_lt, hb2]; have e : (1 : Int32).toInt = 1 := (by decide); omega
  refine WP.icmpT K d1_51 (flt q1a).2.1 (by decide) (pc' := 69) (by decide) ?_
  refine WP.iload K d1_69 rfl (pc' := 71) rfl ?_
  refine WP.sipush K d1_71 (v := (4096 : Int32)) rfl (pc' := 74) rfl ?_
  have q1b : ¬ ((4096 : Int32) < (F 1)) := by rw [Int32.lt_iff_toInt_lt, hb2]; have e : (4096 : Int32).toInt = 4096 := (by decide); omega
  refine WP.icmpT K d1_74 (flt q1b).2.2.2 (by decide) (pc' := 92) (by decide) ?_
  refine WP.iinc K d1_92 (v := (1 : Int32)) rfl rfl (L' := #[.val (.ref fi), .val (.ref sz), .val (.int (4096 : Int32)), .val (.ref sz), .val (.int (2 : Int32)), .val (.int (2 : Int32)), .val (.int (F 1))]) rfl (pc' := 95) rfl ?_
  refine WP.goto K d1_95 (by decide) (pc' := 35) (by decide) ?_
  refine WP.iload K d1_35 rfl (pc' := 37) rfl ?_
  refine WP.iload K d1_37 rfl (pc' := 39) rfl ?_
  refine WP.icmpT K d1_39 (by decide) (by decide) (pc' := 98) (by decide) ?_
  refine WP.iloadN K d1_98 rfl (pc' := 99) rfl ?_
  refine WP.callS K (argsL := [(.int (4096 : Int32))]) (S := []) (w_23 hw) (w_24 hw) (rm_upto true l Z a0 hw h22 n0 Z0) (w_25 hw) (w_4 hw) (by decide) rfl (lenOf pd_3 rfl) rfl (W := 0) rfl (by decide) (by decide) (k' := 2) (n' := 24) rfl rfl (by decide) (by decide) d1_99 (pc' := 102) rfl fun v h24 hq => ?_
  obtain ⟨rfl, rfl⟩ := hq
  show WP κ h22 2 24 (mkF κ.m 102 #[.val (.ref fi), .val (.ref sz), .val (.int (4096 : Int32)), .val (.ref sz), .val (.int (2 : Int32)), .val (.int (2 : Int32)), .val (.int (F 1))] [])
  refine WP.aloadN K d1_102 rfl rfl (pc' := 103) rfl ?_
  refine WP.aloadN K d1_103 rfl rfl (pc' := 104) rfl ?_
  refine WP.cloneA K (w_26 hw) (w_27 hw) (w_31 hw) (w_29 hw) (w_30 hw) (w_32 hw) A_sz X_sz d1_104 rfl (by decide) (W := 1) rfl (by decide) (cap := 2) (Nat.le_refl _) (k' := 3) (n' := 26) rfl rfl (by decide) (by decide) (pc' := 107) rfl fun h25 s2 g25 E25 A_s2 X_s2 => ?_
  have ne_fi_s2 : fi ≠ s2 := fun z_ => by have q_ : @LT.lt Nat _ fi h22.size := (IsFi.lt O_fi); have r_ : @Eq Nat fi s2 := z_; omega
  have ne_sz_s2 : sz ≠ s2 := fun z_ => by have q_ : @LT.lt Nat _ sz h22.size := (Ary.lt A_sz); have r_ : @Eq Nat sz s2 := z_; omega
  have old_s2 : n0 ≤ s2 := by have q_ := Z0; omega
  have osz_s2 : h0.size ≤ s2 := by have q_ := KP.1; omega
  have O_fi := IsFi.ext E25 O_fi
  have A_sz := Ary.ext E25 A_sz
  have X_sz := X_sz.ext E25
  have KP := Keep.ext KP E25
  have Z0 := Nat.le_trans Z0 E25.1
  refine WP.checkcast K (w_33 hw) (Ins.of_exa X_s2 (w_34 hw)) d1_107 (pc' := 110) rfl ?_
  refine WP.putF K (w_35 hw) Via.refl (IsFi.f_sizes O_fi) (IsFi.exa O_fi) (Or.inr ⟨(w_36 hw), rfl, rfl⟩) (w_3 hw) (ty := (.array .int)) (by decide) rfl rfl old_fi d1_110 (pc' := 113) rfl fun h26 W26 => ?_
  have A_sz := Ary.other W26 A_sz (Ne.symm (Ary.ne (IsFi.exa O_fi) A_sz (w_3 hw)))
  have A_s2 := Ary.other W26 A_s2 (Ne.symm ne_fi_s2)
  have X_sz := X_sz.wr W26
  have X_s2 := X_s2.wr W26
  have KP := Keep.wr KP W26 (Or.inl (List.mem_of_getElem? (i := 0) rfl))
  have Z0 := Nat.le_trans Z0 (Nat.le_of_eq W26.size.symm)
  have O_fi := IsFi.s_sizes hw W26 O_fi
  refine WP.aloadN K d1_113 rfl rfl (pc' := 114) rfl ?_
  refine WP.aloadN K d1_114 rfl rfl (pc' := 115) rfl ?_
  refine WP.getF K (w_35 hw) Via.refl (IsFi.f_sizes O_fi) d1_115 (pc' := 118) rfl ?_
  refine WP.iloadN K d1_118 rfl (pc' := 119) rfl ?_
  have lt_fi : @LT.lt Nat _ fi h26.size := IsFi.lt O_fi
  have lt_s2 : @LT.lt Nat _ s2 h26.size := Ary.lt A_s2
  have zz := Z0
  refine WP.callS K (argsL := [(.ref s2), (.int (4096 : Int32))]) (S := [(.ref fi)]) (w_37 hw) (w_38 hw) (rm_table true l Z a0 hw s2 kS F b1 b2 h26 n0 Z0 A_s2 hb1 hb2 l1 u1 l2 u2) (w_39 hw) (w_4 hw) (by decide) rfl (lenOf pd_4 rfl) rfl (W := 1) rfl (by decide) (by decide) (k' := 4) (n' := 4123) rfl rfl (by decide) (by decide) d1_119 (pc' := 122) rfl fun v h27 hq => ?_
  obtain ⟨K0, tb, kT, T, rfl, s_tb, A_tb, hT⟩ := hq
  have O_fi := IsFi.keep K0 O_fi nin0
  have A_sz := Ary.keep K0 A_sz nin0
  have A_s2 := Ary.keep K0 A_s2 nin0
  have X_sz := X_sz.keep K0
  have X_s2 := X_s2.keep K0
  have KP := Keep.trans KP K0 all0
  have Z0 := Nat.le_trans Z0 K0.1
  show WP κ h27 4 4123 (mkF κ.m 122 #[.val (.ref fi), .val (.ref sz), .val (.int (4096 : Int32)), .val (.ref sz), .val (.int (2 : Int32)), .val (.int (2 : Int32)), .val (.int (F 1))] [(.ref tb), (.ref fi)])
  have ne_t1 : fi ≠ tb := fun z_ => by have r_ : @Eq Nat fi tb := z_; omega
  have ne_t2 : s2 ≠ tb := fun z_ => by have r_ : @Eq Nat s2 tb := z_; omega
  refine WP.putF K (w_41 hw) Via.refl (IsFi.f_fillable O_fi) (IsFi.exa O_fi) (Or.inr ⟨(w_42 hw), rfl, rfl⟩) (w_3 hw) (ty := (.array .boolean)) (by decide) rfl rfl old_fi d1_122 (pc' := 125) rfl fun h28 W28 => ?_
  have A_sz := Ary.other W28 A_sz (Ne.symm (Ary.ne (IsFi.exa O_fi) A_sz (w_3 hw)))
  have A_s2 := Ary.other W28 A_s2 (Ne.symm ne_fi_s2)
  have A_tb := Ary.other W28 A_tb (Ne.symm ne_t1)
  have X_sz := X_sz.wr W28
  have X_s2 := X_s2.wr W28
  have KP := Keep.wr KP W28 (Or.inl (List.mem_of_getElem? (i := 0) rfl))
  have Z0 := Nat.le_trans Z0 (Nat.le_of_eq W28.size.symm)
  have O_fi := IsFi.s_fillable hw W28 O_fi
  exact WP.ret0 K d1_125 (by decide) (by decide) ⟨rfl, KP, s2, tb, kT, T, O_fi, A_s2, A_tb, hT⟩
set_option maxRecDepth 65536 in
set_option maxHeartbeats 40000000 in
theorem rm_law (l : Launch) (Z : State) (a0 : Array Value) (hw : ∀ d ∈ tables_1, d.before a0 Z = true) (p0 p1 p2 p3 : Int32) (h0 : Heap) (n0 : Nat) (Z0 : n0 ≤ h0.size)  :
    Met true l Z x code maxLocals ret tables_1 room_1 #[(.int p0), (.int p1), (.int p2), (.int p3)] h0 n0 (fun v h => v = some (.int 1)) := by
  refine Met.of (plainFor_of_name (by first | (simp [plainName, overriddenIn]; done) | decide +kernel)) fun κ K => ?_
  have K : Cx κ true l Z "com/example/wedge/wedge/link/FunctionalVoidLevelPinLaw" n0 room_1 code 16 (some .boolean) "law" _ := K
  refine WP.frame (g' := (mkF κ.m 0 #[.val (.int p0), .val (.int p1), .val (.int p2), .val (.int p3), .unset, .unset, .unset, .unset, .unset, .unset, .unset, .unset, .unset, .unset, .unset, .unset] [])) (by first | (simp [entryFrame, mkF, argsToLocals, Value.category, maxLocals]; done) | rfl) ?_
  refine WP.iconst K at_0 (v := (1 : Int32)) rfl (pc' := 1) rfl ?_
  refine WP.iloadN K at_1 rfl (pc' := 2) rfl ?_
  refine WP.ldcI K (w_0 hw) at_2 (pc' := 4) rfl ?_
  refine WP.iand K at_4 (pc' := 5) rfl ?_
  refine WP.sipush K at_5 (v := (4095 : Int32)) rfl (pc' := 8) rfl ?_
  refine WP.irem K at_8 (by decide) (pc' := 9) rfl ?_
  refine WP.iadd K at_9 (pc' := 10) rfl ?_
  refine WP.istore K at_10 (L' := #[.val (.int p0), .val (.int p1), .val (.int p2), .val (.int p3), .val (.int ((1 : Int32) + ((p0 &&& (2147483647 : Int32)) % (4095 : Int32)))), .unset, .unset, .unset, .unset, .unset, .unset, .unset, .unset, .unset, .unset, .unset]) rfl (pc' := 12) rfl ?_
  obtain ⟨b1, hx1, l1, m1⟩ := own_b1 p0
  generalize e_x1 : ((1 : Int32) + ((p0 &&& (2147483647 : Int32)) % (4095 : Int32))) = x1 at hx1 ⊢
  refine WP.iload K at_12 rfl (pc' := 14) rfl ?_
  refine WP.iconst K at_14 (v := (1 : Int32)) rfl (pc' := 15) rfl ?_
  refine WP.iadd K at_15 (pc' := 16) rfl ?_
  refine WP.iloadN K at_16 rfl (pc' := 17) rfl ?_
  refine WP.ldcI K (w_0 hw) at_17 (pc' := 19) rfl ?_
  refine WP.iand K at_19 (pc' := 20) rfl ?_
  refine WP.sipush K at_20 (v := (4096 : Int32)) rfl (pc' := 23) rfl ?_
  refine WP.iload K at_23 rfl (pc' := 25) rfl ?_
  refine WP.isub K at_25 (pc' := 26) rfl ?_
  refine WP.irem K at_26 (own_4096nz hx1 m1) (pc' := 27) rfl ?_
  refine WP.iadd K at_27 (pc' := 28) rfl ?_
  refine WP.istore K at_28 (L' := #[.val (.int p0), .val (.int p1), .val (.int p2), .val (.int p3), .val (.int x1), .val (.int ((x1 + (1 : Int32)) + ((p1 &&& (2147483647 : Int32)) % ((4096 : Int32) - x1)))), .unset, .unset, .unset, .unset, .unset, .unset, .unset, .unset, .unset, .unset]) rfl (pc' := 30) rfl ?_
  obtain ⟨b2, hx2, l2, u2⟩ := own_b2 p1 hx1 l1 m1
  generalize e_x2 : ((x1 + (1 : Int32)) + ((p1 &&& (2147483647 : Int32)) % ((4096 : Int32) - x1))) = x2 at hx2 ⊢
  refine WP.iloadN K at_30 rfl (pc' := 31) rfl ?_
  refine WP.iconst K at_31 (v := (1 : Int32)) rfl (pc' := 32) rfl ?_
  refine WP.iand K at_32 (pc' := 33) rfl ?_
  by_cases cs : (p3 &&& (1 : Int32)) = (0 : Int32)
  · refine WP.if0T K at_33 ((if0 _ _).trans (teq cs).1) (by decide) (pc' := 40) (by decide) ?_
    refine WP.iconst K at_40 (v := (0 : Int32)) rfl (pc' := 41) rfl ?_
    refine WP.istore K at_41 (L' := #[.val (.int p0), .val (.int p1), .val (.int p2), .val (.int p3), .val (.int x1), .val (.int x2), .val (.int (0 : Int32)), .unset, .unset, .unset, .unset, .unset, .unset, .unset, .unset, .unset]) rfl (pc' := 43) rfl ?_
    refine WP.iload K at_43 rfl (pc' := 45) rfl ?_
    refine WP.if0T K at_45 (by decide) (by decide) (pc' := 53) (by decide) ?_
    refine WP.iload K at_53 rfl (pc' := 55) rfl ?_
    refine WP.istore K at_55 (L' := #[.val (.int p0), .val (.int p1), .val (.int p2), .val (.int p3), .val (.int x1), .val (.int x2), .val (.int (0 : Int32)), .val (.int x1), .unset, .unset, .unset, .unset, .unset, .unset, .unset, .unset]) rfl (pc' := 57) rfl ?_
    refine WP.iload K at_57 rfl (pc' := 59) rfl ?_
    refine WP.if0T K at_59 (by decide) (by decide) (pc' := 67) (by decide) ?_
    refine WP.iload K at_67 rfl (pc' := 69) rfl ?_
    refine WP.istore K at_69 (L' := #[.val (.int p0), .val (.int p1), .val (.int p2), .val (.int p3), .val (.int x1), .val (.int x2), .val (.int (0 : Int32)), .val (.int x1), .val (.int x2), .unset, .unset, .unset, .unset, .unset, .unset, .unset]) rfl (pc' := 71) rfl ?_
    refine WP.iloadN K at_71 rfl (pc' := 72) rfl ?_
    refine WP.ldcI K (w_0 hw) at_72 (pc' := 74) rfl ?_
    refine WP.iand K at_74 (pc' := 75) rfl ?_
    refine WP.sipush K at_75 (v := (4097 : Int32)) rfl (pc' := 78) rfl ?_
    refine WP.irem K at_78 (by decide) (pc' := 79) rfl ?_
    refine WP.istore K at_79 (L' := #[.val (.int p0), .val (.int p1), .val (.int p2), .val (.int p3), .val (.int x1), .val (.int x2), .val (.int (0 : Int32)), .val (.int x1), .val (.int x2), .val (.int ((p2 &&& (2147483647 : Int32)) % (4097 : Int32))), .unset, .unset, .unset, .unset, .unset, .unset]) rfl (pc' := 81) rfl ?_
    obtain ⟨n, hlen, hn⟩ := own_len p2
    generalize e_len : ((p2 &&& (2147483647 : Int32)) % (4097 : Int32)) = len at hlen ⊢
    refine WP.iconst K at_81 (v := (2 : Int32)) rfl (pc' := 82) rfl ?_
    refine WP.newarrayE (aty := .int) K (ad := "[I") (by decide) (w_1 hw) at_82 (N := 2) (cap := 2) rfl (Nat.le_refl _) (by decide) (k' := 1) (n' := 2) rfl rfl (by decide) (by decide) (pc' := 84) rfl fun h29 sz kA_sz g29 E29 A_sz X_sz => ?_
    have old_sz : n0 ≤ sz := by have q_ := Z0; omega
    have Z0 := Nat.le_trans Z0 E29.1
    have A_sz : Ary Z h29 sz kA_sz .int 2 (fun j => .int ((fun _ => (0 : Int32)) j)) := A_sz
    refine WP.dup K at_84 rfl (pc' := 85) rfl ?_
    refine WP.iconst K at_85 (v := (0 : Int32)) rfl (pc' := 86) rfl ?_
    refine WP.iload K at_86 rfl (pc' := 88) rfl ?_
    refine WP.iastore K (i := 0) A_sz rfl (by decide) old_sz at_88 (pc' := 89) rfl fun h30 W30 A_n => ?_
    have X_sz := X_sz.wr W30
    have Z0 := Nat.le_trans Z0 (Nat.le_of_eq W30.size.symm)
    have A_sz := A_n
    rw [upd_int] at A_sz
    refine WP.dup K at_89 rfl (pc' := 90) rfl ?_
    refine WP.iconst K at_90 (v := (1 : Int32)) rfl (pc' := 91) rfl ?_
    refine WP.iload K at_91 rfl (pc' := 93) rfl ?_
    refine WP.iastore K (i := 1) A_sz rfl (by decide) old_sz at_93 (pc' := 94) rfl fun h31 W31 A_n => ?_
    have X_sz := X_sz.wr W31
    have Z0 := Nat.le_trans Z0 (Nat.le_of_eq W31.size.symm)
    have A_sz := A_n
    rw [upd_int] at A_sz
    obtain ⟨F, hF⟩ : ∃ F : Nat → Int32, F = (fset (fset (fun _ => (0 : Int32)) 0 x1) 1 x2) := ⟨_, rfl⟩
    rw [← hF] at A_sz
    have f0 : (F 0).toInt = (b1 : Int) := by rw [hF]; exact hx1
    have f1 : (F 1).toInt = (b2 : Int) := by rw [hF]; exact hx2
    have u1 : b1 ≤ 4096 := by omega
    refine WP.astore K at_94 rfl (L' := #[.val (.int p0), .val (.int p1), .val (.int p2), .val (.int p3), .val (.int x1), .val (.int x2), .val (.int (0 : Int32)), .val (.int x1), .val (.int x2), .val (.int len), .val (.ref sz), .unset, .unset, .unset, .unset, .unset]) rfl (pc' := 96) rfl ?_
    refine WP.new K (w_2 hw) (w_3 hw) (w_4 hw) at_96 (k' := 2) (n' := 4) rfl rfl (by decide) (by decide) (pc' := 99) rfl fun h32 fi g32 E32 X32 D32 => ?_
    have ne_sz_fi : sz ≠ fi := fun z_ => by have q_ : @LT.lt Nat _ sz h31.size := (Ary.lt A_sz); have r_ : @Eq Nat sz fi := z_; omega
    have old_fi : n0 ≤ fi := by have q_ := Z0; omega
    have A_sz := Ary.ext E32 A_sz
    have X_sz := X_sz.ext E32
    have Z0 := Nat.le_trans Z0 E32.1
    have O_fi : IsFi Z h32 fi .null .null := ⟨X32, D32 (O := "com/example/wedge/wedge/voids/Fillability") (f := "sizes") (d := "[I") (Or.inr (w_36 hw)) (ty := (.array .int)) (by decide), D32 (O := "com/example/wedge/wedge/voids/Fillability") (f := "fillable") (d := "[Z") (Or.inr (w_42 hw)) (ty := (.array .boolean)) (by decide)⟩
    refine WP.dup K at_99 rfl (pc' := 100) rfl ?_
    refine WP.aload K at_100 rfl rfl (pc' := 102) rfl ?_
    refine WP.sipush K at_102 (v := (4096 : Int32)) rfl (pc' := 105) rfl ?_
    refine WP.callI K (a := fi) (argsL := [(.ref sz), (.int (4096 : Int32))]) (S := [(.ref fi)]) rfl (w_5 hw) (w_6 hw) (rm_init l Z a0 hw fi sz kA_sz F _ _ b1 b2 h32 n0 Z0 O_fi old_fi X_sz A_sz f0 f1 l1 u1 l2 u2) (w_7 hw) (w_4 hw) (by decide) rfl (lenOf pd_5 rfl) rfl (W := 1) rfl (by decide) (by decide) (k' := 6) (n' := 4127) rfl rfl (by decide) (by decide) at_105 (pc' := 108) rfl fun v h33 hq => ?_
    obtain ⟨rfl, K0, s2, tb, kT, T, O_fi, A_s2, A_tb, hT⟩ := hq
    have A_sz := Ary.keep K0 A_sz (ninS ne_sz_fi nin0)
    have X_sz := X_sz.keep K0
    have Z0 := Nat.le_trans Z0 K0.1
    show WP κ h33 6 4127 (mkF κ.m 108 #[.val (.int p0), .val (.int p1), .val (.int p2), .val (.int p3), .val (.int x1), .val (.int x2), .val (.int (0 : Int32)), .val (.int x1), .val (.int x2), .val (.int len), .val (.ref sz), .unset, .unset, .unset, .unset, .unset] [(.ref fi)])
    refine WP.astore K at_108 rfl (L' := #[.val (.int p0), .val (.int p1), .val (.int p2), .val (.int p3), .val (.int x1), .val (.int x2), .val (.int (0 : Int32)), .val (.int x1), .val (.int x2), .val (.int len), .val (.ref sz), .val (.ref fi), .unset, .unset, .unset, .unset]) rfl (pc' := 110) rfl ?_
    refine WP.aload K at_110 rfl rfl (pc' := 112) rfl ?_
    refine WP.callV K (a := fi) (argsL := []) (S := []) (w_43 hw) (w_44 hw) (fun vm0 hZ => notFace_of_selects (args := #[]) (mvT (s := κ.s.setVm vm0) hZ (w_46 hw))) (w_46 hw) (w_45 hw) (by decide) (IsFi.exa O_fi) (rm_period true l Z a0 hw fi s2 kA_sz F _ b1 b2 h33 n0 Z0 O_fi A_s2 f0 f1 l1 u1 l2 u2) (w_47 hw) (w_4 hw) (by decide) rfl (lenOf pd_6 rfl) rfl (W := 0) rfl (by decide) (by decide) (k' := 6) (n' := 4127) rfl rfl (by decide) (by decide) at_112 (pc' := 115) rfl fun v h34 hq => ?_
    obtain ⟨⟨per, P, rfl, hP, P0, P1, P2⟩, rfl⟩ := hq
    show WP κ h33 6 4127 (mkF κ.m 115 #[.val (.int p0), .val (.int p1), .val (.int p2), .val (.int p3), .val (.int x1), .val (.int x2), .val (.int (0 : Int32)), .val (.int x1), .val (.int x2), .val (.int len), .val (.ref sz), .val (.ref fi), .unset, .unset, .unset, .unset] [(.int per)])
    refine WP.istore K at_115 (L' := #[.val (.int p0), .val (.int p1), .val (.int p2), .val (.int p3), .val (.int x1), .val (.int x2), .val (.int (0 : Int32)), .val (.int x1), .val (.int x2), .val (.int len), .val (.ref sz), .val (.ref fi), .val (.int per), .unset, .unset, .unset]) rfl (pc' := 117) rfl ?_
    refine WP.aload K at_117 rfl rfl (pc' := 119) rfl ?_
    refine WP.iload K at_119 rfl (pc' := 121) rfl ?_
    refine WP.callV K (a := fi) (argsL := [(.int len)]) (S := []) (w_55 hw) (w_56 hw) (fun vm0 hZ => notFace_of_selects (args := #[]) (mvT (s := κ.s.setVm vm0) hZ (w_58 hw))) (w_58 hw) (w_57 hw) (by decide) (IsFi.exa O_fi) (rm_isf true l Z a0 hw fi tb kT T _ len n h33 n0 Z0 O_fi A_tb hlen hn) (w_59 hw) (w_4 hw) (by decide) rfl (lenOf pd_1 rfl) rfl (W := 0) rfl (by decide) (by decide) (k' := 6) (n' := 4127) rfl rfl (by decide) (by decide) at_121 (pc' := 124) rfl fun v h35 hq => ?_
    obtain ⟨rfl, rfl⟩ := hq
    show WP κ h33 6 4127 (mkF κ.m 124 #[.val (.int p0), .val (.int p1), .val (.int p2), .val (.int p3), .val (.int x1), .val (.int x2), .val (.int (0 : Int32)), .val (.int x1), .val (.int x2), .val (.int len), .val (.ref sz), .val (.ref fi), .val (.int per), .unset, .unset, .unset] [(.int (nar .boolean (T n)))])
    refine WP.istore K at_124 (L' := #[.val (.int p0), .val (.int p1), .val (.int p2), .val (.int p3), .val (.int x1), .val (.int x2), .val (.int (0 : Int32)), .val (.int x1), .val (.int x2), .val (.int len), .val (.ref sz), .val (.ref fi), .val (.int per), .val (.int (nar .boolean (T n))), .unset, .unset]) rfl (pc' := 126) rfl ?_
    refine WP.aload K at_126 rfl rfl (pc' := 128) rfl ?_
    refine WP.iload K at_128 rfl (pc' := 130) rfl ?_
    refine WP.iload K at_130 rfl (pc' := 132) rfl ?_
    refine WP.iload K at_132 rfl (pc' := 134) rfl ?_
    refine WP.iload K at_134 rfl (pc' := 136) rfl ?_
    have z1 := own_nz hx1 (by omega)
    have z2 := own_nz hx2 (by omega)
    have z3 := own_nz hP P0
    refine WP.callS K (argsL := [(.ref fi), (.int x1), (.int x2), (.int per), (.int len)]) (S := []) (w_60 hw) (w_61 hw) (rm_level true l Z a0 hw fi tb kT T _ x1 x2 per len n h33 n0 Z0 O_fi A_tb hlen hn z1 z2 z3) (w_63 hw) (w_62 hw) (by decide) rfl (lenOf pd_7 rfl) rfl (W := 0) rfl (by decide) (by decide) (k' := 6) (n' := 4127) rfl rfl (by decide) (by decide) at_136 (pc' := 139) rfl fun v h36 hq => ?_
    obtain ⟨rfl, rfl⟩ := hq
    show WP κ h33 6 4127 (mkF κ.m 139 #[.val (.int p0), .val (.int p1), .val (.int p2), .val (.int p3), .val (.int x1), .val (.int x2), .val (.int (0 : Int32)), .val (.int x1), .val (.int x2), .val (.int len), .val (.ref sz), .val (.ref fi), .val (.int per), .val (.int (nar .boolean (T n))), .unset, .unset] [(.int (own_lvl x1 x2 per len (nar .boolean (T n))))])
    have hful : ∀ d : Nat, d ∣ n → (b1 ∣ d ∨ b2 ∣ d) → (nar .boolean (T n)) = 1 := fun d hd hb => by rw [hT n hn (hb.imp (fun q => Nat.dvd_trans q hd) (fun q => Nat.dvd_trans q hd))]; decide
    generalize e_fl : (nar .boolean (T n)) = fl at hful ⊢
    refine WP.istore K at_139 (L' := #[.val (.int p0), .val (.int p1), .val (.int p2), .val (.int p3), .val (.int x1), .val (.int x2), .val (.int (0 : Int32)), .val (.int x1), .val (.int x2), .val (.int len), .val (.ref sz), .val (.ref fi), .val (.int per), .val (.int fl), .val (.int (own_lvl x1 x2 per len fl)), .unset]) rfl (pc' := 141) rfl ?_
    refine WP.meet (g' := (mkF κ.m 224 #[.val (.int p0), .val (.int p1), .val (.int p2), .val (.int p3), .val (.int x1), .val (.int x2), .val (.int (0 : Int32)), .val (.int x1), .val (.int x2), .val (.int len), .val (.ref sz), .val (.ref fi), .val (.int per), .val (.int fl), .val (.int (own_lvl x1 x2 per len fl)), .val (.int (if len < x1 then (0 : Int32) else (if (len % per) = (0 : Int32) then (3 : Int32) else (if fl = (0 : Int32) then (5 : Int32) else (if len < per then (if (len % x1) = (0 : Int32) then (1 : Int32) else (if (len % x2) = (0 : Int32) then (4 : Int32) else (2 : Int32))) else (2 : Int32))))))] [])) (fun HJ => ?_) ?_
    · refine WP.iload K at_141 rfl (pc' := 143) rfl ?_
      refine WP.iload K at_143 rfl (pc' := 145) rfl ?_
      by_cases c37 : len < x1
      · try simp only [if_pos c37] at HJ
        refine WP.icmpF K at_145 (tlt c37).2.1 (pc' := 148) rfl ?_
        refine WP.iconst K at_148 (v := (0 : Int32)) rfl (pc' := 149) rfl ?_
        refine WP.istore K at_149 (L' := #[.val (.int p0), .val (.int p1), .val (.int p2), .val (.int p3), .val (.int x1), .val (.int x2), .val (.int (0 : Int32)), .val (.int x1), .val (.int x2), .val (.int len), .val (.ref sz), .val (.ref fi), .val (.int per), .val (.int fl), .val (.int (own_lvl x1 x2 per len fl)), .val (.int (0 : Int32))]) rfl (pc' := 151) rfl ?_
        refine WP.goto K at_151 (by decide) (pc' := 224) (by decide) ?_
        exact HJ
      · try simp only [if_neg c37] at HJ
        refine WP.icmpT K at_145 (flt c37).2.1 (by decide) (pc' := 154) (by decide) ?_
        refine WP.iload K at_154 rfl (pc' := 156) rfl ?_
        refine WP.iload K at_156 rfl (pc' := 158) rfl ?_
        refine WP.irem K at_158 z3 (pc' := 159) rfl ?_
        by_cases c38 : (len % per) = (0 : Int32)
        · try simp only [if_pos c38] at HJ
          refine WP.if0F K at_159 ((if0 _ _).trans (teq c38).2) (pc' := 162) rfl ?_
          refine WP.iconst K at_162 (v := (3 : Int32)) rfl (pc' := 163) rfl ?_
          refine WP.istore K at_163 (L' := #[.val (.int p0), .val (.int p1), .val (.int p2), .val (.int p3), .val (.int x1), .val (.int x2), .val (.int (0 : Int32)), .val (.int x1), .val (.int x2), .val (.int len), .val (.ref sz), .val (.ref fi), .val (.int per), .val (.int fl), .val (.int (own_lvl x1 x2 per len fl)), .val (.int (3 : Int32))]) rfl (pc' := 165) rfl ?_
          refine WP.goto K at_165 (by decide) (pc' := 224) (by decide) ?_
          exact HJ
        · try simp only [if_neg c38] at HJ
          refine WP.if0T K at_159 ((if0 _ _).trans (feq c38).2) (by decide) (pc' := 168) (by decide) ?_
          refine WP.iload K at_168 rfl (pc' := 170) rfl ?_
          by_cases c39 : fl = (0 : Int32)
          · try simp only [if_pos c39] at HJ
            refine WP.if0F K at_170 ((if0 _ _).trans (teq c39).2) (pc' := 173) rfl ?_
            refine WP.iconst K at_173 (v := (5 : Int32)) rfl (pc' := 174) rfl ?_
            refine WP.istore K at_174 (L' := #[.val (.int p0), .val (.int p1), .val (.int p2), .val (.int p3), .val (.int x1), .val (.int x2), .val (.int (0 : Int32)), .val (.int x1), .val (.int x2), .val (.int len), .val (.ref sz), .val (.ref fi), .val (.int per), .val (.int fl), .val (.int (own_lvl x1 x2 per len fl)), .val (.int (5 : Int32))]) rfl (pc' := 176) rfl ?_
            refine WP.goto K at_176 (by decide) (pc' := 224) (by decide) ?_
            exact HJ
          · try simp only [if_neg c39] at HJ
            refine WP.if0T K at_170 ((if0 _ _).trans (feq c39).2) (by decide) (pc' := 179) (by decide) ?_
            refine WP.iload K at_179 rfl (pc' := 181) rfl ?_
            refine WP.iload K at_181 rfl (pc' := 183) rfl ?_
            by_cases c40 : len < per
            · try simp only [if_pos c40] at HJ
              refine WP.icmpF K at_183 (tlt c40).2.1 (pc' := 186) rfl ?_
              refine WP.iload K at_186 rfl (pc' := 188) rfl ?_
              refine WP.iload K at_188 rfl (pc' := 190) rfl ?_
              refine WP.irem K at_190 z1 (pc' := 191) rfl ?_
              by_cases c41 : (len % x1) = (0 : Int32)
              · try simp only [if_pos c41] at HJ
                refine WP.if0F K at_191 ((if0 _ _).trans (teq c41).2) (pc' := 194) rfl ?_
                refine WP.iconst K at_194 (v := (1 : Int32)) rfl (pc' := 195) rfl ?_
                refine WP.istore K at_195 (L' := #[.val (.int p0), .val (.int p1), .val (.int p2), .val (.int p3), .val (.int x1), .val (.int x2), .val (.int (0 : Int32)), .val (.int x1), .val (.int x2), .val (.int len), .val (.ref sz), .val (.ref fi), .val (.int per), .val (.int fl), .val (.int (own_lvl x1 x2 per len fl)), .val (.int (1 : Int32))]) rfl (pc' := 197) rfl ?_
                refine WP.goto K at_197 (by decide) (pc' := 224) (by decide) ?_
                exact HJ
              · try simp only [if_neg c41] at HJ
                refine WP.if0T K at_191 ((if0 _ _).trans (feq c41).2) (by decide) (pc' := 200) (by decide) ?_
                refine WP.iload K at_200 rfl (pc' := 202) rfl ?_
                refine WP.iload K at_202 rfl (pc' := 204) rfl ?_
                refine WP.icmpF K at_204 (tlt c40).2.1 (pc' := 207) rfl ?_
                refine WP.iload K at_207 rfl (pc' := 209) rfl ?_
                refine WP.iload K at_209 rfl (pc' := 211) rfl ?_
                refine WP.irem K at_211 z2 (pc' := 212) rfl ?_
                by_cases c42 : (len % x2) = (0 : Int32)
                · try simp only [if_pos c42] at HJ
                  refine WP.if0F K at_212 ((if0 _ _).trans (teq c42).2) (pc' := 215) rfl ?_
                  refine WP.iconst K at_215 (v := (4 : Int32)) rfl (pc' := 216) rfl ?_
                  refine WP.istore K at_216 (L' := #[.val (.int p0), .val (.int p1), .val (.int p2), .val (.int p3), .val (.int x1), .val (.int x2), .val (.int (0 : Int32)), .val (.int x1), .val (.int x2), .val (.int len), .val (.ref sz), .val (.ref fi), .val (.int per), .val (.int fl), .val (.int (own_lvl x1 x2 per len fl)), .val (.int (4 : Int32))]) rfl (pc' := 218) rfl ?_
                  refine WP.goto K at_218 (by decide) (pc' := 224) (by decide) ?_
                  exact HJ
                · try simp only [if_neg c42] at HJ
                  refine WP.if0T K at_212 ((if0 _ _).trans (feq c42).2) (by decide) (pc' := 221) (by decide) ?_
                  refine WP.iconst K at_221 (v := (2 : Int32)) rfl (pc' := 222) rfl ?_
                  refine WP.istore K at_222 (L' := #[.val (.int p0), .val (.int p1), .val (.int p2), .val (.int p3), .val (.int x1), .val (.int x2), .val (.int (0 : Int32)), .val (.int x1), .val (.int x2), .val (.int len), .val (.ref sz), .val (.ref fi), .val (.int per), .val (.int fl), .val (.int (own_lvl x1 x2 per len fl)), .val (.int (2 : Int32))]) rfl (pc' := 224) rfl ?_
                  exact HJ
            · try simp only [if_neg c40] at HJ
              refine WP.icmpT K at_183 (flt c40).2.1 (by decide) (pc' := 200) (by decide) ?_
              refine WP.iload K at_200 rfl (pc' := 202) rfl ?_
              refine WP.iload K at_202 rfl (pc' := 204) rfl ?_
              refine WP.icmpT K at_204 (flt c40).2.1 (by decide) (pc' := 221) (by decide) ?_
              refine WP.iconst K at_221 (v := (2 : Int32)) rfl (pc' := 222) rfl ?_
              refine WP.istore K at_222 (L' := #[.val (.int p0), .val (.int p1), .val (.int p2), .val (.int p3), .val (.int x1), .val (.int x2), .val (.int (0 : Int32)), .val (.int x1), .val (.int x2), .val (.int len), .val (.ref sz), .val (.ref fi), .val (.int per), .val (.int fl), .val (.int (own_lvl x1 x2 per len fl)), .val (.int (2 : Int32))]) rfl (pc' := 224) rfl ?_
              exact HJ
    · skip
      refine WP.iload K at_224 rfl (pc' := 226) rfl ?_
      refine WP.iload K at_226 rfl (pc' := 228) rfl ?_
      have q : (own_lvl x1 x2 per len fl) = (if len < x1 then (0 : Int32) else (if (len % per) = (0 : Int32) then (3 : Int32) else (if fl = (0 : Int32) then (5 : Int32) else (if len < per then (if (len % x1) = (0 : Int32) then (1 : Int32) else (if (len % x2) = (0 : Int32) then (4 : Int32) else (2 : Int32))) else (2 : Int32))))) := own_law hx1 hx2 hlen hP (by omega) P0 (by omega) (hful P · (Or.inl P1)) (hful _ · (Or.inl (Nat.dvd_refl _)))
      refine WP.icmpF K at_228 (teq q).2 (pc' := 231) rfl ?_
      refine WP.iconst K at_231 (v := (1 : Int32)) rfl (pc' := 232) rfl ?_
      refine WP.goto K at_232 (by decide) (pc' := 236) (by decide) ?_
      exact WP.retN K (ty := .boolean) (by decide) at_236 (by decide) (by decide) rfl
  · refine WP.if0F K at_33 ((if0 _ _).trans (feq cs).1) (pc' := 36) rfl ?_
    refine WP.iconst K at_36 (v := (1 : Int32)) rfl (pc' := 37) rfl ?_
    refine WP.goto K at_37 (by decide) (pc' := 41) (by decide) ?_
    refine WP.istore K at_41 (L' := #[.val (.int p0), .val (.int p1), .val (.int p2), .val (.int p3), .val (.int x1), .val (.int x2), .val (.int (1 : Int32)), .unset, .unset, .unset, .unset, .unset, .unset, .unset, .unset, .unset]) rfl (pc' := 43) rfl ?_
    refine WP.iload K at_43 rfl (pc' := 45) rfl ?_
    refine WP.if0F K at_45 (by decide) (pc' := 48) rfl ?_
    refine WP.iload K at_48 rfl (pc' := 50) rfl ?_
    refine WP.goto K at_50 (by decide) (pc' := 55) (by decide) ?_
    refine WP.istore K at_55 (L' := #[.val (.int p0), .val (.int p1), .val (.int p2), .val (.int p3), .val (.int x1), .val (.int x2), .val (.int (1 : Int32)), .val (.int x2), .unset, .unset, .unset, .unset, .unset, .unset, .unset, .unset]) rfl (pc' := 57) rfl ?_
    refine WP.iload K at_57 rfl (pc' := 59) rfl ?_
    refine WP.if0F K at_59 (by decide) (pc' := 62) rfl ?_
    refine WP.iload K at_62 rfl (pc' := 64) rfl ?_
    refine WP.goto K at_64 (by decide) (pc' := 69) (by decide) ?_
    refine WP.istore K at_69 (L' := #[.val (.int p0), .val (.int p1), .val (.int p2), .val (.int p3), .val (.int x1), .val (.int x2), .val (.int (1 : Int32)), .val (.int x2), .val (.int x1), .unset, .unset, .unset, .unset, .unset, .unset, .unset]) rfl (pc' := 71) rfl ?_
    refine WP.iloadN K at_71 rfl (pc' := 72) rfl ?_
    refine WP.ldcI K (w_0 hw) at_72 (pc' := 74) rfl ?_
    refine WP.iand K at_74 (pc' := 75) rfl ?_
    refine WP.sipush K at_75 (v := (4097 : Int32)) rfl (pc' := 78) rfl ?_
    refine WP.irem K at_78 (by decide) (pc' := 79) rfl ?_
    refine WP.istore K at_79 (L' := #[.val (.int p0), .val (.int p1), .val (.int p2), .val (.int p3), .val (.int x1), .val (.int x2), .val (.int (1 : Int32)), .val (.int x2), .val (.int x1), .val (.int ((p2 &&& (2147483647 : Int32)) % (4097 : Int32))), .unset, .unset, .unset, .unset, .unset, .unset]) rfl (pc' := 81) rfl ?_
    obtain ⟨n, hlen, hn⟩ := own_len p2
    generalize e_len : ((p2 &&& (2147483647 : Int32)) % (4097 : Int32)) = len at hlen ⊢
    refine WP.iconst K at_81 (v := (2 : Int32)) rfl (pc' := 82) rfl ?_
    refine WP.newarrayE (aty := .int) K (ad := "[I") (by decide) (w_1 hw) at_82 (N := 2) (cap := 2) rfl (Nat.le_refl _) (by decide) (k' := 1) (n' := 2) rfl rfl (by decide) (by decide) (pc' := 84) rfl fun h43 sz kA_sz g43 E43 A_sz X_sz => ?_
    have old_sz : n0 ≤ sz := by have q_ := Z0; omega
    have Z0 := Nat.le_trans Z0 E43.1
    have A_sz : Ary Z h43 sz kA_sz .int 2 (fun j => .int ((fun _ => (0 : Int32)) j)) := A_sz
    refine WP.dup K at_84 rfl (pc' := 85) rfl ?_
    refine WP.iconst K at_85 (v := (0 : Int32)) rfl (pc' := 86) rfl ?_
    refine WP.iload K at_86 rfl (pc' := 88) rfl ?_
    refine WP.iastore K (i := 0) A_sz rfl (by decide) old_sz at_88 (pc' := 89) rfl fun h44 W44 A_n => ?_
    have X_sz := X_sz.wr W44
    have Z0 := Nat.le_trans Z0 (Nat.le_of_eq W44.size.symm)
    have A_sz := A_n
    rw [upd_int] at A_sz
    refine WP.dup K at_89 rfl (pc' := 90) rfl ?_
    refine WP.iconst K at_90 (v := (1 : Int32)) rfl (pc' := 91) rfl ?_
    refine WP.iload K at_91 rfl (pc' := 93) rfl ?_
    refine WP.iastore K (i := 1) A_sz rfl (by decide) old_sz at_93 (pc' := 94) rfl fun h45 W45 A_n => ?_
    have X_sz := X_sz.wr W45
    have Z0 := Nat.le_trans Z0 (Nat.le_of_eq W45.size.symm)
    have A_sz := A_n
    rw [upd_int] at A_sz
    obtain ⟨F, hF⟩ : ∃ F : Nat → Int32, F = (fset (fset (fun _ => (0 : Int32)) 0 x1) 1 x2) := ⟨_, rfl⟩
    rw [← hF] at A_sz
    have f0 : (F 0).toInt = (b1 : Int) := by rw [hF]; exact hx1
    have f1 : (F 1).toInt = (b2 : Int) := by rw [hF]; exact hx2
    have u1 : b1 ≤ 4096 := by omega
    refine WP.astore K at_94 rfl (L' := #[.val (.int p0), .val (.int p1), .val (.int p2), .val (.int p3), .val (.int x1), .val (.int x2), .val (.int (1 : Int32)), .val (.int x2), .val (.int x1), .val (.int len), .val (.ref sz), .unset, .unset, .unset, .unset, .unset]) rfl (pc' := 96) rfl ?_
    refine WP.new K (w_2 hw) (w_3 hw) (w_4 hw) at_96 (k' := 2) (n' := 4) rfl rfl (by decide) (by decide) (pc' := 99) rfl fun h46 fi g46 E46 X46 D46 => ?_
    have ne_sz_fi : sz ≠ fi := fun z_ => by have q_ : @LT.lt Nat _ sz h45.size := (Ary.lt A_sz); have r_ : @Eq Nat sz fi := z_; omega
    have old_fi : n0 ≤ fi := by have q_ := Z0; omega
    have A_sz := Ary.ext E46 A_sz
    have X_sz := X_sz.ext E46
    have Z0 := Nat.le_trans Z0 E46.1
    have O_fi : IsFi Z h46 fi .null .null := ⟨X46, D46 (O := "com/example/wedge/wedge/voids/Fillability") (f := "sizes") (d := "[I") (Or.inr (w_36 hw)) (ty := (.array .int)) (by decide), D46 (O := "com/example/wedge/wedge/voids/Fillability") (f := "fillable") (d := "[Z") (Or.inr (w_42 hw)) (ty := (.array .boolean)) (by decide)⟩
    refine WP.dup K at_99 rfl (pc' := 100) rfl ?_
    refine WP.aload K at_100 rfl rfl (pc' := 102) rfl ?_
    refine WP.sipush K at_102 (v := (4096 : Int32)) rfl (pc' := 105) rfl ?_
    refine WP.callI K (a := fi) (argsL := [(.ref sz), (.int (4096 : Int32))]) (S := [(.ref fi)]) rfl (w_5 hw) (w_6 hw) (rm_init l Z a0 hw fi sz kA_sz F _ _ b1 b2 h46 n0 Z0 O_fi old_fi X_sz A_sz f0 f1 l1 u1 l2 u2) (w_7 hw) (w_4 hw) (by decide) rfl (lenOf pd_5 rfl) rfl (W := 1) rfl (by decide) (by decide) (k' := 6) (n' := 4127) rfl rfl (by decide) (by decide) at_105 (pc' := 108) rfl fun v h47 hq => ?_
    obtain ⟨rfl, K0, s2, tb, kT, T, O_fi, A_s2, A_tb, hT⟩ := hq
    have A_sz := Ary.keep K0 A_sz (ninS ne_sz_fi nin0)
    have X_sz := X_sz.keep K0
    have Z0 := Nat.le_trans Z0 K0.1
    show WP κ h47 6 4127 (mkF κ.m 108 #[.val (.int p0), .val (.int p1), .val (.int p2), .val (.int p3), .val (.int x1), .val (.int x2), .val (.int (1 : Int32)), .val (.int x2), .val (.int x1), .val (.int len), .val (.ref sz), .unset, .unset, .unset, .unset, .unset] [(.ref fi)])
    refine WP.astore K at_108 rfl (L' := #[.val (.int p0), .val (.int p1), .val (.int p2), .val (.int p3), .val (.int x1), .val (.int x2), .val (.int (1 : Int32)), .val (.int x2), .val (.int x1), .val (.int len), .val (.ref sz), .val (.ref fi), .unset, .unset, .unset, .unset]) rfl (pc' := 110) rfl ?_
    refine WP.aload K at_110 rfl rfl (pc' := 112) rfl ?_
    refine WP.callV K (a := fi) (argsL := []) (S := []) (w_43 hw) (w_44 hw) (fun vm0 hZ => notFace_of_selects (args := #[]) (mvT (s := κ.s.setVm vm0) hZ (w_46 hw))) (w_46 hw) (w_45 hw) (by decide) (IsFi.exa O_fi) (rm_period true l Z a0 hw fi s2 kA_sz F _ b1 b2 h47 n0 Z0 O_fi A_s2 f0 f1 l1 u1 l2 u2) (w_47 hw) (w_4 hw) (by decide) rfl (lenOf pd_6 rfl) rfl (W := 0) rfl (by decide) (by decide) (k' := 6) (n' := 4127) rfl rfl (by decide) (by decide) at_112 (pc' := 115) rfl fun v h48 hq => ?_
    obtain ⟨⟨per, P, rfl, hP, P0, P1, P2⟩, rfl⟩ := hq
    show WP κ h47 6 4127 (mkF κ.m 115 #[.val (.int p0), .val (.int p1), .val (.int p2), .val (.int p3), .val (.int x1), .val (.int x2), .val (.int (1 : Int32)), .val (.int x2), .val (.int x1), .val (.int len), .val (.ref sz), .val (.ref fi), .unset, .unset, .unset, .unset] [(.int per)])
    refine WP.istore K at_115 (L' := #[.val (.int p0), .val (.int p1), .val (.int p2), .val (.int p3), .val (.int x1), .val (.int x2), .val (.int (1 : Int32)), .val (.int x2), .val (.int x1), .val (.int len), .val (.ref sz), .val (.ref fi), .val (.int per), .unset, .unset, .unset]) rfl (pc' := 117) rfl ?_
    refine WP.aload K at_117 rfl rfl (pc' := 119) rfl ?_
    refine WP.iload K at_119 rfl (pc' := 121) rfl ?_
    refine WP.callV K (a := fi) (argsL := [(.int len)]) (S := []) (w_55 hw) (w_56 hw) (fun vm0 hZ => notFace_of_selects (args := #[]) (mvT (s := κ.s.setVm vm0) hZ (w_58 hw))) (w_58 hw) (w_57 hw) (by decide) (IsFi.exa O_fi) (rm_isf true l Z a0 hw fi tb kT T _ len n h47 n0 Z0 O_fi A_tb hlen hn) (w_59 hw) (w_4 hw) (by decide) rfl (lenOf pd_1 rfl) rfl (W := 0) rfl (by decide) (by decide) (k' := 6) (n' := 4127) rfl rfl (by decide) (by decide) at_121 (pc' := 124) rfl fun v h49 hq => ?_
    obtain ⟨rfl, rfl⟩ := hq
    show WP κ h47 6 4127 (mkF κ.m 124 #[.val (.int p0), .val (.int p1), .val (.int p2), .val (.int p3), .val (.int x1), .val (.int x2), .val (.int (1 : Int32)), .val (.int x2), .val (.int x1), .val (.int len), .val (.ref sz), .val (.ref fi), .val (.int per), .unset, .unset, .unset] [(.int (nar .boolean (T n)))])
    refine WP.istore K at_124 (L' := #[.val (.int p0), .val (.int p1), .val (.int p2), .val (.int p3), .val (.int x1), .val (.int x2), .val (.int (1 : Int32)), .val (.int x2), .val (.int x1), .val (.int len), .val (.ref sz), .val (.ref fi), .val (.int per), .val (.int (nar .boolean (T n))), .unset, .unset]) rfl (pc' := 126) rfl ?_
    refine WP.aload K at_126 rfl rfl (pc' := 128) rfl ?_
    refine WP.iload K at_128 rfl (pc' := 130) rfl ?_
    refine WP.iload K at_130 rfl (pc' := 132) rfl ?_
    refine WP.iload K at_132 rfl (pc' := 134) rfl ?_
    refine WP.iload K at_134 rfl (pc' := 136) rfl ?_
    have z1 := own_nz hx2 (by omega)
    have z2 := own_nz hx1 (by omega)
    have z3 := own_nz hP P0
    refine WP.callS K (argsL := [(.ref fi), (.int x2), (.int x1), (.int per), (.int len)]) (S := []) (w_60 hw) (w_61 hw) (rm_level true l Z a0 hw fi tb kT T _ x2 x1 per len n h47 n0 Z0 O_fi A_tb hlen hn z1 z2 z3) (w_63 hw) (w_62 hw) (by decide) rfl (lenOf pd_7 rfl) rfl (W := 0) rfl (by decide) (by decide) (k' := 6) (n' := 4127) rfl rfl (by decide) (by decide) at_136 (pc' := 139) rfl fun v h50 hq => ?_
    obtain ⟨rfl, rfl⟩ := hq
    show WP κ h47 6 4127 (mkF κ.m 139 #[.val (.int p0), .val (.int p1), .val (.int p2), .val (.int p3), .val (.int x1), .val (.int x2), .val (.int (1 : Int32)), .val (.int x2), .val (.int x1), .val (.int len), .val (.ref sz), .val (.ref fi), .val (.int per), .val (.int (nar .boolean (T n))), .unset, .unset] [(.int (own_lvl x2 x1 per len (nar .boolean (T n))))])
    have hful : ∀ d : Nat, d ∣ n → (b1 ∣ d ∨ b2 ∣ d) → (nar .boolean (T n)) = 1 := fun d hd hb => by rw [hT n hn (hb.imp (fun q => Nat.dvd_trans q hd) (fun q => Nat.dvd_trans q hd))]; decide
    generalize e_fl : (nar .boolean (T n)) = fl at hful ⊢
    refine WP.istore K at_139 (L' := #[.val (.int p0), .val (.int p1), .val (.int p2), .val (.int p3), .val (.int x1), .val (.int x2), .val (.int (1 : Int32)), .val (.int x2), .val (.int x1), .val (.int len), .val (.ref sz), .val (.ref fi), .val (.int per), .val (.int fl), .val (.int (own_lvl x2 x1 per len fl)), .unset]) rfl (pc' := 141) rfl ?_
    refine WP.meet (g' := (mkF κ.m 224 #[.val (.int p0), .val (.int p1), .val (.int p2), .val (.int p3), .val (.int x1), .val (.int x2), .val (.int (1 : Int32)), .val (.int x2), .val (.int x1), .val (.int len), .val (.ref sz), .val (.ref fi), .val (.int per), .val (.int fl), .val (.int (own_lvl x2 x1 per len fl)), .val (.int (if len < x2 then (0 : Int32) else (if (len % per) = (0 : Int32) then (3 : Int32) else (if fl = (0 : Int32) then (5 : Int32) else (if len < per then (if (len % x2) = (0 : Int32) then (1 : Int32) else (if (len % x1) = (0 : Int32) then (4 : Int32) else (2 : Int32))) else (2 : Int32))))))] [])) (fun HJ => ?_) ?_
    · refine WP.iload K at_141 rfl (pc' := 143) rfl ?_
      refine WP.iload K at_143 rfl (pc' := 145) rfl ?_
      by_cases c51 : len < x2
      · try simp only [if_pos c51] at HJ
        refine WP.icmpF K at_145 (tlt c51).2.1 (pc' := 148) rfl ?_
        refine WP.iconst K at_148 (v := (0 : Int32)) rfl (pc' := 149) rfl ?_
        refine WP.istore K at_149 (L' := #[.val (.int p0), .val (.int p1), .val (.int p2), .val (.int p3), .val (.int x1), .val (.int x2), .val (.int (1 : Int32)), .val (.int x2), .val (.int x1), .val (.int len), .val (.ref sz), .val (.ref fi), .val (.int per), .val (.int fl), .val (.int (own_lvl x2 x1 per len fl)), .val (.int (0 : Int32))]) rfl (pc' := 151) rfl ?_
        refine WP.goto K at_151 (by decide) (pc' := 224) (by decide) ?_
        exact HJ
      · try simp only [if_neg c51] at HJ
        refine WP.icmpT K at_145 (flt c51).2.1 (by decide) (pc' := 154) (by decide) ?_
        refine WP.iload K at_154 rfl (pc' := 156) rfl ?_
        refine WP.iload K at_156 rfl (pc' := 158) rfl ?_
        refine WP.irem K at_158 z3 (pc' := 159) rfl ?_
        by_cases c52 : (len % per) = (0 : Int32)
        · try simp only [if_pos c52] at HJ
          refine WP.if0F K at_159 ((if0 _ _).trans (teq c52).2) (pc' := 162) rfl ?_
          refine WP.iconst K at_162 (v := (3 : Int32)) rfl (pc' := 163) rfl ?_
          refine WP.istore K at_163 (L' := #[.val (.int p0), .val (.int p1), .val (.int p2), .val (.int p3), .val (.int x1), .val (.int x2), .val (.int (1 : Int32)), .val (.int x2), .val (.int x1), .val (.int len), .val (.ref sz), .val (.ref fi), .val (.int per), .val (.int fl), .val (.int (own_lvl x2 x1 per len fl)), .val (.int (3 : Int32))]) rfl (pc' := 165) rfl ?_
          refine WP.goto K at_165 (by decide) (pc' := 224) (by decide) ?_
          exact HJ
        · try simp only [if_neg c52] at HJ
          refine WP.if0T K at_159 ((if0 _ _).trans (feq c52).2) (by decide) (pc' := 168) (by decide) ?_
          refine WP.iload K at_168 rfl (pc' := 170) rfl ?_
          by_cases c53 : fl = (0 : Int32)
          · try simp only [if_pos c53] at HJ
            refine WP.if0F K at_170 ((if0 _ _).trans (teq c53).2) (pc' := 173) rfl ?_
            refine WP.iconst K at_173 (v := (5 : Int32)) rfl (pc' := 174) rfl ?_
            refine WP.istore K at_174 (L' := #[.val (.int p0), .val (.int p1), .val (.int p2), .val (.int p3), .val (.int x1), .val (.int x2), .val (.int (1 : Int32)), .val (.int x2), .val (.int x1), .val (.int len), .val (.ref sz), .val (.ref fi), .val (.int per), .val (.int fl), .val (.int (own_lvl x2 x1 per len fl)), .val (.int (5 : Int32))]) rfl (pc' := 176) rfl ?_
            refine WP.goto K at_176 (by decide) (pc' := 224) (by decide) ?_
            exact HJ
          · try simp only [if_neg c53] at HJ
            refine WP.if0T K at_170 ((if0 _ _).trans (feq c53).2) (by decide) (pc' := 179) (by decide) ?_
            refine WP.iload K at_179 rfl (pc' := 181) rfl ?_
            refine WP.iload K at_181 rfl (pc' := 183) rfl ?_
            by_cases c54 : len < per
            · try simp only [if_pos c54] at HJ
              refine WP.icmpF K at_183 (tlt c54).2.1 (pc' := 186) rfl ?_
              refine WP.iload K at_186 rfl (pc' := 188) rfl ?_
              refine WP.iload K at_188 rfl (pc' := 190) rfl ?_
              refine WP.irem K at_190 z1 (pc' := 191) rfl ?_
              by_cases c55 : (len % x2) = (0 : Int32)
              · try simp only [if_pos c55] at HJ
                refine WP.if0F K at_191 ((if0 _ _).trans (teq c55).2) (pc' := 194) rfl ?_
                refine WP.iconst K at_194 (v := (1 : Int32)) rfl (pc' := 195) rfl ?_
                refine WP.istore K at_195 (L' := #[.val (.int p0), .val (.int p1), .val (.int p2), .val (.int p3), .val (.int x1), .val (.int x2), .val (.int (1 : Int32)), .val (.int x2), .val (.int x1), .val (.int len), .val (.ref sz), .val (.ref fi), .val (.int per), .val (.int fl), .val (.int (own_lvl x2 x1 per len fl)), .val (.int (1 : Int32))]) rfl (pc' := 197) rfl ?_
                refine WP.goto K at_197 (by decide) (pc' := 224) (by decide) ?_
                exact HJ
              · try simp only [if_neg c55] at HJ
                refine WP.if0T K at_191 ((if0 _ _).trans (feq c55).2) (by decide) (pc' := 200) (by decide) ?_
                refine WP.iload K at_200 rfl (pc' := 202) rfl ?_
                refine WP.iload K at_202 rfl (pc' := 204) rfl ?_
                refine WP.icmpF K at_204 (tlt c54).2.1 (pc' := 207) rfl ?_
                refine WP.iload K at_207 rfl (pc' := 209) rfl ?_
                refine WP.iload K at_209 rfl (pc' := 211) rfl ?_
                refine WP.irem K at_211 z2 (pc' := 212) rfl ?_
                by_cases c56 : (len % x1) = (0 : Int32)
                · try simp only [if_pos c56] at HJ
                  refine WP.if0F K at_212 ((if0 _ _).trans (teq c56).2) (pc' := 215) rfl ?_
                  refine WP.iconst K at_215 (v := (4 : Int32)) rfl (pc' := 216) rfl ?_
                  refine WP.istore K at_216 (L' := #[.val (.int p0), .val (.int p1), .val (.int p2), .val (.int p3), .val (.int x1), .val (.int x2), .val (.int (1 : Int32)), .val (.int x2), .val (.int x1), .val (.int len), .val (.ref sz), .val (.ref fi), .val (.int per), .val (.int fl), .val (.int (own_lvl x2 x1 per len fl)), .val (.int (4 : Int32))]) rfl (pc' := 218) rfl ?_
                  refine WP.goto K at_218 (by decide) (pc' := 224) (by decide) ?_
                  exact HJ
                · try simp only [if_neg c56] at HJ
                  refine WP.if0T K at_212 ((if0 _ _).trans (feq c56).2) (by decide) (pc' := 221) (by decide) ?_
                  refine WP.iconst K at_221 (v := (2 : Int32)) rfl (pc' := 222) rfl ?_
                  refine WP.istore K at_222 (L' := #[.val (.int p0), .val (.int p1), .val (.int p2), .val (.int p3), .val (.int x1), .val (.int x2), .val (.int (1 : Int32)), .val (.int x2), .val (.int x1), .val (.int len), .val (.ref sz), .val (.ref fi), .val (.int per), .val (.int fl), .val (.int (own_lvl x2 x1 per len fl)), .val (.int (2 : Int32))]) rfl (pc' := 224) rfl ?_
                  exact HJ
            · try simp only [if_neg c54] at HJ
              refine WP.icmpT K at_183 (flt c54).2.1 (by decide) (pc' := 200) (by decide) ?_
              refine WP.iload K at_200 rfl (pc' := 202) rfl ?_
              refine WP.iload K at_202 rfl (pc' := 204) rfl ?_
              refine WP.icmpT K at_204 (flt c54).2.1 (by decide) (pc' := 221) (by decide) ?_
              refine WP.iconst K at_221 (v := (2 : Int32)) rfl (pc' := 222) rfl ?_
              refine WP.istore K at_222 (L' := #[.val (.int p0), .val (.int p1), .val (.int p2), .val (.int p3), .val (.int x1), .val (.int x2), .val (.int (1 : Int32)), .val (.int x2), .val (.int x1), .val (.int len), .val (.ref sz), .val (.ref fi), .val (.int per), .val (.int fl), .val (.int (own_lvl x2 x1 per len fl)), .val (.int (2 : Int32))]) rfl (pc' := 224) rfl ?_
              exact HJ
    · skip
      refine WP.iload K at_224 rfl (pc' := 226) rfl ?_
      refine WP.iload K at_226 rfl (pc' := 228) rfl ?_
      have q : (own_lvl x2 x1 per len fl) = (if len < x2 then (0 : Int32) else (if (len % per) = (0 : Int32) then (3 : Int32) else (if fl = (0 : Int32) then (5 : Int32) else (if len < per then (if (len % x2) = (0 : Int32) then (1 : Int32) else (if (len % x1) = (0 : Int32) then (4 : Int32) else (2 : Int32))) else (2 : Int32))))) := own_law hx2 hx1 hlen hP (by omega) P0 (by omega) (hful P · (Or.inl P1)) (hful _ · (Or.inr (Nat.dvd_refl _)))
      refine WP.icmpF K at_228 (teq q).2 (pc' := 231) rfl ?_
      refine WP.iconst K at_231 (v := (1 : Int32)) rfl (pc' := 232) rfl ?_
      refine WP.goto K at_232 (by decide) (pc' := 236) (by decide) ?_
      exact WP.retN K (ty := .boolean) (by decide) at_236 (by decide) (by decide) rfl
set_option maxRecDepth 65536 in
set_option maxHeartbeats 40000000 in
theorem comes_1 {Post : Tables → Env → Array Value → State → Outcome → State → Prop} (hpost : ∀ tb e args s v u, (limb_1_1.after args s (.returned v) u = true ∧ limb_1_2.after args s (.returned v) u = true ∧ True) → ReturnedEndW s (.returned v) u (Jvm.fieldLocs frame_1_writes args s ++ Jvm.arrayLocs frame_1_arrays args s ++ Jvm.staticLocs frame_1_statics s) 24 9344 → Post tb e args s (.returned v) u) :
    ArmFor flags0 classFile x code maxLocals ret World_1 tables_1 room_1 Calls_1 rest_1 Pre_1 Post := by
  intro l hfl _ _ p e ha hc hk s m args below hf hA hF happ hP
  obtain ⟨hcalls, hrest, hpre⟩ := hP
  obtain ⟨-, -, -, hnamed, -, -, -, hat⟩ := (Spec.applies_iff hf).mp happ
  obtain ⟨hg, hn⟩ := and_e (Cond.before_iff.mp (show (Jvm.Cond.and given_1 narrow_1).before args s = true from hpre))
  obtain ⟨q0, r0⟩ := and_e hg
  obtain ⟨q1, r1⟩ := and_e r0
  obtain ⟨q2, r2⟩ := and_e r1
  obtain ⟨q3, r3⟩ := and_e r2
  obtain ⟨v0, v1, v2, v3, rfl⟩ : ∃ v0 v1 v2 v3 : Value, args = #[v0, v1, v2, v3] := by
    have hs : args.size = 4 := by simpa [Cond.value, given_1] using q0
    obtain ⟨L⟩ := args
    match L, hs with
    | [v0, v1, v2, v3], _ => exact ⟨v0, v1, v2, v3, rfl⟩
  have hw := fun d (hd : d ∈ tables_1) => atoms_spec (ws := Jvm.Cond.code x code maxLocals ret :: tables_1) hat d (List.mem_cons_of_mem _ hd)
  obtain ⟨i0, ei0⟩ := is_v q1
  obtain rfl : v0 = (.int i0) := Option.some.inj ei0
  obtain ⟨i1, ei1⟩ := is_v q2
  obtain rfl : v1 = (.int i1) := Option.some.inj ei1
  obtain ⟨i2, ei2⟩ := is_v q3
  obtain rfl : v2 = (.int i2) := Option.some.inj ei2
  obtain ⟨i3, ei3⟩ := is_v r3
  obtain rfl : v3 = (.int i3) := Option.some.inj ei3
  obtain ⟨n, o, h1, h2, h3, _, L, rfl, ⟨rfl, N⟩, hq⟩ := rm_law  l s _ hw i0 i1 i2 i3 s.heap s.heap.size (Nat.le_refl _)  p e ha hc hk s m _ below hf ((Spec.applies_iff_loose hf).mp happ).1 ⟨rfl, State.Warmed39.refl s, rfl⟩ trivial
  have hq := hq
  refine ⟨n, _, h1, h2, h3, hpost _ _ _ _ _ _ ⟨Cond.after_iff.mpr rfl, Cond.after_iff.mpr (eq_i res_at (Term.int_eval (1)) rfl), trivial⟩ ⟨hq.1, hq.2.1, hq.2.2.1, (hq.2.2.2.sift fun y hy => Or.inr (N y hy)).mono (by decide) (by decide)⟩⟩
theorem main_1_1 : Claimed_1_1 := comes_1 fun _ _ _ _ _ _ h hF => ⟨h.1, hF⟩
theorem main_1_2 : Claimed_1_2 := comes_1 fun _ _ _ _ _ _ h hF => ⟨h.2.1, hF⟩
end Jvm.Pilot.@@N@@
namespace Jvm.Pilot.@@N@@
open Jvm Jvm.ClassFile Sem Op Lib Jvm.Free Jvm.Stand Jvm.Pilot.@@N@@.Jvm.D
/-! MADE BY PROGRAM (witnessworld.py) out of the Statement's table words and the real class files: 21 classes; the members and pool entries that the words name. The judged class is class 1, her method 1. -/
namespace start1
open Jvm.ClassFile
def u (s : String) : CpInfo := .utf8 (stringToUtf16 s)
/-- a pool by its gaps: so many unusable entries, then the entry; so many at the end -/
def gap : Nat → List CpInfo → List CpInfo
  | 0, r => r
  | n + 1, r => .unusable :: gap n r
def poolList (es : List (Nat × CpInfo)) (last : Nat) : List CpInfo := es.foldr (fun e r => gap e.1 (e.2 :: r)) (gap last [])
def pool (es : List (Nat × CpInfo)) (last : Nat) : Array CpInfo := ⟨poolList es last⟩
def fileOf (pool : Array CpInfo) (this : Nat) (attrs : Array Attribute := #[]) (ms : Array MethodInfo := #[]) (fl : Nat := 33) (sup : Nat := 0) (ifs : Array Nat := #[]) (fds : Array FieldInfo := #[]) : ClassFile where
  minorVersion := 0
  majorVersion := 65
  constantPool := pool
  accessFlags := fl
  thisClass := this
  superClass := sup
  interfaces := ifs
  fields := fds
  methods := ms
  attributes := attrs
def plain (name : String) (sup : Option ClassId) : Class where
  name := name
  kind := .ordinary
  loader := none
  accessFlags := 33
  super := sup
  interfaces := #[]
  cf := none
  fields := #[]
  methods := #[]
  instanceTypes := #[]
  staticTypes := #[]
  resolved := #[]
  callSites := []
  init := .initialized
  statics := none
  mirror := none

def pool0 : Array CpInfo := pool [(5, u "<init>"), (0, u "()V"), (1, .class_ 10), (1, u "java/lang/Object"), (85, u "clone"), (0, u "()Ljava/lang/Object;")] 26

def k0c0 : Code := { maxStack := 0, maxLocals := 1, code := object_method_1_code, exceptionTable := #[], attributes := #[] }
def k0m0 : Method := { name := "<init>", desc := "()V", sig := { parameters := [], returnType := none }, accessFlags := 1, code := some k0c0 }
def k0m1 : Method := { name := "clone", desc := "()Ljava/lang/Object;", sig := { parameters := [], returnType := some (.object "java/lang/Object") }, accessFlags := 260, code := none }
/-- java/lang/Object -/
def k0 : Class := { plain "java/lang/Object" none with
  accessFlags := 33
  interfaces := #[]
  cf := some (fileOf pool0 8 #[] #[{ accessFlags := 1, nameIndex := 5, descriptorIndex := 6, attributes := #[] }, { accessFlags := 260, nameIndex := 96, descriptorIndex := 97, attributes := #[] }] 33 0 #[] #[])
  fields := #[]
  methods := #[k0m0, k0m1]
  instanceTypes := #[]
  staticTypes := #[]
  resolved := Array.replicate 124 none
  statics := none }

def pool1 : Array CpInfo := pool [(2, .class_ 4), (1, u "java/lang/Object"), (0, u "<init>"), (0, u "()V"), (0, .integer 2147483647), (0, .class_ 9), (0, u "com/example/wedge/wedge/voids/Fillability"), (0, .methodref 8 11), (0, .nameAndType 5 12), (0, u "([II)V"), (0, .methodref 8 14), (0, .nameAndType 15 16), (0, u "period"), (0, u "()I"), (0, .methodref 8 18), (0, .nameAndType 19 20), (0, u "isFillable"), (0, u "(I)Z"), (0, .methodref 22 23), (0, .class_ 24), (0, .nameAndType 25 26), (0, u "com/example/wedge/wedge/link/FunctionalVoid"), (0, u "level"), (0, u "(Lcom/example/wedge/wedge/voids/Fillability;IIII)I"), (0, .class_ 28), (0, u "com/example/wedge/wedge/link/FunctionalVoidLevelPinLaw"), (2, u "law"), (0, u "(IIII)Z")] 5

def k1m0 : Method := { name := "<init>", desc := "()V", sig := { parameters := [], returnType := none }, accessFlags := 1, code := none }
def k1c1 : Code := { maxStack := 5, maxLocals := 16, code := code, exceptionTable := #[], attributes := #[] }
def k1m1 : Method := { name := "law", desc := "(IIII)Z", sig := { parameters := [.int, .int, .int, .int], returnType := some .boolean }, accessFlags := 9, code := some k1c1 }
/-- com/example/wedge/wedge/link/FunctionalVoidLevelPinLaw -/
def k1 : Class := { plain "com/example/wedge/wedge/link/FunctionalVoidLevelPinLaw" (some 0) with
  accessFlags := 49
  interfaces := #[]
  cf := some (fileOf pool1 27 #[] #[{ accessFlags := 1, nameIndex := 5, descriptorIndex := 6, attributes := #[] }, { accessFlags := 9, nameIndex := 31, descriptorIndex := 32, attributes := #[] }] 49 2 #[] #[])
  fields := #[]
  methods := #[k1m0, k1m1]
  instanceTypes := #[]
  staticTypes := #[]
  resolved := Array.replicate 38 none
  statics := none }

def pool2 : Array CpInfo := pool [(3, .methodref 4 5), (0, .class_ 6), (0, .nameAndType 7 8), (0, u "java/lang/Object"), (0, u "<init>"), (0, u "()V"), (0, .string 10), (0, u "sizes"), (0, .methodref 12 13), (0, .class_ 14), (0, .nameAndType 15 16), (0, u "java/util/Objects"), (0, u "requireNonNull"), (0, u "(Ljava/lang/Object;Ljava/lang/String;)Ljava/lang/Object;"), (11, .class_ 29), (0, u "com/example/wedge/wedge/voids/Fillability"), (1, .methodref 28 32), (0, .nameAndType 33 34), (0, u "checkUpTo"), (0, u "(I)V"), (0, .methodref 36 37), (0, .class_ 38), (0, .nameAndType 39 40), (0, u "[I"), (0, u "clone"), (0, u "()Ljava/lang/Object;"), (0, .fieldref 28 42), (0, .nameAndType 10 38), (0, .methodref 28 44), (0, .nameAndType 45 46), (0, u "table"), (0, u "([II)[Z"), (0, .fieldref 28 48), (0, .nameAndType 49 50), (0, u "fillable"), (0, u "[Z"), (2, .methodref 28 54), (0, .nameAndType 55 56), (0, u "gcd"), (0, u "(II)I"), (0, .methodref 58 59), (0, .class_ 60), (0, .nameAndType 61 56), (0, u "java/lang/Math"), (0, u "multiplyExact"), (2, u "()I"), (10, u "isFillable"), (0, u "(I)Z"), (8, u "period"), (35, u "MAX_SIZE"), (0, u "I"), (2, u "([II)V")] 33

def k2c0 : Code := { maxStack := 3, maxLocals := 7, code := prog_25_method_1_code, exceptionTable := #[], attributes := #[] }
def k2m0 : Method := { name := "<init>", desc := "([II)V", sig := { parameters := [(.array .int), .int], returnType := none }, accessFlags := 1, code := some k2c0 }
def k2c1 : Code := { maxStack := 3, maxLocals := 1, code := prog_25_method_2_code, exceptionTable := #[], attributes := #[] }
def k2m1 : Method := { name := "checkUpTo", desc := "(I)V", sig := { parameters := [.int], returnType := none }, accessFlags := 8, code := some k2c1 }
def k2c2 : Code := { maxStack := 2, maxLocals := 2, code := prog_25_method_4_code, exceptionTable := #[], attributes := #[] }
def k2m2 : Method := { name := "isFillable", desc := "(I)Z", sig := { parameters := [.int], returnType := some .boolean }, accessFlags := 1, code := some k2c2 }
def k2c3 : Code := { maxStack := 3, maxLocals := 6, code := prog_25_method_6_code, exceptionTable := #[], attributes := #[] }
def k2m3 : Method := { name := "period", desc := "()I", sig := { parameters := [], returnType := some .int }, accessFlags := 1, code := some k2c3 }
def k2c4 : Code := { maxStack := 6, maxLocals := 5, code := prog_25_method_12_code, exceptionTable := #[], attributes := #[] }
def k2m4 : Method := { name := "table", desc := "([II)[Z", sig := { parameters := [(.array .int), .int], returnType := some (.array .boolean) }, accessFlags := 10, code := some k2c4 }
def k2c5 : Code := { maxStack := 2, maxLocals := 5, code := prog_25_method_13_code, exceptionTable := #[], attributes := #[] }
def k2m5 : Method := { name := "gcd", desc := "(II)I", sig := { parameters := [.int, .int], returnType := some .int }, accessFlags := 10, code := some k2c5 }
/-- com/example/wedge/wedge/voids/Fillability -/
def k2 : Class := { plain "com/example/wedge/wedge/voids/Fillability" (some 0) with
  accessFlags := 33
  interfaces := #[]
  cf := some (fileOf pool2 28 #[] #[{ accessFlags := 1, nameIndex := 7, descriptorIndex := 125, attributes := #[] }, { accessFlags := 8, nameIndex := 33, descriptorIndex := 34, attributes := #[] }, { accessFlags := 1, nameIndex := 75, descriptorIndex := 76, attributes := #[] }, { accessFlags := 1, nameIndex := 85, descriptorIndex := 64, attributes := #[] }, { accessFlags := 10, nameIndex := 45, descriptorIndex := 46, attributes := #[] }, { accessFlags := 10, nameIndex := 55, descriptorIndex := 56, attributes := #[] }] 33 4 #[] #[{ accessFlags := 25, nameIndex := 121, descriptorIndex := 122, attributes := #[] }, { accessFlags := 18, nameIndex := 10, descriptorIndex := 38, attributes := #[] }, { accessFlags := 18, nameIndex := 49, descriptorIndex := 50, attributes := #[] }])
  fields := #[{ name := "MAX_SIZE", type := .int, accessFlags := 25, slot := 0, constantValue := 0 }, { name := "sizes", type := (.array .int), accessFlags := 18, slot := 0, constantValue := 0 }, { name := "fillable", type := (.array .boolean), accessFlags := 18, slot := 1, constantValue := 0 }]
  methods := #[k2m0, k2m1, k2m2, k2m3, k2m4, k2m5]
  instanceTypes := #[(.array .int), (.array .boolean)]
  staticTypes := #[.int]
  resolved := Array.replicate 159 none
  statics := none }

def pool3 : Array CpInfo := pool [(1, .class_ 2), (0, u "java/io/Serializable"), (0, .class_ 4), (0, u "java/lang/Object")] 2

/-- java/io/Serializable -/
def k3 : Class := { plain "java/io/Serializable" (some 0) with
  accessFlags := 1537
  interfaces := #[]
  cf := some (fileOf pool3 1 #[] #[] 1537 3 #[] #[])
  fields := #[]
  methods := #[]
  instanceTypes := #[]
  staticTypes := #[]
  resolved := Array.replicate 7 none
  statics := none }

def pool4 : Array CpInfo := pool [(1, .class_ 2), (0, u "java/lang/Comparable"), (0, .class_ 4), (0, u "java/lang/Object")] 7

/-- java/lang/Comparable -/
def k4 : Class := { plain "java/lang/Comparable" (some 0) with
  accessFlags := 1537
  interfaces := #[]
  cf := some (fileOf pool4 1 #[] #[] 1537 3 #[] #[])
  fields := #[]
  methods := #[]
  instanceTypes := #[]
  staticTypes := #[]
  resolved := Array.replicate 12 none
  statics := none }

def pool5 : Array CpInfo := pool [(2, .class_ 4), (1, u "java/lang/CharSequence"), (42, .class_ 48), (0, u "java/lang/CharSequence$1CodePointIterator"), (10, .class_ 60), (0, u "java/lang/CharSequence$1CharIterator"), (5, .class_ 67), (0, u "java/lang/Object")] 63

/-- java/lang/CharSequence -/
def k5 : Class := { plain "java/lang/CharSequence" (some 0) with
  accessFlags := 1537
  interfaces := #[]
  cf := some (fileOf pool5 2 #[.nestMembers #[47, 59]] #[] 1537 66 #[] #[])
  fields := #[]
  methods := #[]
  instanceTypes := #[]
  staticTypes := #[]
  resolved := Array.replicate 131 none
  statics := none }

def pool6 : Array CpInfo := pool [(1, .class_ 2), (0, u "java/lang/constant/Constable"), (0, .class_ 4), (0, u "java/lang/Object")] 6

/-- java/lang/constant/Constable -/
def k6 : Class := { plain "java/lang/constant/Constable" (some 0) with
  accessFlags := 1537
  interfaces := #[]
  cf := some (fileOf pool6 1 #[] #[] 1537 3 #[] #[])
  fields := #[]
  methods := #[]
  instanceTypes := #[]
  staticTypes := #[]
  resolved := Array.replicate 11 none
  statics := none }

def pool7 : Array CpInfo := pool [(1, .class_ 2), (0, u "java/lang/constant/ConstantDesc"), (0, .class_ 4), (0, u "java/lang/Object")] 32

/-- java/lang/constant/ConstantDesc -/
def k7 : Class := { plain "java/lang/constant/ConstantDesc" (some 0) with
  accessFlags := 1537
  interfaces := #[]
  cf := some (fileOf pool7 1 #[] #[] 1537 3 #[] #[])
  fields := #[]
  methods := #[]
  instanceTypes := #[]
  staticTypes := #[]
  resolved := Array.replicate 37 none
  statics := none }

def pool8 : Array CpInfo := pool [(2, .class_ 4), (1, u "java/lang/Object"), (0, u "<init>"), (0, u "()V"), (3, .class_ 12), (1, u "java/lang/String"), (0, u "value"), (0, u "[B"), (2, u "coder"), (0, u "B"), (2, u "hash"), (0, u "I"), (2, u "hashIsZero"), (0, u "Z"), (13, u "COMPACT_STRINGS"), (534, .class_ 576), (0, u "java/lang/CharSequence"), (22, u "CASE_INSENSITIVE_ORDER"), (0, u "Ljava/util/Comparator;"), (500, u "serialPersistentFields"), (0, u "[Ljava/io/ObjectStreamField;"), (0, .class_ 1104), (0, u "java/lang/String$CaseInsensitiveComparator"), (1, .class_ 1107), (0, u "java/io/Serializable"), (0, .class_ 1109), (0, u "java/lang/Comparable"), (0, .class_ 1111), (0, u "java/lang/constant/Constable"), (0, .class_ 1113), (0, u "java/lang/constant/ConstantDesc"), (2, u "serialVersionUID"), (0, u "J"), (3, u "REPL"), (0, u "C"), (2, u "LATIN1"), (1, u "UTF16")] 323

def k8m0 : Method := { name := "<init>", desc := "()V", sig := { parameters := [], returnType := none }, accessFlags := 1, code := none }
/-- java/lang/String -/
def k8 : Class := { plain "java/lang/String" (some 0) with
  accessFlags := 49
  interfaces := #[3, 4, 5, 6, 7]
  cf := some (fileOf pool8 10 #[.nestMembers #[1103]] #[{ accessFlags := 1, nameIndex := 5, descriptorIndex := 6, attributes := #[] }] 49 2 #[1106, 1108, 575, 1110, 1112] #[{ accessFlags := 18, nameIndex := 13, descriptorIndex := 14, attributes := #[] }, { accessFlags := 18, nameIndex := 17, descriptorIndex := 18, attributes := #[] }, { accessFlags := 2, nameIndex := 21, descriptorIndex := 22, attributes := #[] }, { accessFlags := 2, nameIndex := 25, descriptorIndex := 26, attributes := #[] }, { accessFlags := 26, nameIndex := 1116, descriptorIndex := 1117, attributes := #[] }, { accessFlags := 24, nameIndex := 40, descriptorIndex := 26, attributes := #[] }, { accessFlags := 26, nameIndex := 1101, descriptorIndex := 1102, attributes := #[] }, { accessFlags := 26, nameIndex := 1121, descriptorIndex := 1122, attributes := #[] }, { accessFlags := 25, nameIndex := 599, descriptorIndex := 600, attributes := #[] }, { accessFlags := 24, nameIndex := 1125, descriptorIndex := 18, attributes := #[] }, { accessFlags := 24, nameIndex := 1127, descriptorIndex := 18, attributes := #[] }])
  fields := #[{ name := "value", type := (.array .byte), accessFlags := 18, slot := 0, constantValue := 0 }, { name := "coder", type := .byte, accessFlags := 18, slot := 1, constantValue := 0 }, { name := "hash", type := .int, accessFlags := 2, slot := 2, constantValue := 0 }, { name := "hashIsZero", type := .boolean, accessFlags := 2, slot := 3, constantValue := 0 }, { name := "serialVersionUID", type := .long, accessFlags := 26, slot := 0, constantValue := 0 }, { name := "COMPACT_STRINGS", type := .boolean, accessFlags := 24, slot := 1, constantValue := 0 }, { name := "serialPersistentFields", type := (.array (.object "java/io/ObjectStreamField")), accessFlags := 26, slot := 2, constantValue := 0 }, { name := "REPL", type := .char, accessFlags := 26, slot := 3, constantValue := 0 }, { name := "CASE_INSENSITIVE_ORDER", type := (.object "java/util/Comparator"), accessFlags := 25, slot := 4, constantValue := 0 }, { name := "LATIN1", type := .byte, accessFlags := 24, slot := 5, constantValue := 0 }, { name := "UTF16", type := .byte, accessFlags := 24, slot := 6, constantValue := 0 }]
  methods := #[k8m0]
  instanceTypes := #[(.array .byte), .byte, .int, .boolean]
  staticTypes := #[.long, .boolean, (.array (.object "java/io/ObjectStreamField")), .char, (.object "java/util/Comparator"), .byte, .byte]
  resolved := Array.replicate 1451 none
  statics := none }

def pool9 : Array CpInfo := pool [(2, .class_ 4), (1, u "java/lang/Object"), (0, u "<init>"), (0, u "()V"), (35, .class_ 44), (1, u "java/util/Objects"), (0, u "requireNonNull"), (48, u "(Ljava/lang/Object;Ljava/lang/String;)Ljava/lang/Object;")] 89

def k9m0 : Method := { name := "<init>", desc := "()V", sig := { parameters := [], returnType := none }, accessFlags := 2, code := none }
def k9c1 : Code := { maxStack := 3, maxLocals := 2, code := jdk_31_method_11_code, exceptionTable := #[], attributes := #[] }
def k9m1 : Method := { name := "requireNonNull", desc := "(Ljava/lang/Object;Ljava/lang/String;)Ljava/lang/Object;", sig := { parameters := [(.object "java/lang/Object"), (.object "java/lang/String")], returnType := some (.object "java/lang/Object") }, accessFlags := 9, code := some k9c1 }
/-- java/util/Objects -/
def k9 : Class := { plain "java/util/Objects" (some 0) with
  accessFlags := 49
  interfaces := #[]
  cf := some (fileOf pool9 42 #[] #[{ accessFlags := 2, nameIndex := 5, descriptorIndex := 6, attributes := #[] }, { accessFlags := 9, nameIndex := 45, descriptorIndex := 94, attributes := #[] }] 49 2 #[] #[])
  fields := #[]
  methods := #[k9m0, k9m1]
  instanceTypes := #[]
  staticTypes := #[]
  resolved := Array.replicate 184 none
  statics := none }

def pool10 : Array CpInfo := pool [(1, .class_ 2), (0, u "java/lang/Cloneable"), (0, .class_ 4), (0, u "java/lang/Object")] 2

/-- java/lang/Cloneable -/
def k10 : Class := { plain "java/lang/Cloneable" (some 0) with
  accessFlags := 1537
  interfaces := #[]
  cf := some (fileOf pool10 1 #[] #[] 1537 3 #[] #[])
  fields := #[]
  methods := #[]
  instanceTypes := #[]
  staticTypes := #[]
  resolved := Array.replicate 7 none
  statics := none }

def pool11 : Array CpInfo := pool [(1, .class_ 2), (0, u "java/lang/Math"), (1, .class_ 6), (1, u "java/lang/Object"), (0, u "<init>"), (0, u "()V"), (89, .class_ 100), (1, u "java/lang/Math$RandomNumberGeneratorHolder"), (19, u "multiplyExact"), (51, u "negativeZeroFloatBits"), (0, u "J"), (2, u "negativeZeroDoubleBits"), (68, u "$assertionsDisabled"), (0, u "Z"), (88, u "(II)I"), (2, u "twoToTheDoubleScaleDown"), (0, u "D"), (4, u "twoToTheDoubleScaleUp"), (9, u "E"), (3, u "PI"), (2, u "TAU"), (2, u "DEGREES_TO_RADIANS"), (0, u "RADIANS_TO_DEGREES")] 94

def k11m0 : Method := { name := "<init>", desc := "()V", sig := { parameters := [], returnType := none }, accessFlags := 2, code := none }
def k11c1 : Code := { maxStack := 4, maxLocals := 4, code := jdk_29_method_28_code, exceptionTable := #[], attributes := #[] }
def k11m1 : Method := { name := "multiplyExact", desc := "(II)I", sig := { parameters := [.int, .int], returnType := some .int }, accessFlags := 9, code := some k11c1 }
/-- java/lang/Math -/
def k11 : Class := { plain "java/lang/Math" (some 0) with
  accessFlags := 49
  interfaces := #[]
  cf := some (fileOf pool11 1 #[.nestMembers #[98]] #[{ accessFlags := 2, nameIndex := 7, descriptorIndex := 8, attributes := #[] }, { accessFlags := 9, nameIndex := 120, descriptorIndex := 335, attributes := #[] }] 49 4 #[] #[{ accessFlags := 25, nameIndex := 354, descriptorIndex := 339, attributes := #[] }, { accessFlags := 25, nameIndex := 358, descriptorIndex := 339, attributes := #[] }, { accessFlags := 25, nameIndex := 361, descriptorIndex := 339, attributes := #[] }, { accessFlags := 26, nameIndex := 364, descriptorIndex := 339, attributes := #[] }, { accessFlags := 26, nameIndex := 365, descriptorIndex := 339, attributes := #[] }, { accessFlags := 26, nameIndex := 172, descriptorIndex := 173, attributes := #[] }, { accessFlags := 26, nameIndex := 176, descriptorIndex := 173, attributes := #[] }, { accessFlags := 8, nameIndex := 344, descriptorIndex := 339, attributes := #[] }, { accessFlags := 8, nameIndex := 338, descriptorIndex := 339, attributes := #[] }, { accessFlags := 4120, nameIndex := 245, descriptorIndex := 246, attributes := #[] }])
  fields := #[{ name := "E", type := .double, accessFlags := 25, slot := 0, constantValue := 0 }, { name := "PI", type := .double, accessFlags := 25, slot := 1, constantValue := 0 }, { name := "TAU", type := .double, accessFlags := 25, slot := 2, constantValue := 0 }, { name := "DEGREES_TO_RADIANS", type := .double, accessFlags := 26, slot := 3, constantValue := 0 }, { name := "RADIANS_TO_DEGREES", type := .double, accessFlags := 26, slot := 4, constantValue := 0 }, { name := "negativeZeroFloatBits", type := .long, accessFlags := 26, slot := 5, constantValue := 0 }, { name := "negativeZeroDoubleBits", type := .long, accessFlags := 26, slot := 6, constantValue := 0 }, { name := "twoToTheDoubleScaleUp", type := .double, accessFlags := 8, slot := 7, constantValue := 0 }, { name := "twoToTheDoubleScaleDown", type := .double, accessFlags := 8, slot := 8, constantValue := 0 }, { name := "$assertionsDisabled", type := .boolean, accessFlags := 4120, slot := 9, constantValue := 0 }]
  methods := #[k11m0, k11m1]
  instanceTypes := #[]
  staticTypes := #[.double, .double, .double, .double, .double, .long, .long, .double, .double, .boolean]
  resolved := Array.replicate 460 none
  statics := none }

def pool12 : Array CpInfo := pool [(1, .class_ 2), (0, u "com/example/wedge/wedge/link/Allocator"), (0, .class_ 4), (0, u "java/lang/Object"), (0, u "BLOCKED"), (0, u "I")] 8

/-- com/example/wedge/wedge/link/Allocator -/
def k12 : Class := { plain "com/example/wedge/wedge/link/Allocator" (some 0) with
  accessFlags := 1537
  interfaces := #[]
  cf := some (fileOf pool12 1 #[] #[] 1537 3 #[] #[{ accessFlags := 25, nameIndex := 5, descriptorIndex := 6, attributes := #[] }])
  fields := #[{ name := "BLOCKED", type := .int, accessFlags := 25, slot := 0, constantValue := 0 }]
  methods := #[]
  instanceTypes := #[]
  staticTypes := #[.int]
  resolved := Array.replicate 15 none
  statics := none }

def pool13 : Array CpInfo := pool [(14, .class_ 16), (1, u "com/example/wedge/wedge/link/SpectrumAllocator"), (2, .class_ 21), (1, u "java/lang/Object"), (13, u "traffic"), (0, u "Lcom/example/wedge/wedge/traffic/Traffic;"), (2, u "spectrum"), (0, u "Lcom/example/wedge/wedge/link/Spectrum;"), (10, .class_ 52), (0, u "com/example/wedge/wedge/link/Allocator")] 41

/-- com/example/wedge/wedge/link/SpectrumAllocator -/
def k13 : Class := { plain "com/example/wedge/wedge/link/SpectrumAllocator" (some 0) with
  accessFlags := 1057
  interfaces := #[12]
  cf := some (fileOf pool13 14 #[] #[] 1057 19 #[51] #[{ accessFlags := 18, nameIndex := 35, descriptorIndex := 36, attributes := #[] }, { accessFlags := 18, nameIndex := 39, descriptorIndex := 40, attributes := #[] }])
  fields := #[{ name := "traffic", type := (.object "com/example/wedge/wedge/traffic/Traffic"), accessFlags := 18, slot := 0, constantValue := 0 }, { name := "spectrum", type := (.object "com/example/wedge/wedge/link/Spectrum"), accessFlags := 18, slot := 1, constantValue := 0 }]
  methods := #[]
  instanceTypes := #[(.object "com/example/wedge/wedge/traffic/Traffic"), (.object "com/example/wedge/wedge/link/Spectrum")]
  staticTypes := #[]
  resolved := Array.replicate 94 none
  statics := none }

def pool14 : Array CpInfo := pool [(14, .class_ 16), (1, u "com/example/wedge/wedge/link/FunctionalVoid"), (2, .class_ 20), (0, u "com/example/wedge/wedge/link/SpectrumAllocator"), (2, u "bestStart"), (0, u "[I"), (2, u "bestLength"), (2, u "bestRank"), (6, u "weigher"), (0, u "Lcom/example/wedge/wedge/link/Spectrum$VoidVisitor;"), (10, .class_ 50), (0, u "com/example/wedge/wedge/voids/Fillability"), (7, u "[[I"), (2, u "levels"), (2, u "ranks"), (2, u "level"), (0, u "(Lcom/example/wedge/wedge/voids/Fillability;IIII)I"), (2, u "rank"), (23, .methodref 49 96), (0, .nameAndType 97 98), (0, u "isFillable"), (0, u "(I)Z"), (0, u "LEVELS"), (0, u "I"), (2, u "FIRST_AT_HIGHEST_SLOTS")] 32

def k14c0 : Code := { maxStack := 2, maxLocals := 6, code := prog_12_method_5_code, exceptionTable := #[], attributes := #[] }
def k14m0 : Method := { name := "level", desc := "(Lcom/example/wedge/wedge/voids/Fillability;IIII)I", sig := { parameters := [(.object "com/example/wedge/wedge/voids/Fillability"), .int, .int, .int, .int], returnType := some .int }, accessFlags := 9, code := some k14c0 }
/-- com/example/wedge/wedge/link/FunctionalVoid -/
def k14 : Class := { plain "com/example/wedge/wedge/link/FunctionalVoid" (some 13) with
  accessFlags := 33
  interfaces := #[]
  cf := some (fileOf pool14 14 #[] #[{ accessFlags := 9, nameIndex := 67, descriptorIndex := 68, attributes := #[] }] 33 19 #[] #[{ accessFlags := 26, nameIndex := 99, descriptorIndex := 100, attributes := #[] }, { accessFlags := 26, nameIndex := 103, descriptorIndex := 100, attributes := #[] }, { accessFlags := 18, nameIndex := 61, descriptorIndex := 58, attributes := #[] }, { accessFlags := 18, nameIndex := 64, descriptorIndex := 58, attributes := #[] }, { accessFlags := 18, nameIndex := 23, descriptorIndex := 24, attributes := #[] }, { accessFlags := 18, nameIndex := 27, descriptorIndex := 24, attributes := #[] }, { accessFlags := 18, nameIndex := 30, descriptorIndex := 24, attributes := #[] }, { accessFlags := 18, nameIndex := 37, descriptorIndex := 38, attributes := #[] }, { accessFlags := 2, nameIndex := 67, descriptorIndex := 24, attributes := #[] }, { accessFlags := 2, nameIndex := 71, descriptorIndex := 24, attributes := #[] }])
  fields := #[{ name := "LEVELS", type := .int, accessFlags := 26, slot := 0, constantValue := 0 }, { name := "FIRST_AT_HIGHEST_SLOTS", type := .int, accessFlags := 26, slot := 1, constantValue := 0 }, { name := "levels", type := (.array (.array .int)), accessFlags := 18, slot := 2, constantValue := 0 }, { name := "ranks", type := (.array (.array .int)), accessFlags := 18, slot := 3, constantValue := 0 }, { name := "bestStart", type := (.array .int), accessFlags := 18, slot := 4, constantValue := 0 }, { name := "bestLength", type := (.array .int), accessFlags := 18, slot := 5, constantValue := 0 }, { name := "bestRank", type := (.array .int), accessFlags := 18, slot := 6, constantValue := 0 }, { name := "weigher", type := (.object "com/example/wedge/wedge/link/Spectrum$VoidVisitor"), accessFlags := 18, slot := 7, constantValue := 0 }, { name := "level", type := (.array .int), accessFlags := 2, slot := 8, constantValue := 0 }, { name := "rank", type := (.array .int), accessFlags := 2, slot := 9, constantValue := 0 }]
  methods := #[k14m0]
  instanceTypes := #[(.object "com/example/wedge/wedge/traffic/Traffic"), (.object "com/example/wedge/wedge/link/Spectrum"), (.array (.array .int)), (.array (.array .int)), (.array .int), (.array .int), (.array .int), (.object "com/example/wedge/wedge/link/Spectrum$VoidVisitor"), (.array .int), (.array .int)]
  staticTypes := #[.int, .int]
  resolved := Array.replicate 136 none
  statics := none }

/-- the primitive boolean -/
def k15 : Class := { plain "boolean" none with kind := .primitive 'Z', accessFlags := 0x411 }
/-- [Z -/
def k16 : Class := { plain "[Z" (some 0) with kind := .array 15 .boolean, interfaces := #[10, 3], accessFlags := 1041 }

/-- the primitive byte -/
def k17 : Class := { plain "byte" none with kind := .primitive 'B', accessFlags := 0x411 }
/-- [B -/
def k18 : Class := { plain "[B" (some 0) with kind := .array 17 .byte, interfaces := #[10, 3], accessFlags := 1041 }

/-- the primitive int -/
def k19 : Class := { plain "int" none with kind := .primitive 'I', accessFlags := 0x411 }
/-- [I -/
def k20 : Class := { plain "[I" (some 0) with kind := .array 19 .int, interfaces := #[10, 3], accessFlags := 1041 }

def heap : Heap := #[]
def classes : Array Class := #[k0, k1, k2, k3, k4, k5, k6, k7, k8, k9, k10, k11, k12, k13, k14, k15, k16, k17, k18, k19, k20]
def interned : List (Array UInt16 × Addr) := []
def slotsUsed : Nat := 0
def theMethod : MethodId := ⟨1, 1⟩
def args0 : Array Value := #[.int 5, .int 7, .int 30, .int 1]
def aboutOver (below : List Frame) : State where
  vm := { classes := classes, interned := interned.toArray }
  heap := heap
  slotsUsed := slotsUsed
  threads := #[{ frames := .invoking theMethod args0 :: below }]
def below0 : List Frame := [.native { method := ⟨0, 0⟩, args := #[] }]
def about1 : State := aboutOver below0
def p0 : Program := .bare "" "" ""
def e0 : Env := launch0.env 0 0 0
theorem w_frames : about1.frames = Frame.invoking theMethod args0 :: below0 := rfl
set_option maxRecDepth 65536 in
theorem w_args : argsFit about1.vm theMethod args0 = true := by decide +kernel
set_option maxRecDepth 65536 in
theorem w_heap : heapFits about1 = true := by decide +kernel
set_option maxRecDepth 65536 in
theorem w_runnable : about1.curStatus? = some .runnable := by decide +kernel
set_option maxRecDepth 65536 in
theorem w_alone : about1.alone = true := by decide +kernel
set_option maxRecDepth 65536 in
theorem w_named : about1.methodNamed? x = some theMethod := by decide +kernel
set_option maxRecDepth 65536 in
theorem w_hears : about1.hears theMethod below0 = true := by decide +kernel
set_option maxRecDepth 65536 in
theorem w_ripe : about1.ripe theMethod args0 below0 = true := by decide +kernel
theorem w_running : about1.status = .running := rfl
set_option maxRecDepth 65536 in
theorem w_room : about1.hasRoom e0.platform room_1 = true :=
  launch0.hasRoom_least _ room_1 (by decide +kernel) (by decide +kernel) (by decide +kernel) (by decide +kernel) (by decide +kernel) (by decide +kernel)
theorem allAtoms_all (ts : List Jvm.Cond) (a : Array Jvm.Value) (st : Jvm.State) : (allAtoms ts).before a st = ts.all (fun c => c.before a st) := by
  induction ts with
  | nil => rfl
  | cons c t ih =>
    show (Jvm.Cond.and c (allAtoms t)).before a st = _
    rw [Jvm.Cond.before_and, ih, List.all_cons]
def words1 : List Jvm.Cond := Jvm.Cond.code x code maxLocals ret :: tables_1
/-- a 'code' word, met by the world's own term for the bytes: nothing is compared byte by byte -/
theorem code_word {y : MethodName} {bytes : ByteArray} {mx : Nat} {rt : Option FieldType} {a : Array Value} {s : State} {m : MethodId} {meth : Method} {c : Code} (h1 : s.methodNamed? y = some m) (h2 : s.vm.method? m = some meth) (h3 : meth.code = some c) (h4 : c.code = bytes)
    (h5 : (c.maxLocals == mx && c.exceptionTable.isEmpty && decide (c.maxStack ≤ mostOperands) && decide (meth.sig.returnType = rt) && !meth.locks && decide (parseMethodDescriptor y.desc = some meth.sig)) = true) : (Jvm.Cond.code y bytes mx rt).before a s = true := by
  simp only [Bool.and_eq_true, beq_iff_eq, Bool.not_eq_true', decide_eq_true_eq] at h5
  obtain ⟨⟨⟨⟨⟨g1, g2⟩, g3⟩, g4⟩, g5⟩, g6⟩ := h5
  simp [Cond.before, Cond.holds, Cond.value, h1, h2, h3, h4, g1, g2, g3, g4, g5, g6]
def isCode : Jvm.Cond → Bool
  | .code _ _ _ _ => true
  | _ => false
theorem all_split {L : List Jvm.Cond} {P : Jvm.Cond → Bool} (h1 : L.all (fun c => isCode c || P c) = true) (h2 : ∀ c ∈ L.filter isCode, P c = true) : L.all P = true := by
  refine List.all_eq_true.mpr fun c hc => ?_
  have h := List.all_eq_true.mp h1 c hc
  rcases Bool.eq_false_or_eq_true (isCode c) with hi | hi
  · exact h2 c (List.mem_filter.mpr ⟨hc, hi⟩)
  · simpa [hi] using h
set_option maxRecDepth 65536 in
theorem w_c0 : (Jvm.Cond.code x code maxLocals ret).before args0 about1 = true := code_word (m := ⟨1, 1⟩) (meth := k1m1) (c := k1c1) (by decide +kernel) rfl rfl rfl (by decide +kernel)
set_option maxRecDepth 65536 in
theorem w_c1 : (Jvm.Cond.code ({ cls := "com/example/wedge/wedge/voids/Fillability", name := "<init>", desc := "([II)V" } : Jvm.MethodName) prog_25_method_1_code (7 : Nat) (Option.none : Option Jvm.ClassFile.FieldType)).before args0 about1 = true := code_word (m := ⟨2, 0⟩) (meth := k2m0) (c := k2c0) (by decide +kernel) rfl rfl rfl (by decide +kernel)
set_option maxRecDepth 65536 in
theorem w_c2 : (Jvm.Cond.code ({ cls := "java/lang/Object", name := "<init>", desc := "()V" } : Jvm.MethodName) object_method_1_code (1 : Nat) (Option.none : Option Jvm.ClassFile.FieldType)).before args0 about1 = true := code_word (m := ⟨0, 0⟩) (meth := k0m0) (c := k0c0) (by decide +kernel) rfl rfl rfl (by decide +kernel)
set_option maxRecDepth 65536 in
theorem w_c3 : (Jvm.Cond.code ({ cls := "java/util/Objects", name := "requireNonNull", desc := "(Ljava/lang/Object;Ljava/lang/String;)Ljava/lang/Object;" } : Jvm.MethodName) jdk_31_method_11_code (2 : Nat) (Option.some (Jvm.ClassFile.FieldType.object "java/lang/Object"))).before args0 about1 = true := code_word (m := ⟨9, 1⟩) (meth := k9m1) (c := k9c1) (by decide +kernel) rfl rfl rfl (by decide +kernel)
set_option maxRecDepth 65536 in
theorem w_c4 : (Jvm.Cond.code ({ cls := "com/example/wedge/wedge/voids/Fillability", name := "checkUpTo", desc := "(I)V" } : Jvm.MethodName) prog_25_method_2_code (1 : Nat) (Option.none : Option Jvm.ClassFile.FieldType)).before args0 about1 = true := code_word (m := ⟨2, 1⟩) (meth := k2m1) (c := k2c1) (by decide +kernel) rfl rfl rfl (by decide +kernel)
set_option maxRecDepth 65536 in
theorem w_c5 : (Jvm.Cond.code ({ cls := "com/example/wedge/wedge/voids/Fillability", name := "table", desc := "([II)[Z" } : Jvm.MethodName) prog_25_method_12_code (5 : Nat) (Option.some (Jvm.ClassFile.FieldType.array Jvm.ClassFile.FieldType.boolean))).before args0 about1 = true := code_word (m := ⟨2, 4⟩) (meth := k2m4) (c := k2c4) (by decide +kernel) rfl rfl rfl (by decide +kernel)
set_option maxRecDepth 65536 in
theorem w_c6 : (Jvm.Cond.code ({ cls := "com/example/wedge/wedge/voids/Fillability", name := "period", desc := "()I" } : Jvm.MethodName) prog_25_method_6_code (6 : Nat) (Option.some Jvm.ClassFile.FieldType.int)).before args0 about1 = true := code_word (m := ⟨2, 3⟩) (meth := k2m3) (c := k2c3) (by decide +kernel) rfl rfl rfl (by decide +kernel)
set_option maxRecDepth 65536 in
theorem w_c7 : (Jvm.Cond.code ({ cls := "com/example/wedge/wedge/voids/Fillability", name := "gcd", desc := "(II)I" } : Jvm.MethodName) prog_25_method_13_code (5 : Nat) (Option.some Jvm.ClassFile.FieldType.int)).before args0 about1 = true := code_word (m := ⟨2, 5⟩) (meth := k2m5) (c := k2c5) (by decide +kernel) rfl rfl rfl (by decide +kernel)
set_option maxRecDepth 65536 in
theorem w_c8 : (Jvm.Cond.code ({ cls := "java/lang/Math", name := "multiplyExact", desc := "(II)I" } : Jvm.MethodName) jdk_29_method_28_code (4 : Nat) (Option.some Jvm.ClassFile.FieldType.int)).before args0 about1 = true := code_word (m := ⟨11, 1⟩) (meth := k11m1) (c := k11c1) (by decide +kernel) rfl rfl rfl (by decide +kernel)
set_option maxRecDepth 65536 in
theorem w_c9 : (Jvm.Cond.code ({ cls := "com/example/wedge/wedge/voids/Fillability", name := "isFillable", desc := "(I)Z" } : Jvm.MethodName) prog_25_method_4_code (2 : Nat) (Option.some Jvm.ClassFile.FieldType.boolean)).before args0 about1 = true := code_word (m := ⟨2, 2⟩) (meth := k2m2) (c := k2c2) (by decide +kernel) rfl rfl rfl (by decide +kernel)
set_option maxRecDepth 65536 in
theorem w_c10 : (Jvm.Cond.code ({ cls := "com/example/wedge/wedge/link/FunctionalVoid", name := "level", desc := "(Lcom/example/wedge/wedge/voids/Fillability;IIII)I" } : Jvm.MethodName) prog_12_method_5_code (6 : Nat) (Option.some Jvm.ClassFile.FieldType.int)).before args0 about1 = true := code_word (m := ⟨14, 0⟩) (meth := k14m0) (c := k14c0) (by decide +kernel) rfl rfl rfl (by decide +kernel)
def codes1 : List Jvm.Cond := [Jvm.Cond.code x code maxLocals ret, Jvm.Cond.code ({ cls := "com/example/wedge/wedge/voids/Fillability", name := "<init>", desc := "([II)V" } : Jvm.MethodName) prog_25_method_1_code (7 : Nat) (Option.none : Option Jvm.ClassFile.FieldType), Jvm.Cond.code ({ cls := "java/lang/Object", name := "<init>", desc := "()V" } : Jvm.MethodName) object_method_1_code (1 : Nat) (Option.none : Option Jvm.ClassFile.FieldType), Jvm.Cond.code ({ cls := "java/util/Objects", name := "requireNonNull", desc := "(Ljava/lang/Object;Ljava/lang/String;)Ljava/lang/Object;" } : Jvm.MethodName) jdk_31_method_11_code (2 : Nat) (Option.some (Jvm.ClassFile.FieldType.object "java/lang/Object")), Jvm.Cond.code ({ cls := "com/example/wedge/wedge/voids/Fillability", name := "checkUpTo", desc := "(I)V" } : Jvm.MethodName) prog_25_method_2_code (1 : Nat) (Option.none : Option Jvm.ClassFile.FieldType), Jvm.Cond.code ({ cls := "com/example/wedge/wedge/voids/Fillability", name := "table", desc := "([II)[Z" } : Jvm.MethodName) prog_25_method_12_code (5 : Nat) (Option.some (Jvm.ClassFile.FieldType.array Jvm.ClassFile.FieldType.boolean)), Jvm.Cond.code ({ cls := "com/example/wedge/wedge/voids/Fillability", name := "period", desc := "()I" } : Jvm.MethodName) prog_25_method_6_code (6 : Nat) (Option.some Jvm.ClassFile.FieldType.int), Jvm.Cond.code ({ cls := "com/example/wedge/wedge/voids/Fillability", name := "gcd", desc := "(II)I" } : Jvm.MethodName) prog_25_method_13_code (5 : Nat) (Option.some Jvm.ClassFile.FieldType.int), Jvm.Cond.code ({ cls := "java/lang/Math", name := "multiplyExact", desc := "(II)I" } : Jvm.MethodName) jdk_29_method_28_code (4 : Nat) (Option.some Jvm.ClassFile.FieldType.int), Jvm.Cond.code ({ cls := "com/example/wedge/wedge/voids/Fillability", name := "isFillable", desc := "(I)Z" } : Jvm.MethodName) prog_25_method_4_code (2 : Nat) (Option.some Jvm.ClassFile.FieldType.boolean), Jvm.Cond.code ({ cls := "com/example/wedge/wedge/link/FunctionalVoid", name := "level", desc := "(Lcom/example/wedge/wedge/voids/Fillability;IIII)I" } : Jvm.MethodName) prog_12_method_5_code (6 : Nat) (Option.some Jvm.ClassFile.FieldType.int)]
set_option maxRecDepth 65536 in
theorem codes_eq : words1.filter isCode = codes1 := rfl
theorem w_codes : ∀ c ∈ words1.filter isCode, c.before args0 about1 = true := by
  rw [codes_eq]
  intro c hc
  simp only [codes1, List.mem_cons, List.not_mem_nil, or_false] at hc
  rcases hc with rfl | rfl | rfl | rfl | rfl | rfl | rfl | rfl | rfl | rfl | rfl
  · exact w_c0
  · exact w_c1
  · exact w_c2
  · exact w_c3
  · exact w_c4
  · exact w_c5
  · exact w_c6
  · exact w_c7
  · exact w_c8
  · exact w_c9
  · exact w_c10
set_option maxRecDepth 65536 in
theorem w_t1 : (words1.take 24).all (fun c => isCode c || c.before args0 about1) = true := by decide +kernel
set_option maxRecDepth 65536 in
theorem w_t2 : ((words1.drop 24).take 24).all (fun c => isCode c || c.before args0 about1) = true := by decide +kernel
set_option maxRecDepth 65536 in
theorem w_t3 : ((words1.drop 24).drop 24).all (fun c => isCode c || c.before args0 about1) = true := by decide +kernel
theorem w_tables : (allAtoms (Jvm.Cond.code x code maxLocals ret :: tables_1)).before args0 about1 = true := by
  rw [allAtoms_all]
  show words1.all (fun c => c.before args0 about1) = true
  refine all_split ?_ w_codes
  rw [← List.take_append_drop 24 words1, List.all_append, w_t1, ← List.take_append_drop 24 (words1.drop 24), List.all_append, w_t2, w_t3]
  rfl
set_option maxRecDepth 65536 in
theorem w_case : (Jvm.Cond.and given_1 narrow_1).before args0 about1 = true := by decide +kernel
theorem w_applies : (headSpec (Jvm.Cond.code x code maxLocals ret :: tables_1) room_1).applies x e0.platform about1 = true :=
  (Spec.applies_iff w_frames).mpr ⟨w_running, w_runnable, w_alone, w_named, w_hears, w_ripe, w_room, w_tables⟩
theorem atStart : AtStart classFile x code maxLocals ret World_1 tables_1 room_1 Calls_1 rest_1 Pre_1 launch0 p0 e0 about1 theMethod args0 below0 :=
  ⟨lists_1, trivial, launch0.admits_env _ _ _, launch0.least_env, fairChoices_fair.cas, fairChoices_fair.clock, w_frames, w_args, w_heap, w_applies, trivial, trivial, w_case⟩
end start1
theorem witness_1 : WitnessClaimed_1 := ⟨start1.p0, start1.e0, start1.about1, start1.theMethod, start1.args0, start1.below0, start1.atStart⟩
end Jvm.Pilot.@@N@@
