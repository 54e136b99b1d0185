import JvmDerived
import JvmDerived.Pilot.@@N@@Statement
import JvmDerived.Pilot.@@N@@Code
set_option linter.unusedVariables false
set_option linter.unusedSimpArgs false
namespace Jvm.OwnKit
open Sem ClassFile Op Lib Jvm.Stand Jvm.Free Jvm.LawKit Jvm.RoadKit
/-- what stays the same in one body: program, launch, environment, room, first state, method, arguments, frames below, method record, code -/
abbrev Cx := Program × Launch × Env × Room × State × MethodId × Array Value × List Frame × Method × Code
/-- from here the body runs to its end, and Q holds of what it returns and of the heap then -/
def G (k : Cx) (n0 : Nat) (Q : Option Value → Heap → Prop) (h : Heap) (cells slots pc : Nat) (Ls : List Slot) (St : List Value) : Prop :=
  cells ≤ k.2.2.2.1.cells → slots ≤ k.2.2.2.1.slots → ∀ (T : State) (locs : List Loc),
  Stand k.1 k.2.1 k.2.2.1 k.2.2.2.1 k.2.2.2.2.1 k.2.2.2.2.2.1 k.2.2.2.2.2.2.1 k.2.2.2.2.2.2.2.1 k.2.2.2.2.2.2.2.2.1 k.2.2.2.2.2.2.2.2.2 T locs cells slots → T.heap = h → Fr n0 locs →
  ∃ s₂ o, Steps k.1.tables k.2.2.1 k.2.2.2.2.2.2.2.1 (T.setTop (mkF k.2.2.2.2.2.1 pc ⟨Ls⟩ St)) s₂ ∧ s₂.status = .running ∧ Ended s₂ k.2.2.2.2.2.2.2.1 o ∧
    ∃ v L, o = .returned v ∧ (Q v s₂.heap ∧ Fr n0 L) ∧ FrameEnd k.2.2.2.2.1 o s₂ L k.2.2.2.1.cells k.2.2.2.1.slots
/-- what is known of the body all along -/
def Ok (k : Cx) (Z : State) (n0 : Nat) (own : String) (R : Room) (bytes : ByteArray) (maxL : Nat) (ret : Option FieldType) (nm : String) : Prop :=
  k.1.tables.exec = Jvm.exec ∧ Z.Warmed39 k.2.2.2.2.1.vm ∧ k.2.2.2.2.1.vm.findClass own = some k.2.2.2.2.2.1.cls ∧ k.2.2.2.1 = R ∧ k.2.2.2.2.2.2.2.2.2.code = bytes ∧
  k.2.2.2.2.2.2.2.2.2.maxLocals = maxL ∧ k.2.2.2.2.2.2.2.2.1.sig.returnType = ret ∧ k.2.2.2.2.2.2.2.2.1.locks = false ∧ k.2.2.2.2.2.2.2.2.1.name = nm ∧ n0 ≤ k.2.2.2.2.1.heap.size
def Dc (bytes : ByteArray) (pc : Nat) (i : Instr) (len pc' : Nat) : Prop := decode bytes pc = .ok (i, len) ∧ pc' = pc + len
def Db (bytes : ByteArray) (pc : Nat) (f : Int → Instr) (nx tg : Nat) : Prop := ∃ o : Int, decode bytes pc = .ok (f o, 3) ∧ nx = pc + 3 ∧ 0 ≤ (pc : Int) + o ∧ ((pc : Int) + o).toNat = tg
theorem dc {bytes : ByteArray} {pc : Nat} {i : Instr} {len : Nat} (h : decode bytes pc = .ok (i, len)) {pc' : Nat} (e : pc' = pc + len) : Dc bytes pc i len pc' := ⟨h, e⟩
theorem db {bytes : ByteArray} {pc : Nat} {f : Int → Instr} (o : Int) (h : decode bytes pc = .ok (f o, 3)) {nx tg : Nat} (e : nx = pc + 3) (e2 : 0 ≤ (pc : Int) + o) (e3 : ((pc : Int) + o).toNat = tg) : Db bytes pc f nx tg := ⟨o, h, e, e2, e3⟩
variable {k : Cx} {Z : State} {n0 : Nat} {own : String} {R : Room} {bytes : ByteArray} {maxL : Nat} {ret : Option FieldType} {nm : String} {Q : Option Value → Heap → Prop} {h : Heap} {cells slots pc pc' nx tg : Nat} {Ls Ls' : List Slot} {St St' : List Value} {a0 : Array Value}
theorem mvD {own : String} {i : Nat} {v : UInt64} {Z s : State} {a0 args : Array Value} (hZ : Z.Warmed39 s.vm) (w : (Cond.constantDouble own i v).before a0 Z = true) : (Cond.constantDouble own i v).before args s = true := by
  have h1 := Cond.constantDouble_setVm (s := Z) (args := a0) hZ.alike own i v
  rw [w] at h1
  exact h1
/-- one step that moves neither heap nor tables -/
theorem G.plain {p : Program} {l : Launch} {e : Env} {R : Room} {s : State} {m : MethodId} {args : Array Value} {below : List Frame} {meth : Method} {c : Code}
    (st : ∀ T locs target, Stand p l e R s m args below meth c T locs cells slots → Steps p.tables e below (T.setTop (mkF m pc' ⟨Ls'⟩ St')) target → Steps p.tables e below (T.setTop (mkF m pc ⟨Ls⟩ St)) target)
    (g : G (p, l, e, R, s, m, args, below, meth, c) n0 Q h cells slots pc' Ls' St') : G (p, l, e, R, s, m, args, below, meth, c) n0 Q h cells slots pc Ls St := by
  intro hc hs T locs X eT N
  obtain ⟨s₂, o, h1, r⟩ := g hc hs T locs X eT N
  exact ⟨s₂, o, st T locs s₂ X h1, r⟩
/-- one step that leaves the heap as it is -/
theorem G.moved {p : Program} {l : Launch} {e : Env} {R : Room} {s : State} {m : MethodId} {args : Array Value} {below : List Frame} {meth : Method} {c : Code}
    (st : ∀ T locs, Stand p l e R s m args below meth c T locs cells slots → T.heap = h → ∃ T', Stand p l e R s m args below meth c T' locs cells slots ∧ T'.heap = h ∧ ∀ target, Steps p.tables e below (T'.setTop (mkF m pc' ⟨Ls'⟩ St')) target → Steps p.tables e below (T.setTop (mkF m pc ⟨Ls⟩ St)) target)
    (g : G (p, l, e, R, s, m, args, below, meth, c) n0 Q h cells slots pc' Ls' St') : G (p, l, e, R, s, m, args, below, meth, c) n0 Q h cells slots pc Ls St := by
  intro hc hs T locs X eT N
  obtain ⟨T', X', eT', st⟩ := st T locs X eT
  obtain ⟨s₂, o, h1, r⟩ := g hc hs T' locs X' eT' N
  exact ⟨s₂, o, st s₂ h1, r⟩
theorem G.more {cells' slots' : Nat} (K : Ok k Z n0 own R bytes maxL ret nm) (g : G k n0 Q h cells' slots' pc Ls St) (hc : cells ≤ cells') (hs : slots ≤ slots') (hc' : cells' ≤ R.cells) (hs' : slots' ≤ R.slots) : G k n0 Q h cells slots pc Ls St := by
  obtain ⟨-, -, -, rfl, -⟩ := K
  intro _ _ T locs X eT N
  exact g hc' hs' T locs (X.more hc hs) eT N
theorem G.post {Q' : Option Value → Heap → Prop} (g : G k n0 Q' h cells slots pc Ls St) (q : ∀ v h, Q' v h → Q v h) : G k n0 Q h cells slots pc Ls St := by
  intro hc hs T locs X eT N
  obtain ⟨s₂, o, h1, h2, h3, v, L, h4, ⟨h5, h6⟩, h7⟩ := g hc hs T locs X eT N
  exact ⟨s₂, o, h1, h2, h3, v, L, h4, ⟨q _ _ h5, h6⟩, h7⟩
theorem G.iadd (K : Ok k Z n0 own R bytes maxL ret nm) {x y : Int32} (d : Dc bytes pc .iadd 1 pc') (g : G k n0 Q h cells slots pc' Ls (.int (x + y) :: St)) : G k n0 Q h cells slots pc Ls (.int y :: .int x :: St) := by
  obtain ⟨p, l, e, R', s, m, args, below, meth, c⟩ := k
  obtain ⟨hx, hZ, hown, rfl, rfl, rfl, rfl, hlk, rfl, hn0⟩ := K
  obtain ⟨d, rfl⟩ := d
  exact G.plain (fun T locs t X q => XS.iadd X.here hx rfl d rfl q) g
theorem G.isub (K : Ok k Z n0 own R bytes maxL ret nm) {x y : Int32} (d : Dc bytes pc .isub 1 pc') (g : G k n0 Q h cells slots pc' Ls (.int (x - y) :: St)) : G k n0 Q h cells slots pc Ls (.int y :: .int x :: St) := by
  obtain ⟨p, l, e, R', s, m, args, below, meth, c⟩ := k
  obtain ⟨hx, hZ, hown, rfl, rfl, rfl, rfl, hlk, rfl, hn0⟩ := K
  obtain ⟨d, rfl⟩ := d
  exact G.plain (fun T locs t X q => XS.isub X.here hx rfl d rfl q) g
theorem G.imul (K : Ok k Z n0 own R bytes maxL ret nm) {x y : Int32} (d : Dc bytes pc .imul 1 pc') (g : G k n0 Q h cells slots pc' Ls (.int (x * y) :: St)) : G k n0 Q h cells slots pc Ls (.int y :: .int x :: St) := by
  obtain ⟨p, l, e, R', s, m, args, below, meth, c⟩ := k
  obtain ⟨hx, hZ, hown, rfl, rfl, rfl, rfl, hlk, rfl, hn0⟩ := K
  obtain ⟨d, rfl⟩ := d
  exact G.plain (fun T locs t X q => XS.imul X.here hx rfl d rfl q) g
theorem G.iand (K : Ok k Z n0 own R bytes maxL ret nm) {x y : Int32} (d : Dc bytes pc .iand 1 pc') (g : G k n0 Q h cells slots pc' Ls (.int (x &&& y) :: St)) : G k n0 Q h cells slots pc Ls (.int y :: .int x :: St) := by
  obtain ⟨p, l, e, R', s, m, args, below, meth, c⟩ := k
  obtain ⟨hx, hZ, hown, rfl, rfl, rfl, rfl, hlk, rfl, hn0⟩ := K
  obtain ⟨d, rfl⟩ := d
  exact G.plain (fun T locs t X q => XS.iand X.here hx rfl d rfl q) g
theorem G.ior (K : Ok k Z n0 own R bytes maxL ret nm) {x y : Int32} (d : Dc bytes pc .ior 1 pc') (g : G k n0 Q h cells slots pc' Ls (.int (x ||| y) :: St)) : G k n0 Q h cells slots pc Ls (.int y :: .int x :: St) := by
  obtain ⟨p, l, e, R', s, m, args, below, meth, c⟩ := k
  obtain ⟨hx, hZ, hown, rfl, rfl, rfl, rfl, hlk, rfl, hn0⟩ := K
  obtain ⟨d, rfl⟩ := d
  exact G.plain (fun T locs t X q => XT.ior X.here hx rfl d rfl q) g
theorem G.ixor (K : Ok k Z n0 own R bytes maxL ret nm) {x y : Int32} (d : Dc bytes pc .ixor 1 pc') (g : G k n0 Q h cells slots pc' Ls (.int (x ^^^ y) :: St)) : G k n0 Q h cells slots pc Ls (.int y :: .int x :: St) := by
  obtain ⟨p, l, e, R', s, m, args, below, meth, c⟩ := k
  obtain ⟨hx, hZ, hown, rfl, rfl, rfl, rfl, hlk, rfl, hn0⟩ := K
  obtain ⟨d, rfl⟩ := d
  exact G.plain (fun T locs t X q => XT.ixor X.here hx rfl d rfl q) g
theorem G.ishl (K : Ok k Z n0 own R bytes maxL ret nm) {x y : Int32} (d : Dc bytes pc .ishl 1 pc') (g : G k n0 Q h cells slots pc' Ls (.int (x <<< (y &&& 31)) :: St)) : G k n0 Q h cells slots pc Ls (.int y :: .int x :: St) := by
  obtain ⟨p, l, e, R', s, m, args, below, meth, c⟩ := k
  obtain ⟨hx, hZ, hown, rfl, rfl, rfl, rfl, hlk, rfl, hn0⟩ := K
  obtain ⟨d, rfl⟩ := d
  exact G.plain (fun T locs t X q => XT.ishl X.here hx rfl d rfl q) g
theorem G.ishr (K : Ok k Z n0 own R bytes maxL ret nm) {x y : Int32} (d : Dc bytes pc .ishr 1 pc') (g : G k n0 Q h cells slots pc' Ls (.int (x >>> (y &&& 31)) :: St)) : G k n0 Q h cells slots pc Ls (.int y :: .int x :: St) := by
  obtain ⟨p, l, e, R', s, m, args, below, meth, c⟩ := k
  obtain ⟨hx, hZ, hown, rfl, rfl, rfl, rfl, hlk, rfl, hn0⟩ := K
  obtain ⟨d, rfl⟩ := d
  exact G.plain (fun T locs t X q => XT.ishr X.here hx rfl d rfl q) g
theorem G.iushr (K : Ok k Z n0 own R bytes maxL ret nm) {x y : Int32} (d : Dc bytes pc .iushr 1 pc') (g : G k n0 Q h cells slots pc' Ls (.int (XT.ushr x y) :: St)) : G k n0 Q h cells slots pc Ls (.int y :: .int x :: St) := by
  obtain ⟨p, l, e, R', s, m, args, below, meth, c⟩ := k
  obtain ⟨hx, hZ, hown, rfl, rfl, rfl, rfl, hlk, rfl, hn0⟩ := K
  obtain ⟨d, rfl⟩ := d
  exact G.plain (fun T locs t X q => XT.iushr X.here hx rfl d rfl q) g
theorem G.ladd (K : Ok k Z n0 own R bytes maxL ret nm) {x y : Int64} (d : Dc bytes pc .ladd 1 pc') (g : G k n0 Q h cells slots pc' Ls (.long (x + y) :: St)) : G k n0 Q h cells slots pc Ls (.long y :: .long x :: St) := by
  obtain ⟨p, l, e, R', s, m, args, below, meth, c⟩ := k
  obtain ⟨hx, hZ, hown, rfl, rfl, rfl, rfl, hlk, rfl, hn0⟩ := K
  obtain ⟨d, rfl⟩ := d
  exact G.plain (fun T locs t X q => XT.ladd X.here hx rfl d rfl q) g
theorem G.lsub (K : Ok k Z n0 own R bytes maxL ret nm) {x y : Int64} (d : Dc bytes pc .lsub 1 pc') (g : G k n0 Q h cells slots pc' Ls (.long (x - y) :: St)) : G k n0 Q h cells slots pc Ls (.long y :: .long x :: St) := by
  obtain ⟨p, l, e, R', s, m, args, below, meth, c⟩ := k
  obtain ⟨hx, hZ, hown, rfl, rfl, rfl, rfl, hlk, rfl, hn0⟩ := K
  obtain ⟨d, rfl⟩ := d
  exact G.plain (fun T locs t X q => XT.lsub X.here hx rfl d rfl q) g
theorem G.lmul (K : Ok k Z n0 own R bytes maxL ret nm) {x y : Int64} (d : Dc bytes pc .lmul 1 pc') (g : G k n0 Q h cells slots pc' Ls (.long (x * y) :: St)) : G k n0 Q h cells slots pc Ls (.long y :: .long x :: St) := by
  obtain ⟨p, l, e, R', s, m, args, below, meth, c⟩ := k
  obtain ⟨hx, hZ, hown, rfl, rfl, rfl, rfl, hlk, rfl, hn0⟩ := K
  obtain ⟨d, rfl⟩ := d
  exact G.plain (fun T locs t X q => XT.lmul X.here hx rfl d rfl q) g
theorem G.land (K : Ok k Z n0 own R bytes maxL ret nm) {x y : Int64} (d : Dc bytes pc .land 1 pc') (g : G k n0 Q h cells slots pc' Ls (.long (x &&& y) :: St)) : G k n0 Q h cells slots pc Ls (.long y :: .long x :: St) := by
  obtain ⟨p, l, e, R', s, m, args, below, meth, c⟩ := k
  obtain ⟨hx, hZ, hown, rfl, rfl, rfl, rfl, hlk, rfl, hn0⟩ := K
  obtain ⟨d, rfl⟩ := d
  exact G.plain (fun T locs t X q => XT.land X.here hx rfl d rfl q) g
theorem G.lor (K : Ok k Z n0 own R bytes maxL ret nm) {x y : Int64} (d : Dc bytes pc .lor 1 pc') (g : G k n0 Q h cells slots pc' Ls (.long (x ||| y) :: St)) : G k n0 Q h cells slots pc Ls (.long y :: .long x :: St) := by
  obtain ⟨p, l, e, R', s, m, args, below, meth, c⟩ := k
  obtain ⟨hx, hZ, hown, rfl, rfl, rfl, rfl, hlk, rfl, hn0⟩ := K
  obtain ⟨d, rfl⟩ := d
  exact G.plain (fun T locs t X q => XT.lor X.here hx rfl d rfl q) g
theorem G.lxor (K : Ok k Z n0 own R bytes maxL ret nm) {x y : Int64} (d : Dc bytes pc .lxor 1 pc') (g : G k n0 Q h cells slots pc' Ls (.long (x ^^^ y) :: St)) : G k n0 Q h cells slots pc Ls (.long y :: .long x :: St) := by
  obtain ⟨p, l, e, R', s, m, args, below, meth, c⟩ := k
  obtain ⟨hx, hZ, hown, rfl, rfl, rfl, rfl, hlk, rfl, hn0⟩ := K
  obtain ⟨d, rfl⟩ := d
  exact G.plain (fun T locs t X q => XT.lxor X.here hx rfl d rfl q) g
theorem G.lshl (K : Ok k Z n0 own R bytes maxL ret nm) {x : Int64} {y : Int32} (d : Dc bytes pc .lshl 1 pc') (g : G k n0 Q h cells slots pc' Ls (.long (x <<< (y.toInt64 &&& 63)) :: St)) : G k n0 Q h cells slots pc Ls (.int y :: .long x :: St) := by
  obtain ⟨p, l, e, R', s, m, args, below, meth, c⟩ := k
  obtain ⟨hx, hZ, hown, rfl, rfl, rfl, rfl, hlk, rfl, hn0⟩ := K
  obtain ⟨d, rfl⟩ := d
  exact G.plain (fun T locs t X q => XT.lshl X.here hx rfl d rfl q) g
theorem G.lshr (K : Ok k Z n0 own R bytes maxL ret nm) {x : Int64} {y : Int32} (d : Dc bytes pc .lshr 1 pc') (g : G k n0 Q h cells slots pc' Ls (.long (x >>> (y.toInt64 &&& 63)) :: St)) : G k n0 Q h cells slots pc Ls (.int y :: .long x :: St) := by
  obtain ⟨p, l, e, R', s, m, args, below, meth, c⟩ := k
  obtain ⟨hx, hZ, hown, rfl, rfl, rfl, rfl, hlk, rfl, hn0⟩ := K
  obtain ⟨d, rfl⟩ := d
  exact G.plain (fun T locs t X q => XT.lshr X.here hx rfl d rfl q) g
theorem G.lushr (K : Ok k Z n0 own R bytes maxL ret nm) {x : Int64} {y : Int32} (d : Dc bytes pc .lushr 1 pc') (g : G k n0 Q h cells slots pc' Ls (.long (XT.ushrL x y) :: St)) : G k n0 Q h cells slots pc Ls (.int y :: .long x :: St) := by
  obtain ⟨p, l, e, R', s, m, args, below, meth, c⟩ := k
  obtain ⟨hx, hZ, hown, rfl, rfl, rfl, rfl, hlk, rfl, hn0⟩ := K
  obtain ⟨d, rfl⟩ := d
  exact G.plain (fun T locs t X q => XT.lushr X.here hx rfl d rfl q) g
theorem G.irem (K : Ok k Z n0 own R bytes maxL ret nm) {x y : Int32} (d : Dc bytes pc .irem 1 pc') (hy : y ≠ 0) (g : G k n0 Q h cells slots pc' Ls (.int (x % y) :: St)) : G k n0 Q h cells slots pc Ls (.int y :: .int x :: St) := by
  obtain ⟨p, l, e, R', s, m, args, below, meth, c⟩ := k
  obtain ⟨hx, hZ, hown, rfl, rfl, rfl, rfl, hlk, rfl, hn0⟩ := K
  obtain ⟨d, rfl⟩ := d
  exact G.plain (fun T locs t X q => iremM X hx rfl d rfl hy q) g
theorem G.idiv (K : Ok k Z n0 own R bytes maxL ret nm) {x y : Int32} (d : Dc bytes pc .idiv 1 pc') (hy : y ≠ 0) (g : G k n0 Q h cells slots pc' Ls (.int (x / y) :: St)) : G k n0 Q h cells slots pc Ls (.int y :: .int x :: St) := by
  obtain ⟨p, l, e, R', s, m, args, below, meth, c⟩ := k
  obtain ⟨hx, hZ, hown, rfl, rfl, rfl, rfl, hlk, rfl, hn0⟩ := K
  obtain ⟨d, rfl⟩ := d
  exact G.plain (fun T locs t X q => XS.idiv X.here hx rfl d rfl hy q) g
theorem G.ldiv (K : Ok k Z n0 own R bytes maxL ret nm) {x y : Int64} (d : Dc bytes pc .ldiv 1 pc') (hy : y ≠ 0) (g : G k n0 Q h cells slots pc' Ls (.long (x / y) :: St)) : G k n0 Q h cells slots pc Ls (.long y :: .long x :: St) := by
  obtain ⟨p, l, e, R', s, m, args, below, meth, c⟩ := k
  obtain ⟨hx, hZ, hown, rfl, rfl, rfl, rfl, hlk, rfl, hn0⟩ := K
  obtain ⟨d, rfl⟩ := d
  exact G.plain (fun T locs t X q => XT.ldiv X.here hx rfl d rfl hy q) g
theorem G.ineg (K : Ok k Z n0 own R bytes maxL ret nm) {x : Int32} (d : Dc bytes pc .ineg 1 pc') (g : G k n0 Q h cells slots pc' Ls (.int (-x) :: St)) : G k n0 Q h cells slots pc Ls (.int x :: St) := by
  obtain ⟨p, l, e, R', s, m, args, below, meth, c⟩ := k
  obtain ⟨hx, hZ, hown, rfl, rfl, rfl, rfl, hlk, rfl, hn0⟩ := K
  obtain ⟨d, rfl⟩ := d
  exact G.plain (fun T locs t X q => XS.ineg X.here hx rfl d rfl q) g
theorem G.lneg (K : Ok k Z n0 own R bytes maxL ret nm) {x : Int64} (d : Dc bytes pc .lneg 1 pc') (g : G k n0 Q h cells slots pc' Ls (.long (-x) :: St)) : G k n0 Q h cells slots pc Ls (.long x :: St) := by
  obtain ⟨p, l, e, R', s, m, args, below, meth, c⟩ := k
  obtain ⟨hx, hZ, hown, rfl, rfl, rfl, rfl, hlk, rfl, hn0⟩ := K
  obtain ⟨d, rfl⟩ := d
  exact G.plain (fun T locs t X q => XT.lneg X.here hx rfl d rfl q) g
theorem G.i2l (K : Ok k Z n0 own R bytes maxL ret nm) {x : Int32} (d : Dc bytes pc .i2l 1 pc') (g : G k n0 Q h cells slots pc' Ls (.long x.toInt64 :: St)) : G k n0 Q h cells slots pc Ls (.int x :: St) := by
  obtain ⟨p, l, e, R', s, m, args, below, meth, c⟩ := k
  obtain ⟨hx, hZ, hown, rfl, rfl, rfl, rfl, hlk, rfl, hn0⟩ := K
  obtain ⟨d, rfl⟩ := d
  exact G.plain (fun T locs t X q => XT.i2l X.here hx rfl d rfl q) g
theorem G.l2i (K : Ok k Z n0 own R bytes maxL ret nm) {x : Int64} (d : Dc bytes pc .l2i 1 pc') (g : G k n0 Q h cells slots pc' Ls (.int x.toInt32 :: St)) : G k n0 Q h cells slots pc Ls (.long x :: St) := by
  obtain ⟨p, l, e, R', s, m, args, below, meth, c⟩ := k
  obtain ⟨hx, hZ, hown, rfl, rfl, rfl, rfl, hlk, rfl, hn0⟩ := K
  obtain ⟨d, rfl⟩ := d
  exact G.plain (fun T locs t X q => XT.l2i X.here hx rfl d rfl q) g
theorem G.i2b (K : Ok k Z n0 own R bytes maxL ret nm) {x : Int32} (d : Dc bytes pc .i2b 1 pc') (g : G k n0 Q h cells slots pc' Ls (.int x.toInt8.toInt32 :: St)) : G k n0 Q h cells slots pc Ls (.int x :: St) := by
  obtain ⟨p, l, e, R', s, m, args, below, meth, c⟩ := k
  obtain ⟨hx, hZ, hown, rfl, rfl, rfl, rfl, hlk, rfl, hn0⟩ := K
  obtain ⟨d, rfl⟩ := d
  exact G.plain (fun T locs t X q => XT.i2b X.here hx rfl d rfl q) g
theorem G.i2s (K : Ok k Z n0 own R bytes maxL ret nm) {x : Int32} (d : Dc bytes pc .i2s 1 pc') (g : G k n0 Q h cells slots pc' Ls (.int x.toInt16.toInt32 :: St)) : G k n0 Q h cells slots pc Ls (.int x :: St) := by
  obtain ⟨p, l, e, R', s, m, args, below, meth, c⟩ := k
  obtain ⟨hx, hZ, hown, rfl, rfl, rfl, rfl, hlk, rfl, hn0⟩ := K
  obtain ⟨d, rfl⟩ := d
  exact G.plain (fun T locs t X q => XT.i2s X.here hx rfl d rfl q) g
theorem G.i2c (K : Ok k Z n0 own R bytes maxL ret nm) {x : Int32} (d : Dc bytes pc .i2c 1 pc') (g : G k n0 Q h cells slots pc' Ls (.int x.toUInt32.toUInt16.toUInt32.toInt32 :: St)) : G k n0 Q h cells slots pc Ls (.int x :: St) := by
  obtain ⟨p, l, e, R', s, m, args, below, meth, c⟩ := k
  obtain ⟨hx, hZ, hown, rfl, rfl, rfl, rfl, hlk, rfl, hn0⟩ := K
  obtain ⟨d, rfl⟩ := d
  exact G.plain (fun T locs t X q => XT.i2c X.here hx rfl d rfl q) g
theorem G.iloadN (K : Ok k Z n0 own R bytes maxL ret nm) {v : Int32} {i : Fin 4} (d : Dc bytes pc (.iload_n i) 1 pc') (hl : Ls[i.val]? = some (.val (.int v))) (g : G k n0 Q h cells slots pc' Ls (.int v :: St)) : G k n0 Q h cells slots pc Ls (St) := by
  obtain ⟨p, l, e, R', s, m, args, below, meth, c⟩ := k
  obtain ⟨hx, hZ, hown, rfl, rfl, rfl, rfl, hlk, rfl, hn0⟩ := K
  obtain ⟨d, rfl⟩ := d
  exact G.plain (fun T locs t X q => XS.iloadN X.here hx rfl d (by simpa using hl) q) g
theorem G.iload (K : Ok k Z n0 own R bytes maxL ret nm) {v : Int32} {i : Nat} (d : Dc bytes pc (.iload i) 2 pc') (hl : Ls[i]? = some (.val (.int v))) (g : G k n0 Q h cells slots pc' Ls (.int v :: St)) : G k n0 Q h cells slots pc Ls (St) := by
  obtain ⟨p, l, e, R', s, m, args, below, meth, c⟩ := k
  obtain ⟨hx, hZ, hown, rfl, rfl, rfl, rfl, hlk, rfl, hn0⟩ := K
  obtain ⟨d, rfl⟩ := d
  exact G.plain (fun T locs t X q => XS.iload X.here hx rfl d (by simpa using hl) q) g
theorem G.lloadN (K : Ok k Z n0 own R bytes maxL ret nm) {v : Int64} {i : Fin 4} (d : Dc bytes pc (.lload_n i) 1 pc') (hl : Ls[i.val]? = some (.val (.long v))) (g : G k n0 Q h cells slots pc' Ls (.long v :: St)) : G k n0 Q h cells slots pc Ls (St) := by
  obtain ⟨p, l, e, R', s, m, args, below, meth, c⟩ := k
  obtain ⟨hx, hZ, hown, rfl, rfl, rfl, rfl, hlk, rfl, hn0⟩ := K
  obtain ⟨d, rfl⟩ := d
  exact G.plain (fun T locs t X q => XT.lloadN X.here hx rfl d (by simpa using hl) q) g
theorem G.lload (K : Ok k Z n0 own R bytes maxL ret nm) {v : Int64} {i : Nat} (d : Dc bytes pc (.lload i) 2 pc') (hl : Ls[i]? = some (.val (.long v))) (g : G k n0 Q h cells slots pc' Ls (.long v :: St)) : G k n0 Q h cells slots pc Ls (St) := by
  obtain ⟨p, l, e, R', s, m, args, below, meth, c⟩ := k
  obtain ⟨hx, hZ, hown, rfl, rfl, rfl, rfl, hlk, rfl, hn0⟩ := K
  obtain ⟨d, rfl⟩ := d
  exact G.plain (fun T locs t X q => XT.lload X.here hx rfl d (by simpa using hl) q) g
theorem G.aloadN (K : Ok k Z n0 own R bytes maxL ret nm) {v : Value} {i : Fin 4} (d : Dc bytes pc (.aload_n i) 1 pc') (hl : Ls[i.val]? = some (.val (v))) (hv : v.isRef = true) (g : G k n0 Q h cells slots pc' Ls (v :: St)) : G k n0 Q h cells slots pc Ls (St) := by
  obtain ⟨p, l, e, R', s, m, args, below, meth, c⟩ := k
  obtain ⟨hx, hZ, hown, rfl, rfl, rfl, rfl, hlk, rfl, hn0⟩ := K
  obtain ⟨d, rfl⟩ := d
  exact G.plain (fun T locs t X q => XS.aloadN X.here hx rfl d (by simpa using hl) hv q) g
theorem G.aload (K : Ok k Z n0 own R bytes maxL ret nm) {v : Value} {i : Nat} (d : Dc bytes pc (.aload i) 2 pc') (hl : Ls[i]? = some (.val (v))) (hv : v.isRef = true) (g : G k n0 Q h cells slots pc' Ls (v :: St)) : G k n0 Q h cells slots pc Ls (St) := by
  obtain ⟨p, l, e, R', s, m, args, below, meth, c⟩ := k
  obtain ⟨hx, hZ, hown, rfl, rfl, rfl, rfl, hlk, rfl, hn0⟩ := K
  obtain ⟨d, rfl⟩ := d
  exact G.plain (fun T locs t X q => XS.aload X.here hx rfl d (by simpa using hl) hv q) g
theorem G.istoreN (K : Ok k Z n0 own R bytes maxL ret nm) {v : Int32} {i : Fin 4} (d : Dc bytes pc (.istore_n i) 1 pc') (Ls' : List Slot) (hl : storeLocals ⟨Ls⟩ i.val (.int v) = some ⟨Ls'⟩) (g : G k n0 Q h cells slots pc' Ls' (St)) : G k n0 Q h cells slots pc Ls (.int v :: St) := by
  obtain ⟨p, l, e, R', s, m, args, below, meth, c⟩ := k
  obtain ⟨hx, hZ, hown, rfl, rfl, rfl, rfl, hlk, rfl, hn0⟩ := K
  obtain ⟨d, rfl⟩ := d
  exact G.plain (fun T locs t X q => XS.istoreN X.here hx rfl d rfl hl q) g
theorem G.istore (K : Ok k Z n0 own R bytes maxL ret nm) {v : Int32} {i : Nat} (d : Dc bytes pc (.istore i) 2 pc') (Ls' : List Slot) (hl : storeLocals ⟨Ls⟩ i (.int v) = some ⟨Ls'⟩) (g : G k n0 Q h cells slots pc' Ls' (St)) : G k n0 Q h cells slots pc Ls (.int v :: St) := by
  obtain ⟨p, l, e, R', s, m, args, below, meth, c⟩ := k
  obtain ⟨hx, hZ, hown, rfl, rfl, rfl, rfl, hlk, rfl, hn0⟩ := K
  obtain ⟨d, rfl⟩ := d
  exact G.plain (fun T locs t X q => XS.istore X.here hx rfl d rfl hl q) g
theorem G.lstoreN (K : Ok k Z n0 own R bytes maxL ret nm) {v : Int64} {i : Fin 4} (d : Dc bytes pc (.lstore_n i) 1 pc') (Ls' : List Slot) (hl : storeLocals ⟨Ls⟩ i.val (.long v) = some ⟨Ls'⟩) (g : G k n0 Q h cells slots pc' Ls' (St)) : G k n0 Q h cells slots pc Ls (.long v :: St) := by
  obtain ⟨p, l, e, R', s, m, args, below, meth, c⟩ := k
  obtain ⟨hx, hZ, hown, rfl, rfl, rfl, rfl, hlk, rfl, hn0⟩ := K
  obtain ⟨d, rfl⟩ := d
  exact G.plain (fun T locs t X q => XT.lstoreN X.here hx rfl d rfl hl q) g
theorem G.lstore (K : Ok k Z n0 own R bytes maxL ret nm) {v : Int64} {i : Nat} (d : Dc bytes pc (.lstore i) 2 pc') (Ls' : List Slot) (hl : storeLocals ⟨Ls⟩ i (.long v) = some ⟨Ls'⟩) (g : G k n0 Q h cells slots pc' Ls' (St)) : G k n0 Q h cells slots pc Ls (.long v :: St) := by
  obtain ⟨p, l, e, R', s, m, args, below, meth, c⟩ := k
  obtain ⟨hx, hZ, hown, rfl, rfl, rfl, rfl, hlk, rfl, hn0⟩ := K
  obtain ⟨d, rfl⟩ := d
  exact G.plain (fun T locs t X q => XT.lstore X.here hx rfl d rfl hl q) g
theorem G.astoreN (K : Ok k Z n0 own R bytes maxL ret nm) {v : Value} {i : Fin 4} (d : Dc bytes pc (.astore_n i) 1 pc') (hv : v.isRef = true) (Ls' : List Slot) (hl : storeLocals ⟨Ls⟩ i.val (v) = some ⟨Ls'⟩) (g : G k n0 Q h cells slots pc' Ls' (St)) : G k n0 Q h cells slots pc Ls (v :: St) := by
  obtain ⟨p, l, e, R', s, m, args, below, meth, c⟩ := k
  obtain ⟨hx, hZ, hown, rfl, rfl, rfl, rfl, hlk, rfl, hn0⟩ := K
  obtain ⟨d, rfl⟩ := d
  exact G.plain (fun T locs t X q => XS.astoreN X.here hx rfl d rfl hv hl q) g
theorem G.astore (K : Ok k Z n0 own R bytes maxL ret nm) {v : Value} {i : Nat} (d : Dc bytes pc (.astore i) 2 pc') (hv : v.isRef = true) (Ls' : List Slot) (hl : storeLocals ⟨Ls⟩ i (v) = some ⟨Ls'⟩) (g : G k n0 Q h cells slots pc' Ls' (St)) : G k n0 Q h cells slots pc Ls (v :: St) := by
  obtain ⟨p, l, e, R', s, m, args, below, meth, c⟩ := k
  obtain ⟨hx, hZ, hown, rfl, rfl, rfl, rfl, hlk, rfl, hn0⟩ := K
  obtain ⟨d, rfl⟩ := d
  exact G.plain (fun T locs t X q => XS.astore X.here hx rfl d rfl hv hl q) g
theorem G.iinc (K : Ok k Z n0 own R bytes maxL ret nm) {x : Int32} {i : Nat} {cst : Int} (d : Dc bytes pc (.iinc i cst) 3 pc') (v : Int32) (hv : Int32.ofInt cst = v) (hl0 : Ls[i]? = some (.val (.int x))) (Ls' : List Slot) (hl : storeLocals ⟨Ls⟩ i (.int (x + v)) = some ⟨Ls'⟩) (g : G k n0 Q h cells slots pc' Ls' (St)) : G k n0 Q h cells slots pc Ls (St) := by
  obtain ⟨p, l, e, R', s, m, args, below, meth, c⟩ := k
  obtain ⟨hx, hZ, hown, rfl, rfl, rfl, rfl, hlk, rfl, hn0⟩ := K
  obtain ⟨d, rfl⟩ := d
  exact G.plain (fun T locs t X q => XT.iincV X.here hx rfl v d hv (by simpa using hl0) hl q) g
theorem G.iconst (K : Ok k Z n0 own R bytes maxL ret nm) {i : Int} (d : Dc bytes pc (.iconst i) 1 pc') (v : Int32) (hv : Int32.ofInt i = v) (g : G k n0 Q h cells slots pc' Ls (.int v :: St)) : G k n0 Q h cells slots pc Ls (St) := by
  obtain ⟨p, l, e, R', s, m, args, below, meth, c⟩ := k
  obtain ⟨hx, hZ, hown, rfl, rfl, rfl, rfl, hlk, rfl, hn0⟩ := K
  obtain ⟨d, rfl⟩ := d
  exact G.plain (fun T locs t X q => XT.iconstV X.here hx rfl v d hv q) g
theorem G.bipush (K : Ok k Z n0 own R bytes maxL ret nm) {i : Int} (d : Dc bytes pc (.bipush i) 2 pc') (v : Int32) (hv : (Int8.ofInt i).toInt32 = v) (g : G k n0 Q h cells slots pc' Ls (.int v :: St)) : G k n0 Q h cells slots pc Ls (St) := by
  obtain ⟨p, l, e, R', s, m, args, below, meth, c⟩ := k
  obtain ⟨hx, hZ, hown, rfl, rfl, rfl, rfl, hlk, rfl, hn0⟩ := K
  obtain ⟨d, rfl⟩ := d
  exact G.plain (fun T locs t X q => XT.bipushV X.here hx rfl v d hv q) g
theorem G.sipush (K : Ok k Z n0 own R bytes maxL ret nm) {i : Int} (d : Dc bytes pc (.sipush i) 3 pc') (v : Int32) (hv : (Int16.ofInt i).toInt32 = v) (g : G k n0 Q h cells slots pc' Ls (.int v :: St)) : G k n0 Q h cells slots pc Ls (St) := by
  obtain ⟨p, l, e, R', s, m, args, below, meth, c⟩ := k
  obtain ⟨hx, hZ, hown, rfl, rfl, rfl, rfl, hlk, rfl, hn0⟩ := K
  obtain ⟨d, rfl⟩ := d
  exact G.plain (fun T locs t X q => XT.sipushV X.here hx rfl v d hv q) g
theorem G.lconst (K : Ok k Z n0 own R bytes maxL ret nm) {i : Fin 2} (d : Dc bytes pc (.lconst i) 1 pc') (v : Int64) (hv : Int64.ofNat i = v) (g : G k n0 Q h cells slots pc' Ls (.long v :: St)) : G k n0 Q h cells slots pc Ls (St) := by
  obtain ⟨p, l, e, R', s, m, args, below, meth, c⟩ := k
  obtain ⟨hx, hZ, hown, rfl, rfl, rfl, rfl, hlk, rfl, hn0⟩ := K
  obtain ⟨d, rfl⟩ := d
  exact G.plain (fun T locs t X q => XT.lconstV X.here hx rfl v d hv q) g
theorem G.aconst_null (K : Ok k Z n0 own R bytes maxL ret nm)  (d : Dc bytes pc .aconst_null 1 pc') (g : G k n0 Q h cells slots pc' Ls (.null :: St)) : G k n0 Q h cells slots pc Ls (St) := by
  obtain ⟨p, l, e, R', s, m, args, below, meth, c⟩ := k
  obtain ⟨hx, hZ, hown, rfl, rfl, rfl, rfl, hlk, rfl, hn0⟩ := K
  obtain ⟨d, rfl⟩ := d
  exact G.plain (fun T locs t X q => XS.aconstNull X.here hx rfl d q) g
theorem G.ldcI (K : Ok k Z n0 own R bytes maxL ret nm) {v : Int32} {i : Nat} (d : Dc bytes pc (.ldc i) 2 pc') (w : (Cond.constant own i v).before a0 Z = true) (g : G k n0 Q h cells slots pc' Ls (.int v :: St)) : G k n0 Q h cells slots pc Ls (St) := by
  obtain ⟨p, l, e, R', s, m, args, below, meth, c⟩ := k
  obtain ⟨hx, hZ, hown, rfl, rfl, rfl, rfl, hlk, rfl, hn0⟩ := K
  obtain ⟨d, rfl⟩ := d
  exact G.plain (fun T locs t X q => X.ldcI hx hown (mvT hZ w) rfl d q) g
theorem G.ldcWI (K : Ok k Z n0 own R bytes maxL ret nm) {v : Int32} {i : Nat} (d : Dc bytes pc (.ldc_w i) 3 pc') (w : (Cond.constant own i v).before a0 Z = true) (g : G k n0 Q h cells slots pc' Ls (.int v :: St)) : G k n0 Q h cells slots pc Ls (St) := by
  obtain ⟨p, l, e, R', s, m, args, below, meth, c⟩ := k
  obtain ⟨hx, hZ, hown, rfl, rfl, rfl, rfl, hlk, rfl, hn0⟩ := K
  obtain ⟨d, rfl⟩ := d
  exact G.plain (fun T locs t X q => X.ldcWI hx hown (mvT hZ w) rfl d q) g
theorem G.ldc2J (K : Ok k Z n0 own R bytes maxL ret nm) {v : Int64} {i : Nat} (d : Dc bytes pc (.ldc2_w i) 3 pc') (w : (Cond.constantLong own i v).before a0 Z = true) (g : G k n0 Q h cells slots pc' Ls (.long v :: St)) : G k n0 Q h cells slots pc Ls (St) := by
  obtain ⟨p, l, e, R', s, m, args, below, meth, c⟩ := k
  obtain ⟨hx, hZ, hown, rfl, rfl, rfl, rfl, hlk, rfl, hn0⟩ := K
  obtain ⟨d, rfl⟩ := d
  exact G.plain (fun T locs t X q => X.ldc2J hx hown (mvT hZ w) rfl d q) g
theorem G.dup (K : Ok k Z n0 own R bytes maxL ret nm) {x : Value} (d : Dc bytes pc .dup 1 pc') (hv : x.category = 1) (g : G k n0 Q h cells slots pc' Ls (x :: x :: St)) : G k n0 Q h cells slots pc Ls (x :: St) := by
  obtain ⟨p, l, e, R', s, m, args, below, meth, c⟩ := k
  obtain ⟨hx, hZ, hown, rfl, rfl, rfl, rfl, hlk, rfl, hn0⟩ := K
  obtain ⟨d, rfl⟩ := d
  exact G.plain (fun T locs t X q => XS.dup X.here hx rfl d rfl hv q) g
theorem G.pop (K : Ok k Z n0 own R bytes maxL ret nm) {x : Value} (d : Dc bytes pc .pop 1 pc') (hv : x.category = 1) (g : G k n0 Q h cells slots pc' Ls (St)) : G k n0 Q h cells slots pc Ls (x :: St) := by
  obtain ⟨p, l, e, R', s, m, args, below, meth, c⟩ := k
  obtain ⟨hx, hZ, hown, rfl, rfl, rfl, rfl, hlk, rfl, hn0⟩ := K
  obtain ⟨d, rfl⟩ := d
  exact G.plain (fun T locs t X q => XT.pop X.here hx rfl d rfl hv q) g
theorem G.dup_x1 (K : Ok k Z n0 own R bytes maxL ret nm) {x y : Value} (d : Dc bytes pc .dup_x1 1 pc') (hv : x.category = 1) (hv' : y.category = 1) (g : G k n0 Q h cells slots pc' Ls (x :: y :: x :: St)) : G k n0 Q h cells slots pc Ls (x :: y :: St) := by
  obtain ⟨p, l, e, R', s, m, args, below, meth, c⟩ := k
  obtain ⟨hx, hZ, hown, rfl, rfl, rfl, rfl, hlk, rfl, hn0⟩ := K
  obtain ⟨d, rfl⟩ := d
  exact G.plain (fun T locs t X q => XT.dupX1 X.here hx rfl d rfl hv hv' q) g
theorem G.dup2 (K : Ok k Z n0 own R bytes maxL ret nm) {x y : Value} (d : Dc bytes pc .dup2 1 pc') (hv : x.category = 1) (hv' : y.category = 1) (g : G k n0 Q h cells slots pc' Ls (x :: y :: x :: y :: St)) : G k n0 Q h cells slots pc Ls (x :: y :: St) := by
  obtain ⟨p, l, e, R', s, m, args, below, meth, c⟩ := k
  obtain ⟨hx, hZ, hown, rfl, rfl, rfl, rfl, hlk, rfl, hn0⟩ := K
  obtain ⟨d, rfl⟩ := d
  exact G.plain (fun T locs t X q => XT.dup2 X.here hx rfl d rfl hv hv' q) g
theorem G.dup2L (K : Ok k Z n0 own R bytes maxL ret nm) {x : Int64} (d : Dc bytes pc .dup2 1 pc') (g : G k n0 Q h cells slots pc' Ls (.long x :: .long x :: St)) : G k n0 Q h cells slots pc Ls (.long x :: St) := by
  obtain ⟨p, l, e, R', s, m, args, below, meth, c⟩ := k
  obtain ⟨hx, hZ, hown, rfl, rfl, rfl, rfl, hlk, rfl, hn0⟩ := K
  obtain ⟨d, rfl⟩ := d
  exact G.plain (fun T locs t X q => XT.dup2L X.here hx rfl d rfl q) g
theorem G.pop2L (K : Ok k Z n0 own R bytes maxL ret nm) {x : Int64} (d : Dc bytes pc .pop2 1 pc') (g : G k n0 Q h cells slots pc' Ls (St)) : G k n0 Q h cells slots pc Ls (.long x :: St) := by
  obtain ⟨p, l, e, R', s, m, args, below, meth, c⟩ := k
  obtain ⟨hx, hZ, hown, rfl, rfl, rfl, rfl, hlk, rfl, hn0⟩ := K
  obtain ⟨d, rfl⟩ := d
  exact G.plain (fun T locs t X q => by jvm_step X.here [X.here.top, hx, d, Value.category]; exact q) g
theorem G.ldc2D (K : Ok k Z n0 own R bytes maxL ret nm) {v : UInt64} {i : Nat} (d : Dc bytes pc (.ldc2_w i) 3 pc') (w : (Cond.constantDouble own i v).before a0 Z = true) (g : G k n0 Q h cells slots pc' Ls (.double v :: St)) : G k n0 Q h cells slots pc Ls (St) := by
  obtain ⟨p, l, e, R', s, m, args, below, meth, c⟩ := k
  obtain ⟨hx, hZ, hown, rfl, rfl, rfl, rfl, hlk, rfl, hn0⟩ := K
  obtain ⟨d, rfl⟩ := d
  exact G.plain (fun T locs t X q => X.ldc2DoubleC hx hown (mvD hZ w) (g := mkF m pc ⟨Ls⟩ St) rfl d t q) g
theorem G.dconst0 (K : Ok k Z n0 own R bytes maxL ret nm)  (d : Dc bytes pc (.dconst 0) 1 pc') (g : G k n0 Q h cells slots pc' Ls (.double FP.dconst0 :: St)) : G k n0 Q h cells slots pc Ls (St) := by
  obtain ⟨p, l, e, R', s, m, args, below, meth, c⟩ := k
  obtain ⟨hx, hZ, hown, rfl, rfl, rfl, rfl, hlk, rfl, hn0⟩ := K
  obtain ⟨d, rfl⟩ := d
  exact G.plain (fun T locs t X q => XS.dconst0 X.here hx rfl d rfl q) g
theorem G.dconst1 (K : Ok k Z n0 own R bytes maxL ret nm)  (d : Dc bytes pc (.dconst 1) 1 pc') (g : G k n0 Q h cells slots pc' Ls (.double FP.dconst1 :: St)) : G k n0 Q h cells slots pc Ls (St) := by
  obtain ⟨p, l, e, R', s, m, args, below, meth, c⟩ := k
  obtain ⟨hx, hZ, hown, rfl, rfl, rfl, rfl, hlk, rfl, hn0⟩ := K
  obtain ⟨d, rfl⟩ := d
  exact G.plain (fun T locs t X q => XS.dconst1 X.here hx rfl d rfl q) g
theorem G.dloadN (K : Ok k Z n0 own R bytes maxL ret nm) {v : UInt64} {i : Fin 4} (d : Dc bytes pc (.dload_n i) 1 pc') (hl : Ls[i.val]? = some (.val (.double v))) (g : G k n0 Q h cells slots pc' Ls (.double v :: St)) : G k n0 Q h cells slots pc Ls (St) := by
  obtain ⟨p, l, e, R', s, m, args, below, meth, c⟩ := k
  obtain ⟨hx, hZ, hown, rfl, rfl, rfl, rfl, hlk, rfl, hn0⟩ := K
  obtain ⟨d, rfl⟩ := d
  exact G.plain (fun T locs t X q => XS.dloadN X.here hx rfl d (by simpa using hl) q) g
theorem G.goto (K : Ok k Z n0 own R bytes maxL ret nm) (d : Db bytes pc .goto nx tg) (g : G k n0 Q h cells slots tg Ls St) : G k n0 Q h cells slots pc Ls St := by
  obtain ⟨p, l, e, R', s, m, args, below, meth, c⟩ := k
  obtain ⟨hx, hZ, hown, rfl, rfl, rfl, rfl, hlk, rfl, hn0⟩ := K
  obtain ⟨o, d, rfl, d1, d2⟩ := d
  exact G.plain (fun T locs t X q => XS.goto X.here hx rfl rfl d d1 d2 q) g
theorem G.icmp_eq (K : Ok k Z n0 own R bytes maxL ret nm) {x y : Int32} (d : Db bytes pc (.if_icmp .eq) nx tg) (gy : x = y → G k n0 Q h cells slots tg Ls St) (gn : ¬ (x = y) → G k n0 Q h cells slots nx Ls St) : G k n0 Q h cells slots pc Ls (.int y :: .int x :: St) := by
  obtain ⟨p, l, e, R', s, m, args, below, meth, c⟩ := k
  obtain ⟨hx, hZ, hown, rfl, rfl, rfl, rfl, hlk, rfl, hn0⟩ := K
  obtain ⟨o, d, rfl, d1, d2⟩ := d
  by_cases q : x = y
  · exact G.plain (fun T locs t X z => XS.icmpYes X.here hx rfl rfl d rfl (XT.ii_eq_t q) d1 d2 z) (gy q)
  · exact G.plain (fun T locs t X z => XS.icmpNo X.here hx rfl d rfl (XT.ii_eq_f q) z) (gn q)
theorem G.if_eq (K : Ok k Z n0 own R bytes maxL ret nm) {x : Int32} (d : Db bytes pc (.ifCond .eq) nx tg) (gy : x = 0 → G k n0 Q h cells slots tg Ls St) (gn : ¬ (x = 0) → G k n0 Q h cells slots nx Ls St) : G k n0 Q h cells slots pc Ls (.int x :: St) := by
  obtain ⟨p, l, e, R', s, m, args, below, meth, c⟩ := k
  obtain ⟨hx, hZ, hown, rfl, rfl, rfl, rfl, hlk, rfl, hn0⟩ := K
  obtain ⟨o, d, rfl, d1, d2⟩ := d
  by_cases q : x = 0
  · exact G.plain (fun T locs t X z => XS.ifYes X.here hx rfl rfl d rfl (XT.i0_eq_t q) d1 d2 z) (gy q)
  · exact G.plain (fun T locs t X z => XS.ifNo X.here hx rfl d rfl (XT.i0_eq_f q) z) (gn q)
theorem G.lcmp_eq (K : Ok k Z n0 own R bytes maxL ret nm) {x y : Int64} {pd : Nat} (dl : Dc bytes pc .lcmp 1 pd) (d : Db bytes pd (.ifCond .eq) nx tg) (gy : x = y → G k n0 Q h cells slots tg Ls St) (gn : ¬ (x = y) → G k n0 Q h cells slots nx Ls St) : G k n0 Q h cells slots pc Ls (.long y :: .long x :: St) := by
  obtain ⟨p, l, e, R', s, m, args, below, meth, c⟩ := k
  obtain ⟨hx, hZ, hown, rfl, rfl, rfl, rfl, hlk, rfl, hn0⟩ := K
  obtain ⟨dl, rfl⟩ := dl
  obtain ⟨o, d, rfl, d1, d2⟩ := d
  by_cases q : x = y
  · exact G.plain (fun T locs t X z => XT.lcmp X.here hx rfl dl rfl (XS.ifYes X.here hx rfl rfl d rfl (XT.ll_eq_t q) d1 d2 z)) (gy q)
  · exact G.plain (fun T locs t X z => XT.lcmp X.here hx rfl dl rfl (XS.ifNo X.here hx rfl d rfl (XT.ll_eq_f q) z)) (gn q)
theorem G.icmp_ne (K : Ok k Z n0 own R bytes maxL ret nm) {x y : Int32} (d : Db bytes pc (.if_icmp .ne) nx tg) (gy : ¬ (x = y) → G k n0 Q h cells slots tg Ls St) (gn : x = y → G k n0 Q h cells slots nx Ls St) : G k n0 Q h cells slots pc Ls (.int y :: .int x :: St) := by
  obtain ⟨p, l, e, R', s, m, args, below, meth, c⟩ := k
  obtain ⟨hx, hZ, hown, rfl, rfl, rfl, rfl, hlk, rfl, hn0⟩ := K
  obtain ⟨o, d, rfl, d1, d2⟩ := d
  by_cases q : x = y
  · exact G.plain (fun T locs t X z => XS.icmpNo X.here hx rfl d rfl (XT.ii_ne_f q) z) (gn q)
  · exact G.plain (fun T locs t X z => XS.icmpYes X.here hx rfl rfl d rfl (XT.ii_ne_t q) d1 d2 z) (gy q)
theorem G.if_ne (K : Ok k Z n0 own R bytes maxL ret nm) {x : Int32} (d : Db bytes pc (.ifCond .ne) nx tg) (gy : ¬ (x = 0) → G k n0 Q h cells slots tg Ls St) (gn : x = 0 → G k n0 Q h cells slots nx Ls St) : G k n0 Q h cells slots pc Ls (.int x :: St) := by
  obtain ⟨p, l, e, R', s, m, args, below, meth, c⟩ := k
  obtain ⟨hx, hZ, hown, rfl, rfl, rfl, rfl, hlk, rfl, hn0⟩ := K
  obtain ⟨o, d, rfl, d1, d2⟩ := d
  by_cases q : x = 0
  · exact G.plain (fun T locs t X z => XS.ifNo X.here hx rfl d rfl (XT.i0_ne_f q) z) (gn q)
  · exact G.plain (fun T locs t X z => XS.ifYes X.here hx rfl rfl d rfl (XT.i0_ne_t q) d1 d2 z) (gy q)
theorem G.lcmp_ne (K : Ok k Z n0 own R bytes maxL ret nm) {x y : Int64} {pd : Nat} (dl : Dc bytes pc .lcmp 1 pd) (d : Db bytes pd (.ifCond .ne) nx tg) (gy : ¬ (x = y) → G k n0 Q h cells slots tg Ls St) (gn : x = y → G k n0 Q h cells slots nx Ls St) : G k n0 Q h cells slots pc Ls (.long y :: .long x :: St) := by
  obtain ⟨p, l, e, R', s, m, args, below, meth, c⟩ := k
  obtain ⟨hx, hZ, hown, rfl, rfl, rfl, rfl, hlk, rfl, hn0⟩ := K
  obtain ⟨dl, rfl⟩ := dl
  obtain ⟨o, d, rfl, d1, d2⟩ := d
  by_cases q : x = y
  · exact G.plain (fun T locs t X z => XT.lcmp X.here hx rfl dl rfl (XS.ifNo X.here hx rfl d rfl (XT.ll_ne_f q) z)) (gn q)
  · exact G.plain (fun T locs t X z => XT.lcmp X.here hx rfl dl rfl (XS.ifYes X.here hx rfl rfl d rfl (XT.ll_ne_t q) d1 d2 z)) (gy q)
theorem G.icmp_lt (K : Ok k Z n0 own R bytes maxL ret nm) {x y : Int32} (d : Db bytes pc (.if_icmp .lt) nx tg) (gy : x < y → G k n0 Q h cells slots tg Ls St) (gn : ¬ (x < y) → G k n0 Q h cells slots nx Ls St) : G k n0 Q h cells slots pc Ls (.int y :: .int x :: St) := by
  obtain ⟨p, l, e, R', s, m, args, below, meth, c⟩ := k
  obtain ⟨hx, hZ, hown, rfl, rfl, rfl, rfl, hlk, rfl, hn0⟩ := K
  obtain ⟨o, d, rfl, d1, d2⟩ := d
  by_cases q : x < y
  · exact G.plain (fun T locs t X z => XS.icmpYes X.here hx rfl rfl d rfl (XT.ii_lt_t q) d1 d2 z) (gy q)
  · exact G.plain (fun T locs t X z => XS.icmpNo X.here hx rfl d rfl (XT.ii_lt_f q) z) (gn q)
theorem G.if_lt (K : Ok k Z n0 own R bytes maxL ret nm) {x : Int32} (d : Db bytes pc (.ifCond .lt) nx tg) (gy : x < 0 → G k n0 Q h cells slots tg Ls St) (gn : ¬ (x < 0) → G k n0 Q h cells slots nx Ls St) : G k n0 Q h cells slots pc Ls (.int x :: St) := by
  obtain ⟨p, l, e, R', s, m, args, below, meth, c⟩ := k
  obtain ⟨hx, hZ, hown, rfl, rfl, rfl, rfl, hlk, rfl, hn0⟩ := K
  obtain ⟨o, d, rfl, d1, d2⟩ := d
  by_cases q : x < 0
  · exact G.plain (fun T locs t X z => XS.ifYes X.here hx rfl rfl d rfl (XT.i0_lt_t q) d1 d2 z) (gy q)
  · exact G.plain (fun T locs t X z => XS.ifNo X.here hx rfl d rfl (XT.i0_lt_f q) z) (gn q)
theorem G.lcmp_lt (K : Ok k Z n0 own R bytes maxL ret nm) {x y : Int64} {pd : Nat} (dl : Dc bytes pc .lcmp 1 pd) (d : Db bytes pd (.ifCond .lt) nx tg) (gy : x < y → G k n0 Q h cells slots tg Ls St) (gn : ¬ (x < y) → G k n0 Q h cells slots nx Ls St) : G k n0 Q h cells slots pc Ls (.long y :: .long x :: St) := by
  obtain ⟨p, l, e, R', s, m, args, below, meth, c⟩ := k
  obtain ⟨hx, hZ, hown, rfl, rfl, rfl, rfl, hlk, rfl, hn0⟩ := K
  obtain ⟨dl, rfl⟩ := dl
  obtain ⟨o, d, rfl, d1, d2⟩ := d
  by_cases q : x < y
  · exact G.plain (fun T locs t X z => XT.lcmp X.here hx rfl dl rfl (XS.ifYes X.here hx rfl rfl d rfl (XT.ll_lt_t q) d1 d2 z)) (gy q)
  · exact G.plain (fun T locs t X z => XT.lcmp X.here hx rfl dl rfl (XS.ifNo X.here hx rfl d rfl (XT.ll_lt_f q) z)) (gn q)
theorem G.icmp_ge (K : Ok k Z n0 own R bytes maxL ret nm) {x y : Int32} (d : Db bytes pc (.if_icmp .ge) nx tg) (gy : ¬ (x < y) → G k n0 Q h cells slots tg Ls St) (gn : x < y → G k n0 Q h cells slots nx Ls St) : G k n0 Q h cells slots pc Ls (.int y :: .int x :: St) := by
  obtain ⟨p, l, e, R', s, m, args, below, meth, c⟩ := k
  obtain ⟨hx, hZ, hown, rfl, rfl, rfl, rfl, hlk, rfl, hn0⟩ := K
  obtain ⟨o, d, rfl, d1, d2⟩ := d
  by_cases q : x < y
  · exact G.plain (fun T locs t X z => XS.icmpNo X.here hx rfl d rfl (XT.ii_ge_f q) z) (gn q)
  · exact G.plain (fun T locs t X z => XS.icmpYes X.here hx rfl rfl d rfl (XT.ii_ge_t q) d1 d2 z) (gy q)
theorem G.if_ge (K : Ok k Z n0 own R bytes maxL ret nm) {x : Int32} (d : Db bytes pc (.ifCond .ge) nx tg) (gy : ¬ (x < 0) → G k n0 Q h cells slots tg Ls St) (gn : x < 0 → G k n0 Q h cells slots nx Ls St) : G k n0 Q h cells slots pc Ls (.int x :: St) := by
  obtain ⟨p, l, e, R', s, m, args, below, meth, c⟩ := k
  obtain ⟨hx, hZ, hown, rfl, rfl, rfl, rfl, hlk, rfl, hn0⟩ := K
  obtain ⟨o, d, rfl, d1, d2⟩ := d
  by_cases q : x < 0
  · exact G.plain (fun T locs t X z => XS.ifNo X.here hx rfl d rfl (XT.i0_ge_f q) z) (gn q)
  · exact G.plain (fun T locs t X z => XS.ifYes X.here hx rfl rfl d rfl (XT.i0_ge_t q) d1 d2 z) (gy q)
theorem G.lcmp_ge (K : Ok k Z n0 own R bytes maxL ret nm) {x y : Int64} {pd : Nat} (dl : Dc bytes pc .lcmp 1 pd) (d : Db bytes pd (.ifCond .ge) nx tg) (gy : ¬ (x < y) → G k n0 Q h cells slots tg Ls St) (gn : x < y → G k n0 Q h cells slots nx Ls St) : G k n0 Q h cells slots pc Ls (.long y :: .long x :: St) := by
  obtain ⟨p, l, e, R', s, m, args, below, meth, c⟩ := k
  obtain ⟨hx, hZ, hown, rfl, rfl, rfl, rfl, hlk, rfl, hn0⟩ := K
  obtain ⟨dl, rfl⟩ := dl
  obtain ⟨o, d, rfl, d1, d2⟩ := d
  by_cases q : x < y
  · exact G.plain (fun T locs t X z => XT.lcmp X.here hx rfl dl rfl (XS.ifNo X.here hx rfl d rfl (XT.ll_ge_f q) z)) (gn q)
  · exact G.plain (fun T locs t X z => XT.lcmp X.here hx rfl dl rfl (XS.ifYes X.here hx rfl rfl d rfl (XT.ll_ge_t q) d1 d2 z)) (gy q)
theorem G.icmp_gt (K : Ok k Z n0 own R bytes maxL ret nm) {x y : Int32} (d : Db bytes pc (.if_icmp .gt) nx tg) (gy : y < x → G k n0 Q h cells slots tg Ls St) (gn : ¬ (y < x) → G k n0 Q h cells slots nx Ls St) : G k n0 Q h cells slots pc Ls (.int y :: .int x :: St) := by
  obtain ⟨p, l, e, R', s, m, args, below, meth, c⟩ := k
  obtain ⟨hx, hZ, hown, rfl, rfl, rfl, rfl, hlk, rfl, hn0⟩ := K
  obtain ⟨o, d, rfl, d1, d2⟩ := d
  by_cases q : y < x
  · exact G.plain (fun T locs t X z => XS.icmpYes X.here hx rfl rfl d rfl (XT.ii_gt_t q) d1 d2 z) (gy q)
  · exact G.plain (fun T locs t X z => XS.icmpNo X.here hx rfl d rfl (XT.ii_gt_f q) z) (gn q)
theorem G.if_gt (K : Ok k Z n0 own R bytes maxL ret nm) {x : Int32} (d : Db bytes pc (.ifCond .gt) nx tg) (gy : 0 < x → G k n0 Q h cells slots tg Ls St) (gn : ¬ (0 < x) → G k n0 Q h cells slots nx Ls St) : G k n0 Q h cells slots pc Ls (.int x :: St) := by
  obtain ⟨p, l, e, R', s, m, args, below, meth, c⟩ := k
  obtain ⟨hx, hZ, hown, rfl, rfl, rfl, rfl, hlk, rfl, hn0⟩ := K
  obtain ⟨o, d, rfl, d1, d2⟩ := d
  by_cases q : 0 < x
  · exact G.plain (fun T locs t X z => XS.ifYes X.here hx rfl rfl d rfl (XT.i0_gt_t q) d1 d2 z) (gy q)
  · exact G.plain (fun T locs t X z => XS.ifNo X.here hx rfl d rfl (XT.i0_gt_f q) z) (gn q)
theorem G.lcmp_gt (K : Ok k Z n0 own R bytes maxL ret nm) {x y : Int64} {pd : Nat} (dl : Dc bytes pc .lcmp 1 pd) (d : Db bytes pd (.ifCond .gt) nx tg) (gy : y < x → G k n0 Q h cells slots tg Ls St) (gn : ¬ (y < x) → G k n0 Q h cells slots nx Ls St) : G k n0 Q h cells slots pc Ls (.long y :: .long x :: St) := by
  obtain ⟨p, l, e, R', s, m, args, below, meth, c⟩ := k
  obtain ⟨hx, hZ, hown, rfl, rfl, rfl, rfl, hlk, rfl, hn0⟩ := K
  obtain ⟨dl, rfl⟩ := dl
  obtain ⟨o, d, rfl, d1, d2⟩ := d
  by_cases q : y < x
  · exact G.plain (fun T locs t X z => XT.lcmp X.here hx rfl dl rfl (XS.ifYes X.here hx rfl rfl d rfl (XT.ll_gt_t q) d1 d2 z)) (gy q)
  · exact G.plain (fun T locs t X z => XT.lcmp X.here hx rfl dl rfl (XS.ifNo X.here hx rfl d rfl (XT.ll_gt_f q) z)) (gn q)
theorem G.icmp_le (K : Ok k Z n0 own R bytes maxL ret nm) {x y : Int32} (d : Db bytes pc (.if_icmp .le) nx tg) (gy : ¬ (y < x) → G k n0 Q h cells slots tg Ls St) (gn : y < x → G k n0 Q h cells slots nx Ls St) : G k n0 Q h cells slots pc Ls (.int y :: .int x :: St) := by
  obtain ⟨p, l, e, R', s, m, args, below, meth, c⟩ := k
  obtain ⟨hx, hZ, hown, rfl, rfl, rfl, rfl, hlk, rfl, hn0⟩ := K
  obtain ⟨o, d, rfl, d1, d2⟩ := d
  by_cases q : y < x
  · exact G.plain (fun T locs t X z => XS.icmpNo X.here hx rfl d rfl (XT.ii_le_f q) z) (gn q)
  · exact G.plain (fun T locs t X z => XS.icmpYes X.here hx rfl rfl d rfl (XT.ii_le_t q) d1 d2 z) (gy q)
theorem G.if_le (K : Ok k Z n0 own R bytes maxL ret nm) {x : Int32} (d : Db bytes pc (.ifCond .le) nx tg) (gy : ¬ (0 < x) → G k n0 Q h cells slots tg Ls St) (gn : 0 < x → G k n0 Q h cells slots nx Ls St) : G k n0 Q h cells slots pc Ls (.int x :: St) := by
  obtain ⟨p, l, e, R', s, m, args, below, meth, c⟩ := k
  obtain ⟨hx, hZ, hown, rfl, rfl, rfl, rfl, hlk, rfl, hn0⟩ := K
  obtain ⟨o, d, rfl, d1, d2⟩ := d
  by_cases q : 0 < x
  · exact G.plain (fun T locs t X z => XS.ifNo X.here hx rfl d rfl (XT.i0_le_f q) z) (gn q)
  · exact G.plain (fun T locs t X z => XS.ifYes X.here hx rfl rfl d rfl (XT.i0_le_t q) d1 d2 z) (gy q)
theorem G.lcmp_le (K : Ok k Z n0 own R bytes maxL ret nm) {x y : Int64} {pd : Nat} (dl : Dc bytes pc .lcmp 1 pd) (d : Db bytes pd (.ifCond .le) nx tg) (gy : ¬ (y < x) → G k n0 Q h cells slots tg Ls St) (gn : y < x → G k n0 Q h cells slots nx Ls St) : G k n0 Q h cells slots pc Ls (.long y :: .long x :: St) := by
  obtain ⟨p, l, e, R', s, m, args, below, meth, c⟩ := k
  obtain ⟨hx, hZ, hown, rfl, rfl, rfl, rfl, hlk, rfl, hn0⟩ := K
  obtain ⟨dl, rfl⟩ := dl
  obtain ⟨o, d, rfl, d1, d2⟩ := d
  by_cases q : y < x
  · exact G.plain (fun T locs t X z => XT.lcmp X.here hx rfl dl rfl (XS.ifNo X.here hx rfl d rfl (XT.ll_le_f q) z)) (gn q)
  · exact G.plain (fun T locs t X z => XT.lcmp X.here hx rfl dl rfl (XS.ifYes X.here hx rfl rfl d rfl (XT.ll_le_t q) d1 d2 z)) (gy q)
theorem G.ifnull_ref (K : Ok k Z n0 own R bytes maxL ret nm) {a : Addr} (d : Db bytes pc .ifnull nx tg) (g : G k n0 Q h cells slots nx Ls St) : G k n0 Q h cells slots pc Ls (.ref a :: St) := by
  obtain ⟨p, l, e, R', s, m, args, below, meth, c⟩ := k
  obtain ⟨hx, hZ, hown, rfl, rfl, rfl, rfl, hlk, rfl, hn0⟩ := K
  obtain ⟨o, d, rfl, d1, d2⟩ := d
  exact G.plain (fun T locs t X q => XS.ifnullNo X.here hx rfl d rfl q) g
theorem G.ifnonnull_ref (K : Ok k Z n0 own R bytes maxL ret nm) {a : Addr} (d : Db bytes pc .ifnonnull nx tg) (g : G k n0 Q h cells slots tg Ls St) : G k n0 Q h cells slots pc Ls (.ref a :: St) := by
  obtain ⟨p, l, e, R', s, m, args, below, meth, c⟩ := k
  obtain ⟨hx, hZ, hown, rfl, rfl, rfl, rfl, hlk, rfl, hn0⟩ := K
  obtain ⟨o, d, rfl, d1, d2⟩ := d
  exact G.plain (fun T locs t X q => XT.ifnonnullYes X.here hx rfl rfl d rfl d1 d2 q) g
theorem G.acmp_ne (K : Ok k Z n0 own R bytes maxL ret nm) {x y : Value} (hx' : x.isRef = true) (hy' : y.isRef = true) (d : Db bytes pc (.if_acmp .ne) nx tg) (gy : ¬ x = y → G k n0 Q h cells slots tg Ls St) (gn : x = y → G k n0 Q h cells slots nx Ls St) : G k n0 Q h cells slots pc Ls (y :: x :: St) := by
  obtain ⟨p, l, e, R', s, m, args, below, meth, c⟩ := k
  obtain ⟨hx, hZ, hown, rfl, rfl, rfl, rfl, hlk, rfl, hn0⟩ := K
  obtain ⟨o, d, rfl, d1, d2⟩ := d
  by_cases q : x = y
  · exact G.plain (fun T locs t X z => XT.acmpNo X.here hx rfl d rfl hx' hy' (XT.aa_ne_f q) z) (gn q)
  · exact G.plain (fun T locs t X z => XT.acmpYes X.here hx rfl rfl d rfl hx' hy' (XT.aa_ne_t q) d1 d2 z) (gy q)
/-- the end -/
theorem G.leave {p : Program} {l : Launch} {e : Env} {R : Room} {s : State} {m : MethodId} {args : Array Value} {below : List Frame} {meth : Method} {c : Code} (hlk : meth.locks = false) (v : Option Value) (hv : meth.sig.returnType = none → v = none) (hq : Q v h)
    (st : ∀ T locs fs, Stand p l e R s m args below meth c T locs cells slots → (∀ (f : JFrame) (acts : List Action), f.method = m → f.locked = none → f.entered = [] → (doReturn e (T.setTop f) acts v).1 = T.setFrames fs) → Steps p.tables e below (T.setTop (mkF m pc ⟨Ls⟩ St)) (T.setFrames fs)) :
    G (p, l, e, R, s, m, args, below, meth, c) n0 Q h cells slots pc Ls St := by
  intro hc hs T locs X eT N
  obtain ⟨fs, hr, hrun, hended, hW, hsame⟩ := X.leave (v := v) hv hlk
  exact ⟨_, _, st T locs fs X hr, hrun, hended, v, locs, rfl, ⟨by show Q v T.heap; rw [eT]; exact hq, N⟩, ⟨_, rfl⟩, hW, hsame.mono hc hs⟩
theorem G.ret_int (K : Ok k Z n0 own R bytes maxL (some .int) nm) {x : Int32} (d : Dc bytes pc .ireturn 1 pc') (hq : Q (some (.int x)) h) : G k n0 Q h cells slots pc Ls (.int x :: St) := by
  obtain ⟨p, l, e, R', s, m, args, below, meth, c⟩ := k
  obtain ⟨hx, hZ, hown, rfl, rfl, rfl, hr0, hlk, rfl, hn0⟩ := K
  obtain ⟨d, rfl⟩ := d
  exact G.leave hlk (some (.int x)) (fun q => by rw [hr0] at q; cases q) hq (fun T locs fs X hr => retOut X hx hr0 rfl (Or.inl ⟨rfl, Or.inl rfl, x, rfl⟩) d hr)
theorem G.ret_bool (K : Ok k Z n0 own R bytes maxL (some .boolean) nm) {x : Int32} (d : Dc bytes pc .ireturn 1 pc') (hq : Q (some (.int (x &&& 1))) h) : G k n0 Q h cells slots pc Ls (.int x :: St) := by
  obtain ⟨p, l, e, R', s, m, args, below, meth, c⟩ := k
  obtain ⟨hx, hZ, hown, rfl, rfl, rfl, hr0, hlk, rfl, hn0⟩ := K
  obtain ⟨d, rfl⟩ := d
  exact G.leave hlk (some (.int (x &&& 1))) (fun q => by rw [hr0] at q; cases q) hq (fun T locs fs X hr => retN X hx (t := .boolean) hr0 (by simp) d hr)
theorem G.ret_long (K : Ok k Z n0 own R bytes maxL (some .long) nm) {x : Int64} (d : Dc bytes pc .lreturn 1 pc') (hq : Q (some (.long x)) h) : G k n0 Q h cells slots pc Ls (.long x :: St) := by
  obtain ⟨p, l, e, R', s, m, args, below, meth, c⟩ := k
  obtain ⟨hx, hZ, hown, rfl, rfl, rfl, hr0, hlk, rfl, hn0⟩ := K
  obtain ⟨d, rfl⟩ := d
  exact G.leave hlk (some (.long x)) (fun q => by rw [hr0] at q; cases q) hq (fun T locs fs X hr => retOut X hx hr0 rfl (Or.inr (Or.inl ⟨rfl, rfl, x, rfl⟩)) d hr)
theorem G.ret_ref {t : FieldType} (K : Ok k Z n0 own R bytes maxL (some t) nm) (ht : t.isReference = true) {x : Value} (hv : x.isRef = true) (d : Dc bytes pc .areturn 1 pc') (hq : Q (some x) h) : G k n0 Q h cells slots pc Ls (x :: St) := by
  obtain ⟨p, l, e, R', s, m, args, below, meth, c⟩ := k
  obtain ⟨hx, hZ, hown, rfl, rfl, rfl, hr0, hlk, rfl, hn0⟩ := K
  obtain ⟨d, rfl⟩ := d
  have hn : narrow t x = x := by rcases ref_cases hv with rfl | ⟨a, rfl⟩ <;> cases t <;> rfl
  exact G.leave hlk (some x) (fun q => by rw [hr0] at q; cases q) hq (fun T locs fs X hr => retOut X hx hr0 hn (Or.inr (Or.inr (Or.inr (Or.inr ⟨rfl, ht, hv⟩)))) d hr)
theorem G.ret_void (K : Ok k Z n0 own R bytes maxL none nm) (d : Dc bytes pc .return_ 1 pc') (hq : Q none h) : G k n0 Q h cells slots pc Ls [] := by
  obtain ⟨p, l, e, R', s, m, args, below, meth, c⟩ := k
  obtain ⟨hx, hZ, hown, rfl, rfl, rfl, hr0, hlk, rfl, hn0⟩ := K
  obtain ⟨d, rfl⟩ := d
  exact G.leave hlk none (fun q => rfl) hq (fun T locs fs X hr => X.returnOut hx hr0 d hr)
/-! ### what is known of the heap: one word a cell that the law has made -/
theorem nd_inj {α : Type} {L : List α} (H : L.Nodup) {i j : Nat} {x : α} (hi : L[i]? = some x) (hj : L[j]? = some x) : i = j := by
  obtain ⟨h1, e1⟩ := List.getElem?_eq_some_iff.mp hi
  obtain ⟨h2, e2⟩ := List.getElem?_eq_some_iff.mp hj
  have w := List.pairwise_iff_getElem.mp H
  rcases Nat.lt_trichotomy i j with q | q | q
  · exact absurd (e1.trans e2.symm) (w i j h1 h2 q)
  · exact q
  · exact absurd (e2.trans e1.symm) (w j i h2 h1 q)
abbrev Ch := Addr × (Cell → Prop)
def Hp (n0 : Nat) (h : Heap) (σ : List Ch) : Prop := (σ.map Prod.fst).Nodup ∧ ∀ q ∈ σ, n0 ≤ q.1 ∧ ∃ cell, h[q.1]? = some cell ∧ q.2 cell
variable {σ : List Ch} {a : Addr} {P P' : Cell → Prop} {i : Nat} {h' : Heap}
theorem Hp.nil : Hp n0 h [] := ⟨List.nodup_nil, fun _ q => nomatch q⟩
theorem Hp.at (H : Hp n0 h σ) (hi : σ[i]? = some (a, P)) : n0 ≤ a ∧ ∃ cell, h[a]? = some cell ∧ P cell := H.2 _ (List.mem_of_getElem? hi)
theorem Hp.ge (H : Hp n0 h σ) (hi : σ[i]? = some (a, P)) : n0 ≤ a := (H.at hi).1
theorem Hp.lt (H : Hp n0 h σ) (q : Ch) (hq : q ∈ σ) : q.1 < h.size := by
  obtain ⟨-, cell, h1, -⟩ := H.2 _ hq
  exact (Array.getElem?_eq_some_iff.mp h1).1
theorem Hp.ne (H : Hp n0 h σ) {j : Nat} {b : Addr} {P' : Cell → Prop} (hi : σ[i]? = some (a, P)) (hj : σ[j]? = some (b, P')) (q : i ≠ j) : a ≠ b := by
  intro e
  subst e
  exact q (nd_inj H.1 (x := a) (by simp [hi]) (by simp [hj]))
theorem Hp.ext (H : Hp n0 h σ) (E : Ext h h') : Hp n0 h' σ := ⟨H.1, fun q hq => by obtain ⟨h1, c, h2, h3⟩ := H.2 q hq; exact ⟨h1, c, E.2 _ _ h2, h3⟩⟩
theorem Hp.cons (H : Hp n0 h σ) (E : Ext h h') (hn : n0 ≤ h.size) (w : ∃ cell, h'[h.size]? = some cell ∧ P cell) : Hp n0 h' ((h.size, P) :: σ) := by
  refine ⟨?_, fun q hq => ?_⟩
  · rw [List.map_cons, List.nodup_cons]
    refine ⟨fun q => ?_, H.1⟩
    obtain ⟨x, hx, e⟩ := List.mem_map.mp q
    have := H.lt x hx
    rw [e] at this
    exact absurd this (Nat.lt_irrefl _)
  · rcases List.mem_cons.mp hq with rfl | hq
    · exact ⟨hn, w⟩
    · exact (H.ext E).2 q hq
theorem Hp.drop {x : Ch} (H : Hp n0 h (x :: σ)) : Hp n0 h σ := ⟨(List.nodup_cons.mp H.1).2, fun q hq => H.2 q (List.mem_cons_of_mem _ hq)⟩
theorem Hp.sub {σ' : List Ch} (H : Hp n0 h σ) (q : σ'.Sublist σ) : Hp n0 h σ' := ⟨List.Nodup.sublist (q.map _) H.1, fun x hx => H.2 x (q.subset hx)⟩
theorem Hp.perm {σ' : List Ch} (H : Hp n0 h σ) (q : σ'.Perm σ) : Hp n0 h σ' := ⟨(List.Perm.nodup_iff (q.map Prod.fst)).mpr H.1, fun x hx => H.2 x (q.mem_iff.mp hx)⟩
theorem perm_pull : ∀ {i : Nat} {σ : List Ch} {x : Ch}, σ[i]? = some x → (x :: σ.eraseIdx i).Perm σ
  | 0, y :: σ, x, e => by cases Option.some.inj e; exact List.Perm.refl _
  | i + 1, y :: σ, x, e => ((List.Perm.swap y x _).trans ((perm_pull (i := i) (σ := σ) e).cons y))
theorem Hp.pull (H : Hp n0 h σ) (i : Nat) {x : Ch} (hi : σ[i]? = some x) : Hp n0 h (x :: σ.eraseIdx i) := H.perm (perm_pull hi)
theorem Hp.set (H : Hp n0 h σ) (hi : σ[i]? = some (a, P)) (hs : h'.size = h.size) (ho : ∀ b, b ≠ a → h'[b]? = h[b]?) (w : ∃ cell, h'[a]? = some cell ∧ P' cell) : Hp n0 h' (σ.set i (a, P')) := by
  obtain ⟨hlt, e1⟩ := List.getElem?_eq_some_iff.mp hi
  have em : (σ.set i (a, P')).map Prod.fst = σ.map Prod.fst := by
    apply List.ext_getElem?
    intro j
    by_cases q : i = j
    · subst q; simp [hlt, e1]
    · simp [List.getElem?_set_ne q]
  refine ⟨by rw [em]; exact H.1, fun q hq => ?_⟩
  obtain ⟨j, hj, e⟩ := List.getElem_of_mem hq
  rw [List.getElem_set] at e
  rw [List.length_set] at hj
  by_cases z : i = j
  · rw [if_pos z] at e; subst e; exact ⟨H.ge hi, w⟩
  · rw [if_neg z] at e
    have hj' : σ[j]? = some (q.1, q.2) := by rw [List.getElem?_eq_getElem hj, e]
    have hne : q.1 ≠ a := H.ne hj' hi (Ne.symm z)
    obtain ⟨h1, c, h2, h3⟩ := H.at hj'
    exact ⟨h1, c, by rw [ho _ hne]; exact h2, h3⟩
theorem Hp.wr {sl : Nat} {v : Value} (H : Hp n0 h σ) (hi : σ[i]? = some (a, P)) (W : Wr h h' a sl v) (hP : ∀ cell, P cell → P' (cell.setSlot sl v)) : Hp n0 h' (σ.set i (a, P')) := by
  obtain ⟨cell, h1, h2, h3, rfl⟩ := W
  obtain ⟨-, c', h4, h5⟩ := H.at hi
  cases h1.symm.trans h4
  refine H.set hi (by simp) (fun b hb => Array.getElem?_setIfInBounds_ne (Ne.symm hb)) ⟨_, Array.getElem?_setIfInBounds_self_of_lt (Array.getElem?_eq_some_iff.mp h1).1, hP _ h5⟩
theorem Hp.imp (H : Hp n0 h σ) (hi : σ[i]? = some (a, P)) (hP : ∀ cell, P cell → P' cell) : Hp n0 h (σ.set i (a, P')) := by
  obtain ⟨-, c, h1, h2⟩ := H.at hi
  exact H.set hi rfl (fun _ _ => rfl) ⟨c, h1, hP c h2⟩
/-- an object, its class, the fields that are spoken of and what they hold -/
def Ob (Z : State) (C : String) (NS : List (String × String × String)) (vs : List Value) (cell : Cell) : Prop :=
  (∃ k, Z.vm.findClass C = some cell.cls ∧ Z.vm.classes[cell.cls]? = some k ∧ cell.vm.isStatics = false ∧ (k.kind = .ordinary → cell.slots.size = k.instanceTypes.size)) ∧
  ∀ (j : Nat) (f : String × String × String) (v : Value), NS[j]? = some f → vs[j]? = some v → ∃ (cf : ClassId) (k : Class) (i : Nat) (fd : Field), Z.fieldFound? f.1 f.2.1 f.2.2 = some (cf, k, i, fd) ∧ fd.isStatic = false ∧ cell.vm ≠ .unknown ∧ Z.vm.assignable cell.cls cf = true ∧ cell.slots[fd.slot]? = some v
/-- what the sheet says of a class's fields -/
def Cf (Z : State) (a0 : Array Value) (C : String) (NS : List (String × String × String)) : Prop := (∀ f ∈ NS, Laid Z a0 C f.1 f.2.1 f.2.2) ∧ (NS.map fun f => f.2.1).Nodup ∧ ∀ f ∈ NS, ∃ t, parseFieldDescriptor f.2.2 = some t
variable {C O n ds : String} {NS : List (String × String × String)} {vs : List Value} {j : Nat} {v w : Value}
theorem Hp.exa (H : Hp n0 h σ) (hi : σ[i]? = some (a, Ob Z C NS vs)) : Exa Z h a C := by
  obtain ⟨-, cell, h1, ⟨k, h2, h3, h4, h5⟩, -⟩ := H.at hi
  exact ⟨cell, k, h1, h2, h3, h4, h5⟩
theorem Hp.fld (H : Hp n0 h σ) (hi : σ[i]? = some (a, Ob Z C NS vs)) (hj : NS[j]? = some (O, n, ds)) (hv : vs[j]? = some v) : Fld Z h a O n ds v := by
  obtain ⟨-, cell, h1, ⟨k, h2, h3, h4, h5⟩, h6⟩ := H.at hi
  obtain ⟨cf, k, i, fd, q1, q2, q3, q4, q5⟩ := h6 j _ _ hj hv
  exact ⟨cell, cf, k, i, fd, h1, q1, q2, q3, h4, q4, q5⟩
theorem Ob.set (F : Cf Z a0 C NS) (hj : NS[j]? = some (O, n, ds)) (hv : vs[j]? = some v) (w : Value) {cell : Cell} (B : Ob Z C NS vs cell) : Ob Z C NS (vs.set j w) (cell.setSlot (RoadKit.slotOf Z O n ds) w) := by
  obtain ⟨⟨k, h2, h3, h4, h5⟩, h6⟩ := B
  refine ⟨⟨k, h2, h3, h4, fun q => by rw [sz_set]; exact h5 q⟩, fun j' f v' hf hv' => ?_⟩
  obtain ⟨cf, kk, ii, fd, q1, q2, q3, q4, q5⟩ := h6 j _ _ hj hv
  have es : RoadKit.slotOf Z O n ds = fd.slot := by simp [RoadKit.slotOf, q1]
  by_cases z : j = j'
  · subst z
    cases hj.symm.trans hf
    have hl := (List.getElem?_eq_some_iff.mp hv).1
    rw [List.getElem?_set_self hl] at hv'
    cases hv'
    refine ⟨cf, kk, ii, fd, q1, q2, q3, q4, ?_⟩
    rw [es]
    exact Array.getElem?_setIfInBounds_self_of_lt (Array.getElem?_eq_some_iff.mp q5).1
  · rw [List.getElem?_set_ne z] at hv'
    obtain ⟨cf', kk', ii', fd', r1, r2, r3, r4, r5⟩ := h6 j' _ _ hf hv'
    refine ⟨cf', kk', ii', fd', r1, r2, r3, r4, ?_⟩
    have es' : RoadKit.slotOf Z f.1 f.2.1 f.2.2 = fd'.slot := by simp [RoadKit.slotOf, r1]
    have m1 := List.mem_of_getElem? hj
    have m2 := List.mem_of_getElem? hf
    have hne : n ≠ f.2.1 := by
      intro e
      exact z (nd_inj F.2.1 (x := n) (by simp [hj]) (by simp [hf, e]))
    obtain ⟨t1, p1⟩ := F.2.2 _ m1
    obtain ⟨t2, p2⟩ := F.2.2 _ m2
    have := RoadKit.slot_ne (F.1 _ m1) (F.1 _ m2) hne p1 p2
    rw [es'] at this
    show (Array.setIfInBounds _ _ _)[_]? = _
    rw [Array.getElem?_setIfInBounds_ne this]
    exact r5
theorem G.getF (K : Ok k Z n0 own R bytes maxL ret nm) {idx : Nat} {host : String} (w : (Cond.fieldLink own idx O n ds).before a0 Z = true ∨ (Cond.fieldLinkNest own idx O n ds host).before a0 Z = true) (H : Hp n0 h σ) (hi : σ[i]? = some (a, Ob Z C NS vs)) (hj : NS[j]? = some (O, n, ds)) (hv : vs[j]? = some v)
    (d : Dc bytes pc (.getfield idx) 3 pc') (g : G k n0 Q h cells slots pc' Ls (v :: St)) : G k n0 Q h cells slots pc Ls (.ref a :: St) := by
  obtain ⟨p, l, e, R', s, m, args, below, meth, c⟩ := k
  obtain ⟨hx, hZ, hown, rfl, rfl, rfl, rfl, hlk, rfl, hn0⟩ := K
  obtain ⟨d, rfl⟩ := d
  exact G.moved (fun T locs X eT => RoadKit.getF X hx hZ hown w Via.refl eT (H.fld hi hj hv) (g := mkF m pc ⟨Ls⟩ (.ref a :: St)) rfl rfl d) g
theorem G.putF (K : Ok k Z n0 own R bytes maxL ret nm) {idx kk : Nat} {host : String} {ty : FieldType} (w : (Cond.fieldLink own idx O n ds).before a0 Z = true ∨ (Cond.fieldLinkNest own idx O n ds host).before a0 Z = true) (F : Cf Z a0 C NS) (wl : (Cond.lays C O n ds).before a0 Z = true ∨ ((Cond.laysFinal C O n ds).before a0 Z = true ∧ own = O ∧ nm = "<init>")) (wi : (Cond.instantiable C kk).before a0 Z = true)
    (H : Hp n0 h σ) (hi : σ[i]? = some (a, Ob Z C NS vs)) (hj : NS[j]? = some (O, n, ds)) {old : Value} (hv : vs[j]? = some old) (hty : parseFieldDescriptor ds = some ty) (hn : narrow ty v = v) (hf : fits ty v = true)
    (d : Dc bytes pc (.putfield idx) 3 pc') (g : ∀ h', Hp n0 h' (σ.set i (a, Ob Z C NS (vs.set j v))) → G k n0 Q h' cells slots pc' Ls St) : G k n0 Q h cells slots pc Ls (v :: .ref a :: St) := by
  obtain ⟨p, l, e, R', s, m, args, below, meth, c⟩ := k
  obtain ⟨hx, hZ, hown, rfl, rfl, rfl, rfl, hlk, rfl, hn0⟩ := K
  obtain ⟨d, rfl⟩ := d
  intro hc hs T locs X eT N
  obtain ⟨T', h', X', eT', W, st⟩ := RoadKit.putF X hx hZ hown w Via.refl eT (H.fld hi hj hv) (H.exa hi) wl wi hty hn hf (g := mkF m pc ⟨Ls⟩ (v :: .ref a :: St)) rfl rfl d
  obtain ⟨s₂, o, h1, r⟩ := g h' (H.wr hi W fun cell B => Ob.set F hj hv v B) hc hs T' _ X' eT' (Fr.snoc X' N (H.ge hi))
  exact ⟨s₂, o, st s₂ h1, r⟩
theorem G.putFN (K : Ok k Z n0 own R bytes maxL ret nm) {idx kk : Nat} {ty : FieldType} (w : (Cond.fieldLink own idx O n ds).before a0 Z = true) (F : Cf Z a0 C NS) (wl : (Cond.lays C O n ds).before a0 Z = true ∨ ((Cond.laysFinal C O n ds).before a0 Z = true ∧ own = O ∧ nm = "<init>")) (wi : (Cond.instantiable C kk).before a0 Z = true)
    (H : Hp n0 h σ) (hi : σ[i]? = some (a, Ob Z C NS vs)) (hj : NS[j]? = some (O, n, ds)) {old v' : Value} (hv : vs[j]? = some old) (hty : parseFieldDescriptor ds = some ty) (hn : narrow ty v = v') (hf : fits ty v' = true)
    (d : Dc bytes pc (.putfield idx) 3 pc') (g : ∀ h', Hp n0 h' (σ.set i (a, Ob Z C NS (vs.set j v'))) → G k n0 Q h' cells slots pc' Ls St) : G k n0 Q h cells slots pc Ls (v :: .ref a :: St) := by
  obtain ⟨p, l, e, R', s, m, args, below, meth, c⟩ := k
  obtain ⟨hx, hZ, hown, rfl, rfl, rfl, rfl, hlk, rfl, hn0⟩ := K
  obtain ⟨d, rfl⟩ := d
  intro hc hs T locs X eT N
  obtain ⟨T', h', X', eT', W, st⟩ := RoadKit.putFN X hx hZ hown w Via.refl eT (H.fld hi hj hv) (H.exa hi) wl wi hty hn hf (g := mkF m pc ⟨Ls⟩ (v :: .ref a :: St)) rfl rfl d
  obtain ⟨s₂, o, h1, r⟩ := g h' (H.wr hi W fun cell B => Ob.set F hj hv v' B) hc hs T' _ X' eT' (Fr.snoc X' N (H.ge hi))
  exact ⟨s₂, o, st s₂ h1, r⟩
theorem size_ok {p : Program} {l : Launch} {e : Env} {R : Room} {s : State} {m : MethodId} {args : Array Value} {below : List Frame} {meth : Method} {c : Code} {T : State} {locs : List Loc} (X : Stand p l e R s m args below meth c T locs cells slots) (eT : T.heap = h) (hn : n0 ≤ s.heap.size) : n0 ≤ h.size := by
  have := X.same.2.1
  subst eT
  exact Nat.le_trans hn this
theorem G.new (K : Ok k Z n0 own R bytes maxL ret nm) {idx kk : Nat} (w : (Cond.classLink own idx C).before a0 Z = true) (wi : (Cond.instantiable C kk).before a0 Z = true) (wz : (Cond.initialized C).before a0 Z = true) (F : Cf Z a0 C NS)
    (hd : NS.map (fun f => (parseFieldDescriptor f.2.2).map defaultValue) = vs.map some) (H : Hp n0 h σ) (hc : cells + 1 ≤ R.cells) (hl : slots + kk ≤ R.slots) (d : Dc bytes pc (.new idx) 3 pc')
    (g : ∀ a h', Hp n0 h' ((a, Ob Z C NS vs) :: σ) → G k n0 Q h' (cells + 1) (slots + kk) pc' Ls (.ref a :: St)) : G k n0 Q h cells slots pc Ls St := by
  obtain ⟨p, l, e, R', s, m, args, below, meth, c⟩ := k
  obtain ⟨hx, hZ, hown, rfl, rfl, rfl, rfl, hlk, rfl, hn0⟩ := K
  obtain ⟨d, rfl⟩ := d
  intro _ _ T locs X eT N
  obtain ⟨T', h', X', eT', E, A, D, ⟨cell, hc1, hc2, -⟩, st⟩ := RoadKit.newO X hx hZ hown w wi wz eT (g := mkF m pc ⟨Ls⟩ St) rfl d hc hl
  have B : Ob Z C NS vs cell := by
    obtain ⟨c', k, q1, q2, q3, q4, q5⟩ := A
    cases hc1.symm.trans q1
    refine ⟨⟨k, q2, q3, q4, q5⟩, fun j f v hf hv => ?_⟩
    have e1 : (NS.map (fun f => (parseFieldDescriptor f.2.2).map defaultValue))[j]? = some ((parseFieldDescriptor f.2.2).map defaultValue) := by simp [hf]
    rw [hd] at e1
    simp only [List.getElem?_map, hv, Option.map_some, Option.some.injEq] at e1
    obtain ⟨t, ht⟩ := F.2.2 _ (List.mem_of_getElem? hf)
    rw [ht, Option.map_some, Option.some.injEq] at e1
    obtain ⟨c'', cf, k', i', fd, r1, r2, r3, r4, r5, r6, r7⟩ := D (F.1 _ (List.mem_of_getElem? hf)) ht
    cases hc1.symm.trans r1
    exact ⟨cf, k', i', fd, r2, r3, r4, r6, by rw [e1]; exact r7⟩
  obtain ⟨s₂, o, h1, r⟩ := g h.size h' (H.cons E (size_ok X eT hn0) ⟨cell, hc1, B⟩) hc hl T' _ X' eT' N
  exact ⟨s₂, o, st s₂ h1, r⟩
/-! ### arrays -/
def Aa (Z : State) (ty : FieldType) (vs : List Value) (cell : Cell) : Prop := Z.isArrayOf cell ty ∧ cell.vm ≠ .unknown ∧ cell.slots = vs.toArray ∧ vs.length < 2 ^ 31
abbrev Ia (Z : State) (xs : List Int32) : Cell → Prop := Aa Z .int (xs.map Value.int)
abbrev La (Z : State) (xs : List Int64) : Cell → Prop := Aa Z .long (xs.map Value.long)
variable {ty : FieldType} {xs : List Int32} {ys : List Int64} {x z : Int32} {y : Int64}
theorem inb (hn : ¬ z < 0) (hv : vs[z.toNatClampNeg]? = some v) {cell : Cell} (e : cell.slots = vs.toArray) : ¬ (z < 0 ∨ cell.slots.size ≤ z.toNatClampNeg) := by
  intro q
  have := (List.getElem?_eq_some_iff.mp hv).1
  rcases q with q | q
  · exact hn q
  · rw [e] at q; simp at q; omega
theorem G.alen (K : Ok k Z n0 own R bytes maxL ret nm) (H : Hp n0 h σ) (hi : σ[i]? = some (a, Aa Z ty vs)) (d : Dc bytes pc .arraylength 1 pc') (z : Int32) (hz : Int32.ofNat vs.length = z) (g : G k n0 Q h cells slots pc' Ls (.int z :: St)) : G k n0 Q h cells slots pc Ls (.ref a :: St) := by
  obtain ⟨p, l, e, R', s, m, args, below, meth, c⟩ := k
  obtain ⟨hx, hZ, hown, rfl, rfl, rfl, rfl, hlk, rfl, hn0⟩ := K
  obtain ⟨d, rfl⟩ := d
  obtain ⟨-, cell, h1, h2, h3, h4, h5⟩ := H.at hi
  refine G.moved (fun T locs X eT => ⟨T, X, eT, fun t q => ?_⟩) g
  refine X.arraylength hx (by rw [eT]; exact h1) (State.isArrayOf_alike hZ.alike h2) (g := mkF m pc ⟨Ls⟩ (.ref a :: St)) rfl rfl d t ?_
  have : cell.slots.size.toInt32 = z := by rw [h4, ← hz]; simp [Nat.toInt32]
  rw [this]; exact q
theorem G.aload_i (K : Ok k Z n0 own R bytes maxL ret nm) (H : Hp n0 h σ) (hi : σ[i]? = some (a, Ia Z xs)) (hn : ¬ z < 0) (hv : xs[z.toNatClampNeg]? = some x) (d : Dc bytes pc .iaload 1 pc') (g : G k n0 Q h cells slots pc' Ls (.int x :: St)) : G k n0 Q h cells slots pc Ls (.int z :: .ref a :: St) := by
  obtain ⟨p, l, e, R', s, m, args, below, meth, c⟩ := k
  obtain ⟨hx, hZ, hown, rfl, rfl, rfl, rfl, hlk, rfl, hn0⟩ := K
  obtain ⟨d, rfl⟩ := d
  obtain ⟨-, cell, h1, h2, h3, h4, h5⟩ := H.at hi
  have hv' : (xs.map Value.int)[z.toNatClampNeg]? = some (.int x) := by simp [hv]
  exact G.moved (fun T locs X eT => ⟨T, X, eT, fun t q => X.iaload hx (by rw [eT]; exact h1) (State.isArrayOf_alike hZ.alike h2) h3 (inb hn hv' h4) (v := .int x) (by rw [h4]; simpa using hv') (g := mkF m pc ⟨Ls⟩ (.int z :: .ref a :: St)) rfl rfl d t q⟩) g
theorem G.aload_l (K : Ok k Z n0 own R bytes maxL ret nm) (H : Hp n0 h σ) (hi : σ[i]? = some (a, La Z ys)) (hn : ¬ z < 0) (hv : ys[z.toNatClampNeg]? = some y) (d : Dc bytes pc .laload 1 pc') (g : G k n0 Q h cells slots pc' Ls (.long y :: St)) : G k n0 Q h cells slots pc Ls (.int z :: .ref a :: St) := by
  obtain ⟨p, l, e, R', s, m, args, below, meth, c⟩ := k
  obtain ⟨hx, hZ, hown, rfl, rfl, rfl, rfl, hlk, rfl, hn0⟩ := K
  obtain ⟨d, rfl⟩ := d
  obtain ⟨-, cell, h1, h2, h3, h4, h5⟩ := H.at hi
  have hv' : (ys.map Value.long)[z.toNatClampNeg]? = some (.long y) := by simp [hv]
  exact G.moved (fun T locs X eT => ⟨T, X, eT, fun t q => X.laload hx (by rw [eT]; exact h1) (State.isArrayOf_alike hZ.alike h2) h3 (inb hn hv' h4) (v := .long y) (by rw [h4]; simpa using hv') (g := mkF m pc ⟨Ls⟩ (.int z :: .ref a :: St)) rfl rfl d t q⟩) g
theorem Aa.set {i : Nat} {v : Value} {cell : Cell} (A : Aa Z ty vs cell) : Aa Z ty (vs.set i v) (cell.setSlot i v) := by
  obtain ⟨h2, h3, h4, h5⟩ := A
  exact ⟨h2, h3, by simp [Cell.setSlot, h4], by simpa using h5⟩
theorem G.astore_i (K : Ok k Z n0 own R bytes maxL ret nm) (H : Hp n0 h σ) (hi : σ[i]? = some (a, Ia Z xs)) (hn : ¬ z < 0) (hv : z.toNatClampNeg < xs.length) (d : Dc bytes pc .iastore 1 pc') (g : ∀ h', Hp n0 h' (σ.set i (a, Ia Z (xs.set z.toNatClampNeg x))) → G k n0 Q h' cells slots pc' Ls St) : G k n0 Q h cells slots pc Ls (.int x :: .int z :: .ref a :: St) := by
  obtain ⟨p, l, e, R', s, m, args, below, meth, c⟩ := k
  obtain ⟨hx, hZ, hown, rfl, rfl, rfl, rfl, hlk, rfl, hn0⟩ := K
  obtain ⟨d, rfl⟩ := d
  obtain ⟨ge, cell, h1, h2, h3, h4, h5⟩ := H.at hi
  have hv' : (xs.map Value.int)[z.toNatClampNeg]? = some (.int xs[z.toNatClampNeg]) := by simp [hv]
  intro hc hs T locs X eT N
  obtain ⟨T', h', X', eT', W, st⟩ := RoadKit.stI X hx hZ eT ⟨h1, h2, h3⟩ (inb hn hv' h4) (g := mkF m pc ⟨Ls⟩ (.int x :: .int z :: .ref a :: St)) rfl rfl d
  have H' : Hp n0 h' (σ.set i (a, Ia Z (xs.set z.toNatClampNeg x))) := H.wr hi W fun cell B => by
    have := Aa.set (i := z.toNatClampNeg) (v := .int x) B
    rw [← List.map_set] at this; exact this
  obtain ⟨s₂, o, q1, r⟩ := g h' H' hc hs T' _ X' eT' (Fr.snoc X' N ge)
  exact ⟨s₂, o, st s₂ q1, r⟩
theorem G.astore_l (K : Ok k Z n0 own R bytes maxL ret nm) (H : Hp n0 h σ) (hi : σ[i]? = some (a, La Z ys)) (hn : ¬ z < 0) (hv : z.toNatClampNeg < ys.length) (d : Dc bytes pc .lastore 1 pc') (g : ∀ h', Hp n0 h' (σ.set i (a, La Z (ys.set z.toNatClampNeg y))) → G k n0 Q h' cells slots pc' Ls St) : G k n0 Q h cells slots pc Ls (.long y :: .int z :: .ref a :: St) := by
  obtain ⟨p, l, e, R', s, m, args, below, meth, c⟩ := k
  obtain ⟨hx, hZ, hown, rfl, rfl, rfl, rfl, hlk, rfl, hn0⟩ := K
  obtain ⟨d, rfl⟩ := d
  obtain ⟨ge, cell, h1, h2, h3, h4, h5⟩ := H.at hi
  have hv' : (ys.map Value.long)[z.toNatClampNeg]? = some (.long ys[z.toNatClampNeg]) := by simp [hv]
  intro hc hs T locs X eT N
  obtain ⟨T', h', X', eT', W, st⟩ := RoadKit.stJ X hx hZ eT ⟨h1, h2, h3⟩ (inb hn hv' h4) (g := mkF m pc ⟨Ls⟩ (.long y :: .int z :: .ref a :: St)) rfl rfl d
  have H' : Hp n0 h' (σ.set i (a, La Z (ys.set z.toNatClampNeg y))) := H.wr hi W fun cell B => by
    have := Aa.set (i := z.toNatClampNeg) (v := .long y) B
    rw [← List.map_set] at this; exact this
  obtain ⟨s₂, o, q1, r⟩ := g h' H' hc hs T' _ X' eT' (Fr.snoc X' N ge)
  exact ⟨s₂, o, st s₂ q1, r⟩
theorem G.newarr (K : Ok k Z n0 own R bytes maxL ret nm) {aty : ArrayType} (w : (Cond.arrayClass (newarray.typeOf aty)).before a0 Z = true) (H : Hp n0 h σ) (hn : ¬ z < 0) (cap : Nat) (hcap : z.toNatClampNeg ≤ cap) (hb : cap * 8 ≤ 536870912) (hc : cells + 1 ≤ R.cells) (hl : slots + cap ≤ R.slots) (d : Dc bytes pc (.newarray aty) 2 pc')
    (g : ∀ a h', Hp n0 h' ((a, Aa Z (newarray.typeOf aty) (List.replicate z.toNatClampNeg (defaultValue (newarray.typeOf aty)))) :: σ) → G k n0 Q h' (cells + 1) (slots + cap) pc' Ls (.ref a :: St)) : G k n0 Q h cells slots pc Ls (.int z :: St) := by
  obtain ⟨p, l, e, R', s, m, args, below, meth, c⟩ := k
  obtain ⟨hx, hZ, hown, rfl, rfl, rfl, rfl, hlk, rfl, hn0⟩ := K
  obtain ⟨d, rfl⟩ := d
  intro _ _ T locs X eT N
  obtain ⟨T', h', cA, X', eT', E, A, st⟩ := RoadKit.newP X hx hZ w eT (g := mkF m pc ⟨Ls⟩ (.int z :: St)) rfl d rfl hn hcap hb hc hl
  have B : Aa Z (newarray.typeOf aty) (List.replicate z.toNatClampNeg (defaultValue (newarray.typeOf aty))) (newA cA (newarray.typeOf aty) z) :=
    ⟨A.2.1, A.2.2, by simp [newA], by rw [List.length_replicate]; exact (back32 hn).2⟩
  obtain ⟨s₂, o, h1, r⟩ := g h.size h' (H.cons E (size_ok X eT hn0) ⟨_, A.1, B⟩) hc hl T' _ X' eT' N
  exact ⟨s₂, o, st s₂ h1, r⟩
theorem G.newarr_i (K : Ok k Z n0 own R bytes maxL ret nm) (w : (Cond.arrayClass .int).before a0 Z = true) (H : Hp n0 h σ) (hn : ¬ z < 0) (cap : Nat) (hcap : z.toNatClampNeg ≤ cap) (hb : cap * 8 ≤ 536870912) (hc : cells + 1 ≤ R.cells) (hl : slots + cap ≤ R.slots) (d : Dc bytes pc (.newarray .int) 2 pc')
    (g : ∀ a h', Hp n0 h' ((a, Ia Z (List.replicate z.toNatClampNeg 0)) :: σ) → G k n0 Q h' (cells + 1) (slots + cap) pc' Ls (.ref a :: St)) : G k n0 Q h cells slots pc Ls (.int z :: St) :=
  G.newarr K (aty := .int) w H hn cap hcap hb hc hl d fun a h' H' => g a h' (by show Hp n0 h' ((a, Aa Z .int ((List.replicate z.toNatClampNeg (0 : Int32)).map Value.int)) :: σ); rw [List.map_replicate]; exact H')
theorem G.newarr_l (K : Ok k Z n0 own R bytes maxL ret nm) (w : (Cond.arrayClass .long).before a0 Z = true) (H : Hp n0 h σ) (hn : ¬ z < 0) (cap : Nat) (hcap : z.toNatClampNeg ≤ cap) (hb : cap * 8 ≤ 536870912) (hc : cells + 1 ≤ R.cells) (hl : slots + cap ≤ R.slots) (d : Dc bytes pc (.newarray .long) 2 pc')
    (g : ∀ a h', Hp n0 h' ((a, La Z (List.replicate z.toNatClampNeg 0)) :: σ) → G k n0 Q h' (cells + 1) (slots + cap) pc' Ls (.ref a :: St)) : G k n0 Q h cells slots pc Ls (.int z :: St) :=
  G.newarr K (aty := .long) w H hn cap hcap hb hc hl d fun a h' H' => g a h' (by show Hp n0 h' ((a, Aa Z .long ((List.replicate z.toNatClampNeg (0 : Int64)).map Value.long)) :: σ); rw [List.map_replicate]; exact H')
/-! ### calls -/
/-- a body's contract: called on these arguments at this heap it returns, and Q holds -/
def Ct (l : Launch) (Z : State) (n0 : Nat) (yy : MethodName) (bytes : ByteArray) (maxL : Nat) (ret : Option FieldType) (rm : Room) (as : List Value) (h : Heap) (Q : Option Value → Heap → Prop) : Prop :=
  n0 ≤ h.size → ∀ ws, MetFree l yy (head1 (Cond.code yy bytes maxL ret :: ws) rm) (fun a U => a = as.toArray ∧ Z.Warmed39 U.vm ∧ U.heap = h) (fun _ _ _ _ _ => True)
    (fun _ U o U' => ∃ v L, o = .returned v ∧ (Q v U'.heap ∧ Fr n0 L) ∧ FrameEnd U o U' L rm.cells rm.slots)
variable {l : Launch} {yy : MethodName} {rm : Room} {as : List Value}
theorem Ct.post {Q' : Option Value → Heap → Prop} (c : Ct l Z n0 yy bytes maxL ret rm as h Q) (q : ∀ v h', Q v h' → Q' v h') : Ct l Z n0 yy bytes maxL ret rm as h Q' := by
  intro hn ws p e a1 a2 a3 s m args below a4 a5 a6 a7
  obtain ⟨n, o, h1, h2, h3, v, L, h4, ⟨h5, h6⟩, h7⟩ := c hn ws p e a1 a2 a3 s m args below a4 a5 a6 a7
  exact ⟨n, o, h1, h2, h3, v, L, h4, ⟨q _ _ h5, h6⟩, h7⟩
theorem Ct.intro (hp : plainFor yy = true) (Ls : List Slot) (hE : ∀ m, entryFrame m as.toArray maxL = mkF m 0 ⟨Ls⟩ [])
    (body : ∀ k : Cx, k.2.1 = l → Ok k Z n0 yy.cls rm bytes maxL ret yy.name → G k n0 Q h 0 0 0 Ls []) : Ct l Z n0 yy bytes maxL ret rm as h Q := by
  intro hn0 ws
  refine MetFree.of_bodySF hp hisR ?_
  intro p e s m args below meth c s₁ Bd hml0 hP hK
  obtain ⟨rfl, hZ, hh⟩ := hP
  have X0 : Stand p l e rm s m as.toArray below meth c s₁ [] 0 0 := Stand.of_body Bd
  have e0 : s₁.heap = h := by rw [← hh, Bd.state]; rfl
  have g := body (p, l, e, rm, s, m, as.toArray, below, meth, c) rfl ⟨Bd.exec, hZ, findClass_of_methodNamed Bd.named, rfl, Bd.bytes, hml0, Bd.returns, Bd.notSynchronized, (name_of_methodNamed Bd.named Bd.method).1, by show n0 ≤ s.heap.size; rw [hh]; exact hn0⟩ (Nat.zero_le _) (Nat.zero_le _) s₁ [] X0 e0 (Fr.nil n0)
  obtain ⟨s₂, o, h1, r⟩ := g
  exact ⟨s₂, o, castTop (hE m) h1, r⟩
theorem G.callS (K : Ok k Z n0 own R bytes maxL ret nm) (hl : k.2.1 = l) {idx : Nat} {by' : ByteArray} {ml : Nat} {rt : Option FieldType} {ps : List FieldType} {Q' : Option Value → Heap → Prop}
    (w1 : (Cond.methodLink own idx yy).before a0 Z = true) (w2 : (Cond.static yy).before a0 Z = true) (w3 : (Cond.initialized yy.cls).before a0 Z = true) (w4 : (Cond.code yy by' ml rt).before a0 Z = true)
    (hy : yy.cls ≠ "java/lang/invoke/MethodHandle" ∧ yy.cls ≠ "java/lang/invoke/VarHandle") (pd : parseMethodDescriptor yy.desc = some ⟨ps, rt⟩) (c : Ct l Z n0 yy by' ml rt rm as h Q') (W : Nat) (hW : (St.map fun v => v.category).sum = W)
    (hfr : rm.frames + 1 ≤ R.frames) (hlo : W + (ml + 11) + rm.locals ≤ R.locals) (hce : cells + rm.cells ≤ R.cells) (hsl : slots + rm.slots ≤ R.slots) (hps : as.length = ps.length) (hsz : Ls.length = maxL) (ar : List Value) (har : as.reverse = ar) (d : Dc bytes pc (.invokestatic idx) 3 pc')
    (g : ∀ v h', Q' v h' → G k n0 Q h' (cells + rm.cells) (slots + rm.slots) pc' Ls (v.toList ++ St)) : G k n0 Q h cells slots pc Ls (ar ++ St) := by
  obtain ⟨p, l, e, R', s, m, args, below, meth, c⟩ := k
  obtain ⟨hx, hZ, hown, rfl, rfl, rfl, rfl, hlk, rfl, hn0⟩ := K
  obtain ⟨d, rfl⟩ := d
  subst hl
  subst har
  intro _ _ T locs X eT N
  have hn1 : n0 ≤ h.size := size_ok X eT hn0
  obtain ⟨v, _, ⟨T', L', k', n'⟩, -, X', ⟨Lc, ⟨hQ, hF⟩, e1, e2, e3⟩, st⟩ := Jvm.LawKit.callS X hx (y := yy) hown (mvT hZ w1) (mvT hZ w2) (mvT hZ w3) (mvT hZ w4) hy (backOf (W := W) (Q := fun v h' L => Q' v h' ∧ Fr n0 L) (c hn1 []) hZ w4 w3 hfr hlo) (g := mkF m pc ⟨Ls⟩ (as.reverse ++ St)) rfl (by simpa using hsz) (argsL := as) (rest := St) (lenOf pd hps) rfl (by show 2 * 0 + _ ≤ _; omega) d (fun _ _ => ⟨rfl, eT, hce, hsl⟩)
  dsimp only [Pt.U, Pt.locs, Pt.cells, Pt.slots] at X' e1 e2 e3 st hQ
  subst e1 e2 e3
  obtain ⟨s₂, o, h1, r⟩ := g v T'.heap hQ hce hsl T' _ X' rfl (Fr.app N hF)
  exact ⟨s₂, o, st _ h1, r⟩
theorem G.callI (K : Ok k Z n0 own R bytes maxL ret nm) (hl : k.2.1 = l) {idx : Nat} {by' : ByteArray} {ml : Nat} {ps : List FieldType} {Q' : Option Value → Heap → Prop} (hi : yy.name = "<init>")
    (w1 : (Cond.methodLink own idx yy).before a0 Z = true) (w2 : (Cond.instanceMethod yy).before a0 Z = true) (w3 : (Cond.initialized yy.cls).before a0 Z = true) (w4 : (Cond.code yy by' ml none).before a0 Z = true)
    (hy : yy.cls ≠ "java/lang/invoke/MethodHandle" ∧ yy.cls ≠ "java/lang/invoke/VarHandle") (pd : parseMethodDescriptor yy.desc = some ⟨ps, none⟩) {a : Addr} (c : Ct l Z n0 yy by' ml none rm (.ref a :: as) h Q') (W : Nat) (hW : (St.map fun v => v.category).sum = W)
    (hfr : rm.frames + 1 ≤ R.frames) (hlo : W + (ml + 11) + rm.locals ≤ R.locals) (hce : cells + rm.cells ≤ R.cells) (hsl : slots + rm.slots ≤ R.slots) (hps : as.length = ps.length) (hsz : Ls.length = maxL) (ar : List Value) (har : as.reverse = ar) (d : Dc bytes pc (.invokespecial idx) 3 pc')
    (g : ∀ v h', Q' v h' → G k n0 Q h' (cells + rm.cells) (slots + rm.slots) pc' Ls (v.toList ++ St)) : G k n0 Q h cells slots pc Ls (ar ++ .ref a :: St) := by
  obtain ⟨p, l, e, R', s, m, args, below, meth, c⟩ := k
  obtain ⟨hx, hZ, hown, rfl, rfl, rfl, rfl, hlk, rfl, hn0⟩ := K
  obtain ⟨d, rfl⟩ := d
  subst hl
  subst har
  intro _ _ T locs X eT N
  have hn1 : n0 ≤ h.size := size_ok X eT hn0
  obtain ⟨v, _, ⟨T', L', k', n'⟩, -, X', ⟨Lc, ⟨hQ, hF⟩, e1, e2, e3⟩, st⟩ := X.specialBack hx (y := yy) hi hown (mvT hZ w1) (mvT hZ w2) (mvT hZ w4) hy (backOf (W := W) (Q := fun v h' L => Q' v h' ∧ Fr n0 L) (c hn1 []) hZ w4 w3 hfr hlo) (g := mkF m pc ⟨Ls⟩ (as.reverse ++ .ref a :: St)) rfl (by simpa using hsz) (Steps.refl _) (a := a) (argsL := as) (rest := St) (lenOf pd hps) rfl (by show 2 * 0 + _ ≤ _; omega) d (fun _ _ => ⟨rfl, eT, hce, hsl⟩)
  dsimp only [Pt.U, Pt.locs, Pt.cells, Pt.slots] at X' e1 e2 e3 st hQ
  subst e1 e2 e3
  obtain ⟨s₂, o, h1, r⟩ := g v T'.heap hQ hce hsl T' _ X' rfl (Fr.app N hF)
  exact ⟨s₂, o, st.trans h1, r⟩
theorem G.callV (K : Ok k Z n0 own R bytes maxL ret nm) (hl : k.2.1 = l) {idx : Nat} {by' : ByteArray} {ml : Nat} {rt : Option FieldType} {ps : List FieldType} {Q' : Option Value → Heap → Prop} {C : String}
    (w1 : (Cond.methodLink own idx yy).before a0 Z = true) (wd : (Cond.declares yy).before a0 Z = true) (ws : (Cond.selects C yy yy).before a0 Z = true) (w2 : (Cond.instanceMethod yy).before a0 Z = true) (w3 : (Cond.initialized yy.cls).before a0 Z = true) (w4 : (Cond.code yy by' ml rt).before a0 Z = true)
    (hy : yy.cls ≠ "java/lang/invoke/MethodHandle" ∧ yy.cls ≠ "java/lang/invoke/VarHandle") (pd : parseMethodDescriptor yy.desc = some ⟨ps, rt⟩) {a : Addr} (E : Exa Z h a C) (c : Ct l Z n0 yy by' ml rt rm (.ref a :: as) h Q') (W : Nat) (hW : (St.map fun v => v.category).sum = W)
    (hfr : rm.frames + 1 ≤ R.frames) (hlo : W + (ml + 11) + rm.locals ≤ R.locals) (hce : cells + rm.cells ≤ R.cells) (hsl : slots + rm.slots ≤ R.slots) (hps : as.length = ps.length) (hsz : Ls.length = maxL) (ar : List Value) (har : as.reverse = ar) (d : Dc bytes pc (.invokevirtual idx) 3 pc')
    (g : ∀ v h', Q' v h' → G k n0 Q h' (cells + rm.cells) (slots + rm.slots) pc' Ls (v.toList ++ St)) : G k n0 Q h cells slots pc Ls (ar ++ .ref a :: St) := by
  obtain ⟨p, l, e, R', s, m, args, below, meth, c⟩ := k
  obtain ⟨hx, hZ, hown, rfl, rfl, rfl, rfl, hlk, rfl, hn0⟩ := K
  obtain ⟨d, rfl⟩ := d
  subst hl
  subst har
  intro _ _ T locs X eT N
  have hn1 : n0 ≤ h.size := size_ok X eT hn0
  obtain ⟨cq, kq, qa, qb, qc⟩ := isOf hZ eT E
  obtain ⟨v, _, ⟨T', L', k', n'⟩, -, X', ⟨Lc, ⟨hQ, hF⟩, e1, e2, e3⟩, st⟩ := X.virtualBack hx (y := yy) (z := yy) hown (mvT hZ w1) (mvT hZ wd) (notFace_of_selects (args := #[]) (mvT hZ ws)) (mvT hZ ws) (mvT hZ w2) hy (backOf (W := W) (Q := fun v h' L => Q' v h' ∧ Fr n0 L) (c hn1 []) hZ w4 w3 hfr hlo) qa qc (g := mkF m pc ⟨Ls⟩ (as.reverse ++ .ref a :: St)) rfl (by simpa using hsz) (Steps.refl _) (argsL := as) (rest := St) (lenOf pd hps) rfl (by show 2 * 0 + _ ≤ _; omega) d (fun _ _ => ⟨rfl, eT, hce, hsl⟩)
  dsimp only [Pt.U, Pt.locs, Pt.cells, Pt.slots] at X' e1 e2 e3 st hQ
  subst e1 e2 e3
  obtain ⟨s₂, o, h1, r⟩ := g v T'.heap hQ hce hsl T' _ X' rfl (Fr.app N hF)
  exact ⟨s₂, o, st.trans h1, r⟩
theorem G.callP (K : Ok k Z n0 own R bytes maxL ret nm) (hl : k.2.1 = l) {idx kk : Nat} {by' : ByteArray} {ml : Nat} {rt : Option FieldType} {ps : List FieldType} {Q' : Option Value → Heap → Prop}
    (w1 : (Cond.methodLink own idx yy).before a0 Z = true) (wp : (Cond.privateMethod yy).before a0 Z = true) (wi : (Cond.instantiable yy.cls kk).before a0 Z = true) (w2 : (Cond.instanceMethod yy).before a0 Z = true) (w3 : (Cond.initialized yy.cls).before a0 Z = true) (w4 : (Cond.code yy by' ml rt).before a0 Z = true)
    (hy : yy.cls ≠ "java/lang/invoke/MethodHandle" ∧ yy.cls ≠ "java/lang/invoke/VarHandle") (pd : parseMethodDescriptor yy.desc = some ⟨ps, rt⟩) {a : Addr} {C : String} (E : Exa Z h a C) (c : Ct l Z n0 yy by' ml rt rm (.ref a :: as) h Q') (W : Nat) (hW : (St.map fun v => v.category).sum = W)
    (hfr : rm.frames + 1 ≤ R.frames) (hlo : W + (ml + 11) + rm.locals ≤ R.locals) (hce : cells + rm.cells ≤ R.cells) (hsl : slots + rm.slots ≤ R.slots) (hps : as.length = ps.length) (hsz : Ls.length = maxL) (ar : List Value) (har : as.reverse = ar) (d : Dc bytes pc (.invokevirtual idx) 3 pc')
    (g : ∀ v h', Q' v h' → G k n0 Q h' (cells + rm.cells) (slots + rm.slots) pc' Ls (v.toList ++ St)) : G k n0 Q h cells slots pc Ls (ar ++ .ref a :: St) := by
  obtain ⟨p, l, e, R', s, m, args, below, meth, c⟩ := k
  obtain ⟨hx, hZ, hown, rfl, rfl, rfl, rfl, hlk, rfl, hn0⟩ := K
  obtain ⟨d, rfl⟩ := d
  subst hl
  subst har
  intro _ _ T locs X eT N
  have hn1 : n0 ≤ h.size := size_ok X eT hn0
  obtain ⟨cq, q, q'⟩ := E.cell
  have hpriv : s.PrivateAt yy := Cond.privateMethod_at (mvP hZ wp (args := #[]))
  obtain ⟨c2, k2, i1, i2, -, i4, -⟩ := Cond.instantiable_spec (mvT hZ wi (args := args))
  have hsel : (Cond.selects yy.cls yy yy).before args s = true := selects_self_of_private i1 i2 (by cases hh : k2.isInterface <;> simp_all) hpriv (mvT hZ w2) hy
  obtain ⟨v, _, ⟨T', L', k', n'⟩, -, X', ⟨Lc, ⟨hQ, hF⟩, e1, e2, e3⟩, st⟩ := X.privateBack hx (y := yy) hown (mvT hZ w1) (mvT hZ w2) hsel hpriv (mvT hZ w4) hy (backOf (W := W) (Q := fun v h' L => Q' v h' ∧ Fr n0 L) (c hn1 []) hZ w4 w3 hfr hlo) (g := mkF m pc ⟨Ls⟩ (as.reverse ++ .ref a :: St)) rfl (by simpa using hsz) (Steps.refl _) (a := a) (by rw [eT]; exact q) q' (argsL := as) (rest := St) (lenOf pd hps) rfl (by show 2 * 0 + _ ≤ _; omega) d (fun _ _ => ⟨rfl, eT, hce, hsl⟩)
  dsimp only [Pt.U, Pt.locs, Pt.cells, Pt.slots] at X' e1 e2 e3 st hQ
  subst e1 e2 e3
  obtain ⟨s₂, o, h1, r⟩ := g v T'.heap hQ hce hsl T' _ X' rfl (Fr.app N hF)
  exact ⟨s₂, o, st.trans h1, r⟩
theorem G.initO (K : Ok k Z n0 own R bytes maxL ret nm) {idx : Nat} (w1 : (Cond.methodLink own idx Lib.objectInit).before a0 Z = true) (w2 : (Cond.instanceMethod Lib.objectInit).before a0 Z = true) (w3 : (Cond.code Lib.objectInit ⟨#[0xb1]⟩ 1 none).before a0 Z = true) {a : Addr}
    (hsz : Ls.length = maxL) (W : Nat) (hW : (St.map fun v => v.category).sum = W) (hfr : 1 ≤ R.frames) (hlo : W + 12 ≤ R.locals) (d : Dc bytes pc (.invokespecial idx) 3 pc') (g : G k n0 Q h cells slots pc' Ls St) : G k n0 Q h cells slots pc Ls (.ref a :: St) := by
  obtain ⟨p, l, e, R', s, m, args, below, meth, c⟩ := k
  obtain ⟨hx, hZ, hown, rfl, rfl, rfl, rfl, hlk, rfl, hn0⟩ := K
  obtain ⟨d, rfl⟩ := d
  exact G.moved (fun T locs X eT => RoadKit.initO X hx hZ hown w1 w2 w3 eT (g := mkF m pc ⟨Ls⟩ (.ref a :: St)) rfl (by simpa using hsz) rfl d hfr (W := W) (by show 2 * 0 + _ ≤ _; omega) hlo) g
/-! ### arrays of references -/
def Ra (Z : State) (C : String) (vs : List Value) (cell : Cell) : Prop := Aa Z (.object C) vs cell ∧ Ovr Z cell.cls C
theorem G.anewarr (K : Ok k Z n0 own R bytes maxL ret nm) {idx : Nat} (w1 : (Cond.classLink own idx C).before a0 Z = true) (w2 : (Cond.arrayOver (.object C)).before a0 Z = true) (H : Hp n0 h σ) (hn : ¬ z < 0) (cap : Nat) (hcap : z.toNatClampNeg ≤ cap) (hb : cap * 8 ≤ 536870912) (hc : cells + 1 ≤ R.cells) (hl : slots + cap ≤ R.slots) (d : Dc bytes pc (.anewarray idx) 3 pc')
    (g : ∀ a h', Hp n0 h' ((a, Ra Z C (List.replicate z.toNatClampNeg .null)) :: σ) → G k n0 Q h' (cells + 1) (slots + cap) pc' Ls (.ref a :: St)) : G k n0 Q h cells slots pc Ls (.int z :: St) := by
  obtain ⟨p, l, e, R', s, m, args, below, meth, c⟩ := k
  obtain ⟨hx, hZ, hown, rfl, rfl, rfl, rfl, hlk, rfl, hn0⟩ := K
  obtain ⟨d, rfl⟩ := d
  intro _ _ T locs X eT N
  obtain ⟨T', h', cA, X', eT', E, A, O, st⟩ := RoadKit.newR X hx hZ hown w1 w2 eT (g := mkF m pc ⟨Ls⟩ (.int z :: St)) rfl d rfl hn hcap hb hc hl
  have B : Ra Z C (List.replicate z.toNatClampNeg .null) (newA cA (.object C) z) :=
    ⟨⟨A.2.1, A.2.2, by simp [newA, defaultValue], by rw [List.length_replicate]; exact (back32 hn).2⟩, O⟩
  obtain ⟨s₂, o, h1, r⟩ := g h.size h' (H.cons E (size_ok X eT hn0) ⟨_, A.1, B⟩) hc hl T' _ X' eT' N
  exact ⟨s₂, o, st s₂ h1, r⟩
theorem G.astore_r (K : Ok k Z n0 own R bytes maxL ret nm) (H : Hp n0 h σ) (hi : σ[i]? = some (a, Ra Z C vs)) (hn : ¬ z < 0) (hv : z.toNatClampNeg < vs.length) (hw : w = .null ∨ ∃ y, w = .ref y ∧ Exa Z h y C) (d : Dc bytes pc .aastore 1 pc') (g : ∀ h', Hp n0 h' (σ.set i (a, Ra Z C (vs.set z.toNatClampNeg w))) → G k n0 Q h' cells slots pc' Ls St) : G k n0 Q h cells slots pc Ls (w :: .int z :: .ref a :: St) := by
  obtain ⟨p, l, e, R', s, m, args, below, meth, c⟩ := k
  obtain ⟨hx, hZ, hown, rfl, rfl, rfl, rfl, hlk, rfl, hn0⟩ := K
  obtain ⟨d, rfl⟩ := d
  obtain ⟨ge, cell, h1, ⟨h2, h3, h4, h5⟩, O⟩ := H.at hi
  have hv' : vs[z.toNatClampNeg]? = some vs[z.toNatClampNeg] := by simp [hv]
  have F : Sto Z h a w := by
    rcases hw with rfl | ⟨y, rfl, E⟩
    · exact Or.inl rfl
    · exact Sto.of ⟨h1, h2, h3⟩ O (Ins.self E)
  intro hc hs T locs X eT N
  obtain ⟨T', h', X', eT', W, st⟩ := RoadKit.stR X hx hZ eT ⟨h1, h2, h3⟩ (inb hn hv' h4) rfl F (g := mkF m pc ⟨Ls⟩ (w :: .int z :: .ref a :: St)) rfl rfl d
  have H' : Hp n0 h' (σ.set i (a, Ra Z C (vs.set z.toNatClampNeg w))) := H.wr hi W fun cell B => ⟨Aa.set B.1, B.2⟩
  obtain ⟨s₂, o, q1, r⟩ := g h' H' hc hs T' _ X' eT' (Fr.snoc X' N ge)
  exact ⟨s₂, o, st s₂ q1, r⟩
theorem G.aload_r (K : Ok k Z n0 own R bytes maxL ret nm) (H : Hp n0 h σ) (hi : σ[i]? = some (a, Ra Z C vs)) (hn : ¬ z < 0) (hv : vs[z.toNatClampNeg]? = some v) (d : Dc bytes pc .aaload 1 pc') (g : G k n0 Q h cells slots pc' Ls (v :: St)) : G k n0 Q h cells slots pc Ls (.int z :: .ref a :: St) := by
  obtain ⟨p, l, e, R', s, m, args, below, meth, c⟩ := k
  obtain ⟨hx, hZ, hown, rfl, rfl, rfl, rfl, hlk, rfl, hn0⟩ := K
  obtain ⟨d, rfl⟩ := d
  obtain ⟨-, cell, h1, ⟨h2, h3, h4, h5⟩, O⟩ := H.at hi
  exact G.moved (fun T locs X eT => ⟨T, X, eT, fun t q => X.aaload hx (by rw [eT]; exact h1) (State.isArrayOf_alike hZ.alike h2) rfl h3 (inb hn hv h4) (v := v) (by rw [h4]; simpa using hv) (g := mkF m pc ⟨Ls⟩ (.int z :: .ref a :: St)) rfl rfl d t q⟩) g
theorem G.alen_r (K : Ok k Z n0 own R bytes maxL ret nm) (H : Hp n0 h σ) (hi : σ[i]? = some (a, Ra Z C vs)) (d : Dc bytes pc .arraylength 1 pc') (z : Int32) (hz : Int32.ofNat vs.length = z) (g : G k n0 Q h cells slots pc' Ls (.int z :: St)) : G k n0 Q h cells slots pc Ls (.ref a :: St) := by
  obtain ⟨-, cell, h1, h2⟩ := H.at hi
  exact G.alen K (H.imp hi fun _ B => B.1) (i := i) (ty := .object C) (vs := vs) (by rw [List.getElem?_set_self (List.getElem?_eq_some_iff.mp hi).1]) d z hz g
/-! ### System.arraycopy -/
def cpy {α : Type} (xs ys : List α) (sp dp n : Nat) : List α := ys.take dp ++ (xs.drop sp).take n ++ ys.drop (dp + n)
theorem cpy_map {α β : Type} (f : α → β) (xs ys : List α) (sp dp n : Nat) : cpy (xs.map f) (ys.map f) sp dp n = (cpy xs ys sp dp n).map f := by simp [cpy, List.map_take, List.map_drop]
theorem G.acopy (K : Ok k Z n0 own R bytes maxL ret nm) {idx : Nat} (w1 : (Cond.methodLink own idx acN).before a0 Z = true) (w2 : (Cond.native acN).before a0 Z = true) (w3 : (Cond.static acN).before a0 Z = true) (w4 : (Cond.initialized "java/lang/System").before a0 Z = true)
    (H : Hp n0 h σ) {i' : Nat} {b : Addr} {ws : List Value} (hi : σ[i]? = some (a, Aa Z ty vs)) (hi' : σ[i']? = some (b, Aa Z ty ws)) (hty : refKind ty = false) (hall : ∀ v ∈ vs, fits ty v = true ∧ ∀ (U : State) (cp : ClassId), U.takes cp v)
    {sp dp n : Int32} (h1 : ¬ sp < 0) (h2 : ¬ dp < 0) (h3 : ¬ n < 0) (h4 : sp.toNatClampNeg + n.toNatClampNeg ≤ vs.length) (h5 : dp.toNatClampNeg + n.toNatClampNeg ≤ ws.length)
    (hsz : Ls.length = maxL) (W : Nat) (hW : (St.map fun v => v.category).sum = W) (hfr : 1 ≤ R.frames) (hlo : W + (nativeFrameWords "java/lang/System" "arraycopy" 5 + 11) ≤ R.locals) (d : Dc bytes pc (.invokestatic idx) 3 pc')
    (g : ∀ h', Hp n0 h' (σ.set i' (b, Aa Z ty (cpy vs ws sp.toNatClampNeg dp.toNatClampNeg n.toNatClampNeg))) → G k n0 Q h' cells slots pc' Ls St) : G k n0 Q h cells slots pc Ls (.int n :: .int dp :: .ref b :: .int sp :: .ref a :: St) := by
  obtain ⟨p, l, e, R', s, m, args, below, meth, c⟩ := k
  obtain ⟨hx, hZ, hown, rfl, rfl, rfl, rfl, hlk, rfl, hn0⟩ := K
  obtain ⟨d, rfl⟩ := d
  obtain ⟨-, cs, c1, c2, c3, c4, c5⟩ := H.at hi
  obtain ⟨ge, cd, d1, d2, d3, d4, d5⟩ := H.at hi'
  have c2' := c2
  have d2' := d2
  obtain ⟨cz, ks, k1, kc, k2⟩ := State.isArrayOf_alike (T := s) hZ.alike c2'
  obtain ⟨dz, kd, m1, mc, m2⟩ := State.isArrayOf_alike (T := s) hZ.alike d2'
  have e1 : ∀ {x : Int32}, ¬ x < 0 → x.toInt = x.toNatClampNeg := fun {x} q => by
    rw [Int32.lt_iff_toInt_lt] at q
    have z0 : (0 : Int32).toInt = 0 := rfl
    show x.toInt = ((x.toInt.toNat : Nat) : Int)
    omega
  intro hc hs T locs X eT N
  obtain ⟨vm₁, hW₁, X', st⟩ := X.arraycopyK hx hown (mvT hZ w1) (mvT hZ w2) (mvT hZ w3) (mvT hZ w4) (src := a) (dst := b) (srcPos := sp) (destPos := dp) (n := n) (cs := cs) (cd := cd) (by rw [eT]; exact c1) (by rw [eT]; exact d1)
    (fun q e => by have := Arr.plain (Z := Z) (h := h) (a := a) ⟨c1, c2, c3⟩; rw [e] at this; cases this) (fun q e => by have := Arr.plain (Z := Z) (h := h) (a := b) ⟨d1, d2, d3⟩; rw [e] at this; cases this) c3 d3 k1 m1 k2 m2
    (by rw [hty]; simp) h1 h2 h3 (by rw [e1 h1, e1 h3, c4]; simp; omega) (by rw [e1 h2, e1 h3, d4]; simp; omega)
    (fun vm hvm j hj => by
      have hlt : sp.toNatClampNeg + j < vs.length := by omega
      have hg : cs.slots.getD (sp.toNatClampNeg + j) .null = vs[sp.toNatClampNeg + j] := by rw [c4]; simp [hlt]
      rw [hg]
      exact ⟨(hall _ (List.getElem_mem hlt)).1, (hall _ (List.getElem_mem hlt)).2 _ _⟩)
    (g := mkF m pc ⟨Ls⟩ (.int n :: .int dp :: .ref b :: .int sp :: .ref a :: St)) rfl (by simpa using hsz) rfl d hfr (by show 2 * 0 + _ + _ ≤ _; omega)
  have hf := Cell.storeRun_facts cd dp.toNatClampNeg (cs.stretch sp.toNatClampNeg n.toNatClampNeg)
  have hlen := Cell.stretch_length cs sp.toNatClampNeg n.toNatClampNeg
  have hB : Aa Z ty (cpy vs ws sp.toNatClampNeg dp.toNatClampNeg n.toNatClampNeg) (copied cs cd sp dp n) := by
    have hll : (cpy vs ws sp.toNatClampNeg dp.toNatClampNeg n.toNatClampNeg).length = ws.length := by simp [cpy]; omega
    refine ⟨⟨by rw [hf.2.1]; exact d2.1, by rw [hf.1]; exact d2.2⟩, by rw [hf.2.1]; exact d3, ?_, by rw [hll]; exact d5⟩
    apply Array.ext_getElem?
    intro j
    rw [Cell.storeRun_get _ _ _ _ (by rw [hlen, d4]; simpa using h5), hlen, d4]
    simp only [List.getElem?_toArray]
    by_cases q : dp.toNatClampNeg ≤ j ∧ j < dp.toNatClampNeg + n.toNatClampNeg
    · rw [if_pos q]
      have hjn : j - dp.toNatClampNeg < n.toNatClampNeg := by omega
      have hlt : sp.toNatClampNeg + (j - dp.toNatClampNeg) < vs.length := by omega
      simp only [Cell.stretch, List.getElem?_map, List.getElem?_range hjn, Option.map_some, cpy]
      rw [List.append_assoc, List.getElem?_append_right (by simp; omega), List.getElem?_append_left (by simp; omega), List.getElem?_take_of_lt (by simp; omega), List.getElem?_drop, c4]
      have hm : min dp.toNatClampNeg ws.length = dp.toNatClampNeg := by omega
      simp [hm, hlt]
    · rw [if_neg q]
      unfold cpy
      by_cases q2 : j < dp.toNatClampNeg
      · rw [List.append_assoc, List.getElem?_append_left (by simp; omega), List.getElem?_take_of_lt q2]
      · rw [List.getElem?_append_right (by simp; omega), List.getElem?_drop]
        congr 1; simp; omega
  have H' : Hp n0 ((T.setVm vm₁).setCell b (copied cs cd sp dp n)).heap (σ.set i' (b, Aa Z ty (cpy vs ws sp.toNatClampNeg dp.toNatClampNeg n.toNatClampNeg))) := by
    have eh : ((T.setVm vm₁).setCell b (copied cs cd sp dp n)).heap = h.setIfInBounds b (copied cs cd sp dp n) := by rw [← eT]; rfl
    rw [eh]
    exact H.set hi' (by simp) (fun x hx => Array.getElem?_setIfInBounds_ne (Ne.symm hx)) ⟨_, Array.getElem?_setIfInBounds_self_of_lt (Array.getElem?_eq_some_iff.mp d1).1, hB⟩
  obtain ⟨s₂, o, q1, r⟩ := g _ H' hc hs _ _ X' rfl (N.app fun y hy => by rw [copyLocs_base hy]; exact ge)
  exact ⟨s₂, o, st s₂ q1, r⟩
theorem all_int (xs : List Int32) : ∀ v ∈ xs.map Value.int, fits .int v = true ∧ ∀ (U : State) (cp : ClassId), U.takes cp v := by
  intro v hv
  obtain ⟨x, -, rfl⟩ := List.mem_map.mp hv
  exact ⟨rfl, fun _ _ => trivial⟩
theorem all_long (xs : List Int64) : ∀ v ∈ xs.map Value.long, fits .long v = true ∧ ∀ (U : State) (cp : ClassId), U.takes cp v := by
  intro v hv
  obtain ⟨x, -, rfl⟩ := List.mem_map.mp hv
  exact ⟨rfl, fun _ _ => trivial⟩
/-! ### an int[] whose class is named: clone and the cast -/
def Xa (Z : State) (xs : List Int32) (cell : Cell) : Prop := Ia Z xs cell ∧ Z.vm.findClass "[I" = some cell.cls
theorem Hp.xi (H : Hp n0 h σ) (hi : σ[i]? = some (a, Xa Z xs)) : Hp n0 h (σ.set i (a, Ia Z xs)) := H.imp hi fun _ B => B.1
theorem G.newarr_x (K : Ok k Z n0 own R bytes maxL ret nm) (w : (Cond.arrayClass .int).before a0 Z = true) (H : Hp n0 h σ) (hn : ¬ z < 0) (cap : Nat) (hcap : z.toNatClampNeg ≤ cap) (hb : cap * 8 ≤ 536870912) (hc : cells + 1 ≤ R.cells) (hl : slots + cap ≤ R.slots) (d : Dc bytes pc (.newarray .int) 2 pc')
    (g : ∀ a h', Hp n0 h' ((a, Xa Z (List.replicate z.toNatClampNeg 0)) :: σ) → G k n0 Q h' (cells + 1) (slots + cap) pc' Ls (.ref a :: St)) : G k n0 Q h cells slots pc Ls (.int z :: St) := by
  obtain ⟨p, l, e, R', s, m, args, below, meth, c⟩ := k
  obtain ⟨hx, hZ, hown, rfl, rfl, rfl, rfl, hlk, rfl, hn0⟩ := K
  obtain ⟨d, rfl⟩ := d
  intro _ _ T locs X eT N
  obtain ⟨T', h', cA, X', eT', E, A, F, st⟩ := RoadKit.newPE X hx hZ (aty := .int) w eT (g := mkF m pc ⟨Ls⟩ (.int z :: St)) rfl d rfl hn hcap hb hc hl (ad := "[I") (by decide)
  obtain ⟨c2, k2, f1, f2, -⟩ := F
  cases A.1.symm.trans f1
  have B : Xa Z (List.replicate z.toNatClampNeg 0) (newA cA .int z) :=
    ⟨⟨A.2.1, A.2.2, by simp [newA, newarray.typeOf, defaultValue], by rw [List.length_map, List.length_replicate]; exact (back32 hn).2⟩, f2⟩
  obtain ⟨s₂, o, h1, r⟩ := g h.size h' (H.cons E (size_ok X eT hn0) ⟨_, A.1, B⟩) hc hl T' _ X' eT' N
  exact ⟨s₂, o, st s₂ h1, r⟩
theorem G.astore_x (K : Ok k Z n0 own R bytes maxL ret nm) (H : Hp n0 h σ) (hi : σ[i]? = some (a, Xa Z xs)) (hn : ¬ z < 0) (hv : z.toNatClampNeg < xs.length) (d : Dc bytes pc .iastore 1 pc') (g : ∀ h', Hp n0 h' (σ.set i (a, Xa Z (xs.set z.toNatClampNeg x))) → G k n0 Q h' cells slots pc' Ls St) : G k n0 Q h cells slots pc Ls (.int x :: .int z :: .ref a :: St) := by
  obtain ⟨p, l, e, R', s, m, args, below, meth, c⟩ := k
  obtain ⟨hx, hZ, hown, rfl, rfl, rfl, rfl, hlk, rfl, hn0⟩ := K
  obtain ⟨d, rfl⟩ := d
  obtain ⟨ge, cell, h1, ⟨h2, h3, h4, h5⟩, h6⟩ := H.at hi
  have hv' : (xs.map Value.int)[z.toNatClampNeg]? = some (.int xs[z.toNatClampNeg]) := by simp [hv]
  intro hc hs T locs X eT N
  obtain ⟨T', h', X', eT', W, st⟩ := RoadKit.stI X hx hZ eT ⟨h1, h2, h3⟩ (inb hn hv' h4) (g := mkF m pc ⟨Ls⟩ (.int x :: .int z :: .ref a :: St)) rfl rfl d
  have H' : Hp n0 h' (σ.set i (a, Xa Z (xs.set z.toNatClampNeg x))) := H.wr hi W fun cell B => by
    have := Aa.set (i := z.toNatClampNeg) (v := .int x) B.1
    rw [← List.map_set] at this; exact ⟨this, B.2⟩
  obtain ⟨s₂, o, q1, r⟩ := g h' H' hc hs T' _ X' eT' (Fr.snoc X' N ge)
  exact ⟨s₂, o, st s₂ q1, r⟩
def clN (ad : String) : MethodName := ⟨ad, "clone", "()Ljava/lang/Object;"⟩
theorem G.clone_x (K : Ok k Z n0 own R bytes maxL ret nm) {idx : Nat} (w1 : (Cond.methodLink own idx ⟨"[I", "clone", "()Ljava/lang/Object;"⟩).before a0 Z = true) (w2 : (Cond.sameMethod "[I" "java/lang/Object" "clone" "()Ljava/lang/Object;").before a0 Z = true) (w3 : (Cond.native ⟨"java/lang/Object", "clone", "()Ljava/lang/Object;"⟩).before a0 Z = true)
    (w4 : (Cond.instanceMethod ⟨"java/lang/Object", "clone", "()Ljava/lang/Object;"⟩).before a0 Z = true) (w5 : (Cond.selects "[I" ⟨"[I", "clone", "()Ljava/lang/Object;"⟩ ⟨"java/lang/Object", "clone", "()Ljava/lang/Object;"⟩).before a0 Z = true) (w6 : (Cond.castable "[I" "java/lang/Cloneable").before a0 Z = true)
    (H : Hp n0 h σ) (hi : σ[i]? = some (a, Xa Z xs)) (cap : Nat) (hcap : xs.length ≤ cap) (hsz : Ls.length = maxL) (W : Nat) (hW : (St.map fun v => v.category).sum = W) (hfr : 1 ≤ R.frames) (hlo : W + 14 ≤ R.locals) (hc : cells + 1 ≤ R.cells) (hl : slots + cap ≤ R.slots) (d : Dc bytes pc (.invokevirtual idx) 3 pc')
    (g : ∀ b h', Hp n0 h' ((b, Xa Z xs) :: σ) → G k n0 Q h' (cells + 1) (slots + cap) pc' Ls (.ref b :: St)) : G k n0 Q h cells slots pc Ls (.ref a :: St) := by
  obtain ⟨p, l, e, R', s, m, args, below, meth, c⟩ := k
  obtain ⟨hx, hZ, hown, rfl, rfl, rfl, rfl, hlk, rfl, hn0⟩ := K
  obtain ⟨d, rfl⟩ := d
  obtain ⟨ge, cell, h1, ⟨h2, h3, h4, h5⟩, h6⟩ := H.at hi
  have h2' := h2
  obtain ⟨hs, kc, hk, comp, hkind⟩ := h2'
  have A : Arr Z h a cell .int := ⟨h1, h2, h3⟩
  have F : FitC Z cell := fitC_of A fun j hj v hv => by
    rw [h4] at hv; simp only [List.getElem?_toArray, List.getElem?_map, Option.map_eq_some_iff] at hv; obtain ⟨x, -, rfl⟩ := hv; rfl
  have E : Exa Z h a "[I" := ⟨cell, kc, h1, h6, hk, Arr.plain A, fun q => by rw [hkind] at q; cases q⟩
  intro _ _ T locs X eT N
  obtain ⟨T', h', X', eT', ex, A', E', st⟩ := RoadKit.cloneA X hx hZ hown w1 w2 w3 w4 w5 w6 eT A E F (g := mkF m pc ⟨Ls⟩ (.ref a :: St)) rfl (by simpa using hsz) rfl d hfr (W := W) (cap := cap) (by show 2 * 0 + _ ≤ _; omega) hlo (by rw [h4]; simpa using hcap) hc hl
  obtain ⟨s₂, o, q1, r⟩ := g h.size h' (H.cons ex (size_ok X eT hn0) ⟨_, A'.1, ⟨A'.2.1, A'.2.2, h4, h5⟩, h6⟩) hc hl T' _ X' eT' N
  exact ⟨s₂, o, st s₂ q1, r⟩
theorem G.cast_x (K : Ok k Z n0 own R bytes maxL ret nm) {idx : Nat} (w1 : (Cond.classLink own idx "[I").before a0 Z = true) (w2 : (Cond.castable "[I" "[I").before a0 Z = true) (H : Hp n0 h σ) (hi : σ[i]? = some (a, Xa Z xs)) (d : Dc bytes pc (.checkcast idx) 3 pc') (g : G k n0 Q h cells slots pc' Ls (.ref a :: St)) : G k n0 Q h cells slots pc Ls (.ref a :: St) := by
  obtain ⟨p, l, e, R', s, m, args, below, meth, c⟩ := k
  obtain ⟨hx, hZ, hown, rfl, rfl, rfl, rfl, hlk, rfl, hn0⟩ := K
  obtain ⟨d, rfl⟩ := d
  obtain ⟨ge, cell, h1, ⟨h2, h3, h4, h5⟩, h6⟩ := H.at hi
  obtain ⟨c1, c2, g1, g2, g3⟩ := Cond.castable_spec w2
  cases h6.symm.trans g1
  have P : cell.vm.isStatics = false := Arr.plain (Z := Z) (h := h) (a := a) (ty := .int) ⟨h1, h2, h3⟩
  exact G.moved (fun T locs X eT => by
    obtain ⟨T', X', e', st⟩ := RoadKit.castY X hx hZ hown w1 eT (F := ⟨cell, c2, h1, g2, by rw [P, g3]; rfl⟩) (g := mkF m pc ⟨Ls⟩ (.ref a :: St)) rfl rfl d
    exact ⟨T', X', e', st⟩) g
theorem G.getFR (K : Ok k Z n0 own R bytes maxL ret nm) {idx : Nat} (w : (Cond.fieldRef own idx O n ds).before a0 Z = true) (H : Hp n0 h σ) (hi : σ[i]? = some (a, Ob Z C NS vs)) (hj : NS[j]? = some (O, n, ds)) (hv : vs[j]? = some v)
    (d : Dc bytes pc (.getfield idx) 3 pc') (g : G k n0 Q h cells slots pc' Ls (v :: St)) : G k n0 Q h cells slots pc Ls (.ref a :: St) := by
  obtain ⟨p, l, e, R', s, m, args, below, meth, c⟩ := k
  obtain ⟨hx, hZ, hown, rfl, rfl, rfl, rfl, hlk, rfl, hn0⟩ := K
  obtain ⟨d, rfl⟩ := d
  obtain ⟨cell, cf, kf, ii, fd, h1, h2, h3, h4, -, -, h7⟩ := H.fld hi hj hv
  exact G.moved (fun T locs X eT => ⟨T, X, eT, fun t q => by
    have hW : Z.Warmed39 T.vm := State.Warmed39.trans (t := s) hZ X.warmed.wide
    obtain ⟨c', k', i', f', e1, e2⟩ := Cond.fieldRef_spec (s := Z.setVm T.vm) (cur := m.cls) (by rw [State.vm_setVm, X.warmed.alike.findClass]; exact hown) (Cond.fieldRef_warmed39 hW w)
    obtain ⟨k2, e3, -⟩ := State.fieldFound?_setVm (s := Z) hW.alike h2
    cases e1.symm.trans e3
    exact (X.getfieldR hx (g := mkF m pc ⟨Ls⟩ (.ref a :: St)) rfl e2 h3 rfl (by rw [eT]; exact h1) h4 h7 d (Steps.refl _)).trans q⟩) g
end Jvm.OwnKit
namespace Jvm.Pilot.@@N@@
open Jvm Jvm.ClassFile Sem Op Lib Jvm.Free Jvm.Stand Jvm.LawKit Jvm.RoadKit Bundle Jvm.OwnKit Jvm.Pilot.@@N@@.Jvm.D
theorem wd {Z : State} {a0 : Array Value} (hw : ∀ d ∈ tables_1, d.before a0 Z = true) (i : Nat) {d : Jvm.Cond} (h : tables_1[i]? = some d) : d.before a0 Z = true := hw _ (List.mem_of_getElem? h)
theorem own_nint {i : Nat} (h : i < 2147483648) : (Int32.ofNat i).toInt = i := Int32.toInt_ofNat_of_lt (by omega)
theorem own_nlt {i n : Nat} (h : i < 2147483648) (h' : n < 2147483648) : (Int32.ofNat i < Int32.ofNat n) ↔ i < n := by
  rw [Int32.lt_iff_toInt_lt, own_nint h, own_nint h']; omega
theorem own_nle {i n : Nat} (h : i < 2147483648) (h' : n < 2147483648) : (Int32.ofNat i ≤ Int32.ofNat n) ↔ i ≤ n := by
  rw [Int32.le_iff_toInt_le, own_nint h, own_nint h']; omega
theorem own_neq {i n : Nat} (h : i < 2147483648) (h' : n < 2147483648) : (Int32.ofNat i = Int32.ofNat n) ↔ i = n := by
  rw [← Int32.toInt_inj, own_nint h, own_nint h']; omega
theorem own_nadd (i j : Nat) : Int32.ofNat i + Int32.ofNat j = Int32.ofNat (i + j) := (Int32.ofNat_add i j).symm
theorem own_nsucc (i : Nat) : Int32.ofNat i + 1 = Int32.ofNat (i + 1) := own_nadd i 1
theorem own_nidx {i : Nat} (h : i < 2147483648) : (Int32.ofNat i).toNatClampNeg = i := by
  show (Int32.ofNat i).toInt.toNat = i
  rw [own_nint h]; rfl
theorem own_nneg {i : Nat} (h : i < 2147483648) : ¬ Int32.ofNat i < 0 := by
  rw [Int32.lt_iff_toInt_lt, own_nint h]; show ¬ (i : Int) < 0; omega
theorem own_nsub {i j : Nat} (h : j ≤ i) : Int32.ofNat i - Int32.ofNat j = Int32.ofNat (i - j) := by
  have := own_nadd (i - j) j
  rw [Nat.sub_add_cancel h] at this
  rw [← this, Int32.add_sub_cancel]
theorem own_nmul (i j : Nat) : Int32.ofNat i * Int32.ofNat j = Int32.ofNat (i * j) := (Int32.ofNat_mul i j).symm
/-- a non-negative int is a natural -/
theorem own_nat (x : Int32) (h : ¬ x < 0) : ∃ n : Nat, n < 2147483648 ∧ x = Int32.ofNat n := by
  have h2 : 0 ≤ x.toInt := by rw [Int32.lt_iff_toInt_lt] at h; have : (0 : Int32).toInt = 0 := rfl; omega
  have h3 := Int32.toInt_lt x
  refine ⟨x.toInt.toNat, by omega, ?_⟩
  apply Int32.toInt_inj.mp
  rw [own_nint (by omega)]; omega
theorem own_msk (x : Int32) : ∃ n : Nat, n < 2147483648 ∧ x &&& 2147483647 = Int32.ofNat n := by
  apply own_nat
  rw [Int32.lt_iff_toInt_lt]
  have h : (x &&& 2147483647).toBitVec = x.toBitVec &&& 2147483647#32 := rfl
  have hn : (x.toBitVec &&& 2147483647#32).toNat < 2147483648 := by
    rw [BitVec.toNat_and]; exact Nat.lt_of_le_of_lt Nat.and_le_right (by decide)
  have : (x &&& 2147483647).toInt = ((x.toBitVec &&& 2147483647#32).toNat : Int) := by
    show (x &&& 2147483647).toBitVec.toInt = _
    rw [h, BitVec.toInt_eq_toNat_of_lt (by omega)]
  rw [this]; show ¬ ((_ : Nat) : Int) < 0; omega
theorem own_nmod {i n : Nat} (h : i < 2147483648) (hn : n < 2147483648) : Int32.ofNat i % Int32.ofNat n = Int32.ofNat (i % n) := by
  apply Int32.toInt_inj.mp
  have hl : i % n ≤ i := Nat.mod_le i n
  rw [Int32.toInt_mod, own_nint h, own_nint hn, own_nint (by omega)]
  exact (Int.ofNat_tmod i n).symm ▸ rfl
/-- small mask: x & (2^k - 1) -/
theorem own_and_lt (x : Int32) (m : Nat) (hm : m < 2147483648) : ∃ n : Nat, n ≤ m ∧ x &&& Int32.ofNat m = Int32.ofNat n := by
  have h : (x &&& Int32.ofNat m).toBitVec = x.toBitVec &&& BitVec.ofNat 32 m := rfl
  refine ⟨(x.toBitVec &&& BitVec.ofNat 32 m).toNat, ?_, ?_⟩
  · rw [BitVec.toNat_and]; exact Nat.le_trans Nat.and_le_right (by rw [BitVec.toNat_ofNat]; exact Nat.mod_le _ _)
  · apply Int32.toBitVec_inj.mp
    rw [h]
    show _ = BitVec.ofNat 32 _
    rw [BitVec.ofNat_toNat, BitVec.setWidth_eq]
theorem own_1add (i : Nat) : 1 + Int32.ofNat i = Int32.ofNat (i + 1) := by rw [Nat.add_comm]; exact own_nadd 1 i
theorem own_succsub (i : Nat) : Int32.ofNat (i + 1) - 1 = Int32.ofNat i := own_nsub (i := i + 1) (j := 1) (by omega)
theorem pd_0 : parseMethodDescriptor "(III)V" = some ⟨[.int, .int, .int], none⟩ := by decide +kernel
theorem pd_1 : parseMethodDescriptor "(J)J" = some ⟨[.long], some .long⟩ := by decide +kernel
theorem pd_2 : parseMethodDescriptor "([JIIJ)V" = some ⟨[(.array .long), .int, .int, .long], none⟩ := by decide +kernel
theorem pd_3 : parseMethodDescriptor "(JJ)J" = some ⟨[.long, .long], some .long⟩ := by decide +kernel
theorem pd_4 : parseMethodDescriptor "([JI[I)V" = some ⟨[(.array .long), .int, (.array .int)], none⟩ := by decide +kernel
theorem pd_5 : parseMethodDescriptor "([I[JI)V" = some ⟨[(.array .int), (.array .long), .int], none⟩ := by decide +kernel
theorem pd_6 : parseMethodDescriptor "([JII)I" = some ⟨[(.array .long), .int, .int], some .int⟩ := by decide +kernel
theorem pd_7 : parseMethodDescriptor "(I)I" = some ⟨[.int], some .int⟩ := by decide +kernel
theorem pd_8 : parseMethodDescriptor "(II)I" = some ⟨[.int, .int], some .int⟩ := by decide +kernel
theorem pd_9 : parseMethodDescriptor "([I)V" = some ⟨[(.array .int)], none⟩ := by decide +kernel
theorem pd_10 : parseMethodDescriptor "(JI)I" = some ⟨[.long, .int], some .int⟩ := by decide +kernel
theorem pd_11 : parseMethodDescriptor "([JILcom/example/divergence/divergence/engine/StateStore$Layout;I)[J" = some ⟨[(.array .long), .int, (.object "com/example/divergence/divergence/engine/StateStore$Layout"), .int], some (.array .long)⟩ := by decide +kernel
theorem pd_12 : parseMethodDescriptor "(I)V" = some ⟨[.int], none⟩ := by decide +kernel
theorem pd_13 : parseMethodDescriptor "(II)V" = some ⟨[.int, .int], none⟩ := by decide +kernel
theorem pd_14 : parseMethodDescriptor "([JJ)V" = some ⟨[(.array .long), .long], none⟩ := by decide +kernel
theorem pd_15 : parseMethodDescriptor "([II)V" = some ⟨[(.array .int), .int], none⟩ := by decide +kernel
theorem pd_16 : parseMethodDescriptor "([I)I" = some ⟨[(.array .int)], some .int⟩ := by decide +kernel
theorem pd_17 : parseMethodDescriptor "(I[I)V" = some ⟨[.int, (.array .int)], none⟩ := by decide +kernel
theorem pd_18 : parseMethodDescriptor "([I[I)Z" = some ⟨[(.array .int), (.array .int)], some .boolean⟩ := by decide +kernel
/-! arrays as functions -/
def lst {α : Type} (n : Nat) (F : Nat → α) : List α := (List.range n).map F
def fup {α : Type} (F : Nat → α) (i : Nat) (v : α) : Nat → α := fun j => if j = i then v else F j
theorem lst_len {α : Type} (n : Nat) (F : Nat → α) : (lst n F).length = n := by simp [lst]
theorem lst_get {α : Type} {n i : Nat} (F : Nat → α) (h : i < n) : (lst n F)[i]? = some (F i) := by
  unfold lst; rw [List.getElem?_map, List.getElem?_range h]; rfl
theorem lst_out {α : Type} {n i : Nat} (F : Nat → α) (h : n ≤ i) : (lst n F)[i]? = none := List.getElem?_eq_none (by rw [lst_len]; exact h)
theorem lst_congr {α : Type} {n : Nat} {F G : Nat → α} (h : ∀ i, i < n → F i = G i) : lst n F = lst n G := by
  unfold lst; exact List.map_congr_left fun i hi => h i (List.mem_range.mp hi)
theorem lst_set {α : Type} {n i : Nat} (F : Nat → α) (h : i < n) (v : α) : (lst n F).set i v = lst n (fup F i v) := by
  apply List.ext_getElem?
  intro j
  by_cases q : i = j
  · subst q; rw [List.getElem?_set_self (by rw [lst_len]; exact h), lst_get _ h]; simp [fup]
  · rw [List.getElem?_set_ne q]
    by_cases hj : j < n
    · rw [lst_get _ hj, lst_get _ hj]; unfold fup; rw [if_neg (fun z => q z.symm)]
    · rw [lst_out _ (by omega), lst_out _ (by omega)]
theorem lst_rep {α : Type} (n : Nat) (v : α) : List.replicate n v = lst n (fun _ => v) := by
  apply List.ext_getElem?
  intro j
  rw [List.getElem?_replicate]
  by_cases hj : j < n
  · rw [if_pos hj, lst_get _ hj]
  · rw [if_neg hj, lst_out _ (by omega)]
theorem lst_map {α β : Type} (n : Nat) (F : Nat → α) (f : α → β) : (lst n F).map f = lst n (fun i => f (F i)) := by simp [lst, Function.comp_def]
theorem lst_cpy {L L' : Nat} (F G : Nat → Int32) (h : L ≤ L') : cpy (lst L F) (lst L' G) 0 0 L = lst L' (fun k => if k < L then F k else G k) := by
  apply List.ext_getElem?
  intro j
  unfold cpy
  rw [List.take_zero, List.nil_append, List.drop_zero, Nat.zero_add, List.take_of_length_le (by rw [lst_len]; exact Nat.le_refl _)]
  by_cases hj : j < L
  · rw [List.getElem?_append_left (by rw [lst_len]; exact hj), lst_get _ hj, lst_get _ (by omega), if_pos hj]
  · rw [List.getElem?_append_right (by rw [lst_len]; omega), lst_len, List.getElem?_drop]
    by_cases hj2 : j < L'
    · rw [lst_get _ (by omega), lst_get _ hj2, if_neg hj]; congr 2; omega
    · rw [lst_out _ (by omega), lst_out _ (by omega)]
theorem lst_grown {L L' : Nat} {F : Nat → Int32} (h : ∀ i, L ≤ i → F i = -1) : lst L' (fun k => if L ≤ k ∧ k < L' then -1 else if k < L then F k else 0) = lst L' F := by
  apply lst_congr
  intro i hi
  by_cases q : L ≤ i
  · rw [if_pos ⟨q, hi⟩, h i q]
  · rw [if_neg (by omega), if_pos (by omega)]
def fil (F : Nat → Int32) (lo hi : Nat) (v : Int32) : Nat → Int32 := fun i => if lo ≤ i ∧ i < hi then v else F i
theorem fil_next (F : Nat → Int32) (lo i : Nat) (v : Int32) (h : lo ≤ i) : fup (fil F lo i v) i v = fil F lo (i + 1) v := by
  funext j
  unfold fup fil
  by_cases q : j = i
  · subst q; rw [if_pos rfl, if_pos (by omega)]
  · rw [if_neg q]
    have : (lo ≤ j ∧ j < i) ↔ (lo ≤ j ∧ j < i + 1) := by omega
    simp only [this]
theorem fil_none (F : Nat → Int32) (lo : Nat) (v : Int32) : F = fil F lo lo v := by
  funext j; unfold fil; rw [if_neg (by omega)]
/-- the links' ints: none, or one of the first s places -/
def Ix (s : Nat) (v : Int32) : Prop := v = -1 ∨ ∃ j, j < s ∧ v = Int32.ofNat j
theorem Ix.up {s : Nat} {v : Int32} (h : Ix s v) : Ix (s + 1) v := h.imp id fun ⟨j, h1, h2⟩ => ⟨j, by omega, h2⟩
theorem Ix_fup {s q : Nat} {F : Nat → Int32} (h : ∀ i, Ix s (F i)) : ∀ i, Ix (s + 1) (fup F q (Int32.ofNat s) i) := by
  intro i
  unfold fup
  split
  · exact Or.inr ⟨s, by omega, rfl⟩
  · exact (h i).up
theorem Ix.neg {s : Nat} {v : Int32} (h : Ix s v) (hs : s < 2147483648) (q : v < 0) : v = -1 := by
  rcases h with h | ⟨j, h1, h2⟩
  · exact h
  · subst h2; exact absurd q (own_nneg (by omega))
theorem Ix.pos {s : Nat} {v : Int32} (h : Ix s v) (q : ¬ v < 0) : ∃ j, j < s ∧ v = Int32.ofNat j := by
  rcases h with h | h
  · subst h; exact absurd (by decide) q
  · exact h
def adF (LO FO : Nat → Int32) (q s : Nat) : Nat → Int32 := if LO q < 0 then fup FO q (Int32.ofNat s) else FO
def adT (LO LT : Nat → Int32) (q s : Nat) : Nat → Int32 := if LO q < 0 then fup LT s (-1) else fup (fup LT s (-1)) (LO q).toNatClampNeg (Int32.ofNat s)
def drF (pv : Int32) (FO : Nat → Int32) (q : Nat) : Nat → Int32 := if pv < 0 then fup FO q (-1) else FO
def drT (pv : Int32) (LT : Nat → Int32) : Nat → Int32 := if pv < 0 then LT else fup LT pv.toNatClampNeg (-1)
theorem fup_out {F : Nat → Int32} {L L' q : Nat} {v : Int32} (h : ∀ i, L ≤ i → F i = -1) (hL : L ≤ L') (hq : q < L') : ∀ i, L' ≤ i → fup F q v i = -1 := by
  intro i hi; unfold fup; rw [if_neg (by omega)]; exact h i (by omega)
theorem adF_out {LO FO : Nat → Int32} {L L' q s : Nat} (h : ∀ i, L ≤ i → FO i = -1) (hL : L ≤ L') (hq : q < L') : ∀ i, L' ≤ i → adF LO FO q s i = -1 := by
  intro i hi; unfold adF; split
  · exact fup_out h hL hq i hi
  · exact h i (by omega)
theorem drF_out {pv : Int32} {FO : Nat → Int32} {L q : Nat} (h : ∀ i, L ≤ i → FO i = -1) (hq : q < L) : ∀ i, L ≤ i → drF pv FO q i = -1 := by
  intro i hi; unfold drF; split
  · exact fup_out h (Nat.le_refl _) hq i hi
  · exact h i hi
/-! ### fields of a word -/
def EE (n : Nat) : Int64 := Int64.ofNat n
def bt (x : Int64) (q : Nat) : Bool := x.toBitVec.getLsbD q
theorem bt_and (x y : Int64) (q : Nat) : bt (x &&& y) q = (bt x q && bt y q) := by unfold bt; rw [Int64.toBitVec_and, BitVec.getLsbD_and]
theorem bt_or (x y : Int64) (q : Nat) : bt (x ||| y) q = (bt x q || bt y q) := by unfold bt; rw [Int64.toBitVec_or, BitVec.getLsbD_or]
theorem bt_xor (x y : Int64) (q : Nat) : bt (x ^^^ y) q = (bt x q ^^ bt y q) := by unfold bt; rw [Int64.toBitVec_xor, BitVec.getLsbD_xor]
theorem bt_not (x : Int64) {q : Nat} (h : q < 64) : bt (x ^^^ (-1)) q = !bt x q := by
  rw [bt_xor]
  have : bt (-1) q = true := by
    unfold bt
    rw [show (-1 : Int64).toBitVec = BitVec.allOnes 64 from by decide, BitVec.getLsbD_allOnes]; simp [h]
  rw [this]; simp
theorem bt_ushr (x : Int64) {k : Nat} (h : k < 64) (q : Nat) : bt (XT.ushrL x (Int32.ofNat k)) q = bt x (k + q) := by
  have e : ∀ k : Fin 64, (((Int32.ofNat k.val).toInt64.toUInt64 &&& Int64.toUInt64 63).toBitVec % 64) = BitVec.ofNat 64 k.val := by decide +kernel
  unfold bt XT.ushrL
  show (x.toUInt64 >>> _).toBitVec.getLsbD q = _
  rw [UInt64.toBitVec_shiftRight, e ⟨k, h⟩]
  show (x.toBitVec >>> (BitVec.ofNat 64 k).toNat).getLsbD q = _
  rw [BitVec.toNat_ofNat, Nat.mod_eq_of_lt (by omega), BitVec.getLsbD_ushiftRight]
theorem bt_shl (x : Int64) {k : Nat} (hk : k < 64) {q : Nat} (h : q < 64) : bt (x <<< ((Int32.ofNat k).toInt64 &&& 63)) q = if q < k then false else bt x (q - k) := by
  have e : ∀ k : Fin 64, ((Int32.ofNat k.val).toInt64 &&& 63).toBitVec.smod 64 = BitVec.ofNat 64 k.val := by decide +kernel
  unfold bt
  rw [Int64.toBitVec_shiftLeft, e ⟨k, hk⟩]
  show (x.toBitVec <<< (BitVec.ofNat 64 k).toNat).getLsbD q = _
  rw [BitVec.toNat_ofNat, Nat.mod_eq_of_lt (by omega), BitVec.getLsbD_shiftLeft]
  by_cases z : q < k <;> simp [h, z]
theorem bt_EE (n : Nat) {q : Nat} (h : q < 64) : bt (EE n) q = n.testBit q := by
  unfold bt EE
  show (BitVec.ofNat 64 n).getLsbD q = _
  rw [BitVec.getLsbD_ofNat]; simp [h]
theorem bt_ext {x y : Int64} (h : ∀ q, q < 64 → bt x q = bt y q) : x = y := by
  apply Int64.toBitVec_inj.mp
  apply BitVec.eq_of_getLsbD_eq
  exact h
theorem EE_inj {m n : Nat} (hm : m < 2 ^ 64) (hn : n < 2 ^ 64) (h : EE m = EE n) : m = n := by
  have := congrArg (fun x : Int64 => x.toBitVec.toNat) h
  simp only [EE] at this
  rw [show (Int64.ofNat m).toBitVec.toNat = m % 2 ^ 64 from rfl, show (Int64.ofNat n).toBitVec.toNat = n % 2 ^ 64 from rfl, Nat.mod_eq_of_lt hm, Nat.mod_eq_of_lt hn] at this
  exact this
theorem bt_hi (x : Int64) {q : Nat} (h : 64 ≤ q) : bt x q = false := BitVec.getLsbD_of_ge _ _ h
theorem lim_EE {w : Nat} (h : w ≤ 32) : (1 : Int64) <<< ((Int32.ofNat w).toInt64 &&& 63) = EE (2 ^ w) := by
  have e : ∀ w : Fin 33, (1 : Int64) <<< ((Int32.ofNat w.val).toInt64 &&& 63) = EE (2 ^ w.val) := by decide +kernel
  exact e ⟨w, by omega⟩
theorem msk_EE {w : Nat} (h : w ≤ 32) : EE (2 ^ w) - 1 = EE (2 ^ w - 1) := by
  have e : ∀ w : Fin 33, EE (2 ^ w.val) - 1 = EE (2 ^ w.val - 1) := by decide +kernel
  exact e ⟨w, by omega⟩
theorem val_EE {v : Nat} (h : v < 2147483648) : (Int32.ofNat v).toInt64 = EE v := by
  apply Int64.toInt_inj.mp
  rw [Int32.toInt_toInt64, own_nint h]
  show (v : Int) = (Int64.ofNat v).toInt
  rw [Int64.toInt_ofNat_of_lt (by omega)]
theorem low_EE {v : Nat} (h : v < 2147483648) : (EE v).toInt32 = Int32.ofNat v := by
  rw [← val_EE h]; exact Int32.toInt32_toInt64 _
/-- three parts: lo below s, f of w bits, hi above -/
def p3 (lo f hi s w : Nat) : Nat := lo + 2 ^ s * (f + 2 ^ w * hi)
theorem p3_bit {lo f hi s w : Nat} (hl : lo < 2 ^ s) (hf : f < 2 ^ w) (q : Nat) : (p3 lo f hi s w).testBit q = if q < s then lo.testBit q else if q < s + w then f.testBit (q - s) else hi.testBit (q - s - w) := by
  unfold p3
  rw [Nat.add_comm lo, Nat.testBit_two_pow_mul_add _ hl]
  by_cases z : q < s
  · rw [if_pos z, if_pos z]
  · rw [if_neg z, if_neg z, Nat.add_comm f, Nat.testBit_two_pow_mul_add _ hf]
    by_cases y : q < s + w
    · rw [if_pos y, if_pos (by omega)]
    · rw [if_neg y, if_neg (by omega)]
theorem msk_bit (w q : Nat) : (2 ^ w - 1).testBit q = decide (q < w) := Nat.testBit_two_pow_sub_one w q
theorem fld_get {lo f hi s w : Nat} (hl : lo < 2 ^ s) (hf : f < 2 ^ w) (hs : s < 64) (hw : w ≤ 32) (hsw : s + w ≤ 64) (hf31 : f < 2147483648) : (XT.ushrL (EE (p3 lo f hi s w)) (Int32.ofNat s) &&& (EE (2 ^ w) - 1)).toInt32 = Int32.ofNat f := by
  rw [← low_EE hf31, msk_EE hw]
  congr 1
  apply bt_ext
  intro q hq
  rw [bt_and, bt_ushr _ hs, bt_EE _ hq, bt_EE _ hq, msk_bit]
  by_cases z : q < w
  · rw [bt_EE _ (by omega), p3_bit hl hf, if_neg (by omega), if_pos (by omega), show s + q - s = q by omega]; simp [z]
  · have : f.testBit q = false := Nat.testBit_lt_two_pow (Nat.lt_of_lt_of_le hf (Nat.pow_le_pow_right (by omega) (by omega)))
    rw [this]; simp [z]
theorem fld_set {lo f hi s w v : Nat} (hl : lo < 2 ^ s) (hf : f < 2 ^ w) (hv : v < 2 ^ w) (hs : s < 64) (hw : w ≤ 32) (hsw : s + w ≤ 64) (hv31 : v < 2147483648) :
    (EE (p3 lo f hi s w) &&& (((EE (2 ^ w) - 1) <<< ((Int32.ofNat s).toInt64 &&& 63)) ^^^ (-1))) ||| ((Int32.ofNat v).toInt64 <<< ((Int32.ofNat s).toInt64 &&& 63)) = EE (p3 lo v hi s w) := by
  rw [val_EE hv31, msk_EE hw]
  apply bt_ext
  intro q hq
  rw [bt_or, bt_and, bt_not _ hq, bt_shl _ hs hq, bt_shl _ hs hq, bt_EE _ hq, bt_EE _ hq, p3_bit hl hf, p3_bit hl hv]
  by_cases z : q < s
  · simp [z]
  · rw [if_neg z, if_neg z, if_neg z, if_neg z, bt_EE _ (by omega), bt_EE _ (by omega), msk_bit]
    by_cases y : q < s + w
    · rw [if_pos y, if_pos y]; simp [show q - s < w by omega]
    · have : v.testBit (q - s) = false := Nat.testBit_lt_two_pow (Nat.lt_of_lt_of_le hv (Nat.pow_le_pow_right (by omega) (by omega)))
      rw [if_neg y, if_neg y, this]; simp [show ¬ q - s < w by omega]
theorem fld_or {lo s v : Nat} (hl : lo < 2 ^ s) (hs : s < 64) (hv31 : v < 2147483648) : EE lo ||| ((Int32.ofNat v).toInt64 <<< ((Int32.ofNat s).toInt64 &&& 63)) = EE (lo + 2 ^ s * v) := by
  rw [val_EE hv31]
  apply bt_ext
  intro q hq
  rw [bt_or, bt_shl _ hs hq, bt_EE _ hq, bt_EE _ hq, Nat.add_comm lo, Nat.testBit_two_pow_mul_add _ hl]
  by_cases z : q < s
  · simp [z]
  · have : lo.testBit q = false := Nat.testBit_lt_two_pow (Nat.lt_of_lt_of_le hl (Nat.pow_le_pow_right (by omega) (by omega)))
    rw [if_neg z, if_neg z, bt_EE _ (by omega), this]; simp
/-! ### a vector of at most three places, packed (two places: v 2 = 0, t = false) -/
def wdp (t : Bool) (i : Nat) : Nat := if i = 2 ∧ t = true then 1 else 0
def shp (t : Bool) (w : Nat → Nat) (i : Nat) : Nat := if i = 0 then 0 else if i = 1 then w 0 else if t then 0 else w 0 + w 1
def wcn (t : Bool) : Nat := if t then 2 else 1
def enc (t : Bool) (w v : Nat → Nat) (k : Nat) : Nat := if k = 0 then (if t then v 0 + 2 ^ w 0 * v 1 else v 0 + 2 ^ w 0 * (v 1 + 2 ^ w 1 * v 2)) else v 2
def OKv (t : Bool) (w v : Nat → Nat) : Prop := (∀ i, i < 3 → v i < 2 ^ w i ∧ v i < 2147483648 ∧ w i ≤ 32) ∧ (t = false → w 0 + w 1 + w 2 ≤ 64)
def upv (v : Nat → Nat) (i x : Nat) : Nat → Nat := fun j => if j = i then x else v j
theorem pw_lt {a b s w : Nat} (ha : a < 2 ^ s) (hb : b < 2 ^ w) : a + 2 ^ s * b < 2 ^ (s + w) := by
  rw [Nat.pow_add]
  have h1 : b + 1 ≤ 2 ^ w := hb
  have h2 := Nat.mul_le_mul_left (2 ^ s) h1
  rw [Nat.mul_add] at h2
  omega
theorem enc_fld {t : Bool} {w v : Nat → Nat} (h : OKv t w v) {i : Nat} (hi : i < 3) (hw : 0 < w i) : ∃ lo hi', lo < 2 ^ shp t w i ∧ shp t w i < 64 ∧ shp t w i + w i ≤ 64 ∧ (∀ x, enc t w (upv v i x) (wdp t i) = p3 lo x hi' (shp t w i) (w i)) ∧ (enc t w v (wdp t i) = p3 lo (v i) hi' (shp t w i) (w i)) ∧ ∀ x k, k ≠ wdp t i → k < wcn t → enc t w (upv v i x) k = enc t w v k := by
  obtain ⟨h1, h2⟩ := h
  have a0 := h1 0 (by decide); have a1 := h1 1 (by decide); have a2 := h1 2 (by decide)
  rcases (by omega : i = 0 ∨ i = 1 ∨ i = 2) with rfl | rfl | rfl <;> cases t
  · refine ⟨0, v 1 + 2 ^ w 1 * v 2, by simp [shp], by simp [shp], by simp [shp]; omega, fun x => ?_, ?_, fun x k q r => ?_⟩
    · simp [enc, upv, wdp, shp, p3]
    · simp [enc, wdp, shp, p3]
    · simp [wdp] at q; simp [wcn] at r; omega
  · refine ⟨0, v 1, by simp [shp], by simp [shp], by simp [shp]; omega, fun x => ?_, ?_, fun x k q r => ?_⟩
    · simp [enc, upv, wdp, shp, p3]
    · simp [enc, wdp, shp, p3]
    · simp [wdp] at q; simp [enc, upv, q]
  · refine ⟨v 0, v 2, by simp [shp]; exact a0.1, by simp [shp]; omega, by simp [shp]; omega, fun x => ?_, ?_, fun x k q r => ?_⟩
    · simp [enc, upv, wdp, shp, p3]
    · simp [enc, wdp, shp, p3]
    · simp [wdp] at q; simp [wcn] at r; omega
  · refine ⟨v 0, 0, by simp [shp]; exact a0.1, by simp [shp]; omega, by simp [shp]; omega, fun x => ?_, ?_, fun x k q r => ?_⟩
    · simp [enc, upv, wdp, shp, p3]
    · simp [enc, wdp, shp, p3]
    · simp [wdp] at q; simp [enc, upv, q]
  · have := h2 rfl
    refine ⟨v 0 + 2 ^ w 0 * v 1, 0, by simp [shp]; exact pw_lt a0.1 a1.1, by simp [shp]; omega, by simp [shp]; omega, fun x => ?_, ?_, fun x k q r => ?_⟩
    · simp [enc, upv, wdp, shp, p3, Nat.pow_add, Nat.mul_add, Nat.mul_assoc, Nat.add_assoc]
    · simp [enc, wdp, shp, p3, Nat.pow_add, Nat.mul_add, Nat.mul_assoc, Nat.add_assoc]
    · simp [wdp] at q; simp [wcn] at r; omega
  · refine ⟨0, 0, by simp [shp], by simp [shp], by simp [shp]; omega, fun x => ?_, ?_, fun x k q r => ?_⟩
    · simp [enc, upv, wdp, shp, p3]
    · simp [enc, wdp, shp, p3]
    · simp [wdp] at q; simp [wcn] at r; have : k = 0 := by omega
      subst this; simp [enc, upv]
theorem enc_get {t : Bool} {w v : Nat → Nat} (h : OKv t w v) {i : Nat} (hi : i < 3) (hw : 0 < w i) : (XT.ushrL (EE (enc t w v (wdp t i))) (Int32.ofNat (shp t w i)) &&& (EE (2 ^ w i) - 1)).toInt32 = Int32.ofNat (v i) := by
  obtain ⟨lo, hi', h1, h2, h3, -, h5, -⟩ := enc_fld h hi hw
  rw [h5]; exact fld_get h1 (h.1 i hi).1 h2 (h.1 i hi).2.2 h3 (h.1 i hi).2.1
theorem enc_set {t : Bool} {w v : Nat → Nat} (h : OKv t w v) {i x : Nat} (hi : i < 3) (hw : 0 < w i) (hx : x < 2 ^ w i) (hx31 : x < 2147483648) :
    (EE (enc t w v (wdp t i)) &&& (((EE (2 ^ w i) - 1) <<< ((Int32.ofNat (shp t w i)).toInt64 &&& 63)) ^^^ (-1))) ||| ((Int32.ofNat x).toInt64 <<< ((Int32.ofNat (shp t w i)).toInt64 &&& 63)) = EE (enc t w (upv v i x) (wdp t i)) := by
  obtain ⟨lo, hi', h1, h2, h3, h4, h5, -⟩ := enc_fld h hi hw
  rw [h5, h4]; exact fld_set h1 (h.1 i hi).1 hx h2 (h.1 i hi).2.2 h3 hx31
theorem enc_keep {t : Bool} {w v : Nat → Nat} (h : OKv t w v) {i x k : Nat} (hi : i < 3) (hw : 0 < w i) (hk : k ≠ wdp t i) (hk2 : k < wcn t) : enc t w (upv v i x) k = enc t w v k := by
  obtain ⟨lo, hi', h1, h2, h3, h4, h5, h6⟩ := enc_fld h hi hw
  exact h6 x k hk hk2
theorem OKv_up {t : Bool} {w v : Nat → Nat} (h : OKv t w v) {i x : Nat} (hx : x < 2 ^ w i) (hx31 : x < 2147483648) : OKv t w (upv v i x) := by
  refine ⟨fun j hj => ?_, h.2⟩
  unfold upv
  by_cases q : j = i
  · subst q; rw [if_pos rfl]; exact ⟨hx, hx31, (h.1 _ hj).2.2⟩
  · rw [if_neg q]; exact h.1 j hj
/-- the first m places of v, the others 0 -/
def cutv (v : Nat → Nat) (m : Nat) : Nat → Nat := fun j => if j < m then v j else 0
theorem OKv_cut {t : Bool} {w v : Nat → Nat} (h : OKv t w v) (m : Nat) : OKv t w (cutv v m) := by
  refine ⟨fun j hj => ?_, h.2⟩
  unfold cutv
  by_cases q : j < m
  · rw [if_pos q]; exact h.1 j hj
  · rw [if_neg q]; exact ⟨Nat.two_pow_pos _, by decide, (h.1 j hj).2.2⟩
theorem cut_up (v : Nat → Nat) (m : Nat) : upv (cutv v m) m (v m) = cutv v (m + 1) := by
  funext j; unfold upv cutv
  by_cases q : j = m
  · subst q; rw [if_pos rfl, if_pos (by omega)]
  · rw [if_neg q]
    by_cases z : j < m
    · rw [if_pos z, if_pos (by omega)]
    · rw [if_neg z, if_neg (by omega)]
/-- a word whose own field is 0: the or sets it -/
theorem enc_or {t : Bool} {w v : Nat → Nat} (h : OKv t w v) {i x : Nat} (hi : i < 3) (hw : 0 < w i) (h0 : v i = 0) (hx : x < 2 ^ w i) (hx31 : x < 2147483648) : EE (enc t w v (wdp t i)) ||| ((Int32.ofNat x).toInt64 <<< ((Int32.ofNat (shp t w i)).toInt64 &&& 63)) = EE (enc t w (upv v i x) (wdp t i)) := by
  rw [← enc_set h hi hw hx hx31]
  congr 1
  obtain ⟨lo, hi', h1, h2, h3, h4, h5, -⟩ := enc_fld h hi hw
  rw [h5, h0, msk_EE (h.1 i hi).2.2]
  apply bt_ext
  intro q hq
  rw [bt_and, bt_not _ hq, bt_shl _ h2 hq, bt_EE _ hq, p3_bit h1 (Nat.two_pow_pos _)]
  by_cases z : q < shp t w i
  · simp [z]
  · rw [if_neg z, if_neg z, bt_EE _ (by omega), msk_bit]
    by_cases y : q < shp t w i + w i
    · rw [if_pos y]; simp
    · rw [if_neg y]; simp [show ¬ q - shp t w i < w i by omega]
theorem enc_inj {t : Bool} {w v u : Nat → Nat} (h : OKv t w v) (h' : OKv t w u) (e : ∀ k, k < wcn t → EE (enc t w v k) = EE (enc t w u k)) {i : Nat} (hi : i < 3) (hw : 0 < w i) : v i = u i := by
  have hk : wdp t i < wcn t := by unfold wdp wcn; cases t <;> simp; split <;> omega
  have e1 := enc_get h hi hw
  rw [e _ hk, enc_get h' hi hw] at e1
  exact ((own_neq (h'.1 i hi).2.1 (h.1 i hi).2.1).mp e1).symm
def f73 (x n : Int32) : Int32 := n - XT.ushr x 1
def f61 (x n : Int32) : Int32 := if x < 4 then f73 x n else f73 (XT.ushr x 2) (n + (-2))
def f48 (x n : Int32) : Int32 := if x < 16 then f61 x n else f61 (XT.ushr x 4) (n + (-4))
def f33 (x n : Int32) : Int32 := if x < 256 then f48 x n else f48 (XT.ushr x 8) (n + (-8))
def f18 (x n : Int32) : Int32 := if x < 65536 then f33 x n else f33 (XT.ushr x 16) (n + (-16))
def nlzF (x : Int32) : Int32 := if 0 < x then f18 x 31 else if x = 0 then 32 else 0
theorem own_ushr {n k : Nat} (h : n < 2147483648) (hk : k < 32) : XT.ushr (Int32.ofNat n) (Int32.ofNat k) = Int32.ofNat (n / 2 ^ k) := by
  have e1 : ∀ k : Fin 32, (Int32.ofNat k.val &&& 31).toUInt32 = UInt32.ofNat k.val := by decide +kernel
  have e : UInt32.ofNat n >>> UInt32.ofNat k = UInt32.ofNat (n / 2 ^ k) := by
    apply UInt32.toNat_inj.mp
    have hd : n / 2 ^ k ≤ n := Nat.div_le_self _ _
    rw [UInt32.toNat_shiftRight, UInt32.toNat_ofNat_of_lt' (by show n < 4294967296; omega), UInt32.toNat_ofNat_of_lt' (by show k < 4294967296; omega), UInt32.toNat_ofNat_of_lt' (by show n / 2 ^ k < 4294967296; omega), Nat.mod_eq_of_lt hk, Nat.shiftRight_eq_div_pow]
  unfold XT.ushr
  rw [e1 ⟨k, hk⟩]
  show (UInt32.ofNat n >>> UInt32.ofNat k).toInt32 = _
  rw [e]; rfl
theorem nz73 {x n : Nat} (h0 : 0 < x) (h1 : x < 4) (hn : 1 ≤ n) (hn2 : n < 1000) : ∃ b, b ≤ n ∧ f73 (Int32.ofNat x) (Int32.ofNat n) = Int32.ofNat (n - b) ∧ 2 ^ b ≤ x ∧ x < 2 * 2 ^ b := by
  have e : f73 (Int32.ofNat x) (Int32.ofNat n) = Int32.ofNat (n - x / 2) := by
    unfold f73
    rw [show XT.ushr (Int32.ofNat x) 1 = Int32.ofNat (x / 2 ^ 1) from own_ushr (by omega) (by decide)]
    exact own_nsub (by omega)
  refine ⟨x / 2, by omega, e, ?_, ?_⟩ <;> rcases (by omega : x = 1 ∨ x = 2 ∨ x = 3) with rfl | rfl | rfl <;> decide
theorem nz61 {x n : Nat} (h0 : 0 < x) (h1 : x < 16) (hn : 3 ≤ n) (hn2 : n < 1000) : ∃ b, b ≤ n ∧ f61 (Int32.ofNat x) (Int32.ofNat n) = Int32.ofNat (n - b) ∧ 2 ^ b ≤ x ∧ x < 2 * 2 ^ b := by
  unfold f61
  by_cases q : x < 4
  · rw [if_pos (show Int32.ofNat x < 4 from (own_nlt (n := 4) (by omega) (by decide)).mpr q)]; exact nz73 h0 q (by omega) hn2
  · rw [if_neg (show ¬ Int32.ofNat x < 4 from fun z => q ((own_nlt (n := 4) (by omega) (by decide)).mp z)), show XT.ushr (Int32.ofNat x) 2 = Int32.ofNat (x / 2 ^ 2) from own_ushr (by omega) (by decide), show Int32.ofNat n + (-2) = Int32.ofNat (n - 2) from (Int32.sub_eq_add_neg _ _).symm.trans (own_nsub (j := 2) (by omega))]
    obtain ⟨b, b1, b2, b3, b4⟩ := nz73 (x := x / 2 ^ 2) (n := n - 2) (by omega) (by omega) (by omega) (by omega)
    refine ⟨b + 2, by omega, by rw [b2]; congr 1; omega, ?_, ?_⟩
    · rw [Nat.pow_add]; omega
    · rw [Nat.pow_add]; omega
theorem nz48 {x n : Nat} (h0 : 0 < x) (h1 : x < 256) (hn : 7 ≤ n) (hn2 : n < 1000) : ∃ b, b ≤ n ∧ f48 (Int32.ofNat x) (Int32.ofNat n) = Int32.ofNat (n - b) ∧ 2 ^ b ≤ x ∧ x < 2 * 2 ^ b := by
  unfold f48
  by_cases q : x < 16
  · rw [if_pos (show Int32.ofNat x < 16 from (own_nlt (n := 16) (by omega) (by decide)).mpr q)]; exact nz61 h0 q (by omega) hn2
  · rw [if_neg (show ¬ Int32.ofNat x < 16 from fun z => q ((own_nlt (n := 16) (by omega) (by decide)).mp z)), show XT.ushr (Int32.ofNat x) 4 = Int32.ofNat (x / 2 ^ 4) from own_ushr (by omega) (by decide), show Int32.ofNat n + (-4) = Int32.ofNat (n - 4) from (Int32.sub_eq_add_neg _ _).symm.trans (own_nsub (j := 4) (by omega))]
    obtain ⟨b, b1, b2, b3, b4⟩ := nz61 (x := x / 2 ^ 4) (n := n - 4) (by omega) (by omega) (by omega) (by omega)
    refine ⟨b + 4, by omega, by rw [b2]; congr 1; omega, ?_, ?_⟩
    · rw [Nat.pow_add]; omega
    · rw [Nat.pow_add]; omega
theorem nz33 {x n : Nat} (h0 : 0 < x) (h1 : x < 65536) (hn : 15 ≤ n) (hn2 : n < 1000) : ∃ b, b ≤ n ∧ f33 (Int32.ofNat x) (Int32.ofNat n) = Int32.ofNat (n - b) ∧ 2 ^ b ≤ x ∧ x < 2 * 2 ^ b := by
  unfold f33
  by_cases q : x < 256
  · rw [if_pos (show Int32.ofNat x < 256 from (own_nlt (n := 256) (by omega) (by decide)).mpr q)]; exact nz48 h0 q (by omega) hn2
  · rw [if_neg (show ¬ Int32.ofNat x < 256 from fun z => q ((own_nlt (n := 256) (by omega) (by decide)).mp z)), show XT.ushr (Int32.ofNat x) 8 = Int32.ofNat (x / 2 ^ 8) from own_ushr (by omega) (by decide), show Int32.ofNat n + (-8) = Int32.ofNat (n - 8) from (Int32.sub_eq_add_neg _ _).symm.trans (own_nsub (j := 8) (by omega))]
    obtain ⟨b, b1, b2, b3, b4⟩ := nz48 (x := x / 2 ^ 8) (n := n - 8) (by omega) (by omega) (by omega) (by omega)
    refine ⟨b + 8, by omega, by rw [b2]; congr 1; omega, ?_, ?_⟩
    · rw [Nat.pow_add]; omega
    · rw [Nat.pow_add]; omega
theorem nz18 {x n : Nat} (h0 : 0 < x) (h1 : x < 2147483648) (hn : 31 ≤ n) (hn2 : n < 1000) : ∃ b, b ≤ n ∧ f18 (Int32.ofNat x) (Int32.ofNat n) = Int32.ofNat (n - b) ∧ 2 ^ b ≤ x ∧ x < 2 * 2 ^ b := by
  unfold f18
  by_cases q : x < 65536
  · rw [if_pos (show Int32.ofNat x < 65536 from (own_nlt (n := 65536) (by omega) (by decide)).mpr q)]; exact nz33 h0 q (by omega) hn2
  · rw [if_neg (show ¬ Int32.ofNat x < 65536 from fun z => q ((own_nlt (n := 65536) (by omega) (by decide)).mp z)), show XT.ushr (Int32.ofNat x) 16 = Int32.ofNat (x / 2 ^ 16) from own_ushr (by omega) (by decide), show Int32.ofNat n + (-16) = Int32.ofNat (n - 16) from (Int32.sub_eq_add_neg _ _).symm.trans (own_nsub (j := 16) (by omega))]
    obtain ⟨b, b1, b2, b3, b4⟩ := nz33 (x := x / 2 ^ 16) (n := n - 16) (by omega) (by omega) (by omega) (by omega)
    refine ⟨b + 16, by omega, by rw [b2]; congr 1; omega, ?_, ?_⟩
    · rw [Nat.pow_add]; omega
    · rw [Nat.pow_add]; omega
/-- the width that 'widen' asks for -/
theorem wid_spec {v : Nat} (h0 : 0 < v) (h1 : v < 2147483648) : ∃ w, 2 ≤ w ∧ w ≤ 32 ∧ (32 : Int32) - nlzF (Int32.ofNat v) + 1 = Int32.ofNat w ∧ v < 2 ^ w ∧ ∀ u, 2 ^ u ≤ v → u ≤ w := by
  obtain ⟨b, b1, b2, b3, b4⟩ := nz18 h0 h1 (n := 31) (by decide) (by decide)
  have hb : nlzF (Int32.ofNat v) = Int32.ofNat (31 - b) := by
    unfold nlzF
    rw [if_pos (show 0 < Int32.ofNat v from (own_nlt (i := 0) (by decide) h1).mpr h0)]; exact b2
  have hb31 : b < 31 := by
    rcases Nat.lt_or_ge b 31 with z | z
    · exact z
    · have := Nat.pow_le_pow_right (show 0 < 2 by decide) z; omega
  refine ⟨b + 2, by omega, by omega, ?_, ?_, fun u hu => ?_⟩
  · rw [hb, show (32 : Int32) - Int32.ofNat (31 - b) = Int32.ofNat (32 - (31 - b)) from own_nsub (i := 32) (by omega), own_nsucc]; congr 1; omega
  · rw [Nat.pow_add]; omega
  · rcases Nat.lt_or_ge u (b + 1) with z | z
    · omega
    · have := Nat.pow_le_pow_right (show 0 < 2 by decide) z; rw [Nat.pow_succ] at this; omega
/-! ### the table of slots: linear probing over 32 -/
def LkN (sl : Nat → Nat) (E : Nat → Prop) : Nat → Nat → Bool → Nat → Prop
  | 0, s, b, r => (sl s ≠ 0 ∧ E (sl s - 1) ∧ b = true ∧ r = sl s - 1) ∨ (sl s = 0 ∧ b = false ∧ r = s)
  | d + 1, s, b, r => sl s ≠ 0 ∧ ¬ E (sl s - 1) ∧ LkN sl E d ((s + 1) % 32) b r
def Lk (sl : Nat → Nat) (E : Nat → Prop) (s : Nat) (b : Bool) (r : Nat) : Prop := ∃ d, LkN sl E d s b r
theorem Lk.hit {sl : Nat → Nat} {E : Nat → Prop} {s : Nat} (h1 : sl s ≠ 0) (h2 : E (sl s - 1)) : Lk sl E s true (sl s - 1) := ⟨0, Or.inl ⟨h1, h2, rfl, rfl⟩⟩
theorem Lk.go {sl : Nat → Nat} {E : Nat → Prop} {s : Nat} {b : Bool} {r : Nat} (h1 : sl s ≠ 0) (h2 : ¬ E (sl s - 1)) (h : Lk sl E ((s + 1) % 32) b r) : Lk sl E s b r := h.elim fun d q => ⟨d + 1, h1, h2, q⟩
theorem Lk.out {sl : Nat → Nat} {E : Nat → Prop} {s : Nat} (h : sl s = 0) : Lk sl E s false s := ⟨0, Or.inr ⟨h, rfl, rfl⟩⟩
theorem Lk.ind {sl : Nat → Nat} {E : Nat → Prop} {motive : Nat → Bool → Nat → Prop} (hit : ∀ s, sl s ≠ 0 → E (sl s - 1) → motive s true (sl s - 1)) (go : ∀ s b r, sl s ≠ 0 → ¬ E (sl s - 1) → motive ((s + 1) % 32) b r → motive s b r) (out : ∀ s, sl s = 0 → motive s false s) {s : Nat} {b : Bool} {r : Nat} (L : Lk sl E s b r) : motive s b r := by
  obtain ⟨d, q⟩ := L
  induction d generalizing s with
  | zero =>
    rcases q with ⟨h1, h2, rfl, rfl⟩ | ⟨h1, rfl, rfl⟩
    · exact hit s h1 h2
    · exact out _ h1
  | succ d ih => exact go s b r q.1 q.2.1 (ih q.2.2)
def ups (sl : Nat → Nat) (r x : Nat) : Nat → Nat := fun s => if s = r then x else sl s
theorem Lk.keep {sl : Nat → Nat} {E : Nat → Prop} {s : Nat} {b : Bool} {j : Nat} (L : Lk sl E s b j) (hb : b = true) {r x : Nat} (hr : sl r = 0) : Lk (ups sl r x) E s true j := by
  refine Lk.ind (sl := sl) (E := E) (motive := fun s b j => b = true → Lk (ups sl r x) E s true j) ?_ ?_ ?_ L hb
  · intro s h1 h2 _
    have e : ups sl r x s = sl s := if_neg (fun q => h1 (by rw [q]; exact hr))
    rw [← e]; exact Lk.hit (by rw [e]; exact h1) (by rw [e]; exact h2)
  · intro s b r' h1 h2 ih hb
    have e : ups sl r x s = sl s := if_neg (fun q => h1 (by rw [q]; exact hr))
    exact Lk.go (by rw [e]; exact h1) (by rw [e]; exact h2) (ih hb)
  · intro s _ hb; cases hb
theorem Lk.zero {sl : Nat → Nat} {E : Nat → Prop} {s : Nat} {b : Bool} {r : Nat} (L : Lk sl E s b r) (hb : b = false) (hs : s < 32) : sl r = 0 ∧ r < 32 := by
  refine Lk.ind (sl := sl) (E := E) (motive := fun s b r => b = false → s < 32 → sl r = 0 ∧ r < 32) ?_ ?_ ?_ L hb hs
  · intro s _ _ hb; cases hb
  · intro s b r _ _ ih hb hs; exact ih hb (Nat.mod_lt _ (by decide))
  · intro s h _ hs; exact ⟨h, hs⟩
/-- the new entry is found where the look-up ran out -/
theorem Lk.new {sl : Nat → Nat} {E E' : Nat → Prop} {s : Nat} {b : Bool} {r m : Nat} (L : Lk sl E s b r) (hb : b = false) (hE : ∀ i, i < m → ¬ E' i) (hm : E' m) (he : ∀ s, sl s ≤ m) (hs : s < 32) : Lk (ups sl r (m + 1)) E' s true m := by
  have hr : sl r = 0 := (L.zero hb hs).1
  refine Lk.ind (sl := sl) (E := E) (motive := fun s b r => b = false → sl r = 0 → Lk (ups sl r (m + 1)) E' s true m) ?_ ?_ ?_ L hb hr
  · intro s _ _ hb; cases hb
  · intro s b r' h1 h2 ih hb hr
    have e : ups sl r' (m + 1) s = sl s := if_neg (fun q => h1 (by rw [q]; exact hr))
    have := he s
    exact Lk.go (by rw [e]; exact h1) (by rw [e]; exact hE _ (by omega)) (ih hb hr)
  · intro s h _ _
    have e : ups sl s (m + 1) s = m + 1 := if_pos rfl
    have z : Lk (ups sl s (m + 1)) E' s true (ups sl s (m + 1) s - 1) := Lk.hit (by rw [e]; omega) (by rw [e]; exact hm)
    rw [e] at z; exact z
/-- where a slot is empty and nothing matches, the look-up runs out -/
theorem Lk.ends {sl : Nat → Nat} {E : Nat → Prop} (hE : ∀ i, ¬ E i) {e : Nat} (he : e < 32) (h0 : sl e = 0) : ∀ (d s : Nat), s < 32 → (e + 32 - s) % 32 = d → ∃ r, Lk sl E s false r
  | 0, s, hs, hd => by
    have : s = e := by omega
    subst this; exact ⟨s, Lk.out h0⟩
  | d + 1, s, hs, hd => by
    by_cases q : sl s = 0
    · exact ⟨s, Lk.out q⟩
    · obtain ⟨r, L⟩ := Lk.ends hE he h0 d ((s + 1) % 32) (by omega) (by omega)
      exact ⟨r, Lk.go q (hE _) L⟩
def Tab (sl : Nat → Nat) (m : Nat) (hs : Nat → Nat) : Prop :=
  (∀ s, sl s ≤ m) ∧ (∀ j, j < m → ∀ E : Nat → Prop, E j → (∀ i, i < m → i ≠ j → ¬ E i) → Lk sl E (hs j) true j) ∧ ∃ p : Nat → Nat, ∀ s, sl s ≠ 0 → ∃ j, j < m ∧ s = p j
theorem Tab.ent {sl : Nat → Nat} {m : Nat} {hs : Nat → Nat} (T : Tab sl m hs) : ∀ s, sl s ≤ m := T.1
theorem Tab.fnd {sl : Nat → Nat} {m : Nat} {hs : Nat → Nat} (T : Tab sl m hs) : ∀ j, j < m → ∀ E : Nat → Prop, E j → (∀ i, i < m → i ≠ j → ¬ E i) → Lk sl E (hs j) true j := T.2.1
theorem Tab.emp {sl : Nat → Nat} {m : Nat} {hs : Nat → Nat} (T : Tab sl m hs) : ∃ p : Nat → Nat, ∀ s, sl s ≠ 0 → ∃ j, j < m ∧ s = p j := T.2.2
theorem Tab.none (hs : Nat → Nat) : Tab (fun _ => 0) 0 hs := ⟨fun _ => Nat.le_refl _, fun j hj => absurd hj (by omega), fun _ => 0, fun s h => absurd rfl h⟩
theorem Tab.free {sl : Nat → Nat} {m : Nat} {hs : Nat → Nat} (T : Tab sl m hs) (hm : m ≤ 3) : ∃ e, e < 32 ∧ sl e = 0 := by
  obtain ⟨p, hp⟩ := T.emp
  obtain ⟨e, h1, h2, h3, h4⟩ : ∃ e, e < 32 ∧ e ≠ p 0 ∧ e ≠ p 1 ∧ e ≠ p 2 := by
    by_cases a : p 0 = 0 ∨ p 1 = 0 ∨ p 2 = 0
    · by_cases b : p 0 = 1 ∨ p 1 = 1 ∨ p 2 = 1
      · by_cases c : p 0 = 2 ∨ p 1 = 2 ∨ p 2 = 2
        · exact ⟨3, by omega, by omega, by omega, by omega⟩
        · exact ⟨2, by omega, by omega, by omega, by omega⟩
      · exact ⟨1, by omega, by omega, by omega, by omega⟩
    · exact ⟨0, by omega, by omega, by omega, by omega⟩
  refine ⟨e, h1, Decidable.byContradiction fun q => ?_⟩
  obtain ⟨j, j1, j2⟩ := hp e q
  rcases (by omega : j = 0 ∨ j = 1 ∨ j = 2) with rfl | rfl | rfl
  · exact h2 j2
  · exact h3 j2
  · exact h4 j2
theorem Tab.miss {sl : Nat → Nat} {m : Nat} {hs : Nat → Nat} (T : Tab sl m hs) (hm : m ≤ 3) {s : Nat} (h : s < 32) {E : Nat → Prop} (hE : ∀ i, ¬ E i) : ∃ r, Lk sl E s false r := by
  obtain ⟨e, h1, h2⟩ := T.free hm
  exact Lk.ends hE h1 h2 _ s h rfl
theorem Tab.put {sl : Nat → Nat} {m : Nat} {hs hs' : Nat → Nat} (T : Tab sl m hs) {E : Nat → Prop} {r : Nat} (L : Lk sl E (hs' m) false r) (h : hs' m < 32) (hh : ∀ j, j < m → hs' j = hs j) : Tab (ups sl r (m + 1)) (m + 1) hs' := by
  have hr := (L.zero rfl h).1
  refine ⟨fun s => ?_, fun j hj E' h1 h2 => ?_, ?_⟩
  · unfold ups; split; · omega
    · have := T.ent s; omega
  · by_cases q : j = m
    · subst q; exact L.new rfl (fun i hi => h2 i (by omega) (by omega)) h1 T.ent h
    · rw [hh j (by omega)]
      exact (T.fnd j (by omega) E' h1 (fun i hi hne => h2 i (by omega) hne)).keep rfl hr
  · obtain ⟨p, hp⟩ := T.emp
    refine ⟨fun j => if j = m then r else p j, fun s hs0 => ?_⟩
    by_cases q : s = r
    · exact ⟨m, by omega, by rw [q]; simp⟩
    · rw [ups, if_neg q] at hs0
      obtain ⟨j, j1, j2⟩ := hp s hs0
      exact ⟨j, by omega, by show s = if j = m then r else p j; rw [if_neg (by omega)]; exact j2⟩
def mx1 (x c : Int64) : Int64 := (x ^^^ XT.ushrL x 33) * c
def mixF (x : Int64) : Int64 := mx1 (mx1 x (-49064778989728563)) (-4265267296055464877) ^^^ XT.ushrL (mx1 (mx1 x (-49064778989728563)) (-4265267296055464877)) 33
def hashF (W : Nat → Int64) : Nat → Int64
  | 0 => 0
  | n + 1 => mixF (hashF W n + W n)
def hF (W : Nat → Int64) (n : Nat) : Int32 := (hashF W n ^^^ XT.ushrL (hashF W n) 32).toInt32
def gfil {α : Type} (F : Nat → α) (lo hi : Nat) (v : α) : Nat → α := fun i => if lo ≤ i ∧ i < hi then v else F i
theorem gfil_next {α : Type} (F : Nat → α) (lo i : Nat) (v : α) (h : lo ≤ i) : fup (gfil F lo i v) i v = gfil F lo (i + 1) v := by
  funext j; unfold fup gfil
  by_cases q : j = i
  · rw [if_pos q, if_pos (by omega)]
  · rw [if_neg q]
    by_cases z : lo ≤ j ∧ j < i
    · rw [if_pos z, if_pos (by omega)]
    · rw [if_neg z, if_neg (by omega)]
theorem gfil_none {α : Type} (F : Nat → α) (lo : Nat) (v : α) : gfil F lo lo v = F := by funext j; unfold gfil; rw [if_neg (by omega)]
theorem lst_eq {α : Type} {n : Nat} {F G : Nat → α} (h : ∀ i, i < n → F i = G i) : lst n F = lst n G := by
  unfold lst; apply List.map_congr_left; intro i hi; exact h i (List.mem_range.mp hi)
theorem lst_gfil {α : Type} (n : Nat) (F : Nat → α) (v : α) : lst n (gfil F 0 n v) = lst n (fun _ => v) := lst_eq fun i hi => by unfold gfil; rw [if_pos (by omega)]
theorem D65_30_0 : Dc jdk_65_method_30_code 0 (.iload_n 1) 1 1 := dc (by decide +kernel) rfl
theorem D65_30_1 : Dc jdk_65_method_30_code 1 (.iload_n 2) 1 2 := dc (by decide +kernel) rfl
theorem D65_30_2 : Db jdk_65_method_30_code 2 (.if_icmp .le) 5 46 := db (44) (by decide +kernel) rfl (by decide) (by decide)
theorem D65_30_5 : Dc jdk_65_method_30_code 5 (.new 43) 3 8 := dc (by decide +kernel) rfl
theorem D65_30_8 : Dc jdk_65_method_30_code 8 (.dup) 1 9 := dc (by decide +kernel) rfl
theorem D65_30_9 : Dc jdk_65_method_30_code 9 (.new 45) 3 12 := dc (by decide +kernel) rfl
theorem D65_30_12 : Dc jdk_65_method_30_code 12 (.dup) 1 13 := dc (by decide +kernel) rfl
theorem D65_30_13 : Dc jdk_65_method_30_code 13 (.invokespecial 47) 3 16 := dc (by decide +kernel) rfl
theorem D65_30_16 : Dc jdk_65_method_30_code 16 (.ldc 48) 2 18 := dc (by decide +kernel) rfl
theorem D65_30_18 : Dc jdk_65_method_30_code 18 (.invokevirtual 50) 3 21 := dc (by decide +kernel) rfl
theorem D65_30_21 : Dc jdk_65_method_30_code 21 (.iload_n 1) 1 22 := dc (by decide +kernel) rfl
theorem D65_30_22 : Dc jdk_65_method_30_code 22 (.invokevirtual 54) 3 25 := dc (by decide +kernel) rfl
theorem D65_30_25 : Dc jdk_65_method_30_code 25 (.ldc 57) 2 27 := dc (by decide +kernel) rfl
theorem D65_30_27 : Dc jdk_65_method_30_code 27 (.invokevirtual 50) 3 30 := dc (by decide +kernel) rfl
theorem D65_30_30 : Dc jdk_65_method_30_code 30 (.iload_n 2) 1 31 := dc (by decide +kernel) rfl
theorem D65_30_31 : Dc jdk_65_method_30_code 31 (.invokevirtual 54) 3 34 := dc (by decide +kernel) rfl
theorem D65_30_34 : Dc jdk_65_method_30_code 34 (.ldc 59) 2 36 := dc (by decide +kernel) rfl
theorem D65_30_36 : Dc jdk_65_method_30_code 36 (.invokevirtual 50) 3 39 := dc (by decide +kernel) rfl
theorem D65_30_39 : Dc jdk_65_method_30_code 39 (.invokevirtual 61) 3 42 := dc (by decide +kernel) rfl
theorem D65_30_42 : Dc jdk_65_method_30_code 42 (.invokespecial 65) 3 45 := dc (by decide +kernel) rfl
theorem D65_30_45 : Dc jdk_65_method_30_code 45 (.athrow) 1 46 := dc (by decide +kernel) rfl
theorem D65_30_46 : Dc jdk_65_method_30_code 46 (.iload_n 1) 1 47 := dc (by decide +kernel) rfl
theorem D65_30_47 : Db jdk_65_method_30_code 47 (.ifCond .ge) 50 59 := db (12) (by decide +kernel) rfl (by decide) (by decide)
theorem D65_30_50 : Dc jdk_65_method_30_code 50 (.new 68) 3 53 := dc (by decide +kernel) rfl
theorem D65_30_53 : Dc jdk_65_method_30_code 53 (.dup) 1 54 := dc (by decide +kernel) rfl
theorem D65_30_54 : Dc jdk_65_method_30_code 54 (.iload_n 1) 1 55 := dc (by decide +kernel) rfl
theorem D65_30_55 : Dc jdk_65_method_30_code 55 (.invokespecial 70) 3 58 := dc (by decide +kernel) rfl
theorem D65_30_58 : Dc jdk_65_method_30_code 58 (.athrow) 1 59 := dc (by decide +kernel) rfl
theorem D65_30_59 : Dc jdk_65_method_30_code 59 (.iload_n 2) 1 60 := dc (by decide +kernel) rfl
theorem D65_30_60 : Dc jdk_65_method_30_code 60 (.iload_n 0) 1 61 := dc (by decide +kernel) rfl
theorem D65_30_61 : Db jdk_65_method_30_code 61 (.if_icmp .le) 64 73 := db (12) (by decide +kernel) rfl (by decide) (by decide)
theorem D65_30_64 : Dc jdk_65_method_30_code 64 (.new 68) 3 67 := dc (by decide +kernel) rfl
theorem D65_30_67 : Dc jdk_65_method_30_code 67 (.dup) 1 68 := dc (by decide +kernel) rfl
theorem D65_30_68 : Dc jdk_65_method_30_code 68 (.iload_n 2) 1 69 := dc (by decide +kernel) rfl
theorem D65_30_69 : Dc jdk_65_method_30_code 69 (.invokespecial 70) 3 72 := dc (by decide +kernel) rfl
theorem D65_30_72 : Dc jdk_65_method_30_code 72 (.athrow) 1 73 := dc (by decide +kernel) rfl
theorem D65_30_73 : Dc jdk_65_method_30_code 73 (.return_) 1 74 := dc (by decide +kernel) rfl
theorem pf_rng : plainFor (⟨"java/util/Arrays", "rangeCheck", "(III)V"⟩ : MethodName) = true := by decide +kernel
set_option maxRecDepth 65536 in
set_option maxHeartbeats 40000000 in
theorem ct_range (l : Launch) (Z : State) (a0 : Array Value) (hw : ∀ d ∈ tables_1, d.before a0 Z = true) (n0 : Nat) (h : Heap) (n lo hi : Nat) (h1 : lo ≤ hi) (h2 : hi ≤ n) (h3 : n ≤ 1000) :
    Ct l Z n0 (⟨"java/util/Arrays", "rangeCheck", "(III)V"⟩ : MethodName) jdk_65_method_30_code 3 none ({ frames := 0, cells := 0, slots := 0, locals := 0 } : Room) [.int (Int32.ofNat n), .int (Int32.ofNat lo), .int (Int32.ofNat hi)] h (fun v h' => v = none ∧ h = h') := by
  refine Ct.intro pf_rng [.val (.int (Int32.ofNat n)), .val (.int (Int32.ofNat lo)), .val (.int (Int32.ofNat hi))] (fun m => by first | (simp [entryFrame, mkF, argsToLocals, Value.category]; done) | (simp [entryFrame, mkF, argsToLocals, Value.category, maxLocals]; done) | rfl) ?_
  intro k hl K
  replace K : Ok k Z n0 "java/util/Arrays" ({ frames := 0, cells := 0, slots := 0, locals := 0 } : Room) jdk_65_method_30_code 3 none "rangeCheck" := K
  refine G.iloadN K D65_30_0 rfl ?_
  refine G.iloadN K D65_30_1 rfl ?_
  refine G.icmp_le K D65_30_2 (fun q1 => ?_) (fun q => absurd ((own_nlt (by omega) (by omega)).mp q) (by omega))
  refine G.iloadN K D65_30_46 rfl ?_
  refine G.if_ge K D65_30_47 (fun q2 => ?_) (fun q => absurd q (own_nneg (by omega)))
  refine G.iloadN K D65_30_59 rfl ?_
  refine G.iloadN K D65_30_60 rfl ?_
  refine G.icmp_le K D65_30_61 (fun q3 => ?_) (fun q => absurd ((own_nlt (by omega) (by omega)).mp q) (by omega))
  refine G.ret_void K D65_30_73 ?_
  exact ⟨rfl, rfl⟩
theorem D65_103_0 : Dc jdk_65_method_103_code 0 (.iconst 0) 1 1 := dc (by decide +kernel) rfl
theorem D65_103_1 : Dc jdk_65_method_103_code 1 (.istore_n 2) 1 2 := dc (by decide +kernel) rfl
theorem D65_103_2 : Dc jdk_65_method_103_code 2 (.aload_n 0) 1 3 := dc (by decide +kernel) rfl
theorem D65_103_3 : Dc jdk_65_method_103_code 3 (.arraylength) 1 4 := dc (by decide +kernel) rfl
theorem D65_103_4 : Dc jdk_65_method_103_code 4 (.istore_n 3) 1 5 := dc (by decide +kernel) rfl
theorem D65_103_5 : Dc jdk_65_method_103_code 5 (.iload_n 2) 1 6 := dc (by decide +kernel) rfl
theorem D65_103_6 : Dc jdk_65_method_103_code 6 (.iload_n 3) 1 7 := dc (by decide +kernel) rfl
theorem D65_103_7 : Db jdk_65_method_103_code 7 (.if_icmp .ge) 10 20 := db (13) (by decide +kernel) rfl (by decide) (by decide)
theorem D65_103_10 : Dc jdk_65_method_103_code 10 (.aload_n 0) 1 11 := dc (by decide +kernel) rfl
theorem D65_103_11 : Dc jdk_65_method_103_code 11 (.iload_n 2) 1 12 := dc (by decide +kernel) rfl
theorem D65_103_12 : Dc jdk_65_method_103_code 12 (.iload_n 1) 1 13 := dc (by decide +kernel) rfl
theorem D65_103_13 : Dc jdk_65_method_103_code 13 (.iastore) 1 14 := dc (by decide +kernel) rfl
theorem D65_103_14 : Dc jdk_65_method_103_code 14 (.iinc 2 1) 3 17 := dc (by decide +kernel) rfl
theorem D65_103_17 : Db jdk_65_method_103_code 17 (.goto) 20 5 := db (-12) (by decide +kernel) rfl (by decide) (by decide)
theorem D65_103_20 : Dc jdk_65_method_103_code 20 (.return_) 1 21 := dc (by decide +kernel) rfl
theorem pf_ct_fillI : plainFor (⟨"java/util/Arrays", "fill", "([II)V"⟩ : MethodName) = true := by decide +kernel
set_option maxRecDepth 65536 in
set_option maxHeartbeats 40000000 in
theorem ct_fillI (l : Launch) (Z : State) (a0 : Array Value) (hw : ∀ d ∈ tables_1, d.before a0 Z = true) (n0 : Nat) (h : Heap) (b : Addr) (n : Nat) (x : Int32) (F : Nat → Int32) (σ : List Ch) (hn : n ≤ 1000) (H : Hp n0 h ((b, Ia Z (lst n F)) :: σ)) :
    Ct l Z n0 (⟨"java/util/Arrays", "fill", "([II)V"⟩ : MethodName) jdk_65_method_103_code 4 none ({ frames := 0, cells := 0, slots := 0, locals := 0 } : Room) [.ref b, .int x] h (fun v h' => v = none ∧ Hp n0 h' ((b, Ia Z (lst n (fun _ => x))) :: σ)) := by
  refine Ct.intro pf_ct_fillI [.val (.ref b), .val (.int x), .unset, .unset] (fun m => by first | (simp [entryFrame, mkF, argsToLocals, Value.category]; done) | (simp [entryFrame, mkF, argsToLocals, Value.category, maxLocals]; done) | rfl) ?_
  intro k hl K
  replace K : Ok k Z n0 "java/util/Arrays" ({ frames := 0, cells := 0, slots := 0, locals := 0 } : Room) jdk_65_method_103_code 4 none "fill" := K
  refine G.iconst K D65_103_0 0 rfl ?_
  refine G.istoreN K D65_103_1 ([.val (.ref b), .val (.int x), .val (.int 0), .unset]) rfl ?_
  refine G.aloadN K D65_103_2 rfl rfl ?_
  refine G.alen K H (i := 0) rfl D65_103_3 (Int32.ofNat n) (by rw [List.length_map, lst_len]) ?_
  refine G.istoreN K D65_103_4 ([.val (.ref b), .val (.int x), .val (.int 0), .val (.int (Int32.ofNat n))]) rfl ?_
  have loop : ∀ (d i : Nat) (h2 : Heap), i + d = n → 0 ≤ i → Hp n0 h2 ((b, Ia Z (lst n (gfil F 0 i x))) :: σ) → G k n0 (fun v h' => v = none ∧ Hp n0 h' ((b, Ia Z (lst n (fun _ => x))) :: σ)) h2 0 0 5 [.val (.ref b), .val (.int x), .val (.int (Int32.ofNat i)), .val (.int (Int32.ofNat n))] [] := by
    intro d
    induction d with
    | zero =>
      intro i h2 hd hlo H2
      obtain rfl : n = i := by omega
      refine G.iloadN K D65_103_5 rfl ?_
      refine G.iloadN K D65_103_6 rfl ?_
      refine G.icmp_ge K D65_103_7 (fun q4 => ?_) (fun q => absurd ((own_nlt (by omega) (by omega)).mp q) (by omega))
      refine G.ret_void K D65_103_20 ?_
      exact ⟨rfl, by rw [← lst_gfil n F x]; exact H2⟩
    | succ d ih =>
      intro i h2 hd hlo H2
      have hip : i < 2147483648 := by omega
      refine G.iloadN K D65_103_5 rfl ?_
      refine G.iloadN K D65_103_6 rfl ?_
      refine G.icmp_ge K D65_103_7 (fun q => absurd ((own_nlt (by omega) (by omega)).mpr (by omega)) q) (fun q5 => ?_)
      refine G.aloadN K D65_103_10 rfl rfl ?_
      refine G.iloadN K D65_103_11 rfl ?_
      refine G.iloadN K D65_103_12 rfl ?_
      refine G.astore_i K H2 (i := 0) rfl (own_nneg hip) (by rw [own_nidx hip, lst_len]; omega) D65_103_13 ?_
      intro h6 H6
      rw [own_nidx hip, lst_set _ (by omega), gfil_next F 0 i x hlo] at H6
      change Hp n0 h6 ((b, Ia Z (lst n (gfil F 0 (i + 1) x))) :: σ) at H6
      refine G.iinc K D65_103_14 1 rfl rfl ([.val (.ref b), .val (.int x), .val (.int ((Int32.ofNat i) + 1)), .val (.int (Int32.ofNat n))]) rfl ?_
      refine G.goto K D65_103_17 ?_
      rw [own_nsucc i]
      exact ih (i + 1) _ (by omega) (by omega) H6
  exact loop (n - 0) 0 _ (by omega) (by omega) (by rw [gfil_none]; exact H)
theorem D65_101_0 : Dc jdk_65_method_101_code 0 (.iconst 0) 1 1 := dc (by decide +kernel) rfl
theorem D65_101_1 : Dc jdk_65_method_101_code 1 (.istore_n 3) 1 2 := dc (by decide +kernel) rfl
theorem D65_101_2 : Dc jdk_65_method_101_code 2 (.aload_n 0) 1 3 := dc (by decide +kernel) rfl
theorem D65_101_3 : Dc jdk_65_method_101_code 3 (.arraylength) 1 4 := dc (by decide +kernel) rfl
theorem D65_101_4 : Dc jdk_65_method_101_code 4 (.istore 4) 2 6 := dc (by decide +kernel) rfl
theorem D65_101_6 : Dc jdk_65_method_101_code 6 (.iload_n 3) 1 7 := dc (by decide +kernel) rfl
theorem D65_101_7 : Dc jdk_65_method_101_code 7 (.iload 4) 2 9 := dc (by decide +kernel) rfl
theorem D65_101_9 : Db jdk_65_method_101_code 9 (.if_icmp .ge) 12 22 := db (13) (by decide +kernel) rfl (by decide) (by decide)
theorem D65_101_12 : Dc jdk_65_method_101_code 12 (.aload_n 0) 1 13 := dc (by decide +kernel) rfl
theorem D65_101_13 : Dc jdk_65_method_101_code 13 (.iload_n 3) 1 14 := dc (by decide +kernel) rfl
theorem D65_101_14 : Dc jdk_65_method_101_code 14 (.lload_n 1) 1 15 := dc (by decide +kernel) rfl
theorem D65_101_15 : Dc jdk_65_method_101_code 15 (.lastore) 1 16 := dc (by decide +kernel) rfl
theorem D65_101_16 : Dc jdk_65_method_101_code 16 (.iinc 3 1) 3 19 := dc (by decide +kernel) rfl
theorem D65_101_19 : Db jdk_65_method_101_code 19 (.goto) 22 6 := db (-13) (by decide +kernel) rfl (by decide) (by decide)
theorem D65_101_22 : Dc jdk_65_method_101_code 22 (.return_) 1 23 := dc (by decide +kernel) rfl
theorem pf_ct_fillJ : plainFor (⟨"java/util/Arrays", "fill", "([JJ)V"⟩ : MethodName) = true := by decide +kernel
set_option maxRecDepth 65536 in
set_option maxHeartbeats 40000000 in
theorem ct_fillJ (l : Launch) (Z : State) (a0 : Array Value) (hw : ∀ d ∈ tables_1, d.before a0 Z = true) (n0 : Nat) (h : Heap) (b : Addr) (n : Nat) (x : Int64) (F : Nat → Int64) (σ : List Ch) (hn : n ≤ 1000) (H : Hp n0 h ((b, La Z (lst n F)) :: σ)) :
    Ct l Z n0 (⟨"java/util/Arrays", "fill", "([JJ)V"⟩ : MethodName) jdk_65_method_101_code 5 none ({ frames := 0, cells := 0, slots := 0, locals := 0 } : Room) [.ref b, .long x] h (fun v h' => v = none ∧ Hp n0 h' ((b, La Z (lst n (fun _ => x))) :: σ)) := by
  refine Ct.intro pf_ct_fillJ [.val (.ref b), .val (.long x), .second, .unset, .unset] (fun m => by first | (simp [entryFrame, mkF, argsToLocals, Value.category]; done) | (simp [entryFrame, mkF, argsToLocals, Value.category, maxLocals]; done) | rfl) ?_
  intro k hl K
  replace K : Ok k Z n0 "java/util/Arrays" ({ frames := 0, cells := 0, slots := 0, locals := 0 } : Room) jdk_65_method_101_code 5 none "fill" := K
  refine G.iconst K D65_101_0 0 rfl ?_
  refine G.istoreN K D65_101_1 ([.val (.ref b), .val (.long x), .second, .val (.int 0), .unset]) rfl ?_
  refine G.aloadN K D65_101_2 rfl rfl ?_
  refine G.alen K H (i := 0) rfl D65_101_3 (Int32.ofNat n) (by rw [List.length_map, lst_len]) ?_
  refine G.istore K D65_101_4 ([.val (.ref b), .val (.long x), .second, .val (.int 0), .val (.int (Int32.ofNat n))]) rfl ?_
  have loop : ∀ (d i : Nat) (h2 : Heap), i + d = n → 0 ≤ i → Hp n0 h2 ((b, La Z (lst n (gfil F 0 i x))) :: σ) → G k n0 (fun v h' => v = none ∧ Hp n0 h' ((b, La Z (lst n (fun _ => x))) :: σ)) h2 0 0 6 [.val (.ref b), .val (.long x), .second, .val (.int (Int32.ofNat i)), .val (.int (Int32.ofNat n))] [] := by
    intro d
    induction d with
    | zero =>
      intro i h2 hd hlo H2
      obtain rfl : n = i := by omega
      refine G.iloadN K D65_101_6 rfl ?_
      refine G.iload K D65_101_7 rfl ?_
      refine G.icmp_ge K D65_101_9 (fun q7 => ?_) (fun q => absurd ((own_nlt (by omega) (by omega)).mp q) (by omega))
      refine G.ret_void K D65_101_22 ?_
      exact ⟨rfl, by rw [← lst_gfil n F x]; exact H2⟩
    | succ d ih =>
      intro i h2 hd hlo H2
      have hip : i < 2147483648 := by omega
      refine G.iloadN K D65_101_6 rfl ?_
      refine G.iload K D65_101_7 rfl ?_
      refine G.icmp_ge K D65_101_9 (fun q => absurd ((own_nlt (by omega) (by omega)).mpr (by omega)) q) (fun q8 => ?_)
      refine G.aloadN K D65_101_12 rfl rfl ?_
      refine G.iloadN K D65_101_13 rfl ?_
      refine G.lloadN K D65_101_14 rfl ?_
      refine G.astore_l K H2 (i := 0) rfl (own_nneg hip) (by rw [own_nidx hip, lst_len]; omega) D65_101_15 ?_
      intro h9 H9
      rw [own_nidx hip, lst_set _ (by omega), gfil_next F 0 i x hlo] at H9
      change Hp n0 h9 ((b, La Z (lst n (gfil F 0 (i + 1) x))) :: σ) at H9
      refine G.iinc K D65_101_16 1 rfl rfl ([.val (.ref b), .val (.long x), .second, .val (.int ((Int32.ofNat i) + 1)), .val (.int (Int32.ofNat n))]) rfl ?_
      refine G.goto K D65_101_19 ?_
      rw [own_nsucc i]
      exact ih (i + 1) _ (by omega) (by omega) H9
  exact loop (n - 0) 0 _ (by omega) (by omega) (by rw [gfil_none]; exact H)
theorem D65_102_0 : Dc jdk_65_method_102_code 0 (.aload_n 0) 1 1 := dc (by decide +kernel) rfl
theorem D65_102_1 : Dc jdk_65_method_102_code 1 (.arraylength) 1 2 := dc (by decide +kernel) rfl
theorem D65_102_2 : Dc jdk_65_method_102_code 2 (.iload_n 1) 1 3 := dc (by decide +kernel) rfl
theorem D65_102_3 : Dc jdk_65_method_102_code 3 (.iload_n 2) 1 4 := dc (by decide +kernel) rfl
theorem D65_102_4 : Dc jdk_65_method_102_code 4 (.invokestatic 13) 3 7 := dc (by decide +kernel) rfl
theorem D65_102_7 : Dc jdk_65_method_102_code 7 (.iload_n 1) 1 8 := dc (by decide +kernel) rfl
theorem D65_102_8 : Dc jdk_65_method_102_code 8 (.istore 5) 2 10 := dc (by decide +kernel) rfl
theorem D65_102_10 : Dc jdk_65_method_102_code 10 (.iload 5) 2 12 := dc (by decide +kernel) rfl
theorem D65_102_12 : Dc jdk_65_method_102_code 12 (.iload_n 2) 1 13 := dc (by decide +kernel) rfl
theorem D65_102_13 : Db jdk_65_method_102_code 13 (.if_icmp .ge) 16 27 := db (14) (by decide +kernel) rfl (by decide) (by decide)
theorem D65_102_16 : Dc jdk_65_method_102_code 16 (.aload_n 0) 1 17 := dc (by decide +kernel) rfl
theorem D65_102_17 : Dc jdk_65_method_102_code 17 (.iload 5) 2 19 := dc (by decide +kernel) rfl
theorem D65_102_19 : Dc jdk_65_method_102_code 19 (.lload_n 3) 1 20 := dc (by decide +kernel) rfl
theorem D65_102_20 : Dc jdk_65_method_102_code 20 (.lastore) 1 21 := dc (by decide +kernel) rfl
theorem D65_102_21 : Dc jdk_65_method_102_code 21 (.iinc 5 1) 3 24 := dc (by decide +kernel) rfl
theorem D65_102_24 : Db jdk_65_method_102_code 24 (.goto) 27 10 := db (-14) (by decide +kernel) rfl (by decide) (by decide)
theorem D65_102_27 : Dc jdk_65_method_102_code 27 (.return_) 1 28 := dc (by decide +kernel) rfl
theorem pf_fillR : plainFor (⟨"java/util/Arrays", "fill", "([JIIJ)V"⟩ : MethodName) = true := by decide +kernel
set_option maxRecDepth 65536 in
set_option maxHeartbeats 40000000 in
theorem ct_fillR (l : Launch) (Z : State) (a0 : Array Value) (hw : ∀ d ∈ tables_1, d.before a0 Z = true) (n0 : Nat) (h : Heap) (b : Addr) (n lo hi : Nat) (x : Int64) (F : Nat → Int64) (σ : List Ch) (hn : n ≤ 1000) (h1 : lo ≤ hi) (h2 : hi ≤ n) (H : Hp n0 h ((b, La Z (lst n F)) :: σ)) :
    Ct l Z n0 (⟨"java/util/Arrays", "fill", "([JIIJ)V"⟩ : MethodName) jdk_65_method_102_code 6 none ({ frames := 1, cells := 0, slots := 0, locals := 16 } : Room) [.ref b, .int (Int32.ofNat lo), .int (Int32.ofNat hi), .long x] h (fun v h' => v = none ∧ Hp n0 h' ((b, La Z (lst n (gfil F lo hi x))) :: σ)) := by
  refine Ct.intro pf_fillR [.val (.ref b), .val (.int (Int32.ofNat lo)), .val (.int (Int32.ofNat hi)), .val (.long x), .second, .unset] (fun m => by first | (simp [entryFrame, mkF, argsToLocals, Value.category]; done) | (simp [entryFrame, mkF, argsToLocals, Value.category, maxLocals]; done) | rfl) ?_
  intro k hl K
  replace K : Ok k Z n0 "java/util/Arrays" ({ frames := 1, cells := 0, slots := 0, locals := 16 } : Room) jdk_65_method_102_code 6 none "fill" := K
  refine G.aloadN K D65_102_0 rfl rfl ?_
  refine G.alen K H (i := 0) rfl D65_102_1 (Int32.ofNat n) (by rw [List.length_map, lst_len]) ?_
  refine G.iloadN K D65_102_2 rfl ?_
  refine G.iloadN K D65_102_3 rfl ?_
  refine G.callS K hl (wd hw 111 rfl) (wd hw 112 rfl) (wd hw 26 rfl) (wd hw 113 rfl) (by decide) pd_0 (ct_range l Z a0 hw n0 _ n lo hi (by omega) (by omega) (by omega)) 0 rfl (by decide) (by decide) (by decide) (by decide) rfl rfl [.int (Int32.ofNat hi), .int (Int32.ofNat lo), .int (Int32.ofNat n)] rfl D65_102_4 ?_
  rintro _ _ ⟨rfl, rfl⟩
  change G k n0 _ h _ _ 7 [.val (.ref b), .val (.int (Int32.ofNat lo)), .val (.int (Int32.ofNat hi)), .val (.long x), .second, .unset] []
  refine G.iloadN K D65_102_7 rfl ?_
  refine G.istore K D65_102_8 ([.val (.ref b), .val (.int (Int32.ofNat lo)), .val (.int (Int32.ofNat hi)), .val (.long x), .second, .val (.int (Int32.ofNat lo))]) rfl ?_
  have loop : ∀ (d i : Nat) (h2 : Heap), i + d = hi → lo ≤ i → Hp n0 h2 ((b, La Z (lst n (gfil F lo i x))) :: σ) → G k n0 (fun v h' => v = none ∧ Hp n0 h' ((b, La Z (lst n (gfil F lo hi x))) :: σ)) h2 0 0 10 [.val (.ref b), .val (.int (Int32.ofNat lo)), .val (.int (Int32.ofNat hi)), .val (.long x), .second, .val (.int (Int32.ofNat i))] [] := by
    intro d
    induction d with
    | zero =>
      intro i h2 hd hlo H2
      obtain rfl : hi = i := by omega
      refine G.iload K D65_102_10 rfl ?_
      refine G.iloadN K D65_102_12 rfl ?_
      refine G.icmp_ge K D65_102_13 (fun q10 => ?_) (fun q => absurd ((own_nlt (by omega) (by omega)).mp q) (by omega))
      refine G.ret_void K D65_102_27 ?_
      exact ⟨rfl, H2⟩
    | succ d ih =>
      intro i h2 hd hlo H2
      have hip : i < 2147483648 := by omega
      refine G.iload K D65_102_10 rfl ?_
      refine G.iloadN K D65_102_12 rfl ?_
      refine G.icmp_ge K D65_102_13 (fun q => absurd ((own_nlt (by omega) (by omega)).mpr (by omega)) q) (fun q11 => ?_)
      refine G.aloadN K D65_102_16 rfl rfl ?_
      refine G.iload K D65_102_17 rfl ?_
      refine G.lloadN K D65_102_19 rfl ?_
      refine G.astore_l K H2 (i := 0) rfl (own_nneg hip) (by rw [own_nidx hip, lst_len]; omega) D65_102_20 ?_
      intro h12 H12
      rw [own_nidx hip, lst_set _ (by omega), gfil_next F lo i x hlo] at H12
      change Hp n0 h12 ((b, La Z (lst n (gfil F lo (i + 1) x))) :: σ) at H12
      refine G.iinc K D65_102_21 1 rfl rfl ([.val (.ref b), .val (.int (Int32.ofNat lo)), .val (.int (Int32.ofNat hi)), .val (.long x), .second, .val (.int ((Int32.ofNat i) + 1))]) rfl ?_
      refine G.goto K D65_102_24 ?_
      rw [own_nsucc i]
      exact ih (i + 1) _ (by omega) (by omega) H12
  exact loop (hi - lo) lo _ (by omega) (by omega) (by rw [gfil_none]; exact H)
theorem D98_14_0 : Dc prog_98_method_14_code 0 (.lload_n 0) 1 1 := dc (by decide +kernel) rfl
theorem D98_14_1 : Dc prog_98_method_14_code 1 (.lload_n 0) 1 2 := dc (by decide +kernel) rfl
theorem D98_14_2 : Dc prog_98_method_14_code 2 (.bipush 33) 2 4 := dc (by decide +kernel) rfl
theorem D98_14_4 : Dc prog_98_method_14_code 4 (.lushr) 1 5 := dc (by decide +kernel) rfl
theorem D98_14_5 : Dc prog_98_method_14_code 5 (.lxor) 1 6 := dc (by decide +kernel) rfl
theorem D98_14_6 : Dc prog_98_method_14_code 6 (.ldc2_w 173) 3 9 := dc (by decide +kernel) rfl
theorem D98_14_9 : Dc prog_98_method_14_code 9 (.lmul) 1 10 := dc (by decide +kernel) rfl
theorem D98_14_10 : Dc prog_98_method_14_code 10 (.lstore_n 2) 1 11 := dc (by decide +kernel) rfl
theorem D98_14_11 : Dc prog_98_method_14_code 11 (.lload_n 2) 1 12 := dc (by decide +kernel) rfl
theorem D98_14_12 : Dc prog_98_method_14_code 12 (.lload_n 2) 1 13 := dc (by decide +kernel) rfl
theorem D98_14_13 : Dc prog_98_method_14_code 13 (.bipush 33) 2 15 := dc (by decide +kernel) rfl
theorem D98_14_15 : Dc prog_98_method_14_code 15 (.lushr) 1 16 := dc (by decide +kernel) rfl
theorem D98_14_16 : Dc prog_98_method_14_code 16 (.lxor) 1 17 := dc (by decide +kernel) rfl
theorem D98_14_17 : Dc prog_98_method_14_code 17 (.ldc2_w 175) 3 20 := dc (by decide +kernel) rfl
theorem D98_14_20 : Dc prog_98_method_14_code 20 (.lmul) 1 21 := dc (by decide +kernel) rfl
theorem D98_14_21 : Dc prog_98_method_14_code 21 (.lstore_n 2) 1 22 := dc (by decide +kernel) rfl
theorem D98_14_22 : Dc prog_98_method_14_code 22 (.lload_n 2) 1 23 := dc (by decide +kernel) rfl
theorem D98_14_23 : Dc prog_98_method_14_code 23 (.lload_n 2) 1 24 := dc (by decide +kernel) rfl
theorem D98_14_24 : Dc prog_98_method_14_code 24 (.bipush 33) 2 26 := dc (by decide +kernel) rfl
theorem D98_14_26 : Dc prog_98_method_14_code 26 (.lushr) 1 27 := dc (by decide +kernel) rfl
theorem D98_14_27 : Dc prog_98_method_14_code 27 (.lxor) 1 28 := dc (by decide +kernel) rfl
theorem D98_14_28 : Dc prog_98_method_14_code 28 (.lreturn) 1 29 := dc (by decide +kernel) rfl
theorem pn_0 : plainName "com/example/divergence/divergence/engine/StateStore" = true := by first | (simp [plainName, overriddenIn]; done) | decide +kernel
set_option maxRecDepth 65536 in
set_option maxHeartbeats 40000000 in
theorem ct_mix (l : Launch) (Z : State) (a0 : Array Value) (hw : ∀ d ∈ tables_1, d.before a0 Z = true) (n0 : Nat) (h : Heap) (x : Int64) :
    Ct l Z n0 (⟨"com/example/divergence/divergence/engine/StateStore", "mix", "(J)J"⟩ : MethodName) prog_98_method_14_code 4 (some .long) ({ frames := 0, cells := 0, slots := 0, locals := 0 } : Room) [.long x] h (fun v h' => v = some (.long (mixF x)) ∧ h = h') := by
  refine Ct.intro (plainFor_of_name pn_0) [.val (.long x), .second, .unset, .unset] (fun m => by first | (simp [entryFrame, mkF, argsToLocals, Value.category]; done) | (simp [entryFrame, mkF, argsToLocals, Value.category, maxLocals]; done) | rfl) ?_
  intro k hl K
  replace K : Ok k Z n0 "com/example/divergence/divergence/engine/StateStore" ({ frames := 0, cells := 0, slots := 0, locals := 0 } : Room) prog_98_method_14_code 4 (some .long) "mix" := K
  refine G.lloadN K D98_14_0 rfl ?_
  refine G.lloadN K D98_14_1 rfl ?_
  refine G.bipush K D98_14_2 33 rfl ?_
  refine G.lushr K D98_14_4 ?_
  refine G.lxor K D98_14_5 ?_
  refine G.ldc2J K D98_14_6 (wd hw 127 rfl) ?_
  refine G.lmul K D98_14_9 ?_
  refine G.lstoreN K D98_14_10 ([.val (.long x), .second, .val (.long ((x ^^^ (XT.ushrL x (33 : Int32))) * (-49064778989728563))), .second]) rfl ?_
  refine G.lloadN K D98_14_11 rfl ?_
  refine G.lloadN K D98_14_12 rfl ?_
  refine G.bipush K D98_14_13 33 rfl ?_
  refine G.lushr K D98_14_15 ?_
  refine G.lxor K D98_14_16 ?_
  refine G.ldc2J K D98_14_17 (wd hw 128 rfl) ?_
  refine G.lmul K D98_14_20 ?_
  refine G.lstoreN K D98_14_21 ([.val (.long x), .second, .val (.long ((((x ^^^ (XT.ushrL x (33 : Int32))) * (-49064778989728563)) ^^^ (XT.ushrL ((x ^^^ (XT.ushrL x (33 : Int32))) * (-49064778989728563)) (33 : Int32))) * (-4265267296055464877))), .second]) rfl ?_
  refine G.lloadN K D98_14_22 rfl ?_
  refine G.lloadN K D98_14_23 rfl ?_
  refine G.bipush K D98_14_24 33 rfl ?_
  refine G.lushr K D98_14_26 ?_
  refine G.lxor K D98_14_27 ?_
  refine G.ret_long K D98_14_28 ?_
  exact ⟨rfl, rfl⟩
theorem D98_13_0 : Dc prog_98_method_13_code 0 (.lconst 0) 1 1 := dc (by decide +kernel) rfl
theorem D98_13_1 : Dc prog_98_method_13_code 1 (.lstore_n 3) 1 2 := dc (by decide +kernel) rfl
theorem D98_13_2 : Dc prog_98_method_13_code 2 (.iconst 0) 1 3 := dc (by decide +kernel) rfl
theorem D98_13_3 : Dc prog_98_method_13_code 3 (.istore 5) 2 5 := dc (by decide +kernel) rfl
theorem D98_13_5 : Dc prog_98_method_13_code 5 (.iload 5) 2 7 := dc (by decide +kernel) rfl
theorem D98_13_7 : Dc prog_98_method_13_code 7 (.iload_n 2) 1 8 := dc (by decide +kernel) rfl
theorem D98_13_8 : Db prog_98_method_13_code 8 (.if_icmp .ge) 11 29 := db (21) (by decide +kernel) rfl (by decide) (by decide)
theorem D98_13_11 : Dc prog_98_method_13_code 11 (.lload_n 3) 1 12 := dc (by decide +kernel) rfl
theorem D98_13_12 : Dc prog_98_method_13_code 12 (.aload_n 0) 1 13 := dc (by decide +kernel) rfl
theorem D98_13_13 : Dc prog_98_method_13_code 13 (.iload_n 1) 1 14 := dc (by decide +kernel) rfl
theorem D98_13_14 : Dc prog_98_method_13_code 14 (.iload 5) 2 16 := dc (by decide +kernel) rfl
theorem D98_13_16 : Dc prog_98_method_13_code 16 (.iadd) 1 17 := dc (by decide +kernel) rfl
theorem D98_13_17 : Dc prog_98_method_13_code 17 (.laload) 1 18 := dc (by decide +kernel) rfl
theorem D98_13_18 : Dc prog_98_method_13_code 18 (.ladd) 1 19 := dc (by decide +kernel) rfl
theorem D98_13_19 : Dc prog_98_method_13_code 19 (.invokestatic 169) 3 22 := dc (by decide +kernel) rfl
theorem D98_13_22 : Dc prog_98_method_13_code 22 (.lstore_n 3) 1 23 := dc (by decide +kernel) rfl
theorem D98_13_23 : Dc prog_98_method_13_code 23 (.iinc 5 1) 3 26 := dc (by decide +kernel) rfl
theorem D98_13_26 : Db prog_98_method_13_code 26 (.goto) 29 5 := db (-21) (by decide +kernel) rfl (by decide) (by decide)
theorem D98_13_29 : Dc prog_98_method_13_code 29 (.lload_n 3) 1 30 := dc (by decide +kernel) rfl
theorem D98_13_30 : Dc prog_98_method_13_code 30 (.lload_n 3) 1 31 := dc (by decide +kernel) rfl
theorem D98_13_31 : Dc prog_98_method_13_code 31 (.bipush 32) 2 33 := dc (by decide +kernel) rfl
theorem D98_13_33 : Dc prog_98_method_13_code 33 (.lushr) 1 34 := dc (by decide +kernel) rfl
theorem D98_13_34 : Dc prog_98_method_13_code 34 (.lxor) 1 35 := dc (by decide +kernel) rfl
theorem D98_13_35 : Dc prog_98_method_13_code 35 (.l2i) 1 36 := dc (by decide +kernel) rfl
theorem D98_13_36 : Dc prog_98_method_13_code 36 (.ireturn) 1 37 := dc (by decide +kernel) rfl
set_option maxRecDepth 65536 in
set_option maxHeartbeats 40000000 in
theorem ct_hash (l : Launch) (Z : State) (a0 : Array Value) (hw : ∀ d ∈ tables_1, d.before a0 Z = true) (n0 : Nat) (h : Heap) (fa : Addr) (N b c : Nat) (FF : Nat → Int64) (σ : List Ch) (hN : N ≤ 1000) (hb : b + c ≤ N) (H : Hp n0 h ((fa, La Z (lst N FF)) :: σ)) :
    Ct l Z n0 (⟨"com/example/divergence/divergence/engine/StateStore", "hash", "([JII)I"⟩ : MethodName) prog_98_method_13_code 6 (some .int) ({ frames := 1, cells := 0, slots := 0, locals := 20 } : Room) [.ref fa, .int (Int32.ofNat b), .int (Int32.ofNat c)] h (fun v h' => v = some (.int (hF (fun k => FF (b + k)) c)) ∧ h = h') := by
  refine Ct.intro (plainFor_of_name pn_0) [.val (.ref fa), .val (.int (Int32.ofNat b)), .val (.int (Int32.ofNat c)), .unset, .unset, .unset] (fun m => by first | (simp [entryFrame, mkF, argsToLocals, Value.category]; done) | (simp [entryFrame, mkF, argsToLocals, Value.category, maxLocals]; done) | rfl) ?_
  intro k hl K
  replace K : Ok k Z n0 "com/example/divergence/divergence/engine/StateStore" ({ frames := 1, cells := 0, slots := 0, locals := 20 } : Room) prog_98_method_13_code 6 (some .int) "hash" := K
  refine G.lconst K D98_13_0 0 rfl ?_
  refine G.lstoreN K D98_13_1 ([.val (.ref fa), .val (.int (Int32.ofNat b)), .val (.int (Int32.ofNat c)), .val (.long 0), .second, .unset]) rfl ?_
  refine G.iconst K D98_13_2 0 rfl ?_
  refine G.istore K D98_13_3 ([.val (.ref fa), .val (.int (Int32.ofNat b)), .val (.int (Int32.ofNat c)), .val (.long 0), .second, .val (.int 0)]) rfl ?_
  have loop : ∀ (d i : Nat), i + d = c → G k n0 (fun v h' => v = some (.int (hF (fun k => FF (b + k)) c)) ∧ h = h') h 0 0 5 [.val (.ref fa), .val (.int (Int32.ofNat b)), .val (.int (Int32.ofNat c)), .val (.long (hashF (fun k => FF (b + k)) i)), .second, .val (.int (Int32.ofNat i))] [] := by
    intro d
    induction d with
    | zero =>
      intro i hd
      obtain rfl : c = i := by omega
      refine G.iload K D98_13_5 rfl ?_
      refine G.iloadN K D98_13_7 rfl ?_
      refine G.icmp_ge K D98_13_8 (fun q13 => ?_) (fun q => absurd ((own_nlt (by omega) (by omega)).mp q) (by omega))
      refine G.lloadN K D98_13_29 rfl ?_
      refine G.lloadN K D98_13_30 rfl ?_
      refine G.bipush K D98_13_31 32 rfl ?_
      refine G.lushr K D98_13_33 ?_
      refine G.lxor K D98_13_34 ?_
      refine G.l2i K D98_13_35 ?_
      refine G.ret_int K D98_13_36 ?_
      exact ⟨rfl, rfl⟩
    | succ d ih =>
      intro i hd
      refine G.iload K D98_13_5 rfl ?_
      refine G.iloadN K D98_13_7 rfl ?_
      refine G.icmp_ge K D98_13_8 (fun q => absurd ((own_nlt (by omega) (by omega)).mpr (by omega)) q) (fun q14 => ?_)
      refine G.lloadN K D98_13_11 rfl ?_
      refine G.aloadN K D98_13_12 rfl rfl ?_
      refine G.iloadN K D98_13_13 rfl ?_
      refine G.iload K D98_13_14 rfl ?_
      refine G.iadd K D98_13_16 ?_
      rw [own_nadd b i]
      refine G.aload_l K H (i := 0) rfl (own_nneg (by omega)) (by rw [own_nidx (by omega)]; exact lst_get _ (by omega)) D98_13_17 ?_
      refine G.ladd K D98_13_18 ?_
      refine G.callS K hl (wd hw 124 rfl) (wd hw 125 rfl) (wd hw 4 rfl) (wd hw 126 rfl) (by decide) pd_1 (ct_mix l Z a0 hw n0 _ ((hashF (fun k => FF (b + k)) i) + (FF (b + i)))) 0 rfl (by decide) (by decide) (by decide) (by decide) rfl rfl [.long ((hashF (fun k => FF (b + k)) i) + (FF (b + i)))] rfl D98_13_19 ?_
      rintro _ _ ⟨rfl, rfl⟩
      change G k n0 _ h _ _ 22 [.val (.ref fa), .val (.int (Int32.ofNat b)), .val (.int (Int32.ofNat c)), .val (.long (hashF (fun k => FF (b + k)) i)), .second, .val (.int (Int32.ofNat i))] [.long (mixF ((hashF (fun k => FF (b + k)) i) + (FF (b + i))))]
      refine G.lstoreN K D98_13_22 ([.val (.ref fa), .val (.int (Int32.ofNat b)), .val (.int (Int32.ofNat c)), .val (.long (mixF ((hashF (fun k => FF (b + k)) i) + (FF (b + i))))), .second, .val (.int (Int32.ofNat i))]) rfl ?_
      refine G.iinc K D98_13_23 1 rfl rfl ([.val (.ref fa), .val (.int (Int32.ofNat b)), .val (.int (Int32.ofNat c)), .val (.long (mixF ((hashF (fun k => FF (b + k)) i) + (FF (b + i))))), .second, .val (.int ((Int32.ofNat i) + 1))]) rfl ?_
      refine G.goto K D98_13_26 ?_
      rw [own_nsucc i]
      exact ih (i + 1) (by omega)
  exact loop c 0 (by omega)
abbrev CSn : String := "com/example/divergence/divergence/engine/StateStore"
abbrev CYn : String := "com/example/divergence/divergence/engine/StateStore$Layout"
def NSY : List (String × String × String) := [("com/example/divergence/divergence/engine/StateStore$Layout", "words", "[I"), ("com/example/divergence/divergence/engine/StateStore$Layout", "shifts", "[I"), ("com/example/divergence/divergence/engine/StateStore$Layout", "limits", "[J"), ("com/example/divergence/divergence/engine/StateStore$Layout", "wordCount", "I")]
theorem cf_NSY {Z : State} {a0 : Array Value} (hw : ∀ d ∈ tables_1, d.before a0 Z = true) : Cf Z a0 "com/example/divergence/divergence/engine/StateStore$Layout" NSY := by
  refine ⟨fun f hf => ?_, by decide +kernel, fun f hf => ?_⟩
  · simp only [NSY, List.mem_cons, List.not_mem_nil, or_false] at hf
    rcases hf with rfl | rfl | rfl | rfl
    · exact Or.inr (wd hw 36 rfl)
    · exact Or.inr (wd hw 38 rfl)
    · exact Or.inr (wd hw 40 rfl)
    · exact Or.inr (wd hw 42 rfl)
  · simp only [NSY, List.mem_cons, List.not_mem_nil, or_false] at hf
    rcases hf with rfl | rfl | rfl | rfl
    · exact ⟨(.array .int), by decide +kernel⟩
    · exact ⟨(.array .int), by decide +kernel⟩
    · exact ⟨(.array .long), by decide +kernel⟩
    · exact ⟨.int, by decide +kernel⟩
def cutf {α : Type} (F G : Nat → α) (i : Nat) : Nat → α := fun j => if j < i then F j else G j
theorem cutf_next {α : Type} (F G : Nat → α) (i : Nat) : fup (cutf F G i) i (F i) = cutf F G (i + 1) := by
  funext j; unfold fup cutf
  by_cases q : j = i
  · rw [if_pos q, if_pos (by omega), q]
  · rw [if_neg q]
    by_cases z : j < i
    · rw [if_pos z, if_pos (by omega)]
    · rw [if_neg z, if_neg (by omega)]
theorem cutf_zero {α : Type} (F G : Nat → α) : cutf F G 0 = G := by funext j; unfold cutf; rw [if_neg (by omega)]
theorem lst_cutf {α : Type} (n : Nat) (F G : Nat → α) : lst n (cutf F G n) = lst n F := lst_eq fun i hi => by unfold cutf; rw [if_pos hi]
theorem wdp_lt (t : Bool) (i : Nat) : wdp t i < wcn t := by unfold wdp wcn; cases t <;> simp; split <;> omega
theorem wcn_le (t : Bool) : wcn t ≤ 2 := by unfold wcn; cases t <;> simp
theorem D99_3_0 : Dc prog_99_method_3_code 0 (.iconst 0) 1 1 := dc (by decide +kernel) rfl
theorem D99_3_1 : Dc prog_99_method_3_code 1 (.istore 4) 2 3 := dc (by decide +kernel) rfl
theorem D99_3_3 : Dc prog_99_method_3_code 3 (.iload 4) 2 5 := dc (by decide +kernel) rfl
theorem D99_3_5 : Dc prog_99_method_3_code 5 (.aload_n 3) 1 6 := dc (by decide +kernel) rfl
theorem D99_3_6 : Dc prog_99_method_3_code 6 (.arraylength) 1 7 := dc (by decide +kernel) rfl
theorem D99_3_7 : Db prog_99_method_3_code 7 (.if_icmp .ge) 10 50 := db (43) (by decide +kernel) rfl (by decide) (by decide)
theorem D99_3_10 : Dc prog_99_method_3_code 10 (.aload_n 3) 1 11 := dc (by decide +kernel) rfl
theorem D99_3_11 : Dc prog_99_method_3_code 11 (.iload 4) 2 13 := dc (by decide +kernel) rfl
theorem D99_3_13 : Dc prog_99_method_3_code 13 (.aload_n 1) 1 14 := dc (by decide +kernel) rfl
theorem D99_3_14 : Dc prog_99_method_3_code 14 (.iload_n 2) 1 15 := dc (by decide +kernel) rfl
theorem D99_3_15 : Dc prog_99_method_3_code 15 (.aload_n 0) 1 16 := dc (by decide +kernel) rfl
theorem D99_3_16 : Dc prog_99_method_3_code 16 (.getfield 7) 3 19 := dc (by decide +kernel) rfl
theorem D99_3_19 : Dc prog_99_method_3_code 19 (.iload 4) 2 21 := dc (by decide +kernel) rfl
theorem D99_3_21 : Dc prog_99_method_3_code 21 (.iaload) 1 22 := dc (by decide +kernel) rfl
theorem D99_3_22 : Dc prog_99_method_3_code 22 (.iadd) 1 23 := dc (by decide +kernel) rfl
theorem D99_3_23 : Dc prog_99_method_3_code 23 (.laload) 1 24 := dc (by decide +kernel) rfl
theorem D99_3_24 : Dc prog_99_method_3_code 24 (.aload_n 0) 1 25 := dc (by decide +kernel) rfl
theorem D99_3_25 : Dc prog_99_method_3_code 25 (.getfield 13) 3 28 := dc (by decide +kernel) rfl
theorem D99_3_28 : Dc prog_99_method_3_code 28 (.iload 4) 2 30 := dc (by decide +kernel) rfl
theorem D99_3_30 : Dc prog_99_method_3_code 30 (.iaload) 1 31 := dc (by decide +kernel) rfl
theorem D99_3_31 : Dc prog_99_method_3_code 31 (.lushr) 1 32 := dc (by decide +kernel) rfl
theorem D99_3_32 : Dc prog_99_method_3_code 32 (.aload_n 0) 1 33 := dc (by decide +kernel) rfl
theorem D99_3_33 : Dc prog_99_method_3_code 33 (.getfield 16) 3 36 := dc (by decide +kernel) rfl
theorem D99_3_36 : Dc prog_99_method_3_code 36 (.iload 4) 2 38 := dc (by decide +kernel) rfl
theorem D99_3_38 : Dc prog_99_method_3_code 38 (.laload) 1 39 := dc (by decide +kernel) rfl
theorem D99_3_39 : Dc prog_99_method_3_code 39 (.lconst 1) 1 40 := dc (by decide +kernel) rfl
theorem D99_3_40 : Dc prog_99_method_3_code 40 (.lsub) 1 41 := dc (by decide +kernel) rfl
theorem D99_3_41 : Dc prog_99_method_3_code 41 (.land) 1 42 := dc (by decide +kernel) rfl
theorem D99_3_42 : Dc prog_99_method_3_code 42 (.l2i) 1 43 := dc (by decide +kernel) rfl
theorem D99_3_43 : Dc prog_99_method_3_code 43 (.iastore) 1 44 := dc (by decide +kernel) rfl
theorem D99_3_44 : Dc prog_99_method_3_code 44 (.iinc 4 1) 3 47 := dc (by decide +kernel) rfl
theorem D99_3_47 : Db prog_99_method_3_code 47 (.goto) 50 3 := db (-44) (by decide +kernel) rfl (by decide) (by decide)
theorem D99_3_50 : Dc prog_99_method_3_code 50 (.return_) 1 51 := dc (by decide +kernel) rfl
theorem pn_1 : plainName "com/example/divergence/divergence/engine/StateStore$Layout" = true := by first | (simp [plainName, overriddenIn]; done) | decide +kernel
set_option maxRecDepth 65536 in
set_option maxHeartbeats 40000000 in
theorem ct_unpack (l : Launch) (Z : State) (a0 : Array Value) (hw : ∀ d ∈ tables_1, d.before a0 Z = true) (n0 : Nat) (h : Heap) (ly wa sa la fa va : Addr) (t : Bool) (w v : Nat → Nat) (N b : Nat) (FF : Nat → Int64) (GG : Nat → Int32) (σ : List Ch) (hO : OKv t w v) (hw1 : ∀ i, i < 3 → 0 < w i) (hN : N ≤ 1000) (hb : b + wcn t ≤ N) (hE : ∀ k, k < wcn t → FF (b + k) = EE (enc t w v k)) (H : Hp n0 h ((ly, Ob Z CYn NSY [.ref wa, .ref sa, .ref la, .int (Int32.ofNat (wcn t))]) :: (wa, Ia Z (lst 3 (fun i => Int32.ofNat (wdp t i)))) :: (sa, Ia Z (lst 3 (fun i => Int32.ofNat (shp t w i)))) :: (la, La Z (lst 3 (fun i => EE (2 ^ w i)))) :: (fa, La Z (lst N FF)) :: (va, Ia Z (lst 3 GG)) :: σ)) :
    Ct l Z n0 (⟨"com/example/divergence/divergence/engine/StateStore$Layout", "unpack", "([JI[I)V"⟩ : MethodName) prog_99_method_3_code 5 none ({ frames := 0, cells := 0, slots := 0, locals := 0 } : Room) [.ref ly, .ref fa, .int (Int32.ofNat b), .ref va] h (fun v_ h' => v_ = none ∧ Hp n0 h' ((ly, Ob Z CYn NSY [.ref wa, .ref sa, .ref la, .int (Int32.ofNat (wcn t))]) :: (wa, Ia Z (lst 3 (fun i => Int32.ofNat (wdp t i)))) :: (sa, Ia Z (lst 3 (fun i => Int32.ofNat (shp t w i)))) :: (la, La Z (lst 3 (fun i => EE (2 ^ w i)))) :: (fa, La Z (lst N FF)) :: (va, Ia Z (lst 3 (fun j => Int32.ofNat (v j)))) :: σ)) := by
  refine Ct.intro (plainFor_of_name pn_1) [.val (.ref ly), .val (.ref fa), .val (.int (Int32.ofNat b)), .val (.ref va), .unset] (fun m => by first | (simp [entryFrame, mkF, argsToLocals, Value.category]; done) | (simp [entryFrame, mkF, argsToLocals, Value.category, maxLocals]; done) | rfl) ?_
  intro k hl K
  replace K : Ok k Z n0 "com/example/divergence/divergence/engine/StateStore$Layout" ({ frames := 0, cells := 0, slots := 0, locals := 0 } : Room) prog_99_method_3_code 5 none "unpack" := K
  refine G.iconst K D99_3_0 0 rfl ?_
  refine G.istore K D99_3_1 ([.val (.ref ly), .val (.ref fa), .val (.int (Int32.ofNat b)), .val (.ref va), .val (.int 0)]) rfl ?_
  have loop : ∀ (d i : Nat) (h2 : Heap), i + d = 3 → 0 ≤ i → Hp n0 h2 ((ly, Ob Z CYn NSY [.ref wa, .ref sa, .ref la, .int (Int32.ofNat (wcn t))]) :: (wa, Ia Z (lst 3 (fun i => Int32.ofNat (wdp t i)))) :: (sa, Ia Z (lst 3 (fun i => Int32.ofNat (shp t w i)))) :: (la, La Z (lst 3 (fun i => EE (2 ^ w i)))) :: (fa, La Z (lst N FF)) :: (va, Ia Z (lst 3 (cutf (fun j => Int32.ofNat (v j)) GG i))) :: σ) → G k n0 (fun v_ h' => v_ = none ∧ Hp n0 h' ((ly, Ob Z CYn NSY [.ref wa, .ref sa, .ref la, .int (Int32.ofNat (wcn t))]) :: (wa, Ia Z (lst 3 (fun i => Int32.ofNat (wdp t i)))) :: (sa, Ia Z (lst 3 (fun i => Int32.ofNat (shp t w i)))) :: (la, La Z (lst 3 (fun i => EE (2 ^ w i)))) :: (fa, La Z (lst N FF)) :: (va, Ia Z (lst 3 (fun j => Int32.ofNat (v j)))) :: σ)) h2 0 0 3 [.val (.ref ly), .val (.ref fa), .val (.int (Int32.ofNat b)), .val (.ref va), .val (.int (Int32.ofNat i))] [] := by
    intro d
    induction d with
    | zero =>
      intro i h2 hd hlo H2
      obtain rfl : i = 3 := by omega
      refine G.iload K D99_3_3 rfl ?_
      refine G.aloadN K D99_3_5 rfl rfl ?_
      refine G.alen K H2 (i := 5) rfl D99_3_6 (Int32.ofNat 3) (by rw [List.length_map, lst_len]) ?_
      refine G.icmp_ge K D99_3_7 (fun q15 => ?_) (fun q => absurd ((own_nlt (by omega) (by omega)).mp q) (by omega))
      refine G.ret_void K D99_3_50 ?_
      exact ⟨rfl, by rw [← lst_cutf 3 (fun j => Int32.ofNat (v j)) GG]; exact H2⟩
    | succ d ih =>
      intro i h2 hd hlo H2
      have hip : i < 2147483648 := by omega
      have hwd := wdp_lt t i
      refine G.iload K D99_3_3 rfl ?_
      refine G.aloadN K D99_3_5 rfl rfl ?_
      refine G.alen K H2 (i := 5) rfl D99_3_6 (Int32.ofNat 3) (by rw [List.length_map, lst_len]) ?_
      refine G.icmp_ge K D99_3_7 (fun q => absurd ((own_nlt (by omega) (by omega)).mpr (by omega)) q) (fun q16 => ?_)
      refine G.aloadN K D99_3_10 rfl rfl ?_
      refine G.iload K D99_3_11 rfl ?_
      refine G.aloadN K D99_3_13 rfl rfl ?_
      refine G.iloadN K D99_3_14 rfl ?_
      refine G.aloadN K D99_3_15 rfl rfl ?_
      refine G.getF K (host := "") (Or.inl (wd hw 35 rfl)) H2 (i := 0) rfl (j := 0) rfl rfl D99_3_16 ?_
      refine G.iload K D99_3_19 rfl ?_
      refine G.aload_i K H2 (i := 1) rfl (own_nneg (by omega)) (by rw [own_nidx (by omega)]; exact lst_get _ (by omega)) D99_3_21 ?_
      refine G.iadd K D99_3_22 ?_
      rw [own_nadd b (wdp t i)]
      refine G.aload_l K H2 (i := 4) rfl (own_nneg (by omega)) (by rw [own_nidx (by omega)]; exact lst_get _ (by omega)) D99_3_23 ?_
      refine G.aloadN K D99_3_24 rfl rfl ?_
      refine G.getF K (host := "") (Or.inl (wd hw 37 rfl)) H2 (i := 0) rfl (j := 1) rfl rfl D99_3_25 ?_
      refine G.iload K D99_3_28 rfl ?_
      refine G.aload_i K H2 (i := 2) rfl (own_nneg (by omega)) (by rw [own_nidx (by omega)]; exact lst_get _ (by omega)) D99_3_30 ?_
      refine G.lushr K D99_3_31 ?_
      refine G.aloadN K D99_3_32 rfl rfl ?_
      refine G.getF K (host := "") (Or.inl (wd hw 39 rfl)) H2 (i := 0) rfl (j := 2) rfl rfl D99_3_33 ?_
      refine G.iload K D99_3_36 rfl ?_
      refine G.aload_l K H2 (i := 3) rfl (own_nneg (by omega)) (by rw [own_nidx (by omega)]; exact lst_get _ (by omega)) D99_3_38 ?_
      refine G.lconst K D99_3_39 1 rfl ?_
      refine G.lsub K D99_3_40 ?_
      refine G.land K D99_3_41 ?_
      refine G.l2i K D99_3_42 ?_
      rw [hE (wdp t i) (wdp_lt t i), enc_get hO (by omega) (hw1 i (by omega))]
      refine G.astore_i K H2 (i := 5) rfl (own_nneg hip) (by rw [own_nidx hip, lst_len]; omega) D99_3_43 ?_
      intro h17 H17
      rw [own_nidx hip, lst_set _ (by omega), show fup (cutf (fun j => Int32.ofNat (v j)) GG i) i (Int32.ofNat (v i)) = cutf (fun j => Int32.ofNat (v j)) GG (i + 1) from cutf_next _ _ i] at H17
      change Hp n0 h17 ((ly, Ob Z CYn NSY [.ref wa, .ref sa, .ref la, .int (Int32.ofNat (wcn t))]) :: (wa, Ia Z (lst 3 (fun i => Int32.ofNat (wdp t i)))) :: (sa, Ia Z (lst 3 (fun i => Int32.ofNat (shp t w i)))) :: (la, La Z (lst 3 (fun i => EE (2 ^ w i)))) :: (fa, La Z (lst N FF)) :: (va, Ia Z (lst 3 (cutf (fun j => Int32.ofNat (v j)) GG (i + 1)))) :: σ) at H17
      refine G.iinc K D99_3_44 1 rfl rfl ([.val (.ref ly), .val (.ref fa), .val (.int (Int32.ofNat b)), .val (.ref va), .val (.int ((Int32.ofNat i) + 1))]) rfl ?_
      refine G.goto K D99_3_47 ?_
      rw [own_nsucc i]
      exact ih (i + 1) _ (by omega) (by omega) H17
  exact loop (3 - 0) 0 _ (by omega) (by omega) (by rw [cutf_zero]; exact H)
def pkF (FF : Nat → Int64) (b : Nat) (t : Bool) (w v : Nat → Nat) : Nat → Int64 := fun k => if b ≤ k ∧ k < b + wcn t then EE (enc t w v (k - b)) else FF k
theorem enc_congr {t : Bool} {w v u : Nat → Nat} (h : ∀ i, i < 3 → v i = u i) (k : Nat) : enc t w v k = enc t w u k := by
  unfold enc; rw [h 0 (by decide), h 1 (by decide), h 2 (by decide)]
theorem pkF_zero (FF : Nat → Int64) (b : Nat) (t : Bool) (w v : Nat → Nat) : gfil FF b (b + wcn t) 0 = pkF FF b t w (cutv v 0) := by
  funext k; unfold gfil pkF
  by_cases q : b ≤ k ∧ k < b + wcn t
  · rw [if_pos q, if_pos q]
    have : enc t w (cutv v 0) (k - b) = 0 := by unfold enc cutv; cases t <;> simp
    rw [this]; rfl
  · rw [if_neg q, if_neg q]
theorem pkF_next {FF : Nat → Int64} {b : Nat} {t : Bool} {w v : Nat → Nat} (h : OKv t w v) {i : Nat} (hi : i < 3) (hw : 0 < w i) : fup (pkF FF b t w (cutv v i)) (b + wdp t i) (EE (enc t w (upv (cutv v i) i (v i)) (wdp t i))) = pkF FF b t w (cutv v (i + 1)) := by
  have hl := wdp_lt t i
  rw [← cut_up v i]
  funext k; unfold fup pkF
  by_cases q : k = b + wdp t i
  · rw [if_pos q, if_pos (by omega), q, show b + wdp t i - b = wdp t i by omega]
  · rw [if_neg q]
    by_cases z : b ≤ k ∧ k < b + wcn t
    · rw [if_pos z, if_pos z, enc_keep (OKv_cut h i) hi hw (by omega) (by omega)]
    · rw [if_neg z, if_neg z]
theorem D99_2_0 : Dc prog_99_method_2_code 0 (.aload_n 2) 1 1 := dc (by decide +kernel) rfl
theorem D99_2_1 : Dc prog_99_method_2_code 1 (.iload_n 3) 1 2 := dc (by decide +kernel) rfl
theorem D99_2_2 : Dc prog_99_method_2_code 2 (.iload_n 3) 1 3 := dc (by decide +kernel) rfl
theorem D99_2_3 : Dc prog_99_method_2_code 3 (.aload_n 0) 1 4 := dc (by decide +kernel) rfl
theorem D99_2_4 : Dc prog_99_method_2_code 4 (.getfield 22) 3 7 := dc (by decide +kernel) rfl
theorem D99_2_7 : Dc prog_99_method_2_code 7 (.iadd) 1 8 := dc (by decide +kernel) rfl
theorem D99_2_8 : Dc prog_99_method_2_code 8 (.lconst 0) 1 9 := dc (by decide +kernel) rfl
theorem D99_2_9 : Dc prog_99_method_2_code 9 (.invokestatic 26) 3 12 := dc (by decide +kernel) rfl
theorem D99_2_12 : Dc prog_99_method_2_code 12 (.iconst 0) 1 13 := dc (by decide +kernel) rfl
theorem D99_2_13 : Dc prog_99_method_2_code 13 (.istore 4) 2 15 := dc (by decide +kernel) rfl
theorem D99_2_15 : Dc prog_99_method_2_code 15 (.iload 4) 2 17 := dc (by decide +kernel) rfl
theorem D99_2_17 : Dc prog_99_method_2_code 17 (.aload_n 1) 1 18 := dc (by decide +kernel) rfl
theorem D99_2_18 : Dc prog_99_method_2_code 18 (.arraylength) 1 19 := dc (by decide +kernel) rfl
theorem D99_2_19 : Db prog_99_method_2_code 19 (.if_icmp .ge) 22 55 := db (36) (by decide +kernel) rfl (by decide) (by decide)
theorem D99_2_22 : Dc prog_99_method_2_code 22 (.aload_n 2) 1 23 := dc (by decide +kernel) rfl
theorem D99_2_23 : Dc prog_99_method_2_code 23 (.iload_n 3) 1 24 := dc (by decide +kernel) rfl
theorem D99_2_24 : Dc prog_99_method_2_code 24 (.aload_n 0) 1 25 := dc (by decide +kernel) rfl
theorem D99_2_25 : Dc prog_99_method_2_code 25 (.getfield 7) 3 28 := dc (by decide +kernel) rfl
theorem D99_2_28 : Dc prog_99_method_2_code 28 (.iload 4) 2 30 := dc (by decide +kernel) rfl
theorem D99_2_30 : Dc prog_99_method_2_code 30 (.iaload) 1 31 := dc (by decide +kernel) rfl
theorem D99_2_31 : Dc prog_99_method_2_code 31 (.iadd) 1 32 := dc (by decide +kernel) rfl
theorem D99_2_32 : Dc prog_99_method_2_code 32 (.dup2) 1 33 := dc (by decide +kernel) rfl
theorem D99_2_33 : Dc prog_99_method_2_code 33 (.laload) 1 34 := dc (by decide +kernel) rfl
theorem D99_2_34 : Dc prog_99_method_2_code 34 (.aload_n 1) 1 35 := dc (by decide +kernel) rfl
theorem D99_2_35 : Dc prog_99_method_2_code 35 (.iload 4) 2 37 := dc (by decide +kernel) rfl
theorem D99_2_37 : Dc prog_99_method_2_code 37 (.iaload) 1 38 := dc (by decide +kernel) rfl
theorem D99_2_38 : Dc prog_99_method_2_code 38 (.i2l) 1 39 := dc (by decide +kernel) rfl
theorem D99_2_39 : Dc prog_99_method_2_code 39 (.aload_n 0) 1 40 := dc (by decide +kernel) rfl
theorem D99_2_40 : Dc prog_99_method_2_code 40 (.getfield 13) 3 43 := dc (by decide +kernel) rfl
theorem D99_2_43 : Dc prog_99_method_2_code 43 (.iload 4) 2 45 := dc (by decide +kernel) rfl
theorem D99_2_45 : Dc prog_99_method_2_code 45 (.iaload) 1 46 := dc (by decide +kernel) rfl
theorem D99_2_46 : Dc prog_99_method_2_code 46 (.lshl) 1 47 := dc (by decide +kernel) rfl
theorem D99_2_47 : Dc prog_99_method_2_code 47 (.lor) 1 48 := dc (by decide +kernel) rfl
theorem D99_2_48 : Dc prog_99_method_2_code 48 (.lastore) 1 49 := dc (by decide +kernel) rfl
theorem D99_2_49 : Dc prog_99_method_2_code 49 (.iinc 4 1) 3 52 := dc (by decide +kernel) rfl
theorem D99_2_52 : Db prog_99_method_2_code 52 (.goto) 55 15 := db (-37) (by decide +kernel) rfl (by decide) (by decide)
theorem D99_2_55 : Dc prog_99_method_2_code 55 (.return_) 1 56 := dc (by decide +kernel) rfl
theorem cut_two {v : Nat → Nat} (h : v 2 = 0) {j : Nat} (hj : j < 3) : cutv v 2 j = v j := by
  unfold cutv
  by_cases q : j < 2
  · rw [if_pos q]
  · rw [if_neg q, show j = 2 by omega, h]
set_option maxRecDepth 65536 in
set_option maxHeartbeats 40000000 in
theorem ct_pack (l : Launch) (Z : State) (a0 : Array Value) (hw : ∀ d ∈ tables_1, d.before a0 Z = true) (n0 : Nat) (h : Heap) (ly wa sa la ia va : Addr) (t : Bool) (w v : Nat → Nat) (N b : Nat) (FF : Nat → Int64) (σ : List Ch) (hO : OKv t w v) (hw1 : ∀ i, i < 3 → 0 < w i) (hv2 : True) (hN : N ≤ 1000) (hb : b + wcn t ≤ N) (H : Hp n0 h ((ly, Ob Z CYn NSY [.ref wa, .ref sa, .ref la, .int (Int32.ofNat (wcn t))]) :: (wa, Ia Z (lst 3 (fun i => Int32.ofNat (wdp t i)))) :: (sa, Ia Z (lst 3 (fun i => Int32.ofNat (shp t w i)))) :: (la, La Z (lst 3 (fun i => EE (2 ^ w i)))) :: (ia, La Z (lst N FF)) :: (va, Ia Z (lst 3 (fun j => Int32.ofNat (v j)))) :: σ)) :
    Ct l Z n0 (⟨"com/example/divergence/divergence/engine/StateStore$Layout", "pack", "([I[JI)V"⟩ : MethodName) prog_99_method_2_code 5 none ({ frames := 2, cells := 0, slots := 0, locals := 40 } : Room) [.ref ly, .ref va, .ref ia, .int (Int32.ofNat b)] h (fun v_ h' => v_ = none ∧ Hp n0 h' ((ly, Ob Z CYn NSY [.ref wa, .ref sa, .ref la, .int (Int32.ofNat (wcn t))]) :: (wa, Ia Z (lst 3 (fun i => Int32.ofNat (wdp t i)))) :: (sa, Ia Z (lst 3 (fun i => Int32.ofNat (shp t w i)))) :: (la, La Z (lst 3 (fun i => EE (2 ^ w i)))) :: (ia, La Z (lst N (pkF FF b t w v))) :: (va, Ia Z (lst 3 (fun j => Int32.ofNat (v j)))) :: σ)) := by
  refine Ct.intro (plainFor_of_name pn_1) [.val (.ref ly), .val (.ref va), .val (.ref ia), .val (.int (Int32.ofNat b)), .unset] (fun m => by first | (simp [entryFrame, mkF, argsToLocals, Value.category]; done) | (simp [entryFrame, mkF, argsToLocals, Value.category, maxLocals]; done) | rfl) ?_
  intro k hl K
  replace K : Ok k Z n0 "com/example/divergence/divergence/engine/StateStore$Layout" ({ frames := 2, cells := 0, slots := 0, locals := 40 } : Room) prog_99_method_2_code 5 none "pack" := K
  refine G.aloadN K D99_2_0 rfl rfl ?_
  refine G.iloadN K D99_2_1 rfl ?_
  refine G.iloadN K D99_2_2 rfl ?_
  refine G.aloadN K D99_2_3 rfl rfl ?_
  refine G.getF K (host := "") (Or.inl (wd hw 41 rfl)) H (i := 0) rfl (j := 3) rfl rfl D99_2_4 ?_
  refine G.iadd K D99_2_7 ?_
  rw [own_nadd b (wcn t)]
  refine G.lconst K D99_2_8 0 rfl ?_
  have H18 : Hp n0 h ((ia, La Z (lst N FF)) :: (ly, Ob Z CYn NSY [.ref wa, .ref sa, .ref la, .int (Int32.ofNat (wcn t))]) :: (wa, Ia Z (lst 3 (fun i => Int32.ofNat (wdp t i)))) :: (sa, Ia Z (lst 3 (fun i => Int32.ofNat (shp t w i)))) :: (la, La Z (lst 3 (fun i => EE (2 ^ w i)))) :: (va, Ia Z (lst 3 (fun j => Int32.ofNat (v j)))) :: σ) := H.pull 4 rfl
  refine G.callS K hl (wd hw 108 rfl) (wd hw 109 rfl) (wd hw 26 rfl) (wd hw 110 rfl) (by decide) pd_2 (ct_fillR l Z a0 hw n0 h ia N b (b + wcn t) 0 FF ((ly, Ob Z CYn NSY [.ref wa, .ref sa, .ref la, .int (Int32.ofNat (wcn t))]) :: (wa, Ia Z (lst 3 (fun i => Int32.ofNat (wdp t i)))) :: (sa, Ia Z (lst 3 (fun i => Int32.ofNat (shp t w i)))) :: (la, La Z (lst 3 (fun i => EE (2 ^ w i)))) :: (va, Ia Z (lst 3 (fun j => Int32.ofNat (v j)))) :: σ) hN (by omega) hb H18) 0 rfl (by decide) (by decide) (by decide) (by decide) rfl rfl [.long 0, .int (Int32.ofNat (b + wcn t)), .int (Int32.ofNat b), .ref ia] rfl D99_2_9 ?_
  rintro _ h19 ⟨rfl, H19⟩
  rw [pkF_zero FF b t w v] at H19
  have H20 : Hp n0 h19 ((la, La Z (lst 3 (fun i => EE (2 ^ w i)))) :: (ia, La Z (lst N (pkF FF b t w (cutv v 0)))) :: (ly, Ob Z CYn NSY [.ref wa, .ref sa, .ref la, .int (Int32.ofNat (wcn t))]) :: (wa, Ia Z (lst 3 (fun i => Int32.ofNat (wdp t i)))) :: (sa, Ia Z (lst 3 (fun i => Int32.ofNat (shp t w i)))) :: (va, Ia Z (lst 3 (fun j => Int32.ofNat (v j)))) :: σ) := H19.pull 4 rfl
  have H21 : Hp n0 h19 ((sa, Ia Z (lst 3 (fun i => Int32.ofNat (shp t w i)))) :: (la, La Z (lst 3 (fun i => EE (2 ^ w i)))) :: (ia, La Z (lst N (pkF FF b t w (cutv v 0)))) :: (ly, Ob Z CYn NSY [.ref wa, .ref sa, .ref la, .int (Int32.ofNat (wcn t))]) :: (wa, Ia Z (lst 3 (fun i => Int32.ofNat (wdp t i)))) :: (va, Ia Z (lst 3 (fun j => Int32.ofNat (v j)))) :: σ) := H20.pull 4 rfl
  have H22 : Hp n0 h19 ((wa, Ia Z (lst 3 (fun i => Int32.ofNat (wdp t i)))) :: (sa, Ia Z (lst 3 (fun i => Int32.ofNat (shp t w i)))) :: (la, La Z (lst 3 (fun i => EE (2 ^ w i)))) :: (ia, La Z (lst N (pkF FF b t w (cutv v 0)))) :: (ly, Ob Z CYn NSY [.ref wa, .ref sa, .ref la, .int (Int32.ofNat (wcn t))]) :: (va, Ia Z (lst 3 (fun j => Int32.ofNat (v j)))) :: σ) := H21.pull 4 rfl
  have H23 : Hp n0 h19 ((ly, Ob Z CYn NSY [.ref wa, .ref sa, .ref la, .int (Int32.ofNat (wcn t))]) :: (wa, Ia Z (lst 3 (fun i => Int32.ofNat (wdp t i)))) :: (sa, Ia Z (lst 3 (fun i => Int32.ofNat (shp t w i)))) :: (la, La Z (lst 3 (fun i => EE (2 ^ w i)))) :: (ia, La Z (lst N (pkF FF b t w (cutv v 0)))) :: (va, Ia Z (lst 3 (fun j => Int32.ofNat (v j)))) :: σ) := H22.pull 4 rfl
  change G k n0 _ h19 _ _ 12 [.val (.ref ly), .val (.ref va), .val (.ref ia), .val (.int (Int32.ofNat b)), .unset] []
  refine G.iconst K D99_2_12 0 rfl ?_
  refine G.istore K D99_2_13 ([.val (.ref ly), .val (.ref va), .val (.ref ia), .val (.int (Int32.ofNat b)), .val (.int 0)]) rfl ?_
  have loop : ∀ (d i : Nat) (h2 : Heap), i + d = 3 → 0 ≤ i → Hp n0 h2 ((ly, Ob Z CYn NSY [.ref wa, .ref sa, .ref la, .int (Int32.ofNat (wcn t))]) :: (wa, Ia Z (lst 3 (fun i => Int32.ofNat (wdp t i)))) :: (sa, Ia Z (lst 3 (fun i => Int32.ofNat (shp t w i)))) :: (la, La Z (lst 3 (fun i => EE (2 ^ w i)))) :: (ia, La Z (lst N (pkF FF b t w (cutv v i)))) :: (va, Ia Z (lst 3 (fun j => Int32.ofNat (v j)))) :: σ) → G k n0 (fun v_ h' => v_ = none ∧ Hp n0 h' ((ly, Ob Z CYn NSY [.ref wa, .ref sa, .ref la, .int (Int32.ofNat (wcn t))]) :: (wa, Ia Z (lst 3 (fun i => Int32.ofNat (wdp t i)))) :: (sa, Ia Z (lst 3 (fun i => Int32.ofNat (shp t w i)))) :: (la, La Z (lst 3 (fun i => EE (2 ^ w i)))) :: (ia, La Z (lst N (pkF FF b t w v))) :: (va, Ia Z (lst 3 (fun j => Int32.ofNat (v j)))) :: σ)) h2 0 0 15 [.val (.ref ly), .val (.ref va), .val (.ref ia), .val (.int (Int32.ofNat b)), .val (.int (Int32.ofNat i))] [] := by
    intro d
    induction d with
    | zero =>
      intro i h2 hd hlo H2
      obtain rfl : i = 3 := by omega
      refine G.iload K D99_2_15 rfl ?_
      refine G.aloadN K D99_2_17 rfl rfl ?_
      refine G.alen K H2 (i := 5) rfl D99_2_18 (Int32.ofNat 3) (by rw [List.length_map, lst_len]) ?_
      refine G.icmp_ge K D99_2_19 (fun q24 => ?_) (fun q => absurd ((own_nlt (by omega) (by omega)).mp q) (by omega))
      refine G.ret_void K D99_2_55 ?_
      rw [show pkF FF b t w (cutv v 3) = pkF FF b t w v from by funext k; unfold pkF; rw [enc_congr (v := cutv v 3) (u := v) (fun j hj => by unfold cutv; rw [if_pos (by omega)])]] at H2
      exact ⟨rfl, H2⟩
    | succ d ih =>
      intro i h2 hd hlo H2
      have hip : i < 2147483648 := by omega
      have hwd := wdp_lt t i
      refine G.iload K D99_2_15 rfl ?_
      refine G.aloadN K D99_2_17 rfl rfl ?_
      refine G.alen K H2 (i := 5) rfl D99_2_18 (Int32.ofNat 3) (by rw [List.length_map, lst_len]) ?_
      refine G.icmp_ge K D99_2_19 (fun q => absurd ((own_nlt (by omega) (by omega)).mpr (by omega)) q) (fun q25 => ?_)
      refine G.aloadN K D99_2_22 rfl rfl ?_
      refine G.iloadN K D99_2_23 rfl ?_
      refine G.aloadN K D99_2_24 rfl rfl ?_
      refine G.getF K (host := "") (Or.inl (wd hw 35 rfl)) H2 (i := 0) rfl (j := 0) rfl rfl D99_2_25 ?_
      refine G.iload K D99_2_28 rfl ?_
      refine G.aload_i K H2 (i := 1) rfl (own_nneg (by omega)) (by rw [own_nidx (by omega)]; exact lst_get _ (by omega)) D99_2_30 ?_
      refine G.iadd K D99_2_31 ?_
      rw [own_nadd b (wdp t i)]
      refine G.dup2 K D99_2_32 rfl rfl ?_
      refine G.aload_l K H2 (i := 4) rfl (own_nneg (by omega)) (by rw [own_nidx (by omega), lst_get _ (by omega), pkF, if_pos (by omega), show b + wdp t i - b = wdp t i by omega]) D99_2_33 ?_
      refine G.aloadN K D99_2_34 rfl rfl ?_
      refine G.iload K D99_2_35 rfl ?_
      refine G.aload_i K H2 (i := 5) rfl (own_nneg (by omega)) (by rw [own_nidx (by omega)]; exact lst_get _ (by omega)) D99_2_37 ?_
      refine G.i2l K D99_2_38 ?_
      refine G.aloadN K D99_2_39 rfl rfl ?_
      refine G.getF K (host := "") (Or.inl (wd hw 37 rfl)) H2 (i := 0) rfl (j := 1) rfl rfl D99_2_40 ?_
      refine G.iload K D99_2_43 rfl ?_
      refine G.aload_i K H2 (i := 2) rfl (own_nneg (by omega)) (by rw [own_nidx (by omega)]; exact lst_get _ (by omega)) D99_2_45 ?_
      refine G.lshl K D99_2_46 ?_
      refine G.lor K D99_2_47 ?_
      rw [enc_or (OKv_cut hO i) (by omega) (hw1 i (by omega)) (by unfold cutv; rw [if_neg (by omega)]) (hO.1 i (by omega)).1 (hO.1 i (by omega)).2.1]
      refine G.astore_l K H2 (i := 4) rfl (own_nneg (by omega)) (by rw [own_nidx (by omega), lst_len]; omega) D99_2_48 ?_
      intro h26 H26
      rw [own_nidx (by omega), lst_set _ (by omega), pkF_next hO (by omega) (hw1 i (by omega))] at H26
      change Hp n0 h26 ((ly, Ob Z CYn NSY [.ref wa, .ref sa, .ref la, .int (Int32.ofNat (wcn t))]) :: (wa, Ia Z (lst 3 (fun i => Int32.ofNat (wdp t i)))) :: (sa, Ia Z (lst 3 (fun i => Int32.ofNat (shp t w i)))) :: (la, La Z (lst 3 (fun i => EE (2 ^ w i)))) :: (ia, La Z (lst N (pkF FF b t w (cutv v (i + 1))))) :: (va, Ia Z (lst 3 (fun j => Int32.ofNat (v j)))) :: σ) at H26
      refine G.iinc K D99_2_49 1 rfl rfl ([.val (.ref ly), .val (.ref va), .val (.ref ia), .val (.int (Int32.ofNat b)), .val (.int ((Int32.ofNat i) + 1))]) rfl ?_
      refine G.goto K D99_2_52 ?_
      rw [own_nsucc i]
      exact ih (i + 1) _ (by omega) (by omega) H26
  exact loop (3 - 0) 0 _ (by omega) (by omega) (by  exact H23)
theorem D99_1_0 : Dc prog_99_method_1_code 0 (.aload_n 0) 1 1 := dc (by decide +kernel) rfl
theorem D99_1_1 : Dc prog_99_method_1_code 1 (.invokespecial 1) 3 4 := dc (by decide +kernel) rfl
theorem D99_1_4 : Dc prog_99_method_1_code 4 (.aload_n 0) 1 5 := dc (by decide +kernel) rfl
theorem D99_1_5 : Dc prog_99_method_1_code 5 (.aload_n 1) 1 6 := dc (by decide +kernel) rfl
theorem D99_1_6 : Dc prog_99_method_1_code 6 (.arraylength) 1 7 := dc (by decide +kernel) rfl
theorem D99_1_7 : Dc prog_99_method_1_code 7 (.newarray .int) 2 9 := dc (by decide +kernel) rfl
theorem D99_1_9 : Dc prog_99_method_1_code 9 (.putfield 7) 3 12 := dc (by decide +kernel) rfl
theorem D99_1_12 : Dc prog_99_method_1_code 12 (.aload_n 0) 1 13 := dc (by decide +kernel) rfl
theorem D99_1_13 : Dc prog_99_method_1_code 13 (.aload_n 1) 1 14 := dc (by decide +kernel) rfl
theorem D99_1_14 : Dc prog_99_method_1_code 14 (.arraylength) 1 15 := dc (by decide +kernel) rfl
theorem D99_1_15 : Dc prog_99_method_1_code 15 (.newarray .int) 2 17 := dc (by decide +kernel) rfl
theorem D99_1_17 : Dc prog_99_method_1_code 17 (.putfield 13) 3 20 := dc (by decide +kernel) rfl
theorem D99_1_20 : Dc prog_99_method_1_code 20 (.aload_n 0) 1 21 := dc (by decide +kernel) rfl
theorem D99_1_21 : Dc prog_99_method_1_code 21 (.aload_n 1) 1 22 := dc (by decide +kernel) rfl
theorem D99_1_22 : Dc prog_99_method_1_code 22 (.arraylength) 1 23 := dc (by decide +kernel) rfl
theorem D99_1_23 : Dc prog_99_method_1_code 23 (.newarray .long) 2 25 := dc (by decide +kernel) rfl
theorem D99_1_25 : Dc prog_99_method_1_code 25 (.putfield 16) 3 28 := dc (by decide +kernel) rfl
theorem D99_1_28 : Dc prog_99_method_1_code 28 (.iconst 0) 1 29 := dc (by decide +kernel) rfl
theorem D99_1_29 : Dc prog_99_method_1_code 29 (.istore_n 2) 1 30 := dc (by decide +kernel) rfl
theorem D99_1_30 : Dc prog_99_method_1_code 30 (.iconst 0) 1 31 := dc (by decide +kernel) rfl
theorem D99_1_31 : Dc prog_99_method_1_code 31 (.istore_n 3) 1 32 := dc (by decide +kernel) rfl
theorem D99_1_32 : Dc prog_99_method_1_code 32 (.iconst 0) 1 33 := dc (by decide +kernel) rfl
theorem D99_1_33 : Dc prog_99_method_1_code 33 (.istore 4) 2 35 := dc (by decide +kernel) rfl
theorem D99_1_35 : Dc prog_99_method_1_code 35 (.iload 4) 2 37 := dc (by decide +kernel) rfl
theorem D99_1_37 : Dc prog_99_method_1_code 37 (.aload_n 1) 1 38 := dc (by decide +kernel) rfl
theorem D99_1_38 : Dc prog_99_method_1_code 38 (.arraylength) 1 39 := dc (by decide +kernel) rfl
theorem D99_1_39 : Db prog_99_method_1_code 39 (.if_icmp .ge) 42 100 := db (61) (by decide +kernel) rfl (by decide) (by decide)
theorem D99_1_42 : Dc prog_99_method_1_code 42 (.iload_n 3) 1 43 := dc (by decide +kernel) rfl
theorem D99_1_43 : Dc prog_99_method_1_code 43 (.aload_n 1) 1 44 := dc (by decide +kernel) rfl
theorem D99_1_44 : Dc prog_99_method_1_code 44 (.iload 4) 2 46 := dc (by decide +kernel) rfl
theorem D99_1_46 : Dc prog_99_method_1_code 46 (.iaload) 1 47 := dc (by decide +kernel) rfl
theorem D99_1_47 : Dc prog_99_method_1_code 47 (.iadd) 1 48 := dc (by decide +kernel) rfl
theorem D99_1_48 : Dc prog_99_method_1_code 48 (.bipush 64) 2 50 := dc (by decide +kernel) rfl
theorem D99_1_50 : Db prog_99_method_1_code 50 (.if_icmp .le) 53 58 := db (8) (by decide +kernel) rfl (by decide) (by decide)
theorem D99_1_53 : Dc prog_99_method_1_code 53 (.iinc 2 1) 3 56 := dc (by decide +kernel) rfl
theorem D99_1_56 : Dc prog_99_method_1_code 56 (.iconst 0) 1 57 := dc (by decide +kernel) rfl
theorem D99_1_57 : Dc prog_99_method_1_code 57 (.istore_n 3) 1 58 := dc (by decide +kernel) rfl
theorem D99_1_58 : Dc prog_99_method_1_code 58 (.aload_n 0) 1 59 := dc (by decide +kernel) rfl
theorem D99_1_59 : Dc prog_99_method_1_code 59 (.getfield 7) 3 62 := dc (by decide +kernel) rfl
theorem D99_1_62 : Dc prog_99_method_1_code 62 (.iload 4) 2 64 := dc (by decide +kernel) rfl
theorem D99_1_64 : Dc prog_99_method_1_code 64 (.iload_n 2) 1 65 := dc (by decide +kernel) rfl
theorem D99_1_65 : Dc prog_99_method_1_code 65 (.iastore) 1 66 := dc (by decide +kernel) rfl
theorem D99_1_66 : Dc prog_99_method_1_code 66 (.aload_n 0) 1 67 := dc (by decide +kernel) rfl
theorem D99_1_67 : Dc prog_99_method_1_code 67 (.getfield 13) 3 70 := dc (by decide +kernel) rfl
theorem D99_1_70 : Dc prog_99_method_1_code 70 (.iload 4) 2 72 := dc (by decide +kernel) rfl
theorem D99_1_72 : Dc prog_99_method_1_code 72 (.iload_n 3) 1 73 := dc (by decide +kernel) rfl
theorem D99_1_73 : Dc prog_99_method_1_code 73 (.iastore) 1 74 := dc (by decide +kernel) rfl
theorem D99_1_74 : Dc prog_99_method_1_code 74 (.aload_n 0) 1 75 := dc (by decide +kernel) rfl
theorem D99_1_75 : Dc prog_99_method_1_code 75 (.getfield 16) 3 78 := dc (by decide +kernel) rfl
theorem D99_1_78 : Dc prog_99_method_1_code 78 (.iload 4) 2 80 := dc (by decide +kernel) rfl
theorem D99_1_80 : Dc prog_99_method_1_code 80 (.lconst 1) 1 81 := dc (by decide +kernel) rfl
theorem D99_1_81 : Dc prog_99_method_1_code 81 (.aload_n 1) 1 82 := dc (by decide +kernel) rfl
theorem D99_1_82 : Dc prog_99_method_1_code 82 (.iload 4) 2 84 := dc (by decide +kernel) rfl
theorem D99_1_84 : Dc prog_99_method_1_code 84 (.iaload) 1 85 := dc (by decide +kernel) rfl
theorem D99_1_85 : Dc prog_99_method_1_code 85 (.lshl) 1 86 := dc (by decide +kernel) rfl
theorem D99_1_86 : Dc prog_99_method_1_code 86 (.lastore) 1 87 := dc (by decide +kernel) rfl
theorem D99_1_87 : Dc prog_99_method_1_code 87 (.iload_n 3) 1 88 := dc (by decide +kernel) rfl
theorem D99_1_88 : Dc prog_99_method_1_code 88 (.aload_n 1) 1 89 := dc (by decide +kernel) rfl
theorem D99_1_89 : Dc prog_99_method_1_code 89 (.iload 4) 2 91 := dc (by decide +kernel) rfl
theorem D99_1_91 : Dc prog_99_method_1_code 91 (.iaload) 1 92 := dc (by decide +kernel) rfl
theorem D99_1_92 : Dc prog_99_method_1_code 92 (.iadd) 1 93 := dc (by decide +kernel) rfl
theorem D99_1_93 : Dc prog_99_method_1_code 93 (.istore_n 3) 1 94 := dc (by decide +kernel) rfl
theorem D99_1_94 : Dc prog_99_method_1_code 94 (.iinc 4 1) 3 97 := dc (by decide +kernel) rfl
theorem D99_1_97 : Db prog_99_method_1_code 97 (.goto) 100 35 := db (-62) (by decide +kernel) rfl (by decide) (by decide)
theorem D99_1_100 : Dc prog_99_method_1_code 100 (.aload_n 0) 1 101 := dc (by decide +kernel) rfl
theorem D99_1_101 : Dc prog_99_method_1_code 101 (.iload_n 2) 1 102 := dc (by decide +kernel) rfl
theorem D99_1_102 : Dc prog_99_method_1_code 102 (.iconst 1) 1 103 := dc (by decide +kernel) rfl
theorem D99_1_103 : Dc prog_99_method_1_code 103 (.iadd) 1 104 := dc (by decide +kernel) rfl
theorem D99_1_104 : Dc prog_99_method_1_code 104 (.putfield 22) 3 107 := dc (by decide +kernel) rfl
theorem D99_1_107 : Dc prog_99_method_1_code 107 (.return_) 1 108 := dc (by decide +kernel) rfl
set_option maxRecDepth 65536 in
set_option maxHeartbeats 40000000 in
theorem ct_layout (l : Launch) (Z : State) (a0 : Array Value) (hw : ∀ d ∈ tables_1, d.before a0 Z = true) (n0 : Nat) (h : Heap) (ly xa : Addr) (w : Nat → Nat) (σ : List Ch) (hw2 : ∀ i, i < 3 → w i ≤ 32) (hw20 : True) (H : Hp n0 h ((ly, Ob Z CYn NSY [.null, .null, .null, .int 0]) :: (xa, Ia Z (lst 3 (fun i => Int32.ofNat (w i)))) :: σ)) :
    Ct l Z n0 (⟨"com/example/divergence/divergence/engine/StateStore$Layout", "<init>", "([I)V"⟩ : MethodName) prog_99_method_1_code 5 none ({ frames := 1, cells := 3, slots := 9, locals := 20 } : Room) [.ref ly, .ref xa] h (fun v_ h' => ∃ (t : Bool) (wa sa la : Addr), v_ = none ∧ (t = false ↔ w 0 + w 1 + w 2 ≤ 64) ∧ Hp n0 h' ((ly, Ob Z CYn NSY [.ref wa, .ref sa, .ref la, .int (Int32.ofNat (wcn t))]) :: (wa, Ia Z (lst 3 (fun i => Int32.ofNat (wdp t i)))) :: (sa, Ia Z (lst 3 (fun i => Int32.ofNat (shp t w i)))) :: (la, La Z (lst 3 (fun i => EE (2 ^ w i)))) :: (xa, Ia Z (lst 3 (fun i => Int32.ofNat (w i)))) :: σ)) := by
  refine Ct.intro (plainFor_of_name pn_1) [.val (.ref ly), .val (.ref xa), .unset, .unset, .unset] (fun m => by first | (simp [entryFrame, mkF, argsToLocals, Value.category]; done) | (simp [entryFrame, mkF, argsToLocals, Value.category, maxLocals]; done) | rfl) ?_
  intro k hl K
  replace K : Ok k Z n0 "com/example/divergence/divergence/engine/StateStore$Layout" ({ frames := 1, cells := 3, slots := 9, locals := 20 } : Room) prog_99_method_1_code 5 none "<init>" := K
  refine G.aloadN K D99_1_0 rfl rfl ?_
  refine G.initO K (wd hw 34 rfl) (wd hw 9 rfl) (wd hw 10 rfl) rfl 0 rfl (by decide) (by decide) D99_1_1 ?_
  refine G.aloadN K D99_1_4 rfl rfl ?_
  refine G.aloadN K D99_1_5 rfl rfl ?_
  refine G.alen K H (i := 1) rfl D99_1_6 3 (by rw [List.length_map, lst_len]; rfl) ?_
  refine G.newarr_i K (wd hw 0 rfl) H (by decide) 3 (by decide) (by decide) (by decide) (by decide) D99_1_7 ?_
  intro a27 h28 H28
  change Hp n0 h28 ((a27, Ia Z [0, 0, 0]) :: (ly, Ob Z CYn NSY [.null, .null, .null, .int 0]) :: (xa, Ia Z (lst 3 (fun i => Int32.ofNat (w i)))) :: σ) at H28
  refine G.putF K (host := "") (Or.inl (wd hw 35 rfl)) (cf_NSY hw) (Or.inr ⟨(wd hw 36 rfl), rfl, rfl⟩) (wd hw 29 rfl) H28 (i := 1) rfl (j := 0) rfl rfl (ty := (.array .int)) (by decide) rfl rfl D99_1_9 ?_
  intro h29 H29
  change Hp n0 h29 ((a27, Ia Z [0, 0, 0]) :: (ly, Ob Z CYn NSY [.ref a27, .null, .null, .int 0]) :: (xa, Ia Z (lst 3 (fun i => Int32.ofNat (w i)))) :: σ) at H29
  refine G.aloadN K D99_1_12 rfl rfl ?_
  refine G.aloadN K D99_1_13 rfl rfl ?_
  refine G.alen K H29 (i := 2) rfl D99_1_14 3 (by rw [List.length_map, lst_len]; rfl) ?_
  refine G.newarr_i K (wd hw 0 rfl) H29 (by decide) 3 (by decide) (by decide) (by decide) (by decide) D99_1_15 ?_
  intro a30 h31 H31
  change Hp n0 h31 ((a30, Ia Z [0, 0, 0]) :: (a27, Ia Z [0, 0, 0]) :: (ly, Ob Z CYn NSY [.ref a27, .null, .null, .int 0]) :: (xa, Ia Z (lst 3 (fun i => Int32.ofNat (w i)))) :: σ) at H31
  refine G.putF K (host := "") (Or.inl (wd hw 37 rfl)) (cf_NSY hw) (Or.inr ⟨(wd hw 38 rfl), rfl, rfl⟩) (wd hw 29 rfl) H31 (i := 2) rfl (j := 1) rfl rfl (ty := (.array .int)) (by decide) rfl rfl D99_1_17 ?_
  intro h32 H32
  change Hp n0 h32 ((a30, Ia Z [0, 0, 0]) :: (a27, Ia Z [0, 0, 0]) :: (ly, Ob Z CYn NSY [.ref a27, .ref a30, .null, .int 0]) :: (xa, Ia Z (lst 3 (fun i => Int32.ofNat (w i)))) :: σ) at H32
  refine G.aloadN K D99_1_20 rfl rfl ?_
  refine G.aloadN K D99_1_21 rfl rfl ?_
  refine G.alen K H32 (i := 3) rfl D99_1_22 3 (by rw [List.length_map, lst_len]; rfl) ?_
  refine G.newarr_l K (wd hw 15 rfl) H32 (by decide) 3 (by decide) (by decide) (by decide) (by decide) D99_1_23 ?_
  intro a33 h34 H34
  change Hp n0 h34 ((a33, La Z [0, 0, 0]) :: (a30, Ia Z [0, 0, 0]) :: (a27, Ia Z [0, 0, 0]) :: (ly, Ob Z CYn NSY [.ref a27, .ref a30, .null, .int 0]) :: (xa, Ia Z (lst 3 (fun i => Int32.ofNat (w i)))) :: σ) at H34
  refine G.putF K (host := "") (Or.inl (wd hw 39 rfl)) (cf_NSY hw) (Or.inr ⟨(wd hw 40 rfl), rfl, rfl⟩) (wd hw 29 rfl) H34 (i := 3) rfl (j := 2) rfl rfl (ty := (.array .long)) (by decide) rfl rfl D99_1_25 ?_
  intro h35 H35
  change Hp n0 h35 ((a33, La Z [0, 0, 0]) :: (a30, Ia Z [0, 0, 0]) :: (a27, Ia Z [0, 0, 0]) :: (ly, Ob Z CYn NSY [.ref a27, .ref a30, .ref a33, .int 0]) :: (xa, Ia Z (lst 3 (fun i => Int32.ofNat (w i)))) :: σ) at H35
  refine G.iconst K D99_1_28 0 rfl ?_
  refine G.istoreN K D99_1_29 ([.val (.ref ly), .val (.ref xa), .val (.int 0), .unset, .unset]) rfl ?_
  refine G.iconst K D99_1_30 0 rfl ?_
  refine G.istoreN K D99_1_31 ([.val (.ref ly), .val (.ref xa), .val (.int 0), .val (.int 0), .unset]) rfl ?_
  refine G.iconst K D99_1_32 0 rfl ?_
  refine G.istore K D99_1_33 ([.val (.ref ly), .val (.ref xa), .val (.int 0), .val (.int 0), .val (.int 0)]) rfl ?_
  refine G.iload K D99_1_35 rfl ?_
  refine G.aloadN K D99_1_37 rfl rfl ?_
  refine G.alen K H35 (i := 4) rfl D99_1_38 3 (by rw [List.length_map, lst_len]; rfl) ?_
  refine G.icmp_ge K D99_1_39 (fun q => absurd q (by decide)) (fun _ => ?_)
  refine G.iloadN K D99_1_42 rfl ?_
  refine G.aloadN K D99_1_43 rfl rfl ?_
  refine G.iload K D99_1_44 rfl ?_
  refine G.aload_i K H35 (i := 4) rfl (by decide) (lst_get (i := 0) _ (by decide)) D99_1_46 ?_
  refine G.iadd K D99_1_47 ?_
  rw [show 0 + Int32.ofNat (w 0) = Int32.ofNat (w 0) from Int32.zero_add _]
  refine G.bipush K D99_1_48 64 rfl ?_
  have hb0 := hw2 0 (by decide)
  refine G.icmp_le K D99_1_50 (fun q37 => ?_) (fun q => absurd ((own_nlt (i := 64) (by decide) (by omega)).mp q) (by omega))
  refine G.aloadN K D99_1_58 rfl rfl ?_
  refine G.getF K (host := "") (Or.inl (wd hw 35 rfl)) H35 (i := 3) rfl (j := 0) rfl rfl D99_1_59 ?_
  refine G.iload K D99_1_62 rfl ?_
  refine G.iloadN K D99_1_64 rfl ?_
  refine G.astore_i K H35 (i := 2) rfl (by decide) (Nat.le_of_ble_eq_true rfl) D99_1_65 ?_
  intro h38 H38
  change Hp n0 h38 ((a33, La Z [0, 0, 0]) :: (a30, Ia Z [0, 0, 0]) :: (a27, Ia Z [0, 0, 0]) :: (ly, Ob Z CYn NSY [.ref a27, .ref a30, .ref a33, .int 0]) :: (xa, Ia Z (lst 3 (fun i => Int32.ofNat (w i)))) :: σ) at H38
  refine G.aloadN K D99_1_66 rfl rfl ?_
  refine G.getF K (host := "") (Or.inl (wd hw 37 rfl)) H38 (i := 3) rfl (j := 1) rfl rfl D99_1_67 ?_
  refine G.iload K D99_1_70 rfl ?_
  refine G.iloadN K D99_1_72 rfl ?_
  refine G.astore_i K H38 (i := 1) rfl (by decide) (Nat.le_of_ble_eq_true rfl) D99_1_73 ?_
  intro h39 H39
  change Hp n0 h39 ((a33, La Z [0, 0, 0]) :: (a30, Ia Z [0, 0, 0]) :: (a27, Ia Z [0, 0, 0]) :: (ly, Ob Z CYn NSY [.ref a27, .ref a30, .ref a33, .int 0]) :: (xa, Ia Z (lst 3 (fun i => Int32.ofNat (w i)))) :: σ) at H39
  refine G.aloadN K D99_1_74 rfl rfl ?_
  refine G.getF K (host := "") (Or.inl (wd hw 39 rfl)) H39 (i := 3) rfl (j := 2) rfl rfl D99_1_75 ?_
  refine G.iload K D99_1_78 rfl ?_
  refine G.lconst K D99_1_80 1 rfl ?_
  refine G.aloadN K D99_1_81 rfl rfl ?_
  refine G.iload K D99_1_82 rfl ?_
  refine G.aload_i K H39 (i := 4) rfl (by decide) (lst_get (i := 0) _ (by decide)) D99_1_84 ?_
  refine G.lshl K D99_1_85 ?_
  rw [lim_EE (hw2 0 (by decide))]
  refine G.astore_l K H39 (i := 0) rfl (by decide) (Nat.le_of_ble_eq_true rfl) D99_1_86 ?_
  intro h40 H40
  change Hp n0 h40 ((a33, La Z [(EE (2 ^ w 0)), 0, 0]) :: (a30, Ia Z [0, 0, 0]) :: (a27, Ia Z [0, 0, 0]) :: (ly, Ob Z CYn NSY [.ref a27, .ref a30, .ref a33, .int 0]) :: (xa, Ia Z (lst 3 (fun i => Int32.ofNat (w i)))) :: σ) at H40
  refine G.iloadN K D99_1_87 rfl ?_
  refine G.aloadN K D99_1_88 rfl rfl ?_
  refine G.iload K D99_1_89 rfl ?_
  refine G.aload_i K H40 (i := 4) rfl (by decide) (lst_get (i := 0) _ (by decide)) D99_1_91 ?_
  refine G.iadd K D99_1_92 ?_
  rw [show 0 + Int32.ofNat (w 0) = Int32.ofNat (w 0) from Int32.zero_add _]
  refine G.istoreN K D99_1_93 ([.val (.ref ly), .val (.ref xa), .val (.int 0), .val (.int (Int32.ofNat (w 0))), .val (.int 0)]) rfl ?_
  refine G.iinc K D99_1_94 1 rfl rfl ([.val (.ref ly), .val (.ref xa), .val (.int 0), .val (.int (Int32.ofNat (w 0))), .val (.int (0 + 1))]) rfl ?_
  change G k n0 _ h40 _ _ 97 [.val (.ref ly), .val (.ref xa), .val (.int 0), .val (.int (Int32.ofNat (w 0))), .val (.int 1)] []
  refine G.goto K D99_1_97 ?_
  refine G.iload K D99_1_35 rfl ?_
  refine G.aloadN K D99_1_37 rfl rfl ?_
  refine G.alen K H40 (i := 4) rfl D99_1_38 3 (by rw [List.length_map, lst_len]; rfl) ?_
  refine G.icmp_ge K D99_1_39 (fun q => absurd q (by decide)) (fun _ => ?_)
  refine G.iloadN K D99_1_42 rfl ?_
  refine G.aloadN K D99_1_43 rfl rfl ?_
  refine G.iload K D99_1_44 rfl ?_
  refine G.aload_i K H40 (i := 4) rfl (by decide) (lst_get (i := 1) _ (by decide)) D99_1_46 ?_
  refine G.iadd K D99_1_47 ?_
  rw [own_nadd]
  refine G.bipush K D99_1_48 64 rfl ?_
  have hb1 := hw2 1 (by decide)
  refine G.icmp_le K D99_1_50 (fun q42 => ?_) (fun q => absurd ((own_nlt (i := 64) (by decide) (by omega)).mp q) (by omega))
  refine G.aloadN K D99_1_58 rfl rfl ?_
  refine G.getF K (host := "") (Or.inl (wd hw 35 rfl)) H40 (i := 3) rfl (j := 0) rfl rfl D99_1_59 ?_
  refine G.iload K D99_1_62 rfl ?_
  refine G.iloadN K D99_1_64 rfl ?_
  refine G.astore_i K H40 (i := 2) rfl (by decide) (Nat.le_of_ble_eq_true rfl) D99_1_65 ?_
  intro h43 H43
  change Hp n0 h43 ((a33, La Z [(EE (2 ^ w 0)), 0, 0]) :: (a30, Ia Z [0, 0, 0]) :: (a27, Ia Z [0, 0, 0]) :: (ly, Ob Z CYn NSY [.ref a27, .ref a30, .ref a33, .int 0]) :: (xa, Ia Z (lst 3 (fun i => Int32.ofNat (w i)))) :: σ) at H43
  refine G.aloadN K D99_1_66 rfl rfl ?_
  refine G.getF K (host := "") (Or.inl (wd hw 37 rfl)) H43 (i := 3) rfl (j := 1) rfl rfl D99_1_67 ?_
  refine G.iload K D99_1_70 rfl ?_
  refine G.iloadN K D99_1_72 rfl ?_
  refine G.astore_i K H43 (i := 1) rfl (by decide) (Nat.le_of_ble_eq_true rfl) D99_1_73 ?_
  intro h44 H44
  change Hp n0 h44 ((a33, La Z [(EE (2 ^ w 0)), 0, 0]) :: (a30, Ia Z [0, (Int32.ofNat (w 0)), 0]) :: (a27, Ia Z [0, 0, 0]) :: (ly, Ob Z CYn NSY [.ref a27, .ref a30, .ref a33, .int 0]) :: (xa, Ia Z (lst 3 (fun i => Int32.ofNat (w i)))) :: σ) at H44
  refine G.aloadN K D99_1_74 rfl rfl ?_
  refine G.getF K (host := "") (Or.inl (wd hw 39 rfl)) H44 (i := 3) rfl (j := 2) rfl rfl D99_1_75 ?_
  refine G.iload K D99_1_78 rfl ?_
  refine G.lconst K D99_1_80 1 rfl ?_
  refine G.aloadN K D99_1_81 rfl rfl ?_
  refine G.iload K D99_1_82 rfl ?_
  refine G.aload_i K H44 (i := 4) rfl (by decide) (lst_get (i := 1) _ (by decide)) D99_1_84 ?_
  refine G.lshl K D99_1_85 ?_
  rw [lim_EE (hw2 1 (by decide))]
  refine G.astore_l K H44 (i := 0) rfl (by decide) (Nat.le_of_ble_eq_true rfl) D99_1_86 ?_
  intro h45 H45
  change Hp n0 h45 ((a33, La Z [(EE (2 ^ w 0)), (EE (2 ^ w 1)), 0]) :: (a30, Ia Z [0, (Int32.ofNat (w 0)), 0]) :: (a27, Ia Z [0, 0, 0]) :: (ly, Ob Z CYn NSY [.ref a27, .ref a30, .ref a33, .int 0]) :: (xa, Ia Z (lst 3 (fun i => Int32.ofNat (w i)))) :: σ) at H45
  refine G.iloadN K D99_1_87 rfl ?_
  refine G.aloadN K D99_1_88 rfl rfl ?_
  refine G.iload K D99_1_89 rfl ?_
  refine G.aload_i K H45 (i := 4) rfl (by decide) (lst_get (i := 1) _ (by decide)) D99_1_91 ?_
  refine G.iadd K D99_1_92 ?_
  rw [own_nadd]
  refine G.istoreN K D99_1_93 ([.val (.ref ly), .val (.ref xa), .val (.int 0), .val (.int (Int32.ofNat (w 0 + w 1))), .val (.int 1)]) rfl ?_
  refine G.iinc K D99_1_94 1 rfl rfl ([.val (.ref ly), .val (.ref xa), .val (.int 0), .val (.int (Int32.ofNat (w 0 + w 1))), .val (.int (1 + 1))]) rfl ?_
  change G k n0 _ h45 _ _ 97 [.val (.ref ly), .val (.ref xa), .val (.int 0), .val (.int (Int32.ofNat (w 0 + w 1))), .val (.int 2)] []
  refine G.goto K D99_1_97 ?_
  refine G.iload K D99_1_35 rfl ?_
  refine G.aloadN K D99_1_37 rfl rfl ?_
  refine G.alen K H45 (i := 4) rfl D99_1_38 3 (by rw [List.length_map, lst_len]; rfl) ?_
  refine G.icmp_ge K D99_1_39 (fun q => absurd q (by decide)) (fun _ => ?_)
  refine G.iloadN K D99_1_42 rfl ?_
  refine G.aloadN K D99_1_43 rfl rfl ?_
  refine G.iload K D99_1_44 rfl ?_
  refine G.aload_i K H45 (i := 4) rfl (by decide) (lst_get (i := 2) _ (by decide)) D99_1_46 ?_
  refine G.iadd K D99_1_47 ?_
  rw [own_nadd]
  refine G.bipush K D99_1_48 64 rfl ?_
  have hb2 := hw2 2 (by decide)
  refine G.icmp_le K D99_1_50 (fun q47 => ?_) (fun q47 => ?_)
  · refine G.aloadN K D99_1_58 rfl rfl ?_
    refine G.getF K (host := "") (Or.inl (wd hw 35 rfl)) H45 (i := 3) rfl (j := 0) rfl rfl D99_1_59 ?_
    refine G.iload K D99_1_62 rfl ?_
    refine G.iloadN K D99_1_64 rfl ?_
    refine G.astore_i K H45 (i := 2) rfl (by decide) (Nat.le_of_ble_eq_true rfl) D99_1_65 ?_
    intro h48 H48
    change Hp n0 h48 ((a33, La Z [(EE (2 ^ w 0)), (EE (2 ^ w 1)), 0]) :: (a30, Ia Z [0, (Int32.ofNat (w 0)), 0]) :: (a27, Ia Z [0, 0, 0]) :: (ly, Ob Z CYn NSY [.ref a27, .ref a30, .ref a33, .int 0]) :: (xa, Ia Z (lst 3 (fun i => Int32.ofNat (w i)))) :: σ) at H48
    refine G.aloadN K D99_1_66 rfl rfl ?_
    refine G.getF K (host := "") (Or.inl (wd hw 37 rfl)) H48 (i := 3) rfl (j := 1) rfl rfl D99_1_67 ?_
    refine G.iload K D99_1_70 rfl ?_
    refine G.iloadN K D99_1_72 rfl ?_
    refine G.astore_i K H48 (i := 1) rfl (by decide) (Nat.le_of_ble_eq_true rfl) D99_1_73 ?_
    intro h49 H49
    change Hp n0 h49 ((a33, La Z [(EE (2 ^ w 0)), (EE (2 ^ w 1)), 0]) :: (a30, Ia Z [0, (Int32.ofNat (w 0)), (Int32.ofNat (w 0 + w 1))]) :: (a27, Ia Z [0, 0, 0]) :: (ly, Ob Z CYn NSY [.ref a27, .ref a30, .ref a33, .int 0]) :: (xa, Ia Z (lst 3 (fun i => Int32.ofNat (w i)))) :: σ) at H49
    refine G.aloadN K D99_1_74 rfl rfl ?_
    refine G.getF K (host := "") (Or.inl (wd hw 39 rfl)) H49 (i := 3) rfl (j := 2) rfl rfl D99_1_75 ?_
    refine G.iload K D99_1_78 rfl ?_
    refine G.lconst K D99_1_80 1 rfl ?_
    refine G.aloadN K D99_1_81 rfl rfl ?_
    refine G.iload K D99_1_82 rfl ?_
    refine G.aload_i K H49 (i := 4) rfl (by decide) (lst_get (i := 2) _ (by decide)) D99_1_84 ?_
    refine G.lshl K D99_1_85 ?_
    rw [lim_EE (hw2 2 (by decide))]
    refine G.astore_l K H49 (i := 0) rfl (by decide) (Nat.le_of_ble_eq_true rfl) D99_1_86 ?_
    intro h50 H50
    change Hp n0 h50 ((a33, La Z [(EE (2 ^ w 0)), (EE (2 ^ w 1)), (EE (2 ^ w 2))]) :: (a30, Ia Z [0, (Int32.ofNat (w 0)), (Int32.ofNat (w 0 + w 1))]) :: (a27, Ia Z [0, 0, 0]) :: (ly, Ob Z CYn NSY [.ref a27, .ref a30, .ref a33, .int 0]) :: (xa, Ia Z (lst 3 (fun i => Int32.ofNat (w i)))) :: σ) at H50
    refine G.iloadN K D99_1_87 rfl ?_
    refine G.aloadN K D99_1_88 rfl rfl ?_
    refine G.iload K D99_1_89 rfl ?_
    refine G.aload_i K H50 (i := 4) rfl (by decide) (lst_get (i := 2) _ (by decide)) D99_1_91 ?_
    refine G.iadd K D99_1_92 ?_
    rw [own_nadd]
    refine G.istoreN K D99_1_93 ([.val (.ref ly), .val (.ref xa), .val (.int 0), .val (.int (Int32.ofNat (w 0 + w 1 + w 2))), .val (.int 2)]) rfl ?_
    refine G.iinc K D99_1_94 1 rfl rfl ([.val (.ref ly), .val (.ref xa), .val (.int 0), .val (.int (Int32.ofNat (w 0 + w 1 + w 2))), .val (.int (2 + 1))]) rfl ?_
    change G k n0 _ h50 _ _ 97 [.val (.ref ly), .val (.ref xa), .val (.int 0), .val (.int (Int32.ofNat (w 0 + w 1 + w 2))), .val (.int 3)] []
    refine G.goto K D99_1_97 ?_
    refine G.iload K D99_1_35 rfl ?_
    refine G.aloadN K D99_1_37 rfl rfl ?_
    refine G.alen K H50 (i := 4) rfl D99_1_38 3 (by rw [List.length_map, lst_len]; rfl) ?_
    refine G.icmp_ge K D99_1_39 (fun _ => ?_) (fun q => absurd q (by decide))
    refine G.aloadN K D99_1_100 rfl rfl ?_
    refine G.iloadN K D99_1_101 rfl ?_
    refine G.iconst K D99_1_102 1 rfl ?_
    refine G.iadd K D99_1_103 ?_
    change G k n0 _ h50 _ _ 104 [.val (.ref ly), .val (.ref xa), .val (.int 0), .val (.int (Int32.ofNat (w 0 + w 1 + w 2))), .val (.int 3)] [.int 1, .ref ly]
    refine G.putF K (host := "") (Or.inl (wd hw 41 rfl)) (cf_NSY hw) (Or.inr ⟨(wd hw 42 rfl), rfl, rfl⟩) (wd hw 29 rfl) H50 (i := 3) rfl (j := 3) rfl rfl (ty := .int) (by decide) rfl rfl D99_1_104 ?_
    intro h52 H52
    change Hp n0 h52 ((a33, La Z [(EE (2 ^ w 0)), (EE (2 ^ w 1)), (EE (2 ^ w 2))]) :: (a30, Ia Z [0, (Int32.ofNat (w 0)), (Int32.ofNat (w 0 + w 1))]) :: (a27, Ia Z [0, 0, 0]) :: (ly, Ob Z CYn NSY [.ref a27, .ref a30, .ref a33, .int 1]) :: (xa, Ia Z (lst 3 (fun i => Int32.ofNat (w i)))) :: σ) at H52
    refine G.ret_void K D99_1_107 ?_
    have H53 : Hp n0 h52 ((a30, Ia Z [0, (Int32.ofNat (w 0)), (Int32.ofNat (w 0 + w 1))]) :: (a33, La Z [(EE (2 ^ w 0)), (EE (2 ^ w 1)), (EE (2 ^ w 2))]) :: (a27, Ia Z [0, 0, 0]) :: (ly, Ob Z CYn NSY [.ref a27, .ref a30, .ref a33, .int 1]) :: (xa, Ia Z (lst 3 (fun i => Int32.ofNat (w i)))) :: σ) := H52.pull 1 rfl
    have H54 : Hp n0 h52 ((a27, Ia Z [0, 0, 0]) :: (a30, Ia Z [0, (Int32.ofNat (w 0)), (Int32.ofNat (w 0 + w 1))]) :: (a33, La Z [(EE (2 ^ w 0)), (EE (2 ^ w 1)), (EE (2 ^ w 2))]) :: (ly, Ob Z CYn NSY [.ref a27, .ref a30, .ref a33, .int 1]) :: (xa, Ia Z (lst 3 (fun i => Int32.ofNat (w i)))) :: σ) := H53.pull 2 rfl
    have H55 : Hp n0 h52 ((ly, Ob Z CYn NSY [.ref a27, .ref a30, .ref a33, .int 1]) :: (a27, Ia Z [0, 0, 0]) :: (a30, Ia Z [0, (Int32.ofNat (w 0)), (Int32.ofNat (w 0 + w 1))]) :: (a33, La Z [(EE (2 ^ w 0)), (EE (2 ^ w 1)), (EE (2 ^ w 2))]) :: (xa, Ia Z (lst 3 (fun i => Int32.ofNat (w i)))) :: σ) := H54.pull 3 rfl
    exact ⟨false, _, _, _, rfl, ⟨fun _ => Nat.le_of_not_lt fun y => q47 ((own_nlt (i := 64) (by decide) (by omega)).mpr y), fun _ => rfl⟩, H55⟩
  · refine G.iinc K D99_1_53 1 rfl rfl ([.val (.ref ly), .val (.ref xa), .val (.int (0 + 1)), .val (.int (Int32.ofNat (w 0 + w 1))), .val (.int 2)]) rfl ?_
    change G k n0 _ h45 _ _ 56 [.val (.ref ly), .val (.ref xa), .val (.int 1), .val (.int (Int32.ofNat (w 0 + w 1))), .val (.int 2)] []
    refine G.iconst K D99_1_56 0 rfl ?_
    refine G.istoreN K D99_1_57 ([.val (.ref ly), .val (.ref xa), .val (.int 1), .val (.int 0), .val (.int 2)]) rfl ?_
    refine G.aloadN K D99_1_58 rfl rfl ?_
    refine G.getF K (host := "") (Or.inl (wd hw 35 rfl)) H45 (i := 3) rfl (j := 0) rfl rfl D99_1_59 ?_
    refine G.iload K D99_1_62 rfl ?_
    refine G.iloadN K D99_1_64 rfl ?_
    refine G.astore_i K H45 (i := 2) rfl (by decide) (Nat.le_of_ble_eq_true rfl) D99_1_65 ?_
    intro h56 H56
    change Hp n0 h56 ((a33, La Z [(EE (2 ^ w 0)), (EE (2 ^ w 1)), 0]) :: (a30, Ia Z [0, (Int32.ofNat (w 0)), 0]) :: (a27, Ia Z [0, 0, 1]) :: (ly, Ob Z CYn NSY [.ref a27, .ref a30, .ref a33, .int 0]) :: (xa, Ia Z (lst 3 (fun i => Int32.ofNat (w i)))) :: σ) at H56
    refine G.aloadN K D99_1_66 rfl rfl ?_
    refine G.getF K (host := "") (Or.inl (wd hw 37 rfl)) H56 (i := 3) rfl (j := 1) rfl rfl D99_1_67 ?_
    refine G.iload K D99_1_70 rfl ?_
    refine G.iloadN K D99_1_72 rfl ?_
    refine G.astore_i K H56 (i := 1) rfl (by decide) (Nat.le_of_ble_eq_true rfl) D99_1_73 ?_
    intro h57 H57
    change Hp n0 h57 ((a33, La Z [(EE (2 ^ w 0)), (EE (2 ^ w 1)), 0]) :: (a30, Ia Z [0, (Int32.ofNat (w 0)), 0]) :: (a27, Ia Z [0, 0, 1]) :: (ly, Ob Z CYn NSY [.ref a27, .ref a30, .ref a33, .int 0]) :: (xa, Ia Z (lst 3 (fun i => Int32.ofNat (w i)))) :: σ) at H57
    refine G.aloadN K D99_1_74 rfl rfl ?_
    refine G.getF K (host := "") (Or.inl (wd hw 39 rfl)) H57 (i := 3) rfl (j := 2) rfl rfl D99_1_75 ?_
    refine G.iload K D99_1_78 rfl ?_
    refine G.lconst K D99_1_80 1 rfl ?_
    refine G.aloadN K D99_1_81 rfl rfl ?_
    refine G.iload K D99_1_82 rfl ?_
    refine G.aload_i K H57 (i := 4) rfl (by decide) (lst_get (i := 2) _ (by decide)) D99_1_84 ?_
    refine G.lshl K D99_1_85 ?_
    rw [lim_EE (hw2 2 (by decide))]
    refine G.astore_l K H57 (i := 0) rfl (by decide) (Nat.le_of_ble_eq_true rfl) D99_1_86 ?_
    intro h58 H58
    change Hp n0 h58 ((a33, La Z [(EE (2 ^ w 0)), (EE (2 ^ w 1)), (EE (2 ^ w 2))]) :: (a30, Ia Z [0, (Int32.ofNat (w 0)), 0]) :: (a27, Ia Z [0, 0, 1]) :: (ly, Ob Z CYn NSY [.ref a27, .ref a30, .ref a33, .int 0]) :: (xa, Ia Z (lst 3 (fun i => Int32.ofNat (w i)))) :: σ) at H58
    refine G.iloadN K D99_1_87 rfl ?_
    refine G.aloadN K D99_1_88 rfl rfl ?_
    refine G.iload K D99_1_89 rfl ?_
    refine G.aload_i K H58 (i := 4) rfl (by decide) (lst_get (i := 2) _ (by decide)) D99_1_91 ?_
    refine G.iadd K D99_1_92 ?_
    rw [show 0 + Int32.ofNat (w 2) = Int32.ofNat (w 2) from Int32.zero_add _]
    refine G.istoreN K D99_1_93 ([.val (.ref ly), .val (.ref xa), .val (.int 1), .val (.int (Int32.ofNat (w 2))), .val (.int 2)]) rfl ?_
    refine G.iinc K D99_1_94 1 rfl rfl ([.val (.ref ly), .val (.ref xa), .val (.int 1), .val (.int (Int32.ofNat (w 2))), .val (.int (2 + 1))]) rfl ?_
    change G k n0 _ h58 _ _ 97 [.val (.ref ly), .val (.ref xa), .val (.int 1), .val (.int (Int32.ofNat (w 2))), .val (.int 3)] []
    refine G.goto K D99_1_97 ?_
    refine G.iload K D99_1_35 rfl ?_
    refine G.aloadN K D99_1_37 rfl rfl ?_
    refine G.alen K H58 (i := 4) rfl D99_1_38 3 (by rw [List.length_map, lst_len]; rfl) ?_
    refine G.icmp_ge K D99_1_39 (fun _ => ?_) (fun q => absurd q (by decide))
    refine G.aloadN K D99_1_100 rfl rfl ?_
    refine G.iloadN K D99_1_101 rfl ?_
    refine G.iconst K D99_1_102 1 rfl ?_
    refine G.iadd K D99_1_103 ?_
    change G k n0 _ h58 _ _ 104 [.val (.ref ly), .val (.ref xa), .val (.int 1), .val (.int (Int32.ofNat (w 2))), .val (.int 3)] [.int 2, .ref ly]
    refine G.putF K (host := "") (Or.inl (wd hw 41 rfl)) (cf_NSY hw) (Or.inr ⟨(wd hw 42 rfl), rfl, rfl⟩) (wd hw 29 rfl) H58 (i := 3) rfl (j := 3) rfl rfl (ty := .int) (by decide) rfl rfl D99_1_104 ?_
    intro h60 H60
    change Hp n0 h60 ((a33, La Z [(EE (2 ^ w 0)), (EE (2 ^ w 1)), (EE (2 ^ w 2))]) :: (a30, Ia Z [0, (Int32.ofNat (w 0)), 0]) :: (a27, Ia Z [0, 0, 1]) :: (ly, Ob Z CYn NSY [.ref a27, .ref a30, .ref a33, .int 2]) :: (xa, Ia Z (lst 3 (fun i => Int32.ofNat (w i)))) :: σ) at H60
    refine G.ret_void K D99_1_107 ?_
    have H61 : Hp n0 h60 ((a30, Ia Z [0, (Int32.ofNat (w 0)), 0]) :: (a33, La Z [(EE (2 ^ w 0)), (EE (2 ^ w 1)), (EE (2 ^ w 2))]) :: (a27, Ia Z [0, 0, 1]) :: (ly, Ob Z CYn NSY [.ref a27, .ref a30, .ref a33, .int 2]) :: (xa, Ia Z (lst 3 (fun i => Int32.ofNat (w i)))) :: σ) := H60.pull 1 rfl
    have H62 : Hp n0 h60 ((a27, Ia Z [0, 0, 1]) :: (a30, Ia Z [0, (Int32.ofNat (w 0)), 0]) :: (a33, La Z [(EE (2 ^ w 0)), (EE (2 ^ w 1)), (EE (2 ^ w 2))]) :: (ly, Ob Z CYn NSY [.ref a27, .ref a30, .ref a33, .int 2]) :: (xa, Ia Z (lst 3 (fun i => Int32.ofNat (w i)))) :: σ) := H61.pull 2 rfl
    have H63 : Hp n0 h60 ((ly, Ob Z CYn NSY [.ref a27, .ref a30, .ref a33, .int 2]) :: (a27, Ia Z [0, 0, 1]) :: (a30, Ia Z [0, (Int32.ofNat (w 0)), 0]) :: (a33, La Z [(EE (2 ^ w 0)), (EE (2 ^ w 1)), (EE (2 ^ w 2))]) :: (xa, Ia Z (lst 3 (fun i => Int32.ofNat (w i)))) :: σ) := H62.pull 3 rfl
    exact ⟨true, _, _, _, rfl, ⟨fun z => absurd z (by decide), fun z => absurd ((own_nlt (i := 64) (by decide) (by omega)).mp q47) (Nat.not_lt.mpr z)⟩, H63⟩
def NSS : List (String × String × String) := [("com/example/divergence/divergence/engine/StateStore", "widths", "[I"), ("com/example/divergence/divergence/engine/StateStore", "layout", "Lcom/example/divergence/divergence/engine/StateStore$Layout;"), ("com/example/divergence/divergence/engine/StateStore", "vectors", "[J"), ("com/example/divergence/divergence/engine/StateStore", "slots", "[I"), ("com/example/divergence/divergence/engine/StateStore", "size", "I"), ("com/example/divergence/divergence/engine/StateStore", "edited", "[J"), ("com/example/divergence/divergence/engine/StateStore", "editedFrom", "I"), ("com/example/divergence/divergence/engine/StateStore", "staged", "[J"), ("com/example/divergence/divergence/engine/StateStore", "stagedHashes", "[I"), ("com/example/divergence/divergence/engine/StateStore", "stagedSlots", "[I"), ("com/example/divergence/divergence/engine/StateStore", "stagedCount", "I")]
theorem cf_NSS {Z : State} {a0 : Array Value} (hw : ∀ d ∈ tables_1, d.before a0 Z = true) : Cf Z a0 "com/example/divergence/divergence/engine/StateStore" NSS := by
  refine ⟨fun f hf => ?_, by decide +kernel, fun f hf => ?_⟩
  · simp only [NSS, List.mem_cons, List.not_mem_nil, or_false] at hf
    rcases hf with rfl | rfl | rfl | rfl | rfl | rfl | rfl | rfl | rfl | rfl | rfl
    · exact Or.inr (wd hw 23 rfl)
    · exact Or.inl (wd hw 44 rfl)
    · exact Or.inl (wd hw 47 rfl)
    · exact Or.inl (wd hw 12 rfl)
    · exact Or.inl (wd hw 81 rfl)
    · exact Or.inl (wd hw 49 rfl)
    · exact Or.inl (wd hw 14 rfl)
    · exact Or.inl (wd hw 17 rfl)
    · exact Or.inl (wd hw 19 rfl)
    · exact Or.inl (wd hw 21 rfl)
    · exact Or.inl (wd hw 115 rfl)
  · simp only [NSS, List.mem_cons, List.not_mem_nil, or_false] at hf
    rcases hf with rfl | rfl | rfl | rfl | rfl | rfl | rfl | rfl | rfl | rfl | rfl
    · exact ⟨(.array .int), by decide +kernel⟩
    · exact ⟨(.object "com/example/divergence/divergence/engine/StateStore$Layout"), by decide +kernel⟩
    · exact ⟨(.array .long), by decide +kernel⟩
    · exact ⟨(.array .int), by decide +kernel⟩
    · exact ⟨.int, by decide +kernel⟩
    · exact ⟨(.array .long), by decide +kernel⟩
    · exact ⟨.int, by decide +kernel⟩
    · exact ⟨(.array .long), by decide +kernel⟩
    · exact ⟨(.array .int), by decide +kernel⟩
    · exact ⟨(.array .int), by decide +kernel⟩
    · exact ⟨.int, by decide +kernel⟩
theorem own_Eint {n : Nat} (h : n < 9223372036854775808) : (EE n).toInt = n := Int64.toInt_ofNat_of_lt (by omega)
theorem own_Elt {i n : Nat} (h : i < 9223372036854775808) (h' : n < 9223372036854775808) : (EE i < EE n) ↔ i < n := by
  rw [Int64.lt_iff_toInt_lt, own_Eint h, own_Eint h']; omega
theorem own_Emul (i j : Nat) : EE i * EE j = EE (i * j) := (Int64.ofNat_mul i j).symm
theorem D29_66_0 : Dc jdk_29_method_66_code 0 (.lload_n 0) 1 1 := dc (by decide +kernel) rfl
theorem D29_66_1 : Dc jdk_29_method_66_code 1 (.lload_n 2) 1 2 := dc (by decide +kernel) rfl
theorem D29_66_2 : Dc jdk_29_method_66_code 2 (.lcmp) 1 3 := dc (by decide +kernel) rfl
theorem D29_66_3 : Db jdk_29_method_66_code 3 (.ifCond .lt) 6 10 := db (7) (by decide +kernel) rfl (by decide) (by decide)
theorem D29_66_6 : Dc jdk_29_method_66_code 6 (.lload_n 0) 1 7 := dc (by decide +kernel) rfl
theorem D29_66_7 : Db jdk_29_method_66_code 7 (.goto) 10 11 := db (4) (by decide +kernel) rfl (by decide) (by decide)
theorem D29_66_10 : Dc jdk_29_method_66_code 10 (.lload_n 2) 1 11 := dc (by decide +kernel) rfl
theorem D29_66_11 : Dc jdk_29_method_66_code 11 (.lreturn) 1 12 := dc (by decide +kernel) rfl
set_option maxRecDepth 65536 in
set_option maxHeartbeats 40000000 in
theorem ct_maxJ (l : Launch) (Z : State) (a0 : Array Value) (hw : ∀ d ∈ tables_1, d.before a0 Z = true) (n0 : Nat) (h : Heap) (y z : Int64) :
    Ct l Z n0 (⟨"java/lang/Math", "max", "(JJ)J"⟩ : MethodName) jdk_29_method_66_code 4 (some .long) ({ frames := 0, cells := 0, slots := 0, locals := 0 } : Room) [.long y, .long z] h (fun v h' => v = some (.long (if y < z then z else y)) ∧ h = h') := by
  refine Ct.intro (Jvm.Free.JP.mathPlain rfl (by decide +kernel)) [.val (.long y), .second, .val (.long z), .second] (fun m => by first | (simp [entryFrame, mkF, argsToLocals, Value.category]; done) | (simp [entryFrame, mkF, argsToLocals, Value.category, maxLocals]; done) | rfl) ?_
  intro k hl K
  replace K : Ok k Z n0 "java/lang/Math" ({ frames := 0, cells := 0, slots := 0, locals := 0 } : Room) jdk_29_method_66_code 4 (some .long) "max" := K
  refine G.lloadN K D29_66_0 rfl ?_
  refine G.lloadN K D29_66_1 rfl ?_
  refine G.lcmp_lt K D29_66_2 D29_66_3 (fun q64 => ?_) (fun q64 => ?_)
  · refine G.lloadN K D29_66_10 rfl ?_
    refine G.ret_long K D29_66_11 ?_
    exact ⟨by simp [q64], rfl⟩
  · refine G.lloadN K D29_66_6 rfl ?_
    refine G.goto K D29_66_7 ?_
    refine G.ret_long K D29_66_11 ?_
    exact ⟨by simp [q64], rfl⟩
theorem D29_70_0 : Dc jdk_29_method_70_code 0 (.lload_n 0) 1 1 := dc (by decide +kernel) rfl
theorem D29_70_1 : Dc jdk_29_method_70_code 1 (.lload_n 2) 1 2 := dc (by decide +kernel) rfl
theorem D29_70_2 : Dc jdk_29_method_70_code 2 (.lcmp) 1 3 := dc (by decide +kernel) rfl
theorem D29_70_3 : Db jdk_29_method_70_code 3 (.ifCond .gt) 6 10 := db (7) (by decide +kernel) rfl (by decide) (by decide)
theorem D29_70_6 : Dc jdk_29_method_70_code 6 (.lload_n 0) 1 7 := dc (by decide +kernel) rfl
theorem D29_70_7 : Db jdk_29_method_70_code 7 (.goto) 10 11 := db (4) (by decide +kernel) rfl (by decide) (by decide)
theorem D29_70_10 : Dc jdk_29_method_70_code 10 (.lload_n 2) 1 11 := dc (by decide +kernel) rfl
theorem D29_70_11 : Dc jdk_29_method_70_code 11 (.lreturn) 1 12 := dc (by decide +kernel) rfl
set_option maxRecDepth 65536 in
set_option maxHeartbeats 40000000 in
theorem ct_minJ (l : Launch) (Z : State) (a0 : Array Value) (hw : ∀ d ∈ tables_1, d.before a0 Z = true) (n0 : Nat) (h : Heap) (y z : Int64) :
    Ct l Z n0 (⟨"java/lang/Math", "min", "(JJ)J"⟩ : MethodName) jdk_29_method_70_code 4 (some .long) ({ frames := 0, cells := 0, slots := 0, locals := 0 } : Room) [.long y, .long z] h (fun v h' => v = some (.long (if z < y then z else y)) ∧ h = h') := by
  refine Ct.intro (Jvm.Free.JP.mathPlain rfl (by decide +kernel)) [.val (.long y), .second, .val (.long z), .second] (fun m => by first | (simp [entryFrame, mkF, argsToLocals, Value.category]; done) | (simp [entryFrame, mkF, argsToLocals, Value.category, maxLocals]; done) | rfl) ?_
  intro k hl K
  replace K : Ok k Z n0 "java/lang/Math" ({ frames := 0, cells := 0, slots := 0, locals := 0 } : Room) jdk_29_method_70_code 4 (some .long) "min" := K
  refine G.lloadN K D29_70_0 rfl ?_
  refine G.lloadN K D29_70_1 rfl ?_
  refine G.lcmp_gt K D29_70_2 D29_70_3 (fun q65 => ?_) (fun q65 => ?_)
  · refine G.lloadN K D29_70_10 rfl ?_
    refine G.ret_long K D29_70_11 ?_
    exact ⟨by simp [q65], rfl⟩
  · refine G.lloadN K D29_70_6 rfl ?_
    refine G.goto K D29_70_7 ?_
    refine G.ret_long K D29_70_11 ?_
    exact ⟨by simp [q65], rfl⟩
theorem D98_12_0 : Dc prog_98_method_12_code 0 (.iload_n 3) 1 1 := dc (by decide +kernel) rfl
theorem D98_12_1 : Dc prog_98_method_12_code 1 (.i2l) 1 2 := dc (by decide +kernel) rfl
theorem D98_12_2 : Dc prog_98_method_12_code 2 (.aload_n 0) 1 3 := dc (by decide +kernel) rfl
theorem D98_12_3 : Dc prog_98_method_12_code 3 (.getfield 43) 3 6 := dc (by decide +kernel) rfl
theorem D98_12_6 : Dc prog_98_method_12_code 6 (.getfield 47) 3 9 := dc (by decide +kernel) rfl
theorem D98_12_9 : Dc prog_98_method_12_code 9 (.i2l) 1 10 := dc (by decide +kernel) rfl
theorem D98_12_10 : Dc prog_98_method_12_code 10 (.lmul) 1 11 := dc (by decide +kernel) rfl
theorem D98_12_11 : Dc prog_98_method_12_code 11 (.lstore 4) 2 13 := dc (by decide +kernel) rfl
theorem D98_12_13 : Dc prog_98_method_12_code 13 (.lload 4) 2 15 := dc (by decide +kernel) rfl
theorem D98_12_15 : Dc prog_98_method_12_code 15 (.ldc2_w 159) 3 18 := dc (by decide +kernel) rfl
theorem D98_12_18 : Dc prog_98_method_12_code 18 (.lcmp) 1 19 := dc (by decide +kernel) rfl
theorem D98_12_19 : Db prog_98_method_12_code 19 (.ifCond .le) 22 43 := db (24) (by decide +kernel) rfl (by decide) (by decide)
theorem D98_12_22 : Dc prog_98_method_12_code 22 (.new 150) 3 25 := dc (by decide +kernel) rfl
theorem D98_12_25 : Dc prog_98_method_12_code 25 (.dup) 1 26 := dc (by decide +kernel) rfl
theorem D98_12_26 : Dc prog_98_method_12_code 26 (.iload_n 3) 1 27 := dc (by decide +kernel) rfl
theorem D98_12_27 : Dc prog_98_method_12_code 27 (.aload_n 0) 1 28 := dc (by decide +kernel) rfl
theorem D98_12_28 : Dc prog_98_method_12_code 28 (.getfield 43) 3 31 := dc (by decide +kernel) rfl
theorem D98_12_31 : Dc prog_98_method_12_code 31 (.getfield 47) 3 34 := dc (by decide +kernel) rfl
theorem D98_12_34 : Dc prog_98_method_12_code 34 (.invokedynamic 161) 5 39 := dc (by decide +kernel) rfl
theorem D98_12_39 : Dc prog_98_method_12_code 39 (.invokespecial 156) 3 42 := dc (by decide +kernel) rfl
theorem D98_12_42 : Dc prog_98_method_12_code 42 (.athrow) 1 43 := dc (by decide +kernel) rfl
theorem D98_12_43 : Dc prog_98_method_12_code 43 (.lload_n 1) 1 44 := dc (by decide +kernel) rfl
theorem D98_12_44 : Dc prog_98_method_12_code 44 (.lload 4) 2 46 := dc (by decide +kernel) rfl
theorem D98_12_46 : Dc prog_98_method_12_code 46 (.invokestatic 164) 3 49 := dc (by decide +kernel) rfl
theorem D98_12_49 : Dc prog_98_method_12_code 49 (.ldc2_w 159) 3 52 := dc (by decide +kernel) rfl
theorem D98_12_52 : Dc prog_98_method_12_code 52 (.invokestatic 167) 3 55 := dc (by decide +kernel) rfl
theorem D98_12_55 : Dc prog_98_method_12_code 55 (.l2i) 1 56 := dc (by decide +kernel) rfl
theorem D98_12_56 : Dc prog_98_method_12_code 56 (.ireturn) 1 57 := dc (by decide +kernel) rfl
set_option maxRecDepth 65536 in
set_option maxHeartbeats 40000000 in
theorem ct_vlen (l : Launch) (Z : State) (a0 : Array Value) (hw : ∀ d ∈ tables_1, d.before a0 Z = true) (n0 : Nat) (h : Heap) (a xa ly va sl ed sg sh ss : Addr) (t : Bool) (n : Nat) (wa sa la : Addr) (zs ef sc : Int32) (σ : List Ch) (hn : n ≤ 8) (hnw : n * wcn t ≤ 16) (H : Hp n0 h ((a, Ob Z CSn NSS [.ref xa, .ref ly, .ref va, .ref sl, .int zs, .ref ed, .int ef, .ref sg, .ref sh, .ref ss, .int sc]) :: (ly, Ob Z CYn NSY [.ref wa, .ref sa, .ref la, .int (Int32.ofNat (wcn t))]) :: σ)) :
    Ct l Z n0 (⟨"com/example/divergence/divergence/engine/StateStore", "vectorsLength", "(JI)I"⟩ : MethodName) prog_98_method_12_code 6 (some .int) ({ frames := 1, cells := 0, slots := 0, locals := 30 } : Room) [.ref a, .long 16, .int (Int32.ofNat n)] h (fun v h' => v = some (.int 16) ∧ h = h') := by
  refine Ct.intro (plainFor_of_name pn_0) [.val (.ref a), .val (.long 16), .second, .val (.int (Int32.ofNat n)), .unset, .unset] (fun m => by first | (simp [entryFrame, mkF, argsToLocals, Value.category]; done) | (simp [entryFrame, mkF, argsToLocals, Value.category, maxLocals]; done) | rfl) ?_
  intro k hl K
  replace K : Ok k Z n0 "com/example/divergence/divergence/engine/StateStore" ({ frames := 1, cells := 0, slots := 0, locals := 30 } : Room) prog_98_method_12_code 6 (some .int) "vectorsLength" := K
  have hwc := wcn_le t
  refine G.iloadN K D98_12_0 rfl ?_
  refine G.i2l K D98_12_1 ?_
  refine G.aloadN K D98_12_2 rfl rfl ?_
  refine G.getF K (host := "") (Or.inl (wd hw 43 rfl)) H (i := 0) rfl (j := 1) rfl rfl D98_12_3 ?_
  refine G.getFR K (wd hw 45 rfl) H (i := 1) rfl (j := 3) rfl rfl D98_12_6 ?_
  refine G.i2l K D98_12_9 ?_
  refine G.lmul K D98_12_10 ?_
  rw [val_EE (show n < 2147483648 by omega), val_EE (show wcn t < 2147483648 by omega), own_Emul]
  refine G.lstore K D98_12_11 ([.val (.ref a), .val (.long 16), .second, .val (.int (Int32.ofNat n)), .val (.long (EE (n * wcn t))), .second]) rfl ?_
  refine G.lload K D98_12_13 rfl ?_
  refine G.ldc2J K D98_12_15 (wd hw 87 rfl) ?_
  refine G.lcmp_le K D98_12_18 D98_12_19 (fun q66 => ?_) (fun q => absurd ((own_Elt (i := 2147483639) (by decide) (by omega)).mp q) (by omega))
  refine G.lloadN K D98_12_43 rfl ?_
  refine G.lload K D98_12_44 rfl ?_
  refine G.callS K hl (wd hw 88 rfl) (wd hw 89 rfl) (wd hw 78 rfl) (wd hw 90 rfl) (by decide) pd_3 (ct_maxJ l Z a0 hw n0 _ 16 (EE (n * wcn t))) 0 rfl (by decide) (by decide) (by decide) (by decide) rfl rfl [.long (EE (n * wcn t)), .long 16] rfl D98_12_46 ?_
  rintro _ _ ⟨rfl, rfl⟩
  rw [if_neg (show ¬ (16 : Int64) < EE (n * wcn t) from fun z => absurd ((own_Elt (i := 16) (by decide) (by omega)).mp z) (by omega))]
  change G k n0 _ h _ _ 49 [.val (.ref a), .val (.long 16), .second, .val (.int (Int32.ofNat n)), .val (.long (EE (n * wcn t))), .second] [.long 16]
  refine G.ldc2J K D98_12_49 (wd hw 87 rfl) ?_
  refine G.callS K hl (wd hw 91 rfl) (wd hw 92 rfl) (wd hw 78 rfl) (wd hw 93 rfl) (by decide) pd_3 (ct_minJ l Z a0 hw n0 _ 16 2147483639) 0 rfl (by decide) (by decide) (by decide) (by decide) rfl rfl [.long 2147483639, .long 16] rfl D98_12_52 ?_
  rintro _ _ ⟨rfl, rfl⟩
  rw [show (if (2147483639 : Int64) < 16 then (2147483639 : Int64) else 16) = 16 from by decide]
  change G k n0 _ h _ _ 55 [.val (.ref a), .val (.long 16), .second, .val (.int (Int32.ofNat n)), .val (.long (EE (n * wcn t))), .second] [.long 16]
  refine G.l2i K D98_12_55 ?_
  change G k n0 _ h _ _ 56 [.val (.ref a), .val (.long 16), .second, .val (.int (Int32.ofNat n)), .val (.long (EE (n * wcn t))), .second] [.int 16]
  refine G.ret_int K D98_12_56 ?_
  exact ⟨rfl, rfl⟩
/-! ### the store (needs arith_lst, arith_pack, arith_enc, arith_tab and the definitions hF, pkF, enc_congr of s383.py) -/
def hsl (W : Nat → Int64) (c : Nat) : Nat := (hF W c &&& 31).toNatClampNeg
theorem hsl_lt (W : Nat → Int64) (c : Nat) : hsl W c < 32 ∧ hF W c &&& 31 = Int32.ofNat (hsl W c) := by
  obtain ⟨n, h1, h2⟩ := own_and_lt (hF W c) 31 (by decide)
  have h2' : hF W c &&& 31 = Int32.ofNat n := h2
  unfold hsl; rw [h2', own_nidx (by omega)]; exact ⟨by omega, rfl⟩
theorem and31 {s : Nat} (h : s < 32) : Int32.ofNat (s + 1) &&& 31 = Int32.ofNat ((s + 1) % 32) := by
  have e : ∀ s : Fin 32, Int32.ofNat (s.val + 1) &&& 31 = Int32.ofNat ((s.val + 1) % 32) := by decide +kernel
  exact e ⟨s, h⟩
theorem hF_congr {W U : Nat → Int64} {c : Nat} (h : ∀ k, k < c → W k = U k) : hF W c = hF U c := by
  have : ∀ n, n ≤ c → hashF W n = hashF U n := by
    intro n
    induction n with
    | zero => intro _; rfl
    | succ n ih => intro hn; simp only [hashF]; rw [ih (by omega), h n (by omega)]
  unfold hF; rw [this c (Nat.le_refl _)]
theorem hsl_congr {W U : Nat → Int64} {c : Nat} (h : ∀ k, k < c → W k = U k) : hsl W c = hsl U c := by unfold hsl; rw [hF_congr h]
theorem OKv_wide {t t' : Bool} {w w' v : Nat → Nat} (h : OKv t w v) (hw : ∀ i, i < 3 → w i ≤ w' i ∧ w' i ≤ 32) (hs : t' = false → w' 0 + w' 1 + w' 2 ≤ 64) : OKv t' w' v :=
  ⟨fun i hi => ⟨Nat.lt_of_lt_of_le (h.1 i hi).1 (Nat.pow_le_pow_right (by decide) (hw i hi).1), (h.1 i hi).2.1, (hw i hi).2⟩, hs⟩
def cpF (FF VF : Nat → Int64) (b p c : Nat) : Nat → Int64 := fun i => if p ≤ i ∧ i < p + c then FF (b + (i - p)) else VF i
theorem lst_cpyG {N M b p c : Nat} (FF VF : Nat → Int64) (h1 : b + c ≤ N) (h2 : p + c ≤ M) : cpy (lst N FF) (lst M VF) b p c = lst M (cpF FF VF b p c) := by
  apply List.ext_getElem?; intro j; unfold cpy
  have e1 : (List.take p (lst M VF)).length = p := by rw [List.length_take, lst_len]; omega
  have e2 : (List.take c (List.drop b (lst N FF))).length = c := by rw [List.length_take, List.length_drop, lst_len]; omega
  by_cases q1 : j < p
  · rw [List.append_assoc, List.getElem?_append_left (by rw [e1]; exact q1), List.getElem?_take_of_lt q1, lst_get _ (by omega), lst_get _ (by omega)]; unfold cpF; rw [if_neg (by omega)]
  · by_cases q2 : j < p + c
    · rw [List.append_assoc, List.getElem?_append_right (by rw [e1]; omega), e1, List.getElem?_append_left (by rw [e2]; omega), List.getElem?_take_of_lt (by omega), List.getElem?_drop, lst_get _ (by omega), lst_get _ (by omega)]; unfold cpF; rw [if_pos (by omega)]
    · rw [List.getElem?_append_right (by rw [List.length_append, e1, e2]; omega), List.length_append, e1, e2, List.getElem?_drop, show p + c + (j - (p + c)) = j by omega]
      by_cases q3 : j < M
      · rw [lst_get _ q3, lst_get _ q3]; unfold cpF; rw [if_neg (by omega)]
      · rw [lst_out _ (by omega), lst_out _ (by omega)]
theorem mulk {i j k c : Nat} (h : j < i) (hk : k < c) : j * c + k < i * c := by
  have := Nat.mul_le_mul_right c (show j + 1 ≤ i from h)
  rw [Nat.succ_mul] at this; omega
theorem pkF_step {RF : Nat → Int64} {t : Bool} {w : Nat → Nat} {vals : Nat → Nat → Nat} {i : Nat} (h : ∀ j, j < i → ∀ k, k < wcn t → RF (j * wcn t + k) = EE (enc t w (vals j) k)) : ∀ j, j < i + 1 → ∀ k, k < wcn t → pkF RF (i * wcn t) t w (vals i) (j * wcn t + k) = EE (enc t w (vals j) k) := by
  intro j hj k hk
  unfold pkF
  by_cases q : j = i
  · subst q; rw [if_pos (by omega), show j * wcn t + k - j * wcn t = k by omega]
  · have := mulk (show j < i by omega) hk
    rw [if_neg (by omega)]; exact h j (by omega) k hk
theorem ups_fup (SL : Nat → Nat) (r x : Nat) : fup (fun s => Int32.ofNat (SL s)) r (Int32.ofNat x) = fun s => Int32.ofNat (ups SL r x s) := by
  funext s; unfold fup ups
  by_cases q : s = r
  · rw [if_pos q, if_pos q]
  · rw [if_neg q, if_neg q]
/-- vector j of VF is the one at b of FF -/
def Em (t : Bool) (n : Nat) (VF FF : Nat → Int64) (b : Nat) (j : Nat) : Prop := j < n ∧ ∀ k, k < wcn t → VF (j * wcn t + k) = FF (b + k)
def Good (P : Nat) (t : Bool) (w : Nat → Nat) (n : Nat) (vals : Nat → Nat → Nat) (e : Nat → Nat) (VF : Nat → Int64) (SL : Nat → Nat) (EF : Nat → Int64) : Prop :=
  (P = 2 ∨ P = 3) ∧ (∀ i, i < P → 0 < w i) ∧ (P = 2 → w 2 = 0 ∧ t = false) ∧ (∀ j, j < n → OKv t w (vals j)) ∧ (OKv t w e) ∧ (∀ j, j < n → ∀ k, k < wcn t → VF (j * wcn t + k) = EE (enc t w (vals j) k)) ∧ (∀ k, k < wcn t → EF k = EE (enc t w e k)) ∧ (Tab SL n (fun j => hsl (fun k => VF (j * wcn t + k)) (wcn t))) ∧ (∀ i j, i < n → j < n → (∀ p, p < 3 → vals i p = vals j p) → i = j)
theorem Good.hP {P : Nat} {t : Bool} {w : Nat → Nat} {n : Nat} {vals : Nat → Nat → Nat} {e : Nat → Nat} {VF : Nat → Int64} {SL : Nat → Nat} {EF : Nat → Int64} (C : Good P t w n vals e VF SL EF) : P = 2 ∨ P = 3 := C.1
theorem Good.w1 {P : Nat} {t : Bool} {w : Nat → Nat} {n : Nat} {vals : Nat → Nat → Nat} {e : Nat → Nat} {VF : Nat → Int64} {SL : Nat → Nat} {EF : Nat → Int64} (C : Good P t w n vals e VF SL EF) : ∀ i, i < P → 0 < w i := C.2.1
theorem Good.w2 {P : Nat} {t : Bool} {w : Nat → Nat} {n : Nat} {vals : Nat → Nat → Nat} {e : Nat → Nat} {VF : Nat → Int64} {SL : Nat → Nat} {EF : Nat → Int64} (C : Good P t w n vals e VF SL EF) : P = 2 → w 2 = 0 ∧ t = false := C.2.2.1
theorem Good.okv {P : Nat} {t : Bool} {w : Nat → Nat} {n : Nat} {vals : Nat → Nat → Nat} {e : Nat → Nat} {VF : Nat → Int64} {SL : Nat → Nat} {EF : Nat → Int64} (C : Good P t w n vals e VF SL EF) : ∀ j, j < n → OKv t w (vals j) := C.2.2.2.1
theorem Good.oke {P : Nat} {t : Bool} {w : Nat → Nat} {n : Nat} {vals : Nat → Nat → Nat} {e : Nat → Nat} {VF : Nat → Int64} {SL : Nat → Nat} {EF : Nat → Int64} (C : Good P t w n vals e VF SL EF) : OKv t w e := C.2.2.2.2.1
theorem Good.vec {P : Nat} {t : Bool} {w : Nat → Nat} {n : Nat} {vals : Nat → Nat → Nat} {e : Nat → Nat} {VF : Nat → Int64} {SL : Nat → Nat} {EF : Nat → Int64} (C : Good P t w n vals e VF SL EF) : ∀ j, j < n → ∀ k, k < wcn t → VF (j * wcn t + k) = EE (enc t w (vals j) k) := C.2.2.2.2.2.1
theorem Good.edi {P : Nat} {t : Bool} {w : Nat → Nat} {n : Nat} {vals : Nat → Nat → Nat} {e : Nat → Nat} {VF : Nat → Int64} {SL : Nat → Nat} {EF : Nat → Int64} (C : Good P t w n vals e VF SL EF) : ∀ k, k < wcn t → EF k = EE (enc t w e k) := C.2.2.2.2.2.2.1
theorem Good.tab {P : Nat} {t : Bool} {w : Nat → Nat} {n : Nat} {vals : Nat → Nat → Nat} {e : Nat → Nat} {VF : Nat → Int64} {SL : Nat → Nat} {EF : Nat → Int64} (C : Good P t w n vals e VF SL EF) : Tab SL n (fun j => hsl (fun k => VF (j * wcn t + k)) (wcn t)) := C.2.2.2.2.2.2.2.1
theorem Good.dis {P : Nat} {t : Bool} {w : Nat → Nat} {n : Nat} {vals : Nat → Nat → Nat} {e : Nat → Nat} {VF : Nat → Int64} {SL : Nat → Nat} {EF : Nat → Int64} (C : Good P t w n vals e VF SL EF) : ∀ i j, i < n → j < n → (∀ p, p < 3 → vals i p = vals j p) → i = j := C.2.2.2.2.2.2.2.2
theorem OKv.two {t : Bool} {w v : Nat → Nat} (h : OKv t w v) (h2 : w 2 = 0) : v 2 = 0 := by
  have := (h.1 2 (by decide)).1; rw [h2] at this; omega
theorem enc_same {P : Nat} {t : Bool} {w v u : Nat → Nat} (hP : P = 2 ∨ P = 3) (w1 : ∀ i, i < P → 0 < w i) (w2 : P = 2 → w 2 = 0 ∧ t = false) (h : OKv t w v) (h' : OKv t w u) (e : ∀ k, k < wcn t → EE (enc t w v k) = EE (enc t w u k)) : ∀ p, p < 3 → v p = u p := by
  intro p hp
  by_cases q : p < P
  · exact enc_inj h h' e hp (w1 p q)
  · rcases hP with rfl | rfl
    · obtain rfl : p = 2 := by omega
      rw [h.two (w2 rfl).1, h'.two (w2 rfl).1]
    · omega
theorem Good.put {P : Nat} {t : Bool} {w : Nat → Nat} {n : Nat} {vals : Nat → Nat → Nat} {e : Nat → Nat} {VF : Nat → Int64} {SL : Nat → Nat} {EF : Nat → Int64} (C : Good P t w n vals e VF SL EF) {FF : Nat → Int64} {b : Nat} {v : Nat → Nat} (hb : ∀ k, k < wcn t → FF (b + k) = EE (enc t w v k)) (hv : OKv t w v) (hd : ∀ j, j < n → ¬ ∀ p, p < 3 → vals j p = v p) {E : Nat → Prop} {r : Nat} (L : Lk SL E (hsl (fun k => FF (b + k)) (wcn t)) false r) :
    Good P t w (n + 1) (fun j => if j = n then v else vals j) e (cpF FF VF b (n * wcn t) (wcn t)) (ups SL r (n + 1)) EF := by
  have hn : ∀ k, k < wcn t → cpF FF VF b (n * wcn t) (wcn t) (n * wcn t + k) = FF (b + k) := by
    intro k hk; unfold cpF; rw [if_pos (by omega), show n * wcn t + k - n * wcn t = k by omega]
  have ho : ∀ j, j < n → ∀ k, k < wcn t → cpF FF VF b (n * wcn t) (wcn t) (j * wcn t + k) = VF (j * wcn t + k) := by
    intro j hj k hk; have := mulk hj hk; unfold cpF; rw [if_neg (by omega)]
  refine ⟨C.hP, C.w1, C.w2, fun j hj => ?_, C.oke, fun j hj k hk => ?_, C.edi, ?_, fun i j hi hj hij => ?_⟩
  · by_cases q : j = n
    · simp only [q, if_true]; exact hv
    · simp only [q, if_false]; exact C.okv j (by omega)
  · by_cases q : j = n
    · subst q; simp only [if_true]; rw [hn k hk, hb k hk]
    · simp only [q, if_false]; rw [ho j (by omega) k hk, C.vec j (by omega) k hk]
  · refine C.tab.put (E := E) (r := r) (hs' := fun j => hsl (fun k => cpF FF VF b (n * wcn t) (wcn t) (j * wcn t + k)) (wcn t)) ?_ (hsl_lt _ _).1 fun j hj => hsl_congr (ho j hj)
    show Lk SL E (hsl (fun k => cpF FF VF b (n * wcn t) (wcn t) (n * wcn t + k)) (wcn t)) false r
    rw [hsl_congr (U := fun k => FF (b + k)) hn]; exact L
  · by_cases q : i = n <;> by_cases q' : j = n
    · omega
    · simp only [q, q', if_true, if_false] at hij; exact absurd (fun p hp => (hij p hp).symm) (hd j (by omega))
    · simp only [q, q', if_true, if_false] at hij; exact absurd hij (hd i (by omega))
    · simp only [q, q', if_false] at hij; exact C.dis i j (by omega) (by omega) hij
theorem Good.look {P : Nat} {t : Bool} {w : Nat → Nat} {n : Nat} {vals : Nat → Nat → Nat} {e : Nat → Nat} {VF : Nat → Int64} {SL : Nat → Nat} {EF : Nat → Int64} (C : Good P t w n vals e VF SL EF) (h3 : n ≤ 3) {FF : Nat → Int64} {b : Nat} {v : Nat → Nat} (hb : ∀ k, k < wcn t → FF (b + k) = EE (enc t w v k)) (hv : OKv t w v) :
    (∃ j, j < n ∧ (∀ p, p < 3 → vals j p = v p) ∧ Lk SL (Em t n VF FF b) (hsl (fun k => FF (b + k)) (wcn t)) true j) ∨ ((∀ j, j < n → ¬ ∀ p, p < 3 → vals j p = v p) ∧ ∃ r, Lk SL (Em t n VF FF b) (hsl (fun k => FF (b + k)) (wcn t)) false r) := by
  have key : ∀ i, Em t n VF FF b i → i < n ∧ ∀ p, p < 3 → vals i p = v p := fun i ⟨hi, he⟩ => ⟨hi, enc_same C.hP C.w1 C.w2 (C.okv i hi) hv fun k hk => by rw [← C.vec i hi k hk, he k hk, hb k hk]⟩
  by_cases q : ∃ j, j < n ∧ ∀ p, p < 3 → vals j p = v p
  · obtain ⟨j, hj, hp⟩ := q
    refine Or.inl ⟨j, hj, hp, ?_⟩
    have hw : ∀ k, k < wcn t → VF (j * wcn t + k) = FF (b + k) := fun k hk => by rw [C.vec j hj k hk, hb k hk, enc_congr hp]
    have := C.tab.fnd j hj (Em t n VF FF b) ⟨hj, hw⟩ fun i hi hne z => hne (C.dis i j hi hj fun p hp' => by rw [(key i z).2 p hp', hp p hp'])
    rw [hsl_congr (U := fun k => FF (b + k)) hw] at this
    exact this
  · refine Or.inr ⟨fun j hj z => q ⟨j, hj, z⟩, ?_⟩
    exact C.tab.miss h3 (hsl_lt _ _).1 fun i z => q ⟨i, key i z⟩
theorem Good.set {P : Nat} {t : Bool} {w : Nat → Nat} {n : Nat} {vals : Nat → Nat → Nat} {e : Nat → Nat} {VF : Nat → Int64} {SL : Nat → Nat} {EF : Nat → Int64} (C : Good P t w n vals e VF SL EF) {p x : Nat} (hp : p < P) (hx : x < 2 ^ w p) (hx31 : x < 2147483648) : Good P t w n vals (upv e p x) VF SL (fup EF (wdp t p) (EE (enc t w (upv e p x) (wdp t p)))) := by
  have h3 : p < 3 := by have := C.hP; omega
  refine ⟨C.hP, C.w1, C.w2, C.okv, OKv_up C.oke hx hx31, C.vec, fun k hk => ?_, C.tab, C.dis⟩
  unfold fup
  by_cases q : k = wdp t p
  · rw [if_pos q, q]
  · rw [if_neg q, C.edi k hk, enc_keep C.oke h3 (C.w1 p hp) q hk]
theorem Good.wid {P : Nat} {t : Bool} {w : Nat → Nat} {n : Nat} {vals : Nat → Nat → Nat} {e : Nat → Nat} {VF : Nat → Int64} {SL : Nat → Nat} {EF : Nat → Int64} (C : Good P t w n vals e VF SL EF) {p W : Nat} (hp : p < P) (hW : w p ≤ W) (hW32 : W ≤ 32) : (∀ i, i < 3 → w i ≤ upv w p W i ∧ upv w p W i ≤ 32) ∧ (∀ i, i < P → 0 < upv w p W i) ∧ (P = 2 → upv w p W 2 = 0) := by
  refine ⟨fun i hi => ?_, fun i hi => ?_, fun h => ?_⟩
  · have := (C.oke.1 i hi).2.2
    unfold upv; by_cases q : i = p
    · subst q; rw [if_pos rfl]; exact ⟨hW, hW32⟩
    · rw [if_neg q]; exact ⟨Nat.le_refl _, this⟩
  · have h1 := C.w1 p hp; have h2 := C.w1 i hi
    unfold upv; split
    · omega
    · exact h2
  · unfold upv; rw [if_neg (by omega)]; exact (C.w2 h).1
theorem Good.wide {P : Nat} {t t' : Bool} {w : Nat → Nat} {n : Nat} {vals : Nat → Nat → Nat} {e : Nat → Nat} {VF VF' : Nat → Int64} {SL SL' : Nat → Nat} {EF EF' : Nat → Int64} (C : Good P t w n vals e VF SL EF) {p W : Nat} (hp : p < P) (hW : w p ≤ W) (hW32 : W ≤ 32) (hs : t' = false ↔ upv w p W 0 + upv w p W 1 + upv w p W 2 ≤ 64)
    (hV : ∀ j, j < n → ∀ k, k < wcn t' → VF' (j * wcn t' + k) = EE (enc t' (upv w p W) (vals j) k)) (hE : ∀ k, k < wcn t' → EF' k = EE (enc t' (upv w p W) e k)) (hT : Tab SL' n (fun j => hsl (fun k => VF' (j * wcn t' + k)) (wcn t'))) : Good P t' (upv w p W) n vals e VF' SL' EF' := by
  obtain ⟨h1, h2, h3⟩ := C.wid hp hW hW32
  refine ⟨C.hP, h2, fun h => ⟨h3 h, hs.mpr ?_⟩, fun j hj => OKv_wide (C.okv j hj) h1 hs.mp, OKv_wide C.oke h1 hs.mp, hV, hE, hT, C.dis⟩
  have a0 := (h1 0 (by decide)).2; have a1 := (h1 1 (by decide)).2; rw [h3 h]; omega
theorem Good.clear {P : Nat} {t : Bool} {w : Nat → Nat} {n : Nat} {vals : Nat → Nat → Nat} {e : Nat → Nat} {VF : Nat → Int64} {SL : Nat → Nat} {EF : Nat → Int64} (C : Good P t w n vals e VF SL EF) (u : Nat → Nat) : Good P t w n vals (cutv u 0) VF SL (fun _ => 0) := by
  refine ⟨C.hP, C.w1, C.w2, C.okv, ⟨fun i hi => ⟨?_, ?_, (C.oke.1 i hi).2.2⟩, C.oke.2⟩, C.vec, fun k hk => ?_, C.tab, C.dis⟩
  · show 0 < _; exact Nat.two_pow_pos _
  · show 0 < _; decide
  · have : enc t w (cutv u 0) k = 0 := by unfold enc cutv; cases t <;> simp
    rw [this]; rfl
theorem Good.edit {P : Nat} {t : Bool} {w : Nat → Nat} {n : Nat} {vals : Nat → Nat → Nat} {e : Nat → Nat} {VF : Nat → Int64} {SL : Nat → Nat} {EF : Nat → Int64} (C : Good P t w n vals e VF SL EF) {m : Nat} (hm : m < n) : Good P t w n vals (vals m) VF SL (cpF VF EF (m * wcn t) 0 (wcn t)) := by
  refine ⟨C.hP, C.w1, C.w2, C.okv, C.okv m hm, C.vec, fun k hk => ?_, C.tab, C.dis⟩
  unfold cpF; rw [if_pos (by omega), Nat.sub_zero]; exact C.vec m hm k hk
theorem Good.init3 (vals : Nat → Nat → Nat) : Good 3 false (fun _ => 1) 0 vals (fun _ => 0) (fun _ => 0) (fun _ => 0) (fun _ => 0) := by
  refine ⟨Or.inr rfl, fun i hi => Nat.one_pos, fun h => by omega, fun j hj => by omega, ⟨fun i hi => ⟨show 0 < 2 ^ 1 by decide, show 0 < 2147483648 by decide, show 1 ≤ 32 by decide⟩, fun _ => by decide⟩, fun j hj => by omega, fun k hk => ?_, Tab.none _, fun i j hi => by omega⟩
  have : enc false (fun _ => 1) (fun _ => 0) k = 0 := by unfold enc; simp
  rw [this]; rfl
def w20 : Nat → Nat := fun i => if i < 2 then 1 else 0
theorem Good.init2 (vals : Nat → Nat → Nat) : Good 2 false w20 0 vals (fun _ => 0) (fun _ => 0) (fun _ => 0) (fun _ => 0) := by
  refine ⟨Or.inl rfl, fun i hi => by unfold w20; rw [if_pos hi]; decide, fun h => ⟨rfl, rfl⟩, fun j hj => by omega, ⟨fun i hi => ⟨Nat.two_pow_pos _, show 0 < 2147483648 by decide, by unfold w20; split <;> decide⟩, fun _ => by decide⟩, fun j hj => by omega, fun k hk => ?_, Tab.none _, fun i j hi => by omega⟩
  have : enc false w20 (fun _ => 0) k = 0 := by unfold enc; simp
  rw [this]; rfl
theorem upv_fup (w : Nat → Nat) (p x : Nat) : fup (fun i => Int32.ofNat (w i)) p (Int32.ofNat x) = fun i => Int32.ofNat (upv w p x i) := by
  funext s; unfold fup upv
  by_cases q : s = p
  · rw [if_pos q, if_pos q]
  · rw [if_neg q, if_neg q]
theorem own_min32 {W : Nat} (h : W ≤ 32) : (if Int32.ofNat W < 32 then Int32.ofNat W else 32) = Int32.ofNat W := by
  have e : ∀ W : Fin 33, (if Int32.ofNat W.val < 32 then Int32.ofNat W.val else 32) = Int32.ofNat W.val := by decide +kernel
  exact e ⟨W, by omega⟩
theorem lim_lt {x w : Nat} (hx : x < 2147483648) (hw : w ≤ 32) : (EE x < EE (2 ^ w)) ↔ x < 2 ^ w :=
  own_Elt (by omega) (Nat.lt_of_le_of_lt (Nat.pow_le_pow_right (by decide) hw) (by decide))
theorem D98_10_0 : Dc prog_98_method_10_code 0 (.iload 4) 2 2 := dc (by decide +kernel) rfl
theorem D98_10_2 : Dc prog_98_method_10_code 2 (.newarray .long) 2 4 := dc (by decide +kernel) rfl
theorem D98_10_4 : Dc prog_98_method_10_code 4 (.astore 5) 2 6 := dc (by decide +kernel) rfl
theorem D98_10_6 : Dc prog_98_method_10_code 6 (.aload_n 0) 1 7 := dc (by decide +kernel) rfl
theorem D98_10_7 : Dc prog_98_method_10_code 7 (.getfield 29) 3 10 := dc (by decide +kernel) rfl
theorem D98_10_10 : Dc prog_98_method_10_code 10 (.arraylength) 1 11 := dc (by decide +kernel) rfl
theorem D98_10_11 : Dc prog_98_method_10_code 11 (.newarray .int) 2 13 := dc (by decide +kernel) rfl
theorem D98_10_13 : Dc prog_98_method_10_code 13 (.astore 6) 2 15 := dc (by decide +kernel) rfl
theorem D98_10_15 : Dc prog_98_method_10_code 15 (.iconst 0) 1 16 := dc (by decide +kernel) rfl
theorem D98_10_16 : Dc prog_98_method_10_code 16 (.istore 7) 2 18 := dc (by decide +kernel) rfl
theorem D98_10_18 : Dc prog_98_method_10_code 18 (.iload 7) 2 20 := dc (by decide +kernel) rfl
theorem D98_10_20 : Dc prog_98_method_10_code 20 (.iload_n 2) 1 21 := dc (by decide +kernel) rfl
theorem D98_10_21 : Db prog_98_method_10_code 21 (.if_icmp .ge) 24 65 := db (44) (by decide +kernel) rfl (by decide) (by decide)
theorem D98_10_24 : Dc prog_98_method_10_code 24 (.aload_n 3) 1 25 := dc (by decide +kernel) rfl
theorem D98_10_25 : Dc prog_98_method_10_code 25 (.aload_n 1) 1 26 := dc (by decide +kernel) rfl
theorem D98_10_26 : Dc prog_98_method_10_code 26 (.iload 7) 2 28 := dc (by decide +kernel) rfl
theorem D98_10_28 : Dc prog_98_method_10_code 28 (.aload_n 3) 1 29 := dc (by decide +kernel) rfl
theorem D98_10_29 : Dc prog_98_method_10_code 29 (.getfield 47) 3 32 := dc (by decide +kernel) rfl
theorem D98_10_32 : Dc prog_98_method_10_code 32 (.imul) 1 33 := dc (by decide +kernel) rfl
theorem D98_10_33 : Dc prog_98_method_10_code 33 (.aload 6) 2 35 := dc (by decide +kernel) rfl
theorem D98_10_35 : Dc prog_98_method_10_code 35 (.invokevirtual 70) 3 38 := dc (by decide +kernel) rfl
theorem D98_10_38 : Dc prog_98_method_10_code 38 (.aload_n 0) 1 39 := dc (by decide +kernel) rfl
theorem D98_10_39 : Dc prog_98_method_10_code 39 (.getfield 43) 3 42 := dc (by decide +kernel) rfl
theorem D98_10_42 : Dc prog_98_method_10_code 42 (.aload 6) 2 44 := dc (by decide +kernel) rfl
theorem D98_10_44 : Dc prog_98_method_10_code 44 (.aload 5) 2 46 := dc (by decide +kernel) rfl
theorem D98_10_46 : Dc prog_98_method_10_code 46 (.iload 7) 2 48 := dc (by decide +kernel) rfl
theorem D98_10_48 : Dc prog_98_method_10_code 48 (.aload_n 0) 1 49 := dc (by decide +kernel) rfl
theorem D98_10_49 : Dc prog_98_method_10_code 49 (.getfield 43) 3 52 := dc (by decide +kernel) rfl
theorem D98_10_52 : Dc prog_98_method_10_code 52 (.getfield 47) 3 55 := dc (by decide +kernel) rfl
theorem D98_10_55 : Dc prog_98_method_10_code 55 (.imul) 1 56 := dc (by decide +kernel) rfl
theorem D98_10_56 : Dc prog_98_method_10_code 56 (.invokevirtual 145) 3 59 := dc (by decide +kernel) rfl
theorem D98_10_59 : Dc prog_98_method_10_code 59 (.iinc 7 1) 3 62 := dc (by decide +kernel) rfl
theorem D98_10_62 : Db prog_98_method_10_code 62 (.goto) 65 18 := db (-44) (by decide +kernel) rfl (by decide) (by decide)
theorem D98_10_65 : Dc prog_98_method_10_code 65 (.aload 5) 2 67 := dc (by decide +kernel) rfl
theorem D98_10_67 : Dc prog_98_method_10_code 67 (.areturn) 1 68 := dc (by decide +kernel) rfl
set_option maxRecDepth 65536 in
set_option maxHeartbeats 40000000 in
theorem ct_repack (l : Launch) (Z : State) (a0 : Array Value) (hw : ∀ d ∈ tables_1, d.before a0 Z = true) (n0 : Nat) (h : Heap) (a xa ly va sl ed sg sh ss : Addr) (wa sa la lo wo so lb fa : Addr) (t t0 : Bool) (w w0 : Nat → Nat) (zs ef sc : Int32) (cnt len N : Nat) (vals : Nat → Nat → Nat) (FF : Nat → Int64) (σ : List Ch) (hw0 : ∀ i, i < 3 → 0 < w0 i) (hw1 : ∀ i, i < 3 → 0 < w i) (hw20 : True) (hO0 : ∀ j, j < cnt → OKv t0 w0 (vals j)) (hO : ∀ j, j < cnt → OKv t w (vals j)) (hFF : ∀ j, j < cnt → ∀ k, k < wcn t0 → FF (j * wcn t0 + k) = EE (enc t0 w0 (vals j) k)) (hcnt : cnt ≤ 8) (hN : cnt * wcn t0 ≤ N) (hN2 : N ≤ 16) (hlen : cnt * wcn t ≤ len) (hlen2 : len ≤ 16) (H : Hp n0 h ((a, Ob Z CSn NSS [.ref xa, .ref ly, .ref va, .ref sl, .int zs, .ref ed, .int ef, .ref sg, .ref sh, .ref ss, .int sc]) :: (ly, Ob Z CYn NSY [.ref wa, .ref sa, .ref la, .int (Int32.ofNat (wcn t))]) :: (wa, Ia Z (lst 3 (fun i => Int32.ofNat (wdp t i)))) :: (sa, Ia Z (lst 3 (fun i => Int32.ofNat (shp t w i)))) :: (la, La Z (lst 3 (fun i => EE (2 ^ w i)))) :: (lo, Ob Z CYn NSY [.ref wo, .ref so, .ref lb, .int (Int32.ofNat (wcn t0))]) :: (wo, Ia Z (lst 3 (fun i => Int32.ofNat (wdp t0 i)))) :: (so, Ia Z (lst 3 (fun i => Int32.ofNat (shp t0 w0 i)))) :: (lb, La Z (lst 3 (fun i => EE (2 ^ w0 i)))) :: (xa, Ia Z (lst 3 (fun i => Int32.ofNat (w i)))) :: (fa, La Z (lst N FF)) :: σ)) :
    Ct l Z n0 (⟨"com/example/divergence/divergence/engine/StateStore", "repacked", "([JILcom/example/divergence/divergence/engine/StateStore$Layout;I)[J"⟩ : MethodName) prog_98_method_10_code 8 (some (.array .long)) ({ frames := 3, cells := 2, slots := 19, locals := 80 } : Room) [.ref a, .ref fa, .int (Int32.ofNat cnt), .ref lo, .int (Int32.ofNat len)] h (fun v h' => ∃ (b : Addr) (RF : Nat → Int64), v = some (.ref b) ∧ (∀ j, j < cnt → ∀ k, k < wcn t → RF (j * wcn t + k) = EE (enc t w (vals j) k)) ∧ Hp n0 h' ((b, La Z (lst len RF)) :: (a, Ob Z CSn NSS [.ref xa, .ref ly, .ref va, .ref sl, .int zs, .ref ed, .int ef, .ref sg, .ref sh, .ref ss, .int sc]) :: (ly, Ob Z CYn NSY [.ref wa, .ref sa, .ref la, .int (Int32.ofNat (wcn t))]) :: (wa, Ia Z (lst 3 (fun i => Int32.ofNat (wdp t i)))) :: (sa, Ia Z (lst 3 (fun i => Int32.ofNat (shp t w i)))) :: (la, La Z (lst 3 (fun i => EE (2 ^ w i)))) :: (lo, Ob Z CYn NSY [.ref wo, .ref so, .ref lb, .int (Int32.ofNat (wcn t0))]) :: (wo, Ia Z (lst 3 (fun i => Int32.ofNat (wdp t0 i)))) :: (so, Ia Z (lst 3 (fun i => Int32.ofNat (shp t0 w0 i)))) :: (lb, La Z (lst 3 (fun i => EE (2 ^ w0 i)))) :: (xa, Ia Z (lst 3 (fun i => Int32.ofNat (w i)))) :: (fa, La Z (lst N FF)) :: σ)) := by
  refine Ct.intro (plainFor_of_name pn_0) [.val (.ref a), .val (.ref fa), .val (.int (Int32.ofNat cnt)), .val (.ref lo), .val (.int (Int32.ofNat len)), .unset, .unset, .unset] (fun m => by first | (simp [entryFrame, mkF, argsToLocals, Value.category]; done) | (simp [entryFrame, mkF, argsToLocals, Value.category, maxLocals]; done) | rfl) ?_
  intro k hl K
  replace K : Ok k Z n0 "com/example/divergence/divergence/engine/StateStore" ({ frames := 3, cells := 2, slots := 19, locals := 80 } : Room) prog_98_method_10_code 8 (some (.array .long)) "repacked" := K
  refine G.iload K D98_10_0 rfl ?_
  refine G.newarr_l K (wd hw 15 rfl) H (own_nneg (by omega)) 16 (by rw [own_nidx (by omega)]; omega) (by decide) (by decide) (by decide) D98_10_2 ?_
  intro a67 h68 H68
  rw [own_nidx (by omega), lst_rep] at H68
  change Hp n0 h68 ((a67, La Z (lst len (fun _ => 0))) :: (a, Ob Z CSn NSS [.ref xa, .ref ly, .ref va, .ref sl, .int zs, .ref ed, .int ef, .ref sg, .ref sh, .ref ss, .int sc]) :: (ly, Ob Z CYn NSY [.ref wa, .ref sa, .ref la, .int (Int32.ofNat (wcn t))]) :: (wa, Ia Z (lst 3 (fun i => Int32.ofNat (wdp t i)))) :: (sa, Ia Z (lst 3 (fun i => Int32.ofNat (shp t w i)))) :: (la, La Z (lst 3 (fun i => EE (2 ^ w i)))) :: (lo, Ob Z CYn NSY [.ref wo, .ref so, .ref lb, .int (Int32.ofNat (wcn t0))]) :: (wo, Ia Z (lst 3 (fun i => Int32.ofNat (wdp t0 i)))) :: (so, Ia Z (lst 3 (fun i => Int32.ofNat (shp t0 w0 i)))) :: (lb, La Z (lst 3 (fun i => EE (2 ^ w0 i)))) :: (xa, Ia Z (lst 3 (fun i => Int32.ofNat (w i)))) :: (fa, La Z (lst N FF)) :: σ) at H68
  refine G.astore K D98_10_4 rfl ([.val (.ref a), .val (.ref fa), .val (.int (Int32.ofNat cnt)), .val (.ref lo), .val (.int (Int32.ofNat len)), .val (.ref a67), .unset, .unset]) rfl ?_
  refine G.aloadN K D98_10_6 rfl rfl ?_
  refine G.getF K (host := "") (Or.inl (wd hw 22 rfl)) H68 (i := 1) rfl (j := 0) rfl rfl D98_10_7 ?_
  refine G.alen K H68 (i := 10) rfl D98_10_10 (Int32.ofNat 3) (by rw [List.length_map, lst_len]) ?_
  refine G.newarr_i K (wd hw 0 rfl) H68 (by decide) 3 (by decide) (by decide) (by decide) (by decide) D98_10_11 ?_
  intro a69 h70 H70
  rw [show (Int32.ofNat 3).toNatClampNeg = 3 from rfl, lst_rep] at H70
  change Hp n0 h70 ((a69, Ia Z (lst 3 (fun _ => 0))) :: (a67, La Z (lst len (fun _ => 0))) :: (a, Ob Z CSn NSS [.ref xa, .ref ly, .ref va, .ref sl, .int zs, .ref ed, .int ef, .ref sg, .ref sh, .ref ss, .int sc]) :: (ly, Ob Z CYn NSY [.ref wa, .ref sa, .ref la, .int (Int32.ofNat (wcn t))]) :: (wa, Ia Z (lst 3 (fun i => Int32.ofNat (wdp t i)))) :: (sa, Ia Z (lst 3 (fun i => Int32.ofNat (shp t w i)))) :: (la, La Z (lst 3 (fun i => EE (2 ^ w i)))) :: (lo, Ob Z CYn NSY [.ref wo, .ref so, .ref lb, .int (Int32.ofNat (wcn t0))]) :: (wo, Ia Z (lst 3 (fun i => Int32.ofNat (wdp t0 i)))) :: (so, Ia Z (lst 3 (fun i => Int32.ofNat (shp t0 w0 i)))) :: (lb, La Z (lst 3 (fun i => EE (2 ^ w0 i)))) :: (xa, Ia Z (lst 3 (fun i => Int32.ofNat (w i)))) :: (fa, La Z (lst N FF)) :: σ) at H70
  refine G.astore K D98_10_13 rfl ([.val (.ref a), .val (.ref fa), .val (.int (Int32.ofNat cnt)), .val (.ref lo), .val (.int (Int32.ofNat len)), .val (.ref a67), .val (.ref a69), .unset]) rfl ?_
  refine G.iconst K D98_10_15 0 rfl ?_
  refine G.istore K D98_10_16 ([.val (.ref a), .val (.ref fa), .val (.int (Int32.ofNat cnt)), .val (.ref lo), .val (.int (Int32.ofNat len)), .val (.ref a67), .val (.ref a69), .val (.int 0)]) rfl ?_
  have loop : ∀ (d i : Nat) (h2 : Heap) (GG : Nat → Int32) (RF : Nat → Int64), i + d = cnt → (∀ j, j < i → ∀ k, k < wcn t → RF (j * wcn t + k) = EE (enc t w (vals j) k)) → Hp n0 h2 ((a69, Ia Z (lst 3 GG)) :: (a67, La Z (lst len RF)) :: (a, Ob Z CSn NSS [.ref xa, .ref ly, .ref va, .ref sl, .int zs, .ref ed, .int ef, .ref sg, .ref sh, .ref ss, .int sc]) :: (ly, Ob Z CYn NSY [.ref wa, .ref sa, .ref la, .int (Int32.ofNat (wcn t))]) :: (wa, Ia Z (lst 3 (fun i => Int32.ofNat (wdp t i)))) :: (sa, Ia Z (lst 3 (fun i => Int32.ofNat (shp t w i)))) :: (la, La Z (lst 3 (fun i => EE (2 ^ w i)))) :: (lo, Ob Z CYn NSY [.ref wo, .ref so, .ref lb, .int (Int32.ofNat (wcn t0))]) :: (wo, Ia Z (lst 3 (fun i => Int32.ofNat (wdp t0 i)))) :: (so, Ia Z (lst 3 (fun i => Int32.ofNat (shp t0 w0 i)))) :: (lb, La Z (lst 3 (fun i => EE (2 ^ w0 i)))) :: (xa, Ia Z (lst 3 (fun i => Int32.ofNat (w i)))) :: (fa, La Z (lst N FF)) :: σ) → G k n0 (fun v h' => ∃ (b : Addr) (RF : Nat → Int64), v = some (.ref b) ∧ (∀ j, j < cnt → ∀ k, k < wcn t → RF (j * wcn t + k) = EE (enc t w (vals j) k)) ∧ Hp n0 h' ((b, La Z (lst len RF)) :: (a, Ob Z CSn NSS [.ref xa, .ref ly, .ref va, .ref sl, .int zs, .ref ed, .int ef, .ref sg, .ref sh, .ref ss, .int sc]) :: (ly, Ob Z CYn NSY [.ref wa, .ref sa, .ref la, .int (Int32.ofNat (wcn t))]) :: (wa, Ia Z (lst 3 (fun i => Int32.ofNat (wdp t i)))) :: (sa, Ia Z (lst 3 (fun i => Int32.ofNat (shp t w i)))) :: (la, La Z (lst 3 (fun i => EE (2 ^ w i)))) :: (lo, Ob Z CYn NSY [.ref wo, .ref so, .ref lb, .int (Int32.ofNat (wcn t0))]) :: (wo, Ia Z (lst 3 (fun i => Int32.ofNat (wdp t0 i)))) :: (so, Ia Z (lst 3 (fun i => Int32.ofNat (shp t0 w0 i)))) :: (lb, La Z (lst 3 (fun i => EE (2 ^ w0 i)))) :: (xa, Ia Z (lst 3 (fun i => Int32.ofNat (w i)))) :: (fa, La Z (lst N FF)) :: σ)) h2 2 19 18 [.val (.ref a), .val (.ref fa), .val (.int (Int32.ofNat cnt)), .val (.ref lo), .val (.int (Int32.ofNat len)), .val (.ref a67), .val (.ref a69), .val (.int (Int32.ofNat i))] [] := by
    intro d
    induction d with
    | zero =>
      intro i h2 GG RF hd hR H2
      obtain rfl : cnt = i := by omega
      refine G.iload K D98_10_18 rfl ?_
      refine G.iloadN K D98_10_20 rfl ?_
      refine G.icmp_ge K D98_10_21 (fun q71 => ?_) (fun q => absurd ((own_nlt (by omega) (by omega)).mp q) (by omega))
      refine G.aload K D98_10_65 rfl rfl ?_
      refine G.ret_ref K rfl rfl D98_10_67 ?_
      have H72 : Hp n0 h2 ((a67, La Z (lst len RF)) :: (a, Ob Z CSn NSS [.ref xa, .ref ly, .ref va, .ref sl, .int zs, .ref ed, .int ef, .ref sg, .ref sh, .ref ss, .int sc]) :: (ly, Ob Z CYn NSY [.ref wa, .ref sa, .ref la, .int (Int32.ofNat (wcn t))]) :: (wa, Ia Z (lst 3 (fun i => Int32.ofNat (wdp t i)))) :: (sa, Ia Z (lst 3 (fun i => Int32.ofNat (shp t w i)))) :: (la, La Z (lst 3 (fun i => EE (2 ^ w i)))) :: (lo, Ob Z CYn NSY [.ref wo, .ref so, .ref lb, .int (Int32.ofNat (wcn t0))]) :: (wo, Ia Z (lst 3 (fun i => Int32.ofNat (wdp t0 i)))) :: (so, Ia Z (lst 3 (fun i => Int32.ofNat (shp t0 w0 i)))) :: (lb, La Z (lst 3 (fun i => EE (2 ^ w0 i)))) :: (xa, Ia Z (lst 3 (fun i => Int32.ofNat (w i)))) :: (fa, La Z (lst N FF)) :: σ) := H2.sub (List.Sublist.cons _ (List.Sublist.cons_cons _ (List.Sublist.cons_cons _ (List.Sublist.cons_cons _ (List.Sublist.cons_cons _ (List.Sublist.cons_cons _ (List.Sublist.cons_cons _ (List.Sublist.cons_cons _ (List.Sublist.cons_cons _ (List.Sublist.cons_cons _ (List.Sublist.cons_cons _ (List.Sublist.cons_cons _ (List.Sublist.cons_cons _ (List.Sublist.refl _))))))))))))))
      exact ⟨_, RF, rfl, hR, H72⟩
    | succ d ih =>
      intro i h2 GG RF hd hR H2
      have hip : i < 2147483648 := by omega
      have hm0 := Nat.mul_le_mul_right (wcn t0) (show i + 1 ≤ cnt by omega)
      have hm1 := Nat.mul_le_mul_right (wcn t) (show i + 1 ≤ cnt by omega)
      rw [Nat.succ_mul] at hm0 hm1
      refine G.iload K D98_10_18 rfl ?_
      refine G.iloadN K D98_10_20 rfl ?_
      refine G.icmp_ge K D98_10_21 (fun q => absurd ((own_nlt (by omega) (by omega)).mpr (by omega)) q) (fun q73 => ?_)
      refine G.aloadN K D98_10_24 rfl rfl ?_
      refine G.aloadN K D98_10_25 rfl rfl ?_
      refine G.iload K D98_10_26 rfl ?_
      refine G.aloadN K D98_10_28 rfl rfl ?_
      refine G.getFR K (wd hw 45 rfl) H2 (i := 7) rfl (j := 3) rfl rfl D98_10_29 ?_
      refine G.imul K D98_10_32 ?_
      rw [own_nmul i (wcn t0)]
      refine G.aload K D98_10_33 rfl rfl ?_
      have H74 : Hp n0 h2 ((fa, La Z (lst N FF)) :: (a69, Ia Z (lst 3 GG)) :: (a67, La Z (lst len RF)) :: (a, Ob Z CSn NSS [.ref xa, .ref ly, .ref va, .ref sl, .int zs, .ref ed, .int ef, .ref sg, .ref sh, .ref ss, .int sc]) :: (ly, Ob Z CYn NSY [.ref wa, .ref sa, .ref la, .int (Int32.ofNat (wcn t))]) :: (wa, Ia Z (lst 3 (fun i => Int32.ofNat (wdp t i)))) :: (sa, Ia Z (lst 3 (fun i => Int32.ofNat (shp t w i)))) :: (la, La Z (lst 3 (fun i => EE (2 ^ w i)))) :: (lo, Ob Z CYn NSY [.ref wo, .ref so, .ref lb, .int (Int32.ofNat (wcn t0))]) :: (wo, Ia Z (lst 3 (fun i => Int32.ofNat (wdp t0 i)))) :: (so, Ia Z (lst 3 (fun i => Int32.ofNat (shp t0 w0 i)))) :: (lb, La Z (lst 3 (fun i => EE (2 ^ w0 i)))) :: (xa, Ia Z (lst 3 (fun i => Int32.ofNat (w i)))) :: σ) := H2.pull 12 rfl
      have H75 : Hp n0 h2 ((lb, La Z (lst 3 (fun i => EE (2 ^ w0 i)))) :: (fa, La Z (lst N FF)) :: (a69, Ia Z (lst 3 GG)) :: (a67, La Z (lst len RF)) :: (a, Ob Z CSn NSS [.ref xa, .ref ly, .ref va, .ref sl, .int zs, .ref ed, .int ef, .ref sg, .ref sh, .ref ss, .int sc]) :: (ly, Ob Z CYn NSY [.ref wa, .ref sa, .ref la, .int (Int32.ofNat (wcn t))]) :: (wa, Ia Z (lst 3 (fun i => Int32.ofNat (wdp t i)))) :: (sa, Ia Z (lst 3 (fun i => Int32.ofNat (shp t w i)))) :: (la, La Z (lst 3 (fun i => EE (2 ^ w i)))) :: (lo, Ob Z CYn NSY [.ref wo, .ref so, .ref lb, .int (Int32.ofNat (wcn t0))]) :: (wo, Ia Z (lst 3 (fun i => Int32.ofNat (wdp t0 i)))) :: (so, Ia Z (lst 3 (fun i => Int32.ofNat (shp t0 w0 i)))) :: (xa, Ia Z (lst 3 (fun i => Int32.ofNat (w i)))) :: σ) := H74.pull 11 rfl
      have H76 : Hp n0 h2 ((so, Ia Z (lst 3 (fun i => Int32.ofNat (shp t0 w0 i)))) :: (lb, La Z (lst 3 (fun i => EE (2 ^ w0 i)))) :: (fa, La Z (lst N FF)) :: (a69, Ia Z (lst 3 GG)) :: (a67, La Z (lst len RF)) :: (a, Ob Z CSn NSS [.ref xa, .ref ly, .ref va, .ref sl, .int zs, .ref ed, .int ef, .ref sg, .ref sh, .ref ss, .int sc]) :: (ly, Ob Z CYn NSY [.ref wa, .ref sa, .ref la, .int (Int32.ofNat (wcn t))]) :: (wa, Ia Z (lst 3 (fun i => Int32.ofNat (wdp t i)))) :: (sa, Ia Z (lst 3 (fun i => Int32.ofNat (shp t w i)))) :: (la, La Z (lst 3 (fun i => EE (2 ^ w i)))) :: (lo, Ob Z CYn NSY [.ref wo, .ref so, .ref lb, .int (Int32.ofNat (wcn t0))]) :: (wo, Ia Z (lst 3 (fun i => Int32.ofNat (wdp t0 i)))) :: (xa, Ia Z (lst 3 (fun i => Int32.ofNat (w i)))) :: σ) := H75.pull 11 rfl
      have H77 : Hp n0 h2 ((wo, Ia Z (lst 3 (fun i => Int32.ofNat (wdp t0 i)))) :: (so, Ia Z (lst 3 (fun i => Int32.ofNat (shp t0 w0 i)))) :: (lb, La Z (lst 3 (fun i => EE (2 ^ w0 i)))) :: (fa, La Z (lst N FF)) :: (a69, Ia Z (lst 3 GG)) :: (a67, La Z (lst len RF)) :: (a, Ob Z CSn NSS [.ref xa, .ref ly, .ref va, .ref sl, .int zs, .ref ed, .int ef, .ref sg, .ref sh, .ref ss, .int sc]) :: (ly, Ob Z CYn NSY [.ref wa, .ref sa, .ref la, .int (Int32.ofNat (wcn t))]) :: (wa, Ia Z (lst 3 (fun i => Int32.ofNat (wdp t i)))) :: (sa, Ia Z (lst 3 (fun i => Int32.ofNat (shp t w i)))) :: (la, La Z (lst 3 (fun i => EE (2 ^ w i)))) :: (lo, Ob Z CYn NSY [.ref wo, .ref so, .ref lb, .int (Int32.ofNat (wcn t0))]) :: (xa, Ia Z (lst 3 (fun i => Int32.ofNat (w i)))) :: σ) := H76.pull 11 rfl
      have H78 : Hp n0 h2 ((lo, Ob Z CYn NSY [.ref wo, .ref so, .ref lb, .int (Int32.ofNat (wcn t0))]) :: (wo, Ia Z (lst 3 (fun i => Int32.ofNat (wdp t0 i)))) :: (so, Ia Z (lst 3 (fun i => Int32.ofNat (shp t0 w0 i)))) :: (lb, La Z (lst 3 (fun i => EE (2 ^ w0 i)))) :: (fa, La Z (lst N FF)) :: (a69, Ia Z (lst 3 GG)) :: (a67, La Z (lst len RF)) :: (a, Ob Z CSn NSS [.ref xa, .ref ly, .ref va, .ref sl, .int zs, .ref ed, .int ef, .ref sg, .ref sh, .ref ss, .int sc]) :: (ly, Ob Z CYn NSY [.ref wa, .ref sa, .ref la, .int (Int32.ofNat (wcn t))]) :: (wa, Ia Z (lst 3 (fun i => Int32.ofNat (wdp t i)))) :: (sa, Ia Z (lst 3 (fun i => Int32.ofNat (shp t w i)))) :: (la, La Z (lst 3 (fun i => EE (2 ^ w i)))) :: (xa, Ia Z (lst 3 (fun i => Int32.ofNat (w i)))) :: σ) := H77.pull 11 rfl
      refine G.callV K hl (wd hw 98 rfl) (wd hw 99 rfl) (wd hw 101 rfl) (wd hw 100 rfl) (wd hw 30 rfl) (wd hw 102 rfl) (by decide) pd_4 (H78.exa (i := 0) rfl) (ct_unpack l Z a0 hw n0 h2 lo wo so lb fa a69 t0 w0 (vals i) N (i * wcn t0) FF GG ((a67, La Z (lst len RF)) :: (a, Ob Z CSn NSS [.ref xa, .ref ly, .ref va, .ref sl, .int zs, .ref ed, .int ef, .ref sg, .ref sh, .ref ss, .int sc]) :: (ly, Ob Z CYn NSY [.ref wa, .ref sa, .ref la, .int (Int32.ofNat (wcn t))]) :: (wa, Ia Z (lst 3 (fun i => Int32.ofNat (wdp t i)))) :: (sa, Ia Z (lst 3 (fun i => Int32.ofNat (shp t w i)))) :: (la, La Z (lst 3 (fun i => EE (2 ^ w i)))) :: (xa, Ia Z (lst 3 (fun i => Int32.ofNat (w i)))) :: σ) (hO0 i (by omega)) hw0 (by omega) (by omega) (hFF i (by omega)) H78) 0 rfl (by decide) (by decide) (by decide) (by decide) rfl rfl [.ref a69, .int (Int32.ofNat (i * wcn t0)), .ref fa] rfl D98_10_35 ?_
      rintro _ h79 ⟨rfl, H79⟩
      change G k n0 _ h79 _ _ 38 [.val (.ref a), .val (.ref fa), .val (.int (Int32.ofNat cnt)), .val (.ref lo), .val (.int (Int32.ofNat len)), .val (.ref a67), .val (.ref a69), .val (.int (Int32.ofNat i))] []
      refine G.aloadN K D98_10_38 rfl rfl ?_
      refine G.getF K (host := "") (Or.inl (wd hw 43 rfl)) H79 (i := 7) rfl (j := 1) rfl rfl D98_10_39 ?_
      refine G.aload K D98_10_42 rfl rfl ?_
      refine G.aload K D98_10_44 rfl rfl ?_
      refine G.iload K D98_10_46 rfl ?_
      refine G.aloadN K D98_10_48 rfl rfl ?_
      refine G.getF K (host := "") (Or.inl (wd hw 43 rfl)) H79 (i := 7) rfl (j := 1) rfl rfl D98_10_49 ?_
      refine G.getFR K (wd hw 45 rfl) H79 (i := 8) rfl (j := 3) rfl rfl D98_10_52 ?_
      refine G.imul K D98_10_55 ?_
      rw [own_nmul i (wcn t)]
      have H80 : Hp n0 h79 ((a69, Ia Z (lst 3 (fun j => Int32.ofNat (vals i j)))) :: (lo, Ob Z CYn NSY [.ref wo, .ref so, .ref lb, .int (Int32.ofNat (wcn t0))]) :: (wo, Ia Z (lst 3 (fun i => Int32.ofNat (wdp t0 i)))) :: (so, Ia Z (lst 3 (fun i => Int32.ofNat (shp t0 w0 i)))) :: (lb, La Z (lst 3 (fun i => EE (2 ^ w0 i)))) :: (fa, La Z (lst N FF)) :: (a67, La Z (lst len RF)) :: (a, Ob Z CSn NSS [.ref xa, .ref ly, .ref va, .ref sl, .int zs, .ref ed, .int ef, .ref sg, .ref sh, .ref ss, .int sc]) :: (ly, Ob Z CYn NSY [.ref wa, .ref sa, .ref la, .int (Int32.ofNat (wcn t))]) :: (wa, Ia Z (lst 3 (fun i => Int32.ofNat (wdp t i)))) :: (sa, Ia Z (lst 3 (fun i => Int32.ofNat (shp t w i)))) :: (la, La Z (lst 3 (fun i => EE (2 ^ w i)))) :: (xa, Ia Z (lst 3 (fun i => Int32.ofNat (w i)))) :: σ) := H79.pull 5 rfl
      have H81 : Hp n0 h79 ((a67, La Z (lst len RF)) :: (a69, Ia Z (lst 3 (fun j => Int32.ofNat (vals i j)))) :: (lo, Ob Z CYn NSY [.ref wo, .ref so, .ref lb, .int (Int32.ofNat (wcn t0))]) :: (wo, Ia Z (lst 3 (fun i => Int32.ofNat (wdp t0 i)))) :: (so, Ia Z (lst 3 (fun i => Int32.ofNat (shp t0 w0 i)))) :: (lb, La Z (lst 3 (fun i => EE (2 ^ w0 i)))) :: (fa, La Z (lst N FF)) :: (a, Ob Z CSn NSS [.ref xa, .ref ly, .ref va, .ref sl, .int zs, .ref ed, .int ef, .ref sg, .ref sh, .ref ss, .int sc]) :: (ly, Ob Z CYn NSY [.ref wa, .ref sa, .ref la, .int (Int32.ofNat (wcn t))]) :: (wa, Ia Z (lst 3 (fun i => Int32.ofNat (wdp t i)))) :: (sa, Ia Z (lst 3 (fun i => Int32.ofNat (shp t w i)))) :: (la, La Z (lst 3 (fun i => EE (2 ^ w i)))) :: (xa, Ia Z (lst 3 (fun i => Int32.ofNat (w i)))) :: σ) := H80.pull 6 rfl
      have H82 : Hp n0 h79 ((la, La Z (lst 3 (fun i => EE (2 ^ w i)))) :: (a67, La Z (lst len RF)) :: (a69, Ia Z (lst 3 (fun j => Int32.ofNat (vals i j)))) :: (lo, Ob Z CYn NSY [.ref wo, .ref so, .ref lb, .int (Int32.ofNat (wcn t0))]) :: (wo, Ia Z (lst 3 (fun i => Int32.ofNat (wdp t0 i)))) :: (so, Ia Z (lst 3 (fun i => Int32.ofNat (shp t0 w0 i)))) :: (lb, La Z (lst 3 (fun i => EE (2 ^ w0 i)))) :: (fa, La Z (lst N FF)) :: (a, Ob Z CSn NSS [.ref xa, .ref ly, .ref va, .ref sl, .int zs, .ref ed, .int ef, .ref sg, .ref sh, .ref ss, .int sc]) :: (ly, Ob Z CYn NSY [.ref wa, .ref sa, .ref la, .int (Int32.ofNat (wcn t))]) :: (wa, Ia Z (lst 3 (fun i => Int32.ofNat (wdp t i)))) :: (sa, Ia Z (lst 3 (fun i => Int32.ofNat (shp t w i)))) :: (xa, Ia Z (lst 3 (fun i => Int32.ofNat (w i)))) :: σ) := H81.pull 11 rfl
      have H83 : Hp n0 h79 ((sa, Ia Z (lst 3 (fun i => Int32.ofNat (shp t w i)))) :: (la, La Z (lst 3 (fun i => EE (2 ^ w i)))) :: (a67, La Z (lst len RF)) :: (a69, Ia Z (lst 3 (fun j => Int32.ofNat (vals i j)))) :: (lo, Ob Z CYn NSY [.ref wo, .ref so, .ref lb, .int (Int32.ofNat (wcn t0))]) :: (wo, Ia Z (lst 3 (fun i => Int32.ofNat (wdp t0 i)))) :: (so, Ia Z (lst 3 (fun i => Int32.ofNat (shp t0 w0 i)))) :: (lb, La Z (lst 3 (fun i => EE (2 ^ w0 i)))) :: (fa, La Z (lst N FF)) :: (a, Ob Z CSn NSS [.ref xa, .ref ly, .ref va, .ref sl, .int zs, .ref ed, .int ef, .ref sg, .ref sh, .ref ss, .int sc]) :: (ly, Ob Z CYn NSY [.ref wa, .ref sa, .ref la, .int (Int32.ofNat (wcn t))]) :: (wa, Ia Z (lst 3 (fun i => Int32.ofNat (wdp t i)))) :: (xa, Ia Z (lst 3 (fun i => Int32.ofNat (w i)))) :: σ) := H82.pull 11 rfl
      have H84 : Hp n0 h79 ((wa, Ia Z (lst 3 (fun i => Int32.ofNat (wdp t i)))) :: (sa, Ia Z (lst 3 (fun i => Int32.ofNat (shp t w i)))) :: (la, La Z (lst 3 (fun i => EE (2 ^ w i)))) :: (a67, La Z (lst len RF)) :: (a69, Ia Z (lst 3 (fun j => Int32.ofNat (vals i j)))) :: (lo, Ob Z CYn NSY [.ref wo, .ref so, .ref lb, .int (Int32.ofNat (wcn t0))]) :: (wo, Ia Z (lst 3 (fun i => Int32.ofNat (wdp t0 i)))) :: (so, Ia Z (lst 3 (fun i => Int32.ofNat (shp t0 w0 i)))) :: (lb, La Z (lst 3 (fun i => EE (2 ^ w0 i)))) :: (fa, La Z (lst N FF)) :: (a, Ob Z CSn NSS [.ref xa, .ref ly, .ref va, .ref sl, .int zs, .ref ed, .int ef, .ref sg, .ref sh, .ref ss, .int sc]) :: (ly, Ob Z CYn NSY [.ref wa, .ref sa, .ref la, .int (Int32.ofNat (wcn t))]) :: (xa, Ia Z (lst 3 (fun i => Int32.ofNat (w i)))) :: σ) := H83.pull 11 rfl
      have H85 : Hp n0 h79 ((ly, Ob Z CYn NSY [.ref wa, .ref sa, .ref la, .int (Int32.ofNat (wcn t))]) :: (wa, Ia Z (lst 3 (fun i => Int32.ofNat (wdp t i)))) :: (sa, Ia Z (lst 3 (fun i => Int32.ofNat (shp t w i)))) :: (la, La Z (lst 3 (fun i => EE (2 ^ w i)))) :: (a67, La Z (lst len RF)) :: (a69, Ia Z (lst 3 (fun j => Int32.ofNat (vals i j)))) :: (lo, Ob Z CYn NSY [.ref wo, .ref so, .ref lb, .int (Int32.ofNat (wcn t0))]) :: (wo, Ia Z (lst 3 (fun i => Int32.ofNat (wdp t0 i)))) :: (so, Ia Z (lst 3 (fun i => Int32.ofNat (shp t0 w0 i)))) :: (lb, La Z (lst 3 (fun i => EE (2 ^ w0 i)))) :: (fa, La Z (lst N FF)) :: (a, Ob Z CSn NSS [.ref xa, .ref ly, .ref va, .ref sl, .int zs, .ref ed, .int ef, .ref sg, .ref sh, .ref ss, .int sc]) :: (xa, Ia Z (lst 3 (fun i => Int32.ofNat (w i)))) :: σ) := H84.pull 11 rfl
      refine G.callV K hl (wd hw 103 rfl) (wd hw 104 rfl) (wd hw 106 rfl) (wd hw 105 rfl) (wd hw 30 rfl) (wd hw 107 rfl) (by decide) pd_5 (H85.exa (i := 0) rfl) (ct_pack l Z a0 hw n0 h79 ly wa sa la a67 a69 t w (vals i) len (i * wcn t) RF ((lo, Ob Z CYn NSY [.ref wo, .ref so, .ref lb, .int (Int32.ofNat (wcn t0))]) :: (wo, Ia Z (lst 3 (fun i => Int32.ofNat (wdp t0 i)))) :: (so, Ia Z (lst 3 (fun i => Int32.ofNat (shp t0 w0 i)))) :: (lb, La Z (lst 3 (fun i => EE (2 ^ w0 i)))) :: (fa, La Z (lst N FF)) :: (a, Ob Z CSn NSS [.ref xa, .ref ly, .ref va, .ref sl, .int zs, .ref ed, .int ef, .ref sg, .ref sh, .ref ss, .int sc]) :: (xa, Ia Z (lst 3 (fun i => Int32.ofNat (w i)))) :: σ) (hO i (by omega)) hw1 trivial (by omega) (by omega) H85) 0 rfl (by decide) (by decide) (by decide) (by decide) rfl rfl [.int (Int32.ofNat (i * wcn t)), .ref a67, .ref a69] rfl D98_10_56 ?_
      rintro _ h86 ⟨rfl, H86⟩
      change G k n0 _ h86 _ _ 59 [.val (.ref a), .val (.ref fa), .val (.int (Int32.ofNat cnt)), .val (.ref lo), .val (.int (Int32.ofNat len)), .val (.ref a67), .val (.ref a69), .val (.int (Int32.ofNat i))] []
      refine G.iinc K D98_10_59 1 rfl rfl ([.val (.ref a), .val (.ref fa), .val (.int (Int32.ofNat cnt)), .val (.ref lo), .val (.int (Int32.ofNat len)), .val (.ref a67), .val (.ref a69), .val (.int ((Int32.ofNat i) + 1))]) rfl ?_
      refine G.goto K D98_10_62 ?_
      rw [own_nsucc i]
      have H87 : Hp n0 h86 ((xa, Ia Z (lst 3 (fun i => Int32.ofNat (w i)))) :: (ly, Ob Z CYn NSY [.ref wa, .ref sa, .ref la, .int (Int32.ofNat (wcn t))]) :: (wa, Ia Z (lst 3 (fun i => Int32.ofNat (wdp t i)))) :: (sa, Ia Z (lst 3 (fun i => Int32.ofNat (shp t w i)))) :: (la, La Z (lst 3 (fun i => EE (2 ^ w i)))) :: (a67, La Z (lst len (pkF RF (i * wcn t) t w (vals i)))) :: (a69, Ia Z (lst 3 (fun j => Int32.ofNat (vals i j)))) :: (lo, Ob Z CYn NSY [.ref wo, .ref so, .ref lb, .int (Int32.ofNat (wcn t0))]) :: (wo, Ia Z (lst 3 (fun i => Int32.ofNat (wdp t0 i)))) :: (so, Ia Z (lst 3 (fun i => Int32.ofNat (shp t0 w0 i)))) :: (lb, La Z (lst 3 (fun i => EE (2 ^ w0 i)))) :: (fa, La Z (lst N FF)) :: (a, Ob Z CSn NSS [.ref xa, .ref ly, .ref va, .ref sl, .int zs, .ref ed, .int ef, .ref sg, .ref sh, .ref ss, .int sc]) :: σ) := H86.pull 12 rfl
      have H88 : Hp n0 h86 ((lb, La Z (lst 3 (fun i => EE (2 ^ w0 i)))) :: (xa, Ia Z (lst 3 (fun i => Int32.ofNat (w i)))) :: (ly, Ob Z CYn NSY [.ref wa, .ref sa, .ref la, .int (Int32.ofNat (wcn t))]) :: (wa, Ia Z (lst 3 (fun i => Int32.ofNat (wdp t i)))) :: (sa, Ia Z (lst 3 (fun i => Int32.ofNat (shp t w i)))) :: (la, La Z (lst 3 (fun i => EE (2 ^ w i)))) :: (a67, La Z (lst len (pkF RF (i * wcn t) t w (vals i)))) :: (a69, Ia Z (lst 3 (fun j => Int32.ofNat (vals i j)))) :: (lo, Ob Z CYn NSY [.ref wo, .ref so, .ref lb, .int (Int32.ofNat (wcn t0))]) :: (wo, Ia Z (lst 3 (fun i => Int32.ofNat (wdp t0 i)))) :: (so, Ia Z (lst 3 (fun i => Int32.ofNat (shp t0 w0 i)))) :: (fa, La Z (lst N FF)) :: (a, Ob Z CSn NSS [.ref xa, .ref ly, .ref va, .ref sl, .int zs, .ref ed, .int ef, .ref sg, .ref sh, .ref ss, .int sc]) :: σ) := H87.pull 10 rfl
      have H89 : Hp n0 h86 ((so, Ia Z (lst 3 (fun i => Int32.ofNat (shp t0 w0 i)))) :: (lb, La Z (lst 3 (fun i => EE (2 ^ w0 i)))) :: (xa, Ia Z (lst 3 (fun i => Int32.ofNat (w i)))) :: (ly, Ob Z CYn NSY [.ref wa, .ref sa, .ref la, .int (Int32.ofNat (wcn t))]) :: (wa, Ia Z (lst 3 (fun i => Int32.ofNat (wdp t i)))) :: (sa, Ia Z (lst 3 (fun i => Int32.ofNat (shp t w i)))) :: (la, La Z (lst 3 (fun i => EE (2 ^ w i)))) :: (a67, La Z (lst len (pkF RF (i * wcn t) t w (vals i)))) :: (a69, Ia Z (lst 3 (fun j => Int32.ofNat (vals i j)))) :: (lo, Ob Z CYn NSY [.ref wo, .ref so, .ref lb, .int (Int32.ofNat (wcn t0))]) :: (wo, Ia Z (lst 3 (fun i => Int32.ofNat (wdp t0 i)))) :: (fa, La Z (lst N FF)) :: (a, Ob Z CSn NSS [.ref xa, .ref ly, .ref va, .ref sl, .int zs, .ref ed, .int ef, .ref sg, .ref sh, .ref ss, .int sc]) :: σ) := H88.pull 10 rfl
      have H90 : Hp n0 h86 ((wo, Ia Z (lst 3 (fun i => Int32.ofNat (wdp t0 i)))) :: (so, Ia Z (lst 3 (fun i => Int32.ofNat (shp t0 w0 i)))) :: (lb, La Z (lst 3 (fun i => EE (2 ^ w0 i)))) :: (xa, Ia Z (lst 3 (fun i => Int32.ofNat (w i)))) :: (ly, Ob Z CYn NSY [.ref wa, .ref sa, .ref la, .int (Int32.ofNat (wcn t))]) :: (wa, Ia Z (lst 3 (fun i => Int32.ofNat (wdp t i)))) :: (sa, Ia Z (lst 3 (fun i => Int32.ofNat (shp t w i)))) :: (la, La Z (lst 3 (fun i => EE (2 ^ w i)))) :: (a67, La Z (lst len (pkF RF (i * wcn t) t w (vals i)))) :: (a69, Ia Z (lst 3 (fun j => Int32.ofNat (vals i j)))) :: (lo, Ob Z CYn NSY [.ref wo, .ref so, .ref lb, .int (Int32.ofNat (wcn t0))]) :: (fa, La Z (lst N FF)) :: (a, Ob Z CSn NSS [.ref xa, .ref ly, .ref va, .ref sl, .int zs, .ref ed, .int ef, .ref sg, .ref sh, .ref ss, .int sc]) :: σ) := H89.pull 10 rfl
      have H91 : Hp n0 h86 ((lo, Ob Z CYn NSY [.ref wo, .ref so, .ref lb, .int (Int32.ofNat (wcn t0))]) :: (wo, Ia Z (lst 3 (fun i => Int32.ofNat (wdp t0 i)))) :: (so, Ia Z (lst 3 (fun i => Int32.ofNat (shp t0 w0 i)))) :: (lb, La Z (lst 3 (fun i => EE (2 ^ w0 i)))) :: (xa, Ia Z (lst 3 (fun i => Int32.ofNat (w i)))) :: (ly, Ob Z CYn NSY [.ref wa, .ref sa, .ref la, .int (Int32.ofNat (wcn t))]) :: (wa, Ia Z (lst 3 (fun i => Int32.ofNat (wdp t i)))) :: (sa, Ia Z (lst 3 (fun i => Int32.ofNat (shp t w i)))) :: (la, La Z (lst 3 (fun i => EE (2 ^ w i)))) :: (a67, La Z (lst len (pkF RF (i * wcn t) t w (vals i)))) :: (a69, Ia Z (lst 3 (fun j => Int32.ofNat (vals i j)))) :: (fa, La Z (lst N FF)) :: (a, Ob Z CSn NSS [.ref xa, .ref ly, .ref va, .ref sl, .int zs, .ref ed, .int ef, .ref sg, .ref sh, .ref ss, .int sc]) :: σ) := H90.pull 10 rfl
      have H92 : Hp n0 h86 ((la, La Z (lst 3 (fun i => EE (2 ^ w i)))) :: (lo, Ob Z CYn NSY [.ref wo, .ref so, .ref lb, .int (Int32.ofNat (wcn t0))]) :: (wo, Ia Z (lst 3 (fun i => Int32.ofNat (wdp t0 i)))) :: (so, Ia Z (lst 3 (fun i => Int32.ofNat (shp t0 w0 i)))) :: (lb, La Z (lst 3 (fun i => EE (2 ^ w0 i)))) :: (xa, Ia Z (lst 3 (fun i => Int32.ofNat (w i)))) :: (ly, Ob Z CYn NSY [.ref wa, .ref sa, .ref la, .int (Int32.ofNat (wcn t))]) :: (wa, Ia Z (lst 3 (fun i => Int32.ofNat (wdp t i)))) :: (sa, Ia Z (lst 3 (fun i => Int32.ofNat (shp t w i)))) :: (a67, La Z (lst len (pkF RF (i * wcn t) t w (vals i)))) :: (a69, Ia Z (lst 3 (fun j => Int32.ofNat (vals i j)))) :: (fa, La Z (lst N FF)) :: (a, Ob Z CSn NSS [.ref xa, .ref ly, .ref va, .ref sl, .int zs, .ref ed, .int ef, .ref sg, .ref sh, .ref ss, .int sc]) :: σ) := H91.pull 8 rfl
      have H93 : Hp n0 h86 ((sa, Ia Z (lst 3 (fun i => Int32.ofNat (shp t w i)))) :: (la, La Z (lst 3 (fun i => EE (2 ^ w i)))) :: (lo, Ob Z CYn NSY [.ref wo, .ref so, .ref lb, .int (Int32.ofNat (wcn t0))]) :: (wo, Ia Z (lst 3 (fun i => Int32.ofNat (wdp t0 i)))) :: (so, Ia Z (lst 3 (fun i => Int32.ofNat (shp t0 w0 i)))) :: (lb, La Z (lst 3 (fun i => EE (2 ^ w0 i)))) :: (xa, Ia Z (lst 3 (fun i => Int32.ofNat (w i)))) :: (ly, Ob Z CYn NSY [.ref wa, .ref sa, .ref la, .int (Int32.ofNat (wcn t))]) :: (wa, Ia Z (lst 3 (fun i => Int32.ofNat (wdp t i)))) :: (a67, La Z (lst len (pkF RF (i * wcn t) t w (vals i)))) :: (a69, Ia Z (lst 3 (fun j => Int32.ofNat (vals i j)))) :: (fa, La Z (lst N FF)) :: (a, Ob Z CSn NSS [.ref xa, .ref ly, .ref va, .ref sl, .int zs, .ref ed, .int ef, .ref sg, .ref sh, .ref ss, .int sc]) :: σ) := H92.pull 8 rfl
      have H94 : Hp n0 h86 ((wa, Ia Z (lst 3 (fun i => Int32.ofNat (wdp t i)))) :: (sa, Ia Z (lst 3 (fun i => Int32.ofNat (shp t w i)))) :: (la, La Z (lst 3 (fun i => EE (2 ^ w i)))) :: (lo, Ob Z CYn NSY [.ref wo, .ref so, .ref lb, .int (Int32.ofNat (wcn t0))]) :: (wo, Ia Z (lst 3 (fun i => Int32.ofNat (wdp t0 i)))) :: (so, Ia Z (lst 3 (fun i => Int32.ofNat (shp t0 w0 i)))) :: (lb, La Z (lst 3 (fun i => EE (2 ^ w0 i)))) :: (xa, Ia Z (lst 3 (fun i => Int32.ofNat (w i)))) :: (ly, Ob Z CYn NSY [.ref wa, .ref sa, .ref la, .int (Int32.ofNat (wcn t))]) :: (a67, La Z (lst len (pkF RF (i * wcn t) t w (vals i)))) :: (a69, Ia Z (lst 3 (fun j => Int32.ofNat (vals i j)))) :: (fa, La Z (lst N FF)) :: (a, Ob Z CSn NSS [.ref xa, .ref ly, .ref va, .ref sl, .int zs, .ref ed, .int ef, .ref sg, .ref sh, .ref ss, .int sc]) :: σ) := H93.pull 8 rfl
      have H95 : Hp n0 h86 ((ly, Ob Z CYn NSY [.ref wa, .ref sa, .ref la, .int (Int32.ofNat (wcn t))]) :: (wa, Ia Z (lst 3 (fun i => Int32.ofNat (wdp t i)))) :: (sa, Ia Z (lst 3 (fun i => Int32.ofNat (shp t w i)))) :: (la, La Z (lst 3 (fun i => EE (2 ^ w i)))) :: (lo, Ob Z CYn NSY [.ref wo, .ref so, .ref lb, .int (Int32.ofNat (wcn t0))]) :: (wo, Ia Z (lst 3 (fun i => Int32.ofNat (wdp t0 i)))) :: (so, Ia Z (lst 3 (fun i => Int32.ofNat (shp t0 w0 i)))) :: (lb, La Z (lst 3 (fun i => EE (2 ^ w0 i)))) :: (xa, Ia Z (lst 3 (fun i => Int32.ofNat (w i)))) :: (a67, La Z (lst len (pkF RF (i * wcn t) t w (vals i)))) :: (a69, Ia Z (lst 3 (fun j => Int32.ofNat (vals i j)))) :: (fa, La Z (lst N FF)) :: (a, Ob Z CSn NSS [.ref xa, .ref ly, .ref va, .ref sl, .int zs, .ref ed, .int ef, .ref sg, .ref sh, .ref ss, .int sc]) :: σ) := H94.pull 8 rfl
      have H96 : Hp n0 h86 ((a, Ob Z CSn NSS [.ref xa, .ref ly, .ref va, .ref sl, .int zs, .ref ed, .int ef, .ref sg, .ref sh, .ref ss, .int sc]) :: (ly, Ob Z CYn NSY [.ref wa, .ref sa, .ref la, .int (Int32.ofNat (wcn t))]) :: (wa, Ia Z (lst 3 (fun i => Int32.ofNat (wdp t i)))) :: (sa, Ia Z (lst 3 (fun i => Int32.ofNat (shp t w i)))) :: (la, La Z (lst 3 (fun i => EE (2 ^ w i)))) :: (lo, Ob Z CYn NSY [.ref wo, .ref so, .ref lb, .int (Int32.ofNat (wcn t0))]) :: (wo, Ia Z (lst 3 (fun i => Int32.ofNat (wdp t0 i)))) :: (so, Ia Z (lst 3 (fun i => Int32.ofNat (shp t0 w0 i)))) :: (lb, La Z (lst 3 (fun i => EE (2 ^ w0 i)))) :: (xa, Ia Z (lst 3 (fun i => Int32.ofNat (w i)))) :: (a67, La Z (lst len (pkF RF (i * wcn t) t w (vals i)))) :: (a69, Ia Z (lst 3 (fun j => Int32.ofNat (vals i j)))) :: (fa, La Z (lst N FF)) :: σ) := H95.pull 12 rfl
      have H97 : Hp n0 h86 ((a67, La Z (lst len (pkF RF (i * wcn t) t w (vals i)))) :: (a, Ob Z CSn NSS [.ref xa, .ref ly, .ref va, .ref sl, .int zs, .ref ed, .int ef, .ref sg, .ref sh, .ref ss, .int sc]) :: (ly, Ob Z CYn NSY [.ref wa, .ref sa, .ref la, .int (Int32.ofNat (wcn t))]) :: (wa, Ia Z (lst 3 (fun i => Int32.ofNat (wdp t i)))) :: (sa, Ia Z (lst 3 (fun i => Int32.ofNat (shp t w i)))) :: (la, La Z (lst 3 (fun i => EE (2 ^ w i)))) :: (lo, Ob Z CYn NSY [.ref wo, .ref so, .ref lb, .int (Int32.ofNat (wcn t0))]) :: (wo, Ia Z (lst 3 (fun i => Int32.ofNat (wdp t0 i)))) :: (so, Ia Z (lst 3 (fun i => Int32.ofNat (shp t0 w0 i)))) :: (lb, La Z (lst 3 (fun i => EE (2 ^ w0 i)))) :: (xa, Ia Z (lst 3 (fun i => Int32.ofNat (w i)))) :: (a69, Ia Z (lst 3 (fun j => Int32.ofNat (vals i j)))) :: (fa, La Z (lst N FF)) :: σ) := H96.pull 10 rfl
      have H98 : Hp n0 h86 ((a69, Ia Z (lst 3 (fun j => Int32.ofNat (vals i j)))) :: (a67, La Z (lst len (pkF RF (i * wcn t) t w (vals i)))) :: (a, Ob Z CSn NSS [.ref xa, .ref ly, .ref va, .ref sl, .int zs, .ref ed, .int ef, .ref sg, .ref sh, .ref ss, .int sc]) :: (ly, Ob Z CYn NSY [.ref wa, .ref sa, .ref la, .int (Int32.ofNat (wcn t))]) :: (wa, Ia Z (lst 3 (fun i => Int32.ofNat (wdp t i)))) :: (sa, Ia Z (lst 3 (fun i => Int32.ofNat (shp t w i)))) :: (la, La Z (lst 3 (fun i => EE (2 ^ w i)))) :: (lo, Ob Z CYn NSY [.ref wo, .ref so, .ref lb, .int (Int32.ofNat (wcn t0))]) :: (wo, Ia Z (lst 3 (fun i => Int32.ofNat (wdp t0 i)))) :: (so, Ia Z (lst 3 (fun i => Int32.ofNat (shp t0 w0 i)))) :: (lb, La Z (lst 3 (fun i => EE (2 ^ w0 i)))) :: (xa, Ia Z (lst 3 (fun i => Int32.ofNat (w i)))) :: (fa, La Z (lst N FF)) :: σ) := H97.pull 11 rfl
      exact ih (i + 1) _ _ _ (by omega) (pkF_step hR) H98
  exact loop cnt 0 _ _ _ (by omega) (fun j hj => absurd hj (by omega)) H70
theorem D98_11_0 : Dc prog_98_method_11_code 0 (.iload_n 1) 1 1 := dc (by decide +kernel) rfl
theorem D98_11_1 : Db prog_98_method_11_code 1 (.ifCond .le) 4 10 := db (9) (by decide +kernel) rfl (by decide) (by decide)
theorem D98_11_4 : Dc prog_98_method_11_code 4 (.iload_n 1) 1 5 := dc (by decide +kernel) rfl
theorem D98_11_5 : Dc prog_98_method_11_code 5 (.ldc 149) 2 7 := dc (by decide +kernel) rfl
theorem D98_11_7 : Db prog_98_method_11_code 7 (.if_icmp .le) 10 27 := db (20) (by decide +kernel) rfl (by decide) (by decide)
theorem D98_11_10 : Dc prog_98_method_11_code 10 (.new 150) 3 13 := dc (by decide +kernel) rfl
theorem D98_11_13 : Dc prog_98_method_11_code 13 (.dup) 1 14 := dc (by decide +kernel) rfl
theorem D98_11_14 : Dc prog_98_method_11_code 14 (.aload_n 0) 1 15 := dc (by decide +kernel) rfl
theorem D98_11_15 : Dc prog_98_method_11_code 15 (.getfield 118) 3 18 := dc (by decide +kernel) rfl
theorem D98_11_18 : Dc prog_98_method_11_code 18 (.invokedynamic 152) 5 23 := dc (by decide +kernel) rfl
theorem D98_11_23 : Dc prog_98_method_11_code 23 (.invokespecial 156) 3 26 := dc (by decide +kernel) rfl
theorem D98_11_26 : Dc prog_98_method_11_code 26 (.athrow) 1 27 := dc (by decide +kernel) rfl
theorem D98_11_27 : Dc prog_98_method_11_code 27 (.aload_n 0) 1 28 := dc (by decide +kernel) rfl
theorem D98_11_28 : Dc prog_98_method_11_code 28 (.getfield 43) 3 31 := dc (by decide +kernel) rfl
theorem D98_11_31 : Dc prog_98_method_11_code 31 (.getfield 47) 3 34 := dc (by decide +kernel) rfl
theorem D98_11_34 : Dc prog_98_method_11_code 34 (.istore_n 2) 1 35 := dc (by decide +kernel) rfl
theorem D98_11_35 : Dc prog_98_method_11_code 35 (.aload_n 0) 1 36 := dc (by decide +kernel) rfl
theorem D98_11_36 : Dc prog_98_method_11_code 36 (.iload_n 1) 1 37 := dc (by decide +kernel) rfl
theorem D98_11_37 : Dc prog_98_method_11_code 37 (.newarray .int) 2 39 := dc (by decide +kernel) rfl
theorem D98_11_39 : Dc prog_98_method_11_code 39 (.putfield 9) 3 42 := dc (by decide +kernel) rfl
theorem D98_11_42 : Dc prog_98_method_11_code 42 (.iconst 0) 1 43 := dc (by decide +kernel) rfl
theorem D98_11_43 : Dc prog_98_method_11_code 43 (.istore_n 3) 1 44 := dc (by decide +kernel) rfl
theorem D98_11_44 : Dc prog_98_method_11_code 44 (.iload_n 3) 1 45 := dc (by decide +kernel) rfl
theorem D98_11_45 : Dc prog_98_method_11_code 45 (.aload_n 0) 1 46 := dc (by decide +kernel) rfl
theorem D98_11_46 : Dc prog_98_method_11_code 46 (.getfield 118) 3 49 := dc (by decide +kernel) rfl
theorem D98_11_49 : Db prog_98_method_11_code 49 (.if_icmp .ge) 52 108 := db (59) (by decide +kernel) rfl (by decide) (by decide)
theorem D98_11_52 : Dc prog_98_method_11_code 52 (.aload_n 0) 1 53 := dc (by decide +kernel) rfl
theorem D98_11_53 : Dc prog_98_method_11_code 53 (.getfield 50) 3 56 := dc (by decide +kernel) rfl
theorem D98_11_56 : Dc prog_98_method_11_code 56 (.iload_n 3) 1 57 := dc (by decide +kernel) rfl
theorem D98_11_57 : Dc prog_98_method_11_code 57 (.iload_n 2) 1 58 := dc (by decide +kernel) rfl
theorem D98_11_58 : Dc prog_98_method_11_code 58 (.imul) 1 59 := dc (by decide +kernel) rfl
theorem D98_11_59 : Dc prog_98_method_11_code 59 (.iload_n 2) 1 60 := dc (by decide +kernel) rfl
theorem D98_11_60 : Dc prog_98_method_11_code 60 (.invokestatic 63) 3 63 := dc (by decide +kernel) rfl
theorem D98_11_63 : Dc prog_98_method_11_code 63 (.iload_n 1) 1 64 := dc (by decide +kernel) rfl
theorem D98_11_64 : Dc prog_98_method_11_code 64 (.iconst 1) 1 65 := dc (by decide +kernel) rfl
theorem D98_11_65 : Dc prog_98_method_11_code 65 (.isub) 1 66 := dc (by decide +kernel) rfl
theorem D98_11_66 : Dc prog_98_method_11_code 66 (.iand) 1 67 := dc (by decide +kernel) rfl
theorem D98_11_67 : Dc prog_98_method_11_code 67 (.istore 4) 2 69 := dc (by decide +kernel) rfl
theorem D98_11_69 : Dc prog_98_method_11_code 69 (.aload_n 0) 1 70 := dc (by decide +kernel) rfl
theorem D98_11_70 : Dc prog_98_method_11_code 70 (.getfield 9) 3 73 := dc (by decide +kernel) rfl
theorem D98_11_73 : Dc prog_98_method_11_code 73 (.iload 4) 2 75 := dc (by decide +kernel) rfl
theorem D98_11_75 : Dc prog_98_method_11_code 75 (.iaload) 1 76 := dc (by decide +kernel) rfl
theorem D98_11_76 : Db prog_98_method_11_code 76 (.ifCond .eq) 79 92 := db (16) (by decide +kernel) rfl (by decide) (by decide)
theorem D98_11_79 : Dc prog_98_method_11_code 79 (.iload 4) 2 81 := dc (by decide +kernel) rfl
theorem D98_11_81 : Dc prog_98_method_11_code 81 (.iconst 1) 1 82 := dc (by decide +kernel) rfl
theorem D98_11_82 : Dc prog_98_method_11_code 82 (.iadd) 1 83 := dc (by decide +kernel) rfl
theorem D98_11_83 : Dc prog_98_method_11_code 83 (.iload_n 1) 1 84 := dc (by decide +kernel) rfl
theorem D98_11_84 : Dc prog_98_method_11_code 84 (.iconst 1) 1 85 := dc (by decide +kernel) rfl
theorem D98_11_85 : Dc prog_98_method_11_code 85 (.isub) 1 86 := dc (by decide +kernel) rfl
theorem D98_11_86 : Dc prog_98_method_11_code 86 (.iand) 1 87 := dc (by decide +kernel) rfl
theorem D98_11_87 : Dc prog_98_method_11_code 87 (.istore 4) 2 89 := dc (by decide +kernel) rfl
theorem D98_11_89 : Db prog_98_method_11_code 89 (.goto) 92 69 := db (-20) (by decide +kernel) rfl (by decide) (by decide)
theorem D98_11_92 : Dc prog_98_method_11_code 92 (.aload_n 0) 1 93 := dc (by decide +kernel) rfl
theorem D98_11_93 : Dc prog_98_method_11_code 93 (.getfield 9) 3 96 := dc (by decide +kernel) rfl
theorem D98_11_96 : Dc prog_98_method_11_code 96 (.iload 4) 2 98 := dc (by decide +kernel) rfl
theorem D98_11_98 : Dc prog_98_method_11_code 98 (.iload_n 3) 1 99 := dc (by decide +kernel) rfl
theorem D98_11_99 : Dc prog_98_method_11_code 99 (.iconst 1) 1 100 := dc (by decide +kernel) rfl
theorem D98_11_100 : Dc prog_98_method_11_code 100 (.iadd) 1 101 := dc (by decide +kernel) rfl
theorem D98_11_101 : Dc prog_98_method_11_code 101 (.iastore) 1 102 := dc (by decide +kernel) rfl
theorem D98_11_102 : Dc prog_98_method_11_code 102 (.iinc 3 1) 3 105 := dc (by decide +kernel) rfl
theorem D98_11_105 : Db prog_98_method_11_code 105 (.goto) 108 44 := db (-61) (by decide +kernel) rfl (by decide) (by decide)
theorem D98_11_108 : Dc prog_98_method_11_code 108 (.return_) 1 109 := dc (by decide +kernel) rfl
set_option maxRecDepth 65536 in
set_option maxHeartbeats 40000000 in
theorem ct_rebuild (l : Launch) (Z : State) (a0 : Array Value) (hw : ∀ d ∈ tables_1, d.before a0 Z = true) (n0 : Nat) (h : Heap) (a xa ly va sl ed sg sh ss : Addr) (wa sa la : Addr) (t : Bool) (n : Nat) (VF : Nat → Int64) (ef : Int32) (σ : List Ch) (hn : n ≤ 3) (hcap : n * wcn t ≤ 16) (H : Hp n0 h ((a, Ob Z CSn NSS [.ref xa, .ref ly, .ref va, .ref sl, .int (Int32.ofNat n), .ref ed, .int ef, .ref sg, .ref sh, .ref ss, .int 0]) :: (ly, Ob Z CYn NSY [.ref wa, .ref sa, .ref la, .int (Int32.ofNat (wcn t))]) :: (va, La Z (lst 16 VF)) :: σ)) :
    Ct l Z n0 (⟨"com/example/divergence/divergence/engine/StateStore", "rebuild", "(I)V"⟩ : MethodName) prog_98_method_11_code 5 none ({ frames := 2, cells := 1, slots := 32, locals := 50 } : Room) [.ref a, .int 32] h (fun v h' => ∃ (b : Addr) (SL : Nat → Nat), v = none ∧ Tab SL n (fun j => hsl (fun k => VF (j * wcn t + k)) (wcn t)) ∧ Hp n0 h' ((b, Ia Z (lst 32 (fun s => Int32.ofNat (SL s)))) :: (a, Ob Z CSn NSS [.ref xa, .ref ly, .ref va, .ref b, .int (Int32.ofNat n), .ref ed, .int ef, .ref sg, .ref sh, .ref ss, .int 0]) :: (ly, Ob Z CYn NSY [.ref wa, .ref sa, .ref la, .int (Int32.ofNat (wcn t))]) :: (va, La Z (lst 16 VF)) :: σ)) := by
  refine Ct.intro (plainFor_of_name pn_0) [.val (.ref a), .val (.int 32), .unset, .unset, .unset] (fun m => by first | (simp [entryFrame, mkF, argsToLocals, Value.category]; done) | (simp [entryFrame, mkF, argsToLocals, Value.category, maxLocals]; done) | rfl) ?_
  intro k hl K
  replace K : Ok k Z n0 "com/example/divergence/divergence/engine/StateStore" ({ frames := 2, cells := 1, slots := 32, locals := 50 } : Room) prog_98_method_11_code 5 none "rebuild" := K
  refine G.iloadN K D98_11_0 rfl ?_
  refine G.if_le K D98_11_1 (fun q => absurd q (by decide)) (fun _ => ?_)
  refine G.iloadN K D98_11_4 rfl ?_
  refine G.ldcI K D98_11_5 (wd hw 120 rfl) ?_
  refine G.icmp_le K D98_11_7 (fun _ => ?_) (fun q => absurd q (by decide))
  refine G.aloadN K D98_11_27 rfl rfl ?_
  refine G.getF K (host := "") (Or.inl (wd hw 43 rfl)) H (i := 0) rfl (j := 1) rfl rfl D98_11_28 ?_
  refine G.getFR K (wd hw 45 rfl) H (i := 1) rfl (j := 3) rfl rfl D98_11_31 ?_
  refine G.istoreN K D98_11_34 ([.val (.ref a), .val (.int 32), .val (.int (Int32.ofNat (wcn t))), .unset, .unset]) rfl ?_
  refine G.aloadN K D98_11_35 rfl rfl ?_
  refine G.iloadN K D98_11_36 rfl ?_
  refine G.newarr_i K (wd hw 0 rfl) H (by decide) 32 (by decide) (by decide) (by decide) (by decide) D98_11_37 ?_
  intro a101 h102 H102
  change Hp n0 h102 ((a101, Ia Z [0, 0, 0, 0, 0, 0, 0, 0, 0, 0, 0, 0, 0, 0, 0, 0, 0, 0, 0, 0, 0, 0, 0, 0, 0, 0, 0, 0, 0, 0, 0, 0]) :: (a, Ob Z CSn NSS [.ref xa, .ref ly, .ref va, .ref sl, .int (Int32.ofNat n), .ref ed, .int ef, .ref sg, .ref sh, .ref ss, .int 0]) :: (ly, Ob Z CYn NSY [.ref wa, .ref sa, .ref la, .int (Int32.ofNat (wcn t))]) :: (va, La Z (lst 16 VF)) :: σ) at H102
  refine G.putF K (host := "") (Or.inl (wd hw 11 rfl)) (cf_NSS hw) (Or.inl (wd hw 12 rfl)) (wd hw 3 rfl) H102 (i := 1) rfl (j := 3) rfl rfl (ty := (.array .int)) (by decide) rfl rfl D98_11_39 ?_
  intro h103 H103
  change Hp n0 h103 ((a101, Ia Z [0, 0, 0, 0, 0, 0, 0, 0, 0, 0, 0, 0, 0, 0, 0, 0, 0, 0, 0, 0, 0, 0, 0, 0, 0, 0, 0, 0, 0, 0, 0, 0]) :: (a, Ob Z CSn NSS [.ref xa, .ref ly, .ref va, .ref a101, .int (Int32.ofNat n), .ref ed, .int ef, .ref sg, .ref sh, .ref ss, .int 0]) :: (ly, Ob Z CYn NSY [.ref wa, .ref sa, .ref la, .int (Int32.ofNat (wcn t))]) :: (va, La Z (lst 16 VF)) :: σ) at H103
  refine G.iconst K D98_11_42 0 rfl ?_
  refine G.istoreN K D98_11_43 ([.val (.ref a), .val (.int 32), .val (.int (Int32.ofNat (wcn t))), .val (.int 0), .unset]) rfl ?_
  have loop : ∀ (d i : Nat) (h2 : Heap) (SL : Nat → Nat) (x4 : Slot), i + d = n → ((x4 = .unset ∨ ∃ y, x4 = .val (.int y)) ∧ Tab SL i (fun j => hsl (fun k => VF (j * wcn t + k)) (wcn t))) → Hp n0 h2 ((a101, Ia Z (lst 32 (fun s => Int32.ofNat (SL s)))) :: (a, Ob Z CSn NSS [.ref xa, .ref ly, .ref va, .ref a101, .int (Int32.ofNat n), .ref ed, .int ef, .ref sg, .ref sh, .ref ss, .int 0]) :: (ly, Ob Z CYn NSY [.ref wa, .ref sa, .ref la, .int (Int32.ofNat (wcn t))]) :: (va, La Z (lst 16 VF)) :: σ) → G k n0 (fun v h' => ∃ (b : Addr) (SL : Nat → Nat), v = none ∧ Tab SL n (fun j => hsl (fun k => VF (j * wcn t + k)) (wcn t)) ∧ Hp n0 h' ((b, Ia Z (lst 32 (fun s => Int32.ofNat (SL s)))) :: (a, Ob Z CSn NSS [.ref xa, .ref ly, .ref va, .ref b, .int (Int32.ofNat n), .ref ed, .int ef, .ref sg, .ref sh, .ref ss, .int 0]) :: (ly, Ob Z CYn NSY [.ref wa, .ref sa, .ref la, .int (Int32.ofNat (wcn t))]) :: (va, La Z (lst 16 VF)) :: σ)) h2 1 32 44 [.val (.ref a), .val (.int 32), .val (.int (Int32.ofNat (wcn t))), .val (.int (Int32.ofNat i)), x4] [] := by
    intro d
    induction d with
    | zero =>
      intro i h2 SL x4 hd hR H2
      obtain ⟨h4, hR⟩ := hR
      obtain rfl : n = i := by omega
      refine G.iloadN K D98_11_44 rfl ?_
      refine G.aloadN K D98_11_45 rfl rfl ?_
      refine G.getF K (host := "") (Or.inl (wd hw 80 rfl)) H2 (i := 1) rfl (j := 4) rfl rfl D98_11_46 ?_
      refine G.icmp_ge K D98_11_49 (fun q104 => ?_) (fun q => absurd ((own_nlt (by omega) (by omega)).mp q) (by omega))
      refine G.ret_void K D98_11_108 ?_
      exact ⟨_, SL, rfl, hR, H2⟩
    | succ d ih =>
      intro i h2 SL x4 hd hR H2
      obtain ⟨h4, hR⟩ := hR
      have hip : i < 2147483648 := by omega
      have hm1 := Nat.mul_le_mul_right (wcn t) (show i + 1 ≤ n by omega)
      rw [Nat.succ_mul] at hm1
      refine G.iloadN K D98_11_44 rfl ?_
      refine G.aloadN K D98_11_45 rfl rfl ?_
      refine G.getF K (host := "") (Or.inl (wd hw 80 rfl)) H2 (i := 1) rfl (j := 4) rfl rfl D98_11_46 ?_
      refine G.icmp_ge K D98_11_49 (fun q => absurd ((own_nlt (by omega) (by omega)).mpr (by omega)) q) (fun q105 => ?_)
      refine G.aloadN K D98_11_52 rfl rfl ?_
      refine G.getF K (host := "") (Or.inl (wd hw 46 rfl)) H2 (i := 1) rfl (j := 2) rfl rfl D98_11_53 ?_
      refine G.iloadN K D98_11_56 rfl ?_
      refine G.iloadN K D98_11_57 rfl ?_
      refine G.imul K D98_11_58 ?_
      rw [own_nmul i (wcn t)]
      refine G.iloadN K D98_11_59 rfl ?_
      have H106 : Hp n0 h2 ((va, La Z (lst 16 VF)) :: (a101, Ia Z (lst 32 (fun s => Int32.ofNat (SL s)))) :: (a, Ob Z CSn NSS [.ref xa, .ref ly, .ref va, .ref a101, .int (Int32.ofNat n), .ref ed, .int ef, .ref sg, .ref sh, .ref ss, .int 0]) :: (ly, Ob Z CYn NSY [.ref wa, .ref sa, .ref la, .int (Int32.ofNat (wcn t))]) :: σ) := H2.pull 3 rfl
      refine G.callS K hl (wd hw 121 rfl) (wd hw 122 rfl) (wd hw 4 rfl) (wd hw 123 rfl) (by decide) pd_6 (ct_hash l Z a0 hw n0 h2 va 16 (i * wcn t) (wcn t) VF ((a101, Ia Z (lst 32 (fun s => Int32.ofNat (SL s)))) :: (a, Ob Z CSn NSS [.ref xa, .ref ly, .ref va, .ref a101, .int (Int32.ofNat n), .ref ed, .int ef, .ref sg, .ref sh, .ref ss, .int 0]) :: (ly, Ob Z CYn NSY [.ref wa, .ref sa, .ref la, .int (Int32.ofNat (wcn t))]) :: σ) (by decide) (by omega) H106) 0 rfl (by decide) (by decide) (by decide) (by decide) rfl rfl [.int (Int32.ofNat (wcn t)), .int (Int32.ofNat (i * wcn t)), .ref va] rfl D98_11_60 ?_
      rintro _ _ ⟨rfl, rfl⟩
      change G k n0 _ h2 _ _ 63 [.val (.ref a), .val (.int 32), .val (.int (Int32.ofNat (wcn t))), .val (.int (Int32.ofNat i)), x4] [.int (hF (fun k => VF (i * wcn t + k)) (wcn t))]
      refine G.iloadN K D98_11_63 rfl ?_
      refine G.iconst K D98_11_64 1 rfl ?_
      refine G.isub K D98_11_65 ?_
      change G k n0 _ h2 _ _ 66 [.val (.ref a), .val (.int 32), .val (.int (Int32.ofNat (wcn t))), .val (.int (Int32.ofNat i)), x4] [.int 31, .int (hF (fun k => VF (i * wcn t + k)) (wcn t))]
      refine G.iand K D98_11_66 ?_
      rw [(hsl_lt (fun k => VF (i * wcn t + k)) (wcn t)).2]
      refine G.istore K D98_11_67 ([.val (.ref a), .val (.int 32), .val (.int (Int32.ofNat (wcn t))), .val (.int (Int32.ofNat i)), .val (.int (Int32.ofNat (hsl (fun k => VF (i * wcn t + k)) (wcn t))))]) (by rcases h4 with rfl | ⟨_, rfl⟩ <;> rfl) ?_
      obtain ⟨r, hL⟩ := hR.miss (by omega) (hsl_lt (fun k => VF (i * wcn t + k)) (wcn t)).1 (E := fun _ => False) (fun _ z => z)
      have inner : ∀ (s : Nat) (b : Bool) (r : Nat), Lk SL (fun _ => False) s b r → b = false → s < 32 → G k n0 (fun v h' => ∃ (b : Addr) (SL : Nat → Nat), v = none ∧ Tab SL n (fun j => hsl (fun k => VF (j * wcn t + k)) (wcn t)) ∧ Hp n0 h' ((b, Ia Z (lst 32 (fun s => Int32.ofNat (SL s)))) :: (a, Ob Z CSn NSS [.ref xa, .ref ly, .ref va, .ref b, .int (Int32.ofNat n), .ref ed, .int ef, .ref sg, .ref sh, .ref ss, .int 0]) :: (ly, Ob Z CYn NSY [.ref wa, .ref sa, .ref la, .int (Int32.ofNat (wcn t))]) :: (va, La Z (lst 16 VF)) :: σ)) h2 1 32 92 [.val (.ref a), .val (.int 32), .val (.int (Int32.ofNat (wcn t))), .val (.int (Int32.ofNat i)), .val (.int (Int32.ofNat r))] [] → G k n0 (fun v h' => ∃ (b : Addr) (SL : Nat → Nat), v = none ∧ Tab SL n (fun j => hsl (fun k => VF (j * wcn t + k)) (wcn t)) ∧ Hp n0 h' ((b, Ia Z (lst 32 (fun s => Int32.ofNat (SL s)))) :: (a, Ob Z CSn NSS [.ref xa, .ref ly, .ref va, .ref b, .int (Int32.ofNat n), .ref ed, .int ef, .ref sg, .ref sh, .ref ss, .int 0]) :: (ly, Ob Z CYn NSY [.ref wa, .ref sa, .ref la, .int (Int32.ofNat (wcn t))]) :: (va, La Z (lst 16 VF)) :: σ)) h2 1 32 69 [.val (.ref a), .val (.int 32), .val (.int (Int32.ofNat (wcn t))), .val (.int (Int32.ofNat i)), .val (.int (Int32.ofNat s))] [] := by
        intro s b r L
        refine Lk.ind (sl := SL) (E := fun _ => False) (motive := fun s b r => b = false → s < 32 → G k n0 (fun v h' => ∃ (b : Addr) (SL : Nat → Nat), v = none ∧ Tab SL n (fun j => hsl (fun k => VF (j * wcn t + k)) (wcn t)) ∧ Hp n0 h' ((b, Ia Z (lst 32 (fun s => Int32.ofNat (SL s)))) :: (a, Ob Z CSn NSS [.ref xa, .ref ly, .ref va, .ref b, .int (Int32.ofNat n), .ref ed, .int ef, .ref sg, .ref sh, .ref ss, .int 0]) :: (ly, Ob Z CYn NSY [.ref wa, .ref sa, .ref la, .int (Int32.ofNat (wcn t))]) :: (va, La Z (lst 16 VF)) :: σ)) h2 1 32 92 [.val (.ref a), .val (.int 32), .val (.int (Int32.ofNat (wcn t))), .val (.int (Int32.ofNat i)), .val (.int (Int32.ofNat r))] [] → G k n0 (fun v h' => ∃ (b : Addr) (SL : Nat → Nat), v = none ∧ Tab SL n (fun j => hsl (fun k => VF (j * wcn t + k)) (wcn t)) ∧ Hp n0 h' ((b, Ia Z (lst 32 (fun s => Int32.ofNat (SL s)))) :: (a, Ob Z CSn NSS [.ref xa, .ref ly, .ref va, .ref b, .int (Int32.ofNat n), .ref ed, .int ef, .ref sg, .ref sh, .ref ss, .int 0]) :: (ly, Ob Z CYn NSY [.ref wa, .ref sa, .ref la, .int (Int32.ofNat (wcn t))]) :: (va, La Z (lst 16 VF)) :: σ)) h2 1 32 69 [.val (.ref a), .val (.int 32), .val (.int (Int32.ofNat (wcn t))), .val (.int (Int32.ofNat i)), .val (.int (Int32.ofNat s))] []) ?_ ?_ ?_ L
        · intro s _ z; exact z.elim
        · intro s b r g1 g2 ih2 hb hs g
          have he := hR.ent s
          refine G.aloadN K D98_11_69 rfl rfl ?_
          refine G.getF K (host := "") (Or.inl (wd hw 11 rfl)) H106 (i := 2) rfl (j := 3) rfl rfl D98_11_70 ?_
          refine G.iload K D98_11_73 rfl ?_
          refine G.aload_i K H106 (i := 1) rfl (own_nneg (by omega)) (by rw [own_nidx (by omega)]; exact lst_get _ (by omega)) D98_11_75 ?_
          refine G.if_eq K D98_11_76 (fun q => absurd ((own_neq (n := 0) (by omega) (by decide)).mp q) g1) (fun q107 => ?_)
          refine G.iload K D98_11_79 rfl ?_
          refine G.iconst K D98_11_81 1 rfl ?_
          refine G.iadd K D98_11_82 ?_
          rw [own_nsucc s]
          refine G.iloadN K D98_11_83 rfl ?_
          refine G.iconst K D98_11_84 1 rfl ?_
          refine G.isub K D98_11_85 ?_
          change G k n0 _ h2 _ _ 86 [.val (.ref a), .val (.int 32), .val (.int (Int32.ofNat (wcn t))), .val (.int (Int32.ofNat i)), .val (.int (Int32.ofNat s))] [.int 31, .int (Int32.ofNat (s + 1))]
          refine G.iand K D98_11_86 ?_
          rw [and31 hs]
          refine G.istore K D98_11_87 ([.val (.ref a), .val (.int 32), .val (.int (Int32.ofNat (wcn t))), .val (.int (Int32.ofNat i)), .val (.int (Int32.ofNat ((s + 1) % 32)))]) rfl ?_
          refine G.goto K D98_11_89 ?_
          exact ih2 hb (Nat.mod_lt _ (by decide)) g
        · intro s h0 hb hs g
          refine G.aloadN K D98_11_69 rfl rfl ?_
          refine G.getF K (host := "") (Or.inl (wd hw 11 rfl)) H106 (i := 2) rfl (j := 3) rfl rfl D98_11_70 ?_
          refine G.iload K D98_11_73 rfl ?_
          refine G.aload_i K H106 (i := 1) rfl (own_nneg (by omega)) (by rw [own_nidx (by omega)]; exact lst_get _ (by omega)) D98_11_75 ?_
          refine G.if_eq K D98_11_76 (fun q108 => ?_) (fun q => absurd (show Int32.ofNat (SL s) = 0 by rw [h0]; rfl) q)
          exact g
      have hr32 := (hL.zero rfl (hsl_lt _ _).1).2
      refine inner _ _ _ hL rfl (hsl_lt _ _).1 ?_
      refine G.aloadN K D98_11_92 rfl rfl ?_
      refine G.getF K (host := "") (Or.inl (wd hw 11 rfl)) H106 (i := 2) rfl (j := 3) rfl rfl D98_11_93 ?_
      refine G.iload K D98_11_96 rfl ?_
      refine G.iloadN K D98_11_98 rfl ?_
      refine G.iconst K D98_11_99 1 rfl ?_
      refine G.iadd K D98_11_100 ?_
      rw [own_nsucc i]
      refine G.astore_i K H106 (i := 1) rfl (own_nneg (by omega)) (by rw [own_nidx (by omega), lst_len]; exact hr32) D98_11_101 ?_
      intro h109 H109
      rw [own_nidx (by omega), lst_set _ hr32, ups_fup] at H109
      change Hp n0 h109 ((va, La Z (lst 16 VF)) :: (a101, Ia Z (lst 32 (fun s => Int32.ofNat (ups SL r (i + 1) s)))) :: (a, Ob Z CSn NSS [.ref xa, .ref ly, .ref va, .ref a101, .int (Int32.ofNat n), .ref ed, .int ef, .ref sg, .ref sh, .ref ss, .int 0]) :: (ly, Ob Z CYn NSY [.ref wa, .ref sa, .ref la, .int (Int32.ofNat (wcn t))]) :: σ) at H109
      refine G.iinc K D98_11_102 1 rfl rfl ([.val (.ref a), .val (.int 32), .val (.int (Int32.ofNat (wcn t))), .val (.int ((Int32.ofNat i) + 1)), .val (.int (Int32.ofNat r))]) rfl ?_
      refine G.goto K D98_11_105 ?_
      rw [own_nsucc i]
      have H110 : Hp n0 h109 ((ly, Ob Z CYn NSY [.ref wa, .ref sa, .ref la, .int (Int32.ofNat (wcn t))]) :: (va, La Z (lst 16 VF)) :: (a101, Ia Z (lst 32 (fun s => Int32.ofNat (ups SL r (i + 1) s)))) :: (a, Ob Z CSn NSS [.ref xa, .ref ly, .ref va, .ref a101, .int (Int32.ofNat n), .ref ed, .int ef, .ref sg, .ref sh, .ref ss, .int 0]) :: σ) := H109.pull 3 rfl
      have H111 : Hp n0 h109 ((a, Ob Z CSn NSS [.ref xa, .ref ly, .ref va, .ref a101, .int (Int32.ofNat n), .ref ed, .int ef, .ref sg, .ref sh, .ref ss, .int 0]) :: (ly, Ob Z CYn NSY [.ref wa, .ref sa, .ref la, .int (Int32.ofNat (wcn t))]) :: (va, La Z (lst 16 VF)) :: (a101, Ia Z (lst 32 (fun s => Int32.ofNat (ups SL r (i + 1) s)))) :: σ) := H110.pull 3 rfl
      have H112 : Hp n0 h109 ((a101, Ia Z (lst 32 (fun s => Int32.ofNat (ups SL r (i + 1) s)))) :: (a, Ob Z CSn NSS [.ref xa, .ref ly, .ref va, .ref a101, .int (Int32.ofNat n), .ref ed, .int ef, .ref sg, .ref sh, .ref ss, .int 0]) :: (ly, Ob Z CYn NSY [.ref wa, .ref sa, .ref la, .int (Int32.ofNat (wcn t))]) :: (va, La Z (lst 16 VF)) :: σ) := H111.pull 3 rfl
      exact ih (i + 1) _ (ups SL r (i + 1)) _ (by omega) ⟨Or.inr ⟨_, rfl⟩, Tab.put (hs' := (fun j => hsl (fun k => VF (j * wcn t + k)) (wcn t))) hR hL (hsl_lt _ _).1 (fun _ _ => rfl)⟩ H112
  exact loop n 0 _ (fun _ => 0) _ (by omega) ⟨Or.inl rfl, Tab.none _⟩ H103
theorem D33_47_0 : Dc jdk_33_method_47_code 0 (.iload_n 0) 1 1 := dc (by decide +kernel) rfl
theorem D33_47_1 : Db jdk_33_method_47_code 1 (.ifCond .gt) 4 15 := db (14) (by decide +kernel) rfl (by decide) (by decide)
theorem D33_47_4 : Dc jdk_33_method_47_code 4 (.iload_n 0) 1 5 := dc (by decide +kernel) rfl
theorem D33_47_5 : Db jdk_33_method_47_code 5 (.ifCond .ne) 8 13 := db (8) (by decide +kernel) rfl (by decide) (by decide)
theorem D33_47_8 : Dc jdk_33_method_47_code 8 (.bipush 32) 2 10 := dc (by decide +kernel) rfl
theorem D33_47_10 : Db jdk_33_method_47_code 10 (.goto) 13 14 := db (4) (by decide +kernel) rfl (by decide) (by decide)
theorem D33_47_13 : Dc jdk_33_method_47_code 13 (.iconst 0) 1 14 := dc (by decide +kernel) rfl
theorem D33_47_14 : Dc jdk_33_method_47_code 14 (.ireturn) 1 15 := dc (by decide +kernel) rfl
theorem D33_47_15 : Dc jdk_33_method_47_code 15 (.bipush 31) 2 17 := dc (by decide +kernel) rfl
theorem D33_47_17 : Dc jdk_33_method_47_code 17 (.istore_n 1) 1 18 := dc (by decide +kernel) rfl
theorem D33_47_18 : Dc jdk_33_method_47_code 18 (.iload_n 0) 1 19 := dc (by decide +kernel) rfl
theorem D33_47_19 : Dc jdk_33_method_47_code 19 (.ldc_w 264) 3 22 := dc (by decide +kernel) rfl
theorem D33_47_22 : Db jdk_33_method_47_code 22 (.if_icmp .lt) 25 33 := db (11) (by decide +kernel) rfl (by decide) (by decide)
theorem D33_47_25 : Dc jdk_33_method_47_code 25 (.iinc 1 (-16)) 3 28 := dc (by decide +kernel) rfl
theorem D33_47_28 : Dc jdk_33_method_47_code 28 (.iload_n 0) 1 29 := dc (by decide +kernel) rfl
theorem D33_47_29 : Dc jdk_33_method_47_code 29 (.bipush 16) 2 31 := dc (by decide +kernel) rfl
theorem D33_47_31 : Dc jdk_33_method_47_code 31 (.iushr) 1 32 := dc (by decide +kernel) rfl
theorem D33_47_32 : Dc jdk_33_method_47_code 32 (.istore_n 0) 1 33 := dc (by decide +kernel) rfl
theorem D33_47_33 : Dc jdk_33_method_47_code 33 (.iload_n 0) 1 34 := dc (by decide +kernel) rfl
theorem D33_47_34 : Dc jdk_33_method_47_code 34 (.sipush 256) 3 37 := dc (by decide +kernel) rfl
theorem D33_47_37 : Db jdk_33_method_47_code 37 (.if_icmp .lt) 40 48 := db (11) (by decide +kernel) rfl (by decide) (by decide)
theorem D33_47_40 : Dc jdk_33_method_47_code 40 (.iinc 1 (-8)) 3 43 := dc (by decide +kernel) rfl
theorem D33_47_43 : Dc jdk_33_method_47_code 43 (.iload_n 0) 1 44 := dc (by decide +kernel) rfl
theorem D33_47_44 : Dc jdk_33_method_47_code 44 (.bipush 8) 2 46 := dc (by decide +kernel) rfl
theorem D33_47_46 : Dc jdk_33_method_47_code 46 (.iushr) 1 47 := dc (by decide +kernel) rfl
theorem D33_47_47 : Dc jdk_33_method_47_code 47 (.istore_n 0) 1 48 := dc (by decide +kernel) rfl
theorem D33_47_48 : Dc jdk_33_method_47_code 48 (.iload_n 0) 1 49 := dc (by decide +kernel) rfl
theorem D33_47_49 : Dc jdk_33_method_47_code 49 (.bipush 16) 2 51 := dc (by decide +kernel) rfl
theorem D33_47_51 : Db jdk_33_method_47_code 51 (.if_icmp .lt) 54 61 := db (10) (by decide +kernel) rfl (by decide) (by decide)
theorem D33_47_54 : Dc jdk_33_method_47_code 54 (.iinc 1 (-4)) 3 57 := dc (by decide +kernel) rfl
theorem D33_47_57 : Dc jdk_33_method_47_code 57 (.iload_n 0) 1 58 := dc (by decide +kernel) rfl
theorem D33_47_58 : Dc jdk_33_method_47_code 58 (.iconst 4) 1 59 := dc (by decide +kernel) rfl
theorem D33_47_59 : Dc jdk_33_method_47_code 59 (.iushr) 1 60 := dc (by decide +kernel) rfl
theorem D33_47_60 : Dc jdk_33_method_47_code 60 (.istore_n 0) 1 61 := dc (by decide +kernel) rfl
theorem D33_47_61 : Dc jdk_33_method_47_code 61 (.iload_n 0) 1 62 := dc (by decide +kernel) rfl
theorem D33_47_62 : Dc jdk_33_method_47_code 62 (.iconst 4) 1 63 := dc (by decide +kernel) rfl
theorem D33_47_63 : Db jdk_33_method_47_code 63 (.if_icmp .lt) 66 73 := db (10) (by decide +kernel) rfl (by decide) (by decide)
theorem D33_47_66 : Dc jdk_33_method_47_code 66 (.iinc 1 (-2)) 3 69 := dc (by decide +kernel) rfl
theorem D33_47_69 : Dc jdk_33_method_47_code 69 (.iload_n 0) 1 70 := dc (by decide +kernel) rfl
theorem D33_47_70 : Dc jdk_33_method_47_code 70 (.iconst 2) 1 71 := dc (by decide +kernel) rfl
theorem D33_47_71 : Dc jdk_33_method_47_code 71 (.iushr) 1 72 := dc (by decide +kernel) rfl
theorem D33_47_72 : Dc jdk_33_method_47_code 72 (.istore_n 0) 1 73 := dc (by decide +kernel) rfl
theorem D33_47_73 : Dc jdk_33_method_47_code 73 (.iload_n 1) 1 74 := dc (by decide +kernel) rfl
theorem D33_47_74 : Dc jdk_33_method_47_code 74 (.iload_n 0) 1 75 := dc (by decide +kernel) rfl
theorem D33_47_75 : Dc jdk_33_method_47_code 75 (.iconst 1) 1 76 := dc (by decide +kernel) rfl
theorem D33_47_76 : Dc jdk_33_method_47_code 76 (.iushr) 1 77 := dc (by decide +kernel) rfl
theorem D33_47_77 : Dc jdk_33_method_47_code 77 (.isub) 1 78 := dc (by decide +kernel) rfl
theorem D33_47_78 : Dc jdk_33_method_47_code 78 (.ireturn) 1 79 := dc (by decide +kernel) rfl
theorem pf_nlz : plainFor (⟨"java/lang/Integer", "numberOfLeadingZeros", "(I)I"⟩ : MethodName) = true := by decide +kernel
set_option maxRecDepth 65536 in
set_option maxHeartbeats 40000000 in
theorem ct_nlz (l : Launch) (Z : State) (a0 : Array Value) (hw : ∀ d ∈ tables_1, d.before a0 Z = true) (n0 : Nat) (h : Heap) (y : Int32) :
    Ct l Z n0 (⟨"java/lang/Integer", "numberOfLeadingZeros", "(I)I"⟩ : MethodName) jdk_33_method_47_code 2 (some .int) ({ frames := 0, cells := 0, slots := 0, locals := 0 } : Room) [.int y] h (fun v h' => v = some (.int (nlzF y)) ∧ h = h') := by
  refine Ct.intro pf_nlz [.val (.int y), .unset] (fun m => by first | (simp [entryFrame, mkF, argsToLocals, Value.category]; done) | (simp [entryFrame, mkF, argsToLocals, Value.category, maxLocals]; done) | rfl) ?_
  intro k hl K
  replace K : Ok k Z n0 "java/lang/Integer" ({ frames := 0, cells := 0, slots := 0, locals := 0 } : Room) jdk_33_method_47_code 2 (some .int) "numberOfLeadingZeros" := K
  have j73 : ∀ x n : Int32, f73 x n = nlzF y → G k n0 (fun v h' => v = some (.int (nlzF y)) ∧ h = h') h 0 0 73 [.val (.int x), .val (.int n)] [] := by
    intro x n hx
    refine G.iloadN K D33_47_73 rfl ?_
    refine G.iloadN K D33_47_74 rfl ?_
    refine G.iconst K D33_47_75 1 rfl ?_
    refine G.iushr K D33_47_76 ?_
    refine G.isub K D33_47_77 ?_
    refine G.ret_int K D33_47_78 ?_
    exact ⟨by rw [← hx, f73], rfl⟩
  have j61 : ∀ x n : Int32, f61 x n = nlzF y → G k n0 (fun v h' => v = some (.int (nlzF y)) ∧ h = h') h 0 0 61 [.val (.int x), .val (.int n)] [] := by
    intro x n hx
    refine G.iloadN K D33_47_61 rfl ?_
    refine G.iconst K D33_47_62 4 rfl ?_
    refine G.icmp_lt K D33_47_63 (fun q113 => ?_) (fun q113 => ?_)
    · exact j73 _ _ (by rw [← hx, f61, if_pos q113])
    · refine G.iinc K D33_47_66 (-2) rfl rfl ([.val (.int x), .val (.int (n + (-2)))]) rfl ?_
      refine G.iloadN K D33_47_69 rfl ?_
      refine G.iconst K D33_47_70 2 rfl ?_
      refine G.iushr K D33_47_71 ?_
      refine G.istoreN K D33_47_72 ([.val (.int (XT.ushr x (2 : Int32))), .val (.int (n + (-2)))]) rfl ?_
      exact j73 _ _ (by rw [← hx, f61, if_neg q113])
  have j48 : ∀ x n : Int32, f48 x n = nlzF y → G k n0 (fun v h' => v = some (.int (nlzF y)) ∧ h = h') h 0 0 48 [.val (.int x), .val (.int n)] [] := by
    intro x n hx
    refine G.iloadN K D33_47_48 rfl ?_
    refine G.bipush K D33_47_49 16 rfl ?_
    refine G.icmp_lt K D33_47_51 (fun q114 => ?_) (fun q114 => ?_)
    · exact j61 _ _ (by rw [← hx, f48, if_pos q114])
    · refine G.iinc K D33_47_54 (-4) rfl rfl ([.val (.int x), .val (.int (n + (-4)))]) rfl ?_
      refine G.iloadN K D33_47_57 rfl ?_
      refine G.iconst K D33_47_58 4 rfl ?_
      refine G.iushr K D33_47_59 ?_
      refine G.istoreN K D33_47_60 ([.val (.int (XT.ushr x (4 : Int32))), .val (.int (n + (-4)))]) rfl ?_
      exact j61 _ _ (by rw [← hx, f48, if_neg q114])
  have j33 : ∀ x n : Int32, f33 x n = nlzF y → G k n0 (fun v h' => v = some (.int (nlzF y)) ∧ h = h') h 0 0 33 [.val (.int x), .val (.int n)] [] := by
    intro x n hx
    refine G.iloadN K D33_47_33 rfl ?_
    refine G.sipush K D33_47_34 256 rfl ?_
    refine G.icmp_lt K D33_47_37 (fun q115 => ?_) (fun q115 => ?_)
    · exact j48 _ _ (by rw [← hx, f33, if_pos q115])
    · refine G.iinc K D33_47_40 (-8) rfl rfl ([.val (.int x), .val (.int (n + (-8)))]) rfl ?_
      refine G.iloadN K D33_47_43 rfl ?_
      refine G.bipush K D33_47_44 8 rfl ?_
      refine G.iushr K D33_47_46 ?_
      refine G.istoreN K D33_47_47 ([.val (.int (XT.ushr x (8 : Int32))), .val (.int (n + (-8)))]) rfl ?_
      exact j48 _ _ (by rw [← hx, f33, if_neg q115])
  have j18 : ∀ x n : Int32, f18 x n = nlzF y → G k n0 (fun v h' => v = some (.int (nlzF y)) ∧ h = h') h 0 0 18 [.val (.int x), .val (.int n)] [] := by
    intro x n hx
    refine G.iloadN K D33_47_18 rfl ?_
    refine G.ldcWI K D33_47_19 (wd hw 75 rfl) ?_
    refine G.icmp_lt K D33_47_22 (fun q116 => ?_) (fun q116 => ?_)
    · exact j33 _ _ (by rw [← hx, f18, if_pos q116])
    · refine G.iinc K D33_47_25 (-16) rfl rfl ([.val (.int x), .val (.int (n + (-16)))]) rfl ?_
      refine G.iloadN K D33_47_28 rfl ?_
      refine G.bipush K D33_47_29 16 rfl ?_
      refine G.iushr K D33_47_31 ?_
      refine G.istoreN K D33_47_32 ([.val (.int (XT.ushr x (16 : Int32))), .val (.int (n + (-16)))]) rfl ?_
      exact j33 _ _ (by rw [← hx, f18, if_neg q116])
  refine G.iloadN K D33_47_0 rfl ?_
  refine G.if_gt K D33_47_1 (fun q117 => ?_) (fun q117 => ?_)
  · refine G.bipush K D33_47_15 31 rfl ?_
    refine G.istoreN K D33_47_17 ([.val (.int y), .val (.int 31)]) rfl ?_
    exact j18 _ _ (by rw [nlzF, if_pos q117])
  · refine G.iloadN K D33_47_4 rfl ?_
    refine G.if_ne K D33_47_5 (fun q118 => ?_) (fun q118 => ?_)
    · refine G.iconst K D33_47_13 0 rfl ?_
      refine G.ret_int K D33_47_14 ?_
      exact ⟨by simp [nlzF, q117, q118], rfl⟩
    · refine G.bipush K D33_47_8 32 rfl ?_
      refine G.goto K D33_47_10 ?_
      refine G.ret_int K D33_47_14 ?_
      exact ⟨by simp [nlzF, q117, q118], rfl⟩
theorem D29_69_0 : Dc jdk_29_method_69_code 0 (.iload_n 0) 1 1 := dc (by decide +kernel) rfl
theorem D29_69_1 : Dc jdk_29_method_69_code 1 (.iload_n 1) 1 2 := dc (by decide +kernel) rfl
theorem D29_69_2 : Db jdk_29_method_69_code 2 (.if_icmp .gt) 5 9 := db (7) (by decide +kernel) rfl (by decide) (by decide)
theorem D29_69_5 : Dc jdk_29_method_69_code 5 (.iload_n 0) 1 6 := dc (by decide +kernel) rfl
theorem D29_69_6 : Db jdk_29_method_69_code 6 (.goto) 9 10 := db (4) (by decide +kernel) rfl (by decide) (by decide)
theorem D29_69_9 : Dc jdk_29_method_69_code 9 (.iload_n 1) 1 10 := dc (by decide +kernel) rfl
theorem D29_69_10 : Dc jdk_29_method_69_code 10 (.ireturn) 1 11 := dc (by decide +kernel) rfl
set_option maxRecDepth 65536 in
set_option maxHeartbeats 40000000 in
theorem ct_minI (l : Launch) (Z : State) (a0 : Array Value) (hw : ∀ d ∈ tables_1, d.before a0 Z = true) (n0 : Nat) (h : Heap) (y z : Int32) :
    Ct l Z n0 (⟨"java/lang/Math", "min", "(II)I"⟩ : MethodName) jdk_29_method_69_code 2 (some .int) ({ frames := 0, cells := 0, slots := 0, locals := 0 } : Room) [.int y, .int z] h (fun v h' => v = some (.int (if z < y then z else y)) ∧ h = h') := by
  refine Ct.intro (Jvm.Free.JP.mathPlain rfl (by decide +kernel)) [.val (.int y), .val (.int z)] (fun m => by first | (simp [entryFrame, mkF, argsToLocals, Value.category]; done) | (simp [entryFrame, mkF, argsToLocals, Value.category, maxLocals]; done) | rfl) ?_
  intro k hl K
  replace K : Ok k Z n0 "java/lang/Math" ({ frames := 0, cells := 0, slots := 0, locals := 0 } : Room) jdk_29_method_69_code 2 (some .int) "min" := K
  refine G.iloadN K D29_69_0 rfl ?_
  refine G.iloadN K D29_69_1 rfl ?_
  refine G.icmp_gt K D29_69_2 (fun q119 => ?_) (fun q119 => ?_)
  · refine G.iloadN K D29_69_9 rfl ?_
    refine G.ret_int K D29_69_10 ?_
    exact ⟨by simp [q119], rfl⟩
  · refine G.iloadN K D29_69_5 rfl ?_
    refine G.goto K D29_69_6 ?_
    refine G.ret_int K D29_69_10 ?_
    exact ⟨by simp [q119], rfl⟩
theorem D98_9_0 : Dc prog_98_method_9_code 0 (.aload_n 0) 1 1 := dc (by decide +kernel) rfl
theorem D98_9_1 : Dc prog_98_method_9_code 1 (.getfield 43) 3 4 := dc (by decide +kernel) rfl
theorem D98_9_4 : Dc prog_98_method_9_code 4 (.astore_n 3) 1 5 := dc (by decide +kernel) rfl
theorem D98_9_5 : Dc prog_98_method_9_code 5 (.aload_n 0) 1 6 := dc (by decide +kernel) rfl
theorem D98_9_6 : Dc prog_98_method_9_code 6 (.getfield 29) 3 9 := dc (by decide +kernel) rfl
theorem D98_9_9 : Dc prog_98_method_9_code 9 (.iload_n 1) 1 10 := dc (by decide +kernel) rfl
theorem D98_9_10 : Dc prog_98_method_9_code 10 (.bipush 32) 2 12 := dc (by decide +kernel) rfl
theorem D98_9_12 : Dc prog_98_method_9_code 12 (.bipush 32) 2 14 := dc (by decide +kernel) rfl
theorem D98_9_14 : Dc prog_98_method_9_code 14 (.iload_n 2) 1 15 := dc (by decide +kernel) rfl
theorem D98_9_15 : Dc prog_98_method_9_code 15 (.invokestatic 132) 3 18 := dc (by decide +kernel) rfl
theorem D98_9_18 : Dc prog_98_method_9_code 18 (.isub) 1 19 := dc (by decide +kernel) rfl
theorem D98_9_19 : Dc prog_98_method_9_code 19 (.iconst 1) 1 20 := dc (by decide +kernel) rfl
theorem D98_9_20 : Dc prog_98_method_9_code 20 (.iadd) 1 21 := dc (by decide +kernel) rfl
theorem D98_9_21 : Dc prog_98_method_9_code 21 (.invokestatic 136) 3 24 := dc (by decide +kernel) rfl
theorem D98_9_24 : Dc prog_98_method_9_code 24 (.iastore) 1 25 := dc (by decide +kernel) rfl
theorem D98_9_25 : Dc prog_98_method_9_code 25 (.aload_n 0) 1 26 := dc (by decide +kernel) rfl
theorem D98_9_26 : Dc prog_98_method_9_code 26 (.new 38) 3 29 := dc (by decide +kernel) rfl
theorem D98_9_29 : Dc prog_98_method_9_code 29 (.dup) 1 30 := dc (by decide +kernel) rfl
theorem D98_9_30 : Dc prog_98_method_9_code 30 (.aload_n 0) 1 31 := dc (by decide +kernel) rfl
theorem D98_9_31 : Dc prog_98_method_9_code 31 (.getfield 29) 3 34 := dc (by decide +kernel) rfl
theorem D98_9_34 : Dc prog_98_method_9_code 34 (.invokespecial 40) 3 37 := dc (by decide +kernel) rfl
theorem D98_9_37 : Dc prog_98_method_9_code 37 (.putfield 43) 3 40 := dc (by decide +kernel) rfl
theorem D98_9_40 : Dc prog_98_method_9_code 40 (.aload_n 0) 1 41 := dc (by decide +kernel) rfl
theorem D98_9_41 : Dc prog_98_method_9_code 41 (.aload_n 0) 1 42 := dc (by decide +kernel) rfl
theorem D98_9_42 : Dc prog_98_method_9_code 42 (.aload_n 0) 1 43 := dc (by decide +kernel) rfl
theorem D98_9_43 : Dc prog_98_method_9_code 43 (.getfield 50) 3 46 := dc (by decide +kernel) rfl
theorem D98_9_46 : Dc prog_98_method_9_code 46 (.aload_n 0) 1 47 := dc (by decide +kernel) rfl
theorem D98_9_47 : Dc prog_98_method_9_code 47 (.getfield 118) 3 50 := dc (by decide +kernel) rfl
theorem D98_9_50 : Dc prog_98_method_9_code 50 (.aload_n 3) 1 51 := dc (by decide +kernel) rfl
theorem D98_9_51 : Dc prog_98_method_9_code 51 (.aload_n 0) 1 52 := dc (by decide +kernel) rfl
theorem D98_9_52 : Dc prog_98_method_9_code 52 (.ldc2_w 139) 3 55 := dc (by decide +kernel) rfl
theorem D98_9_55 : Dc prog_98_method_9_code 55 (.aload_n 0) 1 56 := dc (by decide +kernel) rfl
theorem D98_9_56 : Dc prog_98_method_9_code 56 (.getfield 118) 3 59 := dc (by decide +kernel) rfl
theorem D98_9_59 : Dc prog_98_method_9_code 59 (.invokevirtual 125) 3 62 := dc (by decide +kernel) rfl
theorem D98_9_62 : Dc prog_98_method_9_code 62 (.invokevirtual 141) 3 65 := dc (by decide +kernel) rfl
theorem D98_9_65 : Dc prog_98_method_9_code 65 (.putfield 50) 3 68 := dc (by decide +kernel) rfl
theorem D98_9_68 : Dc prog_98_method_9_code 68 (.aload_n 0) 1 69 := dc (by decide +kernel) rfl
theorem D98_9_69 : Dc prog_98_method_9_code 69 (.aload_n 0) 1 70 := dc (by decide +kernel) rfl
theorem D98_9_70 : Dc prog_98_method_9_code 70 (.aload_n 0) 1 71 := dc (by decide +kernel) rfl
theorem D98_9_71 : Dc prog_98_method_9_code 71 (.getfield 53) 3 74 := dc (by decide +kernel) rfl
theorem D98_9_74 : Dc prog_98_method_9_code 74 (.iconst 1) 1 75 := dc (by decide +kernel) rfl
theorem D98_9_75 : Dc prog_98_method_9_code 75 (.aload_n 3) 1 76 := dc (by decide +kernel) rfl
theorem D98_9_76 : Dc prog_98_method_9_code 76 (.aload_n 0) 1 77 := dc (by decide +kernel) rfl
theorem D98_9_77 : Dc prog_98_method_9_code 77 (.getfield 43) 3 80 := dc (by decide +kernel) rfl
theorem D98_9_80 : Dc prog_98_method_9_code 80 (.getfield 47) 3 83 := dc (by decide +kernel) rfl
theorem D98_9_83 : Dc prog_98_method_9_code 83 (.invokevirtual 141) 3 86 := dc (by decide +kernel) rfl
theorem D98_9_86 : Dc prog_98_method_9_code 86 (.putfield 53) 3 89 := dc (by decide +kernel) rfl
theorem D98_9_89 : Dc prog_98_method_9_code 89 (.aload_n 0) 1 90 := dc (by decide +kernel) rfl
theorem D98_9_90 : Dc prog_98_method_9_code 90 (.aload_n 0) 1 91 := dc (by decide +kernel) rfl
theorem D98_9_91 : Dc prog_98_method_9_code 91 (.aload_n 0) 1 92 := dc (by decide +kernel) rfl
theorem D98_9_92 : Dc prog_98_method_9_code 92 (.getfield 19) 3 95 := dc (by decide +kernel) rfl
theorem D98_9_95 : Dc prog_98_method_9_code 95 (.aload_n 0) 1 96 := dc (by decide +kernel) rfl
theorem D98_9_96 : Dc prog_98_method_9_code 96 (.getfield 94) 3 99 := dc (by decide +kernel) rfl
theorem D98_9_99 : Dc prog_98_method_9_code 99 (.aload_n 3) 1 100 := dc (by decide +kernel) rfl
theorem D98_9_100 : Dc prog_98_method_9_code 100 (.aload_n 0) 1 101 := dc (by decide +kernel) rfl
theorem D98_9_101 : Dc prog_98_method_9_code 101 (.getfield 94) 3 104 := dc (by decide +kernel) rfl
theorem D98_9_104 : Dc prog_98_method_9_code 104 (.aload_n 0) 1 105 := dc (by decide +kernel) rfl
theorem D98_9_105 : Dc prog_98_method_9_code 105 (.getfield 43) 3 108 := dc (by decide +kernel) rfl
theorem D98_9_108 : Dc prog_98_method_9_code 108 (.getfield 47) 3 111 := dc (by decide +kernel) rfl
theorem D98_9_111 : Dc prog_98_method_9_code 111 (.imul) 1 112 := dc (by decide +kernel) rfl
theorem D98_9_112 : Dc prog_98_method_9_code 112 (.invokevirtual 141) 3 115 := dc (by decide +kernel) rfl
theorem D98_9_115 : Dc prog_98_method_9_code 115 (.putfield 19) 3 118 := dc (by decide +kernel) rfl
theorem D98_9_118 : Dc prog_98_method_9_code 118 (.iconst 0) 1 119 := dc (by decide +kernel) rfl
theorem D98_9_119 : Dc prog_98_method_9_code 119 (.istore 4) 2 121 := dc (by decide +kernel) rfl
theorem D98_9_121 : Dc prog_98_method_9_code 121 (.iload 4) 2 123 := dc (by decide +kernel) rfl
theorem D98_9_123 : Dc prog_98_method_9_code 123 (.aload_n 0) 1 124 := dc (by decide +kernel) rfl
theorem D98_9_124 : Dc prog_98_method_9_code 124 (.getfield 94) 3 127 := dc (by decide +kernel) rfl
theorem D98_9_127 : Db prog_98_method_9_code 127 (.if_icmp .ge) 130 167 := db (40) (by decide +kernel) rfl (by decide) (by decide)
theorem D98_9_130 : Dc prog_98_method_9_code 130 (.aload_n 0) 1 131 := dc (by decide +kernel) rfl
theorem D98_9_131 : Dc prog_98_method_9_code 131 (.getfield 23) 3 134 := dc (by decide +kernel) rfl
theorem D98_9_134 : Dc prog_98_method_9_code 134 (.iload 4) 2 136 := dc (by decide +kernel) rfl
theorem D98_9_136 : Dc prog_98_method_9_code 136 (.aload_n 0) 1 137 := dc (by decide +kernel) rfl
theorem D98_9_137 : Dc prog_98_method_9_code 137 (.getfield 19) 3 140 := dc (by decide +kernel) rfl
theorem D98_9_140 : Dc prog_98_method_9_code 140 (.iload 4) 2 142 := dc (by decide +kernel) rfl
theorem D98_9_142 : Dc prog_98_method_9_code 142 (.aload_n 0) 1 143 := dc (by decide +kernel) rfl
theorem D98_9_143 : Dc prog_98_method_9_code 143 (.getfield 43) 3 146 := dc (by decide +kernel) rfl
theorem D98_9_146 : Dc prog_98_method_9_code 146 (.getfield 47) 3 149 := dc (by decide +kernel) rfl
theorem D98_9_149 : Dc prog_98_method_9_code 149 (.imul) 1 150 := dc (by decide +kernel) rfl
theorem D98_9_150 : Dc prog_98_method_9_code 150 (.aload_n 0) 1 151 := dc (by decide +kernel) rfl
theorem D98_9_151 : Dc prog_98_method_9_code 151 (.getfield 43) 3 154 := dc (by decide +kernel) rfl
theorem D98_9_154 : Dc prog_98_method_9_code 154 (.getfield 47) 3 157 := dc (by decide +kernel) rfl
theorem D98_9_157 : Dc prog_98_method_9_code 157 (.invokestatic 63) 3 160 := dc (by decide +kernel) rfl
theorem D98_9_160 : Dc prog_98_method_9_code 160 (.iastore) 1 161 := dc (by decide +kernel) rfl
theorem D98_9_161 : Dc prog_98_method_9_code 161 (.iinc 4 1) 3 164 := dc (by decide +kernel) rfl
theorem D98_9_164 : Db prog_98_method_9_code 164 (.goto) 167 121 := db (-43) (by decide +kernel) rfl (by decide) (by decide)
theorem D98_9_167 : Dc prog_98_method_9_code 167 (.aload_n 0) 1 168 := dc (by decide +kernel) rfl
theorem D98_9_168 : Dc prog_98_method_9_code 168 (.aload_n 0) 1 169 := dc (by decide +kernel) rfl
theorem D98_9_169 : Dc prog_98_method_9_code 169 (.getfield 9) 3 172 := dc (by decide +kernel) rfl
theorem D98_9_172 : Dc prog_98_method_9_code 172 (.arraylength) 1 173 := dc (by decide +kernel) rfl
theorem D98_9_173 : Dc prog_98_method_9_code 173 (.invokevirtual 129) 3 176 := dc (by decide +kernel) rfl
theorem D98_9_176 : Dc prog_98_method_9_code 176 (.return_) 1 177 := dc (by decide +kernel) rfl
set_option maxRecDepth 65536 in
set_option maxHeartbeats 40000000 in
theorem ct_widen (l : Launch) (Z : State) (a0 : Array Value) (hw : ∀ d ∈ tables_1, d.before a0 Z = true) (n0 : Nat) (h : Heap) (a xa ly va sl ed sg sh ss wa sa la : Addr) (t : Bool) (w : Nat → Nat) (n : Nat) (vals : Nat → Nat → Nat) (e : Nat → Nat) (VF : Nat → Int64) (SL : Nat → Nat) (EF : Nat → Int64) (ef : Int32) (p x : Nat) (σ : List Ch) (C : Good 3 t w n vals e VF SL EF) (hn : n ≤ 3) (hp : p < 3) (hx : 2 ^ w p ≤ x) (hx31 : x < 2147483648) (H : Hp n0 h ((a, Ob Z CSn NSS [.ref xa, .ref ly, .ref va, .ref sl, .int (Int32.ofNat n), .ref ed, .int ef, .ref sg, .ref sh, .ref ss, .int 0]) :: (ly, Ob Z CYn NSY [.ref wa, .ref sa, .ref la, .int (Int32.ofNat (wcn t))]) :: (wa, Ia Z (lst 3 (fun i => Int32.ofNat (wdp t i)))) :: (sa, Ia Z (lst 3 (fun i => Int32.ofNat (shp t w i)))) :: (la, La Z (lst 3 (fun i => EE (2 ^ w i)))) :: (xa, Ia Z (lst 3 (fun i => Int32.ofNat (w i)))) :: (va, La Z (lst 16 VF)) :: (sl, Ia Z (lst 32 (fun s => Int32.ofNat (SL s)))) :: (ed, La Z (lst (wcn t) EF)) :: (sg, La Z []) :: σ)) :
    Ct l Z n0 (⟨"com/example/divergence/divergence/engine/StateStore", "widen", "(II)V"⟩ : MethodName) prog_98_method_9_code 5 none ({ frames := 4, cells := 11, slots := 102, locals := 120 } : Room) [.ref a, .int (Int32.ofNat p), .int (Int32.ofNat x)] h (fun v h' => ∃ (ly va sl ed sg wa sa la : Addr) (t : Bool) (w : Nat → Nat) (VF : Nat → Int64) (SL : Nat → Nat) (EF : Nat → Int64), v = none ∧ Good 3 t w n vals e VF SL EF ∧ x < 2 ^ w p ∧ Hp n0 h' ((a, Ob Z CSn NSS [.ref xa, .ref ly, .ref va, .ref sl, .int (Int32.ofNat n), .ref ed, .int ef, .ref sg, .ref sh, .ref ss, .int 0]) :: (ly, Ob Z CYn NSY [.ref wa, .ref sa, .ref la, .int (Int32.ofNat (wcn t))]) :: (wa, Ia Z (lst 3 (fun i => Int32.ofNat (wdp t i)))) :: (sa, Ia Z (lst 3 (fun i => Int32.ofNat (shp t w i)))) :: (la, La Z (lst 3 (fun i => EE (2 ^ w i)))) :: (xa, Ia Z (lst 3 (fun i => Int32.ofNat (w i)))) :: (va, La Z (lst 16 VF)) :: (sl, Ia Z (lst 32 (fun s => Int32.ofNat (SL s)))) :: (ed, La Z (lst (wcn t) EF)) :: (sg, La Z []) :: σ)) := by
  refine Ct.intro (plainFor_of_name pn_0) [.val (.ref a), .val (.int (Int32.ofNat p)), .val (.int (Int32.ofNat x)), .unset, .unset] (fun m => by first | (simp [entryFrame, mkF, argsToLocals, Value.category]; done) | (simp [entryFrame, mkF, argsToLocals, Value.category, maxLocals]; done) | rfl) ?_
  intro k hl K
  replace K : Ok k Z n0 "com/example/divergence/divergence/engine/StateStore" ({ frames := 4, cells := 11, slots := 102, locals := 120 } : Room) prog_98_method_9_code 5 none "widen" := K
  obtain ⟨W, hW2, hW32, hW, hxW, hWu⟩ := wid_spec (Nat.lt_of_lt_of_le (Nat.two_pow_pos _) hx) hx31
  have hwW : w p ≤ W := hWu _ hx
  obtain ⟨hw3, hw1', hw2'⟩ := C.wid hp hwW hW32
  refine G.aloadN K D98_9_0 rfl rfl ?_
  refine G.getF K (host := "") (Or.inl (wd hw 43 rfl)) H (i := 0) rfl (j := 1) rfl rfl D98_9_1 ?_
  refine G.astoreN K D98_9_4 rfl ([.val (.ref a), .val (.int (Int32.ofNat p)), .val (.int (Int32.ofNat x)), .val (.ref ly), .unset]) rfl ?_
  refine G.aloadN K D98_9_5 rfl rfl ?_
  refine G.getF K (host := "") (Or.inl (wd hw 22 rfl)) H (i := 0) rfl (j := 0) rfl rfl D98_9_6 ?_
  refine G.iloadN K D98_9_9 rfl ?_
  refine G.bipush K D98_9_10 32 rfl ?_
  refine G.bipush K D98_9_12 32 rfl ?_
  refine G.iloadN K D98_9_14 rfl ?_
  refine G.callS K hl (wd hw 71 rfl) (wd hw 72 rfl) (wd hw 73 rfl) (wd hw 74 rfl) (by decide) pd_7 (ct_nlz l Z a0 hw n0 _ (Int32.ofNat x)) 4 rfl (by decide) (by decide) (by decide) (by decide) rfl rfl [.int (Int32.ofNat x)] rfl D98_9_15 ?_
  rintro _ _ ⟨rfl, rfl⟩
  change G k n0 _ h _ _ 18 [.val (.ref a), .val (.int (Int32.ofNat p)), .val (.int (Int32.ofNat x)), .val (.ref ly), .unset] [.int (nlzF (Int32.ofNat x)), .int 32, .int 32, .int (Int32.ofNat p), .ref xa]
  refine G.isub K D98_9_18 ?_
  refine G.iconst K D98_9_19 1 rfl ?_
  refine G.iadd K D98_9_20 ?_
  rw [hW]
  refine G.callS K hl (wd hw 76 rfl) (wd hw 77 rfl) (wd hw 78 rfl) (wd hw 79 rfl) (by decide) pd_8 (ct_minI l Z a0 hw n0 _ 32 (Int32.ofNat W)) 2 rfl (by decide) (by decide) (by decide) (by decide) rfl rfl [.int (Int32.ofNat W), .int 32] rfl D98_9_21 ?_
  rintro _ _ ⟨rfl, rfl⟩
  rw [own_min32 hW32]
  change G k n0 _ h _ _ 24 [.val (.ref a), .val (.int (Int32.ofNat p)), .val (.int (Int32.ofNat x)), .val (.ref ly), .unset] [.int (Int32.ofNat W), .int (Int32.ofNat p), .ref xa]
  refine G.astore_i K H (i := 5) rfl (own_nneg (by omega)) (by rw [own_nidx (by omega), lst_len]; omega) D98_9_24 ?_
  intro h120 H120
  rw [own_nidx (by omega), lst_set _ (by omega), upv_fup w p W] at H120
  change Hp n0 h120 ((a, Ob Z CSn NSS [.ref xa, .ref ly, .ref va, .ref sl, .int (Int32.ofNat n), .ref ed, .int ef, .ref sg, .ref sh, .ref ss, .int 0]) :: (ly, Ob Z CYn NSY [.ref wa, .ref sa, .ref la, .int (Int32.ofNat (wcn t))]) :: (wa, Ia Z (lst 3 (fun i => Int32.ofNat (wdp t i)))) :: (sa, Ia Z (lst 3 (fun i => Int32.ofNat (shp t w i)))) :: (la, La Z (lst 3 (fun i => EE (2 ^ w i)))) :: (xa, Ia Z (lst 3 (fun i => Int32.ofNat ((upv w p W) i)))) :: (va, La Z (lst 16 VF)) :: (sl, Ia Z (lst 32 (fun s => Int32.ofNat (SL s)))) :: (ed, La Z (lst (wcn t) EF)) :: (sg, La Z []) :: σ) at H120
  refine G.aloadN K D98_9_25 rfl rfl ?_
  refine G.new K (wd hw 28 rfl) (wd hw 29 rfl) (wd hw 30 rfl) (cf_NSY hw) (vs := [.null, .null, .null, .int 0]) (by rfl) H120 (by decide) (by decide) D98_9_26 ?_
  intro a121 h122 H122
  change Hp n0 h122 ((a121, Ob Z CYn NSY [.null, .null, .null, .int 0]) :: (a, Ob Z CSn NSS [.ref xa, .ref ly, .ref va, .ref sl, .int (Int32.ofNat n), .ref ed, .int ef, .ref sg, .ref sh, .ref ss, .int 0]) :: (ly, Ob Z CYn NSY [.ref wa, .ref sa, .ref la, .int (Int32.ofNat (wcn t))]) :: (wa, Ia Z (lst 3 (fun i => Int32.ofNat (wdp t i)))) :: (sa, Ia Z (lst 3 (fun i => Int32.ofNat (shp t w i)))) :: (la, La Z (lst 3 (fun i => EE (2 ^ w i)))) :: (xa, Ia Z (lst 3 (fun i => Int32.ofNat ((upv w p W) i)))) :: (va, La Z (lst 16 VF)) :: (sl, Ia Z (lst 32 (fun s => Int32.ofNat (SL s)))) :: (ed, La Z (lst (wcn t) EF)) :: (sg, La Z []) :: σ) at H122
  refine G.dup K D98_9_29 rfl ?_
  refine G.aloadN K D98_9_30 rfl rfl ?_
  refine G.getF K (host := "") (Or.inl (wd hw 22 rfl)) H122 (i := 1) rfl (j := 0) rfl rfl D98_9_31 ?_
  have H123 : Hp n0 h122 ((xa, Ia Z (lst 3 (fun i => Int32.ofNat ((upv w p W) i)))) :: (a121, Ob Z CYn NSY [.null, .null, .null, .int 0]) :: (a, Ob Z CSn NSS [.ref xa, .ref ly, .ref va, .ref sl, .int (Int32.ofNat n), .ref ed, .int ef, .ref sg, .ref sh, .ref ss, .int 0]) :: (ly, Ob Z CYn NSY [.ref wa, .ref sa, .ref la, .int (Int32.ofNat (wcn t))]) :: (wa, Ia Z (lst 3 (fun i => Int32.ofNat (wdp t i)))) :: (sa, Ia Z (lst 3 (fun i => Int32.ofNat (shp t w i)))) :: (la, La Z (lst 3 (fun i => EE (2 ^ w i)))) :: (va, La Z (lst 16 VF)) :: (sl, Ia Z (lst 32 (fun s => Int32.ofNat (SL s)))) :: (ed, La Z (lst (wcn t) EF)) :: (sg, La Z []) :: σ) := H122.pull 6 rfl
  have H124 : Hp n0 h122 ((a121, Ob Z CYn NSY [.null, .null, .null, .int 0]) :: (xa, Ia Z (lst 3 (fun i => Int32.ofNat ((upv w p W) i)))) :: (a, Ob Z CSn NSS [.ref xa, .ref ly, .ref va, .ref sl, .int (Int32.ofNat n), .ref ed, .int ef, .ref sg, .ref sh, .ref ss, .int 0]) :: (ly, Ob Z CYn NSY [.ref wa, .ref sa, .ref la, .int (Int32.ofNat (wcn t))]) :: (wa, Ia Z (lst 3 (fun i => Int32.ofNat (wdp t i)))) :: (sa, Ia Z (lst 3 (fun i => Int32.ofNat (shp t w i)))) :: (la, La Z (lst 3 (fun i => EE (2 ^ w i)))) :: (va, La Z (lst 16 VF)) :: (sl, Ia Z (lst 32 (fun s => Int32.ofNat (SL s)))) :: (ed, La Z (lst (wcn t) EF)) :: (sg, La Z []) :: σ) := H123.pull 1 rfl
  refine G.callI K hl rfl (wd hw 31 rfl) (wd hw 32 rfl) (wd hw 30 rfl) (wd hw 33 rfl) (by decide) pd_9 (ct_layout l Z a0 hw n0 h122 a121 xa (upv w p W) ((a, Ob Z CSn NSS [.ref xa, .ref ly, .ref va, .ref sl, .int (Int32.ofNat n), .ref ed, .int ef, .ref sg, .ref sh, .ref ss, .int 0]) :: (ly, Ob Z CYn NSY [.ref wa, .ref sa, .ref la, .int (Int32.ofNat (wcn t))]) :: (wa, Ia Z (lst 3 (fun i => Int32.ofNat (wdp t i)))) :: (sa, Ia Z (lst 3 (fun i => Int32.ofNat (shp t w i)))) :: (la, La Z (lst 3 (fun i => EE (2 ^ w i)))) :: (va, La Z (lst 16 VF)) :: (sl, Ia Z (lst 32 (fun s => Int32.ofNat (SL s)))) :: (ed, La Z (lst (wcn t) EF)) :: (sg, La Z []) :: σ) (fun i hi => (hw3 i hi).2) trivial H124) 2 rfl (by decide) (by decide) (by decide) (by decide) rfl rfl [.ref xa] rfl D98_9_34 ?_
  rintro _ h125 ⟨t', wa', sa', la', rfl, hs, H125⟩
  have hcw := Nat.mul_le_mul hn (wcn_le t')
  have hcw0 := Nat.mul_le_mul hn (wcn_le t)
  have hc2 := wcn_le t'
  have hc0 := wcn_le t
  change G k n0 _ h125 _ _ 37 [.val (.ref a), .val (.int (Int32.ofNat p)), .val (.int (Int32.ofNat x)), .val (.ref ly), .unset] [.ref a121, .ref a]
  refine G.putF K (host := "") (Or.inl (wd hw 43 rfl)) (cf_NSS hw) (Or.inl (wd hw 44 rfl)) (wd hw 3 rfl) H125 (i := 5) rfl (j := 1) rfl rfl (ty := (.object "com/example/divergence/divergence/engine/StateStore$Layout")) (by decide) rfl rfl D98_9_37 ?_
  intro h126 H126
  change Hp n0 h126 ((a121, Ob Z CYn NSY [.ref wa', .ref sa', .ref la', .int (Int32.ofNat (wcn t'))]) :: (wa', Ia Z (lst 3 (fun i => Int32.ofNat (wdp t' i)))) :: (sa', Ia Z (lst 3 (fun i => Int32.ofNat (shp t' (upv w p W) i)))) :: (la', La Z (lst 3 (fun i => EE (2 ^ (upv w p W) i)))) :: (xa, Ia Z (lst 3 (fun i => Int32.ofNat ((upv w p W) i)))) :: (a, Ob Z CSn NSS [.ref xa, .ref a121, .ref va, .ref sl, .int (Int32.ofNat n), .ref ed, .int ef, .ref sg, .ref sh, .ref ss, .int 0]) :: (ly, Ob Z CYn NSY [.ref wa, .ref sa, .ref la, .int (Int32.ofNat (wcn t))]) :: (wa, Ia Z (lst 3 (fun i => Int32.ofNat (wdp t i)))) :: (sa, Ia Z (lst 3 (fun i => Int32.ofNat (shp t w i)))) :: (la, La Z (lst 3 (fun i => EE (2 ^ w i)))) :: (va, La Z (lst 16 VF)) :: (sl, Ia Z (lst 32 (fun s => Int32.ofNat (SL s)))) :: (ed, La Z (lst (wcn t) EF)) :: (sg, La Z []) :: σ) at H126
  refine G.aloadN K D98_9_40 rfl rfl ?_
  refine G.aloadN K D98_9_41 rfl rfl ?_
  refine G.aloadN K D98_9_42 rfl rfl ?_
  refine G.getF K (host := "") (Or.inl (wd hw 46 rfl)) H126 (i := 5) rfl (j := 2) rfl rfl D98_9_43 ?_
  refine G.aloadN K D98_9_46 rfl rfl ?_
  refine G.getF K (host := "") (Or.inl (wd hw 80 rfl)) H126 (i := 5) rfl (j := 4) rfl rfl D98_9_47 ?_
  refine G.aloadN K D98_9_50 rfl rfl ?_
  refine G.aloadN K D98_9_51 rfl rfl ?_
  refine G.ldc2J K D98_9_52 (wd hw 82 rfl) ?_
  refine G.aloadN K D98_9_55 rfl rfl ?_
  refine G.getF K (host := "") (Or.inl (wd hw 80 rfl)) H126 (i := 5) rfl (j := 4) rfl rfl D98_9_56 ?_
  have H127 : Hp n0 h126 ((a, Ob Z CSn NSS [.ref xa, .ref a121, .ref va, .ref sl, .int (Int32.ofNat n), .ref ed, .int ef, .ref sg, .ref sh, .ref ss, .int 0]) :: (a121, Ob Z CYn NSY [.ref wa', .ref sa', .ref la', .int (Int32.ofNat (wcn t'))]) :: (wa', Ia Z (lst 3 (fun i => Int32.ofNat (wdp t' i)))) :: (sa', Ia Z (lst 3 (fun i => Int32.ofNat (shp t' (upv w p W) i)))) :: (la', La Z (lst 3 (fun i => EE (2 ^ (upv w p W) i)))) :: (xa, Ia Z (lst 3 (fun i => Int32.ofNat ((upv w p W) i)))) :: (ly, Ob Z CYn NSY [.ref wa, .ref sa, .ref la, .int (Int32.ofNat (wcn t))]) :: (wa, Ia Z (lst 3 (fun i => Int32.ofNat (wdp t i)))) :: (sa, Ia Z (lst 3 (fun i => Int32.ofNat (shp t w i)))) :: (la, La Z (lst 3 (fun i => EE (2 ^ w i)))) :: (va, La Z (lst 16 VF)) :: (sl, Ia Z (lst 32 (fun s => Int32.ofNat (SL s)))) :: (ed, La Z (lst (wcn t) EF)) :: (sg, La Z []) :: σ) := H126.pull 5 rfl
  refine G.callP K hl (wd hw 83 rfl) (wd hw 85 rfl) (wd hw 3 rfl) (wd hw 84 rfl) (wd hw 4 rfl) (wd hw 86 rfl) (by decide) pd_10 (H127.exa (i := 0) rfl) (ct_vlen l Z a0 hw n0 h126 a xa a121 va sl ed sg sh ss t' n wa' sa' la' (Int32.ofNat n) ef 0 ((wa', Ia Z (lst 3 (fun i => Int32.ofNat (wdp t' i)))) :: (sa', Ia Z (lst 3 (fun i => Int32.ofNat (shp t' (upv w p W) i)))) :: (la', La Z (lst 3 (fun i => EE (2 ^ (upv w p W) i)))) :: (xa, Ia Z (lst 3 (fun i => Int32.ofNat ((upv w p W) i)))) :: (ly, Ob Z CYn NSY [.ref wa, .ref sa, .ref la, .int (Int32.ofNat (wcn t))]) :: (wa, Ia Z (lst 3 (fun i => Int32.ofNat (wdp t i)))) :: (sa, Ia Z (lst 3 (fun i => Int32.ofNat (shp t w i)))) :: (la, La Z (lst 3 (fun i => EE (2 ^ w i)))) :: (va, La Z (lst 16 VF)) :: (sl, Ia Z (lst 32 (fun s => Int32.ofNat (SL s)))) :: (ed, La Z (lst (wcn t) EF)) :: (sg, La Z []) :: σ) (by omega) (by omega) H127) 5 rfl (by decide) (by decide) (by decide) (by decide) rfl rfl [.int (Int32.ofNat n), .long 16] rfl D98_9_59 ?_
  rintro _ _ ⟨rfl, rfl⟩
  change G k n0 _ h126 _ _ 62 [.val (.ref a), .val (.int (Int32.ofNat p)), .val (.int (Int32.ofNat x)), .val (.ref ly), .unset] [.int 16, .ref ly, .int (Int32.ofNat n), .ref va, .ref a, .ref a]
  have H128 : Hp n0 h126 ((la, La Z (lst 3 (fun i => EE (2 ^ w i)))) :: (a, Ob Z CSn NSS [.ref xa, .ref a121, .ref va, .ref sl, .int (Int32.ofNat n), .ref ed, .int ef, .ref sg, .ref sh, .ref ss, .int 0]) :: (a121, Ob Z CYn NSY [.ref wa', .ref sa', .ref la', .int (Int32.ofNat (wcn t'))]) :: (wa', Ia Z (lst 3 (fun i => Int32.ofNat (wdp t' i)))) :: (sa', Ia Z (lst 3 (fun i => Int32.ofNat (shp t' (upv w p W) i)))) :: (la', La Z (lst 3 (fun i => EE (2 ^ (upv w p W) i)))) :: (xa, Ia Z (lst 3 (fun i => Int32.ofNat ((upv w p W) i)))) :: (ly, Ob Z CYn NSY [.ref wa, .ref sa, .ref la, .int (Int32.ofNat (wcn t))]) :: (wa, Ia Z (lst 3 (fun i => Int32.ofNat (wdp t i)))) :: (sa, Ia Z (lst 3 (fun i => Int32.ofNat (shp t w i)))) :: (va, La Z (lst 16 VF)) :: (sl, Ia Z (lst 32 (fun s => Int32.ofNat (SL s)))) :: (ed, La Z (lst (wcn t) EF)) :: (sg, La Z []) :: σ) := H127.pull 9 rfl
  have H129 : Hp n0 h126 ((sa, Ia Z (lst 3 (fun i => Int32.ofNat (shp t w i)))) :: (la, La Z (lst 3 (fun i => EE (2 ^ w i)))) :: (a, Ob Z CSn NSS [.ref xa, .ref a121, .ref va, .ref sl, .int (Int32.ofNat n), .ref ed, .int ef, .ref sg, .ref sh, .ref ss, .int 0]) :: (a121, Ob Z CYn NSY [.ref wa', .ref sa', .ref la', .int (Int32.ofNat (wcn t'))]) :: (wa', Ia Z (lst 3 (fun i => Int32.ofNat (wdp t' i)))) :: (sa', Ia Z (lst 3 (fun i => Int32.ofNat (shp t' (upv w p W) i)))) :: (la', La Z (lst 3 (fun i => EE (2 ^ (upv w p W) i)))) :: (xa, Ia Z (lst 3 (fun i => Int32.ofNat ((upv w p W) i)))) :: (ly, Ob Z CYn NSY [.ref wa, .ref sa, .ref la, .int (Int32.ofNat (wcn t))]) :: (wa, Ia Z (lst 3 (fun i => Int32.ofNat (wdp t i)))) :: (va, La Z (lst 16 VF)) :: (sl, Ia Z (lst 32 (fun s => Int32.ofNat (SL s)))) :: (ed, La Z (lst (wcn t) EF)) :: (sg, La Z []) :: σ) := H128.pull 9 rfl
  have H130 : Hp n0 h126 ((wa, Ia Z (lst 3 (fun i => Int32.ofNat (wdp t i)))) :: (sa, Ia Z (lst 3 (fun i => Int32.ofNat (shp t w i)))) :: (la, La Z (lst 3 (fun i => EE (2 ^ w i)))) :: (a, Ob Z CSn NSS [.ref xa, .ref a121, .ref va, .ref sl, .int (Int32.ofNat n), .ref ed, .int ef, .ref sg, .ref sh, .ref ss, .int 0]) :: (a121, Ob Z CYn NSY [.ref wa', .ref sa', .ref la', .int (Int32.ofNat (wcn t'))]) :: (wa', Ia Z (lst 3 (fun i => Int32.ofNat (wdp t' i)))) :: (sa', Ia Z (lst 3 (fun i => Int32.ofNat (shp t' (upv w p W) i)))) :: (la', La Z (lst 3 (fun i => EE (2 ^ (upv w p W) i)))) :: (xa, Ia Z (lst 3 (fun i => Int32.ofNat ((upv w p W) i)))) :: (ly, Ob Z CYn NSY [.ref wa, .ref sa, .ref la, .int (Int32.ofNat (wcn t))]) :: (va, La Z (lst 16 VF)) :: (sl, Ia Z (lst 32 (fun s => Int32.ofNat (SL s)))) :: (ed, La Z (lst (wcn t) EF)) :: (sg, La Z []) :: σ) := H129.pull 9 rfl
  have H131 : Hp n0 h126 ((ly, Ob Z CYn NSY [.ref wa, .ref sa, .ref la, .int (Int32.ofNat (wcn t))]) :: (wa, Ia Z (lst 3 (fun i => Int32.ofNat (wdp t i)))) :: (sa, Ia Z (lst 3 (fun i => Int32.ofNat (shp t w i)))) :: (la, La Z (lst 3 (fun i => EE (2 ^ w i)))) :: (a, Ob Z CSn NSS [.ref xa, .ref a121, .ref va, .ref sl, .int (Int32.ofNat n), .ref ed, .int ef, .ref sg, .ref sh, .ref ss, .int 0]) :: (a121, Ob Z CYn NSY [.ref wa', .ref sa', .ref la', .int (Int32.ofNat (wcn t'))]) :: (wa', Ia Z (lst 3 (fun i => Int32.ofNat (wdp t' i)))) :: (sa', Ia Z (lst 3 (fun i => Int32.ofNat (shp t' (upv w p W) i)))) :: (la', La Z (lst 3 (fun i => EE (2 ^ (upv w p W) i)))) :: (xa, Ia Z (lst 3 (fun i => Int32.ofNat ((upv w p W) i)))) :: (va, La Z (lst 16 VF)) :: (sl, Ia Z (lst 32 (fun s => Int32.ofNat (SL s)))) :: (ed, La Z (lst (wcn t) EF)) :: (sg, La Z []) :: σ) := H130.pull 9 rfl
  have H132 : Hp n0 h126 ((la', La Z (lst 3 (fun i => EE (2 ^ (upv w p W) i)))) :: (ly, Ob Z CYn NSY [.ref wa, .ref sa, .ref la, .int (Int32.ofNat (wcn t))]) :: (wa, Ia Z (lst 3 (fun i => Int32.ofNat (wdp t i)))) :: (sa, Ia Z (lst 3 (fun i => Int32.ofNat (shp t w i)))) :: (la, La Z (lst 3 (fun i => EE (2 ^ w i)))) :: (a, Ob Z CSn NSS [.ref xa, .ref a121, .ref va, .ref sl, .int (Int32.ofNat n), .ref ed, .int ef, .ref sg, .ref sh, .ref ss, .int 0]) :: (a121, Ob Z CYn NSY [.ref wa', .ref sa', .ref la', .int (Int32.ofNat (wcn t'))]) :: (wa', Ia Z (lst 3 (fun i => Int32.ofNat (wdp t' i)))) :: (sa', Ia Z (lst 3 (fun i => Int32.ofNat (shp t' (upv w p W) i)))) :: (xa, Ia Z (lst 3 (fun i => Int32.ofNat ((upv w p W) i)))) :: (va, La Z (lst 16 VF)) :: (sl, Ia Z (lst 32 (fun s => Int32.ofNat (SL s)))) :: (ed, La Z (lst (wcn t) EF)) :: (sg, La Z []) :: σ) := H131.pull 8 rfl
  have H133 : Hp n0 h126 ((sa', Ia Z (lst 3 (fun i => Int32.ofNat (shp t' (upv w p W) i)))) :: (la', La Z (lst 3 (fun i => EE (2 ^ (upv w p W) i)))) :: (ly, Ob Z CYn NSY [.ref wa, .ref sa, .ref la, .int (Int32.ofNat (wcn t))]) :: (wa, Ia Z (lst 3 (fun i => Int32.ofNat (wdp t i)))) :: (sa, Ia Z (lst 3 (fun i => Int32.ofNat (shp t w i)))) :: (la, La Z (lst 3 (fun i => EE (2 ^ w i)))) :: (a, Ob Z CSn NSS [.ref xa, .ref a121, .ref va, .ref sl, .int (Int32.ofNat n), .ref ed, .int ef, .ref sg, .ref sh, .ref ss, .int 0]) :: (a121, Ob Z CYn NSY [.ref wa', .ref sa', .ref la', .int (Int32.ofNat (wcn t'))]) :: (wa', Ia Z (lst 3 (fun i => Int32.ofNat (wdp t' i)))) :: (xa, Ia Z (lst 3 (fun i => Int32.ofNat ((upv w p W) i)))) :: (va, La Z (lst 16 VF)) :: (sl, Ia Z (lst 32 (fun s => Int32.ofNat (SL s)))) :: (ed, La Z (lst (wcn t) EF)) :: (sg, La Z []) :: σ) := H132.pull 8 rfl
  have H134 : Hp n0 h126 ((wa', Ia Z (lst 3 (fun i => Int32.ofNat (wdp t' i)))) :: (sa', Ia Z (lst 3 (fun i => Int32.ofNat (shp t' (upv w p W) i)))) :: (la', La Z (lst 3 (fun i => EE (2 ^ (upv w p W) i)))) :: (ly, Ob Z CYn NSY [.ref wa, .ref sa, .ref la, .int (Int32.ofNat (wcn t))]) :: (wa, Ia Z (lst 3 (fun i => Int32.ofNat (wdp t i)))) :: (sa, Ia Z (lst 3 (fun i => Int32.ofNat (shp t w i)))) :: (la, La Z (lst 3 (fun i => EE (2 ^ w i)))) :: (a, Ob Z CSn NSS [.ref xa, .ref a121, .ref va, .ref sl, .int (Int32.ofNat n), .ref ed, .int ef, .ref sg, .ref sh, .ref ss, .int 0]) :: (a121, Ob Z CYn NSY [.ref wa', .ref sa', .ref la', .int (Int32.ofNat (wcn t'))]) :: (xa, Ia Z (lst 3 (fun i => Int32.ofNat ((upv w p W) i)))) :: (va, La Z (lst 16 VF)) :: (sl, Ia Z (lst 32 (fun s => Int32.ofNat (SL s)))) :: (ed, La Z (lst (wcn t) EF)) :: (sg, La Z []) :: σ) := H133.pull 8 rfl
  have H135 : Hp n0 h126 ((a121, Ob Z CYn NSY [.ref wa', .ref sa', .ref la', .int (Int32.ofNat (wcn t'))]) :: (wa', Ia Z (lst 3 (fun i => Int32.ofNat (wdp t' i)))) :: (sa', Ia Z (lst 3 (fun i => Int32.ofNat (shp t' (upv w p W) i)))) :: (la', La Z (lst 3 (fun i => EE (2 ^ (upv w p W) i)))) :: (ly, Ob Z CYn NSY [.ref wa, .ref sa, .ref la, .int (Int32.ofNat (wcn t))]) :: (wa, Ia Z (lst 3 (fun i => Int32.ofNat (wdp t i)))) :: (sa, Ia Z (lst 3 (fun i => Int32.ofNat (shp t w i)))) :: (la, La Z (lst 3 (fun i => EE (2 ^ w i)))) :: (a, Ob Z CSn NSS [.ref xa, .ref a121, .ref va, .ref sl, .int (Int32.ofNat n), .ref ed, .int ef, .ref sg, .ref sh, .ref ss, .int 0]) :: (xa, Ia Z (lst 3 (fun i => Int32.ofNat ((upv w p W) i)))) :: (va, La Z (lst 16 VF)) :: (sl, Ia Z (lst 32 (fun s => Int32.ofNat (SL s)))) :: (ed, La Z (lst (wcn t) EF)) :: (sg, La Z []) :: σ) := H134.pull 8 rfl
  have H136 : Hp n0 h126 ((a, Ob Z CSn NSS [.ref xa, .ref a121, .ref va, .ref sl, .int (Int32.ofNat n), .ref ed, .int ef, .ref sg, .ref sh, .ref ss, .int 0]) :: (a121, Ob Z CYn NSY [.ref wa', .ref sa', .ref la', .int (Int32.ofNat (wcn t'))]) :: (wa', Ia Z (lst 3 (fun i => Int32.ofNat (wdp t' i)))) :: (sa', Ia Z (lst 3 (fun i => Int32.ofNat (shp t' (upv w p W) i)))) :: (la', La Z (lst 3 (fun i => EE (2 ^ (upv w p W) i)))) :: (ly, Ob Z CYn NSY [.ref wa, .ref sa, .ref la, .int (Int32.ofNat (wcn t))]) :: (wa, Ia Z (lst 3 (fun i => Int32.ofNat (wdp t i)))) :: (sa, Ia Z (lst 3 (fun i => Int32.ofNat (shp t w i)))) :: (la, La Z (lst 3 (fun i => EE (2 ^ w i)))) :: (xa, Ia Z (lst 3 (fun i => Int32.ofNat ((upv w p W) i)))) :: (va, La Z (lst 16 VF)) :: (sl, Ia Z (lst 32 (fun s => Int32.ofNat (SL s)))) :: (ed, La Z (lst (wcn t) EF)) :: (sg, La Z []) :: σ) := H135.pull 8 rfl
  refine G.callP K hl (wd hw 94 rfl) (wd hw 96 rfl) (wd hw 3 rfl) (wd hw 95 rfl) (wd hw 4 rfl) (wd hw 97 rfl) (by decide) pd_11 (H136.exa (i := 0) rfl) (ct_repack l Z a0 hw n0 h126 a xa a121 va sl ed sg sh ss wa' sa' la' ly wa sa la va t' t (upv w p W) w (Int32.ofNat n) ef 0 n 16 16 vals VF ((sl, Ia Z (lst 32 (fun s => Int32.ofNat (SL s)))) :: (ed, La Z (lst (wcn t) EF)) :: (sg, La Z []) :: σ) C.w1 hw1' trivial C.okv (fun j hj => OKv_wide (C.okv j hj) hw3 hs.mp) C.vec (by omega) (by omega) (by omega) (by omega) (by omega) H136) 1 rfl (by decide) (by decide) (by decide) (by decide) rfl rfl [.int 16, .ref ly, .int (Int32.ofNat n), .ref va] rfl D98_9_62 ?_
  rintro _ h137 ⟨b137, RF137, rfl, R137, H137⟩
  change Hp n0 h137 ((b137, La Z (lst 16 RF137)) :: (a, Ob Z CSn NSS [.ref xa, .ref a121, .ref va, .ref sl, .int (Int32.ofNat n), .ref ed, .int ef, .ref sg, .ref sh, .ref ss, .int 0]) :: (a121, Ob Z CYn NSY [.ref wa', .ref sa', .ref la', .int (Int32.ofNat (wcn t'))]) :: (wa', Ia Z (lst 3 (fun i => Int32.ofNat (wdp t' i)))) :: (sa', Ia Z (lst 3 (fun i => Int32.ofNat (shp t' (upv w p W) i)))) :: (la', La Z (lst 3 (fun i => EE (2 ^ (upv w p W) i)))) :: (ly, Ob Z CYn NSY [.ref wa, .ref sa, .ref la, .int (Int32.ofNat (wcn t))]) :: (wa, Ia Z (lst 3 (fun i => Int32.ofNat (wdp t i)))) :: (sa, Ia Z (lst 3 (fun i => Int32.ofNat (shp t w i)))) :: (la, La Z (lst 3 (fun i => EE (2 ^ w i)))) :: (xa, Ia Z (lst 3 (fun i => Int32.ofNat ((upv w p W) i)))) :: (va, La Z (lst 16 VF)) :: (sl, Ia Z (lst 32 (fun s => Int32.ofNat (SL s)))) :: (ed, La Z (lst (wcn t) EF)) :: (sg, La Z []) :: σ) at H137
  change G k n0 _ h137 _ _ 65 [.val (.ref a), .val (.int (Int32.ofNat p)), .val (.int (Int32.ofNat x)), .val (.ref ly), .unset] [.ref b137, .ref a]
  refine G.putF K (host := "") (Or.inl (wd hw 46 rfl)) (cf_NSS hw) (Or.inl (wd hw 47 rfl)) (wd hw 3 rfl) H137 (i := 1) rfl (j := 2) rfl rfl (ty := (.array .long)) (by decide) rfl rfl D98_9_65 ?_
  intro h138 H138
  change Hp n0 h138 ((b137, La Z (lst 16 RF137)) :: (a, Ob Z CSn NSS [.ref xa, .ref a121, .ref b137, .ref sl, .int (Int32.ofNat n), .ref ed, .int ef, .ref sg, .ref sh, .ref ss, .int 0]) :: (a121, Ob Z CYn NSY [.ref wa', .ref sa', .ref la', .int (Int32.ofNat (wcn t'))]) :: (wa', Ia Z (lst 3 (fun i => Int32.ofNat (wdp t' i)))) :: (sa', Ia Z (lst 3 (fun i => Int32.ofNat (shp t' (upv w p W) i)))) :: (la', La Z (lst 3 (fun i => EE (2 ^ (upv w p W) i)))) :: (ly, Ob Z CYn NSY [.ref wa, .ref sa, .ref la, .int (Int32.ofNat (wcn t))]) :: (wa, Ia Z (lst 3 (fun i => Int32.ofNat (wdp t i)))) :: (sa, Ia Z (lst 3 (fun i => Int32.ofNat (shp t w i)))) :: (la, La Z (lst 3 (fun i => EE (2 ^ w i)))) :: (xa, Ia Z (lst 3 (fun i => Int32.ofNat ((upv w p W) i)))) :: (va, La Z (lst 16 VF)) :: (sl, Ia Z (lst 32 (fun s => Int32.ofNat (SL s)))) :: (ed, La Z (lst (wcn t) EF)) :: (sg, La Z []) :: σ) at H138
  refine G.aloadN K D98_9_68 rfl rfl ?_
  refine G.aloadN K D98_9_69 rfl rfl ?_
  refine G.aloadN K D98_9_70 rfl rfl ?_
  refine G.getF K (host := "") (Or.inl (wd hw 48 rfl)) H138 (i := 1) rfl (j := 5) rfl rfl D98_9_71 ?_
  refine G.iconst K D98_9_74 1 rfl ?_
  refine G.aloadN K D98_9_75 rfl rfl ?_
  refine G.aloadN K D98_9_76 rfl rfl ?_
  refine G.getF K (host := "") (Or.inl (wd hw 43 rfl)) H138 (i := 1) rfl (j := 1) rfl rfl D98_9_77 ?_
  refine G.getFR K (wd hw 45 rfl) H138 (i := 2) rfl (j := 3) rfl rfl D98_9_80 ?_
  have H139 : Hp n0 h138 ((ed, La Z (lst (wcn t) EF)) :: (b137, La Z (lst 16 RF137)) :: (a, Ob Z CSn NSS [.ref xa, .ref a121, .ref b137, .ref sl, .int (Int32.ofNat n), .ref ed, .int ef, .ref sg, .ref sh, .ref ss, .int 0]) :: (a121, Ob Z CYn NSY [.ref wa', .ref sa', .ref la', .int (Int32.ofNat (wcn t'))]) :: (wa', Ia Z (lst 3 (fun i => Int32.ofNat (wdp t' i)))) :: (sa', Ia Z (lst 3 (fun i => Int32.ofNat (shp t' (upv w p W) i)))) :: (la', La Z (lst 3 (fun i => EE (2 ^ (upv w p W) i)))) :: (ly, Ob Z CYn NSY [.ref wa, .ref sa, .ref la, .int (Int32.ofNat (wcn t))]) :: (wa, Ia Z (lst 3 (fun i => Int32.ofNat (wdp t i)))) :: (sa, Ia Z (lst 3 (fun i => Int32.ofNat (shp t w i)))) :: (la, La Z (lst 3 (fun i => EE (2 ^ w i)))) :: (xa, Ia Z (lst 3 (fun i => Int32.ofNat ((upv w p W) i)))) :: (va, La Z (lst 16 VF)) :: (sl, Ia Z (lst 32 (fun s => Int32.ofNat (SL s)))) :: (sg, La Z []) :: σ) := H138.pull 13 rfl
  have H140 : Hp n0 h138 ((xa, Ia Z (lst 3 (fun i => Int32.ofNat ((upv w p W) i)))) :: (ed, La Z (lst (wcn t) EF)) :: (b137, La Z (lst 16 RF137)) :: (a, Ob Z CSn NSS [.ref xa, .ref a121, .ref b137, .ref sl, .int (Int32.ofNat n), .ref ed, .int ef, .ref sg, .ref sh, .ref ss, .int 0]) :: (a121, Ob Z CYn NSY [.ref wa', .ref sa', .ref la', .int (Int32.ofNat (wcn t'))]) :: (wa', Ia Z (lst 3 (fun i => Int32.ofNat (wdp t' i)))) :: (sa', Ia Z (lst 3 (fun i => Int32.ofNat (shp t' (upv w p W) i)))) :: (la', La Z (lst 3 (fun i => EE (2 ^ (upv w p W) i)))) :: (ly, Ob Z CYn NSY [.ref wa, .ref sa, .ref la, .int (Int32.ofNat (wcn t))]) :: (wa, Ia Z (lst 3 (fun i => Int32.ofNat (wdp t i)))) :: (sa, Ia Z (lst 3 (fun i => Int32.ofNat (shp t w i)))) :: (la, La Z (lst 3 (fun i => EE (2 ^ w i)))) :: (va, La Z (lst 16 VF)) :: (sl, Ia Z (lst 32 (fun s => Int32.ofNat (SL s)))) :: (sg, La Z []) :: σ) := H139.pull 11 rfl
  have H141 : Hp n0 h138 ((la, La Z (lst 3 (fun i => EE (2 ^ w i)))) :: (xa, Ia Z (lst 3 (fun i => Int32.ofNat ((upv w p W) i)))) :: (ed, La Z (lst (wcn t) EF)) :: (b137, La Z (lst 16 RF137)) :: (a, Ob Z CSn NSS [.ref xa, .ref a121, .ref b137, .ref sl, .int (Int32.ofNat n), .ref ed, .int ef, .ref sg, .ref sh, .ref ss, .int 0]) :: (a121, Ob Z CYn NSY [.ref wa', .ref sa', .ref la', .int (Int32.ofNat (wcn t'))]) :: (wa', Ia Z (lst 3 (fun i => Int32.ofNat (wdp t' i)))) :: (sa', Ia Z (lst 3 (fun i => Int32.ofNat (shp t' (upv w p W) i)))) :: (la', La Z (lst 3 (fun i => EE (2 ^ (upv w p W) i)))) :: (ly, Ob Z CYn NSY [.ref wa, .ref sa, .ref la, .int (Int32.ofNat (wcn t))]) :: (wa, Ia Z (lst 3 (fun i => Int32.ofNat (wdp t i)))) :: (sa, Ia Z (lst 3 (fun i => Int32.ofNat (shp t w i)))) :: (va, La Z (lst 16 VF)) :: (sl, Ia Z (lst 32 (fun s => Int32.ofNat (SL s)))) :: (sg, La Z []) :: σ) := H140.pull 11 rfl
  have H142 : Hp n0 h138 ((sa, Ia Z (lst 3 (fun i => Int32.ofNat (shp t w i)))) :: (la, La Z (lst 3 (fun i => EE (2 ^ w i)))) :: (xa, Ia Z (lst 3 (fun i => Int32.ofNat ((upv w p W) i)))) :: (ed, La Z (lst (wcn t) EF)) :: (b137, La Z (lst 16 RF137)) :: (a, Ob Z CSn NSS [.ref xa, .ref a121, .ref b137, .ref sl, .int (Int32.ofNat n), .ref ed, .int ef, .ref sg, .ref sh, .ref ss, .int 0]) :: (a121, Ob Z CYn NSY [.ref wa', .ref sa', .ref la', .int (Int32.ofNat (wcn t'))]) :: (wa', Ia Z (lst 3 (fun i => Int32.ofNat (wdp t' i)))) :: (sa', Ia Z (lst 3 (fun i => Int32.ofNat (shp t' (upv w p W) i)))) :: (la', La Z (lst 3 (fun i => EE (2 ^ (upv w p W) i)))) :: (ly, Ob Z CYn NSY [.ref wa, .ref sa, .ref la, .int (Int32.ofNat (wcn t))]) :: (wa, Ia Z (lst 3 (fun i => Int32.ofNat (wdp t i)))) :: (va, La Z (lst 16 VF)) :: (sl, Ia Z (lst 32 (fun s => Int32.ofNat (SL s)))) :: (sg, La Z []) :: σ) := H141.pull 11 rfl
  have H143 : Hp n0 h138 ((wa, Ia Z (lst 3 (fun i => Int32.ofNat (wdp t i)))) :: (sa, Ia Z (lst 3 (fun i => Int32.ofNat (shp t w i)))) :: (la, La Z (lst 3 (fun i => EE (2 ^ w i)))) :: (xa, Ia Z (lst 3 (fun i => Int32.ofNat ((upv w p W) i)))) :: (ed, La Z (lst (wcn t) EF)) :: (b137, La Z (lst 16 RF137)) :: (a, Ob Z CSn NSS [.ref xa, .ref a121, .ref b137, .ref sl, .int (Int32.ofNat n), .ref ed, .int ef, .ref sg, .ref sh, .ref ss, .int 0]) :: (a121, Ob Z CYn NSY [.ref wa', .ref sa', .ref la', .int (Int32.ofNat (wcn t'))]) :: (wa', Ia Z (lst 3 (fun i => Int32.ofNat (wdp t' i)))) :: (sa', Ia Z (lst 3 (fun i => Int32.ofNat (shp t' (upv w p W) i)))) :: (la', La Z (lst 3 (fun i => EE (2 ^ (upv w p W) i)))) :: (ly, Ob Z CYn NSY [.ref wa, .ref sa, .ref la, .int (Int32.ofNat (wcn t))]) :: (va, La Z (lst 16 VF)) :: (sl, Ia Z (lst 32 (fun s => Int32.ofNat (SL s)))) :: (sg, La Z []) :: σ) := H142.pull 11 rfl
  have H144 : Hp n0 h138 ((ly, Ob Z CYn NSY [.ref wa, .ref sa, .ref la, .int (Int32.ofNat (wcn t))]) :: (wa, Ia Z (lst 3 (fun i => Int32.ofNat (wdp t i)))) :: (sa, Ia Z (lst 3 (fun i => Int32.ofNat (shp t w i)))) :: (la, La Z (lst 3 (fun i => EE (2 ^ w i)))) :: (xa, Ia Z (lst 3 (fun i => Int32.ofNat ((upv w p W) i)))) :: (ed, La Z (lst (wcn t) EF)) :: (b137, La Z (lst 16 RF137)) :: (a, Ob Z CSn NSS [.ref xa, .ref a121, .ref b137, .ref sl, .int (Int32.ofNat n), .ref ed, .int ef, .ref sg, .ref sh, .ref ss, .int 0]) :: (a121, Ob Z CYn NSY [.ref wa', .ref sa', .ref la', .int (Int32.ofNat (wcn t'))]) :: (wa', Ia Z (lst 3 (fun i => Int32.ofNat (wdp t' i)))) :: (sa', Ia Z (lst 3 (fun i => Int32.ofNat (shp t' (upv w p W) i)))) :: (la', La Z (lst 3 (fun i => EE (2 ^ (upv w p W) i)))) :: (va, La Z (lst 16 VF)) :: (sl, Ia Z (lst 32 (fun s => Int32.ofNat (SL s)))) :: (sg, La Z []) :: σ) := H143.pull 11 rfl
  have H145 : Hp n0 h138 ((la', La Z (lst 3 (fun i => EE (2 ^ (upv w p W) i)))) :: (ly, Ob Z CYn NSY [.ref wa, .ref sa, .ref la, .int (Int32.ofNat (wcn t))]) :: (wa, Ia Z (lst 3 (fun i => Int32.ofNat (wdp t i)))) :: (sa, Ia Z (lst 3 (fun i => Int32.ofNat (shp t w i)))) :: (la, La Z (lst 3 (fun i => EE (2 ^ w i)))) :: (xa, Ia Z (lst 3 (fun i => Int32.ofNat ((upv w p W) i)))) :: (ed, La Z (lst (wcn t) EF)) :: (b137, La Z (lst 16 RF137)) :: (a, Ob Z CSn NSS [.ref xa, .ref a121, .ref b137, .ref sl, .int (Int32.ofNat n), .ref ed, .int ef, .ref sg, .ref sh, .ref ss, .int 0]) :: (a121, Ob Z CYn NSY [.ref wa', .ref sa', .ref la', .int (Int32.ofNat (wcn t'))]) :: (wa', Ia Z (lst 3 (fun i => Int32.ofNat (wdp t' i)))) :: (sa', Ia Z (lst 3 (fun i => Int32.ofNat (shp t' (upv w p W) i)))) :: (va, La Z (lst 16 VF)) :: (sl, Ia Z (lst 32 (fun s => Int32.ofNat (SL s)))) :: (sg, La Z []) :: σ) := H144.pull 11 rfl
  have H146 : Hp n0 h138 ((sa', Ia Z (lst 3 (fun i => Int32.ofNat (shp t' (upv w p W) i)))) :: (la', La Z (lst 3 (fun i => EE (2 ^ (upv w p W) i)))) :: (ly, Ob Z CYn NSY [.ref wa, .ref sa, .ref la, .int (Int32.ofNat (wcn t))]) :: (wa, Ia Z (lst 3 (fun i => Int32.ofNat (wdp t i)))) :: (sa, Ia Z (lst 3 (fun i => Int32.ofNat (shp t w i)))) :: (la, La Z (lst 3 (fun i => EE (2 ^ w i)))) :: (xa, Ia Z (lst 3 (fun i => Int32.ofNat ((upv w p W) i)))) :: (ed, La Z (lst (wcn t) EF)) :: (b137, La Z (lst 16 RF137)) :: (a, Ob Z CSn NSS [.ref xa, .ref a121, .ref b137, .ref sl, .int (Int32.ofNat n), .ref ed, .int ef, .ref sg, .ref sh, .ref ss, .int 0]) :: (a121, Ob Z CYn NSY [.ref wa', .ref sa', .ref la', .int (Int32.ofNat (wcn t'))]) :: (wa', Ia Z (lst 3 (fun i => Int32.ofNat (wdp t' i)))) :: (va, La Z (lst 16 VF)) :: (sl, Ia Z (lst 32 (fun s => Int32.ofNat (SL s)))) :: (sg, La Z []) :: σ) := H145.pull 11 rfl
  have H147 : Hp n0 h138 ((wa', Ia Z (lst 3 (fun i => Int32.ofNat (wdp t' i)))) :: (sa', Ia Z (lst 3 (fun i => Int32.ofNat (shp t' (upv w p W) i)))) :: (la', La Z (lst 3 (fun i => EE (2 ^ (upv w p W) i)))) :: (ly, Ob Z CYn NSY [.ref wa, .ref sa, .ref la, .int (Int32.ofNat (wcn t))]) :: (wa, Ia Z (lst 3 (fun i => Int32.ofNat (wdp t i)))) :: (sa, Ia Z (lst 3 (fun i => Int32.ofNat (shp t w i)))) :: (la, La Z (lst 3 (fun i => EE (2 ^ w i)))) :: (xa, Ia Z (lst 3 (fun i => Int32.ofNat ((upv w p W) i)))) :: (ed, La Z (lst (wcn t) EF)) :: (b137, La Z (lst 16 RF137)) :: (a, Ob Z CSn NSS [.ref xa, .ref a121, .ref b137, .ref sl, .int (Int32.ofNat n), .ref ed, .int ef, .ref sg, .ref sh, .ref ss, .int 0]) :: (a121, Ob Z CYn NSY [.ref wa', .ref sa', .ref la', .int (Int32.ofNat (wcn t'))]) :: (va, La Z (lst 16 VF)) :: (sl, Ia Z (lst 32 (fun s => Int32.ofNat (SL s)))) :: (sg, La Z []) :: σ) := H146.pull 11 rfl
  have H148 : Hp n0 h138 ((a121, Ob Z CYn NSY [.ref wa', .ref sa', .ref la', .int (Int32.ofNat (wcn t'))]) :: (wa', Ia Z (lst 3 (fun i => Int32.ofNat (wdp t' i)))) :: (sa', Ia Z (lst 3 (fun i => Int32.ofNat (shp t' (upv w p W) i)))) :: (la', La Z (lst 3 (fun i => EE (2 ^ (upv w p W) i)))) :: (ly, Ob Z CYn NSY [.ref wa, .ref sa, .ref la, .int (Int32.ofNat (wcn t))]) :: (wa, Ia Z (lst 3 (fun i => Int32.ofNat (wdp t i)))) :: (sa, Ia Z (lst 3 (fun i => Int32.ofNat (shp t w i)))) :: (la, La Z (lst 3 (fun i => EE (2 ^ w i)))) :: (xa, Ia Z (lst 3 (fun i => Int32.ofNat ((upv w p W) i)))) :: (ed, La Z (lst (wcn t) EF)) :: (b137, La Z (lst 16 RF137)) :: (a, Ob Z CSn NSS [.ref xa, .ref a121, .ref b137, .ref sl, .int (Int32.ofNat n), .ref ed, .int ef, .ref sg, .ref sh, .ref ss, .int 0]) :: (va, La Z (lst 16 VF)) :: (sl, Ia Z (lst 32 (fun s => Int32.ofNat (SL s)))) :: (sg, La Z []) :: σ) := H147.pull 11 rfl
  have H149 : Hp n0 h138 ((a, Ob Z CSn NSS [.ref xa, .ref a121, .ref b137, .ref sl, .int (Int32.ofNat n), .ref ed, .int ef, .ref sg, .ref sh, .ref ss, .int 0]) :: (a121, Ob Z CYn NSY [.ref wa', .ref sa', .ref la', .int (Int32.ofNat (wcn t'))]) :: (wa', Ia Z (lst 3 (fun i => Int32.ofNat (wdp t' i)))) :: (sa', Ia Z (lst 3 (fun i => Int32.ofNat (shp t' (upv w p W) i)))) :: (la', La Z (lst 3 (fun i => EE (2 ^ (upv w p W) i)))) :: (ly, Ob Z CYn NSY [.ref wa, .ref sa, .ref la, .int (Int32.ofNat (wcn t))]) :: (wa, Ia Z (lst 3 (fun i => Int32.ofNat (wdp t i)))) :: (sa, Ia Z (lst 3 (fun i => Int32.ofNat (shp t w i)))) :: (la, La Z (lst 3 (fun i => EE (2 ^ w i)))) :: (xa, Ia Z (lst 3 (fun i => Int32.ofNat ((upv w p W) i)))) :: (ed, La Z (lst (wcn t) EF)) :: (b137, La Z (lst 16 RF137)) :: (va, La Z (lst 16 VF)) :: (sl, Ia Z (lst 32 (fun s => Int32.ofNat (SL s)))) :: (sg, La Z []) :: σ) := H148.pull 11 rfl
  have hE1 : ∀ j, j < 1 → ∀ k, k < wcn t → EF (j * wcn t + k) = EE (enc t w e k) := fun j hj k hk => by
    obtain rfl : j = 0 := by omega
    rw [Nat.zero_mul, Nat.zero_add]; exact C.edi k hk
  refine G.callP K hl (wd hw 94 rfl) (wd hw 96 rfl) (wd hw 3 rfl) (wd hw 95 rfl) (wd hw 4 rfl) (wd hw 97 rfl) (by decide) pd_11 (H149.exa (i := 0) rfl) (ct_repack l Z a0 hw n0 h138 a xa a121 b137 sl ed sg sh ss wa' sa' la' ly wa sa la ed t' t (upv w p W) w (Int32.ofNat n) ef 0 1 (wcn t') (wcn t) (fun _ => e) EF ((b137, La Z (lst 16 RF137)) :: (va, La Z (lst 16 VF)) :: (sl, Ia Z (lst 32 (fun s => Int32.ofNat (SL s)))) :: (sg, La Z []) :: σ) C.w1 hw1' trivial (fun _ _ => C.oke) (fun _ _ => OKv_wide C.oke hw3 hs.mp) hE1 (by omega) (by omega) (by omega) (by omega) (by omega) H149) 1 rfl (by decide) (by decide) (by decide) (by decide) rfl rfl [.int (Int32.ofNat (wcn t')), .ref ly, .int 1, .ref ed] rfl D98_9_83 ?_
  rintro _ h150 ⟨b150, RF150, rfl, R150, H150⟩
  change Hp n0 h150 ((b150, La Z (lst (wcn t') RF150)) :: (a, Ob Z CSn NSS [.ref xa, .ref a121, .ref b137, .ref sl, .int (Int32.ofNat n), .ref ed, .int ef, .ref sg, .ref sh, .ref ss, .int 0]) :: (a121, Ob Z CYn NSY [.ref wa', .ref sa', .ref la', .int (Int32.ofNat (wcn t'))]) :: (wa', Ia Z (lst 3 (fun i => Int32.ofNat (wdp t' i)))) :: (sa', Ia Z (lst 3 (fun i => Int32.ofNat (shp t' (upv w p W) i)))) :: (la', La Z (lst 3 (fun i => EE (2 ^ (upv w p W) i)))) :: (ly, Ob Z CYn NSY [.ref wa, .ref sa, .ref la, .int (Int32.ofNat (wcn t))]) :: (wa, Ia Z (lst 3 (fun i => Int32.ofNat (wdp t i)))) :: (sa, Ia Z (lst 3 (fun i => Int32.ofNat (shp t w i)))) :: (la, La Z (lst 3 (fun i => EE (2 ^ w i)))) :: (xa, Ia Z (lst 3 (fun i => Int32.ofNat ((upv w p W) i)))) :: (ed, La Z (lst (wcn t) EF)) :: (b137, La Z (lst 16 RF137)) :: (va, La Z (lst 16 VF)) :: (sl, Ia Z (lst 32 (fun s => Int32.ofNat (SL s)))) :: (sg, La Z []) :: σ) at H150
  change G k n0 _ h150 _ _ 86 [.val (.ref a), .val (.int (Int32.ofNat p)), .val (.int (Int32.ofNat x)), .val (.ref ly), .unset] [.ref b150, .ref a]
  refine G.putF K (host := "") (Or.inl (wd hw 48 rfl)) (cf_NSS hw) (Or.inl (wd hw 49 rfl)) (wd hw 3 rfl) H150 (i := 1) rfl (j := 5) rfl rfl (ty := (.array .long)) (by decide) rfl rfl D98_9_86 ?_
  intro h151 H151
  change Hp n0 h151 ((b150, La Z (lst (wcn t') RF150)) :: (a, Ob Z CSn NSS [.ref xa, .ref a121, .ref b137, .ref sl, .int (Int32.ofNat n), .ref b150, .int ef, .ref sg, .ref sh, .ref ss, .int 0]) :: (a121, Ob Z CYn NSY [.ref wa', .ref sa', .ref la', .int (Int32.ofNat (wcn t'))]) :: (wa', Ia Z (lst 3 (fun i => Int32.ofNat (wdp t' i)))) :: (sa', Ia Z (lst 3 (fun i => Int32.ofNat (shp t' (upv w p W) i)))) :: (la', La Z (lst 3 (fun i => EE (2 ^ (upv w p W) i)))) :: (ly, Ob Z CYn NSY [.ref wa, .ref sa, .ref la, .int (Int32.ofNat (wcn t))]) :: (wa, Ia Z (lst 3 (fun i => Int32.ofNat (wdp t i)))) :: (sa, Ia Z (lst 3 (fun i => Int32.ofNat (shp t w i)))) :: (la, La Z (lst 3 (fun i => EE (2 ^ w i)))) :: (xa, Ia Z (lst 3 (fun i => Int32.ofNat ((upv w p W) i)))) :: (ed, La Z (lst (wcn t) EF)) :: (b137, La Z (lst 16 RF137)) :: (va, La Z (lst 16 VF)) :: (sl, Ia Z (lst 32 (fun s => Int32.ofNat (SL s)))) :: (sg, La Z []) :: σ) at H151
  refine G.aloadN K D98_9_89 rfl rfl ?_
  refine G.aloadN K D98_9_90 rfl rfl ?_
  refine G.aloadN K D98_9_91 rfl rfl ?_
  refine G.getF K (host := "") (Or.inl (wd hw 16 rfl)) H151 (i := 1) rfl (j := 7) rfl rfl D98_9_92 ?_
  refine G.aloadN K D98_9_95 rfl rfl ?_
  refine G.getF K (host := "") (Or.inl (wd hw 114 rfl)) H151 (i := 1) rfl (j := 10) rfl rfl D98_9_96 ?_
  refine G.aloadN K D98_9_99 rfl rfl ?_
  refine G.aloadN K D98_9_100 rfl rfl ?_
  refine G.getF K (host := "") (Or.inl (wd hw 114 rfl)) H151 (i := 1) rfl (j := 10) rfl rfl D98_9_101 ?_
  refine G.aloadN K D98_9_104 rfl rfl ?_
  refine G.getF K (host := "") (Or.inl (wd hw 43 rfl)) H151 (i := 1) rfl (j := 1) rfl rfl D98_9_105 ?_
  refine G.getFR K (wd hw 45 rfl) H151 (i := 2) rfl (j := 3) rfl rfl D98_9_108 ?_
  refine G.imul K D98_9_111 ?_
  rw [Int32.zero_mul]
  have H152 : Hp n0 h151 ((sg, La Z []) :: (b150, La Z (lst (wcn t') RF150)) :: (a, Ob Z CSn NSS [.ref xa, .ref a121, .ref b137, .ref sl, .int (Int32.ofNat n), .ref b150, .int ef, .ref sg, .ref sh, .ref ss, .int 0]) :: (a121, Ob Z CYn NSY [.ref wa', .ref sa', .ref la', .int (Int32.ofNat (wcn t'))]) :: (wa', Ia Z (lst 3 (fun i => Int32.ofNat (wdp t' i)))) :: (sa', Ia Z (lst 3 (fun i => Int32.ofNat (shp t' (upv w p W) i)))) :: (la', La Z (lst 3 (fun i => EE (2 ^ (upv w p W) i)))) :: (ly, Ob Z CYn NSY [.ref wa, .ref sa, .ref la, .int (Int32.ofNat (wcn t))]) :: (wa, Ia Z (lst 3 (fun i => Int32.ofNat (wdp t i)))) :: (sa, Ia Z (lst 3 (fun i => Int32.ofNat (shp t w i)))) :: (la, La Z (lst 3 (fun i => EE (2 ^ w i)))) :: (xa, Ia Z (lst 3 (fun i => Int32.ofNat ((upv w p W) i)))) :: (ed, La Z (lst (wcn t) EF)) :: (b137, La Z (lst 16 RF137)) :: (va, La Z (lst 16 VF)) :: (sl, Ia Z (lst 32 (fun s => Int32.ofNat (SL s)))) :: σ) := H151.pull 15 rfl
  have H153 : Hp n0 h151 ((xa, Ia Z (lst 3 (fun i => Int32.ofNat ((upv w p W) i)))) :: (sg, La Z []) :: (b150, La Z (lst (wcn t') RF150)) :: (a, Ob Z CSn NSS [.ref xa, .ref a121, .ref b137, .ref sl, .int (Int32.ofNat n), .ref b150, .int ef, .ref sg, .ref sh, .ref ss, .int 0]) :: (a121, Ob Z CYn NSY [.ref wa', .ref sa', .ref la', .int (Int32.ofNat (wcn t'))]) :: (wa', Ia Z (lst 3 (fun i => Int32.ofNat (wdp t' i)))) :: (sa', Ia Z (lst 3 (fun i => Int32.ofNat (shp t' (upv w p W) i)))) :: (la', La Z (lst 3 (fun i => EE (2 ^ (upv w p W) i)))) :: (ly, Ob Z CYn NSY [.ref wa, .ref sa, .ref la, .int (Int32.ofNat (wcn t))]) :: (wa, Ia Z (lst 3 (fun i => Int32.ofNat (wdp t i)))) :: (sa, Ia Z (lst 3 (fun i => Int32.ofNat (shp t w i)))) :: (la, La Z (lst 3 (fun i => EE (2 ^ w i)))) :: (ed, La Z (lst (wcn t) EF)) :: (b137, La Z (lst 16 RF137)) :: (va, La Z (lst 16 VF)) :: (sl, Ia Z (lst 32 (fun s => Int32.ofNat (SL s)))) :: σ) := H152.pull 11 rfl
  have H154 : Hp n0 h151 ((la, La Z (lst 3 (fun i => EE (2 ^ w i)))) :: (xa, Ia Z (lst 3 (fun i => Int32.ofNat ((upv w p W) i)))) :: (sg, La Z []) :: (b150, La Z (lst (wcn t') RF150)) :: (a, Ob Z CSn NSS [.ref xa, .ref a121, .ref b137, .ref sl, .int (Int32.ofNat n), .ref b150, .int ef, .ref sg, .ref sh, .ref ss, .int 0]) :: (a121, Ob Z CYn NSY [.ref wa', .ref sa', .ref la', .int (Int32.ofNat (wcn t'))]) :: (wa', Ia Z (lst 3 (fun i => Int32.ofNat (wdp t' i)))) :: (sa', Ia Z (lst 3 (fun i => Int32.ofNat (shp t' (upv w p W) i)))) :: (la', La Z (lst 3 (fun i => EE (2 ^ (upv w p W) i)))) :: (ly, Ob Z CYn NSY [.ref wa, .ref sa, .ref la, .int (Int32.ofNat (wcn t))]) :: (wa, Ia Z (lst 3 (fun i => Int32.ofNat (wdp t i)))) :: (sa, Ia Z (lst 3 (fun i => Int32.ofNat (shp t w i)))) :: (ed, La Z (lst (wcn t) EF)) :: (b137, La Z (lst 16 RF137)) :: (va, La Z (lst 16 VF)) :: (sl, Ia Z (lst 32 (fun s => Int32.ofNat (SL s)))) :: σ) := H153.pull 11 rfl
  have H155 : Hp n0 h151 ((sa, Ia Z (lst 3 (fun i => Int32.ofNat (shp t w i)))) :: (la, La Z (lst 3 (fun i => EE (2 ^ w i)))) :: (xa, Ia Z (lst 3 (fun i => Int32.ofNat ((upv w p W) i)))) :: (sg, La Z []) :: (b150, La Z (lst (wcn t') RF150)) :: (a, Ob Z CSn NSS [.ref xa, .ref a121, .ref b137, .ref sl, .int (Int32.ofNat n), .ref b150, .int ef, .ref sg, .ref sh, .ref ss, .int 0]) :: (a121, Ob Z CYn NSY [.ref wa', .ref sa', .ref la', .int (Int32.ofNat (wcn t'))]) :: (wa', Ia Z (lst 3 (fun i => Int32.ofNat (wdp t' i)))) :: (sa', Ia Z (lst 3 (fun i => Int32.ofNat (shp t' (upv w p W) i)))) :: (la', La Z (lst 3 (fun i => EE (2 ^ (upv w p W) i)))) :: (ly, Ob Z CYn NSY [.ref wa, .ref sa, .ref la, .int (Int32.ofNat (wcn t))]) :: (wa, Ia Z (lst 3 (fun i => Int32.ofNat (wdp t i)))) :: (ed, La Z (lst (wcn t) EF)) :: (b137, La Z (lst 16 RF137)) :: (va, La Z (lst 16 VF)) :: (sl, Ia Z (lst 32 (fun s => Int32.ofNat (SL s)))) :: σ) := H154.pull 11 rfl
  have H156 : Hp n0 h151 ((wa, Ia Z (lst 3 (fun i => Int32.ofNat (wdp t i)))) :: (sa, Ia Z (lst 3 (fun i => Int32.ofNat (shp t w i)))) :: (la, La Z (lst 3 (fun i => EE (2 ^ w i)))) :: (xa, Ia Z (lst 3 (fun i => Int32.ofNat ((upv w p W) i)))) :: (sg, La Z []) :: (b150, La Z (lst (wcn t') RF150)) :: (a, Ob Z CSn NSS [.ref xa, .ref a121, .ref b137, .ref sl, .int (Int32.ofNat n), .ref b150, .int ef, .ref sg, .ref sh, .ref ss, .int 0]) :: (a121, Ob Z CYn NSY [.ref wa', .ref sa', .ref la', .int (Int32.ofNat (wcn t'))]) :: (wa', Ia Z (lst 3 (fun i => Int32.ofNat (wdp t' i)))) :: (sa', Ia Z (lst 3 (fun i => Int32.ofNat (shp t' (upv w p W) i)))) :: (la', La Z (lst 3 (fun i => EE (2 ^ (upv w p W) i)))) :: (ly, Ob Z CYn NSY [.ref wa, .ref sa, .ref la, .int (Int32.ofNat (wcn t))]) :: (ed, La Z (lst (wcn t) EF)) :: (b137, La Z (lst 16 RF137)) :: (va, La Z (lst 16 VF)) :: (sl, Ia Z (lst 32 (fun s => Int32.ofNat (SL s)))) :: σ) := H155.pull 11 rfl
  have H157 : Hp n0 h151 ((ly, Ob Z CYn NSY [.ref wa, .ref sa, .ref la, .int (Int32.ofNat (wcn t))]) :: (wa, Ia Z (lst 3 (fun i => Int32.ofNat (wdp t i)))) :: (sa, Ia Z (lst 3 (fun i => Int32.ofNat (shp t w i)))) :: (la, La Z (lst 3 (fun i => EE (2 ^ w i)))) :: (xa, Ia Z (lst 3 (fun i => Int32.ofNat ((upv w p W) i)))) :: (sg, La Z []) :: (b150, La Z (lst (wcn t') RF150)) :: (a, Ob Z CSn NSS [.ref xa, .ref a121, .ref b137, .ref sl, .int (Int32.ofNat n), .ref b150, .int ef, .ref sg, .ref sh, .ref ss, .int 0]) :: (a121, Ob Z CYn NSY [.ref wa', .ref sa', .ref la', .int (Int32.ofNat (wcn t'))]) :: (wa', Ia Z (lst 3 (fun i => Int32.ofNat (wdp t' i)))) :: (sa', Ia Z (lst 3 (fun i => Int32.ofNat (shp t' (upv w p W) i)))) :: (la', La Z (lst 3 (fun i => EE (2 ^ (upv w p W) i)))) :: (ed, La Z (lst (wcn t) EF)) :: (b137, La Z (lst 16 RF137)) :: (va, La Z (lst 16 VF)) :: (sl, Ia Z (lst 32 (fun s => Int32.ofNat (SL s)))) :: σ) := H156.pull 11 rfl
  have H158 : Hp n0 h151 ((la', La Z (lst 3 (fun i => EE (2 ^ (upv w p W) i)))) :: (ly, Ob Z CYn NSY [.ref wa, .ref sa, .ref la, .int (Int32.ofNat (wcn t))]) :: (wa, Ia Z (lst 3 (fun i => Int32.ofNat (wdp t i)))) :: (sa, Ia Z (lst 3 (fun i => Int32.ofNat (shp t w i)))) :: (la, La Z (lst 3 (fun i => EE (2 ^ w i)))) :: (xa, Ia Z (lst 3 (fun i => Int32.ofNat ((upv w p W) i)))) :: (sg, La Z []) :: (b150, La Z (lst (wcn t') RF150)) :: (a, Ob Z CSn NSS [.ref xa, .ref a121, .ref b137, .ref sl, .int (Int32.ofNat n), .ref b150, .int ef, .ref sg, .ref sh, .ref ss, .int 0]) :: (a121, Ob Z CYn NSY [.ref wa', .ref sa', .ref la', .int (Int32.ofNat (wcn t'))]) :: (wa', Ia Z (lst 3 (fun i => Int32.ofNat (wdp t' i)))) :: (sa', Ia Z (lst 3 (fun i => Int32.ofNat (shp t' (upv w p W) i)))) :: (ed, La Z (lst (wcn t) EF)) :: (b137, La Z (lst 16 RF137)) :: (va, La Z (lst 16 VF)) :: (sl, Ia Z (lst 32 (fun s => Int32.ofNat (SL s)))) :: σ) := H157.pull 11 rfl
  have H159 : Hp n0 h151 ((sa', Ia Z (lst 3 (fun i => Int32.ofNat (shp t' (upv w p W) i)))) :: (la', La Z (lst 3 (fun i => EE (2 ^ (upv w p W) i)))) :: (ly, Ob Z CYn NSY [.ref wa, .ref sa, .ref la, .int (Int32.ofNat (wcn t))]) :: (wa, Ia Z (lst 3 (fun i => Int32.ofNat (wdp t i)))) :: (sa, Ia Z (lst 3 (fun i => Int32.ofNat (shp t w i)))) :: (la, La Z (lst 3 (fun i => EE (2 ^ w i)))) :: (xa, Ia Z (lst 3 (fun i => Int32.ofNat ((upv w p W) i)))) :: (sg, La Z []) :: (b150, La Z (lst (wcn t') RF150)) :: (a, Ob Z CSn NSS [.ref xa, .ref a121, .ref b137, .ref sl, .int (Int32.ofNat n), .ref b150, .int ef, .ref sg, .ref sh, .ref ss, .int 0]) :: (a121, Ob Z CYn NSY [.ref wa', .ref sa', .ref la', .int (Int32.ofNat (wcn t'))]) :: (wa', Ia Z (lst 3 (fun i => Int32.ofNat (wdp t' i)))) :: (ed, La Z (lst (wcn t) EF)) :: (b137, La Z (lst 16 RF137)) :: (va, La Z (lst 16 VF)) :: (sl, Ia Z (lst 32 (fun s => Int32.ofNat (SL s)))) :: σ) := H158.pull 11 rfl
  have H160 : Hp n0 h151 ((wa', Ia Z (lst 3 (fun i => Int32.ofNat (wdp t' i)))) :: (sa', Ia Z (lst 3 (fun i => Int32.ofNat (shp t' (upv w p W) i)))) :: (la', La Z (lst 3 (fun i => EE (2 ^ (upv w p W) i)))) :: (ly, Ob Z CYn NSY [.ref wa, .ref sa, .ref la, .int (Int32.ofNat (wcn t))]) :: (wa, Ia Z (lst 3 (fun i => Int32.ofNat (wdp t i)))) :: (sa, Ia Z (lst 3 (fun i => Int32.ofNat (shp t w i)))) :: (la, La Z (lst 3 (fun i => EE (2 ^ w i)))) :: (xa, Ia Z (lst 3 (fun i => Int32.ofNat ((upv w p W) i)))) :: (sg, La Z []) :: (b150, La Z (lst (wcn t') RF150)) :: (a, Ob Z CSn NSS [.ref xa, .ref a121, .ref b137, .ref sl, .int (Int32.ofNat n), .ref b150, .int ef, .ref sg, .ref sh, .ref ss, .int 0]) :: (a121, Ob Z CYn NSY [.ref wa', .ref sa', .ref la', .int (Int32.ofNat (wcn t'))]) :: (ed, La Z (lst (wcn t) EF)) :: (b137, La Z (lst 16 RF137)) :: (va, La Z (lst 16 VF)) :: (sl, Ia Z (lst 32 (fun s => Int32.ofNat (SL s)))) :: σ) := H159.pull 11 rfl
  have H161 : Hp n0 h151 ((a121, Ob Z CYn NSY [.ref wa', .ref sa', .ref la', .int (Int32.ofNat (wcn t'))]) :: (wa', Ia Z (lst 3 (fun i => Int32.ofNat (wdp t' i)))) :: (sa', Ia Z (lst 3 (fun i => Int32.ofNat (shp t' (upv w p W) i)))) :: (la', La Z (lst 3 (fun i => EE (2 ^ (upv w p W) i)))) :: (ly, Ob Z CYn NSY [.ref wa, .ref sa, .ref la, .int (Int32.ofNat (wcn t))]) :: (wa, Ia Z (lst 3 (fun i => Int32.ofNat (wdp t i)))) :: (sa, Ia Z (lst 3 (fun i => Int32.ofNat (shp t w i)))) :: (la, La Z (lst 3 (fun i => EE (2 ^ w i)))) :: (xa, Ia Z (lst 3 (fun i => Int32.ofNat ((upv w p W) i)))) :: (sg, La Z []) :: (b150, La Z (lst (wcn t') RF150)) :: (a, Ob Z CSn NSS [.ref xa, .ref a121, .ref b137, .ref sl, .int (Int32.ofNat n), .ref b150, .int ef, .ref sg, .ref sh, .ref ss, .int 0]) :: (ed, La Z (lst (wcn t) EF)) :: (b137, La Z (lst 16 RF137)) :: (va, La Z (lst 16 VF)) :: (sl, Ia Z (lst 32 (fun s => Int32.ofNat (SL s)))) :: σ) := H160.pull 11 rfl
  have H162 : Hp n0 h151 ((a, Ob Z CSn NSS [.ref xa, .ref a121, .ref b137, .ref sl, .int (Int32.ofNat n), .ref b150, .int ef, .ref sg, .ref sh, .ref ss, .int 0]) :: (a121, Ob Z CYn NSY [.ref wa', .ref sa', .ref la', .int (Int32.ofNat (wcn t'))]) :: (wa', Ia Z (lst 3 (fun i => Int32.ofNat (wdp t' i)))) :: (sa', Ia Z (lst 3 (fun i => Int32.ofNat (shp t' (upv w p W) i)))) :: (la', La Z (lst 3 (fun i => EE (2 ^ (upv w p W) i)))) :: (ly, Ob Z CYn NSY [.ref wa, .ref sa, .ref la, .int (Int32.ofNat (wcn t))]) :: (wa, Ia Z (lst 3 (fun i => Int32.ofNat (wdp t i)))) :: (sa, Ia Z (lst 3 (fun i => Int32.ofNat (shp t w i)))) :: (la, La Z (lst 3 (fun i => EE (2 ^ w i)))) :: (xa, Ia Z (lst 3 (fun i => Int32.ofNat ((upv w p W) i)))) :: (sg, La Z []) :: (b150, La Z (lst (wcn t') RF150)) :: (ed, La Z (lst (wcn t) EF)) :: (b137, La Z (lst 16 RF137)) :: (va, La Z (lst 16 VF)) :: (sl, Ia Z (lst 32 (fun s => Int32.ofNat (SL s)))) :: σ) := H161.pull 11 rfl
  refine G.callP K hl (wd hw 94 rfl) (wd hw 96 rfl) (wd hw 3 rfl) (wd hw 95 rfl) (wd hw 4 rfl) (wd hw 97 rfl) (by decide) pd_11 (H162.exa (i := 0) rfl) (ct_repack l Z a0 hw n0 h151 a xa a121 b137 sl b150 sg sh ss wa' sa' la' ly wa sa la sg t' t (upv w p W) w (Int32.ofNat n) ef 0 0 0 0 vals (fun _ => 0) ((b150, La Z (lst (wcn t') RF150)) :: (ed, La Z (lst (wcn t) EF)) :: (b137, La Z (lst 16 RF137)) :: (va, La Z (lst 16 VF)) :: (sl, Ia Z (lst 32 (fun s => Int32.ofNat (SL s)))) :: σ) C.w1 hw1' trivial (fun j hj => absurd hj (by omega)) (fun j hj => absurd hj (by omega)) (fun j hj => absurd hj (by omega)) (by omega) (by omega) (by omega) (by omega) (by omega) H162) 1 rfl (by decide) (by decide) (by decide) (by decide) rfl rfl [.int 0, .ref ly, .int 0, .ref sg] rfl D98_9_112 ?_
  rintro _ h163 ⟨b163, RF163, rfl, R163, H163⟩
  change Hp n0 h163 ((b163, La Z []) :: (a, Ob Z CSn NSS [.ref xa, .ref a121, .ref b137, .ref sl, .int (Int32.ofNat n), .ref b150, .int ef, .ref sg, .ref sh, .ref ss, .int 0]) :: (a121, Ob Z CYn NSY [.ref wa', .ref sa', .ref la', .int (Int32.ofNat (wcn t'))]) :: (wa', Ia Z (lst 3 (fun i => Int32.ofNat (wdp t' i)))) :: (sa', Ia Z (lst 3 (fun i => Int32.ofNat (shp t' (upv w p W) i)))) :: (la', La Z (lst 3 (fun i => EE (2 ^ (upv w p W) i)))) :: (ly, Ob Z CYn NSY [.ref wa, .ref sa, .ref la, .int (Int32.ofNat (wcn t))]) :: (wa, Ia Z (lst 3 (fun i => Int32.ofNat (wdp t i)))) :: (sa, Ia Z (lst 3 (fun i => Int32.ofNat (shp t w i)))) :: (la, La Z (lst 3 (fun i => EE (2 ^ w i)))) :: (xa, Ia Z (lst 3 (fun i => Int32.ofNat ((upv w p W) i)))) :: (sg, La Z []) :: (b150, La Z (lst (wcn t') RF150)) :: (ed, La Z (lst (wcn t) EF)) :: (b137, La Z (lst 16 RF137)) :: (va, La Z (lst 16 VF)) :: (sl, Ia Z (lst 32 (fun s => Int32.ofNat (SL s)))) :: σ) at H163
  change G k n0 _ h163 _ _ 115 [.val (.ref a), .val (.int (Int32.ofNat p)), .val (.int (Int32.ofNat x)), .val (.ref ly), .unset] [.ref b163, .ref a]
  refine G.putF K (host := "") (Or.inl (wd hw 16 rfl)) (cf_NSS hw) (Or.inl (wd hw 17 rfl)) (wd hw 3 rfl) H163 (i := 1) rfl (j := 7) rfl rfl (ty := (.array .long)) (by decide) rfl rfl D98_9_115 ?_
  intro h164 H164
  change Hp n0 h164 ((b163, La Z []) :: (a, Ob Z CSn NSS [.ref xa, .ref a121, .ref b137, .ref sl, .int (Int32.ofNat n), .ref b150, .int ef, .ref b163, .ref sh, .ref ss, .int 0]) :: (a121, Ob Z CYn NSY [.ref wa', .ref sa', .ref la', .int (Int32.ofNat (wcn t'))]) :: (wa', Ia Z (lst 3 (fun i => Int32.ofNat (wdp t' i)))) :: (sa', Ia Z (lst 3 (fun i => Int32.ofNat (shp t' (upv w p W) i)))) :: (la', La Z (lst 3 (fun i => EE (2 ^ (upv w p W) i)))) :: (ly, Ob Z CYn NSY [.ref wa, .ref sa, .ref la, .int (Int32.ofNat (wcn t))]) :: (wa, Ia Z (lst 3 (fun i => Int32.ofNat (wdp t i)))) :: (sa, Ia Z (lst 3 (fun i => Int32.ofNat (shp t w i)))) :: (la, La Z (lst 3 (fun i => EE (2 ^ w i)))) :: (xa, Ia Z (lst 3 (fun i => Int32.ofNat ((upv w p W) i)))) :: (sg, La Z []) :: (b150, La Z (lst (wcn t') RF150)) :: (ed, La Z (lst (wcn t) EF)) :: (b137, La Z (lst 16 RF137)) :: (va, La Z (lst 16 VF)) :: (sl, Ia Z (lst 32 (fun s => Int32.ofNat (SL s)))) :: σ) at H164
  refine G.iconst K D98_9_118 0 rfl ?_
  refine G.istore K D98_9_119 ([.val (.ref a), .val (.int (Int32.ofNat p)), .val (.int (Int32.ofNat x)), .val (.ref ly), .val (.int 0)]) rfl ?_
  refine G.iload K D98_9_121 rfl ?_
  refine G.aloadN K D98_9_123 rfl rfl ?_
  refine G.getF K (host := "") (Or.inl (wd hw 114 rfl)) H164 (i := 1) rfl (j := 10) rfl rfl D98_9_124 ?_
  refine G.icmp_ge K D98_9_127 (fun _ => ?_) (fun q => absurd q (by decide))
  refine G.aloadN K D98_9_167 rfl rfl ?_
  refine G.aloadN K D98_9_168 rfl rfl ?_
  refine G.getF K (host := "") (Or.inl (wd hw 11 rfl)) H164 (i := 1) rfl (j := 3) rfl rfl D98_9_169 ?_
  refine G.alen K H164 (i := 16) rfl D98_9_172 32 (by rw [List.length_map, lst_len]; rfl) ?_
  have H166 : Hp n0 h164 ((b137, La Z (lst 16 RF137)) :: (b163, La Z []) :: (a, Ob Z CSn NSS [.ref xa, .ref a121, .ref b137, .ref sl, .int (Int32.ofNat n), .ref b150, .int ef, .ref b163, .ref sh, .ref ss, .int 0]) :: (a121, Ob Z CYn NSY [.ref wa', .ref sa', .ref la', .int (Int32.ofNat (wcn t'))]) :: (wa', Ia Z (lst 3 (fun i => Int32.ofNat (wdp t' i)))) :: (sa', Ia Z (lst 3 (fun i => Int32.ofNat (shp t' (upv w p W) i)))) :: (la', La Z (lst 3 (fun i => EE (2 ^ (upv w p W) i)))) :: (ly, Ob Z CYn NSY [.ref wa, .ref sa, .ref la, .int (Int32.ofNat (wcn t))]) :: (wa, Ia Z (lst 3 (fun i => Int32.ofNat (wdp t i)))) :: (sa, Ia Z (lst 3 (fun i => Int32.ofNat (shp t w i)))) :: (la, La Z (lst 3 (fun i => EE (2 ^ w i)))) :: (xa, Ia Z (lst 3 (fun i => Int32.ofNat ((upv w p W) i)))) :: (sg, La Z []) :: (b150, La Z (lst (wcn t') RF150)) :: (ed, La Z (lst (wcn t) EF)) :: (va, La Z (lst 16 VF)) :: (sl, Ia Z (lst 32 (fun s => Int32.ofNat (SL s)))) :: σ) := H164.pull 14 rfl
  have H167 : Hp n0 h164 ((a121, Ob Z CYn NSY [.ref wa', .ref sa', .ref la', .int (Int32.ofNat (wcn t'))]) :: (b137, La Z (lst 16 RF137)) :: (b163, La Z []) :: (a, Ob Z CSn NSS [.ref xa, .ref a121, .ref b137, .ref sl, .int (Int32.ofNat n), .ref b150, .int ef, .ref b163, .ref sh, .ref ss, .int 0]) :: (wa', Ia Z (lst 3 (fun i => Int32.ofNat (wdp t' i)))) :: (sa', Ia Z (lst 3 (fun i => Int32.ofNat (shp t' (upv w p W) i)))) :: (la', La Z (lst 3 (fun i => EE (2 ^ (upv w p W) i)))) :: (ly, Ob Z CYn NSY [.ref wa, .ref sa, .ref la, .int (Int32.ofNat (wcn t))]) :: (wa, Ia Z (lst 3 (fun i => Int32.ofNat (wdp t i)))) :: (sa, Ia Z (lst 3 (fun i => Int32.ofNat (shp t w i)))) :: (la, La Z (lst 3 (fun i => EE (2 ^ w i)))) :: (xa, Ia Z (lst 3 (fun i => Int32.ofNat ((upv w p W) i)))) :: (sg, La Z []) :: (b150, La Z (lst (wcn t') RF150)) :: (ed, La Z (lst (wcn t) EF)) :: (va, La Z (lst 16 VF)) :: (sl, Ia Z (lst 32 (fun s => Int32.ofNat (SL s)))) :: σ) := H166.pull 3 rfl
  have H168 : Hp n0 h164 ((a, Ob Z CSn NSS [.ref xa, .ref a121, .ref b137, .ref sl, .int (Int32.ofNat n), .ref b150, .int ef, .ref b163, .ref sh, .ref ss, .int 0]) :: (a121, Ob Z CYn NSY [.ref wa', .ref sa', .ref la', .int (Int32.ofNat (wcn t'))]) :: (b137, La Z (lst 16 RF137)) :: (b163, La Z []) :: (wa', Ia Z (lst 3 (fun i => Int32.ofNat (wdp t' i)))) :: (sa', Ia Z (lst 3 (fun i => Int32.ofNat (shp t' (upv w p W) i)))) :: (la', La Z (lst 3 (fun i => EE (2 ^ (upv w p W) i)))) :: (ly, Ob Z CYn NSY [.ref wa, .ref sa, .ref la, .int (Int32.ofNat (wcn t))]) :: (wa, Ia Z (lst 3 (fun i => Int32.ofNat (wdp t i)))) :: (sa, Ia Z (lst 3 (fun i => Int32.ofNat (shp t w i)))) :: (la, La Z (lst 3 (fun i => EE (2 ^ w i)))) :: (xa, Ia Z (lst 3 (fun i => Int32.ofNat ((upv w p W) i)))) :: (sg, La Z []) :: (b150, La Z (lst (wcn t') RF150)) :: (ed, La Z (lst (wcn t) EF)) :: (va, La Z (lst 16 VF)) :: (sl, Ia Z (lst 32 (fun s => Int32.ofNat (SL s)))) :: σ) := H167.pull 3 rfl
  refine G.callP K hl (wd hw 116 rfl) (wd hw 118 rfl) (wd hw 3 rfl) (wd hw 117 rfl) (wd hw 4 rfl) (wd hw 119 rfl) (by decide) pd_12 (H168.exa (i := 0) rfl) (ct_rebuild l Z a0 hw n0 h164 a xa a121 b137 sl b150 b163 sh ss wa' sa' la' t' n RF137 ef ((b163, La Z []) :: (wa', Ia Z (lst 3 (fun i => Int32.ofNat (wdp t' i)))) :: (sa', Ia Z (lst 3 (fun i => Int32.ofNat (shp t' (upv w p W) i)))) :: (la', La Z (lst 3 (fun i => EE (2 ^ (upv w p W) i)))) :: (ly, Ob Z CYn NSY [.ref wa, .ref sa, .ref la, .int (Int32.ofNat (wcn t))]) :: (wa, Ia Z (lst 3 (fun i => Int32.ofNat (wdp t i)))) :: (sa, Ia Z (lst 3 (fun i => Int32.ofNat (shp t w i)))) :: (la, La Z (lst 3 (fun i => EE (2 ^ w i)))) :: (xa, Ia Z (lst 3 (fun i => Int32.ofNat ((upv w p W) i)))) :: (sg, La Z []) :: (b150, La Z (lst (wcn t') RF150)) :: (ed, La Z (lst (wcn t) EF)) :: (va, La Z (lst 16 VF)) :: (sl, Ia Z (lst 32 (fun s => Int32.ofNat (SL s)))) :: σ) (by omega) (by omega) H168) 0 rfl (by decide) (by decide) (by decide) (by decide) rfl rfl [.int 32] rfl D98_9_173 ?_
  rintro _ h169 ⟨b169, SL169, rfl, T169, H169⟩
  change Hp n0 h169 ((b169, Ia Z (lst 32 (fun s => Int32.ofNat (SL169 s)))) :: (a, Ob Z CSn NSS [.ref xa, .ref a121, .ref b137, .ref b169, .int (Int32.ofNat n), .ref b150, .int ef, .ref b163, .ref sh, .ref ss, .int 0]) :: (a121, Ob Z CYn NSY [.ref wa', .ref sa', .ref la', .int (Int32.ofNat (wcn t'))]) :: (b137, La Z (lst 16 RF137)) :: (b163, La Z []) :: (wa', Ia Z (lst 3 (fun i => Int32.ofNat (wdp t' i)))) :: (sa', Ia Z (lst 3 (fun i => Int32.ofNat (shp t' (upv w p W) i)))) :: (la', La Z (lst 3 (fun i => EE (2 ^ (upv w p W) i)))) :: (ly, Ob Z CYn NSY [.ref wa, .ref sa, .ref la, .int (Int32.ofNat (wcn t))]) :: (wa, Ia Z (lst 3 (fun i => Int32.ofNat (wdp t i)))) :: (sa, Ia Z (lst 3 (fun i => Int32.ofNat (shp t w i)))) :: (la, La Z (lst 3 (fun i => EE (2 ^ w i)))) :: (xa, Ia Z (lst 3 (fun i => Int32.ofNat ((upv w p W) i)))) :: (sg, La Z []) :: (b150, La Z (lst (wcn t') RF150)) :: (ed, La Z (lst (wcn t) EF)) :: (va, La Z (lst 16 VF)) :: (sl, Ia Z (lst 32 (fun s => Int32.ofNat (SL s)))) :: σ) at H169
  change G k n0 _ h169 _ _ 176 [.val (.ref a), .val (.int (Int32.ofNat p)), .val (.int (Int32.ofNat x)), .val (.ref ly), .val (.int 0)] []
  refine G.ret_void K D98_9_176 ?_
  have H170 : Hp n0 h169 ((b150, La Z (lst (wcn t') RF150)) :: (b169, Ia Z (lst 32 (fun s => Int32.ofNat (SL169 s)))) :: (a, Ob Z CSn NSS [.ref xa, .ref a121, .ref b137, .ref b169, .int (Int32.ofNat n), .ref b150, .int ef, .ref b163, .ref sh, .ref ss, .int 0]) :: (a121, Ob Z CYn NSY [.ref wa', .ref sa', .ref la', .int (Int32.ofNat (wcn t'))]) :: (b137, La Z (lst 16 RF137)) :: (b163, La Z []) :: (wa', Ia Z (lst 3 (fun i => Int32.ofNat (wdp t' i)))) :: (sa', Ia Z (lst 3 (fun i => Int32.ofNat (shp t' (upv w p W) i)))) :: (la', La Z (lst 3 (fun i => EE (2 ^ (upv w p W) i)))) :: (ly, Ob Z CYn NSY [.ref wa, .ref sa, .ref la, .int (Int32.ofNat (wcn t))]) :: (wa, Ia Z (lst 3 (fun i => Int32.ofNat (wdp t i)))) :: (sa, Ia Z (lst 3 (fun i => Int32.ofNat (shp t w i)))) :: (la, La Z (lst 3 (fun i => EE (2 ^ w i)))) :: (xa, Ia Z (lst 3 (fun i => Int32.ofNat ((upv w p W) i)))) :: (sg, La Z []) :: (ed, La Z (lst (wcn t) EF)) :: (va, La Z (lst 16 VF)) :: (sl, Ia Z (lst 32 (fun s => Int32.ofNat (SL s)))) :: σ) := H169.pull 14 rfl
  have H171 : Hp n0 h169 ((b169, Ia Z (lst 32 (fun s => Int32.ofNat (SL169 s)))) :: (b150, La Z (lst (wcn t') RF150)) :: (a, Ob Z CSn NSS [.ref xa, .ref a121, .ref b137, .ref b169, .int (Int32.ofNat n), .ref b150, .int ef, .ref b163, .ref sh, .ref ss, .int 0]) :: (a121, Ob Z CYn NSY [.ref wa', .ref sa', .ref la', .int (Int32.ofNat (wcn t'))]) :: (b137, La Z (lst 16 RF137)) :: (b163, La Z []) :: (wa', Ia Z (lst 3 (fun i => Int32.ofNat (wdp t' i)))) :: (sa', Ia Z (lst 3 (fun i => Int32.ofNat (shp t' (upv w p W) i)))) :: (la', La Z (lst 3 (fun i => EE (2 ^ (upv w p W) i)))) :: (ly, Ob Z CYn NSY [.ref wa, .ref sa, .ref la, .int (Int32.ofNat (wcn t))]) :: (wa, Ia Z (lst 3 (fun i => Int32.ofNat (wdp t i)))) :: (sa, Ia Z (lst 3 (fun i => Int32.ofNat (shp t w i)))) :: (la, La Z (lst 3 (fun i => EE (2 ^ w i)))) :: (xa, Ia Z (lst 3 (fun i => Int32.ofNat ((upv w p W) i)))) :: (sg, La Z []) :: (ed, La Z (lst (wcn t) EF)) :: (va, La Z (lst 16 VF)) :: (sl, Ia Z (lst 32 (fun s => Int32.ofNat (SL s)))) :: σ) := H170.pull 1 rfl
  have H172 : Hp n0 h169 ((b137, La Z (lst 16 RF137)) :: (b169, Ia Z (lst 32 (fun s => Int32.ofNat (SL169 s)))) :: (b150, La Z (lst (wcn t') RF150)) :: (a, Ob Z CSn NSS [.ref xa, .ref a121, .ref b137, .ref b169, .int (Int32.ofNat n), .ref b150, .int ef, .ref b163, .ref sh, .ref ss, .int 0]) :: (a121, Ob Z CYn NSY [.ref wa', .ref sa', .ref la', .int (Int32.ofNat (wcn t'))]) :: (b163, La Z []) :: (wa', Ia Z (lst 3 (fun i => Int32.ofNat (wdp t' i)))) :: (sa', Ia Z (lst 3 (fun i => Int32.ofNat (shp t' (upv w p W) i)))) :: (la', La Z (lst 3 (fun i => EE (2 ^ (upv w p W) i)))) :: (ly, Ob Z CYn NSY [.ref wa, .ref sa, .ref la, .int (Int32.ofNat (wcn t))]) :: (wa, Ia Z (lst 3 (fun i => Int32.ofNat (wdp t i)))) :: (sa, Ia Z (lst 3 (fun i => Int32.ofNat (shp t w i)))) :: (la, La Z (lst 3 (fun i => EE (2 ^ w i)))) :: (xa, Ia Z (lst 3 (fun i => Int32.ofNat ((upv w p W) i)))) :: (sg, La Z []) :: (ed, La Z (lst (wcn t) EF)) :: (va, La Z (lst 16 VF)) :: (sl, Ia Z (lst 32 (fun s => Int32.ofNat (SL s)))) :: σ) := H171.pull 4 rfl
  have H173 : Hp n0 h169 ((xa, Ia Z (lst 3 (fun i => Int32.ofNat ((upv w p W) i)))) :: (b137, La Z (lst 16 RF137)) :: (b169, Ia Z (lst 32 (fun s => Int32.ofNat (SL169 s)))) :: (b150, La Z (lst (wcn t') RF150)) :: (a, Ob Z CSn NSS [.ref xa, .ref a121, .ref b137, .ref b169, .int (Int32.ofNat n), .ref b150, .int ef, .ref b163, .ref sh, .ref ss, .int 0]) :: (a121, Ob Z CYn NSY [.ref wa', .ref sa', .ref la', .int (Int32.ofNat (wcn t'))]) :: (b163, La Z []) :: (wa', Ia Z (lst 3 (fun i => Int32.ofNat (wdp t' i)))) :: (sa', Ia Z (lst 3 (fun i => Int32.ofNat (shp t' (upv w p W) i)))) :: (la', La Z (lst 3 (fun i => EE (2 ^ (upv w p W) i)))) :: (ly, Ob Z CYn NSY [.ref wa, .ref sa, .ref la, .int (Int32.ofNat (wcn t))]) :: (wa, Ia Z (lst 3 (fun i => Int32.ofNat (wdp t i)))) :: (sa, Ia Z (lst 3 (fun i => Int32.ofNat (shp t w i)))) :: (la, La Z (lst 3 (fun i => EE (2 ^ w i)))) :: (sg, La Z []) :: (ed, La Z (lst (wcn t) EF)) :: (va, La Z (lst 16 VF)) :: (sl, Ia Z (lst 32 (fun s => Int32.ofNat (SL s)))) :: σ) := H172.pull 13 rfl
  have H174 : Hp n0 h169 ((la', La Z (lst 3 (fun i => EE (2 ^ (upv w p W) i)))) :: (xa, Ia Z (lst 3 (fun i => Int32.ofNat ((upv w p W) i)))) :: (b137, La Z (lst 16 RF137)) :: (b169, Ia Z (lst 32 (fun s => Int32.ofNat (SL169 s)))) :: (b150, La Z (lst (wcn t') RF150)) :: (a, Ob Z CSn NSS [.ref xa, .ref a121, .ref b137, .ref b169, .int (Int32.ofNat n), .ref b150, .int ef, .ref b163, .ref sh, .ref ss, .int 0]) :: (a121, Ob Z CYn NSY [.ref wa', .ref sa', .ref la', .int (Int32.ofNat (wcn t'))]) :: (b163, La Z []) :: (wa', Ia Z (lst 3 (fun i => Int32.ofNat (wdp t' i)))) :: (sa', Ia Z (lst 3 (fun i => Int32.ofNat (shp t' (upv w p W) i)))) :: (ly, Ob Z CYn NSY [.ref wa, .ref sa, .ref la, .int (Int32.ofNat (wcn t))]) :: (wa, Ia Z (lst 3 (fun i => Int32.ofNat (wdp t i)))) :: (sa, Ia Z (lst 3 (fun i => Int32.ofNat (shp t w i)))) :: (la, La Z (lst 3 (fun i => EE (2 ^ w i)))) :: (sg, La Z []) :: (ed, La Z (lst (wcn t) EF)) :: (va, La Z (lst 16 VF)) :: (sl, Ia Z (lst 32 (fun s => Int32.ofNat (SL s)))) :: σ) := H173.pull 9 rfl
  have H175 : Hp n0 h169 ((sa', Ia Z (lst 3 (fun i => Int32.ofNat (shp t' (upv w p W) i)))) :: (la', La Z (lst 3 (fun i => EE (2 ^ (upv w p W) i)))) :: (xa, Ia Z (lst 3 (fun i => Int32.ofNat ((upv w p W) i)))) :: (b137, La Z (lst 16 RF137)) :: (b169, Ia Z (lst 32 (fun s => Int32.ofNat (SL169 s)))) :: (b150, La Z (lst (wcn t') RF150)) :: (a, Ob Z CSn NSS [.ref xa, .ref a121, .ref b137, .ref b169, .int (Int32.ofNat n), .ref b150, .int ef, .ref b163, .ref sh, .ref ss, .int 0]) :: (a121, Ob Z CYn NSY [.ref wa', .ref sa', .ref la', .int (Int32.ofNat (wcn t'))]) :: (b163, La Z []) :: (wa', Ia Z (lst 3 (fun i => Int32.ofNat (wdp t' i)))) :: (ly, Ob Z CYn NSY [.ref wa, .ref sa, .ref la, .int (Int32.ofNat (wcn t))]) :: (wa, Ia Z (lst 3 (fun i => Int32.ofNat (wdp t i)))) :: (sa, Ia Z (lst 3 (fun i => Int32.ofNat (shp t w i)))) :: (la, La Z (lst 3 (fun i => EE (2 ^ w i)))) :: (sg, La Z []) :: (ed, La Z (lst (wcn t) EF)) :: (va, La Z (lst 16 VF)) :: (sl, Ia Z (lst 32 (fun s => Int32.ofNat (SL s)))) :: σ) := H174.pull 9 rfl
  have H176 : Hp n0 h169 ((wa', Ia Z (lst 3 (fun i => Int32.ofNat (wdp t' i)))) :: (sa', Ia Z (lst 3 (fun i => Int32.ofNat (shp t' (upv w p W) i)))) :: (la', La Z (lst 3 (fun i => EE (2 ^ (upv w p W) i)))) :: (xa, Ia Z (lst 3 (fun i => Int32.ofNat ((upv w p W) i)))) :: (b137, La Z (lst 16 RF137)) :: (b169, Ia Z (lst 32 (fun s => Int32.ofNat (SL169 s)))) :: (b150, La Z (lst (wcn t') RF150)) :: (a, Ob Z CSn NSS [.ref xa, .ref a121, .ref b137, .ref b169, .int (Int32.ofNat n), .ref b150, .int ef, .ref b163, .ref sh, .ref ss, .int 0]) :: (a121, Ob Z CYn NSY [.ref wa', .ref sa', .ref la', .int (Int32.ofNat (wcn t'))]) :: (b163, La Z []) :: (ly, Ob Z CYn NSY [.ref wa, .ref sa, .ref la, .int (Int32.ofNat (wcn t))]) :: (wa, Ia Z (lst 3 (fun i => Int32.ofNat (wdp t i)))) :: (sa, Ia Z (lst 3 (fun i => Int32.ofNat (shp t w i)))) :: (la, La Z (lst 3 (fun i => EE (2 ^ w i)))) :: (sg, La Z []) :: (ed, La Z (lst (wcn t) EF)) :: (va, La Z (lst 16 VF)) :: (sl, Ia Z (lst 32 (fun s => Int32.ofNat (SL s)))) :: σ) := H175.pull 9 rfl
  have H177 : Hp n0 h169 ((a121, Ob Z CYn NSY [.ref wa', .ref sa', .ref la', .int (Int32.ofNat (wcn t'))]) :: (wa', Ia Z (lst 3 (fun i => Int32.ofNat (wdp t' i)))) :: (sa', Ia Z (lst 3 (fun i => Int32.ofNat (shp t' (upv w p W) i)))) :: (la', La Z (lst 3 (fun i => EE (2 ^ (upv w p W) i)))) :: (xa, Ia Z (lst 3 (fun i => Int32.ofNat ((upv w p W) i)))) :: (b137, La Z (lst 16 RF137)) :: (b169, Ia Z (lst 32 (fun s => Int32.ofNat (SL169 s)))) :: (b150, La Z (lst (wcn t') RF150)) :: (a, Ob Z CSn NSS [.ref xa, .ref a121, .ref b137, .ref b169, .int (Int32.ofNat n), .ref b150, .int ef, .ref b163, .ref sh, .ref ss, .int 0]) :: (b163, La Z []) :: (ly, Ob Z CYn NSY [.ref wa, .ref sa, .ref la, .int (Int32.ofNat (wcn t))]) :: (wa, Ia Z (lst 3 (fun i => Int32.ofNat (wdp t i)))) :: (sa, Ia Z (lst 3 (fun i => Int32.ofNat (shp t w i)))) :: (la, La Z (lst 3 (fun i => EE (2 ^ w i)))) :: (sg, La Z []) :: (ed, La Z (lst (wcn t) EF)) :: (va, La Z (lst 16 VF)) :: (sl, Ia Z (lst 32 (fun s => Int32.ofNat (SL s)))) :: σ) := H176.pull 8 rfl
  have H178 : Hp n0 h169 ((a, Ob Z CSn NSS [.ref xa, .ref a121, .ref b137, .ref b169, .int (Int32.ofNat n), .ref b150, .int ef, .ref b163, .ref sh, .ref ss, .int 0]) :: (a121, Ob Z CYn NSY [.ref wa', .ref sa', .ref la', .int (Int32.ofNat (wcn t'))]) :: (wa', Ia Z (lst 3 (fun i => Int32.ofNat (wdp t' i)))) :: (sa', Ia Z (lst 3 (fun i => Int32.ofNat (shp t' (upv w p W) i)))) :: (la', La Z (lst 3 (fun i => EE (2 ^ (upv w p W) i)))) :: (xa, Ia Z (lst 3 (fun i => Int32.ofNat ((upv w p W) i)))) :: (b137, La Z (lst 16 RF137)) :: (b169, Ia Z (lst 32 (fun s => Int32.ofNat (SL169 s)))) :: (b150, La Z (lst (wcn t') RF150)) :: (b163, La Z []) :: (ly, Ob Z CYn NSY [.ref wa, .ref sa, .ref la, .int (Int32.ofNat (wcn t))]) :: (wa, Ia Z (lst 3 (fun i => Int32.ofNat (wdp t i)))) :: (sa, Ia Z (lst 3 (fun i => Int32.ofNat (shp t w i)))) :: (la, La Z (lst 3 (fun i => EE (2 ^ w i)))) :: (sg, La Z []) :: (ed, La Z (lst (wcn t) EF)) :: (va, La Z (lst 16 VF)) :: (sl, Ia Z (lst 32 (fun s => Int32.ofNat (SL s)))) :: σ) := H177.pull 8 rfl
  have H179 : Hp n0 h169 ((a, Ob Z CSn NSS [.ref xa, .ref a121, .ref b137, .ref b169, .int (Int32.ofNat n), .ref b150, .int ef, .ref b163, .ref sh, .ref ss, .int 0]) :: (a121, Ob Z CYn NSY [.ref wa', .ref sa', .ref la', .int (Int32.ofNat (wcn t'))]) :: (wa', Ia Z (lst 3 (fun i => Int32.ofNat (wdp t' i)))) :: (sa', Ia Z (lst 3 (fun i => Int32.ofNat (shp t' (upv w p W) i)))) :: (la', La Z (lst 3 (fun i => EE (2 ^ (upv w p W) i)))) :: (xa, Ia Z (lst 3 (fun i => Int32.ofNat ((upv w p W) i)))) :: (b137, La Z (lst 16 RF137)) :: (b169, Ia Z (lst 32 (fun s => Int32.ofNat (SL169 s)))) :: (b150, La Z (lst (wcn t') RF150)) :: (b163, La Z []) :: σ) := H178.sub (List.Sublist.cons_cons _ (List.Sublist.cons_cons _ (List.Sublist.cons_cons _ (List.Sublist.cons_cons _ (List.Sublist.cons_cons _ (List.Sublist.cons_cons _ (List.Sublist.cons_cons _ (List.Sublist.cons_cons _ (List.Sublist.cons_cons _ (List.Sublist.cons_cons _ (List.Sublist.cons _ (List.Sublist.cons _ (List.Sublist.cons _ (List.Sublist.cons _ (List.Sublist.cons _ (List.Sublist.cons _ (List.Sublist.cons _ (List.Sublist.cons _ (List.Sublist.refl _)))))))))))))))))))
  exact ⟨_, _, _, _, _, _, _, _, t', (upv w p W), RF137, SL169, RF150, rfl, C.wide hp hwW hW32 hs R137 (fun k hk => by have := R150 0 (by decide) k hk; rw [Nat.zero_mul, Nat.zero_add] at this; exact this) T169, by unfold upv; rw [if_pos rfl]; exact hxW, H179⟩
theorem D98_5_0 : Dc prog_98_method_5_code 0 (.iload_n 2) 1 1 := dc (by decide +kernel) rfl
theorem D98_5_1 : Dc prog_98_method_5_code 1 (.i2l) 1 2 := dc (by decide +kernel) rfl
theorem D98_5_2 : Dc prog_98_method_5_code 2 (.aload_n 0) 1 3 := dc (by decide +kernel) rfl
theorem D98_5_3 : Dc prog_98_method_5_code 3 (.getfield 43) 3 6 := dc (by decide +kernel) rfl
theorem D98_5_6 : Dc prog_98_method_5_code 6 (.getfield 80) 3 9 := dc (by decide +kernel) rfl
theorem D98_5_9 : Dc prog_98_method_5_code 9 (.iload_n 1) 1 10 := dc (by decide +kernel) rfl
theorem D98_5_10 : Dc prog_98_method_5_code 10 (.laload) 1 11 := dc (by decide +kernel) rfl
theorem D98_5_11 : Dc prog_98_method_5_code 11 (.lcmp) 1 12 := dc (by decide +kernel) rfl
theorem D98_5_12 : Db prog_98_method_5_code 12 (.ifCond .lt) 15 21 := db (9) (by decide +kernel) rfl (by decide) (by decide)
theorem D98_5_15 : Dc prog_98_method_5_code 15 (.aload_n 0) 1 16 := dc (by decide +kernel) rfl
theorem D98_5_16 : Dc prog_98_method_5_code 16 (.iload_n 1) 1 17 := dc (by decide +kernel) rfl
theorem D98_5_17 : Dc prog_98_method_5_code 17 (.iload_n 2) 1 18 := dc (by decide +kernel) rfl
theorem D98_5_18 : Dc prog_98_method_5_code 18 (.invokevirtual 83) 3 21 := dc (by decide +kernel) rfl
theorem D98_5_21 : Dc prog_98_method_5_code 21 (.aload_n 0) 1 22 := dc (by decide +kernel) rfl
theorem D98_5_22 : Dc prog_98_method_5_code 22 (.getfield 43) 3 25 := dc (by decide +kernel) rfl
theorem D98_5_25 : Dc prog_98_method_5_code 25 (.getfield 86) 3 28 := dc (by decide +kernel) rfl
theorem D98_5_28 : Dc prog_98_method_5_code 28 (.iload_n 1) 1 29 := dc (by decide +kernel) rfl
theorem D98_5_29 : Dc prog_98_method_5_code 29 (.iaload) 1 30 := dc (by decide +kernel) rfl
theorem D98_5_30 : Dc prog_98_method_5_code 30 (.istore_n 3) 1 31 := dc (by decide +kernel) rfl
theorem D98_5_31 : Dc prog_98_method_5_code 31 (.aload_n 0) 1 32 := dc (by decide +kernel) rfl
theorem D98_5_32 : Dc prog_98_method_5_code 32 (.getfield 43) 3 35 := dc (by decide +kernel) rfl
theorem D98_5_35 : Dc prog_98_method_5_code 35 (.getfield 89) 3 38 := dc (by decide +kernel) rfl
theorem D98_5_38 : Dc prog_98_method_5_code 38 (.iload_n 1) 1 39 := dc (by decide +kernel) rfl
theorem D98_5_39 : Dc prog_98_method_5_code 39 (.iaload) 1 40 := dc (by decide +kernel) rfl
theorem D98_5_40 : Dc prog_98_method_5_code 40 (.istore 4) 2 42 := dc (by decide +kernel) rfl
theorem D98_5_42 : Dc prog_98_method_5_code 42 (.aload_n 0) 1 43 := dc (by decide +kernel) rfl
theorem D98_5_43 : Dc prog_98_method_5_code 43 (.getfield 53) 3 46 := dc (by decide +kernel) rfl
theorem D98_5_46 : Dc prog_98_method_5_code 46 (.iload_n 3) 1 47 := dc (by decide +kernel) rfl
theorem D98_5_47 : Dc prog_98_method_5_code 47 (.aload_n 0) 1 48 := dc (by decide +kernel) rfl
theorem D98_5_48 : Dc prog_98_method_5_code 48 (.getfield 53) 3 51 := dc (by decide +kernel) rfl
theorem D98_5_51 : Dc prog_98_method_5_code 51 (.iload_n 3) 1 52 := dc (by decide +kernel) rfl
theorem D98_5_52 : Dc prog_98_method_5_code 52 (.laload) 1 53 := dc (by decide +kernel) rfl
theorem D98_5_53 : Dc prog_98_method_5_code 53 (.aload_n 0) 1 54 := dc (by decide +kernel) rfl
theorem D98_5_54 : Dc prog_98_method_5_code 54 (.getfield 43) 3 57 := dc (by decide +kernel) rfl
theorem D98_5_57 : Dc prog_98_method_5_code 57 (.getfield 80) 3 60 := dc (by decide +kernel) rfl
theorem D98_5_60 : Dc prog_98_method_5_code 60 (.iload_n 1) 1 61 := dc (by decide +kernel) rfl
theorem D98_5_61 : Dc prog_98_method_5_code 61 (.laload) 1 62 := dc (by decide +kernel) rfl
theorem D98_5_62 : Dc prog_98_method_5_code 62 (.lconst 1) 1 63 := dc (by decide +kernel) rfl
theorem D98_5_63 : Dc prog_98_method_5_code 63 (.lsub) 1 64 := dc (by decide +kernel) rfl
theorem D98_5_64 : Dc prog_98_method_5_code 64 (.iload 4) 2 66 := dc (by decide +kernel) rfl
theorem D98_5_66 : Dc prog_98_method_5_code 66 (.lshl) 1 67 := dc (by decide +kernel) rfl
theorem D98_5_67 : Dc prog_98_method_5_code 67 (.ldc2_w 92) 3 70 := dc (by decide +kernel) rfl
theorem D98_5_70 : Dc prog_98_method_5_code 70 (.lxor) 1 71 := dc (by decide +kernel) rfl
theorem D98_5_71 : Dc prog_98_method_5_code 71 (.land) 1 72 := dc (by decide +kernel) rfl
theorem D98_5_72 : Dc prog_98_method_5_code 72 (.iload_n 2) 1 73 := dc (by decide +kernel) rfl
theorem D98_5_73 : Dc prog_98_method_5_code 73 (.i2l) 1 74 := dc (by decide +kernel) rfl
theorem D98_5_74 : Dc prog_98_method_5_code 74 (.iload 4) 2 76 := dc (by decide +kernel) rfl
theorem D98_5_76 : Dc prog_98_method_5_code 76 (.lshl) 1 77 := dc (by decide +kernel) rfl
theorem D98_5_77 : Dc prog_98_method_5_code 77 (.lor) 1 78 := dc (by decide +kernel) rfl
theorem D98_5_78 : Dc prog_98_method_5_code 78 (.lastore) 1 79 := dc (by decide +kernel) rfl
theorem D98_5_79 : Dc prog_98_method_5_code 79 (.return_) 1 80 := dc (by decide +kernel) rfl
set_option maxRecDepth 65536 in
set_option maxHeartbeats 40000000 in
theorem ct_set (l : Launch) (Z : State) (a0 : Array Value) (hw : ∀ d ∈ tables_1, d.before a0 Z = true) (n0 : Nat) (h : Heap) (a xa ly va sl ed sg sh ss wa sa la : Addr) (t : Bool) (w : Nat → Nat) (n : Nat) (vals : Nat → Nat → Nat) (e : Nat → Nat) (VF : Nat → Int64) (SL : Nat → Nat) (EF : Nat → Int64) (ef : Int32) (p x : Nat) (σ : List Ch) (C : Good 3 t w n vals e VF SL EF) (hn : n ≤ 3) (hp : p < 3) (hx31 : x < 2147483648) (H : Hp n0 h ((a, Ob Z CSn NSS [.ref xa, .ref ly, .ref va, .ref sl, .int (Int32.ofNat n), .ref ed, .int ef, .ref sg, .ref sh, .ref ss, .int 0]) :: (ly, Ob Z CYn NSY [.ref wa, .ref sa, .ref la, .int (Int32.ofNat (wcn t))]) :: (wa, Ia Z (lst 3 (fun i => Int32.ofNat (wdp t i)))) :: (sa, Ia Z (lst 3 (fun i => Int32.ofNat (shp t w i)))) :: (la, La Z (lst 3 (fun i => EE (2 ^ w i)))) :: (xa, Ia Z (lst 3 (fun i => Int32.ofNat (w i)))) :: (va, La Z (lst 16 VF)) :: (sl, Ia Z (lst 32 (fun s => Int32.ofNat (SL s)))) :: (ed, La Z (lst (wcn t) EF)) :: (sg, La Z []) :: σ)) :
    Ct l Z n0 (⟨"com/example/divergence/divergence/engine/StateStore", "set", "(II)V"⟩ : MethodName) prog_98_method_5_code 5 none ({ frames := 5, cells := 11, slots := 102, locals := 145 } : Room) [.ref a, .int (Int32.ofNat p), .int (Int32.ofNat x)] h (fun v h' => ∃ (ly va sl ed sg wa sa la : Addr) (t : Bool) (w : Nat → Nat) (VF : Nat → Int64) (SL : Nat → Nat) (EF : Nat → Int64), v = none ∧ Good 3 t w n vals (upv e p x) VF SL EF ∧ Hp n0 h' ((a, Ob Z CSn NSS [.ref xa, .ref ly, .ref va, .ref sl, .int (Int32.ofNat n), .ref ed, .int ef, .ref sg, .ref sh, .ref ss, .int 0]) :: (ly, Ob Z CYn NSY [.ref wa, .ref sa, .ref la, .int (Int32.ofNat (wcn t))]) :: (wa, Ia Z (lst 3 (fun i => Int32.ofNat (wdp t i)))) :: (sa, Ia Z (lst 3 (fun i => Int32.ofNat (shp t w i)))) :: (la, La Z (lst 3 (fun i => EE (2 ^ w i)))) :: (xa, Ia Z (lst 3 (fun i => Int32.ofNat (w i)))) :: (va, La Z (lst 16 VF)) :: (sl, Ia Z (lst 32 (fun s => Int32.ofNat (SL s)))) :: (ed, La Z (lst (wcn t) EF)) :: (sg, La Z []) :: σ)) := by
  refine Ct.intro (plainFor_of_name pn_0) [.val (.ref a), .val (.int (Int32.ofNat p)), .val (.int (Int32.ofNat x)), .unset, .unset] (fun m => by first | (simp [entryFrame, mkF, argsToLocals, Value.category]; done) | (simp [entryFrame, mkF, argsToLocals, Value.category, maxLocals]; done) | rfl) ?_
  intro k hl K
  replace K : Ok k Z n0 "com/example/divergence/divergence/engine/StateStore" ({ frames := 5, cells := 11, slots := 102, locals := 145 } : Room) prog_98_method_5_code 5 none "set" := K
  have join : ∀ (h2 : Heap) (ly' va' sl' ed' sg' wa' sa' la' : Addr) (t' : Bool) (w' : Nat → Nat) (VF' : Nat → Int64) (SL' : Nat → Nat) (EF' : Nat → Int64), Good 3 t' w' n vals e VF' SL' EF' → x < 2 ^ w' p → Hp n0 h2 ((a, Ob Z CSn NSS [.ref xa, .ref ly', .ref va', .ref sl', .int (Int32.ofNat n), .ref ed', .int ef, .ref sg', .ref sh, .ref ss, .int 0]) :: (ly', Ob Z CYn NSY [.ref wa', .ref sa', .ref la', .int (Int32.ofNat (wcn t'))]) :: (wa', Ia Z (lst 3 (fun i => Int32.ofNat (wdp t' i)))) :: (sa', Ia Z (lst 3 (fun i => Int32.ofNat (shp t' w' i)))) :: (la', La Z (lst 3 (fun i => EE (2 ^ w' i)))) :: (xa, Ia Z (lst 3 (fun i => Int32.ofNat (w' i)))) :: (va', La Z (lst 16 VF')) :: (sl', Ia Z (lst 32 (fun s => Int32.ofNat (SL' s)))) :: (ed', La Z (lst (wcn t') EF')) :: (sg', La Z []) :: σ) → G k n0 (fun v h' => ∃ (ly va sl ed sg wa sa la : Addr) (t : Bool) (w : Nat → Nat) (VF : Nat → Int64) (SL : Nat → Nat) (EF : Nat → Int64), v = none ∧ Good 3 t w n vals (upv e p x) VF SL EF ∧ Hp n0 h' ((a, Ob Z CSn NSS [.ref xa, .ref ly, .ref va, .ref sl, .int (Int32.ofNat n), .ref ed, .int ef, .ref sg, .ref sh, .ref ss, .int 0]) :: (ly, Ob Z CYn NSY [.ref wa, .ref sa, .ref la, .int (Int32.ofNat (wcn t))]) :: (wa, Ia Z (lst 3 (fun i => Int32.ofNat (wdp t i)))) :: (sa, Ia Z (lst 3 (fun i => Int32.ofNat (shp t w i)))) :: (la, La Z (lst 3 (fun i => EE (2 ^ w i)))) :: (xa, Ia Z (lst 3 (fun i => Int32.ofNat (w i)))) :: (va, La Z (lst 16 VF)) :: (sl, Ia Z (lst 32 (fun s => Int32.ofNat (SL s)))) :: (ed, La Z (lst (wcn t) EF)) :: (sg, La Z []) :: σ)) h2 11 102 21 [.val (.ref a), .val (.int (Int32.ofNat p)), .val (.int (Int32.ofNat x)), .unset, .unset] [] := by
    intro h2 ly' va' sl' ed' sg' wa' sa' la' t' w' VF' SL' EF' C' hx' H2
    have hwd := wdp_lt t' p
    have hc2 := wcn_le t'
    have hoo := (C'.oke.1 p (by omega)).2.2
    refine G.aloadN K D98_5_21 rfl rfl ?_
    refine G.getF K (host := "") (Or.inl (wd hw 43 rfl)) H2 (i := 0) rfl (j := 1) rfl rfl D98_5_22 ?_
    refine G.getFR K (wd hw 64 rfl) H2 (i := 1) rfl (j := 0) rfl rfl D98_5_25 ?_
    refine G.iloadN K D98_5_28 rfl ?_
    refine G.aload_i K H2 (i := 2) rfl (own_nneg (by omega)) (by rw [own_nidx (by omega)]; exact lst_get _ (by omega)) D98_5_29 ?_
    refine G.istoreN K D98_5_30 ([.val (.ref a), .val (.int (Int32.ofNat p)), .val (.int (Int32.ofNat x)), .val (.int (Int32.ofNat (wdp t' p))), .unset]) rfl ?_
    refine G.aloadN K D98_5_31 rfl rfl ?_
    refine G.getF K (host := "") (Or.inl (wd hw 43 rfl)) H2 (i := 0) rfl (j := 1) rfl rfl D98_5_32 ?_
    refine G.getFR K (wd hw 65 rfl) H2 (i := 1) rfl (j := 1) rfl rfl D98_5_35 ?_
    refine G.iloadN K D98_5_38 rfl ?_
    refine G.aload_i K H2 (i := 3) rfl (own_nneg (by omega)) (by rw [own_nidx (by omega)]; exact lst_get _ (by omega)) D98_5_39 ?_
    refine G.istore K D98_5_40 ([.val (.ref a), .val (.int (Int32.ofNat p)), .val (.int (Int32.ofNat x)), .val (.int (Int32.ofNat (wdp t' p))), .val (.int (Int32.ofNat (shp t' w' p)))]) rfl ?_
    refine G.aloadN K D98_5_42 rfl rfl ?_
    refine G.getF K (host := "") (Or.inl (wd hw 48 rfl)) H2 (i := 0) rfl (j := 5) rfl rfl D98_5_43 ?_
    refine G.iloadN K D98_5_46 rfl ?_
    refine G.aloadN K D98_5_47 rfl rfl ?_
    refine G.getF K (host := "") (Or.inl (wd hw 48 rfl)) H2 (i := 0) rfl (j := 5) rfl rfl D98_5_48 ?_
    refine G.iloadN K D98_5_51 rfl ?_
    refine G.aload_l K H2 (i := 8) rfl (own_nneg (by omega)) (by rw [own_nidx (by omega), lst_get _ hwd, C'.edi _ hwd]) D98_5_52 ?_
    refine G.aloadN K D98_5_53 rfl rfl ?_
    refine G.getF K (host := "") (Or.inl (wd hw 43 rfl)) H2 (i := 0) rfl (j := 1) rfl rfl D98_5_54 ?_
    refine G.getFR K (wd hw 63 rfl) H2 (i := 1) rfl (j := 2) rfl rfl D98_5_57 ?_
    refine G.iloadN K D98_5_60 rfl ?_
    refine G.aload_l K H2 (i := 4) rfl (own_nneg (by omega)) (by rw [own_nidx (by omega)]; exact lst_get _ (by omega)) D98_5_61 ?_
    refine G.lconst K D98_5_62 1 rfl ?_
    refine G.lsub K D98_5_63 ?_
    refine G.iload K D98_5_64 rfl ?_
    refine G.lshl K D98_5_66 ?_
    refine G.ldc2J K D98_5_67 (wd hw 66 rfl) ?_
    refine G.lxor K D98_5_70 ?_
    refine G.land K D98_5_71 ?_
    refine G.iloadN K D98_5_72 rfl ?_
    refine G.i2l K D98_5_73 ?_
    refine G.iload K D98_5_74 rfl ?_
    refine G.lshl K D98_5_76 ?_
    refine G.lor K D98_5_77 ?_
    rw [enc_set C'.oke (by omega) (C'.w1 p hp) hx' hx31]
    refine G.astore_l K H2 (i := 8) rfl (own_nneg (by omega)) (by rw [own_nidx (by omega), lst_len]; exact hwd) D98_5_78 ?_
    intro h180 H180
    rw [own_nidx (by omega), lst_set _ hwd] at H180
    change Hp n0 h180 ((a, Ob Z CSn NSS [.ref xa, .ref ly', .ref va', .ref sl', .int (Int32.ofNat n), .ref ed', .int ef, .ref sg', .ref sh, .ref ss, .int 0]) :: (ly', Ob Z CYn NSY [.ref wa', .ref sa', .ref la', .int (Int32.ofNat (wcn t'))]) :: (wa', Ia Z (lst 3 (fun i => Int32.ofNat (wdp t' i)))) :: (sa', Ia Z (lst 3 (fun i => Int32.ofNat (shp t' w' i)))) :: (la', La Z (lst 3 (fun i => EE (2 ^ w' i)))) :: (xa, Ia Z (lst 3 (fun i => Int32.ofNat (w' i)))) :: (va', La Z (lst 16 VF')) :: (sl', Ia Z (lst 32 (fun s => Int32.ofNat (SL' s)))) :: (ed', La Z (lst (wcn t') (fup EF' (wdp t' p) (EE (enc t' w' (upv e p x) (wdp t' p)))))) :: (sg', La Z []) :: σ) at H180
    refine G.ret_void K D98_5_79 ?_
    exact ⟨_, _, _, _, _, _, _, _, _, _, _, _, _, rfl, C'.set hp hx' hx31, H180⟩
  refine G.iloadN K D98_5_0 rfl ?_
  refine G.i2l K D98_5_1 ?_
  rw [val_EE hx31]
  refine G.aloadN K D98_5_2 rfl rfl ?_
  refine G.getF K (host := "") (Or.inl (wd hw 43 rfl)) H (i := 0) rfl (j := 1) rfl rfl D98_5_3 ?_
  refine G.getFR K (wd hw 63 rfl) H (i := 1) rfl (j := 2) rfl rfl D98_5_6 ?_
  refine G.iloadN K D98_5_9 rfl ?_
  refine G.aload_l K H (i := 4) rfl (own_nneg (by omega)) (by rw [own_nidx (by omega)]; exact lst_get _ (by omega)) D98_5_10 ?_
  refine G.lcmp_lt K D98_5_11 D98_5_12 (fun q181 => ?_) (fun q181 => ?_)
  · exact G.more K (join _ ly va sl ed sg wa sa la t w VF SL EF C ((lim_lt hx31 (C.oke.1 p (by omega)).2.2).mp q181) H) (by decide) (by decide) (by decide) (by decide)
  · refine G.aloadN K D98_5_15 rfl rfl ?_
    refine G.iloadN K D98_5_16 rfl ?_
    refine G.iloadN K D98_5_17 rfl ?_
    refine G.callP K hl (wd hw 67 rfl) (wd hw 69 rfl) (wd hw 3 rfl) (wd hw 68 rfl) (wd hw 4 rfl) (wd hw 70 rfl) (by decide) pd_13 (H.exa (i := 0) rfl) (ct_widen l Z a0 hw n0 h a xa ly va sl ed sg sh ss wa sa la t w n vals e VF SL EF ef p x (σ) C hn hp (Nat.le_of_not_lt fun z => q181 ((lim_lt hx31 (C.oke.1 p (by omega)).2.2).mpr z)) hx31 H) 0 rfl (by decide) (by decide) (by decide) (by decide) rfl rfl [.int (Int32.ofNat x), .int (Int32.ofNat p)] rfl D98_5_18 ?_
    rintro _ h182 ⟨ly182, va182, sl182, ed182, sg182, wa182, sa182, la182, t182, w182, VF182, SL182, EF182, rfl, C182, X182, H182⟩
    change Hp n0 h182 ((a, Ob Z CSn NSS [.ref xa, .ref ly182, .ref va182, .ref sl182, .int (Int32.ofNat n), .ref ed182, .int ef, .ref sg182, .ref sh, .ref ss, .int 0]) :: (ly182, Ob Z CYn NSY [.ref wa182, .ref sa182, .ref la182, .int (Int32.ofNat (wcn t182))]) :: (wa182, Ia Z (lst 3 (fun i => Int32.ofNat (wdp t182 i)))) :: (sa182, Ia Z (lst 3 (fun i => Int32.ofNat (shp t182 w182 i)))) :: (la182, La Z (lst 3 (fun i => EE (2 ^ w182 i)))) :: (xa, Ia Z (lst 3 (fun i => Int32.ofNat (w182 i)))) :: (va182, La Z (lst 16 VF182)) :: (sl182, Ia Z (lst 32 (fun s => Int32.ofNat (SL182 s)))) :: (ed182, La Z (lst (wcn t182) EF182)) :: (sg182, La Z []) :: σ) at H182
    change G k n0 _ h182 _ _ 21 [.val (.ref a), .val (.int (Int32.ofNat p)), .val (.int (Int32.ofNat x)), .unset, .unset] []
    exact join _ ly182 va182 sl182 ed182 sg182 wa182 sa182 la182 t182 w182 VF182 SL182 EF182 C182 X182 H182
theorem D98_8_0 : Dc prog_98_method_8_code 0 (.aload_n 0) 1 1 := dc (by decide +kernel) rfl
theorem D98_8_1 : Dc prog_98_method_8_code 1 (.getfield 43) 3 4 := dc (by decide +kernel) rfl
theorem D98_8_4 : Dc prog_98_method_8_code 4 (.getfield 47) 3 7 := dc (by decide +kernel) rfl
theorem D98_8_7 : Dc prog_98_method_8_code 7 (.istore 4) 2 9 := dc (by decide +kernel) rfl
theorem D98_8_9 : Dc prog_98_method_8_code 9 (.aload_n 0) 1 10 := dc (by decide +kernel) rfl
theorem D98_8_10 : Dc prog_98_method_8_code 10 (.getfield 9) 3 13 := dc (by decide +kernel) rfl
theorem D98_8_13 : Dc prog_98_method_8_code 13 (.arraylength) 1 14 := dc (by decide +kernel) rfl
theorem D98_8_14 : Dc prog_98_method_8_code 14 (.iconst 1) 1 15 := dc (by decide +kernel) rfl
theorem D98_8_15 : Dc prog_98_method_8_code 15 (.isub) 1 16 := dc (by decide +kernel) rfl
theorem D98_8_16 : Dc prog_98_method_8_code 16 (.istore 5) 2 18 := dc (by decide +kernel) rfl
theorem D98_8_18 : Dc prog_98_method_8_code 18 (.iload_n 3) 1 19 := dc (by decide +kernel) rfl
theorem D98_8_19 : Dc prog_98_method_8_code 19 (.iload 5) 2 21 := dc (by decide +kernel) rfl
theorem D98_8_21 : Dc prog_98_method_8_code 21 (.iand) 1 22 := dc (by decide +kernel) rfl
theorem D98_8_22 : Dc prog_98_method_8_code 22 (.istore 6) 2 24 := dc (by decide +kernel) rfl
theorem D98_8_24 : Dc prog_98_method_8_code 24 (.aload_n 0) 1 25 := dc (by decide +kernel) rfl
theorem D98_8_25 : Dc prog_98_method_8_code 25 (.getfield 9) 3 28 := dc (by decide +kernel) rfl
theorem D98_8_28 : Dc prog_98_method_8_code 28 (.iload 6) 2 30 := dc (by decide +kernel) rfl
theorem D98_8_30 : Dc prog_98_method_8_code 30 (.iaload) 1 31 := dc (by decide +kernel) rfl
theorem D98_8_31 : Dc prog_98_method_8_code 31 (.istore 7) 2 33 := dc (by decide +kernel) rfl
theorem D98_8_33 : Dc prog_98_method_8_code 33 (.iload 7) 2 35 := dc (by decide +kernel) rfl
theorem D98_8_35 : Db prog_98_method_8_code 35 (.ifCond .eq) 38 116 := db (81) (by decide +kernel) rfl (by decide) (by decide)
theorem D98_8_38 : Dc prog_98_method_8_code 38 (.iload 7) 2 40 := dc (by decide +kernel) rfl
theorem D98_8_40 : Dc prog_98_method_8_code 40 (.iconst 1) 1 41 := dc (by decide +kernel) rfl
theorem D98_8_41 : Dc prog_98_method_8_code 41 (.isub) 1 42 := dc (by decide +kernel) rfl
theorem D98_8_42 : Dc prog_98_method_8_code 42 (.iload 4) 2 44 := dc (by decide +kernel) rfl
theorem D98_8_44 : Dc prog_98_method_8_code 44 (.imul) 1 45 := dc (by decide +kernel) rfl
theorem D98_8_45 : Dc prog_98_method_8_code 45 (.istore 8) 2 47 := dc (by decide +kernel) rfl
theorem D98_8_47 : Dc prog_98_method_8_code 47 (.iconst 0) 1 48 := dc (by decide +kernel) rfl
theorem D98_8_48 : Dc prog_98_method_8_code 48 (.istore 9) 2 50 := dc (by decide +kernel) rfl
theorem D98_8_50 : Dc prog_98_method_8_code 50 (.iload 9) 2 52 := dc (by decide +kernel) rfl
theorem D98_8_52 : Dc prog_98_method_8_code 52 (.iload 4) 2 54 := dc (by decide +kernel) rfl
theorem D98_8_54 : Db prog_98_method_8_code 54 (.if_icmp .ge) 57 83 := db (29) (by decide +kernel) rfl (by decide) (by decide)
theorem D98_8_57 : Dc prog_98_method_8_code 57 (.aload_n 0) 1 58 := dc (by decide +kernel) rfl
theorem D98_8_58 : Dc prog_98_method_8_code 58 (.getfield 50) 3 61 := dc (by decide +kernel) rfl
theorem D98_8_61 : Dc prog_98_method_8_code 61 (.iload 8) 2 63 := dc (by decide +kernel) rfl
theorem D98_8_63 : Dc prog_98_method_8_code 63 (.iload 9) 2 65 := dc (by decide +kernel) rfl
theorem D98_8_65 : Dc prog_98_method_8_code 65 (.iadd) 1 66 := dc (by decide +kernel) rfl
theorem D98_8_66 : Dc prog_98_method_8_code 66 (.laload) 1 67 := dc (by decide +kernel) rfl
theorem D98_8_67 : Dc prog_98_method_8_code 67 (.aload_n 1) 1 68 := dc (by decide +kernel) rfl
theorem D98_8_68 : Dc prog_98_method_8_code 68 (.iload_n 2) 1 69 := dc (by decide +kernel) rfl
theorem D98_8_69 : Dc prog_98_method_8_code 69 (.iload 9) 2 71 := dc (by decide +kernel) rfl
theorem D98_8_71 : Dc prog_98_method_8_code 71 (.iadd) 1 72 := dc (by decide +kernel) rfl
theorem D98_8_72 : Dc prog_98_method_8_code 72 (.laload) 1 73 := dc (by decide +kernel) rfl
theorem D98_8_73 : Dc prog_98_method_8_code 73 (.lcmp) 1 74 := dc (by decide +kernel) rfl
theorem D98_8_74 : Db prog_98_method_8_code 74 (.ifCond .ne) 77 83 := db (9) (by decide +kernel) rfl (by decide) (by decide)
theorem D98_8_77 : Dc prog_98_method_8_code 77 (.iinc 9 1) 3 80 := dc (by decide +kernel) rfl
theorem D98_8_80 : Db prog_98_method_8_code 80 (.goto) 83 50 := db (-30) (by decide +kernel) rfl (by decide) (by decide)
theorem D98_8_83 : Dc prog_98_method_8_code 83 (.iload 9) 2 85 := dc (by decide +kernel) rfl
theorem D98_8_85 : Dc prog_98_method_8_code 85 (.iload 4) 2 87 := dc (by decide +kernel) rfl
theorem D98_8_87 : Db prog_98_method_8_code 87 (.if_icmp .ne) 90 95 := db (8) (by decide +kernel) rfl (by decide) (by decide)
theorem D98_8_90 : Dc prog_98_method_8_code 90 (.iload 7) 2 92 := dc (by decide +kernel) rfl
theorem D98_8_92 : Dc prog_98_method_8_code 92 (.iconst 1) 1 93 := dc (by decide +kernel) rfl
theorem D98_8_93 : Dc prog_98_method_8_code 93 (.isub) 1 94 := dc (by decide +kernel) rfl
theorem D98_8_94 : Dc prog_98_method_8_code 94 (.ireturn) 1 95 := dc (by decide +kernel) rfl
theorem D98_8_95 : Dc prog_98_method_8_code 95 (.iload 6) 2 97 := dc (by decide +kernel) rfl
theorem D98_8_97 : Dc prog_98_method_8_code 97 (.iconst 1) 1 98 := dc (by decide +kernel) rfl
theorem D98_8_98 : Dc prog_98_method_8_code 98 (.iadd) 1 99 := dc (by decide +kernel) rfl
theorem D98_8_99 : Dc prog_98_method_8_code 99 (.iload 5) 2 101 := dc (by decide +kernel) rfl
theorem D98_8_101 : Dc prog_98_method_8_code 101 (.iand) 1 102 := dc (by decide +kernel) rfl
theorem D98_8_102 : Dc prog_98_method_8_code 102 (.istore 6) 2 104 := dc (by decide +kernel) rfl
theorem D98_8_104 : Dc prog_98_method_8_code 104 (.aload_n 0) 1 105 := dc (by decide +kernel) rfl
theorem D98_8_105 : Dc prog_98_method_8_code 105 (.getfield 9) 3 108 := dc (by decide +kernel) rfl
theorem D98_8_108 : Dc prog_98_method_8_code 108 (.iload 6) 2 110 := dc (by decide +kernel) rfl
theorem D98_8_110 : Dc prog_98_method_8_code 110 (.iaload) 1 111 := dc (by decide +kernel) rfl
theorem D98_8_111 : Dc prog_98_method_8_code 111 (.istore 7) 2 113 := dc (by decide +kernel) rfl
theorem D98_8_113 : Db prog_98_method_8_code 113 (.goto) 116 33 := db (-80) (by decide +kernel) rfl (by decide) (by decide)
theorem D98_8_116 : Dc prog_98_method_8_code 116 (.aload_n 0) 1 117 := dc (by decide +kernel) rfl
theorem D98_8_117 : Dc prog_98_method_8_code 117 (.getfield 118) 3 120 := dc (by decide +kernel) rfl
theorem D98_8_120 : Dc prog_98_method_8_code 120 (.istore 7) 2 122 := dc (by decide +kernel) rfl
theorem D98_8_122 : Dc prog_98_method_8_code 122 (.iload 7) 2 124 := dc (by decide +kernel) rfl
theorem D98_8_124 : Dc prog_98_method_8_code 124 (.iconst 1) 1 125 := dc (by decide +kernel) rfl
theorem D98_8_125 : Dc prog_98_method_8_code 125 (.iadd) 1 126 := dc (by decide +kernel) rfl
theorem D98_8_126 : Dc prog_98_method_8_code 126 (.i2l) 1 127 := dc (by decide +kernel) rfl
theorem D98_8_127 : Dc prog_98_method_8_code 127 (.iload 4) 2 129 := dc (by decide +kernel) rfl
theorem D98_8_129 : Dc prog_98_method_8_code 129 (.i2l) 1 130 := dc (by decide +kernel) rfl
theorem D98_8_130 : Dc prog_98_method_8_code 130 (.lmul) 1 131 := dc (by decide +kernel) rfl
theorem D98_8_131 : Dc prog_98_method_8_code 131 (.aload_n 0) 1 132 := dc (by decide +kernel) rfl
theorem D98_8_132 : Dc prog_98_method_8_code 132 (.getfield 50) 3 135 := dc (by decide +kernel) rfl
theorem D98_8_135 : Dc prog_98_method_8_code 135 (.arraylength) 1 136 := dc (by decide +kernel) rfl
theorem D98_8_136 : Dc prog_98_method_8_code 136 (.i2l) 1 137 := dc (by decide +kernel) rfl
theorem D98_8_137 : Dc prog_98_method_8_code 137 (.lcmp) 1 138 := dc (by decide +kernel) rfl
theorem D98_8_138 : Db prog_98_method_8_code 138 (.ifCond .le) 141 174 := db (36) (by decide +kernel) rfl (by decide) (by decide)
theorem D98_8_141 : Dc prog_98_method_8_code 141 (.aload_n 0) 1 142 := dc (by decide +kernel) rfl
theorem D98_8_142 : Dc prog_98_method_8_code 142 (.aload_n 0) 1 143 := dc (by decide +kernel) rfl
theorem D98_8_143 : Dc prog_98_method_8_code 143 (.getfield 50) 3 146 := dc (by decide +kernel) rfl
theorem D98_8_146 : Dc prog_98_method_8_code 146 (.aload_n 0) 1 147 := dc (by decide +kernel) rfl
theorem D98_8_147 : Dc prog_98_method_8_code 147 (.ldc2_w 121) 3 150 := dc (by decide +kernel) rfl
theorem D98_8_150 : Dc prog_98_method_8_code 150 (.aload_n 0) 1 151 := dc (by decide +kernel) rfl
theorem D98_8_151 : Dc prog_98_method_8_code 151 (.getfield 50) 3 154 := dc (by decide +kernel) rfl
theorem D98_8_154 : Dc prog_98_method_8_code 154 (.arraylength) 1 155 := dc (by decide +kernel) rfl
theorem D98_8_155 : Dc prog_98_method_8_code 155 (.i2l) 1 156 := dc (by decide +kernel) rfl
theorem D98_8_156 : Dc prog_98_method_8_code 156 (.lmul) 1 157 := dc (by decide +kernel) rfl
theorem D98_8_157 : Dc prog_98_method_8_code 157 (.ldc2_w 123) 3 160 := dc (by decide +kernel) rfl
theorem D98_8_160 : Dc prog_98_method_8_code 160 (.ldiv) 1 161 := dc (by decide +kernel) rfl
theorem D98_8_161 : Dc prog_98_method_8_code 161 (.iload 7) 2 163 := dc (by decide +kernel) rfl
theorem D98_8_163 : Dc prog_98_method_8_code 163 (.iconst 1) 1 164 := dc (by decide +kernel) rfl
theorem D98_8_164 : Dc prog_98_method_8_code 164 (.iadd) 1 165 := dc (by decide +kernel) rfl
theorem D98_8_165 : Dc prog_98_method_8_code 165 (.invokevirtual 125) 3 168 := dc (by decide +kernel) rfl
theorem D98_8_168 : Dc prog_98_method_8_code 168 (.invokestatic 103) 3 171 := dc (by decide +kernel) rfl
theorem D98_8_171 : Dc prog_98_method_8_code 171 (.putfield 50) 3 174 := dc (by decide +kernel) rfl
theorem D98_8_174 : Dc prog_98_method_8_code 174 (.aload_n 1) 1 175 := dc (by decide +kernel) rfl
theorem D98_8_175 : Dc prog_98_method_8_code 175 (.iload_n 2) 1 176 := dc (by decide +kernel) rfl
theorem D98_8_176 : Dc prog_98_method_8_code 176 (.aload_n 0) 1 177 := dc (by decide +kernel) rfl
theorem D98_8_177 : Dc prog_98_method_8_code 177 (.getfield 50) 3 180 := dc (by decide +kernel) rfl
theorem D98_8_180 : Dc prog_98_method_8_code 180 (.iload 7) 2 182 := dc (by decide +kernel) rfl
theorem D98_8_182 : Dc prog_98_method_8_code 182 (.iload 4) 2 184 := dc (by decide +kernel) rfl
theorem D98_8_184 : Dc prog_98_method_8_code 184 (.imul) 1 185 := dc (by decide +kernel) rfl
theorem D98_8_185 : Dc prog_98_method_8_code 185 (.iload 4) 2 187 := dc (by decide +kernel) rfl
theorem D98_8_187 : Dc prog_98_method_8_code 187 (.invokestatic 74) 3 190 := dc (by decide +kernel) rfl
theorem D98_8_190 : Dc prog_98_method_8_code 190 (.aload_n 0) 1 191 := dc (by decide +kernel) rfl
theorem D98_8_191 : Dc prog_98_method_8_code 191 (.getfield 9) 3 194 := dc (by decide +kernel) rfl
theorem D98_8_194 : Dc prog_98_method_8_code 194 (.iload 6) 2 196 := dc (by decide +kernel) rfl
theorem D98_8_196 : Dc prog_98_method_8_code 196 (.iload 7) 2 198 := dc (by decide +kernel) rfl
theorem D98_8_198 : Dc prog_98_method_8_code 198 (.iconst 1) 1 199 := dc (by decide +kernel) rfl
theorem D98_8_199 : Dc prog_98_method_8_code 199 (.iadd) 1 200 := dc (by decide +kernel) rfl
theorem D98_8_200 : Dc prog_98_method_8_code 200 (.iastore) 1 201 := dc (by decide +kernel) rfl
theorem D98_8_201 : Dc prog_98_method_8_code 201 (.aload_n 0) 1 202 := dc (by decide +kernel) rfl
theorem D98_8_202 : Dc prog_98_method_8_code 202 (.dup) 1 203 := dc (by decide +kernel) rfl
theorem D98_8_203 : Dc prog_98_method_8_code 203 (.getfield 118) 3 206 := dc (by decide +kernel) rfl
theorem D98_8_206 : Dc prog_98_method_8_code 206 (.iconst 1) 1 207 := dc (by decide +kernel) rfl
theorem D98_8_207 : Dc prog_98_method_8_code 207 (.iadd) 1 208 := dc (by decide +kernel) rfl
theorem D98_8_208 : Dc prog_98_method_8_code 208 (.putfield 118) 3 211 := dc (by decide +kernel) rfl
theorem D98_8_211 : Dc prog_98_method_8_code 211 (.iconst 2) 1 212 := dc (by decide +kernel) rfl
theorem D98_8_212 : Dc prog_98_method_8_code 212 (.aload_n 0) 1 213 := dc (by decide +kernel) rfl
theorem D98_8_213 : Dc prog_98_method_8_code 213 (.getfield 118) 3 216 := dc (by decide +kernel) rfl
theorem D98_8_216 : Dc prog_98_method_8_code 216 (.imul) 1 217 := dc (by decide +kernel) rfl
theorem D98_8_217 : Dc prog_98_method_8_code 217 (.aload_n 0) 1 218 := dc (by decide +kernel) rfl
theorem D98_8_218 : Dc prog_98_method_8_code 218 (.getfield 9) 3 221 := dc (by decide +kernel) rfl
theorem D98_8_221 : Dc prog_98_method_8_code 221 (.arraylength) 1 222 := dc (by decide +kernel) rfl
theorem D98_8_222 : Db prog_98_method_8_code 222 (.if_icmp .le) 225 236 := db (14) (by decide +kernel) rfl (by decide) (by decide)
theorem D98_8_225 : Dc prog_98_method_8_code 225 (.aload_n 0) 1 226 := dc (by decide +kernel) rfl
theorem D98_8_226 : Dc prog_98_method_8_code 226 (.iconst 2) 1 227 := dc (by decide +kernel) rfl
theorem D98_8_227 : Dc prog_98_method_8_code 227 (.aload_n 0) 1 228 := dc (by decide +kernel) rfl
theorem D98_8_228 : Dc prog_98_method_8_code 228 (.getfield 9) 3 231 := dc (by decide +kernel) rfl
theorem D98_8_231 : Dc prog_98_method_8_code 231 (.arraylength) 1 232 := dc (by decide +kernel) rfl
theorem D98_8_232 : Dc prog_98_method_8_code 232 (.imul) 1 233 := dc (by decide +kernel) rfl
theorem D98_8_233 : Dc prog_98_method_8_code 233 (.invokevirtual 129) 3 236 := dc (by decide +kernel) rfl
theorem D98_8_236 : Dc prog_98_method_8_code 236 (.iload 7) 2 238 := dc (by decide +kernel) rfl
theorem D98_8_238 : Dc prog_98_method_8_code 238 (.ireturn) 1 239 := dc (by decide +kernel) rfl
set_option maxRecDepth 65536 in
set_option maxHeartbeats 40000000 in
theorem ct_addJ (l : Launch) (Z : State) (a0 : Array Value) (hw : ∀ d ∈ tables_1, d.before a0 Z = true) (n0 : Nat) (h : Heap) (a xa ly va sl ed sg sh ss : Addr) (wa sa la fa : Addr) (t : Bool) (n N b : Nat) (VF FF : Nat → Int64) (SL : Nat → Nat) (bb : Bool) (r : Nat) (ef sc : Int32) (σ : List Ch) (hn : n ≤ 3) (hT : ∀ s, SL s ≤ n) (hN : N ≤ 1000) (hb0 : b + wcn t ≤ N) (hL : Lk SL (Em t n VF FF b) (hsl (fun k => FF (b + k)) (wcn t)) bb r) (H : Hp n0 h ((a, Ob Z CSn NSS [.ref xa, .ref ly, .ref va, .ref sl, .int (Int32.ofNat n), .ref ed, .int ef, .ref sg, .ref sh, .ref ss, .int sc]) :: (ly, Ob Z CYn NSY [.ref wa, .ref sa, .ref la, .int (Int32.ofNat (wcn t))]) :: (va, La Z (lst 16 VF)) :: (sl, Ia Z (lst 32 (fun s => Int32.ofNat (SL s)))) :: (fa, La Z (lst N FF)) :: σ)) :
    Ct l Z n0 (⟨"com/example/divergence/divergence/engine/StateStore", "add", "([JII)I"⟩ : MethodName) prog_98_method_8_code 10 (some .int) ({ frames := 1, cells := 0, slots := 0, locals := 40 } : Room) [.ref a, .ref fa, .int (Int32.ofNat b), .int (hF (fun k => FF (b + k)) (wcn t))] h (fun v h' => (bb = true ∧ v = some (.int (Int32.ofNat r)) ∧ h = h') ∨ (bb = false ∧ v = some (.int (Int32.ofNat n)) ∧ Hp n0 h' ((a, Ob Z CSn NSS [.ref xa, .ref ly, .ref va, .ref sl, .int (Int32.ofNat (n + 1)), .ref ed, .int ef, .ref sg, .ref sh, .ref ss, .int sc]) :: (ly, Ob Z CYn NSY [.ref wa, .ref sa, .ref la, .int (Int32.ofNat (wcn t))]) :: (va, La Z (lst 16 (cpF FF VF b (n * wcn t) (wcn t)))) :: (sl, Ia Z (lst 32 (fun s => Int32.ofNat ((ups SL r (n + 1)) s)))) :: (fa, La Z (lst N FF)) :: σ))) := by
  refine Ct.intro (plainFor_of_name pn_0) [.val (.ref a), .val (.ref fa), .val (.int (Int32.ofNat b)), .val (.int (hF (fun k => FF (b + k)) (wcn t))), .unset, .unset, .unset, .unset, .unset, .unset] (fun m => by first | (simp [entryFrame, mkF, argsToLocals, Value.category]; done) | (simp [entryFrame, mkF, argsToLocals, Value.category, maxLocals]; done) | rfl) ?_
  intro k hl K
  replace K : Ok k Z n0 "com/example/divergence/divergence/engine/StateStore" ({ frames := 1, cells := 0, slots := 0, locals := 40 } : Room) prog_98_method_8_code 10 (some .int) "add" := K
  have hwc := wcn_le t
  have hcap := Nat.mul_le_mul (show n + 1 ≤ 4 by omega) hwc
  have hcap' : n * wcn t + wcn t ≤ 8 := by rw [Nat.succ_mul] at hcap; exact hcap
  have hh := (hsl_lt (fun k => FF (b + k)) (wcn t)).1
  refine G.aloadN K D98_8_0 rfl rfl ?_
  refine G.getF K (host := "") (Or.inl (wd hw 43 rfl)) H (i := 0) rfl (j := 1) rfl rfl D98_8_1 ?_
  refine G.getFR K (wd hw 45 rfl) H (i := 1) rfl (j := 3) rfl rfl D98_8_4 ?_
  refine G.istore K D98_8_7 ([.val (.ref a), .val (.ref fa), .val (.int (Int32.ofNat b)), .val (.int (hF (fun k => FF (b + k)) (wcn t))), .val (.int (Int32.ofNat (wcn t))), .unset, .unset, .unset, .unset, .unset]) rfl ?_
  refine G.aloadN K D98_8_9 rfl rfl ?_
  refine G.getF K (host := "") (Or.inl (wd hw 11 rfl)) H (i := 0) rfl (j := 3) rfl rfl D98_8_10 ?_
  refine G.alen K H (i := 3) rfl D98_8_13 32 (by rw [List.length_map, lst_len]; rfl) ?_
  refine G.iconst K D98_8_14 1 rfl ?_
  refine G.isub K D98_8_15 ?_
  change G k n0 _ h _ _ 16 [.val (.ref a), .val (.ref fa), .val (.int (Int32.ofNat b)), .val (.int (hF (fun k => FF (b + k)) (wcn t))), .val (.int (Int32.ofNat (wcn t))), .unset, .unset, .unset, .unset, .unset] [.int 31]
  refine G.istore K D98_8_16 ([.val (.ref a), .val (.ref fa), .val (.int (Int32.ofNat b)), .val (.int (hF (fun k => FF (b + k)) (wcn t))), .val (.int (Int32.ofNat (wcn t))), .val (.int 31), .unset, .unset, .unset, .unset]) rfl ?_
  refine G.iloadN K D98_8_18 rfl ?_
  refine G.iload K D98_8_19 rfl ?_
  refine G.iand K D98_8_21 ?_
  rw [(hsl_lt (fun k => FF (b + k)) (wcn t)).2]
  refine G.istore K D98_8_22 ([.val (.ref a), .val (.ref fa), .val (.int (Int32.ofNat b)), .val (.int (hF (fun k => FF (b + k)) (wcn t))), .val (.int (Int32.ofNat (wcn t))), .val (.int 31), .val (.int (Int32.ofNat (hsl (fun k => FF (b + k)) (wcn t)))), .unset, .unset, .unset]) rfl ?_
  refine G.aloadN K D98_8_24 rfl rfl ?_
  refine G.getF K (host := "") (Or.inl (wd hw 11 rfl)) H (i := 0) rfl (j := 3) rfl rfl D98_8_25 ?_
  refine G.iload K D98_8_28 rfl ?_
  refine G.aload_i K H (i := 3) rfl (own_nneg (by omega)) (by rw [own_nidx (by omega)]; exact lst_get _ (by omega)) D98_8_30 ?_
  refine G.istore K D98_8_31 ([.val (.ref a), .val (.ref fa), .val (.int (Int32.ofNat b)), .val (.int (hF (fun k => FF (b + k)) (wcn t))), .val (.int (Int32.ofNat (wcn t))), .val (.int 31), .val (.int (Int32.ofNat (hsl (fun k => FF (b + k)) (wcn t)))), .val (.int (Int32.ofNat (SL (hsl (fun k => FF (b + k)) (wcn t))))), .unset, .unset]) rfl ?_
  have main : ∀ (s : Nat) (bb' : Bool) (r' : Nat), Lk SL (Em t n VF FF b) s bb' r' → bb' = bb → r' = r → s < 32 → ∀ (x8 x9 : Slot), (x8 = .unset ∨ ∃ y, x8 = .val (.int y)) → (x9 = .unset ∨ ∃ y, x9 = .val (.int y)) → G k n0 (fun v h' => (bb = true ∧ v = some (.int (Int32.ofNat r)) ∧ h = h') ∨ (bb = false ∧ v = some (.int (Int32.ofNat n)) ∧ Hp n0 h' ((a, Ob Z CSn NSS [.ref xa, .ref ly, .ref va, .ref sl, .int (Int32.ofNat (n + 1)), .ref ed, .int ef, .ref sg, .ref sh, .ref ss, .int sc]) :: (ly, Ob Z CYn NSY [.ref wa, .ref sa, .ref la, .int (Int32.ofNat (wcn t))]) :: (va, La Z (lst 16 (cpF FF VF b (n * wcn t) (wcn t)))) :: (sl, Ia Z (lst 32 (fun s => Int32.ofNat ((ups SL r (n + 1)) s)))) :: (fa, La Z (lst N FF)) :: σ))) h 0 0 33 [.val (.ref a), .val (.ref fa), .val (.int (Int32.ofNat b)), .val (.int (hF (fun k => FF (b + k)) (wcn t))), .val (.int (Int32.ofNat (wcn t))), .val (.int 31), .val (.int (Int32.ofNat s)), .val (.int (Int32.ofNat (SL s))), x8, x9] [] := by
    intro s bb' r' L
    refine Lk.ind (sl := SL) (E := Em t n VF FF b) (motive := fun s bb' r' => bb' = bb → r' = r → s < 32 → ∀ (x8 x9 : Slot), (x8 = .unset ∨ ∃ y, x8 = .val (.int y)) → (x9 = .unset ∨ ∃ y, x9 = .val (.int y)) → G k n0 (fun v h' => (bb = true ∧ v = some (.int (Int32.ofNat r)) ∧ h = h') ∨ (bb = false ∧ v = some (.int (Int32.ofNat n)) ∧ Hp n0 h' ((a, Ob Z CSn NSS [.ref xa, .ref ly, .ref va, .ref sl, .int (Int32.ofNat (n + 1)), .ref ed, .int ef, .ref sg, .ref sh, .ref ss, .int sc]) :: (ly, Ob Z CYn NSY [.ref wa, .ref sa, .ref la, .int (Int32.ofNat (wcn t))]) :: (va, La Z (lst 16 (cpF FF VF b (n * wcn t) (wcn t)))) :: (sl, Ia Z (lst 32 (fun s => Int32.ofNat ((ups SL r (n + 1)) s)))) :: (fa, La Z (lst N FF)) :: σ))) h 0 0 33 [.val (.ref a), .val (.ref fa), .val (.int (Int32.ofNat b)), .val (.int (hF (fun k => FF (b + k)) (wcn t))), .val (.int (Int32.ofNat (wcn t))), .val (.int 31), .val (.int (Int32.ofNat s)), .val (.int (Int32.ofNat (SL s))), x8, x9] []) ?_ ?_ ?_ L
    · intro s h1 h2 hb hr hs x8 x9 h8 h9
      have he := hT s
      have hm1 := Nat.mul_le_mul_right (wcn t) (show SL s - 1 + 1 ≤ n by omega)
      rw [Nat.succ_mul] at hm1
      refine G.iload K D98_8_33 rfl ?_
      refine G.if_eq K D98_8_35 (fun q => absurd ((own_neq (n := 0) (by omega) (by decide)).mp q) h1) (fun q183 => ?_)
      refine G.iload K D98_8_38 rfl ?_
      refine G.iconst K D98_8_40 1 rfl ?_
      refine G.isub K D98_8_41 ?_
      rw [show Int32.ofNat (SL s) - 1 = Int32.ofNat (SL s - 1) from own_nsub (j := 1) (by omega)]
      refine G.iload K D98_8_42 rfl ?_
      refine G.imul K D98_8_44 ?_
      rw [own_nmul (SL s - 1) (wcn t)]
      refine G.istore K D98_8_45 ([.val (.ref a), .val (.ref fa), .val (.int (Int32.ofNat b)), .val (.int (hF (fun k => FF (b + k)) (wcn t))), .val (.int (Int32.ofNat (wcn t))), .val (.int 31), .val (.int (Int32.ofNat s)), .val (.int (Int32.ofNat (SL s))), .val (.int (Int32.ofNat ((SL s - 1) * wcn t))), x9]) (by rcases h8 with rfl | ⟨_, rfl⟩ <;> rfl) ?_
      refine G.iconst K D98_8_47 0 rfl ?_
      refine G.istore K D98_8_48 ([.val (.ref a), .val (.ref fa), .val (.int (Int32.ofNat b)), .val (.int (hF (fun k => FF (b + k)) (wcn t))), .val (.int (Int32.ofNat (wcn t))), .val (.int 31), .val (.int (Int32.ofNat s)), .val (.int (Int32.ofNat (SL s))), .val (.int (Int32.ofNat ((SL s - 1) * wcn t))), .val (.int 0)]) (by rcases h9 with rfl | ⟨_, rfl⟩ <;> rfl) ?_
      have wl : ∀ (d i : Nat), i + d = wcn t → (∀ k, k < i → VF ((SL s - 1) * wcn t + k) = FF (b + k)) → G k n0 (fun v h' => (bb = true ∧ v = some (.int (Int32.ofNat r)) ∧ h = h') ∨ (bb = false ∧ v = some (.int (Int32.ofNat n)) ∧ Hp n0 h' ((a, Ob Z CSn NSS [.ref xa, .ref ly, .ref va, .ref sl, .int (Int32.ofNat (n + 1)), .ref ed, .int ef, .ref sg, .ref sh, .ref ss, .int sc]) :: (ly, Ob Z CYn NSY [.ref wa, .ref sa, .ref la, .int (Int32.ofNat (wcn t))]) :: (va, La Z (lst 16 (cpF FF VF b (n * wcn t) (wcn t)))) :: (sl, Ia Z (lst 32 (fun s => Int32.ofNat ((ups SL r (n + 1)) s)))) :: (fa, La Z (lst N FF)) :: σ))) h 0 0 50 [.val (.ref a), .val (.ref fa), .val (.int (Int32.ofNat b)), .val (.int (hF (fun k => FF (b + k)) (wcn t))), .val (.int (Int32.ofNat (wcn t))), .val (.int 31), .val (.int (Int32.ofNat s)), .val (.int (Int32.ofNat (SL s))), .val (.int (Int32.ofNat ((SL s - 1) * wcn t))), .val (.int (Int32.ofNat i))] [] := by
        intro d
        induction d with
        | zero =>
          intro i hd hi
          obtain rfl : i = wcn t := by omega
          refine G.iload K D98_8_50 rfl ?_
          refine G.iload K D98_8_52 rfl ?_
          refine G.icmp_ge K D98_8_54 (fun q184 => ?_) (fun q => absurd ((own_nlt (by omega) (by omega)).mp q) (by omega))
          refine G.iload K D98_8_83 rfl ?_
          refine G.iload K D98_8_85 rfl ?_
          refine G.icmp_ne K D98_8_87 (fun q => absurd rfl q) (fun q185 => ?_)
          refine G.iload K D98_8_90 rfl ?_
          refine G.iconst K D98_8_92 1 rfl ?_
          refine G.isub K D98_8_93 ?_
          rw [show Int32.ofNat (SL s) - 1 = Int32.ofNat r from by rw [← hr]; exact own_nsub (j := 1) (by omega)]
          refine G.ret_int K D98_8_94 ?_
          exact Or.inl ⟨hb.symm, rfl, rfl⟩
        | succ d ih =>
          intro i hd hi
          refine G.iload K D98_8_50 rfl ?_
          refine G.iload K D98_8_52 rfl ?_
          refine G.icmp_ge K D98_8_54 (fun q => absurd ((own_nlt (by omega) (by omega)).mpr (by omega)) q) (fun q186 => ?_)
          refine G.aloadN K D98_8_57 rfl rfl ?_
          refine G.getF K (host := "") (Or.inl (wd hw 46 rfl)) H (i := 0) rfl (j := 2) rfl rfl D98_8_58 ?_
          refine G.iload K D98_8_61 rfl ?_
          refine G.iload K D98_8_63 rfl ?_
          refine G.iadd K D98_8_65 ?_
          rw [own_nadd ((SL s - 1) * wcn t) i]
          refine G.aload_l K H (i := 2) rfl (own_nneg (by omega)) (by rw [own_nidx (by omega)]; exact lst_get _ (by omega)) D98_8_66 ?_
          refine G.aloadN K D98_8_67 rfl rfl ?_
          refine G.iloadN K D98_8_68 rfl ?_
          refine G.iload K D98_8_69 rfl ?_
          refine G.iadd K D98_8_71 ?_
          rw [own_nadd b i]
          refine G.aload_l K H (i := 4) rfl (own_nneg (by omega)) (by rw [own_nidx (by omega)]; exact lst_get _ (by omega)) D98_8_72 ?_
          refine G.lcmp_ne K D98_8_73 D98_8_74 (fun q => absurd (h2.2 i (by omega)) q) (fun q187 => ?_)
          refine G.iinc K D98_8_77 1 rfl rfl ([.val (.ref a), .val (.ref fa), .val (.int (Int32.ofNat b)), .val (.int (hF (fun k => FF (b + k)) (wcn t))), .val (.int (Int32.ofNat (wcn t))), .val (.int 31), .val (.int (Int32.ofNat s)), .val (.int (Int32.ofNat (SL s))), .val (.int (Int32.ofNat ((SL s - 1) * wcn t))), .val (.int ((Int32.ofNat i) + 1))]) rfl ?_
          refine G.goto K D98_8_80 ?_
          rw [own_nsucc i]
          exact ih (i + 1) (by omega) (fun k hk => by
            by_cases z : k < i
            · exact hi k z
            · obtain rfl : k = i := by omega
              exact q187)
      exact wl (wcn t) 0 (by omega) (fun k hk => absurd hk (by omega))
    · intro s bb' r' h1 h2 ih2 hb hr hs x8 x9 h8 h9
      have he := hT s
      have hm1 := Nat.mul_le_mul_right (wcn t) (show SL s - 1 + 1 ≤ n by omega)
      rw [Nat.succ_mul] at hm1
      refine G.iload K D98_8_33 rfl ?_
      refine G.if_eq K D98_8_35 (fun q => absurd ((own_neq (n := 0) (by omega) (by decide)).mp q) h1) (fun q188 => ?_)
      refine G.iload K D98_8_38 rfl ?_
      refine G.iconst K D98_8_40 1 rfl ?_
      refine G.isub K D98_8_41 ?_
      rw [show Int32.ofNat (SL s) - 1 = Int32.ofNat (SL s - 1) from own_nsub (j := 1) (by omega)]
      refine G.iload K D98_8_42 rfl ?_
      refine G.imul K D98_8_44 ?_
      rw [own_nmul (SL s - 1) (wcn t)]
      refine G.istore K D98_8_45 ([.val (.ref a), .val (.ref fa), .val (.int (Int32.ofNat b)), .val (.int (hF (fun k => FF (b + k)) (wcn t))), .val (.int (Int32.ofNat (wcn t))), .val (.int 31), .val (.int (Int32.ofNat s)), .val (.int (Int32.ofNat (SL s))), .val (.int (Int32.ofNat ((SL s - 1) * wcn t))), x9]) (by rcases h8 with rfl | ⟨_, rfl⟩ <;> rfl) ?_
      refine G.iconst K D98_8_47 0 rfl ?_
      refine G.istore K D98_8_48 ([.val (.ref a), .val (.ref fa), .val (.int (Int32.ofNat b)), .val (.int (hF (fun k => FF (b + k)) (wcn t))), .val (.int (Int32.ofNat (wcn t))), .val (.int 31), .val (.int (Int32.ofNat s)), .val (.int (Int32.ofNat (SL s))), .val (.int (Int32.ofNat ((SL s - 1) * wcn t))), .val (.int 0)]) (by rcases h9 with rfl | ⟨_, rfl⟩ <;> rfl) ?_
      have wl : ∀ (d i : Nat), i + d = wcn t → (∀ k, k < i → VF ((SL s - 1) * wcn t + k) = FF (b + k)) → G k n0 (fun v h' => (bb = true ∧ v = some (.int (Int32.ofNat r)) ∧ h = h') ∨ (bb = false ∧ v = some (.int (Int32.ofNat n)) ∧ Hp n0 h' ((a, Ob Z CSn NSS [.ref xa, .ref ly, .ref va, .ref sl, .int (Int32.ofNat (n + 1)), .ref ed, .int ef, .ref sg, .ref sh, .ref ss, .int sc]) :: (ly, Ob Z CYn NSY [.ref wa, .ref sa, .ref la, .int (Int32.ofNat (wcn t))]) :: (va, La Z (lst 16 (cpF FF VF b (n * wcn t) (wcn t)))) :: (sl, Ia Z (lst 32 (fun s => Int32.ofNat ((ups SL r (n + 1)) s)))) :: (fa, La Z (lst N FF)) :: σ))) h 0 0 50 [.val (.ref a), .val (.ref fa), .val (.int (Int32.ofNat b)), .val (.int (hF (fun k => FF (b + k)) (wcn t))), .val (.int (Int32.ofNat (wcn t))), .val (.int 31), .val (.int (Int32.ofNat s)), .val (.int (Int32.ofNat (SL s))), .val (.int (Int32.ofNat ((SL s - 1) * wcn t))), .val (.int (Int32.ofNat i))] [] := by
        intro d
        induction d with
        | zero =>
          intro i hd hi
          obtain rfl : i = wcn t := by omega
          exact absurd ⟨by omega, hi⟩ h2
        | succ d ih =>
          intro i hd hi
          refine G.iload K D98_8_50 rfl ?_
          refine G.iload K D98_8_52 rfl ?_
          refine G.icmp_ge K D98_8_54 (fun q => absurd ((own_nlt (by omega) (by omega)).mpr (by omega)) q) (fun q189 => ?_)
          refine G.aloadN K D98_8_57 rfl rfl ?_
          refine G.getF K (host := "") (Or.inl (wd hw 46 rfl)) H (i := 0) rfl (j := 2) rfl rfl D98_8_58 ?_
          refine G.iload K D98_8_61 rfl ?_
          refine G.iload K D98_8_63 rfl ?_
          refine G.iadd K D98_8_65 ?_
          rw [own_nadd ((SL s - 1) * wcn t) i]
          refine G.aload_l K H (i := 2) rfl (own_nneg (by omega)) (by rw [own_nidx (by omega)]; exact lst_get _ (by omega)) D98_8_66 ?_
          refine G.aloadN K D98_8_67 rfl rfl ?_
          refine G.iloadN K D98_8_68 rfl ?_
          refine G.iload K D98_8_69 rfl ?_
          refine G.iadd K D98_8_71 ?_
          rw [own_nadd b i]
          refine G.aload_l K H (i := 4) rfl (own_nneg (by omega)) (by rw [own_nidx (by omega)]; exact lst_get _ (by omega)) D98_8_72 ?_
          refine G.lcmp_ne K D98_8_73 D98_8_74 (fun q190 => ?_) (fun q190 => ?_)
          · refine G.iload K D98_8_83 rfl ?_
            refine G.iload K D98_8_85 rfl ?_
            refine G.icmp_ne K D98_8_87 (fun q191 => ?_) (fun q => absurd ((own_neq (by omega) (by omega)).mp q) (by omega))
            refine G.iload K D98_8_95 rfl ?_
            refine G.iconst K D98_8_97 1 rfl ?_
            refine G.iadd K D98_8_98 ?_
            rw [own_nsucc s]
            refine G.iload K D98_8_99 rfl ?_
            refine G.iand K D98_8_101 ?_
            rw [and31 hs]
            refine G.istore K D98_8_102 ([.val (.ref a), .val (.ref fa), .val (.int (Int32.ofNat b)), .val (.int (hF (fun k => FF (b + k)) (wcn t))), .val (.int (Int32.ofNat (wcn t))), .val (.int 31), .val (.int (Int32.ofNat ((s + 1) % 32))), .val (.int (Int32.ofNat (SL s))), .val (.int (Int32.ofNat ((SL s - 1) * wcn t))), .val (.int (Int32.ofNat i))]) rfl ?_
            refine G.aloadN K D98_8_104 rfl rfl ?_
            refine G.getF K (host := "") (Or.inl (wd hw 11 rfl)) H (i := 0) rfl (j := 3) rfl rfl D98_8_105 ?_
            refine G.iload K D98_8_108 rfl ?_
            refine G.aload_i K H (i := 3) rfl (own_nneg (by omega)) (by rw [own_nidx (by omega)]; exact lst_get _ (by omega)) D98_8_110 ?_
            refine G.istore K D98_8_111 ([.val (.ref a), .val (.ref fa), .val (.int (Int32.ofNat b)), .val (.int (hF (fun k => FF (b + k)) (wcn t))), .val (.int (Int32.ofNat (wcn t))), .val (.int 31), .val (.int (Int32.ofNat ((s + 1) % 32))), .val (.int (Int32.ofNat (SL ((s + 1) % 32)))), .val (.int (Int32.ofNat ((SL s - 1) * wcn t))), .val (.int (Int32.ofNat i))]) rfl ?_
            refine G.goto K D98_8_113 ?_
            exact ih2 hb hr (Nat.mod_lt _ (by decide)) _ _ (Or.inr ⟨_, rfl⟩) (Or.inr ⟨_, rfl⟩)
          · refine G.iinc K D98_8_77 1 rfl rfl ([.val (.ref a), .val (.ref fa), .val (.int (Int32.ofNat b)), .val (.int (hF (fun k => FF (b + k)) (wcn t))), .val (.int (Int32.ofNat (wcn t))), .val (.int 31), .val (.int (Int32.ofNat s)), .val (.int (Int32.ofNat (SL s))), .val (.int (Int32.ofNat ((SL s - 1) * wcn t))), .val (.int ((Int32.ofNat i) + 1))]) rfl ?_
            refine G.goto K D98_8_80 ?_
            rw [own_nsucc i]
            exact ih (i + 1) (by omega) (fun k hk => by
              by_cases z : k < i
              · exact hi k z
              · obtain rfl : k = i := by omega
                exact q190)
      exact wl (wcn t) 0 (by omega) (fun k hk => absurd hk (by omega))
    · intro s h0 hb hr hs x8 x9 h8 h9
      subst hr
      refine G.iload K D98_8_33 rfl ?_
      refine G.if_eq K D98_8_35 (fun q192 => ?_) (fun q => absurd (show Int32.ofNat (SL s) = 0 by rw [h0]; rfl) q)
      refine G.aloadN K D98_8_116 rfl rfl ?_
      refine G.getF K (host := "") (Or.inl (wd hw 80 rfl)) H (i := 0) rfl (j := 4) rfl rfl D98_8_117 ?_
      refine G.istore K D98_8_120 ([.val (.ref a), .val (.ref fa), .val (.int (Int32.ofNat b)), .val (.int (hF (fun k => FF (b + k)) (wcn t))), .val (.int (Int32.ofNat (wcn t))), .val (.int 31), .val (.int (Int32.ofNat s)), .val (.int (Int32.ofNat n)), x8, x9]) rfl ?_
      refine G.iload K D98_8_122 rfl ?_
      refine G.iconst K D98_8_124 1 rfl ?_
      refine G.iadd K D98_8_125 ?_
      rw [own_nsucc n]
      refine G.i2l K D98_8_126 ?_
      rw [val_EE (show n + 1 < 2147483648 by omega)]
      refine G.iload K D98_8_127 rfl ?_
      refine G.i2l K D98_8_129 ?_
      rw [val_EE (show wcn t < 2147483648 by omega)]
      refine G.lmul K D98_8_130 ?_
      rw [own_Emul (n + 1) (wcn t)]
      refine G.aloadN K D98_8_131 rfl rfl ?_
      refine G.getF K (host := "") (Or.inl (wd hw 46 rfl)) H (i := 0) rfl (j := 2) rfl rfl D98_8_132 ?_
      refine G.alen K H (i := 2) rfl D98_8_135 16 (by rw [List.length_map, lst_len]; rfl) ?_
      refine G.i2l K D98_8_136 ?_
      change G k n0 _ h _ _ 137 [.val (.ref a), .val (.ref fa), .val (.int (Int32.ofNat b)), .val (.int (hF (fun k => FF (b + k)) (wcn t))), .val (.int (Int32.ofNat (wcn t))), .val (.int 31), .val (.int (Int32.ofNat s)), .val (.int (Int32.ofNat n)), x8, x9] [.long 16, .long (EE ((n + 1) * wcn t))]
      refine G.lcmp_le K D98_8_137 D98_8_138 (fun q193 => ?_) (fun q => absurd ((own_Elt (i := 16) (by decide) (by omega)).mp q) (by omega))
      refine G.aloadN K D98_8_174 rfl rfl ?_
      refine G.iloadN K D98_8_175 rfl ?_
      refine G.aloadN K D98_8_176 rfl rfl ?_
      refine G.getF K (host := "") (Or.inl (wd hw 46 rfl)) H (i := 0) rfl (j := 2) rfl rfl D98_8_177 ?_
      refine G.iload K D98_8_180 rfl ?_
      refine G.iload K D98_8_182 rfl ?_
      refine G.imul K D98_8_184 ?_
      rw [own_nmul n (wcn t)]
      refine G.iload K D98_8_185 rfl ?_
      refine G.acopy K (wd hw 133 rfl) (wd hw 136 rfl) (wd hw 134 rfl) (wd hw 135 rfl) H (i := 4) (i' := 2) rfl rfl rfl (all_long _) (own_nneg (by omega)) (own_nneg (by omega)) (own_nneg (by omega)) (by rw [own_nidx (by omega), own_nidx (by omega), List.length_map, lst_len]; omega) (by rw [own_nidx (by omega), own_nidx (by omega), List.length_map, lst_len]; omega) rfl 0 rfl (by decide) (by decide) D98_8_187 ?_
      intro h194 H194
      rw [cpy_map, own_nidx (show b < 2147483648 by omega), own_nidx (show n * wcn t < 2147483648 by omega), own_nidx (show wcn t < 2147483648 by omega), lst_cpyG _ _ (by omega) (by omega)] at H194
      change Hp n0 h194 ((a, Ob Z CSn NSS [.ref xa, .ref ly, .ref va, .ref sl, .int (Int32.ofNat n), .ref ed, .int ef, .ref sg, .ref sh, .ref ss, .int sc]) :: (ly, Ob Z CYn NSY [.ref wa, .ref sa, .ref la, .int (Int32.ofNat (wcn t))]) :: (va, La Z (lst 16 (cpF FF VF b (n * wcn t) (wcn t)))) :: (sl, Ia Z (lst 32 (fun s => Int32.ofNat (SL s)))) :: (fa, La Z (lst N FF)) :: σ) at H194
      refine G.aloadN K D98_8_190 rfl rfl ?_
      refine G.getF K (host := "") (Or.inl (wd hw 11 rfl)) H194 (i := 0) rfl (j := 3) rfl rfl D98_8_191 ?_
      refine G.iload K D98_8_194 rfl ?_
      refine G.iload K D98_8_196 rfl ?_
      refine G.iconst K D98_8_198 1 rfl ?_
      refine G.iadd K D98_8_199 ?_
      rw [own_nsucc n]
      refine G.astore_i K H194 (i := 3) rfl (own_nneg (by omega)) (by rw [own_nidx (by omega), lst_len]; exact hs) D98_8_200 ?_
      intro h195 H195
      rw [own_nidx (by omega), lst_set _ hs, ups_fup] at H195
      change Hp n0 h195 ((a, Ob Z CSn NSS [.ref xa, .ref ly, .ref va, .ref sl, .int (Int32.ofNat n), .ref ed, .int ef, .ref sg, .ref sh, .ref ss, .int sc]) :: (ly, Ob Z CYn NSY [.ref wa, .ref sa, .ref la, .int (Int32.ofNat (wcn t))]) :: (va, La Z (lst 16 (cpF FF VF b (n * wcn t) (wcn t)))) :: (sl, Ia Z (lst 32 (fun s' => Int32.ofNat (ups SL s (n + 1) s')))) :: (fa, La Z (lst N FF)) :: σ) at H195
      refine G.aloadN K D98_8_201 rfl rfl ?_
      refine G.dup K D98_8_202 rfl ?_
      refine G.getF K (host := "") (Or.inl (wd hw 80 rfl)) H195 (i := 0) rfl (j := 4) rfl rfl D98_8_203 ?_
      refine G.iconst K D98_8_206 1 rfl ?_
      refine G.iadd K D98_8_207 ?_
      rw [own_nsucc n]
      refine G.putF K (host := "") (Or.inl (wd hw 80 rfl)) (cf_NSS hw) (Or.inl (wd hw 81 rfl)) (wd hw 3 rfl) H195 (i := 0) rfl (j := 4) rfl rfl (ty := .int) (by decide) rfl rfl D98_8_208 ?_
      intro h196 H196
      change Hp n0 h196 ((a, Ob Z CSn NSS [.ref xa, .ref ly, .ref va, .ref sl, .int (Int32.ofNat (n + 1)), .ref ed, .int ef, .ref sg, .ref sh, .ref ss, .int sc]) :: (ly, Ob Z CYn NSY [.ref wa, .ref sa, .ref la, .int (Int32.ofNat (wcn t))]) :: (va, La Z (lst 16 (cpF FF VF b (n * wcn t) (wcn t)))) :: (sl, Ia Z (lst 32 (fun s' => Int32.ofNat (ups SL s (n + 1) s')))) :: (fa, La Z (lst N FF)) :: σ) at H196
      refine G.iconst K D98_8_211 2 rfl ?_
      refine G.aloadN K D98_8_212 rfl rfl ?_
      refine G.getF K (host := "") (Or.inl (wd hw 80 rfl)) H196 (i := 0) rfl (j := 4) rfl rfl D98_8_213 ?_
      refine G.imul K D98_8_216 ?_
      rw [show 2 * Int32.ofNat (n + 1) = Int32.ofNat (2 * (n + 1)) from own_nmul 2 (n + 1)]
      refine G.aloadN K D98_8_217 rfl rfl ?_
      refine G.getF K (host := "") (Or.inl (wd hw 11 rfl)) H196 (i := 0) rfl (j := 3) rfl rfl D98_8_218 ?_
      refine G.alen K H196 (i := 3) rfl D98_8_221 32 (by rw [List.length_map, lst_len]; rfl) ?_
      refine G.icmp_le K D98_8_222 (fun q197 => ?_) (fun q => absurd ((own_nlt (i := 32) (by decide) (by omega)).mp q) (by omega))
      refine G.iload K D98_8_236 rfl ?_
      refine G.ret_int K D98_8_238 ?_
      exact Or.inr ⟨hb.symm, rfl, H196⟩
  exact main _ _ _ hL rfl rfl (hsl_lt _ _).1 _ _ (Or.inl rfl) (Or.inl rfl)
def Addv (n : Nat) (vals : Nat → Nat → Nat) (v : Nat → Nat) (m n' : Nat) (vals' : Nat → Nat → Nat) : Prop :=
  (m < n ∧ n' = n ∧ vals' = vals ∧ ∀ p, p < 3 → vals m p = v p) ∨ ((∀ j, j < n → ¬ ∀ p, p < 3 → vals j p = v p) ∧ m = n ∧ n' = n + 1 ∧ vals' = fun j => if j = n then v else vals j)
theorem D98_2_0 : Dc prog_98_method_2_code 0 (.aload_n 0) 1 1 := dc (by decide +kernel) rfl
theorem D98_2_1 : Dc prog_98_method_2_code 1 (.getfield 53) 3 4 := dc (by decide +kernel) rfl
theorem D98_2_4 : Dc prog_98_method_2_code 4 (.lconst 0) 1 5 := dc (by decide +kernel) rfl
theorem D98_2_5 : Dc prog_98_method_2_code 5 (.invokestatic 56) 3 8 := dc (by decide +kernel) rfl
theorem D98_2_8 : Dc prog_98_method_2_code 8 (.aload_n 0) 1 9 := dc (by decide +kernel) rfl
theorem D98_2_9 : Dc prog_98_method_2_code 9 (.iconst (-1)) 1 10 := dc (by decide +kernel) rfl
theorem D98_2_10 : Dc prog_98_method_2_code 10 (.putfield 15) 3 13 := dc (by decide +kernel) rfl
theorem D98_2_13 : Dc prog_98_method_2_code 13 (.iconst 0) 1 14 := dc (by decide +kernel) rfl
theorem D98_2_14 : Dc prog_98_method_2_code 14 (.istore_n 2) 1 15 := dc (by decide +kernel) rfl
theorem D98_2_15 : Dc prog_98_method_2_code 15 (.iload_n 2) 1 16 := dc (by decide +kernel) rfl
theorem D98_2_16 : Dc prog_98_method_2_code 16 (.aload_n 1) 1 17 := dc (by decide +kernel) rfl
theorem D98_2_17 : Dc prog_98_method_2_code 17 (.arraylength) 1 18 := dc (by decide +kernel) rfl
theorem D98_2_18 : Db prog_98_method_2_code 18 (.if_icmp .ge) 21 35 := db (17) (by decide +kernel) rfl (by decide) (by decide)
theorem D98_2_21 : Dc prog_98_method_2_code 21 (.aload_n 0) 1 22 := dc (by decide +kernel) rfl
theorem D98_2_22 : Dc prog_98_method_2_code 22 (.iload_n 2) 1 23 := dc (by decide +kernel) rfl
theorem D98_2_23 : Dc prog_98_method_2_code 23 (.aload_n 1) 1 24 := dc (by decide +kernel) rfl
theorem D98_2_24 : Dc prog_98_method_2_code 24 (.iload_n 2) 1 25 := dc (by decide +kernel) rfl
theorem D98_2_25 : Dc prog_98_method_2_code 25 (.iaload) 1 26 := dc (by decide +kernel) rfl
theorem D98_2_26 : Dc prog_98_method_2_code 26 (.invokevirtual 59) 3 29 := dc (by decide +kernel) rfl
theorem D98_2_29 : Dc prog_98_method_2_code 29 (.iinc 2 1) 3 32 := dc (by decide +kernel) rfl
theorem D98_2_32 : Db prog_98_method_2_code 32 (.goto) 35 15 := db (-17) (by decide +kernel) rfl (by decide) (by decide)
theorem D98_2_35 : Dc prog_98_method_2_code 35 (.aload_n 0) 1 36 := dc (by decide +kernel) rfl
theorem D98_2_36 : Dc prog_98_method_2_code 36 (.aload_n 0) 1 37 := dc (by decide +kernel) rfl
theorem D98_2_37 : Dc prog_98_method_2_code 37 (.getfield 53) 3 40 := dc (by decide +kernel) rfl
theorem D98_2_40 : Dc prog_98_method_2_code 40 (.iconst 0) 1 41 := dc (by decide +kernel) rfl
theorem D98_2_41 : Dc prog_98_method_2_code 41 (.aload_n 0) 1 42 := dc (by decide +kernel) rfl
theorem D98_2_42 : Dc prog_98_method_2_code 42 (.getfield 53) 3 45 := dc (by decide +kernel) rfl
theorem D98_2_45 : Dc prog_98_method_2_code 45 (.iconst 0) 1 46 := dc (by decide +kernel) rfl
theorem D98_2_46 : Dc prog_98_method_2_code 46 (.aload_n 0) 1 47 := dc (by decide +kernel) rfl
theorem D98_2_47 : Dc prog_98_method_2_code 47 (.getfield 43) 3 50 := dc (by decide +kernel) rfl
theorem D98_2_50 : Dc prog_98_method_2_code 50 (.getfield 47) 3 53 := dc (by decide +kernel) rfl
theorem D98_2_53 : Dc prog_98_method_2_code 53 (.invokestatic 63) 3 56 := dc (by decide +kernel) rfl
theorem D98_2_56 : Dc prog_98_method_2_code 56 (.invokevirtual 67) 3 59 := dc (by decide +kernel) rfl
theorem D98_2_59 : Dc prog_98_method_2_code 59 (.ireturn) 1 60 := dc (by decide +kernel) rfl
set_option maxRecDepth 65536 in
set_option maxHeartbeats 40000000 in
theorem ct_add (l : Launch) (Z : State) (a0 : Array Value) (hw : ∀ d ∈ tables_1, d.before a0 Z = true) (n0 : Nat) (h : Heap) (a xa ly va sl ed sg sh ss wa sa la : Addr) (t : Bool) (w : Nat → Nat) (n : Nat) (vals : Nat → Nat → Nat) (e : Nat → Nat) (VF : Nat → Int64) (SL : Nat → Nat) (EF : Nat → Int64) (ef : Int32) (ua : Addr) (u : Nat → Nat) (σ : List Ch) (C : Good 3 t w n vals e VF SL EF) (hn : n ≤ 2) (hu : ∀ i, i < 3 → u i < 2147483648) (H : Hp n0 h ((a, Ob Z CSn NSS [.ref xa, .ref ly, .ref va, .ref sl, .int (Int32.ofNat n), .ref ed, .int ef, .ref sg, .ref sh, .ref ss, .int 0]) :: (ly, Ob Z CYn NSY [.ref wa, .ref sa, .ref la, .int (Int32.ofNat (wcn t))]) :: (wa, Ia Z (lst 3 (fun i => Int32.ofNat (wdp t i)))) :: (sa, Ia Z (lst 3 (fun i => Int32.ofNat (shp t w i)))) :: (la, La Z (lst 3 (fun i => EE (2 ^ w i)))) :: (xa, Ia Z (lst 3 (fun i => Int32.ofNat (w i)))) :: (va, La Z (lst 16 VF)) :: (sl, Ia Z (lst 32 (fun s => Int32.ofNat (SL s)))) :: (ed, La Z (lst (wcn t) EF)) :: (sg, La Z []) :: (ua, Ia Z (lst 3 (fun i => Int32.ofNat (u i)))) :: σ)) :
    Ct l Z n0 (⟨"com/example/divergence/divergence/engine/StateStore", "add", "([I)I"⟩ : MethodName) prog_98_method_2_code 3 (some .int) ({ frames := 6, cells := 33, slots := 306, locals := 170 } : Room) [.ref a, .ref ua] h (fun v h' => ∃ (ly va sl ed sg wa sa la : Addr) (t : Bool) (w : Nat → Nat) (VF : Nat → Int64) (SL : Nat → Nat) (EF : Nat → Int64), ∃ (m n' : Nat) (vals' : Nat → Nat → Nat), v = some (.int (Int32.ofNat m)) ∧ Addv n vals (cutv u 3) m n' vals' ∧ Good 3 t w n' vals' (cutv u 3) VF SL EF ∧ Hp n0 h' ((a, Ob Z CSn NSS [.ref xa, .ref ly, .ref va, .ref sl, .int (Int32.ofNat n'), .ref ed, .int (-1), .ref sg, .ref sh, .ref ss, .int 0]) :: (ly, Ob Z CYn NSY [.ref wa, .ref sa, .ref la, .int (Int32.ofNat (wcn t))]) :: (wa, Ia Z (lst 3 (fun i => Int32.ofNat (wdp t i)))) :: (sa, Ia Z (lst 3 (fun i => Int32.ofNat (shp t w i)))) :: (la, La Z (lst 3 (fun i => EE (2 ^ w i)))) :: (xa, Ia Z (lst 3 (fun i => Int32.ofNat (w i)))) :: (va, La Z (lst 16 VF)) :: (sl, Ia Z (lst 32 (fun s => Int32.ofNat (SL s)))) :: (ed, La Z (lst (wcn t) EF)) :: (sg, La Z []) :: (ua, Ia Z (lst 3 (fun i => Int32.ofNat (u i)))) :: σ)) := by
  refine Ct.intro (plainFor_of_name pn_0) [.val (.ref a), .val (.ref ua), .unset] (fun m => by first | (simp [entryFrame, mkF, argsToLocals, Value.category]; done) | (simp [entryFrame, mkF, argsToLocals, Value.category, maxLocals]; done) | rfl) ?_
  intro k hl K
  replace K : Ok k Z n0 "com/example/divergence/divergence/engine/StateStore" ({ frames := 6, cells := 33, slots := 306, locals := 170 } : Room) prog_98_method_2_code 3 (some .int) "add" := K
  have hwc := wcn_le t
  refine G.aloadN K D98_2_0 rfl rfl ?_
  refine G.getF K (host := "") (Or.inl (wd hw 48 rfl)) H (i := 0) rfl (j := 5) rfl rfl D98_2_1 ?_
  refine G.lconst K D98_2_4 0 rfl ?_
  have H198 : Hp n0 h ((ed, La Z (lst (wcn t) EF)) :: (a, Ob Z CSn NSS [.ref xa, .ref ly, .ref va, .ref sl, .int (Int32.ofNat n), .ref ed, .int ef, .ref sg, .ref sh, .ref ss, .int 0]) :: (ly, Ob Z CYn NSY [.ref wa, .ref sa, .ref la, .int (Int32.ofNat (wcn t))]) :: (wa, Ia Z (lst 3 (fun i => Int32.ofNat (wdp t i)))) :: (sa, Ia Z (lst 3 (fun i => Int32.ofNat (shp t w i)))) :: (la, La Z (lst 3 (fun i => EE (2 ^ w i)))) :: (xa, Ia Z (lst 3 (fun i => Int32.ofNat (w i)))) :: (va, La Z (lst 16 VF)) :: (sl, Ia Z (lst 32 (fun s => Int32.ofNat (SL s)))) :: (sg, La Z []) :: (ua, Ia Z (lst 3 (fun i => Int32.ofNat (u i)))) :: σ) := H.pull 8 rfl
  refine G.callS K hl (wd hw 55 rfl) (wd hw 56 rfl) (wd hw 26 rfl) (wd hw 57 rfl) (by decide) pd_14 (ct_fillJ l Z a0 hw n0 h ed (wcn t) 0 EF ((a, Ob Z CSn NSS [.ref xa, .ref ly, .ref va, .ref sl, .int (Int32.ofNat n), .ref ed, .int ef, .ref sg, .ref sh, .ref ss, .int 0]) :: (ly, Ob Z CYn NSY [.ref wa, .ref sa, .ref la, .int (Int32.ofNat (wcn t))]) :: (wa, Ia Z (lst 3 (fun i => Int32.ofNat (wdp t i)))) :: (sa, Ia Z (lst 3 (fun i => Int32.ofNat (shp t w i)))) :: (la, La Z (lst 3 (fun i => EE (2 ^ w i)))) :: (xa, Ia Z (lst 3 (fun i => Int32.ofNat (w i)))) :: (va, La Z (lst 16 VF)) :: (sl, Ia Z (lst 32 (fun s => Int32.ofNat (SL s)))) :: (sg, La Z []) :: (ua, Ia Z (lst 3 (fun i => Int32.ofNat (u i)))) :: σ) (by omega) H198) 0 rfl (by decide) (by decide) (by decide) (by decide) rfl rfl [.long 0, .ref ed] rfl D98_2_5 ?_
  rintro _ h199 ⟨rfl, H199⟩
  have C0 := C.clear u
  change G k n0 _ h199 _ _ 8 [.val (.ref a), .val (.ref ua), .unset] []
  refine G.aloadN K D98_2_8 rfl rfl ?_
  refine G.iconst K D98_2_9 (-1) rfl ?_
  refine G.putF K (host := "") (Or.inl (wd hw 13 rfl)) (cf_NSS hw) (Or.inl (wd hw 14 rfl)) (wd hw 3 rfl) H199 (i := 1) rfl (j := 6) rfl rfl (ty := .int) (by decide) rfl rfl D98_2_10 ?_
  intro h200 H200
  change Hp n0 h200 ((ed, La Z (lst (wcn t) (fun _ => 0))) :: (a, Ob Z CSn NSS [.ref xa, .ref ly, .ref va, .ref sl, .int (Int32.ofNat n), .ref ed, .int (-1), .ref sg, .ref sh, .ref ss, .int 0]) :: (ly, Ob Z CYn NSY [.ref wa, .ref sa, .ref la, .int (Int32.ofNat (wcn t))]) :: (wa, Ia Z (lst 3 (fun i => Int32.ofNat (wdp t i)))) :: (sa, Ia Z (lst 3 (fun i => Int32.ofNat (shp t w i)))) :: (la, La Z (lst 3 (fun i => EE (2 ^ w i)))) :: (xa, Ia Z (lst 3 (fun i => Int32.ofNat (w i)))) :: (va, La Z (lst 16 VF)) :: (sl, Ia Z (lst 32 (fun s => Int32.ofNat (SL s)))) :: (sg, La Z []) :: (ua, Ia Z (lst 3 (fun i => Int32.ofNat (u i)))) :: σ) at H200
  refine G.iconst K D98_2_13 0 rfl ?_
  refine G.istoreN K D98_2_14 ([.val (.ref a), .val (.ref ua), .val (.int 0)]) rfl ?_
  refine G.iloadN K D98_2_15 rfl ?_
  refine G.aloadN K D98_2_16 rfl rfl ?_
  refine G.alen K H200 (i := 10) rfl D98_2_17 3 (by rw [List.length_map, lst_len]; rfl) ?_
  refine G.icmp_ge K D98_2_18 (fun q => absurd q (by decide)) (fun _ => ?_)
  refine G.aloadN K D98_2_21 rfl rfl ?_
  refine G.iloadN K D98_2_22 rfl ?_
  refine G.aloadN K D98_2_23 rfl rfl ?_
  refine G.iloadN K D98_2_24 rfl ?_
  refine G.aload_i K H200 (i := 10) rfl (by decide) (lst_get (i := 0) _ (by decide)) D98_2_25 ?_
  have H202 : Hp n0 h200 ((sl, Ia Z (lst 32 (fun s => Int32.ofNat (SL s)))) :: (ed, La Z (lst (wcn t) (fun _ => 0))) :: (a, Ob Z CSn NSS [.ref xa, .ref ly, .ref va, .ref sl, .int (Int32.ofNat n), .ref ed, .int (-1), .ref sg, .ref sh, .ref ss, .int 0]) :: (ly, Ob Z CYn NSY [.ref wa, .ref sa, .ref la, .int (Int32.ofNat (wcn t))]) :: (wa, Ia Z (lst 3 (fun i => Int32.ofNat (wdp t i)))) :: (sa, Ia Z (lst 3 (fun i => Int32.ofNat (shp t w i)))) :: (la, La Z (lst 3 (fun i => EE (2 ^ w i)))) :: (xa, Ia Z (lst 3 (fun i => Int32.ofNat (w i)))) :: (va, La Z (lst 16 VF)) :: (sg, La Z []) :: (ua, Ia Z (lst 3 (fun i => Int32.ofNat (u i)))) :: σ) := H200.pull 8 rfl
  have H203 : Hp n0 h200 ((va, La Z (lst 16 VF)) :: (sl, Ia Z (lst 32 (fun s => Int32.ofNat (SL s)))) :: (ed, La Z (lst (wcn t) (fun _ => 0))) :: (a, Ob Z CSn NSS [.ref xa, .ref ly, .ref va, .ref sl, .int (Int32.ofNat n), .ref ed, .int (-1), .ref sg, .ref sh, .ref ss, .int 0]) :: (ly, Ob Z CYn NSY [.ref wa, .ref sa, .ref la, .int (Int32.ofNat (wcn t))]) :: (wa, Ia Z (lst 3 (fun i => Int32.ofNat (wdp t i)))) :: (sa, Ia Z (lst 3 (fun i => Int32.ofNat (shp t w i)))) :: (la, La Z (lst 3 (fun i => EE (2 ^ w i)))) :: (xa, Ia Z (lst 3 (fun i => Int32.ofNat (w i)))) :: (sg, La Z []) :: (ua, Ia Z (lst 3 (fun i => Int32.ofNat (u i)))) :: σ) := H202.pull 8 rfl
  have H204 : Hp n0 h200 ((xa, Ia Z (lst 3 (fun i => Int32.ofNat (w i)))) :: (va, La Z (lst 16 VF)) :: (sl, Ia Z (lst 32 (fun s => Int32.ofNat (SL s)))) :: (ed, La Z (lst (wcn t) (fun _ => 0))) :: (a, Ob Z CSn NSS [.ref xa, .ref ly, .ref va, .ref sl, .int (Int32.ofNat n), .ref ed, .int (-1), .ref sg, .ref sh, .ref ss, .int 0]) :: (ly, Ob Z CYn NSY [.ref wa, .ref sa, .ref la, .int (Int32.ofNat (wcn t))]) :: (wa, Ia Z (lst 3 (fun i => Int32.ofNat (wdp t i)))) :: (sa, Ia Z (lst 3 (fun i => Int32.ofNat (shp t w i)))) :: (la, La Z (lst 3 (fun i => EE (2 ^ w i)))) :: (sg, La Z []) :: (ua, Ia Z (lst 3 (fun i => Int32.ofNat (u i)))) :: σ) := H203.pull 8 rfl
  have H205 : Hp n0 h200 ((la, La Z (lst 3 (fun i => EE (2 ^ w i)))) :: (xa, Ia Z (lst 3 (fun i => Int32.ofNat (w i)))) :: (va, La Z (lst 16 VF)) :: (sl, Ia Z (lst 32 (fun s => Int32.ofNat (SL s)))) :: (ed, La Z (lst (wcn t) (fun _ => 0))) :: (a, Ob Z CSn NSS [.ref xa, .ref ly, .ref va, .ref sl, .int (Int32.ofNat n), .ref ed, .int (-1), .ref sg, .ref sh, .ref ss, .int 0]) :: (ly, Ob Z CYn NSY [.ref wa, .ref sa, .ref la, .int (Int32.ofNat (wcn t))]) :: (wa, Ia Z (lst 3 (fun i => Int32.ofNat (wdp t i)))) :: (sa, Ia Z (lst 3 (fun i => Int32.ofNat (shp t w i)))) :: (sg, La Z []) :: (ua, Ia Z (lst 3 (fun i => Int32.ofNat (u i)))) :: σ) := H204.pull 8 rfl
  have H206 : Hp n0 h200 ((sa, Ia Z (lst 3 (fun i => Int32.ofNat (shp t w i)))) :: (la, La Z (lst 3 (fun i => EE (2 ^ w i)))) :: (xa, Ia Z (lst 3 (fun i => Int32.ofNat (w i)))) :: (va, La Z (lst 16 VF)) :: (sl, Ia Z (lst 32 (fun s => Int32.ofNat (SL s)))) :: (ed, La Z (lst (wcn t) (fun _ => 0))) :: (a, Ob Z CSn NSS [.ref xa, .ref ly, .ref va, .ref sl, .int (Int32.ofNat n), .ref ed, .int (-1), .ref sg, .ref sh, .ref ss, .int 0]) :: (ly, Ob Z CYn NSY [.ref wa, .ref sa, .ref la, .int (Int32.ofNat (wcn t))]) :: (wa, Ia Z (lst 3 (fun i => Int32.ofNat (wdp t i)))) :: (sg, La Z []) :: (ua, Ia Z (lst 3 (fun i => Int32.ofNat (u i)))) :: σ) := H205.pull 8 rfl
  have H207 : Hp n0 h200 ((wa, Ia Z (lst 3 (fun i => Int32.ofNat (wdp t i)))) :: (sa, Ia Z (lst 3 (fun i => Int32.ofNat (shp t w i)))) :: (la, La Z (lst 3 (fun i => EE (2 ^ w i)))) :: (xa, Ia Z (lst 3 (fun i => Int32.ofNat (w i)))) :: (va, La Z (lst 16 VF)) :: (sl, Ia Z (lst 32 (fun s => Int32.ofNat (SL s)))) :: (ed, La Z (lst (wcn t) (fun _ => 0))) :: (a, Ob Z CSn NSS [.ref xa, .ref ly, .ref va, .ref sl, .int (Int32.ofNat n), .ref ed, .int (-1), .ref sg, .ref sh, .ref ss, .int 0]) :: (ly, Ob Z CYn NSY [.ref wa, .ref sa, .ref la, .int (Int32.ofNat (wcn t))]) :: (sg, La Z []) :: (ua, Ia Z (lst 3 (fun i => Int32.ofNat (u i)))) :: σ) := H206.pull 8 rfl
  have H208 : Hp n0 h200 ((ly, Ob Z CYn NSY [.ref wa, .ref sa, .ref la, .int (Int32.ofNat (wcn t))]) :: (wa, Ia Z (lst 3 (fun i => Int32.ofNat (wdp t i)))) :: (sa, Ia Z (lst 3 (fun i => Int32.ofNat (shp t w i)))) :: (la, La Z (lst 3 (fun i => EE (2 ^ w i)))) :: (xa, Ia Z (lst 3 (fun i => Int32.ofNat (w i)))) :: (va, La Z (lst 16 VF)) :: (sl, Ia Z (lst 32 (fun s => Int32.ofNat (SL s)))) :: (ed, La Z (lst (wcn t) (fun _ => 0))) :: (a, Ob Z CSn NSS [.ref xa, .ref ly, .ref va, .ref sl, .int (Int32.ofNat n), .ref ed, .int (-1), .ref sg, .ref sh, .ref ss, .int 0]) :: (sg, La Z []) :: (ua, Ia Z (lst 3 (fun i => Int32.ofNat (u i)))) :: σ) := H207.pull 8 rfl
  have H209 : Hp n0 h200 ((a, Ob Z CSn NSS [.ref xa, .ref ly, .ref va, .ref sl, .int (Int32.ofNat n), .ref ed, .int (-1), .ref sg, .ref sh, .ref ss, .int 0]) :: (ly, Ob Z CYn NSY [.ref wa, .ref sa, .ref la, .int (Int32.ofNat (wcn t))]) :: (wa, Ia Z (lst 3 (fun i => Int32.ofNat (wdp t i)))) :: (sa, Ia Z (lst 3 (fun i => Int32.ofNat (shp t w i)))) :: (la, La Z (lst 3 (fun i => EE (2 ^ w i)))) :: (xa, Ia Z (lst 3 (fun i => Int32.ofNat (w i)))) :: (va, La Z (lst 16 VF)) :: (sl, Ia Z (lst 32 (fun s => Int32.ofNat (SL s)))) :: (ed, La Z (lst (wcn t) (fun _ => 0))) :: (sg, La Z []) :: (ua, Ia Z (lst 3 (fun i => Int32.ofNat (u i)))) :: σ) := H208.pull 8 rfl
  refine G.callV K hl (wd hw 58 rfl) (wd hw 59 rfl) (wd hw 61 rfl) (wd hw 60 rfl) (wd hw 4 rfl) (wd hw 62 rfl) (by decide) pd_13 (H209.exa (i := 0) rfl) (ct_set l Z a0 hw n0 h200 a xa ly va sl ed sg sh ss wa sa la t w n vals (cutv u 0) VF SL (fun _ => 0) (-1) 0 (u 0) ((ua, Ia Z (lst 3 (fun i => Int32.ofNat (u i)))) :: σ) C0 (by omega) (by decide) (hu 0 (by decide)) H209) 0 rfl (by decide) (by decide) (by decide) (by decide) rfl rfl [.int (Int32.ofNat (u 0)), .int 0] rfl D98_2_26 ?_
  rintro _ h210 ⟨ly210, va210, sl210, ed210, sg210, wa210, sa210, la210, t210, w210, VF210, SL210, EF210, rfl, C210, H210⟩
  rw [cut_up u 0] at C210
  change Hp n0 h210 ((a, Ob Z CSn NSS [.ref xa, .ref ly210, .ref va210, .ref sl210, .int (Int32.ofNat n), .ref ed210, .int (-1), .ref sg210, .ref sh, .ref ss, .int 0]) :: (ly210, Ob Z CYn NSY [.ref wa210, .ref sa210, .ref la210, .int (Int32.ofNat (wcn t210))]) :: (wa210, Ia Z (lst 3 (fun i => Int32.ofNat (wdp t210 i)))) :: (sa210, Ia Z (lst 3 (fun i => Int32.ofNat (shp t210 w210 i)))) :: (la210, La Z (lst 3 (fun i => EE (2 ^ w210 i)))) :: (xa, Ia Z (lst 3 (fun i => Int32.ofNat (w210 i)))) :: (va210, La Z (lst 16 VF210)) :: (sl210, Ia Z (lst 32 (fun s => Int32.ofNat (SL210 s)))) :: (ed210, La Z (lst (wcn t210) EF210)) :: (sg210, La Z []) :: (ua, Ia Z (lst 3 (fun i => Int32.ofNat (u i)))) :: σ) at H210
  change G k n0 _ h210 _ _ 29 [.val (.ref a), .val (.ref ua), .val (.int 0)] []
  refine G.iinc K D98_2_29 1 rfl rfl ([.val (.ref a), .val (.ref ua), .val (.int (0 + 1))]) rfl ?_
  change G k n0 _ h210 _ _ 32 [.val (.ref a), .val (.ref ua), .val (.int 1)] []
  refine G.goto K D98_2_32 ?_
  refine G.iloadN K D98_2_15 rfl ?_
  refine G.aloadN K D98_2_16 rfl rfl ?_
  refine G.alen K H210 (i := 10) rfl D98_2_17 3 (by rw [List.length_map, lst_len]; rfl) ?_
  refine G.icmp_ge K D98_2_18 (fun q => absurd q (by decide)) (fun _ => ?_)
  refine G.aloadN K D98_2_21 rfl rfl ?_
  refine G.iloadN K D98_2_22 rfl ?_
  refine G.aloadN K D98_2_23 rfl rfl ?_
  refine G.iloadN K D98_2_24 rfl ?_
  refine G.aload_i K H210 (i := 10) rfl (by decide) (lst_get (i := 1) _ (by decide)) D98_2_25 ?_
  refine G.callV K hl (wd hw 58 rfl) (wd hw 59 rfl) (wd hw 61 rfl) (wd hw 60 rfl) (wd hw 4 rfl) (wd hw 62 rfl) (by decide) pd_13 (H210.exa (i := 0) rfl) (ct_set l Z a0 hw n0 h210 a xa ly210 va210 sl210 ed210 sg210 sh ss wa210 sa210 la210 t210 w210 n vals (cutv u 1) VF210 SL210 EF210 (-1) 1 (u 1) ((ua, Ia Z (lst 3 (fun i => Int32.ofNat (u i)))) :: σ) C210 (by omega) (by decide) (hu 1 (by decide)) H210) 0 rfl (by decide) (by decide) (by decide) (by decide) rfl rfl [.int (Int32.ofNat (u 1)), .int 1] rfl D98_2_26 ?_
  rintro _ h212 ⟨ly212, va212, sl212, ed212, sg212, wa212, sa212, la212, t212, w212, VF212, SL212, EF212, rfl, C212, H212⟩
  rw [cut_up u 1] at C212
  change Hp n0 h212 ((a, Ob Z CSn NSS [.ref xa, .ref ly212, .ref va212, .ref sl212, .int (Int32.ofNat n), .ref ed212, .int (-1), .ref sg212, .ref sh, .ref ss, .int 0]) :: (ly212, Ob Z CYn NSY [.ref wa212, .ref sa212, .ref la212, .int (Int32.ofNat (wcn t212))]) :: (wa212, Ia Z (lst 3 (fun i => Int32.ofNat (wdp t212 i)))) :: (sa212, Ia Z (lst 3 (fun i => Int32.ofNat (shp t212 w212 i)))) :: (la212, La Z (lst 3 (fun i => EE (2 ^ w212 i)))) :: (xa, Ia Z (lst 3 (fun i => Int32.ofNat (w212 i)))) :: (va212, La Z (lst 16 VF212)) :: (sl212, Ia Z (lst 32 (fun s => Int32.ofNat (SL212 s)))) :: (ed212, La Z (lst (wcn t212) EF212)) :: (sg212, La Z []) :: (ua, Ia Z (lst 3 (fun i => Int32.ofNat (u i)))) :: σ) at H212
  change G k n0 _ h212 _ _ 29 [.val (.ref a), .val (.ref ua), .val (.int 1)] []
  refine G.iinc K D98_2_29 1 rfl rfl ([.val (.ref a), .val (.ref ua), .val (.int (1 + 1))]) rfl ?_
  change G k n0 _ h212 _ _ 32 [.val (.ref a), .val (.ref ua), .val (.int 2)] []
  refine G.goto K D98_2_32 ?_
  refine G.iloadN K D98_2_15 rfl ?_
  refine G.aloadN K D98_2_16 rfl rfl ?_
  refine G.alen K H212 (i := 10) rfl D98_2_17 3 (by rw [List.length_map, lst_len]; rfl) ?_
  refine G.icmp_ge K D98_2_18 (fun q => absurd q (by decide)) (fun _ => ?_)
  refine G.aloadN K D98_2_21 rfl rfl ?_
  refine G.iloadN K D98_2_22 rfl ?_
  refine G.aloadN K D98_2_23 rfl rfl ?_
  refine G.iloadN K D98_2_24 rfl ?_
  refine G.aload_i K H212 (i := 10) rfl (by decide) (lst_get (i := 2) _ (by decide)) D98_2_25 ?_
  refine G.callV K hl (wd hw 58 rfl) (wd hw 59 rfl) (wd hw 61 rfl) (wd hw 60 rfl) (wd hw 4 rfl) (wd hw 62 rfl) (by decide) pd_13 (H212.exa (i := 0) rfl) (ct_set l Z a0 hw n0 h212 a xa ly212 va212 sl212 ed212 sg212 sh ss wa212 sa212 la212 t212 w212 n vals (cutv u 2) VF212 SL212 EF212 (-1) 2 (u 2) ((ua, Ia Z (lst 3 (fun i => Int32.ofNat (u i)))) :: σ) C212 (by omega) (by decide) (hu 2 (by decide)) H212) 0 rfl (by decide) (by decide) (by decide) (by decide) rfl rfl [.int (Int32.ofNat (u 2)), .int 2] rfl D98_2_26 ?_
  rintro _ h214 ⟨ly214, va214, sl214, ed214, sg214, wa214, sa214, la214, t214, w214, VF214, SL214, EF214, rfl, C214, H214⟩
  rw [cut_up u 2] at C214
  change Hp n0 h214 ((a, Ob Z CSn NSS [.ref xa, .ref ly214, .ref va214, .ref sl214, .int (Int32.ofNat n), .ref ed214, .int (-1), .ref sg214, .ref sh, .ref ss, .int 0]) :: (ly214, Ob Z CYn NSY [.ref wa214, .ref sa214, .ref la214, .int (Int32.ofNat (wcn t214))]) :: (wa214, Ia Z (lst 3 (fun i => Int32.ofNat (wdp t214 i)))) :: (sa214, Ia Z (lst 3 (fun i => Int32.ofNat (shp t214 w214 i)))) :: (la214, La Z (lst 3 (fun i => EE (2 ^ w214 i)))) :: (xa, Ia Z (lst 3 (fun i => Int32.ofNat (w214 i)))) :: (va214, La Z (lst 16 VF214)) :: (sl214, Ia Z (lst 32 (fun s => Int32.ofNat (SL214 s)))) :: (ed214, La Z (lst (wcn t214) EF214)) :: (sg214, La Z []) :: (ua, Ia Z (lst 3 (fun i => Int32.ofNat (u i)))) :: σ) at H214
  change G k n0 _ h214 _ _ 29 [.val (.ref a), .val (.ref ua), .val (.int 2)] []
  refine G.iinc K D98_2_29 1 rfl rfl ([.val (.ref a), .val (.ref ua), .val (.int (2 + 1))]) rfl ?_
  change G k n0 _ h214 _ _ 32 [.val (.ref a), .val (.ref ua), .val (.int 3)] []
  refine G.goto K D98_2_32 ?_
  refine G.iloadN K D98_2_15 rfl ?_
  refine G.aloadN K D98_2_16 rfl rfl ?_
  refine G.alen K H214 (i := 10) rfl D98_2_17 3 (by rw [List.length_map, lst_len]; rfl) ?_
  refine G.icmp_ge K D98_2_18 (fun _ => ?_) (fun q => absurd q (by decide))
  refine G.aloadN K D98_2_35 rfl rfl ?_
  refine G.aloadN K D98_2_36 rfl rfl ?_
  refine G.getF K (host := "") (Or.inl (wd hw 48 rfl)) H214 (i := 0) rfl (j := 5) rfl rfl D98_2_37 ?_
  refine G.iconst K D98_2_40 0 rfl ?_
  refine G.aloadN K D98_2_41 rfl rfl ?_
  refine G.getF K (host := "") (Or.inl (wd hw 48 rfl)) H214 (i := 0) rfl (j := 5) rfl rfl D98_2_42 ?_
  refine G.iconst K D98_2_45 0 rfl ?_
  refine G.aloadN K D98_2_46 rfl rfl ?_
  refine G.getF K (host := "") (Or.inl (wd hw 43 rfl)) H214 (i := 0) rfl (j := 1) rfl rfl D98_2_47 ?_
  refine G.getFR K (wd hw 45 rfl) H214 (i := 1) rfl (j := 3) rfl rfl D98_2_50 ?_
  have H216 : Hp n0 h214 ((ed214, La Z (lst (wcn t214) EF214)) :: (a, Ob Z CSn NSS [.ref xa, .ref ly214, .ref va214, .ref sl214, .int (Int32.ofNat n), .ref ed214, .int (-1), .ref sg214, .ref sh, .ref ss, .int 0]) :: (ly214, Ob Z CYn NSY [.ref wa214, .ref sa214, .ref la214, .int (Int32.ofNat (wcn t214))]) :: (wa214, Ia Z (lst 3 (fun i => Int32.ofNat (wdp t214 i)))) :: (sa214, Ia Z (lst 3 (fun i => Int32.ofNat (shp t214 w214 i)))) :: (la214, La Z (lst 3 (fun i => EE (2 ^ w214 i)))) :: (xa, Ia Z (lst 3 (fun i => Int32.ofNat (w214 i)))) :: (va214, La Z (lst 16 VF214)) :: (sl214, Ia Z (lst 32 (fun s => Int32.ofNat (SL214 s)))) :: (sg214, La Z []) :: (ua, Ia Z (lst 3 (fun i => Int32.ofNat (u i)))) :: σ) := H214.pull 8 rfl
  have hc2 := wcn_le t214
  refine G.callS K hl (wd hw 121 rfl) (wd hw 122 rfl) (wd hw 4 rfl) (wd hw 123 rfl) (by decide) pd_6 (ct_hash l Z a0 hw n0 h214 ed214 (wcn t214) 0 (wcn t214) EF214 ((a, Ob Z CSn NSS [.ref xa, .ref ly214, .ref va214, .ref sl214, .int (Int32.ofNat n), .ref ed214, .int (-1), .ref sg214, .ref sh, .ref ss, .int 0]) :: (ly214, Ob Z CYn NSY [.ref wa214, .ref sa214, .ref la214, .int (Int32.ofNat (wcn t214))]) :: (wa214, Ia Z (lst 3 (fun i => Int32.ofNat (wdp t214 i)))) :: (sa214, Ia Z (lst 3 (fun i => Int32.ofNat (shp t214 w214 i)))) :: (la214, La Z (lst 3 (fun i => EE (2 ^ w214 i)))) :: (xa, Ia Z (lst 3 (fun i => Int32.ofNat (w214 i)))) :: (va214, La Z (lst 16 VF214)) :: (sl214, Ia Z (lst 32 (fun s => Int32.ofNat (SL214 s)))) :: (sg214, La Z []) :: (ua, Ia Z (lst 3 (fun i => Int32.ofNat (u i)))) :: σ) (by omega) (by omega) H216) 3 rfl (by decide) (by decide) (by decide) (by decide) rfl rfl [.int (Int32.ofNat (wcn t214)), .int 0, .ref ed214] rfl D98_2_53 ?_
  rintro _ _ ⟨rfl, rfl⟩
  change G k n0 _ h214 _ _ 56 [.val (.ref a), .val (.ref ua), .val (.int 3)] [.int (hF (fun k => EF214 (0 + k)) (wcn t214)), .int 0, .ref ed214, .ref a]
  rcases C214.look (by omega) (FF := EF214) (b := 0) (fun k hk => by rw [Nat.zero_add]; exact C214.edi k hk) C214.oke with ⟨m, hm, hmp, hL⟩ | ⟨hd, r, hL⟩
  · change G k n0 _ h214 _ _ 56 [.val (.ref a), .val (.ref ua), .val (.int 3)] [.int (hF (fun k => EF214 (0 + k)) (wcn t214)), .int 0, .ref ed214, .ref a]
    have H217 : Hp n0 h214 ((sl214, Ia Z (lst 32 (fun s => Int32.ofNat (SL214 s)))) :: (ed214, La Z (lst (wcn t214) EF214)) :: (a, Ob Z CSn NSS [.ref xa, .ref ly214, .ref va214, .ref sl214, .int (Int32.ofNat n), .ref ed214, .int (-1), .ref sg214, .ref sh, .ref ss, .int 0]) :: (ly214, Ob Z CYn NSY [.ref wa214, .ref sa214, .ref la214, .int (Int32.ofNat (wcn t214))]) :: (wa214, Ia Z (lst 3 (fun i => Int32.ofNat (wdp t214 i)))) :: (sa214, Ia Z (lst 3 (fun i => Int32.ofNat (shp t214 w214 i)))) :: (la214, La Z (lst 3 (fun i => EE (2 ^ w214 i)))) :: (xa, Ia Z (lst 3 (fun i => Int32.ofNat (w214 i)))) :: (va214, La Z (lst 16 VF214)) :: (sg214, La Z []) :: (ua, Ia Z (lst 3 (fun i => Int32.ofNat (u i)))) :: σ) := H216.pull 8 rfl
    have H218 : Hp n0 h214 ((va214, La Z (lst 16 VF214)) :: (sl214, Ia Z (lst 32 (fun s => Int32.ofNat (SL214 s)))) :: (ed214, La Z (lst (wcn t214) EF214)) :: (a, Ob Z CSn NSS [.ref xa, .ref ly214, .ref va214, .ref sl214, .int (Int32.ofNat n), .ref ed214, .int (-1), .ref sg214, .ref sh, .ref ss, .int 0]) :: (ly214, Ob Z CYn NSY [.ref wa214, .ref sa214, .ref la214, .int (Int32.ofNat (wcn t214))]) :: (wa214, Ia Z (lst 3 (fun i => Int32.ofNat (wdp t214 i)))) :: (sa214, Ia Z (lst 3 (fun i => Int32.ofNat (shp t214 w214 i)))) :: (la214, La Z (lst 3 (fun i => EE (2 ^ w214 i)))) :: (xa, Ia Z (lst 3 (fun i => Int32.ofNat (w214 i)))) :: (sg214, La Z []) :: (ua, Ia Z (lst 3 (fun i => Int32.ofNat (u i)))) :: σ) := H217.pull 8 rfl
    have H219 : Hp n0 h214 ((ly214, Ob Z CYn NSY [.ref wa214, .ref sa214, .ref la214, .int (Int32.ofNat (wcn t214))]) :: (va214, La Z (lst 16 VF214)) :: (sl214, Ia Z (lst 32 (fun s => Int32.ofNat (SL214 s)))) :: (ed214, La Z (lst (wcn t214) EF214)) :: (a, Ob Z CSn NSS [.ref xa, .ref ly214, .ref va214, .ref sl214, .int (Int32.ofNat n), .ref ed214, .int (-1), .ref sg214, .ref sh, .ref ss, .int 0]) :: (wa214, Ia Z (lst 3 (fun i => Int32.ofNat (wdp t214 i)))) :: (sa214, Ia Z (lst 3 (fun i => Int32.ofNat (shp t214 w214 i)))) :: (la214, La Z (lst 3 (fun i => EE (2 ^ w214 i)))) :: (xa, Ia Z (lst 3 (fun i => Int32.ofNat (w214 i)))) :: (sg214, La Z []) :: (ua, Ia Z (lst 3 (fun i => Int32.ofNat (u i)))) :: σ) := H218.pull 4 rfl
    have H220 : Hp n0 h214 ((a, Ob Z CSn NSS [.ref xa, .ref ly214, .ref va214, .ref sl214, .int (Int32.ofNat n), .ref ed214, .int (-1), .ref sg214, .ref sh, .ref ss, .int 0]) :: (ly214, Ob Z CYn NSY [.ref wa214, .ref sa214, .ref la214, .int (Int32.ofNat (wcn t214))]) :: (va214, La Z (lst 16 VF214)) :: (sl214, Ia Z (lst 32 (fun s => Int32.ofNat (SL214 s)))) :: (ed214, La Z (lst (wcn t214) EF214)) :: (wa214, Ia Z (lst 3 (fun i => Int32.ofNat (wdp t214 i)))) :: (sa214, Ia Z (lst 3 (fun i => Int32.ofNat (shp t214 w214 i)))) :: (la214, La Z (lst 3 (fun i => EE (2 ^ w214 i)))) :: (xa, Ia Z (lst 3 (fun i => Int32.ofNat (w214 i)))) :: (sg214, La Z []) :: (ua, Ia Z (lst 3 (fun i => Int32.ofNat (u i)))) :: σ) := H219.pull 4 rfl
    refine G.callP K hl (wd hw 129 rfl) (wd hw 131 rfl) (wd hw 3 rfl) (wd hw 130 rfl) (wd hw 4 rfl) (wd hw 132 rfl) (by decide) pd_6 (H220.exa (i := 0) rfl) (ct_addJ l Z a0 hw n0 h214 a xa ly214 va214 sl214 ed214 sg214 sh ss wa214 sa214 la214 ed214 t214 n (wcn t214) 0 VF214 EF214 SL214 true m (-1) 0 ((wa214, Ia Z (lst 3 (fun i => Int32.ofNat (wdp t214 i)))) :: (sa214, Ia Z (lst 3 (fun i => Int32.ofNat (shp t214 w214 i)))) :: (la214, La Z (lst 3 (fun i => EE (2 ^ w214 i)))) :: (xa, Ia Z (lst 3 (fun i => Int32.ofNat (w214 i)))) :: (sg214, La Z []) :: (ua, Ia Z (lst 3 (fun i => Int32.ofNat (u i)))) :: σ) (by omega) C214.tab.ent (by omega) (by omega) hL H220) 0 rfl (by decide) (by decide) (by decide) (by decide) rfl rfl [.int (hF (fun k => EF214 (0 + k)) (wcn t214)), .int 0, .ref ed214] rfl D98_2_56 ?_
    rintro _ h221 hq
    obtain ⟨-, rfl, rfl⟩ := hq.resolve_right (fun z => absurd z.1 (by decide))
    change G k n0 _ h214 _ _ 59 [.val (.ref a), .val (.ref ua), .val (.int 3)] [.int (Int32.ofNat m)]
    refine G.ret_int K D98_2_59 ?_
    have H222 : Hp n0 h214 ((xa, Ia Z (lst 3 (fun i => Int32.ofNat (w214 i)))) :: (a, Ob Z CSn NSS [.ref xa, .ref ly214, .ref va214, .ref sl214, .int (Int32.ofNat n), .ref ed214, .int (-1), .ref sg214, .ref sh, .ref ss, .int 0]) :: (ly214, Ob Z CYn NSY [.ref wa214, .ref sa214, .ref la214, .int (Int32.ofNat (wcn t214))]) :: (va214, La Z (lst 16 VF214)) :: (sl214, Ia Z (lst 32 (fun s => Int32.ofNat (SL214 s)))) :: (ed214, La Z (lst (wcn t214) EF214)) :: (wa214, Ia Z (lst 3 (fun i => Int32.ofNat (wdp t214 i)))) :: (sa214, Ia Z (lst 3 (fun i => Int32.ofNat (shp t214 w214 i)))) :: (la214, La Z (lst 3 (fun i => EE (2 ^ w214 i)))) :: (sg214, La Z []) :: (ua, Ia Z (lst 3 (fun i => Int32.ofNat (u i)))) :: σ) := H220.pull 8 rfl
    have H223 : Hp n0 h214 ((la214, La Z (lst 3 (fun i => EE (2 ^ w214 i)))) :: (xa, Ia Z (lst 3 (fun i => Int32.ofNat (w214 i)))) :: (a, Ob Z CSn NSS [.ref xa, .ref ly214, .ref va214, .ref sl214, .int (Int32.ofNat n), .ref ed214, .int (-1), .ref sg214, .ref sh, .ref ss, .int 0]) :: (ly214, Ob Z CYn NSY [.ref wa214, .ref sa214, .ref la214, .int (Int32.ofNat (wcn t214))]) :: (va214, La Z (lst 16 VF214)) :: (sl214, Ia Z (lst 32 (fun s => Int32.ofNat (SL214 s)))) :: (ed214, La Z (lst (wcn t214) EF214)) :: (wa214, Ia Z (lst 3 (fun i => Int32.ofNat (wdp t214 i)))) :: (sa214, Ia Z (lst 3 (fun i => Int32.ofNat (shp t214 w214 i)))) :: (sg214, La Z []) :: (ua, Ia Z (lst 3 (fun i => Int32.ofNat (u i)))) :: σ) := H222.pull 8 rfl
    have H224 : Hp n0 h214 ((sa214, Ia Z (lst 3 (fun i => Int32.ofNat (shp t214 w214 i)))) :: (la214, La Z (lst 3 (fun i => EE (2 ^ w214 i)))) :: (xa, Ia Z (lst 3 (fun i => Int32.ofNat (w214 i)))) :: (a, Ob Z CSn NSS [.ref xa, .ref ly214, .ref va214, .ref sl214, .int (Int32.ofNat n), .ref ed214, .int (-1), .ref sg214, .ref sh, .ref ss, .int 0]) :: (ly214, Ob Z CYn NSY [.ref wa214, .ref sa214, .ref la214, .int (Int32.ofNat (wcn t214))]) :: (va214, La Z (lst 16 VF214)) :: (sl214, Ia Z (lst 32 (fun s => Int32.ofNat (SL214 s)))) :: (ed214, La Z (lst (wcn t214) EF214)) :: (wa214, Ia Z (lst 3 (fun i => Int32.ofNat (wdp t214 i)))) :: (sg214, La Z []) :: (ua, Ia Z (lst 3 (fun i => Int32.ofNat (u i)))) :: σ) := H223.pull 8 rfl
    have H225 : Hp n0 h214 ((wa214, Ia Z (lst 3 (fun i => Int32.ofNat (wdp t214 i)))) :: (sa214, Ia Z (lst 3 (fun i => Int32.ofNat (shp t214 w214 i)))) :: (la214, La Z (lst 3 (fun i => EE (2 ^ w214 i)))) :: (xa, Ia Z (lst 3 (fun i => Int32.ofNat (w214 i)))) :: (a, Ob Z CSn NSS [.ref xa, .ref ly214, .ref va214, .ref sl214, .int (Int32.ofNat n), .ref ed214, .int (-1), .ref sg214, .ref sh, .ref ss, .int 0]) :: (ly214, Ob Z CYn NSY [.ref wa214, .ref sa214, .ref la214, .int (Int32.ofNat (wcn t214))]) :: (va214, La Z (lst 16 VF214)) :: (sl214, Ia Z (lst 32 (fun s => Int32.ofNat (SL214 s)))) :: (ed214, La Z (lst (wcn t214) EF214)) :: (sg214, La Z []) :: (ua, Ia Z (lst 3 (fun i => Int32.ofNat (u i)))) :: σ) := H224.pull 8 rfl
    have H226 : Hp n0 h214 ((ly214, Ob Z CYn NSY [.ref wa214, .ref sa214, .ref la214, .int (Int32.ofNat (wcn t214))]) :: (wa214, Ia Z (lst 3 (fun i => Int32.ofNat (wdp t214 i)))) :: (sa214, Ia Z (lst 3 (fun i => Int32.ofNat (shp t214 w214 i)))) :: (la214, La Z (lst 3 (fun i => EE (2 ^ w214 i)))) :: (xa, Ia Z (lst 3 (fun i => Int32.ofNat (w214 i)))) :: (a, Ob Z CSn NSS [.ref xa, .ref ly214, .ref va214, .ref sl214, .int (Int32.ofNat n), .ref ed214, .int (-1), .ref sg214, .ref sh, .ref ss, .int 0]) :: (va214, La Z (lst 16 VF214)) :: (sl214, Ia Z (lst 32 (fun s => Int32.ofNat (SL214 s)))) :: (ed214, La Z (lst (wcn t214) EF214)) :: (sg214, La Z []) :: (ua, Ia Z (lst 3 (fun i => Int32.ofNat (u i)))) :: σ) := H225.pull 5 rfl
    have H227 : Hp n0 h214 ((a, Ob Z CSn NSS [.ref xa, .ref ly214, .ref va214, .ref sl214, .int (Int32.ofNat n), .ref ed214, .int (-1), .ref sg214, .ref sh, .ref ss, .int 0]) :: (ly214, Ob Z CYn NSY [.ref wa214, .ref sa214, .ref la214, .int (Int32.ofNat (wcn t214))]) :: (wa214, Ia Z (lst 3 (fun i => Int32.ofNat (wdp t214 i)))) :: (sa214, Ia Z (lst 3 (fun i => Int32.ofNat (shp t214 w214 i)))) :: (la214, La Z (lst 3 (fun i => EE (2 ^ w214 i)))) :: (xa, Ia Z (lst 3 (fun i => Int32.ofNat (w214 i)))) :: (va214, La Z (lst 16 VF214)) :: (sl214, Ia Z (lst 32 (fun s => Int32.ofNat (SL214 s)))) :: (ed214, La Z (lst (wcn t214) EF214)) :: (sg214, La Z []) :: (ua, Ia Z (lst 3 (fun i => Int32.ofNat (u i)))) :: σ) := H226.pull 5 rfl
    exact ⟨_, _, _, _, _, _, _, _, _, _, _, _, _, m, n, vals, rfl, Or.inl ⟨hm, rfl, rfl, hmp⟩, C214, H227⟩
  · change G k n0 _ h214 _ _ 56 [.val (.ref a), .val (.ref ua), .val (.int 3)] [.int (hF (fun k => EF214 (0 + k)) (wcn t214)), .int 0, .ref ed214, .ref a]
    have H228 : Hp n0 h214 ((sl214, Ia Z (lst 32 (fun s => Int32.ofNat (SL214 s)))) :: (ed214, La Z (lst (wcn t214) EF214)) :: (a, Ob Z CSn NSS [.ref xa, .ref ly214, .ref va214, .ref sl214, .int (Int32.ofNat n), .ref ed214, .int (-1), .ref sg214, .ref sh, .ref ss, .int 0]) :: (ly214, Ob Z CYn NSY [.ref wa214, .ref sa214, .ref la214, .int (Int32.ofNat (wcn t214))]) :: (wa214, Ia Z (lst 3 (fun i => Int32.ofNat (wdp t214 i)))) :: (sa214, Ia Z (lst 3 (fun i => Int32.ofNat (shp t214 w214 i)))) :: (la214, La Z (lst 3 (fun i => EE (2 ^ w214 i)))) :: (xa, Ia Z (lst 3 (fun i => Int32.ofNat (w214 i)))) :: (va214, La Z (lst 16 VF214)) :: (sg214, La Z []) :: (ua, Ia Z (lst 3 (fun i => Int32.ofNat (u i)))) :: σ) := H216.pull 8 rfl
    have H229 : Hp n0 h214 ((va214, La Z (lst 16 VF214)) :: (sl214, Ia Z (lst 32 (fun s => Int32.ofNat (SL214 s)))) :: (ed214, La Z (lst (wcn t214) EF214)) :: (a, Ob Z CSn NSS [.ref xa, .ref ly214, .ref va214, .ref sl214, .int (Int32.ofNat n), .ref ed214, .int (-1), .ref sg214, .ref sh, .ref ss, .int 0]) :: (ly214, Ob Z CYn NSY [.ref wa214, .ref sa214, .ref la214, .int (Int32.ofNat (wcn t214))]) :: (wa214, Ia Z (lst 3 (fun i => Int32.ofNat (wdp t214 i)))) :: (sa214, Ia Z (lst 3 (fun i => Int32.ofNat (shp t214 w214 i)))) :: (la214, La Z (lst 3 (fun i => EE (2 ^ w214 i)))) :: (xa, Ia Z (lst 3 (fun i => Int32.ofNat (w214 i)))) :: (sg214, La Z []) :: (ua, Ia Z (lst 3 (fun i => Int32.ofNat (u i)))) :: σ) := H228.pull 8 rfl
    have H230 : Hp n0 h214 ((ly214, Ob Z CYn NSY [.ref wa214, .ref sa214, .ref la214, .int (Int32.ofNat (wcn t214))]) :: (va214, La Z (lst 16 VF214)) :: (sl214, Ia Z (lst 32 (fun s => Int32.ofNat (SL214 s)))) :: (ed214, La Z (lst (wcn t214) EF214)) :: (a, Ob Z CSn NSS [.ref xa, .ref ly214, .ref va214, .ref sl214, .int (Int32.ofNat n), .ref ed214, .int (-1), .ref sg214, .ref sh, .ref ss, .int 0]) :: (wa214, Ia Z (lst 3 (fun i => Int32.ofNat (wdp t214 i)))) :: (sa214, Ia Z (lst 3 (fun i => Int32.ofNat (shp t214 w214 i)))) :: (la214, La Z (lst 3 (fun i => EE (2 ^ w214 i)))) :: (xa, Ia Z (lst 3 (fun i => Int32.ofNat (w214 i)))) :: (sg214, La Z []) :: (ua, Ia Z (lst 3 (fun i => Int32.ofNat (u i)))) :: σ) := H229.pull 4 rfl
    have H231 : Hp n0 h214 ((a, Ob Z CSn NSS [.ref xa, .ref ly214, .ref va214, .ref sl214, .int (Int32.ofNat n), .ref ed214, .int (-1), .ref sg214, .ref sh, .ref ss, .int 0]) :: (ly214, Ob Z CYn NSY [.ref wa214, .ref sa214, .ref la214, .int (Int32.ofNat (wcn t214))]) :: (va214, La Z (lst 16 VF214)) :: (sl214, Ia Z (lst 32 (fun s => Int32.ofNat (SL214 s)))) :: (ed214, La Z (lst (wcn t214) EF214)) :: (wa214, Ia Z (lst 3 (fun i => Int32.ofNat (wdp t214 i)))) :: (sa214, Ia Z (lst 3 (fun i => Int32.ofNat (shp t214 w214 i)))) :: (la214, La Z (lst 3 (fun i => EE (2 ^ w214 i)))) :: (xa, Ia Z (lst 3 (fun i => Int32.ofNat (w214 i)))) :: (sg214, La Z []) :: (ua, Ia Z (lst 3 (fun i => Int32.ofNat (u i)))) :: σ) := H230.pull 4 rfl
    refine G.callP K hl (wd hw 129 rfl) (wd hw 131 rfl) (wd hw 3 rfl) (wd hw 130 rfl) (wd hw 4 rfl) (wd hw 132 rfl) (by decide) pd_6 (H231.exa (i := 0) rfl) (ct_addJ l Z a0 hw n0 h214 a xa ly214 va214 sl214 ed214 sg214 sh ss wa214 sa214 la214 ed214 t214 n (wcn t214) 0 VF214 EF214 SL214 false r (-1) 0 ((wa214, Ia Z (lst 3 (fun i => Int32.ofNat (wdp t214 i)))) :: (sa214, Ia Z (lst 3 (fun i => Int32.ofNat (shp t214 w214 i)))) :: (la214, La Z (lst 3 (fun i => EE (2 ^ w214 i)))) :: (xa, Ia Z (lst 3 (fun i => Int32.ofNat (w214 i)))) :: (sg214, La Z []) :: (ua, Ia Z (lst 3 (fun i => Int32.ofNat (u i)))) :: σ) (by omega) C214.tab.ent (by omega) (by omega) hL H231) 0 rfl (by decide) (by decide) (by decide) (by decide) rfl rfl [.int (hF (fun k => EF214 (0 + k)) (wcn t214)), .int 0, .ref ed214] rfl D98_2_56 ?_
    rintro _ h232 hq
    obtain ⟨-, rfl, H232⟩ := hq.resolve_left (fun z => absurd z.1 (by decide))
    change G k n0 _ h232 _ _ 59 [.val (.ref a), .val (.ref ua), .val (.int 3)] [.int (Int32.ofNat n)]
    refine G.ret_int K D98_2_59 ?_
    have H233 : Hp n0 h232 ((xa, Ia Z (lst 3 (fun i => Int32.ofNat (w214 i)))) :: (a, Ob Z CSn NSS [.ref xa, .ref ly214, .ref va214, .ref sl214, .int (Int32.ofNat (n + 1)), .ref ed214, .int (-1), .ref sg214, .ref sh, .ref ss, .int 0]) :: (ly214, Ob Z CYn NSY [.ref wa214, .ref sa214, .ref la214, .int (Int32.ofNat (wcn t214))]) :: (va214, La Z (lst 16 (cpF EF214 VF214 0 (n * wcn t214) (wcn t214)))) :: (sl214, Ia Z (lst 32 (fun s => Int32.ofNat ((ups SL214 r (n + 1)) s)))) :: (ed214, La Z (lst (wcn t214) EF214)) :: (wa214, Ia Z (lst 3 (fun i => Int32.ofNat (wdp t214 i)))) :: (sa214, Ia Z (lst 3 (fun i => Int32.ofNat (shp t214 w214 i)))) :: (la214, La Z (lst 3 (fun i => EE (2 ^ w214 i)))) :: (sg214, La Z []) :: (ua, Ia Z (lst 3 (fun i => Int32.ofNat (u i)))) :: σ) := H232.pull 8 rfl
    have H234 : Hp n0 h232 ((la214, La Z (lst 3 (fun i => EE (2 ^ w214 i)))) :: (xa, Ia Z (lst 3 (fun i => Int32.ofNat (w214 i)))) :: (a, Ob Z CSn NSS [.ref xa, .ref ly214, .ref va214, .ref sl214, .int (Int32.ofNat (n + 1)), .ref ed214, .int (-1), .ref sg214, .ref sh, .ref ss, .int 0]) :: (ly214, Ob Z CYn NSY [.ref wa214, .ref sa214, .ref la214, .int (Int32.ofNat (wcn t214))]) :: (va214, La Z (lst 16 (cpF EF214 VF214 0 (n * wcn t214) (wcn t214)))) :: (sl214, Ia Z (lst 32 (fun s => Int32.ofNat ((ups SL214 r (n + 1)) s)))) :: (ed214, La Z (lst (wcn t214) EF214)) :: (wa214, Ia Z (lst 3 (fun i => Int32.ofNat (wdp t214 i)))) :: (sa214, Ia Z (lst 3 (fun i => Int32.ofNat (shp t214 w214 i)))) :: (sg214, La Z []) :: (ua, Ia Z (lst 3 (fun i => Int32.ofNat (u i)))) :: σ) := H233.pull 8 rfl
    have H235 : Hp n0 h232 ((sa214, Ia Z (lst 3 (fun i => Int32.ofNat (shp t214 w214 i)))) :: (la214, La Z (lst 3 (fun i => EE (2 ^ w214 i)))) :: (xa, Ia Z (lst 3 (fun i => Int32.ofNat (w214 i)))) :: (a, Ob Z CSn NSS [.ref xa, .ref ly214, .ref va214, .ref sl214, .int (Int32.ofNat (n + 1)), .ref ed214, .int (-1), .ref sg214, .ref sh, .ref ss, .int 0]) :: (ly214, Ob Z CYn NSY [.ref wa214, .ref sa214, .ref la214, .int (Int32.ofNat (wcn t214))]) :: (va214, La Z (lst 16 (cpF EF214 VF214 0 (n * wcn t214) (wcn t214)))) :: (sl214, Ia Z (lst 32 (fun s => Int32.ofNat ((ups SL214 r (n + 1)) s)))) :: (ed214, La Z (lst (wcn t214) EF214)) :: (wa214, Ia Z (lst 3 (fun i => Int32.ofNat (wdp t214 i)))) :: (sg214, La Z []) :: (ua, Ia Z (lst 3 (fun i => Int32.ofNat (u i)))) :: σ) := H234.pull 8 rfl
    have H236 : Hp n0 h232 ((wa214, Ia Z (lst 3 (fun i => Int32.ofNat (wdp t214 i)))) :: (sa214, Ia Z (lst 3 (fun i => Int32.ofNat (shp t214 w214 i)))) :: (la214, La Z (lst 3 (fun i => EE (2 ^ w214 i)))) :: (xa, Ia Z (lst 3 (fun i => Int32.ofNat (w214 i)))) :: (a, Ob Z CSn NSS [.ref xa, .ref ly214, .ref va214, .ref sl214, .int (Int32.ofNat (n + 1)), .ref ed214, .int (-1), .ref sg214, .ref sh, .ref ss, .int 0]) :: (ly214, Ob Z CYn NSY [.ref wa214, .ref sa214, .ref la214, .int (Int32.ofNat (wcn t214))]) :: (va214, La Z (lst 16 (cpF EF214 VF214 0 (n * wcn t214) (wcn t214)))) :: (sl214, Ia Z (lst 32 (fun s => Int32.ofNat ((ups SL214 r (n + 1)) s)))) :: (ed214, La Z (lst (wcn t214) EF214)) :: (sg214, La Z []) :: (ua, Ia Z (lst 3 (fun i => Int32.ofNat (u i)))) :: σ) := H235.pull 8 rfl
    have H237 : Hp n0 h232 ((ly214, Ob Z CYn NSY [.ref wa214, .ref sa214, .ref la214, .int (Int32.ofNat (wcn t214))]) :: (wa214, Ia Z (lst 3 (fun i => Int32.ofNat (wdp t214 i)))) :: (sa214, Ia Z (lst 3 (fun i => Int32.ofNat (shp t214 w214 i)))) :: (la214, La Z (lst 3 (fun i => EE (2 ^ w214 i)))) :: (xa, Ia Z (lst 3 (fun i => Int32.ofNat (w214 i)))) :: (a, Ob Z CSn NSS [.ref xa, .ref ly214, .ref va214, .ref sl214, .int (Int32.ofNat (n + 1)), .ref ed214, .int (-1), .ref sg214, .ref sh, .ref ss, .int 0]) :: (va214, La Z (lst 16 (cpF EF214 VF214 0 (n * wcn t214) (wcn t214)))) :: (sl214, Ia Z (lst 32 (fun s => Int32.ofNat ((ups SL214 r (n + 1)) s)))) :: (ed214, La Z (lst (wcn t214) EF214)) :: (sg214, La Z []) :: (ua, Ia Z (lst 3 (fun i => Int32.ofNat (u i)))) :: σ) := H236.pull 5 rfl
    have H238 : Hp n0 h232 ((a, Ob Z CSn NSS [.ref xa, .ref ly214, .ref va214, .ref sl214, .int (Int32.ofNat (n + 1)), .ref ed214, .int (-1), .ref sg214, .ref sh, .ref ss, .int 0]) :: (ly214, Ob Z CYn NSY [.ref wa214, .ref sa214, .ref la214, .int (Int32.ofNat (wcn t214))]) :: (wa214, Ia Z (lst 3 (fun i => Int32.ofNat (wdp t214 i)))) :: (sa214, Ia Z (lst 3 (fun i => Int32.ofNat (shp t214 w214 i)))) :: (la214, La Z (lst 3 (fun i => EE (2 ^ w214 i)))) :: (xa, Ia Z (lst 3 (fun i => Int32.ofNat (w214 i)))) :: (va214, La Z (lst 16 (cpF EF214 VF214 0 (n * wcn t214) (wcn t214)))) :: (sl214, Ia Z (lst 32 (fun s => Int32.ofNat ((ups SL214 r (n + 1)) s)))) :: (ed214, La Z (lst (wcn t214) EF214)) :: (sg214, La Z []) :: (ua, Ia Z (lst 3 (fun i => Int32.ofNat (u i)))) :: σ) := H237.pull 5 rfl
    exact ⟨_, _, _, _, _, _, _, _, _, _, _, _, _, n, n + 1, _, rfl, Or.inr ⟨hd, rfl, rfl, rfl⟩, C214.put (FF := EF214) (b := 0) (fun k hk => by rw [Nat.zero_add]; exact C214.edi k hk) C214.oke hd hL, H238⟩
theorem D98_3_0 : Dc prog_98_method_3_code 0 (.aload_n 0) 1 1 := dc (by decide +kernel) rfl
theorem D98_3_1 : Dc prog_98_method_3_code 1 (.getfield 43) 3 4 := dc (by decide +kernel) rfl
theorem D98_3_4 : Dc prog_98_method_3_code 4 (.aload_n 0) 1 5 := dc (by decide +kernel) rfl
theorem D98_3_5 : Dc prog_98_method_3_code 5 (.getfield 50) 3 8 := dc (by decide +kernel) rfl
theorem D98_3_8 : Dc prog_98_method_3_code 8 (.iload_n 1) 1 9 := dc (by decide +kernel) rfl
theorem D98_3_9 : Dc prog_98_method_3_code 9 (.aload_n 0) 1 10 := dc (by decide +kernel) rfl
theorem D98_3_10 : Dc prog_98_method_3_code 10 (.getfield 43) 3 13 := dc (by decide +kernel) rfl
theorem D98_3_13 : Dc prog_98_method_3_code 13 (.getfield 47) 3 16 := dc (by decide +kernel) rfl
theorem D98_3_16 : Dc prog_98_method_3_code 16 (.imul) 1 17 := dc (by decide +kernel) rfl
theorem D98_3_17 : Dc prog_98_method_3_code 17 (.aload_n 2) 1 18 := dc (by decide +kernel) rfl
theorem D98_3_18 : Dc prog_98_method_3_code 18 (.invokevirtual 70) 3 21 := dc (by decide +kernel) rfl
theorem D98_3_21 : Dc prog_98_method_3_code 21 (.return_) 1 22 := dc (by decide +kernel) rfl
set_option maxRecDepth 65536 in
set_option maxHeartbeats 40000000 in
theorem ct_get (l : Launch) (Z : State) (a0 : Array Value) (hw : ∀ d ∈ tables_1, d.before a0 Z = true) (n0 : Nat) (h : Heap) (a xa ly va sl ed sg sh ss : Addr) (wa sa la oa : Addr) (t : Bool) (w v : Nat → Nat) (m : Nat) (VF : Nat → Int64) (GG : Nat → Int32) (zs ef sc : Int32) (σ : List Ch) (hO : OKv t w v) (hw1 : ∀ i, i < 3 → 0 < w i) (hV : ∀ k, k < wcn t → VF (m * wcn t + k) = EE (enc t w v k)) (hb : m * wcn t + wcn t ≤ 16) (H : Hp n0 h ((a, Ob Z CSn NSS [.ref xa, .ref ly, .ref va, .ref sl, .int zs, .ref ed, .int ef, .ref sg, .ref sh, .ref ss, .int sc]) :: (ly, Ob Z CYn NSY [.ref wa, .ref sa, .ref la, .int (Int32.ofNat (wcn t))]) :: (wa, Ia Z (lst 3 (fun i => Int32.ofNat (wdp t i)))) :: (sa, Ia Z (lst 3 (fun i => Int32.ofNat (shp t w i)))) :: (la, La Z (lst 3 (fun i => EE (2 ^ w i)))) :: (va, La Z (lst 16 VF)) :: (oa, Ia Z (lst 3 GG)) :: σ)) :
    Ct l Z n0 (⟨"com/example/divergence/divergence/engine/StateStore", "get", "(I[I)V"⟩ : MethodName) prog_98_method_3_code 3 none ({ frames := 1, cells := 0, slots := 0, locals := 30 } : Room) [.ref a, .int (Int32.ofNat m), .ref oa] h (fun v_ h' => v_ = none ∧ Hp n0 h' ((a, Ob Z CSn NSS [.ref xa, .ref ly, .ref va, .ref sl, .int zs, .ref ed, .int ef, .ref sg, .ref sh, .ref ss, .int sc]) :: (ly, Ob Z CYn NSY [.ref wa, .ref sa, .ref la, .int (Int32.ofNat (wcn t))]) :: (wa, Ia Z (lst 3 (fun i => Int32.ofNat (wdp t i)))) :: (sa, Ia Z (lst 3 (fun i => Int32.ofNat (shp t w i)))) :: (la, La Z (lst 3 (fun i => EE (2 ^ w i)))) :: (va, La Z (lst 16 VF)) :: (oa, Ia Z (lst 3 (fun j => Int32.ofNat (v j)))) :: σ)) := by
  refine Ct.intro (plainFor_of_name pn_0) [.val (.ref a), .val (.int (Int32.ofNat m)), .val (.ref oa)] (fun m => by first | (simp [entryFrame, mkF, argsToLocals, Value.category]; done) | (simp [entryFrame, mkF, argsToLocals, Value.category, maxLocals]; done) | rfl) ?_
  intro k hl K
  replace K : Ok k Z n0 "com/example/divergence/divergence/engine/StateStore" ({ frames := 1, cells := 0, slots := 0, locals := 30 } : Room) prog_98_method_3_code 3 none "get" := K
  refine G.aloadN K D98_3_0 rfl rfl ?_
  refine G.getF K (host := "") (Or.inl (wd hw 43 rfl)) H (i := 0) rfl (j := 1) rfl rfl D98_3_1 ?_
  refine G.aloadN K D98_3_4 rfl rfl ?_
  refine G.getF K (host := "") (Or.inl (wd hw 46 rfl)) H (i := 0) rfl (j := 2) rfl rfl D98_3_5 ?_
  refine G.iloadN K D98_3_8 rfl ?_
  refine G.aloadN K D98_3_9 rfl rfl ?_
  refine G.getF K (host := "") (Or.inl (wd hw 43 rfl)) H (i := 0) rfl (j := 1) rfl rfl D98_3_10 ?_
  refine G.getFR K (wd hw 45 rfl) H (i := 1) rfl (j := 3) rfl rfl D98_3_13 ?_
  refine G.imul K D98_3_16 ?_
  rw [own_nmul m (wcn t)]
  refine G.aloadN K D98_3_17 rfl rfl ?_
  have H239 : Hp n0 h ((oa, Ia Z (lst 3 GG)) :: (a, Ob Z CSn NSS [.ref xa, .ref ly, .ref va, .ref sl, .int zs, .ref ed, .int ef, .ref sg, .ref sh, .ref ss, .int sc]) :: (ly, Ob Z CYn NSY [.ref wa, .ref sa, .ref la, .int (Int32.ofNat (wcn t))]) :: (wa, Ia Z (lst 3 (fun i => Int32.ofNat (wdp t i)))) :: (sa, Ia Z (lst 3 (fun i => Int32.ofNat (shp t w i)))) :: (la, La Z (lst 3 (fun i => EE (2 ^ w i)))) :: (va, La Z (lst 16 VF)) :: σ) := H.pull 6 rfl
  have H240 : Hp n0 h ((va, La Z (lst 16 VF)) :: (oa, Ia Z (lst 3 GG)) :: (a, Ob Z CSn NSS [.ref xa, .ref ly, .ref va, .ref sl, .int zs, .ref ed, .int ef, .ref sg, .ref sh, .ref ss, .int sc]) :: (ly, Ob Z CYn NSY [.ref wa, .ref sa, .ref la, .int (Int32.ofNat (wcn t))]) :: (wa, Ia Z (lst 3 (fun i => Int32.ofNat (wdp t i)))) :: (sa, Ia Z (lst 3 (fun i => Int32.ofNat (shp t w i)))) :: (la, La Z (lst 3 (fun i => EE (2 ^ w i)))) :: σ) := H239.pull 6 rfl
  have H241 : Hp n0 h ((la, La Z (lst 3 (fun i => EE (2 ^ w i)))) :: (va, La Z (lst 16 VF)) :: (oa, Ia Z (lst 3 GG)) :: (a, Ob Z CSn NSS [.ref xa, .ref ly, .ref va, .ref sl, .int zs, .ref ed, .int ef, .ref sg, .ref sh, .ref ss, .int sc]) :: (ly, Ob Z CYn NSY [.ref wa, .ref sa, .ref la, .int (Int32.ofNat (wcn t))]) :: (wa, Ia Z (lst 3 (fun i => Int32.ofNat (wdp t i)))) :: (sa, Ia Z (lst 3 (fun i => Int32.ofNat (shp t w i)))) :: σ) := H240.pull 6 rfl
  have H242 : Hp n0 h ((sa, Ia Z (lst 3 (fun i => Int32.ofNat (shp t w i)))) :: (la, La Z (lst 3 (fun i => EE (2 ^ w i)))) :: (va, La Z (lst 16 VF)) :: (oa, Ia Z (lst 3 GG)) :: (a, Ob Z CSn NSS [.ref xa, .ref ly, .ref va, .ref sl, .int zs, .ref ed, .int ef, .ref sg, .ref sh, .ref ss, .int sc]) :: (ly, Ob Z CYn NSY [.ref wa, .ref sa, .ref la, .int (Int32.ofNat (wcn t))]) :: (wa, Ia Z (lst 3 (fun i => Int32.ofNat (wdp t i)))) :: σ) := H241.pull 6 rfl
  have H243 : Hp n0 h ((wa, Ia Z (lst 3 (fun i => Int32.ofNat (wdp t i)))) :: (sa, Ia Z (lst 3 (fun i => Int32.ofNat (shp t w i)))) :: (la, La Z (lst 3 (fun i => EE (2 ^ w i)))) :: (va, La Z (lst 16 VF)) :: (oa, Ia Z (lst 3 GG)) :: (a, Ob Z CSn NSS [.ref xa, .ref ly, .ref va, .ref sl, .int zs, .ref ed, .int ef, .ref sg, .ref sh, .ref ss, .int sc]) :: (ly, Ob Z CYn NSY [.ref wa, .ref sa, .ref la, .int (Int32.ofNat (wcn t))]) :: σ) := H242.pull 6 rfl
  have H244 : Hp n0 h ((ly, Ob Z CYn NSY [.ref wa, .ref sa, .ref la, .int (Int32.ofNat (wcn t))]) :: (wa, Ia Z (lst 3 (fun i => Int32.ofNat (wdp t i)))) :: (sa, Ia Z (lst 3 (fun i => Int32.ofNat (shp t w i)))) :: (la, La Z (lst 3 (fun i => EE (2 ^ w i)))) :: (va, La Z (lst 16 VF)) :: (oa, Ia Z (lst 3 GG)) :: (a, Ob Z CSn NSS [.ref xa, .ref ly, .ref va, .ref sl, .int zs, .ref ed, .int ef, .ref sg, .ref sh, .ref ss, .int sc]) :: σ) := H243.pull 6 rfl
  refine G.callV K hl (wd hw 98 rfl) (wd hw 99 rfl) (wd hw 101 rfl) (wd hw 100 rfl) (wd hw 30 rfl) (wd hw 102 rfl) (by decide) pd_4 (H244.exa (i := 0) rfl) (ct_unpack l Z a0 hw n0 h ly wa sa la va oa t w v 16 (m * wcn t) VF GG ((a, Ob Z CSn NSS [.ref xa, .ref ly, .ref va, .ref sl, .int zs, .ref ed, .int ef, .ref sg, .ref sh, .ref ss, .int sc]) :: σ) hO hw1 (by decide) hb hV H244) 0 rfl (by decide) (by decide) (by decide) (by decide) rfl rfl [.ref oa, .int (Int32.ofNat (m * wcn t)), .ref va] rfl D98_3_18 ?_
  rintro _ h245 ⟨rfl, H245⟩
  change G k n0 _ h245 _ _ 21 [.val (.ref a), .val (.int (Int32.ofNat m)), .val (.ref oa)] []
  refine G.ret_void K D98_3_21 ?_
  have H246 : Hp n0 h245 ((a, Ob Z CSn NSS [.ref xa, .ref ly, .ref va, .ref sl, .int zs, .ref ed, .int ef, .ref sg, .ref sh, .ref ss, .int sc]) :: (ly, Ob Z CYn NSY [.ref wa, .ref sa, .ref la, .int (Int32.ofNat (wcn t))]) :: (wa, Ia Z (lst 3 (fun i => Int32.ofNat (wdp t i)))) :: (sa, Ia Z (lst 3 (fun i => Int32.ofNat (shp t w i)))) :: (la, La Z (lst 3 (fun i => EE (2 ^ w i)))) :: (va, La Z (lst 16 VF)) :: (oa, Ia Z (lst 3 (fun j => Int32.ofNat (v j)))) :: σ) := H245.pull 6 rfl
  exact ⟨rfl, H246⟩
theorem D98_1_0 : Dc prog_98_method_1_code 0 (.aload_n 0) 1 1 := dc (by decide +kernel) rfl
theorem D98_1_1 : Dc prog_98_method_1_code 1 (.invokespecial 3) 3 4 := dc (by decide +kernel) rfl
theorem D98_1_4 : Dc prog_98_method_1_code 4 (.aload_n 0) 1 5 := dc (by decide +kernel) rfl
theorem D98_1_5 : Dc prog_98_method_1_code 5 (.bipush 32) 2 7 := dc (by decide +kernel) rfl
theorem D98_1_7 : Dc prog_98_method_1_code 7 (.newarray .int) 2 9 := dc (by decide +kernel) rfl
theorem D98_1_9 : Dc prog_98_method_1_code 9 (.putfield 9) 3 12 := dc (by decide +kernel) rfl
theorem D98_1_12 : Dc prog_98_method_1_code 12 (.aload_n 0) 1 13 := dc (by decide +kernel) rfl
theorem D98_1_13 : Dc prog_98_method_1_code 13 (.iconst (-1)) 1 14 := dc (by decide +kernel) rfl
theorem D98_1_14 : Dc prog_98_method_1_code 14 (.putfield 15) 3 17 := dc (by decide +kernel) rfl
theorem D98_1_17 : Dc prog_98_method_1_code 17 (.aload_n 0) 1 18 := dc (by decide +kernel) rfl
theorem D98_1_18 : Dc prog_98_method_1_code 18 (.iconst 0) 1 19 := dc (by decide +kernel) rfl
theorem D98_1_19 : Dc prog_98_method_1_code 19 (.newarray .long) 2 21 := dc (by decide +kernel) rfl
theorem D98_1_21 : Dc prog_98_method_1_code 21 (.putfield 19) 3 24 := dc (by decide +kernel) rfl
theorem D98_1_24 : Dc prog_98_method_1_code 24 (.aload_n 0) 1 25 := dc (by decide +kernel) rfl
theorem D98_1_25 : Dc prog_98_method_1_code 25 (.bipush 16) 2 27 := dc (by decide +kernel) rfl
theorem D98_1_27 : Dc prog_98_method_1_code 27 (.newarray .int) 2 29 := dc (by decide +kernel) rfl
theorem D98_1_29 : Dc prog_98_method_1_code 29 (.putfield 23) 3 32 := dc (by decide +kernel) rfl
theorem D98_1_32 : Dc prog_98_method_1_code 32 (.aload_n 0) 1 33 := dc (by decide +kernel) rfl
theorem D98_1_33 : Dc prog_98_method_1_code 33 (.bipush 16) 2 35 := dc (by decide +kernel) rfl
theorem D98_1_35 : Dc prog_98_method_1_code 35 (.newarray .int) 2 37 := dc (by decide +kernel) rfl
theorem D98_1_37 : Dc prog_98_method_1_code 37 (.putfield 26) 3 40 := dc (by decide +kernel) rfl
theorem D98_1_40 : Dc prog_98_method_1_code 40 (.aload_n 0) 1 41 := dc (by decide +kernel) rfl
theorem D98_1_41 : Dc prog_98_method_1_code 41 (.iload_n 1) 1 42 := dc (by decide +kernel) rfl
theorem D98_1_42 : Dc prog_98_method_1_code 42 (.newarray .int) 2 44 := dc (by decide +kernel) rfl
theorem D98_1_44 : Dc prog_98_method_1_code 44 (.putfield 29) 3 47 := dc (by decide +kernel) rfl
theorem D98_1_47 : Dc prog_98_method_1_code 47 (.aload_n 0) 1 48 := dc (by decide +kernel) rfl
theorem D98_1_48 : Dc prog_98_method_1_code 48 (.getfield 29) 3 51 := dc (by decide +kernel) rfl
theorem D98_1_51 : Dc prog_98_method_1_code 51 (.iconst 1) 1 52 := dc (by decide +kernel) rfl
theorem D98_1_52 : Dc prog_98_method_1_code 52 (.invokestatic 32) 3 55 := dc (by decide +kernel) rfl
theorem D98_1_55 : Dc prog_98_method_1_code 55 (.aload_n 0) 1 56 := dc (by decide +kernel) rfl
theorem D98_1_56 : Dc prog_98_method_1_code 56 (.new 38) 3 59 := dc (by decide +kernel) rfl
theorem D98_1_59 : Dc prog_98_method_1_code 59 (.dup) 1 60 := dc (by decide +kernel) rfl
theorem D98_1_60 : Dc prog_98_method_1_code 60 (.aload_n 0) 1 61 := dc (by decide +kernel) rfl
theorem D98_1_61 : Dc prog_98_method_1_code 61 (.getfield 29) 3 64 := dc (by decide +kernel) rfl
theorem D98_1_64 : Dc prog_98_method_1_code 64 (.invokespecial 40) 3 67 := dc (by decide +kernel) rfl
theorem D98_1_67 : Dc prog_98_method_1_code 67 (.putfield 43) 3 70 := dc (by decide +kernel) rfl
theorem D98_1_70 : Dc prog_98_method_1_code 70 (.aload_n 0) 1 71 := dc (by decide +kernel) rfl
theorem D98_1_71 : Dc prog_98_method_1_code 71 (.bipush 16) 2 73 := dc (by decide +kernel) rfl
theorem D98_1_73 : Dc prog_98_method_1_code 73 (.aload_n 0) 1 74 := dc (by decide +kernel) rfl
theorem D98_1_74 : Dc prog_98_method_1_code 74 (.getfield 43) 3 77 := dc (by decide +kernel) rfl
theorem D98_1_77 : Dc prog_98_method_1_code 77 (.getfield 47) 3 80 := dc (by decide +kernel) rfl
theorem D98_1_80 : Dc prog_98_method_1_code 80 (.imul) 1 81 := dc (by decide +kernel) rfl
theorem D98_1_81 : Dc prog_98_method_1_code 81 (.newarray .long) 2 83 := dc (by decide +kernel) rfl
theorem D98_1_83 : Dc prog_98_method_1_code 83 (.putfield 50) 3 86 := dc (by decide +kernel) rfl
theorem D98_1_86 : Dc prog_98_method_1_code 86 (.aload_n 0) 1 87 := dc (by decide +kernel) rfl
theorem D98_1_87 : Dc prog_98_method_1_code 87 (.aload_n 0) 1 88 := dc (by decide +kernel) rfl
theorem D98_1_88 : Dc prog_98_method_1_code 88 (.getfield 43) 3 91 := dc (by decide +kernel) rfl
theorem D98_1_91 : Dc prog_98_method_1_code 91 (.getfield 47) 3 94 := dc (by decide +kernel) rfl
theorem D98_1_94 : Dc prog_98_method_1_code 94 (.newarray .long) 2 96 := dc (by decide +kernel) rfl
theorem D98_1_96 : Dc prog_98_method_1_code 96 (.putfield 53) 3 99 := dc (by decide +kernel) rfl
theorem D98_1_99 : Dc prog_98_method_1_code 99 (.return_) 1 100 := dc (by decide +kernel) rfl
set_option maxRecDepth 65536 in
set_option maxHeartbeats 40000000 in
theorem ct_init (l : Launch) (Z : State) (a0 : Array Value) (hw : ∀ d ∈ tables_1, d.before a0 Z = true) (n0 : Nat) (h : Heap) (a : Addr) (σ : List Ch) (H : Hp n0 h ((a, Ob Z CSn NSS [.null, .null, .null, .null, .int 0, .null, .int 0, .null, .null, .null, .int 0]) :: σ)) :
    Ct l Z n0 (⟨"com/example/divergence/divergence/engine/StateStore", "<init>", "(I)V"⟩ : MethodName) prog_98_method_1_code 2 none ({ frames := 2, cells := 11, slots := 112, locals := 60 } : Room) [.ref a, .int 3] h (fun v h' => ∃ (xa ly va sl ed sg sh ss wa sa la : Addr), v = none ∧ Hp n0 h' ((a, Ob Z CSn NSS [.ref xa, .ref ly, .ref va, .ref sl, .int (Int32.ofNat 0), .ref ed, .int (-1), .ref sg, .ref sh, .ref ss, .int 0]) :: (ly, Ob Z CYn NSY [.ref wa, .ref sa, .ref la, .int (Int32.ofNat (wcn false))]) :: (wa, Ia Z (lst 3 (fun i => Int32.ofNat (wdp false i)))) :: (sa, Ia Z (lst 3 (fun i => Int32.ofNat (shp false (fun _ => 1) i)))) :: (la, La Z (lst 3 (fun i => EE (2 ^ (fun _ => 1) i)))) :: (xa, Ia Z (lst 3 (fun i => Int32.ofNat ((fun _ => 1) i)))) :: (va, La Z (lst 16 (fun _ => 0))) :: (sl, Ia Z (lst 32 (fun s => Int32.ofNat ((fun _ => 0) s)))) :: (ed, La Z (lst (wcn false) (fun _ => 0))) :: (sg, La Z []) :: (sh, Ia Z (lst 16 (fun _ => 0))) :: (ss, Ia Z (lst 16 (fun _ => 0))) :: σ)) := by
  refine Ct.intro (plainFor_of_name pn_0) [.val (.ref a), .val (.int 3)] (fun m => by first | (simp [entryFrame, mkF, argsToLocals, Value.category]; done) | (simp [entryFrame, mkF, argsToLocals, Value.category, maxLocals]; done) | rfl) ?_
  intro k hl K
  replace K : Ok k Z n0 "com/example/divergence/divergence/engine/StateStore" ({ frames := 2, cells := 11, slots := 112, locals := 60 } : Room) prog_98_method_1_code 2 none "<init>" := K
  refine G.aloadN K D98_1_0 rfl rfl ?_
  refine G.initO K (wd hw 8 rfl) (wd hw 9 rfl) (wd hw 10 rfl) rfl 0 rfl (by decide) (by decide) D98_1_1 ?_
  refine G.aloadN K D98_1_4 rfl rfl ?_
  refine G.bipush K D98_1_5 32 rfl ?_
  refine G.newarr_i K (wd hw 0 rfl) H (by decide) 32 (by decide) (by decide) (by decide) (by decide) D98_1_7 ?_
  intro a247 h248 H248
  change Hp n0 h248 ((a247, Ia Z [0, 0, 0, 0, 0, 0, 0, 0, 0, 0, 0, 0, 0, 0, 0, 0, 0, 0, 0, 0, 0, 0, 0, 0, 0, 0, 0, 0, 0, 0, 0, 0]) :: (a, Ob Z CSn NSS [.null, .null, .null, .null, .int 0, .null, .int 0, .null, .null, .null, .int 0]) :: σ) at H248
  refine G.putF K (host := "") (Or.inl (wd hw 11 rfl)) (cf_NSS hw) (Or.inl (wd hw 12 rfl)) (wd hw 3 rfl) H248 (i := 1) rfl (j := 3) rfl rfl (ty := (.array .int)) (by decide) rfl rfl D98_1_9 ?_
  intro h249 H249
  change Hp n0 h249 ((a247, Ia Z [0, 0, 0, 0, 0, 0, 0, 0, 0, 0, 0, 0, 0, 0, 0, 0, 0, 0, 0, 0, 0, 0, 0, 0, 0, 0, 0, 0, 0, 0, 0, 0]) :: (a, Ob Z CSn NSS [.null, .null, .null, .ref a247, .int 0, .null, .int 0, .null, .null, .null, .int 0]) :: σ) at H249
  refine G.aloadN K D98_1_12 rfl rfl ?_
  refine G.iconst K D98_1_13 (-1) rfl ?_
  refine G.putF K (host := "") (Or.inl (wd hw 13 rfl)) (cf_NSS hw) (Or.inl (wd hw 14 rfl)) (wd hw 3 rfl) H249 (i := 1) rfl (j := 6) rfl rfl (ty := .int) (by decide) rfl rfl D98_1_14 ?_
  intro h250 H250
  change Hp n0 h250 ((a247, Ia Z [0, 0, 0, 0, 0, 0, 0, 0, 0, 0, 0, 0, 0, 0, 0, 0, 0, 0, 0, 0, 0, 0, 0, 0, 0, 0, 0, 0, 0, 0, 0, 0]) :: (a, Ob Z CSn NSS [.null, .null, .null, .ref a247, .int 0, .null, .int (-1), .null, .null, .null, .int 0]) :: σ) at H250
  refine G.aloadN K D98_1_17 rfl rfl ?_
  refine G.iconst K D98_1_18 0 rfl ?_
  refine G.newarr_l K (wd hw 15 rfl) H250 (by decide) 0 (by decide) (by decide) (by decide) (by decide) D98_1_19 ?_
  intro a251 h252 H252
  change Hp n0 h252 ((a251, La Z []) :: (a247, Ia Z [0, 0, 0, 0, 0, 0, 0, 0, 0, 0, 0, 0, 0, 0, 0, 0, 0, 0, 0, 0, 0, 0, 0, 0, 0, 0, 0, 0, 0, 0, 0, 0]) :: (a, Ob Z CSn NSS [.null, .null, .null, .ref a247, .int 0, .null, .int (-1), .null, .null, .null, .int 0]) :: σ) at H252
  refine G.putF K (host := "") (Or.inl (wd hw 16 rfl)) (cf_NSS hw) (Or.inl (wd hw 17 rfl)) (wd hw 3 rfl) H252 (i := 2) rfl (j := 7) rfl rfl (ty := (.array .long)) (by decide) rfl rfl D98_1_21 ?_
  intro h253 H253
  change Hp n0 h253 ((a251, La Z []) :: (a247, Ia Z [0, 0, 0, 0, 0, 0, 0, 0, 0, 0, 0, 0, 0, 0, 0, 0, 0, 0, 0, 0, 0, 0, 0, 0, 0, 0, 0, 0, 0, 0, 0, 0]) :: (a, Ob Z CSn NSS [.null, .null, .null, .ref a247, .int 0, .null, .int (-1), .ref a251, .null, .null, .int 0]) :: σ) at H253
  refine G.aloadN K D98_1_24 rfl rfl ?_
  refine G.bipush K D98_1_25 16 rfl ?_
  refine G.newarr_i K (wd hw 0 rfl) H253 (by decide) 16 (by decide) (by decide) (by decide) (by decide) D98_1_27 ?_
  intro a254 h255 H255
  change Hp n0 h255 ((a254, Ia Z [0, 0, 0, 0, 0, 0, 0, 0, 0, 0, 0, 0, 0, 0, 0, 0]) :: (a251, La Z []) :: (a247, Ia Z [0, 0, 0, 0, 0, 0, 0, 0, 0, 0, 0, 0, 0, 0, 0, 0, 0, 0, 0, 0, 0, 0, 0, 0, 0, 0, 0, 0, 0, 0, 0, 0]) :: (a, Ob Z CSn NSS [.null, .null, .null, .ref a247, .int 0, .null, .int (-1), .ref a251, .null, .null, .int 0]) :: σ) at H255
  refine G.putF K (host := "") (Or.inl (wd hw 18 rfl)) (cf_NSS hw) (Or.inl (wd hw 19 rfl)) (wd hw 3 rfl) H255 (i := 3) rfl (j := 8) rfl rfl (ty := (.array .int)) (by decide) rfl rfl D98_1_29 ?_
  intro h256 H256
  change Hp n0 h256 ((a254, Ia Z [0, 0, 0, 0, 0, 0, 0, 0, 0, 0, 0, 0, 0, 0, 0, 0]) :: (a251, La Z []) :: (a247, Ia Z [0, 0, 0, 0, 0, 0, 0, 0, 0, 0, 0, 0, 0, 0, 0, 0, 0, 0, 0, 0, 0, 0, 0, 0, 0, 0, 0, 0, 0, 0, 0, 0]) :: (a, Ob Z CSn NSS [.null, .null, .null, .ref a247, .int 0, .null, .int (-1), .ref a251, .ref a254, .null, .int 0]) :: σ) at H256
  refine G.aloadN K D98_1_32 rfl rfl ?_
  refine G.bipush K D98_1_33 16 rfl ?_
  refine G.newarr_i K (wd hw 0 rfl) H256 (by decide) 16 (by decide) (by decide) (by decide) (by decide) D98_1_35 ?_
  intro a257 h258 H258
  change Hp n0 h258 ((a257, Ia Z [0, 0, 0, 0, 0, 0, 0, 0, 0, 0, 0, 0, 0, 0, 0, 0]) :: (a254, Ia Z [0, 0, 0, 0, 0, 0, 0, 0, 0, 0, 0, 0, 0, 0, 0, 0]) :: (a251, La Z []) :: (a247, Ia Z [0, 0, 0, 0, 0, 0, 0, 0, 0, 0, 0, 0, 0, 0, 0, 0, 0, 0, 0, 0, 0, 0, 0, 0, 0, 0, 0, 0, 0, 0, 0, 0]) :: (a, Ob Z CSn NSS [.null, .null, .null, .ref a247, .int 0, .null, .int (-1), .ref a251, .ref a254, .null, .int 0]) :: σ) at H258
  refine G.putF K (host := "") (Or.inl (wd hw 20 rfl)) (cf_NSS hw) (Or.inl (wd hw 21 rfl)) (wd hw 3 rfl) H258 (i := 4) rfl (j := 9) rfl rfl (ty := (.array .int)) (by decide) rfl rfl D98_1_37 ?_
  intro h259 H259
  change Hp n0 h259 ((a257, Ia Z [0, 0, 0, 0, 0, 0, 0, 0, 0, 0, 0, 0, 0, 0, 0, 0]) :: (a254, Ia Z [0, 0, 0, 0, 0, 0, 0, 0, 0, 0, 0, 0, 0, 0, 0, 0]) :: (a251, La Z []) :: (a247, Ia Z [0, 0, 0, 0, 0, 0, 0, 0, 0, 0, 0, 0, 0, 0, 0, 0, 0, 0, 0, 0, 0, 0, 0, 0, 0, 0, 0, 0, 0, 0, 0, 0]) :: (a, Ob Z CSn NSS [.null, .null, .null, .ref a247, .int 0, .null, .int (-1), .ref a251, .ref a254, .ref a257, .int 0]) :: σ) at H259
  refine G.aloadN K D98_1_40 rfl rfl ?_
  refine G.iloadN K D98_1_41 rfl ?_
  refine G.newarr_i K (wd hw 0 rfl) H259 (by decide) 3 (by decide) (by decide) (by decide) (by decide) D98_1_42 ?_
  intro a260 h261 H261
  change Hp n0 h261 ((a260, Ia Z [0, 0, 0]) :: (a257, Ia Z [0, 0, 0, 0, 0, 0, 0, 0, 0, 0, 0, 0, 0, 0, 0, 0]) :: (a254, Ia Z [0, 0, 0, 0, 0, 0, 0, 0, 0, 0, 0, 0, 0, 0, 0, 0]) :: (a251, La Z []) :: (a247, Ia Z [0, 0, 0, 0, 0, 0, 0, 0, 0, 0, 0, 0, 0, 0, 0, 0, 0, 0, 0, 0, 0, 0, 0, 0, 0, 0, 0, 0, 0, 0, 0, 0]) :: (a, Ob Z CSn NSS [.null, .null, .null, .ref a247, .int 0, .null, .int (-1), .ref a251, .ref a254, .ref a257, .int 0]) :: σ) at H261
  refine G.putF K (host := "") (Or.inl (wd hw 22 rfl)) (cf_NSS hw) (Or.inr ⟨(wd hw 23 rfl), rfl, rfl⟩) (wd hw 3 rfl) H261 (i := 5) rfl (j := 0) rfl rfl (ty := (.array .int)) (by decide) rfl rfl D98_1_44 ?_
  intro h262 H262
  change Hp n0 h262 ((a260, Ia Z [0, 0, 0]) :: (a257, Ia Z [0, 0, 0, 0, 0, 0, 0, 0, 0, 0, 0, 0, 0, 0, 0, 0]) :: (a254, Ia Z [0, 0, 0, 0, 0, 0, 0, 0, 0, 0, 0, 0, 0, 0, 0, 0]) :: (a251, La Z []) :: (a247, Ia Z [0, 0, 0, 0, 0, 0, 0, 0, 0, 0, 0, 0, 0, 0, 0, 0, 0, 0, 0, 0, 0, 0, 0, 0, 0, 0, 0, 0, 0, 0, 0, 0]) :: (a, Ob Z CSn NSS [.ref a260, .null, .null, .ref a247, .int 0, .null, .int (-1), .ref a251, .ref a254, .ref a257, .int 0]) :: σ) at H262
  refine G.aloadN K D98_1_47 rfl rfl ?_
  refine G.getF K (host := "") (Or.inl (wd hw 22 rfl)) H262 (i := 5) rfl (j := 0) rfl rfl D98_1_48 ?_
  refine G.iconst K D98_1_51 1 rfl ?_
  refine G.callS K hl (wd hw 24 rfl) (wd hw 25 rfl) (wd hw 26 rfl) (wd hw 27 rfl) (by decide) pd_15 (ct_fillI l Z a0 hw n0 h262 a260 3 1 (fun _ => 0) ((a257, Ia Z [0, 0, 0, 0, 0, 0, 0, 0, 0, 0, 0, 0, 0, 0, 0, 0]) :: (a254, Ia Z [0, 0, 0, 0, 0, 0, 0, 0, 0, 0, 0, 0, 0, 0, 0, 0]) :: (a251, La Z []) :: (a247, Ia Z [0, 0, 0, 0, 0, 0, 0, 0, 0, 0, 0, 0, 0, 0, 0, 0, 0, 0, 0, 0, 0, 0, 0, 0, 0, 0, 0, 0, 0, 0, 0, 0]) :: (a, Ob Z CSn NSS [.ref a260, .null, .null, .ref a247, .int 0, .null, .int (-1), .ref a251, .ref a254, .ref a257, .int 0]) :: σ) (by decide) H262) 0 rfl (by decide) (by decide) (by decide) (by decide) rfl rfl [.int 1, .ref a260] rfl D98_1_52 ?_
  rintro _ h263 ⟨rfl, H263⟩
  change Hp n0 h263 ((a260, Ia Z (lst 3 (fun i => Int32.ofNat ((fun _ => 1) i)))) :: (a257, Ia Z [0, 0, 0, 0, 0, 0, 0, 0, 0, 0, 0, 0, 0, 0, 0, 0]) :: (a254, Ia Z [0, 0, 0, 0, 0, 0, 0, 0, 0, 0, 0, 0, 0, 0, 0, 0]) :: (a251, La Z []) :: (a247, Ia Z [0, 0, 0, 0, 0, 0, 0, 0, 0, 0, 0, 0, 0, 0, 0, 0, 0, 0, 0, 0, 0, 0, 0, 0, 0, 0, 0, 0, 0, 0, 0, 0]) :: (a, Ob Z CSn NSS [.ref a260, .null, .null, .ref a247, .int 0, .null, .int (-1), .ref a251, .ref a254, .ref a257, .int 0]) :: σ) at H263
  change G k n0 _ h263 _ _ 55 [.val (.ref a), .val (.int 3)] []
  refine G.aloadN K D98_1_55 rfl rfl ?_
  refine G.new K (wd hw 28 rfl) (wd hw 29 rfl) (wd hw 30 rfl) (cf_NSY hw) (vs := [.null, .null, .null, .int 0]) (by rfl) H263 (by decide) (by decide) D98_1_56 ?_
  intro a264 h265 H265
  change Hp n0 h265 ((a264, Ob Z CYn NSY [.null, .null, .null, .int 0]) :: (a260, Ia Z (lst 3 (fun i => Int32.ofNat ((fun _ => 1) i)))) :: (a257, Ia Z [0, 0, 0, 0, 0, 0, 0, 0, 0, 0, 0, 0, 0, 0, 0, 0]) :: (a254, Ia Z [0, 0, 0, 0, 0, 0, 0, 0, 0, 0, 0, 0, 0, 0, 0, 0]) :: (a251, La Z []) :: (a247, Ia Z [0, 0, 0, 0, 0, 0, 0, 0, 0, 0, 0, 0, 0, 0, 0, 0, 0, 0, 0, 0, 0, 0, 0, 0, 0, 0, 0, 0, 0, 0, 0, 0]) :: (a, Ob Z CSn NSS [.ref a260, .null, .null, .ref a247, .int 0, .null, .int (-1), .ref a251, .ref a254, .ref a257, .int 0]) :: σ) at H265
  refine G.dup K D98_1_59 rfl ?_
  refine G.aloadN K D98_1_60 rfl rfl ?_
  refine G.getF K (host := "") (Or.inl (wd hw 22 rfl)) H265 (i := 6) rfl (j := 0) rfl rfl D98_1_61 ?_
  refine G.callI K hl rfl (wd hw 31 rfl) (wd hw 32 rfl) (wd hw 30 rfl) (wd hw 33 rfl) (by decide) pd_9 (ct_layout l Z a0 hw n0 h265 a264 a260 (fun _ => 1) ((a257, Ia Z [0, 0, 0, 0, 0, 0, 0, 0, 0, 0, 0, 0, 0, 0, 0, 0]) :: (a254, Ia Z [0, 0, 0, 0, 0, 0, 0, 0, 0, 0, 0, 0, 0, 0, 0, 0]) :: (a251, La Z []) :: (a247, Ia Z [0, 0, 0, 0, 0, 0, 0, 0, 0, 0, 0, 0, 0, 0, 0, 0, 0, 0, 0, 0, 0, 0, 0, 0, 0, 0, 0, 0, 0, 0, 0, 0]) :: (a, Ob Z CSn NSS [.ref a260, .null, .null, .ref a247, .int 0, .null, .int (-1), .ref a251, .ref a254, .ref a257, .int 0]) :: σ) (by decide) trivial H265) 2 rfl (by decide) (by decide) (by decide) (by decide) rfl rfl [.ref a260] rfl D98_1_64 ?_
  rintro _ h266 ⟨t', wa', sa', la', rfl, hs, H266⟩
  obtain rfl := hs.mpr (by decide)
  change G k n0 _ h266 _ _ 67 [.val (.ref a), .val (.int 3)] [.ref a264, .ref a]
  refine G.putF K (host := "") (Or.inl (wd hw 43 rfl)) (cf_NSS hw) (Or.inl (wd hw 44 rfl)) (wd hw 3 rfl) H266 (i := 9) rfl (j := 1) rfl rfl (ty := (.object "com/example/divergence/divergence/engine/StateStore$Layout")) (by decide) rfl rfl D98_1_67 ?_
  intro h267 H267
  change Hp n0 h267 ((a264, Ob Z CYn NSY [.ref wa', .ref sa', .ref la', .int (Int32.ofNat (wcn false))]) :: (wa', Ia Z (lst 3 (fun i => Int32.ofNat (wdp false i)))) :: (sa', Ia Z (lst 3 (fun i => Int32.ofNat (shp false (fun _ => 1) i)))) :: (la', La Z (lst 3 (fun i => EE (2 ^ (fun _ => 1) i)))) :: (a260, Ia Z (lst 3 (fun i => Int32.ofNat ((fun _ => 1) i)))) :: (a257, Ia Z [0, 0, 0, 0, 0, 0, 0, 0, 0, 0, 0, 0, 0, 0, 0, 0]) :: (a254, Ia Z [0, 0, 0, 0, 0, 0, 0, 0, 0, 0, 0, 0, 0, 0, 0, 0]) :: (a251, La Z []) :: (a247, Ia Z [0, 0, 0, 0, 0, 0, 0, 0, 0, 0, 0, 0, 0, 0, 0, 0, 0, 0, 0, 0, 0, 0, 0, 0, 0, 0, 0, 0, 0, 0, 0, 0]) :: (a, Ob Z CSn NSS [.ref a260, .ref a264, .null, .ref a247, .int 0, .null, .int (-1), .ref a251, .ref a254, .ref a257, .int 0]) :: σ) at H267
  refine G.aloadN K D98_1_70 rfl rfl ?_
  refine G.bipush K D98_1_71 16 rfl ?_
  refine G.aloadN K D98_1_73 rfl rfl ?_
  refine G.getF K (host := "") (Or.inl (wd hw 43 rfl)) H267 (i := 9) rfl (j := 1) rfl rfl D98_1_74 ?_
  refine G.getFR K (wd hw 45 rfl) H267 (i := 0) rfl (j := 3) rfl rfl D98_1_77 ?_
  refine G.imul K D98_1_80 ?_
  rw [show 16 * Int32.ofNat (wcn false) = 16 from rfl]
  refine G.newarr_l K (wd hw 15 rfl) H267 (by decide) 16 (by decide) (by decide) (by decide) (by decide) D98_1_81 ?_
  intro a268 h269 H269
  change Hp n0 h269 ((a268, La Z [0, 0, 0, 0, 0, 0, 0, 0, 0, 0, 0, 0, 0, 0, 0, 0]) :: (a264, Ob Z CYn NSY [.ref wa', .ref sa', .ref la', .int (Int32.ofNat (wcn false))]) :: (wa', Ia Z (lst 3 (fun i => Int32.ofNat (wdp false i)))) :: (sa', Ia Z (lst 3 (fun i => Int32.ofNat (shp false (fun _ => 1) i)))) :: (la', La Z (lst 3 (fun i => EE (2 ^ (fun _ => 1) i)))) :: (a260, Ia Z (lst 3 (fun i => Int32.ofNat ((fun _ => 1) i)))) :: (a257, Ia Z [0, 0, 0, 0, 0, 0, 0, 0, 0, 0, 0, 0, 0, 0, 0, 0]) :: (a254, Ia Z [0, 0, 0, 0, 0, 0, 0, 0, 0, 0, 0, 0, 0, 0, 0, 0]) :: (a251, La Z []) :: (a247, Ia Z [0, 0, 0, 0, 0, 0, 0, 0, 0, 0, 0, 0, 0, 0, 0, 0, 0, 0, 0, 0, 0, 0, 0, 0, 0, 0, 0, 0, 0, 0, 0, 0]) :: (a, Ob Z CSn NSS [.ref a260, .ref a264, .null, .ref a247, .int 0, .null, .int (-1), .ref a251, .ref a254, .ref a257, .int 0]) :: σ) at H269
  refine G.putF K (host := "") (Or.inl (wd hw 46 rfl)) (cf_NSS hw) (Or.inl (wd hw 47 rfl)) (wd hw 3 rfl) H269 (i := 10) rfl (j := 2) rfl rfl (ty := (.array .long)) (by decide) rfl rfl D98_1_83 ?_
  intro h270 H270
  change Hp n0 h270 ((a268, La Z [0, 0, 0, 0, 0, 0, 0, 0, 0, 0, 0, 0, 0, 0, 0, 0]) :: (a264, Ob Z CYn NSY [.ref wa', .ref sa', .ref la', .int (Int32.ofNat (wcn false))]) :: (wa', Ia Z (lst 3 (fun i => Int32.ofNat (wdp false i)))) :: (sa', Ia Z (lst 3 (fun i => Int32.ofNat (shp false (fun _ => 1) i)))) :: (la', La Z (lst 3 (fun i => EE (2 ^ (fun _ => 1) i)))) :: (a260, Ia Z (lst 3 (fun i => Int32.ofNat ((fun _ => 1) i)))) :: (a257, Ia Z [0, 0, 0, 0, 0, 0, 0, 0, 0, 0, 0, 0, 0, 0, 0, 0]) :: (a254, Ia Z [0, 0, 0, 0, 0, 0, 0, 0, 0, 0, 0, 0, 0, 0, 0, 0]) :: (a251, La Z []) :: (a247, Ia Z [0, 0, 0, 0, 0, 0, 0, 0, 0, 0, 0, 0, 0, 0, 0, 0, 0, 0, 0, 0, 0, 0, 0, 0, 0, 0, 0, 0, 0, 0, 0, 0]) :: (a, Ob Z CSn NSS [.ref a260, .ref a264, .ref a268, .ref a247, .int 0, .null, .int (-1), .ref a251, .ref a254, .ref a257, .int 0]) :: σ) at H270
  refine G.aloadN K D98_1_86 rfl rfl ?_
  refine G.aloadN K D98_1_87 rfl rfl ?_
  refine G.getF K (host := "") (Or.inl (wd hw 43 rfl)) H270 (i := 10) rfl (j := 1) rfl rfl D98_1_88 ?_
  refine G.getFR K (wd hw 45 rfl) H270 (i := 1) rfl (j := 3) rfl rfl D98_1_91 ?_
  rw [show Int32.ofNat (wcn false) = 1 from rfl]
  refine G.newarr_l K (wd hw 15 rfl) H270 (by decide) 1 (by decide) (by decide) (by decide) (by decide) D98_1_94 ?_
  intro a271 h272 H272
  change Hp n0 h272 ((a271, La Z [0]) :: (a268, La Z [0, 0, 0, 0, 0, 0, 0, 0, 0, 0, 0, 0, 0, 0, 0, 0]) :: (a264, Ob Z CYn NSY [.ref wa', .ref sa', .ref la', .int (Int32.ofNat (wcn false))]) :: (wa', Ia Z (lst 3 (fun i => Int32.ofNat (wdp false i)))) :: (sa', Ia Z (lst 3 (fun i => Int32.ofNat (shp false (fun _ => 1) i)))) :: (la', La Z (lst 3 (fun i => EE (2 ^ (fun _ => 1) i)))) :: (a260, Ia Z (lst 3 (fun i => Int32.ofNat ((fun _ => 1) i)))) :: (a257, Ia Z [0, 0, 0, 0, 0, 0, 0, 0, 0, 0, 0, 0, 0, 0, 0, 0]) :: (a254, Ia Z [0, 0, 0, 0, 0, 0, 0, 0, 0, 0, 0, 0, 0, 0, 0, 0]) :: (a251, La Z []) :: (a247, Ia Z [0, 0, 0, 0, 0, 0, 0, 0, 0, 0, 0, 0, 0, 0, 0, 0, 0, 0, 0, 0, 0, 0, 0, 0, 0, 0, 0, 0, 0, 0, 0, 0]) :: (a, Ob Z CSn NSS [.ref a260, .ref a264, .ref a268, .ref a247, .int 0, .null, .int (-1), .ref a251, .ref a254, .ref a257, .int 0]) :: σ) at H272
  refine G.putF K (host := "") (Or.inl (wd hw 48 rfl)) (cf_NSS hw) (Or.inl (wd hw 49 rfl)) (wd hw 3 rfl) H272 (i := 11) rfl (j := 5) rfl rfl (ty := (.array .long)) (by decide) rfl rfl D98_1_96 ?_
  intro h273 H273
  change Hp n0 h273 ((a271, La Z [0]) :: (a268, La Z [0, 0, 0, 0, 0, 0, 0, 0, 0, 0, 0, 0, 0, 0, 0, 0]) :: (a264, Ob Z CYn NSY [.ref wa', .ref sa', .ref la', .int (Int32.ofNat (wcn false))]) :: (wa', Ia Z (lst 3 (fun i => Int32.ofNat (wdp false i)))) :: (sa', Ia Z (lst 3 (fun i => Int32.ofNat (shp false (fun _ => 1) i)))) :: (la', La Z (lst 3 (fun i => EE (2 ^ (fun _ => 1) i)))) :: (a260, Ia Z (lst 3 (fun i => Int32.ofNat ((fun _ => 1) i)))) :: (a257, Ia Z [0, 0, 0, 0, 0, 0, 0, 0, 0, 0, 0, 0, 0, 0, 0, 0]) :: (a254, Ia Z [0, 0, 0, 0, 0, 0, 0, 0, 0, 0, 0, 0, 0, 0, 0, 0]) :: (a251, La Z []) :: (a247, Ia Z [0, 0, 0, 0, 0, 0, 0, 0, 0, 0, 0, 0, 0, 0, 0, 0, 0, 0, 0, 0, 0, 0, 0, 0, 0, 0, 0, 0, 0, 0, 0, 0]) :: (a, Ob Z CSn NSS [.ref a260, .ref a264, .ref a268, .ref a247, .int 0, .ref a271, .int (-1), .ref a251, .ref a254, .ref a257, .int 0]) :: σ) at H273
  refine G.ret_void K D98_1_99 ?_
  have H274 : Hp n0 h273 ((a254, Ia Z [0, 0, 0, 0, 0, 0, 0, 0, 0, 0, 0, 0, 0, 0, 0, 0]) :: (a271, La Z [0]) :: (a268, La Z [0, 0, 0, 0, 0, 0, 0, 0, 0, 0, 0, 0, 0, 0, 0, 0]) :: (a264, Ob Z CYn NSY [.ref wa', .ref sa', .ref la', .int (Int32.ofNat (wcn false))]) :: (wa', Ia Z (lst 3 (fun i => Int32.ofNat (wdp false i)))) :: (sa', Ia Z (lst 3 (fun i => Int32.ofNat (shp false (fun _ => 1) i)))) :: (la', La Z (lst 3 (fun i => EE (2 ^ (fun _ => 1) i)))) :: (a260, Ia Z (lst 3 (fun i => Int32.ofNat ((fun _ => 1) i)))) :: (a257, Ia Z [0, 0, 0, 0, 0, 0, 0, 0, 0, 0, 0, 0, 0, 0, 0, 0]) :: (a251, La Z []) :: (a247, Ia Z [0, 0, 0, 0, 0, 0, 0, 0, 0, 0, 0, 0, 0, 0, 0, 0, 0, 0, 0, 0, 0, 0, 0, 0, 0, 0, 0, 0, 0, 0, 0, 0]) :: (a, Ob Z CSn NSS [.ref a260, .ref a264, .ref a268, .ref a247, .int 0, .ref a271, .int (-1), .ref a251, .ref a254, .ref a257, .int 0]) :: σ) := H273.pull 8 rfl
  have H275 : Hp n0 h273 ((a251, La Z []) :: (a254, Ia Z [0, 0, 0, 0, 0, 0, 0, 0, 0, 0, 0, 0, 0, 0, 0, 0]) :: (a271, La Z [0]) :: (a268, La Z [0, 0, 0, 0, 0, 0, 0, 0, 0, 0, 0, 0, 0, 0, 0, 0]) :: (a264, Ob Z CYn NSY [.ref wa', .ref sa', .ref la', .int (Int32.ofNat (wcn false))]) :: (wa', Ia Z (lst 3 (fun i => Int32.ofNat (wdp false i)))) :: (sa', Ia Z (lst 3 (fun i => Int32.ofNat (shp false (fun _ => 1) i)))) :: (la', La Z (lst 3 (fun i => EE (2 ^ (fun _ => 1) i)))) :: (a260, Ia Z (lst 3 (fun i => Int32.ofNat ((fun _ => 1) i)))) :: (a257, Ia Z [0, 0, 0, 0, 0, 0, 0, 0, 0, 0, 0, 0, 0, 0, 0, 0]) :: (a247, Ia Z [0, 0, 0, 0, 0, 0, 0, 0, 0, 0, 0, 0, 0, 0, 0, 0, 0, 0, 0, 0, 0, 0, 0, 0, 0, 0, 0, 0, 0, 0, 0, 0]) :: (a, Ob Z CSn NSS [.ref a260, .ref a264, .ref a268, .ref a247, .int 0, .ref a271, .int (-1), .ref a251, .ref a254, .ref a257, .int 0]) :: σ) := H274.pull 9 rfl
  have H276 : Hp n0 h273 ((a271, La Z [0]) :: (a251, La Z []) :: (a254, Ia Z [0, 0, 0, 0, 0, 0, 0, 0, 0, 0, 0, 0, 0, 0, 0, 0]) :: (a268, La Z [0, 0, 0, 0, 0, 0, 0, 0, 0, 0, 0, 0, 0, 0, 0, 0]) :: (a264, Ob Z CYn NSY [.ref wa', .ref sa', .ref la', .int (Int32.ofNat (wcn false))]) :: (wa', Ia Z (lst 3 (fun i => Int32.ofNat (wdp false i)))) :: (sa', Ia Z (lst 3 (fun i => Int32.ofNat (shp false (fun _ => 1) i)))) :: (la', La Z (lst 3 (fun i => EE (2 ^ (fun _ => 1) i)))) :: (a260, Ia Z (lst 3 (fun i => Int32.ofNat ((fun _ => 1) i)))) :: (a257, Ia Z [0, 0, 0, 0, 0, 0, 0, 0, 0, 0, 0, 0, 0, 0, 0, 0]) :: (a247, Ia Z [0, 0, 0, 0, 0, 0, 0, 0, 0, 0, 0, 0, 0, 0, 0, 0, 0, 0, 0, 0, 0, 0, 0, 0, 0, 0, 0, 0, 0, 0, 0, 0]) :: (a, Ob Z CSn NSS [.ref a260, .ref a264, .ref a268, .ref a247, .int 0, .ref a271, .int (-1), .ref a251, .ref a254, .ref a257, .int 0]) :: σ) := H275.pull 2 rfl
  have H277 : Hp n0 h273 ((a247, Ia Z [0, 0, 0, 0, 0, 0, 0, 0, 0, 0, 0, 0, 0, 0, 0, 0, 0, 0, 0, 0, 0, 0, 0, 0, 0, 0, 0, 0, 0, 0, 0, 0]) :: (a271, La Z [0]) :: (a251, La Z []) :: (a254, Ia Z [0, 0, 0, 0, 0, 0, 0, 0, 0, 0, 0, 0, 0, 0, 0, 0]) :: (a268, La Z [0, 0, 0, 0, 0, 0, 0, 0, 0, 0, 0, 0, 0, 0, 0, 0]) :: (a264, Ob Z CYn NSY [.ref wa', .ref sa', .ref la', .int (Int32.ofNat (wcn false))]) :: (wa', Ia Z (lst 3 (fun i => Int32.ofNat (wdp false i)))) :: (sa', Ia Z (lst 3 (fun i => Int32.ofNat (shp false (fun _ => 1) i)))) :: (la', La Z (lst 3 (fun i => EE (2 ^ (fun _ => 1) i)))) :: (a260, Ia Z (lst 3 (fun i => Int32.ofNat ((fun _ => 1) i)))) :: (a257, Ia Z [0, 0, 0, 0, 0, 0, 0, 0, 0, 0, 0, 0, 0, 0, 0, 0]) :: (a, Ob Z CSn NSS [.ref a260, .ref a264, .ref a268, .ref a247, .int 0, .ref a271, .int (-1), .ref a251, .ref a254, .ref a257, .int 0]) :: σ) := H276.pull 10 rfl
  have H278 : Hp n0 h273 ((a268, La Z [0, 0, 0, 0, 0, 0, 0, 0, 0, 0, 0, 0, 0, 0, 0, 0]) :: (a247, Ia Z [0, 0, 0, 0, 0, 0, 0, 0, 0, 0, 0, 0, 0, 0, 0, 0, 0, 0, 0, 0, 0, 0, 0, 0, 0, 0, 0, 0, 0, 0, 0, 0]) :: (a271, La Z [0]) :: (a251, La Z []) :: (a254, Ia Z [0, 0, 0, 0, 0, 0, 0, 0, 0, 0, 0, 0, 0, 0, 0, 0]) :: (a264, Ob Z CYn NSY [.ref wa', .ref sa', .ref la', .int (Int32.ofNat (wcn false))]) :: (wa', Ia Z (lst 3 (fun i => Int32.ofNat (wdp false i)))) :: (sa', Ia Z (lst 3 (fun i => Int32.ofNat (shp false (fun _ => 1) i)))) :: (la', La Z (lst 3 (fun i => EE (2 ^ (fun _ => 1) i)))) :: (a260, Ia Z (lst 3 (fun i => Int32.ofNat ((fun _ => 1) i)))) :: (a257, Ia Z [0, 0, 0, 0, 0, 0, 0, 0, 0, 0, 0, 0, 0, 0, 0, 0]) :: (a, Ob Z CSn NSS [.ref a260, .ref a264, .ref a268, .ref a247, .int 0, .ref a271, .int (-1), .ref a251, .ref a254, .ref a257, .int 0]) :: σ) := H277.pull 4 rfl
  have H279 : Hp n0 h273 ((a260, Ia Z (lst 3 (fun i => Int32.ofNat ((fun _ => 1) i)))) :: (a268, La Z [0, 0, 0, 0, 0, 0, 0, 0, 0, 0, 0, 0, 0, 0, 0, 0]) :: (a247, Ia Z [0, 0, 0, 0, 0, 0, 0, 0, 0, 0, 0, 0, 0, 0, 0, 0, 0, 0, 0, 0, 0, 0, 0, 0, 0, 0, 0, 0, 0, 0, 0, 0]) :: (a271, La Z [0]) :: (a251, La Z []) :: (a254, Ia Z [0, 0, 0, 0, 0, 0, 0, 0, 0, 0, 0, 0, 0, 0, 0, 0]) :: (a264, Ob Z CYn NSY [.ref wa', .ref sa', .ref la', .int (Int32.ofNat (wcn false))]) :: (wa', Ia Z (lst 3 (fun i => Int32.ofNat (wdp false i)))) :: (sa', Ia Z (lst 3 (fun i => Int32.ofNat (shp false (fun _ => 1) i)))) :: (la', La Z (lst 3 (fun i => EE (2 ^ (fun _ => 1) i)))) :: (a257, Ia Z [0, 0, 0, 0, 0, 0, 0, 0, 0, 0, 0, 0, 0, 0, 0, 0]) :: (a, Ob Z CSn NSS [.ref a260, .ref a264, .ref a268, .ref a247, .int 0, .ref a271, .int (-1), .ref a251, .ref a254, .ref a257, .int 0]) :: σ) := H278.pull 9 rfl
  have H280 : Hp n0 h273 ((la', La Z (lst 3 (fun i => EE (2 ^ (fun _ => 1) i)))) :: (a260, Ia Z (lst 3 (fun i => Int32.ofNat ((fun _ => 1) i)))) :: (a268, La Z [0, 0, 0, 0, 0, 0, 0, 0, 0, 0, 0, 0, 0, 0, 0, 0]) :: (a247, Ia Z [0, 0, 0, 0, 0, 0, 0, 0, 0, 0, 0, 0, 0, 0, 0, 0, 0, 0, 0, 0, 0, 0, 0, 0, 0, 0, 0, 0, 0, 0, 0, 0]) :: (a271, La Z [0]) :: (a251, La Z []) :: (a254, Ia Z [0, 0, 0, 0, 0, 0, 0, 0, 0, 0, 0, 0, 0, 0, 0, 0]) :: (a264, Ob Z CYn NSY [.ref wa', .ref sa', .ref la', .int (Int32.ofNat (wcn false))]) :: (wa', Ia Z (lst 3 (fun i => Int32.ofNat (wdp false i)))) :: (sa', Ia Z (lst 3 (fun i => Int32.ofNat (shp false (fun _ => 1) i)))) :: (a257, Ia Z [0, 0, 0, 0, 0, 0, 0, 0, 0, 0, 0, 0, 0, 0, 0, 0]) :: (a, Ob Z CSn NSS [.ref a260, .ref a264, .ref a268, .ref a247, .int 0, .ref a271, .int (-1), .ref a251, .ref a254, .ref a257, .int 0]) :: σ) := H279.pull 9 rfl
  have H281 : Hp n0 h273 ((sa', Ia Z (lst 3 (fun i => Int32.ofNat (shp false (fun _ => 1) i)))) :: (la', La Z (lst 3 (fun i => EE (2 ^ (fun _ => 1) i)))) :: (a260, Ia Z (lst 3 (fun i => Int32.ofNat ((fun _ => 1) i)))) :: (a268, La Z [0, 0, 0, 0, 0, 0, 0, 0, 0, 0, 0, 0, 0, 0, 0, 0]) :: (a247, Ia Z [0, 0, 0, 0, 0, 0, 0, 0, 0, 0, 0, 0, 0, 0, 0, 0, 0, 0, 0, 0, 0, 0, 0, 0, 0, 0, 0, 0, 0, 0, 0, 0]) :: (a271, La Z [0]) :: (a251, La Z []) :: (a254, Ia Z [0, 0, 0, 0, 0, 0, 0, 0, 0, 0, 0, 0, 0, 0, 0, 0]) :: (a264, Ob Z CYn NSY [.ref wa', .ref sa', .ref la', .int (Int32.ofNat (wcn false))]) :: (wa', Ia Z (lst 3 (fun i => Int32.ofNat (wdp false i)))) :: (a257, Ia Z [0, 0, 0, 0, 0, 0, 0, 0, 0, 0, 0, 0, 0, 0, 0, 0]) :: (a, Ob Z CSn NSS [.ref a260, .ref a264, .ref a268, .ref a247, .int 0, .ref a271, .int (-1), .ref a251, .ref a254, .ref a257, .int 0]) :: σ) := H280.pull 9 rfl
  have H282 : Hp n0 h273 ((wa', Ia Z (lst 3 (fun i => Int32.ofNat (wdp false i)))) :: (sa', Ia Z (lst 3 (fun i => Int32.ofNat (shp false (fun _ => 1) i)))) :: (la', La Z (lst 3 (fun i => EE (2 ^ (fun _ => 1) i)))) :: (a260, Ia Z (lst 3 (fun i => Int32.ofNat ((fun _ => 1) i)))) :: (a268, La Z [0, 0, 0, 0, 0, 0, 0, 0, 0, 0, 0, 0, 0, 0, 0, 0]) :: (a247, Ia Z [0, 0, 0, 0, 0, 0, 0, 0, 0, 0, 0, 0, 0, 0, 0, 0, 0, 0, 0, 0, 0, 0, 0, 0, 0, 0, 0, 0, 0, 0, 0, 0]) :: (a271, La Z [0]) :: (a251, La Z []) :: (a254, Ia Z [0, 0, 0, 0, 0, 0, 0, 0, 0, 0, 0, 0, 0, 0, 0, 0]) :: (a264, Ob Z CYn NSY [.ref wa', .ref sa', .ref la', .int (Int32.ofNat (wcn false))]) :: (a257, Ia Z [0, 0, 0, 0, 0, 0, 0, 0, 0, 0, 0, 0, 0, 0, 0, 0]) :: (a, Ob Z CSn NSS [.ref a260, .ref a264, .ref a268, .ref a247, .int 0, .ref a271, .int (-1), .ref a251, .ref a254, .ref a257, .int 0]) :: σ) := H281.pull 9 rfl
  have H283 : Hp n0 h273 ((a264, Ob Z CYn NSY [.ref wa', .ref sa', .ref la', .int (Int32.ofNat (wcn false))]) :: (wa', Ia Z (lst 3 (fun i => Int32.ofNat (wdp false i)))) :: (sa', Ia Z (lst 3 (fun i => Int32.ofNat (shp false (fun _ => 1) i)))) :: (la', La Z (lst 3 (fun i => EE (2 ^ (fun _ => 1) i)))) :: (a260, Ia Z (lst 3 (fun i => Int32.ofNat ((fun _ => 1) i)))) :: (a268, La Z [0, 0, 0, 0, 0, 0, 0, 0, 0, 0, 0, 0, 0, 0, 0, 0]) :: (a247, Ia Z [0, 0, 0, 0, 0, 0, 0, 0, 0, 0, 0, 0, 0, 0, 0, 0, 0, 0, 0, 0, 0, 0, 0, 0, 0, 0, 0, 0, 0, 0, 0, 0]) :: (a271, La Z [0]) :: (a251, La Z []) :: (a254, Ia Z [0, 0, 0, 0, 0, 0, 0, 0, 0, 0, 0, 0, 0, 0, 0, 0]) :: (a257, Ia Z [0, 0, 0, 0, 0, 0, 0, 0, 0, 0, 0, 0, 0, 0, 0, 0]) :: (a, Ob Z CSn NSS [.ref a260, .ref a264, .ref a268, .ref a247, .int 0, .ref a271, .int (-1), .ref a251, .ref a254, .ref a257, .int 0]) :: σ) := H282.pull 9 rfl
  have H284 : Hp n0 h273 ((a, Ob Z CSn NSS [.ref a260, .ref a264, .ref a268, .ref a247, .int 0, .ref a271, .int (-1), .ref a251, .ref a254, .ref a257, .int 0]) :: (a264, Ob Z CYn NSY [.ref wa', .ref sa', .ref la', .int (Int32.ofNat (wcn false))]) :: (wa', Ia Z (lst 3 (fun i => Int32.ofNat (wdp false i)))) :: (sa', Ia Z (lst 3 (fun i => Int32.ofNat (shp false (fun _ => 1) i)))) :: (la', La Z (lst 3 (fun i => EE (2 ^ (fun _ => 1) i)))) :: (a260, Ia Z (lst 3 (fun i => Int32.ofNat ((fun _ => 1) i)))) :: (a268, La Z [0, 0, 0, 0, 0, 0, 0, 0, 0, 0, 0, 0, 0, 0, 0, 0]) :: (a247, Ia Z [0, 0, 0, 0, 0, 0, 0, 0, 0, 0, 0, 0, 0, 0, 0, 0, 0, 0, 0, 0, 0, 0, 0, 0, 0, 0, 0, 0, 0, 0, 0, 0]) :: (a271, La Z [0]) :: (a251, La Z []) :: (a254, Ia Z [0, 0, 0, 0, 0, 0, 0, 0, 0, 0, 0, 0, 0, 0, 0, 0]) :: (a257, Ia Z [0, 0, 0, 0, 0, 0, 0, 0, 0, 0, 0, 0, 0, 0, 0, 0]) :: σ) := H283.pull 11 rfl
  change Hp n0 h273 ((a, Ob Z CSn NSS [.ref a260, .ref a264, .ref a268, .ref a247, .int (Int32.ofNat 0), .ref a271, .int (-1), .ref a251, .ref a254, .ref a257, .int 0]) :: (a264, Ob Z CYn NSY [.ref wa', .ref sa', .ref la', .int (Int32.ofNat (wcn false))]) :: (wa', Ia Z (lst 3 (fun i => Int32.ofNat (wdp false i)))) :: (sa', Ia Z (lst 3 (fun i => Int32.ofNat (shp false (fun _ => 1) i)))) :: (la', La Z (lst 3 (fun i => EE (2 ^ (fun _ => 1) i)))) :: (a260, Ia Z (lst 3 (fun i => Int32.ofNat ((fun _ => 1) i)))) :: (a268, La Z (lst 16 (fun _ => 0))) :: (a247, Ia Z (lst 32 (fun s => Int32.ofNat ((fun _ => 0) s)))) :: (a271, La Z (lst (wcn false) (fun _ => 0))) :: (a251, La Z []) :: (a254, Ia Z (lst 16 (fun _ => 0))) :: (a257, Ia Z (lst 16 (fun _ => 0))) :: σ) at H284
  exact ⟨_, _, _, _, _, _, _, _, _, _, _, rfl, H284⟩
def tri (a b c : Nat) : Nat → Nat
  | 0 => a
  | 1 => b
  | _ => c
theorem D2_0 : Dc method_2_code 0 (.aload_n 0) 1 1 := dc (by decide +kernel) rfl
theorem D2_1 : Dc method_2_code 1 (.iconst 0) 1 2 := dc (by decide +kernel) rfl
theorem D2_2 : Dc method_2_code 2 (.iaload) 1 3 := dc (by decide +kernel) rfl
theorem D2_3 : Dc method_2_code 3 (.aload_n 1) 1 4 := dc (by decide +kernel) rfl
theorem D2_4 : Dc method_2_code 4 (.iconst 0) 1 5 := dc (by decide +kernel) rfl
theorem D2_5 : Dc method_2_code 5 (.iaload) 1 6 := dc (by decide +kernel) rfl
theorem D2_6 : Db method_2_code 6 (.if_icmp .ne) 9 31 := db (25) (by decide +kernel) rfl (by decide) (by decide)
theorem D2_9 : Dc method_2_code 9 (.aload_n 0) 1 10 := dc (by decide +kernel) rfl
theorem D2_10 : Dc method_2_code 10 (.iconst 1) 1 11 := dc (by decide +kernel) rfl
theorem D2_11 : Dc method_2_code 11 (.iaload) 1 12 := dc (by decide +kernel) rfl
theorem D2_12 : Dc method_2_code 12 (.aload_n 1) 1 13 := dc (by decide +kernel) rfl
theorem D2_13 : Dc method_2_code 13 (.iconst 1) 1 14 := dc (by decide +kernel) rfl
theorem D2_14 : Dc method_2_code 14 (.iaload) 1 15 := dc (by decide +kernel) rfl
theorem D2_15 : Db method_2_code 15 (.if_icmp .ne) 18 31 := db (16) (by decide +kernel) rfl (by decide) (by decide)
theorem D2_18 : Dc method_2_code 18 (.aload_n 0) 1 19 := dc (by decide +kernel) rfl
theorem D2_19 : Dc method_2_code 19 (.iconst 2) 1 20 := dc (by decide +kernel) rfl
theorem D2_20 : Dc method_2_code 20 (.iaload) 1 21 := dc (by decide +kernel) rfl
theorem D2_21 : Dc method_2_code 21 (.aload_n 1) 1 22 := dc (by decide +kernel) rfl
theorem D2_22 : Dc method_2_code 22 (.iconst 2) 1 23 := dc (by decide +kernel) rfl
theorem D2_23 : Dc method_2_code 23 (.iaload) 1 24 := dc (by decide +kernel) rfl
theorem D2_24 : Db method_2_code 24 (.if_icmp .ne) 27 31 := db (7) (by decide +kernel) rfl (by decide) (by decide)
theorem D2_27 : Dc method_2_code 27 (.iconst 1) 1 28 := dc (by decide +kernel) rfl
theorem D2_28 : Db method_2_code 28 (.goto) 31 32 := db (4) (by decide +kernel) rfl (by decide) (by decide)
theorem D2_31 : Dc method_2_code 31 (.iconst 0) 1 32 := dc (by decide +kernel) rfl
theorem D2_32 : Dc method_2_code 32 (.ireturn) 1 33 := dc (by decide +kernel) rfl
theorem pn_2 : plainName "com/example/divergence/divergence/engine/StateStoreGetPinLaw" = true := by first | (simp [plainName, overriddenIn]; done) | decide +kernel
set_option maxRecDepth 65536 in
set_option maxHeartbeats 40000000 in
theorem ct_eq (l : Launch) (Z : State) (a0 : Array Value) (hw : ∀ d ∈ tables_1, d.before a0 Z = true) (n0 : Nat) (h : Heap) (xb yb : Addr) (x0 x1 x2 y0 y1 y2 : Int32) (σ : List Ch) (H : Hp n0 h ((xb, Ia Z [x0, x1, x2]) :: (yb, Ia Z [y0, y1, y2]) :: σ)) :
    Ct l Z n0 (⟨"com/example/divergence/divergence/engine/StateStoreGetPinLaw", "eq", "([I[I)Z"⟩ : MethodName) method_2_code 2 (some .boolean) ({ frames := 0, cells := 0, slots := 0, locals := 0 } : Room) [.ref xb, .ref yb] h (fun v h' => v = some (.int (if x0 = y0 ∧ x1 = y1 ∧ x2 = y2 then 1 else 0)) ∧ h = h') := by
  refine Ct.intro (plainFor_of_name pn_2) [.val (.ref xb), .val (.ref yb)] (fun m => by first | (simp [entryFrame, mkF, argsToLocals, Value.category]; done) | (simp [entryFrame, mkF, argsToLocals, Value.category, maxLocals]; done) | rfl) ?_
  intro k hl K
  replace K : Ok k Z n0 "com/example/divergence/divergence/engine/StateStoreGetPinLaw" ({ frames := 0, cells := 0, slots := 0, locals := 0 } : Room) method_2_code 2 (some .boolean) "eq" := K
  refine G.aloadN K D2_0 rfl rfl ?_
  refine G.iconst K D2_1 0 rfl ?_
  refine G.aload_i K H (i := 0) rfl (by decide) rfl D2_2 ?_
  refine G.aloadN K D2_3 rfl rfl ?_
  refine G.iconst K D2_4 0 rfl ?_
  refine G.aload_i K H (i := 1) rfl (by decide) rfl D2_5 ?_
  refine G.icmp_ne K D2_6 (fun q285 => ?_) (fun q285 => ?_)
  · refine G.iconst K D2_31 0 rfl ?_
    refine G.ret_bool K D2_32 ?_
    exact ⟨by simp [q285], rfl⟩
  · refine G.aloadN K D2_9 rfl rfl ?_
    refine G.iconst K D2_10 1 rfl ?_
    refine G.aload_i K H (i := 0) rfl (by decide) rfl D2_11 ?_
    refine G.aloadN K D2_12 rfl rfl ?_
    refine G.iconst K D2_13 1 rfl ?_
    refine G.aload_i K H (i := 1) rfl (by decide) rfl D2_14 ?_
    refine G.icmp_ne K D2_15 (fun q286 => ?_) (fun q286 => ?_)
    · refine G.iconst K D2_31 0 rfl ?_
      refine G.ret_bool K D2_32 ?_
      exact ⟨by simp [q285, q286], rfl⟩
    · refine G.aloadN K D2_18 rfl rfl ?_
      refine G.iconst K D2_19 2 rfl ?_
      refine G.aload_i K H (i := 0) rfl (by decide) rfl D2_20 ?_
      refine G.aloadN K D2_21 rfl rfl ?_
      refine G.iconst K D2_22 2 rfl ?_
      refine G.aload_i K H (i := 1) rfl (by decide) rfl D2_23 ?_
      refine G.icmp_ne K D2_24 (fun q287 => ?_) (fun q287 => ?_)
      · refine G.iconst K D2_31 0 rfl ?_
        refine G.ret_bool K D2_32 ?_
        exact ⟨by simp [q285, q286, q287], rfl⟩
      · refine G.iconst K D2_27 1 rfl ?_
        refine G.goto K D2_28 ?_
        refine G.ret_bool K D2_32 ?_
        exact ⟨by simp [q285, q286, q287], rfl⟩
theorem Dx_0 : Dc code 0 (.iconst 3) 1 1 := dc at_0 rfl
theorem Dx_1 : Dc code 1 (.newarray .int) 2 3 := dc at_1 rfl
theorem Dx_3 : Dc code 3 (.dup) 1 4 := dc at_3 rfl
theorem Dx_4 : Dc code 4 (.iconst 0) 1 5 := dc at_4 rfl
theorem Dx_5 : Dc code 5 (.iload_n 0) 1 6 := dc at_5 rfl
theorem Dx_6 : Dc code 6 (.ldc 7) 2 8 := dc at_6 rfl
theorem Dx_8 : Dc code 8 (.iand) 1 9 := dc at_8 rfl
theorem Dx_9 : Dc code 9 (.iastore) 1 10 := dc at_9 rfl
theorem Dx_10 : Dc code 10 (.dup) 1 11 := dc at_10 rfl
theorem Dx_11 : Dc code 11 (.iconst 1) 1 12 := dc at_11 rfl
theorem Dx_12 : Dc code 12 (.iload_n 1) 1 13 := dc at_12 rfl
theorem Dx_13 : Dc code 13 (.ldc 7) 2 15 := dc at_13 rfl
theorem Dx_15 : Dc code 15 (.iand) 1 16 := dc at_15 rfl
theorem Dx_16 : Dc code 16 (.iastore) 1 17 := dc at_16 rfl
theorem Dx_17 : Dc code 17 (.dup) 1 18 := dc at_17 rfl
theorem Dx_18 : Dc code 18 (.iconst 2) 1 19 := dc at_18 rfl
theorem Dx_19 : Dc code 19 (.iload_n 2) 1 20 := dc at_19 rfl
theorem Dx_20 : Dc code 20 (.ldc 7) 2 22 := dc at_20 rfl
theorem Dx_22 : Dc code 22 (.iand) 1 23 := dc at_22 rfl
theorem Dx_23 : Dc code 23 (.iastore) 1 24 := dc at_23 rfl
theorem Dx_24 : Dc code 24 (.astore 6) 2 26 := dc at_24 rfl
theorem Dx_26 : Dc code 26 (.iconst 3) 1 27 := dc at_26 rfl
theorem Dx_27 : Dc code 27 (.newarray .int) 2 29 := dc at_27 rfl
theorem Dx_29 : Dc code 29 (.dup) 1 30 := dc at_29 rfl
theorem Dx_30 : Dc code 30 (.iconst 0) 1 31 := dc at_30 rfl
theorem Dx_31 : Dc code 31 (.iload_n 3) 1 32 := dc at_31 rfl
theorem Dx_32 : Dc code 32 (.ldc 7) 2 34 := dc at_32 rfl
theorem Dx_34 : Dc code 34 (.iand) 1 35 := dc at_34 rfl
theorem Dx_35 : Dc code 35 (.iastore) 1 36 := dc at_35 rfl
theorem Dx_36 : Dc code 36 (.dup) 1 37 := dc at_36 rfl
theorem Dx_37 : Dc code 37 (.iconst 1) 1 38 := dc at_37 rfl
theorem Dx_38 : Dc code 38 (.iload 4) 2 40 := dc at_38 rfl
theorem Dx_40 : Dc code 40 (.ldc 7) 2 42 := dc at_40 rfl
theorem Dx_42 : Dc code 42 (.iand) 1 43 := dc at_42 rfl
theorem Dx_43 : Dc code 43 (.iastore) 1 44 := dc at_43 rfl
theorem Dx_44 : Dc code 44 (.dup) 1 45 := dc at_44 rfl
theorem Dx_45 : Dc code 45 (.iconst 2) 1 46 := dc at_45 rfl
theorem Dx_46 : Dc code 46 (.iload 5) 2 48 := dc at_46 rfl
theorem Dx_48 : Dc code 48 (.ldc 7) 2 50 := dc at_48 rfl
theorem Dx_50 : Dc code 50 (.iand) 1 51 := dc at_50 rfl
theorem Dx_51 : Dc code 51 (.iastore) 1 52 := dc at_51 rfl
theorem Dx_52 : Dc code 52 (.astore 7) 2 54 := dc at_52 rfl
theorem Dx_54 : Dc code 54 (.iconst 3) 1 55 := dc at_54 rfl
theorem Dx_55 : Dc code 55 (.newarray .int) 2 57 := dc at_55 rfl
theorem Dx_57 : Dc code 57 (.astore 8) 2 59 := dc at_57 rfl
theorem Dx_59 : Dc code 59 (.iconst 3) 1 60 := dc at_59 rfl
theorem Dx_60 : Dc code 60 (.newarray .int) 2 62 := dc at_60 rfl
theorem Dx_62 : Dc code 62 (.astore 9) 2 64 := dc at_62 rfl
theorem Dx_64 : Dc code 64 (.new 8) 3 67 := dc at_64 rfl
theorem Dx_67 : Dc code 67 (.dup) 1 68 := dc at_67 rfl
theorem Dx_68 : Dc code 68 (.iconst 3) 1 69 := dc at_68 rfl
theorem Dx_69 : Dc code 69 (.invokespecial 10) 3 72 := dc at_69 rfl
theorem Dx_72 : Dc code 72 (.astore 10) 2 74 := dc at_72 rfl
theorem Dx_74 : Dc code 74 (.aload 10) 2 76 := dc at_74 rfl
theorem Dx_76 : Dc code 76 (.aload 6) 2 78 := dc at_76 rfl
theorem Dx_78 : Dc code 78 (.invokevirtual 13) 3 81 := dc at_78 rfl
theorem Dx_81 : Dc code 81 (.istore 11) 2 83 := dc at_81 rfl
theorem Dx_83 : Dc code 83 (.aload 10) 2 85 := dc at_83 rfl
theorem Dx_85 : Dc code 85 (.aload 7) 2 87 := dc at_85 rfl
theorem Dx_87 : Dc code 87 (.invokevirtual 13) 3 90 := dc at_87 rfl
theorem Dx_90 : Dc code 90 (.istore 12) 2 92 := dc at_90 rfl
theorem Dx_92 : Dc code 92 (.aload 10) 2 94 := dc at_92 rfl
theorem Dx_94 : Dc code 94 (.iload 11) 2 96 := dc at_94 rfl
theorem Dx_96 : Dc code 96 (.aload 8) 2 98 := dc at_96 rfl
theorem Dx_98 : Dc code 98 (.invokevirtual 17) 3 101 := dc at_98 rfl
theorem Dx_101 : Dc code 101 (.aload 10) 2 103 := dc at_101 rfl
theorem Dx_103 : Dc code 103 (.iload 12) 2 105 := dc at_103 rfl
theorem Dx_105 : Dc code 105 (.aload 9) 2 107 := dc at_105 rfl
theorem Dx_107 : Dc code 107 (.invokevirtual 17) 3 110 := dc at_107 rfl
theorem Dx_110 : Dc code 110 (.aload 6) 2 112 := dc at_110 rfl
theorem Dx_112 : Dc code 112 (.aload 7) 2 114 := dc at_112 rfl
theorem Dx_114 : Dc code 114 (.invokestatic 21) 3 117 := dc at_114 rfl
theorem Dx_117 : Dc code 117 (.istore 13) 2 119 := dc at_117 rfl
theorem Dx_119 : Dc code 119 (.iload 13) 2 121 := dc at_119 rfl
theorem Dx_121 : Db code 121 (.ifCond .eq) 124 128 := db (7) at_121 rfl (by decide) (by decide)
theorem Dx_124 : Dc code 124 (.iconst 0) 1 125 := dc at_124 rfl
theorem Dx_125 : Db code 125 (.goto) 128 129 := db (4) at_125 rfl (by decide) (by decide)
theorem Dx_128 : Dc code 128 (.iconst 1) 1 129 := dc at_128 rfl
theorem Dx_129 : Dc code 129 (.istore 14) 2 131 := dc at_129 rfl
theorem Dx_131 : Dc code 131 (.iload 11) 2 133 := dc at_131 rfl
theorem Dx_133 : Db code 133 (.ifCond .ne) 136 167 := db (34) at_133 rfl (by decide) (by decide)
theorem Dx_136 : Dc code 136 (.iload 12) 2 138 := dc at_136 rfl
theorem Dx_138 : Dc code 138 (.iload 14) 2 140 := dc at_138 rfl
theorem Dx_140 : Db code 140 (.if_icmp .ne) 143 167 := db (27) at_140 rfl (by decide) (by decide)
theorem Dx_143 : Dc code 143 (.aload 8) 2 145 := dc at_143 rfl
theorem Dx_145 : Dc code 145 (.aload 6) 2 147 := dc at_145 rfl
theorem Dx_147 : Dc code 147 (.invokestatic 21) 3 150 := dc at_147 rfl
theorem Dx_150 : Db code 150 (.ifCond .eq) 153 167 := db (17) at_150 rfl (by decide) (by decide)
theorem Dx_153 : Dc code 153 (.aload 9) 2 155 := dc at_153 rfl
theorem Dx_155 : Dc code 155 (.aload 7) 2 157 := dc at_155 rfl
theorem Dx_157 : Dc code 157 (.invokestatic 21) 3 160 := dc at_157 rfl
theorem Dx_160 : Db code 160 (.ifCond .eq) 163 167 := db (7) at_160 rfl (by decide) (by decide)
theorem Dx_163 : Dc code 163 (.iconst 1) 1 164 := dc at_163 rfl
theorem Dx_164 : Db code 164 (.goto) 167 168 := db (4) at_164 rfl (by decide) (by decide)
theorem Dx_167 : Dc code 167 (.iconst 0) 1 168 := dc at_167 rfl
theorem Dx_168 : Dc code 168 (.ireturn) 1 169 := dc at_168 rfl
set_option maxRecDepth 65536 in
set_option maxHeartbeats 40000000 in
theorem ct_law (l : Launch) (Z : State) (a0 : Array Value) (hw : ∀ d ∈ tables_1, d.before a0 Z = true) (n0 : Nat) (h : Heap) (p0 p1 p2 p3 p4 p5 : Int32) :
    Ct l Z n0 x code maxLocals ret room_1 [.int p0, .int p1, .int p2, .int p3, .int p4, .int p5] h (fun v h' => v = some (.int 1)) := by
  refine Ct.intro (plainFor_of_name pn_2) [.val (.int p0), .val (.int p1), .val (.int p2), .val (.int p3), .val (.int p4), .val (.int p5), .unset, .unset, .unset, .unset, .unset, .unset, .unset, .unset, .unset] (fun m => by first | (simp [entryFrame, mkF, argsToLocals, Value.category]; done) | (simp [entryFrame, mkF, argsToLocals, Value.category, maxLocals]; done) | rfl) ?_
  intro k hl K
  replace K : Ok k Z n0 "com/example/divergence/divergence/engine/StateStoreGetPinLaw" room_1 code 15 (some .boolean) "law" := K
  refine G.iconst K Dx_0 3 rfl ?_
  refine G.newarr_i K (wd hw 0 rfl) (Hp.nil (n0 := n0) (h := h)) (by decide) 3 (by decide) (by decide) (by decide) (by decide) Dx_1 ?_
  intro a288 h289 H289
  change Hp n0 h289 [(a288, Ia Z [0, 0, 0])] at H289
  refine G.dup K Dx_3 rfl ?_
  refine G.iconst K Dx_4 0 rfl ?_
  refine G.iloadN K Dx_5 rfl ?_
  refine G.ldcI K Dx_6 (wd hw 1 rfl) ?_
  refine G.iand K Dx_8 ?_
  obtain ⟨x0, hx0, e0⟩ := own_msk p0
  rw [e0]
  refine G.astore_i K H289 (i := 0) rfl (by decide) (Nat.le_of_ble_eq_true rfl) Dx_9 ?_
  intro h290 H290
  change Hp n0 h290 [(a288, Ia Z [(Int32.ofNat x0), 0, 0])] at H290
  refine G.dup K Dx_10 rfl ?_
  refine G.iconst K Dx_11 1 rfl ?_
  refine G.iloadN K Dx_12 rfl ?_
  refine G.ldcI K Dx_13 (wd hw 1 rfl) ?_
  refine G.iand K Dx_15 ?_
  obtain ⟨x1, hx1, e1⟩ := own_msk p1
  rw [e1]
  refine G.astore_i K H290 (i := 0) rfl (by decide) (Nat.le_of_ble_eq_true rfl) Dx_16 ?_
  intro h291 H291
  change Hp n0 h291 [(a288, Ia Z [(Int32.ofNat x0), (Int32.ofNat x1), 0])] at H291
  refine G.dup K Dx_17 rfl ?_
  refine G.iconst K Dx_18 2 rfl ?_
  refine G.iloadN K Dx_19 rfl ?_
  refine G.ldcI K Dx_20 (wd hw 1 rfl) ?_
  refine G.iand K Dx_22 ?_
  obtain ⟨x2, hx2, e2⟩ := own_msk p2
  rw [e2]
  refine G.astore_i K H291 (i := 0) rfl (by decide) (Nat.le_of_ble_eq_true rfl) Dx_23 ?_
  intro h292 H292
  change Hp n0 h292 [(a288, Ia Z [(Int32.ofNat x0), (Int32.ofNat x1), (Int32.ofNat x2)])] at H292
  refine G.astore K Dx_24 rfl ([.val (.int p0), .val (.int p1), .val (.int p2), .val (.int p3), .val (.int p4), .val (.int p5), .val (.ref a288), .unset, .unset, .unset, .unset, .unset, .unset, .unset, .unset]) rfl ?_
  refine G.iconst K Dx_26 3 rfl ?_
  refine G.newarr_i K (wd hw 0 rfl) H292 (by decide) 3 (by decide) (by decide) (by decide) (by decide) Dx_27 ?_
  intro a293 h294 H294
  change Hp n0 h294 [(a293, Ia Z [0, 0, 0]), (a288, Ia Z [(Int32.ofNat x0), (Int32.ofNat x1), (Int32.ofNat x2)])] at H294
  refine G.dup K Dx_29 rfl ?_
  refine G.iconst K Dx_30 0 rfl ?_
  refine G.iloadN K Dx_31 rfl ?_
  refine G.ldcI K Dx_32 (wd hw 1 rfl) ?_
  refine G.iand K Dx_34 ?_
  obtain ⟨x3, hx3, e3⟩ := own_msk p3
  rw [e3]
  refine G.astore_i K H294 (i := 0) rfl (by decide) (Nat.le_of_ble_eq_true rfl) Dx_35 ?_
  intro h295 H295
  change Hp n0 h295 [(a293, Ia Z [(Int32.ofNat x3), 0, 0]), (a288, Ia Z [(Int32.ofNat x0), (Int32.ofNat x1), (Int32.ofNat x2)])] at H295
  refine G.dup K Dx_36 rfl ?_
  refine G.iconst K Dx_37 1 rfl ?_
  refine G.iload K Dx_38 rfl ?_
  refine G.ldcI K Dx_40 (wd hw 1 rfl) ?_
  refine G.iand K Dx_42 ?_
  obtain ⟨x4, hx4, e4⟩ := own_msk p4
  rw [e4]
  refine G.astore_i K H295 (i := 0) rfl (by decide) (Nat.le_of_ble_eq_true rfl) Dx_43 ?_
  intro h296 H296
  change Hp n0 h296 [(a293, Ia Z [(Int32.ofNat x3), (Int32.ofNat x4), 0]), (a288, Ia Z [(Int32.ofNat x0), (Int32.ofNat x1), (Int32.ofNat x2)])] at H296
  refine G.dup K Dx_44 rfl ?_
  refine G.iconst K Dx_45 2 rfl ?_
  refine G.iload K Dx_46 rfl ?_
  refine G.ldcI K Dx_48 (wd hw 1 rfl) ?_
  refine G.iand K Dx_50 ?_
  obtain ⟨x5, hx5, e5⟩ := own_msk p5
  rw [e5]
  refine G.astore_i K H296 (i := 0) rfl (by decide) (Nat.le_of_ble_eq_true rfl) Dx_51 ?_
  intro h297 H297
  change Hp n0 h297 [(a293, Ia Z [(Int32.ofNat x3), (Int32.ofNat x4), (Int32.ofNat x5)]), (a288, Ia Z [(Int32.ofNat x0), (Int32.ofNat x1), (Int32.ofNat x2)])] at H297
  refine G.astore K Dx_52 rfl ([.val (.int p0), .val (.int p1), .val (.int p2), .val (.int p3), .val (.int p4), .val (.int p5), .val (.ref a288), .val (.ref a293), .unset, .unset, .unset, .unset, .unset, .unset, .unset]) rfl ?_
  refine G.iconst K Dx_54 3 rfl ?_
  refine G.newarr_i K (wd hw 0 rfl) H297 (by decide) 3 (by decide) (by decide) (by decide) (by decide) Dx_55 ?_
  intro a298 h299 H299
  change Hp n0 h299 [(a298, Ia Z [0, 0, 0]), (a293, Ia Z [(Int32.ofNat x3), (Int32.ofNat x4), (Int32.ofNat x5)]), (a288, Ia Z [(Int32.ofNat x0), (Int32.ofNat x1), (Int32.ofNat x2)])] at H299
  refine G.astore K Dx_57 rfl ([.val (.int p0), .val (.int p1), .val (.int p2), .val (.int p3), .val (.int p4), .val (.int p5), .val (.ref a288), .val (.ref a293), .val (.ref a298), .unset, .unset, .unset, .unset, .unset, .unset]) rfl ?_
  refine G.iconst K Dx_59 3 rfl ?_
  refine G.newarr_i K (wd hw 0 rfl) H299 (by decide) 3 (by decide) (by decide) (by decide) (by decide) Dx_60 ?_
  intro a300 h301 H301
  change Hp n0 h301 [(a300, Ia Z [0, 0, 0]), (a298, Ia Z [0, 0, 0]), (a293, Ia Z [(Int32.ofNat x3), (Int32.ofNat x4), (Int32.ofNat x5)]), (a288, Ia Z [(Int32.ofNat x0), (Int32.ofNat x1), (Int32.ofNat x2)])] at H301
  refine G.astore K Dx_62 rfl ([.val (.int p0), .val (.int p1), .val (.int p2), .val (.int p3), .val (.int p4), .val (.int p5), .val (.ref a288), .val (.ref a293), .val (.ref a298), .val (.ref a300), .unset, .unset, .unset, .unset, .unset]) rfl ?_
  refine G.new K (wd hw 2 rfl) (wd hw 3 rfl) (wd hw 4 rfl) (cf_NSS hw) (vs := [.null, .null, .null, .null, .int 0, .null, .int 0, .null, .null, .null, .int 0]) (by rfl) H301 (by decide) (by decide) Dx_64 ?_
  intro a302 h303 H303
  change Hp n0 h303 [(a302, Ob Z CSn NSS [.null, .null, .null, .null, .int 0, .null, .int 0, .null, .null, .null, .int 0]), (a300, Ia Z [0, 0, 0]), (a298, Ia Z [0, 0, 0]), (a293, Ia Z [(Int32.ofNat x3), (Int32.ofNat x4), (Int32.ofNat x5)]), (a288, Ia Z [(Int32.ofNat x0), (Int32.ofNat x1), (Int32.ofNat x2)])] at H303
  refine G.dup K Dx_67 rfl ?_
  refine G.iconst K Dx_68 3 rfl ?_
  refine G.callI K hl rfl (wd hw 5 rfl) (wd hw 6 rfl) (wd hw 4 rfl) (wd hw 7 rfl) (by decide) pd_12 (ct_init l Z a0 hw n0 h303 a302 [(a300, Ia Z [0, 0, 0]), (a298, Ia Z [0, 0, 0]), (a293, Ia Z [(Int32.ofNat x3), (Int32.ofNat x4), (Int32.ofNat x5)]), (a288, Ia Z [(Int32.ofNat x0), (Int32.ofNat x1), (Int32.ofNat x2)])] H303) 1 rfl (by decide) (by decide) (by decide) (by decide) rfl rfl [.int 3] rfl Dx_69 ?_
  rintro _ h304 ⟨xa304, ly304, va304, sl304, ed304, sg304, sh304, ss304, wa304, sa304, la304, rfl, H304⟩
  change G k n0 _ h304 _ _ 72 [.val (.int p0), .val (.int p1), .val (.int p2), .val (.int p3), .val (.int p4), .val (.int p5), .val (.ref a288), .val (.ref a293), .val (.ref a298), .val (.ref a300), .unset, .unset, .unset, .unset, .unset] [.ref a302]
  refine G.astore K Dx_72 rfl ([.val (.int p0), .val (.int p1), .val (.int p2), .val (.int p3), .val (.int p4), .val (.int p5), .val (.ref a288), .val (.ref a293), .val (.ref a298), .val (.ref a300), .val (.ref a302), .unset, .unset, .unset, .unset]) rfl ?_
  refine G.aload K Dx_74 rfl rfl ?_
  refine G.aload K Dx_76 rfl rfl ?_
  have H305 : Hp n0 h304 [(a288, Ia Z [(Int32.ofNat x0), (Int32.ofNat x1), (Int32.ofNat x2)]), (a302, Ob Z CSn NSS [.ref xa304, .ref ly304, .ref va304, .ref sl304, .int (Int32.ofNat 0), .ref ed304, .int (-1), .ref sg304, .ref sh304, .ref ss304, .int 0]), (ly304, Ob Z CYn NSY [.ref wa304, .ref sa304, .ref la304, .int (Int32.ofNat (wcn false))]), (wa304, Ia Z (lst 3 (fun i => Int32.ofNat (wdp false i)))), (sa304, Ia Z (lst 3 (fun i => Int32.ofNat (shp false (fun _ => 1) i)))), (la304, La Z (lst 3 (fun i => EE (2 ^ (fun _ => 1) i)))), (xa304, Ia Z (lst 3 (fun i => Int32.ofNat ((fun _ => 1) i)))), (va304, La Z (lst 16 (fun _ => 0))), (sl304, Ia Z (lst 32 (fun s => Int32.ofNat ((fun _ => 0) s)))), (ed304, La Z (lst (wcn false) (fun _ => 0))), (sg304, La Z []), (sh304, Ia Z (lst 16 (fun _ => 0))), (ss304, Ia Z (lst 16 (fun _ => 0))), (a300, Ia Z [0, 0, 0]), (a298, Ia Z [0, 0, 0]), (a293, Ia Z [(Int32.ofNat x3), (Int32.ofNat x4), (Int32.ofNat x5)])] := H304.pull 15 rfl
  have H306 : Hp n0 h304 [(sg304, La Z []), (a288, Ia Z [(Int32.ofNat x0), (Int32.ofNat x1), (Int32.ofNat x2)]), (a302, Ob Z CSn NSS [.ref xa304, .ref ly304, .ref va304, .ref sl304, .int (Int32.ofNat 0), .ref ed304, .int (-1), .ref sg304, .ref sh304, .ref ss304, .int 0]), (ly304, Ob Z CYn NSY [.ref wa304, .ref sa304, .ref la304, .int (Int32.ofNat (wcn false))]), (wa304, Ia Z (lst 3 (fun i => Int32.ofNat (wdp false i)))), (sa304, Ia Z (lst 3 (fun i => Int32.ofNat (shp false (fun _ => 1) i)))), (la304, La Z (lst 3 (fun i => EE (2 ^ (fun _ => 1) i)))), (xa304, Ia Z (lst 3 (fun i => Int32.ofNat ((fun _ => 1) i)))), (va304, La Z (lst 16 (fun _ => 0))), (sl304, Ia Z (lst 32 (fun s => Int32.ofNat ((fun _ => 0) s)))), (ed304, La Z (lst (wcn false) (fun _ => 0))), (sh304, Ia Z (lst 16 (fun _ => 0))), (ss304, Ia Z (lst 16 (fun _ => 0))), (a300, Ia Z [0, 0, 0]), (a298, Ia Z [0, 0, 0]), (a293, Ia Z [(Int32.ofNat x3), (Int32.ofNat x4), (Int32.ofNat x5)])] := H305.pull 10 rfl
  have H307 : Hp n0 h304 [(ed304, La Z (lst (wcn false) (fun _ => 0))), (sg304, La Z []), (a288, Ia Z [(Int32.ofNat x0), (Int32.ofNat x1), (Int32.ofNat x2)]), (a302, Ob Z CSn NSS [.ref xa304, .ref ly304, .ref va304, .ref sl304, .int (Int32.ofNat 0), .ref ed304, .int (-1), .ref sg304, .ref sh304, .ref ss304, .int 0]), (ly304, Ob Z CYn NSY [.ref wa304, .ref sa304, .ref la304, .int (Int32.ofNat (wcn false))]), (wa304, Ia Z (lst 3 (fun i => Int32.ofNat (wdp false i)))), (sa304, Ia Z (lst 3 (fun i => Int32.ofNat (shp false (fun _ => 1) i)))), (la304, La Z (lst 3 (fun i => EE (2 ^ (fun _ => 1) i)))), (xa304, Ia Z (lst 3 (fun i => Int32.ofNat ((fun _ => 1) i)))), (va304, La Z (lst 16 (fun _ => 0))), (sl304, Ia Z (lst 32 (fun s => Int32.ofNat ((fun _ => 0) s)))), (sh304, Ia Z (lst 16 (fun _ => 0))), (ss304, Ia Z (lst 16 (fun _ => 0))), (a300, Ia Z [0, 0, 0]), (a298, Ia Z [0, 0, 0]), (a293, Ia Z [(Int32.ofNat x3), (Int32.ofNat x4), (Int32.ofNat x5)])] := H306.pull 10 rfl
  have H308 : Hp n0 h304 [(sl304, Ia Z (lst 32 (fun s => Int32.ofNat ((fun _ => 0) s)))), (ed304, La Z (lst (wcn false) (fun _ => 0))), (sg304, La Z []), (a288, Ia Z [(Int32.ofNat x0), (Int32.ofNat x1), (Int32.ofNat x2)]), (a302, Ob Z CSn NSS [.ref xa304, .ref ly304, .ref va304, .ref sl304, .int (Int32.ofNat 0), .ref ed304, .int (-1), .ref sg304, .ref sh304, .ref ss304, .int 0]), (ly304, Ob Z CYn NSY [.ref wa304, .ref sa304, .ref la304, .int (Int32.ofNat (wcn false))]), (wa304, Ia Z (lst 3 (fun i => Int32.ofNat (wdp false i)))), (sa304, Ia Z (lst 3 (fun i => Int32.ofNat (shp false (fun _ => 1) i)))), (la304, La Z (lst 3 (fun i => EE (2 ^ (fun _ => 1) i)))), (xa304, Ia Z (lst 3 (fun i => Int32.ofNat ((fun _ => 1) i)))), (va304, La Z (lst 16 (fun _ => 0))), (sh304, Ia Z (lst 16 (fun _ => 0))), (ss304, Ia Z (lst 16 (fun _ => 0))), (a300, Ia Z [0, 0, 0]), (a298, Ia Z [0, 0, 0]), (a293, Ia Z [(Int32.ofNat x3), (Int32.ofNat x4), (Int32.ofNat x5)])] := H307.pull 10 rfl
  have H309 : Hp n0 h304 [(va304, La Z (lst 16 (fun _ => 0))), (sl304, Ia Z (lst 32 (fun s => Int32.ofNat ((fun _ => 0) s)))), (ed304, La Z (lst (wcn false) (fun _ => 0))), (sg304, La Z []), (a288, Ia Z [(Int32.ofNat x0), (Int32.ofNat x1), (Int32.ofNat x2)]), (a302, Ob Z CSn NSS [.ref xa304, .ref ly304, .ref va304, .ref sl304, .int (Int32.ofNat 0), .ref ed304, .int (-1), .ref sg304, .ref sh304, .ref ss304, .int 0]), (ly304, Ob Z CYn NSY [.ref wa304, .ref sa304, .ref la304, .int (Int32.ofNat (wcn false))]), (wa304, Ia Z (lst 3 (fun i => Int32.ofNat (wdp false i)))), (sa304, Ia Z (lst 3 (fun i => Int32.ofNat (shp false (fun _ => 1) i)))), (la304, La Z (lst 3 (fun i => EE (2 ^ (fun _ => 1) i)))), (xa304, Ia Z (lst 3 (fun i => Int32.ofNat ((fun _ => 1) i)))), (sh304, Ia Z (lst 16 (fun _ => 0))), (ss304, Ia Z (lst 16 (fun _ => 0))), (a300, Ia Z [0, 0, 0]), (a298, Ia Z [0, 0, 0]), (a293, Ia Z [(Int32.ofNat x3), (Int32.ofNat x4), (Int32.ofNat x5)])] := H308.pull 10 rfl
  have H310 : Hp n0 h304 [(xa304, Ia Z (lst 3 (fun i => Int32.ofNat ((fun _ => 1) i)))), (va304, La Z (lst 16 (fun _ => 0))), (sl304, Ia Z (lst 32 (fun s => Int32.ofNat ((fun _ => 0) s)))), (ed304, La Z (lst (wcn false) (fun _ => 0))), (sg304, La Z []), (a288, Ia Z [(Int32.ofNat x0), (Int32.ofNat x1), (Int32.ofNat x2)]), (a302, Ob Z CSn NSS [.ref xa304, .ref ly304, .ref va304, .ref sl304, .int (Int32.ofNat 0), .ref ed304, .int (-1), .ref sg304, .ref sh304, .ref ss304, .int 0]), (ly304, Ob Z CYn NSY [.ref wa304, .ref sa304, .ref la304, .int (Int32.ofNat (wcn false))]), (wa304, Ia Z (lst 3 (fun i => Int32.ofNat (wdp false i)))), (sa304, Ia Z (lst 3 (fun i => Int32.ofNat (shp false (fun _ => 1) i)))), (la304, La Z (lst 3 (fun i => EE (2 ^ (fun _ => 1) i)))), (sh304, Ia Z (lst 16 (fun _ => 0))), (ss304, Ia Z (lst 16 (fun _ => 0))), (a300, Ia Z [0, 0, 0]), (a298, Ia Z [0, 0, 0]), (a293, Ia Z [(Int32.ofNat x3), (Int32.ofNat x4), (Int32.ofNat x5)])] := H309.pull 10 rfl
  have H311 : Hp n0 h304 [(la304, La Z (lst 3 (fun i => EE (2 ^ (fun _ => 1) i)))), (xa304, Ia Z (lst 3 (fun i => Int32.ofNat ((fun _ => 1) i)))), (va304, La Z (lst 16 (fun _ => 0))), (sl304, Ia Z (lst 32 (fun s => Int32.ofNat ((fun _ => 0) s)))), (ed304, La Z (lst (wcn false) (fun _ => 0))), (sg304, La Z []), (a288, Ia Z [(Int32.ofNat x0), (Int32.ofNat x1), (Int32.ofNat x2)]), (a302, Ob Z CSn NSS [.ref xa304, .ref ly304, .ref va304, .ref sl304, .int (Int32.ofNat 0), .ref ed304, .int (-1), .ref sg304, .ref sh304, .ref ss304, .int 0]), (ly304, Ob Z CYn NSY [.ref wa304, .ref sa304, .ref la304, .int (Int32.ofNat (wcn false))]), (wa304, Ia Z (lst 3 (fun i => Int32.ofNat (wdp false i)))), (sa304, Ia Z (lst 3 (fun i => Int32.ofNat (shp false (fun _ => 1) i)))), (sh304, Ia Z (lst 16 (fun _ => 0))), (ss304, Ia Z (lst 16 (fun _ => 0))), (a300, Ia Z [0, 0, 0]), (a298, Ia Z [0, 0, 0]), (a293, Ia Z [(Int32.ofNat x3), (Int32.ofNat x4), (Int32.ofNat x5)])] := H310.pull 10 rfl
  have H312 : Hp n0 h304 [(sa304, Ia Z (lst 3 (fun i => Int32.ofNat (shp false (fun _ => 1) i)))), (la304, La Z (lst 3 (fun i => EE (2 ^ (fun _ => 1) i)))), (xa304, Ia Z (lst 3 (fun i => Int32.ofNat ((fun _ => 1) i)))), (va304, La Z (lst 16 (fun _ => 0))), (sl304, Ia Z (lst 32 (fun s => Int32.ofNat ((fun _ => 0) s)))), (ed304, La Z (lst (wcn false) (fun _ => 0))), (sg304, La Z []), (a288, Ia Z [(Int32.ofNat x0), (Int32.ofNat x1), (Int32.ofNat x2)]), (a302, Ob Z CSn NSS [.ref xa304, .ref ly304, .ref va304, .ref sl304, .int (Int32.ofNat 0), .ref ed304, .int (-1), .ref sg304, .ref sh304, .ref ss304, .int 0]), (ly304, Ob Z CYn NSY [.ref wa304, .ref sa304, .ref la304, .int (Int32.ofNat (wcn false))]), (wa304, Ia Z (lst 3 (fun i => Int32.ofNat (wdp false i)))), (sh304, Ia Z (lst 16 (fun _ => 0))), (ss304, Ia Z (lst 16 (fun _ => 0))), (a300, Ia Z [0, 0, 0]), (a298, Ia Z [0, 0, 0]), (a293, Ia Z [(Int32.ofNat x3), (Int32.ofNat x4), (Int32.ofNat x5)])] := H311.pull 10 rfl
  have H313 : Hp n0 h304 [(wa304, Ia Z (lst 3 (fun i => Int32.ofNat (wdp false i)))), (sa304, Ia Z (lst 3 (fun i => Int32.ofNat (shp false (fun _ => 1) i)))), (la304, La Z (lst 3 (fun i => EE (2 ^ (fun _ => 1) i)))), (xa304, Ia Z (lst 3 (fun i => Int32.ofNat ((fun _ => 1) i)))), (va304, La Z (lst 16 (fun _ => 0))), (sl304, Ia Z (lst 32 (fun s => Int32.ofNat ((fun _ => 0) s)))), (ed304, La Z (lst (wcn false) (fun _ => 0))), (sg304, La Z []), (a288, Ia Z [(Int32.ofNat x0), (Int32.ofNat x1), (Int32.ofNat x2)]), (a302, Ob Z CSn NSS [.ref xa304, .ref ly304, .ref va304, .ref sl304, .int (Int32.ofNat 0), .ref ed304, .int (-1), .ref sg304, .ref sh304, .ref ss304, .int 0]), (ly304, Ob Z CYn NSY [.ref wa304, .ref sa304, .ref la304, .int (Int32.ofNat (wcn false))]), (sh304, Ia Z (lst 16 (fun _ => 0))), (ss304, Ia Z (lst 16 (fun _ => 0))), (a300, Ia Z [0, 0, 0]), (a298, Ia Z [0, 0, 0]), (a293, Ia Z [(Int32.ofNat x3), (Int32.ofNat x4), (Int32.ofNat x5)])] := H312.pull 10 rfl
  have H314 : Hp n0 h304 [(ly304, Ob Z CYn NSY [.ref wa304, .ref sa304, .ref la304, .int (Int32.ofNat (wcn false))]), (wa304, Ia Z (lst 3 (fun i => Int32.ofNat (wdp false i)))), (sa304, Ia Z (lst 3 (fun i => Int32.ofNat (shp false (fun _ => 1) i)))), (la304, La Z (lst 3 (fun i => EE (2 ^ (fun _ => 1) i)))), (xa304, Ia Z (lst 3 (fun i => Int32.ofNat ((fun _ => 1) i)))), (va304, La Z (lst 16 (fun _ => 0))), (sl304, Ia Z (lst 32 (fun s => Int32.ofNat ((fun _ => 0) s)))), (ed304, La Z (lst (wcn false) (fun _ => 0))), (sg304, La Z []), (a288, Ia Z [(Int32.ofNat x0), (Int32.ofNat x1), (Int32.ofNat x2)]), (a302, Ob Z CSn NSS [.ref xa304, .ref ly304, .ref va304, .ref sl304, .int (Int32.ofNat 0), .ref ed304, .int (-1), .ref sg304, .ref sh304, .ref ss304, .int 0]), (sh304, Ia Z (lst 16 (fun _ => 0))), (ss304, Ia Z (lst 16 (fun _ => 0))), (a300, Ia Z [0, 0, 0]), (a298, Ia Z [0, 0, 0]), (a293, Ia Z [(Int32.ofNat x3), (Int32.ofNat x4), (Int32.ofNat x5)])] := H313.pull 10 rfl
  have H315 : Hp n0 h304 [(a302, Ob Z CSn NSS [.ref xa304, .ref ly304, .ref va304, .ref sl304, .int (Int32.ofNat 0), .ref ed304, .int (-1), .ref sg304, .ref sh304, .ref ss304, .int 0]), (ly304, Ob Z CYn NSY [.ref wa304, .ref sa304, .ref la304, .int (Int32.ofNat (wcn false))]), (wa304, Ia Z (lst 3 (fun i => Int32.ofNat (wdp false i)))), (sa304, Ia Z (lst 3 (fun i => Int32.ofNat (shp false (fun _ => 1) i)))), (la304, La Z (lst 3 (fun i => EE (2 ^ (fun _ => 1) i)))), (xa304, Ia Z (lst 3 (fun i => Int32.ofNat ((fun _ => 1) i)))), (va304, La Z (lst 16 (fun _ => 0))), (sl304, Ia Z (lst 32 (fun s => Int32.ofNat ((fun _ => 0) s)))), (ed304, La Z (lst (wcn false) (fun _ => 0))), (sg304, La Z []), (a288, Ia Z [(Int32.ofNat x0), (Int32.ofNat x1), (Int32.ofNat x2)]), (sh304, Ia Z (lst 16 (fun _ => 0))), (ss304, Ia Z (lst 16 (fun _ => 0))), (a300, Ia Z [0, 0, 0]), (a298, Ia Z [0, 0, 0]), (a293, Ia Z [(Int32.ofNat x3), (Int32.ofNat x4), (Int32.ofNat x5)])] := H314.pull 10 rfl
  change Hp n0 h304 [(a302, Ob Z CSn NSS [.ref xa304, .ref ly304, .ref va304, .ref sl304, .int (Int32.ofNat 0), .ref ed304, .int (-1), .ref sg304, .ref sh304, .ref ss304, .int 0]), (ly304, Ob Z CYn NSY [.ref wa304, .ref sa304, .ref la304, .int (Int32.ofNat (wcn false))]), (wa304, Ia Z (lst 3 (fun i => Int32.ofNat (wdp false i)))), (sa304, Ia Z (lst 3 (fun i => Int32.ofNat (shp false (fun _ => 1) i)))), (la304, La Z (lst 3 (fun i => EE (2 ^ (fun _ => 1) i)))), (xa304, Ia Z (lst 3 (fun i => Int32.ofNat ((fun _ => 1) i)))), (va304, La Z (lst 16 (fun _ => 0))), (sl304, Ia Z (lst 32 (fun s => Int32.ofNat ((fun _ => 0) s)))), (ed304, La Z (lst (wcn false) (fun _ => 0))), (sg304, La Z []), (a288, Ia Z (lst 3 (fun i => Int32.ofNat ((tri x0 x1 x2) i)))), (sh304, Ia Z (lst 16 (fun _ => 0))), (ss304, Ia Z (lst 16 (fun _ => 0))), (a300, Ia Z [0, 0, 0]), (a298, Ia Z [0, 0, 0]), (a293, Ia Z [(Int32.ofNat x3), (Int32.ofNat x4), (Int32.ofNat x5)])] at H315
  refine G.callV K hl (wd hw 50 rfl) (wd hw 51 rfl) (wd hw 53 rfl) (wd hw 52 rfl) (wd hw 4 rfl) (wd hw 54 rfl) (by decide) pd_16 (H315.exa (i := 0) rfl) (ct_add l Z a0 hw n0 h304 a302 xa304 ly304 va304 sl304 ed304 sg304 sh304 ss304 wa304 sa304 la304 false (fun _ => 1) 0 (fun _ _ => 0) (fun _ => 0) (fun _ => 0) (fun _ => 0) (fun _ => 0) (-1) a288 (tri x0 x1 x2) [(sh304, Ia Z (lst 16 (fun _ => 0))), (ss304, Ia Z (lst 16 (fun _ => 0))), (a300, Ia Z [0, 0, 0]), (a298, Ia Z [0, 0, 0]), (a293, Ia Z [(Int32.ofNat x3), (Int32.ofNat x4), (Int32.ofNat x5)])] (Good.init3 (fun _ _ => 0)) (by omega) (fun i hi => by rcases (by omega : i = 0 ∨ i = 1 ∨ i = 2) with rfl | rfl | rfl <;> first | exact hx0 | exact hx1 | exact hx2 | exact hx3 | exact hx4 | exact hx5) H315) 0 rfl (by decide) (by decide) (by decide) (by decide) rfl rfl [.ref a288] rfl Dx_78 ?_
  rintro _ h316 ⟨ly316, va316, sl316, ed316, sg316, wa316, sa316, la316, t316, w316, VF316, SL316, EF316, m316, n316, vals316, rfl, A316, C316, H316⟩
  change Hp n0 h316 [(a302, Ob Z CSn NSS [.ref xa304, .ref ly316, .ref va316, .ref sl316, .int (Int32.ofNat n316), .ref ed316, .int (-1), .ref sg316, .ref sh304, .ref ss304, .int 0]), (ly316, Ob Z CYn NSY [.ref wa316, .ref sa316, .ref la316, .int (Int32.ofNat (wcn t316))]), (wa316, Ia Z (lst 3 (fun i => Int32.ofNat (wdp t316 i)))), (sa316, Ia Z (lst 3 (fun i => Int32.ofNat (shp t316 w316 i)))), (la316, La Z (lst 3 (fun i => EE (2 ^ w316 i)))), (xa304, Ia Z (lst 3 (fun i => Int32.ofNat (w316 i)))), (va316, La Z (lst 16 VF316)), (sl316, Ia Z (lst 32 (fun s => Int32.ofNat (SL316 s)))), (ed316, La Z (lst (wcn t316) EF316)), (sg316, La Z []), (a288, Ia Z [(Int32.ofNat x0), (Int32.ofNat x1), (Int32.ofNat x2)]), (sh304, Ia Z (lst 16 (fun _ => 0))), (ss304, Ia Z (lst 16 (fun _ => 0))), (a300, Ia Z [0, 0, 0]), (a298, Ia Z [0, 0, 0]), (a293, Ia Z [(Int32.ofNat x3), (Int32.ofNat x4), (Int32.ofNat x5)])] at H316
  change G k n0 _ h316 _ _ 81 [.val (.int p0), .val (.int p1), .val (.int p2), .val (.int p3), .val (.int p4), .val (.int p5), .val (.ref a288), .val (.ref a293), .val (.ref a298), .val (.ref a300), .val (.ref a302), .unset, .unset, .unset, .unset] [.int (Int32.ofNat m316)]
  obtain ⟨-, rfl, rfl, rfl⟩ := A316.resolve_left (fun z => absurd z.1 (by omega))
  change Hp n0 h316 [(a302, Ob Z CSn NSS [.ref xa304, .ref ly316, .ref va316, .ref sl316, .int (Int32.ofNat 1), .ref ed316, .int (-1), .ref sg316, .ref sh304, .ref ss304, .int 0]), (ly316, Ob Z CYn NSY [.ref wa316, .ref sa316, .ref la316, .int (Int32.ofNat (wcn t316))]), (wa316, Ia Z (lst 3 (fun i => Int32.ofNat (wdp t316 i)))), (sa316, Ia Z (lst 3 (fun i => Int32.ofNat (shp t316 w316 i)))), (la316, La Z (lst 3 (fun i => EE (2 ^ w316 i)))), (xa304, Ia Z (lst 3 (fun i => Int32.ofNat (w316 i)))), (va316, La Z (lst 16 VF316)), (sl316, Ia Z (lst 32 (fun s => Int32.ofNat (SL316 s)))), (ed316, La Z (lst (wcn t316) EF316)), (sg316, La Z []), (a288, Ia Z [(Int32.ofNat x0), (Int32.ofNat x1), (Int32.ofNat x2)]), (sh304, Ia Z (lst 16 (fun _ => 0))), (ss304, Ia Z (lst 16 (fun _ => 0))), (a300, Ia Z [0, 0, 0]), (a298, Ia Z [0, 0, 0]), (a293, Ia Z [(Int32.ofNat x3), (Int32.ofNat x4), (Int32.ofNat x5)])] at H316
  change Good 3 t316 w316 1 (fun j => if j = 0 then cutv (tri x0 x1 x2) 3 else (fun _ _ => 0) j) (cutv (tri x0 x1 x2) 3) VF316 SL316 EF316 at C316
  change G k n0 _ h316 _ _ 81 [.val (.int p0), .val (.int p1), .val (.int p2), .val (.int p3), .val (.int p4), .val (.int p5), .val (.ref a288), .val (.ref a293), .val (.ref a298), .val (.ref a300), .val (.ref a302), .unset, .unset, .unset, .unset] [.int 0]
  refine G.istore K Dx_81 ([.val (.int p0), .val (.int p1), .val (.int p2), .val (.int p3), .val (.int p4), .val (.int p5), .val (.ref a288), .val (.ref a293), .val (.ref a298), .val (.ref a300), .val (.ref a302), .val (.int 0), .unset, .unset, .unset]) rfl ?_
  refine G.aload K Dx_83 rfl rfl ?_
  refine G.aload K Dx_85 rfl rfl ?_
  have H317 : Hp n0 h316 [(a293, Ia Z [(Int32.ofNat x3), (Int32.ofNat x4), (Int32.ofNat x5)]), (a302, Ob Z CSn NSS [.ref xa304, .ref ly316, .ref va316, .ref sl316, .int (Int32.ofNat 1), .ref ed316, .int (-1), .ref sg316, .ref sh304, .ref ss304, .int 0]), (ly316, Ob Z CYn NSY [.ref wa316, .ref sa316, .ref la316, .int (Int32.ofNat (wcn t316))]), (wa316, Ia Z (lst 3 (fun i => Int32.ofNat (wdp t316 i)))), (sa316, Ia Z (lst 3 (fun i => Int32.ofNat (shp t316 w316 i)))), (la316, La Z (lst 3 (fun i => EE (2 ^ w316 i)))), (xa304, Ia Z (lst 3 (fun i => Int32.ofNat (w316 i)))), (va316, La Z (lst 16 VF316)), (sl316, Ia Z (lst 32 (fun s => Int32.ofNat (SL316 s)))), (ed316, La Z (lst (wcn t316) EF316)), (sg316, La Z []), (a288, Ia Z [(Int32.ofNat x0), (Int32.ofNat x1), (Int32.ofNat x2)]), (sh304, Ia Z (lst 16 (fun _ => 0))), (ss304, Ia Z (lst 16 (fun _ => 0))), (a300, Ia Z [0, 0, 0]), (a298, Ia Z [0, 0, 0])] := H316.pull 15 rfl
  have H318 : Hp n0 h316 [(sg316, La Z []), (a293, Ia Z [(Int32.ofNat x3), (Int32.ofNat x4), (Int32.ofNat x5)]), (a302, Ob Z CSn NSS [.ref xa304, .ref ly316, .ref va316, .ref sl316, .int (Int32.ofNat 1), .ref ed316, .int (-1), .ref sg316, .ref sh304, .ref ss304, .int 0]), (ly316, Ob Z CYn NSY [.ref wa316, .ref sa316, .ref la316, .int (Int32.ofNat (wcn t316))]), (wa316, Ia Z (lst 3 (fun i => Int32.ofNat (wdp t316 i)))), (sa316, Ia Z (lst 3 (fun i => Int32.ofNat (shp t316 w316 i)))), (la316, La Z (lst 3 (fun i => EE (2 ^ w316 i)))), (xa304, Ia Z (lst 3 (fun i => Int32.ofNat (w316 i)))), (va316, La Z (lst 16 VF316)), (sl316, Ia Z (lst 32 (fun s => Int32.ofNat (SL316 s)))), (ed316, La Z (lst (wcn t316) EF316)), (a288, Ia Z [(Int32.ofNat x0), (Int32.ofNat x1), (Int32.ofNat x2)]), (sh304, Ia Z (lst 16 (fun _ => 0))), (ss304, Ia Z (lst 16 (fun _ => 0))), (a300, Ia Z [0, 0, 0]), (a298, Ia Z [0, 0, 0])] := H317.pull 10 rfl
  have H319 : Hp n0 h316 [(ed316, La Z (lst (wcn t316) EF316)), (sg316, La Z []), (a293, Ia Z [(Int32.ofNat x3), (Int32.ofNat x4), (Int32.ofNat x5)]), (a302, Ob Z CSn NSS [.ref xa304, .ref ly316, .ref va316, .ref sl316, .int (Int32.ofNat 1), .ref ed316, .int (-1), .ref sg316, .ref sh304, .ref ss304, .int 0]), (ly316, Ob Z CYn NSY [.ref wa316, .ref sa316, .ref la316, .int (Int32.ofNat (wcn t316))]), (wa316, Ia Z (lst 3 (fun i => Int32.ofNat (wdp t316 i)))), (sa316, Ia Z (lst 3 (fun i => Int32.ofNat (shp t316 w316 i)))), (la316, La Z (lst 3 (fun i => EE (2 ^ w316 i)))), (xa304, Ia Z (lst 3 (fun i => Int32.ofNat (w316 i)))), (va316, La Z (lst 16 VF316)), (sl316, Ia Z (lst 32 (fun s => Int32.ofNat (SL316 s)))), (a288, Ia Z [(Int32.ofNat x0), (Int32.ofNat x1), (Int32.ofNat x2)]), (sh304, Ia Z (lst 16 (fun _ => 0))), (ss304, Ia Z (lst 16 (fun _ => 0))), (a300, Ia Z [0, 0, 0]), (a298, Ia Z [0, 0, 0])] := H318.pull 10 rfl
  have H320 : Hp n0 h316 [(sl316, Ia Z (lst 32 (fun s => Int32.ofNat (SL316 s)))), (ed316, La Z (lst (wcn t316) EF316)), (sg316, La Z []), (a293, Ia Z [(Int32.ofNat x3), (Int32.ofNat x4), (Int32.ofNat x5)]), (a302, Ob Z CSn NSS [.ref xa304, .ref ly316, .ref va316, .ref sl316, .int (Int32.ofNat 1), .ref ed316, .int (-1), .ref sg316, .ref sh304, .ref ss304, .int 0]), (ly316, Ob Z CYn NSY [.ref wa316, .ref sa316, .ref la316, .int (Int32.ofNat (wcn t316))]), (wa316, Ia Z (lst 3 (fun i => Int32.ofNat (wdp t316 i)))), (sa316, Ia Z (lst 3 (fun i => Int32.ofNat (shp t316 w316 i)))), (la316, La Z (lst 3 (fun i => EE (2 ^ w316 i)))), (xa304, Ia Z (lst 3 (fun i => Int32.ofNat (w316 i)))), (va316, La Z (lst 16 VF316)), (a288, Ia Z [(Int32.ofNat x0), (Int32.ofNat x1), (Int32.ofNat x2)]), (sh304, Ia Z (lst 16 (fun _ => 0))), (ss304, Ia Z (lst 16 (fun _ => 0))), (a300, Ia Z [0, 0, 0]), (a298, Ia Z [0, 0, 0])] := H319.pull 10 rfl
  have H321 : Hp n0 h316 [(va316, La Z (lst 16 VF316)), (sl316, Ia Z (lst 32 (fun s => Int32.ofNat (SL316 s)))), (ed316, La Z (lst (wcn t316) EF316)), (sg316, La Z []), (a293, Ia Z [(Int32.ofNat x3), (Int32.ofNat x4), (Int32.ofNat x5)]), (a302, Ob Z CSn NSS [.ref xa304, .ref ly316, .ref va316, .ref sl316, .int (Int32.ofNat 1), .ref ed316, .int (-1), .ref sg316, .ref sh304, .ref ss304, .int 0]), (ly316, Ob Z CYn NSY [.ref wa316, .ref sa316, .ref la316, .int (Int32.ofNat (wcn t316))]), (wa316, Ia Z (lst 3 (fun i => Int32.ofNat (wdp t316 i)))), (sa316, Ia Z (lst 3 (fun i => Int32.ofNat (shp t316 w316 i)))), (la316, La Z (lst 3 (fun i => EE (2 ^ w316 i)))), (xa304, Ia Z (lst 3 (fun i => Int32.ofNat (w316 i)))), (a288, Ia Z [(Int32.ofNat x0), (Int32.ofNat x1), (Int32.ofNat x2)]), (sh304, Ia Z (lst 16 (fun _ => 0))), (ss304, Ia Z (lst 16 (fun _ => 0))), (a300, Ia Z [0, 0, 0]), (a298, Ia Z [0, 0, 0])] := H320.pull 10 rfl
  have H322 : Hp n0 h316 [(xa304, Ia Z (lst 3 (fun i => Int32.ofNat (w316 i)))), (va316, La Z (lst 16 VF316)), (sl316, Ia Z (lst 32 (fun s => Int32.ofNat (SL316 s)))), (ed316, La Z (lst (wcn t316) EF316)), (sg316, La Z []), (a293, Ia Z [(Int32.ofNat x3), (Int32.ofNat x4), (Int32.ofNat x5)]), (a302, Ob Z CSn NSS [.ref xa304, .ref ly316, .ref va316, .ref sl316, .int (Int32.ofNat 1), .ref ed316, .int (-1), .ref sg316, .ref sh304, .ref ss304, .int 0]), (ly316, Ob Z CYn NSY [.ref wa316, .ref sa316, .ref la316, .int (Int32.ofNat (wcn t316))]), (wa316, Ia Z (lst 3 (fun i => Int32.ofNat (wdp t316 i)))), (sa316, Ia Z (lst 3 (fun i => Int32.ofNat (shp t316 w316 i)))), (la316, La Z (lst 3 (fun i => EE (2 ^ w316 i)))), (a288, Ia Z [(Int32.ofNat x0), (Int32.ofNat x1), (Int32.ofNat x2)]), (sh304, Ia Z (lst 16 (fun _ => 0))), (ss304, Ia Z (lst 16 (fun _ => 0))), (a300, Ia Z [0, 0, 0]), (a298, Ia Z [0, 0, 0])] := H321.pull 10 rfl
  have H323 : Hp n0 h316 [(la316, La Z (lst 3 (fun i => EE (2 ^ w316 i)))), (xa304, Ia Z (lst 3 (fun i => Int32.ofNat (w316 i)))), (va316, La Z (lst 16 VF316)), (sl316, Ia Z (lst 32 (fun s => Int32.ofNat (SL316 s)))), (ed316, La Z (lst (wcn t316) EF316)), (sg316, La Z []), (a293, Ia Z [(Int32.ofNat x3), (Int32.ofNat x4), (Int32.ofNat x5)]), (a302, Ob Z CSn NSS [.ref xa304, .ref ly316, .ref va316, .ref sl316, .int (Int32.ofNat 1), .ref ed316, .int (-1), .ref sg316, .ref sh304, .ref ss304, .int 0]), (ly316, Ob Z CYn NSY [.ref wa316, .ref sa316, .ref la316, .int (Int32.ofNat (wcn t316))]), (wa316, Ia Z (lst 3 (fun i => Int32.ofNat (wdp t316 i)))), (sa316, Ia Z (lst 3 (fun i => Int32.ofNat (shp t316 w316 i)))), (a288, Ia Z [(Int32.ofNat x0), (Int32.ofNat x1), (Int32.ofNat x2)]), (sh304, Ia Z (lst 16 (fun _ => 0))), (ss304, Ia Z (lst 16 (fun _ => 0))), (a300, Ia Z [0, 0, 0]), (a298, Ia Z [0, 0, 0])] := H322.pull 10 rfl
  have H324 : Hp n0 h316 [(sa316, Ia Z (lst 3 (fun i => Int32.ofNat (shp t316 w316 i)))), (la316, La Z (lst 3 (fun i => EE (2 ^ w316 i)))), (xa304, Ia Z (lst 3 (fun i => Int32.ofNat (w316 i)))), (va316, La Z (lst 16 VF316)), (sl316, Ia Z (lst 32 (fun s => Int32.ofNat (SL316 s)))), (ed316, La Z (lst (wcn t316) EF316)), (sg316, La Z []), (a293, Ia Z [(Int32.ofNat x3), (Int32.ofNat x4), (Int32.ofNat x5)]), (a302, Ob Z CSn NSS [.ref xa304, .ref ly316, .ref va316, .ref sl316, .int (Int32.ofNat 1), .ref ed316, .int (-1), .ref sg316, .ref sh304, .ref ss304, .int 0]), (ly316, Ob Z CYn NSY [.ref wa316, .ref sa316, .ref la316, .int (Int32.ofNat (wcn t316))]), (wa316, Ia Z (lst 3 (fun i => Int32.ofNat (wdp t316 i)))), (a288, Ia Z [(Int32.ofNat x0), (Int32.ofNat x1), (Int32.ofNat x2)]), (sh304, Ia Z (lst 16 (fun _ => 0))), (ss304, Ia Z (lst 16 (fun _ => 0))), (a300, Ia Z [0, 0, 0]), (a298, Ia Z [0, 0, 0])] := H323.pull 10 rfl
  have H325 : Hp n0 h316 [(wa316, Ia Z (lst 3 (fun i => Int32.ofNat (wdp t316 i)))), (sa316, Ia Z (lst 3 (fun i => Int32.ofNat (shp t316 w316 i)))), (la316, La Z (lst 3 (fun i => EE (2 ^ w316 i)))), (xa304, Ia Z (lst 3 (fun i => Int32.ofNat (w316 i)))), (va316, La Z (lst 16 VF316)), (sl316, Ia Z (lst 32 (fun s => Int32.ofNat (SL316 s)))), (ed316, La Z (lst (wcn t316) EF316)), (sg316, La Z []), (a293, Ia Z [(Int32.ofNat x3), (Int32.ofNat x4), (Int32.ofNat x5)]), (a302, Ob Z CSn NSS [.ref xa304, .ref ly316, .ref va316, .ref sl316, .int (Int32.ofNat 1), .ref ed316, .int (-1), .ref sg316, .ref sh304, .ref ss304, .int 0]), (ly316, Ob Z CYn NSY [.ref wa316, .ref sa316, .ref la316, .int (Int32.ofNat (wcn t316))]), (a288, Ia Z [(Int32.ofNat x0), (Int32.ofNat x1), (Int32.ofNat x2)]), (sh304, Ia Z (lst 16 (fun _ => 0))), (ss304, Ia Z (lst 16 (fun _ => 0))), (a300, Ia Z [0, 0, 0]), (a298, Ia Z [0, 0, 0])] := H324.pull 10 rfl
  have H326 : Hp n0 h316 [(ly316, Ob Z CYn NSY [.ref wa316, .ref sa316, .ref la316, .int (Int32.ofNat (wcn t316))]), (wa316, Ia Z (lst 3 (fun i => Int32.ofNat (wdp t316 i)))), (sa316, Ia Z (lst 3 (fun i => Int32.ofNat (shp t316 w316 i)))), (la316, La Z (lst 3 (fun i => EE (2 ^ w316 i)))), (xa304, Ia Z (lst 3 (fun i => Int32.ofNat (w316 i)))), (va316, La Z (lst 16 VF316)), (sl316, Ia Z (lst 32 (fun s => Int32.ofNat (SL316 s)))), (ed316, La Z (lst (wcn t316) EF316)), (sg316, La Z []), (a293, Ia Z [(Int32.ofNat x3), (Int32.ofNat x4), (Int32.ofNat x5)]), (a302, Ob Z CSn NSS [.ref xa304, .ref ly316, .ref va316, .ref sl316, .int (Int32.ofNat 1), .ref ed316, .int (-1), .ref sg316, .ref sh304, .ref ss304, .int 0]), (a288, Ia Z [(Int32.ofNat x0), (Int32.ofNat x1), (Int32.ofNat x2)]), (sh304, Ia Z (lst 16 (fun _ => 0))), (ss304, Ia Z (lst 16 (fun _ => 0))), (a300, Ia Z [0, 0, 0]), (a298, Ia Z [0, 0, 0])] := H325.pull 10 rfl
  have H327 : Hp n0 h316 [(a302, Ob Z CSn NSS [.ref xa304, .ref ly316, .ref va316, .ref sl316, .int (Int32.ofNat 1), .ref ed316, .int (-1), .ref sg316, .ref sh304, .ref ss304, .int 0]), (ly316, Ob Z CYn NSY [.ref wa316, .ref sa316, .ref la316, .int (Int32.ofNat (wcn t316))]), (wa316, Ia Z (lst 3 (fun i => Int32.ofNat (wdp t316 i)))), (sa316, Ia Z (lst 3 (fun i => Int32.ofNat (shp t316 w316 i)))), (la316, La Z (lst 3 (fun i => EE (2 ^ w316 i)))), (xa304, Ia Z (lst 3 (fun i => Int32.ofNat (w316 i)))), (va316, La Z (lst 16 VF316)), (sl316, Ia Z (lst 32 (fun s => Int32.ofNat (SL316 s)))), (ed316, La Z (lst (wcn t316) EF316)), (sg316, La Z []), (a293, Ia Z [(Int32.ofNat x3), (Int32.ofNat x4), (Int32.ofNat x5)]), (a288, Ia Z [(Int32.ofNat x0), (Int32.ofNat x1), (Int32.ofNat x2)]), (sh304, Ia Z (lst 16 (fun _ => 0))), (ss304, Ia Z (lst 16 (fun _ => 0))), (a300, Ia Z [0, 0, 0]), (a298, Ia Z [0, 0, 0])] := H326.pull 10 rfl
  change Hp n0 h316 [(a302, Ob Z CSn NSS [.ref xa304, .ref ly316, .ref va316, .ref sl316, .int (Int32.ofNat 1), .ref ed316, .int (-1), .ref sg316, .ref sh304, .ref ss304, .int 0]), (ly316, Ob Z CYn NSY [.ref wa316, .ref sa316, .ref la316, .int (Int32.ofNat (wcn t316))]), (wa316, Ia Z (lst 3 (fun i => Int32.ofNat (wdp t316 i)))), (sa316, Ia Z (lst 3 (fun i => Int32.ofNat (shp t316 w316 i)))), (la316, La Z (lst 3 (fun i => EE (2 ^ w316 i)))), (xa304, Ia Z (lst 3 (fun i => Int32.ofNat (w316 i)))), (va316, La Z (lst 16 VF316)), (sl316, Ia Z (lst 32 (fun s => Int32.ofNat (SL316 s)))), (ed316, La Z (lst (wcn t316) EF316)), (sg316, La Z []), (a293, Ia Z (lst 3 (fun i => Int32.ofNat ((tri x3 x4 x5) i)))), (a288, Ia Z [(Int32.ofNat x0), (Int32.ofNat x1), (Int32.ofNat x2)]), (sh304, Ia Z (lst 16 (fun _ => 0))), (ss304, Ia Z (lst 16 (fun _ => 0))), (a300, Ia Z [0, 0, 0]), (a298, Ia Z [0, 0, 0])] at H327
  refine G.callV K hl (wd hw 50 rfl) (wd hw 51 rfl) (wd hw 53 rfl) (wd hw 52 rfl) (wd hw 4 rfl) (wd hw 54 rfl) (by decide) pd_16 (H327.exa (i := 0) rfl) (ct_add l Z a0 hw n0 h316 a302 xa304 ly316 va316 sl316 ed316 sg316 sh304 ss304 wa316 sa316 la316 t316 w316 1 (fun j => if j = 0 then cutv (tri x0 x1 x2) 3 else (fun _ _ => 0) j) (cutv (tri x0 x1 x2) 3) VF316 SL316 EF316 (-1) a293 (tri x3 x4 x5) [(a288, Ia Z [(Int32.ofNat x0), (Int32.ofNat x1), (Int32.ofNat x2)]), (sh304, Ia Z (lst 16 (fun _ => 0))), (ss304, Ia Z (lst 16 (fun _ => 0))), (a300, Ia Z [0, 0, 0]), (a298, Ia Z [0, 0, 0])] C316 (by omega) (fun i hi => by rcases (by omega : i = 0 ∨ i = 1 ∨ i = 2) with rfl | rfl | rfl <;> first | exact hx0 | exact hx1 | exact hx2 | exact hx3 | exact hx4 | exact hx5) H327) 0 rfl (by decide) (by decide) (by decide) (by decide) rfl rfl [.ref a293] rfl Dx_87 ?_
  rintro _ h328 ⟨ly328, va328, sl328, ed328, sg328, wa328, sa328, la328, t328, w328, VF328, SL328, EF328, m328, n328, vals328, rfl, A328, C328, H328⟩
  change Hp n0 h328 [(a302, Ob Z CSn NSS [.ref xa304, .ref ly328, .ref va328, .ref sl328, .int (Int32.ofNat n328), .ref ed328, .int (-1), .ref sg328, .ref sh304, .ref ss304, .int 0]), (ly328, Ob Z CYn NSY [.ref wa328, .ref sa328, .ref la328, .int (Int32.ofNat (wcn t328))]), (wa328, Ia Z (lst 3 (fun i => Int32.ofNat (wdp t328 i)))), (sa328, Ia Z (lst 3 (fun i => Int32.ofNat (shp t328 w328 i)))), (la328, La Z (lst 3 (fun i => EE (2 ^ w328 i)))), (xa304, Ia Z (lst 3 (fun i => Int32.ofNat (w328 i)))), (va328, La Z (lst 16 VF328)), (sl328, Ia Z (lst 32 (fun s => Int32.ofNat (SL328 s)))), (ed328, La Z (lst (wcn t328) EF328)), (sg328, La Z []), (a293, Ia Z [(Int32.ofNat x3), (Int32.ofNat x4), (Int32.ofNat x5)]), (a288, Ia Z [(Int32.ofNat x0), (Int32.ofNat x1), (Int32.ofNat x2)]), (sh304, Ia Z (lst 16 (fun _ => 0))), (ss304, Ia Z (lst 16 (fun _ => 0))), (a300, Ia Z [0, 0, 0]), (a298, Ia Z [0, 0, 0])] at H328
  change G k n0 _ h328 _ _ 90 [.val (.int p0), .val (.int p1), .val (.int p2), .val (.int p3), .val (.int p4), .val (.int p5), .val (.ref a288), .val (.ref a293), .val (.ref a298), .val (.ref a300), .val (.ref a302), .val (.int 0), .unset, .unset, .unset] [.int (Int32.ofNat m328)]
  rcases A328 with ⟨hm, rfl, rfl, hmp⟩ | ⟨hd, rfl, rfl, rfl⟩
  · obtain rfl : m328 = 0 := by omega
    have z0 : x0 = x3 := hmp 0 (by decide)
    have z1 : x1 = x4 := hmp 1 (by decide)
    have z2 : x2 = x5 := hmp 2 (by decide)
    change Hp n0 h328 [(a302, Ob Z CSn NSS [.ref xa304, .ref ly328, .ref va328, .ref sl328, .int (Int32.ofNat 1), .ref ed328, .int (-1), .ref sg328, .ref sh304, .ref ss304, .int 0]), (ly328, Ob Z CYn NSY [.ref wa328, .ref sa328, .ref la328, .int (Int32.ofNat (wcn t328))]), (wa328, Ia Z (lst 3 (fun i => Int32.ofNat (wdp t328 i)))), (sa328, Ia Z (lst 3 (fun i => Int32.ofNat (shp t328 w328 i)))), (la328, La Z (lst 3 (fun i => EE (2 ^ w328 i)))), (xa304, Ia Z (lst 3 (fun i => Int32.ofNat (w328 i)))), (va328, La Z (lst 16 VF328)), (sl328, Ia Z (lst 32 (fun s => Int32.ofNat (SL328 s)))), (ed328, La Z (lst (wcn t328) EF328)), (sg328, La Z []), (a293, Ia Z [(Int32.ofNat x3), (Int32.ofNat x4), (Int32.ofNat x5)]), (a288, Ia Z [(Int32.ofNat x0), (Int32.ofNat x1), (Int32.ofNat x2)]), (sh304, Ia Z (lst 16 (fun _ => 0))), (ss304, Ia Z (lst 16 (fun _ => 0))), (a300, Ia Z [0, 0, 0]), (a298, Ia Z [0, 0, 0])] at H328
    change Good 3 t328 w328 1 (fun j => if j = 0 then cutv (tri x0 x1 x2) 3 else (fun _ _ => 0) j) (cutv (tri x3 x4 x5) 3) VF328 SL328 EF328 at C328
    change G k n0 _ h328 _ _ 90 [.val (.int p0), .val (.int p1), .val (.int p2), .val (.int p3), .val (.int p4), .val (.int p5), .val (.ref a288), .val (.ref a293), .val (.ref a298), .val (.ref a300), .val (.ref a302), .val (.int 0), .unset, .unset, .unset] [.int 0]
    refine G.istore K Dx_90 ([.val (.int p0), .val (.int p1), .val (.int p2), .val (.int p3), .val (.int p4), .val (.int p5), .val (.ref a288), .val (.ref a293), .val (.ref a298), .val (.ref a300), .val (.ref a302), .val (.int 0), .val (.int 0), .unset, .unset]) rfl ?_
    refine G.aload K Dx_92 rfl rfl ?_
    refine G.iload K Dx_94 rfl ?_
    refine G.aload K Dx_96 rfl rfl ?_
    have H329 : Hp n0 h328 [(a298, Ia Z [0, 0, 0]), (a302, Ob Z CSn NSS [.ref xa304, .ref ly328, .ref va328, .ref sl328, .int (Int32.ofNat 1), .ref ed328, .int (-1), .ref sg328, .ref sh304, .ref ss304, .int 0]), (ly328, Ob Z CYn NSY [.ref wa328, .ref sa328, .ref la328, .int (Int32.ofNat (wcn t328))]), (wa328, Ia Z (lst 3 (fun i => Int32.ofNat (wdp t328 i)))), (sa328, Ia Z (lst 3 (fun i => Int32.ofNat (shp t328 w328 i)))), (la328, La Z (lst 3 (fun i => EE (2 ^ w328 i)))), (xa304, Ia Z (lst 3 (fun i => Int32.ofNat (w328 i)))), (va328, La Z (lst 16 VF328)), (sl328, Ia Z (lst 32 (fun s => Int32.ofNat (SL328 s)))), (ed328, La Z (lst (wcn t328) EF328)), (sg328, La Z []), (a293, Ia Z [(Int32.ofNat x3), (Int32.ofNat x4), (Int32.ofNat x5)]), (a288, Ia Z [(Int32.ofNat x0), (Int32.ofNat x1), (Int32.ofNat x2)]), (sh304, Ia Z (lst 16 (fun _ => 0))), (ss304, Ia Z (lst 16 (fun _ => 0))), (a300, Ia Z [0, 0, 0])] := H328.pull 15 rfl
    have H330 : Hp n0 h328 [(va328, La Z (lst 16 VF328)), (a298, Ia Z [0, 0, 0]), (a302, Ob Z CSn NSS [.ref xa304, .ref ly328, .ref va328, .ref sl328, .int (Int32.ofNat 1), .ref ed328, .int (-1), .ref sg328, .ref sh304, .ref ss304, .int 0]), (ly328, Ob Z CYn NSY [.ref wa328, .ref sa328, .ref la328, .int (Int32.ofNat (wcn t328))]), (wa328, Ia Z (lst 3 (fun i => Int32.ofNat (wdp t328 i)))), (sa328, Ia Z (lst 3 (fun i => Int32.ofNat (shp t328 w328 i)))), (la328, La Z (lst 3 (fun i => EE (2 ^ w328 i)))), (xa304, Ia Z (lst 3 (fun i => Int32.ofNat (w328 i)))), (sl328, Ia Z (lst 32 (fun s => Int32.ofNat (SL328 s)))), (ed328, La Z (lst (wcn t328) EF328)), (sg328, La Z []), (a293, Ia Z [(Int32.ofNat x3), (Int32.ofNat x4), (Int32.ofNat x5)]), (a288, Ia Z [(Int32.ofNat x0), (Int32.ofNat x1), (Int32.ofNat x2)]), (sh304, Ia Z (lst 16 (fun _ => 0))), (ss304, Ia Z (lst 16 (fun _ => 0))), (a300, Ia Z [0, 0, 0])] := H329.pull 7 rfl
    have H331 : Hp n0 h328 [(la328, La Z (lst 3 (fun i => EE (2 ^ w328 i)))), (va328, La Z (lst 16 VF328)), (a298, Ia Z [0, 0, 0]), (a302, Ob Z CSn NSS [.ref xa304, .ref ly328, .ref va328, .ref sl328, .int (Int32.ofNat 1), .ref ed328, .int (-1), .ref sg328, .ref sh304, .ref ss304, .int 0]), (ly328, Ob Z CYn NSY [.ref wa328, .ref sa328, .ref la328, .int (Int32.ofNat (wcn t328))]), (wa328, Ia Z (lst 3 (fun i => Int32.ofNat (wdp t328 i)))), (sa328, Ia Z (lst 3 (fun i => Int32.ofNat (shp t328 w328 i)))), (xa304, Ia Z (lst 3 (fun i => Int32.ofNat (w328 i)))), (sl328, Ia Z (lst 32 (fun s => Int32.ofNat (SL328 s)))), (ed328, La Z (lst (wcn t328) EF328)), (sg328, La Z []), (a293, Ia Z [(Int32.ofNat x3), (Int32.ofNat x4), (Int32.ofNat x5)]), (a288, Ia Z [(Int32.ofNat x0), (Int32.ofNat x1), (Int32.ofNat x2)]), (sh304, Ia Z (lst 16 (fun _ => 0))), (ss304, Ia Z (lst 16 (fun _ => 0))), (a300, Ia Z [0, 0, 0])] := H330.pull 6 rfl
    have H332 : Hp n0 h328 [(sa328, Ia Z (lst 3 (fun i => Int32.ofNat (shp t328 w328 i)))), (la328, La Z (lst 3 (fun i => EE (2 ^ w328 i)))), (va328, La Z (lst 16 VF328)), (a298, Ia Z [0, 0, 0]), (a302, Ob Z CSn NSS [.ref xa304, .ref ly328, .ref va328, .ref sl328, .int (Int32.ofNat 1), .ref ed328, .int (-1), .ref sg328, .ref sh304, .ref ss304, .int 0]), (ly328, Ob Z CYn NSY [.ref wa328, .ref sa328, .ref la328, .int (Int32.ofNat (wcn t328))]), (wa328, Ia Z (lst 3 (fun i => Int32.ofNat (wdp t328 i)))), (xa304, Ia Z (lst 3 (fun i => Int32.ofNat (w328 i)))), (sl328, Ia Z (lst 32 (fun s => Int32.ofNat (SL328 s)))), (ed328, La Z (lst (wcn t328) EF328)), (sg328, La Z []), (a293, Ia Z [(Int32.ofNat x3), (Int32.ofNat x4), (Int32.ofNat x5)]), (a288, Ia Z [(Int32.ofNat x0), (Int32.ofNat x1), (Int32.ofNat x2)]), (sh304, Ia Z (lst 16 (fun _ => 0))), (ss304, Ia Z (lst 16 (fun _ => 0))), (a300, Ia Z [0, 0, 0])] := H331.pull 6 rfl
    have H333 : Hp n0 h328 [(wa328, Ia Z (lst 3 (fun i => Int32.ofNat (wdp t328 i)))), (sa328, Ia Z (lst 3 (fun i => Int32.ofNat (shp t328 w328 i)))), (la328, La Z (lst 3 (fun i => EE (2 ^ w328 i)))), (va328, La Z (lst 16 VF328)), (a298, Ia Z [0, 0, 0]), (a302, Ob Z CSn NSS [.ref xa304, .ref ly328, .ref va328, .ref sl328, .int (Int32.ofNat 1), .ref ed328, .int (-1), .ref sg328, .ref sh304, .ref ss304, .int 0]), (ly328, Ob Z CYn NSY [.ref wa328, .ref sa328, .ref la328, .int (Int32.ofNat (wcn t328))]), (xa304, Ia Z (lst 3 (fun i => Int32.ofNat (w328 i)))), (sl328, Ia Z (lst 32 (fun s => Int32.ofNat (SL328 s)))), (ed328, La Z (lst (wcn t328) EF328)), (sg328, La Z []), (a293, Ia Z [(Int32.ofNat x3), (Int32.ofNat x4), (Int32.ofNat x5)]), (a288, Ia Z [(Int32.ofNat x0), (Int32.ofNat x1), (Int32.ofNat x2)]), (sh304, Ia Z (lst 16 (fun _ => 0))), (ss304, Ia Z (lst 16 (fun _ => 0))), (a300, Ia Z [0, 0, 0])] := H332.pull 6 rfl
    have H334 : Hp n0 h328 [(ly328, Ob Z CYn NSY [.ref wa328, .ref sa328, .ref la328, .int (Int32.ofNat (wcn t328))]), (wa328, Ia Z (lst 3 (fun i => Int32.ofNat (wdp t328 i)))), (sa328, Ia Z (lst 3 (fun i => Int32.ofNat (shp t328 w328 i)))), (la328, La Z (lst 3 (fun i => EE (2 ^ w328 i)))), (va328, La Z (lst 16 VF328)), (a298, Ia Z [0, 0, 0]), (a302, Ob Z CSn NSS [.ref xa304, .ref ly328, .ref va328, .ref sl328, .int (Int32.ofNat 1), .ref ed328, .int (-1), .ref sg328, .ref sh304, .ref ss304, .int 0]), (xa304, Ia Z (lst 3 (fun i => Int32.ofNat (w328 i)))), (sl328, Ia Z (lst 32 (fun s => Int32.ofNat (SL328 s)))), (ed328, La Z (lst (wcn t328) EF328)), (sg328, La Z []), (a293, Ia Z [(Int32.ofNat x3), (Int32.ofNat x4), (Int32.ofNat x5)]), (a288, Ia Z [(Int32.ofNat x0), (Int32.ofNat x1), (Int32.ofNat x2)]), (sh304, Ia Z (lst 16 (fun _ => 0))), (ss304, Ia Z (lst 16 (fun _ => 0))), (a300, Ia Z [0, 0, 0])] := H333.pull 6 rfl
    have H335 : Hp n0 h328 [(a302, Ob Z CSn NSS [.ref xa304, .ref ly328, .ref va328, .ref sl328, .int (Int32.ofNat 1), .ref ed328, .int (-1), .ref sg328, .ref sh304, .ref ss304, .int 0]), (ly328, Ob Z CYn NSY [.ref wa328, .ref sa328, .ref la328, .int (Int32.ofNat (wcn t328))]), (wa328, Ia Z (lst 3 (fun i => Int32.ofNat (wdp t328 i)))), (sa328, Ia Z (lst 3 (fun i => Int32.ofNat (shp t328 w328 i)))), (la328, La Z (lst 3 (fun i => EE (2 ^ w328 i)))), (va328, La Z (lst 16 VF328)), (a298, Ia Z [0, 0, 0]), (xa304, Ia Z (lst 3 (fun i => Int32.ofNat (w328 i)))), (sl328, Ia Z (lst 32 (fun s => Int32.ofNat (SL328 s)))), (ed328, La Z (lst (wcn t328) EF328)), (sg328, La Z []), (a293, Ia Z [(Int32.ofNat x3), (Int32.ofNat x4), (Int32.ofNat x5)]), (a288, Ia Z [(Int32.ofNat x0), (Int32.ofNat x1), (Int32.ofNat x2)]), (sh304, Ia Z (lst 16 (fun _ => 0))), (ss304, Ia Z (lst 16 (fun _ => 0))), (a300, Ia Z [0, 0, 0])] := H334.pull 6 rfl
    have hca298 := wcn_le t328
    refine G.callV K hl (wd hw 137 rfl) (wd hw 138 rfl) (wd hw 140 rfl) (wd hw 139 rfl) (wd hw 4 rfl) (wd hw 141 rfl) (by decide) pd_17 (H335.exa (i := 0) rfl) (ct_get l Z a0 hw n0 h328 a302 xa304 ly328 va328 sl328 ed328 sg328 sh304 ss304 wa328 sa328 la328 a298 t328 w328 ((fun j => if j = 0 then cutv (tri x0 x1 x2) 3 else (fun _ _ => 0) j) 0) 0 VF328 (fun _ => 0) (Int32.ofNat 1) (-1) 0 [(xa304, Ia Z (lst 3 (fun i => Int32.ofNat (w328 i)))), (sl328, Ia Z (lst 32 (fun s => Int32.ofNat (SL328 s)))), (ed328, La Z (lst (wcn t328) EF328)), (sg328, La Z []), (a293, Ia Z [(Int32.ofNat x3), (Int32.ofNat x4), (Int32.ofNat x5)]), (a288, Ia Z [(Int32.ofNat x0), (Int32.ofNat x1), (Int32.ofNat x2)]), (sh304, Ia Z (lst 16 (fun _ => 0))), (ss304, Ia Z (lst 16 (fun _ => 0))), (a300, Ia Z [0, 0, 0])] (C328.okv 0 (by decide)) C328.w1 (C328.vec 0 (by decide)) (by omega) H335) 0 rfl (by decide) (by decide) (by decide) (by decide) rfl rfl [.ref a298, .int 0] rfl Dx_98 ?_
    rintro _ h336 ⟨rfl, H336⟩
    change Hp n0 h336 [(a302, Ob Z CSn NSS [.ref xa304, .ref ly328, .ref va328, .ref sl328, .int (Int32.ofNat 1), .ref ed328, .int (-1), .ref sg328, .ref sh304, .ref ss304, .int 0]), (ly328, Ob Z CYn NSY [.ref wa328, .ref sa328, .ref la328, .int (Int32.ofNat (wcn t328))]), (wa328, Ia Z (lst 3 (fun i => Int32.ofNat (wdp t328 i)))), (sa328, Ia Z (lst 3 (fun i => Int32.ofNat (shp t328 w328 i)))), (la328, La Z (lst 3 (fun i => EE (2 ^ w328 i)))), (va328, La Z (lst 16 VF328)), (a298, Ia Z [Int32.ofNat x0, Int32.ofNat x1, Int32.ofNat x2]), (xa304, Ia Z (lst 3 (fun i => Int32.ofNat (w328 i)))), (sl328, Ia Z (lst 32 (fun s => Int32.ofNat (SL328 s)))), (ed328, La Z (lst (wcn t328) EF328)), (sg328, La Z []), (a293, Ia Z [(Int32.ofNat x3), (Int32.ofNat x4), (Int32.ofNat x5)]), (a288, Ia Z [(Int32.ofNat x0), (Int32.ofNat x1), (Int32.ofNat x2)]), (sh304, Ia Z (lst 16 (fun _ => 0))), (ss304, Ia Z (lst 16 (fun _ => 0))), (a300, Ia Z [0, 0, 0])] at H336
    change G k n0 _ h336 _ _ 101 [.val (.int p0), .val (.int p1), .val (.int p2), .val (.int p3), .val (.int p4), .val (.int p5), .val (.ref a288), .val (.ref a293), .val (.ref a298), .val (.ref a300), .val (.ref a302), .val (.int 0), .val (.int 0), .unset, .unset] []
    refine G.aload K Dx_101 rfl rfl ?_
    refine G.iload K Dx_103 rfl ?_
    refine G.aload K Dx_105 rfl rfl ?_
    have H337 : Hp n0 h336 [(a300, Ia Z [0, 0, 0]), (a302, Ob Z CSn NSS [.ref xa304, .ref ly328, .ref va328, .ref sl328, .int (Int32.ofNat 1), .ref ed328, .int (-1), .ref sg328, .ref sh304, .ref ss304, .int 0]), (ly328, Ob Z CYn NSY [.ref wa328, .ref sa328, .ref la328, .int (Int32.ofNat (wcn t328))]), (wa328, Ia Z (lst 3 (fun i => Int32.ofNat (wdp t328 i)))), (sa328, Ia Z (lst 3 (fun i => Int32.ofNat (shp t328 w328 i)))), (la328, La Z (lst 3 (fun i => EE (2 ^ w328 i)))), (va328, La Z (lst 16 VF328)), (a298, Ia Z [Int32.ofNat x0, Int32.ofNat x1, Int32.ofNat x2]), (xa304, Ia Z (lst 3 (fun i => Int32.ofNat (w328 i)))), (sl328, Ia Z (lst 32 (fun s => Int32.ofNat (SL328 s)))), (ed328, La Z (lst (wcn t328) EF328)), (sg328, La Z []), (a293, Ia Z [(Int32.ofNat x3), (Int32.ofNat x4), (Int32.ofNat x5)]), (a288, Ia Z [(Int32.ofNat x0), (Int32.ofNat x1), (Int32.ofNat x2)]), (sh304, Ia Z (lst 16 (fun _ => 0))), (ss304, Ia Z (lst 16 (fun _ => 0)))] := H336.pull 15 rfl
    have H338 : Hp n0 h336 [(va328, La Z (lst 16 VF328)), (a300, Ia Z [0, 0, 0]), (a302, Ob Z CSn NSS [.ref xa304, .ref ly328, .ref va328, .ref sl328, .int (Int32.ofNat 1), .ref ed328, .int (-1), .ref sg328, .ref sh304, .ref ss304, .int 0]), (ly328, Ob Z CYn NSY [.ref wa328, .ref sa328, .ref la328, .int (Int32.ofNat (wcn t328))]), (wa328, Ia Z (lst 3 (fun i => Int32.ofNat (wdp t328 i)))), (sa328, Ia Z (lst 3 (fun i => Int32.ofNat (shp t328 w328 i)))), (la328, La Z (lst 3 (fun i => EE (2 ^ w328 i)))), (a298, Ia Z [Int32.ofNat x0, Int32.ofNat x1, Int32.ofNat x2]), (xa304, Ia Z (lst 3 (fun i => Int32.ofNat (w328 i)))), (sl328, Ia Z (lst 32 (fun s => Int32.ofNat (SL328 s)))), (ed328, La Z (lst (wcn t328) EF328)), (sg328, La Z []), (a293, Ia Z [(Int32.ofNat x3), (Int32.ofNat x4), (Int32.ofNat x5)]), (a288, Ia Z [(Int32.ofNat x0), (Int32.ofNat x1), (Int32.ofNat x2)]), (sh304, Ia Z (lst 16 (fun _ => 0))), (ss304, Ia Z (lst 16 (fun _ => 0)))] := H337.pull 6 rfl
    have H339 : Hp n0 h336 [(la328, La Z (lst 3 (fun i => EE (2 ^ w328 i)))), (va328, La Z (lst 16 VF328)), (a300, Ia Z [0, 0, 0]), (a302, Ob Z CSn NSS [.ref xa304, .ref ly328, .ref va328, .ref sl328, .int (Int32.ofNat 1), .ref ed328, .int (-1), .ref sg328, .ref sh304, .ref ss304, .int 0]), (ly328, Ob Z CYn NSY [.ref wa328, .ref sa328, .ref la328, .int (Int32.ofNat (wcn t328))]), (wa328, Ia Z (lst 3 (fun i => Int32.ofNat (wdp t328 i)))), (sa328, Ia Z (lst 3 (fun i => Int32.ofNat (shp t328 w328 i)))), (a298, Ia Z [Int32.ofNat x0, Int32.ofNat x1, Int32.ofNat x2]), (xa304, Ia Z (lst 3 (fun i => Int32.ofNat (w328 i)))), (sl328, Ia Z (lst 32 (fun s => Int32.ofNat (SL328 s)))), (ed328, La Z (lst (wcn t328) EF328)), (sg328, La Z []), (a293, Ia Z [(Int32.ofNat x3), (Int32.ofNat x4), (Int32.ofNat x5)]), (a288, Ia Z [(Int32.ofNat x0), (Int32.ofNat x1), (Int32.ofNat x2)]), (sh304, Ia Z (lst 16 (fun _ => 0))), (ss304, Ia Z (lst 16 (fun _ => 0)))] := H338.pull 6 rfl
    have H340 : Hp n0 h336 [(sa328, Ia Z (lst 3 (fun i => Int32.ofNat (shp t328 w328 i)))), (la328, La Z (lst 3 (fun i => EE (2 ^ w328 i)))), (va328, La Z (lst 16 VF328)), (a300, Ia Z [0, 0, 0]), (a302, Ob Z CSn NSS [.ref xa304, .ref ly328, .ref va328, .ref sl328, .int (Int32.ofNat 1), .ref ed328, .int (-1), .ref sg328, .ref sh304, .ref ss304, .int 0]), (ly328, Ob Z CYn NSY [.ref wa328, .ref sa328, .ref la328, .int (Int32.ofNat (wcn t328))]), (wa328, Ia Z (lst 3 (fun i => Int32.ofNat (wdp t328 i)))), (a298, Ia Z [Int32.ofNat x0, Int32.ofNat x1, Int32.ofNat x2]), (xa304, Ia Z (lst 3 (fun i => Int32.ofNat (w328 i)))), (sl328, Ia Z (lst 32 (fun s => Int32.ofNat (SL328 s)))), (ed328, La Z (lst (wcn t328) EF328)), (sg328, La Z []), (a293, Ia Z [(Int32.ofNat x3), (Int32.ofNat x4), (Int32.ofNat x5)]), (a288, Ia Z [(Int32.ofNat x0), (Int32.ofNat x1), (Int32.ofNat x2)]), (sh304, Ia Z (lst 16 (fun _ => 0))), (ss304, Ia Z (lst 16 (fun _ => 0)))] := H339.pull 6 rfl
    have H341 : Hp n0 h336 [(wa328, Ia Z (lst 3 (fun i => Int32.ofNat (wdp t328 i)))), (sa328, Ia Z (lst 3 (fun i => Int32.ofNat (shp t328 w328 i)))), (la328, La Z (lst 3 (fun i => EE (2 ^ w328 i)))), (va328, La Z (lst 16 VF328)), (a300, Ia Z [0, 0, 0]), (a302, Ob Z CSn NSS [.ref xa304, .ref ly328, .ref va328, .ref sl328, .int (Int32.ofNat 1), .ref ed328, .int (-1), .ref sg328, .ref sh304, .ref ss304, .int 0]), (ly328, Ob Z CYn NSY [.ref wa328, .ref sa328, .ref la328, .int (Int32.ofNat (wcn t328))]), (a298, Ia Z [Int32.ofNat x0, Int32.ofNat x1, Int32.ofNat x2]), (xa304, Ia Z (lst 3 (fun i => Int32.ofNat (w328 i)))), (sl328, Ia Z (lst 32 (fun s => Int32.ofNat (SL328 s)))), (ed328, La Z (lst (wcn t328) EF328)), (sg328, La Z []), (a293, Ia Z [(Int32.ofNat x3), (Int32.ofNat x4), (Int32.ofNat x5)]), (a288, Ia Z [(Int32.ofNat x0), (Int32.ofNat x1), (Int32.ofNat x2)]), (sh304, Ia Z (lst 16 (fun _ => 0))), (ss304, Ia Z (lst 16 (fun _ => 0)))] := H340.pull 6 rfl
    have H342 : Hp n0 h336 [(ly328, Ob Z CYn NSY [.ref wa328, .ref sa328, .ref la328, .int (Int32.ofNat (wcn t328))]), (wa328, Ia Z (lst 3 (fun i => Int32.ofNat (wdp t328 i)))), (sa328, Ia Z (lst 3 (fun i => Int32.ofNat (shp t328 w328 i)))), (la328, La Z (lst 3 (fun i => EE (2 ^ w328 i)))), (va328, La Z (lst 16 VF328)), (a300, Ia Z [0, 0, 0]), (a302, Ob Z CSn NSS [.ref xa304, .ref ly328, .ref va328, .ref sl328, .int (Int32.ofNat 1), .ref ed328, .int (-1), .ref sg328, .ref sh304, .ref ss304, .int 0]), (a298, Ia Z [Int32.ofNat x0, Int32.ofNat x1, Int32.ofNat x2]), (xa304, Ia Z (lst 3 (fun i => Int32.ofNat (w328 i)))), (sl328, Ia Z (lst 32 (fun s => Int32.ofNat (SL328 s)))), (ed328, La Z (lst (wcn t328) EF328)), (sg328, La Z []), (a293, Ia Z [(Int32.ofNat x3), (Int32.ofNat x4), (Int32.ofNat x5)]), (a288, Ia Z [(Int32.ofNat x0), (Int32.ofNat x1), (Int32.ofNat x2)]), (sh304, Ia Z (lst 16 (fun _ => 0))), (ss304, Ia Z (lst 16 (fun _ => 0)))] := H341.pull 6 rfl
    have H343 : Hp n0 h336 [(a302, Ob Z CSn NSS [.ref xa304, .ref ly328, .ref va328, .ref sl328, .int (Int32.ofNat 1), .ref ed328, .int (-1), .ref sg328, .ref sh304, .ref ss304, .int 0]), (ly328, Ob Z CYn NSY [.ref wa328, .ref sa328, .ref la328, .int (Int32.ofNat (wcn t328))]), (wa328, Ia Z (lst 3 (fun i => Int32.ofNat (wdp t328 i)))), (sa328, Ia Z (lst 3 (fun i => Int32.ofNat (shp t328 w328 i)))), (la328, La Z (lst 3 (fun i => EE (2 ^ w328 i)))), (va328, La Z (lst 16 VF328)), (a300, Ia Z [0, 0, 0]), (a298, Ia Z [Int32.ofNat x0, Int32.ofNat x1, Int32.ofNat x2]), (xa304, Ia Z (lst 3 (fun i => Int32.ofNat (w328 i)))), (sl328, Ia Z (lst 32 (fun s => Int32.ofNat (SL328 s)))), (ed328, La Z (lst (wcn t328) EF328)), (sg328, La Z []), (a293, Ia Z [(Int32.ofNat x3), (Int32.ofNat x4), (Int32.ofNat x5)]), (a288, Ia Z [(Int32.ofNat x0), (Int32.ofNat x1), (Int32.ofNat x2)]), (sh304, Ia Z (lst 16 (fun _ => 0))), (ss304, Ia Z (lst 16 (fun _ => 0)))] := H342.pull 6 rfl
    have hca300 := wcn_le t328
    refine G.callV K hl (wd hw 137 rfl) (wd hw 138 rfl) (wd hw 140 rfl) (wd hw 139 rfl) (wd hw 4 rfl) (wd hw 141 rfl) (by decide) pd_17 (H343.exa (i := 0) rfl) (ct_get l Z a0 hw n0 h336 a302 xa304 ly328 va328 sl328 ed328 sg328 sh304 ss304 wa328 sa328 la328 a300 t328 w328 ((fun j => if j = 0 then cutv (tri x0 x1 x2) 3 else (fun _ _ => 0) j) 0) 0 VF328 (fun _ => 0) (Int32.ofNat 1) (-1) 0 [(a298, Ia Z [Int32.ofNat x0, Int32.ofNat x1, Int32.ofNat x2]), (xa304, Ia Z (lst 3 (fun i => Int32.ofNat (w328 i)))), (sl328, Ia Z (lst 32 (fun s => Int32.ofNat (SL328 s)))), (ed328, La Z (lst (wcn t328) EF328)), (sg328, La Z []), (a293, Ia Z [(Int32.ofNat x3), (Int32.ofNat x4), (Int32.ofNat x5)]), (a288, Ia Z [(Int32.ofNat x0), (Int32.ofNat x1), (Int32.ofNat x2)]), (sh304, Ia Z (lst 16 (fun _ => 0))), (ss304, Ia Z (lst 16 (fun _ => 0)))] (C328.okv 0 (by decide)) C328.w1 (C328.vec 0 (by decide)) (by omega) H343) 0 rfl (by decide) (by decide) (by decide) (by decide) rfl rfl [.ref a300, .int 0] rfl Dx_107 ?_
    rintro _ h344 ⟨rfl, H344⟩
    change Hp n0 h344 [(a302, Ob Z CSn NSS [.ref xa304, .ref ly328, .ref va328, .ref sl328, .int (Int32.ofNat 1), .ref ed328, .int (-1), .ref sg328, .ref sh304, .ref ss304, .int 0]), (ly328, Ob Z CYn NSY [.ref wa328, .ref sa328, .ref la328, .int (Int32.ofNat (wcn t328))]), (wa328, Ia Z (lst 3 (fun i => Int32.ofNat (wdp t328 i)))), (sa328, Ia Z (lst 3 (fun i => Int32.ofNat (shp t328 w328 i)))), (la328, La Z (lst 3 (fun i => EE (2 ^ w328 i)))), (va328, La Z (lst 16 VF328)), (a300, Ia Z [Int32.ofNat x0, Int32.ofNat x1, Int32.ofNat x2]), (a298, Ia Z [Int32.ofNat x0, Int32.ofNat x1, Int32.ofNat x2]), (xa304, Ia Z (lst 3 (fun i => Int32.ofNat (w328 i)))), (sl328, Ia Z (lst 32 (fun s => Int32.ofNat (SL328 s)))), (ed328, La Z (lst (wcn t328) EF328)), (sg328, La Z []), (a293, Ia Z [(Int32.ofNat x3), (Int32.ofNat x4), (Int32.ofNat x5)]), (a288, Ia Z [(Int32.ofNat x0), (Int32.ofNat x1), (Int32.ofNat x2)]), (sh304, Ia Z (lst 16 (fun _ => 0))), (ss304, Ia Z (lst 16 (fun _ => 0)))] at H344
    change G k n0 _ h344 _ _ 110 [.val (.int p0), .val (.int p1), .val (.int p2), .val (.int p3), .val (.int p4), .val (.int p5), .val (.ref a288), .val (.ref a293), .val (.ref a298), .val (.ref a300), .val (.ref a302), .val (.int 0), .val (.int 0), .unset, .unset] []
    refine G.aload K Dx_110 rfl rfl ?_
    refine G.aload K Dx_112 rfl rfl ?_
    have H345 : Hp n0 h344 [(a293, Ia Z [(Int32.ofNat x3), (Int32.ofNat x4), (Int32.ofNat x5)]), (a302, Ob Z CSn NSS [.ref xa304, .ref ly328, .ref va328, .ref sl328, .int (Int32.ofNat 1), .ref ed328, .int (-1), .ref sg328, .ref sh304, .ref ss304, .int 0]), (ly328, Ob Z CYn NSY [.ref wa328, .ref sa328, .ref la328, .int (Int32.ofNat (wcn t328))]), (wa328, Ia Z (lst 3 (fun i => Int32.ofNat (wdp t328 i)))), (sa328, Ia Z (lst 3 (fun i => Int32.ofNat (shp t328 w328 i)))), (la328, La Z (lst 3 (fun i => EE (2 ^ w328 i)))), (va328, La Z (lst 16 VF328)), (a300, Ia Z [Int32.ofNat x0, Int32.ofNat x1, Int32.ofNat x2]), (a298, Ia Z [Int32.ofNat x0, Int32.ofNat x1, Int32.ofNat x2]), (xa304, Ia Z (lst 3 (fun i => Int32.ofNat (w328 i)))), (sl328, Ia Z (lst 32 (fun s => Int32.ofNat (SL328 s)))), (ed328, La Z (lst (wcn t328) EF328)), (sg328, La Z []), (a288, Ia Z [(Int32.ofNat x0), (Int32.ofNat x1), (Int32.ofNat x2)]), (sh304, Ia Z (lst 16 (fun _ => 0))), (ss304, Ia Z (lst 16 (fun _ => 0)))] := H344.pull 12 rfl
    have H346 : Hp n0 h344 [(a288, Ia Z [(Int32.ofNat x0), (Int32.ofNat x1), (Int32.ofNat x2)]), (a293, Ia Z [(Int32.ofNat x3), (Int32.ofNat x4), (Int32.ofNat x5)]), (a302, Ob Z CSn NSS [.ref xa304, .ref ly328, .ref va328, .ref sl328, .int (Int32.ofNat 1), .ref ed328, .int (-1), .ref sg328, .ref sh304, .ref ss304, .int 0]), (ly328, Ob Z CYn NSY [.ref wa328, .ref sa328, .ref la328, .int (Int32.ofNat (wcn t328))]), (wa328, Ia Z (lst 3 (fun i => Int32.ofNat (wdp t328 i)))), (sa328, Ia Z (lst 3 (fun i => Int32.ofNat (shp t328 w328 i)))), (la328, La Z (lst 3 (fun i => EE (2 ^ w328 i)))), (va328, La Z (lst 16 VF328)), (a300, Ia Z [Int32.ofNat x0, Int32.ofNat x1, Int32.ofNat x2]), (a298, Ia Z [Int32.ofNat x0, Int32.ofNat x1, Int32.ofNat x2]), (xa304, Ia Z (lst 3 (fun i => Int32.ofNat (w328 i)))), (sl328, Ia Z (lst 32 (fun s => Int32.ofNat (SL328 s)))), (ed328, La Z (lst (wcn t328) EF328)), (sg328, La Z []), (sh304, Ia Z (lst 16 (fun _ => 0))), (ss304, Ia Z (lst 16 (fun _ => 0)))] := H345.pull 13 rfl
    refine G.callS K hl (wd hw 142 rfl) (wd hw 143 rfl) (wd hw 144 rfl) (wd hw 145 rfl) (by decide) pd_18 (ct_eq l Z a0 hw n0 h344 a288 a293 (Int32.ofNat x0) (Int32.ofNat x1) (Int32.ofNat x2) (Int32.ofNat x3) (Int32.ofNat x4) (Int32.ofNat x5) [(a302, Ob Z CSn NSS [.ref xa304, .ref ly328, .ref va328, .ref sl328, .int (Int32.ofNat 1), .ref ed328, .int (-1), .ref sg328, .ref sh304, .ref ss304, .int 0]), (ly328, Ob Z CYn NSY [.ref wa328, .ref sa328, .ref la328, .int (Int32.ofNat (wcn t328))]), (wa328, Ia Z (lst 3 (fun i => Int32.ofNat (wdp t328 i)))), (sa328, Ia Z (lst 3 (fun i => Int32.ofNat (shp t328 w328 i)))), (la328, La Z (lst 3 (fun i => EE (2 ^ w328 i)))), (va328, La Z (lst 16 VF328)), (a300, Ia Z [Int32.ofNat x0, Int32.ofNat x1, Int32.ofNat x2]), (a298, Ia Z [Int32.ofNat x0, Int32.ofNat x1, Int32.ofNat x2]), (xa304, Ia Z (lst 3 (fun i => Int32.ofNat (w328 i)))), (sl328, Ia Z (lst 32 (fun s => Int32.ofNat (SL328 s)))), (ed328, La Z (lst (wcn t328) EF328)), (sg328, La Z []), (sh304, Ia Z (lst 16 (fun _ => 0))), (ss304, Ia Z (lst 16 (fun _ => 0)))] H346) 0 rfl (by decide) (by decide) (by decide) (by decide) rfl rfl [.ref a293, .ref a288] rfl Dx_114 ?_
    rintro _ _ ⟨rfl, rfl⟩
    rw [if_pos (⟨congrArg _ z0, congrArg _ z1, congrArg _ z2⟩)]
    change G k n0 _ h344 _ _ 117 [.val (.int p0), .val (.int p1), .val (.int p2), .val (.int p3), .val (.int p4), .val (.int p5), .val (.ref a288), .val (.ref a293), .val (.ref a298), .val (.ref a300), .val (.ref a302), .val (.int 0), .val (.int 0), .unset, .unset] [.int 1]
    refine G.istore K Dx_117 ([.val (.int p0), .val (.int p1), .val (.int p2), .val (.int p3), .val (.int p4), .val (.int p5), .val (.ref a288), .val (.ref a293), .val (.ref a298), .val (.ref a300), .val (.ref a302), .val (.int 0), .val (.int 0), .val (.int 1), .unset]) rfl ?_
    refine G.iload K Dx_119 rfl ?_
    refine G.if_eq K Dx_121 (fun q => absurd q (by decide)) (fun _ => ?_)
    refine G.iconst K Dx_124 0 rfl ?_
    refine G.goto K Dx_125 ?_
    refine G.istore K Dx_129 ([.val (.int p0), .val (.int p1), .val (.int p2), .val (.int p3), .val (.int p4), .val (.int p5), .val (.ref a288), .val (.ref a293), .val (.ref a298), .val (.ref a300), .val (.ref a302), .val (.int 0), .val (.int 0), .val (.int 1), .val (.int 0)]) rfl ?_
    refine G.iload K Dx_131 rfl ?_
    refine G.if_ne K Dx_133 (fun q => absurd q (by decide)) (fun _ => ?_)
    refine G.iload K Dx_136 rfl ?_
    refine G.iload K Dx_138 rfl ?_
    refine G.icmp_ne K Dx_140 (fun q => absurd q (by decide)) (fun _ => ?_)
    refine G.aload K Dx_143 rfl rfl ?_
    refine G.aload K Dx_145 rfl rfl ?_
    have H350 : Hp n0 h344 [(a298, Ia Z [Int32.ofNat x0, Int32.ofNat x1, Int32.ofNat x2]), (a288, Ia Z [(Int32.ofNat x0), (Int32.ofNat x1), (Int32.ofNat x2)]), (a293, Ia Z [(Int32.ofNat x3), (Int32.ofNat x4), (Int32.ofNat x5)]), (a302, Ob Z CSn NSS [.ref xa304, .ref ly328, .ref va328, .ref sl328, .int (Int32.ofNat 1), .ref ed328, .int (-1), .ref sg328, .ref sh304, .ref ss304, .int 0]), (ly328, Ob Z CYn NSY [.ref wa328, .ref sa328, .ref la328, .int (Int32.ofNat (wcn t328))]), (wa328, Ia Z (lst 3 (fun i => Int32.ofNat (wdp t328 i)))), (sa328, Ia Z (lst 3 (fun i => Int32.ofNat (shp t328 w328 i)))), (la328, La Z (lst 3 (fun i => EE (2 ^ w328 i)))), (va328, La Z (lst 16 VF328)), (a300, Ia Z [Int32.ofNat x0, Int32.ofNat x1, Int32.ofNat x2]), (xa304, Ia Z (lst 3 (fun i => Int32.ofNat (w328 i)))), (sl328, Ia Z (lst 32 (fun s => Int32.ofNat (SL328 s)))), (ed328, La Z (lst (wcn t328) EF328)), (sg328, La Z []), (sh304, Ia Z (lst 16 (fun _ => 0))), (ss304, Ia Z (lst 16 (fun _ => 0)))] := H346.pull 9 rfl
    refine G.callS K hl (wd hw 142 rfl) (wd hw 143 rfl) (wd hw 144 rfl) (wd hw 145 rfl) (by decide) pd_18 (ct_eq l Z a0 hw n0 h344 a298 a288 (Int32.ofNat x0) (Int32.ofNat x1) (Int32.ofNat x2) (Int32.ofNat x0) (Int32.ofNat x1) (Int32.ofNat x2) [(a293, Ia Z [(Int32.ofNat x3), (Int32.ofNat x4), (Int32.ofNat x5)]), (a302, Ob Z CSn NSS [.ref xa304, .ref ly328, .ref va328, .ref sl328, .int (Int32.ofNat 1), .ref ed328, .int (-1), .ref sg328, .ref sh304, .ref ss304, .int 0]), (ly328, Ob Z CYn NSY [.ref wa328, .ref sa328, .ref la328, .int (Int32.ofNat (wcn t328))]), (wa328, Ia Z (lst 3 (fun i => Int32.ofNat (wdp t328 i)))), (sa328, Ia Z (lst 3 (fun i => Int32.ofNat (shp t328 w328 i)))), (la328, La Z (lst 3 (fun i => EE (2 ^ w328 i)))), (va328, La Z (lst 16 VF328)), (a300, Ia Z [Int32.ofNat x0, Int32.ofNat x1, Int32.ofNat x2]), (xa304, Ia Z (lst 3 (fun i => Int32.ofNat (w328 i)))), (sl328, Ia Z (lst 32 (fun s => Int32.ofNat (SL328 s)))), (ed328, La Z (lst (wcn t328) EF328)), (sg328, La Z []), (sh304, Ia Z (lst 16 (fun _ => 0))), (ss304, Ia Z (lst 16 (fun _ => 0)))] H350) 0 rfl (by decide) (by decide) (by decide) (by decide) rfl rfl [.ref a288, .ref a298] rfl Dx_147 ?_
    rintro _ _ ⟨rfl, rfl⟩
    rw [if_pos (⟨rfl, rfl, rfl⟩)]
    change G k n0 _ h344 _ _ 150 [.val (.int p0), .val (.int p1), .val (.int p2), .val (.int p3), .val (.int p4), .val (.int p5), .val (.ref a288), .val (.ref a293), .val (.ref a298), .val (.ref a300), .val (.ref a302), .val (.int 0), .val (.int 0), .val (.int 1), .val (.int 0)] [.int 1]
    refine G.if_eq K Dx_150 (fun q => absurd q (by decide)) (fun _ => ?_)
    refine G.aload K Dx_153 rfl rfl ?_
    refine G.aload K Dx_155 rfl rfl ?_
    have H352 : Hp n0 h344 [(a293, Ia Z [(Int32.ofNat x3), (Int32.ofNat x4), (Int32.ofNat x5)]), (a298, Ia Z [Int32.ofNat x0, Int32.ofNat x1, Int32.ofNat x2]), (a288, Ia Z [(Int32.ofNat x0), (Int32.ofNat x1), (Int32.ofNat x2)]), (a302, Ob Z CSn NSS [.ref xa304, .ref ly328, .ref va328, .ref sl328, .int (Int32.ofNat 1), .ref ed328, .int (-1), .ref sg328, .ref sh304, .ref ss304, .int 0]), (ly328, Ob Z CYn NSY [.ref wa328, .ref sa328, .ref la328, .int (Int32.ofNat (wcn t328))]), (wa328, Ia Z (lst 3 (fun i => Int32.ofNat (wdp t328 i)))), (sa328, Ia Z (lst 3 (fun i => Int32.ofNat (shp t328 w328 i)))), (la328, La Z (lst 3 (fun i => EE (2 ^ w328 i)))), (va328, La Z (lst 16 VF328)), (a300, Ia Z [Int32.ofNat x0, Int32.ofNat x1, Int32.ofNat x2]), (xa304, Ia Z (lst 3 (fun i => Int32.ofNat (w328 i)))), (sl328, Ia Z (lst 32 (fun s => Int32.ofNat (SL328 s)))), (ed328, La Z (lst (wcn t328) EF328)), (sg328, La Z []), (sh304, Ia Z (lst 16 (fun _ => 0))), (ss304, Ia Z (lst 16 (fun _ => 0)))] := H350.pull 2 rfl
    have H353 : Hp n0 h344 [(a300, Ia Z [Int32.ofNat x0, Int32.ofNat x1, Int32.ofNat x2]), (a293, Ia Z [(Int32.ofNat x3), (Int32.ofNat x4), (Int32.ofNat x5)]), (a298, Ia Z [Int32.ofNat x0, Int32.ofNat x1, Int32.ofNat x2]), (a288, Ia Z [(Int32.ofNat x0), (Int32.ofNat x1), (Int32.ofNat x2)]), (a302, Ob Z CSn NSS [.ref xa304, .ref ly328, .ref va328, .ref sl328, .int (Int32.ofNat 1), .ref ed328, .int (-1), .ref sg328, .ref sh304, .ref ss304, .int 0]), (ly328, Ob Z CYn NSY [.ref wa328, .ref sa328, .ref la328, .int (Int32.ofNat (wcn t328))]), (wa328, Ia Z (lst 3 (fun i => Int32.ofNat (wdp t328 i)))), (sa328, Ia Z (lst 3 (fun i => Int32.ofNat (shp t328 w328 i)))), (la328, La Z (lst 3 (fun i => EE (2 ^ w328 i)))), (va328, La Z (lst 16 VF328)), (xa304, Ia Z (lst 3 (fun i => Int32.ofNat (w328 i)))), (sl328, Ia Z (lst 32 (fun s => Int32.ofNat (SL328 s)))), (ed328, La Z (lst (wcn t328) EF328)), (sg328, La Z []), (sh304, Ia Z (lst 16 (fun _ => 0))), (ss304, Ia Z (lst 16 (fun _ => 0)))] := H352.pull 9 rfl
    refine G.callS K hl (wd hw 142 rfl) (wd hw 143 rfl) (wd hw 144 rfl) (wd hw 145 rfl) (by decide) pd_18 (ct_eq l Z a0 hw n0 h344 a300 a293 (Int32.ofNat x0) (Int32.ofNat x1) (Int32.ofNat x2) (Int32.ofNat x3) (Int32.ofNat x4) (Int32.ofNat x5) [(a298, Ia Z [Int32.ofNat x0, Int32.ofNat x1, Int32.ofNat x2]), (a288, Ia Z [(Int32.ofNat x0), (Int32.ofNat x1), (Int32.ofNat x2)]), (a302, Ob Z CSn NSS [.ref xa304, .ref ly328, .ref va328, .ref sl328, .int (Int32.ofNat 1), .ref ed328, .int (-1), .ref sg328, .ref sh304, .ref ss304, .int 0]), (ly328, Ob Z CYn NSY [.ref wa328, .ref sa328, .ref la328, .int (Int32.ofNat (wcn t328))]), (wa328, Ia Z (lst 3 (fun i => Int32.ofNat (wdp t328 i)))), (sa328, Ia Z (lst 3 (fun i => Int32.ofNat (shp t328 w328 i)))), (la328, La Z (lst 3 (fun i => EE (2 ^ w328 i)))), (va328, La Z (lst 16 VF328)), (xa304, Ia Z (lst 3 (fun i => Int32.ofNat (w328 i)))), (sl328, Ia Z (lst 32 (fun s => Int32.ofNat (SL328 s)))), (ed328, La Z (lst (wcn t328) EF328)), (sg328, La Z []), (sh304, Ia Z (lst 16 (fun _ => 0))), (ss304, Ia Z (lst 16 (fun _ => 0)))] H353) 0 rfl (by decide) (by decide) (by decide) (by decide) rfl rfl [.ref a293, .ref a300] rfl Dx_157 ?_
    rintro _ _ ⟨rfl, rfl⟩
    rw [if_pos (⟨congrArg _ z0, congrArg _ z1, congrArg _ z2⟩)]
    change G k n0 _ h344 _ _ 160 [.val (.int p0), .val (.int p1), .val (.int p2), .val (.int p3), .val (.int p4), .val (.int p5), .val (.ref a288), .val (.ref a293), .val (.ref a298), .val (.ref a300), .val (.ref a302), .val (.int 0), .val (.int 0), .val (.int 1), .val (.int 0)] [.int 1]
    refine G.if_eq K Dx_160 (fun q => absurd q (by decide)) (fun _ => ?_)
    refine G.iconst K Dx_163 1 rfl ?_
    refine G.goto K Dx_164 ?_
    refine G.ret_bool K Dx_168 ?_
    exact rfl
  · have hne : ¬ (x0 = x3 ∧ x1 = x4 ∧ x2 = x5) := fun z => hd 0 (by decide) (fun p hp => by
      rcases (by omega : p = 0 ∨ p = 1 ∨ p = 2) with rfl | rfl | rfl
      · exact z.1
      · exact z.2.1
      · exact z.2.2)
    change Hp n0 h328 [(a302, Ob Z CSn NSS [.ref xa304, .ref ly328, .ref va328, .ref sl328, .int (Int32.ofNat 2), .ref ed328, .int (-1), .ref sg328, .ref sh304, .ref ss304, .int 0]), (ly328, Ob Z CYn NSY [.ref wa328, .ref sa328, .ref la328, .int (Int32.ofNat (wcn t328))]), (wa328, Ia Z (lst 3 (fun i => Int32.ofNat (wdp t328 i)))), (sa328, Ia Z (lst 3 (fun i => Int32.ofNat (shp t328 w328 i)))), (la328, La Z (lst 3 (fun i => EE (2 ^ w328 i)))), (xa304, Ia Z (lst 3 (fun i => Int32.ofNat (w328 i)))), (va328, La Z (lst 16 VF328)), (sl328, Ia Z (lst 32 (fun s => Int32.ofNat (SL328 s)))), (ed328, La Z (lst (wcn t328) EF328)), (sg328, La Z []), (a293, Ia Z [(Int32.ofNat x3), (Int32.ofNat x4), (Int32.ofNat x5)]), (a288, Ia Z [(Int32.ofNat x0), (Int32.ofNat x1), (Int32.ofNat x2)]), (sh304, Ia Z (lst 16 (fun _ => 0))), (ss304, Ia Z (lst 16 (fun _ => 0))), (a300, Ia Z [0, 0, 0]), (a298, Ia Z [0, 0, 0])] at H328
    change Good 3 t328 w328 2 (fun j => if j = 1 then cutv (tri x3 x4 x5) 3 else (fun j => if j = 0 then cutv (tri x0 x1 x2) 3 else (fun _ _ => 0) j) j) (cutv (tri x3 x4 x5) 3) VF328 SL328 EF328 at C328
    change G k n0 _ h328 _ _ 90 [.val (.int p0), .val (.int p1), .val (.int p2), .val (.int p3), .val (.int p4), .val (.int p5), .val (.ref a288), .val (.ref a293), .val (.ref a298), .val (.ref a300), .val (.ref a302), .val (.int 0), .unset, .unset, .unset] [.int 1]
    refine G.istore K Dx_90 ([.val (.int p0), .val (.int p1), .val (.int p2), .val (.int p3), .val (.int p4), .val (.int p5), .val (.ref a288), .val (.ref a293), .val (.ref a298), .val (.ref a300), .val (.ref a302), .val (.int 0), .val (.int 1), .unset, .unset]) rfl ?_
    refine G.aload K Dx_92 rfl rfl ?_
    refine G.iload K Dx_94 rfl ?_
    refine G.aload K Dx_96 rfl rfl ?_
    have H355 : Hp n0 h328 [(a298, Ia Z [0, 0, 0]), (a302, Ob Z CSn NSS [.ref xa304, .ref ly328, .ref va328, .ref sl328, .int (Int32.ofNat 2), .ref ed328, .int (-1), .ref sg328, .ref sh304, .ref ss304, .int 0]), (ly328, Ob Z CYn NSY [.ref wa328, .ref sa328, .ref la328, .int (Int32.ofNat (wcn t328))]), (wa328, Ia Z (lst 3 (fun i => Int32.ofNat (wdp t328 i)))), (sa328, Ia Z (lst 3 (fun i => Int32.ofNat (shp t328 w328 i)))), (la328, La Z (lst 3 (fun i => EE (2 ^ w328 i)))), (xa304, Ia Z (lst 3 (fun i => Int32.ofNat (w328 i)))), (va328, La Z (lst 16 VF328)), (sl328, Ia Z (lst 32 (fun s => Int32.ofNat (SL328 s)))), (ed328, La Z (lst (wcn t328) EF328)), (sg328, La Z []), (a293, Ia Z [(Int32.ofNat x3), (Int32.ofNat x4), (Int32.ofNat x5)]), (a288, Ia Z [(Int32.ofNat x0), (Int32.ofNat x1), (Int32.ofNat x2)]), (sh304, Ia Z (lst 16 (fun _ => 0))), (ss304, Ia Z (lst 16 (fun _ => 0))), (a300, Ia Z [0, 0, 0])] := H328.pull 15 rfl
    have H356 : Hp n0 h328 [(va328, La Z (lst 16 VF328)), (a298, Ia Z [0, 0, 0]), (a302, Ob Z CSn NSS [.ref xa304, .ref ly328, .ref va328, .ref sl328, .int (Int32.ofNat 2), .ref ed328, .int (-1), .ref sg328, .ref sh304, .ref ss304, .int 0]), (ly328, Ob Z CYn NSY [.ref wa328, .ref sa328, .ref la328, .int (Int32.ofNat (wcn t328))]), (wa328, Ia Z (lst 3 (fun i => Int32.ofNat (wdp t328 i)))), (sa328, Ia Z (lst 3 (fun i => Int32.ofNat (shp t328 w328 i)))), (la328, La Z (lst 3 (fun i => EE (2 ^ w328 i)))), (xa304, Ia Z (lst 3 (fun i => Int32.ofNat (w328 i)))), (sl328, Ia Z (lst 32 (fun s => Int32.ofNat (SL328 s)))), (ed328, La Z (lst (wcn t328) EF328)), (sg328, La Z []), (a293, Ia Z [(Int32.ofNat x3), (Int32.ofNat x4), (Int32.ofNat x5)]), (a288, Ia Z [(Int32.ofNat x0), (Int32.ofNat x1), (Int32.ofNat x2)]), (sh304, Ia Z (lst 16 (fun _ => 0))), (ss304, Ia Z (lst 16 (fun _ => 0))), (a300, Ia Z [0, 0, 0])] := H355.pull 7 rfl
    have H357 : Hp n0 h328 [(la328, La Z (lst 3 (fun i => EE (2 ^ w328 i)))), (va328, La Z (lst 16 VF328)), (a298, Ia Z [0, 0, 0]), (a302, Ob Z CSn NSS [.ref xa304, .ref ly328, .ref va328, .ref sl328, .int (Int32.ofNat 2), .ref ed328, .int (-1), .ref sg328, .ref sh304, .ref ss304, .int 0]), (ly328, Ob Z CYn NSY [.ref wa328, .ref sa328, .ref la328, .int (Int32.ofNat (wcn t328))]), (wa328, Ia Z (lst 3 (fun i => Int32.ofNat (wdp t328 i)))), (sa328, Ia Z (lst 3 (fun i => Int32.ofNat (shp t328 w328 i)))), (xa304, Ia Z (lst 3 (fun i => Int32.ofNat (w328 i)))), (sl328, Ia Z (lst 32 (fun s => Int32.ofNat (SL328 s)))), (ed328, La Z (lst (wcn t328) EF328)), (sg328, La Z []), (a293, Ia Z [(Int32.ofNat x3), (Int32.ofNat x4), (Int32.ofNat x5)]), (a288, Ia Z [(Int32.ofNat x0), (Int32.ofNat x1), (Int32.ofNat x2)]), (sh304, Ia Z (lst 16 (fun _ => 0))), (ss304, Ia Z (lst 16 (fun _ => 0))), (a300, Ia Z [0, 0, 0])] := H356.pull 6 rfl
    have H358 : Hp n0 h328 [(sa328, Ia Z (lst 3 (fun i => Int32.ofNat (shp t328 w328 i)))), (la328, La Z (lst 3 (fun i => EE (2 ^ w328 i)))), (va328, La Z (lst 16 VF328)), (a298, Ia Z [0, 0, 0]), (a302, Ob Z CSn NSS [.ref xa304, .ref ly328, .ref va328, .ref sl328, .int (Int32.ofNat 2), .ref ed328, .int (-1), .ref sg328, .ref sh304, .ref ss304, .int 0]), (ly328, Ob Z CYn NSY [.ref wa328, .ref sa328, .ref la328, .int (Int32.ofNat (wcn t328))]), (wa328, Ia Z (lst 3 (fun i => Int32.ofNat (wdp t328 i)))), (xa304, Ia Z (lst 3 (fun i => Int32.ofNat (w328 i)))), (sl328, Ia Z (lst 32 (fun s => Int32.ofNat (SL328 s)))), (ed328, La Z (lst (wcn t328) EF328)), (sg328, La Z []), (a293, Ia Z [(Int32.ofNat x3), (Int32.ofNat x4), (Int32.ofNat x5)]), (a288, Ia Z [(Int32.ofNat x0), (Int32.ofNat x1), (Int32.ofNat x2)]), (sh304, Ia Z (lst 16 (fun _ => 0))), (ss304, Ia Z (lst 16 (fun _ => 0))), (a300, Ia Z [0, 0, 0])] := H357.pull 6 rfl
    have H359 : Hp n0 h328 [(wa328, Ia Z (lst 3 (fun i => Int32.ofNat (wdp t328 i)))), (sa328, Ia Z (lst 3 (fun i => Int32.ofNat (shp t328 w328 i)))), (la328, La Z (lst 3 (fun i => EE (2 ^ w328 i)))), (va328, La Z (lst 16 VF328)), (a298, Ia Z [0, 0, 0]), (a302, Ob Z CSn NSS [.ref xa304, .ref ly328, .ref va328, .ref sl328, .int (Int32.ofNat 2), .ref ed328, .int (-1), .ref sg328, .ref sh304, .ref ss304, .int 0]), (ly328, Ob Z CYn NSY [.ref wa328, .ref sa328, .ref la328, .int (Int32.ofNat (wcn t328))]), (xa304, Ia Z (lst 3 (fun i => Int32.ofNat (w328 i)))), (sl328, Ia Z (lst 32 (fun s => Int32.ofNat (SL328 s)))), (ed328, La Z (lst (wcn t328) EF328)), (sg328, La Z []), (a293, Ia Z [(Int32.ofNat x3), (Int32.ofNat x4), (Int32.ofNat x5)]), (a288, Ia Z [(Int32.ofNat x0), (Int32.ofNat x1), (Int32.ofNat x2)]), (sh304, Ia Z (lst 16 (fun _ => 0))), (ss304, Ia Z (lst 16 (fun _ => 0))), (a300, Ia Z [0, 0, 0])] := H358.pull 6 rfl
    have H360 : Hp n0 h328 [(ly328, Ob Z CYn NSY [.ref wa328, .ref sa328, .ref la328, .int (Int32.ofNat (wcn t328))]), (wa328, Ia Z (lst 3 (fun i => Int32.ofNat (wdp t328 i)))), (sa328, Ia Z (lst 3 (fun i => Int32.ofNat (shp t328 w328 i)))), (la328, La Z (lst 3 (fun i => EE (2 ^ w328 i)))), (va328, La Z (lst 16 VF328)), (a298, Ia Z [0, 0, 0]), (a302, Ob Z CSn NSS [.ref xa304, .ref ly328, .ref va328, .ref sl328, .int (Int32.ofNat 2), .ref ed328, .int (-1), .ref sg328, .ref sh304, .ref ss304, .int 0]), (xa304, Ia Z (lst 3 (fun i => Int32.ofNat (w328 i)))), (sl328, Ia Z (lst 32 (fun s => Int32.ofNat (SL328 s)))), (ed328, La Z (lst (wcn t328) EF328)), (sg328, La Z []), (a293, Ia Z [(Int32.ofNat x3), (Int32.ofNat x4), (Int32.ofNat x5)]), (a288, Ia Z [(Int32.ofNat x0), (Int32.ofNat x1), (Int32.ofNat x2)]), (sh304, Ia Z (lst 16 (fun _ => 0))), (ss304, Ia Z (lst 16 (fun _ => 0))), (a300, Ia Z [0, 0, 0])] := H359.pull 6 rfl
    have H361 : Hp n0 h328 [(a302, Ob Z CSn NSS [.ref xa304, .ref ly328, .ref va328, .ref sl328, .int (Int32.ofNat 2), .ref ed328, .int (-1), .ref sg328, .ref sh304, .ref ss304, .int 0]), (ly328, Ob Z CYn NSY [.ref wa328, .ref sa328, .ref la328, .int (Int32.ofNat (wcn t328))]), (wa328, Ia Z (lst 3 (fun i => Int32.ofNat (wdp t328 i)))), (sa328, Ia Z (lst 3 (fun i => Int32.ofNat (shp t328 w328 i)))), (la328, La Z (lst 3 (fun i => EE (2 ^ w328 i)))), (va328, La Z (lst 16 VF328)), (a298, Ia Z [0, 0, 0]), (xa304, Ia Z (lst 3 (fun i => Int32.ofNat (w328 i)))), (sl328, Ia Z (lst 32 (fun s => Int32.ofNat (SL328 s)))), (ed328, La Z (lst (wcn t328) EF328)), (sg328, La Z []), (a293, Ia Z [(Int32.ofNat x3), (Int32.ofNat x4), (Int32.ofNat x5)]), (a288, Ia Z [(Int32.ofNat x0), (Int32.ofNat x1), (Int32.ofNat x2)]), (sh304, Ia Z (lst 16 (fun _ => 0))), (ss304, Ia Z (lst 16 (fun _ => 0))), (a300, Ia Z [0, 0, 0])] := H360.pull 6 rfl
    have hca298 := wcn_le t328
    refine G.callV K hl (wd hw 137 rfl) (wd hw 138 rfl) (wd hw 140 rfl) (wd hw 139 rfl) (wd hw 4 rfl) (wd hw 141 rfl) (by decide) pd_17 (H361.exa (i := 0) rfl) (ct_get l Z a0 hw n0 h328 a302 xa304 ly328 va328 sl328 ed328 sg328 sh304 ss304 wa328 sa328 la328 a298 t328 w328 ((fun j => if j = 1 then cutv (tri x3 x4 x5) 3 else (fun j => if j = 0 then cutv (tri x0 x1 x2) 3 else (fun _ _ => 0) j) j) 0) 0 VF328 (fun _ => 0) (Int32.ofNat 2) (-1) 0 [(xa304, Ia Z (lst 3 (fun i => Int32.ofNat (w328 i)))), (sl328, Ia Z (lst 32 (fun s => Int32.ofNat (SL328 s)))), (ed328, La Z (lst (wcn t328) EF328)), (sg328, La Z []), (a293, Ia Z [(Int32.ofNat x3), (Int32.ofNat x4), (Int32.ofNat x5)]), (a288, Ia Z [(Int32.ofNat x0), (Int32.ofNat x1), (Int32.ofNat x2)]), (sh304, Ia Z (lst 16 (fun _ => 0))), (ss304, Ia Z (lst 16 (fun _ => 0))), (a300, Ia Z [0, 0, 0])] (C328.okv 0 (by decide)) C328.w1 (C328.vec 0 (by decide)) (by omega) H361) 0 rfl (by decide) (by decide) (by decide) (by decide) rfl rfl [.ref a298, .int 0] rfl Dx_98 ?_
    rintro _ h362 ⟨rfl, H362⟩
    change Hp n0 h362 [(a302, Ob Z CSn NSS [.ref xa304, .ref ly328, .ref va328, .ref sl328, .int (Int32.ofNat 2), .ref ed328, .int (-1), .ref sg328, .ref sh304, .ref ss304, .int 0]), (ly328, Ob Z CYn NSY [.ref wa328, .ref sa328, .ref la328, .int (Int32.ofNat (wcn t328))]), (wa328, Ia Z (lst 3 (fun i => Int32.ofNat (wdp t328 i)))), (sa328, Ia Z (lst 3 (fun i => Int32.ofNat (shp t328 w328 i)))), (la328, La Z (lst 3 (fun i => EE (2 ^ w328 i)))), (va328, La Z (lst 16 VF328)), (a298, Ia Z [Int32.ofNat x0, Int32.ofNat x1, Int32.ofNat x2]), (xa304, Ia Z (lst 3 (fun i => Int32.ofNat (w328 i)))), (sl328, Ia Z (lst 32 (fun s => Int32.ofNat (SL328 s)))), (ed328, La Z (lst (wcn t328) EF328)), (sg328, La Z []), (a293, Ia Z [(Int32.ofNat x3), (Int32.ofNat x4), (Int32.ofNat x5)]), (a288, Ia Z [(Int32.ofNat x0), (Int32.ofNat x1), (Int32.ofNat x2)]), (sh304, Ia Z (lst 16 (fun _ => 0))), (ss304, Ia Z (lst 16 (fun _ => 0))), (a300, Ia Z [0, 0, 0])] at H362
    change G k n0 _ h362 _ _ 101 [.val (.int p0), .val (.int p1), .val (.int p2), .val (.int p3), .val (.int p4), .val (.int p5), .val (.ref a288), .val (.ref a293), .val (.ref a298), .val (.ref a300), .val (.ref a302), .val (.int 0), .val (.int 1), .unset, .unset] []
    refine G.aload K Dx_101 rfl rfl ?_
    refine G.iload K Dx_103 rfl ?_
    refine G.aload K Dx_105 rfl rfl ?_
    have H363 : Hp n0 h362 [(a300, Ia Z [0, 0, 0]), (a302, Ob Z CSn NSS [.ref xa304, .ref ly328, .ref va328, .ref sl328, .int (Int32.ofNat 2), .ref ed328, .int (-1), .ref sg328, .ref sh304, .ref ss304, .int 0]), (ly328, Ob Z CYn NSY [.ref wa328, .ref sa328, .ref la328, .int (Int32.ofNat (wcn t328))]), (wa328, Ia Z (lst 3 (fun i => Int32.ofNat (wdp t328 i)))), (sa328, Ia Z (lst 3 (fun i => Int32.ofNat (shp t328 w328 i)))), (la328, La Z (lst 3 (fun i => EE (2 ^ w328 i)))), (va328, La Z (lst 16 VF328)), (a298, Ia Z [Int32.ofNat x0, Int32.ofNat x1, Int32.ofNat x2]), (xa304, Ia Z (lst 3 (fun i => Int32.ofNat (w328 i)))), (sl328, Ia Z (lst 32 (fun s => Int32.ofNat (SL328 s)))), (ed328, La Z (lst (wcn t328) EF328)), (sg328, La Z []), (a293, Ia Z [(Int32.ofNat x3), (Int32.ofNat x4), (Int32.ofNat x5)]), (a288, Ia Z [(Int32.ofNat x0), (Int32.ofNat x1), (Int32.ofNat x2)]), (sh304, Ia Z (lst 16 (fun _ => 0))), (ss304, Ia Z (lst 16 (fun _ => 0)))] := H362.pull 15 rfl
    have H364 : Hp n0 h362 [(va328, La Z (lst 16 VF328)), (a300, Ia Z [0, 0, 0]), (a302, Ob Z CSn NSS [.ref xa304, .ref ly328, .ref va328, .ref sl328, .int (Int32.ofNat 2), .ref ed328, .int (-1), .ref sg328, .ref sh304, .ref ss304, .int 0]), (ly328, Ob Z CYn NSY [.ref wa328, .ref sa328, .ref la328, .int (Int32.ofNat (wcn t328))]), (wa328, Ia Z (lst 3 (fun i => Int32.ofNat (wdp t328 i)))), (sa328, Ia Z (lst 3 (fun i => Int32.ofNat (shp t328 w328 i)))), (la328, La Z (lst 3 (fun i => EE (2 ^ w328 i)))), (a298, Ia Z [Int32.ofNat x0, Int32.ofNat x1, Int32.ofNat x2]), (xa304, Ia Z (lst 3 (fun i => Int32.ofNat (w328 i)))), (sl328, Ia Z (lst 32 (fun s => Int32.ofNat (SL328 s)))), (ed328, La Z (lst (wcn t328) EF328)), (sg328, La Z []), (a293, Ia Z [(Int32.ofNat x3), (Int32.ofNat x4), (Int32.ofNat x5)]), (a288, Ia Z [(Int32.ofNat x0), (Int32.ofNat x1), (Int32.ofNat x2)]), (sh304, Ia Z (lst 16 (fun _ => 0))), (ss304, Ia Z (lst 16 (fun _ => 0)))] := H363.pull 6 rfl
    have H365 : Hp n0 h362 [(la328, La Z (lst 3 (fun i => EE (2 ^ w328 i)))), (va328, La Z (lst 16 VF328)), (a300, Ia Z [0, 0, 0]), (a302, Ob Z CSn NSS [.ref xa304, .ref ly328, .ref va328, .ref sl328, .int (Int32.ofNat 2), .ref ed328, .int (-1), .ref sg328, .ref sh304, .ref ss304, .int 0]), (ly328, Ob Z CYn NSY [.ref wa328, .ref sa328, .ref la328, .int (Int32.ofNat (wcn t328))]), (wa328, Ia Z (lst 3 (fun i => Int32.ofNat (wdp t328 i)))), (sa328, Ia Z (lst 3 (fun i => Int32.ofNat (shp t328 w328 i)))), (a298, Ia Z [Int32.ofNat x0, Int32.ofNat x1, Int32.ofNat x2]), (xa304, Ia Z (lst 3 (fun i => Int32.ofNat (w328 i)))), (sl328, Ia Z (lst 32 (fun s => Int32.ofNat (SL328 s)))), (ed328, La Z (lst (wcn t328) EF328)), (sg328, La Z []), (a293, Ia Z [(Int32.ofNat x3), (Int32.ofNat x4), (Int32.ofNat x5)]), (a288, Ia Z [(Int32.ofNat x0), (Int32.ofNat x1), (Int32.ofNat x2)]), (sh304, Ia Z (lst 16 (fun _ => 0))), (ss304, Ia Z (lst 16 (fun _ => 0)))] := H364.pull 6 rfl
    have H366 : Hp n0 h362 [(sa328, Ia Z (lst 3 (fun i => Int32.ofNat (shp t328 w328 i)))), (la328, La Z (lst 3 (fun i => EE (2 ^ w328 i)))), (va328, La Z (lst 16 VF328)), (a300, Ia Z [0, 0, 0]), (a302, Ob Z CSn NSS [.ref xa304, .ref ly328, .ref va328, .ref sl328, .int (Int32.ofNat 2), .ref ed328, .int (-1), .ref sg328, .ref sh304, .ref ss304, .int 0]), (ly328, Ob Z CYn NSY [.ref wa328, .ref sa328, .ref la328, .int (Int32.ofNat (wcn t328))]), (wa328, Ia Z (lst 3 (fun i => Int32.ofNat (wdp t328 i)))), (a298, Ia Z [Int32.ofNat x0, Int32.ofNat x1, Int32.ofNat x2]), (xa304, Ia Z (lst 3 (fun i => Int32.ofNat (w328 i)))), (sl328, Ia Z (lst 32 (fun s => Int32.ofNat (SL328 s)))), (ed328, La Z (lst (wcn t328) EF328)), (sg328, La Z []), (a293, Ia Z [(Int32.ofNat x3), (Int32.ofNat x4), (Int32.ofNat x5)]), (a288, Ia Z [(Int32.ofNat x0), (Int32.ofNat x1), (Int32.ofNat x2)]), (sh304, Ia Z (lst 16 (fun _ => 0))), (ss304, Ia Z (lst 16 (fun _ => 0)))] := H365.pull 6 rfl
    have H367 : Hp n0 h362 [(wa328, Ia Z (lst 3 (fun i => Int32.ofNat (wdp t328 i)))), (sa328, Ia Z (lst 3 (fun i => Int32.ofNat (shp t328 w328 i)))), (la328, La Z (lst 3 (fun i => EE (2 ^ w328 i)))), (va328, La Z (lst 16 VF328)), (a300, Ia Z [0, 0, 0]), (a302, Ob Z CSn NSS [.ref xa304, .ref ly328, .ref va328, .ref sl328, .int (Int32.ofNat 2), .ref ed328, .int (-1), .ref sg328, .ref sh304, .ref ss304, .int 0]), (ly328, Ob Z CYn NSY [.ref wa328, .ref sa328, .ref la328, .int (Int32.ofNat (wcn t328))]), (a298, Ia Z [Int32.ofNat x0, Int32.ofNat x1, Int32.ofNat x2]), (xa304, Ia Z (lst 3 (fun i => Int32.ofNat (w328 i)))), (sl328, Ia Z (lst 32 (fun s => Int32.ofNat (SL328 s)))), (ed328, La Z (lst (wcn t328) EF328)), (sg328, La Z []), (a293, Ia Z [(Int32.ofNat x3), (Int32.ofNat x4), (Int32.ofNat x5)]), (a288, Ia Z [(Int32.ofNat x0), (Int32.ofNat x1), (Int32.ofNat x2)]), (sh304, Ia Z (lst 16 (fun _ => 0))), (ss304, Ia Z (lst 16 (fun _ => 0)))] := H366.pull 6 rfl
    have H368 : Hp n0 h362 [(ly328, Ob Z CYn NSY [.ref wa328, .ref sa328, .ref la328, .int (Int32.ofNat (wcn t328))]), (wa328, Ia Z (lst 3 (fun i => Int32.ofNat (wdp t328 i)))), (sa328, Ia Z (lst 3 (fun i => Int32.ofNat (shp t328 w328 i)))), (la328, La Z (lst 3 (fun i => EE (2 ^ w328 i)))), (va328, La Z (lst 16 VF328)), (a300, Ia Z [0, 0, 0]), (a302, Ob Z CSn NSS [.ref xa304, .ref ly328, .ref va328, .ref sl328, .int (Int32.ofNat 2), .ref ed328, .int (-1), .ref sg328, .ref sh304, .ref ss304, .int 0]), (a298, Ia Z [Int32.ofNat x0, Int32.ofNat x1, Int32.ofNat x2]), (xa304, Ia Z (lst 3 (fun i => Int32.ofNat (w328 i)))), (sl328, Ia Z (lst 32 (fun s => Int32.ofNat (SL328 s)))), (ed328, La Z (lst (wcn t328) EF328)), (sg328, La Z []), (a293, Ia Z [(Int32.ofNat x3), (Int32.ofNat x4), (Int32.ofNat x5)]), (a288, Ia Z [(Int32.ofNat x0), (Int32.ofNat x1), (Int32.ofNat x2)]), (sh304, Ia Z (lst 16 (fun _ => 0))), (ss304, Ia Z (lst 16 (fun _ => 0)))] := H367.pull 6 rfl
    have H369 : Hp n0 h362 [(a302, Ob Z CSn NSS [.ref xa304, .ref ly328, .ref va328, .ref sl328, .int (Int32.ofNat 2), .ref ed328, .int (-1), .ref sg328, .ref sh304, .ref ss304, .int 0]), (ly328, Ob Z CYn NSY [.ref wa328, .ref sa328, .ref la328, .int (Int32.ofNat (wcn t328))]), (wa328, Ia Z (lst 3 (fun i => Int32.ofNat (wdp t328 i)))), (sa328, Ia Z (lst 3 (fun i => Int32.ofNat (shp t328 w328 i)))), (la328, La Z (lst 3 (fun i => EE (2 ^ w328 i)))), (va328, La Z (lst 16 VF328)), (a300, Ia Z [0, 0, 0]), (a298, Ia Z [Int32.ofNat x0, Int32.ofNat x1, Int32.ofNat x2]), (xa304, Ia Z (lst 3 (fun i => Int32.ofNat (w328 i)))), (sl328, Ia Z (lst 32 (fun s => Int32.ofNat (SL328 s)))), (ed328, La Z (lst (wcn t328) EF328)), (sg328, La Z []), (a293, Ia Z [(Int32.ofNat x3), (Int32.ofNat x4), (Int32.ofNat x5)]), (a288, Ia Z [(Int32.ofNat x0), (Int32.ofNat x1), (Int32.ofNat x2)]), (sh304, Ia Z (lst 16 (fun _ => 0))), (ss304, Ia Z (lst 16 (fun _ => 0)))] := H368.pull 6 rfl
    have hca300 := wcn_le t328
    refine G.callV K hl (wd hw 137 rfl) (wd hw 138 rfl) (wd hw 140 rfl) (wd hw 139 rfl) (wd hw 4 rfl) (wd hw 141 rfl) (by decide) pd_17 (H369.exa (i := 0) rfl) (ct_get l Z a0 hw n0 h362 a302 xa304 ly328 va328 sl328 ed328 sg328 sh304 ss304 wa328 sa328 la328 a300 t328 w328 ((fun j => if j = 1 then cutv (tri x3 x4 x5) 3 else (fun j => if j = 0 then cutv (tri x0 x1 x2) 3 else (fun _ _ => 0) j) j) 1) 1 VF328 (fun _ => 0) (Int32.ofNat 2) (-1) 0 [(a298, Ia Z [Int32.ofNat x0, Int32.ofNat x1, Int32.ofNat x2]), (xa304, Ia Z (lst 3 (fun i => Int32.ofNat (w328 i)))), (sl328, Ia Z (lst 32 (fun s => Int32.ofNat (SL328 s)))), (ed328, La Z (lst (wcn t328) EF328)), (sg328, La Z []), (a293, Ia Z [(Int32.ofNat x3), (Int32.ofNat x4), (Int32.ofNat x5)]), (a288, Ia Z [(Int32.ofNat x0), (Int32.ofNat x1), (Int32.ofNat x2)]), (sh304, Ia Z (lst 16 (fun _ => 0))), (ss304, Ia Z (lst 16 (fun _ => 0)))] (C328.okv 1 (by decide)) C328.w1 (C328.vec 1 (by decide)) (by omega) H369) 0 rfl (by decide) (by decide) (by decide) (by decide) rfl rfl [.ref a300, .int 1] rfl Dx_107 ?_
    rintro _ h370 ⟨rfl, H370⟩
    change Hp n0 h370 [(a302, Ob Z CSn NSS [.ref xa304, .ref ly328, .ref va328, .ref sl328, .int (Int32.ofNat 2), .ref ed328, .int (-1), .ref sg328, .ref sh304, .ref ss304, .int 0]), (ly328, Ob Z CYn NSY [.ref wa328, .ref sa328, .ref la328, .int (Int32.ofNat (wcn t328))]), (wa328, Ia Z (lst 3 (fun i => Int32.ofNat (wdp t328 i)))), (sa328, Ia Z (lst 3 (fun i => Int32.ofNat (shp t328 w328 i)))), (la328, La Z (lst 3 (fun i => EE (2 ^ w328 i)))), (va328, La Z (lst 16 VF328)), (a300, Ia Z [Int32.ofNat x3, Int32.ofNat x4, Int32.ofNat x5]), (a298, Ia Z [Int32.ofNat x0, Int32.ofNat x1, Int32.ofNat x2]), (xa304, Ia Z (lst 3 (fun i => Int32.ofNat (w328 i)))), (sl328, Ia Z (lst 32 (fun s => Int32.ofNat (SL328 s)))), (ed328, La Z (lst (wcn t328) EF328)), (sg328, La Z []), (a293, Ia Z [(Int32.ofNat x3), (Int32.ofNat x4), (Int32.ofNat x5)]), (a288, Ia Z [(Int32.ofNat x0), (Int32.ofNat x1), (Int32.ofNat x2)]), (sh304, Ia Z (lst 16 (fun _ => 0))), (ss304, Ia Z (lst 16 (fun _ => 0)))] at H370
    change G k n0 _ h370 _ _ 110 [.val (.int p0), .val (.int p1), .val (.int p2), .val (.int p3), .val (.int p4), .val (.int p5), .val (.ref a288), .val (.ref a293), .val (.ref a298), .val (.ref a300), .val (.ref a302), .val (.int 0), .val (.int 1), .unset, .unset] []
    refine G.aload K Dx_110 rfl rfl ?_
    refine G.aload K Dx_112 rfl rfl ?_
    have H371 : Hp n0 h370 [(a293, Ia Z [(Int32.ofNat x3), (Int32.ofNat x4), (Int32.ofNat x5)]), (a302, Ob Z CSn NSS [.ref xa304, .ref ly328, .ref va328, .ref sl328, .int (Int32.ofNat 2), .ref ed328, .int (-1), .ref sg328, .ref sh304, .ref ss304, .int 0]), (ly328, Ob Z CYn NSY [.ref wa328, .ref sa328, .ref la328, .int (Int32.ofNat (wcn t328))]), (wa328, Ia Z (lst 3 (fun i => Int32.ofNat (wdp t328 i)))), (sa328, Ia Z (lst 3 (fun i => Int32.ofNat (shp t328 w328 i)))), (la328, La Z (lst 3 (fun i => EE (2 ^ w328 i)))), (va328, La Z (lst 16 VF328)), (a300, Ia Z [Int32.ofNat x3, Int32.ofNat x4, Int32.ofNat x5]), (a298, Ia Z [Int32.ofNat x0, Int32.ofNat x1, Int32.ofNat x2]), (xa304, Ia Z (lst 3 (fun i => Int32.ofNat (w328 i)))), (sl328, Ia Z (lst 32 (fun s => Int32.ofNat (SL328 s)))), (ed328, La Z (lst (wcn t328) EF328)), (sg328, La Z []), (a288, Ia Z [(Int32.ofNat x0), (Int32.ofNat x1), (Int32.ofNat x2)]), (sh304, Ia Z (lst 16 (fun _ => 0))), (ss304, Ia Z (lst 16 (fun _ => 0)))] := H370.pull 12 rfl
    have H372 : Hp n0 h370 [(a288, Ia Z [(Int32.ofNat x0), (Int32.ofNat x1), (Int32.ofNat x2)]), (a293, Ia Z [(Int32.ofNat x3), (Int32.ofNat x4), (Int32.ofNat x5)]), (a302, Ob Z CSn NSS [.ref xa304, .ref ly328, .ref va328, .ref sl328, .int (Int32.ofNat 2), .ref ed328, .int (-1), .ref sg328, .ref sh304, .ref ss304, .int 0]), (ly328, Ob Z CYn NSY [.ref wa328, .ref sa328, .ref la328, .int (Int32.ofNat (wcn t328))]), (wa328, Ia Z (lst 3 (fun i => Int32.ofNat (wdp t328 i)))), (sa328, Ia Z (lst 3 (fun i => Int32.ofNat (shp t328 w328 i)))), (la328, La Z (lst 3 (fun i => EE (2 ^ w328 i)))), (va328, La Z (lst 16 VF328)), (a300, Ia Z [Int32.ofNat x3, Int32.ofNat x4, Int32.ofNat x5]), (a298, Ia Z [Int32.ofNat x0, Int32.ofNat x1, Int32.ofNat x2]), (xa304, Ia Z (lst 3 (fun i => Int32.ofNat (w328 i)))), (sl328, Ia Z (lst 32 (fun s => Int32.ofNat (SL328 s)))), (ed328, La Z (lst (wcn t328) EF328)), (sg328, La Z []), (sh304, Ia Z (lst 16 (fun _ => 0))), (ss304, Ia Z (lst 16 (fun _ => 0)))] := H371.pull 13 rfl
    refine G.callS K hl (wd hw 142 rfl) (wd hw 143 rfl) (wd hw 144 rfl) (wd hw 145 rfl) (by decide) pd_18 (ct_eq l Z a0 hw n0 h370 a288 a293 (Int32.ofNat x0) (Int32.ofNat x1) (Int32.ofNat x2) (Int32.ofNat x3) (Int32.ofNat x4) (Int32.ofNat x5) [(a302, Ob Z CSn NSS [.ref xa304, .ref ly328, .ref va328, .ref sl328, .int (Int32.ofNat 2), .ref ed328, .int (-1), .ref sg328, .ref sh304, .ref ss304, .int 0]), (ly328, Ob Z CYn NSY [.ref wa328, .ref sa328, .ref la328, .int (Int32.ofNat (wcn t328))]), (wa328, Ia Z (lst 3 (fun i => Int32.ofNat (wdp t328 i)))), (sa328, Ia Z (lst 3 (fun i => Int32.ofNat (shp t328 w328 i)))), (la328, La Z (lst 3 (fun i => EE (2 ^ w328 i)))), (va328, La Z (lst 16 VF328)), (a300, Ia Z [Int32.ofNat x3, Int32.ofNat x4, Int32.ofNat x5]), (a298, Ia Z [Int32.ofNat x0, Int32.ofNat x1, Int32.ofNat x2]), (xa304, Ia Z (lst 3 (fun i => Int32.ofNat (w328 i)))), (sl328, Ia Z (lst 32 (fun s => Int32.ofNat (SL328 s)))), (ed328, La Z (lst (wcn t328) EF328)), (sg328, La Z []), (sh304, Ia Z (lst 16 (fun _ => 0))), (ss304, Ia Z (lst 16 (fun _ => 0)))] H372) 0 rfl (by decide) (by decide) (by decide) (by decide) rfl rfl [.ref a293, .ref a288] rfl Dx_114 ?_
    rintro _ _ ⟨rfl, rfl⟩
    rw [if_neg (fun z => hne ⟨(own_neq hx0 hx3).mp z.1, (own_neq hx1 hx4).mp z.2.1, (own_neq hx2 hx5).mp z.2.2⟩)]
    change G k n0 _ h370 _ _ 117 [.val (.int p0), .val (.int p1), .val (.int p2), .val (.int p3), .val (.int p4), .val (.int p5), .val (.ref a288), .val (.ref a293), .val (.ref a298), .val (.ref a300), .val (.ref a302), .val (.int 0), .val (.int 1), .unset, .unset] [.int 0]
    refine G.istore K Dx_117 ([.val (.int p0), .val (.int p1), .val (.int p2), .val (.int p3), .val (.int p4), .val (.int p5), .val (.ref a288), .val (.ref a293), .val (.ref a298), .val (.ref a300), .val (.ref a302), .val (.int 0), .val (.int 1), .val (.int 0), .unset]) rfl ?_
    refine G.iload K Dx_119 rfl ?_
    refine G.if_eq K Dx_121 (fun _ => ?_) (fun q => absurd q (by decide))
    refine G.iconst K Dx_128 1 rfl ?_
    refine G.istore K Dx_129 ([.val (.int p0), .val (.int p1), .val (.int p2), .val (.int p3), .val (.int p4), .val (.int p5), .val (.ref a288), .val (.ref a293), .val (.ref a298), .val (.ref a300), .val (.ref a302), .val (.int 0), .val (.int 1), .val (.int 0), .val (.int 1)]) rfl ?_
    refine G.iload K Dx_131 rfl ?_
    refine G.if_ne K Dx_133 (fun q => absurd q (by decide)) (fun _ => ?_)
    refine G.iload K Dx_136 rfl ?_
    refine G.iload K Dx_138 rfl ?_
    refine G.icmp_ne K Dx_140 (fun q => absurd q (by decide)) (fun _ => ?_)
    refine G.aload K Dx_143 rfl rfl ?_
    refine G.aload K Dx_145 rfl rfl ?_
    have H376 : Hp n0 h370 [(a298, Ia Z [Int32.ofNat x0, Int32.ofNat x1, Int32.ofNat x2]), (a288, Ia Z [(Int32.ofNat x0), (Int32.ofNat x1), (Int32.ofNat x2)]), (a293, Ia Z [(Int32.ofNat x3), (Int32.ofNat x4), (Int32.ofNat x5)]), (a302, Ob Z CSn NSS [.ref xa304, .ref ly328, .ref va328, .ref sl328, .int (Int32.ofNat 2), .ref ed328, .int (-1), .ref sg328, .ref sh304, .ref ss304, .int 0]), (ly328, Ob Z CYn NSY [.ref wa328, .ref sa328, .ref la328, .int (Int32.ofNat (wcn t328))]), (wa328, Ia Z (lst 3 (fun i => Int32.ofNat (wdp t328 i)))), (sa328, Ia Z (lst 3 (fun i => Int32.ofNat (shp t328 w328 i)))), (la328, La Z (lst 3 (fun i => EE (2 ^ w328 i)))), (va328, La Z (lst 16 VF328)), (a300, Ia Z [Int32.ofNat x3, Int32.ofNat x4, Int32.ofNat x5]), (xa304, Ia Z (lst 3 (fun i => Int32.ofNat (w328 i)))), (sl328, Ia Z (lst 32 (fun s => Int32.ofNat (SL328 s)))), (ed328, La Z (lst (wcn t328) EF328)), (sg328, La Z []), (sh304, Ia Z (lst 16 (fun _ => 0))), (ss304, Ia Z (lst 16 (fun _ => 0)))] := H372.pull 9 rfl
    refine G.callS K hl (wd hw 142 rfl) (wd hw 143 rfl) (wd hw 144 rfl) (wd hw 145 rfl) (by decide) pd_18 (ct_eq l Z a0 hw n0 h370 a298 a288 (Int32.ofNat x0) (Int32.ofNat x1) (Int32.ofNat x2) (Int32.ofNat x0) (Int32.ofNat x1) (Int32.ofNat x2) [(a293, Ia Z [(Int32.ofNat x3), (Int32.ofNat x4), (Int32.ofNat x5)]), (a302, Ob Z CSn NSS [.ref xa304, .ref ly328, .ref va328, .ref sl328, .int (Int32.ofNat 2), .ref ed328, .int (-1), .ref sg328, .ref sh304, .ref ss304, .int 0]), (ly328, Ob Z CYn NSY [.ref wa328, .ref sa328, .ref la328, .int (Int32.ofNat (wcn t328))]), (wa328, Ia Z (lst 3 (fun i => Int32.ofNat (wdp t328 i)))), (sa328, Ia Z (lst 3 (fun i => Int32.ofNat (shp t328 w328 i)))), (la328, La Z (lst 3 (fun i => EE (2 ^ w328 i)))), (va328, La Z (lst 16 VF328)), (a300, Ia Z [Int32.ofNat x3, Int32.ofNat x4, Int32.ofNat x5]), (xa304, Ia Z (lst 3 (fun i => Int32.ofNat (w328 i)))), (sl328, Ia Z (lst 32 (fun s => Int32.ofNat (SL328 s)))), (ed328, La Z (lst (wcn t328) EF328)), (sg328, La Z []), (sh304, Ia Z (lst 16 (fun _ => 0))), (ss304, Ia Z (lst 16 (fun _ => 0)))] H376) 0 rfl (by decide) (by decide) (by decide) (by decide) rfl rfl [.ref a288, .ref a298] rfl Dx_147 ?_
    rintro _ _ ⟨rfl, rfl⟩
    rw [if_pos (⟨rfl, rfl, rfl⟩)]
    change G k n0 _ h370 _ _ 150 [.val (.int p0), .val (.int p1), .val (.int p2), .val (.int p3), .val (.int p4), .val (.int p5), .val (.ref a288), .val (.ref a293), .val (.ref a298), .val (.ref a300), .val (.ref a302), .val (.int 0), .val (.int 1), .val (.int 0), .val (.int 1)] [.int 1]
    refine G.if_eq K Dx_150 (fun q => absurd q (by decide)) (fun _ => ?_)
    refine G.aload K Dx_153 rfl rfl ?_
    refine G.aload K Dx_155 rfl rfl ?_
    have H378 : Hp n0 h370 [(a293, Ia Z [(Int32.ofNat x3), (Int32.ofNat x4), (Int32.ofNat x5)]), (a298, Ia Z [Int32.ofNat x0, Int32.ofNat x1, Int32.ofNat x2]), (a288, Ia Z [(Int32.ofNat x0), (Int32.ofNat x1), (Int32.ofNat x2)]), (a302, Ob Z CSn NSS [.ref xa304, .ref ly328, .ref va328, .ref sl328, .int (Int32.ofNat 2), .ref ed328, .int (-1), .ref sg328, .ref sh304, .ref ss304, .int 0]), (ly328, Ob Z CYn NSY [.ref wa328, .ref sa328, .ref la328, .int (Int32.ofNat (wcn t328))]), (wa328, Ia Z (lst 3 (fun i => Int32.ofNat (wdp t328 i)))), (sa328, Ia Z (lst 3 (fun i => Int32.ofNat (shp t328 w328 i)))), (la328, La Z (lst 3 (fun i => EE (2 ^ w328 i)))), (va328, La Z (lst 16 VF328)), (a300, Ia Z [Int32.ofNat x3, Int32.ofNat x4, Int32.ofNat x5]), (xa304, Ia Z (lst 3 (fun i => Int32.ofNat (w328 i)))), (sl328, Ia Z (lst 32 (fun s => Int32.ofNat (SL328 s)))), (ed328, La Z (lst (wcn t328) EF328)), (sg328, La Z []), (sh304, Ia Z (lst 16 (fun _ => 0))), (ss304, Ia Z (lst 16 (fun _ => 0)))] := H376.pull 2 rfl
    have H379 : Hp n0 h370 [(a300, Ia Z [Int32.ofNat x3, Int32.ofNat x4, Int32.ofNat x5]), (a293, Ia Z [(Int32.ofNat x3), (Int32.ofNat x4), (Int32.ofNat x5)]), (a298, Ia Z [Int32.ofNat x0, Int32.ofNat x1, Int32.ofNat x2]), (a288, Ia Z [(Int32.ofNat x0), (Int32.ofNat x1), (Int32.ofNat x2)]), (a302, Ob Z CSn NSS [.ref xa304, .ref ly328, .ref va328, .ref sl328, .int (Int32.ofNat 2), .ref ed328, .int (-1), .ref sg328, .ref sh304, .ref ss304, .int 0]), (ly328, Ob Z CYn NSY [.ref wa328, .ref sa328, .ref la328, .int (Int32.ofNat (wcn t328))]), (wa328, Ia Z (lst 3 (fun i => Int32.ofNat (wdp t328 i)))), (sa328, Ia Z (lst 3 (fun i => Int32.ofNat (shp t328 w328 i)))), (la328, La Z (lst 3 (fun i => EE (2 ^ w328 i)))), (va328, La Z (lst 16 VF328)), (xa304, Ia Z (lst 3 (fun i => Int32.ofNat (w328 i)))), (sl328, Ia Z (lst 32 (fun s => Int32.ofNat (SL328 s)))), (ed328, La Z (lst (wcn t328) EF328)), (sg328, La Z []), (sh304, Ia Z (lst 16 (fun _ => 0))), (ss304, Ia Z (lst 16 (fun _ => 0)))] := H378.pull 9 rfl
    refine G.callS K hl (wd hw 142 rfl) (wd hw 143 rfl) (wd hw 144 rfl) (wd hw 145 rfl) (by decide) pd_18 (ct_eq l Z a0 hw n0 h370 a300 a293 (Int32.ofNat x3) (Int32.ofNat x4) (Int32.ofNat x5) (Int32.ofNat x3) (Int32.ofNat x4) (Int32.ofNat x5) [(a298, Ia Z [Int32.ofNat x0, Int32.ofNat x1, Int32.ofNat x2]), (a288, Ia Z [(Int32.ofNat x0), (Int32.ofNat x1), (Int32.ofNat x2)]), (a302, Ob Z CSn NSS [.ref xa304, .ref ly328, .ref va328, .ref sl328, .int (Int32.ofNat 2), .ref ed328, .int (-1), .ref sg328, .ref sh304, .ref ss304, .int 0]), (ly328, Ob Z CYn NSY [.ref wa328, .ref sa328, .ref la328, .int (Int32.ofNat (wcn t328))]), (wa328, Ia Z (lst 3 (fun i => Int32.ofNat (wdp t328 i)))), (sa328, Ia Z (lst 3 (fun i => Int32.ofNat (shp t328 w328 i)))), (la328, La Z (lst 3 (fun i => EE (2 ^ w328 i)))), (va328, La Z (lst 16 VF328)), (xa304, Ia Z (lst 3 (fun i => Int32.ofNat (w328 i)))), (sl328, Ia Z (lst 32 (fun s => Int32.ofNat (SL328 s)))), (ed328, La Z (lst (wcn t328) EF328)), (sg328, La Z []), (sh304, Ia Z (lst 16 (fun _ => 0))), (ss304, Ia Z (lst 16 (fun _ => 0)))] H379) 0 rfl (by decide) (by decide) (by decide) (by decide) rfl rfl [.ref a293, .ref a300] rfl Dx_157 ?_
    rintro _ _ ⟨rfl, rfl⟩
    rw [if_pos (⟨rfl, rfl, rfl⟩)]
    change G k n0 _ h370 _ _ 160 [.val (.int p0), .val (.int p1), .val (.int p2), .val (.int p3), .val (.int p4), .val (.int p5), .val (.ref a288), .val (.ref a293), .val (.ref a298), .val (.ref a300), .val (.ref a302), .val (.int 0), .val (.int 1), .val (.int 0), .val (.int 1)] [.int 1]
    refine G.if_eq K Dx_160 (fun q => absurd q (by decide)) (fun _ => ?_)
    refine G.iconst K Dx_163 1 rfl ?_
    refine G.goto K Dx_164 ?_
    refine G.ret_bool K Dx_168 ?_
    exact rfl
set_option maxRecDepth 65536 in
set_option maxHeartbeats 40000000 in
theorem comes_1 {Post : Tables → Env → Array Value → State → Outcome → State → Prop} (hpost : ∀ tb e args s v u, (limb_1_1.after args s (.returned v) u = true ∧ limb_1_2.after args s (.returned v) u = true ∧ True) → FrameEnd s (.returned v) u (Jvm.fieldLocs frame_1_writes args s ++ Jvm.arrayLocs frame_1_arrays args s ++ Jvm.staticLocs frame_1_statics s) 176 1216 → Post tb e args s (.returned v) u) :
    ArmFor flags0 classFile x code maxLocals ret World_1 tables_1 room_1 Calls_1 rest_1 Pre_1 Post := by
  intro l hfl _ _ p e ha hc hk s m args below hf hA hF happ hP
  obtain ⟨hcalls, hrest, hpre⟩ := hP
  obtain ⟨-, -, -, hnamed, -, -, -, hat⟩ := (Spec.applies_iff hf).mp happ
  obtain ⟨hg, hn⟩ := and_e (Cond.before_iff.mp (show (Jvm.Cond.and given_1 narrow_1).before args s = true from hpre))
  obtain ⟨g0, g1⟩ := and_e hg
  obtain ⟨u0, v0⟩ := and_e g1
  obtain ⟨u1, v1⟩ := and_e v0
  obtain ⟨u2, v2⟩ := and_e v1
  obtain ⟨u3, v3⟩ := and_e v2
  obtain ⟨u4, v4⟩ := and_e v3
  obtain ⟨w0, w1, w2, w3, w4, w5, rfl⟩ : ∃ w0 w1 w2 w3 w4 w5 : Value, args = #[w0, w1, w2, w3, w4, w5] := by
    have hs : args.size = 6 := by simpa [Cond.value, given_1] using g0
    obtain ⟨L⟩ := args
    match L, hs with
    | [w0, w1, w2, w3, w4, w5], _ => exact ⟨w0, w1, w2, w3, w4, w5, rfl⟩
  have hw := fun d (hd : d ∈ tables_1) => atoms_spec (ws := Jvm.Cond.code x code maxLocals ret :: tables_1) hat d (List.mem_cons_of_mem _ hd)
  obtain ⟨i0, ei0⟩ := is_v u0
  obtain rfl : w0 = (.int i0) := Option.some.inj ei0
  obtain ⟨i1, ei1⟩ := is_v u1
  obtain rfl : w1 = (.int i1) := Option.some.inj ei1
  obtain ⟨i2, ei2⟩ := is_v u2
  obtain rfl : w2 = (.int i2) := Option.some.inj ei2
  obtain ⟨i3, ei3⟩ := is_v u3
  obtain rfl : w3 = (.int i3) := Option.some.inj ei3
  obtain ⟨i4, ei4⟩ := is_v u4
  obtain rfl : w4 = (.int i4) := Option.some.inj ei4
  obtain ⟨i5, ei5⟩ := is_v v4
  obtain rfl : w5 = (.int i5) := Option.some.inj ei5
  obtain ⟨n, o, h1, h2, h3, _, L, rfl, ⟨rfl, N⟩, hq⟩ := ct_law l s _ hw s.heap.size s.heap i0 i1 i2 i3 i4 i5 (Nat.le_refl _) tables_1 p e ha hc hk s m _ below hf ((Spec.applies_iff_loose hf).mp happ).1 ⟨rfl, State.Warmed39.refl s, rfl⟩ trivial
  refine ⟨n, _, h1, h2, h3, hpost _ _ _ _ _ _ ⟨Cond.after_iff.mpr rfl, Cond.after_iff.mpr (eq_i res_at (Term.int_eval (1)) rfl), trivial⟩ ⟨hq.1, hq.2.1, (hq.2.2.sift fun y hy => Or.inr (N y hy)).mono (by decide) (by decide)⟩⟩
theorem main_1_1 : Claimed_1_1 := comes_1 fun _ _ _ _ _ _ h hF => ⟨h.1, hF⟩
theorem main_1_2 : Claimed_1_2 := comes_1 fun _ _ _ _ _ _ h hF => ⟨h.2.1, hF⟩
end Jvm.Pilot.@@N@@
namespace Jvm.Pilot.@@N@@
open Jvm Jvm.ClassFile Sem Op Lib Jvm.Free Jvm.Stand Jvm.Pilot.@@N@@.Jvm.D
/-! MADE BY PROGRAM (witnessworld.py) out of the Statement's table words and the real class files: 20 classes; the members and pool entries that the words name. The judged class is class 1, her method 2. -/
namespace start1
open Jvm.ClassFile
def u (s : String) : CpInfo := .utf8 (stringToUtf16 s)
/-- a pool by its gaps: so many unusable entries, then the entry; so many at the end -/
def gap : Nat → List CpInfo → List CpInfo
  | 0, r => r
  | n + 1, r => .unusable :: gap n r
def poolList (es : List (Nat × CpInfo)) (last : Nat) : List CpInfo := es.foldr (fun e r => gap e.1 (e.2 :: r)) (gap last [])
def pool (es : List (Nat × CpInfo)) (last : Nat) : Array CpInfo := ⟨poolList es last⟩
def fileOf (pool : Array CpInfo) (this : Nat) (attrs : Array Attribute := #[]) (ms : Array MethodInfo := #[]) (fl : Nat := 33) (sup : Nat := 0) (ifs : Array Nat := #[]) (fds : Array FieldInfo := #[]) : ClassFile where
  minorVersion := 0
  majorVersion := 65
  constantPool := pool
  accessFlags := fl
  thisClass := this
  superClass := sup
  interfaces := ifs
  fields := fds
  methods := ms
  attributes := attrs
def plain (name : String) (sup : Option ClassId) : Class where
  name := name
  kind := .ordinary
  loader := none
  accessFlags := 33
  super := sup
  interfaces := #[]
  cf := none
  fields := #[]
  methods := #[]
  instanceTypes := #[]
  staticTypes := #[]
  resolved := #[]
  callSites := []
  init := .initialized
  statics := none
  mirror := none

def pool0 : Array CpInfo := pool [(5, u "<init>"), (0, u "()V"), (1, .class_ 10), (1, u "java/lang/Object")] 113

def k0c0 : Code := { maxStack := 0, maxLocals := 1, code := object_method_1_code, exceptionTable := #[], attributes := #[] }
def k0m0 : Method := { name := "<init>", desc := "()V", sig := { parameters := [], returnType := none }, accessFlags := 1, code := some k0c0 }
/-- java/lang/Object -/
def k0 : Class := { plain "java/lang/Object" none with
  accessFlags := 33
  interfaces := #[]
  cf := some (fileOf pool0 8 #[] #[{ accessFlags := 1, nameIndex := 5, descriptorIndex := 6, attributes := #[] }] 33 0 #[] #[])
  fields := #[]
  methods := #[k0m0]
  instanceTypes := #[]
  staticTypes := #[]
  resolved := Array.replicate 124 none
  statics := none }

def pool1 : Array CpInfo := pool [(2, .class_ 4), (1, u "java/lang/Object"), (0, u "<init>"), (0, u "()V"), (0, .integer 2147483647), (0, .class_ 9), (0, u "com/example/divergence/divergence/engine/StateStore"), (0, .methodref 8 11), (0, .nameAndType 5 12), (0, u "(I)V"), (0, .methodref 8 14), (0, .nameAndType 15 16), (0, u "add"), (0, u "([I)I"), (0, .methodref 8 18), (0, .nameAndType 19 20), (0, u "get"), (0, u "(I[I)V"), (0, .methodref 22 23), (0, .class_ 24), (0, .nameAndType 25 26), (0, u "com/example/divergence/divergence/engine/StateStoreGetPinLaw"), (0, u "eq"), (0, u "([I[I)Z"), (3, u "law"), (0, u "(IIIIII)Z")] 4

def k1m0 : Method := { name := "<init>", desc := "()V", sig := { parameters := [], returnType := none }, accessFlags := 1, code := none }
def k1c1 : Code := { maxStack := 3, maxLocals := 2, code := method_2_code, exceptionTable := #[], attributes := #[] }
def k1m1 : Method := { name := "eq", desc := "([I[I)Z", sig := { parameters := [(.array .int), (.array .int)], returnType := some .boolean }, accessFlags := 10, code := some k1c1 }
def k1c2 : Code := { maxStack := 5, maxLocals := 15, code := code, exceptionTable := #[], attributes := #[] }
def k1m2 : Method := { name := "law", desc := "(IIIIII)Z", sig := { parameters := [.int, .int, .int, .int, .int, .int], returnType := some .boolean }, accessFlags := 9, code := some k1c2 }
/-- com/example/divergence/divergence/engine/StateStoreGetPinLaw -/
def k1 : Class := { plain "com/example/divergence/divergence/engine/StateStoreGetPinLaw" (some 0) with
  accessFlags := 49
  interfaces := #[]
  cf := some (fileOf pool1 22 #[] #[{ accessFlags := 1, nameIndex := 5, descriptorIndex := 6, attributes := #[] }, { accessFlags := 10, nameIndex := 25, descriptorIndex := 26, attributes := #[] }, { accessFlags := 9, nameIndex := 30, descriptorIndex := 31, attributes := #[] }] 49 2 #[] #[])
  fields := #[]
  methods := #[k1m0, k1m1, k1m2]
  instanceTypes := #[]
  staticTypes := #[]
  resolved := Array.replicate 36 none
  statics := none }

def pool2 : Array CpInfo := pool [(1, .class_ 2), (0, u "java/lang/Integer"), (0, .methodref 4 5), (0, .class_ 6), (0, .nameAndType 7 8), (0, u "java/lang/Object"), (0, u "<init>"), (0, u "()V"), (0, .fieldref 10 11), (0, .class_ 12), (0, .nameAndType 13 14), (0, u "com/example/divergence/divergence/engine/StateStore"), (0, u "slots"), (0, u "[I"), (0, .fieldref 10 16), (0, .nameAndType 17 18), (0, u "editedFrom"), (0, u "I"), (0, .fieldref 10 20), (0, .nameAndType 21 22), (0, u "staged"), (0, u "[J"), (0, .fieldref 10 24), (0, .nameAndType 25 14), (0, u "stagedHashes"), (0, .fieldref 10 27), (0, .nameAndType 28 14), (0, u "stagedSlots"), (0, .fieldref 10 30), (0, .nameAndType 31 14), (0, u "widths"), (0, .methodref 33 34), (0, .class_ 35), (0, .nameAndType 36 37), (0, u "java/util/Arrays"), (0, u "fill"), (0, u "([II)V"), (0, .class_ 39), (0, u "com/example/divergence/divergence/engine/StateStore$Layout"), (0, .methodref 38 41), (0, .nameAndType 7 42), (0, u "([I)V"), (0, .fieldref 10 44), (0, .nameAndType 45 46), (0, u "layout"), (0, u "Lcom/example/divergence/divergence/engine/StateStore$Layout;"), (0, .fieldref 38 48), (0, .nameAndType 49 18), (0, u "wordCount"), (0, .fieldref 10 51), (0, .nameAndType 52 22), (0, u "vectors"), (0, .fieldref 10 54), (0, .nameAndType 55 22), (0, u "edited"), (0, .methodref 33 57), (0, .nameAndType 36 58), (0, u "([JJ)V"), (0, .methodref 10 60), (0, .nameAndType 61 62), (0, u "set"), (0, u "(II)V"), (0, .methodref 10 64), (0, .nameAndType 65 66), (0, u "hash"), (0, u "([JII)I"), (0, .methodref 10 68), (0, .nameAndType 69 66), (0, u "add"), (0, .methodref 38 71), (0, .nameAndType 72 73), (0, u "unpack"), (0, u "([JI[I)V"), (0, .methodref 75 76), (0, .class_ 77), (0, .nameAndType 78 79), (0, u "java/lang/System"), (0, u "arraycopy"), (0, u "(Ljava/lang/Object;ILjava/lang/Object;II)V"), (0, .fieldref 38 81), (0, .nameAndType 82 22), (0, u "limits"), (0, .methodref 10 84), (0, .nameAndType 85 62), (0, u "widen"), (0, .fieldref 38 87), (0, .nameAndType 88 14), (0, u "words"), (0, .fieldref 38 90), (0, .nameAndType 91 14), (0, u "shifts"), (0, .long 18446744073709551615), (1, .fieldref 10 95), (0, .nameAndType 96 18), (0, u "stagedCount"), (1, .class_ 100), (1, u "java/lang/Math"), (0, u "max"), (0, u "(II)I"), (10, u "(I)V"), (2, u "touched"), (0, u "J"), (0, .fieldref 10 119), (0, .nameAndType 120 18), (0, u "size"), (0, .long 3), (1, .long 2), (1, .methodref 10 126), (0, .nameAndType 127 128), (0, u "vectorsLength"), (0, u "(JI)I"), (0, .methodref 10 130), (0, .nameAndType 131 113), (0, u "rebuild"), (0, .methodref 1 133), (0, .nameAndType 134 135), (0, u "numberOfLeadingZeros"), (0, u "(I)I"), (0, .methodref 98 137), (0, .nameAndType 138 102), (0, u "min"), (0, .long 16), (1, .methodref 10 142), (0, .nameAndType 143 144), (0, u "repacked"), (0, u "([JILcom/example/divergence/divergence/engine/StateStore$Layout;I)[J"), (0, .methodref 38 146), (0, .nameAndType 147 148), (0, u "pack"), (0, u "([I[JI)V"), (0, .integer 1073741824), (9, .long 2147483639), (4, .methodref 98 165), (0, .nameAndType 101 166), (0, u "(JJ)J"), (0, .methodref 98 168), (0, .nameAndType 138 166), (0, .methodref 10 170), (0, .nameAndType 171 172), (0, u "mix"), (0, u "(J)J"), (0, .long 18397679294719823053), (1, .long 14181476777654086739), (1, u "MAX_LENGTH"), (2, u "MAX_CAPACITY"), (2, u "([I)I"), (1, u "get"), (0, u "(I[I)V")] 25

def k2c0 : Code := { maxStack := 4, maxLocals := 2, code := prog_98_method_1_code, exceptionTable := #[], attributes := #[] }
def k2m0 : Method := { name := "<init>", desc := "(I)V", sig := { parameters := [.int], returnType := none }, accessFlags := 0, code := some k2c0 }
def k2c1 : Code := { maxStack := 6, maxLocals := 3, code := prog_98_method_2_code, exceptionTable := #[], attributes := #[] }
def k2m1 : Method := { name := "add", desc := "([I)I", sig := { parameters := [(.array .int)], returnType := some .int }, accessFlags := 0, code := some k2c1 }
def k2c2 : Code := { maxStack := 4, maxLocals := 3, code := prog_98_method_3_code, exceptionTable := #[], attributes := #[] }
def k2m2 : Method := { name := "get", desc := "(I[I)V", sig := { parameters := [.int, (.array .int)], returnType := none }, accessFlags := 0, code := some k2c2 }
def k2c3 : Code := { maxStack := 8, maxLocals := 5, code := prog_98_method_5_code, exceptionTable := #[], attributes := #[] }
def k2m3 : Method := { name := "set", desc := "(II)V", sig := { parameters := [.int, .int], returnType := none }, accessFlags := 0, code := some k2c3 }
def k2c4 : Code := { maxStack := 7, maxLocals := 10, code := prog_98_method_8_code, exceptionTable := #[], attributes := #[] }
def k2m4 : Method := { name := "add", desc := "([JII)I", sig := { parameters := [(.array .long), .int, .int], returnType := some .int }, accessFlags := 2, code := some k2c4 }
def k2c5 : Code := { maxStack := 9, maxLocals := 5, code := prog_98_method_9_code, exceptionTable := #[], attributes := #[] }
def k2m5 : Method := { name := "widen", desc := "(II)V", sig := { parameters := [.int, .int], returnType := none }, accessFlags := 2, code := some k2c5 }
def k2c6 : Code := { maxStack := 5, maxLocals := 8, code := prog_98_method_10_code, exceptionTable := #[], attributes := #[] }
def k2m6 : Method := { name := "repacked", desc := "([JILcom/example/divergence/divergence/engine/StateStore$Layout;I)[J", sig := { parameters := [(.array .long), .int, (.object "com/example/divergence/divergence/engine/StateStore$Layout"), .int], returnType := some (.array .long) }, accessFlags := 2, code := some k2c6 }
def k2c7 : Code := { maxStack := 4, maxLocals := 5, code := prog_98_method_11_code, exceptionTable := #[], attributes := #[] }
def k2m7 : Method := { name := "rebuild", desc := "(I)V", sig := { parameters := [.int], returnType := none }, accessFlags := 2, code := some k2c7 }
def k2c8 : Code := { maxStack := 4, maxLocals := 6, code := prog_98_method_12_code, exceptionTable := #[], attributes := #[] }
def k2m8 : Method := { name := "vectorsLength", desc := "(JI)I", sig := { parameters := [.long, .int], returnType := some .int }, accessFlags := 2, code := some k2c8 }
def k2c9 : Code := { maxStack := 5, maxLocals := 6, code := prog_98_method_13_code, exceptionTable := #[], attributes := #[] }
def k2m9 : Method := { name := "hash", desc := "([JII)I", sig := { parameters := [(.array .long), .int, .int], returnType := some .int }, accessFlags := 10, code := some k2c9 }
def k2c10 : Code := { maxStack := 5, maxLocals := 4, code := prog_98_method_14_code, exceptionTable := #[], attributes := #[] }
def k2m10 : Method := { name := "mix", desc := "(J)J", sig := { parameters := [.long], returnType := some .long }, accessFlags := 10, code := some k2c10 }
/-- com/example/divergence/divergence/engine/StateStore -/
def k2 : Class := { plain "com/example/divergence/divergence/engine/StateStore" (some 0) with
  accessFlags := 32
  interfaces := #[]
  cf := some (fileOf pool2 10 #[.nestMembers #[38]] #[{ accessFlags := 0, nameIndex := 7, descriptorIndex := 113, attributes := #[] }, { accessFlags := 0, nameIndex := 69, descriptorIndex := 183, attributes := #[] }, { accessFlags := 0, nameIndex := 185, descriptorIndex := 186, attributes := #[] }, { accessFlags := 0, nameIndex := 61, descriptorIndex := 62, attributes := #[] }, { accessFlags := 2, nameIndex := 69, descriptorIndex := 66, attributes := #[] }, { accessFlags := 2, nameIndex := 85, descriptorIndex := 62, attributes := #[] }, { accessFlags := 2, nameIndex := 143, descriptorIndex := 144, attributes := #[] }, { accessFlags := 2, nameIndex := 131, descriptorIndex := 113, attributes := #[] }, { accessFlags := 2, nameIndex := 127, descriptorIndex := 128, attributes := #[] }, { accessFlags := 10, nameIndex := 65, descriptorIndex := 66, attributes := #[] }, { accessFlags := 10, nameIndex := 171, descriptorIndex := 172, attributes := #[] }] 32 4 #[] #[{ accessFlags := 26, nameIndex := 177, descriptorIndex := 18, attributes := #[] }, { accessFlags := 26, nameIndex := 180, descriptorIndex := 18, attributes := #[] }, { accessFlags := 18, nameIndex := 31, descriptorIndex := 14, attributes := #[] }, { accessFlags := 2, nameIndex := 45, descriptorIndex := 46, attributes := #[] }, { accessFlags := 2, nameIndex := 52, descriptorIndex := 22, attributes := #[] }, { accessFlags := 2, nameIndex := 13, descriptorIndex := 14, attributes := #[] }, { accessFlags := 2, nameIndex := 120, descriptorIndex := 18, attributes := #[] }, { accessFlags := 2, nameIndex := 55, descriptorIndex := 22, attributes := #[] }, { accessFlags := 2, nameIndex := 17, descriptorIndex := 18, attributes := #[] }, { accessFlags := 2, nameIndex := 21, descriptorIndex := 22, attributes := #[] }, { accessFlags := 2, nameIndex := 25, descriptorIndex := 14, attributes := #[] }, { accessFlags := 2, nameIndex := 28, descriptorIndex := 14, attributes := #[] }, { accessFlags := 2, nameIndex := 96, descriptorIndex := 18, attributes := #[] }, { accessFlags := 2, nameIndex := 116, descriptorIndex := 117, attributes := #[] }])
  fields := #[{ name := "MAX_LENGTH", type := .int, accessFlags := 26, slot := 0, constantValue := 0 }, { name := "MAX_CAPACITY", type := .int, accessFlags := 26, slot := 1, constantValue := 0 }, { name := "widths", type := (.array .int), accessFlags := 18, slot := 0, constantValue := 0 }, { name := "layout", type := (.object "com/example/divergence/divergence/engine/StateStore$Layout"), accessFlags := 2, slot := 1, constantValue := 0 }, { name := "vectors", type := (.array .long), accessFlags := 2, slot := 2, constantValue := 0 }, { name := "slots", type := (.array .int), accessFlags := 2, slot := 3, constantValue := 0 }, { name := "size", type := .int, accessFlags := 2, slot := 4, constantValue := 0 }, { name := "edited", type := (.array .long), accessFlags := 2, slot := 5, constantValue := 0 }, { name := "editedFrom", type := .int, accessFlags := 2, slot := 6, constantValue := 0 }, { name := "staged", type := (.array .long), accessFlags := 2, slot := 7, constantValue := 0 }, { name := "stagedHashes", type := (.array .int), accessFlags := 2, slot := 8, constantValue := 0 }, { name := "stagedSlots", type := (.array .int), accessFlags := 2, slot := 9, constantValue := 0 }, { name := "stagedCount", type := .int, accessFlags := 2, slot := 10, constantValue := 0 }, { name := "touched", type := .long, accessFlags := 2, slot := 11, constantValue := 0 }]
  methods := #[k2m0, k2m1, k2m2, k2m3, k2m4, k2m5, k2m6, k2m7, k2m8, k2m9, k2m10]
  instanceTypes := #[(.array .int), (.object "com/example/divergence/divergence/engine/StateStore$Layout"), (.array .long), (.array .int), .int, (.array .long), .int, (.array .long), (.array .int), (.array .int), .int, .long]
  staticTypes := #[.int, .int]
  resolved := ⟨List.replicate 47 none ++ some (.field 4 3) :: (List.replicate 32 none ++ some (.field 4 2) :: (List.replicate 5 none ++ some (.field 4 0) :: (List.replicate 2 none ++ some (.field 4 1) :: (List.replicate 122 none))))⟩
  statics := none }

def pool3 : Array CpInfo := pool [(2, .class_ 4), (1, u "java/lang/Object"), (0, u "<init>"), (0, u "()V"), (6, .methodref 14 15), (0, .class_ 16), (0, .nameAndType 17 18), (0, u "java/util/Arrays"), (0, u "rangeCheck"), (0, u "(III)V"), (55, .class_ 76), (1, u "java/util/Arrays$NaturalOrder"), (36, .class_ 115), (1, u "java/util/Arrays$LegacyMergeSort"), (1, u "Z"), (257, .class_ 376), (0, u "java/util/Arrays$ArrayList"), (68, u "$assertionsDisabled"), (269, u "MIN_ARRAY_SORT_GRAN"), (0, u "I"), (2, u "INSERTIONSORT_THRESHOLD"), (120, u "fill"), (0, u "([JJ)V"), (2, u "([JIIJ)V"), (0, u "([II)V"), (129, .class_ 976), (0, u "java/util/Arrays$ArrayItr")] 52

def k3m0 : Method := { name := "<init>", desc := "()V", sig := { parameters := [], returnType := none }, accessFlags := 2, code := none }
def k3c1 : Code := { maxStack := 4, maxLocals := 3, code := jdk_65_method_30_code, exceptionTable := #[], attributes := #[] }
def k3m1 : Method := { name := "rangeCheck", desc := "(III)V", sig := { parameters := [.int, .int, .int], returnType := none }, accessFlags := 8, code := some k3c1 }
def k3c2 : Code := { maxStack := 4, maxLocals := 5, code := jdk_65_method_101_code, exceptionTable := #[], attributes := #[] }
def k3m2 : Method := { name := "fill", desc := "([JJ)V", sig := { parameters := [(.array .long), .long], returnType := none }, accessFlags := 9, code := some k3c2 }
def k3c3 : Code := { maxStack := 4, maxLocals := 6, code := jdk_65_method_102_code, exceptionTable := #[], attributes := #[] }
def k3m3 : Method := { name := "fill", desc := "([JIIJ)V", sig := { parameters := [(.array .long), .int, .int, .long], returnType := none }, accessFlags := 9, code := some k3c3 }
def k3c4 : Code := { maxStack := 3, maxLocals := 4, code := jdk_65_method_103_code, exceptionTable := #[], attributes := #[] }
def k3m4 : Method := { name := "fill", desc := "([II)V", sig := { parameters := [(.array .int), .int], returnType := none }, accessFlags := 9, code := some k3c4 }
/-- java/util/Arrays -/
def k3 : Class := { plain "java/util/Arrays" (some 0) with
  accessFlags := 49
  interfaces := #[]
  cf := some (fileOf pool3 14 #[.nestMembers #[975, 375, 113, 74]] #[{ accessFlags := 2, nameIndex := 5, descriptorIndex := 6, attributes := #[] }, { accessFlags := 8, nameIndex := 17, descriptorIndex := 18, attributes := #[] }, { accessFlags := 9, nameIndex := 840, descriptorIndex := 841, attributes := #[] }, { accessFlags := 9, nameIndex := 840, descriptorIndex := 844, attributes := #[] }, { accessFlags := 9, nameIndex := 840, descriptorIndex := 845, attributes := #[] }] 49 2 #[] #[{ accessFlags := 26, nameIndex := 715, descriptorIndex := 716, attributes := #[] }, { accessFlags := 26, nameIndex := 719, descriptorIndex := 716, attributes := #[] }, { accessFlags := 4120, nameIndex := 445, descriptorIndex := 117, attributes := #[] }])
  fields := #[{ name := "MIN_ARRAY_SORT_GRAN", type := .int, accessFlags := 26, slot := 0, constantValue := 0 }, { name := "INSERTIONSORT_THRESHOLD", type := .int, accessFlags := 26, slot := 1, constantValue := 0 }, { name := "$assertionsDisabled", type := .boolean, accessFlags := 4120, slot := 2, constantValue := 0 }]
  methods := #[k3m0, k3m1, k3m2, k3m3, k3m4]
  instanceTypes := #[]
  staticTypes := #[.int, .int, .boolean]
  resolved := Array.replicate 1029 none
  statics := none }

def pool4 : Array CpInfo := pool [(1, .methodref 2 3), (0, .class_ 4), (0, .nameAndType 5 6), (0, u "java/lang/Object"), (0, u "<init>"), (0, u "()V"), (0, .fieldref 8 9), (0, .class_ 10), (0, .nameAndType 11 12), (0, u "com/example/divergence/divergence/engine/StateStore$Layout"), (0, u "words"), (0, u "[I"), (0, .fieldref 8 14), (0, .nameAndType 15 12), (0, u "shifts"), (0, .fieldref 8 17), (0, .nameAndType 18 19), (0, u "limits"), (0, u "[J"), (2, .fieldref 8 23), (0, .nameAndType 24 25), (0, u "wordCount"), (0, u "I"), (0, .methodref 27 28), (0, .class_ 29), (0, .nameAndType 30 31), (0, u "java/util/Arrays"), (0, u "fill"), (0, u "([JIIJ)V"), (0, u "([I)V"), (4, u "pack"), (0, u "([I[JI)V"), (0, u "unpack"), (0, u "([JI[I)V"), (3, .class_ 45), (0, u "com/example/divergence/divergence/engine/StateStore")] 2

def k4c0 : Code := { maxStack := 6, maxLocals := 5, code := prog_99_method_1_code, exceptionTable := #[], attributes := #[] }
def k4m0 : Method := { name := "<init>", desc := "([I)V", sig := { parameters := [(.array .int)], returnType := none }, accessFlags := 0, code := some k4c0 }
def k4c1 : Code := { maxStack := 8, maxLocals := 5, code := prog_99_method_2_code, exceptionTable := #[], attributes := #[] }
def k4m1 : Method := { name := "pack", desc := "([I[JI)V", sig := { parameters := [(.array .int), (.array .long), .int], returnType := none }, accessFlags := 0, code := some k4c1 }
def k4c2 : Code := { maxStack := 8, maxLocals := 5, code := prog_99_method_3_code, exceptionTable := #[], attributes := #[] }
def k4m2 : Method := { name := "unpack", desc := "([JI[I)V", sig := { parameters := [(.array .long), .int, (.array .int)], returnType := none }, accessFlags := 0, code := some k4c2 }
/-- com/example/divergence/divergence/engine/StateStore$Layout -/
def k4 : Class := { plain "com/example/divergence/divergence/engine/StateStore$Layout" (some 0) with
  accessFlags := 32
  interfaces := #[]
  cf := some (fileOf pool4 8 #[.nestHost 44] #[{ accessFlags := 0, nameIndex := 5, descriptorIndex := 32, attributes := #[] }, { accessFlags := 0, nameIndex := 37, descriptorIndex := 38, attributes := #[] }, { accessFlags := 0, nameIndex := 39, descriptorIndex := 40, attributes := #[] }] 32 2 #[] #[{ accessFlags := 18, nameIndex := 11, descriptorIndex := 12, attributes := #[] }, { accessFlags := 18, nameIndex := 15, descriptorIndex := 12, attributes := #[] }, { accessFlags := 18, nameIndex := 18, descriptorIndex := 19, attributes := #[] }, { accessFlags := 18, nameIndex := 24, descriptorIndex := 25, attributes := #[] }])
  fields := #[{ name := "words", type := (.array .int), accessFlags := 18, slot := 0, constantValue := 0 }, { name := "shifts", type := (.array .int), accessFlags := 18, slot := 1, constantValue := 0 }, { name := "limits", type := (.array .long), accessFlags := 18, slot := 2, constantValue := 0 }, { name := "wordCount", type := .int, accessFlags := 18, slot := 3, constantValue := 0 }]
  methods := #[k4m0, k4m1, k4m2]
  instanceTypes := #[(.array .int), (.array .int), (.array .long), .int]
  staticTypes := #[]
  resolved := Array.replicate 48 none
  statics := none }

def pool5 : Array CpInfo := pool [(1, .class_ 2), (0, u "java/io/Serializable"), (0, .class_ 4), (0, u "java/lang/Object")] 2

/-- java/io/Serializable -/
def k5 : Class := { plain "java/io/Serializable" (some 0) with
  accessFlags := 1537
  interfaces := #[]
  cf := some (fileOf pool5 1 #[] #[] 1537 3 #[] #[])
  fields := #[]
  methods := #[]
  instanceTypes := #[]
  staticTypes := #[]
  resolved := Array.replicate 7 none
  statics := none }

def pool6 : Array CpInfo := pool [(2, .class_ 4), (1, u "java/lang/Object"), (0, u "<init>"), (0, u "()V"), (1, .class_ 10), (1, u "java/lang/Number"), (2, .class_ 14), (0, u "java/io/Serializable"), (0, u "serialVersionUID"), (0, u "J")] 20

def k6m0 : Method := { name := "<init>", desc := "()V", sig := { parameters := [], returnType := none }, accessFlags := 1, code := none }
/-- java/lang/Number -/
def k6 : Class := { plain "java/lang/Number" (some 0) with
  accessFlags := 1057
  interfaces := #[5]
  cf := some (fileOf pool6 8 #[] #[{ accessFlags := 1, nameIndex := 5, descriptorIndex := 6, attributes := #[] }] 1057 2 #[13] #[{ accessFlags := 26, nameIndex := 15, descriptorIndex := 16, attributes := #[] }])
  fields := #[{ name := "serialVersionUID", type := .long, accessFlags := 26, slot := 0, constantValue := 0 }]
  methods := #[k6m0]
  instanceTypes := #[]
  staticTypes := #[.long]
  resolved := Array.replicate 37 none
  statics := none }

def pool7 : Array CpInfo := pool [(1, .class_ 2), (0, u "java/lang/Comparable"), (0, .class_ 4), (0, u "java/lang/Object")] 7

/-- java/lang/Comparable -/
def k7 : Class := { plain "java/lang/Comparable" (some 0) with
  accessFlags := 1537
  interfaces := #[]
  cf := some (fileOf pool7 1 #[] #[] 1537 3 #[] #[])
  fields := #[]
  methods := #[]
  instanceTypes := #[]
  staticTypes := #[]
  resolved := Array.replicate 12 none
  statics := none }

def pool8 : Array CpInfo := pool [(1, .class_ 2), (0, u "java/lang/constant/Constable"), (0, .class_ 4), (0, u "java/lang/Object")] 6

/-- java/lang/constant/Constable -/
def k8 : Class := { plain "java/lang/constant/Constable" (some 0) with
  accessFlags := 1537
  interfaces := #[]
  cf := some (fileOf pool8 1 #[] #[] 1537 3 #[] #[])
  fields := #[]
  methods := #[]
  instanceTypes := #[]
  staticTypes := #[]
  resolved := Array.replicate 11 none
  statics := none }

def pool9 : Array CpInfo := pool [(1, .class_ 2), (0, u "java/lang/constant/ConstantDesc"), (0, .class_ 4), (0, u "java/lang/Object")] 32

/-- java/lang/constant/ConstantDesc -/
def k9 : Class := { plain "java/lang/constant/ConstantDesc" (some 0) with
  accessFlags := 1537
  interfaces := #[]
  cf := some (fileOf pool9 1 #[] #[] 1537 3 #[] #[])
  fields := #[]
  methods := #[]
  instanceTypes := #[]
  staticTypes := #[]
  resolved := Array.replicate 37 none
  statics := none }

def pool10 : Array CpInfo := pool [(1, .class_ 2), (0, u "java/lang/Integer"), (16, u "digits"), (0, u "[C"), (32, u "numberOfLeadingZeros"), (0, u "(I)I"), (30, u "DigitOnes"), (0, u "[B"), (2, u "DigitTens"), (99, .class_ 190), (0, u "java/lang/Integer$IntegerCache"), (3, u "I"), (8, .class_ 204), (0, u "java/lang/Number"), (2, u "value"), (56, .integer 65536), (37, u "TYPE"), (0, u "Ljava/lang/Class;"), (0, .class_ 305), (0, u "java/lang/Comparable"), (0, .class_ 307), (0, u "java/lang/constant/Constable"), (0, .class_ 309), (0, u "java/lang/constant/ConstantDesc"), (0, u "MIN_VALUE"), (1, u "MAX_VALUE"), (3, u "SIZE"), (1, u "BYTES"), (1, u "serialVersionUID"), (0, u "J")] 131

def k10c0 : Code := { maxStack := 3, maxLocals := 2, code := jdk_33_method_47_code, exceptionTable := #[], attributes := #[] }
def k10m0 : Method := { name := "numberOfLeadingZeros", desc := "(I)I", sig := { parameters := [.int], returnType := some .int }, accessFlags := 9, code := some k10c0 }
/-- java/lang/Integer -/
def k10 : Class := { plain "java/lang/Integer" (some 6) with
  accessFlags := 49
  interfaces := #[7, 8, 9]
  cf := some (fileOf pool10 1 #[.nestMembers #[189]] #[{ accessFlags := 9, nameIndex := 53, descriptorIndex := 54, attributes := #[] }] 49 203 #[304, 306, 308] #[{ accessFlags := 25, nameIndex := 310, descriptorIndex := 194, attributes := #[] }, { accessFlags := 25, nameIndex := 312, descriptorIndex := 194, attributes := #[] }, { accessFlags := 25, nameIndex := 302, descriptorIndex := 303, attributes := #[] }, { accessFlags := 24, nameIndex := 19, descriptorIndex := 20, attributes := #[] }, { accessFlags := 24, nameIndex := 89, descriptorIndex := 86, attributes := #[] }, { accessFlags := 24, nameIndex := 85, descriptorIndex := 86, attributes := #[] }, { accessFlags := 18, nameIndex := 207, descriptorIndex := 194, attributes := #[] }, { accessFlags := 25, nameIndex := 316, descriptorIndex := 194, attributes := #[] }, { accessFlags := 25, nameIndex := 318, descriptorIndex := 194, attributes := #[] }, { accessFlags := 26, nameIndex := 320, descriptorIndex := 321, attributes := #[] }])
  fields := #[{ name := "MIN_VALUE", type := .int, accessFlags := 25, slot := 0, constantValue := 0 }, { name := "MAX_VALUE", type := .int, accessFlags := 25, slot := 1, constantValue := 0 }, { name := "TYPE", type := (.object "java/lang/Class"), accessFlags := 25, slot := 2, constantValue := 0 }, { name := "digits", type := (.array .char), accessFlags := 24, slot := 3, constantValue := 0 }, { name := "DigitTens", type := (.array .byte), accessFlags := 24, slot := 4, constantValue := 0 }, { name := "DigitOnes", type := (.array .byte), accessFlags := 24, slot := 5, constantValue := 0 }, { name := "value", type := .int, accessFlags := 18, slot := 0, constantValue := 0 }, { name := "SIZE", type := .int, accessFlags := 25, slot := 6, constantValue := 0 }, { name := "BYTES", type := .int, accessFlags := 25, slot := 7, constantValue := 0 }, { name := "serialVersionUID", type := .long, accessFlags := 26, slot := 8, constantValue := 0 }]
  methods := #[k10m0]
  instanceTypes := #[.int]
  staticTypes := #[.int, .int, (.object "java/lang/Class"), (.array .char), (.array .byte), (.array .byte), .int, .int, .long]
  resolved := Array.replicate 453 none
  statics := none }

def pool11 : Array CpInfo := pool [(1, .class_ 2), (0, u "java/lang/Math"), (1, .class_ 6), (1, u "java/lang/Object"), (0, u "<init>"), (0, u "()V"), (89, .class_ 100), (1, u "java/lang/Math$RandomNumberGeneratorHolder"), (20, u "(JJ)J"), (50, u "negativeZeroFloatBits"), (0, u "J"), (2, u "negativeZeroDoubleBits"), (21, u "max"), (2, u "min"), (43, u "$assertionsDisabled"), (0, u "Z"), (88, u "(II)I"), (2, u "twoToTheDoubleScaleDown"), (0, u "D"), (4, u "twoToTheDoubleScaleUp"), (9, u "E"), (3, u "PI"), (2, u "TAU"), (2, u "DEGREES_TO_RADIANS"), (0, u "RADIANS_TO_DEGREES")] 94

def k11m0 : Method := { name := "<init>", desc := "()V", sig := { parameters := [], returnType := none }, accessFlags := 2, code := none }
def k11c1 : Code := { maxStack := 4, maxLocals := 4, code := jdk_29_method_66_code, exceptionTable := #[], attributes := #[] }
def k11m1 : Method := { name := "max", desc := "(JJ)J", sig := { parameters := [.long, .long], returnType := some .long }, accessFlags := 9, code := some k11c1 }
def k11c2 : Code := { maxStack := 2, maxLocals := 2, code := jdk_29_method_69_code, exceptionTable := #[], attributes := #[] }
def k11m2 : Method := { name := "min", desc := "(II)I", sig := { parameters := [.int, .int], returnType := some .int }, accessFlags := 9, code := some k11c2 }
def k11c3 : Code := { maxStack := 4, maxLocals := 4, code := jdk_29_method_70_code, exceptionTable := #[], attributes := #[] }
def k11m3 : Method := { name := "min", desc := "(JJ)J", sig := { parameters := [.long, .long], returnType := some .long }, accessFlags := 9, code := some k11c3 }
/-- java/lang/Math -/
def k11 : Class := { plain "java/lang/Math" (some 0) with
  accessFlags := 49
  interfaces := #[]
  cf := some (fileOf pool11 1 #[.nestMembers #[98]] #[{ accessFlags := 2, nameIndex := 7, descriptorIndex := 8, attributes := #[] }, { accessFlags := 9, nameIndex := 198, descriptorIndex := 121, attributes := #[] }, { accessFlags := 9, nameIndex := 201, descriptorIndex := 335, attributes := #[] }, { accessFlags := 9, nameIndex := 201, descriptorIndex := 121, attributes := #[] }] 49 4 #[] #[{ accessFlags := 25, nameIndex := 354, descriptorIndex := 339, attributes := #[] }, { accessFlags := 25, nameIndex := 358, descriptorIndex := 339, attributes := #[] }, { accessFlags := 25, nameIndex := 361, descriptorIndex := 339, attributes := #[] }, { accessFlags := 26, nameIndex := 364, descriptorIndex := 339, attributes := #[] }, { accessFlags := 26, nameIndex := 365, descriptorIndex := 339, attributes := #[] }, { accessFlags := 26, nameIndex := 172, descriptorIndex := 173, attributes := #[] }, { accessFlags := 26, nameIndex := 176, descriptorIndex := 173, attributes := #[] }, { accessFlags := 8, nameIndex := 344, descriptorIndex := 339, attributes := #[] }, { accessFlags := 8, nameIndex := 338, descriptorIndex := 339, attributes := #[] }, { accessFlags := 4120, nameIndex := 245, descriptorIndex := 246, attributes := #[] }])
  fields := #[{ name := "E", type := .double, accessFlags := 25, slot := 0, constantValue := 0 }, { name := "PI", type := .double, accessFlags := 25, slot := 1, constantValue := 0 }, { name := "TAU", type := .double, accessFlags := 25, slot := 2, constantValue := 0 }, { name := "DEGREES_TO_RADIANS", type := .double, accessFlags := 26, slot := 3, constantValue := 0 }, { name := "RADIANS_TO_DEGREES", type := .double, accessFlags := 26, slot := 4, constantValue := 0 }, { name := "negativeZeroFloatBits", type := .long, accessFlags := 26, slot := 5, constantValue := 0 }, { name := "negativeZeroDoubleBits", type := .long, accessFlags := 26, slot := 6, constantValue := 0 }, { name := "twoToTheDoubleScaleUp", type := .double, accessFlags := 8, slot := 7, constantValue := 0 }, { name := "twoToTheDoubleScaleDown", type := .double, accessFlags := 8, slot := 8, constantValue := 0 }, { name := "$assertionsDisabled", type := .boolean, accessFlags := 4120, slot := 9, constantValue := 0 }]
  methods := #[k11m0, k11m1, k11m2, k11m3]
  instanceTypes := #[]
  staticTypes := #[.double, .double, .double, .double, .double, .long, .long, .double, .double, .boolean]
  resolved := Array.replicate 460 none
  statics := none }

def pool12 : Array CpInfo := pool [(2, .class_ 4), (1, u "java/lang/Object"), (0, u "<init>"), (0, u "()V"), (1, .class_ 10), (1, u "java/lang/System"), (0, u "allowSecurityManager"), (0, u "I"), (16, u "cons"), (0, u "Ljava/io/Console;"), (77, .class_ 110), (1, u "java/lang/System$CallersHolder"), (43, u "initialErrStream"), (0, u "Ljava/io/PrintStream;"), (19, u "security"), (0, u "Ljava/lang/SecurityManager;"), (31, .class_ 209), (0, u "java/lang/System$1"), (7, u "props"), (0, u "Ljava/util/Properties;"), (2, u "lineSeparator"), (0, u "Ljava/lang/String;"), (96, .class_ 321), (1, u "java/lang/System$LoggerFinder"), (5, .class_ 328), (0, u "java/lang/System$Logger"), (67, u "err"), (2, u "out"), (91, u "notSupportedJnuEncoding"), (15, u "in"), (17, u "initialIn"), (0, u "Ljava/io/InputStream;"), (35, u "bootLayer"), (0, u "Ljava/lang/ModuleLayer;"), (99, .class_ 664), (0, u "java/lang/System$2"), (9, u "NEVER"), (2, u "MAYBE"), (49, u "arraycopy"), (0, u "(Ljava/lang/Object;ILjava/lang/Object;II)V"), (72, .class_ 802), (0, u "java/lang/System$Logger$Level")] 31

def k12m0 : Method := { name := "<init>", desc := "()V", sig := { parameters := [], returnType := none }, accessFlags := 2, code := none }
def k12m1 : Method := { name := "arraycopy", desc := "(Ljava/lang/Object;ILjava/lang/Object;II)V", sig := { parameters := [(.object "java/lang/Object"), .int, (.object "java/lang/Object"), .int, .int], returnType := none }, accessFlags := 265, code := none }
/-- java/lang/System -/
def k12 : Class := { plain "java/lang/System" (some 0) with
  accessFlags := 49
  interfaces := #[]
  cf := some (fileOf pool12 8 #[.nestMembers #[319, 327, 801, 108, 663, 208]] #[{ accessFlags := 2, nameIndex := 5, descriptorIndex := 6, attributes := #[] }, { accessFlags := 265, nameIndex := 727, descriptorIndex := 728, attributes := #[] }] 49 2 #[] #[{ accessFlags := 25, nameIndex := 507, descriptorIndex := 526, attributes := #[] }, { accessFlags := 25, nameIndex := 399, descriptorIndex := 155, attributes := #[] }, { accessFlags := 25, nameIndex := 396, descriptorIndex := 155, attributes := #[] }, { accessFlags := 10, nameIndex := 525, descriptorIndex := 526, attributes := #[] }, { accessFlags := 26, nameIndex := 674, descriptorIndex := 12, attributes := #[] }, { accessFlags := 26, nameIndex := 677, descriptorIndex := 12, attributes := #[] }, { accessFlags := 10, nameIndex := 11, descriptorIndex := 12, attributes := #[] }, { accessFlags := 74, nameIndex := 175, descriptorIndex := 176, attributes := #[] }, { accessFlags := 10, nameIndex := 491, descriptorIndex := 222, attributes := #[] }, { accessFlags := 74, nameIndex := 29, descriptorIndex := 30, attributes := #[] }, { accessFlags := 74, nameIndex := 154, descriptorIndex := 155, attributes := #[] }, { accessFlags := 10, nameIndex := 217, descriptorIndex := 218, attributes := #[] }, { accessFlags := 10, nameIndex := 221, descriptorIndex := 222, attributes := #[] }, { accessFlags := 8, nameIndex := 562, descriptorIndex := 563, attributes := #[] }])
  fields := #[{ name := "in", type := (.object "java/io/InputStream"), accessFlags := 25, slot := 0, constantValue := 0 }, { name := "out", type := (.object "java/io/PrintStream"), accessFlags := 25, slot := 1, constantValue := 0 }, { name := "err", type := (.object "java/io/PrintStream"), accessFlags := 25, slot := 2, constantValue := 0 }, { name := "initialIn", type := (.object "java/io/InputStream"), accessFlags := 10, slot := 3, constantValue := 0 }, { name := "NEVER", type := .int, accessFlags := 26, slot := 4, constantValue := 0 }, { name := "MAYBE", type := .int, accessFlags := 26, slot := 5, constantValue := 0 }, { name := "allowSecurityManager", type := .int, accessFlags := 10, slot := 6, constantValue := 0 }, { name := "security", type := (.object "java/lang/SecurityManager"), accessFlags := 74, slot := 7, constantValue := 0 }, { name := "notSupportedJnuEncoding", type := (.object "java/lang/String"), accessFlags := 10, slot := 8, constantValue := 0 }, { name := "cons", type := (.object "java/io/Console"), accessFlags := 74, slot := 9, constantValue := 0 }, { name := "initialErrStream", type := (.object "java/io/PrintStream"), accessFlags := 74, slot := 10, constantValue := 0 }, { name := "props", type := (.object "java/util/Properties"), accessFlags := 10, slot := 11, constantValue := 0 }, { name := "lineSeparator", type := (.object "java/lang/String"), accessFlags := 10, slot := 12, constantValue := 0 }, { name := "bootLayer", type := (.object "java/lang/ModuleLayer"), accessFlags := 8, slot := 13, constantValue := 0 }]
  methods := #[k12m0, k12m1]
  instanceTypes := #[]
  staticTypes := #[(.object "java/io/InputStream"), (.object "java/io/PrintStream"), (.object "java/io/PrintStream"), (.object "java/io/InputStream"), .int, .int, .int, (.object "java/lang/SecurityManager"), (.object "java/lang/String"), (.object "java/io/Console"), (.object "java/io/PrintStream"), (.object "java/util/Properties"), (.object "java/lang/String"), (.object "java/lang/ModuleLayer")]
  resolved := Array.replicate 834 none
  statics := none }

def pool13 : Array CpInfo := pool [(1, u "java/lang/Cloneable"), (0, .class_ 1), (0, u "java/lang/Object"), (0, .class_ 3)] 3

/-- java/lang/Cloneable -/
def k13 : Class := { plain "java/lang/Cloneable" (some 0) with
  accessFlags := 1537
  interfaces := #[]
  cf := some (fileOf pool13 2 #[] #[] 1537 4 #[] #[])
  fields := #[]
  methods := #[]
  instanceTypes := #[]
  staticTypes := #[]
  resolved := Array.replicate 8 none
  statics := none }

/-- the primitive byte -/
def k14 : Class := { plain "byte" none with kind := .primitive 'B', accessFlags := 0x411 }
/-- [B -/
def k15 : Class := { plain "[B" (some 0) with kind := .array 14 .byte, interfaces := #[13, 5], accessFlags := 1041 }

/-- the primitive int -/
def k16 : Class := { plain "int" none with kind := .primitive 'I', accessFlags := 0x411 }
/-- [I -/
def k17 : Class := { plain "[I" (some 0) with kind := .array 16 .int, interfaces := #[13, 5], accessFlags := 1041 }

/-- the primitive long -/
def k18 : Class := { plain "long" none with kind := .primitive 'J', accessFlags := 0x411 }
/-- [J -/
def k19 : Class := { plain "[J" (some 0) with kind := .array 18 .long, interfaces := #[13, 5], accessFlags := 1041 }

def heap : Heap := #[]
def classes : Array Class := #[k0, k1, k2, k3, k4, k5, k6, k7, k8, k9, k10, k11, k12, k13, k14, k15, k16, k17, k18, k19]
def interned : List (Array UInt16 × Addr) := []
def slotsUsed : Nat := 0
def theMethod : MethodId := ⟨1, 2⟩
def args0 : Array Value := #[.int 5, .int 6, .int 7, .int 8, .int 9, .int 10]
def aboutOver (below : List Frame) : State where
  vm := { classes := classes, interned := interned.toArray }
  heap := heap
  slotsUsed := slotsUsed
  threads := #[{ frames := .invoking theMethod args0 :: below }]
def below0 : List Frame := [.native { method := ⟨0, 0⟩, args := #[] }]
def about1 : State := aboutOver below0
def p0 : Program := .bare "" "" ""
def e0 : Env := launch0.env 0 0 0
theorem w_frames : about1.frames = Frame.invoking theMethod args0 :: below0 := rfl
set_option maxRecDepth 65536 in
theorem w_args : argsFit about1.vm theMethod args0 = true := by decide +kernel
set_option maxRecDepth 65536 in
theorem w_heap : heapFits about1 = true := by decide +kernel
set_option maxRecDepth 65536 in
theorem w_runnable : about1.curStatus? = some .runnable := by decide +kernel
set_option maxRecDepth 65536 in
theorem w_alone : about1.alone = true := by decide +kernel
set_option maxRecDepth 65536 in
theorem w_named : about1.methodNamed? x = some theMethod := by decide +kernel
set_option maxRecDepth 65536 in
theorem w_hears : about1.hears theMethod below0 = true := by decide +kernel
set_option maxRecDepth 65536 in
theorem w_ripe : about1.ripe theMethod args0 below0 = true := by decide +kernel
theorem w_running : about1.status = .running := rfl
set_option maxRecDepth 65536 in
theorem w_room : about1.hasRoom e0.platform room_1 = true :=
  launch0.hasRoom_least _ room_1 (by decide +kernel) (by decide +kernel) (by decide +kernel) (by decide +kernel) (by decide +kernel) (by decide +kernel)
theorem allAtoms_all (ts : List Jvm.Cond) (a : Array Jvm.Value) (st : Jvm.State) : (allAtoms ts).before a st = ts.all (fun c => c.before a st) := by
  induction ts with
  | nil => rfl
  | cons c t ih =>
    show (Jvm.Cond.and c (allAtoms t)).before a st = _
    rw [Jvm.Cond.before_and, ih, List.all_cons]
def words1 : List Jvm.Cond := Jvm.Cond.code x code maxLocals ret :: tables_1
/-- a 'code' word, met by the world's own term for the bytes: nothing is compared byte by byte -/
theorem code_word {y : MethodName} {bytes : ByteArray} {mx : Nat} {rt : Option FieldType} {a : Array Value} {s : State} {m : MethodId} {meth : Method} {c : Code} (h1 : s.methodNamed? y = some m) (h2 : s.vm.method? m = some meth) (h3 : meth.code = some c) (h4 : c.code = bytes)
    (h5 : (c.maxLocals == mx && c.exceptionTable.isEmpty && decide (c.maxStack ≤ mostOperands) && decide (meth.sig.returnType = rt) && !meth.locks && decide (parseMethodDescriptor y.desc = some meth.sig)) = true) : (Jvm.Cond.code y bytes mx rt).before a s = true := by
  simp only [Bool.and_eq_true, beq_iff_eq, Bool.not_eq_true', decide_eq_true_eq] at h5
  obtain ⟨⟨⟨⟨⟨g1, g2⟩, g3⟩, g4⟩, g5⟩, g6⟩ := h5
  simp [Cond.before, Cond.holds, Cond.value, h1, h2, h3, h4, g1, g2, g3, g4, g5, g6]
def isCode : Jvm.Cond → Bool
  | .code _ _ _ _ => true
  | _ => false
theorem all_split {L : List Jvm.Cond} {P : Jvm.Cond → Bool} (h1 : L.all (fun c => isCode c || P c) = true) (h2 : ∀ c ∈ L.filter isCode, P c = true) : L.all P = true := by
  refine List.all_eq_true.mpr fun c hc => ?_
  have h := List.all_eq_true.mp h1 c hc
  rcases Bool.eq_false_or_eq_true (isCode c) with hi | hi
  · exact h2 c (List.mem_filter.mpr ⟨hc, hi⟩)
  · simpa [hi] using h
set_option maxRecDepth 65536 in
theorem w_c0 : (Jvm.Cond.code x code maxLocals ret).before args0 about1 = true := code_word (m := ⟨1, 2⟩) (meth := k1m2) (c := k1c2) (by decide +kernel) rfl rfl rfl (by decide +kernel)
set_option maxRecDepth 65536 in
theorem w_c1 : (Jvm.Cond.code ({ cls := "com/example/divergence/divergence/engine/StateStore", name := "<init>", desc := "(I)V" } : Jvm.MethodName) prog_98_method_1_code (2 : Nat) (Option.none : Option Jvm.ClassFile.FieldType)).before args0 about1 = true := code_word (m := ⟨2, 0⟩) (meth := k2m0) (c := k2c0) (by decide +kernel) rfl rfl rfl (by decide +kernel)
set_option maxRecDepth 65536 in
theorem w_c2 : (Jvm.Cond.code ({ cls := "java/lang/Object", name := "<init>", desc := "()V" } : Jvm.MethodName) object_method_1_code (1 : Nat) (Option.none : Option Jvm.ClassFile.FieldType)).before args0 about1 = true := code_word (m := ⟨0, 0⟩) (meth := k0m0) (c := k0c0) (by decide +kernel) rfl rfl rfl (by decide +kernel)
set_option maxRecDepth 65536 in
theorem w_c3 : (Jvm.Cond.code ({ cls := "java/util/Arrays", name := "fill", desc := "([II)V" } : Jvm.MethodName) jdk_65_method_103_code (4 : Nat) (Option.none : Option Jvm.ClassFile.FieldType)).before args0 about1 = true := code_word (m := ⟨3, 4⟩) (meth := k3m4) (c := k3c4) (by decide +kernel) rfl rfl rfl (by decide +kernel)
set_option maxRecDepth 65536 in
theorem w_c4 : (Jvm.Cond.code ({ cls := "com/example/divergence/divergence/engine/StateStore$Layout", name := "<init>", desc := "([I)V" } : Jvm.MethodName) prog_99_method_1_code (5 : Nat) (Option.none : Option Jvm.ClassFile.FieldType)).before args0 about1 = true := code_word (m := ⟨4, 0⟩) (meth := k4m0) (c := k4c0) (by decide +kernel) rfl rfl rfl (by decide +kernel)
set_option maxRecDepth 65536 in
theorem w_c5 : (Jvm.Cond.code ({ cls := "com/example/divergence/divergence/engine/StateStore", name := "add", desc := "([I)I" } : Jvm.MethodName) prog_98_method_2_code (3 : Nat) (Option.some Jvm.ClassFile.FieldType.int)).before args0 about1 = true := code_word (m := ⟨2, 1⟩) (meth := k2m1) (c := k2c1) (by decide +kernel) rfl rfl rfl (by decide +kernel)
set_option maxRecDepth 65536 in
theorem w_c6 : (Jvm.Cond.code ({ cls := "java/util/Arrays", name := "fill", desc := "([JJ)V" } : Jvm.MethodName) jdk_65_method_101_code (5 : Nat) (Option.none : Option Jvm.ClassFile.FieldType)).before args0 about1 = true := code_word (m := ⟨3, 2⟩) (meth := k3m2) (c := k3c2) (by decide +kernel) rfl rfl rfl (by decide +kernel)
set_option maxRecDepth 65536 in
theorem w_c7 : (Jvm.Cond.code ({ cls := "com/example/divergence/divergence/engine/StateStore", name := "set", desc := "(II)V" } : Jvm.MethodName) prog_98_method_5_code (5 : Nat) (Option.none : Option Jvm.ClassFile.FieldType)).before args0 about1 = true := code_word (m := ⟨2, 3⟩) (meth := k2m3) (c := k2c3) (by decide +kernel) rfl rfl rfl (by decide +kernel)
set_option maxRecDepth 65536 in
theorem w_c8 : (Jvm.Cond.code ({ cls := "com/example/divergence/divergence/engine/StateStore", name := "widen", desc := "(II)V" } : Jvm.MethodName) prog_98_method_9_code (5 : Nat) (Option.none : Option Jvm.ClassFile.FieldType)).before args0 about1 = true := code_word (m := ⟨2, 5⟩) (meth := k2m5) (c := k2c5) (by decide +kernel) rfl rfl rfl (by decide +kernel)
set_option maxRecDepth 65536 in
theorem w_c9 : (Jvm.Cond.code ({ cls := "java/lang/Integer", name := "numberOfLeadingZeros", desc := "(I)I" } : Jvm.MethodName) jdk_33_method_47_code (2 : Nat) (Option.some Jvm.ClassFile.FieldType.int)).before args0 about1 = true := code_word (m := ⟨10, 0⟩) (meth := k10m0) (c := k10c0) (by decide +kernel) rfl rfl rfl (by decide +kernel)
set_option maxRecDepth 65536 in
theorem w_c10 : (Jvm.Cond.code ({ cls := "java/lang/Math", name := "min", desc := "(II)I" } : Jvm.MethodName) jdk_29_method_69_code (2 : Nat) (Option.some Jvm.ClassFile.FieldType.int)).before args0 about1 = true := code_word (m := ⟨11, 2⟩) (meth := k11m2) (c := k11c2) (by decide +kernel) rfl rfl rfl (by decide +kernel)
set_option maxRecDepth 65536 in
theorem w_c11 : (Jvm.Cond.code ({ cls := "com/example/divergence/divergence/engine/StateStore", name := "vectorsLength", desc := "(JI)I" } : Jvm.MethodName) prog_98_method_12_code (6 : Nat) (Option.some Jvm.ClassFile.FieldType.int)).before args0 about1 = true := code_word (m := ⟨2, 8⟩) (meth := k2m8) (c := k2c8) (by decide +kernel) rfl rfl rfl (by decide +kernel)
set_option maxRecDepth 65536 in
theorem w_c12 : (Jvm.Cond.code ({ cls := "java/lang/Math", name := "max", desc := "(JJ)J" } : Jvm.MethodName) jdk_29_method_66_code (4 : Nat) (Option.some Jvm.ClassFile.FieldType.long)).before args0 about1 = true := code_word (m := ⟨11, 1⟩) (meth := k11m1) (c := k11c1) (by decide +kernel) rfl rfl rfl (by decide +kernel)
set_option maxRecDepth 65536 in
theorem w_c13 : (Jvm.Cond.code ({ cls := "java/lang/Math", name := "min", desc := "(JJ)J" } : Jvm.MethodName) jdk_29_method_70_code (4 : Nat) (Option.some Jvm.ClassFile.FieldType.long)).before args0 about1 = true := code_word (m := ⟨11, 3⟩) (meth := k11m3) (c := k11c3) (by decide +kernel) rfl rfl rfl (by decide +kernel)
set_option maxRecDepth 65536 in
theorem w_c14 : (Jvm.Cond.code ({ cls := "com/example/divergence/divergence/engine/StateStore", name := "repacked", desc := "([JILcom/example/divergence/divergence/engine/StateStore$Layout;I)[J" } : Jvm.MethodName) prog_98_method_10_code (8 : Nat) (Option.some (Jvm.ClassFile.FieldType.array Jvm.ClassFile.FieldType.long))).before args0 about1 = true := code_word (m := ⟨2, 6⟩) (meth := k2m6) (c := k2c6) (by decide +kernel) rfl rfl rfl (by decide +kernel)
set_option maxRecDepth 65536 in
theorem w_c15 : (Jvm.Cond.code ({ cls := "com/example/divergence/divergence/engine/StateStore$Layout", name := "unpack", desc := "([JI[I)V" } : Jvm.MethodName) prog_99_method_3_code (5 : Nat) (Option.none : Option Jvm.ClassFile.FieldType)).before args0 about1 = true := code_word (m := ⟨4, 2⟩) (meth := k4m2) (c := k4c2) (by decide +kernel) rfl rfl rfl (by decide +kernel)
set_option maxRecDepth 65536 in
theorem w_c16 : (Jvm.Cond.code ({ cls := "com/example/divergence/divergence/engine/StateStore$Layout", name := "pack", desc := "([I[JI)V" } : Jvm.MethodName) prog_99_method_2_code (5 : Nat) (Option.none : Option Jvm.ClassFile.FieldType)).before args0 about1 = true := code_word (m := ⟨4, 1⟩) (meth := k4m1) (c := k4c1) (by decide +kernel) rfl rfl rfl (by decide +kernel)
set_option maxRecDepth 65536 in
theorem w_c17 : (Jvm.Cond.code ({ cls := "java/util/Arrays", name := "fill", desc := "([JIIJ)V" } : Jvm.MethodName) jdk_65_method_102_code (6 : Nat) (Option.none : Option Jvm.ClassFile.FieldType)).before args0 about1 = true := code_word (m := ⟨3, 3⟩) (meth := k3m3) (c := k3c3) (by decide +kernel) rfl rfl rfl (by decide +kernel)
set_option maxRecDepth 65536 in
theorem w_c18 : (Jvm.Cond.code ({ cls := "java/util/Arrays", name := "rangeCheck", desc := "(III)V" } : Jvm.MethodName) jdk_65_method_30_code (3 : Nat) (Option.none : Option Jvm.ClassFile.FieldType)).before args0 about1 = true := code_word (m := ⟨3, 1⟩) (meth := k3m1) (c := k3c1) (by decide +kernel) rfl rfl rfl (by decide +kernel)
set_option maxRecDepth 65536 in
theorem w_c19 : (Jvm.Cond.code ({ cls := "com/example/divergence/divergence/engine/StateStore", name := "rebuild", desc := "(I)V" } : Jvm.MethodName) prog_98_method_11_code (5 : Nat) (Option.none : Option Jvm.ClassFile.FieldType)).before args0 about1 = true := code_word (m := ⟨2, 7⟩) (meth := k2m7) (c := k2c7) (by decide +kernel) rfl rfl rfl (by decide +kernel)
set_option maxRecDepth 65536 in
theorem w_c20 : (Jvm.Cond.code ({ cls := "com/example/divergence/divergence/engine/StateStore", name := "hash", desc := "([JII)I" } : Jvm.MethodName) prog_98_method_13_code (6 : Nat) (Option.some Jvm.ClassFile.FieldType.int)).before args0 about1 = true := code_word (m := ⟨2, 9⟩) (meth := k2m9) (c := k2c9) (by decide +kernel) rfl rfl rfl (by decide +kernel)
set_option maxRecDepth 65536 in
theorem w_c21 : (Jvm.Cond.code ({ cls := "com/example/divergence/divergence/engine/StateStore", name := "mix", desc := "(J)J" } : Jvm.MethodName) prog_98_method_14_code (4 : Nat) (Option.some Jvm.ClassFile.FieldType.long)).before args0 about1 = true := code_word (m := ⟨2, 10⟩) (meth := k2m10) (c := k2c10) (by decide +kernel) rfl rfl rfl (by decide +kernel)
set_option maxRecDepth 65536 in
theorem w_c22 : (Jvm.Cond.code ({ cls := "com/example/divergence/divergence/engine/StateStore", name := "add", desc := "([JII)I" } : Jvm.MethodName) prog_98_method_8_code (10 : Nat) (Option.some Jvm.ClassFile.FieldType.int)).before args0 about1 = true := code_word (m := ⟨2, 4⟩) (meth := k2m4) (c := k2c4) (by decide +kernel) rfl rfl rfl (by decide +kernel)
set_option maxRecDepth 65536 in
theorem w_c23 : (Jvm.Cond.code ({ cls := "com/example/divergence/divergence/engine/StateStore", name := "get", desc := "(I[I)V" } : Jvm.MethodName) prog_98_method_3_code (3 : Nat) (Option.none : Option Jvm.ClassFile.FieldType)).before args0 about1 = true := code_word (m := ⟨2, 2⟩) (meth := k2m2) (c := k2c2) (by decide +kernel) rfl rfl rfl (by decide +kernel)
set_option maxRecDepth 65536 in
theorem w_c24 : (Jvm.Cond.code ({ cls := "com/example/divergence/divergence/engine/StateStoreGetPinLaw", name := "eq", desc := "([I[I)Z" } : Jvm.MethodName) method_2_code (2 : Nat) (Option.some Jvm.ClassFile.FieldType.boolean)).before args0 about1 = true := code_word (m := ⟨1, 1⟩) (meth := k1m1) (c := k1c1) (by decide +kernel) rfl rfl rfl (by decide +kernel)
def codes1 : List Jvm.Cond := [Jvm.Cond.code x code maxLocals ret, Jvm.Cond.code ({ cls := "com/example/divergence/divergence/engine/StateStore", name := "<init>", desc := "(I)V" } : Jvm.MethodName) prog_98_method_1_code (2 : Nat) (Option.none : Option Jvm.ClassFile.FieldType), Jvm.Cond.code ({ cls := "java/lang/Object", name := "<init>", desc := "()V" } : Jvm.MethodName) object_method_1_code (1 : Nat) (Option.none : Option Jvm.ClassFile.FieldType), Jvm.Cond.code ({ cls := "java/util/Arrays", name := "fill", desc := "([II)V" } : Jvm.MethodName) jdk_65_method_103_code (4 : Nat) (Option.none : Option Jvm.ClassFile.FieldType), Jvm.Cond.code ({ cls := "com/example/divergence/divergence/engine/StateStore$Layout", name := "<init>", desc := "([I)V" } : Jvm.MethodName) prog_99_method_1_code (5 : Nat) (Option.none : Option Jvm.ClassFile.FieldType), Jvm.Cond.code ({ cls := "com/example/divergence/divergence/engine/StateStore", name := "add", desc := "([I)I" } : Jvm.MethodName) prog_98_method_2_code (3 : Nat) (Option.some Jvm.ClassFile.FieldType.int), Jvm.Cond.code ({ cls := "java/util/Arrays", name := "fill", desc := "([JJ)V" } : Jvm.MethodName) jdk_65_method_101_code (5 : Nat) (Option.none : Option Jvm.ClassFile.FieldType), Jvm.Cond.code ({ cls := "com/example/divergence/divergence/engine/StateStore", name := "set", desc := "(II)V" } : Jvm.MethodName) prog_98_method_5_code (5 : Nat) (Option.none : Option Jvm.ClassFile.FieldType), Jvm.Cond.code ({ cls := "com/example/divergence/divergence/engine/StateStore", name := "widen", desc := "(II)V" } : Jvm.MethodName) prog_98_method_9_code (5 : Nat) (Option.none : Option Jvm.ClassFile.FieldType), Jvm.Cond.code ({ cls := "java/lang/Integer", name := "numberOfLeadingZeros", desc := "(I)I" } : Jvm.MethodName) jdk_33_method_47_code (2 : Nat) (Option.some Jvm.ClassFile.FieldType.int), Jvm.Cond.code ({ cls := "java/lang/Math", name := "min", desc := "(II)I" } : Jvm.MethodName) jdk_29_method_69_code (2 : Nat) (Option.some Jvm.ClassFile.FieldType.int), Jvm.Cond.code ({ cls := "com/example/divergence/divergence/engine/StateStore", name := "vectorsLength", desc := "(JI)I" } : Jvm.MethodName) prog_98_method_12_code (6 : Nat) (Option.some Jvm.ClassFile.FieldType.int), Jvm.Cond.code ({ cls := "java/lang/Math", name := "max", desc := "(JJ)J" } : Jvm.MethodName) jdk_29_method_66_code (4 : Nat) (Option.some Jvm.ClassFile.FieldType.long), Jvm.Cond.code ({ cls := "java/lang/Math", name := "min", desc := "(JJ)J" } : Jvm.MethodName) jdk_29_method_70_code (4 : Nat) (Option.some Jvm.ClassFile.FieldType.long), Jvm.Cond.code ({ cls := "com/example/divergence/divergence/engine/StateStore", name := "repacked", desc := "([JILcom/example/divergence/divergence/engine/StateStore$Layout;I)[J" } : Jvm.MethodName) prog_98_method_10_code (8 : Nat) (Option.some (Jvm.ClassFile.FieldType.array Jvm.ClassFile.FieldType.long)), Jvm.Cond.code ({ cls := "com/example/divergence/divergence/engine/StateStore$Layout", name := "unpack", desc := "([JI[I)V" } : Jvm.MethodName) prog_99_method_3_code (5 : Nat) (Option.none : Option Jvm.ClassFile.FieldType), Jvm.Cond.code ({ cls := "com/example/divergence/divergence/engine/StateStore$Layout", name := "pack", desc := "([I[JI)V" } : Jvm.MethodName) prog_99_method_2_code (5 : Nat) (Option.none : Option Jvm.ClassFile.FieldType), Jvm.Cond.code ({ cls := "java/util/Arrays", name := "fill", desc := "([JIIJ)V" } : Jvm.MethodName) jdk_65_method_102_code (6 : Nat) (Option.none : Option Jvm.ClassFile.FieldType), Jvm.Cond.code ({ cls := "java/util/Arrays", name := "rangeCheck", desc := "(III)V" } : Jvm.MethodName) jdk_65_method_30_code (3 : Nat) (Option.none : Option Jvm.ClassFile.FieldType), Jvm.Cond.code ({ cls := "com/example/divergence/divergence/engine/StateStore", name := "rebuild", desc := "(I)V" } : Jvm.MethodName) prog_98_method_11_code (5 : Nat) (Option.none : Option Jvm.ClassFile.FieldType), Jvm.Cond.code ({ cls := "com/example/divergence/divergence/engine/StateStore", name := "hash", desc := "([JII)I" } : Jvm.MethodName) prog_98_method_13_code (6 : Nat) (Option.some Jvm.ClassFile.FieldType.int), Jvm.Cond.code ({ cls := "com/example/divergence/divergence/engine/StateStore", name := "mix", desc := "(J)J" } : Jvm.MethodName) prog_98_method_14_code (4 : Nat) (Option.some Jvm.ClassFile.FieldType.long), Jvm.Cond.code ({ cls := "com/example/divergence/divergence/engine/StateStore", name := "add", desc := "([JII)I" } : Jvm.MethodName) prog_98_method_8_code (10 : Nat) (Option.some Jvm.ClassFile.FieldType.int), Jvm.Cond.code ({ cls := "com/example/divergence/divergence/engine/StateStore", name := "get", desc := "(I[I)V" } : Jvm.MethodName) prog_98_method_3_code (3 : Nat) (Option.none : Option Jvm.ClassFile.FieldType), Jvm.Cond.code ({ cls := "com/example/divergence/divergence/engine/StateStoreGetPinLaw", name := "eq", desc := "([I[I)Z" } : Jvm.MethodName) method_2_code (2 : Nat) (Option.some Jvm.ClassFile.FieldType.boolean)]
set_option maxRecDepth 65536 in
theorem codes_eq : words1.filter isCode = codes1 := rfl
theorem w_codes : ∀ c ∈ words1.filter isCode, c.before args0 about1 = true := by
  rw [codes_eq]
  intro c hc
  simp only [codes1, List.mem_cons, List.not_mem_nil, or_false] at hc
  rcases hc with rfl | rfl | rfl | rfl | rfl | rfl | rfl | rfl | rfl | rfl | rfl | rfl | rfl | rfl | rfl | rfl | rfl | rfl | rfl | rfl | rfl | rfl | rfl | rfl | rfl
  · exact w_c0
  · exact w_c1
  · exact w_c2
  · exact w_c3
  · exact w_c4
  · exact w_c5
  · exact w_c6
  · exact w_c7
  · exact w_c8
  · exact w_c9
  · exact w_c10
  · exact w_c11
  · exact w_c12
  · exact w_c13
  · exact w_c14
  · exact w_c15
  · exact w_c16
  · exact w_c17
  · exact w_c18
  · exact w_c19
  · exact w_c20
  · exact w_c21
  · exact w_c22
  · exact w_c23
  · exact w_c24
set_option maxRecDepth 65536 in
theorem w_t1 : (words1.take 24).all (fun c => isCode c || c.before args0 about1) = true := by decide +kernel
set_option maxRecDepth 65536 in
theorem w_t2 : ((words1.drop 24).take 24).all (fun c => isCode c || c.before args0 about1) = true := by decide +kernel
set_option maxRecDepth 65536 in
theorem w_t3 : (((words1.drop 24).drop 24).take 24).all (fun c => isCode c || c.before args0 about1) = true := by decide +kernel
set_option maxRecDepth 65536 in
theorem w_t4 : ((((words1.drop 24).drop 24).drop 24).take 24).all (fun c => isCode c || c.before args0 about1) = true := by decide +kernel
set_option maxRecDepth 65536 in
theorem w_t5 : (((((words1.drop 24).drop 24).drop 24).drop 24).take 24).all (fun c => isCode c || c.before args0 about1) = true := by decide +kernel
set_option maxRecDepth 65536 in
theorem w_t6 : ((((((words1.drop 24).drop 24).drop 24).drop 24).drop 24).take 24).all (fun c => isCode c || c.before args0 about1) = true := by decide +kernel
set_option maxRecDepth 65536 in
theorem w_t7 : ((((((words1.drop 24).drop 24).drop 24).drop 24).drop 24).drop 24).all (fun c => isCode c || c.before args0 about1) = true := by decide +kernel
theorem w_tables : (allAtoms (Jvm.Cond.code x code maxLocals ret :: tables_1)).before args0 about1 = true := by
  rw [allAtoms_all]
  show words1.all (fun c => c.before args0 about1) = true
  refine all_split ?_ w_codes
  rw [← List.take_append_drop 24 words1, List.all_append, w_t1, ← List.take_append_drop 24 (words1.drop 24), List.all_append, w_t2, ← List.take_append_drop 24 ((words1.drop 24).drop 24), List.all_append, w_t3, ← List.take_append_drop 24 (((words1.drop 24).drop 24).drop 24), List.all_append, w_t4, ← List.take_append_drop 24 ((((words1.drop 24).drop 24).drop 24).drop 24), List.all_append, w_t5, ← List.take_append_drop 24 (((((words1.drop 24).drop 24).drop 24).drop 24).drop 24), List.all_append, w_t6, w_t7]
  rfl
set_option maxRecDepth 65536 in
theorem w_case : (Jvm.Cond.and given_1 narrow_1).before args0 about1 = true := by decide +kernel
theorem w_applies : (headSpec (Jvm.Cond.code x code maxLocals ret :: tables_1) room_1).applies x e0.platform about1 = true :=
  (Spec.applies_iff w_frames).mpr ⟨w_running, w_runnable, w_alone, w_named, w_hears, w_ripe, w_room, w_tables⟩
theorem atStart : AtStart classFile x code maxLocals ret World_1 tables_1 room_1 Calls_1 rest_1 Pre_1 launch0 p0 e0 about1 theMethod args0 below0 :=
  ⟨lists_1, trivial, launch0.admits_env _ _ _, launch0.least_env, fairChoices_fair.cas, fairChoices_fair.clock, w_frames, w_args, w_heap, w_applies, trivial, trivial, w_case⟩
end start1
theorem witness_1 : WitnessClaimed_1 := ⟨start1.p0, start1.e0, start1.about1, start1.theMethod, start1.args0, start1.below0, start1.atStart⟩
end Jvm.Pilot.@@N@@
