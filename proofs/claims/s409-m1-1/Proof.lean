import JvmDerived
import JvmDerived.Pilot.@@N@@Statement
import JvmDerived.Pilot.@@N@@Code
set_option linter.unusedVariables false
set_option linter.unusedSimpArgs false
namespace Jvm.OwnKit
open Sem ClassFile Op Lib Jvm.Stand Jvm.Free Jvm.LawKit Jvm.RoadKit
/-- what stays the same in one body: program, launch, environment, room, first state, method, arguments, frames below, method record, code -/
abbrev Cx := Program × Launch × Env × Room × State × MethodId × Array Value × List Frame × Method × Code
/-- from here the body runs to its end, and Q holds of what it returns and of the heap then -/
def G (k : Cx) (n0 : Nat) (Q : Option Value → Heap → Prop) (h : Heap) (cells slots pc : Nat) (Ls : List Slot) (St : List Value) : Prop :=
  cells ≤ k.2.2.2.1.cells → slots ≤ k.2.2.2.1.slots → ∀ (T : State) (locs : List Loc),
  Stand k.1 k.2.1 k.2.2.1 k.2.2.2.1 k.2.2.2.2.1 k.2.2.2.2.2.1 k.2.2.2.2.2.2.1 k.2.2.2.2.2.2.2.1 k.2.2.2.2.2.2.2.2.1 k.2.2.2.2.2.2.2.2.2 T locs cells slots → T.heap = h → Fr n0 locs →
  ∃ s₂ o, Steps k.1.tables k.2.2.1 k.2.2.2.2.2.2.2.1 (T.setTop (mkF k.2.2.2.2.2.1 pc ⟨Ls⟩ St)) s₂ ∧ s₂.status = .running ∧ Ended s₂ k.2.2.2.2.2.2.2.1 o ∧
    ∃ v L, o = .returned v ∧ (Q v s₂.heap ∧ Fr n0 L) ∧ FrameEnd k.2.2.2.2.1 o s₂ L k.2.2.2.1.cells k.2.2.2.1.slots
/-- what is known of the body all along -/
def Ok (k : Cx) (Z : State) (n0 : Nat) (own : String) (R : Room) (bytes : ByteArray) (maxL : Nat) (ret : Option FieldType) (nm : String) : Prop :=
  k.1.tables.exec = Jvm.exec ∧ Z.Warmed39 k.2.2.2.2.1.vm ∧ k.2.2.2.2.1.vm.findClass own = some k.2.2.2.2.2.1.cls ∧ k.2.2.2.1 = R ∧ k.2.2.2.2.2.2.2.2.2.code = bytes ∧
  k.2.2.2.2.2.2.2.2.2.maxLocals = maxL ∧ k.2.2.2.2.2.2.2.2.1.sig.returnType = ret ∧ k.2.2.2.2.2.2.2.2.1.locks = false ∧ k.2.2.2.2.2.2.2.2.1.name = nm ∧ n0 ≤ k.2.2.2.2.1.heap.size
def Dc (bytes : ByteArray) (pc : Nat) (i : Instr) (len pc' : Nat) : Prop := decode bytes pc = .ok (i, len) ∧ pc' = pc + len
def Db (bytes : ByteArray) (pc : Nat) (f : Int → Instr) (nx tg : Nat) : Prop := ∃ o : Int, decode bytes pc = .ok (f o, 3) ∧ nx = pc + 3 ∧ 0 ≤ (pc : Int) + o ∧ ((pc : Int) + o).toNat = tg
theorem dc {bytes : ByteArray} {pc : Nat} {i : Instr} {len : Nat} (h : decode bytes pc = .ok (i, len)) {pc' : Nat} (e : pc' = pc + len) : Dc bytes pc i len pc' := ⟨h, e⟩
theorem db {bytes : ByteArray} {pc : Nat} {f : Int → Instr} (o : Int) (h : decode bytes pc = .ok (f o, 3)) {nx tg : Nat} (e : nx = pc + 3) (e2 : 0 ≤ (pc : Int) + o) (e3 : ((pc : Int) + o).toNat = tg) : Db bytes pc f nx tg := ⟨o, h, e, e2, e3⟩
variable {k : Cx} {Z : State} {n0 : Nat} {own : String} {R : Room} {bytes : ByteArray} {maxL : Nat} {ret : Option FieldType} {nm : String} {Q : Option Value → Heap → Prop} {h : Heap} {cells slots pc pc' nx tg : Nat} {Ls Ls' : List Slot} {St St' : List Value} {a0 : Array Value}
theorem mvD {own : String} {i : Nat} {v : UInt64} {Z s : State} {a0 args : Array Value} (hZ : Z.Warmed39 s.vm) (w : (Cond.constantDouble own i v).before a0 Z = true) : (Cond.constantDouble own i v).before args s = true := by
  have h1 := Cond.constantDouble_setVm (s := Z) (args := a0) hZ.alike own i v
  rw [w] at h1
  exact h1
/-- one step that moves neither heap nor tables -/
theorem G.plain {p : Program} {l : Launch} {e : Env} {R : Room} {s : State} {m : MethodId} {args : Array Value} {below : List Frame} {meth : Method} {c : Code}
    (st : ∀ T locs target, Stand p l e R s m args below meth c T locs cells slots → Steps p.tables e below (T.setTop (mkF m pc' ⟨Ls'⟩ St')) target → Steps p.tables e below (T.setTop (mkF m pc ⟨Ls⟩ St)) target)
    (g : G (p, l, e, R, s, m, args, below, meth, c) n0 Q h cells slots pc' Ls' St') : G (p, l, e, R, s, m, args, below, meth, c) n0 Q h cells slots pc Ls St := by
  intro hc hs T locs X eT N
  obtain ⟨s₂, o, h1, r⟩ := g hc hs T locs X eT N
  exact ⟨s₂, o, st T locs s₂ X h1, r⟩
/-- one step that leaves the heap as it is -/
theorem G.moved {p : Program} {l : Launch} {e : Env} {R : Room} {s : State} {m : MethodId} {args : Array Value} {below : List Frame} {meth : Method} {c : Code}
    (st : ∀ T locs, Stand p l e R s m args below meth c T locs cells slots → T.heap = h → ∃ T', Stand p l e R s m args below meth c T' locs cells slots ∧ T'.heap = h ∧ ∀ target, Steps p.tables e below (T'.setTop (mkF m pc' ⟨Ls'⟩ St')) target → Steps p.tables e below (T.setTop (mkF m pc ⟨Ls⟩ St)) target)
    (g : G (p, l, e, R, s, m, args, below, meth, c) n0 Q h cells slots pc' Ls' St') : G (p, l, e, R, s, m, args, below, meth, c) n0 Q h cells slots pc Ls St := by
  intro hc hs T locs X eT N
  obtain ⟨T', X', eT', st⟩ := st T locs X eT
  obtain ⟨s₂, o, h1, r⟩ := g hc hs T' locs X' eT' N
  exact ⟨s₂, o, st s₂ h1, r⟩
theorem G.more {cells' slots' : Nat} (K : Ok k Z n0 own R bytes maxL ret nm) (g : G k n0 Q h cells' slots' pc Ls St) (hc : cells ≤ cells') (hs : slots ≤ slots') (hc' : cells' ≤ R.cells) (hs' : slots' ≤ R.slots) : G k n0 Q h cells slots pc Ls St := by
  obtain ⟨-, -, -, rfl, -⟩ := K
  intro _ _ T locs X eT N
  exact g hc' hs' T locs (X.more hc hs) eT N
theorem G.post {Q' : Option Value → Heap → Prop} (g : G k n0 Q' h cells slots pc Ls St) (q : ∀ v h, Q' v h → Q v h) : G k n0 Q h cells slots pc Ls St := by
  intro hc hs T locs X eT N
  obtain ⟨s₂, o, h1, h2, h3, v, L, h4, ⟨h5, h6⟩, h7⟩ := g hc hs T locs X eT N
  exact ⟨s₂, o, h1, h2, h3, v, L, h4, ⟨q _ _ h5, h6⟩, h7⟩
theorem G.iadd (K : Ok k Z n0 own R bytes maxL ret nm) {x y : Int32} (d : Dc bytes pc .iadd 1 pc') (g : G k n0 Q h cells slots pc' Ls (.int (x + y) :: St)) : G k n0 Q h cells slots pc Ls (.int y :: .int x :: St) := by
  obtain ⟨p, l, e, R', s, m, args, below, meth, c⟩ := k
  obtain ⟨hx, hZ, hown, rfl, rfl, rfl, rfl, hlk, rfl, hn0⟩ := K
  obtain ⟨d, rfl⟩ := d
  exact G.plain (fun T locs t X q => XS.iadd X.here hx rfl d rfl q) g
theorem G.isub (K : Ok k Z n0 own R bytes maxL ret nm) {x y : Int32} (d : Dc bytes pc .isub 1 pc') (g : G k n0 Q h cells slots pc' Ls (.int (x - y) :: St)) : G k n0 Q h cells slots pc Ls (.int y :: .int x :: St) := by
  obtain ⟨p, l, e, R', s, m, args, below, meth, c⟩ := k
  obtain ⟨hx, hZ, hown, rfl, rfl, rfl, rfl, hlk, rfl, hn0⟩ := K
  obtain ⟨d, rfl⟩ := d
  exact G.plain (fun T locs t X q => XS.isub X.here hx rfl d rfl q) g
theorem G.imul (K : Ok k Z n0 own R bytes maxL ret nm) {x y : Int32} (d : Dc bytes pc .imul 1 pc') (g : G k n0 Q h cells slots pc' Ls (.int (x * y) :: St)) : G k n0 Q h cells slots pc Ls (.int y :: .int x :: St) := by
  obtain ⟨p, l, e, R', s, m, args, below, meth, c⟩ := k
  obtain ⟨hx, hZ, hown, rfl, rfl, rfl, rfl, hlk, rfl, hn0⟩ := K
  obtain ⟨d, rfl⟩ := d
  exact G.plain (fun T locs t X q => XS.imul X.here hx rfl d rfl q) g
theorem G.iand (K : Ok k Z n0 own R bytes maxL ret nm) {x y : Int32} (d : Dc bytes pc .iand 1 pc') (g : G k n0 Q h cells slots pc' Ls (.int (x &&& y) :: St)) : G k n0 Q h cells slots pc Ls (.int y :: .int x :: St) := by
  obtain ⟨p, l, e, R', s, m, args, below, meth, c⟩ := k
  obtain ⟨hx, hZ, hown, rfl, rfl, rfl, rfl, hlk, rfl, hn0⟩ := K
  obtain ⟨d, rfl⟩ := d
  exact G.plain (fun T locs t X q => XS.iand X.here hx rfl d rfl q) g
theorem G.ior (K : Ok k Z n0 own R bytes maxL ret nm) {x y : Int32} (d : Dc bytes pc .ior 1 pc') (g : G k n0 Q h cells slots pc' Ls (.int (x ||| y) :: St)) : G k n0 Q h cells slots pc Ls (.int y :: .int x :: St) := by
  obtain ⟨p, l, e, R', s, m, args, below, meth, c⟩ := k
  obtain ⟨hx, hZ, hown, rfl, rfl, rfl, rfl, hlk, rfl, hn0⟩ := K
  obtain ⟨d, rfl⟩ := d
  exact G.plain (fun T locs t X q => XT.ior X.here hx rfl d rfl q) g
theorem G.ixor (K : Ok k Z n0 own R bytes maxL ret nm) {x y : Int32} (d : Dc bytes pc .ixor 1 pc') (g : G k n0 Q h cells slots pc' Ls (.int (x ^^^ y) :: St)) : G k n0 Q h cells slots pc Ls (.int y :: .int x :: St) := by
  obtain ⟨p, l, e, R', s, m, args, below, meth, c⟩ := k
  obtain ⟨hx, hZ, hown, rfl, rfl, rfl, rfl, hlk, rfl, hn0⟩ := K
  obtain ⟨d, rfl⟩ := d
  exact G.plain (fun T locs t X q => XT.ixor X.here hx rfl d rfl q) g
theorem G.ishl (K : Ok k Z n0 own R bytes maxL ret nm) {x y : Int32} (d : Dc bytes pc .ishl 1 pc') (g : G k n0 Q h cells slots pc' Ls (.int (x <<< (y &&& 31)) :: St)) : G k n0 Q h cells slots pc Ls (.int y :: .int x :: St) := by
  obtain ⟨p, l, e, R', s, m, args, below, meth, c⟩ := k
  obtain ⟨hx, hZ, hown, rfl, rfl, rfl, rfl, hlk, rfl, hn0⟩ := K
  obtain ⟨d, rfl⟩ := d
  exact G.plain (fun T locs t X q => XT.ishl X.here hx rfl d rfl q) g
theorem G.ishr (K : Ok k Z n0 own R bytes maxL ret nm) {x y : Int32} (d : Dc bytes pc .ishr 1 pc') (g : G k n0 Q h cells slots pc' Ls (.int (x >>> (y &&& 31)) :: St)) : G k n0 Q h cells slots pc Ls (.int y :: .int x :: St) := by
  obtain ⟨p, l, e, R', s, m, args, below, meth, c⟩ := k
  obtain ⟨hx, hZ, hown, rfl, rfl, rfl, rfl, hlk, rfl, hn0⟩ := K
  obtain ⟨d, rfl⟩ := d
  exact G.plain (fun T locs t X q => XT.ishr X.here hx rfl d rfl q) g
theorem G.iushr (K : Ok k Z n0 own R bytes maxL ret nm) {x y : Int32} (d : Dc bytes pc .iushr 1 pc') (g : G k n0 Q h cells slots pc' Ls (.int (XT.ushr x y) :: St)) : G k n0 Q h cells slots pc Ls (.int y :: .int x :: St) := by
  obtain ⟨p, l, e, R', s, m, args, below, meth, c⟩ := k
  obtain ⟨hx, hZ, hown, rfl, rfl, rfl, rfl, hlk, rfl, hn0⟩ := K
  obtain ⟨d, rfl⟩ := d
  exact G.plain (fun T locs t X q => XT.iushr X.here hx rfl d rfl q) g
theorem G.ladd (K : Ok k Z n0 own R bytes maxL ret nm) {x y : Int64} (d : Dc bytes pc .ladd 1 pc') (g : G k n0 Q h cells slots pc' Ls (.long (x + y) :: St)) : G k n0 Q h cells slots pc Ls (.long y :: .long x :: St) := by
  obtain ⟨p, l, e, R', s, m, args, below, meth, c⟩ := k
  obtain ⟨hx, hZ, hown, rfl, rfl, rfl, rfl, hlk, rfl, hn0⟩ := K
  obtain ⟨d, rfl⟩ := d
  exact G.plain (fun T locs t X q => XT.ladd X.here hx rfl d rfl q) g
theorem G.lsub (K : Ok k Z n0 own R bytes maxL ret nm) {x y : Int64} (d : Dc bytes pc .lsub 1 pc') (g : G k n0 Q h cells slots pc' Ls (.long (x - y) :: St)) : G k n0 Q h cells slots pc Ls (.long y :: .long x :: St) := by
  obtain ⟨p, l, e, R', s, m, args, below, meth, c⟩ := k
  obtain ⟨hx, hZ, hown, rfl, rfl, rfl, rfl, hlk, rfl, hn0⟩ := K
  obtain ⟨d, rfl⟩ := d
  exact G.plain (fun T locs t X q => XT.lsub X.here hx rfl d rfl q) g
theorem G.lmul (K : Ok k Z n0 own R bytes maxL ret nm) {x y : Int64} (d : Dc bytes pc .lmul 1 pc') (g : G k n0 Q h cells slots pc' Ls (.long (x * y) :: St)) : G k n0 Q h cells slots pc Ls (.long y :: .long x :: St) := by
  obtain ⟨p, l, e, R', s, m, args, below, meth, c⟩ := k
  obtain ⟨hx, hZ, hown, rfl, rfl, rfl, rfl, hlk, rfl, hn0⟩ := K
  obtain ⟨d, rfl⟩ := d
  exact G.plain (fun T locs t X q => XT.lmul X.here hx rfl d rfl q) g
theorem G.land (K : Ok k Z n0 own R bytes maxL ret nm) {x y : Int64} (d : Dc bytes pc .land 1 pc') (g : G k n0 Q h cells slots pc' Ls (.long (x &&& y) :: St)) : G k n0 Q h cells slots pc Ls (.long y :: .long x :: St) := by
  obtain ⟨p, l, e, R', s, m, args, below, meth, c⟩ := k
  obtain ⟨hx, hZ, hown, rfl, rfl, rfl, rfl, hlk, rfl, hn0⟩ := K
  obtain ⟨d, rfl⟩ := d
  exact G.plain (fun T locs t X q => XT.land X.here hx rfl d rfl q) g
theorem G.lor (K : Ok k Z n0 own R bytes maxL ret nm) {x y : Int64} (d : Dc bytes pc .lor 1 pc') (g : G k n0 Q h cells slots pc' Ls (.long (x ||| y) :: St)) : G k n0 Q h cells slots pc Ls (.long y :: .long x :: St) := by
  obtain ⟨p, l, e, R', s, m, args, below, meth, c⟩ := k
  obtain ⟨hx, hZ, hown, rfl, rfl, rfl, rfl, hlk, rfl, hn0⟩ := K
  obtain ⟨d, rfl⟩ := d
  exact G.plain (fun T locs t X q => XT.lor X.here hx rfl d rfl q) g
theorem G.lxor (K : Ok k Z n0 own R bytes maxL ret nm) {x y : Int64} (d : Dc bytes pc .lxor 1 pc') (g : G k n0 Q h cells slots pc' Ls (.long (x ^^^ y) :: St)) : G k n0 Q h cells slots pc Ls (.long y :: .long x :: St) := by
  obtain ⟨p, l, e, R', s, m, args, below, meth, c⟩ := k
  obtain ⟨hx, hZ, hown, rfl, rfl, rfl, rfl, hlk, rfl, hn0⟩ := K
  obtain ⟨d, rfl⟩ := d
  exact G.plain (fun T locs t X q => XT.lxor X.here hx rfl d rfl q) g
theorem G.lshl (K : Ok k Z n0 own R bytes maxL ret nm) {x : Int64} {y : Int32} (d : Dc bytes pc .lshl 1 pc') (g : G k n0 Q h cells slots pc' Ls (.long (x <<< (y.toInt64 &&& 63)) :: St)) : G k n0 Q h cells slots pc Ls (.int y :: .long x :: St) := by
  obtain ⟨p, l, e, R', s, m, args, below, meth, c⟩ := k
  obtain ⟨hx, hZ, hown, rfl, rfl, rfl, rfl, hlk, rfl, hn0⟩ := K
  obtain ⟨d, rfl⟩ := d
  exact G.plain (fun T locs t X q => XT.lshl X.here hx rfl d rfl q) g
theorem G.lshr (K : Ok k Z n0 own R bytes maxL ret nm) {x : Int64} {y : Int32} (d : Dc bytes pc .lshr 1 pc') (g : G k n0 Q h cells slots pc' Ls (.long (x >>> (y.toInt64 &&& 63)) :: St)) : G k n0 Q h cells slots pc Ls (.int y :: .long x :: St) := by
  obtain ⟨p, l, e, R', s, m, args, below, meth, c⟩ := k
  obtain ⟨hx, hZ, hown, rfl, rfl, rfl, rfl, hlk, rfl, hn0⟩ := K
  obtain ⟨d, rfl⟩ := d
  exact G.plain (fun T locs t X q => XT.lshr X.here hx rfl d rfl q) g
theorem G.lushr (K : Ok k Z n0 own R bytes maxL ret nm) {x : Int64} {y : Int32} (d : Dc bytes pc .lushr 1 pc') (g : G k n0 Q h cells slots pc' Ls (.long (XT.ushrL x y) :: St)) : G k n0 Q h cells slots pc Ls (.int y :: .long x :: St) := by
  obtain ⟨p, l, e, R', s, m, args, below, meth, c⟩ := k
  obtain ⟨hx, hZ, hown, rfl, rfl, rfl, rfl, hlk, rfl, hn0⟩ := K
  obtain ⟨d, rfl⟩ := d
  exact G.plain (fun T locs t X q => XT.lushr X.here hx rfl d rfl q) g
theorem G.irem (K : Ok k Z n0 own R bytes maxL ret nm) {x y : Int32} (d : Dc bytes pc .irem 1 pc') (hy : y ≠ 0) (g : G k n0 Q h cells slots pc' Ls (.int (x % y) :: St)) : G k n0 Q h cells slots pc Ls (.int y :: .int x :: St) := by
  obtain ⟨p, l, e, R', s, m, args, below, meth, c⟩ := k
  obtain ⟨hx, hZ, hown, rfl, rfl, rfl, rfl, hlk, rfl, hn0⟩ := K
  obtain ⟨d, rfl⟩ := d
  exact G.plain (fun T locs t X q => iremM X hx rfl d rfl hy q) g
theorem G.idiv (K : Ok k Z n0 own R bytes maxL ret nm) {x y : Int32} (d : Dc bytes pc .idiv 1 pc') (hy : y ≠ 0) (g : G k n0 Q h cells slots pc' Ls (.int (x / y) :: St)) : G k n0 Q h cells slots pc Ls (.int y :: .int x :: St) := by
  obtain ⟨p, l, e, R', s, m, args, below, meth, c⟩ := k
  obtain ⟨hx, hZ, hown, rfl, rfl, rfl, rfl, hlk, rfl, hn0⟩ := K
  obtain ⟨d, rfl⟩ := d
  exact G.plain (fun T locs t X q => XS.idiv X.here hx rfl d rfl hy q) g
theorem G.ldiv (K : Ok k Z n0 own R bytes maxL ret nm) {x y : Int64} (d : Dc bytes pc .ldiv 1 pc') (hy : y ≠ 0) (g : G k n0 Q h cells slots pc' Ls (.long (x / y) :: St)) : G k n0 Q h cells slots pc Ls (.long y :: .long x :: St) := by
  obtain ⟨p, l, e, R', s, m, args, below, meth, c⟩ := k
  obtain ⟨hx, hZ, hown, rfl, rfl, rfl, rfl, hlk, rfl, hn0⟩ := K
  obtain ⟨d, rfl⟩ := d
  exact G.plain (fun T locs t X q => XT.ldiv X.here hx rfl d rfl hy q) g
theorem G.ineg (K : Ok k Z n0 own R bytes maxL ret nm) {x : Int32} (d : Dc bytes pc .ineg 1 pc') (g : G k n0 Q h cells slots pc' Ls (.int (-x) :: St)) : G k n0 Q h cells slots pc Ls (.int x :: St) := by
  obtain ⟨p, l, e, R', s, m, args, below, meth, c⟩ := k
  obtain ⟨hx, hZ, hown, rfl, rfl, rfl, rfl, hlk, rfl, hn0⟩ := K
  obtain ⟨d, rfl⟩ := d
  exact G.plain (fun T locs t X q => XS.ineg X.here hx rfl d rfl q) g
theorem G.lneg (K : Ok k Z n0 own R bytes maxL ret nm) {x : Int64} (d : Dc bytes pc .lneg 1 pc') (g : G k n0 Q h cells slots pc' Ls (.long (-x) :: St)) : G k n0 Q h cells slots pc Ls (.long x :: St) := by
  obtain ⟨p, l, e, R', s, m, args, below, meth, c⟩ := k
  obtain ⟨hx, hZ, hown, rfl, rfl, rfl, rfl, hlk, rfl, hn0⟩ := K
  obtain ⟨d, rfl⟩ := d
  exact G.plain (fun T locs t X q => XT.lneg X.here hx rfl d rfl q) g
theorem G.i2l (K : Ok k Z n0 own R bytes maxL ret nm) {x : Int32} (d : Dc bytes pc .i2l 1 pc') (g : G k n0 Q h cells slots pc' Ls (.long x.toInt64 :: St)) : G k n0 Q h cells slots pc Ls (.int x :: St) := by
  obtain ⟨p, l, e, R', s, m, args, below, meth, c⟩ := k
  obtain ⟨hx, hZ, hown, rfl, rfl, rfl, rfl, hlk, rfl, hn0⟩ := K
  obtain ⟨d, rfl⟩ := d
  exact G.plain (fun T locs t X q => XT.i2l X.here hx rfl d rfl q) g
theorem G.l2i (K : Ok k Z n0 own R bytes maxL ret nm) {x : Int64} (d : Dc bytes pc .l2i 1 pc') (g : G k n0 Q h cells slots pc' Ls (.int x.toInt32 :: St)) : G k n0 Q h cells slots pc Ls (.long x :: St) := by
  obtain ⟨p, l, e, R', s, m, args, below, meth, c⟩ := k
  obtain ⟨hx, hZ, hown, rfl, rfl, rfl, rfl, hlk, rfl, hn0⟩ := K
  obtain ⟨d, rfl⟩ := d
  exact G.plain (fun T locs t X q => XT.l2i X.here hx rfl d rfl q) g
theorem G.i2b (K : Ok k Z n0 own R bytes maxL ret nm) {x : Int32} (d : Dc bytes pc .i2b 1 pc') (g : G k n0 Q h cells slots pc' Ls (.int x.toInt8.toInt32 :: St)) : G k n0 Q h cells slots pc Ls (.int x :: St) := by
  obtain ⟨p, l, e, R', s, m, args, below, meth, c⟩ := k
  obtain ⟨hx, hZ, hown, rfl, rfl, rfl, rfl, hlk, rfl, hn0⟩ := K
  obtain ⟨d, rfl⟩ := d
  exact G.plain (fun T locs t X q => XT.i2b X.here hx rfl d rfl q) g
theorem G.i2s (K : Ok k Z n0 own R bytes maxL ret nm) {x : Int32} (d : Dc bytes pc .i2s 1 pc') (g : G k n0 Q h cells slots pc' Ls (.int x.toInt16.toInt32 :: St)) : G k n0 Q h cells slots pc Ls (.int x :: St) := by
  obtain ⟨p, l, e, R', s, m, args, below, meth, c⟩ := k
  obtain ⟨hx, hZ, hown, rfl, rfl, rfl, rfl, hlk, rfl, hn0⟩ := K
  obtain ⟨d, rfl⟩ := d
  exact G.plain (fun T locs t X q => XT.i2s X.here hx rfl d rfl q) g
theorem G.i2c (K : Ok k Z n0 own R bytes maxL ret nm) {x : Int32} (d : Dc bytes pc .i2c 1 pc') (g : G k n0 Q h cells slots pc' Ls (.int x.toUInt32.toUInt16.toUInt32.toInt32 :: St)) : G k n0 Q h cells slots pc Ls (.int x :: St) := by
  obtain ⟨p, l, e, R', s, m, args, below, meth, c⟩ := k
  obtain ⟨hx, hZ, hown, rfl, rfl, rfl, rfl, hlk, rfl, hn0⟩ := K
  obtain ⟨d, rfl⟩ := d
  exact G.plain (fun T locs t X q => XT.i2c X.here hx rfl d rfl q) g
theorem G.iloadN (K : Ok k Z n0 own R bytes maxL ret nm) {v : Int32} {i : Fin 4} (d : Dc bytes pc (.iload_n i) 1 pc') (hl : Ls[i.val]? = some (.val (.int v))) (g : G k n0 Q h cells slots pc' Ls (.int v :: St)) : G k n0 Q h cells slots pc Ls (St) := by
  obtain ⟨p, l, e, R', s, m, args, below, meth, c⟩ := k
  obtain ⟨hx, hZ, hown, rfl, rfl, rfl, rfl, hlk, rfl, hn0⟩ := K
  obtain ⟨d, rfl⟩ := d
  exact G.plain (fun T locs t X q => XS.iloadN X.here hx rfl d (by simpa using hl) q) g
theorem G.iload (K : Ok k Z n0 own R bytes maxL ret nm) {v : Int32} {i : Nat} (d : Dc bytes pc (.iload i) 2 pc') (hl : Ls[i]? = some (.val (.int v))) (g : G k n0 Q h cells slots pc' Ls (.int v :: St)) : G k n0 Q h cells slots pc Ls (St) := by
  obtain ⟨p, l, e, R', s, m, args, below, meth, c⟩ := k
  obtain ⟨hx, hZ, hown, rfl, rfl, rfl, rfl, hlk, rfl, hn0⟩ := K
  obtain ⟨d, rfl⟩ := d
  exact G.plain (fun T locs t X q => XS.iload X.here hx rfl d (by simpa using hl) q) g
theorem G.lloadN (K : Ok k Z n0 own R bytes maxL ret nm) {v : Int64} {i : Fin 4} (d : Dc bytes pc (.lload_n i) 1 pc') (hl : Ls[i.val]? = some (.val (.long v))) (g : G k n0 Q h cells slots pc' Ls (.long v :: St)) : G k n0 Q h cells slots pc Ls (St) := by
  obtain ⟨p, l, e, R', s, m, args, below, meth, c⟩ := k
  obtain ⟨hx, hZ, hown, rfl, rfl, rfl, rfl, hlk, rfl, hn0⟩ := K
  obtain ⟨d, rfl⟩ := d
  exact G.plain (fun T locs t X q => XT.lloadN X.here hx rfl d (by simpa using hl) q) g
theorem G.lload (K : Ok k Z n0 own R bytes maxL ret nm) {v : Int64} {i : Nat} (d : Dc bytes pc (.lload i) 2 pc') (hl : Ls[i]? = some (.val (.long v))) (g : G k n0 Q h cells slots pc' Ls (.long v :: St)) : G k n0 Q h cells slots pc Ls (St) := by
  obtain ⟨p, l, e, R', s, m, args, below, meth, c⟩ := k
  obtain ⟨hx, hZ, hown, rfl, rfl, rfl, rfl, hlk, rfl, hn0⟩ := K
  obtain ⟨d, rfl⟩ := d
  exact G.plain (fun T locs t X q => XT.lload X.here hx rfl d (by simpa using hl) q) g
theorem G.aloadN (K : Ok k Z n0 own R bytes maxL ret nm) {v : Value} {i : Fin 4} (d : Dc bytes pc (.aload_n i) 1 pc') (hl : Ls[i.val]? = some (.val (v))) (hv : v.isRef = true) (g : G k n0 Q h cells slots pc' Ls (v :: St)) : G k n0 Q h cells slots pc Ls (St) := by
  obtain ⟨p, l, e, R', s, m, args, below, meth, c⟩ := k
  obtain ⟨hx, hZ, hown, rfl, rfl, rfl, rfl, hlk, rfl, hn0⟩ := K
  obtain ⟨d, rfl⟩ := d
  exact G.plain (fun T locs t X q => XS.aloadN X.here hx rfl d (by simpa using hl) hv q) g
theorem G.aload (K : Ok k Z n0 own R bytes maxL ret nm) {v : Value} {i : Nat} (d : Dc bytes pc (.aload i) 2 pc') (hl : Ls[i]? = some (.val (v))) (hv : v.isRef = true) (g : G k n0 Q h cells slots pc' Ls (v :: St)) : G k n0 Q h cells slots pc Ls (St) := by
  obtain ⟨p, l, e, R', s, m, args, below, meth, c⟩ := k
  obtain ⟨hx, hZ, hown, rfl, rfl, rfl, rfl, hlk, rfl, hn0⟩ := K
  obtain ⟨d, rfl⟩ := d
  exact G.plain (fun T locs t X q => XS.aload X.here hx rfl d (by simpa using hl) hv q) g
theorem G.istoreN (K : Ok k Z n0 own R bytes maxL ret nm) {v : Int32} {i : Fin 4} (d : Dc bytes pc (.istore_n i) 1 pc') (Ls' : List Slot) (hl : storeLocals ⟨Ls⟩ i.val (.int v) = some ⟨Ls'⟩) (g : G k n0 Q h cells slots pc' Ls' (St)) : G k n0 Q h cells slots pc Ls (.int v :: St) := by
  obtain ⟨p, l, e, R', s, m, args, below, meth, c⟩ := k
  obtain ⟨hx, hZ, hown, rfl, rfl, rfl, rfl, hlk, rfl, hn0⟩ := K
  obtain ⟨d, rfl⟩ := d
  exact G.plain (fun T locs t X q => XS.istoreN X.here hx rfl d rfl hl q) g
theorem G.istore (K : Ok k Z n0 own R bytes maxL ret nm) {v : Int32} {i : Nat} (d : Dc bytes pc (.istore i) 2 pc') (Ls' : List Slot) (hl : storeLocals ⟨Ls⟩ i (.int v) = some ⟨Ls'⟩) (g : G k n0 Q h cells slots pc' Ls' (St)) : G k n0 Q h cells slots pc Ls (.int v :: St) := by
  obtain ⟨p, l, e, R', s, m, args, below, meth, c⟩ := k
  obtain ⟨hx, hZ, hown, rfl, rfl, rfl, rfl, hlk, rfl, hn0⟩ := K
  obtain ⟨d, rfl⟩ := d
  exact G.plain (fun T locs t X q => XS.istore X.here hx rfl d rfl hl q) g
theorem G.lstoreN (K : Ok k Z n0 own R bytes maxL ret nm) {v : Int64} {i : Fin 4} (d : Dc bytes pc (.lstore_n i) 1 pc') (Ls' : List Slot) (hl : storeLocals ⟨Ls⟩ i.val (.long v) = some ⟨Ls'⟩) (g : G k n0 Q h cells slots pc' Ls' (St)) : G k n0 Q h cells slots pc Ls (.long v :: St) := by
  obtain ⟨p, l, e, R', s, m, args, below, meth, c⟩ := k
  obtain ⟨hx, hZ, hown, rfl, rfl, rfl, rfl, hlk, rfl, hn0⟩ := K
  obtain ⟨d, rfl⟩ := d
  exact G.plain (fun T locs t X q => XT.lstoreN X.here hx rfl d rfl hl q) g
theorem G.lstore (K : Ok k Z n0 own R bytes maxL ret nm) {v : Int64} {i : Nat} (d : Dc bytes pc (.lstore i) 2 pc') (Ls' : List Slot) (hl : storeLocals ⟨Ls⟩ i (.long v) = some ⟨Ls'⟩) (g : G k n0 Q h cells slots pc' Ls' (St)) : G k n0 Q h cells slots pc Ls (.long v :: St) := by
  obtain ⟨p, l, e, R', s, m, args, below, meth, c⟩ := k
  obtain ⟨hx, hZ, hown, rfl, rfl, rfl, rfl, hlk, rfl, hn0⟩ := K
  obtain ⟨d, rfl⟩ := d
  exact G.plain (fun T locs t X q => XT.lstore X.here hx rfl d rfl hl q) g
theorem G.astoreN (K : Ok k Z n0 own R bytes maxL ret nm) {v : Value} {i : Fin 4} (d : Dc bytes pc (.astore_n i) 1 pc') (hv : v.isRef = true) (Ls' : List Slot) (hl : storeLocals ⟨Ls⟩ i.val (v) = some ⟨Ls'⟩) (g : G k n0 Q h cells slots pc' Ls' (St)) : G k n0 Q h cells slots pc Ls (v :: St) := by
  obtain ⟨p, l, e, R', s, m, args, below, meth, c⟩ := k
  obtain ⟨hx, hZ, hown, rfl, rfl, rfl, rfl, hlk, rfl, hn0⟩ := K
  obtain ⟨d, rfl⟩ := d
  exact G.plain (fun T locs t X q => XS.astoreN X.here hx rfl d rfl hv hl q) g
theorem G.astore (K : Ok k Z n0 own R bytes maxL ret nm) {v : Value} {i : Nat} (d : Dc bytes pc (.astore i) 2 pc') (hv : v.isRef = true) (Ls' : List Slot) (hl : storeLocals ⟨Ls⟩ i (v) = some ⟨Ls'⟩) (g : G k n0 Q h cells slots pc' Ls' (St)) : G k n0 Q h cells slots pc Ls (v :: St) := by
  obtain ⟨p, l, e, R', s, m, args, below, meth, c⟩ := k
  obtain ⟨hx, hZ, hown, rfl, rfl, rfl, rfl, hlk, rfl, hn0⟩ := K
  obtain ⟨d, rfl⟩ := d
  exact G.plain (fun T locs t X q => XS.astore X.here hx rfl d rfl hv hl q) g
theorem G.iinc (K : Ok k Z n0 own R bytes maxL ret nm) {x : Int32} {i : Nat} {cst : Int} (d : Dc bytes pc (.iinc i cst) 3 pc') (v : Int32) (hv : Int32.ofInt cst = v) (hl0 : Ls[i]? = some (.val (.int x))) (Ls' : List Slot) (hl : storeLocals ⟨Ls⟩ i (.int (x + v)) = some ⟨Ls'⟩) (g : G k n0 Q h cells slots pc' Ls' (St)) : G k n0 Q h cells slots pc Ls (St) := by
  obtain ⟨p, l, e, R', s, m, args, below, meth, c⟩ := k
  obtain ⟨hx, hZ, hown, rfl, rfl, rfl, rfl, hlk, rfl, hn0⟩ := K
  obtain ⟨d, rfl⟩ := d
  exact G.plain (fun T locs t X q => XT.iincV X.here hx rfl v d hv (by simpa using hl0) hl q) g
theorem G.iconst (K : Ok k Z n0 own R bytes maxL ret nm) {i : Int} (d : Dc bytes pc (.iconst i) 1 pc') (v : Int32) (hv : Int32.ofInt i = v) (g : G k n0 Q h cells slots pc' Ls (.int v :: St)) : G k n0 Q h cells slots pc Ls (St) := by
  obtain ⟨p, l, e, R', s, m, args, below, meth, c⟩ := k
  obtain ⟨hx, hZ, hown, rfl, rfl, rfl, rfl, hlk, rfl, hn0⟩ := K
  obtain ⟨d, rfl⟩ := d
  exact G.plain (fun T locs t X q => XT.iconstV X.here hx rfl v d hv q) g
theorem G.bipush (K : Ok k Z n0 own R bytes maxL ret nm) {i : Int} (d : Dc bytes pc (.bipush i) 2 pc') (v : Int32) (hv : (Int8.ofInt i).toInt32 = v) (g : G k n0 Q h cells slots pc' Ls (.int v :: St)) : G k n0 Q h cells slots pc Ls (St) := by
  obtain ⟨p, l, e, R', s, m, args, below, meth, c⟩ := k
  obtain ⟨hx, hZ, hown, rfl, rfl, rfl, rfl, hlk, rfl, hn0⟩ := K
  obtain ⟨d, rfl⟩ := d
  exact G.plain (fun T locs t X q => XT.bipushV X.here hx rfl v d hv q) g
theorem G.sipush (K : Ok k Z n0 own R bytes maxL ret nm) {i : Int} (d : Dc bytes pc (.sipush i) 3 pc') (v : Int32) (hv : (Int16.ofInt i).toInt32 = v) (g : G k n0 Q h cells slots pc' Ls (.int v :: St)) : G k n0 Q h cells slots pc Ls (St) := by
  obtain ⟨p, l, e, R', s, m, args, below, meth, c⟩ := k
  obtain ⟨hx, hZ, hown, rfl, rfl, rfl, rfl, hlk, rfl, hn0⟩ := K
  obtain ⟨d, rfl⟩ := d
  exact G.plain (fun T locs t X q => XT.sipushV X.here hx rfl v d hv q) g
theorem G.lconst (K : Ok k Z n0 own R bytes maxL ret nm) {i : Fin 2} (d : Dc bytes pc (.lconst i) 1 pc') (v : Int64) (hv : Int64.ofNat i = v) (g : G k n0 Q h cells slots pc' Ls (.long v :: St)) : G k n0 Q h cells slots pc Ls (St) := by
  obtain ⟨p, l, e, R', s, m, args, below, meth, c⟩ := k
  obtain ⟨hx, hZ, hown, rfl, rfl, rfl, rfl, hlk, rfl, hn0⟩ := K
  obtain ⟨d, rfl⟩ := d
  exact G.plain (fun T locs t X q => XT.lconstV X.here hx rfl v d hv q) g
theorem G.aconst_null (K : Ok k Z n0 own R bytes maxL ret nm)  (d : Dc bytes pc .aconst_null 1 pc') (g : G k n0 Q h cells slots pc' Ls (.null :: St)) : G k n0 Q h cells slots pc Ls (St) := by
  obtain ⟨p, l, e, R', s, m, args, below, meth, c⟩ := k
  obtain ⟨hx, hZ, hown, rfl, rfl, rfl, rfl, hlk, rfl, hn0⟩ := K
  obtain ⟨d, rfl⟩ := d
  exact G.plain (fun T locs t X q => XS.aconstNull X.here hx rfl d q) g
theorem G.ldcI (K : Ok k Z n0 own R bytes maxL ret nm) {v : Int32} {i : Nat} (d : Dc bytes pc (.ldc i) 2 pc') (w : (Cond.constant own i v).before a0 Z = true) (g : G k n0 Q h cells slots pc' Ls (.int v :: St)) : G k n0 Q h cells slots pc Ls (St) := by
  obtain ⟨p, l, e, R', s, m, args, below, meth, c⟩ := k
  obtain ⟨hx, hZ, hown, rfl, rfl, rfl, rfl, hlk, rfl, hn0⟩ := K
  obtain ⟨d, rfl⟩ := d
  exact G.plain (fun T locs t X q => X.ldcI hx hown (mvT hZ w) rfl d q) g
theorem G.ldcWI (K : Ok k Z n0 own R bytes maxL ret nm) {v : Int32} {i : Nat} (d : Dc bytes pc (.ldc_w i) 3 pc') (w : (Cond.constant own i v).before a0 Z = true) (g : G k n0 Q h cells slots pc' Ls (.int v :: St)) : G k n0 Q h cells slots pc Ls (St) := by
  obtain ⟨p, l, e, R', s, m, args, below, meth, c⟩ := k
  obtain ⟨hx, hZ, hown, rfl, rfl, rfl, rfl, hlk, rfl, hn0⟩ := K
  obtain ⟨d, rfl⟩ := d
  exact G.plain (fun T locs t X q => X.ldcWI hx hown (mvT hZ w) rfl d q) g
theorem G.ldc2J (K : Ok k Z n0 own R bytes maxL ret nm) {v : Int64} {i : Nat} (d : Dc bytes pc (.ldc2_w i) 3 pc') (w : (Cond.constantLong own i v).before a0 Z = true) (g : G k n0 Q h cells slots pc' Ls (.long v :: St)) : G k n0 Q h cells slots pc Ls (St) := by
  obtain ⟨p, l, e, R', s, m, args, below, meth, c⟩ := k
  obtain ⟨hx, hZ, hown, rfl, rfl, rfl, rfl, hlk, rfl, hn0⟩ := K
  obtain ⟨d, rfl⟩ := d
  exact G.plain (fun T locs t X q => X.ldc2J hx hown (mvT hZ w) rfl d q) g
theorem G.dup (K : Ok k Z n0 own R bytes maxL ret nm) {x : Value} (d : Dc bytes pc .dup 1 pc') (hv : x.category = 1) (g : G k n0 Q h cells slots pc' Ls (x :: x :: St)) : G k n0 Q h cells slots pc Ls (x :: St) := by
  obtain ⟨p, l, e, R', s, m, args, below, meth, c⟩ := k
  obtain ⟨hx, hZ, hown, rfl, rfl, rfl, rfl, hlk, rfl, hn0⟩ := K
  obtain ⟨d, rfl⟩ := d
  exact G.plain (fun T locs t X q => XS.dup X.here hx rfl d rfl hv q) g
theorem G.pop (K : Ok k Z n0 own R bytes maxL ret nm) {x : Value} (d : Dc bytes pc .pop 1 pc') (hv : x.category = 1) (g : G k n0 Q h cells slots pc' Ls (St)) : G k n0 Q h cells slots pc Ls (x :: St) := by
  obtain ⟨p, l, e, R', s, m, args, below, meth, c⟩ := k
  obtain ⟨hx, hZ, hown, rfl, rfl, rfl, rfl, hlk, rfl, hn0⟩ := K
  obtain ⟨d, rfl⟩ := d
  exact G.plain (fun T locs t X q => XT.pop X.here hx rfl d rfl hv q) g
theorem G.dup_x1 (K : Ok k Z n0 own R bytes maxL ret nm) {x y : Value} (d : Dc bytes pc .dup_x1 1 pc') (hv : x.category = 1) (hv' : y.category = 1) (g : G k n0 Q h cells slots pc' Ls (x :: y :: x :: St)) : G k n0 Q h cells slots pc Ls (x :: y :: St) := by
  obtain ⟨p, l, e, R', s, m, args, below, meth, c⟩ := k
  obtain ⟨hx, hZ, hown, rfl, rfl, rfl, rfl, hlk, rfl, hn0⟩ := K
  obtain ⟨d, rfl⟩ := d
  exact G.plain (fun T locs t X q => XT.dupX1 X.here hx rfl d rfl hv hv' q) g
theorem G.dup2 (K : Ok k Z n0 own R bytes maxL ret nm) {x y : Value} (d : Dc bytes pc .dup2 1 pc') (hv : x.category = 1) (hv' : y.category = 1) (g : G k n0 Q h cells slots pc' Ls (x :: y :: x :: y :: St)) : G k n0 Q h cells slots pc Ls (x :: y :: St) := by
  obtain ⟨p, l, e, R', s, m, args, below, meth, c⟩ := k
  obtain ⟨hx, hZ, hown, rfl, rfl, rfl, rfl, hlk, rfl, hn0⟩ := K
  obtain ⟨d, rfl⟩ := d
  exact G.plain (fun T locs t X q => XT.dup2 X.here hx rfl d rfl hv hv' q) g
theorem G.dup2L (K : Ok k Z n0 own R bytes maxL ret nm) {x : Int64} (d : Dc bytes pc .dup2 1 pc') (g : G k n0 Q h cells slots pc' Ls (.long x :: .long x :: St)) : G k n0 Q h cells slots pc Ls (.long x :: St) := by
  obtain ⟨p, l, e, R', s, m, args, below, meth, c⟩ := k
  obtain ⟨hx, hZ, hown, rfl, rfl, rfl, rfl, hlk, rfl, hn0⟩ := K
  obtain ⟨d, rfl⟩ := d
  exact G.plain (fun T locs t X q => XT.dup2L X.here hx rfl d rfl q) g
theorem G.pop2L (K : Ok k Z n0 own R bytes maxL ret nm) {x : Int64} (d : Dc bytes pc .pop2 1 pc') (g : G k n0 Q h cells slots pc' Ls (St)) : G k n0 Q h cells slots pc Ls (.long x :: St) := by
  obtain ⟨p, l, e, R', s, m, args, below, meth, c⟩ := k
  obtain ⟨hx, hZ, hown, rfl, rfl, rfl, rfl, hlk, rfl, hn0⟩ := K
  obtain ⟨d, rfl⟩ := d
  exact G.plain (fun T locs t X q => by jvm_step X.here [X.here.top, hx, d, Value.category]; exact q) g
theorem G.ldc2D (K : Ok k Z n0 own R bytes maxL ret nm) {v : UInt64} {i : Nat} (d : Dc bytes pc (.ldc2_w i) 3 pc') (w : (Cond.constantDouble own i v).before a0 Z = true) (g : G k n0 Q h cells slots pc' Ls (.double v :: St)) : G k n0 Q h cells slots pc Ls (St) := by
  obtain ⟨p, l, e, R', s, m, args, below, meth, c⟩ := k
  obtain ⟨hx, hZ, hown, rfl, rfl, rfl, rfl, hlk, rfl, hn0⟩ := K
  obtain ⟨d, rfl⟩ := d
  exact G.plain (fun T locs t X q => X.ldc2DoubleC hx hown (mvD hZ w) (g := mkF m pc ⟨Ls⟩ St) rfl d t q) g
theorem G.dconst0 (K : Ok k Z n0 own R bytes maxL ret nm)  (d : Dc bytes pc (.dconst 0) 1 pc') (g : G k n0 Q h cells slots pc' Ls (.double FP.dconst0 :: St)) : G k n0 Q h cells slots pc Ls (St) := by
  obtain ⟨p, l, e, R', s, m, args, below, meth, c⟩ := k
  obtain ⟨hx, hZ, hown, rfl, rfl, rfl, rfl, hlk, rfl, hn0⟩ := K
  obtain ⟨d, rfl⟩ := d
  exact G.plain (fun T locs t X q => XS.dconst0 X.here hx rfl d rfl q) g
theorem G.dconst1 (K : Ok k Z n0 own R bytes maxL ret nm)  (d : Dc bytes pc (.dconst 1) 1 pc') (g : G k n0 Q h cells slots pc' Ls (.double FP.dconst1 :: St)) : G k n0 Q h cells slots pc Ls (St) := by
  obtain ⟨p, l, e, R', s, m, args, below, meth, c⟩ := k
  obtain ⟨hx, hZ, hown, rfl, rfl, rfl, rfl, hlk, rfl, hn0⟩ := K
  obtain ⟨d, rfl⟩ := d
  exact G.plain (fun T locs t X q => XS.dconst1 X.here hx rfl d rfl q) g
theorem G.dloadN (K : Ok k Z n0 own R bytes maxL ret nm) {v : UInt64} {i : Fin 4} (d : Dc bytes pc (.dload_n i) 1 pc') (hl : Ls[i.val]? = some (.val (.double v))) (g : G k n0 Q h cells slots pc' Ls (.double v :: St)) : G k n0 Q h cells slots pc Ls (St) := by
  obtain ⟨p, l, e, R', s, m, args, below, meth, c⟩ := k
  obtain ⟨hx, hZ, hown, rfl, rfl, rfl, rfl, hlk, rfl, hn0⟩ := K
  obtain ⟨d, rfl⟩ := d
  exact G.plain (fun T locs t X q => XS.dloadN X.here hx rfl d (by simpa using hl) q) g
theorem G.goto (K : Ok k Z n0 own R bytes maxL ret nm) (d : Db bytes pc .goto nx tg) (g : G k n0 Q h cells slots tg Ls St) : G k n0 Q h cells slots pc Ls St := by
  obtain ⟨p, l, e, R', s, m, args, below, meth, c⟩ := k
  obtain ⟨hx, hZ, hown, rfl, rfl, rfl, rfl, hlk, rfl, hn0⟩ := K
  obtain ⟨o, d, rfl, d1, d2⟩ := d
  exact G.plain (fun T locs t X q => XS.goto X.here hx rfl rfl d d1 d2 q) g
theorem G.icmp_eq (K : Ok k Z n0 own R bytes maxL ret nm) {x y : Int32} (d : Db bytes pc (.if_icmp .eq) nx tg) (gy : x = y → G k n0 Q h cells slots tg Ls St) (gn : ¬ (x = y) → G k n0 Q h cells slots nx Ls St) : G k n0 Q h cells slots pc Ls (.int y :: .int x :: St) := by
  obtain ⟨p, l, e, R', s, m, args, below, meth, c⟩ := k
  obtain ⟨hx, hZ, hown, rfl, rfl, rfl, rfl, hlk, rfl, hn0⟩ := K
  obtain ⟨o, d, rfl, d1, d2⟩ := d
  by_cases q : x = y
  · exact G.plain (fun T locs t X z => XS.icmpYes X.here hx rfl rfl d rfl (XT.ii_eq_t q) d1 d2 z) (gy q)
  · exact G.plain (fun T locs t X z => XS.icmpNo X.here hx rfl d rfl (XT.ii_eq_f q) z) (gn q)
theorem G.if_eq (K : Ok k Z n0 own R bytes maxL ret nm) {x : Int32} (d : Db bytes pc (.ifCond .eq) nx tg) (gy : x = 0 → G k n0 Q h cells slots tg Ls St) (gn : ¬ (x = 0) → G k n0 Q h cells slots nx Ls St) : G k n0 Q h cells slots pc Ls (.int x :: St) := by
  obtain ⟨p, l, e, R', s, m, args, below, meth, c⟩ := k
  obtain ⟨hx, hZ, hown, rfl, rfl, rfl, rfl, hlk, rfl, hn0⟩ := K
  obtain ⟨o, d, rfl, d1, d2⟩ := d
  by_cases q : x = 0
  · exact G.plain (fun T locs t X z => XS.ifYes X.here hx rfl rfl d rfl (XT.i0_eq_t q) d1 d2 z) (gy q)
  · exact G.plain (fun T locs t X z => XS.ifNo X.here hx rfl d rfl (XT.i0_eq_f q) z) (gn q)
theorem G.lcmp_eq (K : Ok k Z n0 own R bytes maxL ret nm) {x y : Int64} {pd : Nat} (dl : Dc bytes pc .lcmp 1 pd) (d : Db bytes pd (.ifCond .eq) nx tg) (gy : x = y → G k n0 Q h cells slots tg Ls St) (gn : ¬ (x = y) → G k n0 Q h cells slots nx Ls St) : G k n0 Q h cells slots pc Ls (.long y :: .long x :: St) := by
  obtain ⟨p, l, e, R', s, m, args, below, meth, c⟩ := k
  obtain ⟨hx, hZ, hown, rfl, rfl, rfl, rfl, hlk, rfl, hn0⟩ := K
  obtain ⟨dl, rfl⟩ := dl
  obtain ⟨o, d, rfl, d1, d2⟩ := d
  by_cases q : x = y
  · exact G.plain (fun T locs t X z => XT.lcmp X.here hx rfl dl rfl (XS.ifYes X.here hx rfl rfl d rfl (XT.ll_eq_t q) d1 d2 z)) (gy q)
  · exact G.plain (fun T locs t X z => XT.lcmp X.here hx rfl dl rfl (XS.ifNo X.here hx rfl d rfl (XT.ll_eq_f q) z)) (gn q)
theorem G.icmp_ne (K : Ok k Z n0 own R bytes maxL ret nm) {x y : Int32} (d : Db bytes pc (.if_icmp .ne) nx tg) (gy : ¬ (x = y) → G k n0 Q h cells slots tg Ls St) (gn : x = y → G k n0 Q h cells slots nx Ls St) : G k n0 Q h cells slots pc Ls (.int y :: .int x :: St) := by
  obtain ⟨p, l, e, R', s, m, args, below, meth, c⟩ := k
  obtain ⟨hx, hZ, hown, rfl, rfl, rfl, rfl, hlk, rfl, hn0⟩ := K
  obtain ⟨o, d, rfl, d1, d2⟩ := d
  by_cases q : x = y
  · exact G.plain (fun T locs t X z => XS.icmpNo X.here hx rfl d rfl (XT.ii_ne_f q) z) (gn q)
  · exact G.plain (fun T locs t X z => XS.icmpYes X.here hx rfl rfl d rfl (XT.ii_ne_t q) d1 d2 z) (gy q)
theorem G.if_ne (K : Ok k Z n0 own R bytes maxL ret nm) {x : Int32} (d : Db bytes pc (.ifCond .ne) nx tg) (gy : ¬ (x = 0) → G k n0 Q h cells slots tg Ls St) (gn : x = 0 → G k n0 Q h cells slots nx Ls St) : G k n0 Q h cells slots pc Ls (.int x :: St) := by
  obtain ⟨p, l, e, R', s, m, args, below, meth, c⟩ := k
  obtain ⟨hx, hZ, hown, rfl, rfl, rfl, rfl, hlk, rfl, hn0⟩ := K
  obtain ⟨o, d, rfl, d1, d2⟩ := d
  by_cases q : x = 0
  · exact G.plain (fun T locs t X z => XS.ifNo X.here hx rfl d rfl (XT.i0_ne_f q) z) (gn q)
  · exact G.plain (fun T locs t X z => XS.ifYes X.here hx rfl rfl d rfl (XT.i0_ne_t q) d1 d2 z) (gy q)
theorem G.lcmp_ne (K : Ok k Z n0 own R bytes maxL ret nm) {x y : Int64} {pd : Nat} (dl : Dc bytes pc .lcmp 1 pd) (d : Db bytes pd (.ifCond .ne) nx tg) (gy : ¬ (x = y) → G k n0 Q h cells slots tg Ls St) (gn : x = y → G k n0 Q h cells slots nx Ls St) : G k n0 Q h cells slots pc Ls (.long y :: .long x :: St) := by
  obtain ⟨p, l, e, R', s, m, args, below, meth, c⟩ := k
  obtain ⟨hx, hZ, hown, rfl, rfl, rfl, rfl, hlk, rfl, hn0⟩ := K
  obtain ⟨dl, rfl⟩ := dl
  obtain ⟨o, d, rfl, d1, d2⟩ := d
  by_cases q : x = y
  · exact G.plain (fun T locs t X z => XT.lcmp X.here hx rfl dl rfl (XS.ifNo X.here hx rfl d rfl (XT.ll_ne_f q) z)) (gn q)
  · exact G.plain (fun T locs t X z => XT.lcmp X.here hx rfl dl rfl (XS.ifYes X.here hx rfl rfl d rfl (XT.ll_ne_t q) d1 d2 z)) (gy q)
theorem G.icmp_lt (K : Ok k Z n0 own R bytes maxL ret nm) {x y : Int32} (d : Db bytes pc (.if_icmp .lt) nx tg) (gy : x < y → G k n0 Q h cells slots tg Ls St) (gn : ¬ (x < y) → G k n0 Q h cells slots nx Ls St) : G k n0 Q h cells slots pc Ls (.int y :: .int x :: St) := by
  obtain ⟨p, l, e, R', s, m, args, below, meth, c⟩ := k
  obtain ⟨hx, hZ, hown, rfl, rfl, rfl, rfl, hlk, rfl, hn0⟩ := K
  obtain ⟨o, d, rfl, d1, d2⟩ := d
  by_cases q : x < y
  · exact G.plain (fun T locs t X z => XS.icmpYes X.here hx rfl rfl d rfl (XT.ii_lt_t q) d1 d2 z) (gy q)
  · exact G.plain (fun T locs t X z => XS.icmpNo X.here hx rfl d rfl (XT.ii_lt_f q) z) (gn q)
theorem G.if_lt (K : Ok k Z n0 own R bytes maxL ret nm) {x : Int32} (d : Db bytes pc (.ifCond .lt) nx tg) (gy : x < 0 → G k n0 Q h cells slots tg Ls St) (gn : ¬ (x < 0) → G k n0 Q h cells slots nx Ls St) : G k n0 Q h cells slots pc Ls (.int x :: St) := by
  obtain ⟨p, l, e, R', s, m, args, below, meth, c⟩ := k
  obtain ⟨hx, hZ, hown, rfl, rfl, rfl, rfl, hlk, rfl, hn0⟩ := K
  obtain ⟨o, d, rfl, d1, d2⟩ := d
  by_cases q : x < 0
  · exact G.plain (fun T locs t X z => XS.ifYes X.here hx rfl rfl d rfl (XT.i0_lt_t q) d1 d2 z) (gy q)
  · exact G.plain (fun T locs t X z => XS.ifNo X.here hx rfl d rfl (XT.i0_lt_f q) z) (gn q)
theorem G.lcmp_lt (K : Ok k Z n0 own R bytes maxL ret nm) {x y : Int64} {pd : Nat} (dl : Dc bytes pc .lcmp 1 pd) (d : Db bytes pd (.ifCond .lt) nx tg) (gy : x < y → G k n0 Q h cells slots tg Ls St) (gn : ¬ (x < y) → G k n0 Q h cells slots nx Ls St) : G k n0 Q h cells slots pc Ls (.long y :: .long x :: St) := by
  obtain ⟨p, l, e, R', s, m, args, below, meth, c⟩ := k
  obtain ⟨hx, hZ, hown, rfl, rfl, rfl, rfl, hlk, rfl, hn0⟩ := K
  obtain ⟨dl, rfl⟩ := dl
  obtain ⟨o, d, rfl, d1, d2⟩ := d
  by_cases q : x < y
  · exact G.plain (fun T locs t X z => XT.lcmp X.here hx rfl dl rfl (XS.ifYes X.here hx rfl rfl d rfl (XT.ll_lt_t q) d1 d2 z)) (gy q)
  · exact G.plain (fun T locs t X z => XT.lcmp X.here hx rfl dl rfl (XS.ifNo X.here hx rfl d rfl (XT.ll_lt_f q) z)) (gn q)
theorem G.icmp_ge (K : Ok k Z n0 own R bytes maxL ret nm) {x y : Int32} (d : Db bytes pc (.if_icmp .ge) nx tg) (gy : ¬ (x < y) → G k n0 Q h cells slots tg Ls St) (gn : x < y → G k n0 Q h cells slots nx Ls St) : G k n0 Q h cells slots pc Ls (.int y :: .int x :: St) := by
  obtain ⟨p, l, e, R', s, m, args, below, meth, c⟩ := k
  obtain ⟨hx, hZ, hown, rfl, rfl, rfl, rfl, hlk, rfl, hn0⟩ := K
  obtain ⟨o, d, rfl, d1, d2⟩ := d
  by_cases q : x < y
  · exact G.plain (fun T locs t X z => XS.icmpNo X.here hx rfl d rfl (XT.ii_ge_f q) z) (gn q)
  · exact G.plain (fun T locs t X z => XS.icmpYes X.here hx rfl rfl d rfl (XT.ii_ge_t q) d1 d2 z) (gy q)
theorem G.if_ge (K : Ok k Z n0 own R bytes maxL ret nm) {x : Int32} (d : Db bytes pc (.ifCond .ge) nx tg) (gy : ¬ (x < 0) → G k n0 Q h cells slots tg Ls St) (gn : x < 0 → G k n0 Q h cells slots nx Ls St) : G k n0 Q h cells slots pc Ls (.int x :: St) := by
  obtain ⟨p, l, e, R', s, m, args, below, meth, c⟩ := k
  obtain ⟨hx, hZ, hown, rfl, rfl, rfl, rfl, hlk, rfl, hn0⟩ := K
  obtain ⟨o, d, rfl, d1, d2⟩ := d
  by_cases q : x < 0
  · exact G.plain (fun T locs t X z => XS.ifNo X.here hx rfl d rfl (XT.i0_ge_f q) z) (gn q)
  · exact G.plain (fun T locs t X z => XS.ifYes X.here hx rfl rfl d rfl (XT.i0_ge_t q) d1 d2 z) (gy q)
theorem G.lcmp_ge (K : Ok k Z n0 own R bytes maxL ret nm) {x y : Int64} {pd : Nat} (dl : Dc bytes pc .lcmp 1 pd) (d : Db bytes pd (.ifCond .ge) nx tg) (gy : ¬ (x < y) → G k n0 Q h cells slots tg Ls St) (gn : x < y → G k n0 Q h cells slots nx Ls St) : G k n0 Q h cells slots pc Ls (.long y :: .long x :: St) := by
  obtain ⟨p, l, e, R', s, m, args, below, meth, c⟩ := k
  obtain ⟨hx, hZ, hown, rfl, rfl, rfl, rfl, hlk, rfl, hn0⟩ := K
  obtain ⟨dl, rfl⟩ := dl
  obtain ⟨o, d, rfl, d1, d2⟩ := d
  by_cases q : x < y
  · exact G.plain (fun T locs t X z => XT.lcmp X.here hx rfl dl rfl (XS.ifNo X.here hx rfl d rfl (XT.ll_ge_f q) z)) (gn q)
  · exact G.plain (fun T locs t X z => XT.lcmp X.here hx rfl dl rfl (XS.ifYes X.here hx rfl rfl d rfl (XT.ll_ge_t q) d1 d2 z)) (gy q)
theorem G.icmp_gt (K : Ok k Z n0 own R bytes maxL ret nm) {x y : Int32} (d : Db bytes pc (.if_icmp .gt) nx tg) (gy : y < x → G k n0 Q h cells slots tg Ls St) (gn : ¬ (y < x) → G k n0 Q h cells slots nx Ls St) : G k n0 Q h cells slots pc Ls (.int y :: .int x :: St) := by
  obtain ⟨p, l, e, R', s, m, args, below, meth, c⟩ := k
  obtain ⟨hx, hZ, hown, rfl, rfl, rfl, rfl, hlk, rfl, hn0⟩ := K
  obtain ⟨o, d, rfl, d1, d2⟩ := d
  by_cases q : y < x
  · exact G.plain (fun T locs t X z => XS.icmpYes X.here hx rfl rfl d rfl (XT.ii_gt_t q) d1 d2 z) (gy q)
  · exact G.plain (fun T locs t X z => XS.icmpNo X.here hx rfl d rfl (XT.ii_gt_f q) z) (gn q)
theorem G.if_gt (K : Ok k Z n0 own R bytes maxL ret nm) {x : Int32} (d : Db bytes pc (.ifCond .gt) nx tg) (gy : 0 < x → G k n0 Q h cells slots tg Ls St) (gn : ¬ (0 < x) → G k n0 Q h cells slots nx Ls St) : G k n0 Q h cells slots pc Ls (.int x :: St) := by
  obtain ⟨p, l, e, R', s, m, args, below, meth, c⟩ := k
  obtain ⟨hx, hZ, hown, rfl, rfl, rfl, rfl, hlk, rfl, hn0⟩ := K
  obtain ⟨o, d, rfl, d1, d2⟩ := d
  by_cases q : 0 < x
  · exact G.plain (fun T locs t X z => XS.ifYes X.here hx rfl rfl d rfl (XT.i0_gt_t q) d1 d2 z) (gy q)
  · exact G.plain (fun T locs t X z => XS.ifNo X.here hx rfl d rfl (XT.i0_gt_f q) z) (gn q)
theorem G.lcmp_gt (K : Ok k Z n0 own R bytes maxL ret nm) {x y : Int64} {pd : Nat} (dl : Dc bytes pc .lcmp 1 pd) (d : Db bytes pd (.ifCond .gt) nx tg) (gy : y < x → G k n0 Q h cells slots tg Ls St) (gn : ¬ (y < x) → G k n0 Q h cells slots nx Ls St) : G k n0 Q h cells slots pc Ls (.long y :: .long x :: St) := by
  obtain ⟨p, l, e, R', s, m, args, below, meth, c⟩ := k
  obtain ⟨hx, hZ, hown, rfl, rfl, rfl, rfl, hlk, rfl, hn0⟩ := K
  obtain ⟨dl, rfl⟩ := dl
  obtain ⟨o, d, rfl, d1, d2⟩ := d
  by_cases q : y < x
  · exact G.plain (fun T locs t X z => XT.lcmp X.here hx rfl dl rfl (XS.ifYes X.here hx rfl rfl d rfl (XT.ll_gt_t q) d1 d2 z)) (gy q)
  · exact G.plain (fun T locs t X z => XT.lcmp X.here hx rfl dl rfl (XS.ifNo X.here hx rfl d rfl (XT.ll_gt_f q) z)) (gn q)
theorem G.icmp_le (K : Ok k Z n0 own R bytes maxL ret nm) {x y : Int32} (d : Db bytes pc (.if_icmp .le) nx tg) (gy : ¬ (y < x) → G k n0 Q h cells slots tg Ls St) (gn : y < x → G k n0 Q h cells slots nx Ls St) : G k n0 Q h cells slots pc Ls (.int y :: .int x :: St) := by
  obtain ⟨p, l, e, R', s, m, args, below, meth, c⟩ := k
  obtain ⟨hx, hZ, hown, rfl, rfl, rfl, rfl, hlk, rfl, hn0⟩ := K
  obtain ⟨o, d, rfl, d1, d2⟩ := d
  by_cases q : y < x
  · exact G.plain (fun T locs t X z => XS.icmpNo X.here hx rfl d rfl (XT.ii_le_f q) z) (gn q)
  · exact G.plain (fun T locs t X z => XS.icmpYes X.here hx rfl rfl d rfl (XT.ii_le_t q) d1 d2 z) (gy q)
theorem G.if_le (K : Ok k Z n0 own R bytes maxL ret nm) {x : Int32} (d : Db bytes pc (.ifCond .le) nx tg) (gy : ¬ (0 < x) → G k n0 Q h cells slots tg Ls St) (gn : 0 < x → G k n0 Q h cells slots nx Ls St) : G k n0 Q h cells slots pc Ls (.int x :: St) := by
  obtain ⟨p, l, e, R', s, m, args, below, meth, c⟩ := k
  obtain ⟨hx, hZ, hown, rfl, rfl, rfl, rfl, hlk, rfl, hn0⟩ := K
  obtain ⟨o, d, rfl, d1, d2⟩ := d
  by_cases q : 0 < x
  · exact G.plain (fun T locs t X z => XS.ifNo X.here hx rfl d rfl (XT.i0_le_f q) z) (gn q)
  · exact G.plain (fun T locs t X z => XS.ifYes X.here hx rfl rfl d rfl (XT.i0_le_t q) d1 d2 z) (gy q)
theorem G.lcmp_le (K : Ok k Z n0 own R bytes maxL ret nm) {x y : Int64} {pd : Nat} (dl : Dc bytes pc .lcmp 1 pd) (d : Db bytes pd (.ifCond .le) nx tg) (gy : ¬ (y < x) → G k n0 Q h cells slots tg Ls St) (gn : y < x → G k n0 Q h cells slots nx Ls St) : G k n0 Q h cells slots pc Ls (.long y :: .long x :: St) := by
  obtain ⟨p, l, e, R', s, m, args, below, meth, c⟩ := k
  obtain ⟨hx, hZ, hown, rfl, rfl, rfl, rfl, hlk, rfl, hn0⟩ := K
  obtain ⟨dl, rfl⟩ := dl
  obtain ⟨o, d, rfl, d1, d2⟩ := d
  by_cases q : y < x
  · exact G.plain (fun T locs t X z => XT.lcmp X.here hx rfl dl rfl (XS.ifNo X.here hx rfl d rfl (XT.ll_le_f q) z)) (gn q)
  · exact G.plain (fun T locs t X z => XT.lcmp X.here hx rfl dl rfl (XS.ifYes X.here hx rfl rfl d rfl (XT.ll_le_t q) d1 d2 z)) (gy q)
theorem G.ifnull_ref (K : Ok k Z n0 own R bytes maxL ret nm) {a : Addr} (d : Db bytes pc .ifnull nx tg) (g : G k n0 Q h cells slots nx Ls St) : G k n0 Q h cells slots pc Ls (.ref a :: St) := by
  obtain ⟨p, l, e, R', s, m, args, below, meth, c⟩ := k
  obtain ⟨hx, hZ, hown, rfl, rfl, rfl, rfl, hlk, rfl, hn0⟩ := K
  obtain ⟨o, d, rfl, d1, d2⟩ := d
  exact G.plain (fun T locs t X q => XS.ifnullNo X.here hx rfl d rfl q) g
theorem G.ifnonnull_ref (K : Ok k Z n0 own R bytes maxL ret nm) {a : Addr} (d : Db bytes pc .ifnonnull nx tg) (g : G k n0 Q h cells slots tg Ls St) : G k n0 Q h cells slots pc Ls (.ref a :: St) := by
  obtain ⟨p, l, e, R', s, m, args, below, meth, c⟩ := k
  obtain ⟨hx, hZ, hown, rfl, rfl, rfl, rfl, hlk, rfl, hn0⟩ := K
  obtain ⟨o, d, rfl, d1, d2⟩ := d
  exact G.plain (fun T locs t X q => XT.ifnonnullYes X.here hx rfl rfl d rfl d1 d2 q) g
theorem G.acmp_ne (K : Ok k Z n0 own R bytes maxL ret nm) {x y : Value} (hx' : x.isRef = true) (hy' : y.isRef = true) (d : Db bytes pc (.if_acmp .ne) nx tg) (gy : ¬ x = y → G k n0 Q h cells slots tg Ls St) (gn : x = y → G k n0 Q h cells slots nx Ls St) : G k n0 Q h cells slots pc Ls (y :: x :: St) := by
  obtain ⟨p, l, e, R', s, m, args, below, meth, c⟩ := k
  obtain ⟨hx, hZ, hown, rfl, rfl, rfl, rfl, hlk, rfl, hn0⟩ := K
  obtain ⟨o, d, rfl, d1, d2⟩ := d
  by_cases q : x = y
  · exact G.plain (fun T locs t X z => XT.acmpNo X.here hx rfl d rfl hx' hy' (XT.aa_ne_f q) z) (gn q)
  · exact G.plain (fun T locs t X z => XT.acmpYes X.here hx rfl rfl d rfl hx' hy' (XT.aa_ne_t q) d1 d2 z) (gy q)
/-- the end -/
theorem G.leave {p : Program} {l : Launch} {e : Env} {R : Room} {s : State} {m : MethodId} {args : Array Value} {below : List Frame} {meth : Method} {c : Code} (hlk : meth.locks = false) (v : Option Value) (hv : meth.sig.returnType = none → v = none) (hq : Q v h)
    (st : ∀ T locs fs, Stand p l e R s m args below meth c T locs cells slots → (∀ (f : JFrame) (acts : List Action), f.method = m → f.locked = none → f.entered = [] → (doReturn e (T.setTop f) acts v).1 = T.setFrames fs) → Steps p.tables e below (T.setTop (mkF m pc ⟨Ls⟩ St)) (T.setFrames fs)) :
    G (p, l, e, R, s, m, args, below, meth, c) n0 Q h cells slots pc Ls St := by
  intro hc hs T locs X eT N
  obtain ⟨fs, hr, hrun, hended, hW, hsame⟩ := X.leave (v := v) hv hlk
  exact ⟨_, _, st T locs fs X hr, hrun, hended, v, locs, rfl, ⟨by show Q v T.heap; rw [eT]; exact hq, N⟩, ⟨_, rfl⟩, hW, hsame.mono hc hs⟩
theorem G.ret_int (K : Ok k Z n0 own R bytes maxL (some .int) nm) {x : Int32} (d : Dc bytes pc .ireturn 1 pc') (hq : Q (some (.int x)) h) : G k n0 Q h cells slots pc Ls (.int x :: St) := by
  obtain ⟨p, l, e, R', s, m, args, below, meth, c⟩ := k
  obtain ⟨hx, hZ, hown, rfl, rfl, rfl, hr0, hlk, rfl, hn0⟩ := K
  obtain ⟨d, rfl⟩ := d
  exact G.leave hlk (some (.int x)) (fun q => by rw [hr0] at q; cases q) hq (fun T locs fs X hr => retOut X hx hr0 rfl (Or.inl ⟨rfl, Or.inl rfl, x, rfl⟩) d hr)
theorem G.ret_bool (K : Ok k Z n0 own R bytes maxL (some .boolean) nm) {x : Int32} (d : Dc bytes pc .ireturn 1 pc') (hq : Q (some (.int (x &&& 1))) h) : G k n0 Q h cells slots pc Ls (.int x :: St) := by
  obtain ⟨p, l, e, R', s, m, args, below, meth, c⟩ := k
  obtain ⟨hx, hZ, hown, rfl, rfl, rfl, hr0, hlk, rfl, hn0⟩ := K
  obtain ⟨d, rfl⟩ := d
  exact G.leave hlk (some (.int (x &&& 1))) (fun q => by rw [hr0] at q; cases q) hq (fun T locs fs X hr => retN X hx (t := .boolean) hr0 (by simp) d hr)
theorem G.ret_long (K : Ok k Z n0 own R bytes maxL (some .long) nm) {x : Int64} (d : Dc bytes pc .lreturn 1 pc') (hq : Q (some (.long x)) h) : G k n0 Q h cells slots pc Ls (.long x :: St) := by
  obtain ⟨p, l, e, R', s, m, args, below, meth, c⟩ := k
  obtain ⟨hx, hZ, hown, rfl, rfl, rfl, hr0, hlk, rfl, hn0⟩ := K
  obtain ⟨d, rfl⟩ := d
  exact G.leave hlk (some (.long x)) (fun q => by rw [hr0] at q; cases q) hq (fun T locs fs X hr => retOut X hx hr0 rfl (Or.inr (Or.inl ⟨rfl, rfl, x, rfl⟩)) d hr)
theorem G.ret_ref {t : FieldType} (K : Ok k Z n0 own R bytes maxL (some t) nm) (ht : t.isReference = true) {x : Value} (hv : x.isRef = true) (d : Dc bytes pc .areturn 1 pc') (hq : Q (some x) h) : G k n0 Q h cells slots pc Ls (x :: St) := by
  obtain ⟨p, l, e, R', s, m, args, below, meth, c⟩ := k
  obtain ⟨hx, hZ, hown, rfl, rfl, rfl, hr0, hlk, rfl, hn0⟩ := K
  obtain ⟨d, rfl⟩ := d
  have hn : narrow t x = x := by rcases ref_cases hv with rfl | ⟨a, rfl⟩ <;> cases t <;> rfl
  exact G.leave hlk (some x) (fun q => by rw [hr0] at q; cases q) hq (fun T locs fs X hr => retOut X hx hr0 hn (Or.inr (Or.inr (Or.inr (Or.inr ⟨rfl, ht, hv⟩)))) d hr)
theorem G.ret_void (K : Ok k Z n0 own R bytes maxL none nm) (d : Dc bytes pc .return_ 1 pc') (hq : Q none h) : G k n0 Q h cells slots pc Ls [] := by
  obtain ⟨p, l, e, R', s, m, args, below, meth, c⟩ := k
  obtain ⟨hx, hZ, hown, rfl, rfl, rfl, hr0, hlk, rfl, hn0⟩ := K
  obtain ⟨d, rfl⟩ := d
  exact G.leave hlk none (fun q => rfl) hq (fun T locs fs X hr => X.returnOut hx hr0 d hr)
/-! ### what is known of the heap: one word a cell that the law has made -/
theorem nd_inj {α : Type} {L : List α} (H : L.Nodup) {i j : Nat} {x : α} (hi : L[i]? = some x) (hj : L[j]? = some x) : i = j := by
  obtain ⟨h1, e1⟩ := List.getElem?_eq_some_iff.mp hi
  obtain ⟨h2, e2⟩ := List.getElem?_eq_some_iff.mp hj
  have w := List.pairwise_iff_getElem.mp H
  rcases Nat.lt_trichotomy i j with q | q | q
  · exact absurd (e1.trans e2.symm) (w i j h1 h2 q)
  · exact q
  · exact absurd (e2.trans e1.symm) (w j i h2 h1 q)
abbrev Ch := Addr × (Cell → Prop)
def Hp (n0 : Nat) (h : Heap) (σ : List Ch) : Prop := (σ.map Prod.fst).Nodup ∧ ∀ q ∈ σ, n0 ≤ q.1 ∧ ∃ cell, h[q.1]? = some cell ∧ q.2 cell
variable {σ : List Ch} {a : Addr} {P P' : Cell → Prop} {i : Nat} {h' : Heap}
theorem Hp.nil : Hp n0 h [] := ⟨List.nodup_nil, fun _ q => nomatch q⟩
theorem Hp.at (H : Hp n0 h σ) (hi : σ[i]? = some (a, P)) : n0 ≤ a ∧ ∃ cell, h[a]? = some cell ∧ P cell := H.2 _ (List.mem_of_getElem? hi)
theorem Hp.ge (H : Hp n0 h σ) (hi : σ[i]? = some (a, P)) : n0 ≤ a := (H.at hi).1
theorem Hp.lt (H : Hp n0 h σ) (q : Ch) (hq : q ∈ σ) : q.1 < h.size := by
  obtain ⟨-, cell, h1, -⟩ := H.2 _ hq
  exact (Array.getElem?_eq_some_iff.mp h1).1
theorem Hp.ne (H : Hp n0 h σ) {j : Nat} {b : Addr} {P' : Cell → Prop} (hi : σ[i]? = some (a, P)) (hj : σ[j]? = some (b, P')) (q : i ≠ j) : a ≠ b := by
  intro e
  subst e
  exact q (nd_inj H.1 (x := a) (by simp [hi]) (by simp [hj]))
theorem Hp.ext (H : Hp n0 h σ) (E : Ext h h') : Hp n0 h' σ := ⟨H.1, fun q hq => by obtain ⟨h1, c, h2, h3⟩ := H.2 q hq; exact ⟨h1, c, E.2 _ _ h2, h3⟩⟩
theorem Hp.cons (H : Hp n0 h σ) (E : Ext h h') (hn : n0 ≤ h.size) (w : ∃ cell, h'[h.size]? = some cell ∧ P cell) : Hp n0 h' ((h.size, P) :: σ) := by
  refine ⟨?_, fun q hq => ?_⟩
  · rw [List.map_cons, List.nodup_cons]
    refine ⟨fun q => ?_, H.1⟩
    obtain ⟨x, hx, e⟩ := List.mem_map.mp q
    have := H.lt x hx
    rw [e] at this
    exact absurd this (Nat.lt_irrefl _)
  · rcases List.mem_cons.mp hq with rfl | hq
    · exact ⟨hn, w⟩
    · exact (H.ext E).2 q hq
theorem Hp.drop {x : Ch} (H : Hp n0 h (x :: σ)) : Hp n0 h σ := ⟨(List.nodup_cons.mp H.1).2, fun q hq => H.2 q (List.mem_cons_of_mem _ hq)⟩
theorem Hp.sub {σ' : List Ch} (H : Hp n0 h σ) (q : σ'.Sublist σ) : Hp n0 h σ' := ⟨List.Nodup.sublist (q.map _) H.1, fun x hx => H.2 x (q.subset hx)⟩
theorem Hp.perm {σ' : List Ch} (H : Hp n0 h σ) (q : σ'.Perm σ) : Hp n0 h σ' := ⟨(List.Perm.nodup_iff (q.map Prod.fst)).mpr H.1, fun x hx => H.2 x (q.mem_iff.mp hx)⟩
theorem perm_pull : ∀ {i : Nat} {σ : List Ch} {x : Ch}, σ[i]? = some x → (x :: σ.eraseIdx i).Perm σ
  | 0, y :: σ, x, e => by cases Option.some.inj e; exact List.Perm.refl _
  | i + 1, y :: σ, x, e => ((List.Perm.swap y x _).trans ((perm_pull (i := i) (σ := σ) e).cons y))
theorem Hp.pull (H : Hp n0 h σ) (i : Nat) {x : Ch} (hi : σ[i]? = some x) : Hp n0 h (x :: σ.eraseIdx i) := H.perm (perm_pull hi)
theorem Hp.set (H : Hp n0 h σ) (hi : σ[i]? = some (a, P)) (hs : h'.size = h.size) (ho : ∀ b, b ≠ a → h'[b]? = h[b]?) (w : ∃ cell, h'[a]? = some cell ∧ P' cell) : Hp n0 h' (σ.set i (a, P')) := by
  obtain ⟨hlt, e1⟩ := List.getElem?_eq_some_iff.mp hi
  have em : (σ.set i (a, P')).map Prod.fst = σ.map Prod.fst := by
    apply List.ext_getElem?
    intro j
    by_cases q : i = j
    · subst q; simp [hlt, e1]
    · simp [List.getElem?_set_ne q]
  refine ⟨by rw [em]; exact H.1, fun q hq => ?_⟩
  obtain ⟨j, hj, e⟩ := List.getElem_of_mem hq
  rw [List.getElem_set] at e
  rw [List.length_set] at hj
  by_cases z : i = j
  · rw [if_pos z] at e; subst e; exact ⟨H.ge hi, w⟩
  · rw [if_neg z] at e
    have hj' : σ[j]? = some (q.1, q.2) := by rw [List.getElem?_eq_getElem hj, e]
    have hne : q.1 ≠ a := H.ne hj' hi (Ne.symm z)
    obtain ⟨h1, c, h2, h3⟩ := H.at hj'
    exact ⟨h1, c, by rw [ho _ hne]; exact h2, h3⟩
theorem Hp.wr {sl : Nat} {v : Value} (H : Hp n0 h σ) (hi : σ[i]? = some (a, P)) (W : Wr h h' a sl v) (hP : ∀ cell, P cell → P' (cell.setSlot sl v)) : Hp n0 h' (σ.set i (a, P')) := by
  obtain ⟨cell, h1, h2, h3, rfl⟩ := W
  obtain ⟨-, c', h4, h5⟩ := H.at hi
  cases h1.symm.trans h4
  refine H.set hi (by simp) (fun b hb => Array.getElem?_setIfInBounds_ne (Ne.symm hb)) ⟨_, Array.getElem?_setIfInBounds_self_of_lt (Array.getElem?_eq_some_iff.mp h1).1, hP _ h5⟩
theorem Hp.imp (H : Hp n0 h σ) (hi : σ[i]? = some (a, P)) (hP : ∀ cell, P cell → P' cell) : Hp n0 h (σ.set i (a, P')) := by
  obtain ⟨-, c, h1, h2⟩ := H.at hi
  exact H.set hi rfl (fun _ _ => rfl) ⟨c, h1, hP c h2⟩
/-- an object, its class, the fields that are spoken of and what they hold -/
def Ob (Z : State) (C : String) (NS : List (String × String × String)) (vs : List Value) (cell : Cell) : Prop :=
  (∃ k, Z.vm.findClass C = some cell.cls ∧ Z.vm.classes[cell.cls]? = some k ∧ cell.vm.isStatics = false ∧ (k.kind = .ordinary → cell.slots.size = k.instanceTypes.size)) ∧
  ∀ (j : Nat) (f : String × String × String) (v : Value), NS[j]? = some f → vs[j]? = some v → ∃ (cf : ClassId) (k : Class) (i : Nat) (fd : Field), Z.fieldFound? f.1 f.2.1 f.2.2 = some (cf, k, i, fd) ∧ fd.isStatic = false ∧ cell.vm ≠ .unknown ∧ Z.vm.assignable cell.cls cf = true ∧ cell.slots[fd.slot]? = some v
/-- what the sheet says of a class's fields -/
def Cf (Z : State) (a0 : Array Value) (C : String) (NS : List (String × String × String)) : Prop := (∀ f ∈ NS, Laid Z a0 C f.1 f.2.1 f.2.2) ∧ (NS.map fun f => f.2.1).Nodup ∧ ∀ f ∈ NS, ∃ t, parseFieldDescriptor f.2.2 = some t
variable {C O n ds : String} {NS : List (String × String × String)} {vs : List Value} {j : Nat} {v w : Value}
theorem Hp.exa (H : Hp n0 h σ) (hi : σ[i]? = some (a, Ob Z C NS vs)) : Exa Z h a C := by
  obtain ⟨-, cell, h1, ⟨k, h2, h3, h4, h5⟩, -⟩ := H.at hi
  exact ⟨cell, k, h1, h2, h3, h4, h5⟩
theorem Hp.fld (H : Hp n0 h σ) (hi : σ[i]? = some (a, Ob Z C NS vs)) (hj : NS[j]? = some (O, n, ds)) (hv : vs[j]? = some v) : Fld Z h a O n ds v := by
  obtain ⟨-, cell, h1, ⟨k, h2, h3, h4, h5⟩, h6⟩ := H.at hi
  obtain ⟨cf, k, i, fd, q1, q2, q3, q4, q5⟩ := h6 j _ _ hj hv
  exact ⟨cell, cf, k, i, fd, h1, q1, q2, q3, h4, q4, q5⟩
theorem Ob.set (F : Cf Z a0 C NS) (hj : NS[j]? = some (O, n, ds)) (hv : vs[j]? = some v) (w : Value) {cell : Cell} (B : Ob Z C NS vs cell) : Ob Z C NS (vs.set j w) (cell.setSlot (RoadKit.slotOf Z O n ds) w) := by
  obtain ⟨⟨k, h2, h3, h4, h5⟩, h6⟩ := B
  refine ⟨⟨k, h2, h3, h4, fun q => by rw [sz_set]; exact h5 q⟩, fun j' f v' hf hv' => ?_⟩
  obtain ⟨cf, kk, ii, fd, q1, q2, q3, q4, q5⟩ := h6 j _ _ hj hv
  have es : RoadKit.slotOf Z O n ds = fd.slot := by simp [RoadKit.slotOf, q1]
  by_cases z : j = j'
  · subst z
    cases hj.symm.trans hf
    have hl := (List.getElem?_eq_some_iff.mp hv).1
    rw [List.getElem?_set_self hl] at hv'
    cases hv'
    refine ⟨cf, kk, ii, fd, q1, q2, q3, q4, ?_⟩
    rw [es]
    exact Array.getElem?_setIfInBounds_self_of_lt (Array.getElem?_eq_some_iff.mp q5).1
  · rw [List.getElem?_set_ne z] at hv'
    obtain ⟨cf', kk', ii', fd', r1, r2, r3, r4, r5⟩ := h6 j' _ _ hf hv'
    refine ⟨cf', kk', ii', fd', r1, r2, r3, r4, ?_⟩
    have es' : RoadKit.slotOf Z f.1 f.2.1 f.2.2 = fd'.slot := by simp [RoadKit.slotOf, r1]
    have m1 := List.mem_of_getElem? hj
    have m2 := List.mem_of_getElem? hf
    have hne : n ≠ f.2.1 := by
      intro e
      exact z (nd_inj F.2.1 (x := n) (by simp [hj]) (by simp [hf, e]))
    obtain ⟨t1, p1⟩ := F.2.2 _ m1
    obtain ⟨t2, p2⟩ := F.2.2 _ m2
    have := RoadKit.slot_ne (F.1 _ m1) (F.1 _ m2) hne p1 p2
    rw [es'] at this
    show (Array.setIfInBounds _ _ _)[_]? = _
    rw [Array.getElem?_setIfInBounds_ne this]
    exact r5
theorem G.getF (K : Ok k Z n0 own R bytes maxL ret nm) {idx : Nat} {host : String} (w : (Cond.fieldLink own idx O n ds).before a0 Z = true ∨ (Cond.fieldLinkNest own idx O n ds host).before a0 Z = true) (H : Hp n0 h σ) (hi : σ[i]? = some (a, Ob Z C NS vs)) (hj : NS[j]? = some (O, n, ds)) (hv : vs[j]? = some v)
    (d : Dc bytes pc (.getfield idx) 3 pc') (g : G k n0 Q h cells slots pc' Ls (v :: St)) : G k n0 Q h cells slots pc Ls (.ref a :: St) := by
  obtain ⟨p, l, e, R', s, m, args, below, meth, c⟩ := k
  obtain ⟨hx, hZ, hown, rfl, rfl, rfl, rfl, hlk, rfl, hn0⟩ := K
  obtain ⟨d, rfl⟩ := d
  exact G.moved (fun T locs X eT => RoadKit.getF X hx hZ hown w Via.refl eT (H.fld hi hj hv) (g := mkF m pc ⟨Ls⟩ (.ref a :: St)) rfl rfl d) g
theorem G.putF (K : Ok k Z n0 own R bytes maxL ret nm) {idx kk : Nat} {host : String} {ty : FieldType} (w : (Cond.fieldLink own idx O n ds).before a0 Z = true ∨ (Cond.fieldLinkNest own idx O n ds host).before a0 Z = true) (F : Cf Z a0 C NS) (wl : (Cond.lays C O n ds).before a0 Z = true ∨ ((Cond.laysFinal C O n ds).before a0 Z = true ∧ own = O ∧ nm = "<init>")) (wi : (Cond.instantiable C kk).before a0 Z = true)
    (H : Hp n0 h σ) (hi : σ[i]? = some (a, Ob Z C NS vs)) (hj : NS[j]? = some (O, n, ds)) {old : Value} (hv : vs[j]? = some old) (hty : parseFieldDescriptor ds = some ty) (hn : narrow ty v = v) (hf : fits ty v = true)
    (d : Dc bytes pc (.putfield idx) 3 pc') (g : ∀ h', Hp n0 h' (σ.set i (a, Ob Z C NS (vs.set j v))) → G k n0 Q h' cells slots pc' Ls St) : G k n0 Q h cells slots pc Ls (v :: .ref a :: St) := by
  obtain ⟨p, l, e, R', s, m, args, below, meth, c⟩ := k
  obtain ⟨hx, hZ, hown, rfl, rfl, rfl, rfl, hlk, rfl, hn0⟩ := K
  obtain ⟨d, rfl⟩ := d
  intro hc hs T locs X eT N
  obtain ⟨T', h', X', eT', W, st⟩ := RoadKit.putF X hx hZ hown w Via.refl eT (H.fld hi hj hv) (H.exa hi) wl wi hty hn hf (g := mkF m pc ⟨Ls⟩ (v :: .ref a :: St)) rfl rfl d
  obtain ⟨s₂, o, h1, r⟩ := g h' (H.wr hi W fun cell B => Ob.set F hj hv v B) hc hs T' _ X' eT' (Fr.snoc X' N (H.ge hi))
  exact ⟨s₂, o, st s₂ h1, r⟩
theorem G.putFN (K : Ok k Z n0 own R bytes maxL ret nm) {idx kk : Nat} {ty : FieldType} (w : (Cond.fieldLink own idx O n ds).before a0 Z = true) (F : Cf Z a0 C NS) (wl : (Cond.lays C O n ds).before a0 Z = true ∨ ((Cond.laysFinal C O n ds).before a0 Z = true ∧ own = O ∧ nm = "<init>")) (wi : (Cond.instantiable C kk).before a0 Z = true)
    (H : Hp n0 h σ) (hi : σ[i]? = some (a, Ob Z C NS vs)) (hj : NS[j]? = some (O, n, ds)) {old v' : Value} (hv : vs[j]? = some old) (hty : parseFieldDescriptor ds = some ty) (hn : narrow ty v = v') (hf : fits ty v' = true)
    (d : Dc bytes pc (.putfield idx) 3 pc') (g : ∀ h', Hp n0 h' (σ.set i (a, Ob Z C NS (vs.set j v'))) → G k n0 Q h' cells slots pc' Ls St) : G k n0 Q h cells slots pc Ls (v :: .ref a :: St) := by
  obtain ⟨p, l, e, R', s, m, args, below, meth, c⟩ := k
  obtain ⟨hx, hZ, hown, rfl, rfl, rfl, rfl, hlk, rfl, hn0⟩ := K
  obtain ⟨d, rfl⟩ := d
  intro hc hs T locs X eT N
  obtain ⟨T', h', X', eT', W, st⟩ := RoadKit.putFN X hx hZ hown w Via.refl eT (H.fld hi hj hv) (H.exa hi) wl wi hty hn hf (g := mkF m pc ⟨Ls⟩ (v :: .ref a :: St)) rfl rfl d
  obtain ⟨s₂, o, h1, r⟩ := g h' (H.wr hi W fun cell B => Ob.set F hj hv v' B) hc hs T' _ X' eT' (Fr.snoc X' N (H.ge hi))
  exact ⟨s₂, o, st s₂ h1, r⟩
theorem size_ok {p : Program} {l : Launch} {e : Env} {R : Room} {s : State} {m : MethodId} {args : Array Value} {below : List Frame} {meth : Method} {c : Code} {T : State} {locs : List Loc} (X : Stand p l e R s m args below meth c T locs cells slots) (eT : T.heap = h) (hn : n0 ≤ s.heap.size) : n0 ≤ h.size := by
  have := X.same.2.1
  subst eT
  exact Nat.le_trans hn this
theorem G.new (K : Ok k Z n0 own R bytes maxL ret nm) {idx kk : Nat} (w : (Cond.classLink own idx C).before a0 Z = true) (wi : (Cond.instantiable C kk).before a0 Z = true) (wz : (Cond.initialized C).before a0 Z = true) (F : Cf Z a0 C NS)
    (hd : NS.map (fun f => (parseFieldDescriptor f.2.2).map defaultValue) = vs.map some) (H : Hp n0 h σ) (hc : cells + 1 ≤ R.cells) (hl : slots + kk ≤ R.slots) (d : Dc bytes pc (.new idx) 3 pc')
    (g : ∀ a h', Hp n0 h' ((a, Ob Z C NS vs) :: σ) → G k n0 Q h' (cells + 1) (slots + kk) pc' Ls (.ref a :: St)) : G k n0 Q h cells slots pc Ls St := by
  obtain ⟨p, l, e, R', s, m, args, below, meth, c⟩ := k
  obtain ⟨hx, hZ, hown, rfl, rfl, rfl, rfl, hlk, rfl, hn0⟩ := K
  obtain ⟨d, rfl⟩ := d
  intro _ _ T locs X eT N
  obtain ⟨T', h', X', eT', E, A, D, ⟨cell, hc1, hc2, -⟩, st⟩ := RoadKit.newO X hx hZ hown w wi wz eT (g := mkF m pc ⟨Ls⟩ St) rfl d hc hl
  have B : Ob Z C NS vs cell := by
    obtain ⟨c', k, q1, q2, q3, q4, q5⟩ := A
    cases hc1.symm.trans q1
    refine ⟨⟨k, q2, q3, q4, q5⟩, fun j f v hf hv => ?_⟩
    have e1 : (NS.map (fun f => (parseFieldDescriptor f.2.2).map defaultValue))[j]? = some ((parseFieldDescriptor f.2.2).map defaultValue) := by simp [hf]
    rw [hd] at e1
    simp only [List.getElem?_map, hv, Option.map_some, Option.some.injEq] at e1
    obtain ⟨t, ht⟩ := F.2.2 _ (List.mem_of_getElem? hf)
    rw [ht, Option.map_some, Option.some.injEq] at e1
    obtain ⟨c'', cf, k', i', fd, r1, r2, r3, r4, r5, r6, r7⟩ := D (F.1 _ (List.mem_of_getElem? hf)) ht
    cases hc1.symm.trans r1
    exact ⟨cf, k', i', fd, r2, r3, r4, r6, by rw [e1]; exact r7⟩
  obtain ⟨s₂, o, h1, r⟩ := g h.size h' (H.cons E (size_ok X eT hn0) ⟨cell, hc1, B⟩) hc hl T' _ X' eT' N
  exact ⟨s₂, o, st s₂ h1, r⟩
/-! ### arrays -/
def Aa (Z : State) (ty : FieldType) (vs : List Value) (cell : Cell) : Prop := Z.isArrayOf cell ty ∧ cell.vm ≠ .unknown ∧ cell.slots = vs.toArray ∧ vs.length < 2 ^ 31
abbrev Ia (Z : State) (xs : List Int32) : Cell → Prop := Aa Z .int (xs.map Value.int)
abbrev La (Z : State) (xs : List Int64) : Cell → Prop := Aa Z .long (xs.map Value.long)
variable {ty : FieldType} {xs : List Int32} {ys : List Int64} {x z : Int32} {y : Int64}
theorem inb (hn : ¬ z < 0) (hv : vs[z.toNatClampNeg]? = some v) {cell : Cell} (e : cell.slots = vs.toArray) : ¬ (z < 0 ∨ cell.slots.size ≤ z.toNatClampNeg) := by
  intro q
  have := (List.getElem?_eq_some_iff.mp hv).1
  rcases q with q | q
  · exact hn q
  · rw [e] at q; simp at q; omega
theorem G.alen (K : Ok k Z n0 own R bytes maxL ret nm) (H : Hp n0 h σ) (hi : σ[i]? = some (a, Aa Z ty vs)) (d : Dc bytes pc .arraylength 1 pc') (z : Int32) (hz : Int32.ofNat vs.length = z) (g : G k n0 Q h cells slots pc' Ls (.int z :: St)) : G k n0 Q h cells slots pc Ls (.ref a :: St) := by
  obtain ⟨p, l, e, R', s, m, args, below, meth, c⟩ := k
  obtain ⟨hx, hZ, hown, rfl, rfl, rfl, rfl, hlk, rfl, hn0⟩ := K
  obtain ⟨d, rfl⟩ := d
  obtain ⟨-, cell, h1, h2, h3, h4, h5⟩ := H.at hi
  refine G.moved (fun T locs X eT => ⟨T, X, eT, fun t q => ?_⟩) g
  refine X.arraylength hx (by rw [eT]; exact h1) (State.isArrayOf_alike hZ.alike h2) (g := mkF m pc ⟨Ls⟩ (.ref a :: St)) rfl rfl d t ?_
  have : cell.slots.size.toInt32 = z := by rw [h4, ← hz]; simp [Nat.toInt32]
  rw [this]; exact q
theorem G.aload_i (K : Ok k Z n0 own R bytes maxL ret nm) (H : Hp n0 h σ) (hi : σ[i]? = some (a, Ia Z xs)) (hn : ¬ z < 0) (hv : xs[z.toNatClampNeg]? = some x) (d : Dc bytes pc .iaload 1 pc') (g : G k n0 Q h cells slots pc' Ls (.int x :: St)) : G k n0 Q h cells slots pc Ls (.int z :: .ref a :: St) := by
  obtain ⟨p, l, e, R', s, m, args, below, meth, c⟩ := k
  obtain ⟨hx, hZ, hown, rfl, rfl, rfl, rfl, hlk, rfl, hn0⟩ := K
  obtain ⟨d, rfl⟩ := d
  obtain ⟨-, cell, h1, h2, h3, h4, h5⟩ := H.at hi
  have hv' : (xs.map Value.int)[z.toNatClampNeg]? = some (.int x) := by simp [hv]
  exact G.moved (fun T locs X eT => ⟨T, X, eT, fun t q => X.iaload hx (by rw [eT]; exact h1) (State.isArrayOf_alike hZ.alike h2) h3 (inb hn hv' h4) (v := .int x) (by rw [h4]; simpa using hv') (g := mkF m pc ⟨Ls⟩ (.int z :: .ref a :: St)) rfl rfl d t q⟩) g
theorem G.aload_l (K : Ok k Z n0 own R bytes maxL ret nm) (H : Hp n0 h σ) (hi : σ[i]? = some (a, La Z ys)) (hn : ¬ z < 0) (hv : ys[z.toNatClampNeg]? = some y) (d : Dc bytes pc .laload 1 pc') (g : G k n0 Q h cells slots pc' Ls (.long y :: St)) : G k n0 Q h cells slots pc Ls (.int z :: .ref a :: St) := by
  obtain ⟨p, l, e, R', s, m, args, below, meth, c⟩ := k
  obtain ⟨hx, hZ, hown, rfl, rfl, rfl, rfl, hlk, rfl, hn0⟩ := K
  obtain ⟨d, rfl⟩ := d
  obtain ⟨-, cell, h1, h2, h3, h4, h5⟩ := H.at hi
  have hv' : (ys.map Value.long)[z.toNatClampNeg]? = some (.long y) := by simp [hv]
  exact G.moved (fun T locs X eT => ⟨T, X, eT, fun t q => X.laload hx (by rw [eT]; exact h1) (State.isArrayOf_alike hZ.alike h2) h3 (inb hn hv' h4) (v := .long y) (by rw [h4]; simpa using hv') (g := mkF m pc ⟨Ls⟩ (.int z :: .ref a :: St)) rfl rfl d t q⟩) g
theorem Aa.set {i : Nat} {v : Value} {cell : Cell} (A : Aa Z ty vs cell) : Aa Z ty (vs.set i v) (cell.setSlot i v) := by
  obtain ⟨h2, h3, h4, h5⟩ := A
  exact ⟨h2, h3, by simp [Cell.setSlot, h4], by simpa using h5⟩
theorem G.astore_i (K : Ok k Z n0 own R bytes maxL ret nm) (H : Hp n0 h σ) (hi : σ[i]? = some (a, Ia Z xs)) (hn : ¬ z < 0) (hv : z.toNatClampNeg < xs.length) (d : Dc bytes pc .iastore 1 pc') (g : ∀ h', Hp n0 h' (σ.set i (a, Ia Z (xs.set z.toNatClampNeg x))) → G k n0 Q h' cells slots pc' Ls St) : G k n0 Q h cells slots pc Ls (.int x :: .int z :: .ref a :: St) := by
  obtain ⟨p, l, e, R', s, m, args, below, meth, c⟩ := k
  obtain ⟨hx, hZ, hown, rfl, rfl, rfl, rfl, hlk, rfl, hn0⟩ := K
  obtain ⟨d, rfl⟩ := d
  obtain ⟨ge, cell, h1, h2, h3, h4, h5⟩ := H.at hi
  have hv' : (xs.map Value.int)[z.toNatClampNeg]? = some (.int xs[z.toNatClampNeg]) := by simp [hv]
  intro hc hs T locs X eT N
  obtain ⟨T', h', X', eT', W, st⟩ := RoadKit.stI X hx hZ eT ⟨h1, h2, h3⟩ (inb hn hv' h4) (g := mkF m pc ⟨Ls⟩ (.int x :: .int z :: .ref a :: St)) rfl rfl d
  have H' : Hp n0 h' (σ.set i (a, Ia Z (xs.set z.toNatClampNeg x))) := H.wr hi W fun cell B => by
    have := Aa.set (i := z.toNatClampNeg) (v := .int x) B
    rw [← List.map_set] at this; exact this
  obtain ⟨s₂, o, q1, r⟩ := g h' H' hc hs T' _ X' eT' (Fr.snoc X' N ge)
  exact ⟨s₂, o, st s₂ q1, r⟩
theorem G.astore_l (K : Ok k Z n0 own R bytes maxL ret nm) (H : Hp n0 h σ) (hi : σ[i]? = some (a, La Z ys)) (hn : ¬ z < 0) (hv : z.toNatClampNeg < ys.length) (d : Dc bytes pc .lastore 1 pc') (g : ∀ h', Hp n0 h' (σ.set i (a, La Z (ys.set z.toNatClampNeg y))) → G k n0 Q h' cells slots pc' Ls St) : G k n0 Q h cells slots pc Ls (.long y :: .int z :: .ref a :: St) := by
  obtain ⟨p, l, e, R', s, m, args, below, meth, c⟩ := k
  obtain ⟨hx, hZ, hown, rfl, rfl, rfl, rfl, hlk, rfl, hn0⟩ := K
  obtain ⟨d, rfl⟩ := d
  obtain ⟨ge, cell, h1, h2, h3, h4, h5⟩ := H.at hi
  have hv' : (ys.map Value.long)[z.toNatClampNeg]? = some (.long ys[z.toNatClampNeg]) := by simp [hv]
  intro hc hs T locs X eT N
  obtain ⟨T', h', X', eT', W, st⟩ := RoadKit.stJ X hx hZ eT ⟨h1, h2, h3⟩ (inb hn hv' h4) (g := mkF m pc ⟨Ls⟩ (.long y :: .int z :: .ref a :: St)) rfl rfl d
  have H' : Hp n0 h' (σ.set i (a, La Z (ys.set z.toNatClampNeg y))) := H.wr hi W fun cell B => by
    have := Aa.set (i := z.toNatClampNeg) (v := .long y) B
    rw [← List.map_set] at this; exact this
  obtain ⟨s₂, o, q1, r⟩ := g h' H' hc hs T' _ X' eT' (Fr.snoc X' N ge)
  exact ⟨s₂, o, st s₂ q1, r⟩
theorem G.newarr (K : Ok k Z n0 own R bytes maxL ret nm) {aty : ArrayType} (w : (Cond.arrayClass (newarray.typeOf aty)).before a0 Z = true) (H : Hp n0 h σ) (hn : ¬ z < 0) (cap : Nat) (hcap : z.toNatClampNeg ≤ cap) (hb : cap * 8 ≤ 536870912) (hc : cells + 1 ≤ R.cells) (hl : slots + cap ≤ R.slots) (d : Dc bytes pc (.newarray aty) 2 pc')
    (g : ∀ a h', Hp n0 h' ((a, Aa Z (newarray.typeOf aty) (List.replicate z.toNatClampNeg (defaultValue (newarray.typeOf aty)))) :: σ) → G k n0 Q h' (cells + 1) (slots + cap) pc' Ls (.ref a :: St)) : G k n0 Q h cells slots pc Ls (.int z :: St) := by
  obtain ⟨p, l, e, R', s, m, args, below, meth, c⟩ := k
  obtain ⟨hx, hZ, hown, rfl, rfl, rfl, rfl, hlk, rfl, hn0⟩ := K
  obtain ⟨d, rfl⟩ := d
  intro _ _ T locs X eT N
  obtain ⟨T', h', cA, X', eT', E, A, st⟩ := RoadKit.newP X hx hZ w eT (g := mkF m pc ⟨Ls⟩ (.int z :: St)) rfl d rfl hn hcap hb hc hl
  have B : Aa Z (newarray.typeOf aty) (List.replicate z.toNatClampNeg (defaultValue (newarray.typeOf aty))) (newA cA (newarray.typeOf aty) z) :=
    ⟨A.2.1, A.2.2, by simp [newA], by rw [List.length_replicate]; exact (back32 hn).2⟩
  obtain ⟨s₂, o, h1, r⟩ := g h.size h' (H.cons E (size_ok X eT hn0) ⟨_, A.1, B⟩) hc hl T' _ X' eT' N
  exact ⟨s₂, o, st s₂ h1, r⟩
theorem G.newarr_i (K : Ok k Z n0 own R bytes maxL ret nm) (w : (Cond.arrayClass .int).before a0 Z = true) (H : Hp n0 h σ) (hn : ¬ z < 0) (cap : Nat) (hcap : z.toNatClampNeg ≤ cap) (hb : cap * 8 ≤ 536870912) (hc : cells + 1 ≤ R.cells) (hl : slots + cap ≤ R.slots) (d : Dc bytes pc (.newarray .int) 2 pc')
    (g : ∀ a h', Hp n0 h' ((a, Ia Z (List.replicate z.toNatClampNeg 0)) :: σ) → G k n0 Q h' (cells + 1) (slots + cap) pc' Ls (.ref a :: St)) : G k n0 Q h cells slots pc Ls (.int z :: St) :=
  G.newarr K (aty := .int) w H hn cap hcap hb hc hl d fun a h' H' => g a h' (by show Hp n0 h' ((a, Aa Z .int ((List.replicate z.toNatClampNeg (0 : Int32)).map Value.int)) :: σ); rw [List.map_replicate]; exact H')
theorem G.newarr_l (K : Ok k Z n0 own R bytes maxL ret nm) (w : (Cond.arrayClass .long).before a0 Z = true) (H : Hp n0 h σ) (hn : ¬ z < 0) (cap : Nat) (hcap : z.toNatClampNeg ≤ cap) (hb : cap * 8 ≤ 536870912) (hc : cells + 1 ≤ R.cells) (hl : slots + cap ≤ R.slots) (d : Dc bytes pc (.newarray .long) 2 pc')
    (g : ∀ a h', Hp n0 h' ((a, La Z (List.replicate z.toNatClampNeg 0)) :: σ) → G k n0 Q h' (cells + 1) (slots + cap) pc' Ls (.ref a :: St)) : G k n0 Q h cells slots pc Ls (.int z :: St) :=
  G.newarr K (aty := .long) w H hn cap hcap hb hc hl d fun a h' H' => g a h' (by show Hp n0 h' ((a, Aa Z .long ((List.replicate z.toNatClampNeg (0 : Int64)).map Value.long)) :: σ); rw [List.map_replicate]; exact H')
/-! ### calls -/
/-- a body's contract: called on these arguments at this heap it returns, and Q holds -/
def Ct (l : Launch) (Z : State) (n0 : Nat) (yy : MethodName) (bytes : ByteArray) (maxL : Nat) (ret : Option FieldType) (rm : Room) (as : List Value) (h : Heap) (Q : Option Value → Heap → Prop) : Prop :=
  n0 ≤ h.size → ∀ ws, MetFree l yy (head1 (Cond.code yy bytes maxL ret :: ws) rm) (fun a U => a = as.toArray ∧ Z.Warmed39 U.vm ∧ U.heap = h) (fun _ _ _ _ _ => True)
    (fun _ U o U' => ∃ v L, o = .returned v ∧ (Q v U'.heap ∧ Fr n0 L) ∧ FrameEnd U o U' L rm.cells rm.slots)
variable {l : Launch} {yy : MethodName} {rm : Room} {as : List Value}
theorem Ct.post {Q' : Option Value → Heap → Prop} (c : Ct l Z n0 yy bytes maxL ret rm as h Q) (q : ∀ v h', Q v h' → Q' v h') : Ct l Z n0 yy bytes maxL ret rm as h Q' := by
  intro hn ws p e a1 a2 a3 s m args below a4 a5 a6 a7
  obtain ⟨n, o, h1, h2, h3, v, L, h4, ⟨h5, h6⟩, h7⟩ := c hn ws p e a1 a2 a3 s m args below a4 a5 a6 a7
  exact ⟨n, o, h1, h2, h3, v, L, h4, ⟨q _ _ h5, h6⟩, h7⟩
theorem Ct.intro (hp : plainFor yy = true) (Ls : List Slot) (hE : ∀ m, entryFrame m as.toArray maxL = mkF m 0 ⟨Ls⟩ [])
    (body : ∀ k : Cx, k.2.1 = l → Ok k Z n0 yy.cls rm bytes maxL ret yy.name → G k n0 Q h 0 0 0 Ls []) : Ct l Z n0 yy bytes maxL ret rm as h Q := by
  intro hn0 ws
  refine MetFree.of_bodySF hp hisR ?_
  intro p e s m args below meth c s₁ Bd hml0 hP hK
  obtain ⟨rfl, hZ, hh⟩ := hP
  have X0 : Stand p l e rm s m as.toArray below meth c s₁ [] 0 0 := Stand.of_body Bd
  have e0 : s₁.heap = h := by rw [← hh, Bd.state]; rfl
  have g := body (p, l, e, rm, s, m, as.toArray, below, meth, c) rfl ⟨Bd.exec, hZ, findClass_of_methodNamed Bd.named, rfl, Bd.bytes, hml0, Bd.returns, Bd.notSynchronized, (name_of_methodNamed Bd.named Bd.method).1, by show n0 ≤ s.heap.size; rw [hh]; exact hn0⟩ (Nat.zero_le _) (Nat.zero_le _) s₁ [] X0 e0 (Fr.nil n0)
  obtain ⟨s₂, o, h1, r⟩ := g
  exact ⟨s₂, o, castTop (hE m) h1, r⟩
theorem G.callS (K : Ok k Z n0 own R bytes maxL ret nm) (hl : k.2.1 = l) {idx : Nat} {by' : ByteArray} {ml : Nat} {rt : Option FieldType} {ps : List FieldType} {Q' : Option Value → Heap → Prop}
    (w1 : (Cond.methodLink own idx yy).before a0 Z = true) (w2 : (Cond.static yy).before a0 Z = true) (w3 : (Cond.initialized yy.cls).before a0 Z = true) (w4 : (Cond.code yy by' ml rt).before a0 Z = true)
    (hy : yy.cls ≠ "java/lang/invoke/MethodHandle" ∧ yy.cls ≠ "java/lang/invoke/VarHandle") (pd : parseMethodDescriptor yy.desc = some ⟨ps, rt⟩) (c : Ct l Z n0 yy by' ml rt rm as h Q') (W : Nat) (hW : (St.map fun v => v.category).sum = W)
    (hfr : rm.frames + 1 ≤ R.frames) (hlo : W + (ml + 11) + rm.locals ≤ R.locals) (hce : cells + rm.cells ≤ R.cells) (hsl : slots + rm.slots ≤ R.slots) (hps : as.length = ps.length) (hsz : Ls.length = maxL) (ar : List Value) (har : as.reverse = ar) (d : Dc bytes pc (.invokestatic idx) 3 pc')
    (g : ∀ v h', Q' v h' → G k n0 Q h' (cells + rm.cells) (slots + rm.slots) pc' Ls (v.toList ++ St)) : G k n0 Q h cells slots pc Ls (ar ++ St) := by
  obtain ⟨p, l, e, R', s, m, args, below, meth, c⟩ := k
  obtain ⟨hx, hZ, hown, rfl, rfl, rfl, rfl, hlk, rfl, hn0⟩ := K
  obtain ⟨d, rfl⟩ := d
  subst hl
  subst har
  intro _ _ T locs X eT N
  have hn1 : n0 ≤ h.size := size_ok X eT hn0
  obtain ⟨v, _, ⟨T', L', k', n'⟩, -, X', ⟨Lc, ⟨hQ, hF⟩, e1, e2, e3⟩, st⟩ := Jvm.LawKit.callS X hx (y := yy) hown (mvT hZ w1) (mvT hZ w2) (mvT hZ w3) (mvT hZ w4) hy (backOf (W := W) (Q := fun v h' L => Q' v h' ∧ Fr n0 L) (c hn1 []) hZ w4 w3 hfr hlo) (g := mkF m pc ⟨Ls⟩ (as.reverse ++ St)) rfl (by simpa using hsz) (argsL := as) (rest := St) (lenOf pd hps) rfl (by show 2 * 0 + _ ≤ _; omega) d (fun _ _ => ⟨rfl, eT, hce, hsl⟩)
  dsimp only [Pt.U, Pt.locs, Pt.cells, Pt.slots] at X' e1 e2 e3 st hQ
  subst e1 e2 e3
  obtain ⟨s₂, o, h1, r⟩ := g v T'.heap hQ hce hsl T' _ X' rfl (Fr.app N hF)
  exact ⟨s₂, o, st _ h1, r⟩
theorem G.callI (K : Ok k Z n0 own R bytes maxL ret nm) (hl : k.2.1 = l) {idx : Nat} {by' : ByteArray} {ml : Nat} {ps : List FieldType} {Q' : Option Value → Heap → Prop} (hi : yy.name = "<init>")
    (w1 : (Cond.methodLink own idx yy).before a0 Z = true) (w2 : (Cond.instanceMethod yy).before a0 Z = true) (w3 : (Cond.initialized yy.cls).before a0 Z = true) (w4 : (Cond.code yy by' ml none).before a0 Z = true)
    (hy : yy.cls ≠ "java/lang/invoke/MethodHandle" ∧ yy.cls ≠ "java/lang/invoke/VarHandle") (pd : parseMethodDescriptor yy.desc = some ⟨ps, none⟩) {a : Addr} (c : Ct l Z n0 yy by' ml none rm (.ref a :: as) h Q') (W : Nat) (hW : (St.map fun v => v.category).sum = W)
    (hfr : rm.frames + 1 ≤ R.frames) (hlo : W + (ml + 11) + rm.locals ≤ R.locals) (hce : cells + rm.cells ≤ R.cells) (hsl : slots + rm.slots ≤ R.slots) (hps : as.length = ps.length) (hsz : Ls.length = maxL) (ar : List Value) (har : as.reverse = ar) (d : Dc bytes pc (.invokespecial idx) 3 pc')
    (g : ∀ v h', Q' v h' → G k n0 Q h' (cells + rm.cells) (slots + rm.slots) pc' Ls (v.toList ++ St)) : G k n0 Q h cells slots pc Ls (ar ++ .ref a :: St) := by
  obtain ⟨p, l, e, R', s, m, args, below, meth, c⟩ := k
  obtain ⟨hx, hZ, hown, rfl, rfl, rfl, rfl, hlk, rfl, hn0⟩ := K
  obtain ⟨d, rfl⟩ := d
  subst hl
  subst har
  intro _ _ T locs X eT N
  have hn1 : n0 ≤ h.size := size_ok X eT hn0
  obtain ⟨v, _, ⟨T', L', k', n'⟩, -, X', ⟨Lc, ⟨hQ, hF⟩, e1, e2, e3⟩, st⟩ := X.specialBack hx (y := yy) hi hown (mvT hZ w1) (mvT hZ w2) (mvT hZ w4) hy (backOf (W := W) (Q := fun v h' L => Q' v h' ∧ Fr n0 L) (c hn1 []) hZ w4 w3 hfr hlo) (g := mkF m pc ⟨Ls⟩ (as.reverse ++ .ref a :: St)) rfl (by simpa using hsz) (Steps.refl _) (a := a) (argsL := as) (rest := St) (lenOf pd hps) rfl (by show 2 * 0 + _ ≤ _; omega) d (fun _ _ => ⟨rfl, eT, hce, hsl⟩)
  dsimp only [Pt.U, Pt.locs, Pt.cells, Pt.slots] at X' e1 e2 e3 st hQ
  subst e1 e2 e3
  obtain ⟨s₂, o, h1, r⟩ := g v T'.heap hQ hce hsl T' _ X' rfl (Fr.app N hF)
  exact ⟨s₂, o, st.trans h1, r⟩
theorem G.callV (K : Ok k Z n0 own R bytes maxL ret nm) (hl : k.2.1 = l) {idx : Nat} {by' : ByteArray} {ml : Nat} {rt : Option FieldType} {ps : List FieldType} {Q' : Option Value → Heap → Prop} {C : String}
    (w1 : (Cond.methodLink own idx yy).before a0 Z = true) (wd : (Cond.declares yy).before a0 Z = true) (ws : (Cond.selects C yy yy).before a0 Z = true) (w2 : (Cond.instanceMethod yy).before a0 Z = true) (w3 : (Cond.initialized yy.cls).before a0 Z = true) (w4 : (Cond.code yy by' ml rt).before a0 Z = true)
    (hy : yy.cls ≠ "java/lang/invoke/MethodHandle" ∧ yy.cls ≠ "java/lang/invoke/VarHandle") (pd : parseMethodDescriptor yy.desc = some ⟨ps, rt⟩) {a : Addr} (E : Exa Z h a C) (c : Ct l Z n0 yy by' ml rt rm (.ref a :: as) h Q') (W : Nat) (hW : (St.map fun v => v.category).sum = W)
    (hfr : rm.frames + 1 ≤ R.frames) (hlo : W + (ml + 11) + rm.locals ≤ R.locals) (hce : cells + rm.cells ≤ R.cells) (hsl : slots + rm.slots ≤ R.slots) (hps : as.length = ps.length) (hsz : Ls.length = maxL) (ar : List Value) (har : as.reverse = ar) (d : Dc bytes pc (.invokevirtual idx) 3 pc')
    (g : ∀ v h', Q' v h' → G k n0 Q h' (cells + rm.cells) (slots + rm.slots) pc' Ls (v.toList ++ St)) : G k n0 Q h cells slots pc Ls (ar ++ .ref a :: St) := by
  obtain ⟨p, l, e, R', s, m, args, below, meth, c⟩ := k
  obtain ⟨hx, hZ, hown, rfl, rfl, rfl, rfl, hlk, rfl, hn0⟩ := K
  obtain ⟨d, rfl⟩ := d
  subst hl
  subst har
  intro _ _ T locs X eT N
  have hn1 : n0 ≤ h.size := size_ok X eT hn0
  obtain ⟨cq, kq, qa, qb, qc⟩ := isOf hZ eT E
  obtain ⟨v, _, ⟨T', L', k', n'⟩, -, X', ⟨Lc, ⟨hQ, hF⟩, e1, e2, e3⟩, st⟩ := X.virtualBack hx (y := yy) (z := yy) hown (mvT hZ w1) (mvT hZ wd) (notFace_of_selects (args := #[]) (mvT hZ ws)) (mvT hZ ws) (mvT hZ w2) hy (backOf (W := W) (Q := fun v h' L => Q' v h' ∧ Fr n0 L) (c hn1 []) hZ w4 w3 hfr hlo) qa qc (g := mkF m pc ⟨Ls⟩ (as.reverse ++ .ref a :: St)) rfl (by simpa using hsz) (Steps.refl _) (argsL := as) (rest := St) (lenOf pd hps) rfl (by show 2 * 0 + _ ≤ _; omega) d (fun _ _ => ⟨rfl, eT, hce, hsl⟩)
  dsimp only [Pt.U, Pt.locs, Pt.cells, Pt.slots] at X' e1 e2 e3 st hQ
  subst e1 e2 e3
  obtain ⟨s₂, o, h1, r⟩ := g v T'.heap hQ hce hsl T' _ X' rfl (Fr.app N hF)
  exact ⟨s₂, o, st.trans h1, r⟩
theorem G.callP (K : Ok k Z n0 own R bytes maxL ret nm) (hl : k.2.1 = l) {idx kk : Nat} {by' : ByteArray} {ml : Nat} {rt : Option FieldType} {ps : List FieldType} {Q' : Option Value → Heap → Prop}
    (w1 : (Cond.methodLink own idx yy).before a0 Z = true) (wp : (Cond.privateMethod yy).before a0 Z = true) (wi : (Cond.instantiable yy.cls kk).before a0 Z = true) (w2 : (Cond.instanceMethod yy).before a0 Z = true) (w3 : (Cond.initialized yy.cls).before a0 Z = true) (w4 : (Cond.code yy by' ml rt).before a0 Z = true)
    (hy : yy.cls ≠ "java/lang/invoke/MethodHandle" ∧ yy.cls ≠ "java/lang/invoke/VarHandle") (pd : parseMethodDescriptor yy.desc = some ⟨ps, rt⟩) {a : Addr} {C : String} (E : Exa Z h a C) (c : Ct l Z n0 yy by' ml rt rm (.ref a :: as) h Q') (W : Nat) (hW : (St.map fun v => v.category).sum = W)
    (hfr : rm.frames + 1 ≤ R.frames) (hlo : W + (ml + 11) + rm.locals ≤ R.locals) (hce : cells + rm.cells ≤ R.cells) (hsl : slots + rm.slots ≤ R.slots) (hps : as.length = ps.length) (hsz : Ls.length = maxL) (ar : List Value) (har : as.reverse = ar) (d : Dc bytes pc (.invokevirtual idx) 3 pc')
    (g : ∀ v h', Q' v h' → G k n0 Q h' (cells + rm.cells) (slots + rm.slots) pc' Ls (v.toList ++ St)) : G k n0 Q h cells slots pc Ls (ar ++ .ref a :: St) := by
  obtain ⟨p, l, e, R', s, m, args, below, meth, c⟩ := k
  obtain ⟨hx, hZ, hown, rfl, rfl, rfl, rfl, hlk, rfl, hn0⟩ := K
  obtain ⟨d, rfl⟩ := d
  subst hl
  subst har
  intro _ _ T locs X eT N
  have hn1 : n0 ≤ h.size := size_ok X eT hn0
  obtain ⟨cq, q, q'⟩ := E.cell
  have hpriv : s.PrivateAt yy := Cond.privateMethod_at (mvP hZ wp (args := #[]))
  obtain ⟨c2, k2, i1, i2, -, i4, -⟩ := Cond.instantiable_spec (mvT hZ wi (args := args))
  have hsel : (Cond.selects yy.cls yy yy).before args s = true := selects_self_of_private i1 i2 (by cases hh : k2.isInterface <;> simp_all) hpriv (mvT hZ w2) hy
  obtain ⟨v, _, ⟨T', L', k', n'⟩, -, X', ⟨Lc, ⟨hQ, hF⟩, e1, e2, e3⟩, st⟩ := X.privateBack hx (y := yy) hown (mvT hZ w1) (mvT hZ w2) hsel hpriv (mvT hZ w4) hy (backOf (W := W) (Q := fun v h' L => Q' v h' ∧ Fr n0 L) (c hn1 []) hZ w4 w3 hfr hlo) (g := mkF m pc ⟨Ls⟩ (as.reverse ++ .ref a :: St)) rfl (by simpa using hsz) (Steps.refl _) (a := a) (by rw [eT]; exact q) q' (argsL := as) (rest := St) (lenOf pd hps) rfl (by show 2 * 0 + _ ≤ _; omega) d (fun _ _ => ⟨rfl, eT, hce, hsl⟩)
  dsimp only [Pt.U, Pt.locs, Pt.cells, Pt.slots] at X' e1 e2 e3 st hQ
  subst e1 e2 e3
  obtain ⟨s₂, o, h1, r⟩ := g v T'.heap hQ hce hsl T' _ X' rfl (Fr.app N hF)
  exact ⟨s₂, o, st.trans h1, r⟩
theorem G.initO (K : Ok k Z n0 own R bytes maxL ret nm) {idx : Nat} (w1 : (Cond.methodLink own idx Lib.objectInit).before a0 Z = true) (w2 : (Cond.instanceMethod Lib.objectInit).before a0 Z = true) (w3 : (Cond.code Lib.objectInit ⟨#[0xb1]⟩ 1 none).before a0 Z = true) {a : Addr}
    (hsz : Ls.length = maxL) (W : Nat) (hW : (St.map fun v => v.category).sum = W) (hfr : 1 ≤ R.frames) (hlo : W + 12 ≤ R.locals) (d : Dc bytes pc (.invokespecial idx) 3 pc') (g : G k n0 Q h cells slots pc' Ls St) : G k n0 Q h cells slots pc Ls (.ref a :: St) := by
  obtain ⟨p, l, e, R', s, m, args, below, meth, c⟩ := k
  obtain ⟨hx, hZ, hown, rfl, rfl, rfl, rfl, hlk, rfl, hn0⟩ := K
  obtain ⟨d, rfl⟩ := d
  exact G.moved (fun T locs X eT => RoadKit.initO X hx hZ hown w1 w2 w3 eT (g := mkF m pc ⟨Ls⟩ (.ref a :: St)) rfl (by simpa using hsz) rfl d hfr (W := W) (by show 2 * 0 + _ ≤ _; omega) hlo) g
/-! ### arrays of references -/
def Ra (Z : State) (C : String) (vs : List Value) (cell : Cell) : Prop := Aa Z (.object C) vs cell ∧ Ovr Z cell.cls C
theorem G.anewarr (K : Ok k Z n0 own R bytes maxL ret nm) {idx : Nat} (w1 : (Cond.classLink own idx C).before a0 Z = true) (w2 : (Cond.arrayOver (.object C)).before a0 Z = true) (H : Hp n0 h σ) (hn : ¬ z < 0) (cap : Nat) (hcap : z.toNatClampNeg ≤ cap) (hb : cap * 8 ≤ 536870912) (hc : cells + 1 ≤ R.cells) (hl : slots + cap ≤ R.slots) (d : Dc bytes pc (.anewarray idx) 3 pc')
    (g : ∀ a h', Hp n0 h' ((a, Ra Z C (List.replicate z.toNatClampNeg .null)) :: σ) → G k n0 Q h' (cells + 1) (slots + cap) pc' Ls (.ref a :: St)) : G k n0 Q h cells slots pc Ls (.int z :: St) := by
  obtain ⟨p, l, e, R', s, m, args, below, meth, c⟩ := k
  obtain ⟨hx, hZ, hown, rfl, rfl, rfl, rfl, hlk, rfl, hn0⟩ := K
  obtain ⟨d, rfl⟩ := d
  intro _ _ T locs X eT N
  obtain ⟨T', h', cA, X', eT', E, A, O, st⟩ := RoadKit.newR X hx hZ hown w1 w2 eT (g := mkF m pc ⟨Ls⟩ (.int z :: St)) rfl d rfl hn hcap hb hc hl
  have B : Ra Z C (List.replicate z.toNatClampNeg .null) (newA cA (.object C) z) :=
    ⟨⟨A.2.1, A.2.2, by simp [newA, defaultValue], by rw [List.length_replicate]; exact (back32 hn).2⟩, O⟩
  obtain ⟨s₂, o, h1, r⟩ := g h.size h' (H.cons E (size_ok X eT hn0) ⟨_, A.1, B⟩) hc hl T' _ X' eT' N
  exact ⟨s₂, o, st s₂ h1, r⟩
theorem G.astore_r (K : Ok k Z n0 own R bytes maxL ret nm) (H : Hp n0 h σ) (hi : σ[i]? = some (a, Ra Z C vs)) (hn : ¬ z < 0) (hv : z.toNatClampNeg < vs.length) (hw : w = .null ∨ ∃ y, w = .ref y ∧ Exa Z h y C) (d : Dc bytes pc .aastore 1 pc') (g : ∀ h', Hp n0 h' (σ.set i (a, Ra Z C (vs.set z.toNatClampNeg w))) → G k n0 Q h' cells slots pc' Ls St) : G k n0 Q h cells slots pc Ls (w :: .int z :: .ref a :: St) := by
  obtain ⟨p, l, e, R', s, m, args, below, meth, c⟩ := k
  obtain ⟨hx, hZ, hown, rfl, rfl, rfl, rfl, hlk, rfl, hn0⟩ := K
  obtain ⟨d, rfl⟩ := d
  obtain ⟨ge, cell, h1, ⟨h2, h3, h4, h5⟩, O⟩ := H.at hi
  have hv' : vs[z.toNatClampNeg]? = some vs[z.toNatClampNeg] := by simp [hv]
  have F : Sto Z h a w := by
    rcases hw with rfl | ⟨y, rfl, E⟩
    · exact Or.inl rfl
    · exact Sto.of ⟨h1, h2, h3⟩ O (Ins.self E)
  intro hc hs T locs X eT N
  obtain ⟨T', h', X', eT', W, st⟩ := RoadKit.stR X hx hZ eT ⟨h1, h2, h3⟩ (inb hn hv' h4) rfl F (g := mkF m pc ⟨Ls⟩ (w :: .int z :: .ref a :: St)) rfl rfl d
  have H' : Hp n0 h' (σ.set i (a, Ra Z C (vs.set z.toNatClampNeg w))) := H.wr hi W fun cell B => ⟨Aa.set B.1, B.2⟩
  obtain ⟨s₂, o, q1, r⟩ := g h' H' hc hs T' _ X' eT' (Fr.snoc X' N ge)
  exact ⟨s₂, o, st s₂ q1, r⟩
theorem G.aload_r (K : Ok k Z n0 own R bytes maxL ret nm) (H : Hp n0 h σ) (hi : σ[i]? = some (a, Ra Z C vs)) (hn : ¬ z < 0) (hv : vs[z.toNatClampNeg]? = some v) (d : Dc bytes pc .aaload 1 pc') (g : G k n0 Q h cells slots pc' Ls (v :: St)) : G k n0 Q h cells slots pc Ls (.int z :: .ref a :: St) := by
  obtain ⟨p, l, e, R', s, m, args, below, meth, c⟩ := k
  obtain ⟨hx, hZ, hown, rfl, rfl, rfl, rfl, hlk, rfl, hn0⟩ := K
  obtain ⟨d, rfl⟩ := d
  obtain ⟨-, cell, h1, ⟨h2, h3, h4, h5⟩, O⟩ := H.at hi
  exact G.moved (fun T locs X eT => ⟨T, X, eT, fun t q => X.aaload hx (by rw [eT]; exact h1) (State.isArrayOf_alike hZ.alike h2) rfl h3 (inb hn hv h4) (v := v) (by rw [h4]; simpa using hv) (g := mkF m pc ⟨Ls⟩ (.int z :: .ref a :: St)) rfl rfl d t q⟩) g
theorem G.alen_r (K : Ok k Z n0 own R bytes maxL ret nm) (H : Hp n0 h σ) (hi : σ[i]? = some (a, Ra Z C vs)) (d : Dc bytes pc .arraylength 1 pc') (z : Int32) (hz : Int32.ofNat vs.length = z) (g : G k n0 Q h cells slots pc' Ls (.int z :: St)) : G k n0 Q h cells slots pc Ls (.ref a :: St) := by
  obtain ⟨-, cell, h1, h2⟩ := H.at hi
  exact G.alen K (H.imp hi fun _ B => B.1) (i := i) (ty := .object C) (vs := vs) (by rw [List.getElem?_set_self (List.getElem?_eq_some_iff.mp hi).1]) d z hz g
/-! ### System.arraycopy -/
def cpy {α : Type} (xs ys : List α) (sp dp n : Nat) : List α := ys.take dp ++ (xs.drop sp).take n ++ ys.drop (dp + n)
theorem cpy_map {α β : Type} (f : α → β) (xs ys : List α) (sp dp n : Nat) : cpy (xs.map f) (ys.map f) sp dp n = (cpy xs ys sp dp n).map f := by simp [cpy, List.map_take, List.map_drop]
theorem G.acopy (K : Ok k Z n0 own R bytes maxL ret nm) {idx : Nat} (w1 : (Cond.methodLink own idx acN).before a0 Z = true) (w2 : (Cond.native acN).before a0 Z = true) (w3 : (Cond.static acN).before a0 Z = true) (w4 : (Cond.initialized "java/lang/System").before a0 Z = true)
    (H : Hp n0 h σ) {i' : Nat} {b : Addr} {ws : List Value} (hi : σ[i]? = some (a, Aa Z ty vs)) (hi' : σ[i']? = some (b, Aa Z ty ws)) (hty : refKind ty = false) (hall : ∀ v ∈ vs, fits ty v = true ∧ ∀ (U : State) (cp : ClassId), U.takes cp v)
    {sp dp n : Int32} (h1 : ¬ sp < 0) (h2 : ¬ dp < 0) (h3 : ¬ n < 0) (h4 : sp.toNatClampNeg + n.toNatClampNeg ≤ vs.length) (h5 : dp.toNatClampNeg + n.toNatClampNeg ≤ ws.length)
    (hsz : Ls.length = maxL) (W : Nat) (hW : (St.map fun v => v.category).sum = W) (hfr : 1 ≤ R.frames) (hlo : W + (nativeFrameWords "java/lang/System" "arraycopy" 5 + 11) ≤ R.locals) (d : Dc bytes pc (.invokestatic idx) 3 pc')
    (g : ∀ h', Hp n0 h' (σ.set i' (b, Aa Z ty (cpy vs ws sp.toNatClampNeg dp.toNatClampNeg n.toNatClampNeg))) → G k n0 Q h' cells slots pc' Ls St) : G k n0 Q h cells slots pc Ls (.int n :: .int dp :: .ref b :: .int sp :: .ref a :: St) := by
  obtain ⟨p, l, e, R', s, m, args, below, meth, c⟩ := k
  obtain ⟨hx, hZ, hown, rfl, rfl, rfl, rfl, hlk, rfl, hn0⟩ := K
  obtain ⟨d, rfl⟩ := d
  obtain ⟨-, cs, c1, c2, c3, c4, c5⟩ := H.at hi
  obtain ⟨ge, cd, d1, d2, d3, d4, d5⟩ := H.at hi'
  have c2' := c2
  have d2' := d2
  obtain ⟨cz, ks, k1, kc, k2⟩ := State.isArrayOf_alike (T := s) hZ.alike c2'
  obtain ⟨dz, kd, m1, mc, m2⟩ := State.isArrayOf_alike (T := s) hZ.alike d2'
  have e1 : ∀ {x : Int32}, ¬ x < 0 → x.toInt = x.toNatClampNeg := fun {x} q => by
    rw [Int32.lt_iff_toInt_lt] at q
    have z0 : (0 : Int32).toInt = 0 := rfl
    show x.toInt = ((x.toInt.toNat : Nat) : Int)
    omega
  intro hc hs T locs X eT N
  obtain ⟨vm₁, hW₁, X', st⟩ := X.arraycopyK hx hown (mvT hZ w1) (mvT hZ w2) (mvT hZ w3) (mvT hZ w4) (src := a) (dst := b) (srcPos := sp) (destPos := dp) (n := n) (cs := cs) (cd := cd) (by rw [eT]; exact c1) (by rw [eT]; exact d1)
    (fun q e => by have := Arr.plain (Z := Z) (h := h) (a := a) ⟨c1, c2, c3⟩; rw [e] at this; cases this) (fun q e => by have := Arr.plain (Z := Z) (h := h) (a := b) ⟨d1, d2, d3⟩; rw [e] at this; cases this) c3 d3 k1 m1 k2 m2
    (by rw [hty]; simp) h1 h2 h3 (by rw [e1 h1, e1 h3, c4]; simp; omega) (by rw [e1 h2, e1 h3, d4]; simp; omega)
    (fun vm hvm j hj => by
      have hlt : sp.toNatClampNeg + j < vs.length := by omega
      have hg : cs.slots.getD (sp.toNatClampNeg + j) .null = vs[sp.toNatClampNeg + j] := by rw [c4]; simp [hlt]
      rw [hg]
      exact ⟨(hall _ (List.getElem_mem hlt)).1, (hall _ (List.getElem_mem hlt)).2 _ _⟩)
    (g := mkF m pc ⟨Ls⟩ (.int n :: .int dp :: .ref b :: .int sp :: .ref a :: St)) rfl (by simpa using hsz) rfl d hfr (by show 2 * 0 + _ + _ ≤ _; omega)
  have hf := Cell.storeRun_facts cd dp.toNatClampNeg (cs.stretch sp.toNatClampNeg n.toNatClampNeg)
  have hlen := Cell.stretch_length cs sp.toNatClampNeg n.toNatClampNeg
  have hB : Aa Z ty (cpy vs ws sp.toNatClampNeg dp.toNatClampNeg n.toNatClampNeg) (copied cs cd sp dp n) := by
    have hll : (cpy vs ws sp.toNatClampNeg dp.toNatClampNeg n.toNatClampNeg).length = ws.length := by simp [cpy]; omega
    refine ⟨⟨by rw [hf.2.1]; exact d2.1, by rw [hf.1]; exact d2.2⟩, by rw [hf.2.1]; exact d3, ?_, by rw [hll]; exact d5⟩
    apply Array.ext_getElem?
    intro j
    rw [Cell.storeRun_get _ _ _ _ (by rw [hlen, d4]; simpa using h5), hlen, d4]
    simp only [List.getElem?_toArray]
    by_cases q : dp.toNatClampNeg ≤ j ∧ j < dp.toNatClampNeg + n.toNatClampNeg
    · rw [if_pos q]
      have hjn : j - dp.toNatClampNeg < n.toNatClampNeg := by omega
      have hlt : sp.toNatClampNeg + (j - dp.toNatClampNeg) < vs.length := by omega
      simp only [Cell.stretch, List.getElem?_map, List.getElem?_range hjn, Option.map_some, cpy]
      rw [List.append_assoc, List.getElem?_append_right (by simp; omega), List.getElem?_append_left (by simp; omega), List.getElem?_take_of_lt (by simp; omega), List.getElem?_drop, c4]
      have hm : min dp.toNatClampNeg ws.length = dp.toNatClampNeg := by omega
      simp [hm, hlt]
    · rw [if_neg q]
      unfold cpy
      by_cases q2 : j < dp.toNatClampNeg
      · rw [List.append_assoc, List.getElem?_append_left (by simp; omega), List.getElem?_take_of_lt q2]
      · rw [List.getElem?_append_right (by simp; omega), List.getElem?_drop]
        congr 1; simp; omega
  have H' : Hp n0 ((T.setVm vm₁).setCell b (copied cs cd sp dp n)).heap (σ.set i' (b, Aa Z ty (cpy vs ws sp.toNatClampNeg dp.toNatClampNeg n.toNatClampNeg))) := by
    have eh : ((T.setVm vm₁).setCell b (copied cs cd sp dp n)).heap = h.setIfInBounds b (copied cs cd sp dp n) := by rw [← eT]; rfl
    rw [eh]
    exact H.set hi' (by simp) (fun x hx => Array.getElem?_setIfInBounds_ne (Ne.symm hx)) ⟨_, Array.getElem?_setIfInBounds_self_of_lt (Array.getElem?_eq_some_iff.mp d1).1, hB⟩
  obtain ⟨s₂, o, q1, r⟩ := g _ H' hc hs _ _ X' rfl (N.app fun y hy => by rw [copyLocs_base hy]; exact ge)
  exact ⟨s₂, o, st s₂ q1, r⟩
theorem all_int (xs : List Int32) : ∀ v ∈ xs.map Value.int, fits .int v = true ∧ ∀ (U : State) (cp : ClassId), U.takes cp v := by
  intro v hv
  obtain ⟨x, -, rfl⟩ := List.mem_map.mp hv
  exact ⟨rfl, fun _ _ => trivial⟩
theorem all_long (xs : List Int64) : ∀ v ∈ xs.map Value.long, fits .long v = true ∧ ∀ (U : State) (cp : ClassId), U.takes cp v := by
  intro v hv
  obtain ⟨x, -, rfl⟩ := List.mem_map.mp hv
  exact ⟨rfl, fun _ _ => trivial⟩
/-! ### an int[] whose class is named: clone and the cast -/
def Xa (Z : State) (xs : List Int32) (cell : Cell) : Prop := Ia Z xs cell ∧ Z.vm.findClass "[I" = some cell.cls
theorem Hp.xi (H : Hp n0 h σ) (hi : σ[i]? = some (a, Xa Z xs)) : Hp n0 h (σ.set i (a, Ia Z xs)) := H.imp hi fun _ B => B.1
theorem G.newarr_x (K : Ok k Z n0 own R bytes maxL ret nm) (w : (Cond.arrayClass .int).before a0 Z = true) (H : Hp n0 h σ) (hn : ¬ z < 0) (cap : Nat) (hcap : z.toNatClampNeg ≤ cap) (hb : cap * 8 ≤ 536870912) (hc : cells + 1 ≤ R.cells) (hl : slots + cap ≤ R.slots) (d : Dc bytes pc (.newarray .int) 2 pc')
    (g : ∀ a h', Hp n0 h' ((a, Xa Z (List.replicate z.toNatClampNeg 0)) :: σ) → G k n0 Q h' (cells + 1) (slots + cap) pc' Ls (.ref a :: St)) : G k n0 Q h cells slots pc Ls (.int z :: St) := by
  obtain ⟨p, l, e, R', s, m, args, below, meth, c⟩ := k
  obtain ⟨hx, hZ, hown, rfl, rfl, rfl, rfl, hlk, rfl, hn0⟩ := K
  obtain ⟨d, rfl⟩ := d
  intro _ _ T locs X eT N
  obtain ⟨T', h', cA, X', eT', E, A, F, st⟩ := RoadKit.newPE X hx hZ (aty := .int) w eT (g := mkF m pc ⟨Ls⟩ (.int z :: St)) rfl d rfl hn hcap hb hc hl (ad := "[I") (by decide)
  obtain ⟨c2, k2, f1, f2, -⟩ := F
  cases A.1.symm.trans f1
  have B : Xa Z (List.replicate z.toNatClampNeg 0) (newA cA .int z) :=
    ⟨⟨A.2.1, A.2.2, by simp [newA, newarray.typeOf, defaultValue], by rw [List.length_map, List.length_replicate]; exact (back32 hn).2⟩, f2⟩
  obtain ⟨s₂, o, h1, r⟩ := g h.size h' (H.cons E (size_ok X eT hn0) ⟨_, A.1, B⟩) hc hl T' _ X' eT' N
  exact ⟨s₂, o, st s₂ h1, r⟩
theorem G.astore_x (K : Ok k Z n0 own R bytes maxL ret nm) (H : Hp n0 h σ) (hi : σ[i]? = some (a, Xa Z xs)) (hn : ¬ z < 0) (hv : z.toNatClampNeg < xs.length) (d : Dc bytes pc .iastore 1 pc') (g : ∀ h', Hp n0 h' (σ.set i (a, Xa Z (xs.set z.toNatClampNeg x))) → G k n0 Q h' cells slots pc' Ls St) : G k n0 Q h cells slots pc Ls (.int x :: .int z :: .ref a :: St) := by
  obtain ⟨p, l, e, R', s, m, args, below, meth, c⟩ := k
  obtain ⟨hx, hZ, hown, rfl, rfl, rfl, rfl, hlk, rfl, hn0⟩ := K
  obtain ⟨d, rfl⟩ := d
  obtain ⟨ge, cell, h1, ⟨h2, h3, h4, h5⟩, h6⟩ := H.at hi
  have hv' : (xs.map Value.int)[z.toNatClampNeg]? = some (.int xs[z.toNatClampNeg]) := by simp [hv]
  intro hc hs T locs X eT N
  obtain ⟨T', h', X', eT', W, st⟩ := RoadKit.stI X hx hZ eT ⟨h1, h2, h3⟩ (inb hn hv' h4) (g := mkF m pc ⟨Ls⟩ (.int x :: .int z :: .ref a :: St)) rfl rfl d
  have H' : Hp n0 h' (σ.set i (a, Xa Z (xs.set z.toNatClampNeg x))) := H.wr hi W fun cell B => by
    have := Aa.set (i := z.toNatClampNeg) (v := .int x) B.1
    rw [← List.map_set] at this; exact ⟨this, B.2⟩
  obtain ⟨s₂, o, q1, r⟩ := g h' H' hc hs T' _ X' eT' (Fr.snoc X' N ge)
  exact ⟨s₂, o, st s₂ q1, r⟩
def clN (ad : String) : MethodName := ⟨ad, "clone", "()Ljava/lang/Object;"⟩
theorem G.clone_x (K : Ok k Z n0 own R bytes maxL ret nm) {idx : Nat} (w1 : (Cond.methodLink own idx ⟨"[I", "clone", "()Ljava/lang/Object;"⟩).before a0 Z = true) (w2 : (Cond.sameMethod "[I" "java/lang/Object" "clone" "()Ljava/lang/Object;").before a0 Z = true) (w3 : (Cond.native ⟨"java/lang/Object", "clone", "()Ljava/lang/Object;"⟩).before a0 Z = true)
    (w4 : (Cond.instanceMethod ⟨"java/lang/Object", "clone", "()Ljava/lang/Object;"⟩).before a0 Z = true) (w5 : (Cond.selects "[I" ⟨"[I", "clone", "()Ljava/lang/Object;"⟩ ⟨"java/lang/Object", "clone", "()Ljava/lang/Object;"⟩).before a0 Z = true) (w6 : (Cond.castable "[I" "java/lang/Cloneable").before a0 Z = true)
    (H : Hp n0 h σ) (hi : σ[i]? = some (a, Xa Z xs)) (cap : Nat) (hcap : xs.length ≤ cap) (hsz : Ls.length = maxL) (W : Nat) (hW : (St.map fun v => v.category).sum = W) (hfr : 1 ≤ R.frames) (hlo : W + 14 ≤ R.locals) (hc : cells + 1 ≤ R.cells) (hl : slots + cap ≤ R.slots) (d : Dc bytes pc (.invokevirtual idx) 3 pc')
    (g : ∀ b h', Hp n0 h' ((b, Xa Z xs) :: σ) → G k n0 Q h' (cells + 1) (slots + cap) pc' Ls (.ref b :: St)) : G k n0 Q h cells slots pc Ls (.ref a :: St) := by
  obtain ⟨p, l, e, R', s, m, args, below, meth, c⟩ := k
  obtain ⟨hx, hZ, hown, rfl, rfl, rfl, rfl, hlk, rfl, hn0⟩ := K
  obtain ⟨d, rfl⟩ := d
  obtain ⟨ge, cell, h1, ⟨h2, h3, h4, h5⟩, h6⟩ := H.at hi
  have h2' := h2
  obtain ⟨hs, kc, hk, comp, hkind⟩ := h2'
  have A : Arr Z h a cell .int := ⟨h1, h2, h3⟩
  have F : FitC Z cell := fitC_of A fun j hj v hv => by
    rw [h4] at hv; simp only [List.getElem?_toArray, List.getElem?_map, Option.map_eq_some_iff] at hv; obtain ⟨x, -, rfl⟩ := hv; rfl
  have E : Exa Z h a "[I" := ⟨cell, kc, h1, h6, hk, Arr.plain A, fun q => by rw [hkind] at q; cases q⟩
  intro _ _ T locs X eT N
  obtain ⟨T', h', X', eT', ex, A', E', st⟩ := RoadKit.cloneA X hx hZ hown w1 w2 w3 w4 w5 w6 eT A E F (g := mkF m pc ⟨Ls⟩ (.ref a :: St)) rfl (by simpa using hsz) rfl d hfr (W := W) (cap := cap) (by show 2 * 0 + _ ≤ _; omega) hlo (by rw [h4]; simpa using hcap) hc hl
  obtain ⟨s₂, o, q1, r⟩ := g h.size h' (H.cons ex (size_ok X eT hn0) ⟨_, A'.1, ⟨A'.2.1, A'.2.2, h4, h5⟩, h6⟩) hc hl T' _ X' eT' N
  exact ⟨s₂, o, st s₂ q1, r⟩
theorem G.cast_x (K : Ok k Z n0 own R bytes maxL ret nm) {idx : Nat} (w1 : (Cond.classLink own idx "[I").before a0 Z = true) (w2 : (Cond.castable "[I" "[I").before a0 Z = true) (H : Hp n0 h σ) (hi : σ[i]? = some (a, Xa Z xs)) (d : Dc bytes pc (.checkcast idx) 3 pc') (g : G k n0 Q h cells slots pc' Ls (.ref a :: St)) : G k n0 Q h cells slots pc Ls (.ref a :: St) := by
  obtain ⟨p, l, e, R', s, m, args, below, meth, c⟩ := k
  obtain ⟨hx, hZ, hown, rfl, rfl, rfl, rfl, hlk, rfl, hn0⟩ := K
  obtain ⟨d, rfl⟩ := d
  obtain ⟨ge, cell, h1, ⟨h2, h3, h4, h5⟩, h6⟩ := H.at hi
  obtain ⟨c1, c2, g1, g2, g3⟩ := Cond.castable_spec w2
  cases h6.symm.trans g1
  have P : cell.vm.isStatics = false := Arr.plain (Z := Z) (h := h) (a := a) (ty := .int) ⟨h1, h2, h3⟩
  exact G.moved (fun T locs X eT => by
    obtain ⟨T', X', e', st⟩ := RoadKit.castY X hx hZ hown w1 eT (F := ⟨cell, c2, h1, g2, by rw [P, g3]; rfl⟩) (g := mkF m pc ⟨Ls⟩ (.ref a :: St)) rfl rfl d
    exact ⟨T', X', e', st⟩) g
end Jvm.OwnKit
namespace Jvm.Pilot.@@N@@
open Jvm Jvm.ClassFile Sem Op Lib Jvm.Free Jvm.Stand Jvm.LawKit Jvm.RoadKit Bundle Jvm.OwnKit Jvm.Pilot.@@N@@.Jvm.D
theorem wd {Z : State} {a0 : Array Value} (hw : ∀ d ∈ tables_1, d.before a0 Z = true) (i : Nat) {d : Jvm.Cond} (h : tables_1[i]? = some d) : d.before a0 Z = true := hw _ (List.mem_of_getElem? h)
theorem own_nint {i : Nat} (h : i < 2147483648) : (Int32.ofNat i).toInt = i := Int32.toInt_ofNat_of_lt (by omega)
theorem own_nlt {i n : Nat} (h : i < 2147483648) (h' : n < 2147483648) : (Int32.ofNat i < Int32.ofNat n) ↔ i < n := by
  rw [Int32.lt_iff_toInt_lt, own_nint h, own_nint h']; omega
theorem own_nle {i n : Nat} (h : i < 2147483648) (h' : n < 2147483648) : (Int32.ofNat i ≤ Int32.ofNat n) ↔ i ≤ n := by
  rw [Int32.le_iff_toInt_le, own_nint h, own_nint h']; omega
theorem own_neq {i n : Nat} (h : i < 2147483648) (h' : n < 2147483648) : (Int32.ofNat i = Int32.ofNat n) ↔ i = n := by
  rw [← Int32.toInt_inj, own_nint h, own_nint h']; omega
theorem own_nadd (i j : Nat) : Int32.ofNat i + Int32.ofNat j = Int32.ofNat (i + j) := (Int32.ofNat_add i j).symm
theorem own_nsucc (i : Nat) : Int32.ofNat i + 1 = Int32.ofNat (i + 1) := own_nadd i 1
theorem own_nidx {i : Nat} (h : i < 2147483648) : (Int32.ofNat i).toNatClampNeg = i := by
  show (Int32.ofNat i).toInt.toNat = i
  rw [own_nint h]; rfl
theorem own_nneg {i : Nat} (h : i < 2147483648) : ¬ Int32.ofNat i < 0 := by
  rw [Int32.lt_iff_toInt_lt, own_nint h]; show ¬ (i : Int) < 0; omega
theorem own_nsub {i j : Nat} (h : j ≤ i) : Int32.ofNat i - Int32.ofNat j = Int32.ofNat (i - j) := by
  have := own_nadd (i - j) j
  rw [Nat.sub_add_cancel h] at this
  rw [← this, Int32.add_sub_cancel]
theorem own_nmul (i j : Nat) : Int32.ofNat i * Int32.ofNat j = Int32.ofNat (i * j) := (Int32.ofNat_mul i j).symm
/-- a non-negative int is a natural -/
theorem own_nat (x : Int32) (h : ¬ x < 0) : ∃ n : Nat, n < 2147483648 ∧ x = Int32.ofNat n := by
  have h2 : 0 ≤ x.toInt := by rw [Int32.lt_iff_toInt_lt] at h; have : (0 : Int32).toInt = 0 := rfl; omega
  have h3 := Int32.toInt_lt x
  refine ⟨x.toInt.toNat, by omega, ?_⟩
  apply Int32.toInt_inj.mp
  rw [own_nint (by omega)]; omega
theorem own_msk (x : Int32) : ∃ n : Nat, n < 2147483648 ∧ x &&& 2147483647 = Int32.ofNat n := by
  apply own_nat
  rw [Int32.lt_iff_toInt_lt]
  have h : (x &&& 2147483647).toBitVec = x.toBitVec &&& 2147483647#32 := rfl
  have hn : (x.toBitVec &&& 2147483647#32).toNat < 2147483648 := by
    rw [BitVec.toNat_and]; exact Nat.lt_of_le_of_lt Nat.and_le_right (by decide)
  have : (x &&& 2147483647).toInt = ((x.toBitVec &&& 2147483647#32).toNat : Int) := by
    show (x &&& 2147483647).toBitVec.toInt = _
    rw [h, BitVec.toInt_eq_toNat_of_lt (by omega)]
  rw [this]; show ¬ ((_ : Nat) : Int) < 0; omega
theorem own_nmod {i n : Nat} (h : i < 2147483648) (hn : n < 2147483648) : Int32.ofNat i % Int32.ofNat n = Int32.ofNat (i % n) := by
  apply Int32.toInt_inj.mp
  have hl : i % n ≤ i := Nat.mod_le i n
  rw [Int32.toInt_mod, own_nint h, own_nint hn, own_nint (by omega)]
  exact (Int.ofNat_tmod i n).symm ▸ rfl
/-- small mask: x & (2^k - 1) -/
theorem own_and_lt (x : Int32) (m : Nat) (hm : m < 2147483648) : ∃ n : Nat, n ≤ m ∧ x &&& Int32.ofNat m = Int32.ofNat n := by
  have h : (x &&& Int32.ofNat m).toBitVec = x.toBitVec &&& BitVec.ofNat 32 m := rfl
  refine ⟨(x.toBitVec &&& BitVec.ofNat 32 m).toNat, ?_, ?_⟩
  · rw [BitVec.toNat_and]; exact Nat.le_trans Nat.and_le_right (by rw [BitVec.toNat_ofNat]; exact Nat.mod_le _ _)
  · apply Int32.toBitVec_inj.mp
    rw [h]
    show _ = BitVec.ofNat 32 _
    rw [BitVec.ofNat_toNat, BitVec.setWidth_eq]
theorem own_1add (i : Nat) : 1 + Int32.ofNat i = Int32.ofNat (i + 1) := by rw [Nat.add_comm]; exact own_nadd 1 i
theorem own_succsub (i : Nat) : Int32.ofNat (i + 1) - 1 = Int32.ofNat i := own_nsub (i := i + 1) (j := 1) (by omega)
theorem pd_0 : parseMethodDescriptor "(II)I" = some ⟨[.int, .int], some .int⟩ := by decide +kernel
theorem pd_1 : parseMethodDescriptor "([I[I[III)I" = some ⟨[(.array .int), (.array .int), (.array .int), .int, .int], some .int⟩ := by decide +kernel
theorem pd_2 : parseMethodDescriptor "([I[I[II)[I" = some ⟨[(.array .int), (.array .int), (.array .int), .int], some (.array .int)⟩ := by decide +kernel
theorem pd_3 : parseMethodDescriptor "([II)[I" = some ⟨[(.array .int), .int], some (.array .int)⟩ := by decide +kernel
theorem pd_4 : parseMethodDescriptor "([I[I[II[I)V" = some ⟨[(.array .int), (.array .int), (.array .int), .int, (.array .int)], none⟩ := by decide +kernel
theorem pd_5 : parseMethodDescriptor "(Z)I" = some ⟨[.boolean], some .int⟩ := by decide +kernel
theorem pd_6 : parseMethodDescriptor "(IIII)I" = some ⟨[.int, .int, .int, .int], some .int⟩ := by decide +kernel
theorem pd_7 : parseMethodDescriptor "(IIII)Z" = some ⟨[.int, .int, .int, .int], some .boolean⟩ := by decide +kernel
theorem pd_8 : parseMethodDescriptor "([I[III)Z" = some ⟨[(.array .int), (.array .int), .int, .int], some .boolean⟩ := by decide +kernel
def NST : List (String × String × String) := [("com/example/rankwise/rankwise/store/TripleIndex", "columnOf", "[I"), ("com/example/rankwise/rankwise/store/TripleIndex", "starts", "[I"), ("com/example/rankwise/rankwise/store/TripleIndex", "columns", "[I")]
theorem cf_NST {Z : State} {a0 : Array Value} (hw : ∀ d ∈ tables_1, d.before a0 Z = true) : Cf Z a0 "com/example/rankwise/rankwise/store/TripleIndex" NST := by
  refine ⟨fun f hf => ?_, by decide +kernel, fun f hf => ?_⟩
  · simp only [NST, List.mem_cons, List.not_mem_nil, or_false] at hf
    rcases hf with rfl | rfl | rfl
    · exact Or.inr (wd hw 20 rfl)
    · exact Or.inr (wd hw 25 rfl)
    · exact Or.inr (wd hw 27 rfl)
  · simp only [NST, List.mem_cons, List.not_mem_nil, or_false] at hf
    rcases hf with rfl | rfl | rfl
    · exact ⟨(.array .int), by decide +kernel⟩
    · exact ⟨(.array .int), by decide +kernel⟩
    · exact ⟨(.array .int), by decide +kernel⟩
/-! arrays as functions -/
def lst {α : Type} (n : Nat) (F : Nat → α) : List α := (List.range n).map F
def fup {α : Type} (F : Nat → α) (i : Nat) (v : α) : Nat → α := fun j => if j = i then v else F j
theorem lst_len {α : Type} (n : Nat) (F : Nat → α) : (lst n F).length = n := by simp [lst]
theorem lst_get {α : Type} {n i : Nat} (F : Nat → α) (h : i < n) : (lst n F)[i]? = some (F i) := by
  unfold lst; rw [List.getElem?_map, List.getElem?_range h]; rfl
theorem lst_out {α : Type} {n i : Nat} (F : Nat → α) (h : n ≤ i) : (lst n F)[i]? = none := List.getElem?_eq_none (by rw [lst_len]; exact h)
theorem lst_congr {α : Type} {n : Nat} {F G : Nat → α} (h : ∀ i, i < n → F i = G i) : lst n F = lst n G := by
  unfold lst; exact List.map_congr_left fun i hi => h i (List.mem_range.mp hi)
theorem lst_set {α : Type} {n i : Nat} (F : Nat → α) (h : i < n) (v : α) : (lst n F).set i v = lst n (fup F i v) := by
  apply List.ext_getElem?
  intro j
  by_cases q : i = j
  · subst q; rw [List.getElem?_set_self (by rw [lst_len]; exact h), lst_get _ h]; simp [fup]
  · rw [List.getElem?_set_ne q]
    by_cases hj : j < n
    · rw [lst_get _ hj, lst_get _ hj]; unfold fup; rw [if_neg (fun z => q z.symm)]
    · rw [lst_out _ (by omega), lst_out _ (by omega)]
theorem lst_rep {α : Type} (n : Nat) (v : α) : List.replicate n v = lst n (fun _ => v) := by
  apply List.ext_getElem?
  intro j
  rw [List.getElem?_replicate]
  by_cases hj : j < n
  · rw [if_pos hj, lst_get _ hj]
  · rw [if_neg hj, lst_out _ (by omega)]
theorem lst_map {α β : Type} (n : Nat) (F : Nat → α) (f : α → β) : (lst n F).map f = lst n (fun i => f (F i)) := by simp [lst, Function.comp_def]
theorem lst_cpy {L L' : Nat} (F G : Nat → Int32) (h : L ≤ L') : cpy (lst L F) (lst L' G) 0 0 L = lst L' (fun k => if k < L then F k else G k) := by
  apply List.ext_getElem?
  intro j
  unfold cpy
  rw [List.take_zero, List.nil_append, List.drop_zero, Nat.zero_add, List.take_of_length_le (by rw [lst_len]; exact Nat.le_refl _)]
  by_cases hj : j < L
  · rw [List.getElem?_append_left (by rw [lst_len]; exact hj), lst_get _ hj, lst_get _ (by omega), if_pos hj]
  · rw [List.getElem?_append_right (by rw [lst_len]; omega), lst_len, List.getElem?_drop]
    by_cases hj2 : j < L'
    · rw [lst_get _ (by omega), lst_get _ hj2, if_neg hj]; congr 2; omega
    · rw [lst_out _ (by omega), lst_out _ (by omega)]
theorem lst_grown {L L' : Nat} {F : Nat → Int32} (h : ∀ i, L ≤ i → F i = -1) : lst L' (fun k => if L ≤ k ∧ k < L' then -1 else if k < L then F k else 0) = lst L' F := by
  apply lst_congr
  intro i hi
  by_cases q : L ≤ i
  · rw [if_pos ⟨q, hi⟩, h i q]
  · rw [if_neg (by omega), if_pos (by omega)]
def fil (F : Nat → Int32) (lo hi : Nat) (v : Int32) : Nat → Int32 := fun i => if lo ≤ i ∧ i < hi then v else F i
theorem fil_next (F : Nat → Int32) (lo i : Nat) (v : Int32) (h : lo ≤ i) : fup (fil F lo i v) i v = fil F lo (i + 1) v := by
  funext j
  unfold fup fil
  by_cases q : j = i
  · subst q; rw [if_pos rfl, if_pos (by omega)]
  · rw [if_neg q]
    have : (lo ≤ j ∧ j < i) ↔ (lo ≤ j ∧ j < i + 1) := by omega
    simp only [this]
theorem fil_none (F : Nat → Int32) (lo : Nat) (v : Int32) : F = fil F lo lo v := by
  funext j; unfold fil; rw [if_neg (by omega)]
/-- the links' ints: none, or one of the first s places -/
def Ix (s : Nat) (v : Int32) : Prop := v = -1 ∨ ∃ j, j < s ∧ v = Int32.ofNat j
theorem Ix.up {s : Nat} {v : Int32} (h : Ix s v) : Ix (s + 1) v := h.imp id fun ⟨j, h1, h2⟩ => ⟨j, by omega, h2⟩
theorem Ix_fup {s q : Nat} {F : Nat → Int32} (h : ∀ i, Ix s (F i)) : ∀ i, Ix (s + 1) (fup F q (Int32.ofNat s) i) := by
  intro i
  unfold fup
  split
  · exact Or.inr ⟨s, by omega, rfl⟩
  · exact (h i).up
theorem Ix.neg {s : Nat} {v : Int32} (h : Ix s v) (hs : s < 2147483648) (q : v < 0) : v = -1 := by
  rcases h with h | ⟨j, h1, h2⟩
  · exact h
  · subst h2; exact absurd q (own_nneg (by omega))
theorem Ix.pos {s : Nat} {v : Int32} (h : Ix s v) (q : ¬ v < 0) : ∃ j, j < s ∧ v = Int32.ofNat j := by
  rcases h with h | h
  · subst h; exact absurd (by decide) q
  · exact h
def adF (LO FO : Nat → Int32) (q s : Nat) : Nat → Int32 := if LO q < 0 then fup FO q (Int32.ofNat s) else FO
def adT (LO LT : Nat → Int32) (q s : Nat) : Nat → Int32 := if LO q < 0 then fup LT s (-1) else fup (fup LT s (-1)) (LO q).toNatClampNeg (Int32.ofNat s)
def drF (pv : Int32) (FO : Nat → Int32) (q : Nat) : Nat → Int32 := if pv < 0 then fup FO q (-1) else FO
def drT (pv : Int32) (LT : Nat → Int32) : Nat → Int32 := if pv < 0 then LT else fup LT pv.toNatClampNeg (-1)
theorem fup_out {F : Nat → Int32} {L L' q : Nat} {v : Int32} (h : ∀ i, L ≤ i → F i = -1) (hL : L ≤ L') (hq : q < L') : ∀ i, L' ≤ i → fup F q v i = -1 := by
  intro i hi; unfold fup; rw [if_neg (by omega)]; exact h i (by omega)
theorem adF_out {LO FO : Nat → Int32} {L L' q s : Nat} (h : ∀ i, L ≤ i → FO i = -1) (hL : L ≤ L') (hq : q < L') : ∀ i, L' ≤ i → adF LO FO q s i = -1 := by
  intro i hi; unfold adF; split
  · exact fup_out h hL hq i hi
  · exact h i (by omega)
theorem drF_out {pv : Int32} {FO : Nat → Int32} {L q : Nat} (h : ∀ i, L ≤ i → FO i = -1) (hq : q < L) : ∀ i, L ≤ i → drF pv FO q i = -1 := by
  intro i hi; unfold drF; split
  · exact fup_out h (Nat.le_refl _) hq i hi
  · exact h i hi
/-! ### the sorted, deduplicated keys -/
def sF (K : Nat → Nat) (i : Nat) : Int32 := Int32.ofNat (K i / 16)
def tF (K : Nat → Nat) (i : Nat) : Int32 := Int32.ofNat (K i % 16)
def cF (K : Nat → Nat) (z : Nat → Nat) (i : Nat) : Int32 := if i % 2 = 0 then sF K (z (i / 2)) else tF K (z (i / 2))
def ky (k0 k1 k2 k3 : Nat) (i : Nat) : Nat := if i = 0 then k0 else if i = 1 then k1 else if i = 2 then k2 else k3
theorem ky_lt {k0 k1 k2 k3 : Nat} (h0 : k0 < 256) (h1 : k1 < 256) (h2 : k2 < 256) (h3 : k3 < 256) (i : Nat) : ky k0 k1 k2 k3 i < 256 := by
  unfold ky; split; · assumption
  split; · assumption
  split <;> assumption
theorem cF_even (K z : Nat → Nat) (r : Nat) : cF K z (2 * r) = sF K (z r) := by
  unfold cF; rw [if_pos (by omega), show 2 * r / 2 = r by omega]
theorem cF_odd (K z : Nat → Nat) (r : Nat) : cF K z (2 * r + 1) = tF K (z r) := by
  unfold cF; rw [if_neg (by omega), show (2 * r + 1) / 2 = r by omega]
def icp (y z : Int32) : Int32 := if y < z then -1 else if y = z then 0 else 1
theorem icp_zero {a b : Nat} (ha : a < 2147483648) (hb : b < 2147483648) : icp (Int32.ofNat a) (Int32.ofNat b) = 0 ↔ a = b := by
  unfold icp
  by_cases q : a < b
  · rw [if_pos ((own_nlt ha hb).mpr q)]; exact ⟨fun z => absurd z (by decide), fun z => by omega⟩
  · rw [if_neg (fun z => q ((own_nlt ha hb).mp z))]
    by_cases q2 : a = b
    · rw [if_pos ((own_neq ha hb).mpr q2)]; exact ⟨fun _ => q2, fun _ => rfl⟩
    · rw [if_neg (fun z => q2 ((own_neq ha hb).mp z))]; exact ⟨fun z => absurd z (by decide), fun z => absurd z q2⟩
theorem icp_pos {a b : Nat} (ha : a < 2147483648) (hb : b < 2147483648) : 0 < icp (Int32.ofNat a) (Int32.ofNat b) ↔ b < a := by
  unfold icp
  by_cases q : a < b
  · rw [if_pos ((own_nlt ha hb).mpr q)]; exact ⟨fun z => absurd z (by decide), fun z => by omega⟩
  · rw [if_neg (fun z => q ((own_nlt ha hb).mp z))]
    by_cases q2 : a = b
    · rw [if_pos ((own_neq ha hb).mpr q2)]; exact ⟨fun z => absurd z (by decide), fun z => by omega⟩
    · rw [if_neg (fun z => q2 ((own_neq ha hb).mp z))]; exact ⟨fun z => by omega, fun _ => by decide⟩
theorem key_s {K : Nat → Nat} (hK : ∀ i, K i < 256) {i j : Nat} : sF K i = sF K j ↔ K i / 16 = K j / 16 := by
  have := hK i; have := hK j; exact own_neq (by omega) (by omega)
theorem key_t {K : Nat → Nat} (hK : ∀ i, K i < 256) {i j : Nat} : tF K i = tF K j ↔ K i % 16 = K j % 16 := by
  have := hK i; have := hK j; exact own_neq (by omega) (by omega)
theorem key_eq {K : Nat → Nat} (hK : ∀ i, K i < 256) {i j : Nat} (h1 : sF K i = sF K j) (h2 : tF K i = tF K j) : K i = K j := by
  rw [key_s hK] at h1; rw [key_t hK] at h2; omega
theorem key_ns {K : Nat → Nat} {i j : Nat} (h1 : ¬ sF K i = sF K j) : ¬ K i = K j := fun e => h1 (congrArg (fun v => Int32.ofNat (v / 16)) e)
theorem key_nt {K : Nat → Nat} {i j : Nat} (h1 : ¬ tF K i = tF K j) : ¬ K i = K j := fun e => h1 (congrArg (fun v => Int32.ofNat (v % 16)) e)
theorem cmp_s {K : Nat → Nat} (hK : ∀ i, K i < 256) {i j : Nat} (q : ¬ icp (sF K i) (sF K j) = 0) : 0 < icp (sF K i) (sF K j) ↔ K j < K i := by
  have := hK i; have := hK j
  unfold sF at *
  rw [icp_zero (by omega) (by omega)] at q
  rw [icp_pos (by omega) (by omega)]; omega
theorem cmp_t {K : Nat → Nat} (hK : ∀ i, K i < 256) {i j : Nat} (q : icp (sF K i) (sF K j) = 0) : 0 < icp (tF K i) (tF K j) ↔ K j < K i := by
  have := hK i; have := hK j
  unfold sF tF at *
  rw [icp_zero (by omega) (by omega)] at q
  rw [icp_pos (by omega) (by omega)]; omega
def sm : Nat → (Nat → Nat) → Nat
  | 0, _ => 0
  | n + 1, g => sm n g + g n
theorem sm_one : ∀ n, sm n (fun _ => 1) = n
  | 0 => rfl
  | n + 1 => by rw [sm, sm_one n]
def D0 (_f : Nat → Nat) : Nat := 0
def D1 (f : Nat → Nat) (a : Nat) : Nat := f a
def D2 (f : Nat → Nat) (a b : Nat) : Nat := f a + (if b = a then 0 else f b)
def D3 (f : Nat → Nat) (a b c : Nat) : Nat := f a + (if b = a then 0 else f b) + (if c = a ∨ c = b then 0 else f c)
def D4 (f : Nat → Nat) (a b c d : Nat) : Nat := f a + (if b = a then 0 else f b) + (if c = a ∨ c = b then 0 else f c) + (if d = a ∨ d = b ∨ d = c then 0 else f d)
theorem D2_s (f : Nat → Nat) (a b : Nat) : D2 f b a = D2 f a b := by
  unfold D2; by_cases q : a = b
  · subst q; simp
  · rw [if_neg q, if_neg (fun e => q e.symm)]; omega
theorem D3_s0 (f : Nat → Nat) (a b c : Nat) : D3 f b a c = D3 f a b c := by
  have := D2_s f a b
  unfold D2 at this; unfold D3
  rw [this]; congr 2; exact propext ⟨fun z => z.symm, fun z => z.symm⟩
theorem D3_s1 (f : Nat → Nat) (a b c : Nat) : D3 f a c b = D3 f a b c := by
  unfold D3
  by_cases q3 : b = c
  · subst q3; rfl
  · have e1 : (if b = a ∨ b = c then 0 else f b) = (if b = a then 0 else f b) := by
      by_cases z : b = a
      · rw [if_pos (Or.inl z), if_pos z]
      · rw [if_neg (by omega), if_neg z]
    have e2 : (if c = a ∨ c = b then 0 else f c) = (if c = a then 0 else f c) := by
      by_cases z : c = a
      · rw [if_pos (Or.inl z), if_pos z]
      · rw [if_neg (by omega), if_neg z]
    rw [e1, e2]; exact Nat.add_right_comm _ _ _
theorem D4_s0 (f : Nat → Nat) (a b c d : Nat) : D4 f b a c d = D4 f a b c d := by
  have := D3_s0 f a b c
  unfold D3 at this; unfold D4
  rw [this]; congr 2; exact propext ⟨fun z => by omega, fun z => by omega⟩
theorem D4_s1 (f : Nat → Nat) (a b c d : Nat) : D4 f a c b d = D4 f a b c d := by
  have := D3_s1 f a b c
  unfold D3 at this; unfold D4
  rw [this]; congr 2; exact propext ⟨fun z => by omega, fun z => by omega⟩
theorem D4_s2 (f : Nat → Nat) (a b c d : Nat) : D4 f a b d c = D4 f a b c d := by
  unfold D4
  by_cases q3 : c = d
  · subst q3; rfl
  · have e1 : (if c = a ∨ c = b ∨ c = d then 0 else f c) = (if c = a ∨ c = b then 0 else f c) := by
      by_cases z : c = a ∨ c = b
      · rw [if_pos (by omega), if_pos z]
      · rw [if_neg (by omega), if_neg z]
    have e2 : (if d = a ∨ d = b ∨ d = c then 0 else f d) = (if d = a ∨ d = b then 0 else f d) := by
      by_cases z : d = a ∨ d = b
      · rw [if_pos (by omega), if_pos z]
      · rw [if_neg (by omega), if_neg z]
    rw [e1, e2]; exact Nat.add_right_comm _ _ _
/-! ### a count under a falling predicate -/
theorem cnt_fall (B : Nat → Prop) (g : Nat → Nat) : ∀ (L : Nat), (∀ i, i < L → (B i → g i = 1) ∧ (¬ B i → g i = 0)) → (∀ i j, i < j → j < L → B j → B i) → sm L g ≤ L ∧ ∀ r, r < L → (B r ↔ r < sm L g)
  | 0, _, _ => ⟨Nat.le_refl _, fun r hr => by omega⟩
  | L + 1, hg, hm => by
    obtain ⟨h1, h2⟩ := cnt_fall B g L (fun i hi => hg i (by omega)) (fun i j a b => hm i j a (by omega))
    have hL := hg L (by omega)
    show sm L g + g L ≤ L + 1 ∧ ∀ r, r < L + 1 → (B r ↔ r < sm L g + g L)
    by_cases q : B L
    · rw [hL.1 q]
      have hall : sm L g = L := by
        rcases Nat.lt_or_ge (sm L g) L with z | z
        · exact absurd ((h2 _ z).mp (hm _ L z (by omega) q)) (Nat.lt_irrefl _)
        · omega
      refine ⟨by omega, fun r hr => ?_⟩
      rw [hall]
      exact ⟨fun _ => hr, fun _ => by rcases Nat.lt_or_ge r L with z | z; · exact hm r L z (by omega) q
                                      · rw [show r = L by omega]; exact q⟩
    · rw [hL.2 q]
      refine ⟨by omega, fun r hr => ?_⟩
      rcases Nat.lt_or_ge r L with z | z
      · rw [h2 r z]; rfl
      · rw [show r = L by omega]; exact ⟨fun z => absurd z q, fun z => by omega⟩
def Bq (qs qt : Int32) (v : Nat) : Prop := Int32.ofNat (v / 16) < qs ∨ (Int32.ofNat (v / 16) = qs ∧ Int32.ofNat (v % 16) < qt)
instance (qs qt : Int32) (v : Nat) : Decidable (Bq qs qt v) := by unfold Bq; exact inferInstance
def ix (qs qt : Int32) (v : Nat) : Nat := if Bq qs qt v then 1 else 0
theorem ix1 {qs qt : Int32} {v : Nat} (h : Bq qs qt v) : ix qs qt v = 1 := if_pos h
theorem ix0 {qs qt : Int32} {v : Nat} (h : ¬ Bq qs qt v) : ix qs qt v = 0 := if_neg h
theorem Bq_down {qs qt : Int32} {v w : Nat} (hv : v < w) (hw : w < 256) (h : Bq qs qt w) : Bq qs qt v := by
  have e : ∀ n : Nat, n < 256 → (Int32.ofNat n).toInt = n := fun n hn => by rw [Int32.toInt_ofNat_of_lt (by omega)]
  unfold Bq at *
  simp only [Int32.lt_iff_toInt_lt, ← Int32.toInt_inj, e (v / 16) (by omega), e (v % 16) (by omega), e (w / 16) (by omega), e (w % 16) (by omega)] at *
  omega
def DD (K z : Nat → Nat) (L : Nat) (D : (Nat → Nat) → Nat) : Prop := L ≤ 4 ∧ (∀ i, i + 1 < L → K (z i) < K (z (i + 1))) ∧ ∀ f, sm L (fun i => f (K (z i))) = D f
theorem inc_far {K z : Nat → Nat} {L : Nat} (h : ∀ i, i + 1 < L → K (z i) < K (z (i + 1))) {i : Nat} : ∀ (d : Nat), i + d + 1 < L → K (z i) < K (z (i + d + 1))
  | 0, q => h i q
  | d + 1, q => Nat.lt_trans (inc_far h d (by omega)) (h (i + d + 1) q)
theorem DD.n {K z : Nat → Nat} {L : Nat} {D : (Nat → Nat) → Nat} (h : DD K z L D) : L = D (fun _ => 1) := by rw [← h.2.2]; exact (sm_one L).symm
theorem DD.c {K z : Nat → Nat} {L : Nat} {D : (Nat → Nat) → Nat} (hK : ∀ i, K i < 256) (h : DD K z L D) (qs qt : Int32) : ∀ r, r < L → (Bq qs qt (K (z r)) ↔ r < D (ix qs qt)) := by
  rw [← h.2.2]
  exact (cnt_fall (fun r => Bq qs qt (K (z r))) _ L (fun i _ => ⟨fun q => ix1 q, fun q => ix0 q⟩) fun i j hij hj q => by
    have := inc_far h.2.1 (i := i) (j - i - 1) (by omega)
    rw [show i + (j - i - 1) + 1 = j by omega] at this
    exact Bq_down this (hK _) q).2
theorem own_ushr1 {n : Nat} (h : n < 2147483648) : XT.ushr (Int32.ofNat n) 1 = Int32.ofNat (n / 2) := by
  have e : UInt32.ofNat n >>> 1 = UInt32.ofNat (n / 2) := by
    apply UInt32.toNat_inj.mp
    rw [UInt32.toNat_shiftRight, UInt32.toNat_ofNat_of_lt' (by show n < 4294967296; omega), UInt32.toNat_ofNat_of_lt' (by show n / 2 < 4294967296; omega)]
    show n >>> 1 = n / 2
    rw [Nat.shiftRight_eq_div_pow]
  show (UInt32.ofNat n >>> 1).toInt32 = _
  rw [e]; rfl
theorem own_nmin {a b : Nat} (ha : a < 2147483648) (hb : b < 2147483648) : (if Int32.ofNat b < Int32.ofNat a then Int32.ofNat b else Int32.ofNat a) = Int32.ofNat (min a b) := by
  by_cases q : b < a
  · rw [if_pos ((own_nlt hb ha).mpr q), Nat.min_eq_right (by omega)]
  · rw [if_neg (fun z => q ((own_nlt hb ha).mp z)), Nat.min_eq_left (by omega)]
theorem cpy_take (xs : List Int32) {n : Nat} (h : n ≤ xs.length) : cpy xs (List.replicate n 0) 0 0 n = xs.take n := by simp [cpy]
theorem pm2 (ke : Nat → Nat) (f : Nat → Nat) {y0 y1 : Nat} (h0 : y0 < 2) (h1 : y1 < 2) (g01 : ¬ y0 = y1) : D2 f (ke y0) (ke y1) = D2 f (ke 0) (ke 1) := by
  rcases (by omega : y0 = 0 ∨ y0 = 1) with rfl | rfl
  · rcases (by omega : y1 = 1) with rfl
    · exact rfl
  · rcases (by omega : y1 = 0) with rfl
    · exact (D2_s _ _ _).trans (rfl)
theorem pm3 (ke : Nat → Nat) (f : Nat → Nat) {y0 y1 y2 : Nat} (h0 : y0 < 3) (h1 : y1 < 3) (h2 : y2 < 3) (g01 : ¬ y0 = y1) (g02 : ¬ y0 = y2) (g12 : ¬ y1 = y2) : D3 f (ke y0) (ke y1) (ke y2) = D3 f (ke 0) (ke 1) (ke 2) := by
  rcases (by omega : y0 = 0 ∨ y0 = 1 ∨ y0 = 2) with rfl | rfl | rfl
  · rcases (by omega : y1 = 1 ∨ y1 = 2) with rfl | rfl
    · rcases (by omega : y2 = 2) with rfl
      · exact rfl
    · rcases (by omega : y2 = 1) with rfl
      · exact (D3_s1 _ _ _ _).trans (rfl)
  · rcases (by omega : y1 = 0 ∨ y1 = 2) with rfl | rfl
    · rcases (by omega : y2 = 2) with rfl
      · exact (D3_s0 _ _ _ _).trans (rfl)
    · rcases (by omega : y2 = 0) with rfl
      · exact (D3_s1 _ _ _ _).trans ((D3_s0 _ _ _ _).trans (rfl))
  · rcases (by omega : y1 = 0 ∨ y1 = 1) with rfl | rfl
    · rcases (by omega : y2 = 1) with rfl
      · exact (D3_s0 _ _ _ _).trans ((D3_s1 _ _ _ _).trans (rfl))
    · rcases (by omega : y2 = 0) with rfl
      · exact (D3_s0 _ _ _ _).trans ((D3_s1 _ _ _ _).trans ((D3_s0 _ _ _ _).trans (rfl)))
theorem pm4 (ke : Nat → Nat) (f : Nat → Nat) {y0 y1 y2 y3 : Nat} (h0 : y0 < 4) (h1 : y1 < 4) (h2 : y2 < 4) (h3 : y3 < 4) (g01 : ¬ y0 = y1) (g02 : ¬ y0 = y2) (g03 : ¬ y0 = y3) (g12 : ¬ y1 = y2) (g13 : ¬ y1 = y3) (g23 : ¬ y2 = y3) : D4 f (ke y0) (ke y1) (ke y2) (ke y3) = D4 f (ke 0) (ke 1) (ke 2) (ke 3) := by
  rcases (by omega : y0 = 0 ∨ y0 = 1 ∨ y0 = 2 ∨ y0 = 3) with rfl | rfl | rfl | rfl
  · rcases (by omega : y1 = 1 ∨ y1 = 2 ∨ y1 = 3) with rfl | rfl | rfl
    · rcases (by omega : y2 = 2 ∨ y2 = 3) with rfl | rfl
      · rcases (by omega : y3 = 3) with rfl
        · exact rfl
      · rcases (by omega : y3 = 2) with rfl
        · exact (D4_s2 _ _ _ _ _).trans (rfl)
    · rcases (by omega : y2 = 1 ∨ y2 = 3) with rfl | rfl
      · rcases (by omega : y3 = 3) with rfl
        · exact (D4_s1 _ _ _ _ _).trans (rfl)
      · rcases (by omega : y3 = 1) with rfl
        · exact (D4_s2 _ _ _ _ _).trans ((D4_s1 _ _ _ _ _).trans (rfl))
    · rcases (by omega : y2 = 1 ∨ y2 = 2) with rfl | rfl
      · rcases (by omega : y3 = 2) with rfl
        · exact (D4_s1 _ _ _ _ _).trans ((D4_s2 _ _ _ _ _).trans (rfl))
      · rcases (by omega : y3 = 1) with rfl
        · exact (D4_s1 _ _ _ _ _).trans ((D4_s2 _ _ _ _ _).trans ((D4_s1 _ _ _ _ _).trans (rfl)))
  · rcases (by omega : y1 = 0 ∨ y1 = 2 ∨ y1 = 3) with rfl | rfl | rfl
    · rcases (by omega : y2 = 2 ∨ y2 = 3) with rfl | rfl
      · rcases (by omega : y3 = 3) with rfl
        · exact (D4_s0 _ _ _ _ _).trans (rfl)
      · rcases (by omega : y3 = 2) with rfl
        · exact (D4_s0 _ _ _ _ _).trans ((D4_s2 _ _ _ _ _).trans (rfl))
    · rcases (by omega : y2 = 0 ∨ y2 = 3) with rfl | rfl
      · rcases (by omega : y3 = 3) with rfl
        · exact (D4_s1 _ _ _ _ _).trans ((D4_s0 _ _ _ _ _).trans (rfl))
      · rcases (by omega : y3 = 0) with rfl
        · exact (D4_s2 _ _ _ _ _).trans ((D4_s1 _ _ _ _ _).trans ((D4_s0 _ _ _ _ _).trans (rfl)))
    · rcases (by omega : y2 = 0 ∨ y2 = 2) with rfl | rfl
      · rcases (by omega : y3 = 2) with rfl
        · exact (D4_s1 _ _ _ _ _).trans ((D4_s0 _ _ _ _ _).trans ((D4_s2 _ _ _ _ _).trans (rfl)))
      · rcases (by omega : y3 = 0) with rfl
        · exact (D4_s1 _ _ _ _ _).trans ((D4_s2 _ _ _ _ _).trans ((D4_s1 _ _ _ _ _).trans ((D4_s0 _ _ _ _ _).trans (rfl))))
  · rcases (by omega : y1 = 0 ∨ y1 = 1 ∨ y1 = 3) with rfl | rfl | rfl
    · rcases (by omega : y2 = 1 ∨ y2 = 3) with rfl | rfl
      · rcases (by omega : y3 = 3) with rfl
        · exact (D4_s0 _ _ _ _ _).trans ((D4_s1 _ _ _ _ _).trans (rfl))
      · rcases (by omega : y3 = 1) with rfl
        · exact (D4_s0 _ _ _ _ _).trans ((D4_s2 _ _ _ _ _).trans ((D4_s1 _ _ _ _ _).trans (rfl)))
    · rcases (by omega : y2 = 0 ∨ y2 = 3) with rfl | rfl
      · rcases (by omega : y3 = 3) with rfl
        · exact (D4_s0 _ _ _ _ _).trans ((D4_s1 _ _ _ _ _).trans ((D4_s0 _ _ _ _ _).trans (rfl)))
      · rcases (by omega : y3 = 0) with rfl
        · exact (D4_s0 _ _ _ _ _).trans ((D4_s2 _ _ _ _ _).trans ((D4_s1 _ _ _ _ _).trans ((D4_s0 _ _ _ _ _).trans (rfl))))
    · rcases (by omega : y2 = 0 ∨ y2 = 1) with rfl | rfl
      · rcases (by omega : y3 = 1) with rfl
        · exact (D4_s1 _ _ _ _ _).trans ((D4_s0 _ _ _ _ _).trans ((D4_s2 _ _ _ _ _).trans ((D4_s1 _ _ _ _ _).trans (rfl))))
      · rcases (by omega : y3 = 0) with rfl
        · exact (D4_s1 _ _ _ _ _).trans ((D4_s0 _ _ _ _ _).trans ((D4_s2 _ _ _ _ _).trans ((D4_s1 _ _ _ _ _).trans ((D4_s0 _ _ _ _ _).trans (rfl)))))
  · rcases (by omega : y1 = 0 ∨ y1 = 1 ∨ y1 = 2) with rfl | rfl | rfl
    · rcases (by omega : y2 = 1 ∨ y2 = 2) with rfl | rfl
      · rcases (by omega : y3 = 2) with rfl
        · exact (D4_s0 _ _ _ _ _).trans ((D4_s1 _ _ _ _ _).trans ((D4_s2 _ _ _ _ _).trans (rfl)))
      · rcases (by omega : y3 = 1) with rfl
        · exact (D4_s0 _ _ _ _ _).trans ((D4_s1 _ _ _ _ _).trans ((D4_s2 _ _ _ _ _).trans ((D4_s1 _ _ _ _ _).trans (rfl))))
    · rcases (by omega : y2 = 0 ∨ y2 = 2) with rfl | rfl
      · rcases (by omega : y3 = 2) with rfl
        · exact (D4_s0 _ _ _ _ _).trans ((D4_s1 _ _ _ _ _).trans ((D4_s0 _ _ _ _ _).trans ((D4_s2 _ _ _ _ _).trans (rfl))))
      · rcases (by omega : y3 = 0) with rfl
        · exact (D4_s0 _ _ _ _ _).trans ((D4_s1 _ _ _ _ _).trans ((D4_s2 _ _ _ _ _).trans ((D4_s1 _ _ _ _ _).trans ((D4_s0 _ _ _ _ _).trans (rfl)))))
    · rcases (by omega : y2 = 0 ∨ y2 = 1) with rfl | rfl
      · rcases (by omega : y3 = 1) with rfl
        · exact (D4_s0 _ _ _ _ _).trans ((D4_s1 _ _ _ _ _).trans ((D4_s0 _ _ _ _ _).trans ((D4_s2 _ _ _ _ _).trans ((D4_s1 _ _ _ _ _).trans (rfl)))))
      · rcases (by omega : y3 = 0) with rfl
        · exact (D4_s0 _ _ _ _ _).trans ((D4_s1 _ _ _ _ _).trans ((D4_s0 _ _ _ _ _).trans ((D4_s2 _ _ _ _ _).trans ((D4_s1 _ _ _ _ _).trans ((D4_s0 _ _ _ _ _).trans (rfl))))))
theorem D29_65_0 : Dc jdk_29_method_65_code 0 (.iload_n 0) 1 1 := dc (by decide +kernel) rfl
theorem D29_65_1 : Dc jdk_29_method_65_code 1 (.iload_n 1) 1 2 := dc (by decide +kernel) rfl
theorem D29_65_2 : Db jdk_29_method_65_code 2 (.if_icmp .lt) 5 9 := db (7) (by decide +kernel) rfl (by decide) (by decide)
theorem D29_65_5 : Dc jdk_29_method_65_code 5 (.iload_n 0) 1 6 := dc (by decide +kernel) rfl
theorem D29_65_6 : Db jdk_29_method_65_code 6 (.goto) 9 10 := db (4) (by decide +kernel) rfl (by decide) (by decide)
theorem D29_65_9 : Dc jdk_29_method_65_code 9 (.iload_n 1) 1 10 := dc (by decide +kernel) rfl
theorem D29_65_10 : Dc jdk_29_method_65_code 10 (.ireturn) 1 11 := dc (by decide +kernel) rfl
set_option maxRecDepth 65536 in
set_option maxHeartbeats 40000000 in
theorem ct_max (l : Launch) (Z : State) (a0 : Array Value) (hw : ∀ d ∈ tables_1, d.before a0 Z = true) (n0 : Nat) (h : Heap) (y z : Int32) :
    Ct l Z n0 (⟨"java/lang/Math", "max", "(II)I"⟩ : MethodName) jdk_29_method_65_code 2 (some .int) ({ frames := 0, cells := 0, slots := 0, locals := 0 } : Room) [.int y, .int z] h (fun v h' => v = some (.int (if y < z then z else y)) ∧ h = h') := by
  refine Ct.intro (Jvm.Free.JP.mathPlain rfl (by decide +kernel)) [.val (.int y), .val (.int z)] (fun m => by first | (simp [entryFrame, mkF, argsToLocals, Value.category]; done) | (simp [entryFrame, mkF, argsToLocals, Value.category, maxLocals]; done) | rfl) ?_
  intro k hl K
  replace K : Ok k Z n0 "java/lang/Math" ({ frames := 0, cells := 0, slots := 0, locals := 0 } : Room) jdk_29_method_65_code 2 (some .int) "max" := K
  refine G.iloadN K D29_65_0 rfl ?_
  refine G.iloadN K D29_65_1 rfl ?_
  refine G.icmp_lt K D29_65_2 (fun q1 => ?_) (fun q1 => ?_)
  · refine G.iloadN K D29_65_9 rfl ?_
    refine G.ret_int K D29_65_10 ?_
    exact ⟨by simp [q1], rfl⟩
  · refine G.iloadN K D29_65_5 rfl ?_
    refine G.goto K D29_65_6 ?_
    refine G.ret_int K D29_65_10 ?_
    exact ⟨by simp [q1], rfl⟩
theorem D29_69_0 : Dc jdk_29_method_69_code 0 (.iload_n 0) 1 1 := dc (by decide +kernel) rfl
theorem D29_69_1 : Dc jdk_29_method_69_code 1 (.iload_n 1) 1 2 := dc (by decide +kernel) rfl
theorem D29_69_2 : Db jdk_29_method_69_code 2 (.if_icmp .gt) 5 9 := db (7) (by decide +kernel) rfl (by decide) (by decide)
theorem D29_69_5 : Dc jdk_29_method_69_code 5 (.iload_n 0) 1 6 := dc (by decide +kernel) rfl
theorem D29_69_6 : Db jdk_29_method_69_code 6 (.goto) 9 10 := db (4) (by decide +kernel) rfl (by decide) (by decide)
theorem D29_69_9 : Dc jdk_29_method_69_code 9 (.iload_n 1) 1 10 := dc (by decide +kernel) rfl
theorem D29_69_10 : Dc jdk_29_method_69_code 10 (.ireturn) 1 11 := dc (by decide +kernel) rfl
set_option maxRecDepth 65536 in
set_option maxHeartbeats 40000000 in
theorem ct_min (l : Launch) (Z : State) (a0 : Array Value) (hw : ∀ d ∈ tables_1, d.before a0 Z = true) (n0 : Nat) (h : Heap) (y z : Int32) :
    Ct l Z n0 (⟨"java/lang/Math", "min", "(II)I"⟩ : MethodName) jdk_29_method_69_code 2 (some .int) ({ frames := 0, cells := 0, slots := 0, locals := 0 } : Room) [.int y, .int z] h (fun v h' => v = some (.int (if z < y then z else y)) ∧ h = h') := by
  refine Ct.intro (Jvm.Free.JP.mathPlain rfl (by decide +kernel)) [.val (.int y), .val (.int z)] (fun m => by first | (simp [entryFrame, mkF, argsToLocals, Value.category]; done) | (simp [entryFrame, mkF, argsToLocals, Value.category, maxLocals]; done) | rfl) ?_
  intro k hl K
  replace K : Ok k Z n0 "java/lang/Math" ({ frames := 0, cells := 0, slots := 0, locals := 0 } : Room) jdk_29_method_69_code 2 (some .int) "min" := K
  refine G.iloadN K D29_69_0 rfl ?_
  refine G.iloadN K D29_69_1 rfl ?_
  refine G.icmp_gt K D29_69_2 (fun q2 => ?_) (fun q2 => ?_)
  · refine G.iloadN K D29_69_9 rfl ?_
    refine G.ret_int K D29_69_10 ?_
    exact ⟨by simp [q2], rfl⟩
  · refine G.iloadN K D29_69_5 rfl ?_
    refine G.goto K D29_69_6 ?_
    refine G.ret_int K D29_69_10 ?_
    exact ⟨by simp [q2], rfl⟩
theorem own_nmax {a b : Nat} (ha : a < 2147483648) (hb : b < 2147483648) : (if Int32.ofNat a < Int32.ofNat b then Int32.ofNat b else Int32.ofNat a) = Int32.ofNat (max a b) := by
  by_cases q : a < b
  · rw [if_pos ((own_nlt ha hb).mpr q), Nat.max_eq_right (by omega)]
  · rw [if_neg (fun z => q ((own_nlt ha hb).mp z)), Nat.max_eq_left (by omega)]
theorem D33_40_0 : Dc jdk_33_method_40_code 0 (.iload_n 0) 1 1 := dc (by decide +kernel) rfl
theorem D33_40_1 : Dc jdk_33_method_40_code 1 (.iload_n 1) 1 2 := dc (by decide +kernel) rfl
theorem D33_40_2 : Db jdk_33_method_40_code 2 (.if_icmp .ge) 5 9 := db (7) (by decide +kernel) rfl (by decide) (by decide)
theorem D33_40_5 : Dc jdk_33_method_40_code 5 (.iconst (-1)) 1 6 := dc (by decide +kernel) rfl
theorem D33_40_6 : Db jdk_33_method_40_code 6 (.goto) 9 19 := db (13) (by decide +kernel) rfl (by decide) (by decide)
theorem D33_40_9 : Dc jdk_33_method_40_code 9 (.iload_n 0) 1 10 := dc (by decide +kernel) rfl
theorem D33_40_10 : Dc jdk_33_method_40_code 10 (.iload_n 1) 1 11 := dc (by decide +kernel) rfl
theorem D33_40_11 : Db jdk_33_method_40_code 11 (.if_icmp .ne) 14 18 := db (7) (by decide +kernel) rfl (by decide) (by decide)
theorem D33_40_14 : Dc jdk_33_method_40_code 14 (.iconst 0) 1 15 := dc (by decide +kernel) rfl
theorem D33_40_15 : Db jdk_33_method_40_code 15 (.goto) 18 19 := db (4) (by decide +kernel) rfl (by decide) (by decide)
theorem D33_40_18 : Dc jdk_33_method_40_code 18 (.iconst 1) 1 19 := dc (by decide +kernel) rfl
theorem D33_40_19 : Dc jdk_33_method_40_code 19 (.ireturn) 1 20 := dc (by decide +kernel) rfl
theorem pf_icmp : plainFor (⟨"java/lang/Integer", "compare", "(II)I"⟩ : MethodName) = true := by decide +kernel
set_option maxRecDepth 65536 in
set_option maxHeartbeats 40000000 in
theorem ct_icmp (l : Launch) (Z : State) (a0 : Array Value) (hw : ∀ d ∈ tables_1, d.before a0 Z = true) (n0 : Nat) (h : Heap) (y z : Int32) :
    Ct l Z n0 (⟨"java/lang/Integer", "compare", "(II)I"⟩ : MethodName) jdk_33_method_40_code 2 (some .int) ({ frames := 0, cells := 0, slots := 0, locals := 0 } : Room) [.int y, .int z] h (fun v h' => v = some (.int (icp y z)) ∧ h = h') := by
  refine Ct.intro pf_icmp [.val (.int y), .val (.int z)] (fun m => by first | (simp [entryFrame, mkF, argsToLocals, Value.category]; done) | (simp [entryFrame, mkF, argsToLocals, Value.category, maxLocals]; done) | rfl) ?_
  intro k hl K
  replace K : Ok k Z n0 "java/lang/Integer" ({ frames := 0, cells := 0, slots := 0, locals := 0 } : Room) jdk_33_method_40_code 2 (some .int) "compare" := K
  refine G.iloadN K D33_40_0 rfl ?_
  refine G.iloadN K D33_40_1 rfl ?_
  refine G.icmp_ge K D33_40_2 (fun q3 => ?_) (fun q3 => ?_)
  · refine G.iloadN K D33_40_9 rfl ?_
    refine G.iloadN K D33_40_10 rfl ?_
    refine G.icmp_ne K D33_40_11 (fun q4 => ?_) (fun q4 => ?_)
    · refine G.iconst K D33_40_18 1 rfl ?_
      refine G.ret_int K D33_40_19 ?_
      exact ⟨by rw [icp, if_neg q3, if_neg q4], rfl⟩
    · refine G.iconst K D33_40_14 0 rfl ?_
      refine G.goto K D33_40_15 ?_
      refine G.ret_int K D33_40_19 ?_
      exact ⟨by rw [icp, if_neg q3, if_pos q4], rfl⟩
  · refine G.iconst K D33_40_5 (-1) rfl ?_
    refine G.goto K D33_40_6 ?_
    refine G.ret_int K D33_40_19 ?_
    exact ⟨by rw [icp, if_pos q3], rfl⟩
theorem D99_11_0 : Dc prog_99_method_11_code 0 (.aload_n 0) 1 1 := dc (by decide +kernel) rfl
theorem D99_11_1 : Dc prog_99_method_11_code 1 (.iload_n 3) 1 2 := dc (by decide +kernel) rfl
theorem D99_11_2 : Dc prog_99_method_11_code 2 (.iaload) 1 3 := dc (by decide +kernel) rfl
theorem D99_11_3 : Dc prog_99_method_11_code 3 (.aload_n 0) 1 4 := dc (by decide +kernel) rfl
theorem D99_11_4 : Dc prog_99_method_11_code 4 (.iload 4) 2 6 := dc (by decide +kernel) rfl
theorem D99_11_6 : Dc prog_99_method_11_code 6 (.iaload) 1 7 := dc (by decide +kernel) rfl
theorem D99_11_7 : Dc prog_99_method_11_code 7 (.invokestatic 51) 3 10 := dc (by decide +kernel) rfl
theorem D99_11_10 : Dc prog_99_method_11_code 10 (.istore 5) 2 12 := dc (by decide +kernel) rfl
theorem D99_11_12 : Dc prog_99_method_11_code 12 (.iload 5) 2 14 := dc (by decide +kernel) rfl
theorem D99_11_14 : Db prog_99_method_11_code 14 (.ifCond .ne) 17 29 := db (15) (by decide +kernel) rfl (by decide) (by decide)
theorem D99_11_17 : Dc prog_99_method_11_code 17 (.aload_n 1) 1 18 := dc (by decide +kernel) rfl
theorem D99_11_18 : Dc prog_99_method_11_code 18 (.iload_n 3) 1 19 := dc (by decide +kernel) rfl
theorem D99_11_19 : Dc prog_99_method_11_code 19 (.iaload) 1 20 := dc (by decide +kernel) rfl
theorem D99_11_20 : Dc prog_99_method_11_code 20 (.aload_n 1) 1 21 := dc (by decide +kernel) rfl
theorem D99_11_21 : Dc prog_99_method_11_code 21 (.iload 4) 2 23 := dc (by decide +kernel) rfl
theorem D99_11_23 : Dc prog_99_method_11_code 23 (.iaload) 1 24 := dc (by decide +kernel) rfl
theorem D99_11_24 : Dc prog_99_method_11_code 24 (.invokestatic 51) 3 27 := dc (by decide +kernel) rfl
theorem D99_11_27 : Dc prog_99_method_11_code 27 (.istore 5) 2 29 := dc (by decide +kernel) rfl
theorem D99_11_29 : Dc prog_99_method_11_code 29 (.iload 5) 2 31 := dc (by decide +kernel) rfl
theorem D99_11_31 : Db prog_99_method_11_code 31 (.ifCond .eq) 34 39 := db (8) (by decide +kernel) rfl (by decide) (by decide)
theorem D99_11_34 : Dc prog_99_method_11_code 34 (.iload 5) 2 36 := dc (by decide +kernel) rfl
theorem D99_11_36 : Db prog_99_method_11_code 36 (.goto) 39 49 := db (13) (by decide +kernel) rfl (by decide) (by decide)
theorem D99_11_39 : Dc prog_99_method_11_code 39 (.aload_n 2) 1 40 := dc (by decide +kernel) rfl
theorem D99_11_40 : Dc prog_99_method_11_code 40 (.iload_n 3) 1 41 := dc (by decide +kernel) rfl
theorem D99_11_41 : Dc prog_99_method_11_code 41 (.iaload) 1 42 := dc (by decide +kernel) rfl
theorem D99_11_42 : Dc prog_99_method_11_code 42 (.aload_n 2) 1 43 := dc (by decide +kernel) rfl
theorem D99_11_43 : Dc prog_99_method_11_code 43 (.iload 4) 2 45 := dc (by decide +kernel) rfl
theorem D99_11_45 : Dc prog_99_method_11_code 45 (.iaload) 1 46 := dc (by decide +kernel) rfl
theorem D99_11_46 : Dc prog_99_method_11_code 46 (.invokestatic 51) 3 49 := dc (by decide +kernel) rfl
theorem D99_11_49 : Dc prog_99_method_11_code 49 (.ireturn) 1 50 := dc (by decide +kernel) rfl
theorem pn_0 : plainName "com/example/rankwise/rankwise/store/TripleIndex" = true := by first | (simp [plainName, overriddenIn]; done) | decide +kernel
set_option maxRecDepth 65536 in
set_option maxHeartbeats 40000000 in
theorem ct_cmp (l : Launch) (Z : State) (a0 : Array Value) (hw : ∀ d ∈ tables_1, d.before a0 Z = true) (n0 : Nat) (h : Heap) (fa sa ta : Addr) (ke : Nat → Nat) (i j : Nat) (σ : List Ch) (hK : ∀ i, ke i < 256) (hi : i < 4) (hj : j < 4) (H : Hp n0 h ((fa, Ia Z (lst 4 (fun _ => 0))) :: (sa, Ia Z (lst 4 (sF ke))) :: (ta, Ia Z (lst 4 (tF ke))) :: σ)) :
    Ct l Z n0 (⟨"com/example/rankwise/rankwise/store/TripleIndex", "compare", "([I[I[III)I"⟩ : MethodName) prog_99_method_11_code 6 (some .int) ({ frames := 1, cells := 0, slots := 0, locals := 13 } : Room) [.ref fa, .ref sa, .ref ta, .int (Int32.ofNat i), .int (Int32.ofNat j)] h (fun v h' => ∃ z : Int32, v = some (.int z) ∧ (0 < z ↔ ke j < ke i) ∧ h = h') := by
  refine Ct.intro (plainFor_of_name pn_0) [.val (.ref fa), .val (.ref sa), .val (.ref ta), .val (.int (Int32.ofNat i)), .val (.int (Int32.ofNat j)), .unset] (fun m => by first | (simp [entryFrame, mkF, argsToLocals, Value.category]; done) | (simp [entryFrame, mkF, argsToLocals, Value.category, maxLocals]; done) | rfl) ?_
  intro k hl K
  replace K : Ok k Z n0 "com/example/rankwise/rankwise/store/TripleIndex" ({ frames := 1, cells := 0, slots := 0, locals := 13 } : Room) prog_99_method_11_code 6 (some .int) "compare" := K
  refine G.aloadN K D99_11_0 rfl rfl ?_
  refine G.iloadN K D99_11_1 rfl ?_
  refine G.aload_i K H (i := 0) rfl (own_nneg (by omega)) (by rw [own_nidx (by omega)]; exact lst_get _ (by omega)) D99_11_2 ?_
  refine G.aloadN K D99_11_3 rfl rfl ?_
  refine G.iload K D99_11_4 rfl ?_
  refine G.aload_i K H (i := 0) rfl (own_nneg (by omega)) (by rw [own_nidx (by omega)]; exact lst_get _ (by omega)) D99_11_6 ?_
  refine G.callS K hl (wd hw 48 rfl) (wd hw 49 rfl) (wd hw 50 rfl) (wd hw 51 rfl) (by decide) pd_0 (ct_icmp l Z a0 hw n0 _ 0 0) 0 rfl (by decide) (by decide) (by decide) (by decide) rfl rfl [.int 0, .int 0] rfl D99_11_7 ?_
  rintro _ _ ⟨rfl, rfl⟩
  rw [show icp 0 0 = 0 from by decide]
  change G k n0 _ h _ _ 10 [.val (.ref fa), .val (.ref sa), .val (.ref ta), .val (.int (Int32.ofNat i)), .val (.int (Int32.ofNat j)), .unset] [.int 0]
  refine G.istore K D99_11_10 ([.val (.ref fa), .val (.ref sa), .val (.ref ta), .val (.int (Int32.ofNat i)), .val (.int (Int32.ofNat j)), .val (.int 0)]) rfl ?_
  refine G.iload K D99_11_12 rfl ?_
  refine G.if_ne K D99_11_14 (fun q => absurd q (by decide)) (fun _ => ?_)
  refine G.aloadN K D99_11_17 rfl rfl ?_
  refine G.iloadN K D99_11_18 rfl ?_
  refine G.aload_i K H (i := 1) rfl (own_nneg (by omega)) (by rw [own_nidx (by omega)]; exact lst_get _ (by omega)) D99_11_19 ?_
  refine G.aloadN K D99_11_20 rfl rfl ?_
  refine G.iload K D99_11_21 rfl ?_
  refine G.aload_i K H (i := 1) rfl (own_nneg (by omega)) (by rw [own_nidx (by omega)]; exact lst_get _ (by omega)) D99_11_23 ?_
  refine G.callS K hl (wd hw 48 rfl) (wd hw 49 rfl) (wd hw 50 rfl) (wd hw 51 rfl) (by decide) pd_0 (ct_icmp l Z a0 hw n0 _ (sF ke i) (sF ke j)) 0 rfl (by decide) (by decide) (by decide) (by decide) rfl rfl [.int (sF ke j), .int (sF ke i)] rfl D99_11_24 ?_
  rintro _ _ ⟨rfl, rfl⟩
  change G k n0 _ h _ _ 27 [.val (.ref fa), .val (.ref sa), .val (.ref ta), .val (.int (Int32.ofNat i)), .val (.int (Int32.ofNat j)), .val (.int 0)] [.int (icp (sF ke i) (sF ke j))]
  refine G.istore K D99_11_27 ([.val (.ref fa), .val (.ref sa), .val (.ref ta), .val (.int (Int32.ofNat i)), .val (.int (Int32.ofNat j)), .val (.int (icp (sF ke i) (sF ke j)))]) rfl ?_
  refine G.iload K D99_11_29 rfl ?_
  refine G.if_eq K D99_11_31 (fun q6 => ?_) (fun q6 => ?_)
  · refine G.aloadN K D99_11_39 rfl rfl ?_
    refine G.iloadN K D99_11_40 rfl ?_
    refine G.aload_i K H (i := 2) rfl (own_nneg (by omega)) (by rw [own_nidx (by omega)]; exact lst_get _ (by omega)) D99_11_41 ?_
    refine G.aloadN K D99_11_42 rfl rfl ?_
    refine G.iload K D99_11_43 rfl ?_
    refine G.aload_i K H (i := 2) rfl (own_nneg (by omega)) (by rw [own_nidx (by omega)]; exact lst_get _ (by omega)) D99_11_45 ?_
    refine G.callS K hl (wd hw 48 rfl) (wd hw 49 rfl) (wd hw 50 rfl) (wd hw 51 rfl) (by decide) pd_0 (ct_icmp l Z a0 hw n0 _ (tF ke i) (tF ke j)) 0 rfl (by decide) (by decide) (by decide) (by decide) rfl rfl [.int (tF ke j), .int (tF ke i)] rfl D99_11_46 ?_
    rintro _ _ ⟨rfl, rfl⟩
    change G k n0 _ h _ _ 49 [.val (.ref fa), .val (.ref sa), .val (.ref ta), .val (.int (Int32.ofNat i)), .val (.int (Int32.ofNat j)), .val (.int (icp (sF ke i) (sF ke j)))] [.int (icp (tF ke i) (tF ke j))]
    refine G.ret_int K D99_11_49 ?_
    exact ⟨_, rfl, cmp_t hK q6, rfl⟩
  · refine G.iload K D99_11_34 rfl ?_
    refine G.goto K D99_11_36 ?_
    refine G.ret_int K D99_11_49 ?_
    exact ⟨_, rfl, cmp_s hK q6, rfl⟩
theorem D99_10_0 : Dc prog_99_method_10_code 0 (.iload_n 3) 1 1 := dc (by decide +kernel) rfl
theorem D99_10_1 : Dc prog_99_method_10_code 1 (.newarray .int) 2 3 := dc (by decide +kernel) rfl
theorem D99_10_3 : Dc prog_99_method_10_code 3 (.astore 4) 2 5 := dc (by decide +kernel) rfl
theorem D99_10_5 : Dc prog_99_method_10_code 5 (.iconst 0) 1 6 := dc (by decide +kernel) rfl
theorem D99_10_6 : Dc prog_99_method_10_code 6 (.istore 5) 2 8 := dc (by decide +kernel) rfl
theorem D99_10_8 : Dc prog_99_method_10_code 8 (.iload 5) 2 10 := dc (by decide +kernel) rfl
theorem D99_10_10 : Dc prog_99_method_10_code 10 (.iload_n 3) 1 11 := dc (by decide +kernel) rfl
theorem D99_10_11 : Db prog_99_method_10_code 11 (.if_icmp .ge) 14 27 := db (16) (by decide +kernel) rfl (by decide) (by decide)
theorem D99_10_14 : Dc prog_99_method_10_code 14 (.aload 4) 2 16 := dc (by decide +kernel) rfl
theorem D99_10_16 : Dc prog_99_method_10_code 16 (.iload 5) 2 18 := dc (by decide +kernel) rfl
theorem D99_10_18 : Dc prog_99_method_10_code 18 (.iload 5) 2 20 := dc (by decide +kernel) rfl
theorem D99_10_20 : Dc prog_99_method_10_code 20 (.iastore) 1 21 := dc (by decide +kernel) rfl
theorem D99_10_21 : Dc prog_99_method_10_code 21 (.iinc 5 1) 3 24 := dc (by decide +kernel) rfl
theorem D99_10_24 : Db prog_99_method_10_code 24 (.goto) 27 8 := db (-16) (by decide +kernel) rfl (by decide) (by decide)
theorem D99_10_27 : Dc prog_99_method_10_code 27 (.iload_n 3) 1 28 := dc (by decide +kernel) rfl
theorem D99_10_28 : Dc prog_99_method_10_code 28 (.newarray .int) 2 30 := dc (by decide +kernel) rfl
theorem D99_10_30 : Dc prog_99_method_10_code 30 (.astore 5) 2 32 := dc (by decide +kernel) rfl
theorem D99_10_32 : Dc prog_99_method_10_code 32 (.iconst 1) 1 33 := dc (by decide +kernel) rfl
theorem D99_10_33 : Dc prog_99_method_10_code 33 (.istore 6) 2 35 := dc (by decide +kernel) rfl
theorem D99_10_35 : Dc prog_99_method_10_code 35 (.iload 6) 2 37 := dc (by decide +kernel) rfl
theorem D99_10_37 : Dc prog_99_method_10_code 37 (.iload_n 3) 1 38 := dc (by decide +kernel) rfl
theorem D99_10_38 : Db prog_99_method_10_code 38 (.if_icmp .ge) 41 201 := db (163) (by decide +kernel) rfl (by decide) (by decide)
theorem D99_10_41 : Dc prog_99_method_10_code 41 (.iconst 0) 1 42 := dc (by decide +kernel) rfl
theorem D99_10_42 : Dc prog_99_method_10_code 42 (.istore 7) 2 44 := dc (by decide +kernel) rfl
theorem D99_10_44 : Dc prog_99_method_10_code 44 (.iload 7) 2 46 := dc (by decide +kernel) rfl
theorem D99_10_46 : Dc prog_99_method_10_code 46 (.iload_n 3) 1 47 := dc (by decide +kernel) rfl
theorem D99_10_47 : Db prog_99_method_10_code 47 (.if_icmp .ge) 50 180 := db (133) (by decide +kernel) rfl (by decide) (by decide)
theorem D99_10_50 : Dc prog_99_method_10_code 50 (.iload 7) 2 52 := dc (by decide +kernel) rfl
theorem D99_10_52 : Dc prog_99_method_10_code 52 (.iload 6) 2 54 := dc (by decide +kernel) rfl
theorem D99_10_54 : Dc prog_99_method_10_code 54 (.iadd) 1 55 := dc (by decide +kernel) rfl
theorem D99_10_55 : Dc prog_99_method_10_code 55 (.iload_n 3) 1 56 := dc (by decide +kernel) rfl
theorem D99_10_56 : Dc prog_99_method_10_code 56 (.invokestatic 41) 3 59 := dc (by decide +kernel) rfl
theorem D99_10_59 : Dc prog_99_method_10_code 59 (.istore 8) 2 61 := dc (by decide +kernel) rfl
theorem D99_10_61 : Dc prog_99_method_10_code 61 (.iload 7) 2 63 := dc (by decide +kernel) rfl
theorem D99_10_63 : Dc prog_99_method_10_code 63 (.iconst 2) 1 64 := dc (by decide +kernel) rfl
theorem D99_10_64 : Dc prog_99_method_10_code 64 (.iload 6) 2 66 := dc (by decide +kernel) rfl
theorem D99_10_66 : Dc prog_99_method_10_code 66 (.imul) 1 67 := dc (by decide +kernel) rfl
theorem D99_10_67 : Dc prog_99_method_10_code 67 (.iadd) 1 68 := dc (by decide +kernel) rfl
theorem D99_10_68 : Dc prog_99_method_10_code 68 (.iload_n 3) 1 69 := dc (by decide +kernel) rfl
theorem D99_10_69 : Dc prog_99_method_10_code 69 (.invokestatic 41) 3 72 := dc (by decide +kernel) rfl
theorem D99_10_72 : Dc prog_99_method_10_code 72 (.istore 9) 2 74 := dc (by decide +kernel) rfl
theorem D99_10_74 : Dc prog_99_method_10_code 74 (.iload 7) 2 76 := dc (by decide +kernel) rfl
theorem D99_10_76 : Dc prog_99_method_10_code 76 (.istore 10) 2 78 := dc (by decide +kernel) rfl
theorem D99_10_78 : Dc prog_99_method_10_code 78 (.iload 8) 2 80 := dc (by decide +kernel) rfl
theorem D99_10_80 : Dc prog_99_method_10_code 80 (.istore 11) 2 82 := dc (by decide +kernel) rfl
theorem D99_10_82 : Dc prog_99_method_10_code 82 (.iload 7) 2 84 := dc (by decide +kernel) rfl
theorem D99_10_84 : Dc prog_99_method_10_code 84 (.istore 12) 2 86 := dc (by decide +kernel) rfl
theorem D99_10_86 : Dc prog_99_method_10_code 86 (.iload 12) 2 88 := dc (by decide +kernel) rfl
theorem D99_10_88 : Dc prog_99_method_10_code 88 (.iload 9) 2 90 := dc (by decide +kernel) rfl
theorem D99_10_90 : Db prog_99_method_10_code 90 (.if_icmp .ge) 93 168 := db (78) (by decide +kernel) rfl (by decide) (by decide)
theorem D99_10_93 : Dc prog_99_method_10_code 93 (.iload 11) 2 95 := dc (by decide +kernel) rfl
theorem D99_10_95 : Dc prog_99_method_10_code 95 (.iload 9) 2 97 := dc (by decide +kernel) rfl
theorem D99_10_97 : Db prog_99_method_10_code 97 (.if_icmp .ge) 100 126 := db (29) (by decide +kernel) rfl (by decide) (by decide)
theorem D99_10_100 : Dc prog_99_method_10_code 100 (.iload 10) 2 102 := dc (by decide +kernel) rfl
theorem D99_10_102 : Dc prog_99_method_10_code 102 (.iload 8) 2 104 := dc (by decide +kernel) rfl
theorem D99_10_104 : Db prog_99_method_10_code 104 (.if_icmp .ge) 107 130 := db (26) (by decide +kernel) rfl (by decide) (by decide)
theorem D99_10_107 : Dc prog_99_method_10_code 107 (.aload_n 0) 1 108 := dc (by decide +kernel) rfl
theorem D99_10_108 : Dc prog_99_method_10_code 108 (.aload_n 1) 1 109 := dc (by decide +kernel) rfl
theorem D99_10_109 : Dc prog_99_method_10_code 109 (.aload_n 2) 1 110 := dc (by decide +kernel) rfl
theorem D99_10_110 : Dc prog_99_method_10_code 110 (.aload 4) 2 112 := dc (by decide +kernel) rfl
theorem D99_10_112 : Dc prog_99_method_10_code 112 (.iload 10) 2 114 := dc (by decide +kernel) rfl
theorem D99_10_114 : Dc prog_99_method_10_code 114 (.iaload) 1 115 := dc (by decide +kernel) rfl
theorem D99_10_115 : Dc prog_99_method_10_code 115 (.aload 4) 2 117 := dc (by decide +kernel) rfl
theorem D99_10_117 : Dc prog_99_method_10_code 117 (.iload 11) 2 119 := dc (by decide +kernel) rfl
theorem D99_10_119 : Dc prog_99_method_10_code 119 (.iaload) 1 120 := dc (by decide +kernel) rfl
theorem D99_10_120 : Dc prog_99_method_10_code 120 (.invokestatic 47) 3 123 := dc (by decide +kernel) rfl
theorem D99_10_123 : Db prog_99_method_10_code 123 (.ifCond .gt) 126 130 := db (7) (by decide +kernel) rfl (by decide) (by decide)
theorem D99_10_126 : Dc prog_99_method_10_code 126 (.iconst 1) 1 127 := dc (by decide +kernel) rfl
theorem D99_10_127 : Db prog_99_method_10_code 127 (.goto) 130 131 := db (4) (by decide +kernel) rfl (by decide) (by decide)
theorem D99_10_130 : Dc prog_99_method_10_code 130 (.iconst 0) 1 131 := dc (by decide +kernel) rfl
theorem D99_10_131 : Dc prog_99_method_10_code 131 (.istore 13) 2 133 := dc (by decide +kernel) rfl
theorem D99_10_133 : Dc prog_99_method_10_code 133 (.aload 5) 2 135 := dc (by decide +kernel) rfl
theorem D99_10_135 : Dc prog_99_method_10_code 135 (.iload 12) 2 137 := dc (by decide +kernel) rfl
theorem D99_10_137 : Dc prog_99_method_10_code 137 (.iload 13) 2 139 := dc (by decide +kernel) rfl
theorem D99_10_139 : Db prog_99_method_10_code 139 (.ifCond .eq) 142 153 := db (14) (by decide +kernel) rfl (by decide) (by decide)
theorem D99_10_142 : Dc prog_99_method_10_code 142 (.aload 4) 2 144 := dc (by decide +kernel) rfl
theorem D99_10_144 : Dc prog_99_method_10_code 144 (.iload 10) 2 146 := dc (by decide +kernel) rfl
theorem D99_10_146 : Dc prog_99_method_10_code 146 (.iinc 10 1) 3 149 := dc (by decide +kernel) rfl
theorem D99_10_149 : Dc prog_99_method_10_code 149 (.iaload) 1 150 := dc (by decide +kernel) rfl
theorem D99_10_150 : Db prog_99_method_10_code 150 (.goto) 153 161 := db (11) (by decide +kernel) rfl (by decide) (by decide)
theorem D99_10_153 : Dc prog_99_method_10_code 153 (.aload 4) 2 155 := dc (by decide +kernel) rfl
theorem D99_10_155 : Dc prog_99_method_10_code 155 (.iload 11) 2 157 := dc (by decide +kernel) rfl
theorem D99_10_157 : Dc prog_99_method_10_code 157 (.iinc 11 1) 3 160 := dc (by decide +kernel) rfl
theorem D99_10_160 : Dc prog_99_method_10_code 160 (.iaload) 1 161 := dc (by decide +kernel) rfl
theorem D99_10_161 : Dc prog_99_method_10_code 161 (.iastore) 1 162 := dc (by decide +kernel) rfl
theorem D99_10_162 : Dc prog_99_method_10_code 162 (.iinc 12 1) 3 165 := dc (by decide +kernel) rfl
theorem D99_10_165 : Db prog_99_method_10_code 165 (.goto) 168 86 := db (-79) (by decide +kernel) rfl (by decide) (by decide)
theorem D99_10_168 : Dc prog_99_method_10_code 168 (.iload 7) 2 170 := dc (by decide +kernel) rfl
theorem D99_10_170 : Dc prog_99_method_10_code 170 (.iconst 2) 1 171 := dc (by decide +kernel) rfl
theorem D99_10_171 : Dc prog_99_method_10_code 171 (.iload 6) 2 173 := dc (by decide +kernel) rfl
theorem D99_10_173 : Dc prog_99_method_10_code 173 (.imul) 1 174 := dc (by decide +kernel) rfl
theorem D99_10_174 : Dc prog_99_method_10_code 174 (.iadd) 1 175 := dc (by decide +kernel) rfl
theorem D99_10_175 : Dc prog_99_method_10_code 175 (.istore 7) 2 177 := dc (by decide +kernel) rfl
theorem D99_10_177 : Db prog_99_method_10_code 177 (.goto) 180 44 := db (-133) (by decide +kernel) rfl (by decide) (by decide)
theorem D99_10_180 : Dc prog_99_method_10_code 180 (.aload 4) 2 182 := dc (by decide +kernel) rfl
theorem D99_10_182 : Dc prog_99_method_10_code 182 (.astore 7) 2 184 := dc (by decide +kernel) rfl
theorem D99_10_184 : Dc prog_99_method_10_code 184 (.aload 5) 2 186 := dc (by decide +kernel) rfl
theorem D99_10_186 : Dc prog_99_method_10_code 186 (.astore 4) 2 188 := dc (by decide +kernel) rfl
theorem D99_10_188 : Dc prog_99_method_10_code 188 (.aload 7) 2 190 := dc (by decide +kernel) rfl
theorem D99_10_190 : Dc prog_99_method_10_code 190 (.astore 5) 2 192 := dc (by decide +kernel) rfl
theorem D99_10_192 : Dc prog_99_method_10_code 192 (.iload 6) 2 194 := dc (by decide +kernel) rfl
theorem D99_10_194 : Dc prog_99_method_10_code 194 (.iconst 2) 1 195 := dc (by decide +kernel) rfl
theorem D99_10_195 : Dc prog_99_method_10_code 195 (.imul) 1 196 := dc (by decide +kernel) rfl
theorem D99_10_196 : Dc prog_99_method_10_code 196 (.istore 6) 2 198 := dc (by decide +kernel) rfl
theorem D99_10_198 : Db prog_99_method_10_code 198 (.goto) 201 35 := db (-163) (by decide +kernel) rfl (by decide) (by decide)
theorem D99_10_201 : Dc prog_99_method_10_code 201 (.aload 4) 2 203 := dc (by decide +kernel) rfl
theorem D99_10_203 : Dc prog_99_method_10_code 203 (.areturn) 1 204 := dc (by decide +kernel) rfl
set_option maxRecDepth 65536 in
set_option maxHeartbeats 40000000 in
theorem ct_sort0 (l : Launch) (Z : State) (a0 : Array Value) (hw : ∀ d ∈ tables_1, d.before a0 Z = true) (n0 : Nat) (h : Heap) (fa sa ta : Addr) (ke : Nat → Nat) (σ : List Ch) (hK : ∀ i, ke i < 256) (H : Hp n0 h ((fa, Ia Z (lst 4 (fun _ => 0))) :: (sa, Ia Z (lst 4 (sF ke))) :: (ta, Ia Z (lst 4 (tF ke))) :: σ)) :
    Ct l Z n0 (⟨"com/example/rankwise/rankwise/store/TripleIndex", "sortedOrder", "([I[I[II)[I"⟩ : MethodName) prog_99_method_10_code 14 (some (.array .int)) ({ frames := 2, cells := 2, slots := 0, locals := 31 } : Room) [.ref fa, .ref sa, .ref ta, .int 0] h (fun v h' => ∃ b : Addr, v = some (.ref b) ∧ Hp n0 h' ((b, Ia Z []) :: (fa, Ia Z (lst 4 (fun _ => 0))) :: (sa, Ia Z (lst 4 (sF ke))) :: (ta, Ia Z (lst 4 (tF ke))) :: σ)) := by
  refine Ct.intro (plainFor_of_name pn_0) [.val (.ref fa), .val (.ref sa), .val (.ref ta), .val (.int 0), .unset, .unset, .unset, .unset, .unset, .unset, .unset, .unset, .unset, .unset] (fun m => by first | (simp [entryFrame, mkF, argsToLocals, Value.category]; done) | (simp [entryFrame, mkF, argsToLocals, Value.category, maxLocals]; done) | rfl) ?_
  intro k hl K
  replace K : Ok k Z n0 "com/example/rankwise/rankwise/store/TripleIndex" ({ frames := 2, cells := 2, slots := 0, locals := 31 } : Room) prog_99_method_10_code 14 (some (.array .int)) "sortedOrder" := K
  refine G.iloadN K D99_10_0 rfl ?_
  refine G.newarr_i K (wd hw 0 rfl) H (by decide) 0 (by decide) (by decide) (by decide) (by decide) D99_10_1 ?_
  intro a7 h8 H8
  change Hp n0 h8 ((a7, Ia Z []) :: (fa, Ia Z (lst 4 (fun _ => 0))) :: (sa, Ia Z (lst 4 (sF ke))) :: (ta, Ia Z (lst 4 (tF ke))) :: σ) at H8
  refine G.astore K D99_10_3 rfl ([.val (.ref fa), .val (.ref sa), .val (.ref ta), .val (.int 0), .val (.ref a7), .unset, .unset, .unset, .unset, .unset, .unset, .unset, .unset, .unset]) rfl ?_
  refine G.iconst K D99_10_5 0 rfl ?_
  refine G.istore K D99_10_6 ([.val (.ref fa), .val (.ref sa), .val (.ref ta), .val (.int 0), .val (.ref a7), .val (.int 0), .unset, .unset, .unset, .unset, .unset, .unset, .unset, .unset]) rfl ?_
  refine G.iload K D99_10_8 rfl ?_
  refine G.iloadN K D99_10_10 rfl ?_
  refine G.icmp_ge K D99_10_11 (fun _ => ?_) (fun q => absurd q (by decide))
  refine G.iloadN K D99_10_27 rfl ?_
  refine G.newarr_i K (wd hw 0 rfl) H8 (by decide) 0 (by decide) (by decide) (by decide) (by decide) D99_10_28 ?_
  intro a10 h11 H11
  change Hp n0 h11 ((a10, Ia Z []) :: (a7, Ia Z []) :: (fa, Ia Z (lst 4 (fun _ => 0))) :: (sa, Ia Z (lst 4 (sF ke))) :: (ta, Ia Z (lst 4 (tF ke))) :: σ) at H11
  refine G.astore K D99_10_30 rfl ([.val (.ref fa), .val (.ref sa), .val (.ref ta), .val (.int 0), .val (.ref a7), .val (.ref a10), .unset, .unset, .unset, .unset, .unset, .unset, .unset, .unset]) rfl ?_
  refine G.iconst K D99_10_32 1 rfl ?_
  refine G.istore K D99_10_33 ([.val (.ref fa), .val (.ref sa), .val (.ref ta), .val (.int 0), .val (.ref a7), .val (.ref a10), .val (.int 1), .unset, .unset, .unset, .unset, .unset, .unset, .unset]) rfl ?_
  refine G.iload K D99_10_35 rfl ?_
  refine G.iloadN K D99_10_37 rfl ?_
  refine G.icmp_ge K D99_10_38 (fun _ => ?_) (fun q => absurd q (by decide))
  refine G.aload K D99_10_201 rfl rfl ?_
  refine G.ret_ref K rfl rfl D99_10_203 ?_
  have H13 : Hp n0 h11 ((ta, Ia Z (lst 4 (tF ke))) :: (a10, Ia Z []) :: (a7, Ia Z []) :: (fa, Ia Z (lst 4 (fun _ => 0))) :: (sa, Ia Z (lst 4 (sF ke))) :: σ) := H11.pull 4 rfl
  have H14 : Hp n0 h11 ((sa, Ia Z (lst 4 (sF ke))) :: (ta, Ia Z (lst 4 (tF ke))) :: (a10, Ia Z []) :: (a7, Ia Z []) :: (fa, Ia Z (lst 4 (fun _ => 0))) :: σ) := H13.pull 4 rfl
  have H15 : Hp n0 h11 ((fa, Ia Z (lst 4 (fun _ => 0))) :: (sa, Ia Z (lst 4 (sF ke))) :: (ta, Ia Z (lst 4 (tF ke))) :: (a10, Ia Z []) :: (a7, Ia Z []) :: σ) := H14.pull 4 rfl
  have H16 : Hp n0 h11 ((a7, Ia Z []) :: (fa, Ia Z (lst 4 (fun _ => 0))) :: (sa, Ia Z (lst 4 (sF ke))) :: (ta, Ia Z (lst 4 (tF ke))) :: (a10, Ia Z []) :: σ) := H15.pull 4 rfl
  have H17 : Hp n0 h11 ((a7, Ia Z []) :: (fa, Ia Z (lst 4 (fun _ => 0))) :: (sa, Ia Z (lst 4 (sF ke))) :: (ta, Ia Z (lst 4 (tF ke))) :: σ) := H16.sub (List.Sublist.cons_cons _ (List.Sublist.cons_cons _ (List.Sublist.cons_cons _ (List.Sublist.cons_cons _ (List.Sublist.cons _ (List.Sublist.refl _))))))
  exact ⟨a7, rfl, H17⟩
set_option maxRecDepth 65536 in
set_option maxHeartbeats 40000000 in
theorem ct_sort1 (l : Launch) (Z : State) (a0 : Array Value) (hw : ∀ d ∈ tables_1, d.before a0 Z = true) (n0 : Nat) (h : Heap) (fa sa ta : Addr) (ke : Nat → Nat) (σ : List Ch) (hK : ∀ i, ke i < 256) (H : Hp n0 h ((fa, Ia Z (lst 4 (fun _ => 0))) :: (sa, Ia Z (lst 4 (sF ke))) :: (ta, Ia Z (lst 4 (tF ke))) :: σ)) :
    Ct l Z n0 (⟨"com/example/rankwise/rankwise/store/TripleIndex", "sortedOrder", "([I[I[II)[I"⟩ : MethodName) prog_99_method_10_code 14 (some (.array .int)) ({ frames := 2, cells := 2, slots := 2, locals := 31 } : Room) [.ref fa, .ref sa, .ref ta, .int 1] h (fun v h' => ∃ b : Addr, ∃ y0 : Nat, v = some (.ref b) ∧ y0 < 1 ∧ Hp n0 h' ((b, Ia Z [Int32.ofNat y0]) :: (fa, Ia Z (lst 4 (fun _ => 0))) :: (sa, Ia Z (lst 4 (sF ke))) :: (ta, Ia Z (lst 4 (tF ke))) :: σ)) := by
  refine Ct.intro (plainFor_of_name pn_0) [.val (.ref fa), .val (.ref sa), .val (.ref ta), .val (.int 1), .unset, .unset, .unset, .unset, .unset, .unset, .unset, .unset, .unset, .unset] (fun m => by first | (simp [entryFrame, mkF, argsToLocals, Value.category]; done) | (simp [entryFrame, mkF, argsToLocals, Value.category, maxLocals]; done) | rfl) ?_
  intro k hl K
  replace K : Ok k Z n0 "com/example/rankwise/rankwise/store/TripleIndex" ({ frames := 2, cells := 2, slots := 2, locals := 31 } : Room) prog_99_method_10_code 14 (some (.array .int)) "sortedOrder" := K
  refine G.iloadN K D99_10_0 rfl ?_
  refine G.newarr_i K (wd hw 0 rfl) H (by decide) 1 (by decide) (by decide) (by decide) (by decide) D99_10_1 ?_
  intro a18 h19 H19
  change Hp n0 h19 ((a18, Ia Z [0]) :: (fa, Ia Z (lst 4 (fun _ => 0))) :: (sa, Ia Z (lst 4 (sF ke))) :: (ta, Ia Z (lst 4 (tF ke))) :: σ) at H19
  refine G.astore K D99_10_3 rfl ([.val (.ref fa), .val (.ref sa), .val (.ref ta), .val (.int 1), .val (.ref a18), .unset, .unset, .unset, .unset, .unset, .unset, .unset, .unset, .unset]) rfl ?_
  refine G.iconst K D99_10_5 0 rfl ?_
  refine G.istore K D99_10_6 ([.val (.ref fa), .val (.ref sa), .val (.ref ta), .val (.int 1), .val (.ref a18), .val (.int 0), .unset, .unset, .unset, .unset, .unset, .unset, .unset, .unset]) rfl ?_
  refine G.iload K D99_10_8 rfl ?_
  refine G.iloadN K D99_10_10 rfl ?_
  refine G.icmp_ge K D99_10_11 (fun q => absurd q (by decide)) (fun _ => ?_)
  refine G.aload K D99_10_14 rfl rfl ?_
  refine G.iload K D99_10_16 rfl ?_
  refine G.iload K D99_10_18 rfl ?_
  refine G.astore_i K H19 (i := 0) rfl (by decide) (Nat.le_of_ble_eq_true rfl) D99_10_20 ?_
  intro h21 H21
  change Hp n0 h21 ((a18, Ia Z [0]) :: (fa, Ia Z (lst 4 (fun _ => 0))) :: (sa, Ia Z (lst 4 (sF ke))) :: (ta, Ia Z (lst 4 (tF ke))) :: σ) at H21
  refine G.iinc K D99_10_21 1 rfl rfl ([.val (.ref fa), .val (.ref sa), .val (.ref ta), .val (.int 1), .val (.ref a18), .val (.int (0 + 1)), .unset, .unset, .unset, .unset, .unset, .unset, .unset, .unset]) rfl ?_
  change G k n0 _ h21 _ _ 24 [.val (.ref fa), .val (.ref sa), .val (.ref ta), .val (.int 1), .val (.ref a18), .val (.int 1), .unset, .unset, .unset, .unset, .unset, .unset, .unset, .unset] []
  refine G.goto K D99_10_24 ?_
  refine G.iload K D99_10_8 rfl ?_
  refine G.iloadN K D99_10_10 rfl ?_
  refine G.icmp_ge K D99_10_11 (fun _ => ?_) (fun q => absurd q (by decide))
  refine G.iloadN K D99_10_27 rfl ?_
  refine G.newarr_i K (wd hw 0 rfl) H21 (by decide) 1 (by decide) (by decide) (by decide) (by decide) D99_10_28 ?_
  intro a23 h24 H24
  change Hp n0 h24 ((a23, Ia Z [0]) :: (a18, Ia Z [0]) :: (fa, Ia Z (lst 4 (fun _ => 0))) :: (sa, Ia Z (lst 4 (sF ke))) :: (ta, Ia Z (lst 4 (tF ke))) :: σ) at H24
  refine G.astore K D99_10_30 rfl ([.val (.ref fa), .val (.ref sa), .val (.ref ta), .val (.int 1), .val (.ref a18), .val (.ref a23), .unset, .unset, .unset, .unset, .unset, .unset, .unset, .unset]) rfl ?_
  refine G.iconst K D99_10_32 1 rfl ?_
  refine G.istore K D99_10_33 ([.val (.ref fa), .val (.ref sa), .val (.ref ta), .val (.int 1), .val (.ref a18), .val (.ref a23), .val (.int 1), .unset, .unset, .unset, .unset, .unset, .unset, .unset]) rfl ?_
  refine G.iload K D99_10_35 rfl ?_
  refine G.iloadN K D99_10_37 rfl ?_
  refine G.icmp_ge K D99_10_38 (fun _ => ?_) (fun q => absurd q (by decide))
  refine G.aload K D99_10_201 rfl rfl ?_
  refine G.ret_ref K rfl rfl D99_10_203 ?_
  have H26 : Hp n0 h24 ((ta, Ia Z (lst 4 (tF ke))) :: (a23, Ia Z [0]) :: (a18, Ia Z [0]) :: (fa, Ia Z (lst 4 (fun _ => 0))) :: (sa, Ia Z (lst 4 (sF ke))) :: σ) := H24.pull 4 rfl
  have H27 : Hp n0 h24 ((sa, Ia Z (lst 4 (sF ke))) :: (ta, Ia Z (lst 4 (tF ke))) :: (a23, Ia Z [0]) :: (a18, Ia Z [0]) :: (fa, Ia Z (lst 4 (fun _ => 0))) :: σ) := H26.pull 4 rfl
  have H28 : Hp n0 h24 ((fa, Ia Z (lst 4 (fun _ => 0))) :: (sa, Ia Z (lst 4 (sF ke))) :: (ta, Ia Z (lst 4 (tF ke))) :: (a23, Ia Z [0]) :: (a18, Ia Z [0]) :: σ) := H27.pull 4 rfl
  have H29 : Hp n0 h24 ((a18, Ia Z [0]) :: (fa, Ia Z (lst 4 (fun _ => 0))) :: (sa, Ia Z (lst 4 (sF ke))) :: (ta, Ia Z (lst 4 (tF ke))) :: (a23, Ia Z [0]) :: σ) := H28.pull 4 rfl
  have H30 : Hp n0 h24 ((a18, Ia Z [0]) :: (fa, Ia Z (lst 4 (fun _ => 0))) :: (sa, Ia Z (lst 4 (sF ke))) :: (ta, Ia Z (lst 4 (tF ke))) :: σ) := H29.sub (List.Sublist.cons_cons _ (List.Sublist.cons_cons _ (List.Sublist.cons_cons _ (List.Sublist.cons_cons _ (List.Sublist.cons _ (List.Sublist.refl _))))))
  exact ⟨a18, 0, rfl, by omega, H30⟩
set_option maxRecDepth 65536 in
set_option maxHeartbeats 40000000 in
theorem ct_sort2 (l : Launch) (Z : State) (a0 : Array Value) (hw : ∀ d ∈ tables_1, d.before a0 Z = true) (n0 : Nat) (h : Heap) (fa sa ta : Addr) (ke : Nat → Nat) (σ : List Ch) (hK : ∀ i, ke i < 256) (H : Hp n0 h ((fa, Ia Z (lst 4 (fun _ => 0))) :: (sa, Ia Z (lst 4 (sF ke))) :: (ta, Ia Z (lst 4 (tF ke))) :: σ)) :
    Ct l Z n0 (⟨"com/example/rankwise/rankwise/store/TripleIndex", "sortedOrder", "([I[I[II)[I"⟩ : MethodName) prog_99_method_10_code 14 (some (.array .int)) ({ frames := 2, cells := 2, slots := 4, locals := 31 } : Room) [.ref fa, .ref sa, .ref ta, .int 2] h (fun v h' => ∃ b : Addr, ∃ y0 y1 : Nat, v = some (.ref b) ∧ y0 < 2 ∧ y1 < 2 ∧ ¬ y0 = y1 ∧ ke y0 ≤ ke y1 ∧ Hp n0 h' ((b, Ia Z [Int32.ofNat y0, Int32.ofNat y1]) :: (fa, Ia Z (lst 4 (fun _ => 0))) :: (sa, Ia Z (lst 4 (sF ke))) :: (ta, Ia Z (lst 4 (tF ke))) :: σ)) := by
  refine Ct.intro (plainFor_of_name pn_0) [.val (.ref fa), .val (.ref sa), .val (.ref ta), .val (.int 2), .unset, .unset, .unset, .unset, .unset, .unset, .unset, .unset, .unset, .unset] (fun m => by first | (simp [entryFrame, mkF, argsToLocals, Value.category]; done) | (simp [entryFrame, mkF, argsToLocals, Value.category, maxLocals]; done) | rfl) ?_
  intro k hl K
  replace K : Ok k Z n0 "com/example/rankwise/rankwise/store/TripleIndex" ({ frames := 2, cells := 2, slots := 4, locals := 31 } : Room) prog_99_method_10_code 14 (some (.array .int)) "sortedOrder" := K
  refine G.iloadN K D99_10_0 rfl ?_
  refine G.newarr_i K (wd hw 0 rfl) H (by decide) 2 (by decide) (by decide) (by decide) (by decide) D99_10_1 ?_
  intro a31 h32 H32
  change Hp n0 h32 ((a31, Ia Z [0, 0]) :: (fa, Ia Z (lst 4 (fun _ => 0))) :: (sa, Ia Z (lst 4 (sF ke))) :: (ta, Ia Z (lst 4 (tF ke))) :: σ) at H32
  refine G.astore K D99_10_3 rfl ([.val (.ref fa), .val (.ref sa), .val (.ref ta), .val (.int 2), .val (.ref a31), .unset, .unset, .unset, .unset, .unset, .unset, .unset, .unset, .unset]) rfl ?_
  refine G.iconst K D99_10_5 0 rfl ?_
  refine G.istore K D99_10_6 ([.val (.ref fa), .val (.ref sa), .val (.ref ta), .val (.int 2), .val (.ref a31), .val (.int 0), .unset, .unset, .unset, .unset, .unset, .unset, .unset, .unset]) rfl ?_
  refine G.iload K D99_10_8 rfl ?_
  refine G.iloadN K D99_10_10 rfl ?_
  refine G.icmp_ge K D99_10_11 (fun q => absurd q (by decide)) (fun _ => ?_)
  refine G.aload K D99_10_14 rfl rfl ?_
  refine G.iload K D99_10_16 rfl ?_
  refine G.iload K D99_10_18 rfl ?_
  refine G.astore_i K H32 (i := 0) rfl (by decide) (Nat.le_of_ble_eq_true rfl) D99_10_20 ?_
  intro h34 H34
  change Hp n0 h34 ((a31, Ia Z [0, 0]) :: (fa, Ia Z (lst 4 (fun _ => 0))) :: (sa, Ia Z (lst 4 (sF ke))) :: (ta, Ia Z (lst 4 (tF ke))) :: σ) at H34
  refine G.iinc K D99_10_21 1 rfl rfl ([.val (.ref fa), .val (.ref sa), .val (.ref ta), .val (.int 2), .val (.ref a31), .val (.int (0 + 1)), .unset, .unset, .unset, .unset, .unset, .unset, .unset, .unset]) rfl ?_
  change G k n0 _ h34 _ _ 24 [.val (.ref fa), .val (.ref sa), .val (.ref ta), .val (.int 2), .val (.ref a31), .val (.int 1), .unset, .unset, .unset, .unset, .unset, .unset, .unset, .unset] []
  refine G.goto K D99_10_24 ?_
  refine G.iload K D99_10_8 rfl ?_
  refine G.iloadN K D99_10_10 rfl ?_
  refine G.icmp_ge K D99_10_11 (fun q => absurd q (by decide)) (fun _ => ?_)
  refine G.aload K D99_10_14 rfl rfl ?_
  refine G.iload K D99_10_16 rfl ?_
  refine G.iload K D99_10_18 rfl ?_
  refine G.astore_i K H34 (i := 0) rfl (by decide) (Nat.le_of_ble_eq_true rfl) D99_10_20 ?_
  intro h36 H36
  change Hp n0 h36 ((a31, Ia Z [0, 1]) :: (fa, Ia Z (lst 4 (fun _ => 0))) :: (sa, Ia Z (lst 4 (sF ke))) :: (ta, Ia Z (lst 4 (tF ke))) :: σ) at H36
  refine G.iinc K D99_10_21 1 rfl rfl ([.val (.ref fa), .val (.ref sa), .val (.ref ta), .val (.int 2), .val (.ref a31), .val (.int (1 + 1)), .unset, .unset, .unset, .unset, .unset, .unset, .unset, .unset]) rfl ?_
  change G k n0 _ h36 _ _ 24 [.val (.ref fa), .val (.ref sa), .val (.ref ta), .val (.int 2), .val (.ref a31), .val (.int 2), .unset, .unset, .unset, .unset, .unset, .unset, .unset, .unset] []
  refine G.goto K D99_10_24 ?_
  refine G.iload K D99_10_8 rfl ?_
  refine G.iloadN K D99_10_10 rfl ?_
  refine G.icmp_ge K D99_10_11 (fun _ => ?_) (fun q => absurd q (by decide))
  refine G.iloadN K D99_10_27 rfl ?_
  refine G.newarr_i K (wd hw 0 rfl) H36 (by decide) 2 (by decide) (by decide) (by decide) (by decide) D99_10_28 ?_
  intro a38 h39 H39
  change Hp n0 h39 ((a38, Ia Z [0, 0]) :: (a31, Ia Z [0, 1]) :: (fa, Ia Z (lst 4 (fun _ => 0))) :: (sa, Ia Z (lst 4 (sF ke))) :: (ta, Ia Z (lst 4 (tF ke))) :: σ) at H39
  refine G.astore K D99_10_30 rfl ([.val (.ref fa), .val (.ref sa), .val (.ref ta), .val (.int 2), .val (.ref a31), .val (.ref a38), .unset, .unset, .unset, .unset, .unset, .unset, .unset, .unset]) rfl ?_
  refine G.iconst K D99_10_32 1 rfl ?_
  refine G.istore K D99_10_33 ([.val (.ref fa), .val (.ref sa), .val (.ref ta), .val (.int 2), .val (.ref a31), .val (.ref a38), .val (.int 1), .unset, .unset, .unset, .unset, .unset, .unset, .unset]) rfl ?_
  refine G.iload K D99_10_35 rfl ?_
  refine G.iloadN K D99_10_37 rfl ?_
  refine G.icmp_ge K D99_10_38 (fun q => absurd q (by decide)) (fun _ => ?_)
  refine G.iconst K D99_10_41 0 rfl ?_
  refine G.istore K D99_10_42 ([.val (.ref fa), .val (.ref sa), .val (.ref ta), .val (.int 2), .val (.ref a31), .val (.ref a38), .val (.int 1), .val (.int 0), .unset, .unset, .unset, .unset, .unset, .unset]) rfl ?_
  refine G.iload K D99_10_44 rfl ?_
  refine G.iloadN K D99_10_46 rfl ?_
  refine G.icmp_ge K D99_10_47 (fun q => absurd q (by decide)) (fun _ => ?_)
  refine G.iload K D99_10_50 rfl ?_
  refine G.iload K D99_10_52 rfl ?_
  refine G.iadd K D99_10_54 ?_
  change G k n0 _ h39 _ _ 55 [.val (.ref fa), .val (.ref sa), .val (.ref ta), .val (.int 2), .val (.ref a31), .val (.ref a38), .val (.int 1), .val (.int 0), .unset, .unset, .unset, .unset, .unset, .unset] [.int 1]
  refine G.iloadN K D99_10_55 rfl ?_
  refine G.callS K hl (wd hw 44 rfl) (wd hw 33 rfl) (wd hw 34 rfl) (wd hw 35 rfl) (by decide) pd_0 (ct_min l Z a0 hw n0 _ 1 2) 0 rfl (by decide) (by decide) (by decide) (by decide) rfl rfl [.int 2, .int 1] rfl D99_10_56 ?_
  rintro _ _ ⟨rfl, rfl⟩
  rw [show (if (2 : Int32) < 1 then (2 : Int32) else 1) = 1 from by decide]
  change G k n0 _ h39 _ _ 59 [.val (.ref fa), .val (.ref sa), .val (.ref ta), .val (.int 2), .val (.ref a31), .val (.ref a38), .val (.int 1), .val (.int 0), .unset, .unset, .unset, .unset, .unset, .unset] [.int 1]
  refine G.istore K D99_10_59 ([.val (.ref fa), .val (.ref sa), .val (.ref ta), .val (.int 2), .val (.ref a31), .val (.ref a38), .val (.int 1), .val (.int 0), .val (.int 1), .unset, .unset, .unset, .unset, .unset]) rfl ?_
  refine G.iload K D99_10_61 rfl ?_
  refine G.iconst K D99_10_63 2 rfl ?_
  refine G.iload K D99_10_64 rfl ?_
  refine G.imul K D99_10_66 ?_
  change G k n0 _ h39 _ _ 67 [.val (.ref fa), .val (.ref sa), .val (.ref ta), .val (.int 2), .val (.ref a31), .val (.ref a38), .val (.int 1), .val (.int 0), .val (.int 1), .unset, .unset, .unset, .unset, .unset] [.int 2, .int 0]
  refine G.iadd K D99_10_67 ?_
  change G k n0 _ h39 _ _ 68 [.val (.ref fa), .val (.ref sa), .val (.ref ta), .val (.int 2), .val (.ref a31), .val (.ref a38), .val (.int 1), .val (.int 0), .val (.int 1), .unset, .unset, .unset, .unset, .unset] [.int 2]
  refine G.iloadN K D99_10_68 rfl ?_
  refine G.callS K hl (wd hw 44 rfl) (wd hw 33 rfl) (wd hw 34 rfl) (wd hw 35 rfl) (by decide) pd_0 (ct_min l Z a0 hw n0 _ 2 2) 0 rfl (by decide) (by decide) (by decide) (by decide) rfl rfl [.int 2, .int 2] rfl D99_10_69 ?_
  rintro _ _ ⟨rfl, rfl⟩
  rw [show (if (2 : Int32) < 2 then (2 : Int32) else 2) = 2 from by decide]
  change G k n0 _ h39 _ _ 72 [.val (.ref fa), .val (.ref sa), .val (.ref ta), .val (.int 2), .val (.ref a31), .val (.ref a38), .val (.int 1), .val (.int 0), .val (.int 1), .unset, .unset, .unset, .unset, .unset] [.int 2]
  refine G.istore K D99_10_72 ([.val (.ref fa), .val (.ref sa), .val (.ref ta), .val (.int 2), .val (.ref a31), .val (.ref a38), .val (.int 1), .val (.int 0), .val (.int 1), .val (.int 2), .unset, .unset, .unset, .unset]) rfl ?_
  refine G.iload K D99_10_74 rfl ?_
  refine G.istore K D99_10_76 ([.val (.ref fa), .val (.ref sa), .val (.ref ta), .val (.int 2), .val (.ref a31), .val (.ref a38), .val (.int 1), .val (.int 0), .val (.int 1), .val (.int 2), .val (.int 0), .unset, .unset, .unset]) rfl ?_
  refine G.iload K D99_10_78 rfl ?_
  refine G.istore K D99_10_80 ([.val (.ref fa), .val (.ref sa), .val (.ref ta), .val (.int 2), .val (.ref a31), .val (.ref a38), .val (.int 1), .val (.int 0), .val (.int 1), .val (.int 2), .val (.int 0), .val (.int 1), .unset, .unset]) rfl ?_
  have H42 : Hp n0 h39 ((a31, Ia Z [0, 1]) :: (a38, Ia Z [0, 0]) :: (fa, Ia Z (lst 4 (fun _ => 0))) :: (sa, Ia Z (lst 4 (sF ke))) :: (ta, Ia Z (lst 4 (tF ke))) :: σ) := H39.pull 1 rfl
  have H43 : Hp n0 h39 ((ta, Ia Z (lst 4 (tF ke))) :: (a31, Ia Z [0, 1]) :: (a38, Ia Z [0, 0]) :: (fa, Ia Z (lst 4 (fun _ => 0))) :: (sa, Ia Z (lst 4 (sF ke))) :: σ) := H42.pull 4 rfl
  have H44 : Hp n0 h39 ((sa, Ia Z (lst 4 (sF ke))) :: (ta, Ia Z (lst 4 (tF ke))) :: (a31, Ia Z [0, 1]) :: (a38, Ia Z [0, 0]) :: (fa, Ia Z (lst 4 (fun _ => 0))) :: σ) := H43.pull 4 rfl
  have H45 : Hp n0 h39 ((fa, Ia Z (lst 4 (fun _ => 0))) :: (sa, Ia Z (lst 4 (sF ke))) :: (ta, Ia Z (lst 4 (tF ke))) :: (a31, Ia Z [0, 1]) :: (a38, Ia Z [0, 0]) :: σ) := H44.pull 4 rfl
  have T46 : ∀ (x0 x1 : Nat) (l46 : Int32) (h46 : Heap), 0 ≤ x0 ∧ x0 ≤ 1 ∧ 0 ≤ x1 ∧ x1 ≤ 1 ∧ ¬ x0 = x1 ∧ ke x0 ≤ ke x1 → Hp n0 h46 ((fa, Ia Z (lst 4 (fun _ => 0))) :: (sa, Ia Z (lst 4 (sF ke))) :: (ta, Ia Z (lst 4 (tF ke))) :: (a31, Ia Z [0, 1]) :: (a38, Ia Z [Int32.ofNat x0, Int32.ofNat x1]) :: σ) → G k n0 (fun v h' => ∃ b : Addr, ∃ y0 y1 : Nat, v = some (.ref b) ∧ y0 < 2 ∧ y1 < 2 ∧ ¬ y0 = y1 ∧ ke y0 ≤ ke y1 ∧ Hp n0 h' ((b, Ia Z [Int32.ofNat y0, Int32.ofNat y1]) :: (fa, Ia Z (lst 4 (fun _ => 0))) :: (sa, Ia Z (lst 4 (sF ke))) :: (ta, Ia Z (lst 4 (tF ke))) :: σ)) h46 2 4 168 [.val (.ref fa), .val (.ref sa), .val (.ref ta), .val (.int 2), .val (.ref a31), .val (.ref a38), .val (.int 1), .val (.int 0), .val (.int 1), .val (.int 2), .val (.int 1), .val (.int 2), .val (.int 2), .val (.int l46)] [] := by
    intro x0 x1 l46 h46 c46 H46
    refine G.iload K D99_10_168 rfl ?_
    refine G.iconst K D99_10_170 2 rfl ?_
    refine G.iload K D99_10_171 rfl ?_
    refine G.imul K D99_10_173 ?_
    change G k n0 _ h46 _ _ 174 [.val (.ref fa), .val (.ref sa), .val (.ref ta), .val (.int 2), .val (.ref a31), .val (.ref a38), .val (.int 1), .val (.int 0), .val (.int 1), .val (.int 2), .val (.int 1), .val (.int 2), .val (.int 2), .val (.int l46)] [.int 2, .int 0]
    refine G.iadd K D99_10_174 ?_
    change G k n0 _ h46 _ _ 175 [.val (.ref fa), .val (.ref sa), .val (.ref ta), .val (.int 2), .val (.ref a31), .val (.ref a38), .val (.int 1), .val (.int 0), .val (.int 1), .val (.int 2), .val (.int 1), .val (.int 2), .val (.int 2), .val (.int l46)] [.int 2]
    refine G.istore K D99_10_175 ([.val (.ref fa), .val (.ref sa), .val (.ref ta), .val (.int 2), .val (.ref a31), .val (.ref a38), .val (.int 1), .val (.int 2), .val (.int 1), .val (.int 2), .val (.int 1), .val (.int 2), .val (.int 2), .val (.int l46)]) rfl ?_
    refine G.goto K D99_10_177 ?_
    refine G.iload K D99_10_44 rfl ?_
    refine G.iloadN K D99_10_46 rfl ?_
    refine G.icmp_ge K D99_10_47 (fun _ => ?_) (fun q => absurd q (by decide))
    refine G.aload K D99_10_180 rfl rfl ?_
    refine G.astore K D99_10_182 rfl ([.val (.ref fa), .val (.ref sa), .val (.ref ta), .val (.int 2), .val (.ref a31), .val (.ref a38), .val (.int 1), .val (.ref a31), .val (.int 1), .val (.int 2), .val (.int 1), .val (.int 2), .val (.int 2), .val (.int l46)]) rfl ?_
    refine G.aload K D99_10_184 rfl rfl ?_
    refine G.astore K D99_10_186 rfl ([.val (.ref fa), .val (.ref sa), .val (.ref ta), .val (.int 2), .val (.ref a38), .val (.ref a38), .val (.int 1), .val (.ref a31), .val (.int 1), .val (.int 2), .val (.int 1), .val (.int 2), .val (.int 2), .val (.int l46)]) rfl ?_
    refine G.aload K D99_10_188 rfl rfl ?_
    refine G.astore K D99_10_190 rfl ([.val (.ref fa), .val (.ref sa), .val (.ref ta), .val (.int 2), .val (.ref a38), .val (.ref a31), .val (.int 1), .val (.ref a31), .val (.int 1), .val (.int 2), .val (.int 1), .val (.int 2), .val (.int 2), .val (.int l46)]) rfl ?_
    refine G.iload K D99_10_192 rfl ?_
    refine G.iconst K D99_10_194 2 rfl ?_
    refine G.imul K D99_10_195 ?_
    change G k n0 _ h46 _ _ 196 [.val (.ref fa), .val (.ref sa), .val (.ref ta), .val (.int 2), .val (.ref a38), .val (.ref a31), .val (.int 1), .val (.ref a31), .val (.int 1), .val (.int 2), .val (.int 1), .val (.int 2), .val (.int 2), .val (.int l46)] [.int 2]
    refine G.istore K D99_10_196 ([.val (.ref fa), .val (.ref sa), .val (.ref ta), .val (.int 2), .val (.ref a38), .val (.ref a31), .val (.int 2), .val (.ref a31), .val (.int 1), .val (.int 2), .val (.int 1), .val (.int 2), .val (.int 2), .val (.int l46)]) rfl ?_
    refine G.goto K D99_10_198 ?_
    refine G.iload K D99_10_35 rfl ?_
    refine G.iloadN K D99_10_37 rfl ?_
    refine G.icmp_ge K D99_10_38 (fun _ => ?_) (fun q => absurd q (by decide))
    refine G.aload K D99_10_201 rfl rfl ?_
    refine G.ret_ref K rfl rfl D99_10_203 ?_
    have H49 : Hp n0 h46 ((ta, Ia Z (lst 4 (tF ke))) :: (fa, Ia Z (lst 4 (fun _ => 0))) :: (sa, Ia Z (lst 4 (sF ke))) :: (a31, Ia Z [0, 1]) :: (a38, Ia Z [Int32.ofNat x0, Int32.ofNat x1]) :: σ) := H46.pull 2 rfl
    have H50 : Hp n0 h46 ((sa, Ia Z (lst 4 (sF ke))) :: (ta, Ia Z (lst 4 (tF ke))) :: (fa, Ia Z (lst 4 (fun _ => 0))) :: (a31, Ia Z [0, 1]) :: (a38, Ia Z [Int32.ofNat x0, Int32.ofNat x1]) :: σ) := H49.pull 2 rfl
    have H51 : Hp n0 h46 ((fa, Ia Z (lst 4 (fun _ => 0))) :: (sa, Ia Z (lst 4 (sF ke))) :: (ta, Ia Z (lst 4 (tF ke))) :: (a31, Ia Z [0, 1]) :: (a38, Ia Z [Int32.ofNat x0, Int32.ofNat x1]) :: σ) := H50.pull 2 rfl
    have H52 : Hp n0 h46 ((a38, Ia Z [Int32.ofNat x0, Int32.ofNat x1]) :: (fa, Ia Z (lst 4 (fun _ => 0))) :: (sa, Ia Z (lst 4 (sF ke))) :: (ta, Ia Z (lst 4 (tF ke))) :: (a31, Ia Z [0, 1]) :: σ) := H51.pull 4 rfl
    have H53 : Hp n0 h46 ((a38, Ia Z [Int32.ofNat x0, Int32.ofNat x1]) :: (fa, Ia Z (lst 4 (fun _ => 0))) :: (sa, Ia Z (lst 4 (sF ke))) :: (ta, Ia Z (lst 4 (tF ke))) :: σ) := H52.sub (List.Sublist.cons_cons _ (List.Sublist.cons_cons _ (List.Sublist.cons_cons _ (List.Sublist.cons_cons _ (List.Sublist.cons _ (List.Sublist.refl _))))))
    exact ⟨a38, x0, x1, rfl, by omega, by omega, by omega, by omega, H53⟩
  refine G.iload K D99_10_82 rfl ?_
  refine G.istore K D99_10_84 ([.val (.ref fa), .val (.ref sa), .val (.ref ta), .val (.int 2), .val (.ref a31), .val (.ref a38), .val (.int 1), .val (.int 0), .val (.int 1), .val (.int 2), .val (.int 0), .val (.int 1), .val (.int 0), .unset]) rfl ?_
  refine G.iload K D99_10_86 rfl ?_
  refine G.iload K D99_10_88 rfl ?_
  refine G.icmp_ge K D99_10_90 (fun q => absurd q (by decide)) (fun _ => ?_)
  refine G.iload K D99_10_93 rfl ?_
  refine G.iload K D99_10_95 rfl ?_
  refine G.icmp_ge K D99_10_97 (fun q => absurd q (by decide)) (fun _ => ?_)
  refine G.iload K D99_10_100 rfl ?_
  refine G.iload K D99_10_102 rfl ?_
  refine G.icmp_ge K D99_10_104 (fun q => absurd q (by decide)) (fun _ => ?_)
  refine G.aloadN K D99_10_107 rfl rfl ?_
  refine G.aloadN K D99_10_108 rfl rfl ?_
  refine G.aloadN K D99_10_109 rfl rfl ?_
  refine G.aload K D99_10_110 rfl rfl ?_
  refine G.iload K D99_10_112 rfl ?_
  refine G.aload_i K H45 (i := 3) rfl (by decide) rfl D99_10_114 ?_
  refine G.aload K D99_10_115 rfl rfl ?_
  refine G.iload K D99_10_117 rfl ?_
  refine G.aload_i K H45 (i := 3) rfl (by decide) rfl D99_10_119 ?_
  have H57 : Hp n0 h39 ((ta, Ia Z (lst 4 (tF ke))) :: (fa, Ia Z (lst 4 (fun _ => 0))) :: (sa, Ia Z (lst 4 (sF ke))) :: (a31, Ia Z [0, 1]) :: (a38, Ia Z [0, 0]) :: σ) := H45.pull 2 rfl
  have H58 : Hp n0 h39 ((sa, Ia Z (lst 4 (sF ke))) :: (ta, Ia Z (lst 4 (tF ke))) :: (fa, Ia Z (lst 4 (fun _ => 0))) :: (a31, Ia Z [0, 1]) :: (a38, Ia Z [0, 0]) :: σ) := H57.pull 2 rfl
  have H59 : Hp n0 h39 ((fa, Ia Z (lst 4 (fun _ => 0))) :: (sa, Ia Z (lst 4 (sF ke))) :: (ta, Ia Z (lst 4 (tF ke))) :: (a31, Ia Z [0, 1]) :: (a38, Ia Z [0, 0]) :: σ) := H58.pull 2 rfl
  refine G.callS K hl (wd hw 45 rfl) (wd hw 46 rfl) (wd hw 3 rfl) (wd hw 47 rfl) (by decide) pd_1 (ct_cmp l Z a0 hw n0 h39 fa sa ta ke 0 1 ((a31, Ia Z [0, 1]) :: (a38, Ia Z [0, 0]) :: σ) hK (by omega) (by omega) H59) 0 rfl (by decide) (by decide) (by decide) (by decide) rfl rfl [.int 1, .int 0, .ref ta, .ref sa, .ref fa] rfl D99_10_120 ?_
  rintro _ _ ⟨z60, rfl, hz60, rfl⟩
  change G k n0 _ h39 _ _ 123 [.val (.ref fa), .val (.ref sa), .val (.ref ta), .val (.int 2), .val (.ref a31), .val (.ref a38), .val (.int 1), .val (.int 0), .val (.int 1), .val (.int 2), .val (.int 0), .val (.int 1), .val (.int 0), .unset] [.int z60]
  refine G.if_gt K D99_10_123 (fun q61 => ?_) (fun q61 => ?_)
  · have e62 : ke 1 < ke 0 := hz60.mp q61
    refine G.iconst K D99_10_130 0 rfl ?_
    refine G.istore K D99_10_131 ([.val (.ref fa), .val (.ref sa), .val (.ref ta), .val (.int 2), .val (.ref a31), .val (.ref a38), .val (.int 1), .val (.int 0), .val (.int 1), .val (.int 2), .val (.int 0), .val (.int 1), .val (.int 0), .val (.int 0)]) rfl ?_
    refine G.aload K D99_10_133 rfl rfl ?_
    refine G.iload K D99_10_135 rfl ?_
    refine G.iload K D99_10_137 rfl ?_
    refine G.if_eq K D99_10_139 (fun _ => ?_) (fun q => absurd q (by decide))
    refine G.aload K D99_10_153 rfl rfl ?_
    refine G.iload K D99_10_155 rfl ?_
    refine G.iinc K D99_10_157 1 rfl rfl ([.val (.ref fa), .val (.ref sa), .val (.ref ta), .val (.int 2), .val (.ref a31), .val (.ref a38), .val (.int 1), .val (.int 0), .val (.int 1), .val (.int 2), .val (.int 0), .val (.int (1 + 1)), .val (.int 0), .val (.int 0)]) rfl ?_
    change G k n0 _ h39 _ _ 160 [.val (.ref fa), .val (.ref sa), .val (.ref ta), .val (.int 2), .val (.ref a31), .val (.ref a38), .val (.int 1), .val (.int 0), .val (.int 1), .val (.int 2), .val (.int 0), .val (.int 2), .val (.int 0), .val (.int 0)] [.int 1, .ref a31, .int 0, .ref a38]
    refine G.aload_i K H59 (i := 3) rfl (by decide) rfl D99_10_160 ?_
    refine G.astore_i K H59 (i := 4) rfl (by decide) (Nat.le_of_ble_eq_true rfl) D99_10_161 ?_
    intro h64 H64
    change Hp n0 h64 ((fa, Ia Z (lst 4 (fun _ => 0))) :: (sa, Ia Z (lst 4 (sF ke))) :: (ta, Ia Z (lst 4 (tF ke))) :: (a31, Ia Z [0, 1]) :: (a38, Ia Z [1, 0]) :: σ) at H64
    refine G.iinc K D99_10_162 1 rfl rfl ([.val (.ref fa), .val (.ref sa), .val (.ref ta), .val (.int 2), .val (.ref a31), .val (.ref a38), .val (.int 1), .val (.int 0), .val (.int 1), .val (.int 2), .val (.int 0), .val (.int 2), .val (.int (0 + 1)), .val (.int 0)]) rfl ?_
    change G k n0 _ h64 _ _ 165 [.val (.ref fa), .val (.ref sa), .val (.ref ta), .val (.int 2), .val (.ref a31), .val (.ref a38), .val (.int 1), .val (.int 0), .val (.int 1), .val (.int 2), .val (.int 0), .val (.int 2), .val (.int 1), .val (.int 0)] []
    refine G.goto K D99_10_165 ?_
    refine G.iload K D99_10_86 rfl ?_
    refine G.iload K D99_10_88 rfl ?_
    refine G.icmp_ge K D99_10_90 (fun q => absurd q (by decide)) (fun _ => ?_)
    refine G.iload K D99_10_93 rfl ?_
    refine G.iload K D99_10_95 rfl ?_
    refine G.icmp_ge K D99_10_97 (fun _ => ?_) (fun q => absurd q (by decide))
    refine G.iconst K D99_10_126 1 rfl ?_
    refine G.goto K D99_10_127 ?_
    refine G.istore K D99_10_131 ([.val (.ref fa), .val (.ref sa), .val (.ref ta), .val (.int 2), .val (.ref a31), .val (.ref a38), .val (.int 1), .val (.int 0), .val (.int 1), .val (.int 2), .val (.int 0), .val (.int 2), .val (.int 1), .val (.int 1)]) rfl ?_
    refine G.aload K D99_10_133 rfl rfl ?_
    refine G.iload K D99_10_135 rfl ?_
    refine G.iload K D99_10_137 rfl ?_
    refine G.if_eq K D99_10_139 (fun q => absurd q (by decide)) (fun _ => ?_)
    refine G.aload K D99_10_142 rfl rfl ?_
    refine G.iload K D99_10_144 rfl ?_
    refine G.iinc K D99_10_146 1 rfl rfl ([.val (.ref fa), .val (.ref sa), .val (.ref ta), .val (.int 2), .val (.ref a31), .val (.ref a38), .val (.int 1), .val (.int 0), .val (.int 1), .val (.int 2), .val (.int (0 + 1)), .val (.int 2), .val (.int 1), .val (.int 1)]) rfl ?_
    change G k n0 _ h64 _ _ 149 [.val (.ref fa), .val (.ref sa), .val (.ref ta), .val (.int 2), .val (.ref a31), .val (.ref a38), .val (.int 1), .val (.int 0), .val (.int 1), .val (.int 2), .val (.int 1), .val (.int 2), .val (.int 1), .val (.int 1)] [.int 0, .ref a31, .int 1, .ref a38]
    refine G.aload_i K H64 (i := 3) rfl (by decide) rfl D99_10_149 ?_
    refine G.goto K D99_10_150 ?_
    refine G.astore_i K H64 (i := 4) rfl (by decide) (Nat.le_of_ble_eq_true rfl) D99_10_161 ?_
    intro h68 H68
    change Hp n0 h68 ((fa, Ia Z (lst 4 (fun _ => 0))) :: (sa, Ia Z (lst 4 (sF ke))) :: (ta, Ia Z (lst 4 (tF ke))) :: (a31, Ia Z [0, 1]) :: (a38, Ia Z [1, 0]) :: σ) at H68
    refine G.iinc K D99_10_162 1 rfl rfl ([.val (.ref fa), .val (.ref sa), .val (.ref ta), .val (.int 2), .val (.ref a31), .val (.ref a38), .val (.int 1), .val (.int 0), .val (.int 1), .val (.int 2), .val (.int 1), .val (.int 2), .val (.int (1 + 1)), .val (.int 1)]) rfl ?_
    change G k n0 _ h68 _ _ 165 [.val (.ref fa), .val (.ref sa), .val (.ref ta), .val (.int 2), .val (.ref a31), .val (.ref a38), .val (.int 1), .val (.int 0), .val (.int 1), .val (.int 2), .val (.int 1), .val (.int 2), .val (.int 2), .val (.int 1)] []
    refine G.goto K D99_10_165 ?_
    refine G.iload K D99_10_86 rfl ?_
    refine G.iload K D99_10_88 rfl ?_
    refine G.icmp_ge K D99_10_90 (fun _ => ?_) (fun q => absurd q (by decide))
    have H70 : Hp n0 h68 ((a38, Ia Z [1, 0]) :: (fa, Ia Z (lst 4 (fun _ => 0))) :: (sa, Ia Z (lst 4 (sF ke))) :: (ta, Ia Z (lst 4 (tF ke))) :: (a31, Ia Z [0, 1]) :: σ) := H68.pull 4 rfl
    have H71 : Hp n0 h68 ((a31, Ia Z [0, 1]) :: (a38, Ia Z [1, 0]) :: (fa, Ia Z (lst 4 (fun _ => 0))) :: (sa, Ia Z (lst 4 (sF ke))) :: (ta, Ia Z (lst 4 (tF ke))) :: σ) := H70.pull 4 rfl
    have H72 : Hp n0 h68 ((ta, Ia Z (lst 4 (tF ke))) :: (a31, Ia Z [0, 1]) :: (a38, Ia Z [1, 0]) :: (fa, Ia Z (lst 4 (fun _ => 0))) :: (sa, Ia Z (lst 4 (sF ke))) :: σ) := H71.pull 4 rfl
    have H73 : Hp n0 h68 ((sa, Ia Z (lst 4 (sF ke))) :: (ta, Ia Z (lst 4 (tF ke))) :: (a31, Ia Z [0, 1]) :: (a38, Ia Z [1, 0]) :: (fa, Ia Z (lst 4 (fun _ => 0))) :: σ) := H72.pull 4 rfl
    have H74 : Hp n0 h68 ((fa, Ia Z (lst 4 (fun _ => 0))) :: (sa, Ia Z (lst 4 (sF ke))) :: (ta, Ia Z (lst 4 (tF ke))) :: (a31, Ia Z [0, 1]) :: (a38, Ia Z [1, 0]) :: σ) := H73.pull 4 rfl
    exact T46 1 0 _ _ (by omega) H74
  · have e75 : ke 0 ≤ ke 1 := Nat.le_of_not_lt fun y => q61 (hz60.mpr y)
    refine G.iconst K D99_10_126 1 rfl ?_
    refine G.goto K D99_10_127 ?_
    refine G.istore K D99_10_131 ([.val (.ref fa), .val (.ref sa), .val (.ref ta), .val (.int 2), .val (.ref a31), .val (.ref a38), .val (.int 1), .val (.int 0), .val (.int 1), .val (.int 2), .val (.int 0), .val (.int 1), .val (.int 0), .val (.int 1)]) rfl ?_
    refine G.aload K D99_10_133 rfl rfl ?_
    refine G.iload K D99_10_135 rfl ?_
    refine G.iload K D99_10_137 rfl ?_
    refine G.if_eq K D99_10_139 (fun q => absurd q (by decide)) (fun _ => ?_)
    refine G.aload K D99_10_142 rfl rfl ?_
    refine G.iload K D99_10_144 rfl ?_
    refine G.iinc K D99_10_146 1 rfl rfl ([.val (.ref fa), .val (.ref sa), .val (.ref ta), .val (.int 2), .val (.ref a31), .val (.ref a38), .val (.int 1), .val (.int 0), .val (.int 1), .val (.int 2), .val (.int (0 + 1)), .val (.int 1), .val (.int 0), .val (.int 1)]) rfl ?_
    change G k n0 _ h39 _ _ 149 [.val (.ref fa), .val (.ref sa), .val (.ref ta), .val (.int 2), .val (.ref a31), .val (.ref a38), .val (.int 1), .val (.int 0), .val (.int 1), .val (.int 2), .val (.int 1), .val (.int 1), .val (.int 0), .val (.int 1)] [.int 0, .ref a31, .int 0, .ref a38]
    refine G.aload_i K H59 (i := 3) rfl (by decide) rfl D99_10_149 ?_
    refine G.goto K D99_10_150 ?_
    refine G.astore_i K H59 (i := 4) rfl (by decide) (Nat.le_of_ble_eq_true rfl) D99_10_161 ?_
    intro h77 H77
    change Hp n0 h77 ((fa, Ia Z (lst 4 (fun _ => 0))) :: (sa, Ia Z (lst 4 (sF ke))) :: (ta, Ia Z (lst 4 (tF ke))) :: (a31, Ia Z [0, 1]) :: (a38, Ia Z [0, 0]) :: σ) at H77
    refine G.iinc K D99_10_162 1 rfl rfl ([.val (.ref fa), .val (.ref sa), .val (.ref ta), .val (.int 2), .val (.ref a31), .val (.ref a38), .val (.int 1), .val (.int 0), .val (.int 1), .val (.int 2), .val (.int 1), .val (.int 1), .val (.int (0 + 1)), .val (.int 1)]) rfl ?_
    change G k n0 _ h77 _ _ 165 [.val (.ref fa), .val (.ref sa), .val (.ref ta), .val (.int 2), .val (.ref a31), .val (.ref a38), .val (.int 1), .val (.int 0), .val (.int 1), .val (.int 2), .val (.int 1), .val (.int 1), .val (.int 1), .val (.int 1)] []
    refine G.goto K D99_10_165 ?_
    refine G.iload K D99_10_86 rfl ?_
    refine G.iload K D99_10_88 rfl ?_
    refine G.icmp_ge K D99_10_90 (fun q => absurd q (by decide)) (fun _ => ?_)
    refine G.iload K D99_10_93 rfl ?_
    refine G.iload K D99_10_95 rfl ?_
    refine G.icmp_ge K D99_10_97 (fun q => absurd q (by decide)) (fun _ => ?_)
    refine G.iload K D99_10_100 rfl ?_
    refine G.iload K D99_10_102 rfl ?_
    refine G.icmp_ge K D99_10_104 (fun _ => ?_) (fun q => absurd q (by decide))
    refine G.iconst K D99_10_130 0 rfl ?_
    refine G.istore K D99_10_131 ([.val (.ref fa), .val (.ref sa), .val (.ref ta), .val (.int 2), .val (.ref a31), .val (.ref a38), .val (.int 1), .val (.int 0), .val (.int 1), .val (.int 2), .val (.int 1), .val (.int 1), .val (.int 1), .val (.int 0)]) rfl ?_
    refine G.aload K D99_10_133 rfl rfl ?_
    refine G.iload K D99_10_135 rfl ?_
    refine G.iload K D99_10_137 rfl ?_
    refine G.if_eq K D99_10_139 (fun _ => ?_) (fun q => absurd q (by decide))
    refine G.aload K D99_10_153 rfl rfl ?_
    refine G.iload K D99_10_155 rfl ?_
    refine G.iinc K D99_10_157 1 rfl rfl ([.val (.ref fa), .val (.ref sa), .val (.ref ta), .val (.int 2), .val (.ref a31), .val (.ref a38), .val (.int 1), .val (.int 0), .val (.int 1), .val (.int 2), .val (.int 1), .val (.int (1 + 1)), .val (.int 1), .val (.int 0)]) rfl ?_
    change G k n0 _ h77 _ _ 160 [.val (.ref fa), .val (.ref sa), .val (.ref ta), .val (.int 2), .val (.ref a31), .val (.ref a38), .val (.int 1), .val (.int 0), .val (.int 1), .val (.int 2), .val (.int 1), .val (.int 2), .val (.int 1), .val (.int 0)] [.int 1, .ref a31, .int 1, .ref a38]
    refine G.aload_i K H77 (i := 3) rfl (by decide) rfl D99_10_160 ?_
    refine G.astore_i K H77 (i := 4) rfl (by decide) (Nat.le_of_ble_eq_true rfl) D99_10_161 ?_
    intro h82 H82
    change Hp n0 h82 ((fa, Ia Z (lst 4 (fun _ => 0))) :: (sa, Ia Z (lst 4 (sF ke))) :: (ta, Ia Z (lst 4 (tF ke))) :: (a31, Ia Z [0, 1]) :: (a38, Ia Z [0, 1]) :: σ) at H82
    refine G.iinc K D99_10_162 1 rfl rfl ([.val (.ref fa), .val (.ref sa), .val (.ref ta), .val (.int 2), .val (.ref a31), .val (.ref a38), .val (.int 1), .val (.int 0), .val (.int 1), .val (.int 2), .val (.int 1), .val (.int 2), .val (.int (1 + 1)), .val (.int 0)]) rfl ?_
    change G k n0 _ h82 _ _ 165 [.val (.ref fa), .val (.ref sa), .val (.ref ta), .val (.int 2), .val (.ref a31), .val (.ref a38), .val (.int 1), .val (.int 0), .val (.int 1), .val (.int 2), .val (.int 1), .val (.int 2), .val (.int 2), .val (.int 0)] []
    refine G.goto K D99_10_165 ?_
    refine G.iload K D99_10_86 rfl ?_
    refine G.iload K D99_10_88 rfl ?_
    refine G.icmp_ge K D99_10_90 (fun _ => ?_) (fun q => absurd q (by decide))
    have H84 : Hp n0 h82 ((a38, Ia Z [0, 1]) :: (fa, Ia Z (lst 4 (fun _ => 0))) :: (sa, Ia Z (lst 4 (sF ke))) :: (ta, Ia Z (lst 4 (tF ke))) :: (a31, Ia Z [0, 1]) :: σ) := H82.pull 4 rfl
    have H85 : Hp n0 h82 ((a31, Ia Z [0, 1]) :: (a38, Ia Z [0, 1]) :: (fa, Ia Z (lst 4 (fun _ => 0))) :: (sa, Ia Z (lst 4 (sF ke))) :: (ta, Ia Z (lst 4 (tF ke))) :: σ) := H84.pull 4 rfl
    have H86 : Hp n0 h82 ((ta, Ia Z (lst 4 (tF ke))) :: (a31, Ia Z [0, 1]) :: (a38, Ia Z [0, 1]) :: (fa, Ia Z (lst 4 (fun _ => 0))) :: (sa, Ia Z (lst 4 (sF ke))) :: σ) := H85.pull 4 rfl
    have H87 : Hp n0 h82 ((sa, Ia Z (lst 4 (sF ke))) :: (ta, Ia Z (lst 4 (tF ke))) :: (a31, Ia Z [0, 1]) :: (a38, Ia Z [0, 1]) :: (fa, Ia Z (lst 4 (fun _ => 0))) :: σ) := H86.pull 4 rfl
    have H88 : Hp n0 h82 ((fa, Ia Z (lst 4 (fun _ => 0))) :: (sa, Ia Z (lst 4 (sF ke))) :: (ta, Ia Z (lst 4 (tF ke))) :: (a31, Ia Z [0, 1]) :: (a38, Ia Z [0, 1]) :: σ) := H87.pull 4 rfl
    exact T46 0 1 _ _ (by omega) H88
set_option maxRecDepth 65536 in
set_option maxHeartbeats 40000000 in
theorem ct_sort3 (l : Launch) (Z : State) (a0 : Array Value) (hw : ∀ d ∈ tables_1, d.before a0 Z = true) (n0 : Nat) (h : Heap) (fa sa ta : Addr) (ke : Nat → Nat) (σ : List Ch) (hK : ∀ i, ke i < 256) (H : Hp n0 h ((fa, Ia Z (lst 4 (fun _ => 0))) :: (sa, Ia Z (lst 4 (sF ke))) :: (ta, Ia Z (lst 4 (tF ke))) :: σ)) :
    Ct l Z n0 (⟨"com/example/rankwise/rankwise/store/TripleIndex", "sortedOrder", "([I[I[II)[I"⟩ : MethodName) prog_99_method_10_code 14 (some (.array .int)) ({ frames := 2, cells := 2, slots := 6, locals := 31 } : Room) [.ref fa, .ref sa, .ref ta, .int 3] h (fun v h' => ∃ b : Addr, ∃ y0 y1 y2 : Nat, v = some (.ref b) ∧ y0 < 3 ∧ y1 < 3 ∧ y2 < 3 ∧ ¬ y0 = y1 ∧ ¬ y0 = y2 ∧ ¬ y1 = y2 ∧ ke y0 ≤ ke y1 ∧ ke y1 ≤ ke y2 ∧ Hp n0 h' ((b, Ia Z [Int32.ofNat y0, Int32.ofNat y1, Int32.ofNat y2]) :: (fa, Ia Z (lst 4 (fun _ => 0))) :: (sa, Ia Z (lst 4 (sF ke))) :: (ta, Ia Z (lst 4 (tF ke))) :: σ)) := by
  refine Ct.intro (plainFor_of_name pn_0) [.val (.ref fa), .val (.ref sa), .val (.ref ta), .val (.int 3), .unset, .unset, .unset, .unset, .unset, .unset, .unset, .unset, .unset, .unset] (fun m => by first | (simp [entryFrame, mkF, argsToLocals, Value.category]; done) | (simp [entryFrame, mkF, argsToLocals, Value.category, maxLocals]; done) | rfl) ?_
  intro k hl K
  replace K : Ok k Z n0 "com/example/rankwise/rankwise/store/TripleIndex" ({ frames := 2, cells := 2, slots := 6, locals := 31 } : Room) prog_99_method_10_code 14 (some (.array .int)) "sortedOrder" := K
  refine G.iloadN K D99_10_0 rfl ?_
  refine G.newarr_i K (wd hw 0 rfl) H (by decide) 3 (by decide) (by decide) (by decide) (by decide) D99_10_1 ?_
  intro a89 h90 H90
  change Hp n0 h90 ((a89, Ia Z [0, 0, 0]) :: (fa, Ia Z (lst 4 (fun _ => 0))) :: (sa, Ia Z (lst 4 (sF ke))) :: (ta, Ia Z (lst 4 (tF ke))) :: σ) at H90
  refine G.astore K D99_10_3 rfl ([.val (.ref fa), .val (.ref sa), .val (.ref ta), .val (.int 3), .val (.ref a89), .unset, .unset, .unset, .unset, .unset, .unset, .unset, .unset, .unset]) rfl ?_
  refine G.iconst K D99_10_5 0 rfl ?_
  refine G.istore K D99_10_6 ([.val (.ref fa), .val (.ref sa), .val (.ref ta), .val (.int 3), .val (.ref a89), .val (.int 0), .unset, .unset, .unset, .unset, .unset, .unset, .unset, .unset]) rfl ?_
  refine G.iload K D99_10_8 rfl ?_
  refine G.iloadN K D99_10_10 rfl ?_
  refine G.icmp_ge K D99_10_11 (fun q => absurd q (by decide)) (fun _ => ?_)
  refine G.aload K D99_10_14 rfl rfl ?_
  refine G.iload K D99_10_16 rfl ?_
  refine G.iload K D99_10_18 rfl ?_
  refine G.astore_i K H90 (i := 0) rfl (by decide) (Nat.le_of_ble_eq_true rfl) D99_10_20 ?_
  intro h92 H92
  change Hp n0 h92 ((a89, Ia Z [0, 0, 0]) :: (fa, Ia Z (lst 4 (fun _ => 0))) :: (sa, Ia Z (lst 4 (sF ke))) :: (ta, Ia Z (lst 4 (tF ke))) :: σ) at H92
  refine G.iinc K D99_10_21 1 rfl rfl ([.val (.ref fa), .val (.ref sa), .val (.ref ta), .val (.int 3), .val (.ref a89), .val (.int (0 + 1)), .unset, .unset, .unset, .unset, .unset, .unset, .unset, .unset]) rfl ?_
  change G k n0 _ h92 _ _ 24 [.val (.ref fa), .val (.ref sa), .val (.ref ta), .val (.int 3), .val (.ref a89), .val (.int 1), .unset, .unset, .unset, .unset, .unset, .unset, .unset, .unset] []
  refine G.goto K D99_10_24 ?_
  refine G.iload K D99_10_8 rfl ?_
  refine G.iloadN K D99_10_10 rfl ?_
  refine G.icmp_ge K D99_10_11 (fun q => absurd q (by decide)) (fun _ => ?_)
  refine G.aload K D99_10_14 rfl rfl ?_
  refine G.iload K D99_10_16 rfl ?_
  refine G.iload K D99_10_18 rfl ?_
  refine G.astore_i K H92 (i := 0) rfl (by decide) (Nat.le_of_ble_eq_true rfl) D99_10_20 ?_
  intro h94 H94
  change Hp n0 h94 ((a89, Ia Z [0, 1, 0]) :: (fa, Ia Z (lst 4 (fun _ => 0))) :: (sa, Ia Z (lst 4 (sF ke))) :: (ta, Ia Z (lst 4 (tF ke))) :: σ) at H94
  refine G.iinc K D99_10_21 1 rfl rfl ([.val (.ref fa), .val (.ref sa), .val (.ref ta), .val (.int 3), .val (.ref a89), .val (.int (1 + 1)), .unset, .unset, .unset, .unset, .unset, .unset, .unset, .unset]) rfl ?_
  change G k n0 _ h94 _ _ 24 [.val (.ref fa), .val (.ref sa), .val (.ref ta), .val (.int 3), .val (.ref a89), .val (.int 2), .unset, .unset, .unset, .unset, .unset, .unset, .unset, .unset] []
  refine G.goto K D99_10_24 ?_
  refine G.iload K D99_10_8 rfl ?_
  refine G.iloadN K D99_10_10 rfl ?_
  refine G.icmp_ge K D99_10_11 (fun q => absurd q (by decide)) (fun _ => ?_)
  refine G.aload K D99_10_14 rfl rfl ?_
  refine G.iload K D99_10_16 rfl ?_
  refine G.iload K D99_10_18 rfl ?_
  refine G.astore_i K H94 (i := 0) rfl (by decide) (Nat.le_of_ble_eq_true rfl) D99_10_20 ?_
  intro h96 H96
  change Hp n0 h96 ((a89, Ia Z [0, 1, 2]) :: (fa, Ia Z (lst 4 (fun _ => 0))) :: (sa, Ia Z (lst 4 (sF ke))) :: (ta, Ia Z (lst 4 (tF ke))) :: σ) at H96
  refine G.iinc K D99_10_21 1 rfl rfl ([.val (.ref fa), .val (.ref sa), .val (.ref ta), .val (.int 3), .val (.ref a89), .val (.int (2 + 1)), .unset, .unset, .unset, .unset, .unset, .unset, .unset, .unset]) rfl ?_
  change G k n0 _ h96 _ _ 24 [.val (.ref fa), .val (.ref sa), .val (.ref ta), .val (.int 3), .val (.ref a89), .val (.int 3), .unset, .unset, .unset, .unset, .unset, .unset, .unset, .unset] []
  refine G.goto K D99_10_24 ?_
  refine G.iload K D99_10_8 rfl ?_
  refine G.iloadN K D99_10_10 rfl ?_
  refine G.icmp_ge K D99_10_11 (fun _ => ?_) (fun q => absurd q (by decide))
  refine G.iloadN K D99_10_27 rfl ?_
  refine G.newarr_i K (wd hw 0 rfl) H96 (by decide) 3 (by decide) (by decide) (by decide) (by decide) D99_10_28 ?_
  intro a98 h99 H99
  change Hp n0 h99 ((a98, Ia Z [0, 0, 0]) :: (a89, Ia Z [0, 1, 2]) :: (fa, Ia Z (lst 4 (fun _ => 0))) :: (sa, Ia Z (lst 4 (sF ke))) :: (ta, Ia Z (lst 4 (tF ke))) :: σ) at H99
  refine G.astore K D99_10_30 rfl ([.val (.ref fa), .val (.ref sa), .val (.ref ta), .val (.int 3), .val (.ref a89), .val (.ref a98), .unset, .unset, .unset, .unset, .unset, .unset, .unset, .unset]) rfl ?_
  refine G.iconst K D99_10_32 1 rfl ?_
  refine G.istore K D99_10_33 ([.val (.ref fa), .val (.ref sa), .val (.ref ta), .val (.int 3), .val (.ref a89), .val (.ref a98), .val (.int 1), .unset, .unset, .unset, .unset, .unset, .unset, .unset]) rfl ?_
  refine G.iload K D99_10_35 rfl ?_
  refine G.iloadN K D99_10_37 rfl ?_
  refine G.icmp_ge K D99_10_38 (fun q => absurd q (by decide)) (fun _ => ?_)
  refine G.iconst K D99_10_41 0 rfl ?_
  refine G.istore K D99_10_42 ([.val (.ref fa), .val (.ref sa), .val (.ref ta), .val (.int 3), .val (.ref a89), .val (.ref a98), .val (.int 1), .val (.int 0), .unset, .unset, .unset, .unset, .unset, .unset]) rfl ?_
  refine G.iload K D99_10_44 rfl ?_
  refine G.iloadN K D99_10_46 rfl ?_
  refine G.icmp_ge K D99_10_47 (fun q => absurd q (by decide)) (fun _ => ?_)
  refine G.iload K D99_10_50 rfl ?_
  refine G.iload K D99_10_52 rfl ?_
  refine G.iadd K D99_10_54 ?_
  change G k n0 _ h99 _ _ 55 [.val (.ref fa), .val (.ref sa), .val (.ref ta), .val (.int 3), .val (.ref a89), .val (.ref a98), .val (.int 1), .val (.int 0), .unset, .unset, .unset, .unset, .unset, .unset] [.int 1]
  refine G.iloadN K D99_10_55 rfl ?_
  refine G.callS K hl (wd hw 44 rfl) (wd hw 33 rfl) (wd hw 34 rfl) (wd hw 35 rfl) (by decide) pd_0 (ct_min l Z a0 hw n0 _ 1 3) 0 rfl (by decide) (by decide) (by decide) (by decide) rfl rfl [.int 3, .int 1] rfl D99_10_56 ?_
  rintro _ _ ⟨rfl, rfl⟩
  rw [show (if (3 : Int32) < 1 then (3 : Int32) else 1) = 1 from by decide]
  change G k n0 _ h99 _ _ 59 [.val (.ref fa), .val (.ref sa), .val (.ref ta), .val (.int 3), .val (.ref a89), .val (.ref a98), .val (.int 1), .val (.int 0), .unset, .unset, .unset, .unset, .unset, .unset] [.int 1]
  refine G.istore K D99_10_59 ([.val (.ref fa), .val (.ref sa), .val (.ref ta), .val (.int 3), .val (.ref a89), .val (.ref a98), .val (.int 1), .val (.int 0), .val (.int 1), .unset, .unset, .unset, .unset, .unset]) rfl ?_
  refine G.iload K D99_10_61 rfl ?_
  refine G.iconst K D99_10_63 2 rfl ?_
  refine G.iload K D99_10_64 rfl ?_
  refine G.imul K D99_10_66 ?_
  change G k n0 _ h99 _ _ 67 [.val (.ref fa), .val (.ref sa), .val (.ref ta), .val (.int 3), .val (.ref a89), .val (.ref a98), .val (.int 1), .val (.int 0), .val (.int 1), .unset, .unset, .unset, .unset, .unset] [.int 2, .int 0]
  refine G.iadd K D99_10_67 ?_
  change G k n0 _ h99 _ _ 68 [.val (.ref fa), .val (.ref sa), .val (.ref ta), .val (.int 3), .val (.ref a89), .val (.ref a98), .val (.int 1), .val (.int 0), .val (.int 1), .unset, .unset, .unset, .unset, .unset] [.int 2]
  refine G.iloadN K D99_10_68 rfl ?_
  refine G.callS K hl (wd hw 44 rfl) (wd hw 33 rfl) (wd hw 34 rfl) (wd hw 35 rfl) (by decide) pd_0 (ct_min l Z a0 hw n0 _ 2 3) 0 rfl (by decide) (by decide) (by decide) (by decide) rfl rfl [.int 3, .int 2] rfl D99_10_69 ?_
  rintro _ _ ⟨rfl, rfl⟩
  rw [show (if (3 : Int32) < 2 then (3 : Int32) else 2) = 2 from by decide]
  change G k n0 _ h99 _ _ 72 [.val (.ref fa), .val (.ref sa), .val (.ref ta), .val (.int 3), .val (.ref a89), .val (.ref a98), .val (.int 1), .val (.int 0), .val (.int 1), .unset, .unset, .unset, .unset, .unset] [.int 2]
  refine G.istore K D99_10_72 ([.val (.ref fa), .val (.ref sa), .val (.ref ta), .val (.int 3), .val (.ref a89), .val (.ref a98), .val (.int 1), .val (.int 0), .val (.int 1), .val (.int 2), .unset, .unset, .unset, .unset]) rfl ?_
  refine G.iload K D99_10_74 rfl ?_
  refine G.istore K D99_10_76 ([.val (.ref fa), .val (.ref sa), .val (.ref ta), .val (.int 3), .val (.ref a89), .val (.ref a98), .val (.int 1), .val (.int 0), .val (.int 1), .val (.int 2), .val (.int 0), .unset, .unset, .unset]) rfl ?_
  refine G.iload K D99_10_78 rfl ?_
  refine G.istore K D99_10_80 ([.val (.ref fa), .val (.ref sa), .val (.ref ta), .val (.int 3), .val (.ref a89), .val (.ref a98), .val (.int 1), .val (.int 0), .val (.int 1), .val (.int 2), .val (.int 0), .val (.int 1), .unset, .unset]) rfl ?_
  have H102 : Hp n0 h99 ((a89, Ia Z [0, 1, 2]) :: (a98, Ia Z [0, 0, 0]) :: (fa, Ia Z (lst 4 (fun _ => 0))) :: (sa, Ia Z (lst 4 (sF ke))) :: (ta, Ia Z (lst 4 (tF ke))) :: σ) := H99.pull 1 rfl
  have H103 : Hp n0 h99 ((ta, Ia Z (lst 4 (tF ke))) :: (a89, Ia Z [0, 1, 2]) :: (a98, Ia Z [0, 0, 0]) :: (fa, Ia Z (lst 4 (fun _ => 0))) :: (sa, Ia Z (lst 4 (sF ke))) :: σ) := H102.pull 4 rfl
  have H104 : Hp n0 h99 ((sa, Ia Z (lst 4 (sF ke))) :: (ta, Ia Z (lst 4 (tF ke))) :: (a89, Ia Z [0, 1, 2]) :: (a98, Ia Z [0, 0, 0]) :: (fa, Ia Z (lst 4 (fun _ => 0))) :: σ) := H103.pull 4 rfl
  have H105 : Hp n0 h99 ((fa, Ia Z (lst 4 (fun _ => 0))) :: (sa, Ia Z (lst 4 (sF ke))) :: (ta, Ia Z (lst 4 (tF ke))) :: (a89, Ia Z [0, 1, 2]) :: (a98, Ia Z [0, 0, 0]) :: σ) := H104.pull 4 rfl
  have T106 : ∀ (x0 x1 : Nat) (l106 : Int32) (h106 : Heap), 0 ≤ x0 ∧ x0 ≤ 1 ∧ 0 ≤ x1 ∧ x1 ≤ 1 ∧ ¬ x0 = x1 ∧ ke x0 ≤ ke x1 → Hp n0 h106 ((fa, Ia Z (lst 4 (fun _ => 0))) :: (sa, Ia Z (lst 4 (sF ke))) :: (ta, Ia Z (lst 4 (tF ke))) :: (a89, Ia Z [0, 1, 2]) :: (a98, Ia Z [Int32.ofNat x0, Int32.ofNat x1, 0]) :: σ) → G k n0 (fun v h' => ∃ b : Addr, ∃ y0 y1 y2 : Nat, v = some (.ref b) ∧ y0 < 3 ∧ y1 < 3 ∧ y2 < 3 ∧ ¬ y0 = y1 ∧ ¬ y0 = y2 ∧ ¬ y1 = y2 ∧ ke y0 ≤ ke y1 ∧ ke y1 ≤ ke y2 ∧ Hp n0 h' ((b, Ia Z [Int32.ofNat y0, Int32.ofNat y1, Int32.ofNat y2]) :: (fa, Ia Z (lst 4 (fun _ => 0))) :: (sa, Ia Z (lst 4 (sF ke))) :: (ta, Ia Z (lst 4 (tF ke))) :: σ)) h106 2 6 168 [.val (.ref fa), .val (.ref sa), .val (.ref ta), .val (.int 3), .val (.ref a89), .val (.ref a98), .val (.int 1), .val (.int 0), .val (.int 1), .val (.int 2), .val (.int 1), .val (.int 2), .val (.int 2), .val (.int l106)] [] := by
    intro x0 x1 l106 h106 c106 H106
    refine G.iload K D99_10_168 rfl ?_
    refine G.iconst K D99_10_170 2 rfl ?_
    refine G.iload K D99_10_171 rfl ?_
    refine G.imul K D99_10_173 ?_
    change G k n0 _ h106 _ _ 174 [.val (.ref fa), .val (.ref sa), .val (.ref ta), .val (.int 3), .val (.ref a89), .val (.ref a98), .val (.int 1), .val (.int 0), .val (.int 1), .val (.int 2), .val (.int 1), .val (.int 2), .val (.int 2), .val (.int l106)] [.int 2, .int 0]
    refine G.iadd K D99_10_174 ?_
    change G k n0 _ h106 _ _ 175 [.val (.ref fa), .val (.ref sa), .val (.ref ta), .val (.int 3), .val (.ref a89), .val (.ref a98), .val (.int 1), .val (.int 0), .val (.int 1), .val (.int 2), .val (.int 1), .val (.int 2), .val (.int 2), .val (.int l106)] [.int 2]
    refine G.istore K D99_10_175 ([.val (.ref fa), .val (.ref sa), .val (.ref ta), .val (.int 3), .val (.ref a89), .val (.ref a98), .val (.int 1), .val (.int 2), .val (.int 1), .val (.int 2), .val (.int 1), .val (.int 2), .val (.int 2), .val (.int l106)]) rfl ?_
    refine G.goto K D99_10_177 ?_
    refine G.iload K D99_10_44 rfl ?_
    refine G.iloadN K D99_10_46 rfl ?_
    refine G.icmp_ge K D99_10_47 (fun q => absurd q (by decide)) (fun _ => ?_)
    refine G.iload K D99_10_50 rfl ?_
    refine G.iload K D99_10_52 rfl ?_
    refine G.iadd K D99_10_54 ?_
    change G k n0 _ h106 _ _ 55 [.val (.ref fa), .val (.ref sa), .val (.ref ta), .val (.int 3), .val (.ref a89), .val (.ref a98), .val (.int 1), .val (.int 2), .val (.int 1), .val (.int 2), .val (.int 1), .val (.int 2), .val (.int 2), .val (.int l106)] [.int 3]
    refine G.iloadN K D99_10_55 rfl ?_
    refine G.callS K hl (wd hw 44 rfl) (wd hw 33 rfl) (wd hw 34 rfl) (wd hw 35 rfl) (by decide) pd_0 (ct_min l Z a0 hw n0 _ 3 3) 0 rfl (by decide) (by decide) (by decide) (by decide) rfl rfl [.int 3, .int 3] rfl D99_10_56 ?_
    rintro _ _ ⟨rfl, rfl⟩
    rw [show (if (3 : Int32) < 3 then (3 : Int32) else 3) = 3 from by decide]
    change G k n0 _ h106 _ _ 59 [.val (.ref fa), .val (.ref sa), .val (.ref ta), .val (.int 3), .val (.ref a89), .val (.ref a98), .val (.int 1), .val (.int 2), .val (.int 1), .val (.int 2), .val (.int 1), .val (.int 2), .val (.int 2), .val (.int l106)] [.int 3]
    refine G.istore K D99_10_59 ([.val (.ref fa), .val (.ref sa), .val (.ref ta), .val (.int 3), .val (.ref a89), .val (.ref a98), .val (.int 1), .val (.int 2), .val (.int 3), .val (.int 2), .val (.int 1), .val (.int 2), .val (.int 2), .val (.int l106)]) rfl ?_
    refine G.iload K D99_10_61 rfl ?_
    refine G.iconst K D99_10_63 2 rfl ?_
    refine G.iload K D99_10_64 rfl ?_
    refine G.imul K D99_10_66 ?_
    change G k n0 _ h106 _ _ 67 [.val (.ref fa), .val (.ref sa), .val (.ref ta), .val (.int 3), .val (.ref a89), .val (.ref a98), .val (.int 1), .val (.int 2), .val (.int 3), .val (.int 2), .val (.int 1), .val (.int 2), .val (.int 2), .val (.int l106)] [.int 2, .int 2]
    refine G.iadd K D99_10_67 ?_
    change G k n0 _ h106 _ _ 68 [.val (.ref fa), .val (.ref sa), .val (.ref ta), .val (.int 3), .val (.ref a89), .val (.ref a98), .val (.int 1), .val (.int 2), .val (.int 3), .val (.int 2), .val (.int 1), .val (.int 2), .val (.int 2), .val (.int l106)] [.int 4]
    refine G.iloadN K D99_10_68 rfl ?_
    refine G.callS K hl (wd hw 44 rfl) (wd hw 33 rfl) (wd hw 34 rfl) (wd hw 35 rfl) (by decide) pd_0 (ct_min l Z a0 hw n0 _ 4 3) 0 rfl (by decide) (by decide) (by decide) (by decide) rfl rfl [.int 3, .int 4] rfl D99_10_69 ?_
    rintro _ _ ⟨rfl, rfl⟩
    rw [show (if (3 : Int32) < 4 then (3 : Int32) else 4) = 3 from by decide]
    change G k n0 _ h106 _ _ 72 [.val (.ref fa), .val (.ref sa), .val (.ref ta), .val (.int 3), .val (.ref a89), .val (.ref a98), .val (.int 1), .val (.int 2), .val (.int 3), .val (.int 2), .val (.int 1), .val (.int 2), .val (.int 2), .val (.int l106)] [.int 3]
    refine G.istore K D99_10_72 ([.val (.ref fa), .val (.ref sa), .val (.ref ta), .val (.int 3), .val (.ref a89), .val (.ref a98), .val (.int 1), .val (.int 2), .val (.int 3), .val (.int 3), .val (.int 1), .val (.int 2), .val (.int 2), .val (.int l106)]) rfl ?_
    refine G.iload K D99_10_74 rfl ?_
    refine G.istore K D99_10_76 ([.val (.ref fa), .val (.ref sa), .val (.ref ta), .val (.int 3), .val (.ref a89), .val (.ref a98), .val (.int 1), .val (.int 2), .val (.int 3), .val (.int 3), .val (.int 2), .val (.int 2), .val (.int 2), .val (.int l106)]) rfl ?_
    refine G.iload K D99_10_78 rfl ?_
    refine G.istore K D99_10_80 ([.val (.ref fa), .val (.ref sa), .val (.ref ta), .val (.int 3), .val (.ref a89), .val (.ref a98), .val (.int 1), .val (.int 2), .val (.int 3), .val (.int 3), .val (.int 2), .val (.int 3), .val (.int 2), .val (.int l106)]) rfl ?_
    refine G.iload K D99_10_82 rfl ?_
    refine G.istore K D99_10_84 ([.val (.ref fa), .val (.ref sa), .val (.ref ta), .val (.int 3), .val (.ref a89), .val (.ref a98), .val (.int 1), .val (.int 2), .val (.int 3), .val (.int 3), .val (.int 2), .val (.int 3), .val (.int 2), .val (.int l106)]) rfl ?_
    refine G.iload K D99_10_86 rfl ?_
    refine G.iload K D99_10_88 rfl ?_
    refine G.icmp_ge K D99_10_90 (fun q => absurd q (by decide)) (fun _ => ?_)
    refine G.iload K D99_10_93 rfl ?_
    refine G.iload K D99_10_95 rfl ?_
    refine G.icmp_ge K D99_10_97 (fun _ => ?_) (fun q => absurd q (by decide))
    refine G.iconst K D99_10_126 1 rfl ?_
    refine G.goto K D99_10_127 ?_
    refine G.istore K D99_10_131 ([.val (.ref fa), .val (.ref sa), .val (.ref ta), .val (.int 3), .val (.ref a89), .val (.ref a98), .val (.int 1), .val (.int 2), .val (.int 3), .val (.int 3), .val (.int 2), .val (.int 3), .val (.int 2), .val (.int 1)]) rfl ?_
    refine G.aload K D99_10_133 rfl rfl ?_
    refine G.iload K D99_10_135 rfl ?_
    refine G.iload K D99_10_137 rfl ?_
    refine G.if_eq K D99_10_139 (fun q => absurd q (by decide)) (fun _ => ?_)
    refine G.aload K D99_10_142 rfl rfl ?_
    refine G.iload K D99_10_144 rfl ?_
    refine G.iinc K D99_10_146 1 rfl rfl ([.val (.ref fa), .val (.ref sa), .val (.ref ta), .val (.int 3), .val (.ref a89), .val (.ref a98), .val (.int 1), .val (.int 2), .val (.int 3), .val (.int 3), .val (.int (2 + 1)), .val (.int 3), .val (.int 2), .val (.int 1)]) rfl ?_
    change G k n0 _ h106 _ _ 149 [.val (.ref fa), .val (.ref sa), .val (.ref ta), .val (.int 3), .val (.ref a89), .val (.ref a98), .val (.int 1), .val (.int 2), .val (.int 3), .val (.int 3), .val (.int 3), .val (.int 3), .val (.int 2), .val (.int 1)] [.int 2, .ref a89, .int 2, .ref a98]
    refine G.aload_i K H106 (i := 3) rfl (by decide) rfl D99_10_149 ?_
    refine G.goto K D99_10_150 ?_
    refine G.astore_i K H106 (i := 4) rfl (by decide) (Nat.le_of_ble_eq_true rfl) D99_10_161 ?_
    intro h111 H111
    change Hp n0 h111 ((fa, Ia Z (lst 4 (fun _ => 0))) :: (sa, Ia Z (lst 4 (sF ke))) :: (ta, Ia Z (lst 4 (tF ke))) :: (a89, Ia Z [0, 1, 2]) :: (a98, Ia Z [Int32.ofNat x0, Int32.ofNat x1, 2]) :: σ) at H111
    refine G.iinc K D99_10_162 1 rfl rfl ([.val (.ref fa), .val (.ref sa), .val (.ref ta), .val (.int 3), .val (.ref a89), .val (.ref a98), .val (.int 1), .val (.int 2), .val (.int 3), .val (.int 3), .val (.int 3), .val (.int 3), .val (.int (2 + 1)), .val (.int 1)]) rfl ?_
    change G k n0 _ h111 _ _ 165 [.val (.ref fa), .val (.ref sa), .val (.ref ta), .val (.int 3), .val (.ref a89), .val (.ref a98), .val (.int 1), .val (.int 2), .val (.int 3), .val (.int 3), .val (.int 3), .val (.int 3), .val (.int 3), .val (.int 1)] []
    refine G.goto K D99_10_165 ?_
    refine G.iload K D99_10_86 rfl ?_
    refine G.iload K D99_10_88 rfl ?_
    refine G.icmp_ge K D99_10_90 (fun _ => ?_) (fun q => absurd q (by decide))
    refine G.iload K D99_10_168 rfl ?_
    refine G.iconst K D99_10_170 2 rfl ?_
    refine G.iload K D99_10_171 rfl ?_
    refine G.imul K D99_10_173 ?_
    change G k n0 _ h111 _ _ 174 [.val (.ref fa), .val (.ref sa), .val (.ref ta), .val (.int 3), .val (.ref a89), .val (.ref a98), .val (.int 1), .val (.int 2), .val (.int 3), .val (.int 3), .val (.int 3), .val (.int 3), .val (.int 3), .val (.int 1)] [.int 2, .int 2]
    refine G.iadd K D99_10_174 ?_
    change G k n0 _ h111 _ _ 175 [.val (.ref fa), .val (.ref sa), .val (.ref ta), .val (.int 3), .val (.ref a89), .val (.ref a98), .val (.int 1), .val (.int 2), .val (.int 3), .val (.int 3), .val (.int 3), .val (.int 3), .val (.int 3), .val (.int 1)] [.int 4]
    refine G.istore K D99_10_175 ([.val (.ref fa), .val (.ref sa), .val (.ref ta), .val (.int 3), .val (.ref a89), .val (.ref a98), .val (.int 1), .val (.int 4), .val (.int 3), .val (.int 3), .val (.int 3), .val (.int 3), .val (.int 3), .val (.int 1)]) rfl ?_
    refine G.goto K D99_10_177 ?_
    refine G.iload K D99_10_44 rfl ?_
    refine G.iloadN K D99_10_46 rfl ?_
    refine G.icmp_ge K D99_10_47 (fun _ => ?_) (fun q => absurd q (by decide))
    refine G.aload K D99_10_180 rfl rfl ?_
    refine G.astore K D99_10_182 rfl ([.val (.ref fa), .val (.ref sa), .val (.ref ta), .val (.int 3), .val (.ref a89), .val (.ref a98), .val (.int 1), .val (.ref a89), .val (.int 3), .val (.int 3), .val (.int 3), .val (.int 3), .val (.int 3), .val (.int 1)]) rfl ?_
    refine G.aload K D99_10_184 rfl rfl ?_
    refine G.astore K D99_10_186 rfl ([.val (.ref fa), .val (.ref sa), .val (.ref ta), .val (.int 3), .val (.ref a98), .val (.ref a98), .val (.int 1), .val (.ref a89), .val (.int 3), .val (.int 3), .val (.int 3), .val (.int 3), .val (.int 3), .val (.int 1)]) rfl ?_
    refine G.aload K D99_10_188 rfl rfl ?_
    refine G.astore K D99_10_190 rfl ([.val (.ref fa), .val (.ref sa), .val (.ref ta), .val (.int 3), .val (.ref a98), .val (.ref a89), .val (.int 1), .val (.ref a89), .val (.int 3), .val (.int 3), .val (.int 3), .val (.int 3), .val (.int 3), .val (.int 1)]) rfl ?_
    refine G.iload K D99_10_192 rfl ?_
    refine G.iconst K D99_10_194 2 rfl ?_
    refine G.imul K D99_10_195 ?_
    change G k n0 _ h111 _ _ 196 [.val (.ref fa), .val (.ref sa), .val (.ref ta), .val (.int 3), .val (.ref a98), .val (.ref a89), .val (.int 1), .val (.ref a89), .val (.int 3), .val (.int 3), .val (.int 3), .val (.int 3), .val (.int 3), .val (.int 1)] [.int 2]
    refine G.istore K D99_10_196 ([.val (.ref fa), .val (.ref sa), .val (.ref ta), .val (.int 3), .val (.ref a98), .val (.ref a89), .val (.int 2), .val (.ref a89), .val (.int 3), .val (.int 3), .val (.int 3), .val (.int 3), .val (.int 3), .val (.int 1)]) rfl ?_
    refine G.goto K D99_10_198 ?_
    refine G.iload K D99_10_35 rfl ?_
    refine G.iloadN K D99_10_37 rfl ?_
    refine G.icmp_ge K D99_10_38 (fun q => absurd q (by decide)) (fun _ => ?_)
    refine G.iconst K D99_10_41 0 rfl ?_
    refine G.istore K D99_10_42 ([.val (.ref fa), .val (.ref sa), .val (.ref ta), .val (.int 3), .val (.ref a98), .val (.ref a89), .val (.int 2), .val (.int 0), .val (.int 3), .val (.int 3), .val (.int 3), .val (.int 3), .val (.int 3), .val (.int 1)]) rfl ?_
    refine G.iload K D99_10_44 rfl ?_
    refine G.iloadN K D99_10_46 rfl ?_
    refine G.icmp_ge K D99_10_47 (fun q => absurd q (by decide)) (fun _ => ?_)
    refine G.iload K D99_10_50 rfl ?_
    refine G.iload K D99_10_52 rfl ?_
    refine G.iadd K D99_10_54 ?_
    change G k n0 _ h111 _ _ 55 [.val (.ref fa), .val (.ref sa), .val (.ref ta), .val (.int 3), .val (.ref a98), .val (.ref a89), .val (.int 2), .val (.int 0), .val (.int 3), .val (.int 3), .val (.int 3), .val (.int 3), .val (.int 3), .val (.int 1)] [.int 2]
    refine G.iloadN K D99_10_55 rfl ?_
    refine G.callS K hl (wd hw 44 rfl) (wd hw 33 rfl) (wd hw 34 rfl) (wd hw 35 rfl) (by decide) pd_0 (ct_min l Z a0 hw n0 _ 2 3) 0 rfl (by decide) (by decide) (by decide) (by decide) rfl rfl [.int 3, .int 2] rfl D99_10_56 ?_
    rintro _ _ ⟨rfl, rfl⟩
    rw [show (if (3 : Int32) < 2 then (3 : Int32) else 2) = 2 from by decide]
    change G k n0 _ h111 _ _ 59 [.val (.ref fa), .val (.ref sa), .val (.ref ta), .val (.int 3), .val (.ref a98), .val (.ref a89), .val (.int 2), .val (.int 0), .val (.int 3), .val (.int 3), .val (.int 3), .val (.int 3), .val (.int 3), .val (.int 1)] [.int 2]
    refine G.istore K D99_10_59 ([.val (.ref fa), .val (.ref sa), .val (.ref ta), .val (.int 3), .val (.ref a98), .val (.ref a89), .val (.int 2), .val (.int 0), .val (.int 2), .val (.int 3), .val (.int 3), .val (.int 3), .val (.int 3), .val (.int 1)]) rfl ?_
    refine G.iload K D99_10_61 rfl ?_
    refine G.iconst K D99_10_63 2 rfl ?_
    refine G.iload K D99_10_64 rfl ?_
    refine G.imul K D99_10_66 ?_
    change G k n0 _ h111 _ _ 67 [.val (.ref fa), .val (.ref sa), .val (.ref ta), .val (.int 3), .val (.ref a98), .val (.ref a89), .val (.int 2), .val (.int 0), .val (.int 2), .val (.int 3), .val (.int 3), .val (.int 3), .val (.int 3), .val (.int 1)] [.int 4, .int 0]
    refine G.iadd K D99_10_67 ?_
    change G k n0 _ h111 _ _ 68 [.val (.ref fa), .val (.ref sa), .val (.ref ta), .val (.int 3), .val (.ref a98), .val (.ref a89), .val (.int 2), .val (.int 0), .val (.int 2), .val (.int 3), .val (.int 3), .val (.int 3), .val (.int 3), .val (.int 1)] [.int 4]
    refine G.iloadN K D99_10_68 rfl ?_
    refine G.callS K hl (wd hw 44 rfl) (wd hw 33 rfl) (wd hw 34 rfl) (wd hw 35 rfl) (by decide) pd_0 (ct_min l Z a0 hw n0 _ 4 3) 0 rfl (by decide) (by decide) (by decide) (by decide) rfl rfl [.int 3, .int 4] rfl D99_10_69 ?_
    rintro _ _ ⟨rfl, rfl⟩
    rw [show (if (3 : Int32) < 4 then (3 : Int32) else 4) = 3 from by decide]
    change G k n0 _ h111 _ _ 72 [.val (.ref fa), .val (.ref sa), .val (.ref ta), .val (.int 3), .val (.ref a98), .val (.ref a89), .val (.int 2), .val (.int 0), .val (.int 2), .val (.int 3), .val (.int 3), .val (.int 3), .val (.int 3), .val (.int 1)] [.int 3]
    refine G.istore K D99_10_72 ([.val (.ref fa), .val (.ref sa), .val (.ref ta), .val (.int 3), .val (.ref a98), .val (.ref a89), .val (.int 2), .val (.int 0), .val (.int 2), .val (.int 3), .val (.int 3), .val (.int 3), .val (.int 3), .val (.int 1)]) rfl ?_
    refine G.iload K D99_10_74 rfl ?_
    refine G.istore K D99_10_76 ([.val (.ref fa), .val (.ref sa), .val (.ref ta), .val (.int 3), .val (.ref a98), .val (.ref a89), .val (.int 2), .val (.int 0), .val (.int 2), .val (.int 3), .val (.int 0), .val (.int 3), .val (.int 3), .val (.int 1)]) rfl ?_
    refine G.iload K D99_10_78 rfl ?_
    refine G.istore K D99_10_80 ([.val (.ref fa), .val (.ref sa), .val (.ref ta), .val (.int 3), .val (.ref a98), .val (.ref a89), .val (.int 2), .val (.int 0), .val (.int 2), .val (.int 3), .val (.int 0), .val (.int 2), .val (.int 3), .val (.int 1)]) rfl ?_
    refine G.iload K D99_10_82 rfl ?_
    refine G.istore K D99_10_84 ([.val (.ref fa), .val (.ref sa), .val (.ref ta), .val (.int 3), .val (.ref a98), .val (.ref a89), .val (.int 2), .val (.int 0), .val (.int 2), .val (.int 3), .val (.int 0), .val (.int 2), .val (.int 0), .val (.int 1)]) rfl ?_
    refine G.iload K D99_10_86 rfl ?_
    refine G.iload K D99_10_88 rfl ?_
    refine G.icmp_ge K D99_10_90 (fun q => absurd q (by decide)) (fun _ => ?_)
    refine G.iload K D99_10_93 rfl ?_
    refine G.iload K D99_10_95 rfl ?_
    refine G.icmp_ge K D99_10_97 (fun q => absurd q (by decide)) (fun _ => ?_)
    refine G.iload K D99_10_100 rfl ?_
    refine G.iload K D99_10_102 rfl ?_
    refine G.icmp_ge K D99_10_104 (fun q => absurd q (by decide)) (fun _ => ?_)
    refine G.aloadN K D99_10_107 rfl rfl ?_
    refine G.aloadN K D99_10_108 rfl rfl ?_
    refine G.aloadN K D99_10_109 rfl rfl ?_
    refine G.aload K D99_10_110 rfl rfl ?_
    refine G.iload K D99_10_112 rfl ?_
    refine G.aload_i K H111 (i := 4) rfl (by decide) rfl D99_10_114 ?_
    refine G.aload K D99_10_115 rfl rfl ?_
    refine G.iload K D99_10_117 rfl ?_
    refine G.aload_i K H111 (i := 4) rfl (by decide) rfl D99_10_119 ?_
    have H119 : Hp n0 h111 ((ta, Ia Z (lst 4 (tF ke))) :: (fa, Ia Z (lst 4 (fun _ => 0))) :: (sa, Ia Z (lst 4 (sF ke))) :: (a89, Ia Z [0, 1, 2]) :: (a98, Ia Z [Int32.ofNat x0, Int32.ofNat x1, 2]) :: σ) := H111.pull 2 rfl
    have H120 : Hp n0 h111 ((sa, Ia Z (lst 4 (sF ke))) :: (ta, Ia Z (lst 4 (tF ke))) :: (fa, Ia Z (lst 4 (fun _ => 0))) :: (a89, Ia Z [0, 1, 2]) :: (a98, Ia Z [Int32.ofNat x0, Int32.ofNat x1, 2]) :: σ) := H119.pull 2 rfl
    have H121 : Hp n0 h111 ((fa, Ia Z (lst 4 (fun _ => 0))) :: (sa, Ia Z (lst 4 (sF ke))) :: (ta, Ia Z (lst 4 (tF ke))) :: (a89, Ia Z [0, 1, 2]) :: (a98, Ia Z [Int32.ofNat x0, Int32.ofNat x1, 2]) :: σ) := H120.pull 2 rfl
    refine G.callS K hl (wd hw 45 rfl) (wd hw 46 rfl) (wd hw 3 rfl) (wd hw 47 rfl) (by decide) pd_1 (ct_cmp l Z a0 hw n0 h111 fa sa ta ke x0 2 ((a89, Ia Z [0, 1, 2]) :: (a98, Ia Z [Int32.ofNat x0, Int32.ofNat x1, 2]) :: σ) hK (by omega) (by omega) H121) 0 rfl (by decide) (by decide) (by decide) (by decide) rfl rfl [.int 2, .int (Int32.ofNat x0), .ref ta, .ref sa, .ref fa] rfl D99_10_120 ?_
    rintro _ _ ⟨z122, rfl, hz122, rfl⟩
    change G k n0 _ h111 _ _ 123 [.val (.ref fa), .val (.ref sa), .val (.ref ta), .val (.int 3), .val (.ref a98), .val (.ref a89), .val (.int 2), .val (.int 0), .val (.int 2), .val (.int 3), .val (.int 0), .val (.int 2), .val (.int 0), .val (.int 1)] [.int z122]
    refine G.if_gt K D99_10_123 (fun q123 => ?_) (fun q123 => ?_)
    · have e124 : ke 2 < ke x0 := hz122.mp q123
      refine G.iconst K D99_10_130 0 rfl ?_
      refine G.istore K D99_10_131 ([.val (.ref fa), .val (.ref sa), .val (.ref ta), .val (.int 3), .val (.ref a98), .val (.ref a89), .val (.int 2), .val (.int 0), .val (.int 2), .val (.int 3), .val (.int 0), .val (.int 2), .val (.int 0), .val (.int 0)]) rfl ?_
      refine G.aload K D99_10_133 rfl rfl ?_
      refine G.iload K D99_10_135 rfl ?_
      refine G.iload K D99_10_137 rfl ?_
      refine G.if_eq K D99_10_139 (fun _ => ?_) (fun q => absurd q (by decide))
      refine G.aload K D99_10_153 rfl rfl ?_
      refine G.iload K D99_10_155 rfl ?_
      refine G.iinc K D99_10_157 1 rfl rfl ([.val (.ref fa), .val (.ref sa), .val (.ref ta), .val (.int 3), .val (.ref a98), .val (.ref a89), .val (.int 2), .val (.int 0), .val (.int 2), .val (.int 3), .val (.int 0), .val (.int (2 + 1)), .val (.int 0), .val (.int 0)]) rfl ?_
      change G k n0 _ h111 _ _ 160 [.val (.ref fa), .val (.ref sa), .val (.ref ta), .val (.int 3), .val (.ref a98), .val (.ref a89), .val (.int 2), .val (.int 0), .val (.int 2), .val (.int 3), .val (.int 0), .val (.int 3), .val (.int 0), .val (.int 0)] [.int 2, .ref a98, .int 0, .ref a89]
      refine G.aload_i K H121 (i := 4) rfl (by decide) rfl D99_10_160 ?_
      refine G.astore_i K H121 (i := 3) rfl (by decide) (Nat.le_of_ble_eq_true rfl) D99_10_161 ?_
      intro h126 H126
      change Hp n0 h126 ((fa, Ia Z (lst 4 (fun _ => 0))) :: (sa, Ia Z (lst 4 (sF ke))) :: (ta, Ia Z (lst 4 (tF ke))) :: (a89, Ia Z [2, 1, 2]) :: (a98, Ia Z [Int32.ofNat x0, Int32.ofNat x1, 2]) :: σ) at H126
      refine G.iinc K D99_10_162 1 rfl rfl ([.val (.ref fa), .val (.ref sa), .val (.ref ta), .val (.int 3), .val (.ref a98), .val (.ref a89), .val (.int 2), .val (.int 0), .val (.int 2), .val (.int 3), .val (.int 0), .val (.int 3), .val (.int (0 + 1)), .val (.int 0)]) rfl ?_
      change G k n0 _ h126 _ _ 165 [.val (.ref fa), .val (.ref sa), .val (.ref ta), .val (.int 3), .val (.ref a98), .val (.ref a89), .val (.int 2), .val (.int 0), .val (.int 2), .val (.int 3), .val (.int 0), .val (.int 3), .val (.int 1), .val (.int 0)] []
      refine G.goto K D99_10_165 ?_
      refine G.iload K D99_10_86 rfl ?_
      refine G.iload K D99_10_88 rfl ?_
      refine G.icmp_ge K D99_10_90 (fun q => absurd q (by decide)) (fun _ => ?_)
      refine G.iload K D99_10_93 rfl ?_
      refine G.iload K D99_10_95 rfl ?_
      refine G.icmp_ge K D99_10_97 (fun _ => ?_) (fun q => absurd q (by decide))
      refine G.iconst K D99_10_126 1 rfl ?_
      refine G.goto K D99_10_127 ?_
      refine G.istore K D99_10_131 ([.val (.ref fa), .val (.ref sa), .val (.ref ta), .val (.int 3), .val (.ref a98), .val (.ref a89), .val (.int 2), .val (.int 0), .val (.int 2), .val (.int 3), .val (.int 0), .val (.int 3), .val (.int 1), .val (.int 1)]) rfl ?_
      refine G.aload K D99_10_133 rfl rfl ?_
      refine G.iload K D99_10_135 rfl ?_
      refine G.iload K D99_10_137 rfl ?_
      refine G.if_eq K D99_10_139 (fun q => absurd q (by decide)) (fun _ => ?_)
      refine G.aload K D99_10_142 rfl rfl ?_
      refine G.iload K D99_10_144 rfl ?_
      refine G.iinc K D99_10_146 1 rfl rfl ([.val (.ref fa), .val (.ref sa), .val (.ref ta), .val (.int 3), .val (.ref a98), .val (.ref a89), .val (.int 2), .val (.int 0), .val (.int 2), .val (.int 3), .val (.int (0 + 1)), .val (.int 3), .val (.int 1), .val (.int 1)]) rfl ?_
      change G k n0 _ h126 _ _ 149 [.val (.ref fa), .val (.ref sa), .val (.ref ta), .val (.int 3), .val (.ref a98), .val (.ref a89), .val (.int 2), .val (.int 0), .val (.int 2), .val (.int 3), .val (.int 1), .val (.int 3), .val (.int 1), .val (.int 1)] [.int 0, .ref a98, .int 1, .ref a89]
      refine G.aload_i K H126 (i := 4) rfl (by decide) rfl D99_10_149 ?_
      refine G.goto K D99_10_150 ?_
      refine G.astore_i K H126 (i := 3) rfl (by decide) (Nat.le_of_ble_eq_true rfl) D99_10_161 ?_
      intro h130 H130
      change Hp n0 h130 ((fa, Ia Z (lst 4 (fun _ => 0))) :: (sa, Ia Z (lst 4 (sF ke))) :: (ta, Ia Z (lst 4 (tF ke))) :: (a89, Ia Z [2, (Int32.ofNat x0), 2]) :: (a98, Ia Z [Int32.ofNat x0, Int32.ofNat x1, 2]) :: σ) at H130
      refine G.iinc K D99_10_162 1 rfl rfl ([.val (.ref fa), .val (.ref sa), .val (.ref ta), .val (.int 3), .val (.ref a98), .val (.ref a89), .val (.int 2), .val (.int 0), .val (.int 2), .val (.int 3), .val (.int 1), .val (.int 3), .val (.int (1 + 1)), .val (.int 1)]) rfl ?_
      change G k n0 _ h130 _ _ 165 [.val (.ref fa), .val (.ref sa), .val (.ref ta), .val (.int 3), .val (.ref a98), .val (.ref a89), .val (.int 2), .val (.int 0), .val (.int 2), .val (.int 3), .val (.int 1), .val (.int 3), .val (.int 2), .val (.int 1)] []
      refine G.goto K D99_10_165 ?_
      refine G.iload K D99_10_86 rfl ?_
      refine G.iload K D99_10_88 rfl ?_
      refine G.icmp_ge K D99_10_90 (fun q => absurd q (by decide)) (fun _ => ?_)
      refine G.iload K D99_10_93 rfl ?_
      refine G.iload K D99_10_95 rfl ?_
      refine G.icmp_ge K D99_10_97 (fun _ => ?_) (fun q => absurd q (by decide))
      refine G.iconst K D99_10_126 1 rfl ?_
      refine G.goto K D99_10_127 ?_
      refine G.istore K D99_10_131 ([.val (.ref fa), .val (.ref sa), .val (.ref ta), .val (.int 3), .val (.ref a98), .val (.ref a89), .val (.int 2), .val (.int 0), .val (.int 2), .val (.int 3), .val (.int 1), .val (.int 3), .val (.int 2), .val (.int 1)]) rfl ?_
      refine G.aload K D99_10_133 rfl rfl ?_
      refine G.iload K D99_10_135 rfl ?_
      refine G.iload K D99_10_137 rfl ?_
      refine G.if_eq K D99_10_139 (fun q => absurd q (by decide)) (fun _ => ?_)
      refine G.aload K D99_10_142 rfl rfl ?_
      refine G.iload K D99_10_144 rfl ?_
      refine G.iinc K D99_10_146 1 rfl rfl ([.val (.ref fa), .val (.ref sa), .val (.ref ta), .val (.int 3), .val (.ref a98), .val (.ref a89), .val (.int 2), .val (.int 0), .val (.int 2), .val (.int 3), .val (.int (1 + 1)), .val (.int 3), .val (.int 2), .val (.int 1)]) rfl ?_
      change G k n0 _ h130 _ _ 149 [.val (.ref fa), .val (.ref sa), .val (.ref ta), .val (.int 3), .val (.ref a98), .val (.ref a89), .val (.int 2), .val (.int 0), .val (.int 2), .val (.int 3), .val (.int 2), .val (.int 3), .val (.int 2), .val (.int 1)] [.int 1, .ref a98, .int 2, .ref a89]
      refine G.aload_i K H130 (i := 4) rfl (by decide) rfl D99_10_149 ?_
      refine G.goto K D99_10_150 ?_
      refine G.astore_i K H130 (i := 3) rfl (by decide) (Nat.le_of_ble_eq_true rfl) D99_10_161 ?_
      intro h134 H134
      change Hp n0 h134 ((fa, Ia Z (lst 4 (fun _ => 0))) :: (sa, Ia Z (lst 4 (sF ke))) :: (ta, Ia Z (lst 4 (tF ke))) :: (a89, Ia Z [2, (Int32.ofNat x0), (Int32.ofNat x1)]) :: (a98, Ia Z [Int32.ofNat x0, Int32.ofNat x1, 2]) :: σ) at H134
      refine G.iinc K D99_10_162 1 rfl rfl ([.val (.ref fa), .val (.ref sa), .val (.ref ta), .val (.int 3), .val (.ref a98), .val (.ref a89), .val (.int 2), .val (.int 0), .val (.int 2), .val (.int 3), .val (.int 2), .val (.int 3), .val (.int (2 + 1)), .val (.int 1)]) rfl ?_
      change G k n0 _ h134 _ _ 165 [.val (.ref fa), .val (.ref sa), .val (.ref ta), .val (.int 3), .val (.ref a98), .val (.ref a89), .val (.int 2), .val (.int 0), .val (.int 2), .val (.int 3), .val (.int 2), .val (.int 3), .val (.int 3), .val (.int 1)] []
      refine G.goto K D99_10_165 ?_
      refine G.iload K D99_10_86 rfl ?_
      refine G.iload K D99_10_88 rfl ?_
      refine G.icmp_ge K D99_10_90 (fun _ => ?_) (fun q => absurd q (by decide))
      refine G.iload K D99_10_168 rfl ?_
      refine G.iconst K D99_10_170 2 rfl ?_
      refine G.iload K D99_10_171 rfl ?_
      refine G.imul K D99_10_173 ?_
      change G k n0 _ h134 _ _ 174 [.val (.ref fa), .val (.ref sa), .val (.ref ta), .val (.int 3), .val (.ref a98), .val (.ref a89), .val (.int 2), .val (.int 0), .val (.int 2), .val (.int 3), .val (.int 2), .val (.int 3), .val (.int 3), .val (.int 1)] [.int 4, .int 0]
      refine G.iadd K D99_10_174 ?_
      change G k n0 _ h134 _ _ 175 [.val (.ref fa), .val (.ref sa), .val (.ref ta), .val (.int 3), .val (.ref a98), .val (.ref a89), .val (.int 2), .val (.int 0), .val (.int 2), .val (.int 3), .val (.int 2), .val (.int 3), .val (.int 3), .val (.int 1)] [.int 4]
      refine G.istore K D99_10_175 ([.val (.ref fa), .val (.ref sa), .val (.ref ta), .val (.int 3), .val (.ref a98), .val (.ref a89), .val (.int 2), .val (.int 4), .val (.int 2), .val (.int 3), .val (.int 2), .val (.int 3), .val (.int 3), .val (.int 1)]) rfl ?_
      refine G.goto K D99_10_177 ?_
      refine G.iload K D99_10_44 rfl ?_
      refine G.iloadN K D99_10_46 rfl ?_
      refine G.icmp_ge K D99_10_47 (fun _ => ?_) (fun q => absurd q (by decide))
      refine G.aload K D99_10_180 rfl rfl ?_
      refine G.astore K D99_10_182 rfl ([.val (.ref fa), .val (.ref sa), .val (.ref ta), .val (.int 3), .val (.ref a98), .val (.ref a89), .val (.int 2), .val (.ref a98), .val (.int 2), .val (.int 3), .val (.int 2), .val (.int 3), .val (.int 3), .val (.int 1)]) rfl ?_
      refine G.aload K D99_10_184 rfl rfl ?_
      refine G.astore K D99_10_186 rfl ([.val (.ref fa), .val (.ref sa), .val (.ref ta), .val (.int 3), .val (.ref a89), .val (.ref a89), .val (.int 2), .val (.ref a98), .val (.int 2), .val (.int 3), .val (.int 2), .val (.int 3), .val (.int 3), .val (.int 1)]) rfl ?_
      refine G.aload K D99_10_188 rfl rfl ?_
      refine G.astore K D99_10_190 rfl ([.val (.ref fa), .val (.ref sa), .val (.ref ta), .val (.int 3), .val (.ref a89), .val (.ref a98), .val (.int 2), .val (.ref a98), .val (.int 2), .val (.int 3), .val (.int 2), .val (.int 3), .val (.int 3), .val (.int 1)]) rfl ?_
      refine G.iload K D99_10_192 rfl ?_
      refine G.iconst K D99_10_194 2 rfl ?_
      refine G.imul K D99_10_195 ?_
      change G k n0 _ h134 _ _ 196 [.val (.ref fa), .val (.ref sa), .val (.ref ta), .val (.int 3), .val (.ref a89), .val (.ref a98), .val (.int 2), .val (.ref a98), .val (.int 2), .val (.int 3), .val (.int 2), .val (.int 3), .val (.int 3), .val (.int 1)] [.int 4]
      refine G.istore K D99_10_196 ([.val (.ref fa), .val (.ref sa), .val (.ref ta), .val (.int 3), .val (.ref a89), .val (.ref a98), .val (.int 4), .val (.ref a98), .val (.int 2), .val (.int 3), .val (.int 2), .val (.int 3), .val (.int 3), .val (.int 1)]) rfl ?_
      refine G.goto K D99_10_198 ?_
      refine G.iload K D99_10_35 rfl ?_
      refine G.iloadN K D99_10_37 rfl ?_
      refine G.icmp_ge K D99_10_38 (fun _ => ?_) (fun q => absurd q (by decide))
      refine G.aload K D99_10_201 rfl rfl ?_
      refine G.ret_ref K rfl rfl D99_10_203 ?_
      have H138 : Hp n0 h134 ((ta, Ia Z (lst 4 (tF ke))) :: (fa, Ia Z (lst 4 (fun _ => 0))) :: (sa, Ia Z (lst 4 (sF ke))) :: (a89, Ia Z [2, (Int32.ofNat x0), (Int32.ofNat x1)]) :: (a98, Ia Z [Int32.ofNat x0, Int32.ofNat x1, 2]) :: σ) := H134.pull 2 rfl
      have H139 : Hp n0 h134 ((sa, Ia Z (lst 4 (sF ke))) :: (ta, Ia Z (lst 4 (tF ke))) :: (fa, Ia Z (lst 4 (fun _ => 0))) :: (a89, Ia Z [2, (Int32.ofNat x0), (Int32.ofNat x1)]) :: (a98, Ia Z [Int32.ofNat x0, Int32.ofNat x1, 2]) :: σ) := H138.pull 2 rfl
      have H140 : Hp n0 h134 ((fa, Ia Z (lst 4 (fun _ => 0))) :: (sa, Ia Z (lst 4 (sF ke))) :: (ta, Ia Z (lst 4 (tF ke))) :: (a89, Ia Z [2, (Int32.ofNat x0), (Int32.ofNat x1)]) :: (a98, Ia Z [Int32.ofNat x0, Int32.ofNat x1, 2]) :: σ) := H139.pull 2 rfl
      have H141 : Hp n0 h134 ((a89, Ia Z [2, (Int32.ofNat x0), (Int32.ofNat x1)]) :: (fa, Ia Z (lst 4 (fun _ => 0))) :: (sa, Ia Z (lst 4 (sF ke))) :: (ta, Ia Z (lst 4 (tF ke))) :: (a98, Ia Z [Int32.ofNat x0, Int32.ofNat x1, 2]) :: σ) := H140.pull 3 rfl
      have H142 : Hp n0 h134 ((a89, Ia Z [2, (Int32.ofNat x0), (Int32.ofNat x1)]) :: (fa, Ia Z (lst 4 (fun _ => 0))) :: (sa, Ia Z (lst 4 (sF ke))) :: (ta, Ia Z (lst 4 (tF ke))) :: σ) := H141.sub (List.Sublist.cons_cons _ (List.Sublist.cons_cons _ (List.Sublist.cons_cons _ (List.Sublist.cons_cons _ (List.Sublist.cons _ (List.Sublist.refl _))))))
      exact ⟨a89, 2, x0, x1, rfl, by omega, by omega, by omega, by omega, by omega, by omega, by omega, by omega, H142⟩
    · have e143 : ke x0 ≤ ke 2 := Nat.le_of_not_lt fun y => q123 (hz122.mpr y)
      refine G.iconst K D99_10_126 1 rfl ?_
      refine G.goto K D99_10_127 ?_
      refine G.istore K D99_10_131 ([.val (.ref fa), .val (.ref sa), .val (.ref ta), .val (.int 3), .val (.ref a98), .val (.ref a89), .val (.int 2), .val (.int 0), .val (.int 2), .val (.int 3), .val (.int 0), .val (.int 2), .val (.int 0), .val (.int 1)]) rfl ?_
      refine G.aload K D99_10_133 rfl rfl ?_
      refine G.iload K D99_10_135 rfl ?_
      refine G.iload K D99_10_137 rfl ?_
      refine G.if_eq K D99_10_139 (fun q => absurd q (by decide)) (fun _ => ?_)
      refine G.aload K D99_10_142 rfl rfl ?_
      refine G.iload K D99_10_144 rfl ?_
      refine G.iinc K D99_10_146 1 rfl rfl ([.val (.ref fa), .val (.ref sa), .val (.ref ta), .val (.int 3), .val (.ref a98), .val (.ref a89), .val (.int 2), .val (.int 0), .val (.int 2), .val (.int 3), .val (.int (0 + 1)), .val (.int 2), .val (.int 0), .val (.int 1)]) rfl ?_
      change G k n0 _ h111 _ _ 149 [.val (.ref fa), .val (.ref sa), .val (.ref ta), .val (.int 3), .val (.ref a98), .val (.ref a89), .val (.int 2), .val (.int 0), .val (.int 2), .val (.int 3), .val (.int 1), .val (.int 2), .val (.int 0), .val (.int 1)] [.int 0, .ref a98, .int 0, .ref a89]
      refine G.aload_i K H121 (i := 4) rfl (by decide) rfl D99_10_149 ?_
      refine G.goto K D99_10_150 ?_
      refine G.astore_i K H121 (i := 3) rfl (by decide) (Nat.le_of_ble_eq_true rfl) D99_10_161 ?_
      intro h145 H145
      change Hp n0 h145 ((fa, Ia Z (lst 4 (fun _ => 0))) :: (sa, Ia Z (lst 4 (sF ke))) :: (ta, Ia Z (lst 4 (tF ke))) :: (a89, Ia Z [(Int32.ofNat x0), 1, 2]) :: (a98, Ia Z [Int32.ofNat x0, Int32.ofNat x1, 2]) :: σ) at H145
      refine G.iinc K D99_10_162 1 rfl rfl ([.val (.ref fa), .val (.ref sa), .val (.ref ta), .val (.int 3), .val (.ref a98), .val (.ref a89), .val (.int 2), .val (.int 0), .val (.int 2), .val (.int 3), .val (.int 1), .val (.int 2), .val (.int (0 + 1)), .val (.int 1)]) rfl ?_
      change G k n0 _ h145 _ _ 165 [.val (.ref fa), .val (.ref sa), .val (.ref ta), .val (.int 3), .val (.ref a98), .val (.ref a89), .val (.int 2), .val (.int 0), .val (.int 2), .val (.int 3), .val (.int 1), .val (.int 2), .val (.int 1), .val (.int 1)] []
      refine G.goto K D99_10_165 ?_
      refine G.iload K D99_10_86 rfl ?_
      refine G.iload K D99_10_88 rfl ?_
      refine G.icmp_ge K D99_10_90 (fun q => absurd q (by decide)) (fun _ => ?_)
      refine G.iload K D99_10_93 rfl ?_
      refine G.iload K D99_10_95 rfl ?_
      refine G.icmp_ge K D99_10_97 (fun q => absurd q (by decide)) (fun _ => ?_)
      refine G.iload K D99_10_100 rfl ?_
      refine G.iload K D99_10_102 rfl ?_
      refine G.icmp_ge K D99_10_104 (fun q => absurd q (by decide)) (fun _ => ?_)
      refine G.aloadN K D99_10_107 rfl rfl ?_
      refine G.aloadN K D99_10_108 rfl rfl ?_
      refine G.aloadN K D99_10_109 rfl rfl ?_
      refine G.aload K D99_10_110 rfl rfl ?_
      refine G.iload K D99_10_112 rfl ?_
      refine G.aload_i K H145 (i := 4) rfl (by decide) rfl D99_10_114 ?_
      refine G.aload K D99_10_115 rfl rfl ?_
      refine G.iload K D99_10_117 rfl ?_
      refine G.aload_i K H145 (i := 4) rfl (by decide) rfl D99_10_119 ?_
      have H149 : Hp n0 h145 ((ta, Ia Z (lst 4 (tF ke))) :: (fa, Ia Z (lst 4 (fun _ => 0))) :: (sa, Ia Z (lst 4 (sF ke))) :: (a89, Ia Z [(Int32.ofNat x0), 1, 2]) :: (a98, Ia Z [Int32.ofNat x0, Int32.ofNat x1, 2]) :: σ) := H145.pull 2 rfl
      have H150 : Hp n0 h145 ((sa, Ia Z (lst 4 (sF ke))) :: (ta, Ia Z (lst 4 (tF ke))) :: (fa, Ia Z (lst 4 (fun _ => 0))) :: (a89, Ia Z [(Int32.ofNat x0), 1, 2]) :: (a98, Ia Z [Int32.ofNat x0, Int32.ofNat x1, 2]) :: σ) := H149.pull 2 rfl
      have H151 : Hp n0 h145 ((fa, Ia Z (lst 4 (fun _ => 0))) :: (sa, Ia Z (lst 4 (sF ke))) :: (ta, Ia Z (lst 4 (tF ke))) :: (a89, Ia Z [(Int32.ofNat x0), 1, 2]) :: (a98, Ia Z [Int32.ofNat x0, Int32.ofNat x1, 2]) :: σ) := H150.pull 2 rfl
      refine G.callS K hl (wd hw 45 rfl) (wd hw 46 rfl) (wd hw 3 rfl) (wd hw 47 rfl) (by decide) pd_1 (ct_cmp l Z a0 hw n0 h145 fa sa ta ke x1 2 ((a89, Ia Z [(Int32.ofNat x0), 1, 2]) :: (a98, Ia Z [Int32.ofNat x0, Int32.ofNat x1, 2]) :: σ) hK (by omega) (by omega) H151) 0 rfl (by decide) (by decide) (by decide) (by decide) rfl rfl [.int 2, .int (Int32.ofNat x1), .ref ta, .ref sa, .ref fa] rfl D99_10_120 ?_
      rintro _ _ ⟨z152, rfl, hz152, rfl⟩
      change G k n0 _ h145 _ _ 123 [.val (.ref fa), .val (.ref sa), .val (.ref ta), .val (.int 3), .val (.ref a98), .val (.ref a89), .val (.int 2), .val (.int 0), .val (.int 2), .val (.int 3), .val (.int 1), .val (.int 2), .val (.int 1), .val (.int 1)] [.int z152]
      refine G.if_gt K D99_10_123 (fun q153 => ?_) (fun q153 => ?_)
      · have e154 : ke 2 < ke x1 := hz152.mp q153
        refine G.iconst K D99_10_130 0 rfl ?_
        refine G.istore K D99_10_131 ([.val (.ref fa), .val (.ref sa), .val (.ref ta), .val (.int 3), .val (.ref a98), .val (.ref a89), .val (.int 2), .val (.int 0), .val (.int 2), .val (.int 3), .val (.int 1), .val (.int 2), .val (.int 1), .val (.int 0)]) rfl ?_
        refine G.aload K D99_10_133 rfl rfl ?_
        refine G.iload K D99_10_135 rfl ?_
        refine G.iload K D99_10_137 rfl ?_
        refine G.if_eq K D99_10_139 (fun _ => ?_) (fun q => absurd q (by decide))
        refine G.aload K D99_10_153 rfl rfl ?_
        refine G.iload K D99_10_155 rfl ?_
        refine G.iinc K D99_10_157 1 rfl rfl ([.val (.ref fa), .val (.ref sa), .val (.ref ta), .val (.int 3), .val (.ref a98), .val (.ref a89), .val (.int 2), .val (.int 0), .val (.int 2), .val (.int 3), .val (.int 1), .val (.int (2 + 1)), .val (.int 1), .val (.int 0)]) rfl ?_
        change G k n0 _ h145 _ _ 160 [.val (.ref fa), .val (.ref sa), .val (.ref ta), .val (.int 3), .val (.ref a98), .val (.ref a89), .val (.int 2), .val (.int 0), .val (.int 2), .val (.int 3), .val (.int 1), .val (.int 3), .val (.int 1), .val (.int 0)] [.int 2, .ref a98, .int 1, .ref a89]
        refine G.aload_i K H151 (i := 4) rfl (by decide) rfl D99_10_160 ?_
        refine G.astore_i K H151 (i := 3) rfl (by decide) (Nat.le_of_ble_eq_true rfl) D99_10_161 ?_
        intro h156 H156
        change Hp n0 h156 ((fa, Ia Z (lst 4 (fun _ => 0))) :: (sa, Ia Z (lst 4 (sF ke))) :: (ta, Ia Z (lst 4 (tF ke))) :: (a89, Ia Z [(Int32.ofNat x0), 2, 2]) :: (a98, Ia Z [Int32.ofNat x0, Int32.ofNat x1, 2]) :: σ) at H156
        refine G.iinc K D99_10_162 1 rfl rfl ([.val (.ref fa), .val (.ref sa), .val (.ref ta), .val (.int 3), .val (.ref a98), .val (.ref a89), .val (.int 2), .val (.int 0), .val (.int 2), .val (.int 3), .val (.int 1), .val (.int 3), .val (.int (1 + 1)), .val (.int 0)]) rfl ?_
        change G k n0 _ h156 _ _ 165 [.val (.ref fa), .val (.ref sa), .val (.ref ta), .val (.int 3), .val (.ref a98), .val (.ref a89), .val (.int 2), .val (.int 0), .val (.int 2), .val (.int 3), .val (.int 1), .val (.int 3), .val (.int 2), .val (.int 0)] []
        refine G.goto K D99_10_165 ?_
        refine G.iload K D99_10_86 rfl ?_
        refine G.iload K D99_10_88 rfl ?_
        refine G.icmp_ge K D99_10_90 (fun q => absurd q (by decide)) (fun _ => ?_)
        refine G.iload K D99_10_93 rfl ?_
        refine G.iload K D99_10_95 rfl ?_
        refine G.icmp_ge K D99_10_97 (fun _ => ?_) (fun q => absurd q (by decide))
        refine G.iconst K D99_10_126 1 rfl ?_
        refine G.goto K D99_10_127 ?_
        refine G.istore K D99_10_131 ([.val (.ref fa), .val (.ref sa), .val (.ref ta), .val (.int 3), .val (.ref a98), .val (.ref a89), .val (.int 2), .val (.int 0), .val (.int 2), .val (.int 3), .val (.int 1), .val (.int 3), .val (.int 2), .val (.int 1)]) rfl ?_
        refine G.aload K D99_10_133 rfl rfl ?_
        refine G.iload K D99_10_135 rfl ?_
        refine G.iload K D99_10_137 rfl ?_
        refine G.if_eq K D99_10_139 (fun q => absurd q (by decide)) (fun _ => ?_)
        refine G.aload K D99_10_142 rfl rfl ?_
        refine G.iload K D99_10_144 rfl ?_
        refine G.iinc K D99_10_146 1 rfl rfl ([.val (.ref fa), .val (.ref sa), .val (.ref ta), .val (.int 3), .val (.ref a98), .val (.ref a89), .val (.int 2), .val (.int 0), .val (.int 2), .val (.int 3), .val (.int (1 + 1)), .val (.int 3), .val (.int 2), .val (.int 1)]) rfl ?_
        change G k n0 _ h156 _ _ 149 [.val (.ref fa), .val (.ref sa), .val (.ref ta), .val (.int 3), .val (.ref a98), .val (.ref a89), .val (.int 2), .val (.int 0), .val (.int 2), .val (.int 3), .val (.int 2), .val (.int 3), .val (.int 2), .val (.int 1)] [.int 1, .ref a98, .int 2, .ref a89]
        refine G.aload_i K H156 (i := 4) rfl (by decide) rfl D99_10_149 ?_
        refine G.goto K D99_10_150 ?_
        refine G.astore_i K H156 (i := 3) rfl (by decide) (Nat.le_of_ble_eq_true rfl) D99_10_161 ?_
        intro h160 H160
        change Hp n0 h160 ((fa, Ia Z (lst 4 (fun _ => 0))) :: (sa, Ia Z (lst 4 (sF ke))) :: (ta, Ia Z (lst 4 (tF ke))) :: (a89, Ia Z [(Int32.ofNat x0), 2, (Int32.ofNat x1)]) :: (a98, Ia Z [Int32.ofNat x0, Int32.ofNat x1, 2]) :: σ) at H160
        refine G.iinc K D99_10_162 1 rfl rfl ([.val (.ref fa), .val (.ref sa), .val (.ref ta), .val (.int 3), .val (.ref a98), .val (.ref a89), .val (.int 2), .val (.int 0), .val (.int 2), .val (.int 3), .val (.int 2), .val (.int 3), .val (.int (2 + 1)), .val (.int 1)]) rfl ?_
        change G k n0 _ h160 _ _ 165 [.val (.ref fa), .val (.ref sa), .val (.ref ta), .val (.int 3), .val (.ref a98), .val (.ref a89), .val (.int 2), .val (.int 0), .val (.int 2), .val (.int 3), .val (.int 2), .val (.int 3), .val (.int 3), .val (.int 1)] []
        refine G.goto K D99_10_165 ?_
        refine G.iload K D99_10_86 rfl ?_
        refine G.iload K D99_10_88 rfl ?_
        refine G.icmp_ge K D99_10_90 (fun _ => ?_) (fun q => absurd q (by decide))
        refine G.iload K D99_10_168 rfl ?_
        refine G.iconst K D99_10_170 2 rfl ?_
        refine G.iload K D99_10_171 rfl ?_
        refine G.imul K D99_10_173 ?_
        change G k n0 _ h160 _ _ 174 [.val (.ref fa), .val (.ref sa), .val (.ref ta), .val (.int 3), .val (.ref a98), .val (.ref a89), .val (.int 2), .val (.int 0), .val (.int 2), .val (.int 3), .val (.int 2), .val (.int 3), .val (.int 3), .val (.int 1)] [.int 4, .int 0]
        refine G.iadd K D99_10_174 ?_
        change G k n0 _ h160 _ _ 175 [.val (.ref fa), .val (.ref sa), .val (.ref ta), .val (.int 3), .val (.ref a98), .val (.ref a89), .val (.int 2), .val (.int 0), .val (.int 2), .val (.int 3), .val (.int 2), .val (.int 3), .val (.int 3), .val (.int 1)] [.int 4]
        refine G.istore K D99_10_175 ([.val (.ref fa), .val (.ref sa), .val (.ref ta), .val (.int 3), .val (.ref a98), .val (.ref a89), .val (.int 2), .val (.int 4), .val (.int 2), .val (.int 3), .val (.int 2), .val (.int 3), .val (.int 3), .val (.int 1)]) rfl ?_
        refine G.goto K D99_10_177 ?_
        refine G.iload K D99_10_44 rfl ?_
        refine G.iloadN K D99_10_46 rfl ?_
        refine G.icmp_ge K D99_10_47 (fun _ => ?_) (fun q => absurd q (by decide))
        refine G.aload K D99_10_180 rfl rfl ?_
        refine G.astore K D99_10_182 rfl ([.val (.ref fa), .val (.ref sa), .val (.ref ta), .val (.int 3), .val (.ref a98), .val (.ref a89), .val (.int 2), .val (.ref a98), .val (.int 2), .val (.int 3), .val (.int 2), .val (.int 3), .val (.int 3), .val (.int 1)]) rfl ?_
        refine G.aload K D99_10_184 rfl rfl ?_
        refine G.astore K D99_10_186 rfl ([.val (.ref fa), .val (.ref sa), .val (.ref ta), .val (.int 3), .val (.ref a89), .val (.ref a89), .val (.int 2), .val (.ref a98), .val (.int 2), .val (.int 3), .val (.int 2), .val (.int 3), .val (.int 3), .val (.int 1)]) rfl ?_
        refine G.aload K D99_10_188 rfl rfl ?_
        refine G.astore K D99_10_190 rfl ([.val (.ref fa), .val (.ref sa), .val (.ref ta), .val (.int 3), .val (.ref a89), .val (.ref a98), .val (.int 2), .val (.ref a98), .val (.int 2), .val (.int 3), .val (.int 2), .val (.int 3), .val (.int 3), .val (.int 1)]) rfl ?_
        refine G.iload K D99_10_192 rfl ?_
        refine G.iconst K D99_10_194 2 rfl ?_
        refine G.imul K D99_10_195 ?_
        change G k n0 _ h160 _ _ 196 [.val (.ref fa), .val (.ref sa), .val (.ref ta), .val (.int 3), .val (.ref a89), .val (.ref a98), .val (.int 2), .val (.ref a98), .val (.int 2), .val (.int 3), .val (.int 2), .val (.int 3), .val (.int 3), .val (.int 1)] [.int 4]
        refine G.istore K D99_10_196 ([.val (.ref fa), .val (.ref sa), .val (.ref ta), .val (.int 3), .val (.ref a89), .val (.ref a98), .val (.int 4), .val (.ref a98), .val (.int 2), .val (.int 3), .val (.int 2), .val (.int 3), .val (.int 3), .val (.int 1)]) rfl ?_
        refine G.goto K D99_10_198 ?_
        refine G.iload K D99_10_35 rfl ?_
        refine G.iloadN K D99_10_37 rfl ?_
        refine G.icmp_ge K D99_10_38 (fun _ => ?_) (fun q => absurd q (by decide))
        refine G.aload K D99_10_201 rfl rfl ?_
        refine G.ret_ref K rfl rfl D99_10_203 ?_
        have H164 : Hp n0 h160 ((ta, Ia Z (lst 4 (tF ke))) :: (fa, Ia Z (lst 4 (fun _ => 0))) :: (sa, Ia Z (lst 4 (sF ke))) :: (a89, Ia Z [(Int32.ofNat x0), 2, (Int32.ofNat x1)]) :: (a98, Ia Z [Int32.ofNat x0, Int32.ofNat x1, 2]) :: σ) := H160.pull 2 rfl
        have H165 : Hp n0 h160 ((sa, Ia Z (lst 4 (sF ke))) :: (ta, Ia Z (lst 4 (tF ke))) :: (fa, Ia Z (lst 4 (fun _ => 0))) :: (a89, Ia Z [(Int32.ofNat x0), 2, (Int32.ofNat x1)]) :: (a98, Ia Z [Int32.ofNat x0, Int32.ofNat x1, 2]) :: σ) := H164.pull 2 rfl
        have H166 : Hp n0 h160 ((fa, Ia Z (lst 4 (fun _ => 0))) :: (sa, Ia Z (lst 4 (sF ke))) :: (ta, Ia Z (lst 4 (tF ke))) :: (a89, Ia Z [(Int32.ofNat x0), 2, (Int32.ofNat x1)]) :: (a98, Ia Z [Int32.ofNat x0, Int32.ofNat x1, 2]) :: σ) := H165.pull 2 rfl
        have H167 : Hp n0 h160 ((a89, Ia Z [(Int32.ofNat x0), 2, (Int32.ofNat x1)]) :: (fa, Ia Z (lst 4 (fun _ => 0))) :: (sa, Ia Z (lst 4 (sF ke))) :: (ta, Ia Z (lst 4 (tF ke))) :: (a98, Ia Z [Int32.ofNat x0, Int32.ofNat x1, 2]) :: σ) := H166.pull 3 rfl
        have H168 : Hp n0 h160 ((a89, Ia Z [(Int32.ofNat x0), 2, (Int32.ofNat x1)]) :: (fa, Ia Z (lst 4 (fun _ => 0))) :: (sa, Ia Z (lst 4 (sF ke))) :: (ta, Ia Z (lst 4 (tF ke))) :: σ) := H167.sub (List.Sublist.cons_cons _ (List.Sublist.cons_cons _ (List.Sublist.cons_cons _ (List.Sublist.cons_cons _ (List.Sublist.cons _ (List.Sublist.refl _))))))
        exact ⟨a89, x0, 2, x1, rfl, by omega, by omega, by omega, by omega, by omega, by omega, by omega, by omega, H168⟩
      · have e169 : ke x1 ≤ ke 2 := Nat.le_of_not_lt fun y => q153 (hz152.mpr y)
        refine G.iconst K D99_10_126 1 rfl ?_
        refine G.goto K D99_10_127 ?_
        refine G.istore K D99_10_131 ([.val (.ref fa), .val (.ref sa), .val (.ref ta), .val (.int 3), .val (.ref a98), .val (.ref a89), .val (.int 2), .val (.int 0), .val (.int 2), .val (.int 3), .val (.int 1), .val (.int 2), .val (.int 1), .val (.int 1)]) rfl ?_
        refine G.aload K D99_10_133 rfl rfl ?_
        refine G.iload K D99_10_135 rfl ?_
        refine G.iload K D99_10_137 rfl ?_
        refine G.if_eq K D99_10_139 (fun q => absurd q (by decide)) (fun _ => ?_)
        refine G.aload K D99_10_142 rfl rfl ?_
        refine G.iload K D99_10_144 rfl ?_
        refine G.iinc K D99_10_146 1 rfl rfl ([.val (.ref fa), .val (.ref sa), .val (.ref ta), .val (.int 3), .val (.ref a98), .val (.ref a89), .val (.int 2), .val (.int 0), .val (.int 2), .val (.int 3), .val (.int (1 + 1)), .val (.int 2), .val (.int 1), .val (.int 1)]) rfl ?_
        change G k n0 _ h145 _ _ 149 [.val (.ref fa), .val (.ref sa), .val (.ref ta), .val (.int 3), .val (.ref a98), .val (.ref a89), .val (.int 2), .val (.int 0), .val (.int 2), .val (.int 3), .val (.int 2), .val (.int 2), .val (.int 1), .val (.int 1)] [.int 1, .ref a98, .int 1, .ref a89]
        refine G.aload_i K H151 (i := 4) rfl (by decide) rfl D99_10_149 ?_
        refine G.goto K D99_10_150 ?_
        refine G.astore_i K H151 (i := 3) rfl (by decide) (Nat.le_of_ble_eq_true rfl) D99_10_161 ?_
        intro h171 H171
        change Hp n0 h171 ((fa, Ia Z (lst 4 (fun _ => 0))) :: (sa, Ia Z (lst 4 (sF ke))) :: (ta, Ia Z (lst 4 (tF ke))) :: (a89, Ia Z [(Int32.ofNat x0), (Int32.ofNat x1), 2]) :: (a98, Ia Z [Int32.ofNat x0, Int32.ofNat x1, 2]) :: σ) at H171
        refine G.iinc K D99_10_162 1 rfl rfl ([.val (.ref fa), .val (.ref sa), .val (.ref ta), .val (.int 3), .val (.ref a98), .val (.ref a89), .val (.int 2), .val (.int 0), .val (.int 2), .val (.int 3), .val (.int 2), .val (.int 2), .val (.int (1 + 1)), .val (.int 1)]) rfl ?_
        change G k n0 _ h171 _ _ 165 [.val (.ref fa), .val (.ref sa), .val (.ref ta), .val (.int 3), .val (.ref a98), .val (.ref a89), .val (.int 2), .val (.int 0), .val (.int 2), .val (.int 3), .val (.int 2), .val (.int 2), .val (.int 2), .val (.int 1)] []
        refine G.goto K D99_10_165 ?_
        refine G.iload K D99_10_86 rfl ?_
        refine G.iload K D99_10_88 rfl ?_
        refine G.icmp_ge K D99_10_90 (fun q => absurd q (by decide)) (fun _ => ?_)
        refine G.iload K D99_10_93 rfl ?_
        refine G.iload K D99_10_95 rfl ?_
        refine G.icmp_ge K D99_10_97 (fun q => absurd q (by decide)) (fun _ => ?_)
        refine G.iload K D99_10_100 rfl ?_
        refine G.iload K D99_10_102 rfl ?_
        refine G.icmp_ge K D99_10_104 (fun _ => ?_) (fun q => absurd q (by decide))
        refine G.iconst K D99_10_130 0 rfl ?_
        refine G.istore K D99_10_131 ([.val (.ref fa), .val (.ref sa), .val (.ref ta), .val (.int 3), .val (.ref a98), .val (.ref a89), .val (.int 2), .val (.int 0), .val (.int 2), .val (.int 3), .val (.int 2), .val (.int 2), .val (.int 2), .val (.int 0)]) rfl ?_
        refine G.aload K D99_10_133 rfl rfl ?_
        refine G.iload K D99_10_135 rfl ?_
        refine G.iload K D99_10_137 rfl ?_
        refine G.if_eq K D99_10_139 (fun _ => ?_) (fun q => absurd q (by decide))
        refine G.aload K D99_10_153 rfl rfl ?_
        refine G.iload K D99_10_155 rfl ?_
        refine G.iinc K D99_10_157 1 rfl rfl ([.val (.ref fa), .val (.ref sa), .val (.ref ta), .val (.int 3), .val (.ref a98), .val (.ref a89), .val (.int 2), .val (.int 0), .val (.int 2), .val (.int 3), .val (.int 2), .val (.int (2 + 1)), .val (.int 2), .val (.int 0)]) rfl ?_
        change G k n0 _ h171 _ _ 160 [.val (.ref fa), .val (.ref sa), .val (.ref ta), .val (.int 3), .val (.ref a98), .val (.ref a89), .val (.int 2), .val (.int 0), .val (.int 2), .val (.int 3), .val (.int 2), .val (.int 3), .val (.int 2), .val (.int 0)] [.int 2, .ref a98, .int 2, .ref a89]
        refine G.aload_i K H171 (i := 4) rfl (by decide) rfl D99_10_160 ?_
        refine G.astore_i K H171 (i := 3) rfl (by decide) (Nat.le_of_ble_eq_true rfl) D99_10_161 ?_
        intro h176 H176
        change Hp n0 h176 ((fa, Ia Z (lst 4 (fun _ => 0))) :: (sa, Ia Z (lst 4 (sF ke))) :: (ta, Ia Z (lst 4 (tF ke))) :: (a89, Ia Z [(Int32.ofNat x0), (Int32.ofNat x1), 2]) :: (a98, Ia Z [Int32.ofNat x0, Int32.ofNat x1, 2]) :: σ) at H176
        refine G.iinc K D99_10_162 1 rfl rfl ([.val (.ref fa), .val (.ref sa), .val (.ref ta), .val (.int 3), .val (.ref a98), .val (.ref a89), .val (.int 2), .val (.int 0), .val (.int 2), .val (.int 3), .val (.int 2), .val (.int 3), .val (.int (2 + 1)), .val (.int 0)]) rfl ?_
        change G k n0 _ h176 _ _ 165 [.val (.ref fa), .val (.ref sa), .val (.ref ta), .val (.int 3), .val (.ref a98), .val (.ref a89), .val (.int 2), .val (.int 0), .val (.int 2), .val (.int 3), .val (.int 2), .val (.int 3), .val (.int 3), .val (.int 0)] []
        refine G.goto K D99_10_165 ?_
        refine G.iload K D99_10_86 rfl ?_
        refine G.iload K D99_10_88 rfl ?_
        refine G.icmp_ge K D99_10_90 (fun _ => ?_) (fun q => absurd q (by decide))
        refine G.iload K D99_10_168 rfl ?_
        refine G.iconst K D99_10_170 2 rfl ?_
        refine G.iload K D99_10_171 rfl ?_
        refine G.imul K D99_10_173 ?_
        change G k n0 _ h176 _ _ 174 [.val (.ref fa), .val (.ref sa), .val (.ref ta), .val (.int 3), .val (.ref a98), .val (.ref a89), .val (.int 2), .val (.int 0), .val (.int 2), .val (.int 3), .val (.int 2), .val (.int 3), .val (.int 3), .val (.int 0)] [.int 4, .int 0]
        refine G.iadd K D99_10_174 ?_
        change G k n0 _ h176 _ _ 175 [.val (.ref fa), .val (.ref sa), .val (.ref ta), .val (.int 3), .val (.ref a98), .val (.ref a89), .val (.int 2), .val (.int 0), .val (.int 2), .val (.int 3), .val (.int 2), .val (.int 3), .val (.int 3), .val (.int 0)] [.int 4]
        refine G.istore K D99_10_175 ([.val (.ref fa), .val (.ref sa), .val (.ref ta), .val (.int 3), .val (.ref a98), .val (.ref a89), .val (.int 2), .val (.int 4), .val (.int 2), .val (.int 3), .val (.int 2), .val (.int 3), .val (.int 3), .val (.int 0)]) rfl ?_
        refine G.goto K D99_10_177 ?_
        refine G.iload K D99_10_44 rfl ?_
        refine G.iloadN K D99_10_46 rfl ?_
        refine G.icmp_ge K D99_10_47 (fun _ => ?_) (fun q => absurd q (by decide))
        refine G.aload K D99_10_180 rfl rfl ?_
        refine G.astore K D99_10_182 rfl ([.val (.ref fa), .val (.ref sa), .val (.ref ta), .val (.int 3), .val (.ref a98), .val (.ref a89), .val (.int 2), .val (.ref a98), .val (.int 2), .val (.int 3), .val (.int 2), .val (.int 3), .val (.int 3), .val (.int 0)]) rfl ?_
        refine G.aload K D99_10_184 rfl rfl ?_
        refine G.astore K D99_10_186 rfl ([.val (.ref fa), .val (.ref sa), .val (.ref ta), .val (.int 3), .val (.ref a89), .val (.ref a89), .val (.int 2), .val (.ref a98), .val (.int 2), .val (.int 3), .val (.int 2), .val (.int 3), .val (.int 3), .val (.int 0)]) rfl ?_
        refine G.aload K D99_10_188 rfl rfl ?_
        refine G.astore K D99_10_190 rfl ([.val (.ref fa), .val (.ref sa), .val (.ref ta), .val (.int 3), .val (.ref a89), .val (.ref a98), .val (.int 2), .val (.ref a98), .val (.int 2), .val (.int 3), .val (.int 2), .val (.int 3), .val (.int 3), .val (.int 0)]) rfl ?_
        refine G.iload K D99_10_192 rfl ?_
        refine G.iconst K D99_10_194 2 rfl ?_
        refine G.imul K D99_10_195 ?_
        change G k n0 _ h176 _ _ 196 [.val (.ref fa), .val (.ref sa), .val (.ref ta), .val (.int 3), .val (.ref a89), .val (.ref a98), .val (.int 2), .val (.ref a98), .val (.int 2), .val (.int 3), .val (.int 2), .val (.int 3), .val (.int 3), .val (.int 0)] [.int 4]
        refine G.istore K D99_10_196 ([.val (.ref fa), .val (.ref sa), .val (.ref ta), .val (.int 3), .val (.ref a89), .val (.ref a98), .val (.int 4), .val (.ref a98), .val (.int 2), .val (.int 3), .val (.int 2), .val (.int 3), .val (.int 3), .val (.int 0)]) rfl ?_
        refine G.goto K D99_10_198 ?_
        refine G.iload K D99_10_35 rfl ?_
        refine G.iloadN K D99_10_37 rfl ?_
        refine G.icmp_ge K D99_10_38 (fun _ => ?_) (fun q => absurd q (by decide))
        refine G.aload K D99_10_201 rfl rfl ?_
        refine G.ret_ref K rfl rfl D99_10_203 ?_
        have H180 : Hp n0 h176 ((ta, Ia Z (lst 4 (tF ke))) :: (fa, Ia Z (lst 4 (fun _ => 0))) :: (sa, Ia Z (lst 4 (sF ke))) :: (a89, Ia Z [(Int32.ofNat x0), (Int32.ofNat x1), 2]) :: (a98, Ia Z [Int32.ofNat x0, Int32.ofNat x1, 2]) :: σ) := H176.pull 2 rfl
        have H181 : Hp n0 h176 ((sa, Ia Z (lst 4 (sF ke))) :: (ta, Ia Z (lst 4 (tF ke))) :: (fa, Ia Z (lst 4 (fun _ => 0))) :: (a89, Ia Z [(Int32.ofNat x0), (Int32.ofNat x1), 2]) :: (a98, Ia Z [Int32.ofNat x0, Int32.ofNat x1, 2]) :: σ) := H180.pull 2 rfl
        have H182 : Hp n0 h176 ((fa, Ia Z (lst 4 (fun _ => 0))) :: (sa, Ia Z (lst 4 (sF ke))) :: (ta, Ia Z (lst 4 (tF ke))) :: (a89, Ia Z [(Int32.ofNat x0), (Int32.ofNat x1), 2]) :: (a98, Ia Z [Int32.ofNat x0, Int32.ofNat x1, 2]) :: σ) := H181.pull 2 rfl
        have H183 : Hp n0 h176 ((a89, Ia Z [(Int32.ofNat x0), (Int32.ofNat x1), 2]) :: (fa, Ia Z (lst 4 (fun _ => 0))) :: (sa, Ia Z (lst 4 (sF ke))) :: (ta, Ia Z (lst 4 (tF ke))) :: (a98, Ia Z [Int32.ofNat x0, Int32.ofNat x1, 2]) :: σ) := H182.pull 3 rfl
        have H184 : Hp n0 h176 ((a89, Ia Z [(Int32.ofNat x0), (Int32.ofNat x1), 2]) :: (fa, Ia Z (lst 4 (fun _ => 0))) :: (sa, Ia Z (lst 4 (sF ke))) :: (ta, Ia Z (lst 4 (tF ke))) :: σ) := H183.sub (List.Sublist.cons_cons _ (List.Sublist.cons_cons _ (List.Sublist.cons_cons _ (List.Sublist.cons_cons _ (List.Sublist.cons _ (List.Sublist.refl _))))))
        exact ⟨a89, x0, x1, 2, rfl, by omega, by omega, by omega, by omega, by omega, by omega, by omega, by omega, H184⟩
  refine G.iload K D99_10_82 rfl ?_
  refine G.istore K D99_10_84 ([.val (.ref fa), .val (.ref sa), .val (.ref ta), .val (.int 3), .val (.ref a89), .val (.ref a98), .val (.int 1), .val (.int 0), .val (.int 1), .val (.int 2), .val (.int 0), .val (.int 1), .val (.int 0), .unset]) rfl ?_
  refine G.iload K D99_10_86 rfl ?_
  refine G.iload K D99_10_88 rfl ?_
  refine G.icmp_ge K D99_10_90 (fun q => absurd q (by decide)) (fun _ => ?_)
  refine G.iload K D99_10_93 rfl ?_
  refine G.iload K D99_10_95 rfl ?_
  refine G.icmp_ge K D99_10_97 (fun q => absurd q (by decide)) (fun _ => ?_)
  refine G.iload K D99_10_100 rfl ?_
  refine G.iload K D99_10_102 rfl ?_
  refine G.icmp_ge K D99_10_104 (fun q => absurd q (by decide)) (fun _ => ?_)
  refine G.aloadN K D99_10_107 rfl rfl ?_
  refine G.aloadN K D99_10_108 rfl rfl ?_
  refine G.aloadN K D99_10_109 rfl rfl ?_
  refine G.aload K D99_10_110 rfl rfl ?_
  refine G.iload K D99_10_112 rfl ?_
  refine G.aload_i K H105 (i := 3) rfl (by decide) rfl D99_10_114 ?_
  refine G.aload K D99_10_115 rfl rfl ?_
  refine G.iload K D99_10_117 rfl ?_
  refine G.aload_i K H105 (i := 3) rfl (by decide) rfl D99_10_119 ?_
  have H188 : Hp n0 h99 ((ta, Ia Z (lst 4 (tF ke))) :: (fa, Ia Z (lst 4 (fun _ => 0))) :: (sa, Ia Z (lst 4 (sF ke))) :: (a89, Ia Z [0, 1, 2]) :: (a98, Ia Z [0, 0, 0]) :: σ) := H105.pull 2 rfl
  have H189 : Hp n0 h99 ((sa, Ia Z (lst 4 (sF ke))) :: (ta, Ia Z (lst 4 (tF ke))) :: (fa, Ia Z (lst 4 (fun _ => 0))) :: (a89, Ia Z [0, 1, 2]) :: (a98, Ia Z [0, 0, 0]) :: σ) := H188.pull 2 rfl
  have H190 : Hp n0 h99 ((fa, Ia Z (lst 4 (fun _ => 0))) :: (sa, Ia Z (lst 4 (sF ke))) :: (ta, Ia Z (lst 4 (tF ke))) :: (a89, Ia Z [0, 1, 2]) :: (a98, Ia Z [0, 0, 0]) :: σ) := H189.pull 2 rfl
  refine G.callS K hl (wd hw 45 rfl) (wd hw 46 rfl) (wd hw 3 rfl) (wd hw 47 rfl) (by decide) pd_1 (ct_cmp l Z a0 hw n0 h99 fa sa ta ke 0 1 ((a89, Ia Z [0, 1, 2]) :: (a98, Ia Z [0, 0, 0]) :: σ) hK (by omega) (by omega) H190) 0 rfl (by decide) (by decide) (by decide) (by decide) rfl rfl [.int 1, .int 0, .ref ta, .ref sa, .ref fa] rfl D99_10_120 ?_
  rintro _ _ ⟨z191, rfl, hz191, rfl⟩
  change G k n0 _ h99 _ _ 123 [.val (.ref fa), .val (.ref sa), .val (.ref ta), .val (.int 3), .val (.ref a89), .val (.ref a98), .val (.int 1), .val (.int 0), .val (.int 1), .val (.int 2), .val (.int 0), .val (.int 1), .val (.int 0), .unset] [.int z191]
  refine G.if_gt K D99_10_123 (fun q192 => ?_) (fun q192 => ?_)
  · have e193 : ke 1 < ke 0 := hz191.mp q192
    refine G.iconst K D99_10_130 0 rfl ?_
    refine G.istore K D99_10_131 ([.val (.ref fa), .val (.ref sa), .val (.ref ta), .val (.int 3), .val (.ref a89), .val (.ref a98), .val (.int 1), .val (.int 0), .val (.int 1), .val (.int 2), .val (.int 0), .val (.int 1), .val (.int 0), .val (.int 0)]) rfl ?_
    refine G.aload K D99_10_133 rfl rfl ?_
    refine G.iload K D99_10_135 rfl ?_
    refine G.iload K D99_10_137 rfl ?_
    refine G.if_eq K D99_10_139 (fun _ => ?_) (fun q => absurd q (by decide))
    refine G.aload K D99_10_153 rfl rfl ?_
    refine G.iload K D99_10_155 rfl ?_
    refine G.iinc K D99_10_157 1 rfl rfl ([.val (.ref fa), .val (.ref sa), .val (.ref ta), .val (.int 3), .val (.ref a89), .val (.ref a98), .val (.int 1), .val (.int 0), .val (.int 1), .val (.int 2), .val (.int 0), .val (.int (1 + 1)), .val (.int 0), .val (.int 0)]) rfl ?_
    change G k n0 _ h99 _ _ 160 [.val (.ref fa), .val (.ref sa), .val (.ref ta), .val (.int 3), .val (.ref a89), .val (.ref a98), .val (.int 1), .val (.int 0), .val (.int 1), .val (.int 2), .val (.int 0), .val (.int 2), .val (.int 0), .val (.int 0)] [.int 1, .ref a89, .int 0, .ref a98]
    refine G.aload_i K H190 (i := 3) rfl (by decide) rfl D99_10_160 ?_
    refine G.astore_i K H190 (i := 4) rfl (by decide) (Nat.le_of_ble_eq_true rfl) D99_10_161 ?_
    intro h195 H195
    change Hp n0 h195 ((fa, Ia Z (lst 4 (fun _ => 0))) :: (sa, Ia Z (lst 4 (sF ke))) :: (ta, Ia Z (lst 4 (tF ke))) :: (a89, Ia Z [0, 1, 2]) :: (a98, Ia Z [1, 0, 0]) :: σ) at H195
    refine G.iinc K D99_10_162 1 rfl rfl ([.val (.ref fa), .val (.ref sa), .val (.ref ta), .val (.int 3), .val (.ref a89), .val (.ref a98), .val (.int 1), .val (.int 0), .val (.int 1), .val (.int 2), .val (.int 0), .val (.int 2), .val (.int (0 + 1)), .val (.int 0)]) rfl ?_
    change G k n0 _ h195 _ _ 165 [.val (.ref fa), .val (.ref sa), .val (.ref ta), .val (.int 3), .val (.ref a89), .val (.ref a98), .val (.int 1), .val (.int 0), .val (.int 1), .val (.int 2), .val (.int 0), .val (.int 2), .val (.int 1), .val (.int 0)] []
    refine G.goto K D99_10_165 ?_
    refine G.iload K D99_10_86 rfl ?_
    refine G.iload K D99_10_88 rfl ?_
    refine G.icmp_ge K D99_10_90 (fun q => absurd q (by decide)) (fun _ => ?_)
    refine G.iload K D99_10_93 rfl ?_
    refine G.iload K D99_10_95 rfl ?_
    refine G.icmp_ge K D99_10_97 (fun _ => ?_) (fun q => absurd q (by decide))
    refine G.iconst K D99_10_126 1 rfl ?_
    refine G.goto K D99_10_127 ?_
    refine G.istore K D99_10_131 ([.val (.ref fa), .val (.ref sa), .val (.ref ta), .val (.int 3), .val (.ref a89), .val (.ref a98), .val (.int 1), .val (.int 0), .val (.int 1), .val (.int 2), .val (.int 0), .val (.int 2), .val (.int 1), .val (.int 1)]) rfl ?_
    refine G.aload K D99_10_133 rfl rfl ?_
    refine G.iload K D99_10_135 rfl ?_
    refine G.iload K D99_10_137 rfl ?_
    refine G.if_eq K D99_10_139 (fun q => absurd q (by decide)) (fun _ => ?_)
    refine G.aload K D99_10_142 rfl rfl ?_
    refine G.iload K D99_10_144 rfl ?_
    refine G.iinc K D99_10_146 1 rfl rfl ([.val (.ref fa), .val (.ref sa), .val (.ref ta), .val (.int 3), .val (.ref a89), .val (.ref a98), .val (.int 1), .val (.int 0), .val (.int 1), .val (.int 2), .val (.int (0 + 1)), .val (.int 2), .val (.int 1), .val (.int 1)]) rfl ?_
    change G k n0 _ h195 _ _ 149 [.val (.ref fa), .val (.ref sa), .val (.ref ta), .val (.int 3), .val (.ref a89), .val (.ref a98), .val (.int 1), .val (.int 0), .val (.int 1), .val (.int 2), .val (.int 1), .val (.int 2), .val (.int 1), .val (.int 1)] [.int 0, .ref a89, .int 1, .ref a98]
    refine G.aload_i K H195 (i := 3) rfl (by decide) rfl D99_10_149 ?_
    refine G.goto K D99_10_150 ?_
    refine G.astore_i K H195 (i := 4) rfl (by decide) (Nat.le_of_ble_eq_true rfl) D99_10_161 ?_
    intro h199 H199
    change Hp n0 h199 ((fa, Ia Z (lst 4 (fun _ => 0))) :: (sa, Ia Z (lst 4 (sF ke))) :: (ta, Ia Z (lst 4 (tF ke))) :: (a89, Ia Z [0, 1, 2]) :: (a98, Ia Z [1, 0, 0]) :: σ) at H199
    refine G.iinc K D99_10_162 1 rfl rfl ([.val (.ref fa), .val (.ref sa), .val (.ref ta), .val (.int 3), .val (.ref a89), .val (.ref a98), .val (.int 1), .val (.int 0), .val (.int 1), .val (.int 2), .val (.int 1), .val (.int 2), .val (.int (1 + 1)), .val (.int 1)]) rfl ?_
    change G k n0 _ h199 _ _ 165 [.val (.ref fa), .val (.ref sa), .val (.ref ta), .val (.int 3), .val (.ref a89), .val (.ref a98), .val (.int 1), .val (.int 0), .val (.int 1), .val (.int 2), .val (.int 1), .val (.int 2), .val (.int 2), .val (.int 1)] []
    refine G.goto K D99_10_165 ?_
    refine G.iload K D99_10_86 rfl ?_
    refine G.iload K D99_10_88 rfl ?_
    refine G.icmp_ge K D99_10_90 (fun _ => ?_) (fun q => absurd q (by decide))
    have H201 : Hp n0 h199 ((a98, Ia Z [1, 0, 0]) :: (fa, Ia Z (lst 4 (fun _ => 0))) :: (sa, Ia Z (lst 4 (sF ke))) :: (ta, Ia Z (lst 4 (tF ke))) :: (a89, Ia Z [0, 1, 2]) :: σ) := H199.pull 4 rfl
    have H202 : Hp n0 h199 ((a89, Ia Z [0, 1, 2]) :: (a98, Ia Z [1, 0, 0]) :: (fa, Ia Z (lst 4 (fun _ => 0))) :: (sa, Ia Z (lst 4 (sF ke))) :: (ta, Ia Z (lst 4 (tF ke))) :: σ) := H201.pull 4 rfl
    have H203 : Hp n0 h199 ((ta, Ia Z (lst 4 (tF ke))) :: (a89, Ia Z [0, 1, 2]) :: (a98, Ia Z [1, 0, 0]) :: (fa, Ia Z (lst 4 (fun _ => 0))) :: (sa, Ia Z (lst 4 (sF ke))) :: σ) := H202.pull 4 rfl
    have H204 : Hp n0 h199 ((sa, Ia Z (lst 4 (sF ke))) :: (ta, Ia Z (lst 4 (tF ke))) :: (a89, Ia Z [0, 1, 2]) :: (a98, Ia Z [1, 0, 0]) :: (fa, Ia Z (lst 4 (fun _ => 0))) :: σ) := H203.pull 4 rfl
    have H205 : Hp n0 h199 ((fa, Ia Z (lst 4 (fun _ => 0))) :: (sa, Ia Z (lst 4 (sF ke))) :: (ta, Ia Z (lst 4 (tF ke))) :: (a89, Ia Z [0, 1, 2]) :: (a98, Ia Z [1, 0, 0]) :: σ) := H204.pull 4 rfl
    exact T106 1 0 _ _ (by omega) H205
  · have e206 : ke 0 ≤ ke 1 := Nat.le_of_not_lt fun y => q192 (hz191.mpr y)
    refine G.iconst K D99_10_126 1 rfl ?_
    refine G.goto K D99_10_127 ?_
    refine G.istore K D99_10_131 ([.val (.ref fa), .val (.ref sa), .val (.ref ta), .val (.int 3), .val (.ref a89), .val (.ref a98), .val (.int 1), .val (.int 0), .val (.int 1), .val (.int 2), .val (.int 0), .val (.int 1), .val (.int 0), .val (.int 1)]) rfl ?_
    refine G.aload K D99_10_133 rfl rfl ?_
    refine G.iload K D99_10_135 rfl ?_
    refine G.iload K D99_10_137 rfl ?_
    refine G.if_eq K D99_10_139 (fun q => absurd q (by decide)) (fun _ => ?_)
    refine G.aload K D99_10_142 rfl rfl ?_
    refine G.iload K D99_10_144 rfl ?_
    refine G.iinc K D99_10_146 1 rfl rfl ([.val (.ref fa), .val (.ref sa), .val (.ref ta), .val (.int 3), .val (.ref a89), .val (.ref a98), .val (.int 1), .val (.int 0), .val (.int 1), .val (.int 2), .val (.int (0 + 1)), .val (.int 1), .val (.int 0), .val (.int 1)]) rfl ?_
    change G k n0 _ h99 _ _ 149 [.val (.ref fa), .val (.ref sa), .val (.ref ta), .val (.int 3), .val (.ref a89), .val (.ref a98), .val (.int 1), .val (.int 0), .val (.int 1), .val (.int 2), .val (.int 1), .val (.int 1), .val (.int 0), .val (.int 1)] [.int 0, .ref a89, .int 0, .ref a98]
    refine G.aload_i K H190 (i := 3) rfl (by decide) rfl D99_10_149 ?_
    refine G.goto K D99_10_150 ?_
    refine G.astore_i K H190 (i := 4) rfl (by decide) (Nat.le_of_ble_eq_true rfl) D99_10_161 ?_
    intro h208 H208
    change Hp n0 h208 ((fa, Ia Z (lst 4 (fun _ => 0))) :: (sa, Ia Z (lst 4 (sF ke))) :: (ta, Ia Z (lst 4 (tF ke))) :: (a89, Ia Z [0, 1, 2]) :: (a98, Ia Z [0, 0, 0]) :: σ) at H208
    refine G.iinc K D99_10_162 1 rfl rfl ([.val (.ref fa), .val (.ref sa), .val (.ref ta), .val (.int 3), .val (.ref a89), .val (.ref a98), .val (.int 1), .val (.int 0), .val (.int 1), .val (.int 2), .val (.int 1), .val (.int 1), .val (.int (0 + 1)), .val (.int 1)]) rfl ?_
    change G k n0 _ h208 _ _ 165 [.val (.ref fa), .val (.ref sa), .val (.ref ta), .val (.int 3), .val (.ref a89), .val (.ref a98), .val (.int 1), .val (.int 0), .val (.int 1), .val (.int 2), .val (.int 1), .val (.int 1), .val (.int 1), .val (.int 1)] []
    refine G.goto K D99_10_165 ?_
    refine G.iload K D99_10_86 rfl ?_
    refine G.iload K D99_10_88 rfl ?_
    refine G.icmp_ge K D99_10_90 (fun q => absurd q (by decide)) (fun _ => ?_)
    refine G.iload K D99_10_93 rfl ?_
    refine G.iload K D99_10_95 rfl ?_
    refine G.icmp_ge K D99_10_97 (fun q => absurd q (by decide)) (fun _ => ?_)
    refine G.iload K D99_10_100 rfl ?_
    refine G.iload K D99_10_102 rfl ?_
    refine G.icmp_ge K D99_10_104 (fun _ => ?_) (fun q => absurd q (by decide))
    refine G.iconst K D99_10_130 0 rfl ?_
    refine G.istore K D99_10_131 ([.val (.ref fa), .val (.ref sa), .val (.ref ta), .val (.int 3), .val (.ref a89), .val (.ref a98), .val (.int 1), .val (.int 0), .val (.int 1), .val (.int 2), .val (.int 1), .val (.int 1), .val (.int 1), .val (.int 0)]) rfl ?_
    refine G.aload K D99_10_133 rfl rfl ?_
    refine G.iload K D99_10_135 rfl ?_
    refine G.iload K D99_10_137 rfl ?_
    refine G.if_eq K D99_10_139 (fun _ => ?_) (fun q => absurd q (by decide))
    refine G.aload K D99_10_153 rfl rfl ?_
    refine G.iload K D99_10_155 rfl ?_
    refine G.iinc K D99_10_157 1 rfl rfl ([.val (.ref fa), .val (.ref sa), .val (.ref ta), .val (.int 3), .val (.ref a89), .val (.ref a98), .val (.int 1), .val (.int 0), .val (.int 1), .val (.int 2), .val (.int 1), .val (.int (1 + 1)), .val (.int 1), .val (.int 0)]) rfl ?_
    change G k n0 _ h208 _ _ 160 [.val (.ref fa), .val (.ref sa), .val (.ref ta), .val (.int 3), .val (.ref a89), .val (.ref a98), .val (.int 1), .val (.int 0), .val (.int 1), .val (.int 2), .val (.int 1), .val (.int 2), .val (.int 1), .val (.int 0)] [.int 1, .ref a89, .int 1, .ref a98]
    refine G.aload_i K H208 (i := 3) rfl (by decide) rfl D99_10_160 ?_
    refine G.astore_i K H208 (i := 4) rfl (by decide) (Nat.le_of_ble_eq_true rfl) D99_10_161 ?_
    intro h213 H213
    change Hp n0 h213 ((fa, Ia Z (lst 4 (fun _ => 0))) :: (sa, Ia Z (lst 4 (sF ke))) :: (ta, Ia Z (lst 4 (tF ke))) :: (a89, Ia Z [0, 1, 2]) :: (a98, Ia Z [0, 1, 0]) :: σ) at H213
    refine G.iinc K D99_10_162 1 rfl rfl ([.val (.ref fa), .val (.ref sa), .val (.ref ta), .val (.int 3), .val (.ref a89), .val (.ref a98), .val (.int 1), .val (.int 0), .val (.int 1), .val (.int 2), .val (.int 1), .val (.int 2), .val (.int (1 + 1)), .val (.int 0)]) rfl ?_
    change G k n0 _ h213 _ _ 165 [.val (.ref fa), .val (.ref sa), .val (.ref ta), .val (.int 3), .val (.ref a89), .val (.ref a98), .val (.int 1), .val (.int 0), .val (.int 1), .val (.int 2), .val (.int 1), .val (.int 2), .val (.int 2), .val (.int 0)] []
    refine G.goto K D99_10_165 ?_
    refine G.iload K D99_10_86 rfl ?_
    refine G.iload K D99_10_88 rfl ?_
    refine G.icmp_ge K D99_10_90 (fun _ => ?_) (fun q => absurd q (by decide))
    have H215 : Hp n0 h213 ((a98, Ia Z [0, 1, 0]) :: (fa, Ia Z (lst 4 (fun _ => 0))) :: (sa, Ia Z (lst 4 (sF ke))) :: (ta, Ia Z (lst 4 (tF ke))) :: (a89, Ia Z [0, 1, 2]) :: σ) := H213.pull 4 rfl
    have H216 : Hp n0 h213 ((a89, Ia Z [0, 1, 2]) :: (a98, Ia Z [0, 1, 0]) :: (fa, Ia Z (lst 4 (fun _ => 0))) :: (sa, Ia Z (lst 4 (sF ke))) :: (ta, Ia Z (lst 4 (tF ke))) :: σ) := H215.pull 4 rfl
    have H217 : Hp n0 h213 ((ta, Ia Z (lst 4 (tF ke))) :: (a89, Ia Z [0, 1, 2]) :: (a98, Ia Z [0, 1, 0]) :: (fa, Ia Z (lst 4 (fun _ => 0))) :: (sa, Ia Z (lst 4 (sF ke))) :: σ) := H216.pull 4 rfl
    have H218 : Hp n0 h213 ((sa, Ia Z (lst 4 (sF ke))) :: (ta, Ia Z (lst 4 (tF ke))) :: (a89, Ia Z [0, 1, 2]) :: (a98, Ia Z [0, 1, 0]) :: (fa, Ia Z (lst 4 (fun _ => 0))) :: σ) := H217.pull 4 rfl
    have H219 : Hp n0 h213 ((fa, Ia Z (lst 4 (fun _ => 0))) :: (sa, Ia Z (lst 4 (sF ke))) :: (ta, Ia Z (lst 4 (tF ke))) :: (a89, Ia Z [0, 1, 2]) :: (a98, Ia Z [0, 1, 0]) :: σ) := H218.pull 4 rfl
    exact T106 0 1 _ _ (by omega) H219
set_option maxRecDepth 65536 in
set_option maxHeartbeats 40000000 in
theorem ct_sort4 (l : Launch) (Z : State) (a0 : Array Value) (hw : ∀ d ∈ tables_1, d.before a0 Z = true) (n0 : Nat) (h : Heap) (fa sa ta : Addr) (ke : Nat → Nat) (σ : List Ch) (hK : ∀ i, ke i < 256) (H : Hp n0 h ((fa, Ia Z (lst 4 (fun _ => 0))) :: (sa, Ia Z (lst 4 (sF ke))) :: (ta, Ia Z (lst 4 (tF ke))) :: σ)) :
    Ct l Z n0 (⟨"com/example/rankwise/rankwise/store/TripleIndex", "sortedOrder", "([I[I[II)[I"⟩ : MethodName) prog_99_method_10_code 14 (some (.array .int)) ({ frames := 2, cells := 2, slots := 8, locals := 31 } : Room) [.ref fa, .ref sa, .ref ta, .int 4] h (fun v h' => ∃ b : Addr, ∃ y0 y1 y2 y3 : Nat, v = some (.ref b) ∧ y0 < 4 ∧ y1 < 4 ∧ y2 < 4 ∧ y3 < 4 ∧ ¬ y0 = y1 ∧ ¬ y0 = y2 ∧ ¬ y0 = y3 ∧ ¬ y1 = y2 ∧ ¬ y1 = y3 ∧ ¬ y2 = y3 ∧ ke y0 ≤ ke y1 ∧ ke y1 ≤ ke y2 ∧ ke y2 ≤ ke y3 ∧ Hp n0 h' ((b, Ia Z [Int32.ofNat y0, Int32.ofNat y1, Int32.ofNat y2, Int32.ofNat y3]) :: (fa, Ia Z (lst 4 (fun _ => 0))) :: (sa, Ia Z (lst 4 (sF ke))) :: (ta, Ia Z (lst 4 (tF ke))) :: σ)) := by
  refine Ct.intro (plainFor_of_name pn_0) [.val (.ref fa), .val (.ref sa), .val (.ref ta), .val (.int 4), .unset, .unset, .unset, .unset, .unset, .unset, .unset, .unset, .unset, .unset] (fun m => by first | (simp [entryFrame, mkF, argsToLocals, Value.category]; done) | (simp [entryFrame, mkF, argsToLocals, Value.category, maxLocals]; done) | rfl) ?_
  intro k hl K
  replace K : Ok k Z n0 "com/example/rankwise/rankwise/store/TripleIndex" ({ frames := 2, cells := 2, slots := 8, locals := 31 } : Room) prog_99_method_10_code 14 (some (.array .int)) "sortedOrder" := K
  refine G.iloadN K D99_10_0 rfl ?_
  refine G.newarr_i K (wd hw 0 rfl) H (by decide) 4 (by decide) (by decide) (by decide) (by decide) D99_10_1 ?_
  intro a220 h221 H221
  change Hp n0 h221 ((a220, Ia Z [0, 0, 0, 0]) :: (fa, Ia Z (lst 4 (fun _ => 0))) :: (sa, Ia Z (lst 4 (sF ke))) :: (ta, Ia Z (lst 4 (tF ke))) :: σ) at H221
  refine G.astore K D99_10_3 rfl ([.val (.ref fa), .val (.ref sa), .val (.ref ta), .val (.int 4), .val (.ref a220), .unset, .unset, .unset, .unset, .unset, .unset, .unset, .unset, .unset]) rfl ?_
  refine G.iconst K D99_10_5 0 rfl ?_
  refine G.istore K D99_10_6 ([.val (.ref fa), .val (.ref sa), .val (.ref ta), .val (.int 4), .val (.ref a220), .val (.int 0), .unset, .unset, .unset, .unset, .unset, .unset, .unset, .unset]) rfl ?_
  refine G.iload K D99_10_8 rfl ?_
  refine G.iloadN K D99_10_10 rfl ?_
  refine G.icmp_ge K D99_10_11 (fun q => absurd q (by decide)) (fun _ => ?_)
  refine G.aload K D99_10_14 rfl rfl ?_
  refine G.iload K D99_10_16 rfl ?_
  refine G.iload K D99_10_18 rfl ?_
  refine G.astore_i K H221 (i := 0) rfl (by decide) (Nat.le_of_ble_eq_true rfl) D99_10_20 ?_
  intro h223 H223
  change Hp n0 h223 ((a220, Ia Z [0, 0, 0, 0]) :: (fa, Ia Z (lst 4 (fun _ => 0))) :: (sa, Ia Z (lst 4 (sF ke))) :: (ta, Ia Z (lst 4 (tF ke))) :: σ) at H223
  refine G.iinc K D99_10_21 1 rfl rfl ([.val (.ref fa), .val (.ref sa), .val (.ref ta), .val (.int 4), .val (.ref a220), .val (.int (0 + 1)), .unset, .unset, .unset, .unset, .unset, .unset, .unset, .unset]) rfl ?_
  change G k n0 _ h223 _ _ 24 [.val (.ref fa), .val (.ref sa), .val (.ref ta), .val (.int 4), .val (.ref a220), .val (.int 1), .unset, .unset, .unset, .unset, .unset, .unset, .unset, .unset] []
  refine G.goto K D99_10_24 ?_
  refine G.iload K D99_10_8 rfl ?_
  refine G.iloadN K D99_10_10 rfl ?_
  refine G.icmp_ge K D99_10_11 (fun q => absurd q (by decide)) (fun _ => ?_)
  refine G.aload K D99_10_14 rfl rfl ?_
  refine G.iload K D99_10_16 rfl ?_
  refine G.iload K D99_10_18 rfl ?_
  refine G.astore_i K H223 (i := 0) rfl (by decide) (Nat.le_of_ble_eq_true rfl) D99_10_20 ?_
  intro h225 H225
  change Hp n0 h225 ((a220, Ia Z [0, 1, 0, 0]) :: (fa, Ia Z (lst 4 (fun _ => 0))) :: (sa, Ia Z (lst 4 (sF ke))) :: (ta, Ia Z (lst 4 (tF ke))) :: σ) at H225
  refine G.iinc K D99_10_21 1 rfl rfl ([.val (.ref fa), .val (.ref sa), .val (.ref ta), .val (.int 4), .val (.ref a220), .val (.int (1 + 1)), .unset, .unset, .unset, .unset, .unset, .unset, .unset, .unset]) rfl ?_
  change G k n0 _ h225 _ _ 24 [.val (.ref fa), .val (.ref sa), .val (.ref ta), .val (.int 4), .val (.ref a220), .val (.int 2), .unset, .unset, .unset, .unset, .unset, .unset, .unset, .unset] []
  refine G.goto K D99_10_24 ?_
  refine G.iload K D99_10_8 rfl ?_
  refine G.iloadN K D99_10_10 rfl ?_
  refine G.icmp_ge K D99_10_11 (fun q => absurd q (by decide)) (fun _ => ?_)
  refine G.aload K D99_10_14 rfl rfl ?_
  refine G.iload K D99_10_16 rfl ?_
  refine G.iload K D99_10_18 rfl ?_
  refine G.astore_i K H225 (i := 0) rfl (by decide) (Nat.le_of_ble_eq_true rfl) D99_10_20 ?_
  intro h227 H227
  change Hp n0 h227 ((a220, Ia Z [0, 1, 2, 0]) :: (fa, Ia Z (lst 4 (fun _ => 0))) :: (sa, Ia Z (lst 4 (sF ke))) :: (ta, Ia Z (lst 4 (tF ke))) :: σ) at H227
  refine G.iinc K D99_10_21 1 rfl rfl ([.val (.ref fa), .val (.ref sa), .val (.ref ta), .val (.int 4), .val (.ref a220), .val (.int (2 + 1)), .unset, .unset, .unset, .unset, .unset, .unset, .unset, .unset]) rfl ?_
  change G k n0 _ h227 _ _ 24 [.val (.ref fa), .val (.ref sa), .val (.ref ta), .val (.int 4), .val (.ref a220), .val (.int 3), .unset, .unset, .unset, .unset, .unset, .unset, .unset, .unset] []
  refine G.goto K D99_10_24 ?_
  refine G.iload K D99_10_8 rfl ?_
  refine G.iloadN K D99_10_10 rfl ?_
  refine G.icmp_ge K D99_10_11 (fun q => absurd q (by decide)) (fun _ => ?_)
  refine G.aload K D99_10_14 rfl rfl ?_
  refine G.iload K D99_10_16 rfl ?_
  refine G.iload K D99_10_18 rfl ?_
  refine G.astore_i K H227 (i := 0) rfl (by decide) (Nat.le_of_ble_eq_true rfl) D99_10_20 ?_
  intro h229 H229
  change Hp n0 h229 ((a220, Ia Z [0, 1, 2, 3]) :: (fa, Ia Z (lst 4 (fun _ => 0))) :: (sa, Ia Z (lst 4 (sF ke))) :: (ta, Ia Z (lst 4 (tF ke))) :: σ) at H229
  refine G.iinc K D99_10_21 1 rfl rfl ([.val (.ref fa), .val (.ref sa), .val (.ref ta), .val (.int 4), .val (.ref a220), .val (.int (3 + 1)), .unset, .unset, .unset, .unset, .unset, .unset, .unset, .unset]) rfl ?_
  change G k n0 _ h229 _ _ 24 [.val (.ref fa), .val (.ref sa), .val (.ref ta), .val (.int 4), .val (.ref a220), .val (.int 4), .unset, .unset, .unset, .unset, .unset, .unset, .unset, .unset] []
  refine G.goto K D99_10_24 ?_
  refine G.iload K D99_10_8 rfl ?_
  refine G.iloadN K D99_10_10 rfl ?_
  refine G.icmp_ge K D99_10_11 (fun _ => ?_) (fun q => absurd q (by decide))
  refine G.iloadN K D99_10_27 rfl ?_
  refine G.newarr_i K (wd hw 0 rfl) H229 (by decide) 4 (by decide) (by decide) (by decide) (by decide) D99_10_28 ?_
  intro a231 h232 H232
  change Hp n0 h232 ((a231, Ia Z [0, 0, 0, 0]) :: (a220, Ia Z [0, 1, 2, 3]) :: (fa, Ia Z (lst 4 (fun _ => 0))) :: (sa, Ia Z (lst 4 (sF ke))) :: (ta, Ia Z (lst 4 (tF ke))) :: σ) at H232
  refine G.astore K D99_10_30 rfl ([.val (.ref fa), .val (.ref sa), .val (.ref ta), .val (.int 4), .val (.ref a220), .val (.ref a231), .unset, .unset, .unset, .unset, .unset, .unset, .unset, .unset]) rfl ?_
  refine G.iconst K D99_10_32 1 rfl ?_
  refine G.istore K D99_10_33 ([.val (.ref fa), .val (.ref sa), .val (.ref ta), .val (.int 4), .val (.ref a220), .val (.ref a231), .val (.int 1), .unset, .unset, .unset, .unset, .unset, .unset, .unset]) rfl ?_
  refine G.iload K D99_10_35 rfl ?_
  refine G.iloadN K D99_10_37 rfl ?_
  refine G.icmp_ge K D99_10_38 (fun q => absurd q (by decide)) (fun _ => ?_)
  refine G.iconst K D99_10_41 0 rfl ?_
  refine G.istore K D99_10_42 ([.val (.ref fa), .val (.ref sa), .val (.ref ta), .val (.int 4), .val (.ref a220), .val (.ref a231), .val (.int 1), .val (.int 0), .unset, .unset, .unset, .unset, .unset, .unset]) rfl ?_
  refine G.iload K D99_10_44 rfl ?_
  refine G.iloadN K D99_10_46 rfl ?_
  refine G.icmp_ge K D99_10_47 (fun q => absurd q (by decide)) (fun _ => ?_)
  refine G.iload K D99_10_50 rfl ?_
  refine G.iload K D99_10_52 rfl ?_
  refine G.iadd K D99_10_54 ?_
  change G k n0 _ h232 _ _ 55 [.val (.ref fa), .val (.ref sa), .val (.ref ta), .val (.int 4), .val (.ref a220), .val (.ref a231), .val (.int 1), .val (.int 0), .unset, .unset, .unset, .unset, .unset, .unset] [.int 1]
  refine G.iloadN K D99_10_55 rfl ?_
  refine G.callS K hl (wd hw 44 rfl) (wd hw 33 rfl) (wd hw 34 rfl) (wd hw 35 rfl) (by decide) pd_0 (ct_min l Z a0 hw n0 _ 1 4) 0 rfl (by decide) (by decide) (by decide) (by decide) rfl rfl [.int 4, .int 1] rfl D99_10_56 ?_
  rintro _ _ ⟨rfl, rfl⟩
  rw [show (if (4 : Int32) < 1 then (4 : Int32) else 1) = 1 from by decide]
  change G k n0 _ h232 _ _ 59 [.val (.ref fa), .val (.ref sa), .val (.ref ta), .val (.int 4), .val (.ref a220), .val (.ref a231), .val (.int 1), .val (.int 0), .unset, .unset, .unset, .unset, .unset, .unset] [.int 1]
  refine G.istore K D99_10_59 ([.val (.ref fa), .val (.ref sa), .val (.ref ta), .val (.int 4), .val (.ref a220), .val (.ref a231), .val (.int 1), .val (.int 0), .val (.int 1), .unset, .unset, .unset, .unset, .unset]) rfl ?_
  refine G.iload K D99_10_61 rfl ?_
  refine G.iconst K D99_10_63 2 rfl ?_
  refine G.iload K D99_10_64 rfl ?_
  refine G.imul K D99_10_66 ?_
  change G k n0 _ h232 _ _ 67 [.val (.ref fa), .val (.ref sa), .val (.ref ta), .val (.int 4), .val (.ref a220), .val (.ref a231), .val (.int 1), .val (.int 0), .val (.int 1), .unset, .unset, .unset, .unset, .unset] [.int 2, .int 0]
  refine G.iadd K D99_10_67 ?_
  change G k n0 _ h232 _ _ 68 [.val (.ref fa), .val (.ref sa), .val (.ref ta), .val (.int 4), .val (.ref a220), .val (.ref a231), .val (.int 1), .val (.int 0), .val (.int 1), .unset, .unset, .unset, .unset, .unset] [.int 2]
  refine G.iloadN K D99_10_68 rfl ?_
  refine G.callS K hl (wd hw 44 rfl) (wd hw 33 rfl) (wd hw 34 rfl) (wd hw 35 rfl) (by decide) pd_0 (ct_min l Z a0 hw n0 _ 2 4) 0 rfl (by decide) (by decide) (by decide) (by decide) rfl rfl [.int 4, .int 2] rfl D99_10_69 ?_
  rintro _ _ ⟨rfl, rfl⟩
  rw [show (if (4 : Int32) < 2 then (4 : Int32) else 2) = 2 from by decide]
  change G k n0 _ h232 _ _ 72 [.val (.ref fa), .val (.ref sa), .val (.ref ta), .val (.int 4), .val (.ref a220), .val (.ref a231), .val (.int 1), .val (.int 0), .val (.int 1), .unset, .unset, .unset, .unset, .unset] [.int 2]
  refine G.istore K D99_10_72 ([.val (.ref fa), .val (.ref sa), .val (.ref ta), .val (.int 4), .val (.ref a220), .val (.ref a231), .val (.int 1), .val (.int 0), .val (.int 1), .val (.int 2), .unset, .unset, .unset, .unset]) rfl ?_
  refine G.iload K D99_10_74 rfl ?_
  refine G.istore K D99_10_76 ([.val (.ref fa), .val (.ref sa), .val (.ref ta), .val (.int 4), .val (.ref a220), .val (.ref a231), .val (.int 1), .val (.int 0), .val (.int 1), .val (.int 2), .val (.int 0), .unset, .unset, .unset]) rfl ?_
  refine G.iload K D99_10_78 rfl ?_
  refine G.istore K D99_10_80 ([.val (.ref fa), .val (.ref sa), .val (.ref ta), .val (.int 4), .val (.ref a220), .val (.ref a231), .val (.int 1), .val (.int 0), .val (.int 1), .val (.int 2), .val (.int 0), .val (.int 1), .unset, .unset]) rfl ?_
  have H235 : Hp n0 h232 ((a220, Ia Z [0, 1, 2, 3]) :: (a231, Ia Z [0, 0, 0, 0]) :: (fa, Ia Z (lst 4 (fun _ => 0))) :: (sa, Ia Z (lst 4 (sF ke))) :: (ta, Ia Z (lst 4 (tF ke))) :: σ) := H232.pull 1 rfl
  have H236 : Hp n0 h232 ((ta, Ia Z (lst 4 (tF ke))) :: (a220, Ia Z [0, 1, 2, 3]) :: (a231, Ia Z [0, 0, 0, 0]) :: (fa, Ia Z (lst 4 (fun _ => 0))) :: (sa, Ia Z (lst 4 (sF ke))) :: σ) := H235.pull 4 rfl
  have H237 : Hp n0 h232 ((sa, Ia Z (lst 4 (sF ke))) :: (ta, Ia Z (lst 4 (tF ke))) :: (a220, Ia Z [0, 1, 2, 3]) :: (a231, Ia Z [0, 0, 0, 0]) :: (fa, Ia Z (lst 4 (fun _ => 0))) :: σ) := H236.pull 4 rfl
  have H238 : Hp n0 h232 ((fa, Ia Z (lst 4 (fun _ => 0))) :: (sa, Ia Z (lst 4 (sF ke))) :: (ta, Ia Z (lst 4 (tF ke))) :: (a220, Ia Z [0, 1, 2, 3]) :: (a231, Ia Z [0, 0, 0, 0]) :: σ) := H237.pull 4 rfl
  have T239 : ∀ (x0 x1 : Nat) (l239 : Int32) (h239 : Heap), 0 ≤ x0 ∧ x0 ≤ 1 ∧ 0 ≤ x1 ∧ x1 ≤ 1 ∧ ¬ x0 = x1 ∧ ke x0 ≤ ke x1 → Hp n0 h239 ((fa, Ia Z (lst 4 (fun _ => 0))) :: (sa, Ia Z (lst 4 (sF ke))) :: (ta, Ia Z (lst 4 (tF ke))) :: (a220, Ia Z [0, 1, 2, 3]) :: (a231, Ia Z [Int32.ofNat x0, Int32.ofNat x1, 0, 0]) :: σ) → G k n0 (fun v h' => ∃ b : Addr, ∃ y0 y1 y2 y3 : Nat, v = some (.ref b) ∧ y0 < 4 ∧ y1 < 4 ∧ y2 < 4 ∧ y3 < 4 ∧ ¬ y0 = y1 ∧ ¬ y0 = y2 ∧ ¬ y0 = y3 ∧ ¬ y1 = y2 ∧ ¬ y1 = y3 ∧ ¬ y2 = y3 ∧ ke y0 ≤ ke y1 ∧ ke y1 ≤ ke y2 ∧ ke y2 ≤ ke y3 ∧ Hp n0 h' ((b, Ia Z [Int32.ofNat y0, Int32.ofNat y1, Int32.ofNat y2, Int32.ofNat y3]) :: (fa, Ia Z (lst 4 (fun _ => 0))) :: (sa, Ia Z (lst 4 (sF ke))) :: (ta, Ia Z (lst 4 (tF ke))) :: σ)) h239 2 8 168 [.val (.ref fa), .val (.ref sa), .val (.ref ta), .val (.int 4), .val (.ref a220), .val (.ref a231), .val (.int 1), .val (.int 0), .val (.int 1), .val (.int 2), .val (.int 1), .val (.int 2), .val (.int 2), .val (.int l239)] [] := by
    intro x0 x1 l239 h239 c239 H239
    refine G.iload K D99_10_168 rfl ?_
    refine G.iconst K D99_10_170 2 rfl ?_
    refine G.iload K D99_10_171 rfl ?_
    refine G.imul K D99_10_173 ?_
    change G k n0 _ h239 _ _ 174 [.val (.ref fa), .val (.ref sa), .val (.ref ta), .val (.int 4), .val (.ref a220), .val (.ref a231), .val (.int 1), .val (.int 0), .val (.int 1), .val (.int 2), .val (.int 1), .val (.int 2), .val (.int 2), .val (.int l239)] [.int 2, .int 0]
    refine G.iadd K D99_10_174 ?_
    change G k n0 _ h239 _ _ 175 [.val (.ref fa), .val (.ref sa), .val (.ref ta), .val (.int 4), .val (.ref a220), .val (.ref a231), .val (.int 1), .val (.int 0), .val (.int 1), .val (.int 2), .val (.int 1), .val (.int 2), .val (.int 2), .val (.int l239)] [.int 2]
    refine G.istore K D99_10_175 ([.val (.ref fa), .val (.ref sa), .val (.ref ta), .val (.int 4), .val (.ref a220), .val (.ref a231), .val (.int 1), .val (.int 2), .val (.int 1), .val (.int 2), .val (.int 1), .val (.int 2), .val (.int 2), .val (.int l239)]) rfl ?_
    refine G.goto K D99_10_177 ?_
    refine G.iload K D99_10_44 rfl ?_
    refine G.iloadN K D99_10_46 rfl ?_
    refine G.icmp_ge K D99_10_47 (fun q => absurd q (by decide)) (fun _ => ?_)
    refine G.iload K D99_10_50 rfl ?_
    refine G.iload K D99_10_52 rfl ?_
    refine G.iadd K D99_10_54 ?_
    change G k n0 _ h239 _ _ 55 [.val (.ref fa), .val (.ref sa), .val (.ref ta), .val (.int 4), .val (.ref a220), .val (.ref a231), .val (.int 1), .val (.int 2), .val (.int 1), .val (.int 2), .val (.int 1), .val (.int 2), .val (.int 2), .val (.int l239)] [.int 3]
    refine G.iloadN K D99_10_55 rfl ?_
    refine G.callS K hl (wd hw 44 rfl) (wd hw 33 rfl) (wd hw 34 rfl) (wd hw 35 rfl) (by decide) pd_0 (ct_min l Z a0 hw n0 _ 3 4) 0 rfl (by decide) (by decide) (by decide) (by decide) rfl rfl [.int 4, .int 3] rfl D99_10_56 ?_
    rintro _ _ ⟨rfl, rfl⟩
    rw [show (if (4 : Int32) < 3 then (4 : Int32) else 3) = 3 from by decide]
    change G k n0 _ h239 _ _ 59 [.val (.ref fa), .val (.ref sa), .val (.ref ta), .val (.int 4), .val (.ref a220), .val (.ref a231), .val (.int 1), .val (.int 2), .val (.int 1), .val (.int 2), .val (.int 1), .val (.int 2), .val (.int 2), .val (.int l239)] [.int 3]
    refine G.istore K D99_10_59 ([.val (.ref fa), .val (.ref sa), .val (.ref ta), .val (.int 4), .val (.ref a220), .val (.ref a231), .val (.int 1), .val (.int 2), .val (.int 3), .val (.int 2), .val (.int 1), .val (.int 2), .val (.int 2), .val (.int l239)]) rfl ?_
    refine G.iload K D99_10_61 rfl ?_
    refine G.iconst K D99_10_63 2 rfl ?_
    refine G.iload K D99_10_64 rfl ?_
    refine G.imul K D99_10_66 ?_
    change G k n0 _ h239 _ _ 67 [.val (.ref fa), .val (.ref sa), .val (.ref ta), .val (.int 4), .val (.ref a220), .val (.ref a231), .val (.int 1), .val (.int 2), .val (.int 3), .val (.int 2), .val (.int 1), .val (.int 2), .val (.int 2), .val (.int l239)] [.int 2, .int 2]
    refine G.iadd K D99_10_67 ?_
    change G k n0 _ h239 _ _ 68 [.val (.ref fa), .val (.ref sa), .val (.ref ta), .val (.int 4), .val (.ref a220), .val (.ref a231), .val (.int 1), .val (.int 2), .val (.int 3), .val (.int 2), .val (.int 1), .val (.int 2), .val (.int 2), .val (.int l239)] [.int 4]
    refine G.iloadN K D99_10_68 rfl ?_
    refine G.callS K hl (wd hw 44 rfl) (wd hw 33 rfl) (wd hw 34 rfl) (wd hw 35 rfl) (by decide) pd_0 (ct_min l Z a0 hw n0 _ 4 4) 0 rfl (by decide) (by decide) (by decide) (by decide) rfl rfl [.int 4, .int 4] rfl D99_10_69 ?_
    rintro _ _ ⟨rfl, rfl⟩
    rw [show (if (4 : Int32) < 4 then (4 : Int32) else 4) = 4 from by decide]
    change G k n0 _ h239 _ _ 72 [.val (.ref fa), .val (.ref sa), .val (.ref ta), .val (.int 4), .val (.ref a220), .val (.ref a231), .val (.int 1), .val (.int 2), .val (.int 3), .val (.int 2), .val (.int 1), .val (.int 2), .val (.int 2), .val (.int l239)] [.int 4]
    refine G.istore K D99_10_72 ([.val (.ref fa), .val (.ref sa), .val (.ref ta), .val (.int 4), .val (.ref a220), .val (.ref a231), .val (.int 1), .val (.int 2), .val (.int 3), .val (.int 4), .val (.int 1), .val (.int 2), .val (.int 2), .val (.int l239)]) rfl ?_
    refine G.iload K D99_10_74 rfl ?_
    refine G.istore K D99_10_76 ([.val (.ref fa), .val (.ref sa), .val (.ref ta), .val (.int 4), .val (.ref a220), .val (.ref a231), .val (.int 1), .val (.int 2), .val (.int 3), .val (.int 4), .val (.int 2), .val (.int 2), .val (.int 2), .val (.int l239)]) rfl ?_
    refine G.iload K D99_10_78 rfl ?_
    refine G.istore K D99_10_80 ([.val (.ref fa), .val (.ref sa), .val (.ref ta), .val (.int 4), .val (.ref a220), .val (.ref a231), .val (.int 1), .val (.int 2), .val (.int 3), .val (.int 4), .val (.int 2), .val (.int 3), .val (.int 2), .val (.int l239)]) rfl ?_
    have H241 : Hp n0 h239 ((a231, Ia Z [Int32.ofNat x0, Int32.ofNat x1, 0, 0]) :: (fa, Ia Z (lst 4 (fun _ => 0))) :: (sa, Ia Z (lst 4 (sF ke))) :: (ta, Ia Z (lst 4 (tF ke))) :: (a220, Ia Z [0, 1, 2, 3]) :: σ) := H239.pull 4 rfl
    have H242 : Hp n0 h239 ((a220, Ia Z [0, 1, 2, 3]) :: (a231, Ia Z [Int32.ofNat x0, Int32.ofNat x1, 0, 0]) :: (fa, Ia Z (lst 4 (fun _ => 0))) :: (sa, Ia Z (lst 4 (sF ke))) :: (ta, Ia Z (lst 4 (tF ke))) :: σ) := H241.pull 4 rfl
    have H243 : Hp n0 h239 ((ta, Ia Z (lst 4 (tF ke))) :: (a220, Ia Z [0, 1, 2, 3]) :: (a231, Ia Z [Int32.ofNat x0, Int32.ofNat x1, 0, 0]) :: (fa, Ia Z (lst 4 (fun _ => 0))) :: (sa, Ia Z (lst 4 (sF ke))) :: σ) := H242.pull 4 rfl
    have H244 : Hp n0 h239 ((sa, Ia Z (lst 4 (sF ke))) :: (ta, Ia Z (lst 4 (tF ke))) :: (a220, Ia Z [0, 1, 2, 3]) :: (a231, Ia Z [Int32.ofNat x0, Int32.ofNat x1, 0, 0]) :: (fa, Ia Z (lst 4 (fun _ => 0))) :: σ) := H243.pull 4 rfl
    have H245 : Hp n0 h239 ((fa, Ia Z (lst 4 (fun _ => 0))) :: (sa, Ia Z (lst 4 (sF ke))) :: (ta, Ia Z (lst 4 (tF ke))) :: (a220, Ia Z [0, 1, 2, 3]) :: (a231, Ia Z [Int32.ofNat x0, Int32.ofNat x1, 0, 0]) :: σ) := H244.pull 4 rfl
    have T246 : ∀ (x2 x3 : Nat) (l246 : Int32) (h246 : Heap), 2 ≤ x2 ∧ x2 ≤ 3 ∧ 2 ≤ x3 ∧ x3 ≤ 3 ∧ ¬ x2 = x3 ∧ ke x2 ≤ ke x3 → Hp n0 h246 ((fa, Ia Z (lst 4 (fun _ => 0))) :: (sa, Ia Z (lst 4 (sF ke))) :: (ta, Ia Z (lst 4 (tF ke))) :: (a220, Ia Z [0, 1, 2, 3]) :: (a231, Ia Z [Int32.ofNat x0, Int32.ofNat x1, Int32.ofNat x2, Int32.ofNat x3]) :: σ) → G k n0 (fun v h' => ∃ b : Addr, ∃ y0 y1 y2 y3 : Nat, v = some (.ref b) ∧ y0 < 4 ∧ y1 < 4 ∧ y2 < 4 ∧ y3 < 4 ∧ ¬ y0 = y1 ∧ ¬ y0 = y2 ∧ ¬ y0 = y3 ∧ ¬ y1 = y2 ∧ ¬ y1 = y3 ∧ ¬ y2 = y3 ∧ ke y0 ≤ ke y1 ∧ ke y1 ≤ ke y2 ∧ ke y2 ≤ ke y3 ∧ Hp n0 h' ((b, Ia Z [Int32.ofNat y0, Int32.ofNat y1, Int32.ofNat y2, Int32.ofNat y3]) :: (fa, Ia Z (lst 4 (fun _ => 0))) :: (sa, Ia Z (lst 4 (sF ke))) :: (ta, Ia Z (lst 4 (tF ke))) :: σ)) h246 2 8 168 [.val (.ref fa), .val (.ref sa), .val (.ref ta), .val (.int 4), .val (.ref a220), .val (.ref a231), .val (.int 1), .val (.int 2), .val (.int 3), .val (.int 4), .val (.int 3), .val (.int 4), .val (.int 4), .val (.int l246)] [] := by
      intro x2 x3 l246 h246 c246 H246
      refine G.iload K D99_10_168 rfl ?_
      refine G.iconst K D99_10_170 2 rfl ?_
      refine G.iload K D99_10_171 rfl ?_
      refine G.imul K D99_10_173 ?_
      change G k n0 _ h246 _ _ 174 [.val (.ref fa), .val (.ref sa), .val (.ref ta), .val (.int 4), .val (.ref a220), .val (.ref a231), .val (.int 1), .val (.int 2), .val (.int 3), .val (.int 4), .val (.int 3), .val (.int 4), .val (.int 4), .val (.int l246)] [.int 2, .int 2]
      refine G.iadd K D99_10_174 ?_
      change G k n0 _ h246 _ _ 175 [.val (.ref fa), .val (.ref sa), .val (.ref ta), .val (.int 4), .val (.ref a220), .val (.ref a231), .val (.int 1), .val (.int 2), .val (.int 3), .val (.int 4), .val (.int 3), .val (.int 4), .val (.int 4), .val (.int l246)] [.int 4]
      refine G.istore K D99_10_175 ([.val (.ref fa), .val (.ref sa), .val (.ref ta), .val (.int 4), .val (.ref a220), .val (.ref a231), .val (.int 1), .val (.int 4), .val (.int 3), .val (.int 4), .val (.int 3), .val (.int 4), .val (.int 4), .val (.int l246)]) rfl ?_
      refine G.goto K D99_10_177 ?_
      refine G.iload K D99_10_44 rfl ?_
      refine G.iloadN K D99_10_46 rfl ?_
      refine G.icmp_ge K D99_10_47 (fun _ => ?_) (fun q => absurd q (by decide))
      refine G.aload K D99_10_180 rfl rfl ?_
      refine G.astore K D99_10_182 rfl ([.val (.ref fa), .val (.ref sa), .val (.ref ta), .val (.int 4), .val (.ref a220), .val (.ref a231), .val (.int 1), .val (.ref a220), .val (.int 3), .val (.int 4), .val (.int 3), .val (.int 4), .val (.int 4), .val (.int l246)]) rfl ?_
      refine G.aload K D99_10_184 rfl rfl ?_
      refine G.astore K D99_10_186 rfl ([.val (.ref fa), .val (.ref sa), .val (.ref ta), .val (.int 4), .val (.ref a231), .val (.ref a231), .val (.int 1), .val (.ref a220), .val (.int 3), .val (.int 4), .val (.int 3), .val (.int 4), .val (.int 4), .val (.int l246)]) rfl ?_
      refine G.aload K D99_10_188 rfl rfl ?_
      refine G.astore K D99_10_190 rfl ([.val (.ref fa), .val (.ref sa), .val (.ref ta), .val (.int 4), .val (.ref a231), .val (.ref a220), .val (.int 1), .val (.ref a220), .val (.int 3), .val (.int 4), .val (.int 3), .val (.int 4), .val (.int 4), .val (.int l246)]) rfl ?_
      refine G.iload K D99_10_192 rfl ?_
      refine G.iconst K D99_10_194 2 rfl ?_
      refine G.imul K D99_10_195 ?_
      change G k n0 _ h246 _ _ 196 [.val (.ref fa), .val (.ref sa), .val (.ref ta), .val (.int 4), .val (.ref a231), .val (.ref a220), .val (.int 1), .val (.ref a220), .val (.int 3), .val (.int 4), .val (.int 3), .val (.int 4), .val (.int 4), .val (.int l246)] [.int 2]
      refine G.istore K D99_10_196 ([.val (.ref fa), .val (.ref sa), .val (.ref ta), .val (.int 4), .val (.ref a231), .val (.ref a220), .val (.int 2), .val (.ref a220), .val (.int 3), .val (.int 4), .val (.int 3), .val (.int 4), .val (.int 4), .val (.int l246)]) rfl ?_
      refine G.goto K D99_10_198 ?_
      refine G.iload K D99_10_35 rfl ?_
      refine G.iloadN K D99_10_37 rfl ?_
      refine G.icmp_ge K D99_10_38 (fun q => absurd q (by decide)) (fun _ => ?_)
      refine G.iconst K D99_10_41 0 rfl ?_
      refine G.istore K D99_10_42 ([.val (.ref fa), .val (.ref sa), .val (.ref ta), .val (.int 4), .val (.ref a231), .val (.ref a220), .val (.int 2), .val (.int 0), .val (.int 3), .val (.int 4), .val (.int 3), .val (.int 4), .val (.int 4), .val (.int l246)]) rfl ?_
      refine G.iload K D99_10_44 rfl ?_
      refine G.iloadN K D99_10_46 rfl ?_
      refine G.icmp_ge K D99_10_47 (fun q => absurd q (by decide)) (fun _ => ?_)
      refine G.iload K D99_10_50 rfl ?_
      refine G.iload K D99_10_52 rfl ?_
      refine G.iadd K D99_10_54 ?_
      change G k n0 _ h246 _ _ 55 [.val (.ref fa), .val (.ref sa), .val (.ref ta), .val (.int 4), .val (.ref a231), .val (.ref a220), .val (.int 2), .val (.int 0), .val (.int 3), .val (.int 4), .val (.int 3), .val (.int 4), .val (.int 4), .val (.int l246)] [.int 2]
      refine G.iloadN K D99_10_55 rfl ?_
      refine G.callS K hl (wd hw 44 rfl) (wd hw 33 rfl) (wd hw 34 rfl) (wd hw 35 rfl) (by decide) pd_0 (ct_min l Z a0 hw n0 _ 2 4) 0 rfl (by decide) (by decide) (by decide) (by decide) rfl rfl [.int 4, .int 2] rfl D99_10_56 ?_
      rintro _ _ ⟨rfl, rfl⟩
      rw [show (if (4 : Int32) < 2 then (4 : Int32) else 2) = 2 from by decide]
      change G k n0 _ h246 _ _ 59 [.val (.ref fa), .val (.ref sa), .val (.ref ta), .val (.int 4), .val (.ref a231), .val (.ref a220), .val (.int 2), .val (.int 0), .val (.int 3), .val (.int 4), .val (.int 3), .val (.int 4), .val (.int 4), .val (.int l246)] [.int 2]
      refine G.istore K D99_10_59 ([.val (.ref fa), .val (.ref sa), .val (.ref ta), .val (.int 4), .val (.ref a231), .val (.ref a220), .val (.int 2), .val (.int 0), .val (.int 2), .val (.int 4), .val (.int 3), .val (.int 4), .val (.int 4), .val (.int l246)]) rfl ?_
      refine G.iload K D99_10_61 rfl ?_
      refine G.iconst K D99_10_63 2 rfl ?_
      refine G.iload K D99_10_64 rfl ?_
      refine G.imul K D99_10_66 ?_
      change G k n0 _ h246 _ _ 67 [.val (.ref fa), .val (.ref sa), .val (.ref ta), .val (.int 4), .val (.ref a231), .val (.ref a220), .val (.int 2), .val (.int 0), .val (.int 2), .val (.int 4), .val (.int 3), .val (.int 4), .val (.int 4), .val (.int l246)] [.int 4, .int 0]
      refine G.iadd K D99_10_67 ?_
      change G k n0 _ h246 _ _ 68 [.val (.ref fa), .val (.ref sa), .val (.ref ta), .val (.int 4), .val (.ref a231), .val (.ref a220), .val (.int 2), .val (.int 0), .val (.int 2), .val (.int 4), .val (.int 3), .val (.int 4), .val (.int 4), .val (.int l246)] [.int 4]
      refine G.iloadN K D99_10_68 rfl ?_
      refine G.callS K hl (wd hw 44 rfl) (wd hw 33 rfl) (wd hw 34 rfl) (wd hw 35 rfl) (by decide) pd_0 (ct_min l Z a0 hw n0 _ 4 4) 0 rfl (by decide) (by decide) (by decide) (by decide) rfl rfl [.int 4, .int 4] rfl D99_10_69 ?_
      rintro _ _ ⟨rfl, rfl⟩
      rw [show (if (4 : Int32) < 4 then (4 : Int32) else 4) = 4 from by decide]
      change G k n0 _ h246 _ _ 72 [.val (.ref fa), .val (.ref sa), .val (.ref ta), .val (.int 4), .val (.ref a231), .val (.ref a220), .val (.int 2), .val (.int 0), .val (.int 2), .val (.int 4), .val (.int 3), .val (.int 4), .val (.int 4), .val (.int l246)] [.int 4]
      refine G.istore K D99_10_72 ([.val (.ref fa), .val (.ref sa), .val (.ref ta), .val (.int 4), .val (.ref a231), .val (.ref a220), .val (.int 2), .val (.int 0), .val (.int 2), .val (.int 4), .val (.int 3), .val (.int 4), .val (.int 4), .val (.int l246)]) rfl ?_
      refine G.iload K D99_10_74 rfl ?_
      refine G.istore K D99_10_76 ([.val (.ref fa), .val (.ref sa), .val (.ref ta), .val (.int 4), .val (.ref a231), .val (.ref a220), .val (.int 2), .val (.int 0), .val (.int 2), .val (.int 4), .val (.int 0), .val (.int 4), .val (.int 4), .val (.int l246)]) rfl ?_
      refine G.iload K D99_10_78 rfl ?_
      refine G.istore K D99_10_80 ([.val (.ref fa), .val (.ref sa), .val (.ref ta), .val (.int 4), .val (.ref a231), .val (.ref a220), .val (.int 2), .val (.int 0), .val (.int 2), .val (.int 4), .val (.int 0), .val (.int 2), .val (.int 4), .val (.int l246)]) rfl ?_
      refine G.iload K D99_10_82 rfl ?_
      refine G.istore K D99_10_84 ([.val (.ref fa), .val (.ref sa), .val (.ref ta), .val (.int 4), .val (.ref a231), .val (.ref a220), .val (.int 2), .val (.int 0), .val (.int 2), .val (.int 4), .val (.int 0), .val (.int 2), .val (.int 0), .val (.int l246)]) rfl ?_
      refine G.iload K D99_10_86 rfl ?_
      refine G.iload K D99_10_88 rfl ?_
      refine G.icmp_ge K D99_10_90 (fun q => absurd q (by decide)) (fun _ => ?_)
      refine G.iload K D99_10_93 rfl ?_
      refine G.iload K D99_10_95 rfl ?_
      refine G.icmp_ge K D99_10_97 (fun q => absurd q (by decide)) (fun _ => ?_)
      refine G.iload K D99_10_100 rfl ?_
      refine G.iload K D99_10_102 rfl ?_
      refine G.icmp_ge K D99_10_104 (fun q => absurd q (by decide)) (fun _ => ?_)
      refine G.aloadN K D99_10_107 rfl rfl ?_
      refine G.aloadN K D99_10_108 rfl rfl ?_
      refine G.aloadN K D99_10_109 rfl rfl ?_
      refine G.aload K D99_10_110 rfl rfl ?_
      refine G.iload K D99_10_112 rfl ?_
      refine G.aload_i K H246 (i := 4) rfl (by decide) rfl D99_10_114 ?_
      refine G.aload K D99_10_115 rfl rfl ?_
      refine G.iload K D99_10_117 rfl ?_
      refine G.aload_i K H246 (i := 4) rfl (by decide) rfl D99_10_119 ?_
      have H253 : Hp n0 h246 ((ta, Ia Z (lst 4 (tF ke))) :: (fa, Ia Z (lst 4 (fun _ => 0))) :: (sa, Ia Z (lst 4 (sF ke))) :: (a220, Ia Z [0, 1, 2, 3]) :: (a231, Ia Z [Int32.ofNat x0, Int32.ofNat x1, Int32.ofNat x2, Int32.ofNat x3]) :: σ) := H246.pull 2 rfl
      have H254 : Hp n0 h246 ((sa, Ia Z (lst 4 (sF ke))) :: (ta, Ia Z (lst 4 (tF ke))) :: (fa, Ia Z (lst 4 (fun _ => 0))) :: (a220, Ia Z [0, 1, 2, 3]) :: (a231, Ia Z [Int32.ofNat x0, Int32.ofNat x1, Int32.ofNat x2, Int32.ofNat x3]) :: σ) := H253.pull 2 rfl
      have H255 : Hp n0 h246 ((fa, Ia Z (lst 4 (fun _ => 0))) :: (sa, Ia Z (lst 4 (sF ke))) :: (ta, Ia Z (lst 4 (tF ke))) :: (a220, Ia Z [0, 1, 2, 3]) :: (a231, Ia Z [Int32.ofNat x0, Int32.ofNat x1, Int32.ofNat x2, Int32.ofNat x3]) :: σ) := H254.pull 2 rfl
      refine G.callS K hl (wd hw 45 rfl) (wd hw 46 rfl) (wd hw 3 rfl) (wd hw 47 rfl) (by decide) pd_1 (ct_cmp l Z a0 hw n0 h246 fa sa ta ke x0 x2 ((a220, Ia Z [0, 1, 2, 3]) :: (a231, Ia Z [Int32.ofNat x0, Int32.ofNat x1, Int32.ofNat x2, Int32.ofNat x3]) :: σ) hK (by omega) (by omega) H255) 0 rfl (by decide) (by decide) (by decide) (by decide) rfl rfl [.int (Int32.ofNat x2), .int (Int32.ofNat x0), .ref ta, .ref sa, .ref fa] rfl D99_10_120 ?_
      rintro _ _ ⟨z256, rfl, hz256, rfl⟩
      change G k n0 _ h246 _ _ 123 [.val (.ref fa), .val (.ref sa), .val (.ref ta), .val (.int 4), .val (.ref a231), .val (.ref a220), .val (.int 2), .val (.int 0), .val (.int 2), .val (.int 4), .val (.int 0), .val (.int 2), .val (.int 0), .val (.int l246)] [.int z256]
      refine G.if_gt K D99_10_123 (fun q257 => ?_) (fun q257 => ?_)
      · have e258 : ke x2 < ke x0 := hz256.mp q257
        refine G.iconst K D99_10_130 0 rfl ?_
        refine G.istore K D99_10_131 ([.val (.ref fa), .val (.ref sa), .val (.ref ta), .val (.int 4), .val (.ref a231), .val (.ref a220), .val (.int 2), .val (.int 0), .val (.int 2), .val (.int 4), .val (.int 0), .val (.int 2), .val (.int 0), .val (.int 0)]) rfl ?_
        refine G.aload K D99_10_133 rfl rfl ?_
        refine G.iload K D99_10_135 rfl ?_
        refine G.iload K D99_10_137 rfl ?_
        refine G.if_eq K D99_10_139 (fun _ => ?_) (fun q => absurd q (by decide))
        refine G.aload K D99_10_153 rfl rfl ?_
        refine G.iload K D99_10_155 rfl ?_
        refine G.iinc K D99_10_157 1 rfl rfl ([.val (.ref fa), .val (.ref sa), .val (.ref ta), .val (.int 4), .val (.ref a231), .val (.ref a220), .val (.int 2), .val (.int 0), .val (.int 2), .val (.int 4), .val (.int 0), .val (.int (2 + 1)), .val (.int 0), .val (.int 0)]) rfl ?_
        change G k n0 _ h246 _ _ 160 [.val (.ref fa), .val (.ref sa), .val (.ref ta), .val (.int 4), .val (.ref a231), .val (.ref a220), .val (.int 2), .val (.int 0), .val (.int 2), .val (.int 4), .val (.int 0), .val (.int 3), .val (.int 0), .val (.int 0)] [.int 2, .ref a231, .int 0, .ref a220]
        refine G.aload_i K H255 (i := 4) rfl (by decide) rfl D99_10_160 ?_
        refine G.astore_i K H255 (i := 3) rfl (by decide) (Nat.le_of_ble_eq_true rfl) D99_10_161 ?_
        intro h260 H260
        change Hp n0 h260 ((fa, Ia Z (lst 4 (fun _ => 0))) :: (sa, Ia Z (lst 4 (sF ke))) :: (ta, Ia Z (lst 4 (tF ke))) :: (a220, Ia Z [(Int32.ofNat x2), 1, 2, 3]) :: (a231, Ia Z [Int32.ofNat x0, Int32.ofNat x1, Int32.ofNat x2, Int32.ofNat x3]) :: σ) at H260
        refine G.iinc K D99_10_162 1 rfl rfl ([.val (.ref fa), .val (.ref sa), .val (.ref ta), .val (.int 4), .val (.ref a231), .val (.ref a220), .val (.int 2), .val (.int 0), .val (.int 2), .val (.int 4), .val (.int 0), .val (.int 3), .val (.int (0 + 1)), .val (.int 0)]) rfl ?_
        change G k n0 _ h260 _ _ 165 [.val (.ref fa), .val (.ref sa), .val (.ref ta), .val (.int 4), .val (.ref a231), .val (.ref a220), .val (.int 2), .val (.int 0), .val (.int 2), .val (.int 4), .val (.int 0), .val (.int 3), .val (.int 1), .val (.int 0)] []
        refine G.goto K D99_10_165 ?_
        refine G.iload K D99_10_86 rfl ?_
        refine G.iload K D99_10_88 rfl ?_
        refine G.icmp_ge K D99_10_90 (fun q => absurd q (by decide)) (fun _ => ?_)
        refine G.iload K D99_10_93 rfl ?_
        refine G.iload K D99_10_95 rfl ?_
        refine G.icmp_ge K D99_10_97 (fun q => absurd q (by decide)) (fun _ => ?_)
        refine G.iload K D99_10_100 rfl ?_
        refine G.iload K D99_10_102 rfl ?_
        refine G.icmp_ge K D99_10_104 (fun q => absurd q (by decide)) (fun _ => ?_)
        refine G.aloadN K D99_10_107 rfl rfl ?_
        refine G.aloadN K D99_10_108 rfl rfl ?_
        refine G.aloadN K D99_10_109 rfl rfl ?_
        refine G.aload K D99_10_110 rfl rfl ?_
        refine G.iload K D99_10_112 rfl ?_
        refine G.aload_i K H260 (i := 4) rfl (by decide) rfl D99_10_114 ?_
        refine G.aload K D99_10_115 rfl rfl ?_
        refine G.iload K D99_10_117 rfl ?_
        refine G.aload_i K H260 (i := 4) rfl (by decide) rfl D99_10_119 ?_
        have H264 : Hp n0 h260 ((ta, Ia Z (lst 4 (tF ke))) :: (fa, Ia Z (lst 4 (fun _ => 0))) :: (sa, Ia Z (lst 4 (sF ke))) :: (a220, Ia Z [(Int32.ofNat x2), 1, 2, 3]) :: (a231, Ia Z [Int32.ofNat x0, Int32.ofNat x1, Int32.ofNat x2, Int32.ofNat x3]) :: σ) := H260.pull 2 rfl
        have H265 : Hp n0 h260 ((sa, Ia Z (lst 4 (sF ke))) :: (ta, Ia Z (lst 4 (tF ke))) :: (fa, Ia Z (lst 4 (fun _ => 0))) :: (a220, Ia Z [(Int32.ofNat x2), 1, 2, 3]) :: (a231, Ia Z [Int32.ofNat x0, Int32.ofNat x1, Int32.ofNat x2, Int32.ofNat x3]) :: σ) := H264.pull 2 rfl
        have H266 : Hp n0 h260 ((fa, Ia Z (lst 4 (fun _ => 0))) :: (sa, Ia Z (lst 4 (sF ke))) :: (ta, Ia Z (lst 4 (tF ke))) :: (a220, Ia Z [(Int32.ofNat x2), 1, 2, 3]) :: (a231, Ia Z [Int32.ofNat x0, Int32.ofNat x1, Int32.ofNat x2, Int32.ofNat x3]) :: σ) := H265.pull 2 rfl
        refine G.callS K hl (wd hw 45 rfl) (wd hw 46 rfl) (wd hw 3 rfl) (wd hw 47 rfl) (by decide) pd_1 (ct_cmp l Z a0 hw n0 h260 fa sa ta ke x0 x3 ((a220, Ia Z [(Int32.ofNat x2), 1, 2, 3]) :: (a231, Ia Z [Int32.ofNat x0, Int32.ofNat x1, Int32.ofNat x2, Int32.ofNat x3]) :: σ) hK (by omega) (by omega) H266) 0 rfl (by decide) (by decide) (by decide) (by decide) rfl rfl [.int (Int32.ofNat x3), .int (Int32.ofNat x0), .ref ta, .ref sa, .ref fa] rfl D99_10_120 ?_
        rintro _ _ ⟨z267, rfl, hz267, rfl⟩
        change G k n0 _ h260 _ _ 123 [.val (.ref fa), .val (.ref sa), .val (.ref ta), .val (.int 4), .val (.ref a231), .val (.ref a220), .val (.int 2), .val (.int 0), .val (.int 2), .val (.int 4), .val (.int 0), .val (.int 3), .val (.int 1), .val (.int 0)] [.int z267]
        refine G.if_gt K D99_10_123 (fun q268 => ?_) (fun q268 => ?_)
        · have e269 : ke x3 < ke x0 := hz267.mp q268
          refine G.iconst K D99_10_130 0 rfl ?_
          refine G.istore K D99_10_131 ([.val (.ref fa), .val (.ref sa), .val (.ref ta), .val (.int 4), .val (.ref a231), .val (.ref a220), .val (.int 2), .val (.int 0), .val (.int 2), .val (.int 4), .val (.int 0), .val (.int 3), .val (.int 1), .val (.int 0)]) rfl ?_
          refine G.aload K D99_10_133 rfl rfl ?_
          refine G.iload K D99_10_135 rfl ?_
          refine G.iload K D99_10_137 rfl ?_
          refine G.if_eq K D99_10_139 (fun _ => ?_) (fun q => absurd q (by decide))
          refine G.aload K D99_10_153 rfl rfl ?_
          refine G.iload K D99_10_155 rfl ?_
          refine G.iinc K D99_10_157 1 rfl rfl ([.val (.ref fa), .val (.ref sa), .val (.ref ta), .val (.int 4), .val (.ref a231), .val (.ref a220), .val (.int 2), .val (.int 0), .val (.int 2), .val (.int 4), .val (.int 0), .val (.int (3 + 1)), .val (.int 1), .val (.int 0)]) rfl ?_
          change G k n0 _ h260 _ _ 160 [.val (.ref fa), .val (.ref sa), .val (.ref ta), .val (.int 4), .val (.ref a231), .val (.ref a220), .val (.int 2), .val (.int 0), .val (.int 2), .val (.int 4), .val (.int 0), .val (.int 4), .val (.int 1), .val (.int 0)] [.int 3, .ref a231, .int 1, .ref a220]
          refine G.aload_i K H266 (i := 4) rfl (by decide) rfl D99_10_160 ?_
          refine G.astore_i K H266 (i := 3) rfl (by decide) (Nat.le_of_ble_eq_true rfl) D99_10_161 ?_
          intro h271 H271
          change Hp n0 h271 ((fa, Ia Z (lst 4 (fun _ => 0))) :: (sa, Ia Z (lst 4 (sF ke))) :: (ta, Ia Z (lst 4 (tF ke))) :: (a220, Ia Z [(Int32.ofNat x2), (Int32.ofNat x3), 2, 3]) :: (a231, Ia Z [Int32.ofNat x0, Int32.ofNat x1, Int32.ofNat x2, Int32.ofNat x3]) :: σ) at H271
          refine G.iinc K D99_10_162 1 rfl rfl ([.val (.ref fa), .val (.ref sa), .val (.ref ta), .val (.int 4), .val (.ref a231), .val (.ref a220), .val (.int 2), .val (.int 0), .val (.int 2), .val (.int 4), .val (.int 0), .val (.int 4), .val (.int (1 + 1)), .val (.int 0)]) rfl ?_
          change G k n0 _ h271 _ _ 165 [.val (.ref fa), .val (.ref sa), .val (.ref ta), .val (.int 4), .val (.ref a231), .val (.ref a220), .val (.int 2), .val (.int 0), .val (.int 2), .val (.int 4), .val (.int 0), .val (.int 4), .val (.int 2), .val (.int 0)] []
          refine G.goto K D99_10_165 ?_
          refine G.iload K D99_10_86 rfl ?_
          refine G.iload K D99_10_88 rfl ?_
          refine G.icmp_ge K D99_10_90 (fun q => absurd q (by decide)) (fun _ => ?_)
          refine G.iload K D99_10_93 rfl ?_
          refine G.iload K D99_10_95 rfl ?_
          refine G.icmp_ge K D99_10_97 (fun _ => ?_) (fun q => absurd q (by decide))
          refine G.iconst K D99_10_126 1 rfl ?_
          refine G.goto K D99_10_127 ?_
          refine G.istore K D99_10_131 ([.val (.ref fa), .val (.ref sa), .val (.ref ta), .val (.int 4), .val (.ref a231), .val (.ref a220), .val (.int 2), .val (.int 0), .val (.int 2), .val (.int 4), .val (.int 0), .val (.int 4), .val (.int 2), .val (.int 1)]) rfl ?_
          refine G.aload K D99_10_133 rfl rfl ?_
          refine G.iload K D99_10_135 rfl ?_
          refine G.iload K D99_10_137 rfl ?_
          refine G.if_eq K D99_10_139 (fun q => absurd q (by decide)) (fun _ => ?_)
          refine G.aload K D99_10_142 rfl rfl ?_
          refine G.iload K D99_10_144 rfl ?_
          refine G.iinc K D99_10_146 1 rfl rfl ([.val (.ref fa), .val (.ref sa), .val (.ref ta), .val (.int 4), .val (.ref a231), .val (.ref a220), .val (.int 2), .val (.int 0), .val (.int 2), .val (.int 4), .val (.int (0 + 1)), .val (.int 4), .val (.int 2), .val (.int 1)]) rfl ?_
          change G k n0 _ h271 _ _ 149 [.val (.ref fa), .val (.ref sa), .val (.ref ta), .val (.int 4), .val (.ref a231), .val (.ref a220), .val (.int 2), .val (.int 0), .val (.int 2), .val (.int 4), .val (.int 1), .val (.int 4), .val (.int 2), .val (.int 1)] [.int 0, .ref a231, .int 2, .ref a220]
          refine G.aload_i K H271 (i := 4) rfl (by decide) rfl D99_10_149 ?_
          refine G.goto K D99_10_150 ?_
          refine G.astore_i K H271 (i := 3) rfl (by decide) (Nat.le_of_ble_eq_true rfl) D99_10_161 ?_
          intro h275 H275
          change Hp n0 h275 ((fa, Ia Z (lst 4 (fun _ => 0))) :: (sa, Ia Z (lst 4 (sF ke))) :: (ta, Ia Z (lst 4 (tF ke))) :: (a220, Ia Z [(Int32.ofNat x2), (Int32.ofNat x3), (Int32.ofNat x0), 3]) :: (a231, Ia Z [Int32.ofNat x0, Int32.ofNat x1, Int32.ofNat x2, Int32.ofNat x3]) :: σ) at H275
          refine G.iinc K D99_10_162 1 rfl rfl ([.val (.ref fa), .val (.ref sa), .val (.ref ta), .val (.int 4), .val (.ref a231), .val (.ref a220), .val (.int 2), .val (.int 0), .val (.int 2), .val (.int 4), .val (.int 1), .val (.int 4), .val (.int (2 + 1)), .val (.int 1)]) rfl ?_
          change G k n0 _ h275 _ _ 165 [.val (.ref fa), .val (.ref sa), .val (.ref ta), .val (.int 4), .val (.ref a231), .val (.ref a220), .val (.int 2), .val (.int 0), .val (.int 2), .val (.int 4), .val (.int 1), .val (.int 4), .val (.int 3), .val (.int 1)] []
          refine G.goto K D99_10_165 ?_
          refine G.iload K D99_10_86 rfl ?_
          refine G.iload K D99_10_88 rfl ?_
          refine G.icmp_ge K D99_10_90 (fun q => absurd q (by decide)) (fun _ => ?_)
          refine G.iload K D99_10_93 rfl ?_
          refine G.iload K D99_10_95 rfl ?_
          refine G.icmp_ge K D99_10_97 (fun _ => ?_) (fun q => absurd q (by decide))
          refine G.iconst K D99_10_126 1 rfl ?_
          refine G.goto K D99_10_127 ?_
          refine G.istore K D99_10_131 ([.val (.ref fa), .val (.ref sa), .val (.ref ta), .val (.int 4), .val (.ref a231), .val (.ref a220), .val (.int 2), .val (.int 0), .val (.int 2), .val (.int 4), .val (.int 1), .val (.int 4), .val (.int 3), .val (.int 1)]) rfl ?_
          refine G.aload K D99_10_133 rfl rfl ?_
          refine G.iload K D99_10_135 rfl ?_
          refine G.iload K D99_10_137 rfl ?_
          refine G.if_eq K D99_10_139 (fun q => absurd q (by decide)) (fun _ => ?_)
          refine G.aload K D99_10_142 rfl rfl ?_
          refine G.iload K D99_10_144 rfl ?_
          refine G.iinc K D99_10_146 1 rfl rfl ([.val (.ref fa), .val (.ref sa), .val (.ref ta), .val (.int 4), .val (.ref a231), .val (.ref a220), .val (.int 2), .val (.int 0), .val (.int 2), .val (.int 4), .val (.int (1 + 1)), .val (.int 4), .val (.int 3), .val (.int 1)]) rfl ?_
          change G k n0 _ h275 _ _ 149 [.val (.ref fa), .val (.ref sa), .val (.ref ta), .val (.int 4), .val (.ref a231), .val (.ref a220), .val (.int 2), .val (.int 0), .val (.int 2), .val (.int 4), .val (.int 2), .val (.int 4), .val (.int 3), .val (.int 1)] [.int 1, .ref a231, .int 3, .ref a220]
          refine G.aload_i K H275 (i := 4) rfl (by decide) rfl D99_10_149 ?_
          refine G.goto K D99_10_150 ?_
          refine G.astore_i K H275 (i := 3) rfl (by decide) (Nat.le_of_ble_eq_true rfl) D99_10_161 ?_
          intro h279 H279
          change Hp n0 h279 ((fa, Ia Z (lst 4 (fun _ => 0))) :: (sa, Ia Z (lst 4 (sF ke))) :: (ta, Ia Z (lst 4 (tF ke))) :: (a220, Ia Z [(Int32.ofNat x2), (Int32.ofNat x3), (Int32.ofNat x0), (Int32.ofNat x1)]) :: (a231, Ia Z [Int32.ofNat x0, Int32.ofNat x1, Int32.ofNat x2, Int32.ofNat x3]) :: σ) at H279
          refine G.iinc K D99_10_162 1 rfl rfl ([.val (.ref fa), .val (.ref sa), .val (.ref ta), .val (.int 4), .val (.ref a231), .val (.ref a220), .val (.int 2), .val (.int 0), .val (.int 2), .val (.int 4), .val (.int 2), .val (.int 4), .val (.int (3 + 1)), .val (.int 1)]) rfl ?_
          change G k n0 _ h279 _ _ 165 [.val (.ref fa), .val (.ref sa), .val (.ref ta), .val (.int 4), .val (.ref a231), .val (.ref a220), .val (.int 2), .val (.int 0), .val (.int 2), .val (.int 4), .val (.int 2), .val (.int 4), .val (.int 4), .val (.int 1)] []
          refine G.goto K D99_10_165 ?_
          refine G.iload K D99_10_86 rfl ?_
          refine G.iload K D99_10_88 rfl ?_
          refine G.icmp_ge K D99_10_90 (fun _ => ?_) (fun q => absurd q (by decide))
          refine G.iload K D99_10_168 rfl ?_
          refine G.iconst K D99_10_170 2 rfl ?_
          refine G.iload K D99_10_171 rfl ?_
          refine G.imul K D99_10_173 ?_
          change G k n0 _ h279 _ _ 174 [.val (.ref fa), .val (.ref sa), .val (.ref ta), .val (.int 4), .val (.ref a231), .val (.ref a220), .val (.int 2), .val (.int 0), .val (.int 2), .val (.int 4), .val (.int 2), .val (.int 4), .val (.int 4), .val (.int 1)] [.int 4, .int 0]
          refine G.iadd K D99_10_174 ?_
          change G k n0 _ h279 _ _ 175 [.val (.ref fa), .val (.ref sa), .val (.ref ta), .val (.int 4), .val (.ref a231), .val (.ref a220), .val (.int 2), .val (.int 0), .val (.int 2), .val (.int 4), .val (.int 2), .val (.int 4), .val (.int 4), .val (.int 1)] [.int 4]
          refine G.istore K D99_10_175 ([.val (.ref fa), .val (.ref sa), .val (.ref ta), .val (.int 4), .val (.ref a231), .val (.ref a220), .val (.int 2), .val (.int 4), .val (.int 2), .val (.int 4), .val (.int 2), .val (.int 4), .val (.int 4), .val (.int 1)]) rfl ?_
          refine G.goto K D99_10_177 ?_
          refine G.iload K D99_10_44 rfl ?_
          refine G.iloadN K D99_10_46 rfl ?_
          refine G.icmp_ge K D99_10_47 (fun _ => ?_) (fun q => absurd q (by decide))
          refine G.aload K D99_10_180 rfl rfl ?_
          refine G.astore K D99_10_182 rfl ([.val (.ref fa), .val (.ref sa), .val (.ref ta), .val (.int 4), .val (.ref a231), .val (.ref a220), .val (.int 2), .val (.ref a231), .val (.int 2), .val (.int 4), .val (.int 2), .val (.int 4), .val (.int 4), .val (.int 1)]) rfl ?_
          refine G.aload K D99_10_184 rfl rfl ?_
          refine G.astore K D99_10_186 rfl ([.val (.ref fa), .val (.ref sa), .val (.ref ta), .val (.int 4), .val (.ref a220), .val (.ref a220), .val (.int 2), .val (.ref a231), .val (.int 2), .val (.int 4), .val (.int 2), .val (.int 4), .val (.int 4), .val (.int 1)]) rfl ?_
          refine G.aload K D99_10_188 rfl rfl ?_
          refine G.astore K D99_10_190 rfl ([.val (.ref fa), .val (.ref sa), .val (.ref ta), .val (.int 4), .val (.ref a220), .val (.ref a231), .val (.int 2), .val (.ref a231), .val (.int 2), .val (.int 4), .val (.int 2), .val (.int 4), .val (.int 4), .val (.int 1)]) rfl ?_
          refine G.iload K D99_10_192 rfl ?_
          refine G.iconst K D99_10_194 2 rfl ?_
          refine G.imul K D99_10_195 ?_
          change G k n0 _ h279 _ _ 196 [.val (.ref fa), .val (.ref sa), .val (.ref ta), .val (.int 4), .val (.ref a220), .val (.ref a231), .val (.int 2), .val (.ref a231), .val (.int 2), .val (.int 4), .val (.int 2), .val (.int 4), .val (.int 4), .val (.int 1)] [.int 4]
          refine G.istore K D99_10_196 ([.val (.ref fa), .val (.ref sa), .val (.ref ta), .val (.int 4), .val (.ref a220), .val (.ref a231), .val (.int 4), .val (.ref a231), .val (.int 2), .val (.int 4), .val (.int 2), .val (.int 4), .val (.int 4), .val (.int 1)]) rfl ?_
          refine G.goto K D99_10_198 ?_
          refine G.iload K D99_10_35 rfl ?_
          refine G.iloadN K D99_10_37 rfl ?_
          refine G.icmp_ge K D99_10_38 (fun _ => ?_) (fun q => absurd q (by decide))
          refine G.aload K D99_10_201 rfl rfl ?_
          refine G.ret_ref K rfl rfl D99_10_203 ?_
          have H283 : Hp n0 h279 ((ta, Ia Z (lst 4 (tF ke))) :: (fa, Ia Z (lst 4 (fun _ => 0))) :: (sa, Ia Z (lst 4 (sF ke))) :: (a220, Ia Z [(Int32.ofNat x2), (Int32.ofNat x3), (Int32.ofNat x0), (Int32.ofNat x1)]) :: (a231, Ia Z [Int32.ofNat x0, Int32.ofNat x1, Int32.ofNat x2, Int32.ofNat x3]) :: σ) := H279.pull 2 rfl
          have H284 : Hp n0 h279 ((sa, Ia Z (lst 4 (sF ke))) :: (ta, Ia Z (lst 4 (tF ke))) :: (fa, Ia Z (lst 4 (fun _ => 0))) :: (a220, Ia Z [(Int32.ofNat x2), (Int32.ofNat x3), (Int32.ofNat x0), (Int32.ofNat x1)]) :: (a231, Ia Z [Int32.ofNat x0, Int32.ofNat x1, Int32.ofNat x2, Int32.ofNat x3]) :: σ) := H283.pull 2 rfl
          have H285 : Hp n0 h279 ((fa, Ia Z (lst 4 (fun _ => 0))) :: (sa, Ia Z (lst 4 (sF ke))) :: (ta, Ia Z (lst 4 (tF ke))) :: (a220, Ia Z [(Int32.ofNat x2), (Int32.ofNat x3), (Int32.ofNat x0), (Int32.ofNat x1)]) :: (a231, Ia Z [Int32.ofNat x0, Int32.ofNat x1, Int32.ofNat x2, Int32.ofNat x3]) :: σ) := H284.pull 2 rfl
          have H286 : Hp n0 h279 ((a220, Ia Z [(Int32.ofNat x2), (Int32.ofNat x3), (Int32.ofNat x0), (Int32.ofNat x1)]) :: (fa, Ia Z (lst 4 (fun _ => 0))) :: (sa, Ia Z (lst 4 (sF ke))) :: (ta, Ia Z (lst 4 (tF ke))) :: (a231, Ia Z [Int32.ofNat x0, Int32.ofNat x1, Int32.ofNat x2, Int32.ofNat x3]) :: σ) := H285.pull 3 rfl
          have H287 : Hp n0 h279 ((a220, Ia Z [(Int32.ofNat x2), (Int32.ofNat x3), (Int32.ofNat x0), (Int32.ofNat x1)]) :: (fa, Ia Z (lst 4 (fun _ => 0))) :: (sa, Ia Z (lst 4 (sF ke))) :: (ta, Ia Z (lst 4 (tF ke))) :: σ) := H286.sub (List.Sublist.cons_cons _ (List.Sublist.cons_cons _ (List.Sublist.cons_cons _ (List.Sublist.cons_cons _ (List.Sublist.cons _ (List.Sublist.refl _))))))
          exact ⟨a220, x2, x3, x0, x1, rfl, by omega, by omega, by omega, by omega, by omega, by omega, by omega, by omega, by omega, by omega, by omega, by omega, by omega, H287⟩
        · have e288 : ke x0 ≤ ke x3 := Nat.le_of_not_lt fun y => q268 (hz267.mpr y)
          refine G.iconst K D99_10_126 1 rfl ?_
          refine G.goto K D99_10_127 ?_
          refine G.istore K D99_10_131 ([.val (.ref fa), .val (.ref sa), .val (.ref ta), .val (.int 4), .val (.ref a231), .val (.ref a220), .val (.int 2), .val (.int 0), .val (.int 2), .val (.int 4), .val (.int 0), .val (.int 3), .val (.int 1), .val (.int 1)]) rfl ?_
          refine G.aload K D99_10_133 rfl rfl ?_
          refine G.iload K D99_10_135 rfl ?_
          refine G.iload K D99_10_137 rfl ?_
          refine G.if_eq K D99_10_139 (fun q => absurd q (by decide)) (fun _ => ?_)
          refine G.aload K D99_10_142 rfl rfl ?_
          refine G.iload K D99_10_144 rfl ?_
          refine G.iinc K D99_10_146 1 rfl rfl ([.val (.ref fa), .val (.ref sa), .val (.ref ta), .val (.int 4), .val (.ref a231), .val (.ref a220), .val (.int 2), .val (.int 0), .val (.int 2), .val (.int 4), .val (.int (0 + 1)), .val (.int 3), .val (.int 1), .val (.int 1)]) rfl ?_
          change G k n0 _ h260 _ _ 149 [.val (.ref fa), .val (.ref sa), .val (.ref ta), .val (.int 4), .val (.ref a231), .val (.ref a220), .val (.int 2), .val (.int 0), .val (.int 2), .val (.int 4), .val (.int 1), .val (.int 3), .val (.int 1), .val (.int 1)] [.int 0, .ref a231, .int 1, .ref a220]
          refine G.aload_i K H266 (i := 4) rfl (by decide) rfl D99_10_149 ?_
          refine G.goto K D99_10_150 ?_
          refine G.astore_i K H266 (i := 3) rfl (by decide) (Nat.le_of_ble_eq_true rfl) D99_10_161 ?_
          intro h290 H290
          change Hp n0 h290 ((fa, Ia Z (lst 4 (fun _ => 0))) :: (sa, Ia Z (lst 4 (sF ke))) :: (ta, Ia Z (lst 4 (tF ke))) :: (a220, Ia Z [(Int32.ofNat x2), (Int32.ofNat x0), 2, 3]) :: (a231, Ia Z [Int32.ofNat x0, Int32.ofNat x1, Int32.ofNat x2, Int32.ofNat x3]) :: σ) at H290
          refine G.iinc K D99_10_162 1 rfl rfl ([.val (.ref fa), .val (.ref sa), .val (.ref ta), .val (.int 4), .val (.ref a231), .val (.ref a220), .val (.int 2), .val (.int 0), .val (.int 2), .val (.int 4), .val (.int 1), .val (.int 3), .val (.int (1 + 1)), .val (.int 1)]) rfl ?_
          change G k n0 _ h290 _ _ 165 [.val (.ref fa), .val (.ref sa), .val (.ref ta), .val (.int 4), .val (.ref a231), .val (.ref a220), .val (.int 2), .val (.int 0), .val (.int 2), .val (.int 4), .val (.int 1), .val (.int 3), .val (.int 2), .val (.int 1)] []
          refine G.goto K D99_10_165 ?_
          refine G.iload K D99_10_86 rfl ?_
          refine G.iload K D99_10_88 rfl ?_
          refine G.icmp_ge K D99_10_90 (fun q => absurd q (by decide)) (fun _ => ?_)
          refine G.iload K D99_10_93 rfl ?_
          refine G.iload K D99_10_95 rfl ?_
          refine G.icmp_ge K D99_10_97 (fun q => absurd q (by decide)) (fun _ => ?_)
          refine G.iload K D99_10_100 rfl ?_
          refine G.iload K D99_10_102 rfl ?_
          refine G.icmp_ge K D99_10_104 (fun q => absurd q (by decide)) (fun _ => ?_)
          refine G.aloadN K D99_10_107 rfl rfl ?_
          refine G.aloadN K D99_10_108 rfl rfl ?_
          refine G.aloadN K D99_10_109 rfl rfl ?_
          refine G.aload K D99_10_110 rfl rfl ?_
          refine G.iload K D99_10_112 rfl ?_
          refine G.aload_i K H290 (i := 4) rfl (by decide) rfl D99_10_114 ?_
          refine G.aload K D99_10_115 rfl rfl ?_
          refine G.iload K D99_10_117 rfl ?_
          refine G.aload_i K H290 (i := 4) rfl (by decide) rfl D99_10_119 ?_
          have H294 : Hp n0 h290 ((ta, Ia Z (lst 4 (tF ke))) :: (fa, Ia Z (lst 4 (fun _ => 0))) :: (sa, Ia Z (lst 4 (sF ke))) :: (a220, Ia Z [(Int32.ofNat x2), (Int32.ofNat x0), 2, 3]) :: (a231, Ia Z [Int32.ofNat x0, Int32.ofNat x1, Int32.ofNat x2, Int32.ofNat x3]) :: σ) := H290.pull 2 rfl
          have H295 : Hp n0 h290 ((sa, Ia Z (lst 4 (sF ke))) :: (ta, Ia Z (lst 4 (tF ke))) :: (fa, Ia Z (lst 4 (fun _ => 0))) :: (a220, Ia Z [(Int32.ofNat x2), (Int32.ofNat x0), 2, 3]) :: (a231, Ia Z [Int32.ofNat x0, Int32.ofNat x1, Int32.ofNat x2, Int32.ofNat x3]) :: σ) := H294.pull 2 rfl
          have H296 : Hp n0 h290 ((fa, Ia Z (lst 4 (fun _ => 0))) :: (sa, Ia Z (lst 4 (sF ke))) :: (ta, Ia Z (lst 4 (tF ke))) :: (a220, Ia Z [(Int32.ofNat x2), (Int32.ofNat x0), 2, 3]) :: (a231, Ia Z [Int32.ofNat x0, Int32.ofNat x1, Int32.ofNat x2, Int32.ofNat x3]) :: σ) := H295.pull 2 rfl
          refine G.callS K hl (wd hw 45 rfl) (wd hw 46 rfl) (wd hw 3 rfl) (wd hw 47 rfl) (by decide) pd_1 (ct_cmp l Z a0 hw n0 h290 fa sa ta ke x1 x3 ((a220, Ia Z [(Int32.ofNat x2), (Int32.ofNat x0), 2, 3]) :: (a231, Ia Z [Int32.ofNat x0, Int32.ofNat x1, Int32.ofNat x2, Int32.ofNat x3]) :: σ) hK (by omega) (by omega) H296) 0 rfl (by decide) (by decide) (by decide) (by decide) rfl rfl [.int (Int32.ofNat x3), .int (Int32.ofNat x1), .ref ta, .ref sa, .ref fa] rfl D99_10_120 ?_
          rintro _ _ ⟨z297, rfl, hz297, rfl⟩
          change G k n0 _ h290 _ _ 123 [.val (.ref fa), .val (.ref sa), .val (.ref ta), .val (.int 4), .val (.ref a231), .val (.ref a220), .val (.int 2), .val (.int 0), .val (.int 2), .val (.int 4), .val (.int 1), .val (.int 3), .val (.int 2), .val (.int 1)] [.int z297]
          refine G.if_gt K D99_10_123 (fun q298 => ?_) (fun q298 => ?_)
          · have e299 : ke x3 < ke x1 := hz297.mp q298
            refine G.iconst K D99_10_130 0 rfl ?_
            refine G.istore K D99_10_131 ([.val (.ref fa), .val (.ref sa), .val (.ref ta), .val (.int 4), .val (.ref a231), .val (.ref a220), .val (.int 2), .val (.int 0), .val (.int 2), .val (.int 4), .val (.int 1), .val (.int 3), .val (.int 2), .val (.int 0)]) rfl ?_
            refine G.aload K D99_10_133 rfl rfl ?_
            refine G.iload K D99_10_135 rfl ?_
            refine G.iload K D99_10_137 rfl ?_
            refine G.if_eq K D99_10_139 (fun _ => ?_) (fun q => absurd q (by decide))
            refine G.aload K D99_10_153 rfl rfl ?_
            refine G.iload K D99_10_155 rfl ?_
            refine G.iinc K D99_10_157 1 rfl rfl ([.val (.ref fa), .val (.ref sa), .val (.ref ta), .val (.int 4), .val (.ref a231), .val (.ref a220), .val (.int 2), .val (.int 0), .val (.int 2), .val (.int 4), .val (.int 1), .val (.int (3 + 1)), .val (.int 2), .val (.int 0)]) rfl ?_
            change G k n0 _ h290 _ _ 160 [.val (.ref fa), .val (.ref sa), .val (.ref ta), .val (.int 4), .val (.ref a231), .val (.ref a220), .val (.int 2), .val (.int 0), .val (.int 2), .val (.int 4), .val (.int 1), .val (.int 4), .val (.int 2), .val (.int 0)] [.int 3, .ref a231, .int 2, .ref a220]
            refine G.aload_i K H296 (i := 4) rfl (by decide) rfl D99_10_160 ?_
            refine G.astore_i K H296 (i := 3) rfl (by decide) (Nat.le_of_ble_eq_true rfl) D99_10_161 ?_
            intro h301 H301
            change Hp n0 h301 ((fa, Ia Z (lst 4 (fun _ => 0))) :: (sa, Ia Z (lst 4 (sF ke))) :: (ta, Ia Z (lst 4 (tF ke))) :: (a220, Ia Z [(Int32.ofNat x2), (Int32.ofNat x0), (Int32.ofNat x3), 3]) :: (a231, Ia Z [Int32.ofNat x0, Int32.ofNat x1, Int32.ofNat x2, Int32.ofNat x3]) :: σ) at H301
            refine G.iinc K D99_10_162 1 rfl rfl ([.val (.ref fa), .val (.ref sa), .val (.ref ta), .val (.int 4), .val (.ref a231), .val (.ref a220), .val (.int 2), .val (.int 0), .val (.int 2), .val (.int 4), .val (.int 1), .val (.int 4), .val (.int (2 + 1)), .val (.int 0)]) rfl ?_
            change G k n0 _ h301 _ _ 165 [.val (.ref fa), .val (.ref sa), .val (.ref ta), .val (.int 4), .val (.ref a231), .val (.ref a220), .val (.int 2), .val (.int 0), .val (.int 2), .val (.int 4), .val (.int 1), .val (.int 4), .val (.int 3), .val (.int 0)] []
            refine G.goto K D99_10_165 ?_
            refine G.iload K D99_10_86 rfl ?_
            refine G.iload K D99_10_88 rfl ?_
            refine G.icmp_ge K D99_10_90 (fun q => absurd q (by decide)) (fun _ => ?_)
            refine G.iload K D99_10_93 rfl ?_
            refine G.iload K D99_10_95 rfl ?_
            refine G.icmp_ge K D99_10_97 (fun _ => ?_) (fun q => absurd q (by decide))
            refine G.iconst K D99_10_126 1 rfl ?_
            refine G.goto K D99_10_127 ?_
            refine G.istore K D99_10_131 ([.val (.ref fa), .val (.ref sa), .val (.ref ta), .val (.int 4), .val (.ref a231), .val (.ref a220), .val (.int 2), .val (.int 0), .val (.int 2), .val (.int 4), .val (.int 1), .val (.int 4), .val (.int 3), .val (.int 1)]) rfl ?_
            refine G.aload K D99_10_133 rfl rfl ?_
            refine G.iload K D99_10_135 rfl ?_
            refine G.iload K D99_10_137 rfl ?_
            refine G.if_eq K D99_10_139 (fun q => absurd q (by decide)) (fun _ => ?_)
            refine G.aload K D99_10_142 rfl rfl ?_
            refine G.iload K D99_10_144 rfl ?_
            refine G.iinc K D99_10_146 1 rfl rfl ([.val (.ref fa), .val (.ref sa), .val (.ref ta), .val (.int 4), .val (.ref a231), .val (.ref a220), .val (.int 2), .val (.int 0), .val (.int 2), .val (.int 4), .val (.int (1 + 1)), .val (.int 4), .val (.int 3), .val (.int 1)]) rfl ?_
            change G k n0 _ h301 _ _ 149 [.val (.ref fa), .val (.ref sa), .val (.ref ta), .val (.int 4), .val (.ref a231), .val (.ref a220), .val (.int 2), .val (.int 0), .val (.int 2), .val (.int 4), .val (.int 2), .val (.int 4), .val (.int 3), .val (.int 1)] [.int 1, .ref a231, .int 3, .ref a220]
            refine G.aload_i K H301 (i := 4) rfl (by decide) rfl D99_10_149 ?_
            refine G.goto K D99_10_150 ?_
            refine G.astore_i K H301 (i := 3) rfl (by decide) (Nat.le_of_ble_eq_true rfl) D99_10_161 ?_
            intro h305 H305
            change Hp n0 h305 ((fa, Ia Z (lst 4 (fun _ => 0))) :: (sa, Ia Z (lst 4 (sF ke))) :: (ta, Ia Z (lst 4 (tF ke))) :: (a220, Ia Z [(Int32.ofNat x2), (Int32.ofNat x0), (Int32.ofNat x3), (Int32.ofNat x1)]) :: (a231, Ia Z [Int32.ofNat x0, Int32.ofNat x1, Int32.ofNat x2, Int32.ofNat x3]) :: σ) at H305
            refine G.iinc K D99_10_162 1 rfl rfl ([.val (.ref fa), .val (.ref sa), .val (.ref ta), .val (.int 4), .val (.ref a231), .val (.ref a220), .val (.int 2), .val (.int 0), .val (.int 2), .val (.int 4), .val (.int 2), .val (.int 4), .val (.int (3 + 1)), .val (.int 1)]) rfl ?_
            change G k n0 _ h305 _ _ 165 [.val (.ref fa), .val (.ref sa), .val (.ref ta), .val (.int 4), .val (.ref a231), .val (.ref a220), .val (.int 2), .val (.int 0), .val (.int 2), .val (.int 4), .val (.int 2), .val (.int 4), .val (.int 4), .val (.int 1)] []
            refine G.goto K D99_10_165 ?_
            refine G.iload K D99_10_86 rfl ?_
            refine G.iload K D99_10_88 rfl ?_
            refine G.icmp_ge K D99_10_90 (fun _ => ?_) (fun q => absurd q (by decide))
            refine G.iload K D99_10_168 rfl ?_
            refine G.iconst K D99_10_170 2 rfl ?_
            refine G.iload K D99_10_171 rfl ?_
            refine G.imul K D99_10_173 ?_
            change G k n0 _ h305 _ _ 174 [.val (.ref fa), .val (.ref sa), .val (.ref ta), .val (.int 4), .val (.ref a231), .val (.ref a220), .val (.int 2), .val (.int 0), .val (.int 2), .val (.int 4), .val (.int 2), .val (.int 4), .val (.int 4), .val (.int 1)] [.int 4, .int 0]
            refine G.iadd K D99_10_174 ?_
            change G k n0 _ h305 _ _ 175 [.val (.ref fa), .val (.ref sa), .val (.ref ta), .val (.int 4), .val (.ref a231), .val (.ref a220), .val (.int 2), .val (.int 0), .val (.int 2), .val (.int 4), .val (.int 2), .val (.int 4), .val (.int 4), .val (.int 1)] [.int 4]
            refine G.istore K D99_10_175 ([.val (.ref fa), .val (.ref sa), .val (.ref ta), .val (.int 4), .val (.ref a231), .val (.ref a220), .val (.int 2), .val (.int 4), .val (.int 2), .val (.int 4), .val (.int 2), .val (.int 4), .val (.int 4), .val (.int 1)]) rfl ?_
            refine G.goto K D99_10_177 ?_
            refine G.iload K D99_10_44 rfl ?_
            refine G.iloadN K D99_10_46 rfl ?_
            refine G.icmp_ge K D99_10_47 (fun _ => ?_) (fun q => absurd q (by decide))
            refine G.aload K D99_10_180 rfl rfl ?_
            refine G.astore K D99_10_182 rfl ([.val (.ref fa), .val (.ref sa), .val (.ref ta), .val (.int 4), .val (.ref a231), .val (.ref a220), .val (.int 2), .val (.ref a231), .val (.int 2), .val (.int 4), .val (.int 2), .val (.int 4), .val (.int 4), .val (.int 1)]) rfl ?_
            refine G.aload K D99_10_184 rfl rfl ?_
            refine G.astore K D99_10_186 rfl ([.val (.ref fa), .val (.ref sa), .val (.ref ta), .val (.int 4), .val (.ref a220), .val (.ref a220), .val (.int 2), .val (.ref a231), .val (.int 2), .val (.int 4), .val (.int 2), .val (.int 4), .val (.int 4), .val (.int 1)]) rfl ?_
            refine G.aload K D99_10_188 rfl rfl ?_
            refine G.astore K D99_10_190 rfl ([.val (.ref fa), .val (.ref sa), .val (.ref ta), .val (.int 4), .val (.ref a220), .val (.ref a231), .val (.int 2), .val (.ref a231), .val (.int 2), .val (.int 4), .val (.int 2), .val (.int 4), .val (.int 4), .val (.int 1)]) rfl ?_
            refine G.iload K D99_10_192 rfl ?_
            refine G.iconst K D99_10_194 2 rfl ?_
            refine G.imul K D99_10_195 ?_
            change G k n0 _ h305 _ _ 196 [.val (.ref fa), .val (.ref sa), .val (.ref ta), .val (.int 4), .val (.ref a220), .val (.ref a231), .val (.int 2), .val (.ref a231), .val (.int 2), .val (.int 4), .val (.int 2), .val (.int 4), .val (.int 4), .val (.int 1)] [.int 4]
            refine G.istore K D99_10_196 ([.val (.ref fa), .val (.ref sa), .val (.ref ta), .val (.int 4), .val (.ref a220), .val (.ref a231), .val (.int 4), .val (.ref a231), .val (.int 2), .val (.int 4), .val (.int 2), .val (.int 4), .val (.int 4), .val (.int 1)]) rfl ?_
            refine G.goto K D99_10_198 ?_
            refine G.iload K D99_10_35 rfl ?_
            refine G.iloadN K D99_10_37 rfl ?_
            refine G.icmp_ge K D99_10_38 (fun _ => ?_) (fun q => absurd q (by decide))
            refine G.aload K D99_10_201 rfl rfl ?_
            refine G.ret_ref K rfl rfl D99_10_203 ?_
            have H309 : Hp n0 h305 ((ta, Ia Z (lst 4 (tF ke))) :: (fa, Ia Z (lst 4 (fun _ => 0))) :: (sa, Ia Z (lst 4 (sF ke))) :: (a220, Ia Z [(Int32.ofNat x2), (Int32.ofNat x0), (Int32.ofNat x3), (Int32.ofNat x1)]) :: (a231, Ia Z [Int32.ofNat x0, Int32.ofNat x1, Int32.ofNat x2, Int32.ofNat x3]) :: σ) := H305.pull 2 rfl
            have H310 : Hp n0 h305 ((sa, Ia Z (lst 4 (sF ke))) :: (ta, Ia Z (lst 4 (tF ke))) :: (fa, Ia Z (lst 4 (fun _ => 0))) :: (a220, Ia Z [(Int32.ofNat x2), (Int32.ofNat x0), (Int32.ofNat x3), (Int32.ofNat x1)]) :: (a231, Ia Z [Int32.ofNat x0, Int32.ofNat x1, Int32.ofNat x2, Int32.ofNat x3]) :: σ) := H309.pull 2 rfl
            have H311 : Hp n0 h305 ((fa, Ia Z (lst 4 (fun _ => 0))) :: (sa, Ia Z (lst 4 (sF ke))) :: (ta, Ia Z (lst 4 (tF ke))) :: (a220, Ia Z [(Int32.ofNat x2), (Int32.ofNat x0), (Int32.ofNat x3), (Int32.ofNat x1)]) :: (a231, Ia Z [Int32.ofNat x0, Int32.ofNat x1, Int32.ofNat x2, Int32.ofNat x3]) :: σ) := H310.pull 2 rfl
            have H312 : Hp n0 h305 ((a220, Ia Z [(Int32.ofNat x2), (Int32.ofNat x0), (Int32.ofNat x3), (Int32.ofNat x1)]) :: (fa, Ia Z (lst 4 (fun _ => 0))) :: (sa, Ia Z (lst 4 (sF ke))) :: (ta, Ia Z (lst 4 (tF ke))) :: (a231, Ia Z [Int32.ofNat x0, Int32.ofNat x1, Int32.ofNat x2, Int32.ofNat x3]) :: σ) := H311.pull 3 rfl
            have H313 : Hp n0 h305 ((a220, Ia Z [(Int32.ofNat x2), (Int32.ofNat x0), (Int32.ofNat x3), (Int32.ofNat x1)]) :: (fa, Ia Z (lst 4 (fun _ => 0))) :: (sa, Ia Z (lst 4 (sF ke))) :: (ta, Ia Z (lst 4 (tF ke))) :: σ) := H312.sub (List.Sublist.cons_cons _ (List.Sublist.cons_cons _ (List.Sublist.cons_cons _ (List.Sublist.cons_cons _ (List.Sublist.cons _ (List.Sublist.refl _))))))
            exact ⟨a220, x2, x0, x3, x1, rfl, by omega, by omega, by omega, by omega, by omega, by omega, by omega, by omega, by omega, by omega, by omega, by omega, by omega, H313⟩
          · have e314 : ke x1 ≤ ke x3 := Nat.le_of_not_lt fun y => q298 (hz297.mpr y)
            refine G.iconst K D99_10_126 1 rfl ?_
            refine G.goto K D99_10_127 ?_
            refine G.istore K D99_10_131 ([.val (.ref fa), .val (.ref sa), .val (.ref ta), .val (.int 4), .val (.ref a231), .val (.ref a220), .val (.int 2), .val (.int 0), .val (.int 2), .val (.int 4), .val (.int 1), .val (.int 3), .val (.int 2), .val (.int 1)]) rfl ?_
            refine G.aload K D99_10_133 rfl rfl ?_
            refine G.iload K D99_10_135 rfl ?_
            refine G.iload K D99_10_137 rfl ?_
            refine G.if_eq K D99_10_139 (fun q => absurd q (by decide)) (fun _ => ?_)
            refine G.aload K D99_10_142 rfl rfl ?_
            refine G.iload K D99_10_144 rfl ?_
            refine G.iinc K D99_10_146 1 rfl rfl ([.val (.ref fa), .val (.ref sa), .val (.ref ta), .val (.int 4), .val (.ref a231), .val (.ref a220), .val (.int 2), .val (.int 0), .val (.int 2), .val (.int 4), .val (.int (1 + 1)), .val (.int 3), .val (.int 2), .val (.int 1)]) rfl ?_
            change G k n0 _ h290 _ _ 149 [.val (.ref fa), .val (.ref sa), .val (.ref ta), .val (.int 4), .val (.ref a231), .val (.ref a220), .val (.int 2), .val (.int 0), .val (.int 2), .val (.int 4), .val (.int 2), .val (.int 3), .val (.int 2), .val (.int 1)] [.int 1, .ref a231, .int 2, .ref a220]
            refine G.aload_i K H296 (i := 4) rfl (by decide) rfl D99_10_149 ?_
            refine G.goto K D99_10_150 ?_
            refine G.astore_i K H296 (i := 3) rfl (by decide) (Nat.le_of_ble_eq_true rfl) D99_10_161 ?_
            intro h316 H316
            change Hp n0 h316 ((fa, Ia Z (lst 4 (fun _ => 0))) :: (sa, Ia Z (lst 4 (sF ke))) :: (ta, Ia Z (lst 4 (tF ke))) :: (a220, Ia Z [(Int32.ofNat x2), (Int32.ofNat x0), (Int32.ofNat x1), 3]) :: (a231, Ia Z [Int32.ofNat x0, Int32.ofNat x1, Int32.ofNat x2, Int32.ofNat x3]) :: σ) at H316
            refine G.iinc K D99_10_162 1 rfl rfl ([.val (.ref fa), .val (.ref sa), .val (.ref ta), .val (.int 4), .val (.ref a231), .val (.ref a220), .val (.int 2), .val (.int 0), .val (.int 2), .val (.int 4), .val (.int 2), .val (.int 3), .val (.int (2 + 1)), .val (.int 1)]) rfl ?_
            change G k n0 _ h316 _ _ 165 [.val (.ref fa), .val (.ref sa), .val (.ref ta), .val (.int 4), .val (.ref a231), .val (.ref a220), .val (.int 2), .val (.int 0), .val (.int 2), .val (.int 4), .val (.int 2), .val (.int 3), .val (.int 3), .val (.int 1)] []
            refine G.goto K D99_10_165 ?_
            refine G.iload K D99_10_86 rfl ?_
            refine G.iload K D99_10_88 rfl ?_
            refine G.icmp_ge K D99_10_90 (fun q => absurd q (by decide)) (fun _ => ?_)
            refine G.iload K D99_10_93 rfl ?_
            refine G.iload K D99_10_95 rfl ?_
            refine G.icmp_ge K D99_10_97 (fun q => absurd q (by decide)) (fun _ => ?_)
            refine G.iload K D99_10_100 rfl ?_
            refine G.iload K D99_10_102 rfl ?_
            refine G.icmp_ge K D99_10_104 (fun _ => ?_) (fun q => absurd q (by decide))
            refine G.iconst K D99_10_130 0 rfl ?_
            refine G.istore K D99_10_131 ([.val (.ref fa), .val (.ref sa), .val (.ref ta), .val (.int 4), .val (.ref a231), .val (.ref a220), .val (.int 2), .val (.int 0), .val (.int 2), .val (.int 4), .val (.int 2), .val (.int 3), .val (.int 3), .val (.int 0)]) rfl ?_
            refine G.aload K D99_10_133 rfl rfl ?_
            refine G.iload K D99_10_135 rfl ?_
            refine G.iload K D99_10_137 rfl ?_
            refine G.if_eq K D99_10_139 (fun _ => ?_) (fun q => absurd q (by decide))
            refine G.aload K D99_10_153 rfl rfl ?_
            refine G.iload K D99_10_155 rfl ?_
            refine G.iinc K D99_10_157 1 rfl rfl ([.val (.ref fa), .val (.ref sa), .val (.ref ta), .val (.int 4), .val (.ref a231), .val (.ref a220), .val (.int 2), .val (.int 0), .val (.int 2), .val (.int 4), .val (.int 2), .val (.int (3 + 1)), .val (.int 3), .val (.int 0)]) rfl ?_
            change G k n0 _ h316 _ _ 160 [.val (.ref fa), .val (.ref sa), .val (.ref ta), .val (.int 4), .val (.ref a231), .val (.ref a220), .val (.int 2), .val (.int 0), .val (.int 2), .val (.int 4), .val (.int 2), .val (.int 4), .val (.int 3), .val (.int 0)] [.int 3, .ref a231, .int 3, .ref a220]
            refine G.aload_i K H316 (i := 4) rfl (by decide) rfl D99_10_160 ?_
            refine G.astore_i K H316 (i := 3) rfl (by decide) (Nat.le_of_ble_eq_true rfl) D99_10_161 ?_
            intro h321 H321
            change Hp n0 h321 ((fa, Ia Z (lst 4 (fun _ => 0))) :: (sa, Ia Z (lst 4 (sF ke))) :: (ta, Ia Z (lst 4 (tF ke))) :: (a220, Ia Z [(Int32.ofNat x2), (Int32.ofNat x0), (Int32.ofNat x1), (Int32.ofNat x3)]) :: (a231, Ia Z [Int32.ofNat x0, Int32.ofNat x1, Int32.ofNat x2, Int32.ofNat x3]) :: σ) at H321
            refine G.iinc K D99_10_162 1 rfl rfl ([.val (.ref fa), .val (.ref sa), .val (.ref ta), .val (.int 4), .val (.ref a231), .val (.ref a220), .val (.int 2), .val (.int 0), .val (.int 2), .val (.int 4), .val (.int 2), .val (.int 4), .val (.int (3 + 1)), .val (.int 0)]) rfl ?_
            change G k n0 _ h321 _ _ 165 [.val (.ref fa), .val (.ref sa), .val (.ref ta), .val (.int 4), .val (.ref a231), .val (.ref a220), .val (.int 2), .val (.int 0), .val (.int 2), .val (.int 4), .val (.int 2), .val (.int 4), .val (.int 4), .val (.int 0)] []
            refine G.goto K D99_10_165 ?_
            refine G.iload K D99_10_86 rfl ?_
            refine G.iload K D99_10_88 rfl ?_
            refine G.icmp_ge K D99_10_90 (fun _ => ?_) (fun q => absurd q (by decide))
            refine G.iload K D99_10_168 rfl ?_
            refine G.iconst K D99_10_170 2 rfl ?_
            refine G.iload K D99_10_171 rfl ?_
            refine G.imul K D99_10_173 ?_
            change G k n0 _ h321 _ _ 174 [.val (.ref fa), .val (.ref sa), .val (.ref ta), .val (.int 4), .val (.ref a231), .val (.ref a220), .val (.int 2), .val (.int 0), .val (.int 2), .val (.int 4), .val (.int 2), .val (.int 4), .val (.int 4), .val (.int 0)] [.int 4, .int 0]
            refine G.iadd K D99_10_174 ?_
            change G k n0 _ h321 _ _ 175 [.val (.ref fa), .val (.ref sa), .val (.ref ta), .val (.int 4), .val (.ref a231), .val (.ref a220), .val (.int 2), .val (.int 0), .val (.int 2), .val (.int 4), .val (.int 2), .val (.int 4), .val (.int 4), .val (.int 0)] [.int 4]
            refine G.istore K D99_10_175 ([.val (.ref fa), .val (.ref sa), .val (.ref ta), .val (.int 4), .val (.ref a231), .val (.ref a220), .val (.int 2), .val (.int 4), .val (.int 2), .val (.int 4), .val (.int 2), .val (.int 4), .val (.int 4), .val (.int 0)]) rfl ?_
            refine G.goto K D99_10_177 ?_
            refine G.iload K D99_10_44 rfl ?_
            refine G.iloadN K D99_10_46 rfl ?_
            refine G.icmp_ge K D99_10_47 (fun _ => ?_) (fun q => absurd q (by decide))
            refine G.aload K D99_10_180 rfl rfl ?_
            refine G.astore K D99_10_182 rfl ([.val (.ref fa), .val (.ref sa), .val (.ref ta), .val (.int 4), .val (.ref a231), .val (.ref a220), .val (.int 2), .val (.ref a231), .val (.int 2), .val (.int 4), .val (.int 2), .val (.int 4), .val (.int 4), .val (.int 0)]) rfl ?_
            refine G.aload K D99_10_184 rfl rfl ?_
            refine G.astore K D99_10_186 rfl ([.val (.ref fa), .val (.ref sa), .val (.ref ta), .val (.int 4), .val (.ref a220), .val (.ref a220), .val (.int 2), .val (.ref a231), .val (.int 2), .val (.int 4), .val (.int 2), .val (.int 4), .val (.int 4), .val (.int 0)]) rfl ?_
            refine G.aload K D99_10_188 rfl rfl ?_
            refine G.astore K D99_10_190 rfl ([.val (.ref fa), .val (.ref sa), .val (.ref ta), .val (.int 4), .val (.ref a220), .val (.ref a231), .val (.int 2), .val (.ref a231), .val (.int 2), .val (.int 4), .val (.int 2), .val (.int 4), .val (.int 4), .val (.int 0)]) rfl ?_
            refine G.iload K D99_10_192 rfl ?_
            refine G.iconst K D99_10_194 2 rfl ?_
            refine G.imul K D99_10_195 ?_
            change G k n0 _ h321 _ _ 196 [.val (.ref fa), .val (.ref sa), .val (.ref ta), .val (.int 4), .val (.ref a220), .val (.ref a231), .val (.int 2), .val (.ref a231), .val (.int 2), .val (.int 4), .val (.int 2), .val (.int 4), .val (.int 4), .val (.int 0)] [.int 4]
            refine G.istore K D99_10_196 ([.val (.ref fa), .val (.ref sa), .val (.ref ta), .val (.int 4), .val (.ref a220), .val (.ref a231), .val (.int 4), .val (.ref a231), .val (.int 2), .val (.int 4), .val (.int 2), .val (.int 4), .val (.int 4), .val (.int 0)]) rfl ?_
            refine G.goto K D99_10_198 ?_
            refine G.iload K D99_10_35 rfl ?_
            refine G.iloadN K D99_10_37 rfl ?_
            refine G.icmp_ge K D99_10_38 (fun _ => ?_) (fun q => absurd q (by decide))
            refine G.aload K D99_10_201 rfl rfl ?_
            refine G.ret_ref K rfl rfl D99_10_203 ?_
            have H325 : Hp n0 h321 ((ta, Ia Z (lst 4 (tF ke))) :: (fa, Ia Z (lst 4 (fun _ => 0))) :: (sa, Ia Z (lst 4 (sF ke))) :: (a220, Ia Z [(Int32.ofNat x2), (Int32.ofNat x0), (Int32.ofNat x1), (Int32.ofNat x3)]) :: (a231, Ia Z [Int32.ofNat x0, Int32.ofNat x1, Int32.ofNat x2, Int32.ofNat x3]) :: σ) := H321.pull 2 rfl
            have H326 : Hp n0 h321 ((sa, Ia Z (lst 4 (sF ke))) :: (ta, Ia Z (lst 4 (tF ke))) :: (fa, Ia Z (lst 4 (fun _ => 0))) :: (a220, Ia Z [(Int32.ofNat x2), (Int32.ofNat x0), (Int32.ofNat x1), (Int32.ofNat x3)]) :: (a231, Ia Z [Int32.ofNat x0, Int32.ofNat x1, Int32.ofNat x2, Int32.ofNat x3]) :: σ) := H325.pull 2 rfl
            have H327 : Hp n0 h321 ((fa, Ia Z (lst 4 (fun _ => 0))) :: (sa, Ia Z (lst 4 (sF ke))) :: (ta, Ia Z (lst 4 (tF ke))) :: (a220, Ia Z [(Int32.ofNat x2), (Int32.ofNat x0), (Int32.ofNat x1), (Int32.ofNat x3)]) :: (a231, Ia Z [Int32.ofNat x0, Int32.ofNat x1, Int32.ofNat x2, Int32.ofNat x3]) :: σ) := H326.pull 2 rfl
            have H328 : Hp n0 h321 ((a220, Ia Z [(Int32.ofNat x2), (Int32.ofNat x0), (Int32.ofNat x1), (Int32.ofNat x3)]) :: (fa, Ia Z (lst 4 (fun _ => 0))) :: (sa, Ia Z (lst 4 (sF ke))) :: (ta, Ia Z (lst 4 (tF ke))) :: (a231, Ia Z [Int32.ofNat x0, Int32.ofNat x1, Int32.ofNat x2, Int32.ofNat x3]) :: σ) := H327.pull 3 rfl
            have H329 : Hp n0 h321 ((a220, Ia Z [(Int32.ofNat x2), (Int32.ofNat x0), (Int32.ofNat x1), (Int32.ofNat x3)]) :: (fa, Ia Z (lst 4 (fun _ => 0))) :: (sa, Ia Z (lst 4 (sF ke))) :: (ta, Ia Z (lst 4 (tF ke))) :: σ) := H328.sub (List.Sublist.cons_cons _ (List.Sublist.cons_cons _ (List.Sublist.cons_cons _ (List.Sublist.cons_cons _ (List.Sublist.cons _ (List.Sublist.refl _))))))
            exact ⟨a220, x2, x0, x1, x3, rfl, by omega, by omega, by omega, by omega, by omega, by omega, by omega, by omega, by omega, by omega, by omega, by omega, by omega, H329⟩
      · have e330 : ke x0 ≤ ke x2 := Nat.le_of_not_lt fun y => q257 (hz256.mpr y)
        refine G.iconst K D99_10_126 1 rfl ?_
        refine G.goto K D99_10_127 ?_
        refine G.istore K D99_10_131 ([.val (.ref fa), .val (.ref sa), .val (.ref ta), .val (.int 4), .val (.ref a231), .val (.ref a220), .val (.int 2), .val (.int 0), .val (.int 2), .val (.int 4), .val (.int 0), .val (.int 2), .val (.int 0), .val (.int 1)]) rfl ?_
        refine G.aload K D99_10_133 rfl rfl ?_
        refine G.iload K D99_10_135 rfl ?_
        refine G.iload K D99_10_137 rfl ?_
        refine G.if_eq K D99_10_139 (fun q => absurd q (by decide)) (fun _ => ?_)
        refine G.aload K D99_10_142 rfl rfl ?_
        refine G.iload K D99_10_144 rfl ?_
        refine G.iinc K D99_10_146 1 rfl rfl ([.val (.ref fa), .val (.ref sa), .val (.ref ta), .val (.int 4), .val (.ref a231), .val (.ref a220), .val (.int 2), .val (.int 0), .val (.int 2), .val (.int 4), .val (.int (0 + 1)), .val (.int 2), .val (.int 0), .val (.int 1)]) rfl ?_
        change G k n0 _ h246 _ _ 149 [.val (.ref fa), .val (.ref sa), .val (.ref ta), .val (.int 4), .val (.ref a231), .val (.ref a220), .val (.int 2), .val (.int 0), .val (.int 2), .val (.int 4), .val (.int 1), .val (.int 2), .val (.int 0), .val (.int 1)] [.int 0, .ref a231, .int 0, .ref a220]
        refine G.aload_i K H255 (i := 4) rfl (by decide) rfl D99_10_149 ?_
        refine G.goto K D99_10_150 ?_
        refine G.astore_i K H255 (i := 3) rfl (by decide) (Nat.le_of_ble_eq_true rfl) D99_10_161 ?_
        intro h332 H332
        change Hp n0 h332 ((fa, Ia Z (lst 4 (fun _ => 0))) :: (sa, Ia Z (lst 4 (sF ke))) :: (ta, Ia Z (lst 4 (tF ke))) :: (a220, Ia Z [(Int32.ofNat x0), 1, 2, 3]) :: (a231, Ia Z [Int32.ofNat x0, Int32.ofNat x1, Int32.ofNat x2, Int32.ofNat x3]) :: σ) at H332
        refine G.iinc K D99_10_162 1 rfl rfl ([.val (.ref fa), .val (.ref sa), .val (.ref ta), .val (.int 4), .val (.ref a231), .val (.ref a220), .val (.int 2), .val (.int 0), .val (.int 2), .val (.int 4), .val (.int 1), .val (.int 2), .val (.int (0 + 1)), .val (.int 1)]) rfl ?_
        change G k n0 _ h332 _ _ 165 [.val (.ref fa), .val (.ref sa), .val (.ref ta), .val (.int 4), .val (.ref a231), .val (.ref a220), .val (.int 2), .val (.int 0), .val (.int 2), .val (.int 4), .val (.int 1), .val (.int 2), .val (.int 1), .val (.int 1)] []
        refine G.goto K D99_10_165 ?_
        refine G.iload K D99_10_86 rfl ?_
        refine G.iload K D99_10_88 rfl ?_
        refine G.icmp_ge K D99_10_90 (fun q => absurd q (by decide)) (fun _ => ?_)
        refine G.iload K D99_10_93 rfl ?_
        refine G.iload K D99_10_95 rfl ?_
        refine G.icmp_ge K D99_10_97 (fun q => absurd q (by decide)) (fun _ => ?_)
        refine G.iload K D99_10_100 rfl ?_
        refine G.iload K D99_10_102 rfl ?_
        refine G.icmp_ge K D99_10_104 (fun q => absurd q (by decide)) (fun _ => ?_)
        refine G.aloadN K D99_10_107 rfl rfl ?_
        refine G.aloadN K D99_10_108 rfl rfl ?_
        refine G.aloadN K D99_10_109 rfl rfl ?_
        refine G.aload K D99_10_110 rfl rfl ?_
        refine G.iload K D99_10_112 rfl ?_
        refine G.aload_i K H332 (i := 4) rfl (by decide) rfl D99_10_114 ?_
        refine G.aload K D99_10_115 rfl rfl ?_
        refine G.iload K D99_10_117 rfl ?_
        refine G.aload_i K H332 (i := 4) rfl (by decide) rfl D99_10_119 ?_
        have H336 : Hp n0 h332 ((ta, Ia Z (lst 4 (tF ke))) :: (fa, Ia Z (lst 4 (fun _ => 0))) :: (sa, Ia Z (lst 4 (sF ke))) :: (a220, Ia Z [(Int32.ofNat x0), 1, 2, 3]) :: (a231, Ia Z [Int32.ofNat x0, Int32.ofNat x1, Int32.ofNat x2, Int32.ofNat x3]) :: σ) := H332.pull 2 rfl
        have H337 : Hp n0 h332 ((sa, Ia Z (lst 4 (sF ke))) :: (ta, Ia Z (lst 4 (tF ke))) :: (fa, Ia Z (lst 4 (fun _ => 0))) :: (a220, Ia Z [(Int32.ofNat x0), 1, 2, 3]) :: (a231, Ia Z [Int32.ofNat x0, Int32.ofNat x1, Int32.ofNat x2, Int32.ofNat x3]) :: σ) := H336.pull 2 rfl
        have H338 : Hp n0 h332 ((fa, Ia Z (lst 4 (fun _ => 0))) :: (sa, Ia Z (lst 4 (sF ke))) :: (ta, Ia Z (lst 4 (tF ke))) :: (a220, Ia Z [(Int32.ofNat x0), 1, 2, 3]) :: (a231, Ia Z [Int32.ofNat x0, Int32.ofNat x1, Int32.ofNat x2, Int32.ofNat x3]) :: σ) := H337.pull 2 rfl
        refine G.callS K hl (wd hw 45 rfl) (wd hw 46 rfl) (wd hw 3 rfl) (wd hw 47 rfl) (by decide) pd_1 (ct_cmp l Z a0 hw n0 h332 fa sa ta ke x1 x2 ((a220, Ia Z [(Int32.ofNat x0), 1, 2, 3]) :: (a231, Ia Z [Int32.ofNat x0, Int32.ofNat x1, Int32.ofNat x2, Int32.ofNat x3]) :: σ) hK (by omega) (by omega) H338) 0 rfl (by decide) (by decide) (by decide) (by decide) rfl rfl [.int (Int32.ofNat x2), .int (Int32.ofNat x1), .ref ta, .ref sa, .ref fa] rfl D99_10_120 ?_
        rintro _ _ ⟨z339, rfl, hz339, rfl⟩
        change G k n0 _ h332 _ _ 123 [.val (.ref fa), .val (.ref sa), .val (.ref ta), .val (.int 4), .val (.ref a231), .val (.ref a220), .val (.int 2), .val (.int 0), .val (.int 2), .val (.int 4), .val (.int 1), .val (.int 2), .val (.int 1), .val (.int 1)] [.int z339]
        refine G.if_gt K D99_10_123 (fun q340 => ?_) (fun q340 => ?_)
        · have e341 : ke x2 < ke x1 := hz339.mp q340
          refine G.iconst K D99_10_130 0 rfl ?_
          refine G.istore K D99_10_131 ([.val (.ref fa), .val (.ref sa), .val (.ref ta), .val (.int 4), .val (.ref a231), .val (.ref a220), .val (.int 2), .val (.int 0), .val (.int 2), .val (.int 4), .val (.int 1), .val (.int 2), .val (.int 1), .val (.int 0)]) rfl ?_
          refine G.aload K D99_10_133 rfl rfl ?_
          refine G.iload K D99_10_135 rfl ?_
          refine G.iload K D99_10_137 rfl ?_
          refine G.if_eq K D99_10_139 (fun _ => ?_) (fun q => absurd q (by decide))
          refine G.aload K D99_10_153 rfl rfl ?_
          refine G.iload K D99_10_155 rfl ?_
          refine G.iinc K D99_10_157 1 rfl rfl ([.val (.ref fa), .val (.ref sa), .val (.ref ta), .val (.int 4), .val (.ref a231), .val (.ref a220), .val (.int 2), .val (.int 0), .val (.int 2), .val (.int 4), .val (.int 1), .val (.int (2 + 1)), .val (.int 1), .val (.int 0)]) rfl ?_
          change G k n0 _ h332 _ _ 160 [.val (.ref fa), .val (.ref sa), .val (.ref ta), .val (.int 4), .val (.ref a231), .val (.ref a220), .val (.int 2), .val (.int 0), .val (.int 2), .val (.int 4), .val (.int 1), .val (.int 3), .val (.int 1), .val (.int 0)] [.int 2, .ref a231, .int 1, .ref a220]
          refine G.aload_i K H338 (i := 4) rfl (by decide) rfl D99_10_160 ?_
          refine G.astore_i K H338 (i := 3) rfl (by decide) (Nat.le_of_ble_eq_true rfl) D99_10_161 ?_
          intro h343 H343
          change Hp n0 h343 ((fa, Ia Z (lst 4 (fun _ => 0))) :: (sa, Ia Z (lst 4 (sF ke))) :: (ta, Ia Z (lst 4 (tF ke))) :: (a220, Ia Z [(Int32.ofNat x0), (Int32.ofNat x2), 2, 3]) :: (a231, Ia Z [Int32.ofNat x0, Int32.ofNat x1, Int32.ofNat x2, Int32.ofNat x3]) :: σ) at H343
          refine G.iinc K D99_10_162 1 rfl rfl ([.val (.ref fa), .val (.ref sa), .val (.ref ta), .val (.int 4), .val (.ref a231), .val (.ref a220), .val (.int 2), .val (.int 0), .val (.int 2), .val (.int 4), .val (.int 1), .val (.int 3), .val (.int (1 + 1)), .val (.int 0)]) rfl ?_
          change G k n0 _ h343 _ _ 165 [.val (.ref fa), .val (.ref sa), .val (.ref ta), .val (.int 4), .val (.ref a231), .val (.ref a220), .val (.int 2), .val (.int 0), .val (.int 2), .val (.int 4), .val (.int 1), .val (.int 3), .val (.int 2), .val (.int 0)] []
          refine G.goto K D99_10_165 ?_
          refine G.iload K D99_10_86 rfl ?_
          refine G.iload K D99_10_88 rfl ?_
          refine G.icmp_ge K D99_10_90 (fun q => absurd q (by decide)) (fun _ => ?_)
          refine G.iload K D99_10_93 rfl ?_
          refine G.iload K D99_10_95 rfl ?_
          refine G.icmp_ge K D99_10_97 (fun q => absurd q (by decide)) (fun _ => ?_)
          refine G.iload K D99_10_100 rfl ?_
          refine G.iload K D99_10_102 rfl ?_
          refine G.icmp_ge K D99_10_104 (fun q => absurd q (by decide)) (fun _ => ?_)
          refine G.aloadN K D99_10_107 rfl rfl ?_
          refine G.aloadN K D99_10_108 rfl rfl ?_
          refine G.aloadN K D99_10_109 rfl rfl ?_
          refine G.aload K D99_10_110 rfl rfl ?_
          refine G.iload K D99_10_112 rfl ?_
          refine G.aload_i K H343 (i := 4) rfl (by decide) rfl D99_10_114 ?_
          refine G.aload K D99_10_115 rfl rfl ?_
          refine G.iload K D99_10_117 rfl ?_
          refine G.aload_i K H343 (i := 4) rfl (by decide) rfl D99_10_119 ?_
          have H347 : Hp n0 h343 ((ta, Ia Z (lst 4 (tF ke))) :: (fa, Ia Z (lst 4 (fun _ => 0))) :: (sa, Ia Z (lst 4 (sF ke))) :: (a220, Ia Z [(Int32.ofNat x0), (Int32.ofNat x2), 2, 3]) :: (a231, Ia Z [Int32.ofNat x0, Int32.ofNat x1, Int32.ofNat x2, Int32.ofNat x3]) :: σ) := H343.pull 2 rfl
          have H348 : Hp n0 h343 ((sa, Ia Z (lst 4 (sF ke))) :: (ta, Ia Z (lst 4 (tF ke))) :: (fa, Ia Z (lst 4 (fun _ => 0))) :: (a220, Ia Z [(Int32.ofNat x0), (Int32.ofNat x2), 2, 3]) :: (a231, Ia Z [Int32.ofNat x0, Int32.ofNat x1, Int32.ofNat x2, Int32.ofNat x3]) :: σ) := H347.pull 2 rfl
          have H349 : Hp n0 h343 ((fa, Ia Z (lst 4 (fun _ => 0))) :: (sa, Ia Z (lst 4 (sF ke))) :: (ta, Ia Z (lst 4 (tF ke))) :: (a220, Ia Z [(Int32.ofNat x0), (Int32.ofNat x2), 2, 3]) :: (a231, Ia Z [Int32.ofNat x0, Int32.ofNat x1, Int32.ofNat x2, Int32.ofNat x3]) :: σ) := H348.pull 2 rfl
          refine G.callS K hl (wd hw 45 rfl) (wd hw 46 rfl) (wd hw 3 rfl) (wd hw 47 rfl) (by decide) pd_1 (ct_cmp l Z a0 hw n0 h343 fa sa ta ke x1 x3 ((a220, Ia Z [(Int32.ofNat x0), (Int32.ofNat x2), 2, 3]) :: (a231, Ia Z [Int32.ofNat x0, Int32.ofNat x1, Int32.ofNat x2, Int32.ofNat x3]) :: σ) hK (by omega) (by omega) H349) 0 rfl (by decide) (by decide) (by decide) (by decide) rfl rfl [.int (Int32.ofNat x3), .int (Int32.ofNat x1), .ref ta, .ref sa, .ref fa] rfl D99_10_120 ?_
          rintro _ _ ⟨z350, rfl, hz350, rfl⟩
          change G k n0 _ h343 _ _ 123 [.val (.ref fa), .val (.ref sa), .val (.ref ta), .val (.int 4), .val (.ref a231), .val (.ref a220), .val (.int 2), .val (.int 0), .val (.int 2), .val (.int 4), .val (.int 1), .val (.int 3), .val (.int 2), .val (.int 0)] [.int z350]
          refine G.if_gt K D99_10_123 (fun q351 => ?_) (fun q351 => ?_)
          · have e352 : ke x3 < ke x1 := hz350.mp q351
            refine G.iconst K D99_10_130 0 rfl ?_
            refine G.istore K D99_10_131 ([.val (.ref fa), .val (.ref sa), .val (.ref ta), .val (.int 4), .val (.ref a231), .val (.ref a220), .val (.int 2), .val (.int 0), .val (.int 2), .val (.int 4), .val (.int 1), .val (.int 3), .val (.int 2), .val (.int 0)]) rfl ?_
            refine G.aload K D99_10_133 rfl rfl ?_
            refine G.iload K D99_10_135 rfl ?_
            refine G.iload K D99_10_137 rfl ?_
            refine G.if_eq K D99_10_139 (fun _ => ?_) (fun q => absurd q (by decide))
            refine G.aload K D99_10_153 rfl rfl ?_
            refine G.iload K D99_10_155 rfl ?_
            refine G.iinc K D99_10_157 1 rfl rfl ([.val (.ref fa), .val (.ref sa), .val (.ref ta), .val (.int 4), .val (.ref a231), .val (.ref a220), .val (.int 2), .val (.int 0), .val (.int 2), .val (.int 4), .val (.int 1), .val (.int (3 + 1)), .val (.int 2), .val (.int 0)]) rfl ?_
            change G k n0 _ h343 _ _ 160 [.val (.ref fa), .val (.ref sa), .val (.ref ta), .val (.int 4), .val (.ref a231), .val (.ref a220), .val (.int 2), .val (.int 0), .val (.int 2), .val (.int 4), .val (.int 1), .val (.int 4), .val (.int 2), .val (.int 0)] [.int 3, .ref a231, .int 2, .ref a220]
            refine G.aload_i K H349 (i := 4) rfl (by decide) rfl D99_10_160 ?_
            refine G.astore_i K H349 (i := 3) rfl (by decide) (Nat.le_of_ble_eq_true rfl) D99_10_161 ?_
            intro h354 H354
            change Hp n0 h354 ((fa, Ia Z (lst 4 (fun _ => 0))) :: (sa, Ia Z (lst 4 (sF ke))) :: (ta, Ia Z (lst 4 (tF ke))) :: (a220, Ia Z [(Int32.ofNat x0), (Int32.ofNat x2), (Int32.ofNat x3), 3]) :: (a231, Ia Z [Int32.ofNat x0, Int32.ofNat x1, Int32.ofNat x2, Int32.ofNat x3]) :: σ) at H354
            refine G.iinc K D99_10_162 1 rfl rfl ([.val (.ref fa), .val (.ref sa), .val (.ref ta), .val (.int 4), .val (.ref a231), .val (.ref a220), .val (.int 2), .val (.int 0), .val (.int 2), .val (.int 4), .val (.int 1), .val (.int 4), .val (.int (2 + 1)), .val (.int 0)]) rfl ?_
            change G k n0 _ h354 _ _ 165 [.val (.ref fa), .val (.ref sa), .val (.ref ta), .val (.int 4), .val (.ref a231), .val (.ref a220), .val (.int 2), .val (.int 0), .val (.int 2), .val (.int 4), .val (.int 1), .val (.int 4), .val (.int 3), .val (.int 0)] []
            refine G.goto K D99_10_165 ?_
            refine G.iload K D99_10_86 rfl ?_
            refine G.iload K D99_10_88 rfl ?_
            refine G.icmp_ge K D99_10_90 (fun q => absurd q (by decide)) (fun _ => ?_)
            refine G.iload K D99_10_93 rfl ?_
            refine G.iload K D99_10_95 rfl ?_
            refine G.icmp_ge K D99_10_97 (fun _ => ?_) (fun q => absurd q (by decide))
            refine G.iconst K D99_10_126 1 rfl ?_
            refine G.goto K D99_10_127 ?_
            refine G.istore K D99_10_131 ([.val (.ref fa), .val (.ref sa), .val (.ref ta), .val (.int 4), .val (.ref a231), .val (.ref a220), .val (.int 2), .val (.int 0), .val (.int 2), .val (.int 4), .val (.int 1), .val (.int 4), .val (.int 3), .val (.int 1)]) rfl ?_
            refine G.aload K D99_10_133 rfl rfl ?_
            refine G.iload K D99_10_135 rfl ?_
            refine G.iload K D99_10_137 rfl ?_
            refine G.if_eq K D99_10_139 (fun q => absurd q (by decide)) (fun _ => ?_)
            refine G.aload K D99_10_142 rfl rfl ?_
            refine G.iload K D99_10_144 rfl ?_
            refine G.iinc K D99_10_146 1 rfl rfl ([.val (.ref fa), .val (.ref sa), .val (.ref ta), .val (.int 4), .val (.ref a231), .val (.ref a220), .val (.int 2), .val (.int 0), .val (.int 2), .val (.int 4), .val (.int (1 + 1)), .val (.int 4), .val (.int 3), .val (.int 1)]) rfl ?_
            change G k n0 _ h354 _ _ 149 [.val (.ref fa), .val (.ref sa), .val (.ref ta), .val (.int 4), .val (.ref a231), .val (.ref a220), .val (.int 2), .val (.int 0), .val (.int 2), .val (.int 4), .val (.int 2), .val (.int 4), .val (.int 3), .val (.int 1)] [.int 1, .ref a231, .int 3, .ref a220]
            refine G.aload_i K H354 (i := 4) rfl (by decide) rfl D99_10_149 ?_
            refine G.goto K D99_10_150 ?_
            refine G.astore_i K H354 (i := 3) rfl (by decide) (Nat.le_of_ble_eq_true rfl) D99_10_161 ?_
            intro h358 H358
            change Hp n0 h358 ((fa, Ia Z (lst 4 (fun _ => 0))) :: (sa, Ia Z (lst 4 (sF ke))) :: (ta, Ia Z (lst 4 (tF ke))) :: (a220, Ia Z [(Int32.ofNat x0), (Int32.ofNat x2), (Int32.ofNat x3), (Int32.ofNat x1)]) :: (a231, Ia Z [Int32.ofNat x0, Int32.ofNat x1, Int32.ofNat x2, Int32.ofNat x3]) :: σ) at H358
            refine G.iinc K D99_10_162 1 rfl rfl ([.val (.ref fa), .val (.ref sa), .val (.ref ta), .val (.int 4), .val (.ref a231), .val (.ref a220), .val (.int 2), .val (.int 0), .val (.int 2), .val (.int 4), .val (.int 2), .val (.int 4), .val (.int (3 + 1)), .val (.int 1)]) rfl ?_
            change G k n0 _ h358 _ _ 165 [.val (.ref fa), .val (.ref sa), .val (.ref ta), .val (.int 4), .val (.ref a231), .val (.ref a220), .val (.int 2), .val (.int 0), .val (.int 2), .val (.int 4), .val (.int 2), .val (.int 4), .val (.int 4), .val (.int 1)] []
            refine G.goto K D99_10_165 ?_
            refine G.iload K D99_10_86 rfl ?_
            refine G.iload K D99_10_88 rfl ?_
            refine G.icmp_ge K D99_10_90 (fun _ => ?_) (fun q => absurd q (by decide))
            refine G.iload K D99_10_168 rfl ?_
            refine G.iconst K D99_10_170 2 rfl ?_
            refine G.iload K D99_10_171 rfl ?_
            refine G.imul K D99_10_173 ?_
            change G k n0 _ h358 _ _ 174 [.val (.ref fa), .val (.ref sa), .val (.ref ta), .val (.int 4), .val (.ref a231), .val (.ref a220), .val (.int 2), .val (.int 0), .val (.int 2), .val (.int 4), .val (.int 2), .val (.int 4), .val (.int 4), .val (.int 1)] [.int 4, .int 0]
            refine G.iadd K D99_10_174 ?_
            change G k n0 _ h358 _ _ 175 [.val (.ref fa), .val (.ref sa), .val (.ref ta), .val (.int 4), .val (.ref a231), .val (.ref a220), .val (.int 2), .val (.int 0), .val (.int 2), .val (.int 4), .val (.int 2), .val (.int 4), .val (.int 4), .val (.int 1)] [.int 4]
            refine G.istore K D99_10_175 ([.val (.ref fa), .val (.ref sa), .val (.ref ta), .val (.int 4), .val (.ref a231), .val (.ref a220), .val (.int 2), .val (.int 4), .val (.int 2), .val (.int 4), .val (.int 2), .val (.int 4), .val (.int 4), .val (.int 1)]) rfl ?_
            refine G.goto K D99_10_177 ?_
            refine G.iload K D99_10_44 rfl ?_
            refine G.iloadN K D99_10_46 rfl ?_
            refine G.icmp_ge K D99_10_47 (fun _ => ?_) (fun q => absurd q (by decide))
            refine G.aload K D99_10_180 rfl rfl ?_
            refine G.astore K D99_10_182 rfl ([.val (.ref fa), .val (.ref sa), .val (.ref ta), .val (.int 4), .val (.ref a231), .val (.ref a220), .val (.int 2), .val (.ref a231), .val (.int 2), .val (.int 4), .val (.int 2), .val (.int 4), .val (.int 4), .val (.int 1)]) rfl ?_
            refine G.aload K D99_10_184 rfl rfl ?_
            refine G.astore K D99_10_186 rfl ([.val (.ref fa), .val (.ref sa), .val (.ref ta), .val (.int 4), .val (.ref a220), .val (.ref a220), .val (.int 2), .val (.ref a231), .val (.int 2), .val (.int 4), .val (.int 2), .val (.int 4), .val (.int 4), .val (.int 1)]) rfl ?_
            refine G.aload K D99_10_188 rfl rfl ?_
            refine G.astore K D99_10_190 rfl ([.val (.ref fa), .val (.ref sa), .val (.ref ta), .val (.int 4), .val (.ref a220), .val (.ref a231), .val (.int 2), .val (.ref a231), .val (.int 2), .val (.int 4), .val (.int 2), .val (.int 4), .val (.int 4), .val (.int 1)]) rfl ?_
            refine G.iload K D99_10_192 rfl ?_
            refine G.iconst K D99_10_194 2 rfl ?_
            refine G.imul K D99_10_195 ?_
            change G k n0 _ h358 _ _ 196 [.val (.ref fa), .val (.ref sa), .val (.ref ta), .val (.int 4), .val (.ref a220), .val (.ref a231), .val (.int 2), .val (.ref a231), .val (.int 2), .val (.int 4), .val (.int 2), .val (.int 4), .val (.int 4), .val (.int 1)] [.int 4]
            refine G.istore K D99_10_196 ([.val (.ref fa), .val (.ref sa), .val (.ref ta), .val (.int 4), .val (.ref a220), .val (.ref a231), .val (.int 4), .val (.ref a231), .val (.int 2), .val (.int 4), .val (.int 2), .val (.int 4), .val (.int 4), .val (.int 1)]) rfl ?_
            refine G.goto K D99_10_198 ?_
            refine G.iload K D99_10_35 rfl ?_
            refine G.iloadN K D99_10_37 rfl ?_
            refine G.icmp_ge K D99_10_38 (fun _ => ?_) (fun q => absurd q (by decide))
            refine G.aload K D99_10_201 rfl rfl ?_
            refine G.ret_ref K rfl rfl D99_10_203 ?_
            have H362 : Hp n0 h358 ((ta, Ia Z (lst 4 (tF ke))) :: (fa, Ia Z (lst 4 (fun _ => 0))) :: (sa, Ia Z (lst 4 (sF ke))) :: (a220, Ia Z [(Int32.ofNat x0), (Int32.ofNat x2), (Int32.ofNat x3), (Int32.ofNat x1)]) :: (a231, Ia Z [Int32.ofNat x0, Int32.ofNat x1, Int32.ofNat x2, Int32.ofNat x3]) :: σ) := H358.pull 2 rfl
            have H363 : Hp n0 h358 ((sa, Ia Z (lst 4 (sF ke))) :: (ta, Ia Z (lst 4 (tF ke))) :: (fa, Ia Z (lst 4 (fun _ => 0))) :: (a220, Ia Z [(Int32.ofNat x0), (Int32.ofNat x2), (Int32.ofNat x3), (Int32.ofNat x1)]) :: (a231, Ia Z [Int32.ofNat x0, Int32.ofNat x1, Int32.ofNat x2, Int32.ofNat x3]) :: σ) := H362.pull 2 rfl
            have H364 : Hp n0 h358 ((fa, Ia Z (lst 4 (fun _ => 0))) :: (sa, Ia Z (lst 4 (sF ke))) :: (ta, Ia Z (lst 4 (tF ke))) :: (a220, Ia Z [(Int32.ofNat x0), (Int32.ofNat x2), (Int32.ofNat x3), (Int32.ofNat x1)]) :: (a231, Ia Z [Int32.ofNat x0, Int32.ofNat x1, Int32.ofNat x2, Int32.ofNat x3]) :: σ) := H363.pull 2 rfl
            have H365 : Hp n0 h358 ((a220, Ia Z [(Int32.ofNat x0), (Int32.ofNat x2), (Int32.ofNat x3), (Int32.ofNat x1)]) :: (fa, Ia Z (lst 4 (fun _ => 0))) :: (sa, Ia Z (lst 4 (sF ke))) :: (ta, Ia Z (lst 4 (tF ke))) :: (a231, Ia Z [Int32.ofNat x0, Int32.ofNat x1, Int32.ofNat x2, Int32.ofNat x3]) :: σ) := H364.pull 3 rfl
            have H366 : Hp n0 h358 ((a220, Ia Z [(Int32.ofNat x0), (Int32.ofNat x2), (Int32.ofNat x3), (Int32.ofNat x1)]) :: (fa, Ia Z (lst 4 (fun _ => 0))) :: (sa, Ia Z (lst 4 (sF ke))) :: (ta, Ia Z (lst 4 (tF ke))) :: σ) := H365.sub (List.Sublist.cons_cons _ (List.Sublist.cons_cons _ (List.Sublist.cons_cons _ (List.Sublist.cons_cons _ (List.Sublist.cons _ (List.Sublist.refl _))))))
            exact ⟨a220, x0, x2, x3, x1, rfl, by omega, by omega, by omega, by omega, by omega, by omega, by omega, by omega, by omega, by omega, by omega, by omega, by omega, H366⟩
          · have e367 : ke x1 ≤ ke x3 := Nat.le_of_not_lt fun y => q351 (hz350.mpr y)
            refine G.iconst K D99_10_126 1 rfl ?_
            refine G.goto K D99_10_127 ?_
            refine G.istore K D99_10_131 ([.val (.ref fa), .val (.ref sa), .val (.ref ta), .val (.int 4), .val (.ref a231), .val (.ref a220), .val (.int 2), .val (.int 0), .val (.int 2), .val (.int 4), .val (.int 1), .val (.int 3), .val (.int 2), .val (.int 1)]) rfl ?_
            refine G.aload K D99_10_133 rfl rfl ?_
            refine G.iload K D99_10_135 rfl ?_
            refine G.iload K D99_10_137 rfl ?_
            refine G.if_eq K D99_10_139 (fun q => absurd q (by decide)) (fun _ => ?_)
            refine G.aload K D99_10_142 rfl rfl ?_
            refine G.iload K D99_10_144 rfl ?_
            refine G.iinc K D99_10_146 1 rfl rfl ([.val (.ref fa), .val (.ref sa), .val (.ref ta), .val (.int 4), .val (.ref a231), .val (.ref a220), .val (.int 2), .val (.int 0), .val (.int 2), .val (.int 4), .val (.int (1 + 1)), .val (.int 3), .val (.int 2), .val (.int 1)]) rfl ?_
            change G k n0 _ h343 _ _ 149 [.val (.ref fa), .val (.ref sa), .val (.ref ta), .val (.int 4), .val (.ref a231), .val (.ref a220), .val (.int 2), .val (.int 0), .val (.int 2), .val (.int 4), .val (.int 2), .val (.int 3), .val (.int 2), .val (.int 1)] [.int 1, .ref a231, .int 2, .ref a220]
            refine G.aload_i K H349 (i := 4) rfl (by decide) rfl D99_10_149 ?_
            refine G.goto K D99_10_150 ?_
            refine G.astore_i K H349 (i := 3) rfl (by decide) (Nat.le_of_ble_eq_true rfl) D99_10_161 ?_
            intro h369 H369
            change Hp n0 h369 ((fa, Ia Z (lst 4 (fun _ => 0))) :: (sa, Ia Z (lst 4 (sF ke))) :: (ta, Ia Z (lst 4 (tF ke))) :: (a220, Ia Z [(Int32.ofNat x0), (Int32.ofNat x2), (Int32.ofNat x1), 3]) :: (a231, Ia Z [Int32.ofNat x0, Int32.ofNat x1, Int32.ofNat x2, Int32.ofNat x3]) :: σ) at H369
            refine G.iinc K D99_10_162 1 rfl rfl ([.val (.ref fa), .val (.ref sa), .val (.ref ta), .val (.int 4), .val (.ref a231), .val (.ref a220), .val (.int 2), .val (.int 0), .val (.int 2), .val (.int 4), .val (.int 2), .val (.int 3), .val (.int (2 + 1)), .val (.int 1)]) rfl ?_
            change G k n0 _ h369 _ _ 165 [.val (.ref fa), .val (.ref sa), .val (.ref ta), .val (.int 4), .val (.ref a231), .val (.ref a220), .val (.int 2), .val (.int 0), .val (.int 2), .val (.int 4), .val (.int 2), .val (.int 3), .val (.int 3), .val (.int 1)] []
            refine G.goto K D99_10_165 ?_
            refine G.iload K D99_10_86 rfl ?_
            refine G.iload K D99_10_88 rfl ?_
            refine G.icmp_ge K D99_10_90 (fun q => absurd q (by decide)) (fun _ => ?_)
            refine G.iload K D99_10_93 rfl ?_
            refine G.iload K D99_10_95 rfl ?_
            refine G.icmp_ge K D99_10_97 (fun q => absurd q (by decide)) (fun _ => ?_)
            refine G.iload K D99_10_100 rfl ?_
            refine G.iload K D99_10_102 rfl ?_
            refine G.icmp_ge K D99_10_104 (fun _ => ?_) (fun q => absurd q (by decide))
            refine G.iconst K D99_10_130 0 rfl ?_
            refine G.istore K D99_10_131 ([.val (.ref fa), .val (.ref sa), .val (.ref ta), .val (.int 4), .val (.ref a231), .val (.ref a220), .val (.int 2), .val (.int 0), .val (.int 2), .val (.int 4), .val (.int 2), .val (.int 3), .val (.int 3), .val (.int 0)]) rfl ?_
            refine G.aload K D99_10_133 rfl rfl ?_
            refine G.iload K D99_10_135 rfl ?_
            refine G.iload K D99_10_137 rfl ?_
            refine G.if_eq K D99_10_139 (fun _ => ?_) (fun q => absurd q (by decide))
            refine G.aload K D99_10_153 rfl rfl ?_
            refine G.iload K D99_10_155 rfl ?_
            refine G.iinc K D99_10_157 1 rfl rfl ([.val (.ref fa), .val (.ref sa), .val (.ref ta), .val (.int 4), .val (.ref a231), .val (.ref a220), .val (.int 2), .val (.int 0), .val (.int 2), .val (.int 4), .val (.int 2), .val (.int (3 + 1)), .val (.int 3), .val (.int 0)]) rfl ?_
            change G k n0 _ h369 _ _ 160 [.val (.ref fa), .val (.ref sa), .val (.ref ta), .val (.int 4), .val (.ref a231), .val (.ref a220), .val (.int 2), .val (.int 0), .val (.int 2), .val (.int 4), .val (.int 2), .val (.int 4), .val (.int 3), .val (.int 0)] [.int 3, .ref a231, .int 3, .ref a220]
            refine G.aload_i K H369 (i := 4) rfl (by decide) rfl D99_10_160 ?_
            refine G.astore_i K H369 (i := 3) rfl (by decide) (Nat.le_of_ble_eq_true rfl) D99_10_161 ?_
            intro h374 H374
            change Hp n0 h374 ((fa, Ia Z (lst 4 (fun _ => 0))) :: (sa, Ia Z (lst 4 (sF ke))) :: (ta, Ia Z (lst 4 (tF ke))) :: (a220, Ia Z [(Int32.ofNat x0), (Int32.ofNat x2), (Int32.ofNat x1), (Int32.ofNat x3)]) :: (a231, Ia Z [Int32.ofNat x0, Int32.ofNat x1, Int32.ofNat x2, Int32.ofNat x3]) :: σ) at H374
            refine G.iinc K D99_10_162 1 rfl rfl ([.val (.ref fa), .val (.ref sa), .val (.ref ta), .val (.int 4), .val (.ref a231), .val (.ref a220), .val (.int 2), .val (.int 0), .val (.int 2), .val (.int 4), .val (.int 2), .val (.int 4), .val (.int (3 + 1)), .val (.int 0)]) rfl ?_
            change G k n0 _ h374 _ _ 165 [.val (.ref fa), .val (.ref sa), .val (.ref ta), .val (.int 4), .val (.ref a231), .val (.ref a220), .val (.int 2), .val (.int 0), .val (.int 2), .val (.int 4), .val (.int 2), .val (.int 4), .val (.int 4), .val (.int 0)] []
            refine G.goto K D99_10_165 ?_
            refine G.iload K D99_10_86 rfl ?_
            refine G.iload K D99_10_88 rfl ?_
            refine G.icmp_ge K D99_10_90 (fun _ => ?_) (fun q => absurd q (by decide))
            refine G.iload K D99_10_168 rfl ?_
            refine G.iconst K D99_10_170 2 rfl ?_
            refine G.iload K D99_10_171 rfl ?_
            refine G.imul K D99_10_173 ?_
            change G k n0 _ h374 _ _ 174 [.val (.ref fa), .val (.ref sa), .val (.ref ta), .val (.int 4), .val (.ref a231), .val (.ref a220), .val (.int 2), .val (.int 0), .val (.int 2), .val (.int 4), .val (.int 2), .val (.int 4), .val (.int 4), .val (.int 0)] [.int 4, .int 0]
            refine G.iadd K D99_10_174 ?_
            change G k n0 _ h374 _ _ 175 [.val (.ref fa), .val (.ref sa), .val (.ref ta), .val (.int 4), .val (.ref a231), .val (.ref a220), .val (.int 2), .val (.int 0), .val (.int 2), .val (.int 4), .val (.int 2), .val (.int 4), .val (.int 4), .val (.int 0)] [.int 4]
            refine G.istore K D99_10_175 ([.val (.ref fa), .val (.ref sa), .val (.ref ta), .val (.int 4), .val (.ref a231), .val (.ref a220), .val (.int 2), .val (.int 4), .val (.int 2), .val (.int 4), .val (.int 2), .val (.int 4), .val (.int 4), .val (.int 0)]) rfl ?_
            refine G.goto K D99_10_177 ?_
            refine G.iload K D99_10_44 rfl ?_
            refine G.iloadN K D99_10_46 rfl ?_
            refine G.icmp_ge K D99_10_47 (fun _ => ?_) (fun q => absurd q (by decide))
            refine G.aload K D99_10_180 rfl rfl ?_
            refine G.astore K D99_10_182 rfl ([.val (.ref fa), .val (.ref sa), .val (.ref ta), .val (.int 4), .val (.ref a231), .val (.ref a220), .val (.int 2), .val (.ref a231), .val (.int 2), .val (.int 4), .val (.int 2), .val (.int 4), .val (.int 4), .val (.int 0)]) rfl ?_
            refine G.aload K D99_10_184 rfl rfl ?_
            refine G.astore K D99_10_186 rfl ([.val (.ref fa), .val (.ref sa), .val (.ref ta), .val (.int 4), .val (.ref a220), .val (.ref a220), .val (.int 2), .val (.ref a231), .val (.int 2), .val (.int 4), .val (.int 2), .val (.int 4), .val (.int 4), .val (.int 0)]) rfl ?_
            refine G.aload K D99_10_188 rfl rfl ?_
            refine G.astore K D99_10_190 rfl ([.val (.ref fa), .val (.ref sa), .val (.ref ta), .val (.int 4), .val (.ref a220), .val (.ref a231), .val (.int 2), .val (.ref a231), .val (.int 2), .val (.int 4), .val (.int 2), .val (.int 4), .val (.int 4), .val (.int 0)]) rfl ?_
            refine G.iload K D99_10_192 rfl ?_
            refine G.iconst K D99_10_194 2 rfl ?_
            refine G.imul K D99_10_195 ?_
            change G k n0 _ h374 _ _ 196 [.val (.ref fa), .val (.ref sa), .val (.ref ta), .val (.int 4), .val (.ref a220), .val (.ref a231), .val (.int 2), .val (.ref a231), .val (.int 2), .val (.int 4), .val (.int 2), .val (.int 4), .val (.int 4), .val (.int 0)] [.int 4]
            refine G.istore K D99_10_196 ([.val (.ref fa), .val (.ref sa), .val (.ref ta), .val (.int 4), .val (.ref a220), .val (.ref a231), .val (.int 4), .val (.ref a231), .val (.int 2), .val (.int 4), .val (.int 2), .val (.int 4), .val (.int 4), .val (.int 0)]) rfl ?_
            refine G.goto K D99_10_198 ?_
            refine G.iload K D99_10_35 rfl ?_
            refine G.iloadN K D99_10_37 rfl ?_
            refine G.icmp_ge K D99_10_38 (fun _ => ?_) (fun q => absurd q (by decide))
            refine G.aload K D99_10_201 rfl rfl ?_
            refine G.ret_ref K rfl rfl D99_10_203 ?_
            have H378 : Hp n0 h374 ((ta, Ia Z (lst 4 (tF ke))) :: (fa, Ia Z (lst 4 (fun _ => 0))) :: (sa, Ia Z (lst 4 (sF ke))) :: (a220, Ia Z [(Int32.ofNat x0), (Int32.ofNat x2), (Int32.ofNat x1), (Int32.ofNat x3)]) :: (a231, Ia Z [Int32.ofNat x0, Int32.ofNat x1, Int32.ofNat x2, Int32.ofNat x3]) :: σ) := H374.pull 2 rfl
            have H379 : Hp n0 h374 ((sa, Ia Z (lst 4 (sF ke))) :: (ta, Ia Z (lst 4 (tF ke))) :: (fa, Ia Z (lst 4 (fun _ => 0))) :: (a220, Ia Z [(Int32.ofNat x0), (Int32.ofNat x2), (Int32.ofNat x1), (Int32.ofNat x3)]) :: (a231, Ia Z [Int32.ofNat x0, Int32.ofNat x1, Int32.ofNat x2, Int32.ofNat x3]) :: σ) := H378.pull 2 rfl
            have H380 : Hp n0 h374 ((fa, Ia Z (lst 4 (fun _ => 0))) :: (sa, Ia Z (lst 4 (sF ke))) :: (ta, Ia Z (lst 4 (tF ke))) :: (a220, Ia Z [(Int32.ofNat x0), (Int32.ofNat x2), (Int32.ofNat x1), (Int32.ofNat x3)]) :: (a231, Ia Z [Int32.ofNat x0, Int32.ofNat x1, Int32.ofNat x2, Int32.ofNat x3]) :: σ) := H379.pull 2 rfl
            have H381 : Hp n0 h374 ((a220, Ia Z [(Int32.ofNat x0), (Int32.ofNat x2), (Int32.ofNat x1), (Int32.ofNat x3)]) :: (fa, Ia Z (lst 4 (fun _ => 0))) :: (sa, Ia Z (lst 4 (sF ke))) :: (ta, Ia Z (lst 4 (tF ke))) :: (a231, Ia Z [Int32.ofNat x0, Int32.ofNat x1, Int32.ofNat x2, Int32.ofNat x3]) :: σ) := H380.pull 3 rfl
            have H382 : Hp n0 h374 ((a220, Ia Z [(Int32.ofNat x0), (Int32.ofNat x2), (Int32.ofNat x1), (Int32.ofNat x3)]) :: (fa, Ia Z (lst 4 (fun _ => 0))) :: (sa, Ia Z (lst 4 (sF ke))) :: (ta, Ia Z (lst 4 (tF ke))) :: σ) := H381.sub (List.Sublist.cons_cons _ (List.Sublist.cons_cons _ (List.Sublist.cons_cons _ (List.Sublist.cons_cons _ (List.Sublist.cons _ (List.Sublist.refl _))))))
            exact ⟨a220, x0, x2, x1, x3, rfl, by omega, by omega, by omega, by omega, by omega, by omega, by omega, by omega, by omega, by omega, by omega, by omega, by omega, H382⟩
        · have e383 : ke x1 ≤ ke x2 := Nat.le_of_not_lt fun y => q340 (hz339.mpr y)
          refine G.iconst K D99_10_126 1 rfl ?_
          refine G.goto K D99_10_127 ?_
          refine G.istore K D99_10_131 ([.val (.ref fa), .val (.ref sa), .val (.ref ta), .val (.int 4), .val (.ref a231), .val (.ref a220), .val (.int 2), .val (.int 0), .val (.int 2), .val (.int 4), .val (.int 1), .val (.int 2), .val (.int 1), .val (.int 1)]) rfl ?_
          refine G.aload K D99_10_133 rfl rfl ?_
          refine G.iload K D99_10_135 rfl ?_
          refine G.iload K D99_10_137 rfl ?_
          refine G.if_eq K D99_10_139 (fun q => absurd q (by decide)) (fun _ => ?_)
          refine G.aload K D99_10_142 rfl rfl ?_
          refine G.iload K D99_10_144 rfl ?_
          refine G.iinc K D99_10_146 1 rfl rfl ([.val (.ref fa), .val (.ref sa), .val (.ref ta), .val (.int 4), .val (.ref a231), .val (.ref a220), .val (.int 2), .val (.int 0), .val (.int 2), .val (.int 4), .val (.int (1 + 1)), .val (.int 2), .val (.int 1), .val (.int 1)]) rfl ?_
          change G k n0 _ h332 _ _ 149 [.val (.ref fa), .val (.ref sa), .val (.ref ta), .val (.int 4), .val (.ref a231), .val (.ref a220), .val (.int 2), .val (.int 0), .val (.int 2), .val (.int 4), .val (.int 2), .val (.int 2), .val (.int 1), .val (.int 1)] [.int 1, .ref a231, .int 1, .ref a220]
          refine G.aload_i K H338 (i := 4) rfl (by decide) rfl D99_10_149 ?_
          refine G.goto K D99_10_150 ?_
          refine G.astore_i K H338 (i := 3) rfl (by decide) (Nat.le_of_ble_eq_true rfl) D99_10_161 ?_
          intro h385 H385
          change Hp n0 h385 ((fa, Ia Z (lst 4 (fun _ => 0))) :: (sa, Ia Z (lst 4 (sF ke))) :: (ta, Ia Z (lst 4 (tF ke))) :: (a220, Ia Z [(Int32.ofNat x0), (Int32.ofNat x1), 2, 3]) :: (a231, Ia Z [Int32.ofNat x0, Int32.ofNat x1, Int32.ofNat x2, Int32.ofNat x3]) :: σ) at H385
          refine G.iinc K D99_10_162 1 rfl rfl ([.val (.ref fa), .val (.ref sa), .val (.ref ta), .val (.int 4), .val (.ref a231), .val (.ref a220), .val (.int 2), .val (.int 0), .val (.int 2), .val (.int 4), .val (.int 2), .val (.int 2), .val (.int (1 + 1)), .val (.int 1)]) rfl ?_
          change G k n0 _ h385 _ _ 165 [.val (.ref fa), .val (.ref sa), .val (.ref ta), .val (.int 4), .val (.ref a231), .val (.ref a220), .val (.int 2), .val (.int 0), .val (.int 2), .val (.int 4), .val (.int 2), .val (.int 2), .val (.int 2), .val (.int 1)] []
          refine G.goto K D99_10_165 ?_
          refine G.iload K D99_10_86 rfl ?_
          refine G.iload K D99_10_88 rfl ?_
          refine G.icmp_ge K D99_10_90 (fun q => absurd q (by decide)) (fun _ => ?_)
          refine G.iload K D99_10_93 rfl ?_
          refine G.iload K D99_10_95 rfl ?_
          refine G.icmp_ge K D99_10_97 (fun q => absurd q (by decide)) (fun _ => ?_)
          refine G.iload K D99_10_100 rfl ?_
          refine G.iload K D99_10_102 rfl ?_
          refine G.icmp_ge K D99_10_104 (fun _ => ?_) (fun q => absurd q (by decide))
          refine G.iconst K D99_10_130 0 rfl ?_
          refine G.istore K D99_10_131 ([.val (.ref fa), .val (.ref sa), .val (.ref ta), .val (.int 4), .val (.ref a231), .val (.ref a220), .val (.int 2), .val (.int 0), .val (.int 2), .val (.int 4), .val (.int 2), .val (.int 2), .val (.int 2), .val (.int 0)]) rfl ?_
          refine G.aload K D99_10_133 rfl rfl ?_
          refine G.iload K D99_10_135 rfl ?_
          refine G.iload K D99_10_137 rfl ?_
          refine G.if_eq K D99_10_139 (fun _ => ?_) (fun q => absurd q (by decide))
          refine G.aload K D99_10_153 rfl rfl ?_
          refine G.iload K D99_10_155 rfl ?_
          refine G.iinc K D99_10_157 1 rfl rfl ([.val (.ref fa), .val (.ref sa), .val (.ref ta), .val (.int 4), .val (.ref a231), .val (.ref a220), .val (.int 2), .val (.int 0), .val (.int 2), .val (.int 4), .val (.int 2), .val (.int (2 + 1)), .val (.int 2), .val (.int 0)]) rfl ?_
          change G k n0 _ h385 _ _ 160 [.val (.ref fa), .val (.ref sa), .val (.ref ta), .val (.int 4), .val (.ref a231), .val (.ref a220), .val (.int 2), .val (.int 0), .val (.int 2), .val (.int 4), .val (.int 2), .val (.int 3), .val (.int 2), .val (.int 0)] [.int 2, .ref a231, .int 2, .ref a220]
          refine G.aload_i K H385 (i := 4) rfl (by decide) rfl D99_10_160 ?_
          refine G.astore_i K H385 (i := 3) rfl (by decide) (Nat.le_of_ble_eq_true rfl) D99_10_161 ?_
          intro h390 H390
          change Hp n0 h390 ((fa, Ia Z (lst 4 (fun _ => 0))) :: (sa, Ia Z (lst 4 (sF ke))) :: (ta, Ia Z (lst 4 (tF ke))) :: (a220, Ia Z [(Int32.ofNat x0), (Int32.ofNat x1), (Int32.ofNat x2), 3]) :: (a231, Ia Z [Int32.ofNat x0, Int32.ofNat x1, Int32.ofNat x2, Int32.ofNat x3]) :: σ) at H390
          refine G.iinc K D99_10_162 1 rfl rfl ([.val (.ref fa), .val (.ref sa), .val (.ref ta), .val (.int 4), .val (.ref a231), .val (.ref a220), .val (.int 2), .val (.int 0), .val (.int 2), .val (.int 4), .val (.int 2), .val (.int 3), .val (.int (2 + 1)), .val (.int 0)]) rfl ?_
          change G k n0 _ h390 _ _ 165 [.val (.ref fa), .val (.ref sa), .val (.ref ta), .val (.int 4), .val (.ref a231), .val (.ref a220), .val (.int 2), .val (.int 0), .val (.int 2), .val (.int 4), .val (.int 2), .val (.int 3), .val (.int 3), .val (.int 0)] []
          refine G.goto K D99_10_165 ?_
          refine G.iload K D99_10_86 rfl ?_
          refine G.iload K D99_10_88 rfl ?_
          refine G.icmp_ge K D99_10_90 (fun q => absurd q (by decide)) (fun _ => ?_)
          refine G.iload K D99_10_93 rfl ?_
          refine G.iload K D99_10_95 rfl ?_
          refine G.icmp_ge K D99_10_97 (fun q => absurd q (by decide)) (fun _ => ?_)
          refine G.iload K D99_10_100 rfl ?_
          refine G.iload K D99_10_102 rfl ?_
          refine G.icmp_ge K D99_10_104 (fun _ => ?_) (fun q => absurd q (by decide))
          refine G.iconst K D99_10_130 0 rfl ?_
          refine G.istore K D99_10_131 ([.val (.ref fa), .val (.ref sa), .val (.ref ta), .val (.int 4), .val (.ref a231), .val (.ref a220), .val (.int 2), .val (.int 0), .val (.int 2), .val (.int 4), .val (.int 2), .val (.int 3), .val (.int 3), .val (.int 0)]) rfl ?_
          refine G.aload K D99_10_133 rfl rfl ?_
          refine G.iload K D99_10_135 rfl ?_
          refine G.iload K D99_10_137 rfl ?_
          refine G.if_eq K D99_10_139 (fun _ => ?_) (fun q => absurd q (by decide))
          refine G.aload K D99_10_153 rfl rfl ?_
          refine G.iload K D99_10_155 rfl ?_
          refine G.iinc K D99_10_157 1 rfl rfl ([.val (.ref fa), .val (.ref sa), .val (.ref ta), .val (.int 4), .val (.ref a231), .val (.ref a220), .val (.int 2), .val (.int 0), .val (.int 2), .val (.int 4), .val (.int 2), .val (.int (3 + 1)), .val (.int 3), .val (.int 0)]) rfl ?_
          change G k n0 _ h390 _ _ 160 [.val (.ref fa), .val (.ref sa), .val (.ref ta), .val (.int 4), .val (.ref a231), .val (.ref a220), .val (.int 2), .val (.int 0), .val (.int 2), .val (.int 4), .val (.int 2), .val (.int 4), .val (.int 3), .val (.int 0)] [.int 3, .ref a231, .int 3, .ref a220]
          refine G.aload_i K H390 (i := 4) rfl (by decide) rfl D99_10_160 ?_
          refine G.astore_i K H390 (i := 3) rfl (by decide) (Nat.le_of_ble_eq_true rfl) D99_10_161 ?_
          intro h395 H395
          change Hp n0 h395 ((fa, Ia Z (lst 4 (fun _ => 0))) :: (sa, Ia Z (lst 4 (sF ke))) :: (ta, Ia Z (lst 4 (tF ke))) :: (a220, Ia Z [(Int32.ofNat x0), (Int32.ofNat x1), (Int32.ofNat x2), (Int32.ofNat x3)]) :: (a231, Ia Z [Int32.ofNat x0, Int32.ofNat x1, Int32.ofNat x2, Int32.ofNat x3]) :: σ) at H395
          refine G.iinc K D99_10_162 1 rfl rfl ([.val (.ref fa), .val (.ref sa), .val (.ref ta), .val (.int 4), .val (.ref a231), .val (.ref a220), .val (.int 2), .val (.int 0), .val (.int 2), .val (.int 4), .val (.int 2), .val (.int 4), .val (.int (3 + 1)), .val (.int 0)]) rfl ?_
          change G k n0 _ h395 _ _ 165 [.val (.ref fa), .val (.ref sa), .val (.ref ta), .val (.int 4), .val (.ref a231), .val (.ref a220), .val (.int 2), .val (.int 0), .val (.int 2), .val (.int 4), .val (.int 2), .val (.int 4), .val (.int 4), .val (.int 0)] []
          refine G.goto K D99_10_165 ?_
          refine G.iload K D99_10_86 rfl ?_
          refine G.iload K D99_10_88 rfl ?_
          refine G.icmp_ge K D99_10_90 (fun _ => ?_) (fun q => absurd q (by decide))
          refine G.iload K D99_10_168 rfl ?_
          refine G.iconst K D99_10_170 2 rfl ?_
          refine G.iload K D99_10_171 rfl ?_
          refine G.imul K D99_10_173 ?_
          change G k n0 _ h395 _ _ 174 [.val (.ref fa), .val (.ref sa), .val (.ref ta), .val (.int 4), .val (.ref a231), .val (.ref a220), .val (.int 2), .val (.int 0), .val (.int 2), .val (.int 4), .val (.int 2), .val (.int 4), .val (.int 4), .val (.int 0)] [.int 4, .int 0]
          refine G.iadd K D99_10_174 ?_
          change G k n0 _ h395 _ _ 175 [.val (.ref fa), .val (.ref sa), .val (.ref ta), .val (.int 4), .val (.ref a231), .val (.ref a220), .val (.int 2), .val (.int 0), .val (.int 2), .val (.int 4), .val (.int 2), .val (.int 4), .val (.int 4), .val (.int 0)] [.int 4]
          refine G.istore K D99_10_175 ([.val (.ref fa), .val (.ref sa), .val (.ref ta), .val (.int 4), .val (.ref a231), .val (.ref a220), .val (.int 2), .val (.int 4), .val (.int 2), .val (.int 4), .val (.int 2), .val (.int 4), .val (.int 4), .val (.int 0)]) rfl ?_
          refine G.goto K D99_10_177 ?_
          refine G.iload K D99_10_44 rfl ?_
          refine G.iloadN K D99_10_46 rfl ?_
          refine G.icmp_ge K D99_10_47 (fun _ => ?_) (fun q => absurd q (by decide))
          refine G.aload K D99_10_180 rfl rfl ?_
          refine G.astore K D99_10_182 rfl ([.val (.ref fa), .val (.ref sa), .val (.ref ta), .val (.int 4), .val (.ref a231), .val (.ref a220), .val (.int 2), .val (.ref a231), .val (.int 2), .val (.int 4), .val (.int 2), .val (.int 4), .val (.int 4), .val (.int 0)]) rfl ?_
          refine G.aload K D99_10_184 rfl rfl ?_
          refine G.astore K D99_10_186 rfl ([.val (.ref fa), .val (.ref sa), .val (.ref ta), .val (.int 4), .val (.ref a220), .val (.ref a220), .val (.int 2), .val (.ref a231), .val (.int 2), .val (.int 4), .val (.int 2), .val (.int 4), .val (.int 4), .val (.int 0)]) rfl ?_
          refine G.aload K D99_10_188 rfl rfl ?_
          refine G.astore K D99_10_190 rfl ([.val (.ref fa), .val (.ref sa), .val (.ref ta), .val (.int 4), .val (.ref a220), .val (.ref a231), .val (.int 2), .val (.ref a231), .val (.int 2), .val (.int 4), .val (.int 2), .val (.int 4), .val (.int 4), .val (.int 0)]) rfl ?_
          refine G.iload K D99_10_192 rfl ?_
          refine G.iconst K D99_10_194 2 rfl ?_
          refine G.imul K D99_10_195 ?_
          change G k n0 _ h395 _ _ 196 [.val (.ref fa), .val (.ref sa), .val (.ref ta), .val (.int 4), .val (.ref a220), .val (.ref a231), .val (.int 2), .val (.ref a231), .val (.int 2), .val (.int 4), .val (.int 2), .val (.int 4), .val (.int 4), .val (.int 0)] [.int 4]
          refine G.istore K D99_10_196 ([.val (.ref fa), .val (.ref sa), .val (.ref ta), .val (.int 4), .val (.ref a220), .val (.ref a231), .val (.int 4), .val (.ref a231), .val (.int 2), .val (.int 4), .val (.int 2), .val (.int 4), .val (.int 4), .val (.int 0)]) rfl ?_
          refine G.goto K D99_10_198 ?_
          refine G.iload K D99_10_35 rfl ?_
          refine G.iloadN K D99_10_37 rfl ?_
          refine G.icmp_ge K D99_10_38 (fun _ => ?_) (fun q => absurd q (by decide))
          refine G.aload K D99_10_201 rfl rfl ?_
          refine G.ret_ref K rfl rfl D99_10_203 ?_
          have H399 : Hp n0 h395 ((ta, Ia Z (lst 4 (tF ke))) :: (fa, Ia Z (lst 4 (fun _ => 0))) :: (sa, Ia Z (lst 4 (sF ke))) :: (a220, Ia Z [(Int32.ofNat x0), (Int32.ofNat x1), (Int32.ofNat x2), (Int32.ofNat x3)]) :: (a231, Ia Z [Int32.ofNat x0, Int32.ofNat x1, Int32.ofNat x2, Int32.ofNat x3]) :: σ) := H395.pull 2 rfl
          have H400 : Hp n0 h395 ((sa, Ia Z (lst 4 (sF ke))) :: (ta, Ia Z (lst 4 (tF ke))) :: (fa, Ia Z (lst 4 (fun _ => 0))) :: (a220, Ia Z [(Int32.ofNat x0), (Int32.ofNat x1), (Int32.ofNat x2), (Int32.ofNat x3)]) :: (a231, Ia Z [Int32.ofNat x0, Int32.ofNat x1, Int32.ofNat x2, Int32.ofNat x3]) :: σ) := H399.pull 2 rfl
          have H401 : Hp n0 h395 ((fa, Ia Z (lst 4 (fun _ => 0))) :: (sa, Ia Z (lst 4 (sF ke))) :: (ta, Ia Z (lst 4 (tF ke))) :: (a220, Ia Z [(Int32.ofNat x0), (Int32.ofNat x1), (Int32.ofNat x2), (Int32.ofNat x3)]) :: (a231, Ia Z [Int32.ofNat x0, Int32.ofNat x1, Int32.ofNat x2, Int32.ofNat x3]) :: σ) := H400.pull 2 rfl
          have H402 : Hp n0 h395 ((a220, Ia Z [(Int32.ofNat x0), (Int32.ofNat x1), (Int32.ofNat x2), (Int32.ofNat x3)]) :: (fa, Ia Z (lst 4 (fun _ => 0))) :: (sa, Ia Z (lst 4 (sF ke))) :: (ta, Ia Z (lst 4 (tF ke))) :: (a231, Ia Z [Int32.ofNat x0, Int32.ofNat x1, Int32.ofNat x2, Int32.ofNat x3]) :: σ) := H401.pull 3 rfl
          have H403 : Hp n0 h395 ((a220, Ia Z [(Int32.ofNat x0), (Int32.ofNat x1), (Int32.ofNat x2), (Int32.ofNat x3)]) :: (fa, Ia Z (lst 4 (fun _ => 0))) :: (sa, Ia Z (lst 4 (sF ke))) :: (ta, Ia Z (lst 4 (tF ke))) :: σ) := H402.sub (List.Sublist.cons_cons _ (List.Sublist.cons_cons _ (List.Sublist.cons_cons _ (List.Sublist.cons_cons _ (List.Sublist.cons _ (List.Sublist.refl _))))))
          exact ⟨a220, x0, x1, x2, x3, rfl, by omega, by omega, by omega, by omega, by omega, by omega, by omega, by omega, by omega, by omega, by omega, by omega, by omega, H403⟩
    refine G.iload K D99_10_82 rfl ?_
    refine G.istore K D99_10_84 ([.val (.ref fa), .val (.ref sa), .val (.ref ta), .val (.int 4), .val (.ref a220), .val (.ref a231), .val (.int 1), .val (.int 2), .val (.int 3), .val (.int 4), .val (.int 2), .val (.int 3), .val (.int 2), .val (.int l239)]) rfl ?_
    refine G.iload K D99_10_86 rfl ?_
    refine G.iload K D99_10_88 rfl ?_
    refine G.icmp_ge K D99_10_90 (fun q => absurd q (by decide)) (fun _ => ?_)
    refine G.iload K D99_10_93 rfl ?_
    refine G.iload K D99_10_95 rfl ?_
    refine G.icmp_ge K D99_10_97 (fun q => absurd q (by decide)) (fun _ => ?_)
    refine G.iload K D99_10_100 rfl ?_
    refine G.iload K D99_10_102 rfl ?_
    refine G.icmp_ge K D99_10_104 (fun q => absurd q (by decide)) (fun _ => ?_)
    refine G.aloadN K D99_10_107 rfl rfl ?_
    refine G.aloadN K D99_10_108 rfl rfl ?_
    refine G.aloadN K D99_10_109 rfl rfl ?_
    refine G.aload K D99_10_110 rfl rfl ?_
    refine G.iload K D99_10_112 rfl ?_
    refine G.aload_i K H245 (i := 3) rfl (by decide) rfl D99_10_114 ?_
    refine G.aload K D99_10_115 rfl rfl ?_
    refine G.iload K D99_10_117 rfl ?_
    refine G.aload_i K H245 (i := 3) rfl (by decide) rfl D99_10_119 ?_
    have H407 : Hp n0 h239 ((ta, Ia Z (lst 4 (tF ke))) :: (fa, Ia Z (lst 4 (fun _ => 0))) :: (sa, Ia Z (lst 4 (sF ke))) :: (a220, Ia Z [0, 1, 2, 3]) :: (a231, Ia Z [Int32.ofNat x0, Int32.ofNat x1, 0, 0]) :: σ) := H245.pull 2 rfl
    have H408 : Hp n0 h239 ((sa, Ia Z (lst 4 (sF ke))) :: (ta, Ia Z (lst 4 (tF ke))) :: (fa, Ia Z (lst 4 (fun _ => 0))) :: (a220, Ia Z [0, 1, 2, 3]) :: (a231, Ia Z [Int32.ofNat x0, Int32.ofNat x1, 0, 0]) :: σ) := H407.pull 2 rfl
    have H409 : Hp n0 h239 ((fa, Ia Z (lst 4 (fun _ => 0))) :: (sa, Ia Z (lst 4 (sF ke))) :: (ta, Ia Z (lst 4 (tF ke))) :: (a220, Ia Z [0, 1, 2, 3]) :: (a231, Ia Z [Int32.ofNat x0, Int32.ofNat x1, 0, 0]) :: σ) := H408.pull 2 rfl
    refine G.callS K hl (wd hw 45 rfl) (wd hw 46 rfl) (wd hw 3 rfl) (wd hw 47 rfl) (by decide) pd_1 (ct_cmp l Z a0 hw n0 h239 fa sa ta ke 2 3 ((a220, Ia Z [0, 1, 2, 3]) :: (a231, Ia Z [Int32.ofNat x0, Int32.ofNat x1, 0, 0]) :: σ) hK (by omega) (by omega) H409) 0 rfl (by decide) (by decide) (by decide) (by decide) rfl rfl [.int 3, .int 2, .ref ta, .ref sa, .ref fa] rfl D99_10_120 ?_
    rintro _ _ ⟨z410, rfl, hz410, rfl⟩
    change G k n0 _ h239 _ _ 123 [.val (.ref fa), .val (.ref sa), .val (.ref ta), .val (.int 4), .val (.ref a220), .val (.ref a231), .val (.int 1), .val (.int 2), .val (.int 3), .val (.int 4), .val (.int 2), .val (.int 3), .val (.int 2), .val (.int l239)] [.int z410]
    refine G.if_gt K D99_10_123 (fun q411 => ?_) (fun q411 => ?_)
    · have e412 : ke 3 < ke 2 := hz410.mp q411
      refine G.iconst K D99_10_130 0 rfl ?_
      refine G.istore K D99_10_131 ([.val (.ref fa), .val (.ref sa), .val (.ref ta), .val (.int 4), .val (.ref a220), .val (.ref a231), .val (.int 1), .val (.int 2), .val (.int 3), .val (.int 4), .val (.int 2), .val (.int 3), .val (.int 2), .val (.int 0)]) rfl ?_
      refine G.aload K D99_10_133 rfl rfl ?_
      refine G.iload K D99_10_135 rfl ?_
      refine G.iload K D99_10_137 rfl ?_
      refine G.if_eq K D99_10_139 (fun _ => ?_) (fun q => absurd q (by decide))
      refine G.aload K D99_10_153 rfl rfl ?_
      refine G.iload K D99_10_155 rfl ?_
      refine G.iinc K D99_10_157 1 rfl rfl ([.val (.ref fa), .val (.ref sa), .val (.ref ta), .val (.int 4), .val (.ref a220), .val (.ref a231), .val (.int 1), .val (.int 2), .val (.int 3), .val (.int 4), .val (.int 2), .val (.int (3 + 1)), .val (.int 2), .val (.int 0)]) rfl ?_
      change G k n0 _ h239 _ _ 160 [.val (.ref fa), .val (.ref sa), .val (.ref ta), .val (.int 4), .val (.ref a220), .val (.ref a231), .val (.int 1), .val (.int 2), .val (.int 3), .val (.int 4), .val (.int 2), .val (.int 4), .val (.int 2), .val (.int 0)] [.int 3, .ref a220, .int 2, .ref a231]
      refine G.aload_i K H409 (i := 3) rfl (by decide) rfl D99_10_160 ?_
      refine G.astore_i K H409 (i := 4) rfl (by decide) (Nat.le_of_ble_eq_true rfl) D99_10_161 ?_
      intro h414 H414
      change Hp n0 h414 ((fa, Ia Z (lst 4 (fun _ => 0))) :: (sa, Ia Z (lst 4 (sF ke))) :: (ta, Ia Z (lst 4 (tF ke))) :: (a220, Ia Z [0, 1, 2, 3]) :: (a231, Ia Z [Int32.ofNat x0, Int32.ofNat x1, 3, 0]) :: σ) at H414
      refine G.iinc K D99_10_162 1 rfl rfl ([.val (.ref fa), .val (.ref sa), .val (.ref ta), .val (.int 4), .val (.ref a220), .val (.ref a231), .val (.int 1), .val (.int 2), .val (.int 3), .val (.int 4), .val (.int 2), .val (.int 4), .val (.int (2 + 1)), .val (.int 0)]) rfl ?_
      change G k n0 _ h414 _ _ 165 [.val (.ref fa), .val (.ref sa), .val (.ref ta), .val (.int 4), .val (.ref a220), .val (.ref a231), .val (.int 1), .val (.int 2), .val (.int 3), .val (.int 4), .val (.int 2), .val (.int 4), .val (.int 3), .val (.int 0)] []
      refine G.goto K D99_10_165 ?_
      refine G.iload K D99_10_86 rfl ?_
      refine G.iload K D99_10_88 rfl ?_
      refine G.icmp_ge K D99_10_90 (fun q => absurd q (by decide)) (fun _ => ?_)
      refine G.iload K D99_10_93 rfl ?_
      refine G.iload K D99_10_95 rfl ?_
      refine G.icmp_ge K D99_10_97 (fun _ => ?_) (fun q => absurd q (by decide))
      refine G.iconst K D99_10_126 1 rfl ?_
      refine G.goto K D99_10_127 ?_
      refine G.istore K D99_10_131 ([.val (.ref fa), .val (.ref sa), .val (.ref ta), .val (.int 4), .val (.ref a220), .val (.ref a231), .val (.int 1), .val (.int 2), .val (.int 3), .val (.int 4), .val (.int 2), .val (.int 4), .val (.int 3), .val (.int 1)]) rfl ?_
      refine G.aload K D99_10_133 rfl rfl ?_
      refine G.iload K D99_10_135 rfl ?_
      refine G.iload K D99_10_137 rfl ?_
      refine G.if_eq K D99_10_139 (fun q => absurd q (by decide)) (fun _ => ?_)
      refine G.aload K D99_10_142 rfl rfl ?_
      refine G.iload K D99_10_144 rfl ?_
      refine G.iinc K D99_10_146 1 rfl rfl ([.val (.ref fa), .val (.ref sa), .val (.ref ta), .val (.int 4), .val (.ref a220), .val (.ref a231), .val (.int 1), .val (.int 2), .val (.int 3), .val (.int 4), .val (.int (2 + 1)), .val (.int 4), .val (.int 3), .val (.int 1)]) rfl ?_
      change G k n0 _ h414 _ _ 149 [.val (.ref fa), .val (.ref sa), .val (.ref ta), .val (.int 4), .val (.ref a220), .val (.ref a231), .val (.int 1), .val (.int 2), .val (.int 3), .val (.int 4), .val (.int 3), .val (.int 4), .val (.int 3), .val (.int 1)] [.int 2, .ref a220, .int 3, .ref a231]
      refine G.aload_i K H414 (i := 3) rfl (by decide) rfl D99_10_149 ?_
      refine G.goto K D99_10_150 ?_
      refine G.astore_i K H414 (i := 4) rfl (by decide) (Nat.le_of_ble_eq_true rfl) D99_10_161 ?_
      intro h418 H418
      change Hp n0 h418 ((fa, Ia Z (lst 4 (fun _ => 0))) :: (sa, Ia Z (lst 4 (sF ke))) :: (ta, Ia Z (lst 4 (tF ke))) :: (a220, Ia Z [0, 1, 2, 3]) :: (a231, Ia Z [Int32.ofNat x0, Int32.ofNat x1, 3, 2]) :: σ) at H418
      refine G.iinc K D99_10_162 1 rfl rfl ([.val (.ref fa), .val (.ref sa), .val (.ref ta), .val (.int 4), .val (.ref a220), .val (.ref a231), .val (.int 1), .val (.int 2), .val (.int 3), .val (.int 4), .val (.int 3), .val (.int 4), .val (.int (3 + 1)), .val (.int 1)]) rfl ?_
      change G k n0 _ h418 _ _ 165 [.val (.ref fa), .val (.ref sa), .val (.ref ta), .val (.int 4), .val (.ref a220), .val (.ref a231), .val (.int 1), .val (.int 2), .val (.int 3), .val (.int 4), .val (.int 3), .val (.int 4), .val (.int 4), .val (.int 1)] []
      refine G.goto K D99_10_165 ?_
      refine G.iload K D99_10_86 rfl ?_
      refine G.iload K D99_10_88 rfl ?_
      refine G.icmp_ge K D99_10_90 (fun _ => ?_) (fun q => absurd q (by decide))
      have H420 : Hp n0 h418 ((a231, Ia Z [Int32.ofNat x0, Int32.ofNat x1, 3, 2]) :: (fa, Ia Z (lst 4 (fun _ => 0))) :: (sa, Ia Z (lst 4 (sF ke))) :: (ta, Ia Z (lst 4 (tF ke))) :: (a220, Ia Z [0, 1, 2, 3]) :: σ) := H418.pull 4 rfl
      have H421 : Hp n0 h418 ((a220, Ia Z [0, 1, 2, 3]) :: (a231, Ia Z [Int32.ofNat x0, Int32.ofNat x1, 3, 2]) :: (fa, Ia Z (lst 4 (fun _ => 0))) :: (sa, Ia Z (lst 4 (sF ke))) :: (ta, Ia Z (lst 4 (tF ke))) :: σ) := H420.pull 4 rfl
      have H422 : Hp n0 h418 ((ta, Ia Z (lst 4 (tF ke))) :: (a220, Ia Z [0, 1, 2, 3]) :: (a231, Ia Z [Int32.ofNat x0, Int32.ofNat x1, 3, 2]) :: (fa, Ia Z (lst 4 (fun _ => 0))) :: (sa, Ia Z (lst 4 (sF ke))) :: σ) := H421.pull 4 rfl
      have H423 : Hp n0 h418 ((sa, Ia Z (lst 4 (sF ke))) :: (ta, Ia Z (lst 4 (tF ke))) :: (a220, Ia Z [0, 1, 2, 3]) :: (a231, Ia Z [Int32.ofNat x0, Int32.ofNat x1, 3, 2]) :: (fa, Ia Z (lst 4 (fun _ => 0))) :: σ) := H422.pull 4 rfl
      have H424 : Hp n0 h418 ((fa, Ia Z (lst 4 (fun _ => 0))) :: (sa, Ia Z (lst 4 (sF ke))) :: (ta, Ia Z (lst 4 (tF ke))) :: (a220, Ia Z [0, 1, 2, 3]) :: (a231, Ia Z [Int32.ofNat x0, Int32.ofNat x1, 3, 2]) :: σ) := H423.pull 4 rfl
      exact T246 3 2 _ _ (by omega) H424
    · have e425 : ke 2 ≤ ke 3 := Nat.le_of_not_lt fun y => q411 (hz410.mpr y)
      refine G.iconst K D99_10_126 1 rfl ?_
      refine G.goto K D99_10_127 ?_
      refine G.istore K D99_10_131 ([.val (.ref fa), .val (.ref sa), .val (.ref ta), .val (.int 4), .val (.ref a220), .val (.ref a231), .val (.int 1), .val (.int 2), .val (.int 3), .val (.int 4), .val (.int 2), .val (.int 3), .val (.int 2), .val (.int 1)]) rfl ?_
      refine G.aload K D99_10_133 rfl rfl ?_
      refine G.iload K D99_10_135 rfl ?_
      refine G.iload K D99_10_137 rfl ?_
      refine G.if_eq K D99_10_139 (fun q => absurd q (by decide)) (fun _ => ?_)
      refine G.aload K D99_10_142 rfl rfl ?_
      refine G.iload K D99_10_144 rfl ?_
      refine G.iinc K D99_10_146 1 rfl rfl ([.val (.ref fa), .val (.ref sa), .val (.ref ta), .val (.int 4), .val (.ref a220), .val (.ref a231), .val (.int 1), .val (.int 2), .val (.int 3), .val (.int 4), .val (.int (2 + 1)), .val (.int 3), .val (.int 2), .val (.int 1)]) rfl ?_
      change G k n0 _ h239 _ _ 149 [.val (.ref fa), .val (.ref sa), .val (.ref ta), .val (.int 4), .val (.ref a220), .val (.ref a231), .val (.int 1), .val (.int 2), .val (.int 3), .val (.int 4), .val (.int 3), .val (.int 3), .val (.int 2), .val (.int 1)] [.int 2, .ref a220, .int 2, .ref a231]
      refine G.aload_i K H409 (i := 3) rfl (by decide) rfl D99_10_149 ?_
      refine G.goto K D99_10_150 ?_
      refine G.astore_i K H409 (i := 4) rfl (by decide) (Nat.le_of_ble_eq_true rfl) D99_10_161 ?_
      intro h427 H427
      change Hp n0 h427 ((fa, Ia Z (lst 4 (fun _ => 0))) :: (sa, Ia Z (lst 4 (sF ke))) :: (ta, Ia Z (lst 4 (tF ke))) :: (a220, Ia Z [0, 1, 2, 3]) :: (a231, Ia Z [Int32.ofNat x0, Int32.ofNat x1, 2, 0]) :: σ) at H427
      refine G.iinc K D99_10_162 1 rfl rfl ([.val (.ref fa), .val (.ref sa), .val (.ref ta), .val (.int 4), .val (.ref a220), .val (.ref a231), .val (.int 1), .val (.int 2), .val (.int 3), .val (.int 4), .val (.int 3), .val (.int 3), .val (.int (2 + 1)), .val (.int 1)]) rfl ?_
      change G k n0 _ h427 _ _ 165 [.val (.ref fa), .val (.ref sa), .val (.ref ta), .val (.int 4), .val (.ref a220), .val (.ref a231), .val (.int 1), .val (.int 2), .val (.int 3), .val (.int 4), .val (.int 3), .val (.int 3), .val (.int 3), .val (.int 1)] []
      refine G.goto K D99_10_165 ?_
      refine G.iload K D99_10_86 rfl ?_
      refine G.iload K D99_10_88 rfl ?_
      refine G.icmp_ge K D99_10_90 (fun q => absurd q (by decide)) (fun _ => ?_)
      refine G.iload K D99_10_93 rfl ?_
      refine G.iload K D99_10_95 rfl ?_
      refine G.icmp_ge K D99_10_97 (fun q => absurd q (by decide)) (fun _ => ?_)
      refine G.iload K D99_10_100 rfl ?_
      refine G.iload K D99_10_102 rfl ?_
      refine G.icmp_ge K D99_10_104 (fun _ => ?_) (fun q => absurd q (by decide))
      refine G.iconst K D99_10_130 0 rfl ?_
      refine G.istore K D99_10_131 ([.val (.ref fa), .val (.ref sa), .val (.ref ta), .val (.int 4), .val (.ref a220), .val (.ref a231), .val (.int 1), .val (.int 2), .val (.int 3), .val (.int 4), .val (.int 3), .val (.int 3), .val (.int 3), .val (.int 0)]) rfl ?_
      refine G.aload K D99_10_133 rfl rfl ?_
      refine G.iload K D99_10_135 rfl ?_
      refine G.iload K D99_10_137 rfl ?_
      refine G.if_eq K D99_10_139 (fun _ => ?_) (fun q => absurd q (by decide))
      refine G.aload K D99_10_153 rfl rfl ?_
      refine G.iload K D99_10_155 rfl ?_
      refine G.iinc K D99_10_157 1 rfl rfl ([.val (.ref fa), .val (.ref sa), .val (.ref ta), .val (.int 4), .val (.ref a220), .val (.ref a231), .val (.int 1), .val (.int 2), .val (.int 3), .val (.int 4), .val (.int 3), .val (.int (3 + 1)), .val (.int 3), .val (.int 0)]) rfl ?_
      change G k n0 _ h427 _ _ 160 [.val (.ref fa), .val (.ref sa), .val (.ref ta), .val (.int 4), .val (.ref a220), .val (.ref a231), .val (.int 1), .val (.int 2), .val (.int 3), .val (.int 4), .val (.int 3), .val (.int 4), .val (.int 3), .val (.int 0)] [.int 3, .ref a220, .int 3, .ref a231]
      refine G.aload_i K H427 (i := 3) rfl (by decide) rfl D99_10_160 ?_
      refine G.astore_i K H427 (i := 4) rfl (by decide) (Nat.le_of_ble_eq_true rfl) D99_10_161 ?_
      intro h432 H432
      change Hp n0 h432 ((fa, Ia Z (lst 4 (fun _ => 0))) :: (sa, Ia Z (lst 4 (sF ke))) :: (ta, Ia Z (lst 4 (tF ke))) :: (a220, Ia Z [0, 1, 2, 3]) :: (a231, Ia Z [Int32.ofNat x0, Int32.ofNat x1, 2, 3]) :: σ) at H432
      refine G.iinc K D99_10_162 1 rfl rfl ([.val (.ref fa), .val (.ref sa), .val (.ref ta), .val (.int 4), .val (.ref a220), .val (.ref a231), .val (.int 1), .val (.int 2), .val (.int 3), .val (.int 4), .val (.int 3), .val (.int 4), .val (.int (3 + 1)), .val (.int 0)]) rfl ?_
      change G k n0 _ h432 _ _ 165 [.val (.ref fa), .val (.ref sa), .val (.ref ta), .val (.int 4), .val (.ref a220), .val (.ref a231), .val (.int 1), .val (.int 2), .val (.int 3), .val (.int 4), .val (.int 3), .val (.int 4), .val (.int 4), .val (.int 0)] []
      refine G.goto K D99_10_165 ?_
      refine G.iload K D99_10_86 rfl ?_
      refine G.iload K D99_10_88 rfl ?_
      refine G.icmp_ge K D99_10_90 (fun _ => ?_) (fun q => absurd q (by decide))
      have H434 : Hp n0 h432 ((a231, Ia Z [Int32.ofNat x0, Int32.ofNat x1, 2, 3]) :: (fa, Ia Z (lst 4 (fun _ => 0))) :: (sa, Ia Z (lst 4 (sF ke))) :: (ta, Ia Z (lst 4 (tF ke))) :: (a220, Ia Z [0, 1, 2, 3]) :: σ) := H432.pull 4 rfl
      have H435 : Hp n0 h432 ((a220, Ia Z [0, 1, 2, 3]) :: (a231, Ia Z [Int32.ofNat x0, Int32.ofNat x1, 2, 3]) :: (fa, Ia Z (lst 4 (fun _ => 0))) :: (sa, Ia Z (lst 4 (sF ke))) :: (ta, Ia Z (lst 4 (tF ke))) :: σ) := H434.pull 4 rfl
      have H436 : Hp n0 h432 ((ta, Ia Z (lst 4 (tF ke))) :: (a220, Ia Z [0, 1, 2, 3]) :: (a231, Ia Z [Int32.ofNat x0, Int32.ofNat x1, 2, 3]) :: (fa, Ia Z (lst 4 (fun _ => 0))) :: (sa, Ia Z (lst 4 (sF ke))) :: σ) := H435.pull 4 rfl
      have H437 : Hp n0 h432 ((sa, Ia Z (lst 4 (sF ke))) :: (ta, Ia Z (lst 4 (tF ke))) :: (a220, Ia Z [0, 1, 2, 3]) :: (a231, Ia Z [Int32.ofNat x0, Int32.ofNat x1, 2, 3]) :: (fa, Ia Z (lst 4 (fun _ => 0))) :: σ) := H436.pull 4 rfl
      have H438 : Hp n0 h432 ((fa, Ia Z (lst 4 (fun _ => 0))) :: (sa, Ia Z (lst 4 (sF ke))) :: (ta, Ia Z (lst 4 (tF ke))) :: (a220, Ia Z [0, 1, 2, 3]) :: (a231, Ia Z [Int32.ofNat x0, Int32.ofNat x1, 2, 3]) :: σ) := H437.pull 4 rfl
      exact T246 2 3 _ _ (by omega) H438
  refine G.iload K D99_10_82 rfl ?_
  refine G.istore K D99_10_84 ([.val (.ref fa), .val (.ref sa), .val (.ref ta), .val (.int 4), .val (.ref a220), .val (.ref a231), .val (.int 1), .val (.int 0), .val (.int 1), .val (.int 2), .val (.int 0), .val (.int 1), .val (.int 0), .unset]) rfl ?_
  refine G.iload K D99_10_86 rfl ?_
  refine G.iload K D99_10_88 rfl ?_
  refine G.icmp_ge K D99_10_90 (fun q => absurd q (by decide)) (fun _ => ?_)
  refine G.iload K D99_10_93 rfl ?_
  refine G.iload K D99_10_95 rfl ?_
  refine G.icmp_ge K D99_10_97 (fun q => absurd q (by decide)) (fun _ => ?_)
  refine G.iload K D99_10_100 rfl ?_
  refine G.iload K D99_10_102 rfl ?_
  refine G.icmp_ge K D99_10_104 (fun q => absurd q (by decide)) (fun _ => ?_)
  refine G.aloadN K D99_10_107 rfl rfl ?_
  refine G.aloadN K D99_10_108 rfl rfl ?_
  refine G.aloadN K D99_10_109 rfl rfl ?_
  refine G.aload K D99_10_110 rfl rfl ?_
  refine G.iload K D99_10_112 rfl ?_
  refine G.aload_i K H238 (i := 3) rfl (by decide) rfl D99_10_114 ?_
  refine G.aload K D99_10_115 rfl rfl ?_
  refine G.iload K D99_10_117 rfl ?_
  refine G.aload_i K H238 (i := 3) rfl (by decide) rfl D99_10_119 ?_
  have H442 : Hp n0 h232 ((ta, Ia Z (lst 4 (tF ke))) :: (fa, Ia Z (lst 4 (fun _ => 0))) :: (sa, Ia Z (lst 4 (sF ke))) :: (a220, Ia Z [0, 1, 2, 3]) :: (a231, Ia Z [0, 0, 0, 0]) :: σ) := H238.pull 2 rfl
  have H443 : Hp n0 h232 ((sa, Ia Z (lst 4 (sF ke))) :: (ta, Ia Z (lst 4 (tF ke))) :: (fa, Ia Z (lst 4 (fun _ => 0))) :: (a220, Ia Z [0, 1, 2, 3]) :: (a231, Ia Z [0, 0, 0, 0]) :: σ) := H442.pull 2 rfl
  have H444 : Hp n0 h232 ((fa, Ia Z (lst 4 (fun _ => 0))) :: (sa, Ia Z (lst 4 (sF ke))) :: (ta, Ia Z (lst 4 (tF ke))) :: (a220, Ia Z [0, 1, 2, 3]) :: (a231, Ia Z [0, 0, 0, 0]) :: σ) := H443.pull 2 rfl
  refine G.callS K hl (wd hw 45 rfl) (wd hw 46 rfl) (wd hw 3 rfl) (wd hw 47 rfl) (by decide) pd_1 (ct_cmp l Z a0 hw n0 h232 fa sa ta ke 0 1 ((a220, Ia Z [0, 1, 2, 3]) :: (a231, Ia Z [0, 0, 0, 0]) :: σ) hK (by omega) (by omega) H444) 0 rfl (by decide) (by decide) (by decide) (by decide) rfl rfl [.int 1, .int 0, .ref ta, .ref sa, .ref fa] rfl D99_10_120 ?_
  rintro _ _ ⟨z445, rfl, hz445, rfl⟩
  change G k n0 _ h232 _ _ 123 [.val (.ref fa), .val (.ref sa), .val (.ref ta), .val (.int 4), .val (.ref a220), .val (.ref a231), .val (.int 1), .val (.int 0), .val (.int 1), .val (.int 2), .val (.int 0), .val (.int 1), .val (.int 0), .unset] [.int z445]
  refine G.if_gt K D99_10_123 (fun q446 => ?_) (fun q446 => ?_)
  · have e447 : ke 1 < ke 0 := hz445.mp q446
    refine G.iconst K D99_10_130 0 rfl ?_
    refine G.istore K D99_10_131 ([.val (.ref fa), .val (.ref sa), .val (.ref ta), .val (.int 4), .val (.ref a220), .val (.ref a231), .val (.int 1), .val (.int 0), .val (.int 1), .val (.int 2), .val (.int 0), .val (.int 1), .val (.int 0), .val (.int 0)]) rfl ?_
    refine G.aload K D99_10_133 rfl rfl ?_
    refine G.iload K D99_10_135 rfl ?_
    refine G.iload K D99_10_137 rfl ?_
    refine G.if_eq K D99_10_139 (fun _ => ?_) (fun q => absurd q (by decide))
    refine G.aload K D99_10_153 rfl rfl ?_
    refine G.iload K D99_10_155 rfl ?_
    refine G.iinc K D99_10_157 1 rfl rfl ([.val (.ref fa), .val (.ref sa), .val (.ref ta), .val (.int 4), .val (.ref a220), .val (.ref a231), .val (.int 1), .val (.int 0), .val (.int 1), .val (.int 2), .val (.int 0), .val (.int (1 + 1)), .val (.int 0), .val (.int 0)]) rfl ?_
    change G k n0 _ h232 _ _ 160 [.val (.ref fa), .val (.ref sa), .val (.ref ta), .val (.int 4), .val (.ref a220), .val (.ref a231), .val (.int 1), .val (.int 0), .val (.int 1), .val (.int 2), .val (.int 0), .val (.int 2), .val (.int 0), .val (.int 0)] [.int 1, .ref a220, .int 0, .ref a231]
    refine G.aload_i K H444 (i := 3) rfl (by decide) rfl D99_10_160 ?_
    refine G.astore_i K H444 (i := 4) rfl (by decide) (Nat.le_of_ble_eq_true rfl) D99_10_161 ?_
    intro h449 H449
    change Hp n0 h449 ((fa, Ia Z (lst 4 (fun _ => 0))) :: (sa, Ia Z (lst 4 (sF ke))) :: (ta, Ia Z (lst 4 (tF ke))) :: (a220, Ia Z [0, 1, 2, 3]) :: (a231, Ia Z [1, 0, 0, 0]) :: σ) at H449
    refine G.iinc K D99_10_162 1 rfl rfl ([.val (.ref fa), .val (.ref sa), .val (.ref ta), .val (.int 4), .val (.ref a220), .val (.ref a231), .val (.int 1), .val (.int 0), .val (.int 1), .val (.int 2), .val (.int 0), .val (.int 2), .val (.int (0 + 1)), .val (.int 0)]) rfl ?_
    change G k n0 _ h449 _ _ 165 [.val (.ref fa), .val (.ref sa), .val (.ref ta), .val (.int 4), .val (.ref a220), .val (.ref a231), .val (.int 1), .val (.int 0), .val (.int 1), .val (.int 2), .val (.int 0), .val (.int 2), .val (.int 1), .val (.int 0)] []
    refine G.goto K D99_10_165 ?_
    refine G.iload K D99_10_86 rfl ?_
    refine G.iload K D99_10_88 rfl ?_
    refine G.icmp_ge K D99_10_90 (fun q => absurd q (by decide)) (fun _ => ?_)
    refine G.iload K D99_10_93 rfl ?_
    refine G.iload K D99_10_95 rfl ?_
    refine G.icmp_ge K D99_10_97 (fun _ => ?_) (fun q => absurd q (by decide))
    refine G.iconst K D99_10_126 1 rfl ?_
    refine G.goto K D99_10_127 ?_
    refine G.istore K D99_10_131 ([.val (.ref fa), .val (.ref sa), .val (.ref ta), .val (.int 4), .val (.ref a220), .val (.ref a231), .val (.int 1), .val (.int 0), .val (.int 1), .val (.int 2), .val (.int 0), .val (.int 2), .val (.int 1), .val (.int 1)]) rfl ?_
    refine G.aload K D99_10_133 rfl rfl ?_
    refine G.iload K D99_10_135 rfl ?_
    refine G.iload K D99_10_137 rfl ?_
    refine G.if_eq K D99_10_139 (fun q => absurd q (by decide)) (fun _ => ?_)
    refine G.aload K D99_10_142 rfl rfl ?_
    refine G.iload K D99_10_144 rfl ?_
    refine G.iinc K D99_10_146 1 rfl rfl ([.val (.ref fa), .val (.ref sa), .val (.ref ta), .val (.int 4), .val (.ref a220), .val (.ref a231), .val (.int 1), .val (.int 0), .val (.int 1), .val (.int 2), .val (.int (0 + 1)), .val (.int 2), .val (.int 1), .val (.int 1)]) rfl ?_
    change G k n0 _ h449 _ _ 149 [.val (.ref fa), .val (.ref sa), .val (.ref ta), .val (.int 4), .val (.ref a220), .val (.ref a231), .val (.int 1), .val (.int 0), .val (.int 1), .val (.int 2), .val (.int 1), .val (.int 2), .val (.int 1), .val (.int 1)] [.int 0, .ref a220, .int 1, .ref a231]
    refine G.aload_i K H449 (i := 3) rfl (by decide) rfl D99_10_149 ?_
    refine G.goto K D99_10_150 ?_
    refine G.astore_i K H449 (i := 4) rfl (by decide) (Nat.le_of_ble_eq_true rfl) D99_10_161 ?_
    intro h453 H453
    change Hp n0 h453 ((fa, Ia Z (lst 4 (fun _ => 0))) :: (sa, Ia Z (lst 4 (sF ke))) :: (ta, Ia Z (lst 4 (tF ke))) :: (a220, Ia Z [0, 1, 2, 3]) :: (a231, Ia Z [1, 0, 0, 0]) :: σ) at H453
    refine G.iinc K D99_10_162 1 rfl rfl ([.val (.ref fa), .val (.ref sa), .val (.ref ta), .val (.int 4), .val (.ref a220), .val (.ref a231), .val (.int 1), .val (.int 0), .val (.int 1), .val (.int 2), .val (.int 1), .val (.int 2), .val (.int (1 + 1)), .val (.int 1)]) rfl ?_
    change G k n0 _ h453 _ _ 165 [.val (.ref fa), .val (.ref sa), .val (.ref ta), .val (.int 4), .val (.ref a220), .val (.ref a231), .val (.int 1), .val (.int 0), .val (.int 1), .val (.int 2), .val (.int 1), .val (.int 2), .val (.int 2), .val (.int 1)] []
    refine G.goto K D99_10_165 ?_
    refine G.iload K D99_10_86 rfl ?_
    refine G.iload K D99_10_88 rfl ?_
    refine G.icmp_ge K D99_10_90 (fun _ => ?_) (fun q => absurd q (by decide))
    have H455 : Hp n0 h453 ((a231, Ia Z [1, 0, 0, 0]) :: (fa, Ia Z (lst 4 (fun _ => 0))) :: (sa, Ia Z (lst 4 (sF ke))) :: (ta, Ia Z (lst 4 (tF ke))) :: (a220, Ia Z [0, 1, 2, 3]) :: σ) := H453.pull 4 rfl
    have H456 : Hp n0 h453 ((a220, Ia Z [0, 1, 2, 3]) :: (a231, Ia Z [1, 0, 0, 0]) :: (fa, Ia Z (lst 4 (fun _ => 0))) :: (sa, Ia Z (lst 4 (sF ke))) :: (ta, Ia Z (lst 4 (tF ke))) :: σ) := H455.pull 4 rfl
    have H457 : Hp n0 h453 ((ta, Ia Z (lst 4 (tF ke))) :: (a220, Ia Z [0, 1, 2, 3]) :: (a231, Ia Z [1, 0, 0, 0]) :: (fa, Ia Z (lst 4 (fun _ => 0))) :: (sa, Ia Z (lst 4 (sF ke))) :: σ) := H456.pull 4 rfl
    have H458 : Hp n0 h453 ((sa, Ia Z (lst 4 (sF ke))) :: (ta, Ia Z (lst 4 (tF ke))) :: (a220, Ia Z [0, 1, 2, 3]) :: (a231, Ia Z [1, 0, 0, 0]) :: (fa, Ia Z (lst 4 (fun _ => 0))) :: σ) := H457.pull 4 rfl
    have H459 : Hp n0 h453 ((fa, Ia Z (lst 4 (fun _ => 0))) :: (sa, Ia Z (lst 4 (sF ke))) :: (ta, Ia Z (lst 4 (tF ke))) :: (a220, Ia Z [0, 1, 2, 3]) :: (a231, Ia Z [1, 0, 0, 0]) :: σ) := H458.pull 4 rfl
    exact T239 1 0 _ _ (by omega) H459
  · have e460 : ke 0 ≤ ke 1 := Nat.le_of_not_lt fun y => q446 (hz445.mpr y)
    refine G.iconst K D99_10_126 1 rfl ?_
    refine G.goto K D99_10_127 ?_
    refine G.istore K D99_10_131 ([.val (.ref fa), .val (.ref sa), .val (.ref ta), .val (.int 4), .val (.ref a220), .val (.ref a231), .val (.int 1), .val (.int 0), .val (.int 1), .val (.int 2), .val (.int 0), .val (.int 1), .val (.int 0), .val (.int 1)]) rfl ?_
    refine G.aload K D99_10_133 rfl rfl ?_
    refine G.iload K D99_10_135 rfl ?_
    refine G.iload K D99_10_137 rfl ?_
    refine G.if_eq K D99_10_139 (fun q => absurd q (by decide)) (fun _ => ?_)
    refine G.aload K D99_10_142 rfl rfl ?_
    refine G.iload K D99_10_144 rfl ?_
    refine G.iinc K D99_10_146 1 rfl rfl ([.val (.ref fa), .val (.ref sa), .val (.ref ta), .val (.int 4), .val (.ref a220), .val (.ref a231), .val (.int 1), .val (.int 0), .val (.int 1), .val (.int 2), .val (.int (0 + 1)), .val (.int 1), .val (.int 0), .val (.int 1)]) rfl ?_
    change G k n0 _ h232 _ _ 149 [.val (.ref fa), .val (.ref sa), .val (.ref ta), .val (.int 4), .val (.ref a220), .val (.ref a231), .val (.int 1), .val (.int 0), .val (.int 1), .val (.int 2), .val (.int 1), .val (.int 1), .val (.int 0), .val (.int 1)] [.int 0, .ref a220, .int 0, .ref a231]
    refine G.aload_i K H444 (i := 3) rfl (by decide) rfl D99_10_149 ?_
    refine G.goto K D99_10_150 ?_
    refine G.astore_i K H444 (i := 4) rfl (by decide) (Nat.le_of_ble_eq_true rfl) D99_10_161 ?_
    intro h462 H462
    change Hp n0 h462 ((fa, Ia Z (lst 4 (fun _ => 0))) :: (sa, Ia Z (lst 4 (sF ke))) :: (ta, Ia Z (lst 4 (tF ke))) :: (a220, Ia Z [0, 1, 2, 3]) :: (a231, Ia Z [0, 0, 0, 0]) :: σ) at H462
    refine G.iinc K D99_10_162 1 rfl rfl ([.val (.ref fa), .val (.ref sa), .val (.ref ta), .val (.int 4), .val (.ref a220), .val (.ref a231), .val (.int 1), .val (.int 0), .val (.int 1), .val (.int 2), .val (.int 1), .val (.int 1), .val (.int (0 + 1)), .val (.int 1)]) rfl ?_
    change G k n0 _ h462 _ _ 165 [.val (.ref fa), .val (.ref sa), .val (.ref ta), .val (.int 4), .val (.ref a220), .val (.ref a231), .val (.int 1), .val (.int 0), .val (.int 1), .val (.int 2), .val (.int 1), .val (.int 1), .val (.int 1), .val (.int 1)] []
    refine G.goto K D99_10_165 ?_
    refine G.iload K D99_10_86 rfl ?_
    refine G.iload K D99_10_88 rfl ?_
    refine G.icmp_ge K D99_10_90 (fun q => absurd q (by decide)) (fun _ => ?_)
    refine G.iload K D99_10_93 rfl ?_
    refine G.iload K D99_10_95 rfl ?_
    refine G.icmp_ge K D99_10_97 (fun q => absurd q (by decide)) (fun _ => ?_)
    refine G.iload K D99_10_100 rfl ?_
    refine G.iload K D99_10_102 rfl ?_
    refine G.icmp_ge K D99_10_104 (fun _ => ?_) (fun q => absurd q (by decide))
    refine G.iconst K D99_10_130 0 rfl ?_
    refine G.istore K D99_10_131 ([.val (.ref fa), .val (.ref sa), .val (.ref ta), .val (.int 4), .val (.ref a220), .val (.ref a231), .val (.int 1), .val (.int 0), .val (.int 1), .val (.int 2), .val (.int 1), .val (.int 1), .val (.int 1), .val (.int 0)]) rfl ?_
    refine G.aload K D99_10_133 rfl rfl ?_
    refine G.iload K D99_10_135 rfl ?_
    refine G.iload K D99_10_137 rfl ?_
    refine G.if_eq K D99_10_139 (fun _ => ?_) (fun q => absurd q (by decide))
    refine G.aload K D99_10_153 rfl rfl ?_
    refine G.iload K D99_10_155 rfl ?_
    refine G.iinc K D99_10_157 1 rfl rfl ([.val (.ref fa), .val (.ref sa), .val (.ref ta), .val (.int 4), .val (.ref a220), .val (.ref a231), .val (.int 1), .val (.int 0), .val (.int 1), .val (.int 2), .val (.int 1), .val (.int (1 + 1)), .val (.int 1), .val (.int 0)]) rfl ?_
    change G k n0 _ h462 _ _ 160 [.val (.ref fa), .val (.ref sa), .val (.ref ta), .val (.int 4), .val (.ref a220), .val (.ref a231), .val (.int 1), .val (.int 0), .val (.int 1), .val (.int 2), .val (.int 1), .val (.int 2), .val (.int 1), .val (.int 0)] [.int 1, .ref a220, .int 1, .ref a231]
    refine G.aload_i K H462 (i := 3) rfl (by decide) rfl D99_10_160 ?_
    refine G.astore_i K H462 (i := 4) rfl (by decide) (Nat.le_of_ble_eq_true rfl) D99_10_161 ?_
    intro h467 H467
    change Hp n0 h467 ((fa, Ia Z (lst 4 (fun _ => 0))) :: (sa, Ia Z (lst 4 (sF ke))) :: (ta, Ia Z (lst 4 (tF ke))) :: (a220, Ia Z [0, 1, 2, 3]) :: (a231, Ia Z [0, 1, 0, 0]) :: σ) at H467
    refine G.iinc K D99_10_162 1 rfl rfl ([.val (.ref fa), .val (.ref sa), .val (.ref ta), .val (.int 4), .val (.ref a220), .val (.ref a231), .val (.int 1), .val (.int 0), .val (.int 1), .val (.int 2), .val (.int 1), .val (.int 2), .val (.int (1 + 1)), .val (.int 0)]) rfl ?_
    change G k n0 _ h467 _ _ 165 [.val (.ref fa), .val (.ref sa), .val (.ref ta), .val (.int 4), .val (.ref a220), .val (.ref a231), .val (.int 1), .val (.int 0), .val (.int 1), .val (.int 2), .val (.int 1), .val (.int 2), .val (.int 2), .val (.int 0)] []
    refine G.goto K D99_10_165 ?_
    refine G.iload K D99_10_86 rfl ?_
    refine G.iload K D99_10_88 rfl ?_
    refine G.icmp_ge K D99_10_90 (fun _ => ?_) (fun q => absurd q (by decide))
    have H469 : Hp n0 h467 ((a231, Ia Z [0, 1, 0, 0]) :: (fa, Ia Z (lst 4 (fun _ => 0))) :: (sa, Ia Z (lst 4 (sF ke))) :: (ta, Ia Z (lst 4 (tF ke))) :: (a220, Ia Z [0, 1, 2, 3]) :: σ) := H467.pull 4 rfl
    have H470 : Hp n0 h467 ((a220, Ia Z [0, 1, 2, 3]) :: (a231, Ia Z [0, 1, 0, 0]) :: (fa, Ia Z (lst 4 (fun _ => 0))) :: (sa, Ia Z (lst 4 (sF ke))) :: (ta, Ia Z (lst 4 (tF ke))) :: σ) := H469.pull 4 rfl
    have H471 : Hp n0 h467 ((ta, Ia Z (lst 4 (tF ke))) :: (a220, Ia Z [0, 1, 2, 3]) :: (a231, Ia Z [0, 1, 0, 0]) :: (fa, Ia Z (lst 4 (fun _ => 0))) :: (sa, Ia Z (lst 4 (sF ke))) :: σ) := H470.pull 4 rfl
    have H472 : Hp n0 h467 ((sa, Ia Z (lst 4 (sF ke))) :: (ta, Ia Z (lst 4 (tF ke))) :: (a220, Ia Z [0, 1, 2, 3]) :: (a231, Ia Z [0, 1, 0, 0]) :: (fa, Ia Z (lst 4 (fun _ => 0))) :: σ) := H471.pull 4 rfl
    have H473 : Hp n0 h467 ((fa, Ia Z (lst 4 (fun _ => 0))) :: (sa, Ia Z (lst 4 (sF ke))) :: (ta, Ia Z (lst 4 (tF ke))) :: (a220, Ia Z [0, 1, 2, 3]) :: (a231, Ia Z [0, 1, 0, 0]) :: σ) := H472.pull 4 rfl
    exact T239 0 1 _ _ (by omega) H473
theorem D65_123_0 : Dc jdk_65_method_123_code 0 (.iload_n 1) 1 1 := dc (by decide +kernel) rfl
theorem D65_123_1 : Dc jdk_65_method_123_code 1 (.aload_n 0) 1 2 := dc (by decide +kernel) rfl
theorem D65_123_2 : Dc jdk_65_method_123_code 2 (.arraylength) 1 3 := dc (by decide +kernel) rfl
theorem D65_123_3 : Db jdk_65_method_123_code 3 (.if_icmp .ne) 6 14 := db (11) (by decide +kernel) rfl (by decide) (by decide)
theorem D65_123_6 : Dc jdk_65_method_123_code 6 (.aload_n 0) 1 7 := dc (by decide +kernel) rfl
theorem D65_123_7 : Dc jdk_65_method_123_code 7 (.invokevirtual 316) 3 10 := dc (by decide +kernel) rfl
theorem D65_123_10 : Dc jdk_65_method_123_code 10 (.checkcast 317) 3 13 := dc (by decide +kernel) rfl
theorem D65_123_13 : Dc jdk_65_method_123_code 13 (.areturn) 1 14 := dc (by decide +kernel) rfl
theorem D65_123_14 : Dc jdk_65_method_123_code 14 (.iload_n 1) 1 15 := dc (by decide +kernel) rfl
theorem D65_123_15 : Dc jdk_65_method_123_code 15 (.newarray .int) 2 17 := dc (by decide +kernel) rfl
theorem D65_123_17 : Dc jdk_65_method_123_code 17 (.astore_n 2) 1 18 := dc (by decide +kernel) rfl
theorem D65_123_18 : Dc jdk_65_method_123_code 18 (.aload_n 0) 1 19 := dc (by decide +kernel) rfl
theorem D65_123_19 : Dc jdk_65_method_123_code 19 (.iconst 0) 1 20 := dc (by decide +kernel) rfl
theorem D65_123_20 : Dc jdk_65_method_123_code 20 (.aload_n 2) 1 21 := dc (by decide +kernel) rfl
theorem D65_123_21 : Dc jdk_65_method_123_code 21 (.iconst 0) 1 22 := dc (by decide +kernel) rfl
theorem D65_123_22 : Dc jdk_65_method_123_code 22 (.aload_n 0) 1 23 := dc (by decide +kernel) rfl
theorem D65_123_23 : Dc jdk_65_method_123_code 23 (.arraylength) 1 24 := dc (by decide +kernel) rfl
theorem D65_123_24 : Dc jdk_65_method_123_code 24 (.iload_n 1) 1 25 := dc (by decide +kernel) rfl
theorem D65_123_25 : Dc jdk_65_method_123_code 25 (.invokestatic 304) 3 28 := dc (by decide +kernel) rfl
theorem D65_123_28 : Dc jdk_65_method_123_code 28 (.invokestatic 150) 3 31 := dc (by decide +kernel) rfl
theorem D65_123_31 : Dc jdk_65_method_123_code 31 (.aload_n 2) 1 32 := dc (by decide +kernel) rfl
theorem D65_123_32 : Dc jdk_65_method_123_code 32 (.areturn) 1 33 := dc (by decide +kernel) rfl
theorem pf_copy : plainFor (⟨"java/util/Arrays", "copyOf", "([II)[I"⟩ : MethodName) = true := by decide +kernel
set_option maxRecDepth 65536 in
set_option maxHeartbeats 40000000 in
theorem ct_copy (l : Launch) (Z : State) (a0 : Array Value) (hw : ∀ d ∈ tables_1, d.before a0 Z = true) (n0 : Nat) (h : Heap) (b : Addr) (n : Nat) (xs : List Int32) (σ : List Ch) (hn : n < xs.length) (hx : xs.length ≤ 8) (H : Hp n0 h ((b, Ia Z xs) :: σ)) :
    Ct l Z n0 (⟨"java/util/Arrays", "copyOf", "([II)[I"⟩ : MethodName) jdk_65_method_123_code 3 (some (.array .int)) ({ frames := 1, cells := 1, slots := 8, locals := 30 } : Room) [.ref b, .int (Int32.ofNat n)] h (fun v h' => ∃ b' : Addr, v = some (.ref b') ∧ Hp n0 h' ((b', Ia Z (xs.take n)) :: (b, Ia Z xs) :: σ)) := by
  refine Ct.intro pf_copy [.val (.ref b), .val (.int (Int32.ofNat n)), .unset] (fun m => by first | (simp [entryFrame, mkF, argsToLocals, Value.category]; done) | (simp [entryFrame, mkF, argsToLocals, Value.category, maxLocals]; done) | rfl) ?_
  intro k hl K
  replace K : Ok k Z n0 "java/util/Arrays" ({ frames := 1, cells := 1, slots := 8, locals := 30 } : Room) jdk_65_method_123_code 3 (some (.array .int)) "copyOf" := K
  refine G.iloadN K D65_123_0 rfl ?_
  refine G.aloadN K D65_123_1 rfl rfl ?_
  refine G.alen K H (i := 0) rfl D65_123_2 (Int32.ofNat xs.length) (by rw [List.length_map]) ?_
  refine G.icmp_ne K D65_123_3 (fun q474 => ?_) (fun q => absurd ((own_neq (by omega) (by omega)).mp q) (by omega))
  refine G.iloadN K D65_123_14 rfl ?_
  refine G.newarr_i K (wd hw 0 rfl) H (own_nneg (by omega)) 8 (by rw [own_nidx (by omega)]; omega) (by decide) (by decide) (by decide) D65_123_15 ?_
  intro a475 h476 H476
  rw [own_nidx (by omega)] at H476
  change Hp n0 h476 ((a475, Ia Z (List.replicate n 0)) :: (b, Ia Z xs) :: σ) at H476
  refine G.astoreN K D65_123_17 rfl ([.val (.ref b), .val (.int (Int32.ofNat n)), .val (.ref a475)]) rfl ?_
  refine G.aloadN K D65_123_18 rfl rfl ?_
  refine G.iconst K D65_123_19 0 rfl ?_
  refine G.aloadN K D65_123_20 rfl rfl ?_
  refine G.iconst K D65_123_21 0 rfl ?_
  refine G.aloadN K D65_123_22 rfl rfl ?_
  refine G.alen K H476 (i := 1) rfl D65_123_23 (Int32.ofNat xs.length) (by rw [List.length_map]) ?_
  refine G.iloadN K D65_123_24 rfl ?_
  refine G.callS K hl (wd hw 62 rfl) (wd hw 33 rfl) (wd hw 34 rfl) (wd hw 35 rfl) (by decide) pd_0 (ct_min l Z a0 hw n0 _ (Int32.ofNat xs.length) (Int32.ofNat n)) 4 rfl (by decide) (by decide) (by decide) (by decide) rfl rfl [.int (Int32.ofNat n), .int (Int32.ofNat xs.length)] rfl D65_123_25 ?_
  rintro _ _ ⟨rfl, rfl⟩
  rw [if_pos ((own_nlt (by omega) (by omega)).mpr (by omega))]
  change G k n0 _ h476 _ _ 28 [.val (.ref b), .val (.int (Int32.ofNat n)), .val (.ref a475)] [.int (Int32.ofNat n), .int 0, .ref a475, .int 0, .ref b]
  refine G.acopy K (wd hw 63 rfl) (wd hw 66 rfl) (wd hw 64 rfl) (wd hw 65 rfl) H476 (i := 1) (i' := 0) rfl rfl rfl (all_int _) (by decide) (by decide) (own_nneg (by omega)) (by rw [own_nidx (by omega), List.length_map]; show 0 + n ≤ xs.length; omega) (by rw [own_nidx (by omega), List.length_map, List.length_replicate]; show 0 + n ≤ n; omega) rfl 0 rfl (by decide) (by decide) D65_123_28 ?_
  intro h477 H477
  rw [cpy_map, own_nidx (by omega), show (0 : Int32).toNatClampNeg = 0 from rfl, cpy_take _ (by omega)] at H477
  change Hp n0 h477 ((a475, Ia Z (xs.take n)) :: (b, Ia Z xs) :: σ) at H477
  refine G.aloadN K D65_123_31 rfl rfl ?_
  refine G.ret_ref K rfl rfl D65_123_32 ?_
  exact ⟨_, rfl, H477⟩
theorem D99_1_0 : Dc prog_99_method_1_code 0 (.aload_n 0) 1 1 := dc (by decide +kernel) rfl
theorem D99_1_1 : Dc prog_99_method_1_code 1 (.invokespecial 1) 3 4 := dc (by decide +kernel) rfl
theorem D99_1_4 : Dc prog_99_method_1_code 4 (.aload_n 0) 1 5 := dc (by decide +kernel) rfl
theorem D99_1_5 : Dc prog_99_method_1_code 5 (.aload 5) 2 7 := dc (by decide +kernel) rfl
theorem D99_1_7 : Dc prog_99_method_1_code 7 (.invokevirtual 7) 3 10 := dc (by decide +kernel) rfl
theorem D99_1_10 : Dc prog_99_method_1_code 10 (.checkcast 8) 3 13 := dc (by decide +kernel) rfl
theorem D99_1_13 : Dc prog_99_method_1_code 13 (.putfield 13) 3 16 := dc (by decide +kernel) rfl
theorem D99_1_16 : Dc prog_99_method_1_code 16 (.aload_n 1) 1 17 := dc (by decide +kernel) rfl
theorem D99_1_17 : Dc prog_99_method_1_code 17 (.aload_n 2) 1 18 := dc (by decide +kernel) rfl
theorem D99_1_18 : Dc prog_99_method_1_code 18 (.aload_n 3) 1 19 := dc (by decide +kernel) rfl
theorem D99_1_19 : Dc prog_99_method_1_code 19 (.iload 4) 2 21 := dc (by decide +kernel) rfl
theorem D99_1_21 : Dc prog_99_method_1_code 21 (.invokestatic 18) 3 24 := dc (by decide +kernel) rfl
theorem D99_1_24 : Dc prog_99_method_1_code 24 (.astore 6) 2 26 := dc (by decide +kernel) rfl
theorem D99_1_26 : Dc prog_99_method_1_code 26 (.iload 4) 2 28 := dc (by decide +kernel) rfl
theorem D99_1_28 : Db prog_99_method_1_code 28 (.ifCond .ne) 31 35 := db (7) (by decide +kernel) rfl (by decide) (by decide)
theorem D99_1_31 : Dc prog_99_method_1_code 31 (.iconst (-1)) 1 32 := dc (by decide +kernel) rfl
theorem D99_1_32 : Db prog_99_method_1_code 32 (.goto) 35 44 := db (12) (by decide +kernel) rfl (by decide) (by decide)
theorem D99_1_35 : Dc prog_99_method_1_code 35 (.aload_n 1) 1 36 := dc (by decide +kernel) rfl
theorem D99_1_36 : Dc prog_99_method_1_code 36 (.aload 6) 2 38 := dc (by decide +kernel) rfl
theorem D99_1_38 : Dc prog_99_method_1_code 38 (.iload 4) 2 40 := dc (by decide +kernel) rfl
theorem D99_1_40 : Dc prog_99_method_1_code 40 (.iconst 1) 1 41 := dc (by decide +kernel) rfl
theorem D99_1_41 : Dc prog_99_method_1_code 41 (.isub) 1 42 := dc (by decide +kernel) rfl
theorem D99_1_42 : Dc prog_99_method_1_code 42 (.iaload) 1 43 := dc (by decide +kernel) rfl
theorem D99_1_43 : Dc prog_99_method_1_code 43 (.iaload) 1 44 := dc (by decide +kernel) rfl
theorem D99_1_44 : Dc prog_99_method_1_code 44 (.istore 7) 2 46 := dc (by decide +kernel) rfl
theorem D99_1_46 : Dc prog_99_method_1_code 46 (.iload 7) 2 48 := dc (by decide +kernel) rfl
theorem D99_1_48 : Dc prog_99_method_1_code 48 (.iconst 2) 1 49 := dc (by decide +kernel) rfl
theorem D99_1_49 : Dc prog_99_method_1_code 49 (.iadd) 1 50 := dc (by decide +kernel) rfl
theorem D99_1_50 : Dc prog_99_method_1_code 50 (.newarray .int) 2 52 := dc (by decide +kernel) rfl
theorem D99_1_52 : Dc prog_99_method_1_code 52 (.astore 8) 2 54 := dc (by decide +kernel) rfl
theorem D99_1_54 : Dc prog_99_method_1_code 54 (.iconst 2) 1 55 := dc (by decide +kernel) rfl
theorem D99_1_55 : Dc prog_99_method_1_code 55 (.iload 4) 2 57 := dc (by decide +kernel) rfl
theorem D99_1_57 : Dc prog_99_method_1_code 57 (.imul) 1 58 := dc (by decide +kernel) rfl
theorem D99_1_58 : Dc prog_99_method_1_code 58 (.newarray .int) 2 60 := dc (by decide +kernel) rfl
theorem D99_1_60 : Dc prog_99_method_1_code 60 (.astore 9) 2 62 := dc (by decide +kernel) rfl
theorem D99_1_62 : Dc prog_99_method_1_code 62 (.iconst 0) 1 63 := dc (by decide +kernel) rfl
theorem D99_1_63 : Dc prog_99_method_1_code 63 (.istore 10) 2 65 := dc (by decide +kernel) rfl
theorem D99_1_65 : Dc prog_99_method_1_code 65 (.iconst 0) 1 66 := dc (by decide +kernel) rfl
theorem D99_1_66 : Dc prog_99_method_1_code 66 (.istore 11) 2 68 := dc (by decide +kernel) rfl
theorem D99_1_68 : Dc prog_99_method_1_code 68 (.iload 11) 2 70 := dc (by decide +kernel) rfl
theorem D99_1_70 : Dc prog_99_method_1_code 70 (.iload 4) 2 72 := dc (by decide +kernel) rfl
theorem D99_1_72 : Db prog_99_method_1_code 72 (.if_icmp .ge) 75 184 := db (112) (by decide +kernel) rfl (by decide) (by decide)
theorem D99_1_75 : Dc prog_99_method_1_code 75 (.aload 6) 2 77 := dc (by decide +kernel) rfl
theorem D99_1_77 : Dc prog_99_method_1_code 77 (.iload 11) 2 79 := dc (by decide +kernel) rfl
theorem D99_1_79 : Dc prog_99_method_1_code 79 (.iaload) 1 80 := dc (by decide +kernel) rfl
theorem D99_1_80 : Dc prog_99_method_1_code 80 (.istore 12) 2 82 := dc (by decide +kernel) rfl
theorem D99_1_82 : Dc prog_99_method_1_code 82 (.iload 10) 2 84 := dc (by decide +kernel) rfl
theorem D99_1_84 : Db prog_99_method_1_code 84 (.ifCond .le) 87 138 := db (54) (by decide +kernel) rfl (by decide) (by decide)
theorem D99_1_87 : Dc prog_99_method_1_code 87 (.aload_n 1) 1 88 := dc (by decide +kernel) rfl
theorem D99_1_88 : Dc prog_99_method_1_code 88 (.iload 12) 2 90 := dc (by decide +kernel) rfl
theorem D99_1_90 : Dc prog_99_method_1_code 90 (.iaload) 1 91 := dc (by decide +kernel) rfl
theorem D99_1_91 : Dc prog_99_method_1_code 91 (.aload_n 1) 1 92 := dc (by decide +kernel) rfl
theorem D99_1_92 : Dc prog_99_method_1_code 92 (.aload 6) 2 94 := dc (by decide +kernel) rfl
theorem D99_1_94 : Dc prog_99_method_1_code 94 (.iload 11) 2 96 := dc (by decide +kernel) rfl
theorem D99_1_96 : Dc prog_99_method_1_code 96 (.iconst 1) 1 97 := dc (by decide +kernel) rfl
theorem D99_1_97 : Dc prog_99_method_1_code 97 (.isub) 1 98 := dc (by decide +kernel) rfl
theorem D99_1_98 : Dc prog_99_method_1_code 98 (.iaload) 1 99 := dc (by decide +kernel) rfl
theorem D99_1_99 : Dc prog_99_method_1_code 99 (.iaload) 1 100 := dc (by decide +kernel) rfl
theorem D99_1_100 : Db prog_99_method_1_code 100 (.if_icmp .ne) 103 138 := db (38) (by decide +kernel) rfl (by decide) (by decide)
theorem D99_1_103 : Dc prog_99_method_1_code 103 (.aload_n 2) 1 104 := dc (by decide +kernel) rfl
theorem D99_1_104 : Dc prog_99_method_1_code 104 (.iload 12) 2 106 := dc (by decide +kernel) rfl
theorem D99_1_106 : Dc prog_99_method_1_code 106 (.iaload) 1 107 := dc (by decide +kernel) rfl
theorem D99_1_107 : Dc prog_99_method_1_code 107 (.aload 9) 2 109 := dc (by decide +kernel) rfl
theorem D99_1_109 : Dc prog_99_method_1_code 109 (.iconst 2) 1 110 := dc (by decide +kernel) rfl
theorem D99_1_110 : Dc prog_99_method_1_code 110 (.iload 10) 2 112 := dc (by decide +kernel) rfl
theorem D99_1_112 : Dc prog_99_method_1_code 112 (.imul) 1 113 := dc (by decide +kernel) rfl
theorem D99_1_113 : Dc prog_99_method_1_code 113 (.iconst 2) 1 114 := dc (by decide +kernel) rfl
theorem D99_1_114 : Dc prog_99_method_1_code 114 (.isub) 1 115 := dc (by decide +kernel) rfl
theorem D99_1_115 : Dc prog_99_method_1_code 115 (.iaload) 1 116 := dc (by decide +kernel) rfl
theorem D99_1_116 : Db prog_99_method_1_code 116 (.if_icmp .ne) 119 138 := db (22) (by decide +kernel) rfl (by decide) (by decide)
theorem D99_1_119 : Dc prog_99_method_1_code 119 (.aload_n 3) 1 120 := dc (by decide +kernel) rfl
theorem D99_1_120 : Dc prog_99_method_1_code 120 (.iload 12) 2 122 := dc (by decide +kernel) rfl
theorem D99_1_122 : Dc prog_99_method_1_code 122 (.iaload) 1 123 := dc (by decide +kernel) rfl
theorem D99_1_123 : Dc prog_99_method_1_code 123 (.aload 9) 2 125 := dc (by decide +kernel) rfl
theorem D99_1_125 : Dc prog_99_method_1_code 125 (.iconst 2) 1 126 := dc (by decide +kernel) rfl
theorem D99_1_126 : Dc prog_99_method_1_code 126 (.iload 10) 2 128 := dc (by decide +kernel) rfl
theorem D99_1_128 : Dc prog_99_method_1_code 128 (.imul) 1 129 := dc (by decide +kernel) rfl
theorem D99_1_129 : Dc prog_99_method_1_code 129 (.iconst 1) 1 130 := dc (by decide +kernel) rfl
theorem D99_1_130 : Dc prog_99_method_1_code 130 (.isub) 1 131 := dc (by decide +kernel) rfl
theorem D99_1_131 : Dc prog_99_method_1_code 131 (.iaload) 1 132 := dc (by decide +kernel) rfl
theorem D99_1_132 : Db prog_99_method_1_code 132 (.if_icmp .ne) 135 138 := db (6) (by decide +kernel) rfl (by decide) (by decide)
theorem D99_1_135 : Db prog_99_method_1_code 135 (.goto) 138 178 := db (43) (by decide +kernel) rfl (by decide) (by decide)
theorem D99_1_138 : Dc prog_99_method_1_code 138 (.aload 8) 2 140 := dc (by decide +kernel) rfl
theorem D99_1_140 : Dc prog_99_method_1_code 140 (.aload_n 1) 1 141 := dc (by decide +kernel) rfl
theorem D99_1_141 : Dc prog_99_method_1_code 141 (.iload 12) 2 143 := dc (by decide +kernel) rfl
theorem D99_1_143 : Dc prog_99_method_1_code 143 (.iaload) 1 144 := dc (by decide +kernel) rfl
theorem D99_1_144 : Dc prog_99_method_1_code 144 (.iconst 1) 1 145 := dc (by decide +kernel) rfl
theorem D99_1_145 : Dc prog_99_method_1_code 145 (.iadd) 1 146 := dc (by decide +kernel) rfl
theorem D99_1_146 : Dc prog_99_method_1_code 146 (.dup2) 1 147 := dc (by decide +kernel) rfl
theorem D99_1_147 : Dc prog_99_method_1_code 147 (.iaload) 1 148 := dc (by decide +kernel) rfl
theorem D99_1_148 : Dc prog_99_method_1_code 148 (.iconst 1) 1 149 := dc (by decide +kernel) rfl
theorem D99_1_149 : Dc prog_99_method_1_code 149 (.iadd) 1 150 := dc (by decide +kernel) rfl
theorem D99_1_150 : Dc prog_99_method_1_code 150 (.iastore) 1 151 := dc (by decide +kernel) rfl
theorem D99_1_151 : Dc prog_99_method_1_code 151 (.aload 9) 2 153 := dc (by decide +kernel) rfl
theorem D99_1_153 : Dc prog_99_method_1_code 153 (.iconst 2) 1 154 := dc (by decide +kernel) rfl
theorem D99_1_154 : Dc prog_99_method_1_code 154 (.iload 10) 2 156 := dc (by decide +kernel) rfl
theorem D99_1_156 : Dc prog_99_method_1_code 156 (.imul) 1 157 := dc (by decide +kernel) rfl
theorem D99_1_157 : Dc prog_99_method_1_code 157 (.aload_n 2) 1 158 := dc (by decide +kernel) rfl
theorem D99_1_158 : Dc prog_99_method_1_code 158 (.iload 12) 2 160 := dc (by decide +kernel) rfl
theorem D99_1_160 : Dc prog_99_method_1_code 160 (.iaload) 1 161 := dc (by decide +kernel) rfl
theorem D99_1_161 : Dc prog_99_method_1_code 161 (.iastore) 1 162 := dc (by decide +kernel) rfl
theorem D99_1_162 : Dc prog_99_method_1_code 162 (.aload 9) 2 164 := dc (by decide +kernel) rfl
theorem D99_1_164 : Dc prog_99_method_1_code 164 (.iconst 2) 1 165 := dc (by decide +kernel) rfl
theorem D99_1_165 : Dc prog_99_method_1_code 165 (.iload 10) 2 167 := dc (by decide +kernel) rfl
theorem D99_1_167 : Dc prog_99_method_1_code 167 (.imul) 1 168 := dc (by decide +kernel) rfl
theorem D99_1_168 : Dc prog_99_method_1_code 168 (.iconst 1) 1 169 := dc (by decide +kernel) rfl
theorem D99_1_169 : Dc prog_99_method_1_code 169 (.iadd) 1 170 := dc (by decide +kernel) rfl
theorem D99_1_170 : Dc prog_99_method_1_code 170 (.aload_n 3) 1 171 := dc (by decide +kernel) rfl
theorem D99_1_171 : Dc prog_99_method_1_code 171 (.iload 12) 2 173 := dc (by decide +kernel) rfl
theorem D99_1_173 : Dc prog_99_method_1_code 173 (.iaload) 1 174 := dc (by decide +kernel) rfl
theorem D99_1_174 : Dc prog_99_method_1_code 174 (.iastore) 1 175 := dc (by decide +kernel) rfl
theorem D99_1_175 : Dc prog_99_method_1_code 175 (.iinc 10 1) 3 178 := dc (by decide +kernel) rfl
theorem D99_1_178 : Dc prog_99_method_1_code 178 (.iinc 11 1) 3 181 := dc (by decide +kernel) rfl
theorem D99_1_181 : Db prog_99_method_1_code 181 (.goto) 184 68 := db (-113) (by decide +kernel) rfl (by decide) (by decide)
theorem D99_1_184 : Dc prog_99_method_1_code 184 (.iconst 1) 1 185 := dc (by decide +kernel) rfl
theorem D99_1_185 : Dc prog_99_method_1_code 185 (.istore 11) 2 187 := dc (by decide +kernel) rfl
theorem D99_1_187 : Dc prog_99_method_1_code 187 (.iload 11) 2 189 := dc (by decide +kernel) rfl
theorem D99_1_189 : Dc prog_99_method_1_code 189 (.aload 8) 2 191 := dc (by decide +kernel) rfl
theorem D99_1_191 : Dc prog_99_method_1_code 191 (.arraylength) 1 192 := dc (by decide +kernel) rfl
theorem D99_1_192 : Db prog_99_method_1_code 192 (.if_icmp .ge) 195 216 := db (24) (by decide +kernel) rfl (by decide) (by decide)
theorem D99_1_195 : Dc prog_99_method_1_code 195 (.aload 8) 2 197 := dc (by decide +kernel) rfl
theorem D99_1_197 : Dc prog_99_method_1_code 197 (.iload 11) 2 199 := dc (by decide +kernel) rfl
theorem D99_1_199 : Dc prog_99_method_1_code 199 (.dup2) 1 200 := dc (by decide +kernel) rfl
theorem D99_1_200 : Dc prog_99_method_1_code 200 (.iaload) 1 201 := dc (by decide +kernel) rfl
theorem D99_1_201 : Dc prog_99_method_1_code 201 (.aload 8) 2 203 := dc (by decide +kernel) rfl
theorem D99_1_203 : Dc prog_99_method_1_code 203 (.iload 11) 2 205 := dc (by decide +kernel) rfl
theorem D99_1_205 : Dc prog_99_method_1_code 205 (.iconst 1) 1 206 := dc (by decide +kernel) rfl
theorem D99_1_206 : Dc prog_99_method_1_code 206 (.isub) 1 207 := dc (by decide +kernel) rfl
theorem D99_1_207 : Dc prog_99_method_1_code 207 (.iaload) 1 208 := dc (by decide +kernel) rfl
theorem D99_1_208 : Dc prog_99_method_1_code 208 (.iadd) 1 209 := dc (by decide +kernel) rfl
theorem D99_1_209 : Dc prog_99_method_1_code 209 (.iastore) 1 210 := dc (by decide +kernel) rfl
theorem D99_1_210 : Dc prog_99_method_1_code 210 (.iinc 11 1) 3 213 := dc (by decide +kernel) rfl
theorem D99_1_213 : Db prog_99_method_1_code 213 (.goto) 216 187 := db (-26) (by decide +kernel) rfl (by decide) (by decide)
theorem D99_1_216 : Dc prog_99_method_1_code 216 (.aload_n 0) 1 217 := dc (by decide +kernel) rfl
theorem D99_1_217 : Dc prog_99_method_1_code 217 (.aload 8) 2 219 := dc (by decide +kernel) rfl
theorem D99_1_219 : Dc prog_99_method_1_code 219 (.putfield 22) 3 222 := dc (by decide +kernel) rfl
theorem D99_1_222 : Dc prog_99_method_1_code 222 (.aload_n 0) 1 223 := dc (by decide +kernel) rfl
theorem D99_1_223 : Dc prog_99_method_1_code 223 (.iload 10) 2 225 := dc (by decide +kernel) rfl
theorem D99_1_225 : Dc prog_99_method_1_code 225 (.iload 4) 2 227 := dc (by decide +kernel) rfl
theorem D99_1_227 : Db prog_99_method_1_code 227 (.if_icmp .ne) 230 235 := db (8) (by decide +kernel) rfl (by decide) (by decide)
theorem D99_1_230 : Dc prog_99_method_1_code 230 (.aload 9) 2 232 := dc (by decide +kernel) rfl
theorem D99_1_232 : Db prog_99_method_1_code 232 (.goto) 235 244 := db (12) (by decide +kernel) rfl (by decide) (by decide)
theorem D99_1_235 : Dc prog_99_method_1_code 235 (.aload 9) 2 237 := dc (by decide +kernel) rfl
theorem D99_1_237 : Dc prog_99_method_1_code 237 (.iconst 2) 1 238 := dc (by decide +kernel) rfl
theorem D99_1_238 : Dc prog_99_method_1_code 238 (.iload 10) 2 240 := dc (by decide +kernel) rfl
theorem D99_1_240 : Dc prog_99_method_1_code 240 (.imul) 1 241 := dc (by decide +kernel) rfl
theorem D99_1_241 : Dc prog_99_method_1_code 241 (.invokestatic 25) 3 244 := dc (by decide +kernel) rfl
theorem D99_1_244 : Dc prog_99_method_1_code 244 (.putfield 31) 3 247 := dc (by decide +kernel) rfl
theorem D99_1_247 : Dc prog_99_method_1_code 247 (.return_) 1 248 := dc (by decide +kernel) rfl
set_option maxRecDepth 65536 in
set_option maxHeartbeats 40000000 in
theorem ct_ctor0 (l : Launch) (Z : State) (a0 : Array Value) (hw : ∀ d ∈ tables_1, d.before a0 Z = true) (n0 : Nat) (h : Heap) (a ca : Addr) (fa sa ta : Addr) (ke : Nat → Nat) (σ : List Ch) (hK : ∀ i, ke i < 256) (H : Hp n0 h ((a, Ob Z "com/example/rankwise/rankwise/store/TripleIndex" NST [.null, .null, .null]) :: (fa, Ia Z (lst 4 (fun _ => 0))) :: (sa, Ia Z (lst 4 (sF ke))) :: (ta, Ia Z (lst 4 (tF ke))) :: (ca, Xa Z [0, 1, 2]) :: σ)) :
    Ct l Z n0 (⟨"com/example/rankwise/rankwise/store/TripleIndex", "<init>", "([I[I[II[I)V"⟩ : MethodName) prog_99_method_1_code 13 none ({ frames := 3, cells := 8, slots := 40, locals := 60 } : Room) [.ref a, .ref fa, .ref sa, .ref ta, .int 0, .ref ca] h (fun v h' => ∃ (b1 b2 b3 : Addr) (L : Nat) (zf : Nat → Nat), v = none ∧ DD ke zf L (fun f => D0 f) ∧ Hp n0 h' ((a, Ob Z "com/example/rankwise/rankwise/store/TripleIndex" NST [.ref b1, .ref b2, .ref b3]) :: (b3, Ia Z (lst (2 * L) (cF ke zf))) :: (fa, Ia Z (lst 4 (fun _ => 0))) :: (sa, Ia Z (lst 4 (sF ke))) :: (ta, Ia Z (lst 4 (tF ke))) :: σ)) := by
  refine Ct.intro (plainFor_of_name pn_0) [.val (.ref a), .val (.ref fa), .val (.ref sa), .val (.ref ta), .val (.int 0), .val (.ref ca), .unset, .unset, .unset, .unset, .unset, .unset, .unset] (fun m => by first | (simp [entryFrame, mkF, argsToLocals, Value.category]; done) | (simp [entryFrame, mkF, argsToLocals, Value.category, maxLocals]; done) | rfl) ?_
  intro k hl K
  replace K : Ok k Z n0 "com/example/rankwise/rankwise/store/TripleIndex" ({ frames := 3, cells := 8, slots := 40, locals := 60 } : Room) prog_99_method_1_code 13 none "<init>" := K
  refine G.aloadN K D99_1_0 rfl rfl ?_
  refine G.initO K (wd hw 7 rfl) (wd hw 8 rfl) (wd hw 9 rfl) rfl 0 rfl (by decide) (by decide) D99_1_1 ?_
  refine G.aloadN K D99_1_4 rfl rfl ?_
  refine G.aload K D99_1_5 rfl rfl ?_
  refine G.clone_x K (wd hw 10 rfl) (wd hw 11 rfl) (wd hw 15 rfl) (wd hw 13 rfl) (wd hw 14 rfl) (wd hw 16 rfl) H (i := 4) rfl 3 (by decide) rfl 1 rfl (by decide) (by decide) (by decide) (by decide) D99_1_7 ?_
  intro a478 h479 H479
  change Hp n0 h479 ((a478, Xa Z [0, 1, 2]) :: (a, Ob Z "com/example/rankwise/rankwise/store/TripleIndex" NST [.null, .null, .null]) :: (fa, Ia Z (lst 4 (fun _ => 0))) :: (sa, Ia Z (lst 4 (sF ke))) :: (ta, Ia Z (lst 4 (tF ke))) :: (ca, Xa Z [0, 1, 2]) :: σ) at H479
  refine G.cast_x K (wd hw 17 rfl) (wd hw 18 rfl) H479 (i := 0) rfl D99_1_10 ?_
  refine G.putF K (host := "") (Or.inl (wd hw 19 rfl)) (cf_NST hw) (Or.inr ⟨(wd hw 20 rfl), rfl, rfl⟩) (wd hw 2 rfl) H479 (i := 1) rfl (j := 0) rfl rfl (ty := (.array .int)) (by decide) rfl rfl D99_1_13 ?_
  intro h480 H480
  change Hp n0 h480 ((a478, Xa Z [0, 1, 2]) :: (a, Ob Z "com/example/rankwise/rankwise/store/TripleIndex" NST [.ref a478, .null, .null]) :: (fa, Ia Z (lst 4 (fun _ => 0))) :: (sa, Ia Z (lst 4 (sF ke))) :: (ta, Ia Z (lst 4 (tF ke))) :: (ca, Xa Z [0, 1, 2]) :: σ) at H480
  refine G.aloadN K D99_1_16 rfl rfl ?_
  refine G.aloadN K D99_1_17 rfl rfl ?_
  refine G.aloadN K D99_1_18 rfl rfl ?_
  refine G.iload K D99_1_19 rfl ?_
  have H481 : Hp n0 h480 ((ta, Ia Z (lst 4 (tF ke))) :: (a478, Xa Z [0, 1, 2]) :: (a, Ob Z "com/example/rankwise/rankwise/store/TripleIndex" NST [.ref a478, .null, .null]) :: (fa, Ia Z (lst 4 (fun _ => 0))) :: (sa, Ia Z (lst 4 (sF ke))) :: (ca, Xa Z [0, 1, 2]) :: σ) := H480.pull 4 rfl
  have H482 : Hp n0 h480 ((sa, Ia Z (lst 4 (sF ke))) :: (ta, Ia Z (lst 4 (tF ke))) :: (a478, Xa Z [0, 1, 2]) :: (a, Ob Z "com/example/rankwise/rankwise/store/TripleIndex" NST [.ref a478, .null, .null]) :: (fa, Ia Z (lst 4 (fun _ => 0))) :: (ca, Xa Z [0, 1, 2]) :: σ) := H481.pull 4 rfl
  have H483 : Hp n0 h480 ((fa, Ia Z (lst 4 (fun _ => 0))) :: (sa, Ia Z (lst 4 (sF ke))) :: (ta, Ia Z (lst 4 (tF ke))) :: (a478, Xa Z [0, 1, 2]) :: (a, Ob Z "com/example/rankwise/rankwise/store/TripleIndex" NST [.ref a478, .null, .null]) :: (ca, Xa Z [0, 1, 2]) :: σ) := H482.pull 4 rfl
  refine G.callS K hl (wd hw 21 rfl) (wd hw 22 rfl) (wd hw 3 rfl) (wd hw 23 rfl) (by decide) pd_2 (ct_sort0 l Z a0 hw n0 h480 fa sa ta ke ((a478, Xa Z [0, 1, 2]) :: (a, Ob Z "com/example/rankwise/rankwise/store/TripleIndex" NST [.ref a478, .null, .null]) :: (ca, Xa Z [0, 1, 2]) :: σ) hK H483) 0 rfl (by decide) (by decide) (by decide) (by decide) rfl rfl [.int 0, .ref ta, .ref sa, .ref fa] rfl D99_1_21 ?_
  rintro _ h484 ⟨b484, rfl, H484⟩
  change G k n0 _ h484 _ _ 24 [.val (.ref a), .val (.ref fa), .val (.ref sa), .val (.ref ta), .val (.int 0), .val (.ref ca), .unset, .unset, .unset, .unset, .unset, .unset, .unset] [.ref b484]
  refine G.astore K D99_1_24 rfl ([.val (.ref a), .val (.ref fa), .val (.ref sa), .val (.ref ta), .val (.int 0), .val (.ref ca), .val (.ref b484), .unset, .unset, .unset, .unset, .unset, .unset]) rfl ?_
  refine G.iload K D99_1_26 rfl ?_
  refine G.if_ne K D99_1_28 (fun q => absurd q (by decide)) (fun _ => ?_)
  refine G.iconst K D99_1_31 (-1) rfl ?_
  refine G.goto K D99_1_32 ?_
  refine G.istore K D99_1_44 ([.val (.ref a), .val (.ref fa), .val (.ref sa), .val (.ref ta), .val (.int 0), .val (.ref ca), .val (.ref b484), .val (.int (-1)), .unset, .unset, .unset, .unset, .unset]) rfl ?_
  refine G.iload K D99_1_46 rfl ?_
  refine G.iconst K D99_1_48 2 rfl ?_
  refine G.iadd K D99_1_49 ?_
  change G k n0 _ h484 _ _ 50 [.val (.ref a), .val (.ref fa), .val (.ref sa), .val (.ref ta), .val (.int 0), .val (.ref ca), .val (.ref b484), .val (.int (-1)), .unset, .unset, .unset, .unset, .unset] [.int 1]
  refine G.newarr_i K (wd hw 0 rfl) H484 (by decide) 1 (by decide) (by decide) (by decide) (by decide) D99_1_50 ?_
  intro a486 h487 H487
  change Hp n0 h487 ((a486, Ia Z [0]) :: (b484, Ia Z []) :: (fa, Ia Z (lst 4 (fun _ => 0))) :: (sa, Ia Z (lst 4 (sF ke))) :: (ta, Ia Z (lst 4 (tF ke))) :: (a478, Xa Z [0, 1, 2]) :: (a, Ob Z "com/example/rankwise/rankwise/store/TripleIndex" NST [.ref a478, .null, .null]) :: (ca, Xa Z [0, 1, 2]) :: σ) at H487
  refine G.astore K D99_1_52 rfl ([.val (.ref a), .val (.ref fa), .val (.ref sa), .val (.ref ta), .val (.int 0), .val (.ref ca), .val (.ref b484), .val (.int (-1)), .val (.ref a486), .unset, .unset, .unset, .unset]) rfl ?_
  refine G.iconst K D99_1_54 2 rfl ?_
  refine G.iload K D99_1_55 rfl ?_
  refine G.imul K D99_1_57 ?_
  change G k n0 _ h487 _ _ 58 [.val (.ref a), .val (.ref fa), .val (.ref sa), .val (.ref ta), .val (.int 0), .val (.ref ca), .val (.ref b484), .val (.int (-1)), .val (.ref a486), .unset, .unset, .unset, .unset] [.int 0]
  refine G.newarr_i K (wd hw 0 rfl) H487 (by decide) 0 (by decide) (by decide) (by decide) (by decide) D99_1_58 ?_
  intro a488 h489 H489
  change Hp n0 h489 ((a488, Ia Z []) :: (a486, Ia Z [0]) :: (b484, Ia Z []) :: (fa, Ia Z (lst 4 (fun _ => 0))) :: (sa, Ia Z (lst 4 (sF ke))) :: (ta, Ia Z (lst 4 (tF ke))) :: (a478, Xa Z [0, 1, 2]) :: (a, Ob Z "com/example/rankwise/rankwise/store/TripleIndex" NST [.ref a478, .null, .null]) :: (ca, Xa Z [0, 1, 2]) :: σ) at H489
  refine G.astore K D99_1_60 rfl ([.val (.ref a), .val (.ref fa), .val (.ref sa), .val (.ref ta), .val (.int 0), .val (.ref ca), .val (.ref b484), .val (.int (-1)), .val (.ref a486), .val (.ref a488), .unset, .unset, .unset]) rfl ?_
  refine G.iconst K D99_1_62 0 rfl ?_
  refine G.istore K D99_1_63 ([.val (.ref a), .val (.ref fa), .val (.ref sa), .val (.ref ta), .val (.int 0), .val (.ref ca), .val (.ref b484), .val (.int (-1)), .val (.ref a486), .val (.ref a488), .val (.int 0), .unset, .unset]) rfl ?_
  refine G.iconst K D99_1_65 0 rfl ?_
  refine G.istore K D99_1_66 ([.val (.ref a), .val (.ref fa), .val (.ref sa), .val (.ref ta), .val (.int 0), .val (.ref ca), .val (.ref b484), .val (.int (-1)), .val (.ref a486), .val (.ref a488), .val (.int 0), .val (.int 0), .unset]) rfl ?_
  refine G.iload K D99_1_68 rfl ?_
  refine G.iload K D99_1_70 rfl ?_
  refine G.icmp_ge K D99_1_72 (fun _ => ?_) (fun q => absurd q (by decide))
  refine G.iconst K D99_1_184 1 rfl ?_
  refine G.istore K D99_1_185 ([.val (.ref a), .val (.ref fa), .val (.ref sa), .val (.ref ta), .val (.int 0), .val (.ref ca), .val (.ref b484), .val (.int (-1)), .val (.ref a486), .val (.ref a488), .val (.int 0), .val (.int 1), .unset]) rfl ?_
  refine G.iload K D99_1_187 rfl ?_
  refine G.aload K D99_1_189 rfl rfl ?_
  refine G.alen K H489 (i := 1) rfl D99_1_191 1 rfl ?_
  refine G.icmp_ge K D99_1_192 (fun _ => ?_) (fun q => absurd q (by decide))
  refine G.aloadN K D99_1_216 rfl rfl ?_
  refine G.aload K D99_1_217 rfl rfl ?_
  refine G.putF K (host := "") (Or.inl (wd hw 24 rfl)) (cf_NST hw) (Or.inr ⟨(wd hw 25 rfl), rfl, rfl⟩) (wd hw 2 rfl) H489 (i := 7) rfl (j := 1) rfl rfl (ty := (.array .int)) (by decide) rfl rfl D99_1_219 ?_
  intro h492 H492
  change Hp n0 h492 ((a488, Ia Z []) :: (a486, Ia Z [0]) :: (b484, Ia Z []) :: (fa, Ia Z (lst 4 (fun _ => 0))) :: (sa, Ia Z (lst 4 (sF ke))) :: (ta, Ia Z (lst 4 (tF ke))) :: (a478, Xa Z [0, 1, 2]) :: (a, Ob Z "com/example/rankwise/rankwise/store/TripleIndex" NST [.ref a478, .ref a486, .null]) :: (ca, Xa Z [0, 1, 2]) :: σ) at H492
  refine G.aloadN K D99_1_222 rfl rfl ?_
  refine G.iload K D99_1_223 rfl ?_
  refine G.iload K D99_1_225 rfl ?_
  refine G.icmp_ne K D99_1_227 (fun q => absurd q (by decide)) (fun _ => ?_)
  refine G.aload K D99_1_230 rfl rfl ?_
  refine G.goto K D99_1_232 ?_
  refine G.putF K (host := "") (Or.inl (wd hw 26 rfl)) (cf_NST hw) (Or.inr ⟨(wd hw 27 rfl), rfl, rfl⟩) (wd hw 2 rfl) H492 (i := 7) rfl (j := 2) rfl rfl (ty := (.array .int)) (by decide) rfl rfl D99_1_244 ?_
  intro h494 H494
  change Hp n0 h494 ((a488, Ia Z []) :: (a486, Ia Z [0]) :: (b484, Ia Z []) :: (fa, Ia Z (lst 4 (fun _ => 0))) :: (sa, Ia Z (lst 4 (sF ke))) :: (ta, Ia Z (lst 4 (tF ke))) :: (a478, Xa Z [0, 1, 2]) :: (a, Ob Z "com/example/rankwise/rankwise/store/TripleIndex" NST [.ref a478, .ref a486, .ref a488]) :: (ca, Xa Z [0, 1, 2]) :: σ) at H494
  refine G.ret_void K D99_1_247 ?_
  have H495 : Hp n0 h494 ((ta, Ia Z (lst 4 (tF ke))) :: (a488, Ia Z []) :: (a486, Ia Z [0]) :: (b484, Ia Z []) :: (fa, Ia Z (lst 4 (fun _ => 0))) :: (sa, Ia Z (lst 4 (sF ke))) :: (a478, Xa Z [0, 1, 2]) :: (a, Ob Z "com/example/rankwise/rankwise/store/TripleIndex" NST [.ref a478, .ref a486, .ref a488]) :: (ca, Xa Z [0, 1, 2]) :: σ) := H494.pull 5 rfl
  have H496 : Hp n0 h494 ((sa, Ia Z (lst 4 (sF ke))) :: (ta, Ia Z (lst 4 (tF ke))) :: (a488, Ia Z []) :: (a486, Ia Z [0]) :: (b484, Ia Z []) :: (fa, Ia Z (lst 4 (fun _ => 0))) :: (a478, Xa Z [0, 1, 2]) :: (a, Ob Z "com/example/rankwise/rankwise/store/TripleIndex" NST [.ref a478, .ref a486, .ref a488]) :: (ca, Xa Z [0, 1, 2]) :: σ) := H495.pull 5 rfl
  have H497 : Hp n0 h494 ((fa, Ia Z (lst 4 (fun _ => 0))) :: (sa, Ia Z (lst 4 (sF ke))) :: (ta, Ia Z (lst 4 (tF ke))) :: (a488, Ia Z []) :: (a486, Ia Z [0]) :: (b484, Ia Z []) :: (a478, Xa Z [0, 1, 2]) :: (a, Ob Z "com/example/rankwise/rankwise/store/TripleIndex" NST [.ref a478, .ref a486, .ref a488]) :: (ca, Xa Z [0, 1, 2]) :: σ) := H496.pull 5 rfl
  have H498 : Hp n0 h494 ((a488, Ia Z []) :: (fa, Ia Z (lst 4 (fun _ => 0))) :: (sa, Ia Z (lst 4 (sF ke))) :: (ta, Ia Z (lst 4 (tF ke))) :: (a486, Ia Z [0]) :: (b484, Ia Z []) :: (a478, Xa Z [0, 1, 2]) :: (a, Ob Z "com/example/rankwise/rankwise/store/TripleIndex" NST [.ref a478, .ref a486, .ref a488]) :: (ca, Xa Z [0, 1, 2]) :: σ) := H497.pull 3 rfl
  have H499 : Hp n0 h494 ((a, Ob Z "com/example/rankwise/rankwise/store/TripleIndex" NST [.ref a478, .ref a486, .ref a488]) :: (a488, Ia Z []) :: (fa, Ia Z (lst 4 (fun _ => 0))) :: (sa, Ia Z (lst 4 (sF ke))) :: (ta, Ia Z (lst 4 (tF ke))) :: (a486, Ia Z [0]) :: (b484, Ia Z []) :: (a478, Xa Z [0, 1, 2]) :: (ca, Xa Z [0, 1, 2]) :: σ) := H498.pull 7 rfl
  have H500 : Hp n0 h494 ((a, Ob Z "com/example/rankwise/rankwise/store/TripleIndex" NST [.ref a478, .ref a486, .ref a488]) :: (a488, Ia Z []) :: (fa, Ia Z (lst 4 (fun _ => 0))) :: (sa, Ia Z (lst 4 (sF ke))) :: (ta, Ia Z (lst 4 (tF ke))) :: σ) := H499.sub (List.Sublist.cons_cons _ (List.Sublist.cons_cons _ (List.Sublist.cons_cons _ (List.Sublist.cons_cons _ (List.Sublist.cons_cons _ (List.Sublist.cons _ (List.Sublist.cons _ (List.Sublist.cons _ (List.Sublist.cons _ (List.Sublist.refl _))))))))))
  refine ⟨_, _, _, 0, fun i => [].getD i 0, rfl, ⟨by decide, ?_, ?_⟩, H500⟩
  · intro i hi; omega
  · intro f; rfl
set_option maxRecDepth 65536 in
set_option maxHeartbeats 40000000 in
theorem ct_ctor1 (l : Launch) (Z : State) (a0 : Array Value) (hw : ∀ d ∈ tables_1, d.before a0 Z = true) (n0 : Nat) (h : Heap) (a ca : Addr) (fa sa ta : Addr) (ke : Nat → Nat) (σ : List Ch) (hK : ∀ i, ke i < 256) (H : Hp n0 h ((a, Ob Z "com/example/rankwise/rankwise/store/TripleIndex" NST [.null, .null, .null]) :: (fa, Ia Z (lst 4 (fun _ => 0))) :: (sa, Ia Z (lst 4 (sF ke))) :: (ta, Ia Z (lst 4 (tF ke))) :: (ca, Xa Z [0, 1, 2]) :: σ)) :
    Ct l Z n0 (⟨"com/example/rankwise/rankwise/store/TripleIndex", "<init>", "([I[I[II[I)V"⟩ : MethodName) prog_99_method_1_code 13 none ({ frames := 3, cells := 8, slots := 40, locals := 60 } : Room) [.ref a, .ref fa, .ref sa, .ref ta, .int 1, .ref ca] h (fun v h' => ∃ (b1 b2 b3 : Addr) (L : Nat) (zf : Nat → Nat), v = none ∧ DD ke zf L (fun f => D1 f (ke 0)) ∧ Hp n0 h' ((a, Ob Z "com/example/rankwise/rankwise/store/TripleIndex" NST [.ref b1, .ref b2, .ref b3]) :: (b3, Ia Z (lst (2 * L) (cF ke zf))) :: (fa, Ia Z (lst 4 (fun _ => 0))) :: (sa, Ia Z (lst 4 (sF ke))) :: (ta, Ia Z (lst 4 (tF ke))) :: σ)) := by
  refine Ct.intro (plainFor_of_name pn_0) [.val (.ref a), .val (.ref fa), .val (.ref sa), .val (.ref ta), .val (.int 1), .val (.ref ca), .unset, .unset, .unset, .unset, .unset, .unset, .unset] (fun m => by first | (simp [entryFrame, mkF, argsToLocals, Value.category]; done) | (simp [entryFrame, mkF, argsToLocals, Value.category, maxLocals]; done) | rfl) ?_
  intro k hl K
  replace K : Ok k Z n0 "com/example/rankwise/rankwise/store/TripleIndex" ({ frames := 3, cells := 8, slots := 40, locals := 60 } : Room) prog_99_method_1_code 13 none "<init>" := K
  refine G.aloadN K D99_1_0 rfl rfl ?_
  refine G.initO K (wd hw 7 rfl) (wd hw 8 rfl) (wd hw 9 rfl) rfl 0 rfl (by decide) (by decide) D99_1_1 ?_
  refine G.aloadN K D99_1_4 rfl rfl ?_
  refine G.aload K D99_1_5 rfl rfl ?_
  refine G.clone_x K (wd hw 10 rfl) (wd hw 11 rfl) (wd hw 15 rfl) (wd hw 13 rfl) (wd hw 14 rfl) (wd hw 16 rfl) H (i := 4) rfl 3 (by decide) rfl 1 rfl (by decide) (by decide) (by decide) (by decide) D99_1_7 ?_
  intro a501 h502 H502
  change Hp n0 h502 ((a501, Xa Z [0, 1, 2]) :: (a, Ob Z "com/example/rankwise/rankwise/store/TripleIndex" NST [.null, .null, .null]) :: (fa, Ia Z (lst 4 (fun _ => 0))) :: (sa, Ia Z (lst 4 (sF ke))) :: (ta, Ia Z (lst 4 (tF ke))) :: (ca, Xa Z [0, 1, 2]) :: σ) at H502
  refine G.cast_x K (wd hw 17 rfl) (wd hw 18 rfl) H502 (i := 0) rfl D99_1_10 ?_
  refine G.putF K (host := "") (Or.inl (wd hw 19 rfl)) (cf_NST hw) (Or.inr ⟨(wd hw 20 rfl), rfl, rfl⟩) (wd hw 2 rfl) H502 (i := 1) rfl (j := 0) rfl rfl (ty := (.array .int)) (by decide) rfl rfl D99_1_13 ?_
  intro h503 H503
  change Hp n0 h503 ((a501, Xa Z [0, 1, 2]) :: (a, Ob Z "com/example/rankwise/rankwise/store/TripleIndex" NST [.ref a501, .null, .null]) :: (fa, Ia Z (lst 4 (fun _ => 0))) :: (sa, Ia Z (lst 4 (sF ke))) :: (ta, Ia Z (lst 4 (tF ke))) :: (ca, Xa Z [0, 1, 2]) :: σ) at H503
  refine G.aloadN K D99_1_16 rfl rfl ?_
  refine G.aloadN K D99_1_17 rfl rfl ?_
  refine G.aloadN K D99_1_18 rfl rfl ?_
  refine G.iload K D99_1_19 rfl ?_
  have H504 : Hp n0 h503 ((ta, Ia Z (lst 4 (tF ke))) :: (a501, Xa Z [0, 1, 2]) :: (a, Ob Z "com/example/rankwise/rankwise/store/TripleIndex" NST [.ref a501, .null, .null]) :: (fa, Ia Z (lst 4 (fun _ => 0))) :: (sa, Ia Z (lst 4 (sF ke))) :: (ca, Xa Z [0, 1, 2]) :: σ) := H503.pull 4 rfl
  have H505 : Hp n0 h503 ((sa, Ia Z (lst 4 (sF ke))) :: (ta, Ia Z (lst 4 (tF ke))) :: (a501, Xa Z [0, 1, 2]) :: (a, Ob Z "com/example/rankwise/rankwise/store/TripleIndex" NST [.ref a501, .null, .null]) :: (fa, Ia Z (lst 4 (fun _ => 0))) :: (ca, Xa Z [0, 1, 2]) :: σ) := H504.pull 4 rfl
  have H506 : Hp n0 h503 ((fa, Ia Z (lst 4 (fun _ => 0))) :: (sa, Ia Z (lst 4 (sF ke))) :: (ta, Ia Z (lst 4 (tF ke))) :: (a501, Xa Z [0, 1, 2]) :: (a, Ob Z "com/example/rankwise/rankwise/store/TripleIndex" NST [.ref a501, .null, .null]) :: (ca, Xa Z [0, 1, 2]) :: σ) := H505.pull 4 rfl
  refine G.callS K hl (wd hw 21 rfl) (wd hw 22 rfl) (wd hw 3 rfl) (wd hw 23 rfl) (by decide) pd_2 (ct_sort1 l Z a0 hw n0 h503 fa sa ta ke ((a501, Xa Z [0, 1, 2]) :: (a, Ob Z "com/example/rankwise/rankwise/store/TripleIndex" NST [.ref a501, .null, .null]) :: (ca, Xa Z [0, 1, 2]) :: σ) hK H506) 0 rfl (by decide) (by decide) (by decide) (by decide) rfl rfl [.int 1, .ref ta, .ref sa, .ref fa] rfl D99_1_21 ?_
  rintro _ h507 ⟨b507, y0, rfl, f0, H507⟩
  change G k n0 _ h507 _ _ 24 [.val (.ref a), .val (.ref fa), .val (.ref sa), .val (.ref ta), .val (.int 1), .val (.ref ca), .unset, .unset, .unset, .unset, .unset, .unset, .unset] [.ref b507]
  refine G.astore K D99_1_24 rfl ([.val (.ref a), .val (.ref fa), .val (.ref sa), .val (.ref ta), .val (.int 1), .val (.ref ca), .val (.ref b507), .unset, .unset, .unset, .unset, .unset, .unset]) rfl ?_
  refine G.iload K D99_1_26 rfl ?_
  refine G.if_ne K D99_1_28 (fun _ => ?_) (fun q => absurd q (by decide))
  refine G.aloadN K D99_1_35 rfl rfl ?_
  refine G.aload K D99_1_36 rfl rfl ?_
  refine G.iload K D99_1_38 rfl ?_
  refine G.iconst K D99_1_40 1 rfl ?_
  refine G.isub K D99_1_41 ?_
  change G k n0 _ h507 _ _ 42 [.val (.ref a), .val (.ref fa), .val (.ref sa), .val (.ref ta), .val (.int 1), .val (.ref ca), .val (.ref b507), .unset, .unset, .unset, .unset, .unset, .unset] [.int 0, .ref b507, .ref fa]
  refine G.aload_i K H507 (i := 0) rfl (by decide) rfl D99_1_42 ?_
  refine G.aload_i K H507 (i := 1) rfl (own_nneg (by omega)) (by rw [own_nidx (by omega)]; exact lst_get _ (by omega)) D99_1_43 ?_
  refine G.istore K D99_1_44 ([.val (.ref a), .val (.ref fa), .val (.ref sa), .val (.ref ta), .val (.int 1), .val (.ref ca), .val (.ref b507), .val (.int 0), .unset, .unset, .unset, .unset, .unset]) rfl ?_
  refine G.iload K D99_1_46 rfl ?_
  refine G.iconst K D99_1_48 2 rfl ?_
  refine G.iadd K D99_1_49 ?_
  change G k n0 _ h507 _ _ 50 [.val (.ref a), .val (.ref fa), .val (.ref sa), .val (.ref ta), .val (.int 1), .val (.ref ca), .val (.ref b507), .val (.int 0), .unset, .unset, .unset, .unset, .unset] [.int 2]
  refine G.newarr_i K (wd hw 0 rfl) H507 (by decide) 2 (by decide) (by decide) (by decide) (by decide) D99_1_50 ?_
  intro a509 h510 H510
  change Hp n0 h510 ((a509, Ia Z [0, 0]) :: (b507, Ia Z [Int32.ofNat y0]) :: (fa, Ia Z (lst 4 (fun _ => 0))) :: (sa, Ia Z (lst 4 (sF ke))) :: (ta, Ia Z (lst 4 (tF ke))) :: (a501, Xa Z [0, 1, 2]) :: (a, Ob Z "com/example/rankwise/rankwise/store/TripleIndex" NST [.ref a501, .null, .null]) :: (ca, Xa Z [0, 1, 2]) :: σ) at H510
  refine G.astore K D99_1_52 rfl ([.val (.ref a), .val (.ref fa), .val (.ref sa), .val (.ref ta), .val (.int 1), .val (.ref ca), .val (.ref b507), .val (.int 0), .val (.ref a509), .unset, .unset, .unset, .unset]) rfl ?_
  refine G.iconst K D99_1_54 2 rfl ?_
  refine G.iload K D99_1_55 rfl ?_
  refine G.imul K D99_1_57 ?_
  change G k n0 _ h510 _ _ 58 [.val (.ref a), .val (.ref fa), .val (.ref sa), .val (.ref ta), .val (.int 1), .val (.ref ca), .val (.ref b507), .val (.int 0), .val (.ref a509), .unset, .unset, .unset, .unset] [.int 2]
  refine G.newarr_i K (wd hw 0 rfl) H510 (by decide) 2 (by decide) (by decide) (by decide) (by decide) D99_1_58 ?_
  intro a511 h512 H512
  change Hp n0 h512 ((a511, Ia Z [0, 0]) :: (a509, Ia Z [0, 0]) :: (b507, Ia Z [Int32.ofNat y0]) :: (fa, Ia Z (lst 4 (fun _ => 0))) :: (sa, Ia Z (lst 4 (sF ke))) :: (ta, Ia Z (lst 4 (tF ke))) :: (a501, Xa Z [0, 1, 2]) :: (a, Ob Z "com/example/rankwise/rankwise/store/TripleIndex" NST [.ref a501, .null, .null]) :: (ca, Xa Z [0, 1, 2]) :: σ) at H512
  refine G.astore K D99_1_60 rfl ([.val (.ref a), .val (.ref fa), .val (.ref sa), .val (.ref ta), .val (.int 1), .val (.ref ca), .val (.ref b507), .val (.int 0), .val (.ref a509), .val (.ref a511), .unset, .unset, .unset]) rfl ?_
  refine G.iconst K D99_1_62 0 rfl ?_
  refine G.istore K D99_1_63 ([.val (.ref a), .val (.ref fa), .val (.ref sa), .val (.ref ta), .val (.int 1), .val (.ref ca), .val (.ref b507), .val (.int 0), .val (.ref a509), .val (.ref a511), .val (.int 0), .unset, .unset]) rfl ?_
  refine G.iconst K D99_1_65 0 rfl ?_
  refine G.istore K D99_1_66 ([.val (.ref a), .val (.ref fa), .val (.ref sa), .val (.ref ta), .val (.int 1), .val (.ref ca), .val (.ref b507), .val (.int 0), .val (.ref a509), .val (.ref a511), .val (.int 0), .val (.int 0), .unset]) rfl ?_
  refine G.iload K D99_1_68 rfl ?_
  refine G.iload K D99_1_70 rfl ?_
  refine G.icmp_ge K D99_1_72 (fun q => absurd q (by decide)) (fun _ => ?_)
  refine G.aload K D99_1_75 rfl rfl ?_
  refine G.iload K D99_1_77 rfl ?_
  refine G.aload_i K H512 (i := 2) rfl (by decide) rfl D99_1_79 ?_
  refine G.istore K D99_1_80 ([.val (.ref a), .val (.ref fa), .val (.ref sa), .val (.ref ta), .val (.int 1), .val (.ref ca), .val (.ref b507), .val (.int 0), .val (.ref a509), .val (.ref a511), .val (.int 0), .val (.int 0), .val (.int (Int32.ofNat y0))]) rfl ?_
  refine G.iload K D99_1_82 rfl ?_
  refine G.if_le K D99_1_84 (fun _ => ?_) (fun q => absurd q (by decide))
  refine G.aload K D99_1_138 rfl rfl ?_
  refine G.aloadN K D99_1_140 rfl rfl ?_
  refine G.iload K D99_1_141 rfl ?_
  refine G.aload_i K H512 (i := 3) rfl (own_nneg (by omega)) (by rw [own_nidx (by omega)]; exact lst_get _ (by omega)) D99_1_143 ?_
  refine G.iconst K D99_1_144 1 rfl ?_
  refine G.iadd K D99_1_145 ?_
  change G k n0 _ h512 _ _ 146 [.val (.ref a), .val (.ref fa), .val (.ref sa), .val (.ref ta), .val (.int 1), .val (.ref ca), .val (.ref b507), .val (.int 0), .val (.ref a509), .val (.ref a511), .val (.int 0), .val (.int 0), .val (.int (Int32.ofNat y0))] [.int 1, .ref a509]
  refine G.dup2 K D99_1_146 rfl rfl ?_
  refine G.aload_i K H512 (i := 1) rfl (by decide) rfl D99_1_147 ?_
  refine G.iconst K D99_1_148 1 rfl ?_
  refine G.iadd K D99_1_149 ?_
  change G k n0 _ h512 _ _ 150 [.val (.ref a), .val (.ref fa), .val (.ref sa), .val (.ref ta), .val (.int 1), .val (.ref ca), .val (.ref b507), .val (.int 0), .val (.ref a509), .val (.ref a511), .val (.int 0), .val (.int 0), .val (.int (Int32.ofNat y0))] [.int 1, .int 1, .ref a509]
  refine G.astore_i K H512 (i := 1) rfl (by decide) (Nat.le_of_ble_eq_true rfl) D99_1_150 ?_
  intro h515 H515
  change Hp n0 h515 ((a511, Ia Z [0, 0]) :: (a509, Ia Z [0, 1]) :: (b507, Ia Z [Int32.ofNat y0]) :: (fa, Ia Z (lst 4 (fun _ => 0))) :: (sa, Ia Z (lst 4 (sF ke))) :: (ta, Ia Z (lst 4 (tF ke))) :: (a501, Xa Z [0, 1, 2]) :: (a, Ob Z "com/example/rankwise/rankwise/store/TripleIndex" NST [.ref a501, .null, .null]) :: (ca, Xa Z [0, 1, 2]) :: σ) at H515
  refine G.aload K D99_1_151 rfl rfl ?_
  refine G.iconst K D99_1_153 2 rfl ?_
  refine G.iload K D99_1_154 rfl ?_
  refine G.imul K D99_1_156 ?_
  change G k n0 _ h515 _ _ 157 [.val (.ref a), .val (.ref fa), .val (.ref sa), .val (.ref ta), .val (.int 1), .val (.ref ca), .val (.ref b507), .val (.int 0), .val (.ref a509), .val (.ref a511), .val (.int 0), .val (.int 0), .val (.int (Int32.ofNat y0))] [.int 0, .ref a511]
  refine G.aloadN K D99_1_157 rfl rfl ?_
  refine G.iload K D99_1_158 rfl ?_
  refine G.aload_i K H515 (i := 4) rfl (own_nneg (by omega)) (by rw [own_nidx (by omega)]; exact lst_get _ (by omega)) D99_1_160 ?_
  refine G.astore_i K H515 (i := 0) rfl (by decide) (Nat.le_of_ble_eq_true rfl) D99_1_161 ?_
  intro h516 H516
  change Hp n0 h516 ((a511, Ia Z [(sF ke y0), 0]) :: (a509, Ia Z [0, 1]) :: (b507, Ia Z [Int32.ofNat y0]) :: (fa, Ia Z (lst 4 (fun _ => 0))) :: (sa, Ia Z (lst 4 (sF ke))) :: (ta, Ia Z (lst 4 (tF ke))) :: (a501, Xa Z [0, 1, 2]) :: (a, Ob Z "com/example/rankwise/rankwise/store/TripleIndex" NST [.ref a501, .null, .null]) :: (ca, Xa Z [0, 1, 2]) :: σ) at H516
  refine G.aload K D99_1_162 rfl rfl ?_
  refine G.iconst K D99_1_164 2 rfl ?_
  refine G.iload K D99_1_165 rfl ?_
  refine G.imul K D99_1_167 ?_
  change G k n0 _ h516 _ _ 168 [.val (.ref a), .val (.ref fa), .val (.ref sa), .val (.ref ta), .val (.int 1), .val (.ref ca), .val (.ref b507), .val (.int 0), .val (.ref a509), .val (.ref a511), .val (.int 0), .val (.int 0), .val (.int (Int32.ofNat y0))] [.int 0, .ref a511]
  refine G.iconst K D99_1_168 1 rfl ?_
  refine G.iadd K D99_1_169 ?_
  change G k n0 _ h516 _ _ 170 [.val (.ref a), .val (.ref fa), .val (.ref sa), .val (.ref ta), .val (.int 1), .val (.ref ca), .val (.ref b507), .val (.int 0), .val (.ref a509), .val (.ref a511), .val (.int 0), .val (.int 0), .val (.int (Int32.ofNat y0))] [.int 1, .ref a511]
  refine G.aloadN K D99_1_170 rfl rfl ?_
  refine G.iload K D99_1_171 rfl ?_
  refine G.aload_i K H516 (i := 5) rfl (own_nneg (by omega)) (by rw [own_nidx (by omega)]; exact lst_get _ (by omega)) D99_1_173 ?_
  refine G.astore_i K H516 (i := 0) rfl (by decide) (Nat.le_of_ble_eq_true rfl) D99_1_174 ?_
  intro h517 H517
  change Hp n0 h517 ((a511, Ia Z [(sF ke y0), (tF ke y0)]) :: (a509, Ia Z [0, 1]) :: (b507, Ia Z [Int32.ofNat y0]) :: (fa, Ia Z (lst 4 (fun _ => 0))) :: (sa, Ia Z (lst 4 (sF ke))) :: (ta, Ia Z (lst 4 (tF ke))) :: (a501, Xa Z [0, 1, 2]) :: (a, Ob Z "com/example/rankwise/rankwise/store/TripleIndex" NST [.ref a501, .null, .null]) :: (ca, Xa Z [0, 1, 2]) :: σ) at H517
  refine G.iinc K D99_1_175 1 rfl rfl ([.val (.ref a), .val (.ref fa), .val (.ref sa), .val (.ref ta), .val (.int 1), .val (.ref ca), .val (.ref b507), .val (.int 0), .val (.ref a509), .val (.ref a511), .val (.int (0 + 1)), .val (.int 0), .val (.int (Int32.ofNat y0))]) rfl ?_
  change G k n0 _ h517 _ _ 178 [.val (.ref a), .val (.ref fa), .val (.ref sa), .val (.ref ta), .val (.int 1), .val (.ref ca), .val (.ref b507), .val (.int 0), .val (.ref a509), .val (.ref a511), .val (.int 1), .val (.int 0), .val (.int (Int32.ofNat y0))] []
  refine G.iinc K D99_1_178 1 rfl rfl ([.val (.ref a), .val (.ref fa), .val (.ref sa), .val (.ref ta), .val (.int 1), .val (.ref ca), .val (.ref b507), .val (.int 0), .val (.ref a509), .val (.ref a511), .val (.int 1), .val (.int (0 + 1)), .val (.int (Int32.ofNat y0))]) rfl ?_
  change G k n0 _ h517 _ _ 181 [.val (.ref a), .val (.ref fa), .val (.ref sa), .val (.ref ta), .val (.int 1), .val (.ref ca), .val (.ref b507), .val (.int 0), .val (.ref a509), .val (.ref a511), .val (.int 1), .val (.int 1), .val (.int (Int32.ofNat y0))] []
  refine G.goto K D99_1_181 ?_
  refine G.iload K D99_1_68 rfl ?_
  refine G.iload K D99_1_70 rfl ?_
  refine G.icmp_ge K D99_1_72 (fun _ => ?_) (fun q => absurd q (by decide))
  refine G.iconst K D99_1_184 1 rfl ?_
  refine G.istore K D99_1_185 ([.val (.ref a), .val (.ref fa), .val (.ref sa), .val (.ref ta), .val (.int 1), .val (.ref ca), .val (.ref b507), .val (.int 0), .val (.ref a509), .val (.ref a511), .val (.int 1), .val (.int 1), .val (.int (Int32.ofNat y0))]) rfl ?_
  refine G.iload K D99_1_187 rfl ?_
  refine G.aload K D99_1_189 rfl rfl ?_
  refine G.alen K H517 (i := 1) rfl D99_1_191 2 rfl ?_
  refine G.icmp_ge K D99_1_192 (fun q => absurd q (by decide)) (fun _ => ?_)
  refine G.aload K D99_1_195 rfl rfl ?_
  refine G.iload K D99_1_197 rfl ?_
  refine G.dup2 K D99_1_199 rfl rfl ?_
  refine G.aload_i K H517 (i := 1) rfl (by decide) rfl D99_1_200 ?_
  refine G.aload K D99_1_201 rfl rfl ?_
  refine G.iload K D99_1_203 rfl ?_
  refine G.iconst K D99_1_205 1 rfl ?_
  refine G.isub K D99_1_206 ?_
  change G k n0 _ h517 _ _ 207 [.val (.ref a), .val (.ref fa), .val (.ref sa), .val (.ref ta), .val (.int 1), .val (.ref ca), .val (.ref b507), .val (.int 0), .val (.ref a509), .val (.ref a511), .val (.int 1), .val (.int 1), .val (.int (Int32.ofNat y0))] [.int 0, .ref a509, .int 1, .int 1, .ref a509]
  refine G.aload_i K H517 (i := 1) rfl (by decide) rfl D99_1_207 ?_
  refine G.iadd K D99_1_208 ?_
  change G k n0 _ h517 _ _ 209 [.val (.ref a), .val (.ref fa), .val (.ref sa), .val (.ref ta), .val (.int 1), .val (.ref ca), .val (.ref b507), .val (.int 0), .val (.ref a509), .val (.ref a511), .val (.int 1), .val (.int 1), .val (.int (Int32.ofNat y0))] [.int 1, .int 1, .ref a509]
  refine G.astore_i K H517 (i := 1) rfl (by decide) (Nat.le_of_ble_eq_true rfl) D99_1_209 ?_
  intro h520 H520
  change Hp n0 h520 ((a511, Ia Z [(sF ke y0), (tF ke y0)]) :: (a509, Ia Z [0, 1]) :: (b507, Ia Z [Int32.ofNat y0]) :: (fa, Ia Z (lst 4 (fun _ => 0))) :: (sa, Ia Z (lst 4 (sF ke))) :: (ta, Ia Z (lst 4 (tF ke))) :: (a501, Xa Z [0, 1, 2]) :: (a, Ob Z "com/example/rankwise/rankwise/store/TripleIndex" NST [.ref a501, .null, .null]) :: (ca, Xa Z [0, 1, 2]) :: σ) at H520
  refine G.iinc K D99_1_210 1 rfl rfl ([.val (.ref a), .val (.ref fa), .val (.ref sa), .val (.ref ta), .val (.int 1), .val (.ref ca), .val (.ref b507), .val (.int 0), .val (.ref a509), .val (.ref a511), .val (.int 1), .val (.int (1 + 1)), .val (.int (Int32.ofNat y0))]) rfl ?_
  change G k n0 _ h520 _ _ 213 [.val (.ref a), .val (.ref fa), .val (.ref sa), .val (.ref ta), .val (.int 1), .val (.ref ca), .val (.ref b507), .val (.int 0), .val (.ref a509), .val (.ref a511), .val (.int 1), .val (.int 2), .val (.int (Int32.ofNat y0))] []
  refine G.goto K D99_1_213 ?_
  refine G.iload K D99_1_187 rfl ?_
  refine G.aload K D99_1_189 rfl rfl ?_
  refine G.alen K H520 (i := 1) rfl D99_1_191 2 rfl ?_
  refine G.icmp_ge K D99_1_192 (fun _ => ?_) (fun q => absurd q (by decide))
  refine G.aloadN K D99_1_216 rfl rfl ?_
  refine G.aload K D99_1_217 rfl rfl ?_
  refine G.putF K (host := "") (Or.inl (wd hw 24 rfl)) (cf_NST hw) (Or.inr ⟨(wd hw 25 rfl), rfl, rfl⟩) (wd hw 2 rfl) H520 (i := 7) rfl (j := 1) rfl rfl (ty := (.array .int)) (by decide) rfl rfl D99_1_219 ?_
  intro h522 H522
  change Hp n0 h522 ((a511, Ia Z [(sF ke y0), (tF ke y0)]) :: (a509, Ia Z [0, 1]) :: (b507, Ia Z [Int32.ofNat y0]) :: (fa, Ia Z (lst 4 (fun _ => 0))) :: (sa, Ia Z (lst 4 (sF ke))) :: (ta, Ia Z (lst 4 (tF ke))) :: (a501, Xa Z [0, 1, 2]) :: (a, Ob Z "com/example/rankwise/rankwise/store/TripleIndex" NST [.ref a501, .ref a509, .null]) :: (ca, Xa Z [0, 1, 2]) :: σ) at H522
  refine G.aloadN K D99_1_222 rfl rfl ?_
  refine G.iload K D99_1_223 rfl ?_
  refine G.iload K D99_1_225 rfl ?_
  refine G.icmp_ne K D99_1_227 (fun q => absurd q (by decide)) (fun _ => ?_)
  refine G.aload K D99_1_230 rfl rfl ?_
  refine G.goto K D99_1_232 ?_
  refine G.putF K (host := "") (Or.inl (wd hw 26 rfl)) (cf_NST hw) (Or.inr ⟨(wd hw 27 rfl), rfl, rfl⟩) (wd hw 2 rfl) H522 (i := 7) rfl (j := 2) rfl rfl (ty := (.array .int)) (by decide) rfl rfl D99_1_244 ?_
  intro h524 H524
  change Hp n0 h524 ((a511, Ia Z [(sF ke y0), (tF ke y0)]) :: (a509, Ia Z [0, 1]) :: (b507, Ia Z [Int32.ofNat y0]) :: (fa, Ia Z (lst 4 (fun _ => 0))) :: (sa, Ia Z (lst 4 (sF ke))) :: (ta, Ia Z (lst 4 (tF ke))) :: (a501, Xa Z [0, 1, 2]) :: (a, Ob Z "com/example/rankwise/rankwise/store/TripleIndex" NST [.ref a501, .ref a509, .ref a511]) :: (ca, Xa Z [0, 1, 2]) :: σ) at H524
  refine G.ret_void K D99_1_247 ?_
  have H525 : Hp n0 h524 ((ta, Ia Z (lst 4 (tF ke))) :: (a511, Ia Z [(sF ke y0), (tF ke y0)]) :: (a509, Ia Z [0, 1]) :: (b507, Ia Z [Int32.ofNat y0]) :: (fa, Ia Z (lst 4 (fun _ => 0))) :: (sa, Ia Z (lst 4 (sF ke))) :: (a501, Xa Z [0, 1, 2]) :: (a, Ob Z "com/example/rankwise/rankwise/store/TripleIndex" NST [.ref a501, .ref a509, .ref a511]) :: (ca, Xa Z [0, 1, 2]) :: σ) := H524.pull 5 rfl
  have H526 : Hp n0 h524 ((sa, Ia Z (lst 4 (sF ke))) :: (ta, Ia Z (lst 4 (tF ke))) :: (a511, Ia Z [(sF ke y0), (tF ke y0)]) :: (a509, Ia Z [0, 1]) :: (b507, Ia Z [Int32.ofNat y0]) :: (fa, Ia Z (lst 4 (fun _ => 0))) :: (a501, Xa Z [0, 1, 2]) :: (a, Ob Z "com/example/rankwise/rankwise/store/TripleIndex" NST [.ref a501, .ref a509, .ref a511]) :: (ca, Xa Z [0, 1, 2]) :: σ) := H525.pull 5 rfl
  have H527 : Hp n0 h524 ((fa, Ia Z (lst 4 (fun _ => 0))) :: (sa, Ia Z (lst 4 (sF ke))) :: (ta, Ia Z (lst 4 (tF ke))) :: (a511, Ia Z [(sF ke y0), (tF ke y0)]) :: (a509, Ia Z [0, 1]) :: (b507, Ia Z [Int32.ofNat y0]) :: (a501, Xa Z [0, 1, 2]) :: (a, Ob Z "com/example/rankwise/rankwise/store/TripleIndex" NST [.ref a501, .ref a509, .ref a511]) :: (ca, Xa Z [0, 1, 2]) :: σ) := H526.pull 5 rfl
  have H528 : Hp n0 h524 ((a511, Ia Z [(sF ke y0), (tF ke y0)]) :: (fa, Ia Z (lst 4 (fun _ => 0))) :: (sa, Ia Z (lst 4 (sF ke))) :: (ta, Ia Z (lst 4 (tF ke))) :: (a509, Ia Z [0, 1]) :: (b507, Ia Z [Int32.ofNat y0]) :: (a501, Xa Z [0, 1, 2]) :: (a, Ob Z "com/example/rankwise/rankwise/store/TripleIndex" NST [.ref a501, .ref a509, .ref a511]) :: (ca, Xa Z [0, 1, 2]) :: σ) := H527.pull 3 rfl
  have H529 : Hp n0 h524 ((a, Ob Z "com/example/rankwise/rankwise/store/TripleIndex" NST [.ref a501, .ref a509, .ref a511]) :: (a511, Ia Z [(sF ke y0), (tF ke y0)]) :: (fa, Ia Z (lst 4 (fun _ => 0))) :: (sa, Ia Z (lst 4 (sF ke))) :: (ta, Ia Z (lst 4 (tF ke))) :: (a509, Ia Z [0, 1]) :: (b507, Ia Z [Int32.ofNat y0]) :: (a501, Xa Z [0, 1, 2]) :: (ca, Xa Z [0, 1, 2]) :: σ) := H528.pull 7 rfl
  have H530 : Hp n0 h524 ((a, Ob Z "com/example/rankwise/rankwise/store/TripleIndex" NST [.ref a501, .ref a509, .ref a511]) :: (a511, Ia Z [(sF ke y0), (tF ke y0)]) :: (fa, Ia Z (lst 4 (fun _ => 0))) :: (sa, Ia Z (lst 4 (sF ke))) :: (ta, Ia Z (lst 4 (tF ke))) :: σ) := H529.sub (List.Sublist.cons_cons _ (List.Sublist.cons_cons _ (List.Sublist.cons_cons _ (List.Sublist.cons_cons _ (List.Sublist.cons_cons _ (List.Sublist.cons _ (List.Sublist.cons _ (List.Sublist.cons _ (List.Sublist.cons _ (List.Sublist.refl _))))))))))
  refine ⟨_, _, _, 1, fun i => [y0].getD i 0, rfl, ⟨by decide, ?_, ?_⟩, H530⟩
  · intro i hi; omega
  · intro f
    obtain rfl : y0 = 0 := by omega
    show 0 + f (ke 0) = D1 f (ke 0)
    unfold D1; omega
set_option maxRecDepth 65536 in
set_option maxHeartbeats 40000000 in
theorem ct_ctor2 (l : Launch) (Z : State) (a0 : Array Value) (hw : ∀ d ∈ tables_1, d.before a0 Z = true) (n0 : Nat) (h : Heap) (a ca : Addr) (fa sa ta : Addr) (ke : Nat → Nat) (σ : List Ch) (hK : ∀ i, ke i < 256) (H : Hp n0 h ((a, Ob Z "com/example/rankwise/rankwise/store/TripleIndex" NST [.null, .null, .null]) :: (fa, Ia Z (lst 4 (fun _ => 0))) :: (sa, Ia Z (lst 4 (sF ke))) :: (ta, Ia Z (lst 4 (tF ke))) :: (ca, Xa Z [0, 1, 2]) :: σ)) :
    Ct l Z n0 (⟨"com/example/rankwise/rankwise/store/TripleIndex", "<init>", "([I[I[II[I)V"⟩ : MethodName) prog_99_method_1_code 13 none ({ frames := 3, cells := 8, slots := 40, locals := 60 } : Room) [.ref a, .ref fa, .ref sa, .ref ta, .int 2, .ref ca] h (fun v h' => ∃ (b1 b2 b3 : Addr) (L : Nat) (zf : Nat → Nat), v = none ∧ DD ke zf L (fun f => D2 f (ke 0) (ke 1)) ∧ Hp n0 h' ((a, Ob Z "com/example/rankwise/rankwise/store/TripleIndex" NST [.ref b1, .ref b2, .ref b3]) :: (b3, Ia Z (lst (2 * L) (cF ke zf))) :: (fa, Ia Z (lst 4 (fun _ => 0))) :: (sa, Ia Z (lst 4 (sF ke))) :: (ta, Ia Z (lst 4 (tF ke))) :: σ)) := by
  refine Ct.intro (plainFor_of_name pn_0) [.val (.ref a), .val (.ref fa), .val (.ref sa), .val (.ref ta), .val (.int 2), .val (.ref ca), .unset, .unset, .unset, .unset, .unset, .unset, .unset] (fun m => by first | (simp [entryFrame, mkF, argsToLocals, Value.category]; done) | (simp [entryFrame, mkF, argsToLocals, Value.category, maxLocals]; done) | rfl) ?_
  intro k hl K
  replace K : Ok k Z n0 "com/example/rankwise/rankwise/store/TripleIndex" ({ frames := 3, cells := 8, slots := 40, locals := 60 } : Room) prog_99_method_1_code 13 none "<init>" := K
  refine G.aloadN K D99_1_0 rfl rfl ?_
  refine G.initO K (wd hw 7 rfl) (wd hw 8 rfl) (wd hw 9 rfl) rfl 0 rfl (by decide) (by decide) D99_1_1 ?_
  refine G.aloadN K D99_1_4 rfl rfl ?_
  refine G.aload K D99_1_5 rfl rfl ?_
  refine G.clone_x K (wd hw 10 rfl) (wd hw 11 rfl) (wd hw 15 rfl) (wd hw 13 rfl) (wd hw 14 rfl) (wd hw 16 rfl) H (i := 4) rfl 3 (by decide) rfl 1 rfl (by decide) (by decide) (by decide) (by decide) D99_1_7 ?_
  intro a531 h532 H532
  change Hp n0 h532 ((a531, Xa Z [0, 1, 2]) :: (a, Ob Z "com/example/rankwise/rankwise/store/TripleIndex" NST [.null, .null, .null]) :: (fa, Ia Z (lst 4 (fun _ => 0))) :: (sa, Ia Z (lst 4 (sF ke))) :: (ta, Ia Z (lst 4 (tF ke))) :: (ca, Xa Z [0, 1, 2]) :: σ) at H532
  refine G.cast_x K (wd hw 17 rfl) (wd hw 18 rfl) H532 (i := 0) rfl D99_1_10 ?_
  refine G.putF K (host := "") (Or.inl (wd hw 19 rfl)) (cf_NST hw) (Or.inr ⟨(wd hw 20 rfl), rfl, rfl⟩) (wd hw 2 rfl) H532 (i := 1) rfl (j := 0) rfl rfl (ty := (.array .int)) (by decide) rfl rfl D99_1_13 ?_
  intro h533 H533
  change Hp n0 h533 ((a531, Xa Z [0, 1, 2]) :: (a, Ob Z "com/example/rankwise/rankwise/store/TripleIndex" NST [.ref a531, .null, .null]) :: (fa, Ia Z (lst 4 (fun _ => 0))) :: (sa, Ia Z (lst 4 (sF ke))) :: (ta, Ia Z (lst 4 (tF ke))) :: (ca, Xa Z [0, 1, 2]) :: σ) at H533
  refine G.aloadN K D99_1_16 rfl rfl ?_
  refine G.aloadN K D99_1_17 rfl rfl ?_
  refine G.aloadN K D99_1_18 rfl rfl ?_
  refine G.iload K D99_1_19 rfl ?_
  have H534 : Hp n0 h533 ((ta, Ia Z (lst 4 (tF ke))) :: (a531, Xa Z [0, 1, 2]) :: (a, Ob Z "com/example/rankwise/rankwise/store/TripleIndex" NST [.ref a531, .null, .null]) :: (fa, Ia Z (lst 4 (fun _ => 0))) :: (sa, Ia Z (lst 4 (sF ke))) :: (ca, Xa Z [0, 1, 2]) :: σ) := H533.pull 4 rfl
  have H535 : Hp n0 h533 ((sa, Ia Z (lst 4 (sF ke))) :: (ta, Ia Z (lst 4 (tF ke))) :: (a531, Xa Z [0, 1, 2]) :: (a, Ob Z "com/example/rankwise/rankwise/store/TripleIndex" NST [.ref a531, .null, .null]) :: (fa, Ia Z (lst 4 (fun _ => 0))) :: (ca, Xa Z [0, 1, 2]) :: σ) := H534.pull 4 rfl
  have H536 : Hp n0 h533 ((fa, Ia Z (lst 4 (fun _ => 0))) :: (sa, Ia Z (lst 4 (sF ke))) :: (ta, Ia Z (lst 4 (tF ke))) :: (a531, Xa Z [0, 1, 2]) :: (a, Ob Z "com/example/rankwise/rankwise/store/TripleIndex" NST [.ref a531, .null, .null]) :: (ca, Xa Z [0, 1, 2]) :: σ) := H535.pull 4 rfl
  refine G.callS K hl (wd hw 21 rfl) (wd hw 22 rfl) (wd hw 3 rfl) (wd hw 23 rfl) (by decide) pd_2 (ct_sort2 l Z a0 hw n0 h533 fa sa ta ke ((a531, Xa Z [0, 1, 2]) :: (a, Ob Z "com/example/rankwise/rankwise/store/TripleIndex" NST [.ref a531, .null, .null]) :: (ca, Xa Z [0, 1, 2]) :: σ) hK H536) 0 rfl (by decide) (by decide) (by decide) (by decide) rfl rfl [.int 2, .ref ta, .ref sa, .ref fa] rfl D99_1_21 ?_
  rintro _ h537 ⟨b537, y0, y1, rfl, f0, f1, f2, f3, H537⟩
  change G k n0 _ h537 _ _ 24 [.val (.ref a), .val (.ref fa), .val (.ref sa), .val (.ref ta), .val (.int 2), .val (.ref ca), .unset, .unset, .unset, .unset, .unset, .unset, .unset] [.ref b537]
  refine G.astore K D99_1_24 rfl ([.val (.ref a), .val (.ref fa), .val (.ref sa), .val (.ref ta), .val (.int 2), .val (.ref ca), .val (.ref b537), .unset, .unset, .unset, .unset, .unset, .unset]) rfl ?_
  refine G.iload K D99_1_26 rfl ?_
  refine G.if_ne K D99_1_28 (fun _ => ?_) (fun q => absurd q (by decide))
  refine G.aloadN K D99_1_35 rfl rfl ?_
  refine G.aload K D99_1_36 rfl rfl ?_
  refine G.iload K D99_1_38 rfl ?_
  refine G.iconst K D99_1_40 1 rfl ?_
  refine G.isub K D99_1_41 ?_
  change G k n0 _ h537 _ _ 42 [.val (.ref a), .val (.ref fa), .val (.ref sa), .val (.ref ta), .val (.int 2), .val (.ref ca), .val (.ref b537), .unset, .unset, .unset, .unset, .unset, .unset] [.int 1, .ref b537, .ref fa]
  refine G.aload_i K H537 (i := 0) rfl (by decide) rfl D99_1_42 ?_
  refine G.aload_i K H537 (i := 1) rfl (own_nneg (by omega)) (by rw [own_nidx (by omega)]; exact lst_get _ (by omega)) D99_1_43 ?_
  refine G.istore K D99_1_44 ([.val (.ref a), .val (.ref fa), .val (.ref sa), .val (.ref ta), .val (.int 2), .val (.ref ca), .val (.ref b537), .val (.int 0), .unset, .unset, .unset, .unset, .unset]) rfl ?_
  refine G.iload K D99_1_46 rfl ?_
  refine G.iconst K D99_1_48 2 rfl ?_
  refine G.iadd K D99_1_49 ?_
  change G k n0 _ h537 _ _ 50 [.val (.ref a), .val (.ref fa), .val (.ref sa), .val (.ref ta), .val (.int 2), .val (.ref ca), .val (.ref b537), .val (.int 0), .unset, .unset, .unset, .unset, .unset] [.int 2]
  refine G.newarr_i K (wd hw 0 rfl) H537 (by decide) 2 (by decide) (by decide) (by decide) (by decide) D99_1_50 ?_
  intro a539 h540 H540
  change Hp n0 h540 ((a539, Ia Z [0, 0]) :: (b537, Ia Z [Int32.ofNat y0, Int32.ofNat y1]) :: (fa, Ia Z (lst 4 (fun _ => 0))) :: (sa, Ia Z (lst 4 (sF ke))) :: (ta, Ia Z (lst 4 (tF ke))) :: (a531, Xa Z [0, 1, 2]) :: (a, Ob Z "com/example/rankwise/rankwise/store/TripleIndex" NST [.ref a531, .null, .null]) :: (ca, Xa Z [0, 1, 2]) :: σ) at H540
  refine G.astore K D99_1_52 rfl ([.val (.ref a), .val (.ref fa), .val (.ref sa), .val (.ref ta), .val (.int 2), .val (.ref ca), .val (.ref b537), .val (.int 0), .val (.ref a539), .unset, .unset, .unset, .unset]) rfl ?_
  refine G.iconst K D99_1_54 2 rfl ?_
  refine G.iload K D99_1_55 rfl ?_
  refine G.imul K D99_1_57 ?_
  change G k n0 _ h540 _ _ 58 [.val (.ref a), .val (.ref fa), .val (.ref sa), .val (.ref ta), .val (.int 2), .val (.ref ca), .val (.ref b537), .val (.int 0), .val (.ref a539), .unset, .unset, .unset, .unset] [.int 4]
  refine G.newarr_i K (wd hw 0 rfl) H540 (by decide) 4 (by decide) (by decide) (by decide) (by decide) D99_1_58 ?_
  intro a541 h542 H542
  change Hp n0 h542 ((a541, Ia Z [0, 0, 0, 0]) :: (a539, Ia Z [0, 0]) :: (b537, Ia Z [Int32.ofNat y0, Int32.ofNat y1]) :: (fa, Ia Z (lst 4 (fun _ => 0))) :: (sa, Ia Z (lst 4 (sF ke))) :: (ta, Ia Z (lst 4 (tF ke))) :: (a531, Xa Z [0, 1, 2]) :: (a, Ob Z "com/example/rankwise/rankwise/store/TripleIndex" NST [.ref a531, .null, .null]) :: (ca, Xa Z [0, 1, 2]) :: σ) at H542
  refine G.astore K D99_1_60 rfl ([.val (.ref a), .val (.ref fa), .val (.ref sa), .val (.ref ta), .val (.int 2), .val (.ref ca), .val (.ref b537), .val (.int 0), .val (.ref a539), .val (.ref a541), .unset, .unset, .unset]) rfl ?_
  refine G.iconst K D99_1_62 0 rfl ?_
  refine G.istore K D99_1_63 ([.val (.ref a), .val (.ref fa), .val (.ref sa), .val (.ref ta), .val (.int 2), .val (.ref ca), .val (.ref b537), .val (.int 0), .val (.ref a539), .val (.ref a541), .val (.int 0), .unset, .unset]) rfl ?_
  refine G.iconst K D99_1_65 0 rfl ?_
  refine G.istore K D99_1_66 ([.val (.ref a), .val (.ref fa), .val (.ref sa), .val (.ref ta), .val (.int 2), .val (.ref ca), .val (.ref b537), .val (.int 0), .val (.ref a539), .val (.ref a541), .val (.int 0), .val (.int 0), .unset]) rfl ?_
  refine G.iload K D99_1_68 rfl ?_
  refine G.iload K D99_1_70 rfl ?_
  refine G.icmp_ge K D99_1_72 (fun q => absurd q (by decide)) (fun _ => ?_)
  refine G.aload K D99_1_75 rfl rfl ?_
  refine G.iload K D99_1_77 rfl ?_
  refine G.aload_i K H542 (i := 2) rfl (by decide) rfl D99_1_79 ?_
  refine G.istore K D99_1_80 ([.val (.ref a), .val (.ref fa), .val (.ref sa), .val (.ref ta), .val (.int 2), .val (.ref ca), .val (.ref b537), .val (.int 0), .val (.ref a539), .val (.ref a541), .val (.int 0), .val (.int 0), .val (.int (Int32.ofNat y0))]) rfl ?_
  refine G.iload K D99_1_82 rfl ?_
  refine G.if_le K D99_1_84 (fun _ => ?_) (fun q => absurd q (by decide))
  refine G.aload K D99_1_138 rfl rfl ?_
  refine G.aloadN K D99_1_140 rfl rfl ?_
  refine G.iload K D99_1_141 rfl ?_
  refine G.aload_i K H542 (i := 3) rfl (own_nneg (by omega)) (by rw [own_nidx (by omega)]; exact lst_get _ (by omega)) D99_1_143 ?_
  refine G.iconst K D99_1_144 1 rfl ?_
  refine G.iadd K D99_1_145 ?_
  change G k n0 _ h542 _ _ 146 [.val (.ref a), .val (.ref fa), .val (.ref sa), .val (.ref ta), .val (.int 2), .val (.ref ca), .val (.ref b537), .val (.int 0), .val (.ref a539), .val (.ref a541), .val (.int 0), .val (.int 0), .val (.int (Int32.ofNat y0))] [.int 1, .ref a539]
  refine G.dup2 K D99_1_146 rfl rfl ?_
  refine G.aload_i K H542 (i := 1) rfl (by decide) rfl D99_1_147 ?_
  refine G.iconst K D99_1_148 1 rfl ?_
  refine G.iadd K D99_1_149 ?_
  change G k n0 _ h542 _ _ 150 [.val (.ref a), .val (.ref fa), .val (.ref sa), .val (.ref ta), .val (.int 2), .val (.ref ca), .val (.ref b537), .val (.int 0), .val (.ref a539), .val (.ref a541), .val (.int 0), .val (.int 0), .val (.int (Int32.ofNat y0))] [.int 1, .int 1, .ref a539]
  refine G.astore_i K H542 (i := 1) rfl (by decide) (Nat.le_of_ble_eq_true rfl) D99_1_150 ?_
  intro h545 H545
  change Hp n0 h545 ((a541, Ia Z [0, 0, 0, 0]) :: (a539, Ia Z [0, 1]) :: (b537, Ia Z [Int32.ofNat y0, Int32.ofNat y1]) :: (fa, Ia Z (lst 4 (fun _ => 0))) :: (sa, Ia Z (lst 4 (sF ke))) :: (ta, Ia Z (lst 4 (tF ke))) :: (a531, Xa Z [0, 1, 2]) :: (a, Ob Z "com/example/rankwise/rankwise/store/TripleIndex" NST [.ref a531, .null, .null]) :: (ca, Xa Z [0, 1, 2]) :: σ) at H545
  refine G.aload K D99_1_151 rfl rfl ?_
  refine G.iconst K D99_1_153 2 rfl ?_
  refine G.iload K D99_1_154 rfl ?_
  refine G.imul K D99_1_156 ?_
  change G k n0 _ h545 _ _ 157 [.val (.ref a), .val (.ref fa), .val (.ref sa), .val (.ref ta), .val (.int 2), .val (.ref ca), .val (.ref b537), .val (.int 0), .val (.ref a539), .val (.ref a541), .val (.int 0), .val (.int 0), .val (.int (Int32.ofNat y0))] [.int 0, .ref a541]
  refine G.aloadN K D99_1_157 rfl rfl ?_
  refine G.iload K D99_1_158 rfl ?_
  refine G.aload_i K H545 (i := 4) rfl (own_nneg (by omega)) (by rw [own_nidx (by omega)]; exact lst_get _ (by omega)) D99_1_160 ?_
  refine G.astore_i K H545 (i := 0) rfl (by decide) (Nat.le_of_ble_eq_true rfl) D99_1_161 ?_
  intro h546 H546
  change Hp n0 h546 ((a541, Ia Z [(sF ke y0), 0, 0, 0]) :: (a539, Ia Z [0, 1]) :: (b537, Ia Z [Int32.ofNat y0, Int32.ofNat y1]) :: (fa, Ia Z (lst 4 (fun _ => 0))) :: (sa, Ia Z (lst 4 (sF ke))) :: (ta, Ia Z (lst 4 (tF ke))) :: (a531, Xa Z [0, 1, 2]) :: (a, Ob Z "com/example/rankwise/rankwise/store/TripleIndex" NST [.ref a531, .null, .null]) :: (ca, Xa Z [0, 1, 2]) :: σ) at H546
  refine G.aload K D99_1_162 rfl rfl ?_
  refine G.iconst K D99_1_164 2 rfl ?_
  refine G.iload K D99_1_165 rfl ?_
  refine G.imul K D99_1_167 ?_
  change G k n0 _ h546 _ _ 168 [.val (.ref a), .val (.ref fa), .val (.ref sa), .val (.ref ta), .val (.int 2), .val (.ref ca), .val (.ref b537), .val (.int 0), .val (.ref a539), .val (.ref a541), .val (.int 0), .val (.int 0), .val (.int (Int32.ofNat y0))] [.int 0, .ref a541]
  refine G.iconst K D99_1_168 1 rfl ?_
  refine G.iadd K D99_1_169 ?_
  change G k n0 _ h546 _ _ 170 [.val (.ref a), .val (.ref fa), .val (.ref sa), .val (.ref ta), .val (.int 2), .val (.ref ca), .val (.ref b537), .val (.int 0), .val (.ref a539), .val (.ref a541), .val (.int 0), .val (.int 0), .val (.int (Int32.ofNat y0))] [.int 1, .ref a541]
  refine G.aloadN K D99_1_170 rfl rfl ?_
  refine G.iload K D99_1_171 rfl ?_
  refine G.aload_i K H546 (i := 5) rfl (own_nneg (by omega)) (by rw [own_nidx (by omega)]; exact lst_get _ (by omega)) D99_1_173 ?_
  refine G.astore_i K H546 (i := 0) rfl (by decide) (Nat.le_of_ble_eq_true rfl) D99_1_174 ?_
  intro h547 H547
  change Hp n0 h547 ((a541, Ia Z [(sF ke y0), (tF ke y0), 0, 0]) :: (a539, Ia Z [0, 1]) :: (b537, Ia Z [Int32.ofNat y0, Int32.ofNat y1]) :: (fa, Ia Z (lst 4 (fun _ => 0))) :: (sa, Ia Z (lst 4 (sF ke))) :: (ta, Ia Z (lst 4 (tF ke))) :: (a531, Xa Z [0, 1, 2]) :: (a, Ob Z "com/example/rankwise/rankwise/store/TripleIndex" NST [.ref a531, .null, .null]) :: (ca, Xa Z [0, 1, 2]) :: σ) at H547
  refine G.iinc K D99_1_175 1 rfl rfl ([.val (.ref a), .val (.ref fa), .val (.ref sa), .val (.ref ta), .val (.int 2), .val (.ref ca), .val (.ref b537), .val (.int 0), .val (.ref a539), .val (.ref a541), .val (.int (0 + 1)), .val (.int 0), .val (.int (Int32.ofNat y0))]) rfl ?_
  change G k n0 _ h547 _ _ 178 [.val (.ref a), .val (.ref fa), .val (.ref sa), .val (.ref ta), .val (.int 2), .val (.ref ca), .val (.ref b537), .val (.int 0), .val (.ref a539), .val (.ref a541), .val (.int 1), .val (.int 0), .val (.int (Int32.ofNat y0))] []
  refine G.iinc K D99_1_178 1 rfl rfl ([.val (.ref a), .val (.ref fa), .val (.ref sa), .val (.ref ta), .val (.int 2), .val (.ref ca), .val (.ref b537), .val (.int 0), .val (.ref a539), .val (.ref a541), .val (.int 1), .val (.int (0 + 1)), .val (.int (Int32.ofNat y0))]) rfl ?_
  change G k n0 _ h547 _ _ 181 [.val (.ref a), .val (.ref fa), .val (.ref sa), .val (.ref ta), .val (.int 2), .val (.ref ca), .val (.ref b537), .val (.int 0), .val (.ref a539), .val (.ref a541), .val (.int 1), .val (.int 1), .val (.int (Int32.ofNat y0))] []
  refine G.goto K D99_1_181 ?_
  refine G.iload K D99_1_68 rfl ?_
  refine G.iload K D99_1_70 rfl ?_
  refine G.icmp_ge K D99_1_72 (fun q => absurd q (by decide)) (fun _ => ?_)
  refine G.aload K D99_1_75 rfl rfl ?_
  refine G.iload K D99_1_77 rfl ?_
  refine G.aload_i K H547 (i := 2) rfl (by decide) rfl D99_1_79 ?_
  refine G.istore K D99_1_80 ([.val (.ref a), .val (.ref fa), .val (.ref sa), .val (.ref ta), .val (.int 2), .val (.ref ca), .val (.ref b537), .val (.int 0), .val (.ref a539), .val (.ref a541), .val (.int 1), .val (.int 1), .val (.int (Int32.ofNat y1))]) rfl ?_
  have T549 : ¬ ke y1 = ke y0 → G k n0 (fun v h' => ∃ (b1 b2 b3 : Addr) (L : Nat) (zf : Nat → Nat), v = none ∧ DD ke zf L (fun f => D2 f (ke 0) (ke 1)) ∧ Hp n0 h' ((a, Ob Z "com/example/rankwise/rankwise/store/TripleIndex" NST [.ref b1, .ref b2, .ref b3]) :: (b3, Ia Z (lst (2 * L) (cF ke zf))) :: (fa, Ia Z (lst 4 (fun _ => 0))) :: (sa, Ia Z (lst 4 (sF ke))) :: (ta, Ia Z (lst 4 (tF ke))) :: σ)) h547 5 13 138 [.val (.ref a), .val (.ref fa), .val (.ref sa), .val (.ref ta), .val (.int 2), .val (.ref ca), .val (.ref b537), .val (.int 0), .val (.ref a539), .val (.ref a541), .val (.int 1), .val (.int 1), .val (.int (Int32.ofNat y1))] [] := by
    intro ne1
    refine G.aload K D99_1_138 rfl rfl ?_
    refine G.aloadN K D99_1_140 rfl rfl ?_
    refine G.iload K D99_1_141 rfl ?_
    refine G.aload_i K H547 (i := 3) rfl (own_nneg (by omega)) (by rw [own_nidx (by omega)]; exact lst_get _ (by omega)) D99_1_143 ?_
    refine G.iconst K D99_1_144 1 rfl ?_
    refine G.iadd K D99_1_145 ?_
    change G k n0 _ h547 _ _ 146 [.val (.ref a), .val (.ref fa), .val (.ref sa), .val (.ref ta), .val (.int 2), .val (.ref ca), .val (.ref b537), .val (.int 0), .val (.ref a539), .val (.ref a541), .val (.int 1), .val (.int 1), .val (.int (Int32.ofNat y1))] [.int 1, .ref a539]
    refine G.dup2 K D99_1_146 rfl rfl ?_
    refine G.aload_i K H547 (i := 1) rfl (by decide) rfl D99_1_147 ?_
    refine G.iconst K D99_1_148 1 rfl ?_
    refine G.iadd K D99_1_149 ?_
    change G k n0 _ h547 _ _ 150 [.val (.ref a), .val (.ref fa), .val (.ref sa), .val (.ref ta), .val (.int 2), .val (.ref ca), .val (.ref b537), .val (.int 0), .val (.ref a539), .val (.ref a541), .val (.int 1), .val (.int 1), .val (.int (Int32.ofNat y1))] [.int 2, .int 1, .ref a539]
    refine G.astore_i K H547 (i := 1) rfl (by decide) (Nat.le_of_ble_eq_true rfl) D99_1_150 ?_
    intro h550 H550
    change Hp n0 h550 ((a541, Ia Z [(sF ke y0), (tF ke y0), 0, 0]) :: (a539, Ia Z [0, 2]) :: (b537, Ia Z [Int32.ofNat y0, Int32.ofNat y1]) :: (fa, Ia Z (lst 4 (fun _ => 0))) :: (sa, Ia Z (lst 4 (sF ke))) :: (ta, Ia Z (lst 4 (tF ke))) :: (a531, Xa Z [0, 1, 2]) :: (a, Ob Z "com/example/rankwise/rankwise/store/TripleIndex" NST [.ref a531, .null, .null]) :: (ca, Xa Z [0, 1, 2]) :: σ) at H550
    refine G.aload K D99_1_151 rfl rfl ?_
    refine G.iconst K D99_1_153 2 rfl ?_
    refine G.iload K D99_1_154 rfl ?_
    refine G.imul K D99_1_156 ?_
    change G k n0 _ h550 _ _ 157 [.val (.ref a), .val (.ref fa), .val (.ref sa), .val (.ref ta), .val (.int 2), .val (.ref ca), .val (.ref b537), .val (.int 0), .val (.ref a539), .val (.ref a541), .val (.int 1), .val (.int 1), .val (.int (Int32.ofNat y1))] [.int 2, .ref a541]
    refine G.aloadN K D99_1_157 rfl rfl ?_
    refine G.iload K D99_1_158 rfl ?_
    refine G.aload_i K H550 (i := 4) rfl (own_nneg (by omega)) (by rw [own_nidx (by omega)]; exact lst_get _ (by omega)) D99_1_160 ?_
    refine G.astore_i K H550 (i := 0) rfl (by decide) (Nat.le_of_ble_eq_true rfl) D99_1_161 ?_
    intro h551 H551
    change Hp n0 h551 ((a541, Ia Z [(sF ke y0), (tF ke y0), (sF ke y1), 0]) :: (a539, Ia Z [0, 2]) :: (b537, Ia Z [Int32.ofNat y0, Int32.ofNat y1]) :: (fa, Ia Z (lst 4 (fun _ => 0))) :: (sa, Ia Z (lst 4 (sF ke))) :: (ta, Ia Z (lst 4 (tF ke))) :: (a531, Xa Z [0, 1, 2]) :: (a, Ob Z "com/example/rankwise/rankwise/store/TripleIndex" NST [.ref a531, .null, .null]) :: (ca, Xa Z [0, 1, 2]) :: σ) at H551
    refine G.aload K D99_1_162 rfl rfl ?_
    refine G.iconst K D99_1_164 2 rfl ?_
    refine G.iload K D99_1_165 rfl ?_
    refine G.imul K D99_1_167 ?_
    change G k n0 _ h551 _ _ 168 [.val (.ref a), .val (.ref fa), .val (.ref sa), .val (.ref ta), .val (.int 2), .val (.ref ca), .val (.ref b537), .val (.int 0), .val (.ref a539), .val (.ref a541), .val (.int 1), .val (.int 1), .val (.int (Int32.ofNat y1))] [.int 2, .ref a541]
    refine G.iconst K D99_1_168 1 rfl ?_
    refine G.iadd K D99_1_169 ?_
    change G k n0 _ h551 _ _ 170 [.val (.ref a), .val (.ref fa), .val (.ref sa), .val (.ref ta), .val (.int 2), .val (.ref ca), .val (.ref b537), .val (.int 0), .val (.ref a539), .val (.ref a541), .val (.int 1), .val (.int 1), .val (.int (Int32.ofNat y1))] [.int 3, .ref a541]
    refine G.aloadN K D99_1_170 rfl rfl ?_
    refine G.iload K D99_1_171 rfl ?_
    refine G.aload_i K H551 (i := 5) rfl (own_nneg (by omega)) (by rw [own_nidx (by omega)]; exact lst_get _ (by omega)) D99_1_173 ?_
    refine G.astore_i K H551 (i := 0) rfl (by decide) (Nat.le_of_ble_eq_true rfl) D99_1_174 ?_
    intro h552 H552
    change Hp n0 h552 ((a541, Ia Z [(sF ke y0), (tF ke y0), (sF ke y1), (tF ke y1)]) :: (a539, Ia Z [0, 2]) :: (b537, Ia Z [Int32.ofNat y0, Int32.ofNat y1]) :: (fa, Ia Z (lst 4 (fun _ => 0))) :: (sa, Ia Z (lst 4 (sF ke))) :: (ta, Ia Z (lst 4 (tF ke))) :: (a531, Xa Z [0, 1, 2]) :: (a, Ob Z "com/example/rankwise/rankwise/store/TripleIndex" NST [.ref a531, .null, .null]) :: (ca, Xa Z [0, 1, 2]) :: σ) at H552
    refine G.iinc K D99_1_175 1 rfl rfl ([.val (.ref a), .val (.ref fa), .val (.ref sa), .val (.ref ta), .val (.int 2), .val (.ref ca), .val (.ref b537), .val (.int 0), .val (.ref a539), .val (.ref a541), .val (.int (1 + 1)), .val (.int 1), .val (.int (Int32.ofNat y1))]) rfl ?_
    change G k n0 _ h552 _ _ 178 [.val (.ref a), .val (.ref fa), .val (.ref sa), .val (.ref ta), .val (.int 2), .val (.ref ca), .val (.ref b537), .val (.int 0), .val (.ref a539), .val (.ref a541), .val (.int 2), .val (.int 1), .val (.int (Int32.ofNat y1))] []
    refine G.iinc K D99_1_178 1 rfl rfl ([.val (.ref a), .val (.ref fa), .val (.ref sa), .val (.ref ta), .val (.int 2), .val (.ref ca), .val (.ref b537), .val (.int 0), .val (.ref a539), .val (.ref a541), .val (.int 2), .val (.int (1 + 1)), .val (.int (Int32.ofNat y1))]) rfl ?_
    change G k n0 _ h552 _ _ 181 [.val (.ref a), .val (.ref fa), .val (.ref sa), .val (.ref ta), .val (.int 2), .val (.ref ca), .val (.ref b537), .val (.int 0), .val (.ref a539), .val (.ref a541), .val (.int 2), .val (.int 2), .val (.int (Int32.ofNat y1))] []
    refine G.goto K D99_1_181 ?_
    refine G.iload K D99_1_68 rfl ?_
    refine G.iload K D99_1_70 rfl ?_
    refine G.icmp_ge K D99_1_72 (fun _ => ?_) (fun q => absurd q (by decide))
    refine G.iconst K D99_1_184 1 rfl ?_
    refine G.istore K D99_1_185 ([.val (.ref a), .val (.ref fa), .val (.ref sa), .val (.ref ta), .val (.int 2), .val (.ref ca), .val (.ref b537), .val (.int 0), .val (.ref a539), .val (.ref a541), .val (.int 2), .val (.int 1), .val (.int (Int32.ofNat y1))]) rfl ?_
    refine G.iload K D99_1_187 rfl ?_
    refine G.aload K D99_1_189 rfl rfl ?_
    refine G.alen K H552 (i := 1) rfl D99_1_191 2 rfl ?_
    refine G.icmp_ge K D99_1_192 (fun q => absurd q (by decide)) (fun _ => ?_)
    refine G.aload K D99_1_195 rfl rfl ?_
    refine G.iload K D99_1_197 rfl ?_
    refine G.dup2 K D99_1_199 rfl rfl ?_
    refine G.aload_i K H552 (i := 1) rfl (by decide) rfl D99_1_200 ?_
    refine G.aload K D99_1_201 rfl rfl ?_
    refine G.iload K D99_1_203 rfl ?_
    refine G.iconst K D99_1_205 1 rfl ?_
    refine G.isub K D99_1_206 ?_
    change G k n0 _ h552 _ _ 207 [.val (.ref a), .val (.ref fa), .val (.ref sa), .val (.ref ta), .val (.int 2), .val (.ref ca), .val (.ref b537), .val (.int 0), .val (.ref a539), .val (.ref a541), .val (.int 2), .val (.int 1), .val (.int (Int32.ofNat y1))] [.int 0, .ref a539, .int 2, .int 1, .ref a539]
    refine G.aload_i K H552 (i := 1) rfl (by decide) rfl D99_1_207 ?_
    refine G.iadd K D99_1_208 ?_
    change G k n0 _ h552 _ _ 209 [.val (.ref a), .val (.ref fa), .val (.ref sa), .val (.ref ta), .val (.int 2), .val (.ref ca), .val (.ref b537), .val (.int 0), .val (.ref a539), .val (.ref a541), .val (.int 2), .val (.int 1), .val (.int (Int32.ofNat y1))] [.int 2, .int 1, .ref a539]
    refine G.astore_i K H552 (i := 1) rfl (by decide) (Nat.le_of_ble_eq_true rfl) D99_1_209 ?_
    intro h555 H555
    change Hp n0 h555 ((a541, Ia Z [(sF ke y0), (tF ke y0), (sF ke y1), (tF ke y1)]) :: (a539, Ia Z [0, 2]) :: (b537, Ia Z [Int32.ofNat y0, Int32.ofNat y1]) :: (fa, Ia Z (lst 4 (fun _ => 0))) :: (sa, Ia Z (lst 4 (sF ke))) :: (ta, Ia Z (lst 4 (tF ke))) :: (a531, Xa Z [0, 1, 2]) :: (a, Ob Z "com/example/rankwise/rankwise/store/TripleIndex" NST [.ref a531, .null, .null]) :: (ca, Xa Z [0, 1, 2]) :: σ) at H555
    refine G.iinc K D99_1_210 1 rfl rfl ([.val (.ref a), .val (.ref fa), .val (.ref sa), .val (.ref ta), .val (.int 2), .val (.ref ca), .val (.ref b537), .val (.int 0), .val (.ref a539), .val (.ref a541), .val (.int 2), .val (.int (1 + 1)), .val (.int (Int32.ofNat y1))]) rfl ?_
    change G k n0 _ h555 _ _ 213 [.val (.ref a), .val (.ref fa), .val (.ref sa), .val (.ref ta), .val (.int 2), .val (.ref ca), .val (.ref b537), .val (.int 0), .val (.ref a539), .val (.ref a541), .val (.int 2), .val (.int 2), .val (.int (Int32.ofNat y1))] []
    refine G.goto K D99_1_213 ?_
    refine G.iload K D99_1_187 rfl ?_
    refine G.aload K D99_1_189 rfl rfl ?_
    refine G.alen K H555 (i := 1) rfl D99_1_191 2 rfl ?_
    refine G.icmp_ge K D99_1_192 (fun _ => ?_) (fun q => absurd q (by decide))
    refine G.aloadN K D99_1_216 rfl rfl ?_
    refine G.aload K D99_1_217 rfl rfl ?_
    refine G.putF K (host := "") (Or.inl (wd hw 24 rfl)) (cf_NST hw) (Or.inr ⟨(wd hw 25 rfl), rfl, rfl⟩) (wd hw 2 rfl) H555 (i := 7) rfl (j := 1) rfl rfl (ty := (.array .int)) (by decide) rfl rfl D99_1_219 ?_
    intro h557 H557
    change Hp n0 h557 ((a541, Ia Z [(sF ke y0), (tF ke y0), (sF ke y1), (tF ke y1)]) :: (a539, Ia Z [0, 2]) :: (b537, Ia Z [Int32.ofNat y0, Int32.ofNat y1]) :: (fa, Ia Z (lst 4 (fun _ => 0))) :: (sa, Ia Z (lst 4 (sF ke))) :: (ta, Ia Z (lst 4 (tF ke))) :: (a531, Xa Z [0, 1, 2]) :: (a, Ob Z "com/example/rankwise/rankwise/store/TripleIndex" NST [.ref a531, .ref a539, .null]) :: (ca, Xa Z [0, 1, 2]) :: σ) at H557
    refine G.aloadN K D99_1_222 rfl rfl ?_
    refine G.iload K D99_1_223 rfl ?_
    refine G.iload K D99_1_225 rfl ?_
    refine G.icmp_ne K D99_1_227 (fun q => absurd q (by decide)) (fun _ => ?_)
    refine G.aload K D99_1_230 rfl rfl ?_
    refine G.goto K D99_1_232 ?_
    refine G.putF K (host := "") (Or.inl (wd hw 26 rfl)) (cf_NST hw) (Or.inr ⟨(wd hw 27 rfl), rfl, rfl⟩) (wd hw 2 rfl) H557 (i := 7) rfl (j := 2) rfl rfl (ty := (.array .int)) (by decide) rfl rfl D99_1_244 ?_
    intro h559 H559
    change Hp n0 h559 ((a541, Ia Z [(sF ke y0), (tF ke y0), (sF ke y1), (tF ke y1)]) :: (a539, Ia Z [0, 2]) :: (b537, Ia Z [Int32.ofNat y0, Int32.ofNat y1]) :: (fa, Ia Z (lst 4 (fun _ => 0))) :: (sa, Ia Z (lst 4 (sF ke))) :: (ta, Ia Z (lst 4 (tF ke))) :: (a531, Xa Z [0, 1, 2]) :: (a, Ob Z "com/example/rankwise/rankwise/store/TripleIndex" NST [.ref a531, .ref a539, .ref a541]) :: (ca, Xa Z [0, 1, 2]) :: σ) at H559
    refine G.ret_void K D99_1_247 ?_
    have H560 : Hp n0 h559 ((ta, Ia Z (lst 4 (tF ke))) :: (a541, Ia Z [(sF ke y0), (tF ke y0), (sF ke y1), (tF ke y1)]) :: (a539, Ia Z [0, 2]) :: (b537, Ia Z [Int32.ofNat y0, Int32.ofNat y1]) :: (fa, Ia Z (lst 4 (fun _ => 0))) :: (sa, Ia Z (lst 4 (sF ke))) :: (a531, Xa Z [0, 1, 2]) :: (a, Ob Z "com/example/rankwise/rankwise/store/TripleIndex" NST [.ref a531, .ref a539, .ref a541]) :: (ca, Xa Z [0, 1, 2]) :: σ) := H559.pull 5 rfl
    have H561 : Hp n0 h559 ((sa, Ia Z (lst 4 (sF ke))) :: (ta, Ia Z (lst 4 (tF ke))) :: (a541, Ia Z [(sF ke y0), (tF ke y0), (sF ke y1), (tF ke y1)]) :: (a539, Ia Z [0, 2]) :: (b537, Ia Z [Int32.ofNat y0, Int32.ofNat y1]) :: (fa, Ia Z (lst 4 (fun _ => 0))) :: (a531, Xa Z [0, 1, 2]) :: (a, Ob Z "com/example/rankwise/rankwise/store/TripleIndex" NST [.ref a531, .ref a539, .ref a541]) :: (ca, Xa Z [0, 1, 2]) :: σ) := H560.pull 5 rfl
    have H562 : Hp n0 h559 ((fa, Ia Z (lst 4 (fun _ => 0))) :: (sa, Ia Z (lst 4 (sF ke))) :: (ta, Ia Z (lst 4 (tF ke))) :: (a541, Ia Z [(sF ke y0), (tF ke y0), (sF ke y1), (tF ke y1)]) :: (a539, Ia Z [0, 2]) :: (b537, Ia Z [Int32.ofNat y0, Int32.ofNat y1]) :: (a531, Xa Z [0, 1, 2]) :: (a, Ob Z "com/example/rankwise/rankwise/store/TripleIndex" NST [.ref a531, .ref a539, .ref a541]) :: (ca, Xa Z [0, 1, 2]) :: σ) := H561.pull 5 rfl
    have H563 : Hp n0 h559 ((a541, Ia Z [(sF ke y0), (tF ke y0), (sF ke y1), (tF ke y1)]) :: (fa, Ia Z (lst 4 (fun _ => 0))) :: (sa, Ia Z (lst 4 (sF ke))) :: (ta, Ia Z (lst 4 (tF ke))) :: (a539, Ia Z [0, 2]) :: (b537, Ia Z [Int32.ofNat y0, Int32.ofNat y1]) :: (a531, Xa Z [0, 1, 2]) :: (a, Ob Z "com/example/rankwise/rankwise/store/TripleIndex" NST [.ref a531, .ref a539, .ref a541]) :: (ca, Xa Z [0, 1, 2]) :: σ) := H562.pull 3 rfl
    have H564 : Hp n0 h559 ((a, Ob Z "com/example/rankwise/rankwise/store/TripleIndex" NST [.ref a531, .ref a539, .ref a541]) :: (a541, Ia Z [(sF ke y0), (tF ke y0), (sF ke y1), (tF ke y1)]) :: (fa, Ia Z (lst 4 (fun _ => 0))) :: (sa, Ia Z (lst 4 (sF ke))) :: (ta, Ia Z (lst 4 (tF ke))) :: (a539, Ia Z [0, 2]) :: (b537, Ia Z [Int32.ofNat y0, Int32.ofNat y1]) :: (a531, Xa Z [0, 1, 2]) :: (ca, Xa Z [0, 1, 2]) :: σ) := H563.pull 7 rfl
    have H565 : Hp n0 h559 ((a, Ob Z "com/example/rankwise/rankwise/store/TripleIndex" NST [.ref a531, .ref a539, .ref a541]) :: (a541, Ia Z [(sF ke y0), (tF ke y0), (sF ke y1), (tF ke y1)]) :: (fa, Ia Z (lst 4 (fun _ => 0))) :: (sa, Ia Z (lst 4 (sF ke))) :: (ta, Ia Z (lst 4 (tF ke))) :: σ) := H564.sub (List.Sublist.cons_cons _ (List.Sublist.cons_cons _ (List.Sublist.cons_cons _ (List.Sublist.cons_cons _ (List.Sublist.cons_cons _ (List.Sublist.cons _ (List.Sublist.cons _ (List.Sublist.cons _ (List.Sublist.cons _ (List.Sublist.refl _))))))))))
    refine ⟨_, _, _, 2, fun i => [y0, y1].getD i 0, rfl, ⟨by decide, ?_, ?_⟩, H565⟩
    · intro i hi
      rcases (by omega : i = 0) with rfl
      · show ke y0 < ke y1; omega
    · intro f
      show 0 + f (ke y0) + f (ke y1) = D2 f (ke 0) (ke 1)
      rw [← pm2 ke f f0 f1 f2]
      unfold D2
      rw [if_neg (show ¬ (ke y1 = ke y0) by omega)]; omega
  refine G.iload K D99_1_82 rfl ?_
  refine G.if_le K D99_1_84 (fun q => absurd q (by decide)) (fun _ => ?_)
  refine G.aloadN K D99_1_87 rfl rfl ?_
  refine G.iload K D99_1_88 rfl ?_
  refine G.aload_i K H547 (i := 3) rfl (own_nneg (by omega)) (by rw [own_nidx (by omega)]; exact lst_get _ (by omega)) D99_1_90 ?_
  refine G.aloadN K D99_1_91 rfl rfl ?_
  refine G.aload K D99_1_92 rfl rfl ?_
  refine G.iload K D99_1_94 rfl ?_
  refine G.iconst K D99_1_96 1 rfl ?_
  refine G.isub K D99_1_97 ?_
  change G k n0 _ h547 _ _ 98 [.val (.ref a), .val (.ref fa), .val (.ref sa), .val (.ref ta), .val (.int 2), .val (.ref ca), .val (.ref b537), .val (.int 0), .val (.ref a539), .val (.ref a541), .val (.int 1), .val (.int 1), .val (.int (Int32.ofNat y1))] [.int 0, .ref b537, .ref fa, .int 0]
  refine G.aload_i K H547 (i := 2) rfl (by decide) rfl D99_1_98 ?_
  refine G.aload_i K H547 (i := 3) rfl (own_nneg (by omega)) (by rw [own_nidx (by omega)]; exact lst_get _ (by omega)) D99_1_99 ?_
  refine G.icmp_ne K D99_1_100 (fun q => absurd q (by decide)) (fun _ => ?_)
  refine G.aloadN K D99_1_103 rfl rfl ?_
  refine G.iload K D99_1_104 rfl ?_
  refine G.aload_i K H547 (i := 4) rfl (own_nneg (by omega)) (by rw [own_nidx (by omega)]; exact lst_get _ (by omega)) D99_1_106 ?_
  refine G.aload K D99_1_107 rfl rfl ?_
  refine G.iconst K D99_1_109 2 rfl ?_
  refine G.iload K D99_1_110 rfl ?_
  refine G.imul K D99_1_112 ?_
  change G k n0 _ h547 _ _ 113 [.val (.ref a), .val (.ref fa), .val (.ref sa), .val (.ref ta), .val (.int 2), .val (.ref ca), .val (.ref b537), .val (.int 0), .val (.ref a539), .val (.ref a541), .val (.int 1), .val (.int 1), .val (.int (Int32.ofNat y1))] [.int 2, .ref a541, .int (sF ke y1)]
  refine G.iconst K D99_1_113 2 rfl ?_
  refine G.isub K D99_1_114 ?_
  change G k n0 _ h547 _ _ 115 [.val (.ref a), .val (.ref fa), .val (.ref sa), .val (.ref ta), .val (.int 2), .val (.ref ca), .val (.ref b537), .val (.int 0), .val (.ref a539), .val (.ref a541), .val (.int 1), .val (.int 1), .val (.int (Int32.ofNat y1))] [.int 0, .ref a541, .int (sF ke y1)]
  refine G.aload_i K H547 (i := 0) rfl (by decide) rfl D99_1_115 ?_
  refine G.icmp_ne K D99_1_116 (fun q568 => ?_) (fun q568 => ?_)
  · exact T549 (key_ns q568)
  · refine G.aloadN K D99_1_119 rfl rfl ?_
    refine G.iload K D99_1_120 rfl ?_
    refine G.aload_i K H547 (i := 5) rfl (own_nneg (by omega)) (by rw [own_nidx (by omega)]; exact lst_get _ (by omega)) D99_1_122 ?_
    refine G.aload K D99_1_123 rfl rfl ?_
    refine G.iconst K D99_1_125 2 rfl ?_
    refine G.iload K D99_1_126 rfl ?_
    refine G.imul K D99_1_128 ?_
    change G k n0 _ h547 _ _ 129 [.val (.ref a), .val (.ref fa), .val (.ref sa), .val (.ref ta), .val (.int 2), .val (.ref ca), .val (.ref b537), .val (.int 0), .val (.ref a539), .val (.ref a541), .val (.int 1), .val (.int 1), .val (.int (Int32.ofNat y1))] [.int 2, .ref a541, .int (tF ke y1)]
    refine G.iconst K D99_1_129 1 rfl ?_
    refine G.isub K D99_1_130 ?_
    change G k n0 _ h547 _ _ 131 [.val (.ref a), .val (.ref fa), .val (.ref sa), .val (.ref ta), .val (.int 2), .val (.ref ca), .val (.ref b537), .val (.int 0), .val (.ref a539), .val (.ref a541), .val (.int 1), .val (.int 1), .val (.int (Int32.ofNat y1))] [.int 1, .ref a541, .int (tF ke y1)]
    refine G.aload_i K H547 (i := 0) rfl (by decide) rfl D99_1_131 ?_
    refine G.icmp_ne K D99_1_132 (fun q569 => ?_) (fun q569 => ?_)
    · exact T549 (key_nt q569)
    · have eq1 : ke y1 = ke y0 := key_eq hK q568 q569
      refine G.goto K D99_1_135 ?_
      refine G.iinc K D99_1_178 1 rfl rfl ([.val (.ref a), .val (.ref fa), .val (.ref sa), .val (.ref ta), .val (.int 2), .val (.ref ca), .val (.ref b537), .val (.int 0), .val (.ref a539), .val (.ref a541), .val (.int 1), .val (.int (1 + 1)), .val (.int (Int32.ofNat y1))]) rfl ?_
      change G k n0 _ h547 _ _ 181 [.val (.ref a), .val (.ref fa), .val (.ref sa), .val (.ref ta), .val (.int 2), .val (.ref ca), .val (.ref b537), .val (.int 0), .val (.ref a539), .val (.ref a541), .val (.int 1), .val (.int 2), .val (.int (Int32.ofNat y1))] []
      refine G.goto K D99_1_181 ?_
      refine G.iload K D99_1_68 rfl ?_
      refine G.iload K D99_1_70 rfl ?_
      refine G.icmp_ge K D99_1_72 (fun _ => ?_) (fun q => absurd q (by decide))
      refine G.iconst K D99_1_184 1 rfl ?_
      refine G.istore K D99_1_185 ([.val (.ref a), .val (.ref fa), .val (.ref sa), .val (.ref ta), .val (.int 2), .val (.ref ca), .val (.ref b537), .val (.int 0), .val (.ref a539), .val (.ref a541), .val (.int 1), .val (.int 1), .val (.int (Int32.ofNat y1))]) rfl ?_
      refine G.iload K D99_1_187 rfl ?_
      refine G.aload K D99_1_189 rfl rfl ?_
      refine G.alen K H547 (i := 1) rfl D99_1_191 2 rfl ?_
      refine G.icmp_ge K D99_1_192 (fun q => absurd q (by decide)) (fun _ => ?_)
      refine G.aload K D99_1_195 rfl rfl ?_
      refine G.iload K D99_1_197 rfl ?_
      refine G.dup2 K D99_1_199 rfl rfl ?_
      refine G.aload_i K H547 (i := 1) rfl (by decide) rfl D99_1_200 ?_
      refine G.aload K D99_1_201 rfl rfl ?_
      refine G.iload K D99_1_203 rfl ?_
      refine G.iconst K D99_1_205 1 rfl ?_
      refine G.isub K D99_1_206 ?_
      change G k n0 _ h547 _ _ 207 [.val (.ref a), .val (.ref fa), .val (.ref sa), .val (.ref ta), .val (.int 2), .val (.ref ca), .val (.ref b537), .val (.int 0), .val (.ref a539), .val (.ref a541), .val (.int 1), .val (.int 1), .val (.int (Int32.ofNat y1))] [.int 0, .ref a539, .int 1, .int 1, .ref a539]
      refine G.aload_i K H547 (i := 1) rfl (by decide) rfl D99_1_207 ?_
      refine G.iadd K D99_1_208 ?_
      change G k n0 _ h547 _ _ 209 [.val (.ref a), .val (.ref fa), .val (.ref sa), .val (.ref ta), .val (.int 2), .val (.ref ca), .val (.ref b537), .val (.int 0), .val (.ref a539), .val (.ref a541), .val (.int 1), .val (.int 1), .val (.int (Int32.ofNat y1))] [.int 1, .int 1, .ref a539]
      refine G.astore_i K H547 (i := 1) rfl (by decide) (Nat.le_of_ble_eq_true rfl) D99_1_209 ?_
      intro h572 H572
      change Hp n0 h572 ((a541, Ia Z [(sF ke y0), (tF ke y0), 0, 0]) :: (a539, Ia Z [0, 1]) :: (b537, Ia Z [Int32.ofNat y0, Int32.ofNat y1]) :: (fa, Ia Z (lst 4 (fun _ => 0))) :: (sa, Ia Z (lst 4 (sF ke))) :: (ta, Ia Z (lst 4 (tF ke))) :: (a531, Xa Z [0, 1, 2]) :: (a, Ob Z "com/example/rankwise/rankwise/store/TripleIndex" NST [.ref a531, .null, .null]) :: (ca, Xa Z [0, 1, 2]) :: σ) at H572
      refine G.iinc K D99_1_210 1 rfl rfl ([.val (.ref a), .val (.ref fa), .val (.ref sa), .val (.ref ta), .val (.int 2), .val (.ref ca), .val (.ref b537), .val (.int 0), .val (.ref a539), .val (.ref a541), .val (.int 1), .val (.int (1 + 1)), .val (.int (Int32.ofNat y1))]) rfl ?_
      change G k n0 _ h572 _ _ 213 [.val (.ref a), .val (.ref fa), .val (.ref sa), .val (.ref ta), .val (.int 2), .val (.ref ca), .val (.ref b537), .val (.int 0), .val (.ref a539), .val (.ref a541), .val (.int 1), .val (.int 2), .val (.int (Int32.ofNat y1))] []
      refine G.goto K D99_1_213 ?_
      refine G.iload K D99_1_187 rfl ?_
      refine G.aload K D99_1_189 rfl rfl ?_
      refine G.alen K H572 (i := 1) rfl D99_1_191 2 rfl ?_
      refine G.icmp_ge K D99_1_192 (fun _ => ?_) (fun q => absurd q (by decide))
      refine G.aloadN K D99_1_216 rfl rfl ?_
      refine G.aload K D99_1_217 rfl rfl ?_
      refine G.putF K (host := "") (Or.inl (wd hw 24 rfl)) (cf_NST hw) (Or.inr ⟨(wd hw 25 rfl), rfl, rfl⟩) (wd hw 2 rfl) H572 (i := 7) rfl (j := 1) rfl rfl (ty := (.array .int)) (by decide) rfl rfl D99_1_219 ?_
      intro h574 H574
      change Hp n0 h574 ((a541, Ia Z [(sF ke y0), (tF ke y0), 0, 0]) :: (a539, Ia Z [0, 1]) :: (b537, Ia Z [Int32.ofNat y0, Int32.ofNat y1]) :: (fa, Ia Z (lst 4 (fun _ => 0))) :: (sa, Ia Z (lst 4 (sF ke))) :: (ta, Ia Z (lst 4 (tF ke))) :: (a531, Xa Z [0, 1, 2]) :: (a, Ob Z "com/example/rankwise/rankwise/store/TripleIndex" NST [.ref a531, .ref a539, .null]) :: (ca, Xa Z [0, 1, 2]) :: σ) at H574
      refine G.aloadN K D99_1_222 rfl rfl ?_
      refine G.iload K D99_1_223 rfl ?_
      refine G.iload K D99_1_225 rfl ?_
      refine G.icmp_ne K D99_1_227 (fun _ => ?_) (fun q => absurd q (by decide))
      refine G.aload K D99_1_235 rfl rfl ?_
      refine G.iconst K D99_1_237 2 rfl ?_
      refine G.iload K D99_1_238 rfl ?_
      refine G.imul K D99_1_240 ?_
      change G k n0 _ h574 _ _ 241 [.val (.ref a), .val (.ref fa), .val (.ref sa), .val (.ref ta), .val (.int 2), .val (.ref ca), .val (.ref b537), .val (.int 0), .val (.ref a539), .val (.ref a541), .val (.int 1), .val (.int 2), .val (.int (Int32.ofNat y1))] [.int 2, .ref a541, .ref a]
      refine G.callS K hl (wd hw 58 rfl) (wd hw 59 rfl) (wd hw 60 rfl) (wd hw 61 rfl) (by decide) pd_3 (ct_copy l Z a0 hw n0 h574 a541 2 [(sF ke y0), (tF ke y0), 0, 0] ((a539, Ia Z [0, 1]) :: (b537, Ia Z [Int32.ofNat y0, Int32.ofNat y1]) :: (fa, Ia Z (lst 4 (fun _ => 0))) :: (sa, Ia Z (lst 4 (sF ke))) :: (ta, Ia Z (lst 4 (tF ke))) :: (a531, Xa Z [0, 1, 2]) :: (a, Ob Z "com/example/rankwise/rankwise/store/TripleIndex" NST [.ref a531, .ref a539, .null]) :: (ca, Xa Z [0, 1, 2]) :: σ) (Nat.le_of_ble_eq_true rfl) (Nat.le_of_ble_eq_true rfl) H574) 1 rfl (by decide) (by decide) (by decide) (by decide) rfl rfl [.int 2, .ref a541] rfl D99_1_241 ?_
      rintro _ h576 ⟨b576, rfl, H576⟩
      change Hp n0 h576 ((b576, Ia Z [(sF ke y0), (tF ke y0)]) :: (a541, Ia Z [(sF ke y0), (tF ke y0), 0, 0]) :: (a539, Ia Z [0, 1]) :: (b537, Ia Z [Int32.ofNat y0, Int32.ofNat y1]) :: (fa, Ia Z (lst 4 (fun _ => 0))) :: (sa, Ia Z (lst 4 (sF ke))) :: (ta, Ia Z (lst 4 (tF ke))) :: (a531, Xa Z [0, 1, 2]) :: (a, Ob Z "com/example/rankwise/rankwise/store/TripleIndex" NST [.ref a531, .ref a539, .null]) :: (ca, Xa Z [0, 1, 2]) :: σ) at H576
      change G k n0 _ h576 _ _ 244 [.val (.ref a), .val (.ref fa), .val (.ref sa), .val (.ref ta), .val (.int 2), .val (.ref ca), .val (.ref b537), .val (.int 0), .val (.ref a539), .val (.ref a541), .val (.int 1), .val (.int 2), .val (.int (Int32.ofNat y1))] [.ref b576, .ref a]
      refine G.putF K (host := "") (Or.inl (wd hw 26 rfl)) (cf_NST hw) (Or.inr ⟨(wd hw 27 rfl), rfl, rfl⟩) (wd hw 2 rfl) H576 (i := 8) rfl (j := 2) rfl rfl (ty := (.array .int)) (by decide) rfl rfl D99_1_244 ?_
      intro h577 H577
      change Hp n0 h577 ((b576, Ia Z [(sF ke y0), (tF ke y0)]) :: (a541, Ia Z [(sF ke y0), (tF ke y0), 0, 0]) :: (a539, Ia Z [0, 1]) :: (b537, Ia Z [Int32.ofNat y0, Int32.ofNat y1]) :: (fa, Ia Z (lst 4 (fun _ => 0))) :: (sa, Ia Z (lst 4 (sF ke))) :: (ta, Ia Z (lst 4 (tF ke))) :: (a531, Xa Z [0, 1, 2]) :: (a, Ob Z "com/example/rankwise/rankwise/store/TripleIndex" NST [.ref a531, .ref a539, .ref b576]) :: (ca, Xa Z [0, 1, 2]) :: σ) at H577
      refine G.ret_void K D99_1_247 ?_
      have H578 : Hp n0 h577 ((ta, Ia Z (lst 4 (tF ke))) :: (b576, Ia Z [(sF ke y0), (tF ke y0)]) :: (a541, Ia Z [(sF ke y0), (tF ke y0), 0, 0]) :: (a539, Ia Z [0, 1]) :: (b537, Ia Z [Int32.ofNat y0, Int32.ofNat y1]) :: (fa, Ia Z (lst 4 (fun _ => 0))) :: (sa, Ia Z (lst 4 (sF ke))) :: (a531, Xa Z [0, 1, 2]) :: (a, Ob Z "com/example/rankwise/rankwise/store/TripleIndex" NST [.ref a531, .ref a539, .ref b576]) :: (ca, Xa Z [0, 1, 2]) :: σ) := H577.pull 6 rfl
      have H579 : Hp n0 h577 ((sa, Ia Z (lst 4 (sF ke))) :: (ta, Ia Z (lst 4 (tF ke))) :: (b576, Ia Z [(sF ke y0), (tF ke y0)]) :: (a541, Ia Z [(sF ke y0), (tF ke y0), 0, 0]) :: (a539, Ia Z [0, 1]) :: (b537, Ia Z [Int32.ofNat y0, Int32.ofNat y1]) :: (fa, Ia Z (lst 4 (fun _ => 0))) :: (a531, Xa Z [0, 1, 2]) :: (a, Ob Z "com/example/rankwise/rankwise/store/TripleIndex" NST [.ref a531, .ref a539, .ref b576]) :: (ca, Xa Z [0, 1, 2]) :: σ) := H578.pull 6 rfl
      have H580 : Hp n0 h577 ((fa, Ia Z (lst 4 (fun _ => 0))) :: (sa, Ia Z (lst 4 (sF ke))) :: (ta, Ia Z (lst 4 (tF ke))) :: (b576, Ia Z [(sF ke y0), (tF ke y0)]) :: (a541, Ia Z [(sF ke y0), (tF ke y0), 0, 0]) :: (a539, Ia Z [0, 1]) :: (b537, Ia Z [Int32.ofNat y0, Int32.ofNat y1]) :: (a531, Xa Z [0, 1, 2]) :: (a, Ob Z "com/example/rankwise/rankwise/store/TripleIndex" NST [.ref a531, .ref a539, .ref b576]) :: (ca, Xa Z [0, 1, 2]) :: σ) := H579.pull 6 rfl
      have H581 : Hp n0 h577 ((b576, Ia Z [(sF ke y0), (tF ke y0)]) :: (fa, Ia Z (lst 4 (fun _ => 0))) :: (sa, Ia Z (lst 4 (sF ke))) :: (ta, Ia Z (lst 4 (tF ke))) :: (a541, Ia Z [(sF ke y0), (tF ke y0), 0, 0]) :: (a539, Ia Z [0, 1]) :: (b537, Ia Z [Int32.ofNat y0, Int32.ofNat y1]) :: (a531, Xa Z [0, 1, 2]) :: (a, Ob Z "com/example/rankwise/rankwise/store/TripleIndex" NST [.ref a531, .ref a539, .ref b576]) :: (ca, Xa Z [0, 1, 2]) :: σ) := H580.pull 3 rfl
      have H582 : Hp n0 h577 ((a, Ob Z "com/example/rankwise/rankwise/store/TripleIndex" NST [.ref a531, .ref a539, .ref b576]) :: (b576, Ia Z [(sF ke y0), (tF ke y0)]) :: (fa, Ia Z (lst 4 (fun _ => 0))) :: (sa, Ia Z (lst 4 (sF ke))) :: (ta, Ia Z (lst 4 (tF ke))) :: (a541, Ia Z [(sF ke y0), (tF ke y0), 0, 0]) :: (a539, Ia Z [0, 1]) :: (b537, Ia Z [Int32.ofNat y0, Int32.ofNat y1]) :: (a531, Xa Z [0, 1, 2]) :: (ca, Xa Z [0, 1, 2]) :: σ) := H581.pull 8 rfl
      have H583 : Hp n0 h577 ((a, Ob Z "com/example/rankwise/rankwise/store/TripleIndex" NST [.ref a531, .ref a539, .ref b576]) :: (b576, Ia Z [(sF ke y0), (tF ke y0)]) :: (fa, Ia Z (lst 4 (fun _ => 0))) :: (sa, Ia Z (lst 4 (sF ke))) :: (ta, Ia Z (lst 4 (tF ke))) :: σ) := H582.sub (List.Sublist.cons_cons _ (List.Sublist.cons_cons _ (List.Sublist.cons_cons _ (List.Sublist.cons_cons _ (List.Sublist.cons_cons _ (List.Sublist.cons _ (List.Sublist.cons _ (List.Sublist.cons _ (List.Sublist.cons _ (List.Sublist.cons _ (List.Sublist.refl _)))))))))))
      refine ⟨_, _, _, 1, fun i => [y0].getD i 0, rfl, ⟨by decide, ?_, ?_⟩, H583⟩
      · intro i hi; omega
      · intro f
        show 0 + f (ke y0) = D2 f (ke 0) (ke 1)
        rw [← pm2 ke f f0 f1 f2]
        unfold D2
        rw [if_pos (show ke y1 = ke y0 by omega)]; omega
set_option maxRecDepth 65536 in
set_option maxHeartbeats 40000000 in
theorem ct_ctor3 (l : Launch) (Z : State) (a0 : Array Value) (hw : ∀ d ∈ tables_1, d.before a0 Z = true) (n0 : Nat) (h : Heap) (a ca : Addr) (fa sa ta : Addr) (ke : Nat → Nat) (σ : List Ch) (hK : ∀ i, ke i < 256) (H : Hp n0 h ((a, Ob Z "com/example/rankwise/rankwise/store/TripleIndex" NST [.null, .null, .null]) :: (fa, Ia Z (lst 4 (fun _ => 0))) :: (sa, Ia Z (lst 4 (sF ke))) :: (ta, Ia Z (lst 4 (tF ke))) :: (ca, Xa Z [0, 1, 2]) :: σ)) :
    Ct l Z n0 (⟨"com/example/rankwise/rankwise/store/TripleIndex", "<init>", "([I[I[II[I)V"⟩ : MethodName) prog_99_method_1_code 13 none ({ frames := 3, cells := 8, slots := 40, locals := 60 } : Room) [.ref a, .ref fa, .ref sa, .ref ta, .int 3, .ref ca] h (fun v h' => ∃ (b1 b2 b3 : Addr) (L : Nat) (zf : Nat → Nat), v = none ∧ DD ke zf L (fun f => D3 f (ke 0) (ke 1) (ke 2)) ∧ Hp n0 h' ((a, Ob Z "com/example/rankwise/rankwise/store/TripleIndex" NST [.ref b1, .ref b2, .ref b3]) :: (b3, Ia Z (lst (2 * L) (cF ke zf))) :: (fa, Ia Z (lst 4 (fun _ => 0))) :: (sa, Ia Z (lst 4 (sF ke))) :: (ta, Ia Z (lst 4 (tF ke))) :: σ)) := by
  refine Ct.intro (plainFor_of_name pn_0) [.val (.ref a), .val (.ref fa), .val (.ref sa), .val (.ref ta), .val (.int 3), .val (.ref ca), .unset, .unset, .unset, .unset, .unset, .unset, .unset] (fun m => by first | (simp [entryFrame, mkF, argsToLocals, Value.category]; done) | (simp [entryFrame, mkF, argsToLocals, Value.category, maxLocals]; done) | rfl) ?_
  intro k hl K
  replace K : Ok k Z n0 "com/example/rankwise/rankwise/store/TripleIndex" ({ frames := 3, cells := 8, slots := 40, locals := 60 } : Room) prog_99_method_1_code 13 none "<init>" := K
  refine G.aloadN K D99_1_0 rfl rfl ?_
  refine G.initO K (wd hw 7 rfl) (wd hw 8 rfl) (wd hw 9 rfl) rfl 0 rfl (by decide) (by decide) D99_1_1 ?_
  refine G.aloadN K D99_1_4 rfl rfl ?_
  refine G.aload K D99_1_5 rfl rfl ?_
  refine G.clone_x K (wd hw 10 rfl) (wd hw 11 rfl) (wd hw 15 rfl) (wd hw 13 rfl) (wd hw 14 rfl) (wd hw 16 rfl) H (i := 4) rfl 3 (by decide) rfl 1 rfl (by decide) (by decide) (by decide) (by decide) D99_1_7 ?_
  intro a584 h585 H585
  change Hp n0 h585 ((a584, Xa Z [0, 1, 2]) :: (a, Ob Z "com/example/rankwise/rankwise/store/TripleIndex" NST [.null, .null, .null]) :: (fa, Ia Z (lst 4 (fun _ => 0))) :: (sa, Ia Z (lst 4 (sF ke))) :: (ta, Ia Z (lst 4 (tF ke))) :: (ca, Xa Z [0, 1, 2]) :: σ) at H585
  refine G.cast_x K (wd hw 17 rfl) (wd hw 18 rfl) H585 (i := 0) rfl D99_1_10 ?_
  refine G.putF K (host := "") (Or.inl (wd hw 19 rfl)) (cf_NST hw) (Or.inr ⟨(wd hw 20 rfl), rfl, rfl⟩) (wd hw 2 rfl) H585 (i := 1) rfl (j := 0) rfl rfl (ty := (.array .int)) (by decide) rfl rfl D99_1_13 ?_
  intro h586 H586
  change Hp n0 h586 ((a584, Xa Z [0, 1, 2]) :: (a, Ob Z "com/example/rankwise/rankwise/store/TripleIndex" NST [.ref a584, .null, .null]) :: (fa, Ia Z (lst 4 (fun _ => 0))) :: (sa, Ia Z (lst 4 (sF ke))) :: (ta, Ia Z (lst 4 (tF ke))) :: (ca, Xa Z [0, 1, 2]) :: σ) at H586
  refine G.aloadN K D99_1_16 rfl rfl ?_
  refine G.aloadN K D99_1_17 rfl rfl ?_
  refine G.aloadN K D99_1_18 rfl rfl ?_
  refine G.iload K D99_1_19 rfl ?_
  have H587 : Hp n0 h586 ((ta, Ia Z (lst 4 (tF ke))) :: (a584, Xa Z [0, 1, 2]) :: (a, Ob Z "com/example/rankwise/rankwise/store/TripleIndex" NST [.ref a584, .null, .null]) :: (fa, Ia Z (lst 4 (fun _ => 0))) :: (sa, Ia Z (lst 4 (sF ke))) :: (ca, Xa Z [0, 1, 2]) :: σ) := H586.pull 4 rfl
  have H588 : Hp n0 h586 ((sa, Ia Z (lst 4 (sF ke))) :: (ta, Ia Z (lst 4 (tF ke))) :: (a584, Xa Z [0, 1, 2]) :: (a, Ob Z "com/example/rankwise/rankwise/store/TripleIndex" NST [.ref a584, .null, .null]) :: (fa, Ia Z (lst 4 (fun _ => 0))) :: (ca, Xa Z [0, 1, 2]) :: σ) := H587.pull 4 rfl
  have H589 : Hp n0 h586 ((fa, Ia Z (lst 4 (fun _ => 0))) :: (sa, Ia Z (lst 4 (sF ke))) :: (ta, Ia Z (lst 4 (tF ke))) :: (a584, Xa Z [0, 1, 2]) :: (a, Ob Z "com/example/rankwise/rankwise/store/TripleIndex" NST [.ref a584, .null, .null]) :: (ca, Xa Z [0, 1, 2]) :: σ) := H588.pull 4 rfl
  refine G.callS K hl (wd hw 21 rfl) (wd hw 22 rfl) (wd hw 3 rfl) (wd hw 23 rfl) (by decide) pd_2 (ct_sort3 l Z a0 hw n0 h586 fa sa ta ke ((a584, Xa Z [0, 1, 2]) :: (a, Ob Z "com/example/rankwise/rankwise/store/TripleIndex" NST [.ref a584, .null, .null]) :: (ca, Xa Z [0, 1, 2]) :: σ) hK H589) 0 rfl (by decide) (by decide) (by decide) (by decide) rfl rfl [.int 3, .ref ta, .ref sa, .ref fa] rfl D99_1_21 ?_
  rintro _ h590 ⟨b590, y0, y1, y2, rfl, f0, f1, f2, f3, f4, f5, f6, f7, H590⟩
  change G k n0 _ h590 _ _ 24 [.val (.ref a), .val (.ref fa), .val (.ref sa), .val (.ref ta), .val (.int 3), .val (.ref ca), .unset, .unset, .unset, .unset, .unset, .unset, .unset] [.ref b590]
  refine G.astore K D99_1_24 rfl ([.val (.ref a), .val (.ref fa), .val (.ref sa), .val (.ref ta), .val (.int 3), .val (.ref ca), .val (.ref b590), .unset, .unset, .unset, .unset, .unset, .unset]) rfl ?_
  refine G.iload K D99_1_26 rfl ?_
  refine G.if_ne K D99_1_28 (fun _ => ?_) (fun q => absurd q (by decide))
  refine G.aloadN K D99_1_35 rfl rfl ?_
  refine G.aload K D99_1_36 rfl rfl ?_
  refine G.iload K D99_1_38 rfl ?_
  refine G.iconst K D99_1_40 1 rfl ?_
  refine G.isub K D99_1_41 ?_
  change G k n0 _ h590 _ _ 42 [.val (.ref a), .val (.ref fa), .val (.ref sa), .val (.ref ta), .val (.int 3), .val (.ref ca), .val (.ref b590), .unset, .unset, .unset, .unset, .unset, .unset] [.int 2, .ref b590, .ref fa]
  refine G.aload_i K H590 (i := 0) rfl (by decide) rfl D99_1_42 ?_
  refine G.aload_i K H590 (i := 1) rfl (own_nneg (by omega)) (by rw [own_nidx (by omega)]; exact lst_get _ (by omega)) D99_1_43 ?_
  refine G.istore K D99_1_44 ([.val (.ref a), .val (.ref fa), .val (.ref sa), .val (.ref ta), .val (.int 3), .val (.ref ca), .val (.ref b590), .val (.int 0), .unset, .unset, .unset, .unset, .unset]) rfl ?_
  refine G.iload K D99_1_46 rfl ?_
  refine G.iconst K D99_1_48 2 rfl ?_
  refine G.iadd K D99_1_49 ?_
  change G k n0 _ h590 _ _ 50 [.val (.ref a), .val (.ref fa), .val (.ref sa), .val (.ref ta), .val (.int 3), .val (.ref ca), .val (.ref b590), .val (.int 0), .unset, .unset, .unset, .unset, .unset] [.int 2]
  refine G.newarr_i K (wd hw 0 rfl) H590 (by decide) 2 (by decide) (by decide) (by decide) (by decide) D99_1_50 ?_
  intro a592 h593 H593
  change Hp n0 h593 ((a592, Ia Z [0, 0]) :: (b590, Ia Z [Int32.ofNat y0, Int32.ofNat y1, Int32.ofNat y2]) :: (fa, Ia Z (lst 4 (fun _ => 0))) :: (sa, Ia Z (lst 4 (sF ke))) :: (ta, Ia Z (lst 4 (tF ke))) :: (a584, Xa Z [0, 1, 2]) :: (a, Ob Z "com/example/rankwise/rankwise/store/TripleIndex" NST [.ref a584, .null, .null]) :: (ca, Xa Z [0, 1, 2]) :: σ) at H593
  refine G.astore K D99_1_52 rfl ([.val (.ref a), .val (.ref fa), .val (.ref sa), .val (.ref ta), .val (.int 3), .val (.ref ca), .val (.ref b590), .val (.int 0), .val (.ref a592), .unset, .unset, .unset, .unset]) rfl ?_
  refine G.iconst K D99_1_54 2 rfl ?_
  refine G.iload K D99_1_55 rfl ?_
  refine G.imul K D99_1_57 ?_
  change G k n0 _ h593 _ _ 58 [.val (.ref a), .val (.ref fa), .val (.ref sa), .val (.ref ta), .val (.int 3), .val (.ref ca), .val (.ref b590), .val (.int 0), .val (.ref a592), .unset, .unset, .unset, .unset] [.int 6]
  refine G.newarr_i K (wd hw 0 rfl) H593 (by decide) 6 (by decide) (by decide) (by decide) (by decide) D99_1_58 ?_
  intro a594 h595 H595
  change Hp n0 h595 ((a594, Ia Z [0, 0, 0, 0, 0, 0]) :: (a592, Ia Z [0, 0]) :: (b590, Ia Z [Int32.ofNat y0, Int32.ofNat y1, Int32.ofNat y2]) :: (fa, Ia Z (lst 4 (fun _ => 0))) :: (sa, Ia Z (lst 4 (sF ke))) :: (ta, Ia Z (lst 4 (tF ke))) :: (a584, Xa Z [0, 1, 2]) :: (a, Ob Z "com/example/rankwise/rankwise/store/TripleIndex" NST [.ref a584, .null, .null]) :: (ca, Xa Z [0, 1, 2]) :: σ) at H595
  refine G.astore K D99_1_60 rfl ([.val (.ref a), .val (.ref fa), .val (.ref sa), .val (.ref ta), .val (.int 3), .val (.ref ca), .val (.ref b590), .val (.int 0), .val (.ref a592), .val (.ref a594), .unset, .unset, .unset]) rfl ?_
  refine G.iconst K D99_1_62 0 rfl ?_
  refine G.istore K D99_1_63 ([.val (.ref a), .val (.ref fa), .val (.ref sa), .val (.ref ta), .val (.int 3), .val (.ref ca), .val (.ref b590), .val (.int 0), .val (.ref a592), .val (.ref a594), .val (.int 0), .unset, .unset]) rfl ?_
  refine G.iconst K D99_1_65 0 rfl ?_
  refine G.istore K D99_1_66 ([.val (.ref a), .val (.ref fa), .val (.ref sa), .val (.ref ta), .val (.int 3), .val (.ref ca), .val (.ref b590), .val (.int 0), .val (.ref a592), .val (.ref a594), .val (.int 0), .val (.int 0), .unset]) rfl ?_
  refine G.iload K D99_1_68 rfl ?_
  refine G.iload K D99_1_70 rfl ?_
  refine G.icmp_ge K D99_1_72 (fun q => absurd q (by decide)) (fun _ => ?_)
  refine G.aload K D99_1_75 rfl rfl ?_
  refine G.iload K D99_1_77 rfl ?_
  refine G.aload_i K H595 (i := 2) rfl (by decide) rfl D99_1_79 ?_
  refine G.istore K D99_1_80 ([.val (.ref a), .val (.ref fa), .val (.ref sa), .val (.ref ta), .val (.int 3), .val (.ref ca), .val (.ref b590), .val (.int 0), .val (.ref a592), .val (.ref a594), .val (.int 0), .val (.int 0), .val (.int (Int32.ofNat y0))]) rfl ?_
  refine G.iload K D99_1_82 rfl ?_
  refine G.if_le K D99_1_84 (fun _ => ?_) (fun q => absurd q (by decide))
  refine G.aload K D99_1_138 rfl rfl ?_
  refine G.aloadN K D99_1_140 rfl rfl ?_
  refine G.iload K D99_1_141 rfl ?_
  refine G.aload_i K H595 (i := 3) rfl (own_nneg (by omega)) (by rw [own_nidx (by omega)]; exact lst_get _ (by omega)) D99_1_143 ?_
  refine G.iconst K D99_1_144 1 rfl ?_
  refine G.iadd K D99_1_145 ?_
  change G k n0 _ h595 _ _ 146 [.val (.ref a), .val (.ref fa), .val (.ref sa), .val (.ref ta), .val (.int 3), .val (.ref ca), .val (.ref b590), .val (.int 0), .val (.ref a592), .val (.ref a594), .val (.int 0), .val (.int 0), .val (.int (Int32.ofNat y0))] [.int 1, .ref a592]
  refine G.dup2 K D99_1_146 rfl rfl ?_
  refine G.aload_i K H595 (i := 1) rfl (by decide) rfl D99_1_147 ?_
  refine G.iconst K D99_1_148 1 rfl ?_
  refine G.iadd K D99_1_149 ?_
  change G k n0 _ h595 _ _ 150 [.val (.ref a), .val (.ref fa), .val (.ref sa), .val (.ref ta), .val (.int 3), .val (.ref ca), .val (.ref b590), .val (.int 0), .val (.ref a592), .val (.ref a594), .val (.int 0), .val (.int 0), .val (.int (Int32.ofNat y0))] [.int 1, .int 1, .ref a592]
  refine G.astore_i K H595 (i := 1) rfl (by decide) (Nat.le_of_ble_eq_true rfl) D99_1_150 ?_
  intro h598 H598
  change Hp n0 h598 ((a594, Ia Z [0, 0, 0, 0, 0, 0]) :: (a592, Ia Z [0, 1]) :: (b590, Ia Z [Int32.ofNat y0, Int32.ofNat y1, Int32.ofNat y2]) :: (fa, Ia Z (lst 4 (fun _ => 0))) :: (sa, Ia Z (lst 4 (sF ke))) :: (ta, Ia Z (lst 4 (tF ke))) :: (a584, Xa Z [0, 1, 2]) :: (a, Ob Z "com/example/rankwise/rankwise/store/TripleIndex" NST [.ref a584, .null, .null]) :: (ca, Xa Z [0, 1, 2]) :: σ) at H598
  refine G.aload K D99_1_151 rfl rfl ?_
  refine G.iconst K D99_1_153 2 rfl ?_
  refine G.iload K D99_1_154 rfl ?_
  refine G.imul K D99_1_156 ?_
  change G k n0 _ h598 _ _ 157 [.val (.ref a), .val (.ref fa), .val (.ref sa), .val (.ref ta), .val (.int 3), .val (.ref ca), .val (.ref b590), .val (.int 0), .val (.ref a592), .val (.ref a594), .val (.int 0), .val (.int 0), .val (.int (Int32.ofNat y0))] [.int 0, .ref a594]
  refine G.aloadN K D99_1_157 rfl rfl ?_
  refine G.iload K D99_1_158 rfl ?_
  refine G.aload_i K H598 (i := 4) rfl (own_nneg (by omega)) (by rw [own_nidx (by omega)]; exact lst_get _ (by omega)) D99_1_160 ?_
  refine G.astore_i K H598 (i := 0) rfl (by decide) (Nat.le_of_ble_eq_true rfl) D99_1_161 ?_
  intro h599 H599
  change Hp n0 h599 ((a594, Ia Z [(sF ke y0), 0, 0, 0, 0, 0]) :: (a592, Ia Z [0, 1]) :: (b590, Ia Z [Int32.ofNat y0, Int32.ofNat y1, Int32.ofNat y2]) :: (fa, Ia Z (lst 4 (fun _ => 0))) :: (sa, Ia Z (lst 4 (sF ke))) :: (ta, Ia Z (lst 4 (tF ke))) :: (a584, Xa Z [0, 1, 2]) :: (a, Ob Z "com/example/rankwise/rankwise/store/TripleIndex" NST [.ref a584, .null, .null]) :: (ca, Xa Z [0, 1, 2]) :: σ) at H599
  refine G.aload K D99_1_162 rfl rfl ?_
  refine G.iconst K D99_1_164 2 rfl ?_
  refine G.iload K D99_1_165 rfl ?_
  refine G.imul K D99_1_167 ?_
  change G k n0 _ h599 _ _ 168 [.val (.ref a), .val (.ref fa), .val (.ref sa), .val (.ref ta), .val (.int 3), .val (.ref ca), .val (.ref b590), .val (.int 0), .val (.ref a592), .val (.ref a594), .val (.int 0), .val (.int 0), .val (.int (Int32.ofNat y0))] [.int 0, .ref a594]
  refine G.iconst K D99_1_168 1 rfl ?_
  refine G.iadd K D99_1_169 ?_
  change G k n0 _ h599 _ _ 170 [.val (.ref a), .val (.ref fa), .val (.ref sa), .val (.ref ta), .val (.int 3), .val (.ref ca), .val (.ref b590), .val (.int 0), .val (.ref a592), .val (.ref a594), .val (.int 0), .val (.int 0), .val (.int (Int32.ofNat y0))] [.int 1, .ref a594]
  refine G.aloadN K D99_1_170 rfl rfl ?_
  refine G.iload K D99_1_171 rfl ?_
  refine G.aload_i K H599 (i := 5) rfl (own_nneg (by omega)) (by rw [own_nidx (by omega)]; exact lst_get _ (by omega)) D99_1_173 ?_
  refine G.astore_i K H599 (i := 0) rfl (by decide) (Nat.le_of_ble_eq_true rfl) D99_1_174 ?_
  intro h600 H600
  change Hp n0 h600 ((a594, Ia Z [(sF ke y0), (tF ke y0), 0, 0, 0, 0]) :: (a592, Ia Z [0, 1]) :: (b590, Ia Z [Int32.ofNat y0, Int32.ofNat y1, Int32.ofNat y2]) :: (fa, Ia Z (lst 4 (fun _ => 0))) :: (sa, Ia Z (lst 4 (sF ke))) :: (ta, Ia Z (lst 4 (tF ke))) :: (a584, Xa Z [0, 1, 2]) :: (a, Ob Z "com/example/rankwise/rankwise/store/TripleIndex" NST [.ref a584, .null, .null]) :: (ca, Xa Z [0, 1, 2]) :: σ) at H600
  refine G.iinc K D99_1_175 1 rfl rfl ([.val (.ref a), .val (.ref fa), .val (.ref sa), .val (.ref ta), .val (.int 3), .val (.ref ca), .val (.ref b590), .val (.int 0), .val (.ref a592), .val (.ref a594), .val (.int (0 + 1)), .val (.int 0), .val (.int (Int32.ofNat y0))]) rfl ?_
  change G k n0 _ h600 _ _ 178 [.val (.ref a), .val (.ref fa), .val (.ref sa), .val (.ref ta), .val (.int 3), .val (.ref ca), .val (.ref b590), .val (.int 0), .val (.ref a592), .val (.ref a594), .val (.int 1), .val (.int 0), .val (.int (Int32.ofNat y0))] []
  refine G.iinc K D99_1_178 1 rfl rfl ([.val (.ref a), .val (.ref fa), .val (.ref sa), .val (.ref ta), .val (.int 3), .val (.ref ca), .val (.ref b590), .val (.int 0), .val (.ref a592), .val (.ref a594), .val (.int 1), .val (.int (0 + 1)), .val (.int (Int32.ofNat y0))]) rfl ?_
  change G k n0 _ h600 _ _ 181 [.val (.ref a), .val (.ref fa), .val (.ref sa), .val (.ref ta), .val (.int 3), .val (.ref ca), .val (.ref b590), .val (.int 0), .val (.ref a592), .val (.ref a594), .val (.int 1), .val (.int 1), .val (.int (Int32.ofNat y0))] []
  refine G.goto K D99_1_181 ?_
  refine G.iload K D99_1_68 rfl ?_
  refine G.iload K D99_1_70 rfl ?_
  refine G.icmp_ge K D99_1_72 (fun q => absurd q (by decide)) (fun _ => ?_)
  refine G.aload K D99_1_75 rfl rfl ?_
  refine G.iload K D99_1_77 rfl ?_
  refine G.aload_i K H600 (i := 2) rfl (by decide) rfl D99_1_79 ?_
  refine G.istore K D99_1_80 ([.val (.ref a), .val (.ref fa), .val (.ref sa), .val (.ref ta), .val (.int 3), .val (.ref ca), .val (.ref b590), .val (.int 0), .val (.ref a592), .val (.ref a594), .val (.int 1), .val (.int 1), .val (.int (Int32.ofNat y1))]) rfl ?_
  have T602 : ¬ ke y1 = ke y0 → G k n0 (fun v h' => ∃ (b1 b2 b3 : Addr) (L : Nat) (zf : Nat → Nat), v = none ∧ DD ke zf L (fun f => D3 f (ke 0) (ke 1) (ke 2)) ∧ Hp n0 h' ((a, Ob Z "com/example/rankwise/rankwise/store/TripleIndex" NST [.ref b1, .ref b2, .ref b3]) :: (b3, Ia Z (lst (2 * L) (cF ke zf))) :: (fa, Ia Z (lst 4 (fun _ => 0))) :: (sa, Ia Z (lst 4 (sF ke))) :: (ta, Ia Z (lst 4 (tF ke))) :: σ)) h600 5 17 138 [.val (.ref a), .val (.ref fa), .val (.ref sa), .val (.ref ta), .val (.int 3), .val (.ref ca), .val (.ref b590), .val (.int 0), .val (.ref a592), .val (.ref a594), .val (.int 1), .val (.int 1), .val (.int (Int32.ofNat y1))] [] := by
    intro ne1
    refine G.aload K D99_1_138 rfl rfl ?_
    refine G.aloadN K D99_1_140 rfl rfl ?_
    refine G.iload K D99_1_141 rfl ?_
    refine G.aload_i K H600 (i := 3) rfl (own_nneg (by omega)) (by rw [own_nidx (by omega)]; exact lst_get _ (by omega)) D99_1_143 ?_
    refine G.iconst K D99_1_144 1 rfl ?_
    refine G.iadd K D99_1_145 ?_
    change G k n0 _ h600 _ _ 146 [.val (.ref a), .val (.ref fa), .val (.ref sa), .val (.ref ta), .val (.int 3), .val (.ref ca), .val (.ref b590), .val (.int 0), .val (.ref a592), .val (.ref a594), .val (.int 1), .val (.int 1), .val (.int (Int32.ofNat y1))] [.int 1, .ref a592]
    refine G.dup2 K D99_1_146 rfl rfl ?_
    refine G.aload_i K H600 (i := 1) rfl (by decide) rfl D99_1_147 ?_
    refine G.iconst K D99_1_148 1 rfl ?_
    refine G.iadd K D99_1_149 ?_
    change G k n0 _ h600 _ _ 150 [.val (.ref a), .val (.ref fa), .val (.ref sa), .val (.ref ta), .val (.int 3), .val (.ref ca), .val (.ref b590), .val (.int 0), .val (.ref a592), .val (.ref a594), .val (.int 1), .val (.int 1), .val (.int (Int32.ofNat y1))] [.int 2, .int 1, .ref a592]
    refine G.astore_i K H600 (i := 1) rfl (by decide) (Nat.le_of_ble_eq_true rfl) D99_1_150 ?_
    intro h603 H603
    change Hp n0 h603 ((a594, Ia Z [(sF ke y0), (tF ke y0), 0, 0, 0, 0]) :: (a592, Ia Z [0, 2]) :: (b590, Ia Z [Int32.ofNat y0, Int32.ofNat y1, Int32.ofNat y2]) :: (fa, Ia Z (lst 4 (fun _ => 0))) :: (sa, Ia Z (lst 4 (sF ke))) :: (ta, Ia Z (lst 4 (tF ke))) :: (a584, Xa Z [0, 1, 2]) :: (a, Ob Z "com/example/rankwise/rankwise/store/TripleIndex" NST [.ref a584, .null, .null]) :: (ca, Xa Z [0, 1, 2]) :: σ) at H603
    refine G.aload K D99_1_151 rfl rfl ?_
    refine G.iconst K D99_1_153 2 rfl ?_
    refine G.iload K D99_1_154 rfl ?_
    refine G.imul K D99_1_156 ?_
    change G k n0 _ h603 _ _ 157 [.val (.ref a), .val (.ref fa), .val (.ref sa), .val (.ref ta), .val (.int 3), .val (.ref ca), .val (.ref b590), .val (.int 0), .val (.ref a592), .val (.ref a594), .val (.int 1), .val (.int 1), .val (.int (Int32.ofNat y1))] [.int 2, .ref a594]
    refine G.aloadN K D99_1_157 rfl rfl ?_
    refine G.iload K D99_1_158 rfl ?_
    refine G.aload_i K H603 (i := 4) rfl (own_nneg (by omega)) (by rw [own_nidx (by omega)]; exact lst_get _ (by omega)) D99_1_160 ?_
    refine G.astore_i K H603 (i := 0) rfl (by decide) (Nat.le_of_ble_eq_true rfl) D99_1_161 ?_
    intro h604 H604
    change Hp n0 h604 ((a594, Ia Z [(sF ke y0), (tF ke y0), (sF ke y1), 0, 0, 0]) :: (a592, Ia Z [0, 2]) :: (b590, Ia Z [Int32.ofNat y0, Int32.ofNat y1, Int32.ofNat y2]) :: (fa, Ia Z (lst 4 (fun _ => 0))) :: (sa, Ia Z (lst 4 (sF ke))) :: (ta, Ia Z (lst 4 (tF ke))) :: (a584, Xa Z [0, 1, 2]) :: (a, Ob Z "com/example/rankwise/rankwise/store/TripleIndex" NST [.ref a584, .null, .null]) :: (ca, Xa Z [0, 1, 2]) :: σ) at H604
    refine G.aload K D99_1_162 rfl rfl ?_
    refine G.iconst K D99_1_164 2 rfl ?_
    refine G.iload K D99_1_165 rfl ?_
    refine G.imul K D99_1_167 ?_
    change G k n0 _ h604 _ _ 168 [.val (.ref a), .val (.ref fa), .val (.ref sa), .val (.ref ta), .val (.int 3), .val (.ref ca), .val (.ref b590), .val (.int 0), .val (.ref a592), .val (.ref a594), .val (.int 1), .val (.int 1), .val (.int (Int32.ofNat y1))] [.int 2, .ref a594]
    refine G.iconst K D99_1_168 1 rfl ?_
    refine G.iadd K D99_1_169 ?_
    change G k n0 _ h604 _ _ 170 [.val (.ref a), .val (.ref fa), .val (.ref sa), .val (.ref ta), .val (.int 3), .val (.ref ca), .val (.ref b590), .val (.int 0), .val (.ref a592), .val (.ref a594), .val (.int 1), .val (.int 1), .val (.int (Int32.ofNat y1))] [.int 3, .ref a594]
    refine G.aloadN K D99_1_170 rfl rfl ?_
    refine G.iload K D99_1_171 rfl ?_
    refine G.aload_i K H604 (i := 5) rfl (own_nneg (by omega)) (by rw [own_nidx (by omega)]; exact lst_get _ (by omega)) D99_1_173 ?_
    refine G.astore_i K H604 (i := 0) rfl (by decide) (Nat.le_of_ble_eq_true rfl) D99_1_174 ?_
    intro h605 H605
    change Hp n0 h605 ((a594, Ia Z [(sF ke y0), (tF ke y0), (sF ke y1), (tF ke y1), 0, 0]) :: (a592, Ia Z [0, 2]) :: (b590, Ia Z [Int32.ofNat y0, Int32.ofNat y1, Int32.ofNat y2]) :: (fa, Ia Z (lst 4 (fun _ => 0))) :: (sa, Ia Z (lst 4 (sF ke))) :: (ta, Ia Z (lst 4 (tF ke))) :: (a584, Xa Z [0, 1, 2]) :: (a, Ob Z "com/example/rankwise/rankwise/store/TripleIndex" NST [.ref a584, .null, .null]) :: (ca, Xa Z [0, 1, 2]) :: σ) at H605
    refine G.iinc K D99_1_175 1 rfl rfl ([.val (.ref a), .val (.ref fa), .val (.ref sa), .val (.ref ta), .val (.int 3), .val (.ref ca), .val (.ref b590), .val (.int 0), .val (.ref a592), .val (.ref a594), .val (.int (1 + 1)), .val (.int 1), .val (.int (Int32.ofNat y1))]) rfl ?_
    change G k n0 _ h605 _ _ 178 [.val (.ref a), .val (.ref fa), .val (.ref sa), .val (.ref ta), .val (.int 3), .val (.ref ca), .val (.ref b590), .val (.int 0), .val (.ref a592), .val (.ref a594), .val (.int 2), .val (.int 1), .val (.int (Int32.ofNat y1))] []
    refine G.iinc K D99_1_178 1 rfl rfl ([.val (.ref a), .val (.ref fa), .val (.ref sa), .val (.ref ta), .val (.int 3), .val (.ref ca), .val (.ref b590), .val (.int 0), .val (.ref a592), .val (.ref a594), .val (.int 2), .val (.int (1 + 1)), .val (.int (Int32.ofNat y1))]) rfl ?_
    change G k n0 _ h605 _ _ 181 [.val (.ref a), .val (.ref fa), .val (.ref sa), .val (.ref ta), .val (.int 3), .val (.ref ca), .val (.ref b590), .val (.int 0), .val (.ref a592), .val (.ref a594), .val (.int 2), .val (.int 2), .val (.int (Int32.ofNat y1))] []
    refine G.goto K D99_1_181 ?_
    refine G.iload K D99_1_68 rfl ?_
    refine G.iload K D99_1_70 rfl ?_
    refine G.icmp_ge K D99_1_72 (fun q => absurd q (by decide)) (fun _ => ?_)
    refine G.aload K D99_1_75 rfl rfl ?_
    refine G.iload K D99_1_77 rfl ?_
    refine G.aload_i K H605 (i := 2) rfl (by decide) rfl D99_1_79 ?_
    refine G.istore K D99_1_80 ([.val (.ref a), .val (.ref fa), .val (.ref sa), .val (.ref ta), .val (.int 3), .val (.ref ca), .val (.ref b590), .val (.int 0), .val (.ref a592), .val (.ref a594), .val (.int 2), .val (.int 2), .val (.int (Int32.ofNat y2))]) rfl ?_
    have T607 : ¬ ke y2 = ke y1 → G k n0 (fun v h' => ∃ (b1 b2 b3 : Addr) (L : Nat) (zf : Nat → Nat), v = none ∧ DD ke zf L (fun f => D3 f (ke 0) (ke 1) (ke 2)) ∧ Hp n0 h' ((a, Ob Z "com/example/rankwise/rankwise/store/TripleIndex" NST [.ref b1, .ref b2, .ref b3]) :: (b3, Ia Z (lst (2 * L) (cF ke zf))) :: (fa, Ia Z (lst 4 (fun _ => 0))) :: (sa, Ia Z (lst 4 (sF ke))) :: (ta, Ia Z (lst 4 (tF ke))) :: σ)) h605 5 17 138 [.val (.ref a), .val (.ref fa), .val (.ref sa), .val (.ref ta), .val (.int 3), .val (.ref ca), .val (.ref b590), .val (.int 0), .val (.ref a592), .val (.ref a594), .val (.int 2), .val (.int 2), .val (.int (Int32.ofNat y2))] [] := by
      intro ne2
      refine G.aload K D99_1_138 rfl rfl ?_
      refine G.aloadN K D99_1_140 rfl rfl ?_
      refine G.iload K D99_1_141 rfl ?_
      refine G.aload_i K H605 (i := 3) rfl (own_nneg (by omega)) (by rw [own_nidx (by omega)]; exact lst_get _ (by omega)) D99_1_143 ?_
      refine G.iconst K D99_1_144 1 rfl ?_
      refine G.iadd K D99_1_145 ?_
      change G k n0 _ h605 _ _ 146 [.val (.ref a), .val (.ref fa), .val (.ref sa), .val (.ref ta), .val (.int 3), .val (.ref ca), .val (.ref b590), .val (.int 0), .val (.ref a592), .val (.ref a594), .val (.int 2), .val (.int 2), .val (.int (Int32.ofNat y2))] [.int 1, .ref a592]
      refine G.dup2 K D99_1_146 rfl rfl ?_
      refine G.aload_i K H605 (i := 1) rfl (by decide) rfl D99_1_147 ?_
      refine G.iconst K D99_1_148 1 rfl ?_
      refine G.iadd K D99_1_149 ?_
      change G k n0 _ h605 _ _ 150 [.val (.ref a), .val (.ref fa), .val (.ref sa), .val (.ref ta), .val (.int 3), .val (.ref ca), .val (.ref b590), .val (.int 0), .val (.ref a592), .val (.ref a594), .val (.int 2), .val (.int 2), .val (.int (Int32.ofNat y2))] [.int 3, .int 1, .ref a592]
      refine G.astore_i K H605 (i := 1) rfl (by decide) (Nat.le_of_ble_eq_true rfl) D99_1_150 ?_
      intro h608 H608
      change Hp n0 h608 ((a594, Ia Z [(sF ke y0), (tF ke y0), (sF ke y1), (tF ke y1), 0, 0]) :: (a592, Ia Z [0, 3]) :: (b590, Ia Z [Int32.ofNat y0, Int32.ofNat y1, Int32.ofNat y2]) :: (fa, Ia Z (lst 4 (fun _ => 0))) :: (sa, Ia Z (lst 4 (sF ke))) :: (ta, Ia Z (lst 4 (tF ke))) :: (a584, Xa Z [0, 1, 2]) :: (a, Ob Z "com/example/rankwise/rankwise/store/TripleIndex" NST [.ref a584, .null, .null]) :: (ca, Xa Z [0, 1, 2]) :: σ) at H608
      refine G.aload K D99_1_151 rfl rfl ?_
      refine G.iconst K D99_1_153 2 rfl ?_
      refine G.iload K D99_1_154 rfl ?_
      refine G.imul K D99_1_156 ?_
      change G k n0 _ h608 _ _ 157 [.val (.ref a), .val (.ref fa), .val (.ref sa), .val (.ref ta), .val (.int 3), .val (.ref ca), .val (.ref b590), .val (.int 0), .val (.ref a592), .val (.ref a594), .val (.int 2), .val (.int 2), .val (.int (Int32.ofNat y2))] [.int 4, .ref a594]
      refine G.aloadN K D99_1_157 rfl rfl ?_
      refine G.iload K D99_1_158 rfl ?_
      refine G.aload_i K H608 (i := 4) rfl (own_nneg (by omega)) (by rw [own_nidx (by omega)]; exact lst_get _ (by omega)) D99_1_160 ?_
      refine G.astore_i K H608 (i := 0) rfl (by decide) (Nat.le_of_ble_eq_true rfl) D99_1_161 ?_
      intro h609 H609
      change Hp n0 h609 ((a594, Ia Z [(sF ke y0), (tF ke y0), (sF ke y1), (tF ke y1), (sF ke y2), 0]) :: (a592, Ia Z [0, 3]) :: (b590, Ia Z [Int32.ofNat y0, Int32.ofNat y1, Int32.ofNat y2]) :: (fa, Ia Z (lst 4 (fun _ => 0))) :: (sa, Ia Z (lst 4 (sF ke))) :: (ta, Ia Z (lst 4 (tF ke))) :: (a584, Xa Z [0, 1, 2]) :: (a, Ob Z "com/example/rankwise/rankwise/store/TripleIndex" NST [.ref a584, .null, .null]) :: (ca, Xa Z [0, 1, 2]) :: σ) at H609
      refine G.aload K D99_1_162 rfl rfl ?_
      refine G.iconst K D99_1_164 2 rfl ?_
      refine G.iload K D99_1_165 rfl ?_
      refine G.imul K D99_1_167 ?_
      change G k n0 _ h609 _ _ 168 [.val (.ref a), .val (.ref fa), .val (.ref sa), .val (.ref ta), .val (.int 3), .val (.ref ca), .val (.ref b590), .val (.int 0), .val (.ref a592), .val (.ref a594), .val (.int 2), .val (.int 2), .val (.int (Int32.ofNat y2))] [.int 4, .ref a594]
      refine G.iconst K D99_1_168 1 rfl ?_
      refine G.iadd K D99_1_169 ?_
      change G k n0 _ h609 _ _ 170 [.val (.ref a), .val (.ref fa), .val (.ref sa), .val (.ref ta), .val (.int 3), .val (.ref ca), .val (.ref b590), .val (.int 0), .val (.ref a592), .val (.ref a594), .val (.int 2), .val (.int 2), .val (.int (Int32.ofNat y2))] [.int 5, .ref a594]
      refine G.aloadN K D99_1_170 rfl rfl ?_
      refine G.iload K D99_1_171 rfl ?_
      refine G.aload_i K H609 (i := 5) rfl (own_nneg (by omega)) (by rw [own_nidx (by omega)]; exact lst_get _ (by omega)) D99_1_173 ?_
      refine G.astore_i K H609 (i := 0) rfl (by decide) (Nat.le_of_ble_eq_true rfl) D99_1_174 ?_
      intro h610 H610
      change Hp n0 h610 ((a594, Ia Z [(sF ke y0), (tF ke y0), (sF ke y1), (tF ke y1), (sF ke y2), (tF ke y2)]) :: (a592, Ia Z [0, 3]) :: (b590, Ia Z [Int32.ofNat y0, Int32.ofNat y1, Int32.ofNat y2]) :: (fa, Ia Z (lst 4 (fun _ => 0))) :: (sa, Ia Z (lst 4 (sF ke))) :: (ta, Ia Z (lst 4 (tF ke))) :: (a584, Xa Z [0, 1, 2]) :: (a, Ob Z "com/example/rankwise/rankwise/store/TripleIndex" NST [.ref a584, .null, .null]) :: (ca, Xa Z [0, 1, 2]) :: σ) at H610
      refine G.iinc K D99_1_175 1 rfl rfl ([.val (.ref a), .val (.ref fa), .val (.ref sa), .val (.ref ta), .val (.int 3), .val (.ref ca), .val (.ref b590), .val (.int 0), .val (.ref a592), .val (.ref a594), .val (.int (2 + 1)), .val (.int 2), .val (.int (Int32.ofNat y2))]) rfl ?_
      change G k n0 _ h610 _ _ 178 [.val (.ref a), .val (.ref fa), .val (.ref sa), .val (.ref ta), .val (.int 3), .val (.ref ca), .val (.ref b590), .val (.int 0), .val (.ref a592), .val (.ref a594), .val (.int 3), .val (.int 2), .val (.int (Int32.ofNat y2))] []
      refine G.iinc K D99_1_178 1 rfl rfl ([.val (.ref a), .val (.ref fa), .val (.ref sa), .val (.ref ta), .val (.int 3), .val (.ref ca), .val (.ref b590), .val (.int 0), .val (.ref a592), .val (.ref a594), .val (.int 3), .val (.int (2 + 1)), .val (.int (Int32.ofNat y2))]) rfl ?_
      change G k n0 _ h610 _ _ 181 [.val (.ref a), .val (.ref fa), .val (.ref sa), .val (.ref ta), .val (.int 3), .val (.ref ca), .val (.ref b590), .val (.int 0), .val (.ref a592), .val (.ref a594), .val (.int 3), .val (.int 3), .val (.int (Int32.ofNat y2))] []
      refine G.goto K D99_1_181 ?_
      refine G.iload K D99_1_68 rfl ?_
      refine G.iload K D99_1_70 rfl ?_
      refine G.icmp_ge K D99_1_72 (fun _ => ?_) (fun q => absurd q (by decide))
      refine G.iconst K D99_1_184 1 rfl ?_
      refine G.istore K D99_1_185 ([.val (.ref a), .val (.ref fa), .val (.ref sa), .val (.ref ta), .val (.int 3), .val (.ref ca), .val (.ref b590), .val (.int 0), .val (.ref a592), .val (.ref a594), .val (.int 3), .val (.int 1), .val (.int (Int32.ofNat y2))]) rfl ?_
      refine G.iload K D99_1_187 rfl ?_
      refine G.aload K D99_1_189 rfl rfl ?_
      refine G.alen K H610 (i := 1) rfl D99_1_191 2 rfl ?_
      refine G.icmp_ge K D99_1_192 (fun q => absurd q (by decide)) (fun _ => ?_)
      refine G.aload K D99_1_195 rfl rfl ?_
      refine G.iload K D99_1_197 rfl ?_
      refine G.dup2 K D99_1_199 rfl rfl ?_
      refine G.aload_i K H610 (i := 1) rfl (by decide) rfl D99_1_200 ?_
      refine G.aload K D99_1_201 rfl rfl ?_
      refine G.iload K D99_1_203 rfl ?_
      refine G.iconst K D99_1_205 1 rfl ?_
      refine G.isub K D99_1_206 ?_
      change G k n0 _ h610 _ _ 207 [.val (.ref a), .val (.ref fa), .val (.ref sa), .val (.ref ta), .val (.int 3), .val (.ref ca), .val (.ref b590), .val (.int 0), .val (.ref a592), .val (.ref a594), .val (.int 3), .val (.int 1), .val (.int (Int32.ofNat y2))] [.int 0, .ref a592, .int 3, .int 1, .ref a592]
      refine G.aload_i K H610 (i := 1) rfl (by decide) rfl D99_1_207 ?_
      refine G.iadd K D99_1_208 ?_
      change G k n0 _ h610 _ _ 209 [.val (.ref a), .val (.ref fa), .val (.ref sa), .val (.ref ta), .val (.int 3), .val (.ref ca), .val (.ref b590), .val (.int 0), .val (.ref a592), .val (.ref a594), .val (.int 3), .val (.int 1), .val (.int (Int32.ofNat y2))] [.int 3, .int 1, .ref a592]
      refine G.astore_i K H610 (i := 1) rfl (by decide) (Nat.le_of_ble_eq_true rfl) D99_1_209 ?_
      intro h613 H613
      change Hp n0 h613 ((a594, Ia Z [(sF ke y0), (tF ke y0), (sF ke y1), (tF ke y1), (sF ke y2), (tF ke y2)]) :: (a592, Ia Z [0, 3]) :: (b590, Ia Z [Int32.ofNat y0, Int32.ofNat y1, Int32.ofNat y2]) :: (fa, Ia Z (lst 4 (fun _ => 0))) :: (sa, Ia Z (lst 4 (sF ke))) :: (ta, Ia Z (lst 4 (tF ke))) :: (a584, Xa Z [0, 1, 2]) :: (a, Ob Z "com/example/rankwise/rankwise/store/TripleIndex" NST [.ref a584, .null, .null]) :: (ca, Xa Z [0, 1, 2]) :: σ) at H613
      refine G.iinc K D99_1_210 1 rfl rfl ([.val (.ref a), .val (.ref fa), .val (.ref sa), .val (.ref ta), .val (.int 3), .val (.ref ca), .val (.ref b590), .val (.int 0), .val (.ref a592), .val (.ref a594), .val (.int 3), .val (.int (1 + 1)), .val (.int (Int32.ofNat y2))]) rfl ?_
      change G k n0 _ h613 _ _ 213 [.val (.ref a), .val (.ref fa), .val (.ref sa), .val (.ref ta), .val (.int 3), .val (.ref ca), .val (.ref b590), .val (.int 0), .val (.ref a592), .val (.ref a594), .val (.int 3), .val (.int 2), .val (.int (Int32.ofNat y2))] []
      refine G.goto K D99_1_213 ?_
      refine G.iload K D99_1_187 rfl ?_
      refine G.aload K D99_1_189 rfl rfl ?_
      refine G.alen K H613 (i := 1) rfl D99_1_191 2 rfl ?_
      refine G.icmp_ge K D99_1_192 (fun _ => ?_) (fun q => absurd q (by decide))
      refine G.aloadN K D99_1_216 rfl rfl ?_
      refine G.aload K D99_1_217 rfl rfl ?_
      refine G.putF K (host := "") (Or.inl (wd hw 24 rfl)) (cf_NST hw) (Or.inr ⟨(wd hw 25 rfl), rfl, rfl⟩) (wd hw 2 rfl) H613 (i := 7) rfl (j := 1) rfl rfl (ty := (.array .int)) (by decide) rfl rfl D99_1_219 ?_
      intro h615 H615
      change Hp n0 h615 ((a594, Ia Z [(sF ke y0), (tF ke y0), (sF ke y1), (tF ke y1), (sF ke y2), (tF ke y2)]) :: (a592, Ia Z [0, 3]) :: (b590, Ia Z [Int32.ofNat y0, Int32.ofNat y1, Int32.ofNat y2]) :: (fa, Ia Z (lst 4 (fun _ => 0))) :: (sa, Ia Z (lst 4 (sF ke))) :: (ta, Ia Z (lst 4 (tF ke))) :: (a584, Xa Z [0, 1, 2]) :: (a, Ob Z "com/example/rankwise/rankwise/store/TripleIndex" NST [.ref a584, .ref a592, .null]) :: (ca, Xa Z [0, 1, 2]) :: σ) at H615
      refine G.aloadN K D99_1_222 rfl rfl ?_
      refine G.iload K D99_1_223 rfl ?_
      refine G.iload K D99_1_225 rfl ?_
      refine G.icmp_ne K D99_1_227 (fun q => absurd q (by decide)) (fun _ => ?_)
      refine G.aload K D99_1_230 rfl rfl ?_
      refine G.goto K D99_1_232 ?_
      refine G.putF K (host := "") (Or.inl (wd hw 26 rfl)) (cf_NST hw) (Or.inr ⟨(wd hw 27 rfl), rfl, rfl⟩) (wd hw 2 rfl) H615 (i := 7) rfl (j := 2) rfl rfl (ty := (.array .int)) (by decide) rfl rfl D99_1_244 ?_
      intro h617 H617
      change Hp n0 h617 ((a594, Ia Z [(sF ke y0), (tF ke y0), (sF ke y1), (tF ke y1), (sF ke y2), (tF ke y2)]) :: (a592, Ia Z [0, 3]) :: (b590, Ia Z [Int32.ofNat y0, Int32.ofNat y1, Int32.ofNat y2]) :: (fa, Ia Z (lst 4 (fun _ => 0))) :: (sa, Ia Z (lst 4 (sF ke))) :: (ta, Ia Z (lst 4 (tF ke))) :: (a584, Xa Z [0, 1, 2]) :: (a, Ob Z "com/example/rankwise/rankwise/store/TripleIndex" NST [.ref a584, .ref a592, .ref a594]) :: (ca, Xa Z [0, 1, 2]) :: σ) at H617
      refine G.ret_void K D99_1_247 ?_
      have H618 : Hp n0 h617 ((ta, Ia Z (lst 4 (tF ke))) :: (a594, Ia Z [(sF ke y0), (tF ke y0), (sF ke y1), (tF ke y1), (sF ke y2), (tF ke y2)]) :: (a592, Ia Z [0, 3]) :: (b590, Ia Z [Int32.ofNat y0, Int32.ofNat y1, Int32.ofNat y2]) :: (fa, Ia Z (lst 4 (fun _ => 0))) :: (sa, Ia Z (lst 4 (sF ke))) :: (a584, Xa Z [0, 1, 2]) :: (a, Ob Z "com/example/rankwise/rankwise/store/TripleIndex" NST [.ref a584, .ref a592, .ref a594]) :: (ca, Xa Z [0, 1, 2]) :: σ) := H617.pull 5 rfl
      have H619 : Hp n0 h617 ((sa, Ia Z (lst 4 (sF ke))) :: (ta, Ia Z (lst 4 (tF ke))) :: (a594, Ia Z [(sF ke y0), (tF ke y0), (sF ke y1), (tF ke y1), (sF ke y2), (tF ke y2)]) :: (a592, Ia Z [0, 3]) :: (b590, Ia Z [Int32.ofNat y0, Int32.ofNat y1, Int32.ofNat y2]) :: (fa, Ia Z (lst 4 (fun _ => 0))) :: (a584, Xa Z [0, 1, 2]) :: (a, Ob Z "com/example/rankwise/rankwise/store/TripleIndex" NST [.ref a584, .ref a592, .ref a594]) :: (ca, Xa Z [0, 1, 2]) :: σ) := H618.pull 5 rfl
      have H620 : Hp n0 h617 ((fa, Ia Z (lst 4 (fun _ => 0))) :: (sa, Ia Z (lst 4 (sF ke))) :: (ta, Ia Z (lst 4 (tF ke))) :: (a594, Ia Z [(sF ke y0), (tF ke y0), (sF ke y1), (tF ke y1), (sF ke y2), (tF ke y2)]) :: (a592, Ia Z [0, 3]) :: (b590, Ia Z [Int32.ofNat y0, Int32.ofNat y1, Int32.ofNat y2]) :: (a584, Xa Z [0, 1, 2]) :: (a, Ob Z "com/example/rankwise/rankwise/store/TripleIndex" NST [.ref a584, .ref a592, .ref a594]) :: (ca, Xa Z [0, 1, 2]) :: σ) := H619.pull 5 rfl
      have H621 : Hp n0 h617 ((a594, Ia Z [(sF ke y0), (tF ke y0), (sF ke y1), (tF ke y1), (sF ke y2), (tF ke y2)]) :: (fa, Ia Z (lst 4 (fun _ => 0))) :: (sa, Ia Z (lst 4 (sF ke))) :: (ta, Ia Z (lst 4 (tF ke))) :: (a592, Ia Z [0, 3]) :: (b590, Ia Z [Int32.ofNat y0, Int32.ofNat y1, Int32.ofNat y2]) :: (a584, Xa Z [0, 1, 2]) :: (a, Ob Z "com/example/rankwise/rankwise/store/TripleIndex" NST [.ref a584, .ref a592, .ref a594]) :: (ca, Xa Z [0, 1, 2]) :: σ) := H620.pull 3 rfl
      have H622 : Hp n0 h617 ((a, Ob Z "com/example/rankwise/rankwise/store/TripleIndex" NST [.ref a584, .ref a592, .ref a594]) :: (a594, Ia Z [(sF ke y0), (tF ke y0), (sF ke y1), (tF ke y1), (sF ke y2), (tF ke y2)]) :: (fa, Ia Z (lst 4 (fun _ => 0))) :: (sa, Ia Z (lst 4 (sF ke))) :: (ta, Ia Z (lst 4 (tF ke))) :: (a592, Ia Z [0, 3]) :: (b590, Ia Z [Int32.ofNat y0, Int32.ofNat y1, Int32.ofNat y2]) :: (a584, Xa Z [0, 1, 2]) :: (ca, Xa Z [0, 1, 2]) :: σ) := H621.pull 7 rfl
      have H623 : Hp n0 h617 ((a, Ob Z "com/example/rankwise/rankwise/store/TripleIndex" NST [.ref a584, .ref a592, .ref a594]) :: (a594, Ia Z [(sF ke y0), (tF ke y0), (sF ke y1), (tF ke y1), (sF ke y2), (tF ke y2)]) :: (fa, Ia Z (lst 4 (fun _ => 0))) :: (sa, Ia Z (lst 4 (sF ke))) :: (ta, Ia Z (lst 4 (tF ke))) :: σ) := H622.sub (List.Sublist.cons_cons _ (List.Sublist.cons_cons _ (List.Sublist.cons_cons _ (List.Sublist.cons_cons _ (List.Sublist.cons_cons _ (List.Sublist.cons _ (List.Sublist.cons _ (List.Sublist.cons _ (List.Sublist.cons _ (List.Sublist.refl _))))))))))
      refine ⟨_, _, _, 3, fun i => [y0, y1, y2].getD i 0, rfl, ⟨by decide, ?_, ?_⟩, H623⟩
      · intro i hi
        rcases (by omega : i = 0 ∨ i = 1) with rfl | rfl
        · show ke y0 < ke y1; omega
        · show ke y1 < ke y2; omega
      · intro f
        show 0 + f (ke y0) + f (ke y1) + f (ke y2) = D3 f (ke 0) (ke 1) (ke 2)
        rw [← pm3 ke f f0 f1 f2 f3 f4 f5]
        unfold D3
        rw [if_neg (show ¬ (ke y1 = ke y0) by omega), if_neg (show ¬ (ke y2 = ke y0 ∨ ke y2 = ke y1) by omega)]; omega
    refine G.iload K D99_1_82 rfl ?_
    refine G.if_le K D99_1_84 (fun q => absurd q (by decide)) (fun _ => ?_)
    refine G.aloadN K D99_1_87 rfl rfl ?_
    refine G.iload K D99_1_88 rfl ?_
    refine G.aload_i K H605 (i := 3) rfl (own_nneg (by omega)) (by rw [own_nidx (by omega)]; exact lst_get _ (by omega)) D99_1_90 ?_
    refine G.aloadN K D99_1_91 rfl rfl ?_
    refine G.aload K D99_1_92 rfl rfl ?_
    refine G.iload K D99_1_94 rfl ?_
    refine G.iconst K D99_1_96 1 rfl ?_
    refine G.isub K D99_1_97 ?_
    change G k n0 _ h605 _ _ 98 [.val (.ref a), .val (.ref fa), .val (.ref sa), .val (.ref ta), .val (.int 3), .val (.ref ca), .val (.ref b590), .val (.int 0), .val (.ref a592), .val (.ref a594), .val (.int 2), .val (.int 2), .val (.int (Int32.ofNat y2))] [.int 1, .ref b590, .ref fa, .int 0]
    refine G.aload_i K H605 (i := 2) rfl (by decide) rfl D99_1_98 ?_
    refine G.aload_i K H605 (i := 3) rfl (own_nneg (by omega)) (by rw [own_nidx (by omega)]; exact lst_get _ (by omega)) D99_1_99 ?_
    refine G.icmp_ne K D99_1_100 (fun q => absurd q (by decide)) (fun _ => ?_)
    refine G.aloadN K D99_1_103 rfl rfl ?_
    refine G.iload K D99_1_104 rfl ?_
    refine G.aload_i K H605 (i := 4) rfl (own_nneg (by omega)) (by rw [own_nidx (by omega)]; exact lst_get _ (by omega)) D99_1_106 ?_
    refine G.aload K D99_1_107 rfl rfl ?_
    refine G.iconst K D99_1_109 2 rfl ?_
    refine G.iload K D99_1_110 rfl ?_
    refine G.imul K D99_1_112 ?_
    change G k n0 _ h605 _ _ 113 [.val (.ref a), .val (.ref fa), .val (.ref sa), .val (.ref ta), .val (.int 3), .val (.ref ca), .val (.ref b590), .val (.int 0), .val (.ref a592), .val (.ref a594), .val (.int 2), .val (.int 2), .val (.int (Int32.ofNat y2))] [.int 4, .ref a594, .int (sF ke y2)]
    refine G.iconst K D99_1_113 2 rfl ?_
    refine G.isub K D99_1_114 ?_
    change G k n0 _ h605 _ _ 115 [.val (.ref a), .val (.ref fa), .val (.ref sa), .val (.ref ta), .val (.int 3), .val (.ref ca), .val (.ref b590), .val (.int 0), .val (.ref a592), .val (.ref a594), .val (.int 2), .val (.int 2), .val (.int (Int32.ofNat y2))] [.int 2, .ref a594, .int (sF ke y2)]
    refine G.aload_i K H605 (i := 0) rfl (by decide) rfl D99_1_115 ?_
    refine G.icmp_ne K D99_1_116 (fun q626 => ?_) (fun q626 => ?_)
    · exact T607 (key_ns q626)
    · refine G.aloadN K D99_1_119 rfl rfl ?_
      refine G.iload K D99_1_120 rfl ?_
      refine G.aload_i K H605 (i := 5) rfl (own_nneg (by omega)) (by rw [own_nidx (by omega)]; exact lst_get _ (by omega)) D99_1_122 ?_
      refine G.aload K D99_1_123 rfl rfl ?_
      refine G.iconst K D99_1_125 2 rfl ?_
      refine G.iload K D99_1_126 rfl ?_
      refine G.imul K D99_1_128 ?_
      change G k n0 _ h605 _ _ 129 [.val (.ref a), .val (.ref fa), .val (.ref sa), .val (.ref ta), .val (.int 3), .val (.ref ca), .val (.ref b590), .val (.int 0), .val (.ref a592), .val (.ref a594), .val (.int 2), .val (.int 2), .val (.int (Int32.ofNat y2))] [.int 4, .ref a594, .int (tF ke y2)]
      refine G.iconst K D99_1_129 1 rfl ?_
      refine G.isub K D99_1_130 ?_
      change G k n0 _ h605 _ _ 131 [.val (.ref a), .val (.ref fa), .val (.ref sa), .val (.ref ta), .val (.int 3), .val (.ref ca), .val (.ref b590), .val (.int 0), .val (.ref a592), .val (.ref a594), .val (.int 2), .val (.int 2), .val (.int (Int32.ofNat y2))] [.int 3, .ref a594, .int (tF ke y2)]
      refine G.aload_i K H605 (i := 0) rfl (by decide) rfl D99_1_131 ?_
      refine G.icmp_ne K D99_1_132 (fun q627 => ?_) (fun q627 => ?_)
      · exact T607 (key_nt q627)
      · have eq2 : ke y2 = ke y1 := key_eq hK q626 q627
        refine G.goto K D99_1_135 ?_
        refine G.iinc K D99_1_178 1 rfl rfl ([.val (.ref a), .val (.ref fa), .val (.ref sa), .val (.ref ta), .val (.int 3), .val (.ref ca), .val (.ref b590), .val (.int 0), .val (.ref a592), .val (.ref a594), .val (.int 2), .val (.int (2 + 1)), .val (.int (Int32.ofNat y2))]) rfl ?_
        change G k n0 _ h605 _ _ 181 [.val (.ref a), .val (.ref fa), .val (.ref sa), .val (.ref ta), .val (.int 3), .val (.ref ca), .val (.ref b590), .val (.int 0), .val (.ref a592), .val (.ref a594), .val (.int 2), .val (.int 3), .val (.int (Int32.ofNat y2))] []
        refine G.goto K D99_1_181 ?_
        refine G.iload K D99_1_68 rfl ?_
        refine G.iload K D99_1_70 rfl ?_
        refine G.icmp_ge K D99_1_72 (fun _ => ?_) (fun q => absurd q (by decide))
        refine G.iconst K D99_1_184 1 rfl ?_
        refine G.istore K D99_1_185 ([.val (.ref a), .val (.ref fa), .val (.ref sa), .val (.ref ta), .val (.int 3), .val (.ref ca), .val (.ref b590), .val (.int 0), .val (.ref a592), .val (.ref a594), .val (.int 2), .val (.int 1), .val (.int (Int32.ofNat y2))]) rfl ?_
        refine G.iload K D99_1_187 rfl ?_
        refine G.aload K D99_1_189 rfl rfl ?_
        refine G.alen K H605 (i := 1) rfl D99_1_191 2 rfl ?_
        refine G.icmp_ge K D99_1_192 (fun q => absurd q (by decide)) (fun _ => ?_)
        refine G.aload K D99_1_195 rfl rfl ?_
        refine G.iload K D99_1_197 rfl ?_
        refine G.dup2 K D99_1_199 rfl rfl ?_
        refine G.aload_i K H605 (i := 1) rfl (by decide) rfl D99_1_200 ?_
        refine G.aload K D99_1_201 rfl rfl ?_
        refine G.iload K D99_1_203 rfl ?_
        refine G.iconst K D99_1_205 1 rfl ?_
        refine G.isub K D99_1_206 ?_
        change G k n0 _ h605 _ _ 207 [.val (.ref a), .val (.ref fa), .val (.ref sa), .val (.ref ta), .val (.int 3), .val (.ref ca), .val (.ref b590), .val (.int 0), .val (.ref a592), .val (.ref a594), .val (.int 2), .val (.int 1), .val (.int (Int32.ofNat y2))] [.int 0, .ref a592, .int 2, .int 1, .ref a592]
        refine G.aload_i K H605 (i := 1) rfl (by decide) rfl D99_1_207 ?_
        refine G.iadd K D99_1_208 ?_
        change G k n0 _ h605 _ _ 209 [.val (.ref a), .val (.ref fa), .val (.ref sa), .val (.ref ta), .val (.int 3), .val (.ref ca), .val (.ref b590), .val (.int 0), .val (.ref a592), .val (.ref a594), .val (.int 2), .val (.int 1), .val (.int (Int32.ofNat y2))] [.int 2, .int 1, .ref a592]
        refine G.astore_i K H605 (i := 1) rfl (by decide) (Nat.le_of_ble_eq_true rfl) D99_1_209 ?_
        intro h630 H630
        change Hp n0 h630 ((a594, Ia Z [(sF ke y0), (tF ke y0), (sF ke y1), (tF ke y1), 0, 0]) :: (a592, Ia Z [0, 2]) :: (b590, Ia Z [Int32.ofNat y0, Int32.ofNat y1, Int32.ofNat y2]) :: (fa, Ia Z (lst 4 (fun _ => 0))) :: (sa, Ia Z (lst 4 (sF ke))) :: (ta, Ia Z (lst 4 (tF ke))) :: (a584, Xa Z [0, 1, 2]) :: (a, Ob Z "com/example/rankwise/rankwise/store/TripleIndex" NST [.ref a584, .null, .null]) :: (ca, Xa Z [0, 1, 2]) :: σ) at H630
        refine G.iinc K D99_1_210 1 rfl rfl ([.val (.ref a), .val (.ref fa), .val (.ref sa), .val (.ref ta), .val (.int 3), .val (.ref ca), .val (.ref b590), .val (.int 0), .val (.ref a592), .val (.ref a594), .val (.int 2), .val (.int (1 + 1)), .val (.int (Int32.ofNat y2))]) rfl ?_
        change G k n0 _ h630 _ _ 213 [.val (.ref a), .val (.ref fa), .val (.ref sa), .val (.ref ta), .val (.int 3), .val (.ref ca), .val (.ref b590), .val (.int 0), .val (.ref a592), .val (.ref a594), .val (.int 2), .val (.int 2), .val (.int (Int32.ofNat y2))] []
        refine G.goto K D99_1_213 ?_
        refine G.iload K D99_1_187 rfl ?_
        refine G.aload K D99_1_189 rfl rfl ?_
        refine G.alen K H630 (i := 1) rfl D99_1_191 2 rfl ?_
        refine G.icmp_ge K D99_1_192 (fun _ => ?_) (fun q => absurd q (by decide))
        refine G.aloadN K D99_1_216 rfl rfl ?_
        refine G.aload K D99_1_217 rfl rfl ?_
        refine G.putF K (host := "") (Or.inl (wd hw 24 rfl)) (cf_NST hw) (Or.inr ⟨(wd hw 25 rfl), rfl, rfl⟩) (wd hw 2 rfl) H630 (i := 7) rfl (j := 1) rfl rfl (ty := (.array .int)) (by decide) rfl rfl D99_1_219 ?_
        intro h632 H632
        change Hp n0 h632 ((a594, Ia Z [(sF ke y0), (tF ke y0), (sF ke y1), (tF ke y1), 0, 0]) :: (a592, Ia Z [0, 2]) :: (b590, Ia Z [Int32.ofNat y0, Int32.ofNat y1, Int32.ofNat y2]) :: (fa, Ia Z (lst 4 (fun _ => 0))) :: (sa, Ia Z (lst 4 (sF ke))) :: (ta, Ia Z (lst 4 (tF ke))) :: (a584, Xa Z [0, 1, 2]) :: (a, Ob Z "com/example/rankwise/rankwise/store/TripleIndex" NST [.ref a584, .ref a592, .null]) :: (ca, Xa Z [0, 1, 2]) :: σ) at H632
        refine G.aloadN K D99_1_222 rfl rfl ?_
        refine G.iload K D99_1_223 rfl ?_
        refine G.iload K D99_1_225 rfl ?_
        refine G.icmp_ne K D99_1_227 (fun _ => ?_) (fun q => absurd q (by decide))
        refine G.aload K D99_1_235 rfl rfl ?_
        refine G.iconst K D99_1_237 2 rfl ?_
        refine G.iload K D99_1_238 rfl ?_
        refine G.imul K D99_1_240 ?_
        change G k n0 _ h632 _ _ 241 [.val (.ref a), .val (.ref fa), .val (.ref sa), .val (.ref ta), .val (.int 3), .val (.ref ca), .val (.ref b590), .val (.int 0), .val (.ref a592), .val (.ref a594), .val (.int 2), .val (.int 2), .val (.int (Int32.ofNat y2))] [.int 4, .ref a594, .ref a]
        refine G.callS K hl (wd hw 58 rfl) (wd hw 59 rfl) (wd hw 60 rfl) (wd hw 61 rfl) (by decide) pd_3 (ct_copy l Z a0 hw n0 h632 a594 4 [(sF ke y0), (tF ke y0), (sF ke y1), (tF ke y1), 0, 0] ((a592, Ia Z [0, 2]) :: (b590, Ia Z [Int32.ofNat y0, Int32.ofNat y1, Int32.ofNat y2]) :: (fa, Ia Z (lst 4 (fun _ => 0))) :: (sa, Ia Z (lst 4 (sF ke))) :: (ta, Ia Z (lst 4 (tF ke))) :: (a584, Xa Z [0, 1, 2]) :: (a, Ob Z "com/example/rankwise/rankwise/store/TripleIndex" NST [.ref a584, .ref a592, .null]) :: (ca, Xa Z [0, 1, 2]) :: σ) (Nat.le_of_ble_eq_true rfl) (Nat.le_of_ble_eq_true rfl) H632) 1 rfl (by decide) (by decide) (by decide) (by decide) rfl rfl [.int 4, .ref a594] rfl D99_1_241 ?_
        rintro _ h634 ⟨b634, rfl, H634⟩
        change Hp n0 h634 ((b634, Ia Z [(sF ke y0), (tF ke y0), (sF ke y1), (tF ke y1)]) :: (a594, Ia Z [(sF ke y0), (tF ke y0), (sF ke y1), (tF ke y1), 0, 0]) :: (a592, Ia Z [0, 2]) :: (b590, Ia Z [Int32.ofNat y0, Int32.ofNat y1, Int32.ofNat y2]) :: (fa, Ia Z (lst 4 (fun _ => 0))) :: (sa, Ia Z (lst 4 (sF ke))) :: (ta, Ia Z (lst 4 (tF ke))) :: (a584, Xa Z [0, 1, 2]) :: (a, Ob Z "com/example/rankwise/rankwise/store/TripleIndex" NST [.ref a584, .ref a592, .null]) :: (ca, Xa Z [0, 1, 2]) :: σ) at H634
        change G k n0 _ h634 _ _ 244 [.val (.ref a), .val (.ref fa), .val (.ref sa), .val (.ref ta), .val (.int 3), .val (.ref ca), .val (.ref b590), .val (.int 0), .val (.ref a592), .val (.ref a594), .val (.int 2), .val (.int 2), .val (.int (Int32.ofNat y2))] [.ref b634, .ref a]
        refine G.putF K (host := "") (Or.inl (wd hw 26 rfl)) (cf_NST hw) (Or.inr ⟨(wd hw 27 rfl), rfl, rfl⟩) (wd hw 2 rfl) H634 (i := 8) rfl (j := 2) rfl rfl (ty := (.array .int)) (by decide) rfl rfl D99_1_244 ?_
        intro h635 H635
        change Hp n0 h635 ((b634, Ia Z [(sF ke y0), (tF ke y0), (sF ke y1), (tF ke y1)]) :: (a594, Ia Z [(sF ke y0), (tF ke y0), (sF ke y1), (tF ke y1), 0, 0]) :: (a592, Ia Z [0, 2]) :: (b590, Ia Z [Int32.ofNat y0, Int32.ofNat y1, Int32.ofNat y2]) :: (fa, Ia Z (lst 4 (fun _ => 0))) :: (sa, Ia Z (lst 4 (sF ke))) :: (ta, Ia Z (lst 4 (tF ke))) :: (a584, Xa Z [0, 1, 2]) :: (a, Ob Z "com/example/rankwise/rankwise/store/TripleIndex" NST [.ref a584, .ref a592, .ref b634]) :: (ca, Xa Z [0, 1, 2]) :: σ) at H635
        refine G.ret_void K D99_1_247 ?_
        have H636 : Hp n0 h635 ((ta, Ia Z (lst 4 (tF ke))) :: (b634, Ia Z [(sF ke y0), (tF ke y0), (sF ke y1), (tF ke y1)]) :: (a594, Ia Z [(sF ke y0), (tF ke y0), (sF ke y1), (tF ke y1), 0, 0]) :: (a592, Ia Z [0, 2]) :: (b590, Ia Z [Int32.ofNat y0, Int32.ofNat y1, Int32.ofNat y2]) :: (fa, Ia Z (lst 4 (fun _ => 0))) :: (sa, Ia Z (lst 4 (sF ke))) :: (a584, Xa Z [0, 1, 2]) :: (a, Ob Z "com/example/rankwise/rankwise/store/TripleIndex" NST [.ref a584, .ref a592, .ref b634]) :: (ca, Xa Z [0, 1, 2]) :: σ) := H635.pull 6 rfl
        have H637 : Hp n0 h635 ((sa, Ia Z (lst 4 (sF ke))) :: (ta, Ia Z (lst 4 (tF ke))) :: (b634, Ia Z [(sF ke y0), (tF ke y0), (sF ke y1), (tF ke y1)]) :: (a594, Ia Z [(sF ke y0), (tF ke y0), (sF ke y1), (tF ke y1), 0, 0]) :: (a592, Ia Z [0, 2]) :: (b590, Ia Z [Int32.ofNat y0, Int32.ofNat y1, Int32.ofNat y2]) :: (fa, Ia Z (lst 4 (fun _ => 0))) :: (a584, Xa Z [0, 1, 2]) :: (a, Ob Z "com/example/rankwise/rankwise/store/TripleIndex" NST [.ref a584, .ref a592, .ref b634]) :: (ca, Xa Z [0, 1, 2]) :: σ) := H636.pull 6 rfl
        have H638 : Hp n0 h635 ((fa, Ia Z (lst 4 (fun _ => 0))) :: (sa, Ia Z (lst 4 (sF ke))) :: (ta, Ia Z (lst 4 (tF ke))) :: (b634, Ia Z [(sF ke y0), (tF ke y0), (sF ke y1), (tF ke y1)]) :: (a594, Ia Z [(sF ke y0), (tF ke y0), (sF ke y1), (tF ke y1), 0, 0]) :: (a592, Ia Z [0, 2]) :: (b590, Ia Z [Int32.ofNat y0, Int32.ofNat y1, Int32.ofNat y2]) :: (a584, Xa Z [0, 1, 2]) :: (a, Ob Z "com/example/rankwise/rankwise/store/TripleIndex" NST [.ref a584, .ref a592, .ref b634]) :: (ca, Xa Z [0, 1, 2]) :: σ) := H637.pull 6 rfl
        have H639 : Hp n0 h635 ((b634, Ia Z [(sF ke y0), (tF ke y0), (sF ke y1), (tF ke y1)]) :: (fa, Ia Z (lst 4 (fun _ => 0))) :: (sa, Ia Z (lst 4 (sF ke))) :: (ta, Ia Z (lst 4 (tF ke))) :: (a594, Ia Z [(sF ke y0), (tF ke y0), (sF ke y1), (tF ke y1), 0, 0]) :: (a592, Ia Z [0, 2]) :: (b590, Ia Z [Int32.ofNat y0, Int32.ofNat y1, Int32.ofNat y2]) :: (a584, Xa Z [0, 1, 2]) :: (a, Ob Z "com/example/rankwise/rankwise/store/TripleIndex" NST [.ref a584, .ref a592, .ref b634]) :: (ca, Xa Z [0, 1, 2]) :: σ) := H638.pull 3 rfl
        have H640 : Hp n0 h635 ((a, Ob Z "com/example/rankwise/rankwise/store/TripleIndex" NST [.ref a584, .ref a592, .ref b634]) :: (b634, Ia Z [(sF ke y0), (tF ke y0), (sF ke y1), (tF ke y1)]) :: (fa, Ia Z (lst 4 (fun _ => 0))) :: (sa, Ia Z (lst 4 (sF ke))) :: (ta, Ia Z (lst 4 (tF ke))) :: (a594, Ia Z [(sF ke y0), (tF ke y0), (sF ke y1), (tF ke y1), 0, 0]) :: (a592, Ia Z [0, 2]) :: (b590, Ia Z [Int32.ofNat y0, Int32.ofNat y1, Int32.ofNat y2]) :: (a584, Xa Z [0, 1, 2]) :: (ca, Xa Z [0, 1, 2]) :: σ) := H639.pull 8 rfl
        have H641 : Hp n0 h635 ((a, Ob Z "com/example/rankwise/rankwise/store/TripleIndex" NST [.ref a584, .ref a592, .ref b634]) :: (b634, Ia Z [(sF ke y0), (tF ke y0), (sF ke y1), (tF ke y1)]) :: (fa, Ia Z (lst 4 (fun _ => 0))) :: (sa, Ia Z (lst 4 (sF ke))) :: (ta, Ia Z (lst 4 (tF ke))) :: σ) := H640.sub (List.Sublist.cons_cons _ (List.Sublist.cons_cons _ (List.Sublist.cons_cons _ (List.Sublist.cons_cons _ (List.Sublist.cons_cons _ (List.Sublist.cons _ (List.Sublist.cons _ (List.Sublist.cons _ (List.Sublist.cons _ (List.Sublist.cons _ (List.Sublist.refl _)))))))))))
        refine ⟨_, _, _, 2, fun i => [y0, y1].getD i 0, rfl, ⟨by decide, ?_, ?_⟩, H641⟩
        · intro i hi
          rcases (by omega : i = 0) with rfl
          · show ke y0 < ke y1; omega
        · intro f
          show 0 + f (ke y0) + f (ke y1) = D3 f (ke 0) (ke 1) (ke 2)
          rw [← pm3 ke f f0 f1 f2 f3 f4 f5]
          unfold D3
          rw [if_neg (show ¬ (ke y1 = ke y0) by omega), if_pos (show ke y2 = ke y0 ∨ ke y2 = ke y1 by omega)]; omega
  refine G.iload K D99_1_82 rfl ?_
  refine G.if_le K D99_1_84 (fun q => absurd q (by decide)) (fun _ => ?_)
  refine G.aloadN K D99_1_87 rfl rfl ?_
  refine G.iload K D99_1_88 rfl ?_
  refine G.aload_i K H600 (i := 3) rfl (own_nneg (by omega)) (by rw [own_nidx (by omega)]; exact lst_get _ (by omega)) D99_1_90 ?_
  refine G.aloadN K D99_1_91 rfl rfl ?_
  refine G.aload K D99_1_92 rfl rfl ?_
  refine G.iload K D99_1_94 rfl ?_
  refine G.iconst K D99_1_96 1 rfl ?_
  refine G.isub K D99_1_97 ?_
  change G k n0 _ h600 _ _ 98 [.val (.ref a), .val (.ref fa), .val (.ref sa), .val (.ref ta), .val (.int 3), .val (.ref ca), .val (.ref b590), .val (.int 0), .val (.ref a592), .val (.ref a594), .val (.int 1), .val (.int 1), .val (.int (Int32.ofNat y1))] [.int 0, .ref b590, .ref fa, .int 0]
  refine G.aload_i K H600 (i := 2) rfl (by decide) rfl D99_1_98 ?_
  refine G.aload_i K H600 (i := 3) rfl (own_nneg (by omega)) (by rw [own_nidx (by omega)]; exact lst_get _ (by omega)) D99_1_99 ?_
  refine G.icmp_ne K D99_1_100 (fun q => absurd q (by decide)) (fun _ => ?_)
  refine G.aloadN K D99_1_103 rfl rfl ?_
  refine G.iload K D99_1_104 rfl ?_
  refine G.aload_i K H600 (i := 4) rfl (own_nneg (by omega)) (by rw [own_nidx (by omega)]; exact lst_get _ (by omega)) D99_1_106 ?_
  refine G.aload K D99_1_107 rfl rfl ?_
  refine G.iconst K D99_1_109 2 rfl ?_
  refine G.iload K D99_1_110 rfl ?_
  refine G.imul K D99_1_112 ?_
  change G k n0 _ h600 _ _ 113 [.val (.ref a), .val (.ref fa), .val (.ref sa), .val (.ref ta), .val (.int 3), .val (.ref ca), .val (.ref b590), .val (.int 0), .val (.ref a592), .val (.ref a594), .val (.int 1), .val (.int 1), .val (.int (Int32.ofNat y1))] [.int 2, .ref a594, .int (sF ke y1)]
  refine G.iconst K D99_1_113 2 rfl ?_
  refine G.isub K D99_1_114 ?_
  change G k n0 _ h600 _ _ 115 [.val (.ref a), .val (.ref fa), .val (.ref sa), .val (.ref ta), .val (.int 3), .val (.ref ca), .val (.ref b590), .val (.int 0), .val (.ref a592), .val (.ref a594), .val (.int 1), .val (.int 1), .val (.int (Int32.ofNat y1))] [.int 0, .ref a594, .int (sF ke y1)]
  refine G.aload_i K H600 (i := 0) rfl (by decide) rfl D99_1_115 ?_
  refine G.icmp_ne K D99_1_116 (fun q644 => ?_) (fun q644 => ?_)
  · exact T602 (key_ns q644)
  · refine G.aloadN K D99_1_119 rfl rfl ?_
    refine G.iload K D99_1_120 rfl ?_
    refine G.aload_i K H600 (i := 5) rfl (own_nneg (by omega)) (by rw [own_nidx (by omega)]; exact lst_get _ (by omega)) D99_1_122 ?_
    refine G.aload K D99_1_123 rfl rfl ?_
    refine G.iconst K D99_1_125 2 rfl ?_
    refine G.iload K D99_1_126 rfl ?_
    refine G.imul K D99_1_128 ?_
    change G k n0 _ h600 _ _ 129 [.val (.ref a), .val (.ref fa), .val (.ref sa), .val (.ref ta), .val (.int 3), .val (.ref ca), .val (.ref b590), .val (.int 0), .val (.ref a592), .val (.ref a594), .val (.int 1), .val (.int 1), .val (.int (Int32.ofNat y1))] [.int 2, .ref a594, .int (tF ke y1)]
    refine G.iconst K D99_1_129 1 rfl ?_
    refine G.isub K D99_1_130 ?_
    change G k n0 _ h600 _ _ 131 [.val (.ref a), .val (.ref fa), .val (.ref sa), .val (.ref ta), .val (.int 3), .val (.ref ca), .val (.ref b590), .val (.int 0), .val (.ref a592), .val (.ref a594), .val (.int 1), .val (.int 1), .val (.int (Int32.ofNat y1))] [.int 1, .ref a594, .int (tF ke y1)]
    refine G.aload_i K H600 (i := 0) rfl (by decide) rfl D99_1_131 ?_
    refine G.icmp_ne K D99_1_132 (fun q645 => ?_) (fun q645 => ?_)
    · exact T602 (key_nt q645)
    · have eq1 : ke y1 = ke y0 := key_eq hK q644 q645
      refine G.goto K D99_1_135 ?_
      refine G.iinc K D99_1_178 1 rfl rfl ([.val (.ref a), .val (.ref fa), .val (.ref sa), .val (.ref ta), .val (.int 3), .val (.ref ca), .val (.ref b590), .val (.int 0), .val (.ref a592), .val (.ref a594), .val (.int 1), .val (.int (1 + 1)), .val (.int (Int32.ofNat y1))]) rfl ?_
      change G k n0 _ h600 _ _ 181 [.val (.ref a), .val (.ref fa), .val (.ref sa), .val (.ref ta), .val (.int 3), .val (.ref ca), .val (.ref b590), .val (.int 0), .val (.ref a592), .val (.ref a594), .val (.int 1), .val (.int 2), .val (.int (Int32.ofNat y1))] []
      refine G.goto K D99_1_181 ?_
      refine G.iload K D99_1_68 rfl ?_
      refine G.iload K D99_1_70 rfl ?_
      refine G.icmp_ge K D99_1_72 (fun q => absurd q (by decide)) (fun _ => ?_)
      refine G.aload K D99_1_75 rfl rfl ?_
      refine G.iload K D99_1_77 rfl ?_
      refine G.aload_i K H600 (i := 2) rfl (by decide) rfl D99_1_79 ?_
      refine G.istore K D99_1_80 ([.val (.ref a), .val (.ref fa), .val (.ref sa), .val (.ref ta), .val (.int 3), .val (.ref ca), .val (.ref b590), .val (.int 0), .val (.ref a592), .val (.ref a594), .val (.int 1), .val (.int 2), .val (.int (Int32.ofNat y2))]) rfl ?_
      have T647 : ¬ ke y2 = ke y0 → G k n0 (fun v h' => ∃ (b1 b2 b3 : Addr) (L : Nat) (zf : Nat → Nat), v = none ∧ DD ke zf L (fun f => D3 f (ke 0) (ke 1) (ke 2)) ∧ Hp n0 h' ((a, Ob Z "com/example/rankwise/rankwise/store/TripleIndex" NST [.ref b1, .ref b2, .ref b3]) :: (b3, Ia Z (lst (2 * L) (cF ke zf))) :: (fa, Ia Z (lst 4 (fun _ => 0))) :: (sa, Ia Z (lst 4 (sF ke))) :: (ta, Ia Z (lst 4 (tF ke))) :: σ)) h600 5 17 138 [.val (.ref a), .val (.ref fa), .val (.ref sa), .val (.ref ta), .val (.int 3), .val (.ref ca), .val (.ref b590), .val (.int 0), .val (.ref a592), .val (.ref a594), .val (.int 1), .val (.int 2), .val (.int (Int32.ofNat y2))] [] := by
        intro ne2
        refine G.aload K D99_1_138 rfl rfl ?_
        refine G.aloadN K D99_1_140 rfl rfl ?_
        refine G.iload K D99_1_141 rfl ?_
        refine G.aload_i K H600 (i := 3) rfl (own_nneg (by omega)) (by rw [own_nidx (by omega)]; exact lst_get _ (by omega)) D99_1_143 ?_
        refine G.iconst K D99_1_144 1 rfl ?_
        refine G.iadd K D99_1_145 ?_
        change G k n0 _ h600 _ _ 146 [.val (.ref a), .val (.ref fa), .val (.ref sa), .val (.ref ta), .val (.int 3), .val (.ref ca), .val (.ref b590), .val (.int 0), .val (.ref a592), .val (.ref a594), .val (.int 1), .val (.int 2), .val (.int (Int32.ofNat y2))] [.int 1, .ref a592]
        refine G.dup2 K D99_1_146 rfl rfl ?_
        refine G.aload_i K H600 (i := 1) rfl (by decide) rfl D99_1_147 ?_
        refine G.iconst K D99_1_148 1 rfl ?_
        refine G.iadd K D99_1_149 ?_
        change G k n0 _ h600 _ _ 150 [.val (.ref a), .val (.ref fa), .val (.ref sa), .val (.ref ta), .val (.int 3), .val (.ref ca), .val (.ref b590), .val (.int 0), .val (.ref a592), .val (.ref a594), .val (.int 1), .val (.int 2), .val (.int (Int32.ofNat y2))] [.int 2, .int 1, .ref a592]
        refine G.astore_i K H600 (i := 1) rfl (by decide) (Nat.le_of_ble_eq_true rfl) D99_1_150 ?_
        intro h648 H648
        change Hp n0 h648 ((a594, Ia Z [(sF ke y0), (tF ke y0), 0, 0, 0, 0]) :: (a592, Ia Z [0, 2]) :: (b590, Ia Z [Int32.ofNat y0, Int32.ofNat y1, Int32.ofNat y2]) :: (fa, Ia Z (lst 4 (fun _ => 0))) :: (sa, Ia Z (lst 4 (sF ke))) :: (ta, Ia Z (lst 4 (tF ke))) :: (a584, Xa Z [0, 1, 2]) :: (a, Ob Z "com/example/rankwise/rankwise/store/TripleIndex" NST [.ref a584, .null, .null]) :: (ca, Xa Z [0, 1, 2]) :: σ) at H648
        refine G.aload K D99_1_151 rfl rfl ?_
        refine G.iconst K D99_1_153 2 rfl ?_
        refine G.iload K D99_1_154 rfl ?_
        refine G.imul K D99_1_156 ?_
        change G k n0 _ h648 _ _ 157 [.val (.ref a), .val (.ref fa), .val (.ref sa), .val (.ref ta), .val (.int 3), .val (.ref ca), .val (.ref b590), .val (.int 0), .val (.ref a592), .val (.ref a594), .val (.int 1), .val (.int 2), .val (.int (Int32.ofNat y2))] [.int 2, .ref a594]
        refine G.aloadN K D99_1_157 rfl rfl ?_
        refine G.iload K D99_1_158 rfl ?_
        refine G.aload_i K H648 (i := 4) rfl (own_nneg (by omega)) (by rw [own_nidx (by omega)]; exact lst_get _ (by omega)) D99_1_160 ?_
        refine G.astore_i K H648 (i := 0) rfl (by decide) (Nat.le_of_ble_eq_true rfl) D99_1_161 ?_
        intro h649 H649
        change Hp n0 h649 ((a594, Ia Z [(sF ke y0), (tF ke y0), (sF ke y2), 0, 0, 0]) :: (a592, Ia Z [0, 2]) :: (b590, Ia Z [Int32.ofNat y0, Int32.ofNat y1, Int32.ofNat y2]) :: (fa, Ia Z (lst 4 (fun _ => 0))) :: (sa, Ia Z (lst 4 (sF ke))) :: (ta, Ia Z (lst 4 (tF ke))) :: (a584, Xa Z [0, 1, 2]) :: (a, Ob Z "com/example/rankwise/rankwise/store/TripleIndex" NST [.ref a584, .null, .null]) :: (ca, Xa Z [0, 1, 2]) :: σ) at H649
        refine G.aload K D99_1_162 rfl rfl ?_
        refine G.iconst K D99_1_164 2 rfl ?_
        refine G.iload K D99_1_165 rfl ?_
        refine G.imul K D99_1_167 ?_
        change G k n0 _ h649 _ _ 168 [.val (.ref a), .val (.ref fa), .val (.ref sa), .val (.ref ta), .val (.int 3), .val (.ref ca), .val (.ref b590), .val (.int 0), .val (.ref a592), .val (.ref a594), .val (.int 1), .val (.int 2), .val (.int (Int32.ofNat y2))] [.int 2, .ref a594]
        refine G.iconst K D99_1_168 1 rfl ?_
        refine G.iadd K D99_1_169 ?_
        change G k n0 _ h649 _ _ 170 [.val (.ref a), .val (.ref fa), .val (.ref sa), .val (.ref ta), .val (.int 3), .val (.ref ca), .val (.ref b590), .val (.int 0), .val (.ref a592), .val (.ref a594), .val (.int 1), .val (.int 2), .val (.int (Int32.ofNat y2))] [.int 3, .ref a594]
        refine G.aloadN K D99_1_170 rfl rfl ?_
        refine G.iload K D99_1_171 rfl ?_
        refine G.aload_i K H649 (i := 5) rfl (own_nneg (by omega)) (by rw [own_nidx (by omega)]; exact lst_get _ (by omega)) D99_1_173 ?_
        refine G.astore_i K H649 (i := 0) rfl (by decide) (Nat.le_of_ble_eq_true rfl) D99_1_174 ?_
        intro h650 H650
        change Hp n0 h650 ((a594, Ia Z [(sF ke y0), (tF ke y0), (sF ke y2), (tF ke y2), 0, 0]) :: (a592, Ia Z [0, 2]) :: (b590, Ia Z [Int32.ofNat y0, Int32.ofNat y1, Int32.ofNat y2]) :: (fa, Ia Z (lst 4 (fun _ => 0))) :: (sa, Ia Z (lst 4 (sF ke))) :: (ta, Ia Z (lst 4 (tF ke))) :: (a584, Xa Z [0, 1, 2]) :: (a, Ob Z "com/example/rankwise/rankwise/store/TripleIndex" NST [.ref a584, .null, .null]) :: (ca, Xa Z [0, 1, 2]) :: σ) at H650
        refine G.iinc K D99_1_175 1 rfl rfl ([.val (.ref a), .val (.ref fa), .val (.ref sa), .val (.ref ta), .val (.int 3), .val (.ref ca), .val (.ref b590), .val (.int 0), .val (.ref a592), .val (.ref a594), .val (.int (1 + 1)), .val (.int 2), .val (.int (Int32.ofNat y2))]) rfl ?_
        change G k n0 _ h650 _ _ 178 [.val (.ref a), .val (.ref fa), .val (.ref sa), .val (.ref ta), .val (.int 3), .val (.ref ca), .val (.ref b590), .val (.int 0), .val (.ref a592), .val (.ref a594), .val (.int 2), .val (.int 2), .val (.int (Int32.ofNat y2))] []
        refine G.iinc K D99_1_178 1 rfl rfl ([.val (.ref a), .val (.ref fa), .val (.ref sa), .val (.ref ta), .val (.int 3), .val (.ref ca), .val (.ref b590), .val (.int 0), .val (.ref a592), .val (.ref a594), .val (.int 2), .val (.int (2 + 1)), .val (.int (Int32.ofNat y2))]) rfl ?_
        change G k n0 _ h650 _ _ 181 [.val (.ref a), .val (.ref fa), .val (.ref sa), .val (.ref ta), .val (.int 3), .val (.ref ca), .val (.ref b590), .val (.int 0), .val (.ref a592), .val (.ref a594), .val (.int 2), .val (.int 3), .val (.int (Int32.ofNat y2))] []
        refine G.goto K D99_1_181 ?_
        refine G.iload K D99_1_68 rfl ?_
        refine G.iload K D99_1_70 rfl ?_
        refine G.icmp_ge K D99_1_72 (fun _ => ?_) (fun q => absurd q (by decide))
        refine G.iconst K D99_1_184 1 rfl ?_
        refine G.istore K D99_1_185 ([.val (.ref a), .val (.ref fa), .val (.ref sa), .val (.ref ta), .val (.int 3), .val (.ref ca), .val (.ref b590), .val (.int 0), .val (.ref a592), .val (.ref a594), .val (.int 2), .val (.int 1), .val (.int (Int32.ofNat y2))]) rfl ?_
        refine G.iload K D99_1_187 rfl ?_
        refine G.aload K D99_1_189 rfl rfl ?_
        refine G.alen K H650 (i := 1) rfl D99_1_191 2 rfl ?_
        refine G.icmp_ge K D99_1_192 (fun q => absurd q (by decide)) (fun _ => ?_)
        refine G.aload K D99_1_195 rfl rfl ?_
        refine G.iload K D99_1_197 rfl ?_
        refine G.dup2 K D99_1_199 rfl rfl ?_
        refine G.aload_i K H650 (i := 1) rfl (by decide) rfl D99_1_200 ?_
        refine G.aload K D99_1_201 rfl rfl ?_
        refine G.iload K D99_1_203 rfl ?_
        refine G.iconst K D99_1_205 1 rfl ?_
        refine G.isub K D99_1_206 ?_
        change G k n0 _ h650 _ _ 207 [.val (.ref a), .val (.ref fa), .val (.ref sa), .val (.ref ta), .val (.int 3), .val (.ref ca), .val (.ref b590), .val (.int 0), .val (.ref a592), .val (.ref a594), .val (.int 2), .val (.int 1), .val (.int (Int32.ofNat y2))] [.int 0, .ref a592, .int 2, .int 1, .ref a592]
        refine G.aload_i K H650 (i := 1) rfl (by decide) rfl D99_1_207 ?_
        refine G.iadd K D99_1_208 ?_
        change G k n0 _ h650 _ _ 209 [.val (.ref a), .val (.ref fa), .val (.ref sa), .val (.ref ta), .val (.int 3), .val (.ref ca), .val (.ref b590), .val (.int 0), .val (.ref a592), .val (.ref a594), .val (.int 2), .val (.int 1), .val (.int (Int32.ofNat y2))] [.int 2, .int 1, .ref a592]
        refine G.astore_i K H650 (i := 1) rfl (by decide) (Nat.le_of_ble_eq_true rfl) D99_1_209 ?_
        intro h653 H653
        change Hp n0 h653 ((a594, Ia Z [(sF ke y0), (tF ke y0), (sF ke y2), (tF ke y2), 0, 0]) :: (a592, Ia Z [0, 2]) :: (b590, Ia Z [Int32.ofNat y0, Int32.ofNat y1, Int32.ofNat y2]) :: (fa, Ia Z (lst 4 (fun _ => 0))) :: (sa, Ia Z (lst 4 (sF ke))) :: (ta, Ia Z (lst 4 (tF ke))) :: (a584, Xa Z [0, 1, 2]) :: (a, Ob Z "com/example/rankwise/rankwise/store/TripleIndex" NST [.ref a584, .null, .null]) :: (ca, Xa Z [0, 1, 2]) :: σ) at H653
        refine G.iinc K D99_1_210 1 rfl rfl ([.val (.ref a), .val (.ref fa), .val (.ref sa), .val (.ref ta), .val (.int 3), .val (.ref ca), .val (.ref b590), .val (.int 0), .val (.ref a592), .val (.ref a594), .val (.int 2), .val (.int (1 + 1)), .val (.int (Int32.ofNat y2))]) rfl ?_
        change G k n0 _ h653 _ _ 213 [.val (.ref a), .val (.ref fa), .val (.ref sa), .val (.ref ta), .val (.int 3), .val (.ref ca), .val (.ref b590), .val (.int 0), .val (.ref a592), .val (.ref a594), .val (.int 2), .val (.int 2), .val (.int (Int32.ofNat y2))] []
        refine G.goto K D99_1_213 ?_
        refine G.iload K D99_1_187 rfl ?_
        refine G.aload K D99_1_189 rfl rfl ?_
        refine G.alen K H653 (i := 1) rfl D99_1_191 2 rfl ?_
        refine G.icmp_ge K D99_1_192 (fun _ => ?_) (fun q => absurd q (by decide))
        refine G.aloadN K D99_1_216 rfl rfl ?_
        refine G.aload K D99_1_217 rfl rfl ?_
        refine G.putF K (host := "") (Or.inl (wd hw 24 rfl)) (cf_NST hw) (Or.inr ⟨(wd hw 25 rfl), rfl, rfl⟩) (wd hw 2 rfl) H653 (i := 7) rfl (j := 1) rfl rfl (ty := (.array .int)) (by decide) rfl rfl D99_1_219 ?_
        intro h655 H655
        change Hp n0 h655 ((a594, Ia Z [(sF ke y0), (tF ke y0), (sF ke y2), (tF ke y2), 0, 0]) :: (a592, Ia Z [0, 2]) :: (b590, Ia Z [Int32.ofNat y0, Int32.ofNat y1, Int32.ofNat y2]) :: (fa, Ia Z (lst 4 (fun _ => 0))) :: (sa, Ia Z (lst 4 (sF ke))) :: (ta, Ia Z (lst 4 (tF ke))) :: (a584, Xa Z [0, 1, 2]) :: (a, Ob Z "com/example/rankwise/rankwise/store/TripleIndex" NST [.ref a584, .ref a592, .null]) :: (ca, Xa Z [0, 1, 2]) :: σ) at H655
        refine G.aloadN K D99_1_222 rfl rfl ?_
        refine G.iload K D99_1_223 rfl ?_
        refine G.iload K D99_1_225 rfl ?_
        refine G.icmp_ne K D99_1_227 (fun _ => ?_) (fun q => absurd q (by decide))
        refine G.aload K D99_1_235 rfl rfl ?_
        refine G.iconst K D99_1_237 2 rfl ?_
        refine G.iload K D99_1_238 rfl ?_
        refine G.imul K D99_1_240 ?_
        change G k n0 _ h655 _ _ 241 [.val (.ref a), .val (.ref fa), .val (.ref sa), .val (.ref ta), .val (.int 3), .val (.ref ca), .val (.ref b590), .val (.int 0), .val (.ref a592), .val (.ref a594), .val (.int 2), .val (.int 2), .val (.int (Int32.ofNat y2))] [.int 4, .ref a594, .ref a]
        refine G.callS K hl (wd hw 58 rfl) (wd hw 59 rfl) (wd hw 60 rfl) (wd hw 61 rfl) (by decide) pd_3 (ct_copy l Z a0 hw n0 h655 a594 4 [(sF ke y0), (tF ke y0), (sF ke y2), (tF ke y2), 0, 0] ((a592, Ia Z [0, 2]) :: (b590, Ia Z [Int32.ofNat y0, Int32.ofNat y1, Int32.ofNat y2]) :: (fa, Ia Z (lst 4 (fun _ => 0))) :: (sa, Ia Z (lst 4 (sF ke))) :: (ta, Ia Z (lst 4 (tF ke))) :: (a584, Xa Z [0, 1, 2]) :: (a, Ob Z "com/example/rankwise/rankwise/store/TripleIndex" NST [.ref a584, .ref a592, .null]) :: (ca, Xa Z [0, 1, 2]) :: σ) (Nat.le_of_ble_eq_true rfl) (Nat.le_of_ble_eq_true rfl) H655) 1 rfl (by decide) (by decide) (by decide) (by decide) rfl rfl [.int 4, .ref a594] rfl D99_1_241 ?_
        rintro _ h657 ⟨b657, rfl, H657⟩
        change Hp n0 h657 ((b657, Ia Z [(sF ke y0), (tF ke y0), (sF ke y2), (tF ke y2)]) :: (a594, Ia Z [(sF ke y0), (tF ke y0), (sF ke y2), (tF ke y2), 0, 0]) :: (a592, Ia Z [0, 2]) :: (b590, Ia Z [Int32.ofNat y0, Int32.ofNat y1, Int32.ofNat y2]) :: (fa, Ia Z (lst 4 (fun _ => 0))) :: (sa, Ia Z (lst 4 (sF ke))) :: (ta, Ia Z (lst 4 (tF ke))) :: (a584, Xa Z [0, 1, 2]) :: (a, Ob Z "com/example/rankwise/rankwise/store/TripleIndex" NST [.ref a584, .ref a592, .null]) :: (ca, Xa Z [0, 1, 2]) :: σ) at H657
        change G k n0 _ h657 _ _ 244 [.val (.ref a), .val (.ref fa), .val (.ref sa), .val (.ref ta), .val (.int 3), .val (.ref ca), .val (.ref b590), .val (.int 0), .val (.ref a592), .val (.ref a594), .val (.int 2), .val (.int 2), .val (.int (Int32.ofNat y2))] [.ref b657, .ref a]
        refine G.putF K (host := "") (Or.inl (wd hw 26 rfl)) (cf_NST hw) (Or.inr ⟨(wd hw 27 rfl), rfl, rfl⟩) (wd hw 2 rfl) H657 (i := 8) rfl (j := 2) rfl rfl (ty := (.array .int)) (by decide) rfl rfl D99_1_244 ?_
        intro h658 H658
        change Hp n0 h658 ((b657, Ia Z [(sF ke y0), (tF ke y0), (sF ke y2), (tF ke y2)]) :: (a594, Ia Z [(sF ke y0), (tF ke y0), (sF ke y2), (tF ke y2), 0, 0]) :: (a592, Ia Z [0, 2]) :: (b590, Ia Z [Int32.ofNat y0, Int32.ofNat y1, Int32.ofNat y2]) :: (fa, Ia Z (lst 4 (fun _ => 0))) :: (sa, Ia Z (lst 4 (sF ke))) :: (ta, Ia Z (lst 4 (tF ke))) :: (a584, Xa Z [0, 1, 2]) :: (a, Ob Z "com/example/rankwise/rankwise/store/TripleIndex" NST [.ref a584, .ref a592, .ref b657]) :: (ca, Xa Z [0, 1, 2]) :: σ) at H658
        refine G.ret_void K D99_1_247 ?_
        have H659 : Hp n0 h658 ((ta, Ia Z (lst 4 (tF ke))) :: (b657, Ia Z [(sF ke y0), (tF ke y0), (sF ke y2), (tF ke y2)]) :: (a594, Ia Z [(sF ke y0), (tF ke y0), (sF ke y2), (tF ke y2), 0, 0]) :: (a592, Ia Z [0, 2]) :: (b590, Ia Z [Int32.ofNat y0, Int32.ofNat y1, Int32.ofNat y2]) :: (fa, Ia Z (lst 4 (fun _ => 0))) :: (sa, Ia Z (lst 4 (sF ke))) :: (a584, Xa Z [0, 1, 2]) :: (a, Ob Z "com/example/rankwise/rankwise/store/TripleIndex" NST [.ref a584, .ref a592, .ref b657]) :: (ca, Xa Z [0, 1, 2]) :: σ) := H658.pull 6 rfl
        have H660 : Hp n0 h658 ((sa, Ia Z (lst 4 (sF ke))) :: (ta, Ia Z (lst 4 (tF ke))) :: (b657, Ia Z [(sF ke y0), (tF ke y0), (sF ke y2), (tF ke y2)]) :: (a594, Ia Z [(sF ke y0), (tF ke y0), (sF ke y2), (tF ke y2), 0, 0]) :: (a592, Ia Z [0, 2]) :: (b590, Ia Z [Int32.ofNat y0, Int32.ofNat y1, Int32.ofNat y2]) :: (fa, Ia Z (lst 4 (fun _ => 0))) :: (a584, Xa Z [0, 1, 2]) :: (a, Ob Z "com/example/rankwise/rankwise/store/TripleIndex" NST [.ref a584, .ref a592, .ref b657]) :: (ca, Xa Z [0, 1, 2]) :: σ) := H659.pull 6 rfl
        have H661 : Hp n0 h658 ((fa, Ia Z (lst 4 (fun _ => 0))) :: (sa, Ia Z (lst 4 (sF ke))) :: (ta, Ia Z (lst 4 (tF ke))) :: (b657, Ia Z [(sF ke y0), (tF ke y0), (sF ke y2), (tF ke y2)]) :: (a594, Ia Z [(sF ke y0), (tF ke y0), (sF ke y2), (tF ke y2), 0, 0]) :: (a592, Ia Z [0, 2]) :: (b590, Ia Z [Int32.ofNat y0, Int32.ofNat y1, Int32.ofNat y2]) :: (a584, Xa Z [0, 1, 2]) :: (a, Ob Z "com/example/rankwise/rankwise/store/TripleIndex" NST [.ref a584, .ref a592, .ref b657]) :: (ca, Xa Z [0, 1, 2]) :: σ) := H660.pull 6 rfl
        have H662 : Hp n0 h658 ((b657, Ia Z [(sF ke y0), (tF ke y0), (sF ke y2), (tF ke y2)]) :: (fa, Ia Z (lst 4 (fun _ => 0))) :: (sa, Ia Z (lst 4 (sF ke))) :: (ta, Ia Z (lst 4 (tF ke))) :: (a594, Ia Z [(sF ke y0), (tF ke y0), (sF ke y2), (tF ke y2), 0, 0]) :: (a592, Ia Z [0, 2]) :: (b590, Ia Z [Int32.ofNat y0, Int32.ofNat y1, Int32.ofNat y2]) :: (a584, Xa Z [0, 1, 2]) :: (a, Ob Z "com/example/rankwise/rankwise/store/TripleIndex" NST [.ref a584, .ref a592, .ref b657]) :: (ca, Xa Z [0, 1, 2]) :: σ) := H661.pull 3 rfl
        have H663 : Hp n0 h658 ((a, Ob Z "com/example/rankwise/rankwise/store/TripleIndex" NST [.ref a584, .ref a592, .ref b657]) :: (b657, Ia Z [(sF ke y0), (tF ke y0), (sF ke y2), (tF ke y2)]) :: (fa, Ia Z (lst 4 (fun _ => 0))) :: (sa, Ia Z (lst 4 (sF ke))) :: (ta, Ia Z (lst 4 (tF ke))) :: (a594, Ia Z [(sF ke y0), (tF ke y0), (sF ke y2), (tF ke y2), 0, 0]) :: (a592, Ia Z [0, 2]) :: (b590, Ia Z [Int32.ofNat y0, Int32.ofNat y1, Int32.ofNat y2]) :: (a584, Xa Z [0, 1, 2]) :: (ca, Xa Z [0, 1, 2]) :: σ) := H662.pull 8 rfl
        have H664 : Hp n0 h658 ((a, Ob Z "com/example/rankwise/rankwise/store/TripleIndex" NST [.ref a584, .ref a592, .ref b657]) :: (b657, Ia Z [(sF ke y0), (tF ke y0), (sF ke y2), (tF ke y2)]) :: (fa, Ia Z (lst 4 (fun _ => 0))) :: (sa, Ia Z (lst 4 (sF ke))) :: (ta, Ia Z (lst 4 (tF ke))) :: σ) := H663.sub (List.Sublist.cons_cons _ (List.Sublist.cons_cons _ (List.Sublist.cons_cons _ (List.Sublist.cons_cons _ (List.Sublist.cons_cons _ (List.Sublist.cons _ (List.Sublist.cons _ (List.Sublist.cons _ (List.Sublist.cons _ (List.Sublist.cons _ (List.Sublist.refl _)))))))))))
        refine ⟨_, _, _, 2, fun i => [y0, y2].getD i 0, rfl, ⟨by decide, ?_, ?_⟩, H664⟩
        · intro i hi
          rcases (by omega : i = 0) with rfl
          · show ke y0 < ke y2; omega
        · intro f
          show 0 + f (ke y0) + f (ke y2) = D3 f (ke 0) (ke 1) (ke 2)
          rw [← pm3 ke f f0 f1 f2 f3 f4 f5]
          unfold D3
          rw [if_pos (show ke y1 = ke y0 by omega), if_neg (show ¬ (ke y2 = ke y0 ∨ ke y2 = ke y1) by omega)]; omega
      refine G.iload K D99_1_82 rfl ?_
      refine G.if_le K D99_1_84 (fun q => absurd q (by decide)) (fun _ => ?_)
      refine G.aloadN K D99_1_87 rfl rfl ?_
      refine G.iload K D99_1_88 rfl ?_
      refine G.aload_i K H600 (i := 3) rfl (own_nneg (by omega)) (by rw [own_nidx (by omega)]; exact lst_get _ (by omega)) D99_1_90 ?_
      refine G.aloadN K D99_1_91 rfl rfl ?_
      refine G.aload K D99_1_92 rfl rfl ?_
      refine G.iload K D99_1_94 rfl ?_
      refine G.iconst K D99_1_96 1 rfl ?_
      refine G.isub K D99_1_97 ?_
      change G k n0 _ h600 _ _ 98 [.val (.ref a), .val (.ref fa), .val (.ref sa), .val (.ref ta), .val (.int 3), .val (.ref ca), .val (.ref b590), .val (.int 0), .val (.ref a592), .val (.ref a594), .val (.int 1), .val (.int 2), .val (.int (Int32.ofNat y2))] [.int 1, .ref b590, .ref fa, .int 0]
      refine G.aload_i K H600 (i := 2) rfl (by decide) rfl D99_1_98 ?_
      refine G.aload_i K H600 (i := 3) rfl (own_nneg (by omega)) (by rw [own_nidx (by omega)]; exact lst_get _ (by omega)) D99_1_99 ?_
      refine G.icmp_ne K D99_1_100 (fun q => absurd q (by decide)) (fun _ => ?_)
      refine G.aloadN K D99_1_103 rfl rfl ?_
      refine G.iload K D99_1_104 rfl ?_
      refine G.aload_i K H600 (i := 4) rfl (own_nneg (by omega)) (by rw [own_nidx (by omega)]; exact lst_get _ (by omega)) D99_1_106 ?_
      refine G.aload K D99_1_107 rfl rfl ?_
      refine G.iconst K D99_1_109 2 rfl ?_
      refine G.iload K D99_1_110 rfl ?_
      refine G.imul K D99_1_112 ?_
      change G k n0 _ h600 _ _ 113 [.val (.ref a), .val (.ref fa), .val (.ref sa), .val (.ref ta), .val (.int 3), .val (.ref ca), .val (.ref b590), .val (.int 0), .val (.ref a592), .val (.ref a594), .val (.int 1), .val (.int 2), .val (.int (Int32.ofNat y2))] [.int 2, .ref a594, .int (sF ke y2)]
      refine G.iconst K D99_1_113 2 rfl ?_
      refine G.isub K D99_1_114 ?_
      change G k n0 _ h600 _ _ 115 [.val (.ref a), .val (.ref fa), .val (.ref sa), .val (.ref ta), .val (.int 3), .val (.ref ca), .val (.ref b590), .val (.int 0), .val (.ref a592), .val (.ref a594), .val (.int 1), .val (.int 2), .val (.int (Int32.ofNat y2))] [.int 0, .ref a594, .int (sF ke y2)]
      refine G.aload_i K H600 (i := 0) rfl (by decide) rfl D99_1_115 ?_
      refine G.icmp_ne K D99_1_116 (fun q667 => ?_) (fun q667 => ?_)
      · exact T647 (key_ns q667)
      · refine G.aloadN K D99_1_119 rfl rfl ?_
        refine G.iload K D99_1_120 rfl ?_
        refine G.aload_i K H600 (i := 5) rfl (own_nneg (by omega)) (by rw [own_nidx (by omega)]; exact lst_get _ (by omega)) D99_1_122 ?_
        refine G.aload K D99_1_123 rfl rfl ?_
        refine G.iconst K D99_1_125 2 rfl ?_
        refine G.iload K D99_1_126 rfl ?_
        refine G.imul K D99_1_128 ?_
        change G k n0 _ h600 _ _ 129 [.val (.ref a), .val (.ref fa), .val (.ref sa), .val (.ref ta), .val (.int 3), .val (.ref ca), .val (.ref b590), .val (.int 0), .val (.ref a592), .val (.ref a594), .val (.int 1), .val (.int 2), .val (.int (Int32.ofNat y2))] [.int 2, .ref a594, .int (tF ke y2)]
        refine G.iconst K D99_1_129 1 rfl ?_
        refine G.isub K D99_1_130 ?_
        change G k n0 _ h600 _ _ 131 [.val (.ref a), .val (.ref fa), .val (.ref sa), .val (.ref ta), .val (.int 3), .val (.ref ca), .val (.ref b590), .val (.int 0), .val (.ref a592), .val (.ref a594), .val (.int 1), .val (.int 2), .val (.int (Int32.ofNat y2))] [.int 1, .ref a594, .int (tF ke y2)]
        refine G.aload_i K H600 (i := 0) rfl (by decide) rfl D99_1_131 ?_
        refine G.icmp_ne K D99_1_132 (fun q668 => ?_) (fun q668 => ?_)
        · exact T647 (key_nt q668)
        · have eq2 : ke y2 = ke y0 := key_eq hK q667 q668
          refine G.goto K D99_1_135 ?_
          refine G.iinc K D99_1_178 1 rfl rfl ([.val (.ref a), .val (.ref fa), .val (.ref sa), .val (.ref ta), .val (.int 3), .val (.ref ca), .val (.ref b590), .val (.int 0), .val (.ref a592), .val (.ref a594), .val (.int 1), .val (.int (2 + 1)), .val (.int (Int32.ofNat y2))]) rfl ?_
          change G k n0 _ h600 _ _ 181 [.val (.ref a), .val (.ref fa), .val (.ref sa), .val (.ref ta), .val (.int 3), .val (.ref ca), .val (.ref b590), .val (.int 0), .val (.ref a592), .val (.ref a594), .val (.int 1), .val (.int 3), .val (.int (Int32.ofNat y2))] []
          refine G.goto K D99_1_181 ?_
          refine G.iload K D99_1_68 rfl ?_
          refine G.iload K D99_1_70 rfl ?_
          refine G.icmp_ge K D99_1_72 (fun _ => ?_) (fun q => absurd q (by decide))
          refine G.iconst K D99_1_184 1 rfl ?_
          refine G.istore K D99_1_185 ([.val (.ref a), .val (.ref fa), .val (.ref sa), .val (.ref ta), .val (.int 3), .val (.ref ca), .val (.ref b590), .val (.int 0), .val (.ref a592), .val (.ref a594), .val (.int 1), .val (.int 1), .val (.int (Int32.ofNat y2))]) rfl ?_
          refine G.iload K D99_1_187 rfl ?_
          refine G.aload K D99_1_189 rfl rfl ?_
          refine G.alen K H600 (i := 1) rfl D99_1_191 2 rfl ?_
          refine G.icmp_ge K D99_1_192 (fun q => absurd q (by decide)) (fun _ => ?_)
          refine G.aload K D99_1_195 rfl rfl ?_
          refine G.iload K D99_1_197 rfl ?_
          refine G.dup2 K D99_1_199 rfl rfl ?_
          refine G.aload_i K H600 (i := 1) rfl (by decide) rfl D99_1_200 ?_
          refine G.aload K D99_1_201 rfl rfl ?_
          refine G.iload K D99_1_203 rfl ?_
          refine G.iconst K D99_1_205 1 rfl ?_
          refine G.isub K D99_1_206 ?_
          change G k n0 _ h600 _ _ 207 [.val (.ref a), .val (.ref fa), .val (.ref sa), .val (.ref ta), .val (.int 3), .val (.ref ca), .val (.ref b590), .val (.int 0), .val (.ref a592), .val (.ref a594), .val (.int 1), .val (.int 1), .val (.int (Int32.ofNat y2))] [.int 0, .ref a592, .int 1, .int 1, .ref a592]
          refine G.aload_i K H600 (i := 1) rfl (by decide) rfl D99_1_207 ?_
          refine G.iadd K D99_1_208 ?_
          change G k n0 _ h600 _ _ 209 [.val (.ref a), .val (.ref fa), .val (.ref sa), .val (.ref ta), .val (.int 3), .val (.ref ca), .val (.ref b590), .val (.int 0), .val (.ref a592), .val (.ref a594), .val (.int 1), .val (.int 1), .val (.int (Int32.ofNat y2))] [.int 1, .int 1, .ref a592]
          refine G.astore_i K H600 (i := 1) rfl (by decide) (Nat.le_of_ble_eq_true rfl) D99_1_209 ?_
          intro h671 H671
          change Hp n0 h671 ((a594, Ia Z [(sF ke y0), (tF ke y0), 0, 0, 0, 0]) :: (a592, Ia Z [0, 1]) :: (b590, Ia Z [Int32.ofNat y0, Int32.ofNat y1, Int32.ofNat y2]) :: (fa, Ia Z (lst 4 (fun _ => 0))) :: (sa, Ia Z (lst 4 (sF ke))) :: (ta, Ia Z (lst 4 (tF ke))) :: (a584, Xa Z [0, 1, 2]) :: (a, Ob Z "com/example/rankwise/rankwise/store/TripleIndex" NST [.ref a584, .null, .null]) :: (ca, Xa Z [0, 1, 2]) :: σ) at H671
          refine G.iinc K D99_1_210 1 rfl rfl ([.val (.ref a), .val (.ref fa), .val (.ref sa), .val (.ref ta), .val (.int 3), .val (.ref ca), .val (.ref b590), .val (.int 0), .val (.ref a592), .val (.ref a594), .val (.int 1), .val (.int (1 + 1)), .val (.int (Int32.ofNat y2))]) rfl ?_
          change G k n0 _ h671 _ _ 213 [.val (.ref a), .val (.ref fa), .val (.ref sa), .val (.ref ta), .val (.int 3), .val (.ref ca), .val (.ref b590), .val (.int 0), .val (.ref a592), .val (.ref a594), .val (.int 1), .val (.int 2), .val (.int (Int32.ofNat y2))] []
          refine G.goto K D99_1_213 ?_
          refine G.iload K D99_1_187 rfl ?_
          refine G.aload K D99_1_189 rfl rfl ?_
          refine G.alen K H671 (i := 1) rfl D99_1_191 2 rfl ?_
          refine G.icmp_ge K D99_1_192 (fun _ => ?_) (fun q => absurd q (by decide))
          refine G.aloadN K D99_1_216 rfl rfl ?_
          refine G.aload K D99_1_217 rfl rfl ?_
          refine G.putF K (host := "") (Or.inl (wd hw 24 rfl)) (cf_NST hw) (Or.inr ⟨(wd hw 25 rfl), rfl, rfl⟩) (wd hw 2 rfl) H671 (i := 7) rfl (j := 1) rfl rfl (ty := (.array .int)) (by decide) rfl rfl D99_1_219 ?_
          intro h673 H673
          change Hp n0 h673 ((a594, Ia Z [(sF ke y0), (tF ke y0), 0, 0, 0, 0]) :: (a592, Ia Z [0, 1]) :: (b590, Ia Z [Int32.ofNat y0, Int32.ofNat y1, Int32.ofNat y2]) :: (fa, Ia Z (lst 4 (fun _ => 0))) :: (sa, Ia Z (lst 4 (sF ke))) :: (ta, Ia Z (lst 4 (tF ke))) :: (a584, Xa Z [0, 1, 2]) :: (a, Ob Z "com/example/rankwise/rankwise/store/TripleIndex" NST [.ref a584, .ref a592, .null]) :: (ca, Xa Z [0, 1, 2]) :: σ) at H673
          refine G.aloadN K D99_1_222 rfl rfl ?_
          refine G.iload K D99_1_223 rfl ?_
          refine G.iload K D99_1_225 rfl ?_
          refine G.icmp_ne K D99_1_227 (fun _ => ?_) (fun q => absurd q (by decide))
          refine G.aload K D99_1_235 rfl rfl ?_
          refine G.iconst K D99_1_237 2 rfl ?_
          refine G.iload K D99_1_238 rfl ?_
          refine G.imul K D99_1_240 ?_
          change G k n0 _ h673 _ _ 241 [.val (.ref a), .val (.ref fa), .val (.ref sa), .val (.ref ta), .val (.int 3), .val (.ref ca), .val (.ref b590), .val (.int 0), .val (.ref a592), .val (.ref a594), .val (.int 1), .val (.int 2), .val (.int (Int32.ofNat y2))] [.int 2, .ref a594, .ref a]
          refine G.callS K hl (wd hw 58 rfl) (wd hw 59 rfl) (wd hw 60 rfl) (wd hw 61 rfl) (by decide) pd_3 (ct_copy l Z a0 hw n0 h673 a594 2 [(sF ke y0), (tF ke y0), 0, 0, 0, 0] ((a592, Ia Z [0, 1]) :: (b590, Ia Z [Int32.ofNat y0, Int32.ofNat y1, Int32.ofNat y2]) :: (fa, Ia Z (lst 4 (fun _ => 0))) :: (sa, Ia Z (lst 4 (sF ke))) :: (ta, Ia Z (lst 4 (tF ke))) :: (a584, Xa Z [0, 1, 2]) :: (a, Ob Z "com/example/rankwise/rankwise/store/TripleIndex" NST [.ref a584, .ref a592, .null]) :: (ca, Xa Z [0, 1, 2]) :: σ) (Nat.le_of_ble_eq_true rfl) (Nat.le_of_ble_eq_true rfl) H673) 1 rfl (by decide) (by decide) (by decide) (by decide) rfl rfl [.int 2, .ref a594] rfl D99_1_241 ?_
          rintro _ h675 ⟨b675, rfl, H675⟩
          change Hp n0 h675 ((b675, Ia Z [(sF ke y0), (tF ke y0)]) :: (a594, Ia Z [(sF ke y0), (tF ke y0), 0, 0, 0, 0]) :: (a592, Ia Z [0, 1]) :: (b590, Ia Z [Int32.ofNat y0, Int32.ofNat y1, Int32.ofNat y2]) :: (fa, Ia Z (lst 4 (fun _ => 0))) :: (sa, Ia Z (lst 4 (sF ke))) :: (ta, Ia Z (lst 4 (tF ke))) :: (a584, Xa Z [0, 1, 2]) :: (a, Ob Z "com/example/rankwise/rankwise/store/TripleIndex" NST [.ref a584, .ref a592, .null]) :: (ca, Xa Z [0, 1, 2]) :: σ) at H675
          change G k n0 _ h675 _ _ 244 [.val (.ref a), .val (.ref fa), .val (.ref sa), .val (.ref ta), .val (.int 3), .val (.ref ca), .val (.ref b590), .val (.int 0), .val (.ref a592), .val (.ref a594), .val (.int 1), .val (.int 2), .val (.int (Int32.ofNat y2))] [.ref b675, .ref a]
          refine G.putF K (host := "") (Or.inl (wd hw 26 rfl)) (cf_NST hw) (Or.inr ⟨(wd hw 27 rfl), rfl, rfl⟩) (wd hw 2 rfl) H675 (i := 8) rfl (j := 2) rfl rfl (ty := (.array .int)) (by decide) rfl rfl D99_1_244 ?_
          intro h676 H676
          change Hp n0 h676 ((b675, Ia Z [(sF ke y0), (tF ke y0)]) :: (a594, Ia Z [(sF ke y0), (tF ke y0), 0, 0, 0, 0]) :: (a592, Ia Z [0, 1]) :: (b590, Ia Z [Int32.ofNat y0, Int32.ofNat y1, Int32.ofNat y2]) :: (fa, Ia Z (lst 4 (fun _ => 0))) :: (sa, Ia Z (lst 4 (sF ke))) :: (ta, Ia Z (lst 4 (tF ke))) :: (a584, Xa Z [0, 1, 2]) :: (a, Ob Z "com/example/rankwise/rankwise/store/TripleIndex" NST [.ref a584, .ref a592, .ref b675]) :: (ca, Xa Z [0, 1, 2]) :: σ) at H676
          refine G.ret_void K D99_1_247 ?_
          have H677 : Hp n0 h676 ((ta, Ia Z (lst 4 (tF ke))) :: (b675, Ia Z [(sF ke y0), (tF ke y0)]) :: (a594, Ia Z [(sF ke y0), (tF ke y0), 0, 0, 0, 0]) :: (a592, Ia Z [0, 1]) :: (b590, Ia Z [Int32.ofNat y0, Int32.ofNat y1, Int32.ofNat y2]) :: (fa, Ia Z (lst 4 (fun _ => 0))) :: (sa, Ia Z (lst 4 (sF ke))) :: (a584, Xa Z [0, 1, 2]) :: (a, Ob Z "com/example/rankwise/rankwise/store/TripleIndex" NST [.ref a584, .ref a592, .ref b675]) :: (ca, Xa Z [0, 1, 2]) :: σ) := H676.pull 6 rfl
          have H678 : Hp n0 h676 ((sa, Ia Z (lst 4 (sF ke))) :: (ta, Ia Z (lst 4 (tF ke))) :: (b675, Ia Z [(sF ke y0), (tF ke y0)]) :: (a594, Ia Z [(sF ke y0), (tF ke y0), 0, 0, 0, 0]) :: (a592, Ia Z [0, 1]) :: (b590, Ia Z [Int32.ofNat y0, Int32.ofNat y1, Int32.ofNat y2]) :: (fa, Ia Z (lst 4 (fun _ => 0))) :: (a584, Xa Z [0, 1, 2]) :: (a, Ob Z "com/example/rankwise/rankwise/store/TripleIndex" NST [.ref a584, .ref a592, .ref b675]) :: (ca, Xa Z [0, 1, 2]) :: σ) := H677.pull 6 rfl
          have H679 : Hp n0 h676 ((fa, Ia Z (lst 4 (fun _ => 0))) :: (sa, Ia Z (lst 4 (sF ke))) :: (ta, Ia Z (lst 4 (tF ke))) :: (b675, Ia Z [(sF ke y0), (tF ke y0)]) :: (a594, Ia Z [(sF ke y0), (tF ke y0), 0, 0, 0, 0]) :: (a592, Ia Z [0, 1]) :: (b590, Ia Z [Int32.ofNat y0, Int32.ofNat y1, Int32.ofNat y2]) :: (a584, Xa Z [0, 1, 2]) :: (a, Ob Z "com/example/rankwise/rankwise/store/TripleIndex" NST [.ref a584, .ref a592, .ref b675]) :: (ca, Xa Z [0, 1, 2]) :: σ) := H678.pull 6 rfl
          have H680 : Hp n0 h676 ((b675, Ia Z [(sF ke y0), (tF ke y0)]) :: (fa, Ia Z (lst 4 (fun _ => 0))) :: (sa, Ia Z (lst 4 (sF ke))) :: (ta, Ia Z (lst 4 (tF ke))) :: (a594, Ia Z [(sF ke y0), (tF ke y0), 0, 0, 0, 0]) :: (a592, Ia Z [0, 1]) :: (b590, Ia Z [Int32.ofNat y0, Int32.ofNat y1, Int32.ofNat y2]) :: (a584, Xa Z [0, 1, 2]) :: (a, Ob Z "com/example/rankwise/rankwise/store/TripleIndex" NST [.ref a584, .ref a592, .ref b675]) :: (ca, Xa Z [0, 1, 2]) :: σ) := H679.pull 3 rfl
          have H681 : Hp n0 h676 ((a, Ob Z "com/example/rankwise/rankwise/store/TripleIndex" NST [.ref a584, .ref a592, .ref b675]) :: (b675, Ia Z [(sF ke y0), (tF ke y0)]) :: (fa, Ia Z (lst 4 (fun _ => 0))) :: (sa, Ia Z (lst 4 (sF ke))) :: (ta, Ia Z (lst 4 (tF ke))) :: (a594, Ia Z [(sF ke y0), (tF ke y0), 0, 0, 0, 0]) :: (a592, Ia Z [0, 1]) :: (b590, Ia Z [Int32.ofNat y0, Int32.ofNat y1, Int32.ofNat y2]) :: (a584, Xa Z [0, 1, 2]) :: (ca, Xa Z [0, 1, 2]) :: σ) := H680.pull 8 rfl
          have H682 : Hp n0 h676 ((a, Ob Z "com/example/rankwise/rankwise/store/TripleIndex" NST [.ref a584, .ref a592, .ref b675]) :: (b675, Ia Z [(sF ke y0), (tF ke y0)]) :: (fa, Ia Z (lst 4 (fun _ => 0))) :: (sa, Ia Z (lst 4 (sF ke))) :: (ta, Ia Z (lst 4 (tF ke))) :: σ) := H681.sub (List.Sublist.cons_cons _ (List.Sublist.cons_cons _ (List.Sublist.cons_cons _ (List.Sublist.cons_cons _ (List.Sublist.cons_cons _ (List.Sublist.cons _ (List.Sublist.cons _ (List.Sublist.cons _ (List.Sublist.cons _ (List.Sublist.cons _ (List.Sublist.refl _)))))))))))
          refine ⟨_, _, _, 1, fun i => [y0].getD i 0, rfl, ⟨by decide, ?_, ?_⟩, H682⟩
          · intro i hi; omega
          · intro f
            show 0 + f (ke y0) = D3 f (ke 0) (ke 1) (ke 2)
            rw [← pm3 ke f f0 f1 f2 f3 f4 f5]
            unfold D3
            rw [if_pos (show ke y1 = ke y0 by omega), if_pos (show ke y2 = ke y0 ∨ ke y2 = ke y1 by omega)]; omega
set_option maxRecDepth 65536 in
set_option maxHeartbeats 40000000 in
theorem ct_ctor4 (l : Launch) (Z : State) (a0 : Array Value) (hw : ∀ d ∈ tables_1, d.before a0 Z = true) (n0 : Nat) (h : Heap) (a ca : Addr) (fa sa ta : Addr) (ke : Nat → Nat) (σ : List Ch) (hK : ∀ i, ke i < 256) (H : Hp n0 h ((a, Ob Z "com/example/rankwise/rankwise/store/TripleIndex" NST [.null, .null, .null]) :: (fa, Ia Z (lst 4 (fun _ => 0))) :: (sa, Ia Z (lst 4 (sF ke))) :: (ta, Ia Z (lst 4 (tF ke))) :: (ca, Xa Z [0, 1, 2]) :: σ)) :
    Ct l Z n0 (⟨"com/example/rankwise/rankwise/store/TripleIndex", "<init>", "([I[I[II[I)V"⟩ : MethodName) prog_99_method_1_code 13 none ({ frames := 3, cells := 8, slots := 40, locals := 60 } : Room) [.ref a, .ref fa, .ref sa, .ref ta, .int 4, .ref ca] h (fun v h' => ∃ (b1 b2 b3 : Addr) (L : Nat) (zf : Nat → Nat), v = none ∧ DD ke zf L (fun f => D4 f (ke 0) (ke 1) (ke 2) (ke 3)) ∧ Hp n0 h' ((a, Ob Z "com/example/rankwise/rankwise/store/TripleIndex" NST [.ref b1, .ref b2, .ref b3]) :: (b3, Ia Z (lst (2 * L) (cF ke zf))) :: (fa, Ia Z (lst 4 (fun _ => 0))) :: (sa, Ia Z (lst 4 (sF ke))) :: (ta, Ia Z (lst 4 (tF ke))) :: σ)) := by
  refine Ct.intro (plainFor_of_name pn_0) [.val (.ref a), .val (.ref fa), .val (.ref sa), .val (.ref ta), .val (.int 4), .val (.ref ca), .unset, .unset, .unset, .unset, .unset, .unset, .unset] (fun m => by first | (simp [entryFrame, mkF, argsToLocals, Value.category]; done) | (simp [entryFrame, mkF, argsToLocals, Value.category, maxLocals]; done) | rfl) ?_
  intro k hl K
  replace K : Ok k Z n0 "com/example/rankwise/rankwise/store/TripleIndex" ({ frames := 3, cells := 8, slots := 40, locals := 60 } : Room) prog_99_method_1_code 13 none "<init>" := K
  refine G.aloadN K D99_1_0 rfl rfl ?_
  refine G.initO K (wd hw 7 rfl) (wd hw 8 rfl) (wd hw 9 rfl) rfl 0 rfl (by decide) (by decide) D99_1_1 ?_
  refine G.aloadN K D99_1_4 rfl rfl ?_
  refine G.aload K D99_1_5 rfl rfl ?_
  refine G.clone_x K (wd hw 10 rfl) (wd hw 11 rfl) (wd hw 15 rfl) (wd hw 13 rfl) (wd hw 14 rfl) (wd hw 16 rfl) H (i := 4) rfl 3 (by decide) rfl 1 rfl (by decide) (by decide) (by decide) (by decide) D99_1_7 ?_
  intro a683 h684 H684
  change Hp n0 h684 ((a683, Xa Z [0, 1, 2]) :: (a, Ob Z "com/example/rankwise/rankwise/store/TripleIndex" NST [.null, .null, .null]) :: (fa, Ia Z (lst 4 (fun _ => 0))) :: (sa, Ia Z (lst 4 (sF ke))) :: (ta, Ia Z (lst 4 (tF ke))) :: (ca, Xa Z [0, 1, 2]) :: σ) at H684
  refine G.cast_x K (wd hw 17 rfl) (wd hw 18 rfl) H684 (i := 0) rfl D99_1_10 ?_
  refine G.putF K (host := "") (Or.inl (wd hw 19 rfl)) (cf_NST hw) (Or.inr ⟨(wd hw 20 rfl), rfl, rfl⟩) (wd hw 2 rfl) H684 (i := 1) rfl (j := 0) rfl rfl (ty := (.array .int)) (by decide) rfl rfl D99_1_13 ?_
  intro h685 H685
  change Hp n0 h685 ((a683, Xa Z [0, 1, 2]) :: (a, Ob Z "com/example/rankwise/rankwise/store/TripleIndex" NST [.ref a683, .null, .null]) :: (fa, Ia Z (lst 4 (fun _ => 0))) :: (sa, Ia Z (lst 4 (sF ke))) :: (ta, Ia Z (lst 4 (tF ke))) :: (ca, Xa Z [0, 1, 2]) :: σ) at H685
  refine G.aloadN K D99_1_16 rfl rfl ?_
  refine G.aloadN K D99_1_17 rfl rfl ?_
  refine G.aloadN K D99_1_18 rfl rfl ?_
  refine G.iload K D99_1_19 rfl ?_
  have H686 : Hp n0 h685 ((ta, Ia Z (lst 4 (tF ke))) :: (a683, Xa Z [0, 1, 2]) :: (a, Ob Z "com/example/rankwise/rankwise/store/TripleIndex" NST [.ref a683, .null, .null]) :: (fa, Ia Z (lst 4 (fun _ => 0))) :: (sa, Ia Z (lst 4 (sF ke))) :: (ca, Xa Z [0, 1, 2]) :: σ) := H685.pull 4 rfl
  have H687 : Hp n0 h685 ((sa, Ia Z (lst 4 (sF ke))) :: (ta, Ia Z (lst 4 (tF ke))) :: (a683, Xa Z [0, 1, 2]) :: (a, Ob Z "com/example/rankwise/rankwise/store/TripleIndex" NST [.ref a683, .null, .null]) :: (fa, Ia Z (lst 4 (fun _ => 0))) :: (ca, Xa Z [0, 1, 2]) :: σ) := H686.pull 4 rfl
  have H688 : Hp n0 h685 ((fa, Ia Z (lst 4 (fun _ => 0))) :: (sa, Ia Z (lst 4 (sF ke))) :: (ta, Ia Z (lst 4 (tF ke))) :: (a683, Xa Z [0, 1, 2]) :: (a, Ob Z "com/example/rankwise/rankwise/store/TripleIndex" NST [.ref a683, .null, .null]) :: (ca, Xa Z [0, 1, 2]) :: σ) := H687.pull 4 rfl
  refine G.callS K hl (wd hw 21 rfl) (wd hw 22 rfl) (wd hw 3 rfl) (wd hw 23 rfl) (by decide) pd_2 (ct_sort4 l Z a0 hw n0 h685 fa sa ta ke ((a683, Xa Z [0, 1, 2]) :: (a, Ob Z "com/example/rankwise/rankwise/store/TripleIndex" NST [.ref a683, .null, .null]) :: (ca, Xa Z [0, 1, 2]) :: σ) hK H688) 0 rfl (by decide) (by decide) (by decide) (by decide) rfl rfl [.int 4, .ref ta, .ref sa, .ref fa] rfl D99_1_21 ?_
  rintro _ h689 ⟨b689, y0, y1, y2, y3, rfl, f0, f1, f2, f3, f4, f5, f6, f7, f8, f9, f10, f11, f12, H689⟩
  change G k n0 _ h689 _ _ 24 [.val (.ref a), .val (.ref fa), .val (.ref sa), .val (.ref ta), .val (.int 4), .val (.ref ca), .unset, .unset, .unset, .unset, .unset, .unset, .unset] [.ref b689]
  refine G.astore K D99_1_24 rfl ([.val (.ref a), .val (.ref fa), .val (.ref sa), .val (.ref ta), .val (.int 4), .val (.ref ca), .val (.ref b689), .unset, .unset, .unset, .unset, .unset, .unset]) rfl ?_
  refine G.iload K D99_1_26 rfl ?_
  refine G.if_ne K D99_1_28 (fun _ => ?_) (fun q => absurd q (by decide))
  refine G.aloadN K D99_1_35 rfl rfl ?_
  refine G.aload K D99_1_36 rfl rfl ?_
  refine G.iload K D99_1_38 rfl ?_
  refine G.iconst K D99_1_40 1 rfl ?_
  refine G.isub K D99_1_41 ?_
  change G k n0 _ h689 _ _ 42 [.val (.ref a), .val (.ref fa), .val (.ref sa), .val (.ref ta), .val (.int 4), .val (.ref ca), .val (.ref b689), .unset, .unset, .unset, .unset, .unset, .unset] [.int 3, .ref b689, .ref fa]
  refine G.aload_i K H689 (i := 0) rfl (by decide) rfl D99_1_42 ?_
  refine G.aload_i K H689 (i := 1) rfl (own_nneg (by omega)) (by rw [own_nidx (by omega)]; exact lst_get _ (by omega)) D99_1_43 ?_
  refine G.istore K D99_1_44 ([.val (.ref a), .val (.ref fa), .val (.ref sa), .val (.ref ta), .val (.int 4), .val (.ref ca), .val (.ref b689), .val (.int 0), .unset, .unset, .unset, .unset, .unset]) rfl ?_
  refine G.iload K D99_1_46 rfl ?_
  refine G.iconst K D99_1_48 2 rfl ?_
  refine G.iadd K D99_1_49 ?_
  change G k n0 _ h689 _ _ 50 [.val (.ref a), .val (.ref fa), .val (.ref sa), .val (.ref ta), .val (.int 4), .val (.ref ca), .val (.ref b689), .val (.int 0), .unset, .unset, .unset, .unset, .unset] [.int 2]
  refine G.newarr_i K (wd hw 0 rfl) H689 (by decide) 2 (by decide) (by decide) (by decide) (by decide) D99_1_50 ?_
  intro a691 h692 H692
  change Hp n0 h692 ((a691, Ia Z [0, 0]) :: (b689, Ia Z [Int32.ofNat y0, Int32.ofNat y1, Int32.ofNat y2, Int32.ofNat y3]) :: (fa, Ia Z (lst 4 (fun _ => 0))) :: (sa, Ia Z (lst 4 (sF ke))) :: (ta, Ia Z (lst 4 (tF ke))) :: (a683, Xa Z [0, 1, 2]) :: (a, Ob Z "com/example/rankwise/rankwise/store/TripleIndex" NST [.ref a683, .null, .null]) :: (ca, Xa Z [0, 1, 2]) :: σ) at H692
  refine G.astore K D99_1_52 rfl ([.val (.ref a), .val (.ref fa), .val (.ref sa), .val (.ref ta), .val (.int 4), .val (.ref ca), .val (.ref b689), .val (.int 0), .val (.ref a691), .unset, .unset, .unset, .unset]) rfl ?_
  refine G.iconst K D99_1_54 2 rfl ?_
  refine G.iload K D99_1_55 rfl ?_
  refine G.imul K D99_1_57 ?_
  change G k n0 _ h692 _ _ 58 [.val (.ref a), .val (.ref fa), .val (.ref sa), .val (.ref ta), .val (.int 4), .val (.ref ca), .val (.ref b689), .val (.int 0), .val (.ref a691), .unset, .unset, .unset, .unset] [.int 8]
  refine G.newarr_i K (wd hw 0 rfl) H692 (by decide) 8 (by decide) (by decide) (by decide) (by decide) D99_1_58 ?_
  intro a693 h694 H694
  change Hp n0 h694 ((a693, Ia Z [0, 0, 0, 0, 0, 0, 0, 0]) :: (a691, Ia Z [0, 0]) :: (b689, Ia Z [Int32.ofNat y0, Int32.ofNat y1, Int32.ofNat y2, Int32.ofNat y3]) :: (fa, Ia Z (lst 4 (fun _ => 0))) :: (sa, Ia Z (lst 4 (sF ke))) :: (ta, Ia Z (lst 4 (tF ke))) :: (a683, Xa Z [0, 1, 2]) :: (a, Ob Z "com/example/rankwise/rankwise/store/TripleIndex" NST [.ref a683, .null, .null]) :: (ca, Xa Z [0, 1, 2]) :: σ) at H694
  refine G.astore K D99_1_60 rfl ([.val (.ref a), .val (.ref fa), .val (.ref sa), .val (.ref ta), .val (.int 4), .val (.ref ca), .val (.ref b689), .val (.int 0), .val (.ref a691), .val (.ref a693), .unset, .unset, .unset]) rfl ?_
  refine G.iconst K D99_1_62 0 rfl ?_
  refine G.istore K D99_1_63 ([.val (.ref a), .val (.ref fa), .val (.ref sa), .val (.ref ta), .val (.int 4), .val (.ref ca), .val (.ref b689), .val (.int 0), .val (.ref a691), .val (.ref a693), .val (.int 0), .unset, .unset]) rfl ?_
  refine G.iconst K D99_1_65 0 rfl ?_
  refine G.istore K D99_1_66 ([.val (.ref a), .val (.ref fa), .val (.ref sa), .val (.ref ta), .val (.int 4), .val (.ref ca), .val (.ref b689), .val (.int 0), .val (.ref a691), .val (.ref a693), .val (.int 0), .val (.int 0), .unset]) rfl ?_
  refine G.iload K D99_1_68 rfl ?_
  refine G.iload K D99_1_70 rfl ?_
  refine G.icmp_ge K D99_1_72 (fun q => absurd q (by decide)) (fun _ => ?_)
  refine G.aload K D99_1_75 rfl rfl ?_
  refine G.iload K D99_1_77 rfl ?_
  refine G.aload_i K H694 (i := 2) rfl (by decide) rfl D99_1_79 ?_
  refine G.istore K D99_1_80 ([.val (.ref a), .val (.ref fa), .val (.ref sa), .val (.ref ta), .val (.int 4), .val (.ref ca), .val (.ref b689), .val (.int 0), .val (.ref a691), .val (.ref a693), .val (.int 0), .val (.int 0), .val (.int (Int32.ofNat y0))]) rfl ?_
  refine G.iload K D99_1_82 rfl ?_
  refine G.if_le K D99_1_84 (fun _ => ?_) (fun q => absurd q (by decide))
  refine G.aload K D99_1_138 rfl rfl ?_
  refine G.aloadN K D99_1_140 rfl rfl ?_
  refine G.iload K D99_1_141 rfl ?_
  refine G.aload_i K H694 (i := 3) rfl (own_nneg (by omega)) (by rw [own_nidx (by omega)]; exact lst_get _ (by omega)) D99_1_143 ?_
  refine G.iconst K D99_1_144 1 rfl ?_
  refine G.iadd K D99_1_145 ?_
  change G k n0 _ h694 _ _ 146 [.val (.ref a), .val (.ref fa), .val (.ref sa), .val (.ref ta), .val (.int 4), .val (.ref ca), .val (.ref b689), .val (.int 0), .val (.ref a691), .val (.ref a693), .val (.int 0), .val (.int 0), .val (.int (Int32.ofNat y0))] [.int 1, .ref a691]
  refine G.dup2 K D99_1_146 rfl rfl ?_
  refine G.aload_i K H694 (i := 1) rfl (by decide) rfl D99_1_147 ?_
  refine G.iconst K D99_1_148 1 rfl ?_
  refine G.iadd K D99_1_149 ?_
  change G k n0 _ h694 _ _ 150 [.val (.ref a), .val (.ref fa), .val (.ref sa), .val (.ref ta), .val (.int 4), .val (.ref ca), .val (.ref b689), .val (.int 0), .val (.ref a691), .val (.ref a693), .val (.int 0), .val (.int 0), .val (.int (Int32.ofNat y0))] [.int 1, .int 1, .ref a691]
  refine G.astore_i K H694 (i := 1) rfl (by decide) (Nat.le_of_ble_eq_true rfl) D99_1_150 ?_
  intro h697 H697
  change Hp n0 h697 ((a693, Ia Z [0, 0, 0, 0, 0, 0, 0, 0]) :: (a691, Ia Z [0, 1]) :: (b689, Ia Z [Int32.ofNat y0, Int32.ofNat y1, Int32.ofNat y2, Int32.ofNat y3]) :: (fa, Ia Z (lst 4 (fun _ => 0))) :: (sa, Ia Z (lst 4 (sF ke))) :: (ta, Ia Z (lst 4 (tF ke))) :: (a683, Xa Z [0, 1, 2]) :: (a, Ob Z "com/example/rankwise/rankwise/store/TripleIndex" NST [.ref a683, .null, .null]) :: (ca, Xa Z [0, 1, 2]) :: σ) at H697
  refine G.aload K D99_1_151 rfl rfl ?_
  refine G.iconst K D99_1_153 2 rfl ?_
  refine G.iload K D99_1_154 rfl ?_
  refine G.imul K D99_1_156 ?_
  change G k n0 _ h697 _ _ 157 [.val (.ref a), .val (.ref fa), .val (.ref sa), .val (.ref ta), .val (.int 4), .val (.ref ca), .val (.ref b689), .val (.int 0), .val (.ref a691), .val (.ref a693), .val (.int 0), .val (.int 0), .val (.int (Int32.ofNat y0))] [.int 0, .ref a693]
  refine G.aloadN K D99_1_157 rfl rfl ?_
  refine G.iload K D99_1_158 rfl ?_
  refine G.aload_i K H697 (i := 4) rfl (own_nneg (by omega)) (by rw [own_nidx (by omega)]; exact lst_get _ (by omega)) D99_1_160 ?_
  refine G.astore_i K H697 (i := 0) rfl (by decide) (Nat.le_of_ble_eq_true rfl) D99_1_161 ?_
  intro h698 H698
  change Hp n0 h698 ((a693, Ia Z [(sF ke y0), 0, 0, 0, 0, 0, 0, 0]) :: (a691, Ia Z [0, 1]) :: (b689, Ia Z [Int32.ofNat y0, Int32.ofNat y1, Int32.ofNat y2, Int32.ofNat y3]) :: (fa, Ia Z (lst 4 (fun _ => 0))) :: (sa, Ia Z (lst 4 (sF ke))) :: (ta, Ia Z (lst 4 (tF ke))) :: (a683, Xa Z [0, 1, 2]) :: (a, Ob Z "com/example/rankwise/rankwise/store/TripleIndex" NST [.ref a683, .null, .null]) :: (ca, Xa Z [0, 1, 2]) :: σ) at H698
  refine G.aload K D99_1_162 rfl rfl ?_
  refine G.iconst K D99_1_164 2 rfl ?_
  refine G.iload K D99_1_165 rfl ?_
  refine G.imul K D99_1_167 ?_
  change G k n0 _ h698 _ _ 168 [.val (.ref a), .val (.ref fa), .val (.ref sa), .val (.ref ta), .val (.int 4), .val (.ref ca), .val (.ref b689), .val (.int 0), .val (.ref a691), .val (.ref a693), .val (.int 0), .val (.int 0), .val (.int (Int32.ofNat y0))] [.int 0, .ref a693]
  refine G.iconst K D99_1_168 1 rfl ?_
  refine G.iadd K D99_1_169 ?_
  change G k n0 _ h698 _ _ 170 [.val (.ref a), .val (.ref fa), .val (.ref sa), .val (.ref ta), .val (.int 4), .val (.ref ca), .val (.ref b689), .val (.int 0), .val (.ref a691), .val (.ref a693), .val (.int 0), .val (.int 0), .val (.int (Int32.ofNat y0))] [.int 1, .ref a693]
  refine G.aloadN K D99_1_170 rfl rfl ?_
  refine G.iload K D99_1_171 rfl ?_
  refine G.aload_i K H698 (i := 5) rfl (own_nneg (by omega)) (by rw [own_nidx (by omega)]; exact lst_get _ (by omega)) D99_1_173 ?_
  refine G.astore_i K H698 (i := 0) rfl (by decide) (Nat.le_of_ble_eq_true rfl) D99_1_174 ?_
  intro h699 H699
  change Hp n0 h699 ((a693, Ia Z [(sF ke y0), (tF ke y0), 0, 0, 0, 0, 0, 0]) :: (a691, Ia Z [0, 1]) :: (b689, Ia Z [Int32.ofNat y0, Int32.ofNat y1, Int32.ofNat y2, Int32.ofNat y3]) :: (fa, Ia Z (lst 4 (fun _ => 0))) :: (sa, Ia Z (lst 4 (sF ke))) :: (ta, Ia Z (lst 4 (tF ke))) :: (a683, Xa Z [0, 1, 2]) :: (a, Ob Z "com/example/rankwise/rankwise/store/TripleIndex" NST [.ref a683, .null, .null]) :: (ca, Xa Z [0, 1, 2]) :: σ) at H699
  refine G.iinc K D99_1_175 1 rfl rfl ([.val (.ref a), .val (.ref fa), .val (.ref sa), .val (.ref ta), .val (.int 4), .val (.ref ca), .val (.ref b689), .val (.int 0), .val (.ref a691), .val (.ref a693), .val (.int (0 + 1)), .val (.int 0), .val (.int (Int32.ofNat y0))]) rfl ?_
  change G k n0 _ h699 _ _ 178 [.val (.ref a), .val (.ref fa), .val (.ref sa), .val (.ref ta), .val (.int 4), .val (.ref ca), .val (.ref b689), .val (.int 0), .val (.ref a691), .val (.ref a693), .val (.int 1), .val (.int 0), .val (.int (Int32.ofNat y0))] []
  refine G.iinc K D99_1_178 1 rfl rfl ([.val (.ref a), .val (.ref fa), .val (.ref sa), .val (.ref ta), .val (.int 4), .val (.ref ca), .val (.ref b689), .val (.int 0), .val (.ref a691), .val (.ref a693), .val (.int 1), .val (.int (0 + 1)), .val (.int (Int32.ofNat y0))]) rfl ?_
  change G k n0 _ h699 _ _ 181 [.val (.ref a), .val (.ref fa), .val (.ref sa), .val (.ref ta), .val (.int 4), .val (.ref ca), .val (.ref b689), .val (.int 0), .val (.ref a691), .val (.ref a693), .val (.int 1), .val (.int 1), .val (.int (Int32.ofNat y0))] []
  refine G.goto K D99_1_181 ?_
  refine G.iload K D99_1_68 rfl ?_
  refine G.iload K D99_1_70 rfl ?_
  refine G.icmp_ge K D99_1_72 (fun q => absurd q (by decide)) (fun _ => ?_)
  refine G.aload K D99_1_75 rfl rfl ?_
  refine G.iload K D99_1_77 rfl ?_
  refine G.aload_i K H699 (i := 2) rfl (by decide) rfl D99_1_79 ?_
  refine G.istore K D99_1_80 ([.val (.ref a), .val (.ref fa), .val (.ref sa), .val (.ref ta), .val (.int 4), .val (.ref ca), .val (.ref b689), .val (.int 0), .val (.ref a691), .val (.ref a693), .val (.int 1), .val (.int 1), .val (.int (Int32.ofNat y1))]) rfl ?_
  have T701 : ¬ ke y1 = ke y0 → G k n0 (fun v h' => ∃ (b1 b2 b3 : Addr) (L : Nat) (zf : Nat → Nat), v = none ∧ DD ke zf L (fun f => D4 f (ke 0) (ke 1) (ke 2) (ke 3)) ∧ Hp n0 h' ((a, Ob Z "com/example/rankwise/rankwise/store/TripleIndex" NST [.ref b1, .ref b2, .ref b3]) :: (b3, Ia Z (lst (2 * L) (cF ke zf))) :: (fa, Ia Z (lst 4 (fun _ => 0))) :: (sa, Ia Z (lst 4 (sF ke))) :: (ta, Ia Z (lst 4 (tF ke))) :: σ)) h699 5 21 138 [.val (.ref a), .val (.ref fa), .val (.ref sa), .val (.ref ta), .val (.int 4), .val (.ref ca), .val (.ref b689), .val (.int 0), .val (.ref a691), .val (.ref a693), .val (.int 1), .val (.int 1), .val (.int (Int32.ofNat y1))] [] := by
    intro ne1
    refine G.aload K D99_1_138 rfl rfl ?_
    refine G.aloadN K D99_1_140 rfl rfl ?_
    refine G.iload K D99_1_141 rfl ?_
    refine G.aload_i K H699 (i := 3) rfl (own_nneg (by omega)) (by rw [own_nidx (by omega)]; exact lst_get _ (by omega)) D99_1_143 ?_
    refine G.iconst K D99_1_144 1 rfl ?_
    refine G.iadd K D99_1_145 ?_
    change G k n0 _ h699 _ _ 146 [.val (.ref a), .val (.ref fa), .val (.ref sa), .val (.ref ta), .val (.int 4), .val (.ref ca), .val (.ref b689), .val (.int 0), .val (.ref a691), .val (.ref a693), .val (.int 1), .val (.int 1), .val (.int (Int32.ofNat y1))] [.int 1, .ref a691]
    refine G.dup2 K D99_1_146 rfl rfl ?_
    refine G.aload_i K H699 (i := 1) rfl (by decide) rfl D99_1_147 ?_
    refine G.iconst K D99_1_148 1 rfl ?_
    refine G.iadd K D99_1_149 ?_
    change G k n0 _ h699 _ _ 150 [.val (.ref a), .val (.ref fa), .val (.ref sa), .val (.ref ta), .val (.int 4), .val (.ref ca), .val (.ref b689), .val (.int 0), .val (.ref a691), .val (.ref a693), .val (.int 1), .val (.int 1), .val (.int (Int32.ofNat y1))] [.int 2, .int 1, .ref a691]
    refine G.astore_i K H699 (i := 1) rfl (by decide) (Nat.le_of_ble_eq_true rfl) D99_1_150 ?_
    intro h702 H702
    change Hp n0 h702 ((a693, Ia Z [(sF ke y0), (tF ke y0), 0, 0, 0, 0, 0, 0]) :: (a691, Ia Z [0, 2]) :: (b689, Ia Z [Int32.ofNat y0, Int32.ofNat y1, Int32.ofNat y2, Int32.ofNat y3]) :: (fa, Ia Z (lst 4 (fun _ => 0))) :: (sa, Ia Z (lst 4 (sF ke))) :: (ta, Ia Z (lst 4 (tF ke))) :: (a683, Xa Z [0, 1, 2]) :: (a, Ob Z "com/example/rankwise/rankwise/store/TripleIndex" NST [.ref a683, .null, .null]) :: (ca, Xa Z [0, 1, 2]) :: σ) at H702
    refine G.aload K D99_1_151 rfl rfl ?_
    refine G.iconst K D99_1_153 2 rfl ?_
    refine G.iload K D99_1_154 rfl ?_
    refine G.imul K D99_1_156 ?_
    change G k n0 _ h702 _ _ 157 [.val (.ref a), .val (.ref fa), .val (.ref sa), .val (.ref ta), .val (.int 4), .val (.ref ca), .val (.ref b689), .val (.int 0), .val (.ref a691), .val (.ref a693), .val (.int 1), .val (.int 1), .val (.int (Int32.ofNat y1))] [.int 2, .ref a693]
    refine G.aloadN K D99_1_157 rfl rfl ?_
    refine G.iload K D99_1_158 rfl ?_
    refine G.aload_i K H702 (i := 4) rfl (own_nneg (by omega)) (by rw [own_nidx (by omega)]; exact lst_get _ (by omega)) D99_1_160 ?_
    refine G.astore_i K H702 (i := 0) rfl (by decide) (Nat.le_of_ble_eq_true rfl) D99_1_161 ?_
    intro h703 H703
    change Hp n0 h703 ((a693, Ia Z [(sF ke y0), (tF ke y0), (sF ke y1), 0, 0, 0, 0, 0]) :: (a691, Ia Z [0, 2]) :: (b689, Ia Z [Int32.ofNat y0, Int32.ofNat y1, Int32.ofNat y2, Int32.ofNat y3]) :: (fa, Ia Z (lst 4 (fun _ => 0))) :: (sa, Ia Z (lst 4 (sF ke))) :: (ta, Ia Z (lst 4 (tF ke))) :: (a683, Xa Z [0, 1, 2]) :: (a, Ob Z "com/example/rankwise/rankwise/store/TripleIndex" NST [.ref a683, .null, .null]) :: (ca, Xa Z [0, 1, 2]) :: σ) at H703
    refine G.aload K D99_1_162 rfl rfl ?_
    refine G.iconst K D99_1_164 2 rfl ?_
    refine G.iload K D99_1_165 rfl ?_
    refine G.imul K D99_1_167 ?_
    change G k n0 _ h703 _ _ 168 [.val (.ref a), .val (.ref fa), .val (.ref sa), .val (.ref ta), .val (.int 4), .val (.ref ca), .val (.ref b689), .val (.int 0), .val (.ref a691), .val (.ref a693), .val (.int 1), .val (.int 1), .val (.int (Int32.ofNat y1))] [.int 2, .ref a693]
    refine G.iconst K D99_1_168 1 rfl ?_
    refine G.iadd K D99_1_169 ?_
    change G k n0 _ h703 _ _ 170 [.val (.ref a), .val (.ref fa), .val (.ref sa), .val (.ref ta), .val (.int 4), .val (.ref ca), .val (.ref b689), .val (.int 0), .val (.ref a691), .val (.ref a693), .val (.int 1), .val (.int 1), .val (.int (Int32.ofNat y1))] [.int 3, .ref a693]
    refine G.aloadN K D99_1_170 rfl rfl ?_
    refine G.iload K D99_1_171 rfl ?_
    refine G.aload_i K H703 (i := 5) rfl (own_nneg (by omega)) (by rw [own_nidx (by omega)]; exact lst_get _ (by omega)) D99_1_173 ?_
    refine G.astore_i K H703 (i := 0) rfl (by decide) (Nat.le_of_ble_eq_true rfl) D99_1_174 ?_
    intro h704 H704
    change Hp n0 h704 ((a693, Ia Z [(sF ke y0), (tF ke y0), (sF ke y1), (tF ke y1), 0, 0, 0, 0]) :: (a691, Ia Z [0, 2]) :: (b689, Ia Z [Int32.ofNat y0, Int32.ofNat y1, Int32.ofNat y2, Int32.ofNat y3]) :: (fa, Ia Z (lst 4 (fun _ => 0))) :: (sa, Ia Z (lst 4 (sF ke))) :: (ta, Ia Z (lst 4 (tF ke))) :: (a683, Xa Z [0, 1, 2]) :: (a, Ob Z "com/example/rankwise/rankwise/store/TripleIndex" NST [.ref a683, .null, .null]) :: (ca, Xa Z [0, 1, 2]) :: σ) at H704
    refine G.iinc K D99_1_175 1 rfl rfl ([.val (.ref a), .val (.ref fa), .val (.ref sa), .val (.ref ta), .val (.int 4), .val (.ref ca), .val (.ref b689), .val (.int 0), .val (.ref a691), .val (.ref a693), .val (.int (1 + 1)), .val (.int 1), .val (.int (Int32.ofNat y1))]) rfl ?_
    change G k n0 _ h704 _ _ 178 [.val (.ref a), .val (.ref fa), .val (.ref sa), .val (.ref ta), .val (.int 4), .val (.ref ca), .val (.ref b689), .val (.int 0), .val (.ref a691), .val (.ref a693), .val (.int 2), .val (.int 1), .val (.int (Int32.ofNat y1))] []
    refine G.iinc K D99_1_178 1 rfl rfl ([.val (.ref a), .val (.ref fa), .val (.ref sa), .val (.ref ta), .val (.int 4), .val (.ref ca), .val (.ref b689), .val (.int 0), .val (.ref a691), .val (.ref a693), .val (.int 2), .val (.int (1 + 1)), .val (.int (Int32.ofNat y1))]) rfl ?_
    change G k n0 _ h704 _ _ 181 [.val (.ref a), .val (.ref fa), .val (.ref sa), .val (.ref ta), .val (.int 4), .val (.ref ca), .val (.ref b689), .val (.int 0), .val (.ref a691), .val (.ref a693), .val (.int 2), .val (.int 2), .val (.int (Int32.ofNat y1))] []
    refine G.goto K D99_1_181 ?_
    refine G.iload K D99_1_68 rfl ?_
    refine G.iload K D99_1_70 rfl ?_
    refine G.icmp_ge K D99_1_72 (fun q => absurd q (by decide)) (fun _ => ?_)
    refine G.aload K D99_1_75 rfl rfl ?_
    refine G.iload K D99_1_77 rfl ?_
    refine G.aload_i K H704 (i := 2) rfl (by decide) rfl D99_1_79 ?_
    refine G.istore K D99_1_80 ([.val (.ref a), .val (.ref fa), .val (.ref sa), .val (.ref ta), .val (.int 4), .val (.ref ca), .val (.ref b689), .val (.int 0), .val (.ref a691), .val (.ref a693), .val (.int 2), .val (.int 2), .val (.int (Int32.ofNat y2))]) rfl ?_
    have T706 : ¬ ke y2 = ke y1 → G k n0 (fun v h' => ∃ (b1 b2 b3 : Addr) (L : Nat) (zf : Nat → Nat), v = none ∧ DD ke zf L (fun f => D4 f (ke 0) (ke 1) (ke 2) (ke 3)) ∧ Hp n0 h' ((a, Ob Z "com/example/rankwise/rankwise/store/TripleIndex" NST [.ref b1, .ref b2, .ref b3]) :: (b3, Ia Z (lst (2 * L) (cF ke zf))) :: (fa, Ia Z (lst 4 (fun _ => 0))) :: (sa, Ia Z (lst 4 (sF ke))) :: (ta, Ia Z (lst 4 (tF ke))) :: σ)) h704 5 21 138 [.val (.ref a), .val (.ref fa), .val (.ref sa), .val (.ref ta), .val (.int 4), .val (.ref ca), .val (.ref b689), .val (.int 0), .val (.ref a691), .val (.ref a693), .val (.int 2), .val (.int 2), .val (.int (Int32.ofNat y2))] [] := by
      intro ne2
      refine G.aload K D99_1_138 rfl rfl ?_
      refine G.aloadN K D99_1_140 rfl rfl ?_
      refine G.iload K D99_1_141 rfl ?_
      refine G.aload_i K H704 (i := 3) rfl (own_nneg (by omega)) (by rw [own_nidx (by omega)]; exact lst_get _ (by omega)) D99_1_143 ?_
      refine G.iconst K D99_1_144 1 rfl ?_
      refine G.iadd K D99_1_145 ?_
      change G k n0 _ h704 _ _ 146 [.val (.ref a), .val (.ref fa), .val (.ref sa), .val (.ref ta), .val (.int 4), .val (.ref ca), .val (.ref b689), .val (.int 0), .val (.ref a691), .val (.ref a693), .val (.int 2), .val (.int 2), .val (.int (Int32.ofNat y2))] [.int 1, .ref a691]
      refine G.dup2 K D99_1_146 rfl rfl ?_
      refine G.aload_i K H704 (i := 1) rfl (by decide) rfl D99_1_147 ?_
      refine G.iconst K D99_1_148 1 rfl ?_
      refine G.iadd K D99_1_149 ?_
      change G k n0 _ h704 _ _ 150 [.val (.ref a), .val (.ref fa), .val (.ref sa), .val (.ref ta), .val (.int 4), .val (.ref ca), .val (.ref b689), .val (.int 0), .val (.ref a691), .val (.ref a693), .val (.int 2), .val (.int 2), .val (.int (Int32.ofNat y2))] [.int 3, .int 1, .ref a691]
      refine G.astore_i K H704 (i := 1) rfl (by decide) (Nat.le_of_ble_eq_true rfl) D99_1_150 ?_
      intro h707 H707
      change Hp n0 h707 ((a693, Ia Z [(sF ke y0), (tF ke y0), (sF ke y1), (tF ke y1), 0, 0, 0, 0]) :: (a691, Ia Z [0, 3]) :: (b689, Ia Z [Int32.ofNat y0, Int32.ofNat y1, Int32.ofNat y2, Int32.ofNat y3]) :: (fa, Ia Z (lst 4 (fun _ => 0))) :: (sa, Ia Z (lst 4 (sF ke))) :: (ta, Ia Z (lst 4 (tF ke))) :: (a683, Xa Z [0, 1, 2]) :: (a, Ob Z "com/example/rankwise/rankwise/store/TripleIndex" NST [.ref a683, .null, .null]) :: (ca, Xa Z [0, 1, 2]) :: σ) at H707
      refine G.aload K D99_1_151 rfl rfl ?_
      refine G.iconst K D99_1_153 2 rfl ?_
      refine G.iload K D99_1_154 rfl ?_
      refine G.imul K D99_1_156 ?_
      change G k n0 _ h707 _ _ 157 [.val (.ref a), .val (.ref fa), .val (.ref sa), .val (.ref ta), .val (.int 4), .val (.ref ca), .val (.ref b689), .val (.int 0), .val (.ref a691), .val (.ref a693), .val (.int 2), .val (.int 2), .val (.int (Int32.ofNat y2))] [.int 4, .ref a693]
      refine G.aloadN K D99_1_157 rfl rfl ?_
      refine G.iload K D99_1_158 rfl ?_
      refine G.aload_i K H707 (i := 4) rfl (own_nneg (by omega)) (by rw [own_nidx (by omega)]; exact lst_get _ (by omega)) D99_1_160 ?_
      refine G.astore_i K H707 (i := 0) rfl (by decide) (Nat.le_of_ble_eq_true rfl) D99_1_161 ?_
      intro h708 H708
      change Hp n0 h708 ((a693, Ia Z [(sF ke y0), (tF ke y0), (sF ke y1), (tF ke y1), (sF ke y2), 0, 0, 0]) :: (a691, Ia Z [0, 3]) :: (b689, Ia Z [Int32.ofNat y0, Int32.ofNat y1, Int32.ofNat y2, Int32.ofNat y3]) :: (fa, Ia Z (lst 4 (fun _ => 0))) :: (sa, Ia Z (lst 4 (sF ke))) :: (ta, Ia Z (lst 4 (tF ke))) :: (a683, Xa Z [0, 1, 2]) :: (a, Ob Z "com/example/rankwise/rankwise/store/TripleIndex" NST [.ref a683, .null, .null]) :: (ca, Xa Z [0, 1, 2]) :: σ) at H708
      refine G.aload K D99_1_162 rfl rfl ?_
      refine G.iconst K D99_1_164 2 rfl ?_
      refine G.iload K D99_1_165 rfl ?_
      refine G.imul K D99_1_167 ?_
      change G k n0 _ h708 _ _ 168 [.val (.ref a), .val (.ref fa), .val (.ref sa), .val (.ref ta), .val (.int 4), .val (.ref ca), .val (.ref b689), .val (.int 0), .val (.ref a691), .val (.ref a693), .val (.int 2), .val (.int 2), .val (.int (Int32.ofNat y2))] [.int 4, .ref a693]
      refine G.iconst K D99_1_168 1 rfl ?_
      refine G.iadd K D99_1_169 ?_
      change G k n0 _ h708 _ _ 170 [.val (.ref a), .val (.ref fa), .val (.ref sa), .val (.ref ta), .val (.int 4), .val (.ref ca), .val (.ref b689), .val (.int 0), .val (.ref a691), .val (.ref a693), .val (.int 2), .val (.int 2), .val (.int (Int32.ofNat y2))] [.int 5, .ref a693]
      refine G.aloadN K D99_1_170 rfl rfl ?_
      refine G.iload K D99_1_171 rfl ?_
      refine G.aload_i K H708 (i := 5) rfl (own_nneg (by omega)) (by rw [own_nidx (by omega)]; exact lst_get _ (by omega)) D99_1_173 ?_
      refine G.astore_i K H708 (i := 0) rfl (by decide) (Nat.le_of_ble_eq_true rfl) D99_1_174 ?_
      intro h709 H709
      change Hp n0 h709 ((a693, Ia Z [(sF ke y0), (tF ke y0), (sF ke y1), (tF ke y1), (sF ke y2), (tF ke y2), 0, 0]) :: (a691, Ia Z [0, 3]) :: (b689, Ia Z [Int32.ofNat y0, Int32.ofNat y1, Int32.ofNat y2, Int32.ofNat y3]) :: (fa, Ia Z (lst 4 (fun _ => 0))) :: (sa, Ia Z (lst 4 (sF ke))) :: (ta, Ia Z (lst 4 (tF ke))) :: (a683, Xa Z [0, 1, 2]) :: (a, Ob Z "com/example/rankwise/rankwise/store/TripleIndex" NST [.ref a683, .null, .null]) :: (ca, Xa Z [0, 1, 2]) :: σ) at H709
      refine G.iinc K D99_1_175 1 rfl rfl ([.val (.ref a), .val (.ref fa), .val (.ref sa), .val (.ref ta), .val (.int 4), .val (.ref ca), .val (.ref b689), .val (.int 0), .val (.ref a691), .val (.ref a693), .val (.int (2 + 1)), .val (.int 2), .val (.int (Int32.ofNat y2))]) rfl ?_
      change G k n0 _ h709 _ _ 178 [.val (.ref a), .val (.ref fa), .val (.ref sa), .val (.ref ta), .val (.int 4), .val (.ref ca), .val (.ref b689), .val (.int 0), .val (.ref a691), .val (.ref a693), .val (.int 3), .val (.int 2), .val (.int (Int32.ofNat y2))] []
      refine G.iinc K D99_1_178 1 rfl rfl ([.val (.ref a), .val (.ref fa), .val (.ref sa), .val (.ref ta), .val (.int 4), .val (.ref ca), .val (.ref b689), .val (.int 0), .val (.ref a691), .val (.ref a693), .val (.int 3), .val (.int (2 + 1)), .val (.int (Int32.ofNat y2))]) rfl ?_
      change G k n0 _ h709 _ _ 181 [.val (.ref a), .val (.ref fa), .val (.ref sa), .val (.ref ta), .val (.int 4), .val (.ref ca), .val (.ref b689), .val (.int 0), .val (.ref a691), .val (.ref a693), .val (.int 3), .val (.int 3), .val (.int (Int32.ofNat y2))] []
      refine G.goto K D99_1_181 ?_
      refine G.iload K D99_1_68 rfl ?_
      refine G.iload K D99_1_70 rfl ?_
      refine G.icmp_ge K D99_1_72 (fun q => absurd q (by decide)) (fun _ => ?_)
      refine G.aload K D99_1_75 rfl rfl ?_
      refine G.iload K D99_1_77 rfl ?_
      refine G.aload_i K H709 (i := 2) rfl (by decide) rfl D99_1_79 ?_
      refine G.istore K D99_1_80 ([.val (.ref a), .val (.ref fa), .val (.ref sa), .val (.ref ta), .val (.int 4), .val (.ref ca), .val (.ref b689), .val (.int 0), .val (.ref a691), .val (.ref a693), .val (.int 3), .val (.int 3), .val (.int (Int32.ofNat y3))]) rfl ?_
      have T711 : ¬ ke y3 = ke y2 → G k n0 (fun v h' => ∃ (b1 b2 b3 : Addr) (L : Nat) (zf : Nat → Nat), v = none ∧ DD ke zf L (fun f => D4 f (ke 0) (ke 1) (ke 2) (ke 3)) ∧ Hp n0 h' ((a, Ob Z "com/example/rankwise/rankwise/store/TripleIndex" NST [.ref b1, .ref b2, .ref b3]) :: (b3, Ia Z (lst (2 * L) (cF ke zf))) :: (fa, Ia Z (lst 4 (fun _ => 0))) :: (sa, Ia Z (lst 4 (sF ke))) :: (ta, Ia Z (lst 4 (tF ke))) :: σ)) h709 5 21 138 [.val (.ref a), .val (.ref fa), .val (.ref sa), .val (.ref ta), .val (.int 4), .val (.ref ca), .val (.ref b689), .val (.int 0), .val (.ref a691), .val (.ref a693), .val (.int 3), .val (.int 3), .val (.int (Int32.ofNat y3))] [] := by
        intro ne3
        refine G.aload K D99_1_138 rfl rfl ?_
        refine G.aloadN K D99_1_140 rfl rfl ?_
        refine G.iload K D99_1_141 rfl ?_
        refine G.aload_i K H709 (i := 3) rfl (own_nneg (by omega)) (by rw [own_nidx (by omega)]; exact lst_get _ (by omega)) D99_1_143 ?_
        refine G.iconst K D99_1_144 1 rfl ?_
        refine G.iadd K D99_1_145 ?_
        change G k n0 _ h709 _ _ 146 [.val (.ref a), .val (.ref fa), .val (.ref sa), .val (.ref ta), .val (.int 4), .val (.ref ca), .val (.ref b689), .val (.int 0), .val (.ref a691), .val (.ref a693), .val (.int 3), .val (.int 3), .val (.int (Int32.ofNat y3))] [.int 1, .ref a691]
        refine G.dup2 K D99_1_146 rfl rfl ?_
        refine G.aload_i K H709 (i := 1) rfl (by decide) rfl D99_1_147 ?_
        refine G.iconst K D99_1_148 1 rfl ?_
        refine G.iadd K D99_1_149 ?_
        change G k n0 _ h709 _ _ 150 [.val (.ref a), .val (.ref fa), .val (.ref sa), .val (.ref ta), .val (.int 4), .val (.ref ca), .val (.ref b689), .val (.int 0), .val (.ref a691), .val (.ref a693), .val (.int 3), .val (.int 3), .val (.int (Int32.ofNat y3))] [.int 4, .int 1, .ref a691]
        refine G.astore_i K H709 (i := 1) rfl (by decide) (Nat.le_of_ble_eq_true rfl) D99_1_150 ?_
        intro h712 H712
        change Hp n0 h712 ((a693, Ia Z [(sF ke y0), (tF ke y0), (sF ke y1), (tF ke y1), (sF ke y2), (tF ke y2), 0, 0]) :: (a691, Ia Z [0, 4]) :: (b689, Ia Z [Int32.ofNat y0, Int32.ofNat y1, Int32.ofNat y2, Int32.ofNat y3]) :: (fa, Ia Z (lst 4 (fun _ => 0))) :: (sa, Ia Z (lst 4 (sF ke))) :: (ta, Ia Z (lst 4 (tF ke))) :: (a683, Xa Z [0, 1, 2]) :: (a, Ob Z "com/example/rankwise/rankwise/store/TripleIndex" NST [.ref a683, .null, .null]) :: (ca, Xa Z [0, 1, 2]) :: σ) at H712
        refine G.aload K D99_1_151 rfl rfl ?_
        refine G.iconst K D99_1_153 2 rfl ?_
        refine G.iload K D99_1_154 rfl ?_
        refine G.imul K D99_1_156 ?_
        change G k n0 _ h712 _ _ 157 [.val (.ref a), .val (.ref fa), .val (.ref sa), .val (.ref ta), .val (.int 4), .val (.ref ca), .val (.ref b689), .val (.int 0), .val (.ref a691), .val (.ref a693), .val (.int 3), .val (.int 3), .val (.int (Int32.ofNat y3))] [.int 6, .ref a693]
        refine G.aloadN K D99_1_157 rfl rfl ?_
        refine G.iload K D99_1_158 rfl ?_
        refine G.aload_i K H712 (i := 4) rfl (own_nneg (by omega)) (by rw [own_nidx (by omega)]; exact lst_get _ (by omega)) D99_1_160 ?_
        refine G.astore_i K H712 (i := 0) rfl (by decide) (Nat.le_of_ble_eq_true rfl) D99_1_161 ?_
        intro h713 H713
        change Hp n0 h713 ((a693, Ia Z [(sF ke y0), (tF ke y0), (sF ke y1), (tF ke y1), (sF ke y2), (tF ke y2), (sF ke y3), 0]) :: (a691, Ia Z [0, 4]) :: (b689, Ia Z [Int32.ofNat y0, Int32.ofNat y1, Int32.ofNat y2, Int32.ofNat y3]) :: (fa, Ia Z (lst 4 (fun _ => 0))) :: (sa, Ia Z (lst 4 (sF ke))) :: (ta, Ia Z (lst 4 (tF ke))) :: (a683, Xa Z [0, 1, 2]) :: (a, Ob Z "com/example/rankwise/rankwise/store/TripleIndex" NST [.ref a683, .null, .null]) :: (ca, Xa Z [0, 1, 2]) :: σ) at H713
        refine G.aload K D99_1_162 rfl rfl ?_
        refine G.iconst K D99_1_164 2 rfl ?_
        refine G.iload K D99_1_165 rfl ?_
        refine G.imul K D99_1_167 ?_
        change G k n0 _ h713 _ _ 168 [.val (.ref a), .val (.ref fa), .val (.ref sa), .val (.ref ta), .val (.int 4), .val (.ref ca), .val (.ref b689), .val (.int 0), .val (.ref a691), .val (.ref a693), .val (.int 3), .val (.int 3), .val (.int (Int32.ofNat y3))] [.int 6, .ref a693]
        refine G.iconst K D99_1_168 1 rfl ?_
        refine G.iadd K D99_1_169 ?_
        change G k n0 _ h713 _ _ 170 [.val (.ref a), .val (.ref fa), .val (.ref sa), .val (.ref ta), .val (.int 4), .val (.ref ca), .val (.ref b689), .val (.int 0), .val (.ref a691), .val (.ref a693), .val (.int 3), .val (.int 3), .val (.int (Int32.ofNat y3))] [.int 7, .ref a693]
        refine G.aloadN K D99_1_170 rfl rfl ?_
        refine G.iload K D99_1_171 rfl ?_
        refine G.aload_i K H713 (i := 5) rfl (own_nneg (by omega)) (by rw [own_nidx (by omega)]; exact lst_get _ (by omega)) D99_1_173 ?_
        refine G.astore_i K H713 (i := 0) rfl (by decide) (Nat.le_of_ble_eq_true rfl) D99_1_174 ?_
        intro h714 H714
        change Hp n0 h714 ((a693, Ia Z [(sF ke y0), (tF ke y0), (sF ke y1), (tF ke y1), (sF ke y2), (tF ke y2), (sF ke y3), (tF ke y3)]) :: (a691, Ia Z [0, 4]) :: (b689, Ia Z [Int32.ofNat y0, Int32.ofNat y1, Int32.ofNat y2, Int32.ofNat y3]) :: (fa, Ia Z (lst 4 (fun _ => 0))) :: (sa, Ia Z (lst 4 (sF ke))) :: (ta, Ia Z (lst 4 (tF ke))) :: (a683, Xa Z [0, 1, 2]) :: (a, Ob Z "com/example/rankwise/rankwise/store/TripleIndex" NST [.ref a683, .null, .null]) :: (ca, Xa Z [0, 1, 2]) :: σ) at H714
        refine G.iinc K D99_1_175 1 rfl rfl ([.val (.ref a), .val (.ref fa), .val (.ref sa), .val (.ref ta), .val (.int 4), .val (.ref ca), .val (.ref b689), .val (.int 0), .val (.ref a691), .val (.ref a693), .val (.int (3 + 1)), .val (.int 3), .val (.int (Int32.ofNat y3))]) rfl ?_
        change G k n0 _ h714 _ _ 178 [.val (.ref a), .val (.ref fa), .val (.ref sa), .val (.ref ta), .val (.int 4), .val (.ref ca), .val (.ref b689), .val (.int 0), .val (.ref a691), .val (.ref a693), .val (.int 4), .val (.int 3), .val (.int (Int32.ofNat y3))] []
        refine G.iinc K D99_1_178 1 rfl rfl ([.val (.ref a), .val (.ref fa), .val (.ref sa), .val (.ref ta), .val (.int 4), .val (.ref ca), .val (.ref b689), .val (.int 0), .val (.ref a691), .val (.ref a693), .val (.int 4), .val (.int (3 + 1)), .val (.int (Int32.ofNat y3))]) rfl ?_
        change G k n0 _ h714 _ _ 181 [.val (.ref a), .val (.ref fa), .val (.ref sa), .val (.ref ta), .val (.int 4), .val (.ref ca), .val (.ref b689), .val (.int 0), .val (.ref a691), .val (.ref a693), .val (.int 4), .val (.int 4), .val (.int (Int32.ofNat y3))] []
        refine G.goto K D99_1_181 ?_
        refine G.iload K D99_1_68 rfl ?_
        refine G.iload K D99_1_70 rfl ?_
        refine G.icmp_ge K D99_1_72 (fun _ => ?_) (fun q => absurd q (by decide))
        refine G.iconst K D99_1_184 1 rfl ?_
        refine G.istore K D99_1_185 ([.val (.ref a), .val (.ref fa), .val (.ref sa), .val (.ref ta), .val (.int 4), .val (.ref ca), .val (.ref b689), .val (.int 0), .val (.ref a691), .val (.ref a693), .val (.int 4), .val (.int 1), .val (.int (Int32.ofNat y3))]) rfl ?_
        refine G.iload K D99_1_187 rfl ?_
        refine G.aload K D99_1_189 rfl rfl ?_
        refine G.alen K H714 (i := 1) rfl D99_1_191 2 rfl ?_
        refine G.icmp_ge K D99_1_192 (fun q => absurd q (by decide)) (fun _ => ?_)
        refine G.aload K D99_1_195 rfl rfl ?_
        refine G.iload K D99_1_197 rfl ?_
        refine G.dup2 K D99_1_199 rfl rfl ?_
        refine G.aload_i K H714 (i := 1) rfl (by decide) rfl D99_1_200 ?_
        refine G.aload K D99_1_201 rfl rfl ?_
        refine G.iload K D99_1_203 rfl ?_
        refine G.iconst K D99_1_205 1 rfl ?_
        refine G.isub K D99_1_206 ?_
        change G k n0 _ h714 _ _ 207 [.val (.ref a), .val (.ref fa), .val (.ref sa), .val (.ref ta), .val (.int 4), .val (.ref ca), .val (.ref b689), .val (.int 0), .val (.ref a691), .val (.ref a693), .val (.int 4), .val (.int 1), .val (.int (Int32.ofNat y3))] [.int 0, .ref a691, .int 4, .int 1, .ref a691]
        refine G.aload_i K H714 (i := 1) rfl (by decide) rfl D99_1_207 ?_
        refine G.iadd K D99_1_208 ?_
        change G k n0 _ h714 _ _ 209 [.val (.ref a), .val (.ref fa), .val (.ref sa), .val (.ref ta), .val (.int 4), .val (.ref ca), .val (.ref b689), .val (.int 0), .val (.ref a691), .val (.ref a693), .val (.int 4), .val (.int 1), .val (.int (Int32.ofNat y3))] [.int 4, .int 1, .ref a691]
        refine G.astore_i K H714 (i := 1) rfl (by decide) (Nat.le_of_ble_eq_true rfl) D99_1_209 ?_
        intro h717 H717
        change Hp n0 h717 ((a693, Ia Z [(sF ke y0), (tF ke y0), (sF ke y1), (tF ke y1), (sF ke y2), (tF ke y2), (sF ke y3), (tF ke y3)]) :: (a691, Ia Z [0, 4]) :: (b689, Ia Z [Int32.ofNat y0, Int32.ofNat y1, Int32.ofNat y2, Int32.ofNat y3]) :: (fa, Ia Z (lst 4 (fun _ => 0))) :: (sa, Ia Z (lst 4 (sF ke))) :: (ta, Ia Z (lst 4 (tF ke))) :: (a683, Xa Z [0, 1, 2]) :: (a, Ob Z "com/example/rankwise/rankwise/store/TripleIndex" NST [.ref a683, .null, .null]) :: (ca, Xa Z [0, 1, 2]) :: σ) at H717
        refine G.iinc K D99_1_210 1 rfl rfl ([.val (.ref a), .val (.ref fa), .val (.ref sa), .val (.ref ta), .val (.int 4), .val (.ref ca), .val (.ref b689), .val (.int 0), .val (.ref a691), .val (.ref a693), .val (.int 4), .val (.int (1 + 1)), .val (.int (Int32.ofNat y3))]) rfl ?_
        change G k n0 _ h717 _ _ 213 [.val (.ref a), .val (.ref fa), .val (.ref sa), .val (.ref ta), .val (.int 4), .val (.ref ca), .val (.ref b689), .val (.int 0), .val (.ref a691), .val (.ref a693), .val (.int 4), .val (.int 2), .val (.int (Int32.ofNat y3))] []
        refine G.goto K D99_1_213 ?_
        refine G.iload K D99_1_187 rfl ?_
        refine G.aload K D99_1_189 rfl rfl ?_
        refine G.alen K H717 (i := 1) rfl D99_1_191 2 rfl ?_
        refine G.icmp_ge K D99_1_192 (fun _ => ?_) (fun q => absurd q (by decide))
        refine G.aloadN K D99_1_216 rfl rfl ?_
        refine G.aload K D99_1_217 rfl rfl ?_
        refine G.putF K (host := "") (Or.inl (wd hw 24 rfl)) (cf_NST hw) (Or.inr ⟨(wd hw 25 rfl), rfl, rfl⟩) (wd hw 2 rfl) H717 (i := 7) rfl (j := 1) rfl rfl (ty := (.array .int)) (by decide) rfl rfl D99_1_219 ?_
        intro h719 H719
        change Hp n0 h719 ((a693, Ia Z [(sF ke y0), (tF ke y0), (sF ke y1), (tF ke y1), (sF ke y2), (tF ke y2), (sF ke y3), (tF ke y3)]) :: (a691, Ia Z [0, 4]) :: (b689, Ia Z [Int32.ofNat y0, Int32.ofNat y1, Int32.ofNat y2, Int32.ofNat y3]) :: (fa, Ia Z (lst 4 (fun _ => 0))) :: (sa, Ia Z (lst 4 (sF ke))) :: (ta, Ia Z (lst 4 (tF ke))) :: (a683, Xa Z [0, 1, 2]) :: (a, Ob Z "com/example/rankwise/rankwise/store/TripleIndex" NST [.ref a683, .ref a691, .null]) :: (ca, Xa Z [0, 1, 2]) :: σ) at H719
        refine G.aloadN K D99_1_222 rfl rfl ?_
        refine G.iload K D99_1_223 rfl ?_
        refine G.iload K D99_1_225 rfl ?_
        refine G.icmp_ne K D99_1_227 (fun q => absurd q (by decide)) (fun _ => ?_)
        refine G.aload K D99_1_230 rfl rfl ?_
        refine G.goto K D99_1_232 ?_
        refine G.putF K (host := "") (Or.inl (wd hw 26 rfl)) (cf_NST hw) (Or.inr ⟨(wd hw 27 rfl), rfl, rfl⟩) (wd hw 2 rfl) H719 (i := 7) rfl (j := 2) rfl rfl (ty := (.array .int)) (by decide) rfl rfl D99_1_244 ?_
        intro h721 H721
        change Hp n0 h721 ((a693, Ia Z [(sF ke y0), (tF ke y0), (sF ke y1), (tF ke y1), (sF ke y2), (tF ke y2), (sF ke y3), (tF ke y3)]) :: (a691, Ia Z [0, 4]) :: (b689, Ia Z [Int32.ofNat y0, Int32.ofNat y1, Int32.ofNat y2, Int32.ofNat y3]) :: (fa, Ia Z (lst 4 (fun _ => 0))) :: (sa, Ia Z (lst 4 (sF ke))) :: (ta, Ia Z (lst 4 (tF ke))) :: (a683, Xa Z [0, 1, 2]) :: (a, Ob Z "com/example/rankwise/rankwise/store/TripleIndex" NST [.ref a683, .ref a691, .ref a693]) :: (ca, Xa Z [0, 1, 2]) :: σ) at H721
        refine G.ret_void K D99_1_247 ?_
        have H722 : Hp n0 h721 ((ta, Ia Z (lst 4 (tF ke))) :: (a693, Ia Z [(sF ke y0), (tF ke y0), (sF ke y1), (tF ke y1), (sF ke y2), (tF ke y2), (sF ke y3), (tF ke y3)]) :: (a691, Ia Z [0, 4]) :: (b689, Ia Z [Int32.ofNat y0, Int32.ofNat y1, Int32.ofNat y2, Int32.ofNat y3]) :: (fa, Ia Z (lst 4 (fun _ => 0))) :: (sa, Ia Z (lst 4 (sF ke))) :: (a683, Xa Z [0, 1, 2]) :: (a, Ob Z "com/example/rankwise/rankwise/store/TripleIndex" NST [.ref a683, .ref a691, .ref a693]) :: (ca, Xa Z [0, 1, 2]) :: σ) := H721.pull 5 rfl
        have H723 : Hp n0 h721 ((sa, Ia Z (lst 4 (sF ke))) :: (ta, Ia Z (lst 4 (tF ke))) :: (a693, Ia Z [(sF ke y0), (tF ke y0), (sF ke y1), (tF ke y1), (sF ke y2), (tF ke y2), (sF ke y3), (tF ke y3)]) :: (a691, Ia Z [0, 4]) :: (b689, Ia Z [Int32.ofNat y0, Int32.ofNat y1, Int32.ofNat y2, Int32.ofNat y3]) :: (fa, Ia Z (lst 4 (fun _ => 0))) :: (a683, Xa Z [0, 1, 2]) :: (a, Ob Z "com/example/rankwise/rankwise/store/TripleIndex" NST [.ref a683, .ref a691, .ref a693]) :: (ca, Xa Z [0, 1, 2]) :: σ) := H722.pull 5 rfl
        have H724 : Hp n0 h721 ((fa, Ia Z (lst 4 (fun _ => 0))) :: (sa, Ia Z (lst 4 (sF ke))) :: (ta, Ia Z (lst 4 (tF ke))) :: (a693, Ia Z [(sF ke y0), (tF ke y0), (sF ke y1), (tF ke y1), (sF ke y2), (tF ke y2), (sF ke y3), (tF ke y3)]) :: (a691, Ia Z [0, 4]) :: (b689, Ia Z [Int32.ofNat y0, Int32.ofNat y1, Int32.ofNat y2, Int32.ofNat y3]) :: (a683, Xa Z [0, 1, 2]) :: (a, Ob Z "com/example/rankwise/rankwise/store/TripleIndex" NST [.ref a683, .ref a691, .ref a693]) :: (ca, Xa Z [0, 1, 2]) :: σ) := H723.pull 5 rfl
        have H725 : Hp n0 h721 ((a693, Ia Z [(sF ke y0), (tF ke y0), (sF ke y1), (tF ke y1), (sF ke y2), (tF ke y2), (sF ke y3), (tF ke y3)]) :: (fa, Ia Z (lst 4 (fun _ => 0))) :: (sa, Ia Z (lst 4 (sF ke))) :: (ta, Ia Z (lst 4 (tF ke))) :: (a691, Ia Z [0, 4]) :: (b689, Ia Z [Int32.ofNat y0, Int32.ofNat y1, Int32.ofNat y2, Int32.ofNat y3]) :: (a683, Xa Z [0, 1, 2]) :: (a, Ob Z "com/example/rankwise/rankwise/store/TripleIndex" NST [.ref a683, .ref a691, .ref a693]) :: (ca, Xa Z [0, 1, 2]) :: σ) := H724.pull 3 rfl
        have H726 : Hp n0 h721 ((a, Ob Z "com/example/rankwise/rankwise/store/TripleIndex" NST [.ref a683, .ref a691, .ref a693]) :: (a693, Ia Z [(sF ke y0), (tF ke y0), (sF ke y1), (tF ke y1), (sF ke y2), (tF ke y2), (sF ke y3), (tF ke y3)]) :: (fa, Ia Z (lst 4 (fun _ => 0))) :: (sa, Ia Z (lst 4 (sF ke))) :: (ta, Ia Z (lst 4 (tF ke))) :: (a691, Ia Z [0, 4]) :: (b689, Ia Z [Int32.ofNat y0, Int32.ofNat y1, Int32.ofNat y2, Int32.ofNat y3]) :: (a683, Xa Z [0, 1, 2]) :: (ca, Xa Z [0, 1, 2]) :: σ) := H725.pull 7 rfl
        have H727 : Hp n0 h721 ((a, Ob Z "com/example/rankwise/rankwise/store/TripleIndex" NST [.ref a683, .ref a691, .ref a693]) :: (a693, Ia Z [(sF ke y0), (tF ke y0), (sF ke y1), (tF ke y1), (sF ke y2), (tF ke y2), (sF ke y3), (tF ke y3)]) :: (fa, Ia Z (lst 4 (fun _ => 0))) :: (sa, Ia Z (lst 4 (sF ke))) :: (ta, Ia Z (lst 4 (tF ke))) :: σ) := H726.sub (List.Sublist.cons_cons _ (List.Sublist.cons_cons _ (List.Sublist.cons_cons _ (List.Sublist.cons_cons _ (List.Sublist.cons_cons _ (List.Sublist.cons _ (List.Sublist.cons _ (List.Sublist.cons _ (List.Sublist.cons _ (List.Sublist.refl _))))))))))
        refine ⟨_, _, _, 4, fun i => [y0, y1, y2, y3].getD i 0, rfl, ⟨by decide, ?_, ?_⟩, H727⟩
        · intro i hi
          rcases (by omega : i = 0 ∨ i = 1 ∨ i = 2) with rfl | rfl | rfl
          · show ke y0 < ke y1; omega
          · show ke y1 < ke y2; omega
          · show ke y2 < ke y3; omega
        · intro f
          show 0 + f (ke y0) + f (ke y1) + f (ke y2) + f (ke y3) = D4 f (ke 0) (ke 1) (ke 2) (ke 3)
          rw [← pm4 ke f f0 f1 f2 f3 f4 f5 f6 f7 f8 f9]
          unfold D4
          rw [if_neg (show ¬ (ke y1 = ke y0) by omega), if_neg (show ¬ (ke y2 = ke y0 ∨ ke y2 = ke y1) by omega), if_neg (show ¬ (ke y3 = ke y0 ∨ ke y3 = ke y1 ∨ ke y3 = ke y2) by omega)]; omega
      refine G.iload K D99_1_82 rfl ?_
      refine G.if_le K D99_1_84 (fun q => absurd q (by decide)) (fun _ => ?_)
      refine G.aloadN K D99_1_87 rfl rfl ?_
      refine G.iload K D99_1_88 rfl ?_
      refine G.aload_i K H709 (i := 3) rfl (own_nneg (by omega)) (by rw [own_nidx (by omega)]; exact lst_get _ (by omega)) D99_1_90 ?_
      refine G.aloadN K D99_1_91 rfl rfl ?_
      refine G.aload K D99_1_92 rfl rfl ?_
      refine G.iload K D99_1_94 rfl ?_
      refine G.iconst K D99_1_96 1 rfl ?_
      refine G.isub K D99_1_97 ?_
      change G k n0 _ h709 _ _ 98 [.val (.ref a), .val (.ref fa), .val (.ref sa), .val (.ref ta), .val (.int 4), .val (.ref ca), .val (.ref b689), .val (.int 0), .val (.ref a691), .val (.ref a693), .val (.int 3), .val (.int 3), .val (.int (Int32.ofNat y3))] [.int 2, .ref b689, .ref fa, .int 0]
      refine G.aload_i K H709 (i := 2) rfl (by decide) rfl D99_1_98 ?_
      refine G.aload_i K H709 (i := 3) rfl (own_nneg (by omega)) (by rw [own_nidx (by omega)]; exact lst_get _ (by omega)) D99_1_99 ?_
      refine G.icmp_ne K D99_1_100 (fun q => absurd q (by decide)) (fun _ => ?_)
      refine G.aloadN K D99_1_103 rfl rfl ?_
      refine G.iload K D99_1_104 rfl ?_
      refine G.aload_i K H709 (i := 4) rfl (own_nneg (by omega)) (by rw [own_nidx (by omega)]; exact lst_get _ (by omega)) D99_1_106 ?_
      refine G.aload K D99_1_107 rfl rfl ?_
      refine G.iconst K D99_1_109 2 rfl ?_
      refine G.iload K D99_1_110 rfl ?_
      refine G.imul K D99_1_112 ?_
      change G k n0 _ h709 _ _ 113 [.val (.ref a), .val (.ref fa), .val (.ref sa), .val (.ref ta), .val (.int 4), .val (.ref ca), .val (.ref b689), .val (.int 0), .val (.ref a691), .val (.ref a693), .val (.int 3), .val (.int 3), .val (.int (Int32.ofNat y3))] [.int 6, .ref a693, .int (sF ke y3)]
      refine G.iconst K D99_1_113 2 rfl ?_
      refine G.isub K D99_1_114 ?_
      change G k n0 _ h709 _ _ 115 [.val (.ref a), .val (.ref fa), .val (.ref sa), .val (.ref ta), .val (.int 4), .val (.ref ca), .val (.ref b689), .val (.int 0), .val (.ref a691), .val (.ref a693), .val (.int 3), .val (.int 3), .val (.int (Int32.ofNat y3))] [.int 4, .ref a693, .int (sF ke y3)]
      refine G.aload_i K H709 (i := 0) rfl (by decide) rfl D99_1_115 ?_
      refine G.icmp_ne K D99_1_116 (fun q730 => ?_) (fun q730 => ?_)
      · exact T711 (key_ns q730)
      · refine G.aloadN K D99_1_119 rfl rfl ?_
        refine G.iload K D99_1_120 rfl ?_
        refine G.aload_i K H709 (i := 5) rfl (own_nneg (by omega)) (by rw [own_nidx (by omega)]; exact lst_get _ (by omega)) D99_1_122 ?_
        refine G.aload K D99_1_123 rfl rfl ?_
        refine G.iconst K D99_1_125 2 rfl ?_
        refine G.iload K D99_1_126 rfl ?_
        refine G.imul K D99_1_128 ?_
        change G k n0 _ h709 _ _ 129 [.val (.ref a), .val (.ref fa), .val (.ref sa), .val (.ref ta), .val (.int 4), .val (.ref ca), .val (.ref b689), .val (.int 0), .val (.ref a691), .val (.ref a693), .val (.int 3), .val (.int 3), .val (.int (Int32.ofNat y3))] [.int 6, .ref a693, .int (tF ke y3)]
        refine G.iconst K D99_1_129 1 rfl ?_
        refine G.isub K D99_1_130 ?_
        change G k n0 _ h709 _ _ 131 [.val (.ref a), .val (.ref fa), .val (.ref sa), .val (.ref ta), .val (.int 4), .val (.ref ca), .val (.ref b689), .val (.int 0), .val (.ref a691), .val (.ref a693), .val (.int 3), .val (.int 3), .val (.int (Int32.ofNat y3))] [.int 5, .ref a693, .int (tF ke y3)]
        refine G.aload_i K H709 (i := 0) rfl (by decide) rfl D99_1_131 ?_
        refine G.icmp_ne K D99_1_132 (fun q731 => ?_) (fun q731 => ?_)
        · exact T711 (key_nt q731)
        · have eq3 : ke y3 = ke y2 := key_eq hK q730 q731
          refine G.goto K D99_1_135 ?_
          refine G.iinc K D99_1_178 1 rfl rfl ([.val (.ref a), .val (.ref fa), .val (.ref sa), .val (.ref ta), .val (.int 4), .val (.ref ca), .val (.ref b689), .val (.int 0), .val (.ref a691), .val (.ref a693), .val (.int 3), .val (.int (3 + 1)), .val (.int (Int32.ofNat y3))]) rfl ?_
          change G k n0 _ h709 _ _ 181 [.val (.ref a), .val (.ref fa), .val (.ref sa), .val (.ref ta), .val (.int 4), .val (.ref ca), .val (.ref b689), .val (.int 0), .val (.ref a691), .val (.ref a693), .val (.int 3), .val (.int 4), .val (.int (Int32.ofNat y3))] []
          refine G.goto K D99_1_181 ?_
          refine G.iload K D99_1_68 rfl ?_
          refine G.iload K D99_1_70 rfl ?_
          refine G.icmp_ge K D99_1_72 (fun _ => ?_) (fun q => absurd q (by decide))
          refine G.iconst K D99_1_184 1 rfl ?_
          refine G.istore K D99_1_185 ([.val (.ref a), .val (.ref fa), .val (.ref sa), .val (.ref ta), .val (.int 4), .val (.ref ca), .val (.ref b689), .val (.int 0), .val (.ref a691), .val (.ref a693), .val (.int 3), .val (.int 1), .val (.int (Int32.ofNat y3))]) rfl ?_
          refine G.iload K D99_1_187 rfl ?_
          refine G.aload K D99_1_189 rfl rfl ?_
          refine G.alen K H709 (i := 1) rfl D99_1_191 2 rfl ?_
          refine G.icmp_ge K D99_1_192 (fun q => absurd q (by decide)) (fun _ => ?_)
          refine G.aload K D99_1_195 rfl rfl ?_
          refine G.iload K D99_1_197 rfl ?_
          refine G.dup2 K D99_1_199 rfl rfl ?_
          refine G.aload_i K H709 (i := 1) rfl (by decide) rfl D99_1_200 ?_
          refine G.aload K D99_1_201 rfl rfl ?_
          refine G.iload K D99_1_203 rfl ?_
          refine G.iconst K D99_1_205 1 rfl ?_
          refine G.isub K D99_1_206 ?_
          change G k n0 _ h709 _ _ 207 [.val (.ref a), .val (.ref fa), .val (.ref sa), .val (.ref ta), .val (.int 4), .val (.ref ca), .val (.ref b689), .val (.int 0), .val (.ref a691), .val (.ref a693), .val (.int 3), .val (.int 1), .val (.int (Int32.ofNat y3))] [.int 0, .ref a691, .int 3, .int 1, .ref a691]
          refine G.aload_i K H709 (i := 1) rfl (by decide) rfl D99_1_207 ?_
          refine G.iadd K D99_1_208 ?_
          change G k n0 _ h709 _ _ 209 [.val (.ref a), .val (.ref fa), .val (.ref sa), .val (.ref ta), .val (.int 4), .val (.ref ca), .val (.ref b689), .val (.int 0), .val (.ref a691), .val (.ref a693), .val (.int 3), .val (.int 1), .val (.int (Int32.ofNat y3))] [.int 3, .int 1, .ref a691]
          refine G.astore_i K H709 (i := 1) rfl (by decide) (Nat.le_of_ble_eq_true rfl) D99_1_209 ?_
          intro h734 H734
          change Hp n0 h734 ((a693, Ia Z [(sF ke y0), (tF ke y0), (sF ke y1), (tF ke y1), (sF ke y2), (tF ke y2), 0, 0]) :: (a691, Ia Z [0, 3]) :: (b689, Ia Z [Int32.ofNat y0, Int32.ofNat y1, Int32.ofNat y2, Int32.ofNat y3]) :: (fa, Ia Z (lst 4 (fun _ => 0))) :: (sa, Ia Z (lst 4 (sF ke))) :: (ta, Ia Z (lst 4 (tF ke))) :: (a683, Xa Z [0, 1, 2]) :: (a, Ob Z "com/example/rankwise/rankwise/store/TripleIndex" NST [.ref a683, .null, .null]) :: (ca, Xa Z [0, 1, 2]) :: σ) at H734
          refine G.iinc K D99_1_210 1 rfl rfl ([.val (.ref a), .val (.ref fa), .val (.ref sa), .val (.ref ta), .val (.int 4), .val (.ref ca), .val (.ref b689), .val (.int 0), .val (.ref a691), .val (.ref a693), .val (.int 3), .val (.int (1 + 1)), .val (.int (Int32.ofNat y3))]) rfl ?_
          change G k n0 _ h734 _ _ 213 [.val (.ref a), .val (.ref fa), .val (.ref sa), .val (.ref ta), .val (.int 4), .val (.ref ca), .val (.ref b689), .val (.int 0), .val (.ref a691), .val (.ref a693), .val (.int 3), .val (.int 2), .val (.int (Int32.ofNat y3))] []
          refine G.goto K D99_1_213 ?_
          refine G.iload K D99_1_187 rfl ?_
          refine G.aload K D99_1_189 rfl rfl ?_
          refine G.alen K H734 (i := 1) rfl D99_1_191 2 rfl ?_
          refine G.icmp_ge K D99_1_192 (fun _ => ?_) (fun q => absurd q (by decide))
          refine G.aloadN K D99_1_216 rfl rfl ?_
          refine G.aload K D99_1_217 rfl rfl ?_
          refine G.putF K (host := "") (Or.inl (wd hw 24 rfl)) (cf_NST hw) (Or.inr ⟨(wd hw 25 rfl), rfl, rfl⟩) (wd hw 2 rfl) H734 (i := 7) rfl (j := 1) rfl rfl (ty := (.array .int)) (by decide) rfl rfl D99_1_219 ?_
          intro h736 H736
          change Hp n0 h736 ((a693, Ia Z [(sF ke y0), (tF ke y0), (sF ke y1), (tF ke y1), (sF ke y2), (tF ke y2), 0, 0]) :: (a691, Ia Z [0, 3]) :: (b689, Ia Z [Int32.ofNat y0, Int32.ofNat y1, Int32.ofNat y2, Int32.ofNat y3]) :: (fa, Ia Z (lst 4 (fun _ => 0))) :: (sa, Ia Z (lst 4 (sF ke))) :: (ta, Ia Z (lst 4 (tF ke))) :: (a683, Xa Z [0, 1, 2]) :: (a, Ob Z "com/example/rankwise/rankwise/store/TripleIndex" NST [.ref a683, .ref a691, .null]) :: (ca, Xa Z [0, 1, 2]) :: σ) at H736
          refine G.aloadN K D99_1_222 rfl rfl ?_
          refine G.iload K D99_1_223 rfl ?_
          refine G.iload K D99_1_225 rfl ?_
          refine G.icmp_ne K D99_1_227 (fun _ => ?_) (fun q => absurd q (by decide))
          refine G.aload K D99_1_235 rfl rfl ?_
          refine G.iconst K D99_1_237 2 rfl ?_
          refine G.iload K D99_1_238 rfl ?_
          refine G.imul K D99_1_240 ?_
          change G k n0 _ h736 _ _ 241 [.val (.ref a), .val (.ref fa), .val (.ref sa), .val (.ref ta), .val (.int 4), .val (.ref ca), .val (.ref b689), .val (.int 0), .val (.ref a691), .val (.ref a693), .val (.int 3), .val (.int 2), .val (.int (Int32.ofNat y3))] [.int 6, .ref a693, .ref a]
          refine G.callS K hl (wd hw 58 rfl) (wd hw 59 rfl) (wd hw 60 rfl) (wd hw 61 rfl) (by decide) pd_3 (ct_copy l Z a0 hw n0 h736 a693 6 [(sF ke y0), (tF ke y0), (sF ke y1), (tF ke y1), (sF ke y2), (tF ke y2), 0, 0] ((a691, Ia Z [0, 3]) :: (b689, Ia Z [Int32.ofNat y0, Int32.ofNat y1, Int32.ofNat y2, Int32.ofNat y3]) :: (fa, Ia Z (lst 4 (fun _ => 0))) :: (sa, Ia Z (lst 4 (sF ke))) :: (ta, Ia Z (lst 4 (tF ke))) :: (a683, Xa Z [0, 1, 2]) :: (a, Ob Z "com/example/rankwise/rankwise/store/TripleIndex" NST [.ref a683, .ref a691, .null]) :: (ca, Xa Z [0, 1, 2]) :: σ) (Nat.le_of_ble_eq_true rfl) (Nat.le_of_ble_eq_true rfl) H736) 1 rfl (by decide) (by decide) (by decide) (by decide) rfl rfl [.int 6, .ref a693] rfl D99_1_241 ?_
          rintro _ h738 ⟨b738, rfl, H738⟩
          change Hp n0 h738 ((b738, Ia Z [(sF ke y0), (tF ke y0), (sF ke y1), (tF ke y1), (sF ke y2), (tF ke y2)]) :: (a693, Ia Z [(sF ke y0), (tF ke y0), (sF ke y1), (tF ke y1), (sF ke y2), (tF ke y2), 0, 0]) :: (a691, Ia Z [0, 3]) :: (b689, Ia Z [Int32.ofNat y0, Int32.ofNat y1, Int32.ofNat y2, Int32.ofNat y3]) :: (fa, Ia Z (lst 4 (fun _ => 0))) :: (sa, Ia Z (lst 4 (sF ke))) :: (ta, Ia Z (lst 4 (tF ke))) :: (a683, Xa Z [0, 1, 2]) :: (a, Ob Z "com/example/rankwise/rankwise/store/TripleIndex" NST [.ref a683, .ref a691, .null]) :: (ca, Xa Z [0, 1, 2]) :: σ) at H738
          change G k n0 _ h738 _ _ 244 [.val (.ref a), .val (.ref fa), .val (.ref sa), .val (.ref ta), .val (.int 4), .val (.ref ca), .val (.ref b689), .val (.int 0), .val (.ref a691), .val (.ref a693), .val (.int 3), .val (.int 2), .val (.int (Int32.ofNat y3))] [.ref b738, .ref a]
          refine G.putF K (host := "") (Or.inl (wd hw 26 rfl)) (cf_NST hw) (Or.inr ⟨(wd hw 27 rfl), rfl, rfl⟩) (wd hw 2 rfl) H738 (i := 8) rfl (j := 2) rfl rfl (ty := (.array .int)) (by decide) rfl rfl D99_1_244 ?_
          intro h739 H739
          change Hp n0 h739 ((b738, Ia Z [(sF ke y0), (tF ke y0), (sF ke y1), (tF ke y1), (sF ke y2), (tF ke y2)]) :: (a693, Ia Z [(sF ke y0), (tF ke y0), (sF ke y1), (tF ke y1), (sF ke y2), (tF ke y2), 0, 0]) :: (a691, Ia Z [0, 3]) :: (b689, Ia Z [Int32.ofNat y0, Int32.ofNat y1, Int32.ofNat y2, Int32.ofNat y3]) :: (fa, Ia Z (lst 4 (fun _ => 0))) :: (sa, Ia Z (lst 4 (sF ke))) :: (ta, Ia Z (lst 4 (tF ke))) :: (a683, Xa Z [0, 1, 2]) :: (a, Ob Z "com/example/rankwise/rankwise/store/TripleIndex" NST [.ref a683, .ref a691, .ref b738]) :: (ca, Xa Z [0, 1, 2]) :: σ) at H739
          refine G.ret_void K D99_1_247 ?_
          have H740 : Hp n0 h739 ((ta, Ia Z (lst 4 (tF ke))) :: (b738, Ia Z [(sF ke y0), (tF ke y0), (sF ke y1), (tF ke y1), (sF ke y2), (tF ke y2)]) :: (a693, Ia Z [(sF ke y0), (tF ke y0), (sF ke y1), (tF ke y1), (sF ke y2), (tF ke y2), 0, 0]) :: (a691, Ia Z [0, 3]) :: (b689, Ia Z [Int32.ofNat y0, Int32.ofNat y1, Int32.ofNat y2, Int32.ofNat y3]) :: (fa, Ia Z (lst 4 (fun _ => 0))) :: (sa, Ia Z (lst 4 (sF ke))) :: (a683, Xa Z [0, 1, 2]) :: (a, Ob Z "com/example/rankwise/rankwise/store/TripleIndex" NST [.ref a683, .ref a691, .ref b738]) :: (ca, Xa Z [0, 1, 2]) :: σ) := H739.pull 6 rfl
          have H741 : Hp n0 h739 ((sa, Ia Z (lst 4 (sF ke))) :: (ta, Ia Z (lst 4 (tF ke))) :: (b738, Ia Z [(sF ke y0), (tF ke y0), (sF ke y1), (tF ke y1), (sF ke y2), (tF ke y2)]) :: (a693, Ia Z [(sF ke y0), (tF ke y0), (sF ke y1), (tF ke y1), (sF ke y2), (tF ke y2), 0, 0]) :: (a691, Ia Z [0, 3]) :: (b689, Ia Z [Int32.ofNat y0, Int32.ofNat y1, Int32.ofNat y2, Int32.ofNat y3]) :: (fa, Ia Z (lst 4 (fun _ => 0))) :: (a683, Xa Z [0, 1, 2]) :: (a, Ob Z "com/example/rankwise/rankwise/store/TripleIndex" NST [.ref a683, .ref a691, .ref b738]) :: (ca, Xa Z [0, 1, 2]) :: σ) := H740.pull 6 rfl
          have H742 : Hp n0 h739 ((fa, Ia Z (lst 4 (fun _ => 0))) :: (sa, Ia Z (lst 4 (sF ke))) :: (ta, Ia Z (lst 4 (tF ke))) :: (b738, Ia Z [(sF ke y0), (tF ke y0), (sF ke y1), (tF ke y1), (sF ke y2), (tF ke y2)]) :: (a693, Ia Z [(sF ke y0), (tF ke y0), (sF ke y1), (tF ke y1), (sF ke y2), (tF ke y2), 0, 0]) :: (a691, Ia Z [0, 3]) :: (b689, Ia Z [Int32.ofNat y0, Int32.ofNat y1, Int32.ofNat y2, Int32.ofNat y3]) :: (a683, Xa Z [0, 1, 2]) :: (a, Ob Z "com/example/rankwise/rankwise/store/TripleIndex" NST [.ref a683, .ref a691, .ref b738]) :: (ca, Xa Z [0, 1, 2]) :: σ) := H741.pull 6 rfl
          have H743 : Hp n0 h739 ((b738, Ia Z [(sF ke y0), (tF ke y0), (sF ke y1), (tF ke y1), (sF ke y2), (tF ke y2)]) :: (fa, Ia Z (lst 4 (fun _ => 0))) :: (sa, Ia Z (lst 4 (sF ke))) :: (ta, Ia Z (lst 4 (tF ke))) :: (a693, Ia Z [(sF ke y0), (tF ke y0), (sF ke y1), (tF ke y1), (sF ke y2), (tF ke y2), 0, 0]) :: (a691, Ia Z [0, 3]) :: (b689, Ia Z [Int32.ofNat y0, Int32.ofNat y1, Int32.ofNat y2, Int32.ofNat y3]) :: (a683, Xa Z [0, 1, 2]) :: (a, Ob Z "com/example/rankwise/rankwise/store/TripleIndex" NST [.ref a683, .ref a691, .ref b738]) :: (ca, Xa Z [0, 1, 2]) :: σ) := H742.pull 3 rfl
          have H744 : Hp n0 h739 ((a, Ob Z "com/example/rankwise/rankwise/store/TripleIndex" NST [.ref a683, .ref a691, .ref b738]) :: (b738, Ia Z [(sF ke y0), (tF ke y0), (sF ke y1), (tF ke y1), (sF ke y2), (tF ke y2)]) :: (fa, Ia Z (lst 4 (fun _ => 0))) :: (sa, Ia Z (lst 4 (sF ke))) :: (ta, Ia Z (lst 4 (tF ke))) :: (a693, Ia Z [(sF ke y0), (tF ke y0), (sF ke y1), (tF ke y1), (sF ke y2), (tF ke y2), 0, 0]) :: (a691, Ia Z [0, 3]) :: (b689, Ia Z [Int32.ofNat y0, Int32.ofNat y1, Int32.ofNat y2, Int32.ofNat y3]) :: (a683, Xa Z [0, 1, 2]) :: (ca, Xa Z [0, 1, 2]) :: σ) := H743.pull 8 rfl
          have H745 : Hp n0 h739 ((a, Ob Z "com/example/rankwise/rankwise/store/TripleIndex" NST [.ref a683, .ref a691, .ref b738]) :: (b738, Ia Z [(sF ke y0), (tF ke y0), (sF ke y1), (tF ke y1), (sF ke y2), (tF ke y2)]) :: (fa, Ia Z (lst 4 (fun _ => 0))) :: (sa, Ia Z (lst 4 (sF ke))) :: (ta, Ia Z (lst 4 (tF ke))) :: σ) := H744.sub (List.Sublist.cons_cons _ (List.Sublist.cons_cons _ (List.Sublist.cons_cons _ (List.Sublist.cons_cons _ (List.Sublist.cons_cons _ (List.Sublist.cons _ (List.Sublist.cons _ (List.Sublist.cons _ (List.Sublist.cons _ (List.Sublist.cons _ (List.Sublist.refl _)))))))))))
          refine ⟨_, _, _, 3, fun i => [y0, y1, y2].getD i 0, rfl, ⟨by decide, ?_, ?_⟩, H745⟩
          · intro i hi
            rcases (by omega : i = 0 ∨ i = 1) with rfl | rfl
            · show ke y0 < ke y1; omega
            · show ke y1 < ke y2; omega
          · intro f
            show 0 + f (ke y0) + f (ke y1) + f (ke y2) = D4 f (ke 0) (ke 1) (ke 2) (ke 3)
            rw [← pm4 ke f f0 f1 f2 f3 f4 f5 f6 f7 f8 f9]
            unfold D4
            rw [if_neg (show ¬ (ke y1 = ke y0) by omega), if_neg (show ¬ (ke y2 = ke y0 ∨ ke y2 = ke y1) by omega), if_pos (show ke y3 = ke y0 ∨ ke y3 = ke y1 ∨ ke y3 = ke y2 by omega)]; omega
    refine G.iload K D99_1_82 rfl ?_
    refine G.if_le K D99_1_84 (fun q => absurd q (by decide)) (fun _ => ?_)
    refine G.aloadN K D99_1_87 rfl rfl ?_
    refine G.iload K D99_1_88 rfl ?_
    refine G.aload_i K H704 (i := 3) rfl (own_nneg (by omega)) (by rw [own_nidx (by omega)]; exact lst_get _ (by omega)) D99_1_90 ?_
    refine G.aloadN K D99_1_91 rfl rfl ?_
    refine G.aload K D99_1_92 rfl rfl ?_
    refine G.iload K D99_1_94 rfl ?_
    refine G.iconst K D99_1_96 1 rfl ?_
    refine G.isub K D99_1_97 ?_
    change G k n0 _ h704 _ _ 98 [.val (.ref a), .val (.ref fa), .val (.ref sa), .val (.ref ta), .val (.int 4), .val (.ref ca), .val (.ref b689), .val (.int 0), .val (.ref a691), .val (.ref a693), .val (.int 2), .val (.int 2), .val (.int (Int32.ofNat y2))] [.int 1, .ref b689, .ref fa, .int 0]
    refine G.aload_i K H704 (i := 2) rfl (by decide) rfl D99_1_98 ?_
    refine G.aload_i K H704 (i := 3) rfl (own_nneg (by omega)) (by rw [own_nidx (by omega)]; exact lst_get _ (by omega)) D99_1_99 ?_
    refine G.icmp_ne K D99_1_100 (fun q => absurd q (by decide)) (fun _ => ?_)
    refine G.aloadN K D99_1_103 rfl rfl ?_
    refine G.iload K D99_1_104 rfl ?_
    refine G.aload_i K H704 (i := 4) rfl (own_nneg (by omega)) (by rw [own_nidx (by omega)]; exact lst_get _ (by omega)) D99_1_106 ?_
    refine G.aload K D99_1_107 rfl rfl ?_
    refine G.iconst K D99_1_109 2 rfl ?_
    refine G.iload K D99_1_110 rfl ?_
    refine G.imul K D99_1_112 ?_
    change G k n0 _ h704 _ _ 113 [.val (.ref a), .val (.ref fa), .val (.ref sa), .val (.ref ta), .val (.int 4), .val (.ref ca), .val (.ref b689), .val (.int 0), .val (.ref a691), .val (.ref a693), .val (.int 2), .val (.int 2), .val (.int (Int32.ofNat y2))] [.int 4, .ref a693, .int (sF ke y2)]
    refine G.iconst K D99_1_113 2 rfl ?_
    refine G.isub K D99_1_114 ?_
    change G k n0 _ h704 _ _ 115 [.val (.ref a), .val (.ref fa), .val (.ref sa), .val (.ref ta), .val (.int 4), .val (.ref ca), .val (.ref b689), .val (.int 0), .val (.ref a691), .val (.ref a693), .val (.int 2), .val (.int 2), .val (.int (Int32.ofNat y2))] [.int 2, .ref a693, .int (sF ke y2)]
    refine G.aload_i K H704 (i := 0) rfl (by decide) rfl D99_1_115 ?_
    refine G.icmp_ne K D99_1_116 (fun q748 => ?_) (fun q748 => ?_)
    · exact T706 (key_ns q748)
    · refine G.aloadN K D99_1_119 rfl rfl ?_
      refine G.iload K D99_1_120 rfl ?_
      refine G.aload_i K H704 (i := 5) rfl (own_nneg (by omega)) (by rw [own_nidx (by omega)]; exact lst_get _ (by omega)) D99_1_122 ?_
      refine G.aload K D99_1_123 rfl rfl ?_
      refine G.iconst K D99_1_125 2 rfl ?_
      refine G.iload K D99_1_126 rfl ?_
      refine G.imul K D99_1_128 ?_
      change G k n0 _ h704 _ _ 129 [.val (.ref a), .val (.ref fa), .val (.ref sa), .val (.ref ta), .val (.int 4), .val (.ref ca), .val (.ref b689), .val (.int 0), .val (.ref a691), .val (.ref a693), .val (.int 2), .val (.int 2), .val (.int (Int32.ofNat y2))] [.int 4, .ref a693, .int (tF ke y2)]
      refine G.iconst K D99_1_129 1 rfl ?_
      refine G.isub K D99_1_130 ?_
      change G k n0 _ h704 _ _ 131 [.val (.ref a), .val (.ref fa), .val (.ref sa), .val (.ref ta), .val (.int 4), .val (.ref ca), .val (.ref b689), .val (.int 0), .val (.ref a691), .val (.ref a693), .val (.int 2), .val (.int 2), .val (.int (Int32.ofNat y2))] [.int 3, .ref a693, .int (tF ke y2)]
      refine G.aload_i K H704 (i := 0) rfl (by decide) rfl D99_1_131 ?_
      refine G.icmp_ne K D99_1_132 (fun q749 => ?_) (fun q749 => ?_)
      · exact T706 (key_nt q749)
      · have eq2 : ke y2 = ke y1 := key_eq hK q748 q749
        refine G.goto K D99_1_135 ?_
        refine G.iinc K D99_1_178 1 rfl rfl ([.val (.ref a), .val (.ref fa), .val (.ref sa), .val (.ref ta), .val (.int 4), .val (.ref ca), .val (.ref b689), .val (.int 0), .val (.ref a691), .val (.ref a693), .val (.int 2), .val (.int (2 + 1)), .val (.int (Int32.ofNat y2))]) rfl ?_
        change G k n0 _ h704 _ _ 181 [.val (.ref a), .val (.ref fa), .val (.ref sa), .val (.ref ta), .val (.int 4), .val (.ref ca), .val (.ref b689), .val (.int 0), .val (.ref a691), .val (.ref a693), .val (.int 2), .val (.int 3), .val (.int (Int32.ofNat y2))] []
        refine G.goto K D99_1_181 ?_
        refine G.iload K D99_1_68 rfl ?_
        refine G.iload K D99_1_70 rfl ?_
        refine G.icmp_ge K D99_1_72 (fun q => absurd q (by decide)) (fun _ => ?_)
        refine G.aload K D99_1_75 rfl rfl ?_
        refine G.iload K D99_1_77 rfl ?_
        refine G.aload_i K H704 (i := 2) rfl (by decide) rfl D99_1_79 ?_
        refine G.istore K D99_1_80 ([.val (.ref a), .val (.ref fa), .val (.ref sa), .val (.ref ta), .val (.int 4), .val (.ref ca), .val (.ref b689), .val (.int 0), .val (.ref a691), .val (.ref a693), .val (.int 2), .val (.int 3), .val (.int (Int32.ofNat y3))]) rfl ?_
        have T751 : ¬ ke y3 = ke y1 → G k n0 (fun v h' => ∃ (b1 b2 b3 : Addr) (L : Nat) (zf : Nat → Nat), v = none ∧ DD ke zf L (fun f => D4 f (ke 0) (ke 1) (ke 2) (ke 3)) ∧ Hp n0 h' ((a, Ob Z "com/example/rankwise/rankwise/store/TripleIndex" NST [.ref b1, .ref b2, .ref b3]) :: (b3, Ia Z (lst (2 * L) (cF ke zf))) :: (fa, Ia Z (lst 4 (fun _ => 0))) :: (sa, Ia Z (lst 4 (sF ke))) :: (ta, Ia Z (lst 4 (tF ke))) :: σ)) h704 5 21 138 [.val (.ref a), .val (.ref fa), .val (.ref sa), .val (.ref ta), .val (.int 4), .val (.ref ca), .val (.ref b689), .val (.int 0), .val (.ref a691), .val (.ref a693), .val (.int 2), .val (.int 3), .val (.int (Int32.ofNat y3))] [] := by
          intro ne3
          refine G.aload K D99_1_138 rfl rfl ?_
          refine G.aloadN K D99_1_140 rfl rfl ?_
          refine G.iload K D99_1_141 rfl ?_
          refine G.aload_i K H704 (i := 3) rfl (own_nneg (by omega)) (by rw [own_nidx (by omega)]; exact lst_get _ (by omega)) D99_1_143 ?_
          refine G.iconst K D99_1_144 1 rfl ?_
          refine G.iadd K D99_1_145 ?_
          change G k n0 _ h704 _ _ 146 [.val (.ref a), .val (.ref fa), .val (.ref sa), .val (.ref ta), .val (.int 4), .val (.ref ca), .val (.ref b689), .val (.int 0), .val (.ref a691), .val (.ref a693), .val (.int 2), .val (.int 3), .val (.int (Int32.ofNat y3))] [.int 1, .ref a691]
          refine G.dup2 K D99_1_146 rfl rfl ?_
          refine G.aload_i K H704 (i := 1) rfl (by decide) rfl D99_1_147 ?_
          refine G.iconst K D99_1_148 1 rfl ?_
          refine G.iadd K D99_1_149 ?_
          change G k n0 _ h704 _ _ 150 [.val (.ref a), .val (.ref fa), .val (.ref sa), .val (.ref ta), .val (.int 4), .val (.ref ca), .val (.ref b689), .val (.int 0), .val (.ref a691), .val (.ref a693), .val (.int 2), .val (.int 3), .val (.int (Int32.ofNat y3))] [.int 3, .int 1, .ref a691]
          refine G.astore_i K H704 (i := 1) rfl (by decide) (Nat.le_of_ble_eq_true rfl) D99_1_150 ?_
          intro h752 H752
          change Hp n0 h752 ((a693, Ia Z [(sF ke y0), (tF ke y0), (sF ke y1), (tF ke y1), 0, 0, 0, 0]) :: (a691, Ia Z [0, 3]) :: (b689, Ia Z [Int32.ofNat y0, Int32.ofNat y1, Int32.ofNat y2, Int32.ofNat y3]) :: (fa, Ia Z (lst 4 (fun _ => 0))) :: (sa, Ia Z (lst 4 (sF ke))) :: (ta, Ia Z (lst 4 (tF ke))) :: (a683, Xa Z [0, 1, 2]) :: (a, Ob Z "com/example/rankwise/rankwise/store/TripleIndex" NST [.ref a683, .null, .null]) :: (ca, Xa Z [0, 1, 2]) :: σ) at H752
          refine G.aload K D99_1_151 rfl rfl ?_
          refine G.iconst K D99_1_153 2 rfl ?_
          refine G.iload K D99_1_154 rfl ?_
          refine G.imul K D99_1_156 ?_
          change G k n0 _ h752 _ _ 157 [.val (.ref a), .val (.ref fa), .val (.ref sa), .val (.ref ta), .val (.int 4), .val (.ref ca), .val (.ref b689), .val (.int 0), .val (.ref a691), .val (.ref a693), .val (.int 2), .val (.int 3), .val (.int (Int32.ofNat y3))] [.int 4, .ref a693]
          refine G.aloadN K D99_1_157 rfl rfl ?_
          refine G.iload K D99_1_158 rfl ?_
          refine G.aload_i K H752 (i := 4) rfl (own_nneg (by omega)) (by rw [own_nidx (by omega)]; exact lst_get _ (by omega)) D99_1_160 ?_
          refine G.astore_i K H752 (i := 0) rfl (by decide) (Nat.le_of_ble_eq_true rfl) D99_1_161 ?_
          intro h753 H753
          change Hp n0 h753 ((a693, Ia Z [(sF ke y0), (tF ke y0), (sF ke y1), (tF ke y1), (sF ke y3), 0, 0, 0]) :: (a691, Ia Z [0, 3]) :: (b689, Ia Z [Int32.ofNat y0, Int32.ofNat y1, Int32.ofNat y2, Int32.ofNat y3]) :: (fa, Ia Z (lst 4 (fun _ => 0))) :: (sa, Ia Z (lst 4 (sF ke))) :: (ta, Ia Z (lst 4 (tF ke))) :: (a683, Xa Z [0, 1, 2]) :: (a, Ob Z "com/example/rankwise/rankwise/store/TripleIndex" NST [.ref a683, .null, .null]) :: (ca, Xa Z [0, 1, 2]) :: σ) at H753
          refine G.aload K D99_1_162 rfl rfl ?_
          refine G.iconst K D99_1_164 2 rfl ?_
          refine G.iload K D99_1_165 rfl ?_
          refine G.imul K D99_1_167 ?_
          change G k n0 _ h753 _ _ 168 [.val (.ref a), .val (.ref fa), .val (.ref sa), .val (.ref ta), .val (.int 4), .val (.ref ca), .val (.ref b689), .val (.int 0), .val (.ref a691), .val (.ref a693), .val (.int 2), .val (.int 3), .val (.int (Int32.ofNat y3))] [.int 4, .ref a693]
          refine G.iconst K D99_1_168 1 rfl ?_
          refine G.iadd K D99_1_169 ?_
          change G k n0 _ h753 _ _ 170 [.val (.ref a), .val (.ref fa), .val (.ref sa), .val (.ref ta), .val (.int 4), .val (.ref ca), .val (.ref b689), .val (.int 0), .val (.ref a691), .val (.ref a693), .val (.int 2), .val (.int 3), .val (.int (Int32.ofNat y3))] [.int 5, .ref a693]
          refine G.aloadN K D99_1_170 rfl rfl ?_
          refine G.iload K D99_1_171 rfl ?_
          refine G.aload_i K H753 (i := 5) rfl (own_nneg (by omega)) (by rw [own_nidx (by omega)]; exact lst_get _ (by omega)) D99_1_173 ?_
          refine G.astore_i K H753 (i := 0) rfl (by decide) (Nat.le_of_ble_eq_true rfl) D99_1_174 ?_
          intro h754 H754
          change Hp n0 h754 ((a693, Ia Z [(sF ke y0), (tF ke y0), (sF ke y1), (tF ke y1), (sF ke y3), (tF ke y3), 0, 0]) :: (a691, Ia Z [0, 3]) :: (b689, Ia Z [Int32.ofNat y0, Int32.ofNat y1, Int32.ofNat y2, Int32.ofNat y3]) :: (fa, Ia Z (lst 4 (fun _ => 0))) :: (sa, Ia Z (lst 4 (sF ke))) :: (ta, Ia Z (lst 4 (tF ke))) :: (a683, Xa Z [0, 1, 2]) :: (a, Ob Z "com/example/rankwise/rankwise/store/TripleIndex" NST [.ref a683, .null, .null]) :: (ca, Xa Z [0, 1, 2]) :: σ) at H754
          refine G.iinc K D99_1_175 1 rfl rfl ([.val (.ref a), .val (.ref fa), .val (.ref sa), .val (.ref ta), .val (.int 4), .val (.ref ca), .val (.ref b689), .val (.int 0), .val (.ref a691), .val (.ref a693), .val (.int (2 + 1)), .val (.int 3), .val (.int (Int32.ofNat y3))]) rfl ?_
          change G k n0 _ h754 _ _ 178 [.val (.ref a), .val (.ref fa), .val (.ref sa), .val (.ref ta), .val (.int 4), .val (.ref ca), .val (.ref b689), .val (.int 0), .val (.ref a691), .val (.ref a693), .val (.int 3), .val (.int 3), .val (.int (Int32.ofNat y3))] []
          refine G.iinc K D99_1_178 1 rfl rfl ([.val (.ref a), .val (.ref fa), .val (.ref sa), .val (.ref ta), .val (.int 4), .val (.ref ca), .val (.ref b689), .val (.int 0), .val (.ref a691), .val (.ref a693), .val (.int 3), .val (.int (3 + 1)), .val (.int (Int32.ofNat y3))]) rfl ?_
          change G k n0 _ h754 _ _ 181 [.val (.ref a), .val (.ref fa), .val (.ref sa), .val (.ref ta), .val (.int 4), .val (.ref ca), .val (.ref b689), .val (.int 0), .val (.ref a691), .val (.ref a693), .val (.int 3), .val (.int 4), .val (.int (Int32.ofNat y3))] []
          refine G.goto K D99_1_181 ?_
          refine G.iload K D99_1_68 rfl ?_
          refine G.iload K D99_1_70 rfl ?_
          refine G.icmp_ge K D99_1_72 (fun _ => ?_) (fun q => absurd q (by decide))
          refine G.iconst K D99_1_184 1 rfl ?_
          refine G.istore K D99_1_185 ([.val (.ref a), .val (.ref fa), .val (.ref sa), .val (.ref ta), .val (.int 4), .val (.ref ca), .val (.ref b689), .val (.int 0), .val (.ref a691), .val (.ref a693), .val (.int 3), .val (.int 1), .val (.int (Int32.ofNat y3))]) rfl ?_
          refine G.iload K D99_1_187 rfl ?_
          refine G.aload K D99_1_189 rfl rfl ?_
          refine G.alen K H754 (i := 1) rfl D99_1_191 2 rfl ?_
          refine G.icmp_ge K D99_1_192 (fun q => absurd q (by decide)) (fun _ => ?_)
          refine G.aload K D99_1_195 rfl rfl ?_
          refine G.iload K D99_1_197 rfl ?_
          refine G.dup2 K D99_1_199 rfl rfl ?_
          refine G.aload_i K H754 (i := 1) rfl (by decide) rfl D99_1_200 ?_
          refine G.aload K D99_1_201 rfl rfl ?_
          refine G.iload K D99_1_203 rfl ?_
          refine G.iconst K D99_1_205 1 rfl ?_
          refine G.isub K D99_1_206 ?_
          change G k n0 _ h754 _ _ 207 [.val (.ref a), .val (.ref fa), .val (.ref sa), .val (.ref ta), .val (.int 4), .val (.ref ca), .val (.ref b689), .val (.int 0), .val (.ref a691), .val (.ref a693), .val (.int 3), .val (.int 1), .val (.int (Int32.ofNat y3))] [.int 0, .ref a691, .int 3, .int 1, .ref a691]
          refine G.aload_i K H754 (i := 1) rfl (by decide) rfl D99_1_207 ?_
          refine G.iadd K D99_1_208 ?_
          change G k n0 _ h754 _ _ 209 [.val (.ref a), .val (.ref fa), .val (.ref sa), .val (.ref ta), .val (.int 4), .val (.ref ca), .val (.ref b689), .val (.int 0), .val (.ref a691), .val (.ref a693), .val (.int 3), .val (.int 1), .val (.int (Int32.ofNat y3))] [.int 3, .int 1, .ref a691]
          refine G.astore_i K H754 (i := 1) rfl (by decide) (Nat.le_of_ble_eq_true rfl) D99_1_209 ?_
          intro h757 H757
          change Hp n0 h757 ((a693, Ia Z [(sF ke y0), (tF ke y0), (sF ke y1), (tF ke y1), (sF ke y3), (tF ke y3), 0, 0]) :: (a691, Ia Z [0, 3]) :: (b689, Ia Z [Int32.ofNat y0, Int32.ofNat y1, Int32.ofNat y2, Int32.ofNat y3]) :: (fa, Ia Z (lst 4 (fun _ => 0))) :: (sa, Ia Z (lst 4 (sF ke))) :: (ta, Ia Z (lst 4 (tF ke))) :: (a683, Xa Z [0, 1, 2]) :: (a, Ob Z "com/example/rankwise/rankwise/store/TripleIndex" NST [.ref a683, .null, .null]) :: (ca, Xa Z [0, 1, 2]) :: σ) at H757
          refine G.iinc K D99_1_210 1 rfl rfl ([.val (.ref a), .val (.ref fa), .val (.ref sa), .val (.ref ta), .val (.int 4), .val (.ref ca), .val (.ref b689), .val (.int 0), .val (.ref a691), .val (.ref a693), .val (.int 3), .val (.int (1 + 1)), .val (.int (Int32.ofNat y3))]) rfl ?_
          change G k n0 _ h757 _ _ 213 [.val (.ref a), .val (.ref fa), .val (.ref sa), .val (.ref ta), .val (.int 4), .val (.ref ca), .val (.ref b689), .val (.int 0), .val (.ref a691), .val (.ref a693), .val (.int 3), .val (.int 2), .val (.int (Int32.ofNat y3))] []
          refine G.goto K D99_1_213 ?_
          refine G.iload K D99_1_187 rfl ?_
          refine G.aload K D99_1_189 rfl rfl ?_
          refine G.alen K H757 (i := 1) rfl D99_1_191 2 rfl ?_
          refine G.icmp_ge K D99_1_192 (fun _ => ?_) (fun q => absurd q (by decide))
          refine G.aloadN K D99_1_216 rfl rfl ?_
          refine G.aload K D99_1_217 rfl rfl ?_
          refine G.putF K (host := "") (Or.inl (wd hw 24 rfl)) (cf_NST hw) (Or.inr ⟨(wd hw 25 rfl), rfl, rfl⟩) (wd hw 2 rfl) H757 (i := 7) rfl (j := 1) rfl rfl (ty := (.array .int)) (by decide) rfl rfl D99_1_219 ?_
          intro h759 H759
          change Hp n0 h759 ((a693, Ia Z [(sF ke y0), (tF ke y0), (sF ke y1), (tF ke y1), (sF ke y3), (tF ke y3), 0, 0]) :: (a691, Ia Z [0, 3]) :: (b689, Ia Z [Int32.ofNat y0, Int32.ofNat y1, Int32.ofNat y2, Int32.ofNat y3]) :: (fa, Ia Z (lst 4 (fun _ => 0))) :: (sa, Ia Z (lst 4 (sF ke))) :: (ta, Ia Z (lst 4 (tF ke))) :: (a683, Xa Z [0, 1, 2]) :: (a, Ob Z "com/example/rankwise/rankwise/store/TripleIndex" NST [.ref a683, .ref a691, .null]) :: (ca, Xa Z [0, 1, 2]) :: σ) at H759
          refine G.aloadN K D99_1_222 rfl rfl ?_
          refine G.iload K D99_1_223 rfl ?_
          refine G.iload K D99_1_225 rfl ?_
          refine G.icmp_ne K D99_1_227 (fun _ => ?_) (fun q => absurd q (by decide))
          refine G.aload K D99_1_235 rfl rfl ?_
          refine G.iconst K D99_1_237 2 rfl ?_
          refine G.iload K D99_1_238 rfl ?_
          refine G.imul K D99_1_240 ?_
          change G k n0 _ h759 _ _ 241 [.val (.ref a), .val (.ref fa), .val (.ref sa), .val (.ref ta), .val (.int 4), .val (.ref ca), .val (.ref b689), .val (.int 0), .val (.ref a691), .val (.ref a693), .val (.int 3), .val (.int 2), .val (.int (Int32.ofNat y3))] [.int 6, .ref a693, .ref a]
          refine G.callS K hl (wd hw 58 rfl) (wd hw 59 rfl) (wd hw 60 rfl) (wd hw 61 rfl) (by decide) pd_3 (ct_copy l Z a0 hw n0 h759 a693 6 [(sF ke y0), (tF ke y0), (sF ke y1), (tF ke y1), (sF ke y3), (tF ke y3), 0, 0] ((a691, Ia Z [0, 3]) :: (b689, Ia Z [Int32.ofNat y0, Int32.ofNat y1, Int32.ofNat y2, Int32.ofNat y3]) :: (fa, Ia Z (lst 4 (fun _ => 0))) :: (sa, Ia Z (lst 4 (sF ke))) :: (ta, Ia Z (lst 4 (tF ke))) :: (a683, Xa Z [0, 1, 2]) :: (a, Ob Z "com/example/rankwise/rankwise/store/TripleIndex" NST [.ref a683, .ref a691, .null]) :: (ca, Xa Z [0, 1, 2]) :: σ) (Nat.le_of_ble_eq_true rfl) (Nat.le_of_ble_eq_true rfl) H759) 1 rfl (by decide) (by decide) (by decide) (by decide) rfl rfl [.int 6, .ref a693] rfl D99_1_241 ?_
          rintro _ h761 ⟨b761, rfl, H761⟩
          change Hp n0 h761 ((b761, Ia Z [(sF ke y0), (tF ke y0), (sF ke y1), (tF ke y1), (sF ke y3), (tF ke y3)]) :: (a693, Ia Z [(sF ke y0), (tF ke y0), (sF ke y1), (tF ke y1), (sF ke y3), (tF ke y3), 0, 0]) :: (a691, Ia Z [0, 3]) :: (b689, Ia Z [Int32.ofNat y0, Int32.ofNat y1, Int32.ofNat y2, Int32.ofNat y3]) :: (fa, Ia Z (lst 4 (fun _ => 0))) :: (sa, Ia Z (lst 4 (sF ke))) :: (ta, Ia Z (lst 4 (tF ke))) :: (a683, Xa Z [0, 1, 2]) :: (a, Ob Z "com/example/rankwise/rankwise/store/TripleIndex" NST [.ref a683, .ref a691, .null]) :: (ca, Xa Z [0, 1, 2]) :: σ) at H761
          change G k n0 _ h761 _ _ 244 [.val (.ref a), .val (.ref fa), .val (.ref sa), .val (.ref ta), .val (.int 4), .val (.ref ca), .val (.ref b689), .val (.int 0), .val (.ref a691), .val (.ref a693), .val (.int 3), .val (.int 2), .val (.int (Int32.ofNat y3))] [.ref b761, .ref a]
          refine G.putF K (host := "") (Or.inl (wd hw 26 rfl)) (cf_NST hw) (Or.inr ⟨(wd hw 27 rfl), rfl, rfl⟩) (wd hw 2 rfl) H761 (i := 8) rfl (j := 2) rfl rfl (ty := (.array .int)) (by decide) rfl rfl D99_1_244 ?_
          intro h762 H762
          change Hp n0 h762 ((b761, Ia Z [(sF ke y0), (tF ke y0), (sF ke y1), (tF ke y1), (sF ke y3), (tF ke y3)]) :: (a693, Ia Z [(sF ke y0), (tF ke y0), (sF ke y1), (tF ke y1), (sF ke y3), (tF ke y3), 0, 0]) :: (a691, Ia Z [0, 3]) :: (b689, Ia Z [Int32.ofNat y0, Int32.ofNat y1, Int32.ofNat y2, Int32.ofNat y3]) :: (fa, Ia Z (lst 4 (fun _ => 0))) :: (sa, Ia Z (lst 4 (sF ke))) :: (ta, Ia Z (lst 4 (tF ke))) :: (a683, Xa Z [0, 1, 2]) :: (a, Ob Z "com/example/rankwise/rankwise/store/TripleIndex" NST [.ref a683, .ref a691, .ref b761]) :: (ca, Xa Z [0, 1, 2]) :: σ) at H762
          refine G.ret_void K D99_1_247 ?_
          have H763 : Hp n0 h762 ((ta, Ia Z (lst 4 (tF ke))) :: (b761, Ia Z [(sF ke y0), (tF ke y0), (sF ke y1), (tF ke y1), (sF ke y3), (tF ke y3)]) :: (a693, Ia Z [(sF ke y0), (tF ke y0), (sF ke y1), (tF ke y1), (sF ke y3), (tF ke y3), 0, 0]) :: (a691, Ia Z [0, 3]) :: (b689, Ia Z [Int32.ofNat y0, Int32.ofNat y1, Int32.ofNat y2, Int32.ofNat y3]) :: (fa, Ia Z (lst 4 (fun _ => 0))) :: (sa, Ia Z (lst 4 (sF ke))) :: (a683, Xa Z [0, 1, 2]) :: (a, Ob Z "com/example/rankwise/rankwise/store/TripleIndex" NST [.ref a683, .ref a691, .ref b761]) :: (ca, Xa Z [0, 1, 2]) :: σ) := H762.pull 6 rfl
          have H764 : Hp n0 h762 ((sa, Ia Z (lst 4 (sF ke))) :: (ta, Ia Z (lst 4 (tF ke))) :: (b761, Ia Z [(sF ke y0), (tF ke y0), (sF ke y1), (tF ke y1), (sF ke y3), (tF ke y3)]) :: (a693, Ia Z [(sF ke y0), (tF ke y0), (sF ke y1), (tF ke y1), (sF ke y3), (tF ke y3), 0, 0]) :: (a691, Ia Z [0, 3]) :: (b689, Ia Z [Int32.ofNat y0, Int32.ofNat y1, Int32.ofNat y2, Int32.ofNat y3]) :: (fa, Ia Z (lst 4 (fun _ => 0))) :: (a683, Xa Z [0, 1, 2]) :: (a, Ob Z "com/example/rankwise/rankwise/store/TripleIndex" NST [.ref a683, .ref a691, .ref b761]) :: (ca, Xa Z [0, 1, 2]) :: σ) := H763.pull 6 rfl
          have H765 : Hp n0 h762 ((fa, Ia Z (lst 4 (fun _ => 0))) :: (sa, Ia Z (lst 4 (sF ke))) :: (ta, Ia Z (lst 4 (tF ke))) :: (b761, Ia Z [(sF ke y0), (tF ke y0), (sF ke y1), (tF ke y1), (sF ke y3), (tF ke y3)]) :: (a693, Ia Z [(sF ke y0), (tF ke y0), (sF ke y1), (tF ke y1), (sF ke y3), (tF ke y3), 0, 0]) :: (a691, Ia Z [0, 3]) :: (b689, Ia Z [Int32.ofNat y0, Int32.ofNat y1, Int32.ofNat y2, Int32.ofNat y3]) :: (a683, Xa Z [0, 1, 2]) :: (a, Ob Z "com/example/rankwise/rankwise/store/TripleIndex" NST [.ref a683, .ref a691, .ref b761]) :: (ca, Xa Z [0, 1, 2]) :: σ) := H764.pull 6 rfl
          have H766 : Hp n0 h762 ((b761, Ia Z [(sF ke y0), (tF ke y0), (sF ke y1), (tF ke y1), (sF ke y3), (tF ke y3)]) :: (fa, Ia Z (lst 4 (fun _ => 0))) :: (sa, Ia Z (lst 4 (sF ke))) :: (ta, Ia Z (lst 4 (tF ke))) :: (a693, Ia Z [(sF ke y0), (tF ke y0), (sF ke y1), (tF ke y1), (sF ke y3), (tF ke y3), 0, 0]) :: (a691, Ia Z [0, 3]) :: (b689, Ia Z [Int32.ofNat y0, Int32.ofNat y1, Int32.ofNat y2, Int32.ofNat y3]) :: (a683, Xa Z [0, 1, 2]) :: (a, Ob Z "com/example/rankwise/rankwise/store/TripleIndex" NST [.ref a683, .ref a691, .ref b761]) :: (ca, Xa Z [0, 1, 2]) :: σ) := H765.pull 3 rfl
          have H767 : Hp n0 h762 ((a, Ob Z "com/example/rankwise/rankwise/store/TripleIndex" NST [.ref a683, .ref a691, .ref b761]) :: (b761, Ia Z [(sF ke y0), (tF ke y0), (sF ke y1), (tF ke y1), (sF ke y3), (tF ke y3)]) :: (fa, Ia Z (lst 4 (fun _ => 0))) :: (sa, Ia Z (lst 4 (sF ke))) :: (ta, Ia Z (lst 4 (tF ke))) :: (a693, Ia Z [(sF ke y0), (tF ke y0), (sF ke y1), (tF ke y1), (sF ke y3), (tF ke y3), 0, 0]) :: (a691, Ia Z [0, 3]) :: (b689, Ia Z [Int32.ofNat y0, Int32.ofNat y1, Int32.ofNat y2, Int32.ofNat y3]) :: (a683, Xa Z [0, 1, 2]) :: (ca, Xa Z [0, 1, 2]) :: σ) := H766.pull 8 rfl
          have H768 : Hp n0 h762 ((a, Ob Z "com/example/rankwise/rankwise/store/TripleIndex" NST [.ref a683, .ref a691, .ref b761]) :: (b761, Ia Z [(sF ke y0), (tF ke y0), (sF ke y1), (tF ke y1), (sF ke y3), (tF ke y3)]) :: (fa, Ia Z (lst 4 (fun _ => 0))) :: (sa, Ia Z (lst 4 (sF ke))) :: (ta, Ia Z (lst 4 (tF ke))) :: σ) := H767.sub (List.Sublist.cons_cons _ (List.Sublist.cons_cons _ (List.Sublist.cons_cons _ (List.Sublist.cons_cons _ (List.Sublist.cons_cons _ (List.Sublist.cons _ (List.Sublist.cons _ (List.Sublist.cons _ (List.Sublist.cons _ (List.Sublist.cons _ (List.Sublist.refl _)))))))))))
          refine ⟨_, _, _, 3, fun i => [y0, y1, y3].getD i 0, rfl, ⟨by decide, ?_, ?_⟩, H768⟩
          · intro i hi
            rcases (by omega : i = 0 ∨ i = 1) with rfl | rfl
            · show ke y0 < ke y1; omega
            · show ke y1 < ke y3; omega
          · intro f
            show 0 + f (ke y0) + f (ke y1) + f (ke y3) = D4 f (ke 0) (ke 1) (ke 2) (ke 3)
            rw [← pm4 ke f f0 f1 f2 f3 f4 f5 f6 f7 f8 f9]
            unfold D4
            rw [if_neg (show ¬ (ke y1 = ke y0) by omega), if_pos (show ke y2 = ke y0 ∨ ke y2 = ke y1 by omega), if_neg (show ¬ (ke y3 = ke y0 ∨ ke y3 = ke y1 ∨ ke y3 = ke y2) by omega)]; omega
        refine G.iload K D99_1_82 rfl ?_
        refine G.if_le K D99_1_84 (fun q => absurd q (by decide)) (fun _ => ?_)
        refine G.aloadN K D99_1_87 rfl rfl ?_
        refine G.iload K D99_1_88 rfl ?_
        refine G.aload_i K H704 (i := 3) rfl (own_nneg (by omega)) (by rw [own_nidx (by omega)]; exact lst_get _ (by omega)) D99_1_90 ?_
        refine G.aloadN K D99_1_91 rfl rfl ?_
        refine G.aload K D99_1_92 rfl rfl ?_
        refine G.iload K D99_1_94 rfl ?_
        refine G.iconst K D99_1_96 1 rfl ?_
        refine G.isub K D99_1_97 ?_
        change G k n0 _ h704 _ _ 98 [.val (.ref a), .val (.ref fa), .val (.ref sa), .val (.ref ta), .val (.int 4), .val (.ref ca), .val (.ref b689), .val (.int 0), .val (.ref a691), .val (.ref a693), .val (.int 2), .val (.int 3), .val (.int (Int32.ofNat y3))] [.int 2, .ref b689, .ref fa, .int 0]
        refine G.aload_i K H704 (i := 2) rfl (by decide) rfl D99_1_98 ?_
        refine G.aload_i K H704 (i := 3) rfl (own_nneg (by omega)) (by rw [own_nidx (by omega)]; exact lst_get _ (by omega)) D99_1_99 ?_
        refine G.icmp_ne K D99_1_100 (fun q => absurd q (by decide)) (fun _ => ?_)
        refine G.aloadN K D99_1_103 rfl rfl ?_
        refine G.iload K D99_1_104 rfl ?_
        refine G.aload_i K H704 (i := 4) rfl (own_nneg (by omega)) (by rw [own_nidx (by omega)]; exact lst_get _ (by omega)) D99_1_106 ?_
        refine G.aload K D99_1_107 rfl rfl ?_
        refine G.iconst K D99_1_109 2 rfl ?_
        refine G.iload K D99_1_110 rfl ?_
        refine G.imul K D99_1_112 ?_
        change G k n0 _ h704 _ _ 113 [.val (.ref a), .val (.ref fa), .val (.ref sa), .val (.ref ta), .val (.int 4), .val (.ref ca), .val (.ref b689), .val (.int 0), .val (.ref a691), .val (.ref a693), .val (.int 2), .val (.int 3), .val (.int (Int32.ofNat y3))] [.int 4, .ref a693, .int (sF ke y3)]
        refine G.iconst K D99_1_113 2 rfl ?_
        refine G.isub K D99_1_114 ?_
        change G k n0 _ h704 _ _ 115 [.val (.ref a), .val (.ref fa), .val (.ref sa), .val (.ref ta), .val (.int 4), .val (.ref ca), .val (.ref b689), .val (.int 0), .val (.ref a691), .val (.ref a693), .val (.int 2), .val (.int 3), .val (.int (Int32.ofNat y3))] [.int 2, .ref a693, .int (sF ke y3)]
        refine G.aload_i K H704 (i := 0) rfl (by decide) rfl D99_1_115 ?_
        refine G.icmp_ne K D99_1_116 (fun q771 => ?_) (fun q771 => ?_)
        · exact T751 (key_ns q771)
        · refine G.aloadN K D99_1_119 rfl rfl ?_
          refine G.iload K D99_1_120 rfl ?_
          refine G.aload_i K H704 (i := 5) rfl (own_nneg (by omega)) (by rw [own_nidx (by omega)]; exact lst_get _ (by omega)) D99_1_122 ?_
          refine G.aload K D99_1_123 rfl rfl ?_
          refine G.iconst K D99_1_125 2 rfl ?_
          refine G.iload K D99_1_126 rfl ?_
          refine G.imul K D99_1_128 ?_
          change G k n0 _ h704 _ _ 129 [.val (.ref a), .val (.ref fa), .val (.ref sa), .val (.ref ta), .val (.int 4), .val (.ref ca), .val (.ref b689), .val (.int 0), .val (.ref a691), .val (.ref a693), .val (.int 2), .val (.int 3), .val (.int (Int32.ofNat y3))] [.int 4, .ref a693, .int (tF ke y3)]
          refine G.iconst K D99_1_129 1 rfl ?_
          refine G.isub K D99_1_130 ?_
          change G k n0 _ h704 _ _ 131 [.val (.ref a), .val (.ref fa), .val (.ref sa), .val (.ref ta), .val (.int 4), .val (.ref ca), .val (.ref b689), .val (.int 0), .val (.ref a691), .val (.ref a693), .val (.int 2), .val (.int 3), .val (.int (Int32.ofNat y3))] [.int 3, .ref a693, .int (tF ke y3)]
          refine G.aload_i K H704 (i := 0) rfl (by decide) rfl D99_1_131 ?_
          refine G.icmp_ne K D99_1_132 (fun q772 => ?_) (fun q772 => ?_)
          · exact T751 (key_nt q772)
          · have eq3 : ke y3 = ke y1 := key_eq hK q771 q772
            refine G.goto K D99_1_135 ?_
            refine G.iinc K D99_1_178 1 rfl rfl ([.val (.ref a), .val (.ref fa), .val (.ref sa), .val (.ref ta), .val (.int 4), .val (.ref ca), .val (.ref b689), .val (.int 0), .val (.ref a691), .val (.ref a693), .val (.int 2), .val (.int (3 + 1)), .val (.int (Int32.ofNat y3))]) rfl ?_
            change G k n0 _ h704 _ _ 181 [.val (.ref a), .val (.ref fa), .val (.ref sa), .val (.ref ta), .val (.int 4), .val (.ref ca), .val (.ref b689), .val (.int 0), .val (.ref a691), .val (.ref a693), .val (.int 2), .val (.int 4), .val (.int (Int32.ofNat y3))] []
            refine G.goto K D99_1_181 ?_
            refine G.iload K D99_1_68 rfl ?_
            refine G.iload K D99_1_70 rfl ?_
            refine G.icmp_ge K D99_1_72 (fun _ => ?_) (fun q => absurd q (by decide))
            refine G.iconst K D99_1_184 1 rfl ?_
            refine G.istore K D99_1_185 ([.val (.ref a), .val (.ref fa), .val (.ref sa), .val (.ref ta), .val (.int 4), .val (.ref ca), .val (.ref b689), .val (.int 0), .val (.ref a691), .val (.ref a693), .val (.int 2), .val (.int 1), .val (.int (Int32.ofNat y3))]) rfl ?_
            refine G.iload K D99_1_187 rfl ?_
            refine G.aload K D99_1_189 rfl rfl ?_
            refine G.alen K H704 (i := 1) rfl D99_1_191 2 rfl ?_
            refine G.icmp_ge K D99_1_192 (fun q => absurd q (by decide)) (fun _ => ?_)
            refine G.aload K D99_1_195 rfl rfl ?_
            refine G.iload K D99_1_197 rfl ?_
            refine G.dup2 K D99_1_199 rfl rfl ?_
            refine G.aload_i K H704 (i := 1) rfl (by decide) rfl D99_1_200 ?_
            refine G.aload K D99_1_201 rfl rfl ?_
            refine G.iload K D99_1_203 rfl ?_
            refine G.iconst K D99_1_205 1 rfl ?_
            refine G.isub K D99_1_206 ?_
            change G k n0 _ h704 _ _ 207 [.val (.ref a), .val (.ref fa), .val (.ref sa), .val (.ref ta), .val (.int 4), .val (.ref ca), .val (.ref b689), .val (.int 0), .val (.ref a691), .val (.ref a693), .val (.int 2), .val (.int 1), .val (.int (Int32.ofNat y3))] [.int 0, .ref a691, .int 2, .int 1, .ref a691]
            refine G.aload_i K H704 (i := 1) rfl (by decide) rfl D99_1_207 ?_
            refine G.iadd K D99_1_208 ?_
            change G k n0 _ h704 _ _ 209 [.val (.ref a), .val (.ref fa), .val (.ref sa), .val (.ref ta), .val (.int 4), .val (.ref ca), .val (.ref b689), .val (.int 0), .val (.ref a691), .val (.ref a693), .val (.int 2), .val (.int 1), .val (.int (Int32.ofNat y3))] [.int 2, .int 1, .ref a691]
            refine G.astore_i K H704 (i := 1) rfl (by decide) (Nat.le_of_ble_eq_true rfl) D99_1_209 ?_
            intro h775 H775
            change Hp n0 h775 ((a693, Ia Z [(sF ke y0), (tF ke y0), (sF ke y1), (tF ke y1), 0, 0, 0, 0]) :: (a691, Ia Z [0, 2]) :: (b689, Ia Z [Int32.ofNat y0, Int32.ofNat y1, Int32.ofNat y2, Int32.ofNat y3]) :: (fa, Ia Z (lst 4 (fun _ => 0))) :: (sa, Ia Z (lst 4 (sF ke))) :: (ta, Ia Z (lst 4 (tF ke))) :: (a683, Xa Z [0, 1, 2]) :: (a, Ob Z "com/example/rankwise/rankwise/store/TripleIndex" NST [.ref a683, .null, .null]) :: (ca, Xa Z [0, 1, 2]) :: σ) at H775
            refine G.iinc K D99_1_210 1 rfl rfl ([.val (.ref a), .val (.ref fa), .val (.ref sa), .val (.ref ta), .val (.int 4), .val (.ref ca), .val (.ref b689), .val (.int 0), .val (.ref a691), .val (.ref a693), .val (.int 2), .val (.int (1 + 1)), .val (.int (Int32.ofNat y3))]) rfl ?_
            change G k n0 _ h775 _ _ 213 [.val (.ref a), .val (.ref fa), .val (.ref sa), .val (.ref ta), .val (.int 4), .val (.ref ca), .val (.ref b689), .val (.int 0), .val (.ref a691), .val (.ref a693), .val (.int 2), .val (.int 2), .val (.int (Int32.ofNat y3))] []
            refine G.goto K D99_1_213 ?_
            refine G.iload K D99_1_187 rfl ?_
            refine G.aload K D99_1_189 rfl rfl ?_
            refine G.alen K H775 (i := 1) rfl D99_1_191 2 rfl ?_
            refine G.icmp_ge K D99_1_192 (fun _ => ?_) (fun q => absurd q (by decide))
            refine G.aloadN K D99_1_216 rfl rfl ?_
            refine G.aload K D99_1_217 rfl rfl ?_
            refine G.putF K (host := "") (Or.inl (wd hw 24 rfl)) (cf_NST hw) (Or.inr ⟨(wd hw 25 rfl), rfl, rfl⟩) (wd hw 2 rfl) H775 (i := 7) rfl (j := 1) rfl rfl (ty := (.array .int)) (by decide) rfl rfl D99_1_219 ?_
            intro h777 H777
            change Hp n0 h777 ((a693, Ia Z [(sF ke y0), (tF ke y0), (sF ke y1), (tF ke y1), 0, 0, 0, 0]) :: (a691, Ia Z [0, 2]) :: (b689, Ia Z [Int32.ofNat y0, Int32.ofNat y1, Int32.ofNat y2, Int32.ofNat y3]) :: (fa, Ia Z (lst 4 (fun _ => 0))) :: (sa, Ia Z (lst 4 (sF ke))) :: (ta, Ia Z (lst 4 (tF ke))) :: (a683, Xa Z [0, 1, 2]) :: (a, Ob Z "com/example/rankwise/rankwise/store/TripleIndex" NST [.ref a683, .ref a691, .null]) :: (ca, Xa Z [0, 1, 2]) :: σ) at H777
            refine G.aloadN K D99_1_222 rfl rfl ?_
            refine G.iload K D99_1_223 rfl ?_
            refine G.iload K D99_1_225 rfl ?_
            refine G.icmp_ne K D99_1_227 (fun _ => ?_) (fun q => absurd q (by decide))
            refine G.aload K D99_1_235 rfl rfl ?_
            refine G.iconst K D99_1_237 2 rfl ?_
            refine G.iload K D99_1_238 rfl ?_
            refine G.imul K D99_1_240 ?_
            change G k n0 _ h777 _ _ 241 [.val (.ref a), .val (.ref fa), .val (.ref sa), .val (.ref ta), .val (.int 4), .val (.ref ca), .val (.ref b689), .val (.int 0), .val (.ref a691), .val (.ref a693), .val (.int 2), .val (.int 2), .val (.int (Int32.ofNat y3))] [.int 4, .ref a693, .ref a]
            refine G.callS K hl (wd hw 58 rfl) (wd hw 59 rfl) (wd hw 60 rfl) (wd hw 61 rfl) (by decide) pd_3 (ct_copy l Z a0 hw n0 h777 a693 4 [(sF ke y0), (tF ke y0), (sF ke y1), (tF ke y1), 0, 0, 0, 0] ((a691, Ia Z [0, 2]) :: (b689, Ia Z [Int32.ofNat y0, Int32.ofNat y1, Int32.ofNat y2, Int32.ofNat y3]) :: (fa, Ia Z (lst 4 (fun _ => 0))) :: (sa, Ia Z (lst 4 (sF ke))) :: (ta, Ia Z (lst 4 (tF ke))) :: (a683, Xa Z [0, 1, 2]) :: (a, Ob Z "com/example/rankwise/rankwise/store/TripleIndex" NST [.ref a683, .ref a691, .null]) :: (ca, Xa Z [0, 1, 2]) :: σ) (Nat.le_of_ble_eq_true rfl) (Nat.le_of_ble_eq_true rfl) H777) 1 rfl (by decide) (by decide) (by decide) (by decide) rfl rfl [.int 4, .ref a693] rfl D99_1_241 ?_
            rintro _ h779 ⟨b779, rfl, H779⟩
            change Hp n0 h779 ((b779, Ia Z [(sF ke y0), (tF ke y0), (sF ke y1), (tF ke y1)]) :: (a693, Ia Z [(sF ke y0), (tF ke y0), (sF ke y1), (tF ke y1), 0, 0, 0, 0]) :: (a691, Ia Z [0, 2]) :: (b689, Ia Z [Int32.ofNat y0, Int32.ofNat y1, Int32.ofNat y2, Int32.ofNat y3]) :: (fa, Ia Z (lst 4 (fun _ => 0))) :: (sa, Ia Z (lst 4 (sF ke))) :: (ta, Ia Z (lst 4 (tF ke))) :: (a683, Xa Z [0, 1, 2]) :: (a, Ob Z "com/example/rankwise/rankwise/store/TripleIndex" NST [.ref a683, .ref a691, .null]) :: (ca, Xa Z [0, 1, 2]) :: σ) at H779
            change G k n0 _ h779 _ _ 244 [.val (.ref a), .val (.ref fa), .val (.ref sa), .val (.ref ta), .val (.int 4), .val (.ref ca), .val (.ref b689), .val (.int 0), .val (.ref a691), .val (.ref a693), .val (.int 2), .val (.int 2), .val (.int (Int32.ofNat y3))] [.ref b779, .ref a]
            refine G.putF K (host := "") (Or.inl (wd hw 26 rfl)) (cf_NST hw) (Or.inr ⟨(wd hw 27 rfl), rfl, rfl⟩) (wd hw 2 rfl) H779 (i := 8) rfl (j := 2) rfl rfl (ty := (.array .int)) (by decide) rfl rfl D99_1_244 ?_
            intro h780 H780
            change Hp n0 h780 ((b779, Ia Z [(sF ke y0), (tF ke y0), (sF ke y1), (tF ke y1)]) :: (a693, Ia Z [(sF ke y0), (tF ke y0), (sF ke y1), (tF ke y1), 0, 0, 0, 0]) :: (a691, Ia Z [0, 2]) :: (b689, Ia Z [Int32.ofNat y0, Int32.ofNat y1, Int32.ofNat y2, Int32.ofNat y3]) :: (fa, Ia Z (lst 4 (fun _ => 0))) :: (sa, Ia Z (lst 4 (sF ke))) :: (ta, Ia Z (lst 4 (tF ke))) :: (a683, Xa Z [0, 1, 2]) :: (a, Ob Z "com/example/rankwise/rankwise/store/TripleIndex" NST [.ref a683, .ref a691, .ref b779]) :: (ca, Xa Z [0, 1, 2]) :: σ) at H780
            refine G.ret_void K D99_1_247 ?_
            have H781 : Hp n0 h780 ((ta, Ia Z (lst 4 (tF ke))) :: (b779, Ia Z [(sF ke y0), (tF ke y0), (sF ke y1), (tF ke y1)]) :: (a693, Ia Z [(sF ke y0), (tF ke y0), (sF ke y1), (tF ke y1), 0, 0, 0, 0]) :: (a691, Ia Z [0, 2]) :: (b689, Ia Z [Int32.ofNat y0, Int32.ofNat y1, Int32.ofNat y2, Int32.ofNat y3]) :: (fa, Ia Z (lst 4 (fun _ => 0))) :: (sa, Ia Z (lst 4 (sF ke))) :: (a683, Xa Z [0, 1, 2]) :: (a, Ob Z "com/example/rankwise/rankwise/store/TripleIndex" NST [.ref a683, .ref a691, .ref b779]) :: (ca, Xa Z [0, 1, 2]) :: σ) := H780.pull 6 rfl
            have H782 : Hp n0 h780 ((sa, Ia Z (lst 4 (sF ke))) :: (ta, Ia Z (lst 4 (tF ke))) :: (b779, Ia Z [(sF ke y0), (tF ke y0), (sF ke y1), (tF ke y1)]) :: (a693, Ia Z [(sF ke y0), (tF ke y0), (sF ke y1), (tF ke y1), 0, 0, 0, 0]) :: (a691, Ia Z [0, 2]) :: (b689, Ia Z [Int32.ofNat y0, Int32.ofNat y1, Int32.ofNat y2, Int32.ofNat y3]) :: (fa, Ia Z (lst 4 (fun _ => 0))) :: (a683, Xa Z [0, 1, 2]) :: (a, Ob Z "com/example/rankwise/rankwise/store/TripleIndex" NST [.ref a683, .ref a691, .ref b779]) :: (ca, Xa Z [0, 1, 2]) :: σ) := H781.pull 6 rfl
            have H783 : Hp n0 h780 ((fa, Ia Z (lst 4 (fun _ => 0))) :: (sa, Ia Z (lst 4 (sF ke))) :: (ta, Ia Z (lst 4 (tF ke))) :: (b779, Ia Z [(sF ke y0), (tF ke y0), (sF ke y1), (tF ke y1)]) :: (a693, Ia Z [(sF ke y0), (tF ke y0), (sF ke y1), (tF ke y1), 0, 0, 0, 0]) :: (a691, Ia Z [0, 2]) :: (b689, Ia Z [Int32.ofNat y0, Int32.ofNat y1, Int32.ofNat y2, Int32.ofNat y3]) :: (a683, Xa Z [0, 1, 2]) :: (a, Ob Z "com/example/rankwise/rankwise/store/TripleIndex" NST [.ref a683, .ref a691, .ref b779]) :: (ca, Xa Z [0, 1, 2]) :: σ) := H782.pull 6 rfl
            have H784 : Hp n0 h780 ((b779, Ia Z [(sF ke y0), (tF ke y0), (sF ke y1), (tF ke y1)]) :: (fa, Ia Z (lst 4 (fun _ => 0))) :: (sa, Ia Z (lst 4 (sF ke))) :: (ta, Ia Z (lst 4 (tF ke))) :: (a693, Ia Z [(sF ke y0), (tF ke y0), (sF ke y1), (tF ke y1), 0, 0, 0, 0]) :: (a691, Ia Z [0, 2]) :: (b689, Ia Z [Int32.ofNat y0, Int32.ofNat y1, Int32.ofNat y2, Int32.ofNat y3]) :: (a683, Xa Z [0, 1, 2]) :: (a, Ob Z "com/example/rankwise/rankwise/store/TripleIndex" NST [.ref a683, .ref a691, .ref b779]) :: (ca, Xa Z [0, 1, 2]) :: σ) := H783.pull 3 rfl
            have H785 : Hp n0 h780 ((a, Ob Z "com/example/rankwise/rankwise/store/TripleIndex" NST [.ref a683, .ref a691, .ref b779]) :: (b779, Ia Z [(sF ke y0), (tF ke y0), (sF ke y1), (tF ke y1)]) :: (fa, Ia Z (lst 4 (fun _ => 0))) :: (sa, Ia Z (lst 4 (sF ke))) :: (ta, Ia Z (lst 4 (tF ke))) :: (a693, Ia Z [(sF ke y0), (tF ke y0), (sF ke y1), (tF ke y1), 0, 0, 0, 0]) :: (a691, Ia Z [0, 2]) :: (b689, Ia Z [Int32.ofNat y0, Int32.ofNat y1, Int32.ofNat y2, Int32.ofNat y3]) :: (a683, Xa Z [0, 1, 2]) :: (ca, Xa Z [0, 1, 2]) :: σ) := H784.pull 8 rfl
            have H786 : Hp n0 h780 ((a, Ob Z "com/example/rankwise/rankwise/store/TripleIndex" NST [.ref a683, .ref a691, .ref b779]) :: (b779, Ia Z [(sF ke y0), (tF ke y0), (sF ke y1), (tF ke y1)]) :: (fa, Ia Z (lst 4 (fun _ => 0))) :: (sa, Ia Z (lst 4 (sF ke))) :: (ta, Ia Z (lst 4 (tF ke))) :: σ) := H785.sub (List.Sublist.cons_cons _ (List.Sublist.cons_cons _ (List.Sublist.cons_cons _ (List.Sublist.cons_cons _ (List.Sublist.cons_cons _ (List.Sublist.cons _ (List.Sublist.cons _ (List.Sublist.cons _ (List.Sublist.cons _ (List.Sublist.cons _ (List.Sublist.refl _)))))))))))
            refine ⟨_, _, _, 2, fun i => [y0, y1].getD i 0, rfl, ⟨by decide, ?_, ?_⟩, H786⟩
            · intro i hi
              rcases (by omega : i = 0) with rfl
              · show ke y0 < ke y1; omega
            · intro f
              show 0 + f (ke y0) + f (ke y1) = D4 f (ke 0) (ke 1) (ke 2) (ke 3)
              rw [← pm4 ke f f0 f1 f2 f3 f4 f5 f6 f7 f8 f9]
              unfold D4
              rw [if_neg (show ¬ (ke y1 = ke y0) by omega), if_pos (show ke y2 = ke y0 ∨ ke y2 = ke y1 by omega), if_pos (show ke y3 = ke y0 ∨ ke y3 = ke y1 ∨ ke y3 = ke y2 by omega)]; omega
  refine G.iload K D99_1_82 rfl ?_
  refine G.if_le K D99_1_84 (fun q => absurd q (by decide)) (fun _ => ?_)
  refine G.aloadN K D99_1_87 rfl rfl ?_
  refine G.iload K D99_1_88 rfl ?_
  refine G.aload_i K H699 (i := 3) rfl (own_nneg (by omega)) (by rw [own_nidx (by omega)]; exact lst_get _ (by omega)) D99_1_90 ?_
  refine G.aloadN K D99_1_91 rfl rfl ?_
  refine G.aload K D99_1_92 rfl rfl ?_
  refine G.iload K D99_1_94 rfl ?_
  refine G.iconst K D99_1_96 1 rfl ?_
  refine G.isub K D99_1_97 ?_
  change G k n0 _ h699 _ _ 98 [.val (.ref a), .val (.ref fa), .val (.ref sa), .val (.ref ta), .val (.int 4), .val (.ref ca), .val (.ref b689), .val (.int 0), .val (.ref a691), .val (.ref a693), .val (.int 1), .val (.int 1), .val (.int (Int32.ofNat y1))] [.int 0, .ref b689, .ref fa, .int 0]
  refine G.aload_i K H699 (i := 2) rfl (by decide) rfl D99_1_98 ?_
  refine G.aload_i K H699 (i := 3) rfl (own_nneg (by omega)) (by rw [own_nidx (by omega)]; exact lst_get _ (by omega)) D99_1_99 ?_
  refine G.icmp_ne K D99_1_100 (fun q => absurd q (by decide)) (fun _ => ?_)
  refine G.aloadN K D99_1_103 rfl rfl ?_
  refine G.iload K D99_1_104 rfl ?_
  refine G.aload_i K H699 (i := 4) rfl (own_nneg (by omega)) (by rw [own_nidx (by omega)]; exact lst_get _ (by omega)) D99_1_106 ?_
  refine G.aload K D99_1_107 rfl rfl ?_
  refine G.iconst K D99_1_109 2 rfl ?_
  refine G.iload K D99_1_110 rfl ?_
  refine G.imul K D99_1_112 ?_
  change G k n0 _ h699 _ _ 113 [.val (.ref a), .val (.ref fa), .val (.ref sa), .val (.ref ta), .val (.int 4), .val (.ref ca), .val (.ref b689), .val (.int 0), .val (.ref a691), .val (.ref a693), .val (.int 1), .val (.int 1), .val (.int (Int32.ofNat y1))] [.int 2, .ref a693, .int (sF ke y1)]
  refine G.iconst K D99_1_113 2 rfl ?_
  refine G.isub K D99_1_114 ?_
  change G k n0 _ h699 _ _ 115 [.val (.ref a), .val (.ref fa), .val (.ref sa), .val (.ref ta), .val (.int 4), .val (.ref ca), .val (.ref b689), .val (.int 0), .val (.ref a691), .val (.ref a693), .val (.int 1), .val (.int 1), .val (.int (Int32.ofNat y1))] [.int 0, .ref a693, .int (sF ke y1)]
  refine G.aload_i K H699 (i := 0) rfl (by decide) rfl D99_1_115 ?_
  refine G.icmp_ne K D99_1_116 (fun q789 => ?_) (fun q789 => ?_)
  · exact T701 (key_ns q789)
  · refine G.aloadN K D99_1_119 rfl rfl ?_
    refine G.iload K D99_1_120 rfl ?_
    refine G.aload_i K H699 (i := 5) rfl (own_nneg (by omega)) (by rw [own_nidx (by omega)]; exact lst_get _ (by omega)) D99_1_122 ?_
    refine G.aload K D99_1_123 rfl rfl ?_
    refine G.iconst K D99_1_125 2 rfl ?_
    refine G.iload K D99_1_126 rfl ?_
    refine G.imul K D99_1_128 ?_
    change G k n0 _ h699 _ _ 129 [.val (.ref a), .val (.ref fa), .val (.ref sa), .val (.ref ta), .val (.int 4), .val (.ref ca), .val (.ref b689), .val (.int 0), .val (.ref a691), .val (.ref a693), .val (.int 1), .val (.int 1), .val (.int (Int32.ofNat y1))] [.int 2, .ref a693, .int (tF ke y1)]
    refine G.iconst K D99_1_129 1 rfl ?_
    refine G.isub K D99_1_130 ?_
    change G k n0 _ h699 _ _ 131 [.val (.ref a), .val (.ref fa), .val (.ref sa), .val (.ref ta), .val (.int 4), .val (.ref ca), .val (.ref b689), .val (.int 0), .val (.ref a691), .val (.ref a693), .val (.int 1), .val (.int 1), .val (.int (Int32.ofNat y1))] [.int 1, .ref a693, .int (tF ke y1)]
    refine G.aload_i K H699 (i := 0) rfl (by decide) rfl D99_1_131 ?_
    refine G.icmp_ne K D99_1_132 (fun q790 => ?_) (fun q790 => ?_)
    · exact T701 (key_nt q790)
    · have eq1 : ke y1 = ke y0 := key_eq hK q789 q790
      refine G.goto K D99_1_135 ?_
      refine G.iinc K D99_1_178 1 rfl rfl ([.val (.ref a), .val (.ref fa), .val (.ref sa), .val (.ref ta), .val (.int 4), .val (.ref ca), .val (.ref b689), .val (.int 0), .val (.ref a691), .val (.ref a693), .val (.int 1), .val (.int (1 + 1)), .val (.int (Int32.ofNat y1))]) rfl ?_
      change G k n0 _ h699 _ _ 181 [.val (.ref a), .val (.ref fa), .val (.ref sa), .val (.ref ta), .val (.int 4), .val (.ref ca), .val (.ref b689), .val (.int 0), .val (.ref a691), .val (.ref a693), .val (.int 1), .val (.int 2), .val (.int (Int32.ofNat y1))] []
      refine G.goto K D99_1_181 ?_
      refine G.iload K D99_1_68 rfl ?_
      refine G.iload K D99_1_70 rfl ?_
      refine G.icmp_ge K D99_1_72 (fun q => absurd q (by decide)) (fun _ => ?_)
      refine G.aload K D99_1_75 rfl rfl ?_
      refine G.iload K D99_1_77 rfl ?_
      refine G.aload_i K H699 (i := 2) rfl (by decide) rfl D99_1_79 ?_
      refine G.istore K D99_1_80 ([.val (.ref a), .val (.ref fa), .val (.ref sa), .val (.ref ta), .val (.int 4), .val (.ref ca), .val (.ref b689), .val (.int 0), .val (.ref a691), .val (.ref a693), .val (.int 1), .val (.int 2), .val (.int (Int32.ofNat y2))]) rfl ?_
      have T792 : ¬ ke y2 = ke y0 → G k n0 (fun v h' => ∃ (b1 b2 b3 : Addr) (L : Nat) (zf : Nat → Nat), v = none ∧ DD ke zf L (fun f => D4 f (ke 0) (ke 1) (ke 2) (ke 3)) ∧ Hp n0 h' ((a, Ob Z "com/example/rankwise/rankwise/store/TripleIndex" NST [.ref b1, .ref b2, .ref b3]) :: (b3, Ia Z (lst (2 * L) (cF ke zf))) :: (fa, Ia Z (lst 4 (fun _ => 0))) :: (sa, Ia Z (lst 4 (sF ke))) :: (ta, Ia Z (lst 4 (tF ke))) :: σ)) h699 5 21 138 [.val (.ref a), .val (.ref fa), .val (.ref sa), .val (.ref ta), .val (.int 4), .val (.ref ca), .val (.ref b689), .val (.int 0), .val (.ref a691), .val (.ref a693), .val (.int 1), .val (.int 2), .val (.int (Int32.ofNat y2))] [] := by
        intro ne2
        refine G.aload K D99_1_138 rfl rfl ?_
        refine G.aloadN K D99_1_140 rfl rfl ?_
        refine G.iload K D99_1_141 rfl ?_
        refine G.aload_i K H699 (i := 3) rfl (own_nneg (by omega)) (by rw [own_nidx (by omega)]; exact lst_get _ (by omega)) D99_1_143 ?_
        refine G.iconst K D99_1_144 1 rfl ?_
        refine G.iadd K D99_1_145 ?_
        change G k n0 _ h699 _ _ 146 [.val (.ref a), .val (.ref fa), .val (.ref sa), .val (.ref ta), .val (.int 4), .val (.ref ca), .val (.ref b689), .val (.int 0), .val (.ref a691), .val (.ref a693), .val (.int 1), .val (.int 2), .val (.int (Int32.ofNat y2))] [.int 1, .ref a691]
        refine G.dup2 K D99_1_146 rfl rfl ?_
        refine G.aload_i K H699 (i := 1) rfl (by decide) rfl D99_1_147 ?_
        refine G.iconst K D99_1_148 1 rfl ?_
        refine G.iadd K D99_1_149 ?_
        change G k n0 _ h699 _ _ 150 [.val (.ref a), .val (.ref fa), .val (.ref sa), .val (.ref ta), .val (.int 4), .val (.ref ca), .val (.ref b689), .val (.int 0), .val (.ref a691), .val (.ref a693), .val (.int 1), .val (.int 2), .val (.int (Int32.ofNat y2))] [.int 2, .int 1, .ref a691]
        refine G.astore_i K H699 (i := 1) rfl (by decide) (Nat.le_of_ble_eq_true rfl) D99_1_150 ?_
        intro h793 H793
        change Hp n0 h793 ((a693, Ia Z [(sF ke y0), (tF ke y0), 0, 0, 0, 0, 0, 0]) :: (a691, Ia Z [0, 2]) :: (b689, Ia Z [Int32.ofNat y0, Int32.ofNat y1, Int32.ofNat y2, Int32.ofNat y3]) :: (fa, Ia Z (lst 4 (fun _ => 0))) :: (sa, Ia Z (lst 4 (sF ke))) :: (ta, Ia Z (lst 4 (tF ke))) :: (a683, Xa Z [0, 1, 2]) :: (a, Ob Z "com/example/rankwise/rankwise/store/TripleIndex" NST [.ref a683, .null, .null]) :: (ca, Xa Z [0, 1, 2]) :: σ) at H793
        refine G.aload K D99_1_151 rfl rfl ?_
        refine G.iconst K D99_1_153 2 rfl ?_
        refine G.iload K D99_1_154 rfl ?_
        refine G.imul K D99_1_156 ?_
        change G k n0 _ h793 _ _ 157 [.val (.ref a), .val (.ref fa), .val (.ref sa), .val (.ref ta), .val (.int 4), .val (.ref ca), .val (.ref b689), .val (.int 0), .val (.ref a691), .val (.ref a693), .val (.int 1), .val (.int 2), .val (.int (Int32.ofNat y2))] [.int 2, .ref a693]
        refine G.aloadN K D99_1_157 rfl rfl ?_
        refine G.iload K D99_1_158 rfl ?_
        refine G.aload_i K H793 (i := 4) rfl (own_nneg (by omega)) (by rw [own_nidx (by omega)]; exact lst_get _ (by omega)) D99_1_160 ?_
        refine G.astore_i K H793 (i := 0) rfl (by decide) (Nat.le_of_ble_eq_true rfl) D99_1_161 ?_
        intro h794 H794
        change Hp n0 h794 ((a693, Ia Z [(sF ke y0), (tF ke y0), (sF ke y2), 0, 0, 0, 0, 0]) :: (a691, Ia Z [0, 2]) :: (b689, Ia Z [Int32.ofNat y0, Int32.ofNat y1, Int32.ofNat y2, Int32.ofNat y3]) :: (fa, Ia Z (lst 4 (fun _ => 0))) :: (sa, Ia Z (lst 4 (sF ke))) :: (ta, Ia Z (lst 4 (tF ke))) :: (a683, Xa Z [0, 1, 2]) :: (a, Ob Z "com/example/rankwise/rankwise/store/TripleIndex" NST [.ref a683, .null, .null]) :: (ca, Xa Z [0, 1, 2]) :: σ) at H794
        refine G.aload K D99_1_162 rfl rfl ?_
        refine G.iconst K D99_1_164 2 rfl ?_
        refine G.iload K D99_1_165 rfl ?_
        refine G.imul K D99_1_167 ?_
        change G k n0 _ h794 _ _ 168 [.val (.ref a), .val (.ref fa), .val (.ref sa), .val (.ref ta), .val (.int 4), .val (.ref ca), .val (.ref b689), .val (.int 0), .val (.ref a691), .val (.ref a693), .val (.int 1), .val (.int 2), .val (.int (Int32.ofNat y2))] [.int 2, .ref a693]
        refine G.iconst K D99_1_168 1 rfl ?_
        refine G.iadd K D99_1_169 ?_
        change G k n0 _ h794 _ _ 170 [.val (.ref a), .val (.ref fa), .val (.ref sa), .val (.ref ta), .val (.int 4), .val (.ref ca), .val (.ref b689), .val (.int 0), .val (.ref a691), .val (.ref a693), .val (.int 1), .val (.int 2), .val (.int (Int32.ofNat y2))] [.int 3, .ref a693]
        refine G.aloadN K D99_1_170 rfl rfl ?_
        refine G.iload K D99_1_171 rfl ?_
        refine G.aload_i K H794 (i := 5) rfl (own_nneg (by omega)) (by rw [own_nidx (by omega)]; exact lst_get _ (by omega)) D99_1_173 ?_
        refine G.astore_i K H794 (i := 0) rfl (by decide) (Nat.le_of_ble_eq_true rfl) D99_1_174 ?_
        intro h795 H795
        change Hp n0 h795 ((a693, Ia Z [(sF ke y0), (tF ke y0), (sF ke y2), (tF ke y2), 0, 0, 0, 0]) :: (a691, Ia Z [0, 2]) :: (b689, Ia Z [Int32.ofNat y0, Int32.ofNat y1, Int32.ofNat y2, Int32.ofNat y3]) :: (fa, Ia Z (lst 4 (fun _ => 0))) :: (sa, Ia Z (lst 4 (sF ke))) :: (ta, Ia Z (lst 4 (tF ke))) :: (a683, Xa Z [0, 1, 2]) :: (a, Ob Z "com/example/rankwise/rankwise/store/TripleIndex" NST [.ref a683, .null, .null]) :: (ca, Xa Z [0, 1, 2]) :: σ) at H795
        refine G.iinc K D99_1_175 1 rfl rfl ([.val (.ref a), .val (.ref fa), .val (.ref sa), .val (.ref ta), .val (.int 4), .val (.ref ca), .val (.ref b689), .val (.int 0), .val (.ref a691), .val (.ref a693), .val (.int (1 + 1)), .val (.int 2), .val (.int (Int32.ofNat y2))]) rfl ?_
        change G k n0 _ h795 _ _ 178 [.val (.ref a), .val (.ref fa), .val (.ref sa), .val (.ref ta), .val (.int 4), .val (.ref ca), .val (.ref b689), .val (.int 0), .val (.ref a691), .val (.ref a693), .val (.int 2), .val (.int 2), .val (.int (Int32.ofNat y2))] []
        refine G.iinc K D99_1_178 1 rfl rfl ([.val (.ref a), .val (.ref fa), .val (.ref sa), .val (.ref ta), .val (.int 4), .val (.ref ca), .val (.ref b689), .val (.int 0), .val (.ref a691), .val (.ref a693), .val (.int 2), .val (.int (2 + 1)), .val (.int (Int32.ofNat y2))]) rfl ?_
        change G k n0 _ h795 _ _ 181 [.val (.ref a), .val (.ref fa), .val (.ref sa), .val (.ref ta), .val (.int 4), .val (.ref ca), .val (.ref b689), .val (.int 0), .val (.ref a691), .val (.ref a693), .val (.int 2), .val (.int 3), .val (.int (Int32.ofNat y2))] []
        refine G.goto K D99_1_181 ?_
        refine G.iload K D99_1_68 rfl ?_
        refine G.iload K D99_1_70 rfl ?_
        refine G.icmp_ge K D99_1_72 (fun q => absurd q (by decide)) (fun _ => ?_)
        refine G.aload K D99_1_75 rfl rfl ?_
        refine G.iload K D99_1_77 rfl ?_
        refine G.aload_i K H795 (i := 2) rfl (by decide) rfl D99_1_79 ?_
        refine G.istore K D99_1_80 ([.val (.ref a), .val (.ref fa), .val (.ref sa), .val (.ref ta), .val (.int 4), .val (.ref ca), .val (.ref b689), .val (.int 0), .val (.ref a691), .val (.ref a693), .val (.int 2), .val (.int 3), .val (.int (Int32.ofNat y3))]) rfl ?_
        have T797 : ¬ ke y3 = ke y2 → G k n0 (fun v h' => ∃ (b1 b2 b3 : Addr) (L : Nat) (zf : Nat → Nat), v = none ∧ DD ke zf L (fun f => D4 f (ke 0) (ke 1) (ke 2) (ke 3)) ∧ Hp n0 h' ((a, Ob Z "com/example/rankwise/rankwise/store/TripleIndex" NST [.ref b1, .ref b2, .ref b3]) :: (b3, Ia Z (lst (2 * L) (cF ke zf))) :: (fa, Ia Z (lst 4 (fun _ => 0))) :: (sa, Ia Z (lst 4 (sF ke))) :: (ta, Ia Z (lst 4 (tF ke))) :: σ)) h795 5 21 138 [.val (.ref a), .val (.ref fa), .val (.ref sa), .val (.ref ta), .val (.int 4), .val (.ref ca), .val (.ref b689), .val (.int 0), .val (.ref a691), .val (.ref a693), .val (.int 2), .val (.int 3), .val (.int (Int32.ofNat y3))] [] := by
          intro ne3
          refine G.aload K D99_1_138 rfl rfl ?_
          refine G.aloadN K D99_1_140 rfl rfl ?_
          refine G.iload K D99_1_141 rfl ?_
          refine G.aload_i K H795 (i := 3) rfl (own_nneg (by omega)) (by rw [own_nidx (by omega)]; exact lst_get _ (by omega)) D99_1_143 ?_
          refine G.iconst K D99_1_144 1 rfl ?_
          refine G.iadd K D99_1_145 ?_
          change G k n0 _ h795 _ _ 146 [.val (.ref a), .val (.ref fa), .val (.ref sa), .val (.ref ta), .val (.int 4), .val (.ref ca), .val (.ref b689), .val (.int 0), .val (.ref a691), .val (.ref a693), .val (.int 2), .val (.int 3), .val (.int (Int32.ofNat y3))] [.int 1, .ref a691]
          refine G.dup2 K D99_1_146 rfl rfl ?_
          refine G.aload_i K H795 (i := 1) rfl (by decide) rfl D99_1_147 ?_
          refine G.iconst K D99_1_148 1 rfl ?_
          refine G.iadd K D99_1_149 ?_
          change G k n0 _ h795 _ _ 150 [.val (.ref a), .val (.ref fa), .val (.ref sa), .val (.ref ta), .val (.int 4), .val (.ref ca), .val (.ref b689), .val (.int 0), .val (.ref a691), .val (.ref a693), .val (.int 2), .val (.int 3), .val (.int (Int32.ofNat y3))] [.int 3, .int 1, .ref a691]
          refine G.astore_i K H795 (i := 1) rfl (by decide) (Nat.le_of_ble_eq_true rfl) D99_1_150 ?_
          intro h798 H798
          change Hp n0 h798 ((a693, Ia Z [(sF ke y0), (tF ke y0), (sF ke y2), (tF ke y2), 0, 0, 0, 0]) :: (a691, Ia Z [0, 3]) :: (b689, Ia Z [Int32.ofNat y0, Int32.ofNat y1, Int32.ofNat y2, Int32.ofNat y3]) :: (fa, Ia Z (lst 4 (fun _ => 0))) :: (sa, Ia Z (lst 4 (sF ke))) :: (ta, Ia Z (lst 4 (tF ke))) :: (a683, Xa Z [0, 1, 2]) :: (a, Ob Z "com/example/rankwise/rankwise/store/TripleIndex" NST [.ref a683, .null, .null]) :: (ca, Xa Z [0, 1, 2]) :: σ) at H798
          refine G.aload K D99_1_151 rfl rfl ?_
          refine G.iconst K D99_1_153 2 rfl ?_
          refine G.iload K D99_1_154 rfl ?_
          refine G.imul K D99_1_156 ?_
          change G k n0 _ h798 _ _ 157 [.val (.ref a), .val (.ref fa), .val (.ref sa), .val (.ref ta), .val (.int 4), .val (.ref ca), .val (.ref b689), .val (.int 0), .val (.ref a691), .val (.ref a693), .val (.int 2), .val (.int 3), .val (.int (Int32.ofNat y3))] [.int 4, .ref a693]
          refine G.aloadN K D99_1_157 rfl rfl ?_
          refine G.iload K D99_1_158 rfl ?_
          refine G.aload_i K H798 (i := 4) rfl (own_nneg (by omega)) (by rw [own_nidx (by omega)]; exact lst_get _ (by omega)) D99_1_160 ?_
          refine G.astore_i K H798 (i := 0) rfl (by decide) (Nat.le_of_ble_eq_true rfl) D99_1_161 ?_
          intro h799 H799
          change Hp n0 h799 ((a693, Ia Z [(sF ke y0), (tF ke y0), (sF ke y2), (tF ke y2), (sF ke y3), 0, 0, 0]) :: (a691, Ia Z [0, 3]) :: (b689, Ia Z [Int32.ofNat y0, Int32.ofNat y1, Int32.ofNat y2, Int32.ofNat y3]) :: (fa, Ia Z (lst 4 (fun _ => 0))) :: (sa, Ia Z (lst 4 (sF ke))) :: (ta, Ia Z (lst 4 (tF ke))) :: (a683, Xa Z [0, 1, 2]) :: (a, Ob Z "com/example/rankwise/rankwise/store/TripleIndex" NST [.ref a683, .null, .null]) :: (ca, Xa Z [0, 1, 2]) :: σ) at H799
          refine G.aload K D99_1_162 rfl rfl ?_
          refine G.iconst K D99_1_164 2 rfl ?_
          refine G.iload K D99_1_165 rfl ?_
          refine G.imul K D99_1_167 ?_
          change G k n0 _ h799 _ _ 168 [.val (.ref a), .val (.ref fa), .val (.ref sa), .val (.ref ta), .val (.int 4), .val (.ref ca), .val (.ref b689), .val (.int 0), .val (.ref a691), .val (.ref a693), .val (.int 2), .val (.int 3), .val (.int (Int32.ofNat y3))] [.int 4, .ref a693]
          refine G.iconst K D99_1_168 1 rfl ?_
          refine G.iadd K D99_1_169 ?_
          change G k n0 _ h799 _ _ 170 [.val (.ref a), .val (.ref fa), .val (.ref sa), .val (.ref ta), .val (.int 4), .val (.ref ca), .val (.ref b689), .val (.int 0), .val (.ref a691), .val (.ref a693), .val (.int 2), .val (.int 3), .val (.int (Int32.ofNat y3))] [.int 5, .ref a693]
          refine G.aloadN K D99_1_170 rfl rfl ?_
          refine G.iload K D99_1_171 rfl ?_
          refine G.aload_i K H799 (i := 5) rfl (own_nneg (by omega)) (by rw [own_nidx (by omega)]; exact lst_get _ (by omega)) D99_1_173 ?_
          refine G.astore_i K H799 (i := 0) rfl (by decide) (Nat.le_of_ble_eq_true rfl) D99_1_174 ?_
          intro h800 H800
          change Hp n0 h800 ((a693, Ia Z [(sF ke y0), (tF ke y0), (sF ke y2), (tF ke y2), (sF ke y3), (tF ke y3), 0, 0]) :: (a691, Ia Z [0, 3]) :: (b689, Ia Z [Int32.ofNat y0, Int32.ofNat y1, Int32.ofNat y2, Int32.ofNat y3]) :: (fa, Ia Z (lst 4 (fun _ => 0))) :: (sa, Ia Z (lst 4 (sF ke))) :: (ta, Ia Z (lst 4 (tF ke))) :: (a683, Xa Z [0, 1, 2]) :: (a, Ob Z "com/example/rankwise/rankwise/store/TripleIndex" NST [.ref a683, .null, .null]) :: (ca, Xa Z [0, 1, 2]) :: σ) at H800
          refine G.iinc K D99_1_175 1 rfl rfl ([.val (.ref a), .val (.ref fa), .val (.ref sa), .val (.ref ta), .val (.int 4), .val (.ref ca), .val (.ref b689), .val (.int 0), .val (.ref a691), .val (.ref a693), .val (.int (2 + 1)), .val (.int 3), .val (.int (Int32.ofNat y3))]) rfl ?_
          change G k n0 _ h800 _ _ 178 [.val (.ref a), .val (.ref fa), .val (.ref sa), .val (.ref ta), .val (.int 4), .val (.ref ca), .val (.ref b689), .val (.int 0), .val (.ref a691), .val (.ref a693), .val (.int 3), .val (.int 3), .val (.int (Int32.ofNat y3))] []
          refine G.iinc K D99_1_178 1 rfl rfl ([.val (.ref a), .val (.ref fa), .val (.ref sa), .val (.ref ta), .val (.int 4), .val (.ref ca), .val (.ref b689), .val (.int 0), .val (.ref a691), .val (.ref a693), .val (.int 3), .val (.int (3 + 1)), .val (.int (Int32.ofNat y3))]) rfl ?_
          change G k n0 _ h800 _ _ 181 [.val (.ref a), .val (.ref fa), .val (.ref sa), .val (.ref ta), .val (.int 4), .val (.ref ca), .val (.ref b689), .val (.int 0), .val (.ref a691), .val (.ref a693), .val (.int 3), .val (.int 4), .val (.int (Int32.ofNat y3))] []
          refine G.goto K D99_1_181 ?_
          refine G.iload K D99_1_68 rfl ?_
          refine G.iload K D99_1_70 rfl ?_
          refine G.icmp_ge K D99_1_72 (fun _ => ?_) (fun q => absurd q (by decide))
          refine G.iconst K D99_1_184 1 rfl ?_
          refine G.istore K D99_1_185 ([.val (.ref a), .val (.ref fa), .val (.ref sa), .val (.ref ta), .val (.int 4), .val (.ref ca), .val (.ref b689), .val (.int 0), .val (.ref a691), .val (.ref a693), .val (.int 3), .val (.int 1), .val (.int (Int32.ofNat y3))]) rfl ?_
          refine G.iload K D99_1_187 rfl ?_
          refine G.aload K D99_1_189 rfl rfl ?_
          refine G.alen K H800 (i := 1) rfl D99_1_191 2 rfl ?_
          refine G.icmp_ge K D99_1_192 (fun q => absurd q (by decide)) (fun _ => ?_)
          refine G.aload K D99_1_195 rfl rfl ?_
          refine G.iload K D99_1_197 rfl ?_
          refine G.dup2 K D99_1_199 rfl rfl ?_
          refine G.aload_i K H800 (i := 1) rfl (by decide) rfl D99_1_200 ?_
          refine G.aload K D99_1_201 rfl rfl ?_
          refine G.iload K D99_1_203 rfl ?_
          refine G.iconst K D99_1_205 1 rfl ?_
          refine G.isub K D99_1_206 ?_
          change G k n0 _ h800 _ _ 207 [.val (.ref a), .val (.ref fa), .val (.ref sa), .val (.ref ta), .val (.int 4), .val (.ref ca), .val (.ref b689), .val (.int 0), .val (.ref a691), .val (.ref a693), .val (.int 3), .val (.int 1), .val (.int (Int32.ofNat y3))] [.int 0, .ref a691, .int 3, .int 1, .ref a691]
          refine G.aload_i K H800 (i := 1) rfl (by decide) rfl D99_1_207 ?_
          refine G.iadd K D99_1_208 ?_
          change G k n0 _ h800 _ _ 209 [.val (.ref a), .val (.ref fa), .val (.ref sa), .val (.ref ta), .val (.int 4), .val (.ref ca), .val (.ref b689), .val (.int 0), .val (.ref a691), .val (.ref a693), .val (.int 3), .val (.int 1), .val (.int (Int32.ofNat y3))] [.int 3, .int 1, .ref a691]
          refine G.astore_i K H800 (i := 1) rfl (by decide) (Nat.le_of_ble_eq_true rfl) D99_1_209 ?_
          intro h803 H803
          change Hp n0 h803 ((a693, Ia Z [(sF ke y0), (tF ke y0), (sF ke y2), (tF ke y2), (sF ke y3), (tF ke y3), 0, 0]) :: (a691, Ia Z [0, 3]) :: (b689, Ia Z [Int32.ofNat y0, Int32.ofNat y1, Int32.ofNat y2, Int32.ofNat y3]) :: (fa, Ia Z (lst 4 (fun _ => 0))) :: (sa, Ia Z (lst 4 (sF ke))) :: (ta, Ia Z (lst 4 (tF ke))) :: (a683, Xa Z [0, 1, 2]) :: (a, Ob Z "com/example/rankwise/rankwise/store/TripleIndex" NST [.ref a683, .null, .null]) :: (ca, Xa Z [0, 1, 2]) :: σ) at H803
          refine G.iinc K D99_1_210 1 rfl rfl ([.val (.ref a), .val (.ref fa), .val (.ref sa), .val (.ref ta), .val (.int 4), .val (.ref ca), .val (.ref b689), .val (.int 0), .val (.ref a691), .val (.ref a693), .val (.int 3), .val (.int (1 + 1)), .val (.int (Int32.ofNat y3))]) rfl ?_
          change G k n0 _ h803 _ _ 213 [.val (.ref a), .val (.ref fa), .val (.ref sa), .val (.ref ta), .val (.int 4), .val (.ref ca), .val (.ref b689), .val (.int 0), .val (.ref a691), .val (.ref a693), .val (.int 3), .val (.int 2), .val (.int (Int32.ofNat y3))] []
          refine G.goto K D99_1_213 ?_
          refine G.iload K D99_1_187 rfl ?_
          refine G.aload K D99_1_189 rfl rfl ?_
          refine G.alen K H803 (i := 1) rfl D99_1_191 2 rfl ?_
          refine G.icmp_ge K D99_1_192 (fun _ => ?_) (fun q => absurd q (by decide))
          refine G.aloadN K D99_1_216 rfl rfl ?_
          refine G.aload K D99_1_217 rfl rfl ?_
          refine G.putF K (host := "") (Or.inl (wd hw 24 rfl)) (cf_NST hw) (Or.inr ⟨(wd hw 25 rfl), rfl, rfl⟩) (wd hw 2 rfl) H803 (i := 7) rfl (j := 1) rfl rfl (ty := (.array .int)) (by decide) rfl rfl D99_1_219 ?_
          intro h805 H805
          change Hp n0 h805 ((a693, Ia Z [(sF ke y0), (tF ke y0), (sF ke y2), (tF ke y2), (sF ke y3), (tF ke y3), 0, 0]) :: (a691, Ia Z [0, 3]) :: (b689, Ia Z [Int32.ofNat y0, Int32.ofNat y1, Int32.ofNat y2, Int32.ofNat y3]) :: (fa, Ia Z (lst 4 (fun _ => 0))) :: (sa, Ia Z (lst 4 (sF ke))) :: (ta, Ia Z (lst 4 (tF ke))) :: (a683, Xa Z [0, 1, 2]) :: (a, Ob Z "com/example/rankwise/rankwise/store/TripleIndex" NST [.ref a683, .ref a691, .null]) :: (ca, Xa Z [0, 1, 2]) :: σ) at H805
          refine G.aloadN K D99_1_222 rfl rfl ?_
          refine G.iload K D99_1_223 rfl ?_
          refine G.iload K D99_1_225 rfl ?_
          refine G.icmp_ne K D99_1_227 (fun _ => ?_) (fun q => absurd q (by decide))
          refine G.aload K D99_1_235 rfl rfl ?_
          refine G.iconst K D99_1_237 2 rfl ?_
          refine G.iload K D99_1_238 rfl ?_
          refine G.imul K D99_1_240 ?_
          change G k n0 _ h805 _ _ 241 [.val (.ref a), .val (.ref fa), .val (.ref sa), .val (.ref ta), .val (.int 4), .val (.ref ca), .val (.ref b689), .val (.int 0), .val (.ref a691), .val (.ref a693), .val (.int 3), .val (.int 2), .val (.int (Int32.ofNat y3))] [.int 6, .ref a693, .ref a]
          refine G.callS K hl (wd hw 58 rfl) (wd hw 59 rfl) (wd hw 60 rfl) (wd hw 61 rfl) (by decide) pd_3 (ct_copy l Z a0 hw n0 h805 a693 6 [(sF ke y0), (tF ke y0), (sF ke y2), (tF ke y2), (sF ke y3), (tF ke y3), 0, 0] ((a691, Ia Z [0, 3]) :: (b689, Ia Z [Int32.ofNat y0, Int32.ofNat y1, Int32.ofNat y2, Int32.ofNat y3]) :: (fa, Ia Z (lst 4 (fun _ => 0))) :: (sa, Ia Z (lst 4 (sF ke))) :: (ta, Ia Z (lst 4 (tF ke))) :: (a683, Xa Z [0, 1, 2]) :: (a, Ob Z "com/example/rankwise/rankwise/store/TripleIndex" NST [.ref a683, .ref a691, .null]) :: (ca, Xa Z [0, 1, 2]) :: σ) (Nat.le_of_ble_eq_true rfl) (Nat.le_of_ble_eq_true rfl) H805) 1 rfl (by decide) (by decide) (by decide) (by decide) rfl rfl [.int 6, .ref a693] rfl D99_1_241 ?_
          rintro _ h807 ⟨b807, rfl, H807⟩
          change Hp n0 h807 ((b807, Ia Z [(sF ke y0), (tF ke y0), (sF ke y2), (tF ke y2), (sF ke y3), (tF ke y3)]) :: (a693, Ia Z [(sF ke y0), (tF ke y0), (sF ke y2), (tF ke y2), (sF ke y3), (tF ke y3), 0, 0]) :: (a691, Ia Z [0, 3]) :: (b689, Ia Z [Int32.ofNat y0, Int32.ofNat y1, Int32.ofNat y2, Int32.ofNat y3]) :: (fa, Ia Z (lst 4 (fun _ => 0))) :: (sa, Ia Z (lst 4 (sF ke))) :: (ta, Ia Z (lst 4 (tF ke))) :: (a683, Xa Z [0, 1, 2]) :: (a, Ob Z "com/example/rankwise/rankwise/store/TripleIndex" NST [.ref a683, .ref a691, .null]) :: (ca, Xa Z [0, 1, 2]) :: σ) at H807
          change G k n0 _ h807 _ _ 244 [.val (.ref a), .val (.ref fa), .val (.ref sa), .val (.ref ta), .val (.int 4), .val (.ref ca), .val (.ref b689), .val (.int 0), .val (.ref a691), .val (.ref a693), .val (.int 3), .val (.int 2), .val (.int (Int32.ofNat y3))] [.ref b807, .ref a]
          refine G.putF K (host := "") (Or.inl (wd hw 26 rfl)) (cf_NST hw) (Or.inr ⟨(wd hw 27 rfl), rfl, rfl⟩) (wd hw 2 rfl) H807 (i := 8) rfl (j := 2) rfl rfl (ty := (.array .int)) (by decide) rfl rfl D99_1_244 ?_
          intro h808 H808
          change Hp n0 h808 ((b807, Ia Z [(sF ke y0), (tF ke y0), (sF ke y2), (tF ke y2), (sF ke y3), (tF ke y3)]) :: (a693, Ia Z [(sF ke y0), (tF ke y0), (sF ke y2), (tF ke y2), (sF ke y3), (tF ke y3), 0, 0]) :: (a691, Ia Z [0, 3]) :: (b689, Ia Z [Int32.ofNat y0, Int32.ofNat y1, Int32.ofNat y2, Int32.ofNat y3]) :: (fa, Ia Z (lst 4 (fun _ => 0))) :: (sa, Ia Z (lst 4 (sF ke))) :: (ta, Ia Z (lst 4 (tF ke))) :: (a683, Xa Z [0, 1, 2]) :: (a, Ob Z "com/example/rankwise/rankwise/store/TripleIndex" NST [.ref a683, .ref a691, .ref b807]) :: (ca, Xa Z [0, 1, 2]) :: σ) at H808
          refine G.ret_void K D99_1_247 ?_
          have H809 : Hp n0 h808 ((ta, Ia Z (lst 4 (tF ke))) :: (b807, Ia Z [(sF ke y0), (tF ke y0), (sF ke y2), (tF ke y2), (sF ke y3), (tF ke y3)]) :: (a693, Ia Z [(sF ke y0), (tF ke y0), (sF ke y2), (tF ke y2), (sF ke y3), (tF ke y3), 0, 0]) :: (a691, Ia Z [0, 3]) :: (b689, Ia Z [Int32.ofNat y0, Int32.ofNat y1, Int32.ofNat y2, Int32.ofNat y3]) :: (fa, Ia Z (lst 4 (fun _ => 0))) :: (sa, Ia Z (lst 4 (sF ke))) :: (a683, Xa Z [0, 1, 2]) :: (a, Ob Z "com/example/rankwise/rankwise/store/TripleIndex" NST [.ref a683, .ref a691, .ref b807]) :: (ca, Xa Z [0, 1, 2]) :: σ) := H808.pull 6 rfl
          have H810 : Hp n0 h808 ((sa, Ia Z (lst 4 (sF ke))) :: (ta, Ia Z (lst 4 (tF ke))) :: (b807, Ia Z [(sF ke y0), (tF ke y0), (sF ke y2), (tF ke y2), (sF ke y3), (tF ke y3)]) :: (a693, Ia Z [(sF ke y0), (tF ke y0), (sF ke y2), (tF ke y2), (sF ke y3), (tF ke y3), 0, 0]) :: (a691, Ia Z [0, 3]) :: (b689, Ia Z [Int32.ofNat y0, Int32.ofNat y1, Int32.ofNat y2, Int32.ofNat y3]) :: (fa, Ia Z (lst 4 (fun _ => 0))) :: (a683, Xa Z [0, 1, 2]) :: (a, Ob Z "com/example/rankwise/rankwise/store/TripleIndex" NST [.ref a683, .ref a691, .ref b807]) :: (ca, Xa Z [0, 1, 2]) :: σ) := H809.pull 6 rfl
          have H811 : Hp n0 h808 ((fa, Ia Z (lst 4 (fun _ => 0))) :: (sa, Ia Z (lst 4 (sF ke))) :: (ta, Ia Z (lst 4 (tF ke))) :: (b807, Ia Z [(sF ke y0), (tF ke y0), (sF ke y2), (tF ke y2), (sF ke y3), (tF ke y3)]) :: (a693, Ia Z [(sF ke y0), (tF ke y0), (sF ke y2), (tF ke y2), (sF ke y3), (tF ke y3), 0, 0]) :: (a691, Ia Z [0, 3]) :: (b689, Ia Z [Int32.ofNat y0, Int32.ofNat y1, Int32.ofNat y2, Int32.ofNat y3]) :: (a683, Xa Z [0, 1, 2]) :: (a, Ob Z "com/example/rankwise/rankwise/store/TripleIndex" NST [.ref a683, .ref a691, .ref b807]) :: (ca, Xa Z [0, 1, 2]) :: σ) := H810.pull 6 rfl
          have H812 : Hp n0 h808 ((b807, Ia Z [(sF ke y0), (tF ke y0), (sF ke y2), (tF ke y2), (sF ke y3), (tF ke y3)]) :: (fa, Ia Z (lst 4 (fun _ => 0))) :: (sa, Ia Z (lst 4 (sF ke))) :: (ta, Ia Z (lst 4 (tF ke))) :: (a693, Ia Z [(sF ke y0), (tF ke y0), (sF ke y2), (tF ke y2), (sF ke y3), (tF ke y3), 0, 0]) :: (a691, Ia Z [0, 3]) :: (b689, Ia Z [Int32.ofNat y0, Int32.ofNat y1, Int32.ofNat y2, Int32.ofNat y3]) :: (a683, Xa Z [0, 1, 2]) :: (a, Ob Z "com/example/rankwise/rankwise/store/TripleIndex" NST [.ref a683, .ref a691, .ref b807]) :: (ca, Xa Z [0, 1, 2]) :: σ) := H811.pull 3 rfl
          have H813 : Hp n0 h808 ((a, Ob Z "com/example/rankwise/rankwise/store/TripleIndex" NST [.ref a683, .ref a691, .ref b807]) :: (b807, Ia Z [(sF ke y0), (tF ke y0), (sF ke y2), (tF ke y2), (sF ke y3), (tF ke y3)]) :: (fa, Ia Z (lst 4 (fun _ => 0))) :: (sa, Ia Z (lst 4 (sF ke))) :: (ta, Ia Z (lst 4 (tF ke))) :: (a693, Ia Z [(sF ke y0), (tF ke y0), (sF ke y2), (tF ke y2), (sF ke y3), (tF ke y3), 0, 0]) :: (a691, Ia Z [0, 3]) :: (b689, Ia Z [Int32.ofNat y0, Int32.ofNat y1, Int32.ofNat y2, Int32.ofNat y3]) :: (a683, Xa Z [0, 1, 2]) :: (ca, Xa Z [0, 1, 2]) :: σ) := H812.pull 8 rfl
          have H814 : Hp n0 h808 ((a, Ob Z "com/example/rankwise/rankwise/store/TripleIndex" NST [.ref a683, .ref a691, .ref b807]) :: (b807, Ia Z [(sF ke y0), (tF ke y0), (sF ke y2), (tF ke y2), (sF ke y3), (tF ke y3)]) :: (fa, Ia Z (lst 4 (fun _ => 0))) :: (sa, Ia Z (lst 4 (sF ke))) :: (ta, Ia Z (lst 4 (tF ke))) :: σ) := H813.sub (List.Sublist.cons_cons _ (List.Sublist.cons_cons _ (List.Sublist.cons_cons _ (List.Sublist.cons_cons _ (List.Sublist.cons_cons _ (List.Sublist.cons _ (List.Sublist.cons _ (List.Sublist.cons _ (List.Sublist.cons _ (List.Sublist.cons _ (List.Sublist.refl _)))))))))))
          refine ⟨_, _, _, 3, fun i => [y0, y2, y3].getD i 0, rfl, ⟨by decide, ?_, ?_⟩, H814⟩
          · intro i hi
            rcases (by omega : i = 0 ∨ i = 1) with rfl | rfl
            · show ke y0 < ke y2; omega
            · show ke y2 < ke y3; omega
          · intro f
            show 0 + f (ke y0) + f (ke y2) + f (ke y3) = D4 f (ke 0) (ke 1) (ke 2) (ke 3)
            rw [← pm4 ke f f0 f1 f2 f3 f4 f5 f6 f7 f8 f9]
            unfold D4
            rw [if_pos (show ke y1 = ke y0 by omega), if_neg (show ¬ (ke y2 = ke y0 ∨ ke y2 = ke y1) by omega), if_neg (show ¬ (ke y3 = ke y0 ∨ ke y3 = ke y1 ∨ ke y3 = ke y2) by omega)]; omega
        refine G.iload K D99_1_82 rfl ?_
        refine G.if_le K D99_1_84 (fun q => absurd q (by decide)) (fun _ => ?_)
        refine G.aloadN K D99_1_87 rfl rfl ?_
        refine G.iload K D99_1_88 rfl ?_
        refine G.aload_i K H795 (i := 3) rfl (own_nneg (by omega)) (by rw [own_nidx (by omega)]; exact lst_get _ (by omega)) D99_1_90 ?_
        refine G.aloadN K D99_1_91 rfl rfl ?_
        refine G.aload K D99_1_92 rfl rfl ?_
        refine G.iload K D99_1_94 rfl ?_
        refine G.iconst K D99_1_96 1 rfl ?_
        refine G.isub K D99_1_97 ?_
        change G k n0 _ h795 _ _ 98 [.val (.ref a), .val (.ref fa), .val (.ref sa), .val (.ref ta), .val (.int 4), .val (.ref ca), .val (.ref b689), .val (.int 0), .val (.ref a691), .val (.ref a693), .val (.int 2), .val (.int 3), .val (.int (Int32.ofNat y3))] [.int 2, .ref b689, .ref fa, .int 0]
        refine G.aload_i K H795 (i := 2) rfl (by decide) rfl D99_1_98 ?_
        refine G.aload_i K H795 (i := 3) rfl (own_nneg (by omega)) (by rw [own_nidx (by omega)]; exact lst_get _ (by omega)) D99_1_99 ?_
        refine G.icmp_ne K D99_1_100 (fun q => absurd q (by decide)) (fun _ => ?_)
        refine G.aloadN K D99_1_103 rfl rfl ?_
        refine G.iload K D99_1_104 rfl ?_
        refine G.aload_i K H795 (i := 4) rfl (own_nneg (by omega)) (by rw [own_nidx (by omega)]; exact lst_get _ (by omega)) D99_1_106 ?_
        refine G.aload K D99_1_107 rfl rfl ?_
        refine G.iconst K D99_1_109 2 rfl ?_
        refine G.iload K D99_1_110 rfl ?_
        refine G.imul K D99_1_112 ?_
        change G k n0 _ h795 _ _ 113 [.val (.ref a), .val (.ref fa), .val (.ref sa), .val (.ref ta), .val (.int 4), .val (.ref ca), .val (.ref b689), .val (.int 0), .val (.ref a691), .val (.ref a693), .val (.int 2), .val (.int 3), .val (.int (Int32.ofNat y3))] [.int 4, .ref a693, .int (sF ke y3)]
        refine G.iconst K D99_1_113 2 rfl ?_
        refine G.isub K D99_1_114 ?_
        change G k n0 _ h795 _ _ 115 [.val (.ref a), .val (.ref fa), .val (.ref sa), .val (.ref ta), .val (.int 4), .val (.ref ca), .val (.ref b689), .val (.int 0), .val (.ref a691), .val (.ref a693), .val (.int 2), .val (.int 3), .val (.int (Int32.ofNat y3))] [.int 2, .ref a693, .int (sF ke y3)]
        refine G.aload_i K H795 (i := 0) rfl (by decide) rfl D99_1_115 ?_
        refine G.icmp_ne K D99_1_116 (fun q817 => ?_) (fun q817 => ?_)
        · exact T797 (key_ns q817)
        · refine G.aloadN K D99_1_119 rfl rfl ?_
          refine G.iload K D99_1_120 rfl ?_
          refine G.aload_i K H795 (i := 5) rfl (own_nneg (by omega)) (by rw [own_nidx (by omega)]; exact lst_get _ (by omega)) D99_1_122 ?_
          refine G.aload K D99_1_123 rfl rfl ?_
          refine G.iconst K D99_1_125 2 rfl ?_
          refine G.iload K D99_1_126 rfl ?_
          refine G.imul K D99_1_128 ?_
          change G k n0 _ h795 _ _ 129 [.val (.ref a), .val (.ref fa), .val (.ref sa), .val (.ref ta), .val (.int 4), .val (.ref ca), .val (.ref b689), .val (.int 0), .val (.ref a691), .val (.ref a693), .val (.int 2), .val (.int 3), .val (.int (Int32.ofNat y3))] [.int 4, .ref a693, .int (tF ke y3)]
          refine G.iconst K D99_1_129 1 rfl ?_
          refine G.isub K D99_1_130 ?_
          change G k n0 _ h795 _ _ 131 [.val (.ref a), .val (.ref fa), .val (.ref sa), .val (.ref ta), .val (.int 4), .val (.ref ca), .val (.ref b689), .val (.int 0), .val (.ref a691), .val (.ref a693), .val (.int 2), .val (.int 3), .val (.int (Int32.ofNat y3))] [.int 3, .ref a693, .int (tF ke y3)]
          refine G.aload_i K H795 (i := 0) rfl (by decide) rfl D99_1_131 ?_
          refine G.icmp_ne K D99_1_132 (fun q818 => ?_) (fun q818 => ?_)
          · exact T797 (key_nt q818)
          · have eq3 : ke y3 = ke y2 := key_eq hK q817 q818
            refine G.goto K D99_1_135 ?_
            refine G.iinc K D99_1_178 1 rfl rfl ([.val (.ref a), .val (.ref fa), .val (.ref sa), .val (.ref ta), .val (.int 4), .val (.ref ca), .val (.ref b689), .val (.int 0), .val (.ref a691), .val (.ref a693), .val (.int 2), .val (.int (3 + 1)), .val (.int (Int32.ofNat y3))]) rfl ?_
            change G k n0 _ h795 _ _ 181 [.val (.ref a), .val (.ref fa), .val (.ref sa), .val (.ref ta), .val (.int 4), .val (.ref ca), .val (.ref b689), .val (.int 0), .val (.ref a691), .val (.ref a693), .val (.int 2), .val (.int 4), .val (.int (Int32.ofNat y3))] []
            refine G.goto K D99_1_181 ?_
            refine G.iload K D99_1_68 rfl ?_
            refine G.iload K D99_1_70 rfl ?_
            refine G.icmp_ge K D99_1_72 (fun _ => ?_) (fun q => absurd q (by decide))
            refine G.iconst K D99_1_184 1 rfl ?_
            refine G.istore K D99_1_185 ([.val (.ref a), .val (.ref fa), .val (.ref sa), .val (.ref ta), .val (.int 4), .val (.ref ca), .val (.ref b689), .val (.int 0), .val (.ref a691), .val (.ref a693), .val (.int 2), .val (.int 1), .val (.int (Int32.ofNat y3))]) rfl ?_
            refine G.iload K D99_1_187 rfl ?_
            refine G.aload K D99_1_189 rfl rfl ?_
            refine G.alen K H795 (i := 1) rfl D99_1_191 2 rfl ?_
            refine G.icmp_ge K D99_1_192 (fun q => absurd q (by decide)) (fun _ => ?_)
            refine G.aload K D99_1_195 rfl rfl ?_
            refine G.iload K D99_1_197 rfl ?_
            refine G.dup2 K D99_1_199 rfl rfl ?_
            refine G.aload_i K H795 (i := 1) rfl (by decide) rfl D99_1_200 ?_
            refine G.aload K D99_1_201 rfl rfl ?_
            refine G.iload K D99_1_203 rfl ?_
            refine G.iconst K D99_1_205 1 rfl ?_
            refine G.isub K D99_1_206 ?_
            change G k n0 _ h795 _ _ 207 [.val (.ref a), .val (.ref fa), .val (.ref sa), .val (.ref ta), .val (.int 4), .val (.ref ca), .val (.ref b689), .val (.int 0), .val (.ref a691), .val (.ref a693), .val (.int 2), .val (.int 1), .val (.int (Int32.ofNat y3))] [.int 0, .ref a691, .int 2, .int 1, .ref a691]
            refine G.aload_i K H795 (i := 1) rfl (by decide) rfl D99_1_207 ?_
            refine G.iadd K D99_1_208 ?_
            change G k n0 _ h795 _ _ 209 [.val (.ref a), .val (.ref fa), .val (.ref sa), .val (.ref ta), .val (.int 4), .val (.ref ca), .val (.ref b689), .val (.int 0), .val (.ref a691), .val (.ref a693), .val (.int 2), .val (.int 1), .val (.int (Int32.ofNat y3))] [.int 2, .int 1, .ref a691]
            refine G.astore_i K H795 (i := 1) rfl (by decide) (Nat.le_of_ble_eq_true rfl) D99_1_209 ?_
            intro h821 H821
            change Hp n0 h821 ((a693, Ia Z [(sF ke y0), (tF ke y0), (sF ke y2), (tF ke y2), 0, 0, 0, 0]) :: (a691, Ia Z [0, 2]) :: (b689, Ia Z [Int32.ofNat y0, Int32.ofNat y1, Int32.ofNat y2, Int32.ofNat y3]) :: (fa, Ia Z (lst 4 (fun _ => 0))) :: (sa, Ia Z (lst 4 (sF ke))) :: (ta, Ia Z (lst 4 (tF ke))) :: (a683, Xa Z [0, 1, 2]) :: (a, Ob Z "com/example/rankwise/rankwise/store/TripleIndex" NST [.ref a683, .null, .null]) :: (ca, Xa Z [0, 1, 2]) :: σ) at H821
            refine G.iinc K D99_1_210 1 rfl rfl ([.val (.ref a), .val (.ref fa), .val (.ref sa), .val (.ref ta), .val (.int 4), .val (.ref ca), .val (.ref b689), .val (.int 0), .val (.ref a691), .val (.ref a693), .val (.int 2), .val (.int (1 + 1)), .val (.int (Int32.ofNat y3))]) rfl ?_
            change G k n0 _ h821 _ _ 213 [.val (.ref a), .val (.ref fa), .val (.ref sa), .val (.ref ta), .val (.int 4), .val (.ref ca), .val (.ref b689), .val (.int 0), .val (.ref a691), .val (.ref a693), .val (.int 2), .val (.int 2), .val (.int (Int32.ofNat y3))] []
            refine G.goto K D99_1_213 ?_
            refine G.iload K D99_1_187 rfl ?_
            refine G.aload K D99_1_189 rfl rfl ?_
            refine G.alen K H821 (i := 1) rfl D99_1_191 2 rfl ?_
            refine G.icmp_ge K D99_1_192 (fun _ => ?_) (fun q => absurd q (by decide))
            refine G.aloadN K D99_1_216 rfl rfl ?_
            refine G.aload K D99_1_217 rfl rfl ?_
            refine G.putF K (host := "") (Or.inl (wd hw 24 rfl)) (cf_NST hw) (Or.inr ⟨(wd hw 25 rfl), rfl, rfl⟩) (wd hw 2 rfl) H821 (i := 7) rfl (j := 1) rfl rfl (ty := (.array .int)) (by decide) rfl rfl D99_1_219 ?_
            intro h823 H823
            change Hp n0 h823 ((a693, Ia Z [(sF ke y0), (tF ke y0), (sF ke y2), (tF ke y2), 0, 0, 0, 0]) :: (a691, Ia Z [0, 2]) :: (b689, Ia Z [Int32.ofNat y0, Int32.ofNat y1, Int32.ofNat y2, Int32.ofNat y3]) :: (fa, Ia Z (lst 4 (fun _ => 0))) :: (sa, Ia Z (lst 4 (sF ke))) :: (ta, Ia Z (lst 4 (tF ke))) :: (a683, Xa Z [0, 1, 2]) :: (a, Ob Z "com/example/rankwise/rankwise/store/TripleIndex" NST [.ref a683, .ref a691, .null]) :: (ca, Xa Z [0, 1, 2]) :: σ) at H823
            refine G.aloadN K D99_1_222 rfl rfl ?_
            refine G.iload K D99_1_223 rfl ?_
            refine G.iload K D99_1_225 rfl ?_
            refine G.icmp_ne K D99_1_227 (fun _ => ?_) (fun q => absurd q (by decide))
            refine G.aload K D99_1_235 rfl rfl ?_
            refine G.iconst K D99_1_237 2 rfl ?_
            refine G.iload K D99_1_238 rfl ?_
            refine G.imul K D99_1_240 ?_
            change G k n0 _ h823 _ _ 241 [.val (.ref a), .val (.ref fa), .val (.ref sa), .val (.ref ta), .val (.int 4), .val (.ref ca), .val (.ref b689), .val (.int 0), .val (.ref a691), .val (.ref a693), .val (.int 2), .val (.int 2), .val (.int (Int32.ofNat y3))] [.int 4, .ref a693, .ref a]
            refine G.callS K hl (wd hw 58 rfl) (wd hw 59 rfl) (wd hw 60 rfl) (wd hw 61 rfl) (by decide) pd_3 (ct_copy l Z a0 hw n0 h823 a693 4 [(sF ke y0), (tF ke y0), (sF ke y2), (tF ke y2), 0, 0, 0, 0] ((a691, Ia Z [0, 2]) :: (b689, Ia Z [Int32.ofNat y0, Int32.ofNat y1, Int32.ofNat y2, Int32.ofNat y3]) :: (fa, Ia Z (lst 4 (fun _ => 0))) :: (sa, Ia Z (lst 4 (sF ke))) :: (ta, Ia Z (lst 4 (tF ke))) :: (a683, Xa Z [0, 1, 2]) :: (a, Ob Z "com/example/rankwise/rankwise/store/TripleIndex" NST [.ref a683, .ref a691, .null]) :: (ca, Xa Z [0, 1, 2]) :: σ) (Nat.le_of_ble_eq_true rfl) (Nat.le_of_ble_eq_true rfl) H823) 1 rfl (by decide) (by decide) (by decide) (by decide) rfl rfl [.int 4, .ref a693] rfl D99_1_241 ?_
            rintro _ h825 ⟨b825, rfl, H825⟩
            change Hp n0 h825 ((b825, Ia Z [(sF ke y0), (tF ke y0), (sF ke y2), (tF ke y2)]) :: (a693, Ia Z [(sF ke y0), (tF ke y0), (sF ke y2), (tF ke y2), 0, 0, 0, 0]) :: (a691, Ia Z [0, 2]) :: (b689, Ia Z [Int32.ofNat y0, Int32.ofNat y1, Int32.ofNat y2, Int32.ofNat y3]) :: (fa, Ia Z (lst 4 (fun _ => 0))) :: (sa, Ia Z (lst 4 (sF ke))) :: (ta, Ia Z (lst 4 (tF ke))) :: (a683, Xa Z [0, 1, 2]) :: (a, Ob Z "com/example/rankwise/rankwise/store/TripleIndex" NST [.ref a683, .ref a691, .null]) :: (ca, Xa Z [0, 1, 2]) :: σ) at H825
            change G k n0 _ h825 _ _ 244 [.val (.ref a), .val (.ref fa), .val (.ref sa), .val (.ref ta), .val (.int 4), .val (.ref ca), .val (.ref b689), .val (.int 0), .val (.ref a691), .val (.ref a693), .val (.int 2), .val (.int 2), .val (.int (Int32.ofNat y3))] [.ref b825, .ref a]
            refine G.putF K (host := "") (Or.inl (wd hw 26 rfl)) (cf_NST hw) (Or.inr ⟨(wd hw 27 rfl), rfl, rfl⟩) (wd hw 2 rfl) H825 (i := 8) rfl (j := 2) rfl rfl (ty := (.array .int)) (by decide) rfl rfl D99_1_244 ?_
            intro h826 H826
            change Hp n0 h826 ((b825, Ia Z [(sF ke y0), (tF ke y0), (sF ke y2), (tF ke y2)]) :: (a693, Ia Z [(sF ke y0), (tF ke y0), (sF ke y2), (tF ke y2), 0, 0, 0, 0]) :: (a691, Ia Z [0, 2]) :: (b689, Ia Z [Int32.ofNat y0, Int32.ofNat y1, Int32.ofNat y2, Int32.ofNat y3]) :: (fa, Ia Z (lst 4 (fun _ => 0))) :: (sa, Ia Z (lst 4 (sF ke))) :: (ta, Ia Z (lst 4 (tF ke))) :: (a683, Xa Z [0, 1, 2]) :: (a, Ob Z "com/example/rankwise/rankwise/store/TripleIndex" NST [.ref a683, .ref a691, .ref b825]) :: (ca, Xa Z [0, 1, 2]) :: σ) at H826
            refine G.ret_void K D99_1_247 ?_
            have H827 : Hp n0 h826 ((ta, Ia Z (lst 4 (tF ke))) :: (b825, Ia Z [(sF ke y0), (tF ke y0), (sF ke y2), (tF ke y2)]) :: (a693, Ia Z [(sF ke y0), (tF ke y0), (sF ke y2), (tF ke y2), 0, 0, 0, 0]) :: (a691, Ia Z [0, 2]) :: (b689, Ia Z [Int32.ofNat y0, Int32.ofNat y1, Int32.ofNat y2, Int32.ofNat y3]) :: (fa, Ia Z (lst 4 (fun _ => 0))) :: (sa, Ia Z (lst 4 (sF ke))) :: (a683, Xa Z [0, 1, 2]) :: (a, Ob Z "com/example/rankwise/rankwise/store/TripleIndex" NST [.ref a683, .ref a691, .ref b825]) :: (ca, Xa Z [0, 1, 2]) :: σ) := H826.pull 6 rfl
            have H828 : Hp n0 h826 ((sa, Ia Z (lst 4 (sF ke))) :: (ta, Ia Z (lst 4 (tF ke))) :: (b825, Ia Z [(sF ke y0), (tF ke y0), (sF ke y2), (tF ke y2)]) :: (a693, Ia Z [(sF ke y0), (tF ke y0), (sF ke y2), (tF ke y2), 0, 0, 0, 0]) :: (a691, Ia Z [0, 2]) :: (b689, Ia Z [Int32.ofNat y0, Int32.ofNat y1, Int32.ofNat y2, Int32.ofNat y3]) :: (fa, Ia Z (lst 4 (fun _ => 0))) :: (a683, Xa Z [0, 1, 2]) :: (a, Ob Z "com/example/rankwise/rankwise/store/TripleIndex" NST [.ref a683, .ref a691, .ref b825]) :: (ca, Xa Z [0, 1, 2]) :: σ) := H827.pull 6 rfl
            have H829 : Hp n0 h826 ((fa, Ia Z (lst 4 (fun _ => 0))) :: (sa, Ia Z (lst 4 (sF ke))) :: (ta, Ia Z (lst 4 (tF ke))) :: (b825, Ia Z [(sF ke y0), (tF ke y0), (sF ke y2), (tF ke y2)]) :: (a693, Ia Z [(sF ke y0), (tF ke y0), (sF ke y2), (tF ke y2), 0, 0, 0, 0]) :: (a691, Ia Z [0, 2]) :: (b689, Ia Z [Int32.ofNat y0, Int32.ofNat y1, Int32.ofNat y2, Int32.ofNat y3]) :: (a683, Xa Z [0, 1, 2]) :: (a, Ob Z "com/example/rankwise/rankwise/store/TripleIndex" NST [.ref a683, .ref a691, .ref b825]) :: (ca, Xa Z [0, 1, 2]) :: σ) := H828.pull 6 rfl
            have H830 : Hp n0 h826 ((b825, Ia Z [(sF ke y0), (tF ke y0), (sF ke y2), (tF ke y2)]) :: (fa, Ia Z (lst 4 (fun _ => 0))) :: (sa, Ia Z (lst 4 (sF ke))) :: (ta, Ia Z (lst 4 (tF ke))) :: (a693, Ia Z [(sF ke y0), (tF ke y0), (sF ke y2), (tF ke y2), 0, 0, 0, 0]) :: (a691, Ia Z [0, 2]) :: (b689, Ia Z [Int32.ofNat y0, Int32.ofNat y1, Int32.ofNat y2, Int32.ofNat y3]) :: (a683, Xa Z [0, 1, 2]) :: (a, Ob Z "com/example/rankwise/rankwise/store/TripleIndex" NST [.ref a683, .ref a691, .ref b825]) :: (ca, Xa Z [0, 1, 2]) :: σ) := H829.pull 3 rfl
            have H831 : Hp n0 h826 ((a, Ob Z "com/example/rankwise/rankwise/store/TripleIndex" NST [.ref a683, .ref a691, .ref b825]) :: (b825, Ia Z [(sF ke y0), (tF ke y0), (sF ke y2), (tF ke y2)]) :: (fa, Ia Z (lst 4 (fun _ => 0))) :: (sa, Ia Z (lst 4 (sF ke))) :: (ta, Ia Z (lst 4 (tF ke))) :: (a693, Ia Z [(sF ke y0), (tF ke y0), (sF ke y2), (tF ke y2), 0, 0, 0, 0]) :: (a691, Ia Z [0, 2]) :: (b689, Ia Z [Int32.ofNat y0, Int32.ofNat y1, Int32.ofNat y2, Int32.ofNat y3]) :: (a683, Xa Z [0, 1, 2]) :: (ca, Xa Z [0, 1, 2]) :: σ) := H830.pull 8 rfl
            have H832 : Hp n0 h826 ((a, Ob Z "com/example/rankwise/rankwise/store/TripleIndex" NST [.ref a683, .ref a691, .ref b825]) :: (b825, Ia Z [(sF ke y0), (tF ke y0), (sF ke y2), (tF ke y2)]) :: (fa, Ia Z (lst 4 (fun _ => 0))) :: (sa, Ia Z (lst 4 (sF ke))) :: (ta, Ia Z (lst 4 (tF ke))) :: σ) := H831.sub (List.Sublist.cons_cons _ (List.Sublist.cons_cons _ (List.Sublist.cons_cons _ (List.Sublist.cons_cons _ (List.Sublist.cons_cons _ (List.Sublist.cons _ (List.Sublist.cons _ (List.Sublist.cons _ (List.Sublist.cons _ (List.Sublist.cons _ (List.Sublist.refl _)))))))))))
            refine ⟨_, _, _, 2, fun i => [y0, y2].getD i 0, rfl, ⟨by decide, ?_, ?_⟩, H832⟩
            · intro i hi
              rcases (by omega : i = 0) with rfl
              · show ke y0 < ke y2; omega
            · intro f
              show 0 + f (ke y0) + f (ke y2) = D4 f (ke 0) (ke 1) (ke 2) (ke 3)
              rw [← pm4 ke f f0 f1 f2 f3 f4 f5 f6 f7 f8 f9]
              unfold D4
              rw [if_pos (show ke y1 = ke y0 by omega), if_neg (show ¬ (ke y2 = ke y0 ∨ ke y2 = ke y1) by omega), if_pos (show ke y3 = ke y0 ∨ ke y3 = ke y1 ∨ ke y3 = ke y2 by omega)]; omega
      refine G.iload K D99_1_82 rfl ?_
      refine G.if_le K D99_1_84 (fun q => absurd q (by decide)) (fun _ => ?_)
      refine G.aloadN K D99_1_87 rfl rfl ?_
      refine G.iload K D99_1_88 rfl ?_
      refine G.aload_i K H699 (i := 3) rfl (own_nneg (by omega)) (by rw [own_nidx (by omega)]; exact lst_get _ (by omega)) D99_1_90 ?_
      refine G.aloadN K D99_1_91 rfl rfl ?_
      refine G.aload K D99_1_92 rfl rfl ?_
      refine G.iload K D99_1_94 rfl ?_
      refine G.iconst K D99_1_96 1 rfl ?_
      refine G.isub K D99_1_97 ?_
      change G k n0 _ h699 _ _ 98 [.val (.ref a), .val (.ref fa), .val (.ref sa), .val (.ref ta), .val (.int 4), .val (.ref ca), .val (.ref b689), .val (.int 0), .val (.ref a691), .val (.ref a693), .val (.int 1), .val (.int 2), .val (.int (Int32.ofNat y2))] [.int 1, .ref b689, .ref fa, .int 0]
      refine G.aload_i K H699 (i := 2) rfl (by decide) rfl D99_1_98 ?_
      refine G.aload_i K H699 (i := 3) rfl (own_nneg (by omega)) (by rw [own_nidx (by omega)]; exact lst_get _ (by omega)) D99_1_99 ?_
      refine G.icmp_ne K D99_1_100 (fun q => absurd q (by decide)) (fun _ => ?_)
      refine G.aloadN K D99_1_103 rfl rfl ?_
      refine G.iload K D99_1_104 rfl ?_
      refine G.aload_i K H699 (i := 4) rfl (own_nneg (by omega)) (by rw [own_nidx (by omega)]; exact lst_get _ (by omega)) D99_1_106 ?_
      refine G.aload K D99_1_107 rfl rfl ?_
      refine G.iconst K D99_1_109 2 rfl ?_
      refine G.iload K D99_1_110 rfl ?_
      refine G.imul K D99_1_112 ?_
      change G k n0 _ h699 _ _ 113 [.val (.ref a), .val (.ref fa), .val (.ref sa), .val (.ref ta), .val (.int 4), .val (.ref ca), .val (.ref b689), .val (.int 0), .val (.ref a691), .val (.ref a693), .val (.int 1), .val (.int 2), .val (.int (Int32.ofNat y2))] [.int 2, .ref a693, .int (sF ke y2)]
      refine G.iconst K D99_1_113 2 rfl ?_
      refine G.isub K D99_1_114 ?_
      change G k n0 _ h699 _ _ 115 [.val (.ref a), .val (.ref fa), .val (.ref sa), .val (.ref ta), .val (.int 4), .val (.ref ca), .val (.ref b689), .val (.int 0), .val (.ref a691), .val (.ref a693), .val (.int 1), .val (.int 2), .val (.int (Int32.ofNat y2))] [.int 0, .ref a693, .int (sF ke y2)]
      refine G.aload_i K H699 (i := 0) rfl (by decide) rfl D99_1_115 ?_
      refine G.icmp_ne K D99_1_116 (fun q835 => ?_) (fun q835 => ?_)
      · exact T792 (key_ns q835)
      · refine G.aloadN K D99_1_119 rfl rfl ?_
        refine G.iload K D99_1_120 rfl ?_
        refine G.aload_i K H699 (i := 5) rfl (own_nneg (by omega)) (by rw [own_nidx (by omega)]; exact lst_get _ (by omega)) D99_1_122 ?_
        refine G.aload K D99_1_123 rfl rfl ?_
        refine G.iconst K D99_1_125 2 rfl ?_
        refine G.iload K D99_1_126 rfl ?_
        refine G.imul K D99_1_128 ?_
        change G k n0 _ h699 _ _ 129 [.val (.ref a), .val (.ref fa), .val (.ref sa), .val (.ref ta), .val (.int 4), .val (.ref ca), .val (.ref b689), .val (.int 0), .val (.ref a691), .val (.ref a693), .val (.int 1), .val (.int 2), .val (.int (Int32.ofNat y2))] [.int 2, .ref a693, .int (tF ke y2)]
        refine G.iconst K D99_1_129 1 rfl ?_
        refine G.isub K D99_1_130 ?_
        change G k n0 _ h699 _ _ 131 [.val (.ref a), .val (.ref fa), .val (.ref sa), .val (.ref ta), .val (.int 4), .val (.ref ca), .val (.ref b689), .val (.int 0), .val (.ref a691), .val (.ref a693), .val (.int 1), .val (.int 2), .val (.int (Int32.ofNat y2))] [.int 1, .ref a693, .int (tF ke y2)]
        refine G.aload_i K H699 (i := 0) rfl (by decide) rfl D99_1_131 ?_
        refine G.icmp_ne K D99_1_132 (fun q836 => ?_) (fun q836 => ?_)
        · exact T792 (key_nt q836)
        · have eq2 : ke y2 = ke y0 := key_eq hK q835 q836
          refine G.goto K D99_1_135 ?_
          refine G.iinc K D99_1_178 1 rfl rfl ([.val (.ref a), .val (.ref fa), .val (.ref sa), .val (.ref ta), .val (.int 4), .val (.ref ca), .val (.ref b689), .val (.int 0), .val (.ref a691), .val (.ref a693), .val (.int 1), .val (.int (2 + 1)), .val (.int (Int32.ofNat y2))]) rfl ?_
          change G k n0 _ h699 _ _ 181 [.val (.ref a), .val (.ref fa), .val (.ref sa), .val (.ref ta), .val (.int 4), .val (.ref ca), .val (.ref b689), .val (.int 0), .val (.ref a691), .val (.ref a693), .val (.int 1), .val (.int 3), .val (.int (Int32.ofNat y2))] []
          refine G.goto K D99_1_181 ?_
          refine G.iload K D99_1_68 rfl ?_
          refine G.iload K D99_1_70 rfl ?_
          refine G.icmp_ge K D99_1_72 (fun q => absurd q (by decide)) (fun _ => ?_)
          refine G.aload K D99_1_75 rfl rfl ?_
          refine G.iload K D99_1_77 rfl ?_
          refine G.aload_i K H699 (i := 2) rfl (by decide) rfl D99_1_79 ?_
          refine G.istore K D99_1_80 ([.val (.ref a), .val (.ref fa), .val (.ref sa), .val (.ref ta), .val (.int 4), .val (.ref ca), .val (.ref b689), .val (.int 0), .val (.ref a691), .val (.ref a693), .val (.int 1), .val (.int 3), .val (.int (Int32.ofNat y3))]) rfl ?_
          have T838 : ¬ ke y3 = ke y0 → G k n0 (fun v h' => ∃ (b1 b2 b3 : Addr) (L : Nat) (zf : Nat → Nat), v = none ∧ DD ke zf L (fun f => D4 f (ke 0) (ke 1) (ke 2) (ke 3)) ∧ Hp n0 h' ((a, Ob Z "com/example/rankwise/rankwise/store/TripleIndex" NST [.ref b1, .ref b2, .ref b3]) :: (b3, Ia Z (lst (2 * L) (cF ke zf))) :: (fa, Ia Z (lst 4 (fun _ => 0))) :: (sa, Ia Z (lst 4 (sF ke))) :: (ta, Ia Z (lst 4 (tF ke))) :: σ)) h699 5 21 138 [.val (.ref a), .val (.ref fa), .val (.ref sa), .val (.ref ta), .val (.int 4), .val (.ref ca), .val (.ref b689), .val (.int 0), .val (.ref a691), .val (.ref a693), .val (.int 1), .val (.int 3), .val (.int (Int32.ofNat y3))] [] := by
            intro ne3
            refine G.aload K D99_1_138 rfl rfl ?_
            refine G.aloadN K D99_1_140 rfl rfl ?_
            refine G.iload K D99_1_141 rfl ?_
            refine G.aload_i K H699 (i := 3) rfl (own_nneg (by omega)) (by rw [own_nidx (by omega)]; exact lst_get _ (by omega)) D99_1_143 ?_
            refine G.iconst K D99_1_144 1 rfl ?_
            refine G.iadd K D99_1_145 ?_
            change G k n0 _ h699 _ _ 146 [.val (.ref a), .val (.ref fa), .val (.ref sa), .val (.ref ta), .val (.int 4), .val (.ref ca), .val (.ref b689), .val (.int 0), .val (.ref a691), .val (.ref a693), .val (.int 1), .val (.int 3), .val (.int (Int32.ofNat y3))] [.int 1, .ref a691]
            refine G.dup2 K D99_1_146 rfl rfl ?_
            refine G.aload_i K H699 (i := 1) rfl (by decide) rfl D99_1_147 ?_
            refine G.iconst K D99_1_148 1 rfl ?_
            refine G.iadd K D99_1_149 ?_
            change G k n0 _ h699 _ _ 150 [.val (.ref a), .val (.ref fa), .val (.ref sa), .val (.ref ta), .val (.int 4), .val (.ref ca), .val (.ref b689), .val (.int 0), .val (.ref a691), .val (.ref a693), .val (.int 1), .val (.int 3), .val (.int (Int32.ofNat y3))] [.int 2, .int 1, .ref a691]
            refine G.astore_i K H699 (i := 1) rfl (by decide) (Nat.le_of_ble_eq_true rfl) D99_1_150 ?_
            intro h839 H839
            change Hp n0 h839 ((a693, Ia Z [(sF ke y0), (tF ke y0), 0, 0, 0, 0, 0, 0]) :: (a691, Ia Z [0, 2]) :: (b689, Ia Z [Int32.ofNat y0, Int32.ofNat y1, Int32.ofNat y2, Int32.ofNat y3]) :: (fa, Ia Z (lst 4 (fun _ => 0))) :: (sa, Ia Z (lst 4 (sF ke))) :: (ta, Ia Z (lst 4 (tF ke))) :: (a683, Xa Z [0, 1, 2]) :: (a, Ob Z "com/example/rankwise/rankwise/store/TripleIndex" NST [.ref a683, .null, .null]) :: (ca, Xa Z [0, 1, 2]) :: σ) at H839
            refine G.aload K D99_1_151 rfl rfl ?_
            refine G.iconst K D99_1_153 2 rfl ?_
            refine G.iload K D99_1_154 rfl ?_
            refine G.imul K D99_1_156 ?_
            change G k n0 _ h839 _ _ 157 [.val (.ref a), .val (.ref fa), .val (.ref sa), .val (.ref ta), .val (.int 4), .val (.ref ca), .val (.ref b689), .val (.int 0), .val (.ref a691), .val (.ref a693), .val (.int 1), .val (.int 3), .val (.int (Int32.ofNat y3))] [.int 2, .ref a693]
            refine G.aloadN K D99_1_157 rfl rfl ?_
            refine G.iload K D99_1_158 rfl ?_
            refine G.aload_i K H839 (i := 4) rfl (own_nneg (by omega)) (by rw [own_nidx (by omega)]; exact lst_get _ (by omega)) D99_1_160 ?_
            refine G.astore_i K H839 (i := 0) rfl (by decide) (Nat.le_of_ble_eq_true rfl) D99_1_161 ?_
            intro h840 H840
            change Hp n0 h840 ((a693, Ia Z [(sF ke y0), (tF ke y0), (sF ke y3), 0, 0, 0, 0, 0]) :: (a691, Ia Z [0, 2]) :: (b689, Ia Z [Int32.ofNat y0, Int32.ofNat y1, Int32.ofNat y2, Int32.ofNat y3]) :: (fa, Ia Z (lst 4 (fun _ => 0))) :: (sa, Ia Z (lst 4 (sF ke))) :: (ta, Ia Z (lst 4 (tF ke))) :: (a683, Xa Z [0, 1, 2]) :: (a, Ob Z "com/example/rankwise/rankwise/store/TripleIndex" NST [.ref a683, .null, .null]) :: (ca, Xa Z [0, 1, 2]) :: σ) at H840
            refine G.aload K D99_1_162 rfl rfl ?_
            refine G.iconst K D99_1_164 2 rfl ?_
            refine G.iload K D99_1_165 rfl ?_
            refine G.imul K D99_1_167 ?_
            change G k n0 _ h840 _ _ 168 [.val (.ref a), .val (.ref fa), .val (.ref sa), .val (.ref ta), .val (.int 4), .val (.ref ca), .val (.ref b689), .val (.int 0), .val (.ref a691), .val (.ref a693), .val (.int 1), .val (.int 3), .val (.int (Int32.ofNat y3))] [.int 2, .ref a693]
            refine G.iconst K D99_1_168 1 rfl ?_
            refine G.iadd K D99_1_169 ?_
            change G k n0 _ h840 _ _ 170 [.val (.ref a), .val (.ref fa), .val (.ref sa), .val (.ref ta), .val (.int 4), .val (.ref ca), .val (.ref b689), .val (.int 0), .val (.ref a691), .val (.ref a693), .val (.int 1), .val (.int 3), .val (.int (Int32.ofNat y3))] [.int 3, .ref a693]
            refine G.aloadN K D99_1_170 rfl rfl ?_
            refine G.iload K D99_1_171 rfl ?_
            refine G.aload_i K H840 (i := 5) rfl (own_nneg (by omega)) (by rw [own_nidx (by omega)]; exact lst_get _ (by omega)) D99_1_173 ?_
            refine G.astore_i K H840 (i := 0) rfl (by decide) (Nat.le_of_ble_eq_true rfl) D99_1_174 ?_
            intro h841 H841
            change Hp n0 h841 ((a693, Ia Z [(sF ke y0), (tF ke y0), (sF ke y3), (tF ke y3), 0, 0, 0, 0]) :: (a691, Ia Z [0, 2]) :: (b689, Ia Z [Int32.ofNat y0, Int32.ofNat y1, Int32.ofNat y2, Int32.ofNat y3]) :: (fa, Ia Z (lst 4 (fun _ => 0))) :: (sa, Ia Z (lst 4 (sF ke))) :: (ta, Ia Z (lst 4 (tF ke))) :: (a683, Xa Z [0, 1, 2]) :: (a, Ob Z "com/example/rankwise/rankwise/store/TripleIndex" NST [.ref a683, .null, .null]) :: (ca, Xa Z [0, 1, 2]) :: σ) at H841
            refine G.iinc K D99_1_175 1 rfl rfl ([.val (.ref a), .val (.ref fa), .val (.ref sa), .val (.ref ta), .val (.int 4), .val (.ref ca), .val (.ref b689), .val (.int 0), .val (.ref a691), .val (.ref a693), .val (.int (1 + 1)), .val (.int 3), .val (.int (Int32.ofNat y3))]) rfl ?_
            change G k n0 _ h841 _ _ 178 [.val (.ref a), .val (.ref fa), .val (.ref sa), .val (.ref ta), .val (.int 4), .val (.ref ca), .val (.ref b689), .val (.int 0), .val (.ref a691), .val (.ref a693), .val (.int 2), .val (.int 3), .val (.int (Int32.ofNat y3))] []
            refine G.iinc K D99_1_178 1 rfl rfl ([.val (.ref a), .val (.ref fa), .val (.ref sa), .val (.ref ta), .val (.int 4), .val (.ref ca), .val (.ref b689), .val (.int 0), .val (.ref a691), .val (.ref a693), .val (.int 2), .val (.int (3 + 1)), .val (.int (Int32.ofNat y3))]) rfl ?_
            change G k n0 _ h841 _ _ 181 [.val (.ref a), .val (.ref fa), .val (.ref sa), .val (.ref ta), .val (.int 4), .val (.ref ca), .val (.ref b689), .val (.int 0), .val (.ref a691), .val (.ref a693), .val (.int 2), .val (.int 4), .val (.int (Int32.ofNat y3))] []
            refine G.goto K D99_1_181 ?_
            refine G.iload K D99_1_68 rfl ?_
            refine G.iload K D99_1_70 rfl ?_
            refine G.icmp_ge K D99_1_72 (fun _ => ?_) (fun q => absurd q (by decide))
            refine G.iconst K D99_1_184 1 rfl ?_
            refine G.istore K D99_1_185 ([.val (.ref a), .val (.ref fa), .val (.ref sa), .val (.ref ta), .val (.int 4), .val (.ref ca), .val (.ref b689), .val (.int 0), .val (.ref a691), .val (.ref a693), .val (.int 2), .val (.int 1), .val (.int (Int32.ofNat y3))]) rfl ?_
            refine G.iload K D99_1_187 rfl ?_
            refine G.aload K D99_1_189 rfl rfl ?_
            refine G.alen K H841 (i := 1) rfl D99_1_191 2 rfl ?_
            refine G.icmp_ge K D99_1_192 (fun q => absurd q (by decide)) (fun _ => ?_)
            refine G.aload K D99_1_195 rfl rfl ?_
            refine G.iload K D99_1_197 rfl ?_
            refine G.dup2 K D99_1_199 rfl rfl ?_
            refine G.aload_i K H841 (i := 1) rfl (by decide) rfl D99_1_200 ?_
            refine G.aload K D99_1_201 rfl rfl ?_
            refine G.iload K D99_1_203 rfl ?_
            refine G.iconst K D99_1_205 1 rfl ?_
            refine G.isub K D99_1_206 ?_
            change G k n0 _ h841 _ _ 207 [.val (.ref a), .val (.ref fa), .val (.ref sa), .val (.ref ta), .val (.int 4), .val (.ref ca), .val (.ref b689), .val (.int 0), .val (.ref a691), .val (.ref a693), .val (.int 2), .val (.int 1), .val (.int (Int32.ofNat y3))] [.int 0, .ref a691, .int 2, .int 1, .ref a691]
            refine G.aload_i K H841 (i := 1) rfl (by decide) rfl D99_1_207 ?_
            refine G.iadd K D99_1_208 ?_
            change G k n0 _ h841 _ _ 209 [.val (.ref a), .val (.ref fa), .val (.ref sa), .val (.ref ta), .val (.int 4), .val (.ref ca), .val (.ref b689), .val (.int 0), .val (.ref a691), .val (.ref a693), .val (.int 2), .val (.int 1), .val (.int (Int32.ofNat y3))] [.int 2, .int 1, .ref a691]
            refine G.astore_i K H841 (i := 1) rfl (by decide) (Nat.le_of_ble_eq_true rfl) D99_1_209 ?_
            intro h844 H844
            change Hp n0 h844 ((a693, Ia Z [(sF ke y0), (tF ke y0), (sF ke y3), (tF ke y3), 0, 0, 0, 0]) :: (a691, Ia Z [0, 2]) :: (b689, Ia Z [Int32.ofNat y0, Int32.ofNat y1, Int32.ofNat y2, Int32.ofNat y3]) :: (fa, Ia Z (lst 4 (fun _ => 0))) :: (sa, Ia Z (lst 4 (sF ke))) :: (ta, Ia Z (lst 4 (tF ke))) :: (a683, Xa Z [0, 1, 2]) :: (a, Ob Z "com/example/rankwise/rankwise/store/TripleIndex" NST [.ref a683, .null, .null]) :: (ca, Xa Z [0, 1, 2]) :: σ) at H844
            refine G.iinc K D99_1_210 1 rfl rfl ([.val (.ref a), .val (.ref fa), .val (.ref sa), .val (.ref ta), .val (.int 4), .val (.ref ca), .val (.ref b689), .val (.int 0), .val (.ref a691), .val (.ref a693), .val (.int 2), .val (.int (1 + 1)), .val (.int (Int32.ofNat y3))]) rfl ?_
            change G k n0 _ h844 _ _ 213 [.val (.ref a), .val (.ref fa), .val (.ref sa), .val (.ref ta), .val (.int 4), .val (.ref ca), .val (.ref b689), .val (.int 0), .val (.ref a691), .val (.ref a693), .val (.int 2), .val (.int 2), .val (.int (Int32.ofNat y3))] []
            refine G.goto K D99_1_213 ?_
            refine G.iload K D99_1_187 rfl ?_
            refine G.aload K D99_1_189 rfl rfl ?_
            refine G.alen K H844 (i := 1) rfl D99_1_191 2 rfl ?_
            refine G.icmp_ge K D99_1_192 (fun _ => ?_) (fun q => absurd q (by decide))
            refine G.aloadN K D99_1_216 rfl rfl ?_
            refine G.aload K D99_1_217 rfl rfl ?_
            refine G.putF K (host := "") (Or.inl (wd hw 24 rfl)) (cf_NST hw) (Or.inr ⟨(wd hw 25 rfl), rfl, rfl⟩) (wd hw 2 rfl) H844 (i := 7) rfl (j := 1) rfl rfl (ty := (.array .int)) (by decide) rfl rfl D99_1_219 ?_
            intro h846 H846
            change Hp n0 h846 ((a693, Ia Z [(sF ke y0), (tF ke y0), (sF ke y3), (tF ke y3), 0, 0, 0, 0]) :: (a691, Ia Z [0, 2]) :: (b689, Ia Z [Int32.ofNat y0, Int32.ofNat y1, Int32.ofNat y2, Int32.ofNat y3]) :: (fa, Ia Z (lst 4 (fun _ => 0))) :: (sa, Ia Z (lst 4 (sF ke))) :: (ta, Ia Z (lst 4 (tF ke))) :: (a683, Xa Z [0, 1, 2]) :: (a, Ob Z "com/example/rankwise/rankwise/store/TripleIndex" NST [.ref a683, .ref a691, .null]) :: (ca, Xa Z [0, 1, 2]) :: σ) at H846
            refine G.aloadN K D99_1_222 rfl rfl ?_
            refine G.iload K D99_1_223 rfl ?_
            refine G.iload K D99_1_225 rfl ?_
            refine G.icmp_ne K D99_1_227 (fun _ => ?_) (fun q => absurd q (by decide))
            refine G.aload K D99_1_235 rfl rfl ?_
            refine G.iconst K D99_1_237 2 rfl ?_
            refine G.iload K D99_1_238 rfl ?_
            refine G.imul K D99_1_240 ?_
            change G k n0 _ h846 _ _ 241 [.val (.ref a), .val (.ref fa), .val (.ref sa), .val (.ref ta), .val (.int 4), .val (.ref ca), .val (.ref b689), .val (.int 0), .val (.ref a691), .val (.ref a693), .val (.int 2), .val (.int 2), .val (.int (Int32.ofNat y3))] [.int 4, .ref a693, .ref a]
            refine G.callS K hl (wd hw 58 rfl) (wd hw 59 rfl) (wd hw 60 rfl) (wd hw 61 rfl) (by decide) pd_3 (ct_copy l Z a0 hw n0 h846 a693 4 [(sF ke y0), (tF ke y0), (sF ke y3), (tF ke y3), 0, 0, 0, 0] ((a691, Ia Z [0, 2]) :: (b689, Ia Z [Int32.ofNat y0, Int32.ofNat y1, Int32.ofNat y2, Int32.ofNat y3]) :: (fa, Ia Z (lst 4 (fun _ => 0))) :: (sa, Ia Z (lst 4 (sF ke))) :: (ta, Ia Z (lst 4 (tF ke))) :: (a683, Xa Z [0, 1, 2]) :: (a, Ob Z "com/example/rankwise/rankwise/store/TripleIndex" NST [.ref a683, .ref a691, .null]) :: (ca, Xa Z [0, 1, 2]) :: σ) (Nat.le_of_ble_eq_true rfl) (Nat.le_of_ble_eq_true rfl) H846) 1 rfl (by decide) (by decide) (by decide) (by decide) rfl rfl [.int 4, .ref a693] rfl D99_1_241 ?_
            rintro _ h848 ⟨b848, rfl, H848⟩
            change Hp n0 h848 ((b848, Ia Z [(sF ke y0), (tF ke y0), (sF ke y3), (tF ke y3)]) :: (a693, Ia Z [(sF ke y0), (tF ke y0), (sF ke y3), (tF ke y3), 0, 0, 0, 0]) :: (a691, Ia Z [0, 2]) :: (b689, Ia Z [Int32.ofNat y0, Int32.ofNat y1, Int32.ofNat y2, Int32.ofNat y3]) :: (fa, Ia Z (lst 4 (fun _ => 0))) :: (sa, Ia Z (lst 4 (sF ke))) :: (ta, Ia Z (lst 4 (tF ke))) :: (a683, Xa Z [0, 1, 2]) :: (a, Ob Z "com/example/rankwise/rankwise/store/TripleIndex" NST [.ref a683, .ref a691, .null]) :: (ca, Xa Z [0, 1, 2]) :: σ) at H848
            change G k n0 _ h848 _ _ 244 [.val (.ref a), .val (.ref fa), .val (.ref sa), .val (.ref ta), .val (.int 4), .val (.ref ca), .val (.ref b689), .val (.int 0), .val (.ref a691), .val (.ref a693), .val (.int 2), .val (.int 2), .val (.int (Int32.ofNat y3))] [.ref b848, .ref a]
            refine G.putF K (host := "") (Or.inl (wd hw 26 rfl)) (cf_NST hw) (Or.inr ⟨(wd hw 27 rfl), rfl, rfl⟩) (wd hw 2 rfl) H848 (i := 8) rfl (j := 2) rfl rfl (ty := (.array .int)) (by decide) rfl rfl D99_1_244 ?_
            intro h849 H849
            change Hp n0 h849 ((b848, Ia Z [(sF ke y0), (tF ke y0), (sF ke y3), (tF ke y3)]) :: (a693, Ia Z [(sF ke y0), (tF ke y0), (sF ke y3), (tF ke y3), 0, 0, 0, 0]) :: (a691, Ia Z [0, 2]) :: (b689, Ia Z [Int32.ofNat y0, Int32.ofNat y1, Int32.ofNat y2, Int32.ofNat y3]) :: (fa, Ia Z (lst 4 (fun _ => 0))) :: (sa, Ia Z (lst 4 (sF ke))) :: (ta, Ia Z (lst 4 (tF ke))) :: (a683, Xa Z [0, 1, 2]) :: (a, Ob Z "com/example/rankwise/rankwise/store/TripleIndex" NST [.ref a683, .ref a691, .ref b848]) :: (ca, Xa Z [0, 1, 2]) :: σ) at H849
            refine G.ret_void K D99_1_247 ?_
            have H850 : Hp n0 h849 ((ta, Ia Z (lst 4 (tF ke))) :: (b848, Ia Z [(sF ke y0), (tF ke y0), (sF ke y3), (tF ke y3)]) :: (a693, Ia Z [(sF ke y0), (tF ke y0), (sF ke y3), (tF ke y3), 0, 0, 0, 0]) :: (a691, Ia Z [0, 2]) :: (b689, Ia Z [Int32.ofNat y0, Int32.ofNat y1, Int32.ofNat y2, Int32.ofNat y3]) :: (fa, Ia Z (lst 4 (fun _ => 0))) :: (sa, Ia Z (lst 4 (sF ke))) :: (a683, Xa Z [0, 1, 2]) :: (a, Ob Z "com/example/rankwise/rankwise/store/TripleIndex" NST [.ref a683, .ref a691, .ref b848]) :: (ca, Xa Z [0, 1, 2]) :: σ) := H849.pull 6 rfl
            have H851 : Hp n0 h849 ((sa, Ia Z (lst 4 (sF ke))) :: (ta, Ia Z (lst 4 (tF ke))) :: (b848, Ia Z [(sF ke y0), (tF ke y0), (sF ke y3), (tF ke y3)]) :: (a693, Ia Z [(sF ke y0), (tF ke y0), (sF ke y3), (tF ke y3), 0, 0, 0, 0]) :: (a691, Ia Z [0, 2]) :: (b689, Ia Z [Int32.ofNat y0, Int32.ofNat y1, Int32.ofNat y2, Int32.ofNat y3]) :: (fa, Ia Z (lst 4 (fun _ => 0))) :: (a683, Xa Z [0, 1, 2]) :: (a, Ob Z "com/example/rankwise/rankwise/store/TripleIndex" NST [.ref a683, .ref a691, .ref b848]) :: (ca, Xa Z [0, 1, 2]) :: σ) := H850.pull 6 rfl
            have H852 : Hp n0 h849 ((fa, Ia Z (lst 4 (fun _ => 0))) :: (sa, Ia Z (lst 4 (sF ke))) :: (ta, Ia Z (lst 4 (tF ke))) :: (b848, Ia Z [(sF ke y0), (tF ke y0), (sF ke y3), (tF ke y3)]) :: (a693, Ia Z [(sF ke y0), (tF ke y0), (sF ke y3), (tF ke y3), 0, 0, 0, 0]) :: (a691, Ia Z [0, 2]) :: (b689, Ia Z [Int32.ofNat y0, Int32.ofNat y1, Int32.ofNat y2, Int32.ofNat y3]) :: (a683, Xa Z [0, 1, 2]) :: (a, Ob Z "com/example/rankwise/rankwise/store/TripleIndex" NST [.ref a683, .ref a691, .ref b848]) :: (ca, Xa Z [0, 1, 2]) :: σ) := H851.pull 6 rfl
            have H853 : Hp n0 h849 ((b848, Ia Z [(sF ke y0), (tF ke y0), (sF ke y3), (tF ke y3)]) :: (fa, Ia Z (lst 4 (fun _ => 0))) :: (sa, Ia Z (lst 4 (sF ke))) :: (ta, Ia Z (lst 4 (tF ke))) :: (a693, Ia Z [(sF ke y0), (tF ke y0), (sF ke y3), (tF ke y3), 0, 0, 0, 0]) :: (a691, Ia Z [0, 2]) :: (b689, Ia Z [Int32.ofNat y0, Int32.ofNat y1, Int32.ofNat y2, Int32.ofNat y3]) :: (a683, Xa Z [0, 1, 2]) :: (a, Ob Z "com/example/rankwise/rankwise/store/TripleIndex" NST [.ref a683, .ref a691, .ref b848]) :: (ca, Xa Z [0, 1, 2]) :: σ) := H852.pull 3 rfl
            have H854 : Hp n0 h849 ((a, Ob Z "com/example/rankwise/rankwise/store/TripleIndex" NST [.ref a683, .ref a691, .ref b848]) :: (b848, Ia Z [(sF ke y0), (tF ke y0), (sF ke y3), (tF ke y3)]) :: (fa, Ia Z (lst 4 (fun _ => 0))) :: (sa, Ia Z (lst 4 (sF ke))) :: (ta, Ia Z (lst 4 (tF ke))) :: (a693, Ia Z [(sF ke y0), (tF ke y0), (sF ke y3), (tF ke y3), 0, 0, 0, 0]) :: (a691, Ia Z [0, 2]) :: (b689, Ia Z [Int32.ofNat y0, Int32.ofNat y1, Int32.ofNat y2, Int32.ofNat y3]) :: (a683, Xa Z [0, 1, 2]) :: (ca, Xa Z [0, 1, 2]) :: σ) := H853.pull 8 rfl
            have H855 : Hp n0 h849 ((a, Ob Z "com/example/rankwise/rankwise/store/TripleIndex" NST [.ref a683, .ref a691, .ref b848]) :: (b848, Ia Z [(sF ke y0), (tF ke y0), (sF ke y3), (tF ke y3)]) :: (fa, Ia Z (lst 4 (fun _ => 0))) :: (sa, Ia Z (lst 4 (sF ke))) :: (ta, Ia Z (lst 4 (tF ke))) :: σ) := H854.sub (List.Sublist.cons_cons _ (List.Sublist.cons_cons _ (List.Sublist.cons_cons _ (List.Sublist.cons_cons _ (List.Sublist.cons_cons _ (List.Sublist.cons _ (List.Sublist.cons _ (List.Sublist.cons _ (List.Sublist.cons _ (List.Sublist.cons _ (List.Sublist.refl _)))))))))))
            refine ⟨_, _, _, 2, fun i => [y0, y3].getD i 0, rfl, ⟨by decide, ?_, ?_⟩, H855⟩
            · intro i hi
              rcases (by omega : i = 0) with rfl
              · show ke y0 < ke y3; omega
            · intro f
              show 0 + f (ke y0) + f (ke y3) = D4 f (ke 0) (ke 1) (ke 2) (ke 3)
              rw [← pm4 ke f f0 f1 f2 f3 f4 f5 f6 f7 f8 f9]
              unfold D4
              rw [if_pos (show ke y1 = ke y0 by omega), if_pos (show ke y2 = ke y0 ∨ ke y2 = ke y1 by omega), if_neg (show ¬ (ke y3 = ke y0 ∨ ke y3 = ke y1 ∨ ke y3 = ke y2) by omega)]; omega
          refine G.iload K D99_1_82 rfl ?_
          refine G.if_le K D99_1_84 (fun q => absurd q (by decide)) (fun _ => ?_)
          refine G.aloadN K D99_1_87 rfl rfl ?_
          refine G.iload K D99_1_88 rfl ?_
          refine G.aload_i K H699 (i := 3) rfl (own_nneg (by omega)) (by rw [own_nidx (by omega)]; exact lst_get _ (by omega)) D99_1_90 ?_
          refine G.aloadN K D99_1_91 rfl rfl ?_
          refine G.aload K D99_1_92 rfl rfl ?_
          refine G.iload K D99_1_94 rfl ?_
          refine G.iconst K D99_1_96 1 rfl ?_
          refine G.isub K D99_1_97 ?_
          change G k n0 _ h699 _ _ 98 [.val (.ref a), .val (.ref fa), .val (.ref sa), .val (.ref ta), .val (.int 4), .val (.ref ca), .val (.ref b689), .val (.int 0), .val (.ref a691), .val (.ref a693), .val (.int 1), .val (.int 3), .val (.int (Int32.ofNat y3))] [.int 2, .ref b689, .ref fa, .int 0]
          refine G.aload_i K H699 (i := 2) rfl (by decide) rfl D99_1_98 ?_
          refine G.aload_i K H699 (i := 3) rfl (own_nneg (by omega)) (by rw [own_nidx (by omega)]; exact lst_get _ (by omega)) D99_1_99 ?_
          refine G.icmp_ne K D99_1_100 (fun q => absurd q (by decide)) (fun _ => ?_)
          refine G.aloadN K D99_1_103 rfl rfl ?_
          refine G.iload K D99_1_104 rfl ?_
          refine G.aload_i K H699 (i := 4) rfl (own_nneg (by omega)) (by rw [own_nidx (by omega)]; exact lst_get _ (by omega)) D99_1_106 ?_
          refine G.aload K D99_1_107 rfl rfl ?_
          refine G.iconst K D99_1_109 2 rfl ?_
          refine G.iload K D99_1_110 rfl ?_
          refine G.imul K D99_1_112 ?_
          change G k n0 _ h699 _ _ 113 [.val (.ref a), .val (.ref fa), .val (.ref sa), .val (.ref ta), .val (.int 4), .val (.ref ca), .val (.ref b689), .val (.int 0), .val (.ref a691), .val (.ref a693), .val (.int 1), .val (.int 3), .val (.int (Int32.ofNat y3))] [.int 2, .ref a693, .int (sF ke y3)]
          refine G.iconst K D99_1_113 2 rfl ?_
          refine G.isub K D99_1_114 ?_
          change G k n0 _ h699 _ _ 115 [.val (.ref a), .val (.ref fa), .val (.ref sa), .val (.ref ta), .val (.int 4), .val (.ref ca), .val (.ref b689), .val (.int 0), .val (.ref a691), .val (.ref a693), .val (.int 1), .val (.int 3), .val (.int (Int32.ofNat y3))] [.int 0, .ref a693, .int (sF ke y3)]
          refine G.aload_i K H699 (i := 0) rfl (by decide) rfl D99_1_115 ?_
          refine G.icmp_ne K D99_1_116 (fun q858 => ?_) (fun q858 => ?_)
          · exact T838 (key_ns q858)
          · refine G.aloadN K D99_1_119 rfl rfl ?_
            refine G.iload K D99_1_120 rfl ?_
            refine G.aload_i K H699 (i := 5) rfl (own_nneg (by omega)) (by rw [own_nidx (by omega)]; exact lst_get _ (by omega)) D99_1_122 ?_
            refine G.aload K D99_1_123 rfl rfl ?_
            refine G.iconst K D99_1_125 2 rfl ?_
            refine G.iload K D99_1_126 rfl ?_
            refine G.imul K D99_1_128 ?_
            change G k n0 _ h699 _ _ 129 [.val (.ref a), .val (.ref fa), .val (.ref sa), .val (.ref ta), .val (.int 4), .val (.ref ca), .val (.ref b689), .val (.int 0), .val (.ref a691), .val (.ref a693), .val (.int 1), .val (.int 3), .val (.int (Int32.ofNat y3))] [.int 2, .ref a693, .int (tF ke y3)]
            refine G.iconst K D99_1_129 1 rfl ?_
            refine G.isub K D99_1_130 ?_
            change G k n0 _ h699 _ _ 131 [.val (.ref a), .val (.ref fa), .val (.ref sa), .val (.ref ta), .val (.int 4), .val (.ref ca), .val (.ref b689), .val (.int 0), .val (.ref a691), .val (.ref a693), .val (.int 1), .val (.int 3), .val (.int (Int32.ofNat y3))] [.int 1, .ref a693, .int (tF ke y3)]
            refine G.aload_i K H699 (i := 0) rfl (by decide) rfl D99_1_131 ?_
            refine G.icmp_ne K D99_1_132 (fun q859 => ?_) (fun q859 => ?_)
            · exact T838 (key_nt q859)
            · have eq3 : ke y3 = ke y0 := key_eq hK q858 q859
              refine G.goto K D99_1_135 ?_
              refine G.iinc K D99_1_178 1 rfl rfl ([.val (.ref a), .val (.ref fa), .val (.ref sa), .val (.ref ta), .val (.int 4), .val (.ref ca), .val (.ref b689), .val (.int 0), .val (.ref a691), .val (.ref a693), .val (.int 1), .val (.int (3 + 1)), .val (.int (Int32.ofNat y3))]) rfl ?_
              change G k n0 _ h699 _ _ 181 [.val (.ref a), .val (.ref fa), .val (.ref sa), .val (.ref ta), .val (.int 4), .val (.ref ca), .val (.ref b689), .val (.int 0), .val (.ref a691), .val (.ref a693), .val (.int 1), .val (.int 4), .val (.int (Int32.ofNat y3))] []
              refine G.goto K D99_1_181 ?_
              refine G.iload K D99_1_68 rfl ?_
              refine G.iload K D99_1_70 rfl ?_
              refine G.icmp_ge K D99_1_72 (fun _ => ?_) (fun q => absurd q (by decide))
              refine G.iconst K D99_1_184 1 rfl ?_
              refine G.istore K D99_1_185 ([.val (.ref a), .val (.ref fa), .val (.ref sa), .val (.ref ta), .val (.int 4), .val (.ref ca), .val (.ref b689), .val (.int 0), .val (.ref a691), .val (.ref a693), .val (.int 1), .val (.int 1), .val (.int (Int32.ofNat y3))]) rfl ?_
              refine G.iload K D99_1_187 rfl ?_
              refine G.aload K D99_1_189 rfl rfl ?_
              refine G.alen K H699 (i := 1) rfl D99_1_191 2 rfl ?_
              refine G.icmp_ge K D99_1_192 (fun q => absurd q (by decide)) (fun _ => ?_)
              refine G.aload K D99_1_195 rfl rfl ?_
              refine G.iload K D99_1_197 rfl ?_
              refine G.dup2 K D99_1_199 rfl rfl ?_
              refine G.aload_i K H699 (i := 1) rfl (by decide) rfl D99_1_200 ?_
              refine G.aload K D99_1_201 rfl rfl ?_
              refine G.iload K D99_1_203 rfl ?_
              refine G.iconst K D99_1_205 1 rfl ?_
              refine G.isub K D99_1_206 ?_
              change G k n0 _ h699 _ _ 207 [.val (.ref a), .val (.ref fa), .val (.ref sa), .val (.ref ta), .val (.int 4), .val (.ref ca), .val (.ref b689), .val (.int 0), .val (.ref a691), .val (.ref a693), .val (.int 1), .val (.int 1), .val (.int (Int32.ofNat y3))] [.int 0, .ref a691, .int 1, .int 1, .ref a691]
              refine G.aload_i K H699 (i := 1) rfl (by decide) rfl D99_1_207 ?_
              refine G.iadd K D99_1_208 ?_
              change G k n0 _ h699 _ _ 209 [.val (.ref a), .val (.ref fa), .val (.ref sa), .val (.ref ta), .val (.int 4), .val (.ref ca), .val (.ref b689), .val (.int 0), .val (.ref a691), .val (.ref a693), .val (.int 1), .val (.int 1), .val (.int (Int32.ofNat y3))] [.int 1, .int 1, .ref a691]
              refine G.astore_i K H699 (i := 1) rfl (by decide) (Nat.le_of_ble_eq_true rfl) D99_1_209 ?_
              intro h862 H862
              change Hp n0 h862 ((a693, Ia Z [(sF ke y0), (tF ke y0), 0, 0, 0, 0, 0, 0]) :: (a691, Ia Z [0, 1]) :: (b689, Ia Z [Int32.ofNat y0, Int32.ofNat y1, Int32.ofNat y2, Int32.ofNat y3]) :: (fa, Ia Z (lst 4 (fun _ => 0))) :: (sa, Ia Z (lst 4 (sF ke))) :: (ta, Ia Z (lst 4 (tF ke))) :: (a683, Xa Z [0, 1, 2]) :: (a, Ob Z "com/example/rankwise/rankwise/store/TripleIndex" NST [.ref a683, .null, .null]) :: (ca, Xa Z [0, 1, 2]) :: σ) at H862
              refine G.iinc K D99_1_210 1 rfl rfl ([.val (.ref a), .val (.ref fa), .val (.ref sa), .val (.ref ta), .val (.int 4), .val (.ref ca), .val (.ref b689), .val (.int 0), .val (.ref a691), .val (.ref a693), .val (.int 1), .val (.int (1 + 1)), .val (.int (Int32.ofNat y3))]) rfl ?_
              change G k n0 _ h862 _ _ 213 [.val (.ref a), .val (.ref fa), .val (.ref sa), .val (.ref ta), .val (.int 4), .val (.ref ca), .val (.ref b689), .val (.int 0), .val (.ref a691), .val (.ref a693), .val (.int 1), .val (.int 2), .val (.int (Int32.ofNat y3))] []
              refine G.goto K D99_1_213 ?_
              refine G.iload K D99_1_187 rfl ?_
              refine G.aload K D99_1_189 rfl rfl ?_
              refine G.alen K H862 (i := 1) rfl D99_1_191 2 rfl ?_
              refine G.icmp_ge K D99_1_192 (fun _ => ?_) (fun q => absurd q (by decide))
              refine G.aloadN K D99_1_216 rfl rfl ?_
              refine G.aload K D99_1_217 rfl rfl ?_
              refine G.putF K (host := "") (Or.inl (wd hw 24 rfl)) (cf_NST hw) (Or.inr ⟨(wd hw 25 rfl), rfl, rfl⟩) (wd hw 2 rfl) H862 (i := 7) rfl (j := 1) rfl rfl (ty := (.array .int)) (by decide) rfl rfl D99_1_219 ?_
              intro h864 H864
              change Hp n0 h864 ((a693, Ia Z [(sF ke y0), (tF ke y0), 0, 0, 0, 0, 0, 0]) :: (a691, Ia Z [0, 1]) :: (b689, Ia Z [Int32.ofNat y0, Int32.ofNat y1, Int32.ofNat y2, Int32.ofNat y3]) :: (fa, Ia Z (lst 4 (fun _ => 0))) :: (sa, Ia Z (lst 4 (sF ke))) :: (ta, Ia Z (lst 4 (tF ke))) :: (a683, Xa Z [0, 1, 2]) :: (a, Ob Z "com/example/rankwise/rankwise/store/TripleIndex" NST [.ref a683, .ref a691, .null]) :: (ca, Xa Z [0, 1, 2]) :: σ) at H864
              refine G.aloadN K D99_1_222 rfl rfl ?_
              refine G.iload K D99_1_223 rfl ?_
              refine G.iload K D99_1_225 rfl ?_
              refine G.icmp_ne K D99_1_227 (fun _ => ?_) (fun q => absurd q (by decide))
              refine G.aload K D99_1_235 rfl rfl ?_
              refine G.iconst K D99_1_237 2 rfl ?_
              refine G.iload K D99_1_238 rfl ?_
              refine G.imul K D99_1_240 ?_
              change G k n0 _ h864 _ _ 241 [.val (.ref a), .val (.ref fa), .val (.ref sa), .val (.ref ta), .val (.int 4), .val (.ref ca), .val (.ref b689), .val (.int 0), .val (.ref a691), .val (.ref a693), .val (.int 1), .val (.int 2), .val (.int (Int32.ofNat y3))] [.int 2, .ref a693, .ref a]
              refine G.callS K hl (wd hw 58 rfl) (wd hw 59 rfl) (wd hw 60 rfl) (wd hw 61 rfl) (by decide) pd_3 (ct_copy l Z a0 hw n0 h864 a693 2 [(sF ke y0), (tF ke y0), 0, 0, 0, 0, 0, 0] ((a691, Ia Z [0, 1]) :: (b689, Ia Z [Int32.ofNat y0, Int32.ofNat y1, Int32.ofNat y2, Int32.ofNat y3]) :: (fa, Ia Z (lst 4 (fun _ => 0))) :: (sa, Ia Z (lst 4 (sF ke))) :: (ta, Ia Z (lst 4 (tF ke))) :: (a683, Xa Z [0, 1, 2]) :: (a, Ob Z "com/example/rankwise/rankwise/store/TripleIndex" NST [.ref a683, .ref a691, .null]) :: (ca, Xa Z [0, 1, 2]) :: σ) (Nat.le_of_ble_eq_true rfl) (Nat.le_of_ble_eq_true rfl) H864) 1 rfl (by decide) (by decide) (by decide) (by decide) rfl rfl [.int 2, .ref a693] rfl D99_1_241 ?_
              rintro _ h866 ⟨b866, rfl, H866⟩
              change Hp n0 h866 ((b866, Ia Z [(sF ke y0), (tF ke y0)]) :: (a693, Ia Z [(sF ke y0), (tF ke y0), 0, 0, 0, 0, 0, 0]) :: (a691, Ia Z [0, 1]) :: (b689, Ia Z [Int32.ofNat y0, Int32.ofNat y1, Int32.ofNat y2, Int32.ofNat y3]) :: (fa, Ia Z (lst 4 (fun _ => 0))) :: (sa, Ia Z (lst 4 (sF ke))) :: (ta, Ia Z (lst 4 (tF ke))) :: (a683, Xa Z [0, 1, 2]) :: (a, Ob Z "com/example/rankwise/rankwise/store/TripleIndex" NST [.ref a683, .ref a691, .null]) :: (ca, Xa Z [0, 1, 2]) :: σ) at H866
              change G k n0 _ h866 _ _ 244 [.val (.ref a), .val (.ref fa), .val (.ref sa), .val (.ref ta), .val (.int 4), .val (.ref ca), .val (.ref b689), .val (.int 0), .val (.ref a691), .val (.ref a693), .val (.int 1), .val (.int 2), .val (.int (Int32.ofNat y3))] [.ref b866, .ref a]
              refine G.putF K (host := "") (Or.inl (wd hw 26 rfl)) (cf_NST hw) (Or.inr ⟨(wd hw 27 rfl), rfl, rfl⟩) (wd hw 2 rfl) H866 (i := 8) rfl (j := 2) rfl rfl (ty := (.array .int)) (by decide) rfl rfl D99_1_244 ?_
              intro h867 H867
              change Hp n0 h867 ((b866, Ia Z [(sF ke y0), (tF ke y0)]) :: (a693, Ia Z [(sF ke y0), (tF ke y0), 0, 0, 0, 0, 0, 0]) :: (a691, Ia Z [0, 1]) :: (b689, Ia Z [Int32.ofNat y0, Int32.ofNat y1, Int32.ofNat y2, Int32.ofNat y3]) :: (fa, Ia Z (lst 4 (fun _ => 0))) :: (sa, Ia Z (lst 4 (sF ke))) :: (ta, Ia Z (lst 4 (tF ke))) :: (a683, Xa Z [0, 1, 2]) :: (a, Ob Z "com/example/rankwise/rankwise/store/TripleIndex" NST [.ref a683, .ref a691, .ref b866]) :: (ca, Xa Z [0, 1, 2]) :: σ) at H867
              refine G.ret_void K D99_1_247 ?_
              have H868 : Hp n0 h867 ((ta, Ia Z (lst 4 (tF ke))) :: (b866, Ia Z [(sF ke y0), (tF ke y0)]) :: (a693, Ia Z [(sF ke y0), (tF ke y0), 0, 0, 0, 0, 0, 0]) :: (a691, Ia Z [0, 1]) :: (b689, Ia Z [Int32.ofNat y0, Int32.ofNat y1, Int32.ofNat y2, Int32.ofNat y3]) :: (fa, Ia Z (lst 4 (fun _ => 0))) :: (sa, Ia Z (lst 4 (sF ke))) :: (a683, Xa Z [0, 1, 2]) :: (a, Ob Z "com/example/rankwise/rankwise/store/TripleIndex" NST [.ref a683, .ref a691, .ref b866]) :: (ca, Xa Z [0, 1, 2]) :: σ) := H867.pull 6 rfl
              have H869 : Hp n0 h867 ((sa, Ia Z (lst 4 (sF ke))) :: (ta, Ia Z (lst 4 (tF ke))) :: (b866, Ia Z [(sF ke y0), (tF ke y0)]) :: (a693, Ia Z [(sF ke y0), (tF ke y0), 0, 0, 0, 0, 0, 0]) :: (a691, Ia Z [0, 1]) :: (b689, Ia Z [Int32.ofNat y0, Int32.ofNat y1, Int32.ofNat y2, Int32.ofNat y3]) :: (fa, Ia Z (lst 4 (fun _ => 0))) :: (a683, Xa Z [0, 1, 2]) :: (a, Ob Z "com/example/rankwise/rankwise/store/TripleIndex" NST [.ref a683, .ref a691, .ref b866]) :: (ca, Xa Z [0, 1, 2]) :: σ) := H868.pull 6 rfl
              have H870 : Hp n0 h867 ((fa, Ia Z (lst 4 (fun _ => 0))) :: (sa, Ia Z (lst 4 (sF ke))) :: (ta, Ia Z (lst 4 (tF ke))) :: (b866, Ia Z [(sF ke y0), (tF ke y0)]) :: (a693, Ia Z [(sF ke y0), (tF ke y0), 0, 0, 0, 0, 0, 0]) :: (a691, Ia Z [0, 1]) :: (b689, Ia Z [Int32.ofNat y0, Int32.ofNat y1, Int32.ofNat y2, Int32.ofNat y3]) :: (a683, Xa Z [0, 1, 2]) :: (a, Ob Z "com/example/rankwise/rankwise/store/TripleIndex" NST [.ref a683, .ref a691, .ref b866]) :: (ca, Xa Z [0, 1, 2]) :: σ) := H869.pull 6 rfl
              have H871 : Hp n0 h867 ((b866, Ia Z [(sF ke y0), (tF ke y0)]) :: (fa, Ia Z (lst 4 (fun _ => 0))) :: (sa, Ia Z (lst 4 (sF ke))) :: (ta, Ia Z (lst 4 (tF ke))) :: (a693, Ia Z [(sF ke y0), (tF ke y0), 0, 0, 0, 0, 0, 0]) :: (a691, Ia Z [0, 1]) :: (b689, Ia Z [Int32.ofNat y0, Int32.ofNat y1, Int32.ofNat y2, Int32.ofNat y3]) :: (a683, Xa Z [0, 1, 2]) :: (a, Ob Z "com/example/rankwise/rankwise/store/TripleIndex" NST [.ref a683, .ref a691, .ref b866]) :: (ca, Xa Z [0, 1, 2]) :: σ) := H870.pull 3 rfl
              have H872 : Hp n0 h867 ((a, Ob Z "com/example/rankwise/rankwise/store/TripleIndex" NST [.ref a683, .ref a691, .ref b866]) :: (b866, Ia Z [(sF ke y0), (tF ke y0)]) :: (fa, Ia Z (lst 4 (fun _ => 0))) :: (sa, Ia Z (lst 4 (sF ke))) :: (ta, Ia Z (lst 4 (tF ke))) :: (a693, Ia Z [(sF ke y0), (tF ke y0), 0, 0, 0, 0, 0, 0]) :: (a691, Ia Z [0, 1]) :: (b689, Ia Z [Int32.ofNat y0, Int32.ofNat y1, Int32.ofNat y2, Int32.ofNat y3]) :: (a683, Xa Z [0, 1, 2]) :: (ca, Xa Z [0, 1, 2]) :: σ) := H871.pull 8 rfl
              have H873 : Hp n0 h867 ((a, Ob Z "com/example/rankwise/rankwise/store/TripleIndex" NST [.ref a683, .ref a691, .ref b866]) :: (b866, Ia Z [(sF ke y0), (tF ke y0)]) :: (fa, Ia Z (lst 4 (fun _ => 0))) :: (sa, Ia Z (lst 4 (sF ke))) :: (ta, Ia Z (lst 4 (tF ke))) :: σ) := H872.sub (List.Sublist.cons_cons _ (List.Sublist.cons_cons _ (List.Sublist.cons_cons _ (List.Sublist.cons_cons _ (List.Sublist.cons_cons _ (List.Sublist.cons _ (List.Sublist.cons _ (List.Sublist.cons _ (List.Sublist.cons _ (List.Sublist.cons _ (List.Sublist.refl _)))))))))))
              refine ⟨_, _, _, 1, fun i => [y0].getD i 0, rfl, ⟨by decide, ?_, ?_⟩, H873⟩
              · intro i hi; omega
              · intro f
                show 0 + f (ke y0) = D4 f (ke 0) (ke 1) (ke 2) (ke 3)
                rw [← pm4 ke f f0 f1 f2 f3 f4 f5 f6 f7 f8 f9]
                unfold D4
                rw [if_pos (show ke y1 = ke y0 by omega), if_pos (show ke y2 = ke y0 ∨ ke y2 = ke y1 by omega), if_pos (show ke y3 = ke y0 ∨ ke y3 = ke y1 ∨ ke y3 = ke y2 by omega)]; omega
theorem D99_9_0 : Dc prog_99_method_9_code 0 (.iload_n 1) 1 1 := dc (by decide +kernel) rfl
theorem D99_9_1 : Dc prog_99_method_9_code 1 (.istore 5) 2 3 := dc (by decide +kernel) rfl
theorem D99_9_3 : Dc prog_99_method_9_code 3 (.iload_n 2) 1 4 := dc (by decide +kernel) rfl
theorem D99_9_4 : Dc prog_99_method_9_code 4 (.istore 6) 2 6 := dc (by decide +kernel) rfl
theorem D99_9_6 : Dc prog_99_method_9_code 6 (.iload 5) 2 8 := dc (by decide +kernel) rfl
theorem D99_9_8 : Dc prog_99_method_9_code 8 (.iload 6) 2 10 := dc (by decide +kernel) rfl
theorem D99_9_10 : Db prog_99_method_9_code 10 (.if_icmp .ge) 13 77 := db (67) (by decide +kernel) rfl (by decide) (by decide)
theorem D99_9_13 : Dc prog_99_method_9_code 13 (.iload 5) 2 15 := dc (by decide +kernel) rfl
theorem D99_9_15 : Dc prog_99_method_9_code 15 (.iload 6) 2 17 := dc (by decide +kernel) rfl
theorem D99_9_17 : Dc prog_99_method_9_code 17 (.iadd) 1 18 := dc (by decide +kernel) rfl
theorem D99_9_18 : Dc prog_99_method_9_code 18 (.iconst 1) 1 19 := dc (by decide +kernel) rfl
theorem D99_9_19 : Dc prog_99_method_9_code 19 (.iushr) 1 20 := dc (by decide +kernel) rfl
theorem D99_9_20 : Dc prog_99_method_9_code 20 (.istore 7) 2 22 := dc (by decide +kernel) rfl
theorem D99_9_22 : Dc prog_99_method_9_code 22 (.aload_n 0) 1 23 := dc (by decide +kernel) rfl
theorem D99_9_23 : Dc prog_99_method_9_code 23 (.getfield 31) 3 26 := dc (by decide +kernel) rfl
theorem D99_9_26 : Dc prog_99_method_9_code 26 (.iconst 2) 1 27 := dc (by decide +kernel) rfl
theorem D99_9_27 : Dc prog_99_method_9_code 27 (.iload 7) 2 29 := dc (by decide +kernel) rfl
theorem D99_9_29 : Dc prog_99_method_9_code 29 (.imul) 1 30 := dc (by decide +kernel) rfl
theorem D99_9_30 : Dc prog_99_method_9_code 30 (.iaload) 1 31 := dc (by decide +kernel) rfl
theorem D99_9_31 : Dc prog_99_method_9_code 31 (.istore 8) 2 33 := dc (by decide +kernel) rfl
theorem D99_9_33 : Dc prog_99_method_9_code 33 (.iload 8) 2 35 := dc (by decide +kernel) rfl
theorem D99_9_35 : Dc prog_99_method_9_code 35 (.iload_n 3) 1 36 := dc (by decide +kernel) rfl
theorem D99_9_36 : Db prog_99_method_9_code 36 (.if_icmp .lt) 39 61 := db (25) (by decide +kernel) rfl (by decide) (by decide)
theorem D99_9_39 : Dc prog_99_method_9_code 39 (.iload 8) 2 41 := dc (by decide +kernel) rfl
theorem D99_9_41 : Dc prog_99_method_9_code 41 (.iload_n 3) 1 42 := dc (by decide +kernel) rfl
theorem D99_9_42 : Db prog_99_method_9_code 42 (.if_icmp .ne) 45 70 := db (28) (by decide +kernel) rfl (by decide) (by decide)
theorem D99_9_45 : Dc prog_99_method_9_code 45 (.aload_n 0) 1 46 := dc (by decide +kernel) rfl
theorem D99_9_46 : Dc prog_99_method_9_code 46 (.getfield 31) 3 49 := dc (by decide +kernel) rfl
theorem D99_9_49 : Dc prog_99_method_9_code 49 (.iconst 2) 1 50 := dc (by decide +kernel) rfl
theorem D99_9_50 : Dc prog_99_method_9_code 50 (.iload 7) 2 52 := dc (by decide +kernel) rfl
theorem D99_9_52 : Dc prog_99_method_9_code 52 (.imul) 1 53 := dc (by decide +kernel) rfl
theorem D99_9_53 : Dc prog_99_method_9_code 53 (.iconst 1) 1 54 := dc (by decide +kernel) rfl
theorem D99_9_54 : Dc prog_99_method_9_code 54 (.iadd) 1 55 := dc (by decide +kernel) rfl
theorem D99_9_55 : Dc prog_99_method_9_code 55 (.iaload) 1 56 := dc (by decide +kernel) rfl
theorem D99_9_56 : Dc prog_99_method_9_code 56 (.iload 4) 2 58 := dc (by decide +kernel) rfl
theorem D99_9_58 : Db prog_99_method_9_code 58 (.if_icmp .ge) 61 70 := db (12) (by decide +kernel) rfl (by decide) (by decide)
theorem D99_9_61 : Dc prog_99_method_9_code 61 (.iload 7) 2 63 := dc (by decide +kernel) rfl
theorem D99_9_63 : Dc prog_99_method_9_code 63 (.iconst 1) 1 64 := dc (by decide +kernel) rfl
theorem D99_9_64 : Dc prog_99_method_9_code 64 (.iadd) 1 65 := dc (by decide +kernel) rfl
theorem D99_9_65 : Dc prog_99_method_9_code 65 (.istore 5) 2 67 := dc (by decide +kernel) rfl
theorem D99_9_67 : Db prog_99_method_9_code 67 (.goto) 70 74 := db (7) (by decide +kernel) rfl (by decide) (by decide)
theorem D99_9_70 : Dc prog_99_method_9_code 70 (.iload 7) 2 72 := dc (by decide +kernel) rfl
theorem D99_9_72 : Dc prog_99_method_9_code 72 (.istore 6) 2 74 := dc (by decide +kernel) rfl
theorem D99_9_74 : Db prog_99_method_9_code 74 (.goto) 77 6 := db (-68) (by decide +kernel) rfl (by decide) (by decide)
theorem D99_9_77 : Dc prog_99_method_9_code 77 (.iload 5) 2 79 := dc (by decide +kernel) rfl
theorem D99_9_79 : Dc prog_99_method_9_code 79 (.ireturn) 1 80 := dc (by decide +kernel) rfl
set_option maxRecDepth 65536 in
set_option maxHeartbeats 40000000 in
theorem ct_lb (l : Launch) (Z : State) (a0 : Array Value) (hw : ∀ d ∈ tables_1, d.before a0 Z = true) (n0 : Nat) (h : Heap) (a b1 b2 b3 : Addr) (ke zf : Nat → Nat) (L fr t2 cc : Nat) (qs qt : Int32) (σ : List Ch) (hL : L ≤ 4) (hf : fr ≤ t2) (ht : t2 ≤ L) (hB : ∀ r, r < L → (Bq qs qt (ke (zf r)) ↔ r < cc)) (H : Hp n0 h ((a, Ob Z "com/example/rankwise/rankwise/store/TripleIndex" NST [.ref b1, .ref b2, .ref b3]) :: (b3, Ia Z (lst (2 * L) (cF ke zf))) :: σ)) :
    Ct l Z n0 (⟨"com/example/rankwise/rankwise/store/TripleIndex", "lowerBound", "(IIII)I"⟩ : MethodName) prog_99_method_9_code 9 (some .int) ({ frames := 0, cells := 0, slots := 0, locals := 0 } : Room) [.ref a, .int (Int32.ofNat fr), .int (Int32.ofNat t2), .int qs, .int qt] h (fun v h' => v = some (.int (Int32.ofNat (max fr (min t2 cc)))) ∧ h = h') := by
  refine Ct.intro (plainFor_of_name pn_0) [.val (.ref a), .val (.int (Int32.ofNat fr)), .val (.int (Int32.ofNat t2)), .val (.int qs), .val (.int qt), .unset, .unset, .unset, .unset] (fun m => by first | (simp [entryFrame, mkF, argsToLocals, Value.category]; done) | (simp [entryFrame, mkF, argsToLocals, Value.category, maxLocals]; done) | rfl) ?_
  intro k hl K
  replace K : Ok k Z n0 "com/example/rankwise/rankwise/store/TripleIndex" ({ frames := 0, cells := 0, slots := 0, locals := 0 } : Room) prog_99_method_9_code 9 (some .int) "lowerBound" := K
  refine G.iloadN K D99_9_0 rfl ?_
  refine G.istore K D99_9_1 ([.val (.ref a), .val (.int (Int32.ofNat fr)), .val (.int (Int32.ofNat t2)), .val (.int qs), .val (.int qt), .val (.int (Int32.ofNat fr)), .unset, .unset, .unset]) rfl ?_
  refine G.iloadN K D99_9_3 rfl ?_
  refine G.istore K D99_9_4 ([.val (.ref a), .val (.int (Int32.ofNat fr)), .val (.int (Int32.ofNat t2)), .val (.int qs), .val (.int qt), .val (.int (Int32.ofNat fr)), .val (.int (Int32.ofNat t2)), .unset, .unset]) rfl ?_
  have loop : ∀ (d lo hi : Nat) (s7 s8 : Slot), hi - lo ≤ d → lo ≤ hi → hi ≤ L → (s7 = .unset ∨ ∃ w7, s7 = .val (.int w7)) → (s8 = .unset ∨ ∃ w8, s8 = .val (.int w8)) → max lo (min hi cc) = max fr (min t2 cc) → G k n0 (fun v h' => v = some (.int (Int32.ofNat (max fr (min t2 cc)))) ∧ h = h') h 0 0 6 [.val (.ref a), .val (.int (Int32.ofNat fr)), .val (.int (Int32.ofNat t2)), .val (.int qs), .val (.int qt), .val (.int (Int32.ofNat lo)), .val (.int (Int32.ofNat hi)), s7, s8] [] := by
    intro d
    induction d with
    | zero =>
      intro lo hi s7 s8 hd h1 h2 hs7 hs8 hm
      refine G.iload K D99_9_6 rfl ?_
      refine G.iload K D99_9_8 rfl ?_
      refine G.icmp_ge K D99_9_10 (fun q874 => ?_) (fun q => absurd ((own_nlt (i := lo) (n := hi) (by omega) (by omega)).mp q) (by omega))
      refine G.iload K D99_9_77 rfl ?_
      refine G.ret_int K D99_9_79 ?_
      have hle : hi ≤ lo := Nat.le_of_not_lt fun y => q874 ((own_nlt (by omega) (by omega)).mpr y)
      exact ⟨by rw [show max fr (min t2 cc) = lo by omega], rfl⟩
    | succ d ih =>
      intro lo hi s7 s8 hd h1 h2 hs7 hs8 hm
      refine G.iload K D99_9_6 rfl ?_
      refine G.iload K D99_9_8 rfl ?_
      refine G.icmp_ge K D99_9_10 (fun q875 => ?_) (fun q875 => ?_)
      · refine G.iload K D99_9_77 rfl ?_
        refine G.ret_int K D99_9_79 ?_
        have hle : hi ≤ lo := Nat.le_of_not_lt fun y => q875 ((own_nlt (by omega) (by omega)).mpr y)
        exact ⟨by rw [show max fr (min t2 cc) = lo by omega], rfl⟩
      · have hlt : lo < hi := (own_nlt (by omega) (by omega)).mp q875
        refine G.iload K D99_9_13 rfl ?_
        refine G.iload K D99_9_15 rfl ?_
        refine G.iadd K D99_9_17 ?_
        refine G.iconst K D99_9_18 1 rfl ?_
        refine G.iushr K D99_9_19 ?_
        rw [own_nadd, own_ushr1 (by omega)]
        obtain ⟨mid, hmid⟩ : ∃ q, q = (lo + hi) / 2 := ⟨_, rfl⟩
        rw [← hmid]
        refine G.istore K D99_9_20 ([.val (.ref a), .val (.int (Int32.ofNat fr)), .val (.int (Int32.ofNat t2)), .val (.int qs), .val (.int qt), .val (.int (Int32.ofNat lo)), .val (.int (Int32.ofNat hi)), .val (.int (Int32.ofNat mid)), s8]) (by rcases hs7 with rfl | ⟨_, rfl⟩ <;> rfl) ?_
        refine G.aloadN K D99_9_22 rfl rfl ?_
        refine G.getF K (host := "") (Or.inl (wd hw 26 rfl)) H (i := 0) rfl (j := 2) rfl rfl D99_9_23 ?_
        refine G.iconst K D99_9_26 2 rfl ?_
        refine G.iload K D99_9_27 rfl ?_
        refine G.imul K D99_9_29 ?_
        rw [show 2 * Int32.ofNat mid = Int32.ofNat (2 * mid) from own_nmul 2 mid]
        refine G.aload_i K H (i := 1) rfl (own_nneg (by omega)) (by rw [own_nidx (by omega), lst_get _ (by omega), cF_even]) D99_9_30 ?_
        refine G.istore K D99_9_31 ([.val (.ref a), .val (.int (Int32.ofNat fr)), .val (.int (Int32.ofNat t2)), .val (.int qs), .val (.int qt), .val (.int (Int32.ofNat lo)), .val (.int (Int32.ofNat hi)), .val (.int (Int32.ofNat mid)), .val (.int (sF ke (zf mid)))]) (by rcases hs8 with rfl | ⟨_, rfl⟩ <;> rfl) ?_
        refine G.iload K D99_9_33 rfl ?_
        refine G.iloadN K D99_9_35 rfl ?_
        refine G.icmp_lt K D99_9_36 (fun q876 => ?_) (fun q876 => ?_)
        · have hb : mid < cc := (hB mid (by omega)).mp (Or.inl q876)
          refine G.iload K D99_9_61 rfl ?_
          refine G.iconst K D99_9_63 1 rfl ?_
          refine G.iadd K D99_9_64 ?_
          rw [own_nsucc mid]
          refine G.istore K D99_9_65 ([.val (.ref a), .val (.int (Int32.ofNat fr)), .val (.int (Int32.ofNat t2)), .val (.int qs), .val (.int qt), .val (.int (Int32.ofNat (mid + 1))), .val (.int (Int32.ofNat hi)), .val (.int (Int32.ofNat mid)), .val (.int (sF ke (zf mid)))]) rfl ?_
          refine G.goto K D99_9_67 ?_
          refine G.goto K D99_9_74 ?_
          exact ih (mid + 1) hi _ _ (by omega) (by omega) (by omega) (Or.inr ⟨_, rfl⟩) (Or.inr ⟨_, rfl⟩) (by omega)
        · refine G.iload K D99_9_39 rfl ?_
          refine G.iloadN K D99_9_41 rfl ?_
          refine G.icmp_ne K D99_9_42 (fun q877 => ?_) (fun q877 => ?_)
          · have hb : ¬ mid < cc := fun y => ((hB mid (by omega)).mpr y).elim q876 fun z => q877 z.1
            refine G.iload K D99_9_70 rfl ?_
            refine G.istore K D99_9_72 ([.val (.ref a), .val (.int (Int32.ofNat fr)), .val (.int (Int32.ofNat t2)), .val (.int qs), .val (.int qt), .val (.int (Int32.ofNat lo)), .val (.int (Int32.ofNat mid)), .val (.int (Int32.ofNat mid)), .val (.int (sF ke (zf mid)))]) rfl ?_
            refine G.goto K D99_9_74 ?_
            exact ih lo mid _ _ (by omega) (by omega) (by omega) (Or.inr ⟨_, rfl⟩) (Or.inr ⟨_, rfl⟩) (by omega)
          · refine G.aloadN K D99_9_45 rfl rfl ?_
            refine G.getF K (host := "") (Or.inl (wd hw 26 rfl)) H (i := 0) rfl (j := 2) rfl rfl D99_9_46 ?_
            refine G.iconst K D99_9_49 2 rfl ?_
            refine G.iload K D99_9_50 rfl ?_
            refine G.imul K D99_9_52 ?_
            rw [show 2 * Int32.ofNat mid = Int32.ofNat (2 * mid) from own_nmul 2 mid]
            refine G.iconst K D99_9_53 1 rfl ?_
            refine G.iadd K D99_9_54 ?_
            rw [own_nsucc (2 * mid)]
            refine G.aload_i K H (i := 1) rfl (own_nneg (by omega)) (by rw [own_nidx (by omega), lst_get _ (by omega), cF_odd]) D99_9_55 ?_
            refine G.iload K D99_9_56 rfl ?_
            refine G.icmp_ge K D99_9_58 (fun q878 => ?_) (fun q878 => ?_)
            · have hb : ¬ mid < cc := fun y => ((hB mid (by omega)).mpr y).elim q876 fun z => q878 z.2
              refine G.iload K D99_9_70 rfl ?_
              refine G.istore K D99_9_72 ([.val (.ref a), .val (.int (Int32.ofNat fr)), .val (.int (Int32.ofNat t2)), .val (.int qs), .val (.int qt), .val (.int (Int32.ofNat lo)), .val (.int (Int32.ofNat mid)), .val (.int (Int32.ofNat mid)), .val (.int (sF ke (zf mid)))]) rfl ?_
              refine G.goto K D99_9_74 ?_
              exact ih lo mid _ _ (by omega) (by omega) (by omega) (Or.inr ⟨_, rfl⟩) (Or.inr ⟨_, rfl⟩) (by omega)
            · have hb : mid < cc := (hB mid (by omega)).mp (Or.inr ⟨q877, q878⟩)
              refine G.iload K D99_9_61 rfl ?_
              refine G.iconst K D99_9_63 1 rfl ?_
              refine G.iadd K D99_9_64 ?_
              rw [own_nsucc mid]
              refine G.istore K D99_9_65 ([.val (.ref a), .val (.int (Int32.ofNat fr)), .val (.int (Int32.ofNat t2)), .val (.int qs), .val (.int qt), .val (.int (Int32.ofNat (mid + 1))), .val (.int (Int32.ofNat hi)), .val (.int (Int32.ofNat mid)), .val (.int (sF ke (zf mid)))]) rfl ?_
              refine G.goto K D99_9_67 ?_
              refine G.goto K D99_9_74 ?_
              exact ih (mid + 1) hi _ _ (by omega) (by omega) (by omega) (Or.inr ⟨_, rfl⟩) (Or.inr ⟨_, rfl⟩) (by omega)
  exact loop (t2 - fr) fr t2 _ _ (by omega) (by omega) (by omega) (Or.inl rfl) (Or.inl rfl) rfl
theorem D2_0 : Dc method_2_code 0 (.iload_n 0) 1 1 := dc (by decide +kernel) rfl
theorem D2_1 : Db method_2_code 1 (.ifCond .eq) 4 8 := db (7) (by decide +kernel) rfl (by decide) (by decide)
theorem D2_4 : Dc method_2_code 4 (.iconst 1) 1 5 := dc (by decide +kernel) rfl
theorem D2_5 : Db method_2_code 5 (.goto) 8 9 := db (4) (by decide +kernel) rfl (by decide) (by decide)
theorem D2_8 : Dc method_2_code 8 (.iconst 0) 1 9 := dc (by decide +kernel) rfl
theorem D2_9 : Dc method_2_code 9 (.ireturn) 1 10 := dc (by decide +kernel) rfl
theorem pn_1 : plainName "com/example/rankwise/rankwise/store/TripleIndexLowerBoundPinLaw" = true := by first | (simp [plainName, overriddenIn]; done) | decide +kernel
set_option maxRecDepth 65536 in
set_option maxHeartbeats 40000000 in
theorem ct_one (l : Launch) (Z : State) (a0 : Array Value) (hw : ∀ d ∈ tables_1, d.before a0 Z = true) (n0 : Nat) (h : Heap) (b : Nat) (hb : b ≤ 1) :
    Ct l Z n0 (⟨"com/example/rankwise/rankwise/store/TripleIndexLowerBoundPinLaw", "one", "(Z)I"⟩ : MethodName) method_2_code 1 (some .int) ({ frames := 0, cells := 0, slots := 0, locals := 0 } : Room) [.int (Int32.ofNat b)] h (fun v h' => v = some (.int (Int32.ofNat b)) ∧ h = h') := by
  refine Ct.intro (plainFor_of_name pn_1) [.val (.int (Int32.ofNat b))] (fun m => by first | (simp [entryFrame, mkF, argsToLocals, Value.category]; done) | (simp [entryFrame, mkF, argsToLocals, Value.category, maxLocals]; done) | rfl) ?_
  intro k hl K
  replace K : Ok k Z n0 "com/example/rankwise/rankwise/store/TripleIndexLowerBoundPinLaw" ({ frames := 0, cells := 0, slots := 0, locals := 0 } : Room) method_2_code 1 (some .int) "one" := K
  refine G.iloadN K D2_0 rfl ?_
  refine G.if_eq K D2_1 (fun q879 => ?_) (fun q879 => ?_)
  · refine G.iconst K D2_8 0 rfl ?_
    refine G.ret_int K D2_9 ?_
    obtain rfl : b = 0 := (own_neq (n := 0) (by omega) (by decide)).mp q879
    exact ⟨rfl, rfl⟩
  · refine G.iconst K D2_4 1 rfl ?_
    refine G.goto K D2_5 ?_
    refine G.ret_int K D2_9 ?_
    have hne : ¬ b = 0 := fun y => q879 (by rw [y]; rfl)
    obtain rfl : b = 1 := by omega
    exact ⟨rfl, rfl⟩
theorem D4_0 : Dc method_4_code 0 (.iload_n 0) 1 1 := dc (by decide +kernel) rfl
theorem D4_1 : Dc method_4_code 1 (.iload_n 2) 1 2 := dc (by decide +kernel) rfl
theorem D4_2 : Db method_4_code 2 (.if_icmp .lt) 5 15 := db (13) (by decide +kernel) rfl (by decide) (by decide)
theorem D4_5 : Dc method_4_code 5 (.iload_n 0) 1 6 := dc (by decide +kernel) rfl
theorem D4_6 : Dc method_4_code 6 (.iload_n 2) 1 7 := dc (by decide +kernel) rfl
theorem D4_7 : Db method_4_code 7 (.if_icmp .ne) 10 19 := db (12) (by decide +kernel) rfl (by decide) (by decide)
theorem D4_10 : Dc method_4_code 10 (.iload_n 1) 1 11 := dc (by decide +kernel) rfl
theorem D4_11 : Dc method_4_code 11 (.iload_n 3) 1 12 := dc (by decide +kernel) rfl
theorem D4_12 : Db method_4_code 12 (.if_icmp .ge) 15 19 := db (7) (by decide +kernel) rfl (by decide) (by decide)
theorem D4_15 : Dc method_4_code 15 (.iconst 1) 1 16 := dc (by decide +kernel) rfl
theorem D4_16 : Db method_4_code 16 (.goto) 19 20 := db (4) (by decide +kernel) rfl (by decide) (by decide)
theorem D4_19 : Dc method_4_code 19 (.iconst 0) 1 20 := dc (by decide +kernel) rfl
theorem D4_20 : Dc method_4_code 20 (.ireturn) 1 21 := dc (by decide +kernel) rfl
set_option maxRecDepth 65536 in
set_option maxHeartbeats 40000000 in
theorem ct_less (l : Launch) (Z : State) (a0 : Array Value) (hw : ∀ d ∈ tables_1, d.before a0 Z = true) (n0 : Nat) (h : Heap) (y t qs qt : Int32) :
    Ct l Z n0 (⟨"com/example/rankwise/rankwise/store/TripleIndexLowerBoundPinLaw", "less", "(IIII)Z"⟩ : MethodName) method_4_code 4 (some .boolean) ({ frames := 0, cells := 0, slots := 0, locals := 0 } : Room) [.int y, .int t, .int qs, .int qt] h (fun v h' => ∃ z : Int32, v = some (.int z) ∧ (z = 0 ↔ ¬ (y < qs ∨ (y = qs ∧ t < qt))) ∧ h = h') := by
  refine Ct.intro (plainFor_of_name pn_1) [.val (.int y), .val (.int t), .val (.int qs), .val (.int qt)] (fun m => by first | (simp [entryFrame, mkF, argsToLocals, Value.category]; done) | (simp [entryFrame, mkF, argsToLocals, Value.category, maxLocals]; done) | rfl) ?_
  intro k hl K
  replace K : Ok k Z n0 "com/example/rankwise/rankwise/store/TripleIndexLowerBoundPinLaw" ({ frames := 0, cells := 0, slots := 0, locals := 0 } : Room) method_4_code 4 (some .boolean) "less" := K
  refine G.iloadN K D4_0 rfl ?_
  refine G.iloadN K D4_1 rfl ?_
  refine G.icmp_lt K D4_2 (fun q880 => ?_) (fun q880 => ?_)
  · refine G.iconst K D4_15 1 rfl ?_
    refine G.goto K D4_16 ?_
    refine G.ret_bool K D4_20 ?_
    exact ⟨1, rfl, ⟨fun y => absurd y (by decide), fun y => absurd (Or.inl q880) y⟩, rfl⟩
  · refine G.iloadN K D4_5 rfl ?_
    refine G.iloadN K D4_6 rfl ?_
    refine G.icmp_ne K D4_7 (fun q881 => ?_) (fun q881 => ?_)
    · refine G.iconst K D4_19 0 rfl ?_
      refine G.ret_bool K D4_20 ?_
      exact ⟨0, rfl, ⟨fun _ y => y.elim q880 fun z => q881 z.1, fun _ => rfl⟩, rfl⟩
    · refine G.iloadN K D4_10 rfl ?_
      refine G.iloadN K D4_11 rfl ?_
      refine G.icmp_ge K D4_12 (fun q882 => ?_) (fun q882 => ?_)
      · refine G.iconst K D4_19 0 rfl ?_
        refine G.ret_bool K D4_20 ?_
        exact ⟨0, rfl, ⟨fun _ y => y.elim q880 fun z => q882 z.2, fun _ => rfl⟩, rfl⟩
      · refine G.iconst K D4_15 1 rfl ?_
        refine G.goto K D4_16 ?_
        refine G.ret_bool K D4_20 ?_
        exact ⟨1, rfl, ⟨fun y => absurd y (by decide), fun y => absurd (Or.inr ⟨q881, q882⟩) y⟩, rfl⟩
theorem D3_0 : Dc method_3_code 0 (.aload_n 0) 1 1 := dc (by decide +kernel) rfl
theorem D3_1 : Dc method_3_code 1 (.iload_n 2) 1 2 := dc (by decide +kernel) rfl
theorem D3_2 : Dc method_3_code 2 (.iaload) 1 3 := dc (by decide +kernel) rfl
theorem D3_3 : Dc method_3_code 3 (.aload_n 0) 1 4 := dc (by decide +kernel) rfl
theorem D3_4 : Dc method_3_code 4 (.iload_n 3) 1 5 := dc (by decide +kernel) rfl
theorem D3_5 : Dc method_3_code 5 (.iaload) 1 6 := dc (by decide +kernel) rfl
theorem D3_6 : Db method_3_code 6 (.if_icmp .ne) 9 22 := db (16) (by decide +kernel) rfl (by decide) (by decide)
theorem D3_9 : Dc method_3_code 9 (.aload_n 1) 1 10 := dc (by decide +kernel) rfl
theorem D3_10 : Dc method_3_code 10 (.iload_n 2) 1 11 := dc (by decide +kernel) rfl
theorem D3_11 : Dc method_3_code 11 (.iaload) 1 12 := dc (by decide +kernel) rfl
theorem D3_12 : Dc method_3_code 12 (.aload_n 1) 1 13 := dc (by decide +kernel) rfl
theorem D3_13 : Dc method_3_code 13 (.iload_n 3) 1 14 := dc (by decide +kernel) rfl
theorem D3_14 : Dc method_3_code 14 (.iaload) 1 15 := dc (by decide +kernel) rfl
theorem D3_15 : Db method_3_code 15 (.if_icmp .ne) 18 22 := db (7) (by decide +kernel) rfl (by decide) (by decide)
theorem D3_18 : Dc method_3_code 18 (.iconst 1) 1 19 := dc (by decide +kernel) rfl
theorem D3_19 : Db method_3_code 19 (.goto) 22 23 := db (4) (by decide +kernel) rfl (by decide) (by decide)
theorem D3_22 : Dc method_3_code 22 (.iconst 0) 1 23 := dc (by decide +kernel) rfl
theorem D3_23 : Dc method_3_code 23 (.ireturn) 1 24 := dc (by decide +kernel) rfl
set_option maxRecDepth 65536 in
set_option maxHeartbeats 40000000 in
theorem ct_same (l : Launch) (Z : State) (a0 : Array Value) (hw : ∀ d ∈ tables_1, d.before a0 Z = true) (n0 : Nat) (h : Heap) (sa ta : Addr) (ke : Nat → Nat) (i j : Nat) (σ : List Ch) (hK : ∀ i, ke i < 256) (hi : i < 4) (hj : j < 4) (H : Hp n0 h ((sa, Ia Z (lst 4 (sF ke))) :: (ta, Ia Z (lst 4 (tF ke))) :: σ)) :
    Ct l Z n0 (⟨"com/example/rankwise/rankwise/store/TripleIndexLowerBoundPinLaw", "same", "([I[III)Z"⟩ : MethodName) method_3_code 4 (some .boolean) ({ frames := 0, cells := 0, slots := 0, locals := 0 } : Room) [.ref sa, .ref ta, .int (Int32.ofNat i), .int (Int32.ofNat j)] h (fun v h' => ∃ z : Int32, v = some (.int z) ∧ (z = 0 ↔ ¬ ke i = ke j) ∧ h = h') := by
  refine Ct.intro (plainFor_of_name pn_1) [.val (.ref sa), .val (.ref ta), .val (.int (Int32.ofNat i)), .val (.int (Int32.ofNat j))] (fun m => by first | (simp [entryFrame, mkF, argsToLocals, Value.category]; done) | (simp [entryFrame, mkF, argsToLocals, Value.category, maxLocals]; done) | rfl) ?_
  intro k hl K
  replace K : Ok k Z n0 "com/example/rankwise/rankwise/store/TripleIndexLowerBoundPinLaw" ({ frames := 0, cells := 0, slots := 0, locals := 0 } : Room) method_3_code 4 (some .boolean) "same" := K
  refine G.aloadN K D3_0 rfl rfl ?_
  refine G.iloadN K D3_1 rfl ?_
  refine G.aload_i K H (i := 0) rfl (own_nneg (by omega)) (by rw [own_nidx (by omega)]; exact lst_get _ (by omega)) D3_2 ?_
  refine G.aloadN K D3_3 rfl rfl ?_
  refine G.iloadN K D3_4 rfl ?_
  refine G.aload_i K H (i := 0) rfl (own_nneg (by omega)) (by rw [own_nidx (by omega)]; exact lst_get _ (by omega)) D3_5 ?_
  refine G.icmp_ne K D3_6 (fun q883 => ?_) (fun q883 => ?_)
  · refine G.iconst K D3_22 0 rfl ?_
    refine G.ret_bool K D3_23 ?_
    exact ⟨0, rfl, ⟨fun _ => key_ns q883, fun _ => rfl⟩, rfl⟩
  · refine G.aloadN K D3_9 rfl rfl ?_
    refine G.iloadN K D3_10 rfl ?_
    refine G.aload_i K H (i := 1) rfl (own_nneg (by omega)) (by rw [own_nidx (by omega)]; exact lst_get _ (by omega)) D3_11 ?_
    refine G.aloadN K D3_12 rfl rfl ?_
    refine G.iloadN K D3_13 rfl ?_
    refine G.aload_i K H (i := 1) rfl (own_nneg (by omega)) (by rw [own_nidx (by omega)]; exact lst_get _ (by omega)) D3_14 ?_
    refine G.icmp_ne K D3_15 (fun q884 => ?_) (fun q884 => ?_)
    · refine G.iconst K D3_22 0 rfl ?_
      refine G.ret_bool K D3_23 ?_
      exact ⟨0, rfl, ⟨fun _ => key_nt q884, fun _ => rfl⟩, rfl⟩
    · refine G.iconst K D3_18 1 rfl ?_
      refine G.goto K D3_19 ?_
      refine G.ret_bool K D3_23 ?_
      exact ⟨1, rfl, ⟨fun y => absurd y (by decide), fun y => absurd (key_eq hK q883 q884) y⟩, rfl⟩
def Dg (m : Nat) (f : Nat → Nat) (a b c d : Nat) : Nat := if m = 0 then D0 f else if m = 1 then D1 f a else if m = 2 then D2 f a b else if m = 3 then D3 f a b c else D4 f a b c d
theorem nb {mm k0 k1 k2 k3 b0 b1 b2 b3 : Nat} (hm : mm ≤ 4) (u0 : b0 ≤ 1 ∧ (b0 = 0 ↔ mm = 0)) (u1 : b1 ≤ 1 ∧ (b1 = 0 ↔ (mm ≤ 1 ∨ k1 = k0))) (u2 : b2 ≤ 1 ∧ (b2 = 0 ↔ (mm ≤ 2 ∨ k2 = k0 ∨ k2 = k1))) (u3 : b3 ≤ 1 ∧ (b3 = 0 ↔ (mm ≤ 3 ∨ k3 = k0 ∨ k3 = k1 ∨ k3 = k2))) : Dg mm (fun _ => 1) k0 k1 k2 k3 = b0 + b1 + b2 + b3 := by
  rcases (by omega : mm = 0 ∨ mm = 1 ∨ mm = 2 ∨ mm = 3 ∨ mm = 4) with e | e | e | e | e <;> rw [e] at u0 u1 u2 u3 ⊢
  · show D0 (fun _ => 1) = _; unfold D0; (try dsimp only); omega
  · show D1 (fun _ => 1) k0 = _; unfold D1; (try dsimp only); omega
  · show D2 (fun _ => 1) k0 k1 = _; unfold D2; (try dsimp only); split <;> omega
  · show D3 (fun _ => 1) k0 k1 k2 = _; unfold D3; (try dsimp only); split <;> split <;> omega
  · show D4 (fun _ => 1) k0 k1 k2 k3 = _; unfold D4; (try dsimp only); split <;> split <;> split <;> omega
theorem ncs {c : Prop} [Decidable c] {b d x mm i : Nat} (hm : i < mm) (u : b ≤ 1 ∧ (b = 0 ↔ (mm ≤ i ∨ c))) (v : d ≤ 1 ∧ (b = 0 → d = 0) ∧ (¬ b = 0 → d = x)) : (if c then 0 else x) = d := by
  by_cases q : c
  · rw [if_pos q]; exact (v.2.1 (u.2.mpr (Or.inr q))).symm
  · rw [if_neg q]; exact (v.2.2 (fun z => (u.2.mp z).elim (fun y => by omega) q)).symm
theorem nz_ {c : Prop} {b d x mm i : Nat} (hm : mm ≤ i) (u : b ≤ 1 ∧ (b = 0 ↔ (mm ≤ i ∨ c))) (v : d ≤ 1 ∧ (b = 0 → d = 0) ∧ (¬ b = 0 → d = x)) : d = 0 := v.2.1 (u.2.mpr (Or.inl hm))
theorem nx_ {b d x mm : Nat} (hm : 0 < mm) (u : b ≤ 1 ∧ (b = 0 ↔ mm = 0)) (v : d ≤ 1 ∧ (b = 0 → d = 0) ∧ (¬ b = 0 → d = x)) : x = d := (v.2.2 (fun z => by have := u.2.mp z; omega)).symm
theorem nc {p2 p3 : Int32} {mm k0 k1 k2 k3 b0 b1 b2 b3 d0 d1 d2 d3 : Nat} (hm : mm ≤ 4) (u0 : b0 ≤ 1 ∧ (b0 = 0 ↔ mm = 0)) (u1 : b1 ≤ 1 ∧ (b1 = 0 ↔ (mm ≤ 1 ∨ k1 = k0))) (u2 : b2 ≤ 1 ∧ (b2 = 0 ↔ (mm ≤ 2 ∨ k2 = k0 ∨ k2 = k1))) (u3 : b3 ≤ 1 ∧ (b3 = 0 ↔ (mm ≤ 3 ∨ k3 = k0 ∨ k3 = k1 ∨ k3 = k2))) (v0 : d0 ≤ 1 ∧ (b0 = 0 → d0 = 0) ∧ (¬ b0 = 0 → d0 = ix p2 p3 k0)) (v1 : d1 ≤ 1 ∧ (b1 = 0 → d1 = 0) ∧ (¬ b1 = 0 → d1 = ix p2 p3 k1)) (v2 : d2 ≤ 1 ∧ (b2 = 0 → d2 = 0) ∧ (¬ b2 = 0 → d2 = ix p2 p3 k2)) (v3 : d3 ≤ 1 ∧ (b3 = 0 → d3 = 0) ∧ (¬ b3 = 0 → d3 = ix p2 p3 k3)) : Dg mm (ix p2 p3) k0 k1 k2 k3 = d0 + d1 + d2 + d3 := by
  rcases (by omega : mm = 0 ∨ mm = 1 ∨ mm = 2 ∨ mm = 3 ∨ mm = 4) with e | e | e | e | e
  · rw [e]; show D0 (ix p2 p3) = _; unfold D0; rw [show d0 = 0 from v0.2.1 (u0.2.mpr e), nz_ (i := 1) (by omega) u1 v1, nz_ (i := 2) (by omega) u2 v2, nz_ (i := 3) (by omega) u3 v3] <;> rfl
  · rw [e]; show D1 (ix p2 p3) k0 = _; unfold D1; rw [nx_ (by omega) u0 v0, nz_ (i := 1) (by omega) u1 v1, nz_ (i := 2) (by omega) u2 v2, nz_ (i := 3) (by omega) u3 v3] <;> rfl
  · rw [e]; show D2 (ix p2 p3) k0 k1 = _; unfold D2; rw [ncs (i := 1) (by omega) u1 v1, nx_ (by omega) u0 v0, nz_ (i := 2) (by omega) u2 v2, nz_ (i := 3) (by omega) u3 v3] <;> rfl
  · rw [e]; show D3 (ix p2 p3) k0 k1 k2 = _; unfold D3; rw [ncs (i := 1) (by omega) u1 v1, ncs (i := 2) (by omega) u2 v2, nx_ (by omega) u0 v0, nz_ (i := 3) (by omega) u3 v3] <;> rfl
  · rw [e]; show D4 (ix p2 p3) k0 k1 k2 k3 = _; unfold D4; rw [ncs (i := 1) (by omega) u1 v1, ncs (i := 2) (by omega) u2 v2, ncs (i := 3) (by omega) u3 v3, nx_ (by omega) u0 v0] <;> rfl
theorem ct_ctor (l : Launch) (Z : State) (a0 : Array Value) (hw : ∀ d ∈ tables_1, d.before a0 Z = true) (n0 : Nat) (h : Heap) (a ca fa sa ta : Addr) (ke : Nat → Nat) (mm : Nat) (σ : List Ch) (hK : ∀ i, ke i < 256) (hm : mm ≤ 4) (H : Hp n0 h ((a, Ob Z "com/example/rankwise/rankwise/store/TripleIndex" NST [.null, .null, .null]) :: (fa, Ia Z (lst 4 (fun _ => 0))) :: (sa, Ia Z (lst 4 (sF ke))) :: (ta, Ia Z (lst 4 (tF ke))) :: (ca, Xa Z [0, 1, 2]) :: σ)) :
    Ct l Z n0 (⟨"com/example/rankwise/rankwise/store/TripleIndex", "<init>", "([I[I[II[I)V"⟩ : MethodName) prog_99_method_1_code 13 none ({ frames := 3, cells := 8, slots := 40, locals := 60 } : Room) [.ref a, .ref fa, .ref sa, .ref ta, .int (Int32.ofNat mm), .ref ca] h (fun v h' => ∃ (b1 b2 b3 : Addr) (L : Nat) (zf : Nat → Nat), v = none ∧ DD ke zf L (fun f => Dg mm f (ke 0) (ke 1) (ke 2) (ke 3)) ∧ Hp n0 h' ((a, Ob Z "com/example/rankwise/rankwise/store/TripleIndex" NST [.ref b1, .ref b2, .ref b3]) :: (b3, Ia Z (lst (2 * L) (cF ke zf))) :: (fa, Ia Z (lst 4 (fun _ => 0))) :: (sa, Ia Z (lst 4 (sF ke))) :: (ta, Ia Z (lst 4 (tF ke))) :: σ)) := by
  rcases (by omega : mm = 0 ∨ mm = 1 ∨ mm = 2 ∨ mm = 3 ∨ mm = 4) with rfl | rfl | rfl | rfl | rfl
  · exact ct_ctor0 l Z a0 hw n0 h a ca fa sa ta ke σ hK H
  · exact ct_ctor1 l Z a0 hw n0 h a ca fa sa ta ke σ hK H
  · exact ct_ctor2 l Z a0 hw n0 h a ca fa sa ta ke σ hK H
  · exact ct_ctor3 l Z a0 hw n0 h a ca fa sa ta ke σ hK H
  · exact ct_ctor4 l Z a0 hw n0 h a ca fa sa ta ke σ hK H
theorem Dx_0 : Dc code 0 (.iload 4) 2 2 := dc at_0 rfl
theorem Dx_2 : Dc code 2 (.bipush 6) 2 4 := dc at_2 rfl
theorem Dx_4 : Dc code 4 (.iushr) 1 5 := dc at_4 rfl
theorem Dx_5 : Dc code 5 (.bipush 7) 2 7 := dc at_5 rfl
theorem Dx_7 : Dc code 7 (.iand) 1 8 := dc at_7 rfl
theorem Dx_8 : Dc code 8 (.iconst 5) 1 9 := dc at_8 rfl
theorem Dx_9 : Dc code 9 (.irem) 1 10 := dc at_9 rfl
theorem Dx_10 : Dc code 10 (.istore 5) 2 12 := dc at_10 rfl
theorem Dx_12 : Dc code 12 (.iconst 4) 1 13 := dc at_12 rfl
theorem Dx_13 : Dc code 13 (.newarray .int) 2 15 := dc at_13 rfl
theorem Dx_15 : Dc code 15 (.astore 6) 2 17 := dc at_15 rfl
theorem Dx_17 : Dc code 17 (.iconst 4) 1 18 := dc at_17 rfl
theorem Dx_18 : Dc code 18 (.newarray .int) 2 20 := dc at_18 rfl
theorem Dx_20 : Dc code 20 (.astore 7) 2 22 := dc at_20 rfl
theorem Dx_22 : Dc code 22 (.iconst 4) 1 23 := dc at_22 rfl
theorem Dx_23 : Dc code 23 (.newarray .int) 2 25 := dc at_23 rfl
theorem Dx_25 : Dc code 25 (.astore 8) 2 27 := dc at_25 rfl
theorem Dx_27 : Dc code 27 (.aload 7) 2 29 := dc at_27 rfl
theorem Dx_29 : Dc code 29 (.iconst 0) 1 30 := dc at_29 rfl
theorem Dx_30 : Dc code 30 (.iload_n 0) 1 31 := dc at_30 rfl
theorem Dx_31 : Dc code 31 (.bipush 15) 2 33 := dc at_31 rfl
theorem Dx_33 : Dc code 33 (.iand) 1 34 := dc at_33 rfl
theorem Dx_34 : Dc code 34 (.iastore) 1 35 := dc at_34 rfl
theorem Dx_35 : Dc code 35 (.aload 8) 2 37 := dc at_35 rfl
theorem Dx_37 : Dc code 37 (.iconst 0) 1 38 := dc at_37 rfl
theorem Dx_38 : Dc code 38 (.iload_n 0) 1 39 := dc at_38 rfl
theorem Dx_39 : Dc code 39 (.iconst 4) 1 40 := dc at_39 rfl
theorem Dx_40 : Dc code 40 (.iushr) 1 41 := dc at_40 rfl
theorem Dx_41 : Dc code 41 (.bipush 15) 2 43 := dc at_41 rfl
theorem Dx_43 : Dc code 43 (.iand) 1 44 := dc at_43 rfl
theorem Dx_44 : Dc code 44 (.iastore) 1 45 := dc at_44 rfl
theorem Dx_45 : Dc code 45 (.aload 7) 2 47 := dc at_45 rfl
theorem Dx_47 : Dc code 47 (.iconst 1) 1 48 := dc at_47 rfl
theorem Dx_48 : Dc code 48 (.iload_n 0) 1 49 := dc at_48 rfl
theorem Dx_49 : Dc code 49 (.bipush 8) 2 51 := dc at_49 rfl
theorem Dx_51 : Dc code 51 (.iushr) 1 52 := dc at_51 rfl
theorem Dx_52 : Dc code 52 (.bipush 15) 2 54 := dc at_52 rfl
theorem Dx_54 : Dc code 54 (.iand) 1 55 := dc at_54 rfl
theorem Dx_55 : Dc code 55 (.iastore) 1 56 := dc at_55 rfl
theorem Dx_56 : Dc code 56 (.aload 8) 2 58 := dc at_56 rfl
theorem Dx_58 : Dc code 58 (.iconst 1) 1 59 := dc at_58 rfl
theorem Dx_59 : Dc code 59 (.iload_n 0) 1 60 := dc at_59 rfl
theorem Dx_60 : Dc code 60 (.bipush 12) 2 62 := dc at_60 rfl
theorem Dx_62 : Dc code 62 (.iushr) 1 63 := dc at_62 rfl
theorem Dx_63 : Dc code 63 (.bipush 15) 2 65 := dc at_63 rfl
theorem Dx_65 : Dc code 65 (.iand) 1 66 := dc at_65 rfl
theorem Dx_66 : Dc code 66 (.iastore) 1 67 := dc at_66 rfl
theorem Dx_67 : Dc code 67 (.aload 7) 2 69 := dc at_67 rfl
theorem Dx_69 : Dc code 69 (.iconst 2) 1 70 := dc at_69 rfl
theorem Dx_70 : Dc code 70 (.iload_n 1) 1 71 := dc at_70 rfl
theorem Dx_71 : Dc code 71 (.bipush 15) 2 73 := dc at_71 rfl
theorem Dx_73 : Dc code 73 (.iand) 1 74 := dc at_73 rfl
theorem Dx_74 : Dc code 74 (.iastore) 1 75 := dc at_74 rfl
theorem Dx_75 : Dc code 75 (.aload 8) 2 77 := dc at_75 rfl
theorem Dx_77 : Dc code 77 (.iconst 2) 1 78 := dc at_77 rfl
theorem Dx_78 : Dc code 78 (.iload_n 1) 1 79 := dc at_78 rfl
theorem Dx_79 : Dc code 79 (.iconst 4) 1 80 := dc at_79 rfl
theorem Dx_80 : Dc code 80 (.iushr) 1 81 := dc at_80 rfl
theorem Dx_81 : Dc code 81 (.bipush 15) 2 83 := dc at_81 rfl
theorem Dx_83 : Dc code 83 (.iand) 1 84 := dc at_83 rfl
theorem Dx_84 : Dc code 84 (.iastore) 1 85 := dc at_84 rfl
theorem Dx_85 : Dc code 85 (.aload 7) 2 87 := dc at_85 rfl
theorem Dx_87 : Dc code 87 (.iconst 3) 1 88 := dc at_87 rfl
theorem Dx_88 : Dc code 88 (.iload_n 1) 1 89 := dc at_88 rfl
theorem Dx_89 : Dc code 89 (.bipush 8) 2 91 := dc at_89 rfl
theorem Dx_91 : Dc code 91 (.iushr) 1 92 := dc at_91 rfl
theorem Dx_92 : Dc code 92 (.bipush 15) 2 94 := dc at_92 rfl
theorem Dx_94 : Dc code 94 (.iand) 1 95 := dc at_94 rfl
theorem Dx_95 : Dc code 95 (.iastore) 1 96 := dc at_95 rfl
theorem Dx_96 : Dc code 96 (.aload 8) 2 98 := dc at_96 rfl
theorem Dx_98 : Dc code 98 (.iconst 3) 1 99 := dc at_98 rfl
theorem Dx_99 : Dc code 99 (.iload_n 1) 1 100 := dc at_99 rfl
theorem Dx_100 : Dc code 100 (.bipush 12) 2 102 := dc at_100 rfl
theorem Dx_102 : Dc code 102 (.iushr) 1 103 := dc at_102 rfl
theorem Dx_103 : Dc code 103 (.bipush 15) 2 105 := dc at_103 rfl
theorem Dx_105 : Dc code 105 (.iand) 1 106 := dc at_105 rfl
theorem Dx_106 : Dc code 106 (.iastore) 1 107 := dc at_106 rfl
theorem Dx_107 : Dc code 107 (.iconst 3) 1 108 := dc at_107 rfl
theorem Dx_108 : Dc code 108 (.newarray .int) 2 110 := dc at_108 rfl
theorem Dx_110 : Dc code 110 (.dup) 1 111 := dc at_110 rfl
theorem Dx_111 : Dc code 111 (.iconst 0) 1 112 := dc at_111 rfl
theorem Dx_112 : Dc code 112 (.iconst 0) 1 113 := dc at_112 rfl
theorem Dx_113 : Dc code 113 (.iastore) 1 114 := dc at_113 rfl
theorem Dx_114 : Dc code 114 (.dup) 1 115 := dc at_114 rfl
theorem Dx_115 : Dc code 115 (.iconst 1) 1 116 := dc at_115 rfl
theorem Dx_116 : Dc code 116 (.iconst 1) 1 117 := dc at_116 rfl
theorem Dx_117 : Dc code 117 (.iastore) 1 118 := dc at_117 rfl
theorem Dx_118 : Dc code 118 (.dup) 1 119 := dc at_118 rfl
theorem Dx_119 : Dc code 119 (.iconst 2) 1 120 := dc at_119 rfl
theorem Dx_120 : Dc code 120 (.iconst 2) 1 121 := dc at_120 rfl
theorem Dx_121 : Dc code 121 (.iastore) 1 122 := dc at_121 rfl
theorem Dx_122 : Dc code 122 (.astore 9) 2 124 := dc at_122 rfl
theorem Dx_124 : Dc code 124 (.new 7) 3 127 := dc at_124 rfl
theorem Dx_127 : Dc code 127 (.dup) 1 128 := dc at_127 rfl
theorem Dx_128 : Dc code 128 (.aload 6) 2 130 := dc at_128 rfl
theorem Dx_130 : Dc code 130 (.aload 7) 2 132 := dc at_130 rfl
theorem Dx_132 : Dc code 132 (.aload 8) 2 134 := dc at_132 rfl
theorem Dx_134 : Dc code 134 (.iload 5) 2 136 := dc at_134 rfl
theorem Dx_136 : Dc code 136 (.aload 9) 2 138 := dc at_136 rfl
theorem Dx_138 : Dc code 138 (.invokespecial 9) 3 141 := dc at_138 rfl
theorem Dx_141 : Dc code 141 (.astore 10) 2 143 := dc at_141 rfl
theorem Dx_143 : Dc code 143 (.iload 5) 2 145 := dc at_143 rfl
theorem Dx_145 : Db code 145 (.ifCond .le) 148 152 := db (7) at_145 rfl (by decide) (by decide)
theorem Dx_148 : Dc code 148 (.iconst 1) 1 149 := dc at_148 rfl
theorem Dx_149 : Db code 149 (.goto) 152 153 := db (4) at_149 rfl (by decide) (by decide)
theorem Dx_152 : Dc code 152 (.iconst 0) 1 153 := dc at_152 rfl
theorem Dx_153 : Dc code 153 (.istore 11) 2 155 := dc at_153 rfl
theorem Dx_155 : Dc code 155 (.iload 5) 2 157 := dc at_155 rfl
theorem Dx_157 : Dc code 157 (.iconst 1) 1 158 := dc at_157 rfl
theorem Dx_158 : Db code 158 (.if_icmp .le) 161 177 := db (19) at_158 rfl (by decide) (by decide)
theorem Dx_161 : Dc code 161 (.aload 7) 2 163 := dc at_161 rfl
theorem Dx_163 : Dc code 163 (.aload 8) 2 165 := dc at_163 rfl
theorem Dx_165 : Dc code 165 (.iconst 1) 1 166 := dc at_165 rfl
theorem Dx_166 : Dc code 166 (.iconst 0) 1 167 := dc at_166 rfl
theorem Dx_167 : Dc code 167 (.invokestatic 12) 3 170 := dc at_167 rfl
theorem Dx_170 : Db code 170 (.ifCond .ne) 173 177 := db (7) at_170 rfl (by decide) (by decide)
theorem Dx_173 : Dc code 173 (.iconst 1) 1 174 := dc at_173 rfl
theorem Dx_174 : Db code 174 (.goto) 177 178 := db (4) at_174 rfl (by decide) (by decide)
theorem Dx_177 : Dc code 177 (.iconst 0) 1 178 := dc at_177 rfl
theorem Dx_178 : Dc code 178 (.istore 12) 2 180 := dc at_178 rfl
theorem Dx_180 : Dc code 180 (.iload 5) 2 182 := dc at_180 rfl
theorem Dx_182 : Dc code 182 (.iconst 2) 1 183 := dc at_182 rfl
theorem Dx_183 : Db code 183 (.if_icmp .le) 186 214 := db (31) at_183 rfl (by decide) (by decide)
theorem Dx_186 : Dc code 186 (.aload 7) 2 188 := dc at_186 rfl
theorem Dx_188 : Dc code 188 (.aload 8) 2 190 := dc at_188 rfl
theorem Dx_190 : Dc code 190 (.iconst 2) 1 191 := dc at_190 rfl
theorem Dx_191 : Dc code 191 (.iconst 0) 1 192 := dc at_191 rfl
theorem Dx_192 : Dc code 192 (.invokestatic 12) 3 195 := dc at_192 rfl
theorem Dx_195 : Db code 195 (.ifCond .ne) 198 214 := db (19) at_195 rfl (by decide) (by decide)
theorem Dx_198 : Dc code 198 (.aload 7) 2 200 := dc at_198 rfl
theorem Dx_200 : Dc code 200 (.aload 8) 2 202 := dc at_200 rfl
theorem Dx_202 : Dc code 202 (.iconst 2) 1 203 := dc at_202 rfl
theorem Dx_203 : Dc code 203 (.iconst 1) 1 204 := dc at_203 rfl
theorem Dx_204 : Dc code 204 (.invokestatic 12) 3 207 := dc at_204 rfl
theorem Dx_207 : Db code 207 (.ifCond .ne) 210 214 := db (7) at_207 rfl (by decide) (by decide)
theorem Dx_210 : Dc code 210 (.iconst 1) 1 211 := dc at_210 rfl
theorem Dx_211 : Db code 211 (.goto) 214 215 := db (4) at_211 rfl (by decide) (by decide)
theorem Dx_214 : Dc code 214 (.iconst 0) 1 215 := dc at_214 rfl
theorem Dx_215 : Dc code 215 (.istore 13) 2 217 := dc at_215 rfl
theorem Dx_217 : Dc code 217 (.iload 5) 2 219 := dc at_217 rfl
theorem Dx_219 : Dc code 219 (.iconst 3) 1 220 := dc at_219 rfl
theorem Dx_220 : Db code 220 (.if_icmp .le) 223 263 := db (43) at_220 rfl (by decide) (by decide)
theorem Dx_223 : Dc code 223 (.aload 7) 2 225 := dc at_223 rfl
theorem Dx_225 : Dc code 225 (.aload 8) 2 227 := dc at_225 rfl
theorem Dx_227 : Dc code 227 (.iconst 3) 1 228 := dc at_227 rfl
theorem Dx_228 : Dc code 228 (.iconst 0) 1 229 := dc at_228 rfl
theorem Dx_229 : Dc code 229 (.invokestatic 12) 3 232 := dc at_229 rfl
theorem Dx_232 : Db code 232 (.ifCond .ne) 235 263 := db (31) at_232 rfl (by decide) (by decide)
theorem Dx_235 : Dc code 235 (.aload 7) 2 237 := dc at_235 rfl
theorem Dx_237 : Dc code 237 (.aload 8) 2 239 := dc at_237 rfl
theorem Dx_239 : Dc code 239 (.iconst 3) 1 240 := dc at_239 rfl
theorem Dx_240 : Dc code 240 (.iconst 1) 1 241 := dc at_240 rfl
theorem Dx_241 : Dc code 241 (.invokestatic 12) 3 244 := dc at_241 rfl
theorem Dx_244 : Db code 244 (.ifCond .ne) 247 263 := db (19) at_244 rfl (by decide) (by decide)
theorem Dx_247 : Dc code 247 (.aload 7) 2 249 := dc at_247 rfl
theorem Dx_249 : Dc code 249 (.aload 8) 2 251 := dc at_249 rfl
theorem Dx_251 : Dc code 251 (.iconst 3) 1 252 := dc at_251 rfl
theorem Dx_252 : Dc code 252 (.iconst 2) 1 253 := dc at_252 rfl
theorem Dx_253 : Dc code 253 (.invokestatic 12) 3 256 := dc at_253 rfl
theorem Dx_256 : Db code 256 (.ifCond .ne) 259 263 := db (7) at_256 rfl (by decide) (by decide)
theorem Dx_259 : Dc code 259 (.iconst 1) 1 260 := dc at_259 rfl
theorem Dx_260 : Db code 260 (.goto) 263 264 := db (4) at_260 rfl (by decide) (by decide)
theorem Dx_263 : Dc code 263 (.iconst 0) 1 264 := dc at_263 rfl
theorem Dx_264 : Dc code 264 (.istore 14) 2 266 := dc at_264 rfl
theorem Dx_266 : Dc code 266 (.iload 11) 2 268 := dc at_266 rfl
theorem Dx_268 : Dc code 268 (.invokestatic 18) 3 271 := dc at_268 rfl
theorem Dx_271 : Dc code 271 (.iload 12) 2 273 := dc at_271 rfl
theorem Dx_273 : Dc code 273 (.invokestatic 18) 3 276 := dc at_273 rfl
theorem Dx_276 : Dc code 276 (.iadd) 1 277 := dc at_276 rfl
theorem Dx_277 : Dc code 277 (.iload 13) 2 279 := dc at_277 rfl
theorem Dx_279 : Dc code 279 (.invokestatic 18) 3 282 := dc at_279 rfl
theorem Dx_282 : Dc code 282 (.iadd) 1 283 := dc at_282 rfl
theorem Dx_283 : Dc code 283 (.iload 14) 2 285 := dc at_283 rfl
theorem Dx_285 : Dc code 285 (.invokestatic 18) 3 288 := dc at_285 rfl
theorem Dx_288 : Dc code 288 (.iadd) 1 289 := dc at_288 rfl
theorem Dx_289 : Dc code 289 (.istore 15) 2 291 := dc at_289 rfl
theorem Dx_291 : Dc code 291 (.iload 11) 2 293 := dc at_291 rfl
theorem Dx_293 : Db code 293 (.ifCond .eq) 296 316 := db (23) at_293 rfl (by decide) (by decide)
theorem Dx_296 : Dc code 296 (.aload 7) 2 298 := dc at_296 rfl
theorem Dx_298 : Dc code 298 (.iconst 0) 1 299 := dc at_298 rfl
theorem Dx_299 : Dc code 299 (.iaload) 1 300 := dc at_299 rfl
theorem Dx_300 : Dc code 300 (.aload 8) 2 302 := dc at_300 rfl
theorem Dx_302 : Dc code 302 (.iconst 0) 1 303 := dc at_302 rfl
theorem Dx_303 : Dc code 303 (.iaload) 1 304 := dc at_303 rfl
theorem Dx_304 : Dc code 304 (.iload_n 2) 1 305 := dc at_304 rfl
theorem Dx_305 : Dc code 305 (.iload_n 3) 1 306 := dc at_305 rfl
theorem Dx_306 : Dc code 306 (.invokestatic 22) 3 309 := dc at_306 rfl
theorem Dx_309 : Db code 309 (.ifCond .eq) 312 316 := db (7) at_309 rfl (by decide) (by decide)
theorem Dx_312 : Dc code 312 (.iconst 1) 1 313 := dc at_312 rfl
theorem Dx_313 : Db code 313 (.goto) 316 317 := db (4) at_313 rfl (by decide) (by decide)
theorem Dx_316 : Dc code 316 (.iconst 0) 1 317 := dc at_316 rfl
theorem Dx_317 : Dc code 317 (.invokestatic 18) 3 320 := dc at_317 rfl
theorem Dx_320 : Dc code 320 (.iload 12) 2 322 := dc at_320 rfl
theorem Dx_322 : Db code 322 (.ifCond .eq) 325 345 := db (23) at_322 rfl (by decide) (by decide)
theorem Dx_325 : Dc code 325 (.aload 7) 2 327 := dc at_325 rfl
theorem Dx_327 : Dc code 327 (.iconst 1) 1 328 := dc at_327 rfl
theorem Dx_328 : Dc code 328 (.iaload) 1 329 := dc at_328 rfl
theorem Dx_329 : Dc code 329 (.aload 8) 2 331 := dc at_329 rfl
theorem Dx_331 : Dc code 331 (.iconst 1) 1 332 := dc at_331 rfl
theorem Dx_332 : Dc code 332 (.iaload) 1 333 := dc at_332 rfl
theorem Dx_333 : Dc code 333 (.iload_n 2) 1 334 := dc at_333 rfl
theorem Dx_334 : Dc code 334 (.iload_n 3) 1 335 := dc at_334 rfl
theorem Dx_335 : Dc code 335 (.invokestatic 22) 3 338 := dc at_335 rfl
theorem Dx_338 : Db code 338 (.ifCond .eq) 341 345 := db (7) at_338 rfl (by decide) (by decide)
theorem Dx_341 : Dc code 341 (.iconst 1) 1 342 := dc at_341 rfl
theorem Dx_342 : Db code 342 (.goto) 345 346 := db (4) at_342 rfl (by decide) (by decide)
theorem Dx_345 : Dc code 345 (.iconst 0) 1 346 := dc at_345 rfl
theorem Dx_346 : Dc code 346 (.invokestatic 18) 3 349 := dc at_346 rfl
theorem Dx_349 : Dc code 349 (.iadd) 1 350 := dc at_349 rfl
theorem Dx_350 : Dc code 350 (.iload 13) 2 352 := dc at_350 rfl
theorem Dx_352 : Db code 352 (.ifCond .eq) 355 375 := db (23) at_352 rfl (by decide) (by decide)
theorem Dx_355 : Dc code 355 (.aload 7) 2 357 := dc at_355 rfl
theorem Dx_357 : Dc code 357 (.iconst 2) 1 358 := dc at_357 rfl
theorem Dx_358 : Dc code 358 (.iaload) 1 359 := dc at_358 rfl
theorem Dx_359 : Dc code 359 (.aload 8) 2 361 := dc at_359 rfl
theorem Dx_361 : Dc code 361 (.iconst 2) 1 362 := dc at_361 rfl
theorem Dx_362 : Dc code 362 (.iaload) 1 363 := dc at_362 rfl
theorem Dx_363 : Dc code 363 (.iload_n 2) 1 364 := dc at_363 rfl
theorem Dx_364 : Dc code 364 (.iload_n 3) 1 365 := dc at_364 rfl
theorem Dx_365 : Dc code 365 (.invokestatic 22) 3 368 := dc at_365 rfl
theorem Dx_368 : Db code 368 (.ifCond .eq) 371 375 := db (7) at_368 rfl (by decide) (by decide)
theorem Dx_371 : Dc code 371 (.iconst 1) 1 372 := dc at_371 rfl
theorem Dx_372 : Db code 372 (.goto) 375 376 := db (4) at_372 rfl (by decide) (by decide)
theorem Dx_375 : Dc code 375 (.iconst 0) 1 376 := dc at_375 rfl
theorem Dx_376 : Dc code 376 (.invokestatic 18) 3 379 := dc at_376 rfl
theorem Dx_379 : Dc code 379 (.iadd) 1 380 := dc at_379 rfl
theorem Dx_380 : Dc code 380 (.iload 14) 2 382 := dc at_380 rfl
theorem Dx_382 : Db code 382 (.ifCond .eq) 385 405 := db (23) at_382 rfl (by decide) (by decide)
theorem Dx_385 : Dc code 385 (.aload 7) 2 387 := dc at_385 rfl
theorem Dx_387 : Dc code 387 (.iconst 3) 1 388 := dc at_387 rfl
theorem Dx_388 : Dc code 388 (.iaload) 1 389 := dc at_388 rfl
theorem Dx_389 : Dc code 389 (.aload 8) 2 391 := dc at_389 rfl
theorem Dx_391 : Dc code 391 (.iconst 3) 1 392 := dc at_391 rfl
theorem Dx_392 : Dc code 392 (.iaload) 1 393 := dc at_392 rfl
theorem Dx_393 : Dc code 393 (.iload_n 2) 1 394 := dc at_393 rfl
theorem Dx_394 : Dc code 394 (.iload_n 3) 1 395 := dc at_394 rfl
theorem Dx_395 : Dc code 395 (.invokestatic 22) 3 398 := dc at_395 rfl
theorem Dx_398 : Db code 398 (.ifCond .eq) 401 405 := db (7) at_398 rfl (by decide) (by decide)
theorem Dx_401 : Dc code 401 (.iconst 1) 1 402 := dc at_401 rfl
theorem Dx_402 : Db code 402 (.goto) 405 406 := db (4) at_402 rfl (by decide) (by decide)
theorem Dx_405 : Dc code 405 (.iconst 0) 1 406 := dc at_405 rfl
theorem Dx_406 : Dc code 406 (.invokestatic 18) 3 409 := dc at_406 rfl
theorem Dx_409 : Dc code 409 (.iadd) 1 410 := dc at_409 rfl
theorem Dx_410 : Dc code 410 (.istore 16) 2 412 := dc at_410 rfl
theorem Dx_412 : Dc code 412 (.iload 4) 2 414 := dc at_412 rfl
theorem Dx_414 : Dc code 414 (.bipush 7) 2 416 := dc at_414 rfl
theorem Dx_416 : Dc code 416 (.iand) 1 417 := dc at_416 rfl
theorem Dx_417 : Dc code 417 (.iload 15) 2 419 := dc at_417 rfl
theorem Dx_419 : Dc code 419 (.iconst 1) 1 420 := dc at_419 rfl
theorem Dx_420 : Dc code 420 (.iadd) 1 421 := dc at_420 rfl
theorem Dx_421 : Dc code 421 (.irem) 1 422 := dc at_421 rfl
theorem Dx_422 : Dc code 422 (.istore 17) 2 424 := dc at_422 rfl
theorem Dx_424 : Dc code 424 (.iload 17) 2 426 := dc at_424 rfl
theorem Dx_426 : Dc code 426 (.iload 4) 2 428 := dc at_426 rfl
theorem Dx_428 : Dc code 428 (.iconst 3) 1 429 := dc at_428 rfl
theorem Dx_429 : Dc code 429 (.iushr) 1 430 := dc at_429 rfl
theorem Dx_430 : Dc code 430 (.bipush 7) 2 432 := dc at_430 rfl
theorem Dx_432 : Dc code 432 (.iand) 1 433 := dc at_432 rfl
theorem Dx_433 : Dc code 433 (.iload 15) 2 435 := dc at_433 rfl
theorem Dx_435 : Dc code 435 (.iload 17) 2 437 := dc at_435 rfl
theorem Dx_437 : Dc code 437 (.isub) 1 438 := dc at_437 rfl
theorem Dx_438 : Dc code 438 (.iconst 1) 1 439 := dc at_438 rfl
theorem Dx_439 : Dc code 439 (.iadd) 1 440 := dc at_439 rfl
theorem Dx_440 : Dc code 440 (.irem) 1 441 := dc at_440 rfl
theorem Dx_441 : Dc code 441 (.iadd) 1 442 := dc at_441 rfl
theorem Dx_442 : Dc code 442 (.istore 18) 2 444 := dc at_442 rfl
theorem Dx_444 : Dc code 444 (.iload 17) 2 446 := dc at_444 rfl
theorem Dx_446 : Dc code 446 (.iload 18) 2 448 := dc at_446 rfl
theorem Dx_448 : Dc code 448 (.iload 16) 2 450 := dc at_448 rfl
theorem Dx_450 : Dc code 450 (.invokestatic 26) 3 453 := dc at_450 rfl
theorem Dx_453 : Dc code 453 (.invokestatic 32) 3 456 := dc at_453 rfl
theorem Dx_456 : Dc code 456 (.istore 19) 2 458 := dc at_456 rfl
theorem Dx_458 : Dc code 458 (.aload 10) 2 460 := dc at_458 rfl
theorem Dx_460 : Dc code 460 (.iload 17) 2 462 := dc at_460 rfl
theorem Dx_462 : Dc code 462 (.iload 18) 2 464 := dc at_462 rfl
theorem Dx_464 : Dc code 464 (.iload_n 2) 1 465 := dc at_464 rfl
theorem Dx_465 : Dc code 465 (.iload_n 3) 1 466 := dc at_465 rfl
theorem Dx_466 : Dc code 466 (.invokevirtual 35) 3 469 := dc at_466 rfl
theorem Dx_469 : Dc code 469 (.iload 19) 2 471 := dc at_469 rfl
theorem Dx_471 : Db code 471 (.if_icmp .ne) 474 478 := db (7) at_471 rfl (by decide) (by decide)
theorem Dx_474 : Dc code 474 (.iconst 1) 1 475 := dc at_474 rfl
theorem Dx_475 : Db code 475 (.goto) 478 479 := db (4) at_475 rfl (by decide) (by decide)
theorem Dx_478 : Dc code 478 (.iconst 0) 1 479 := dc at_478 rfl
theorem Dx_479 : Dc code 479 (.ireturn) 1 480 := dc at_479 rfl
set_option maxRecDepth 65536 in
set_option maxHeartbeats 40000000 in
theorem ct_law (l : Launch) (Z : State) (a0 : Array Value) (hw : ∀ d ∈ tables_1, d.before a0 Z = true) (n0 : Nat) (h : Heap) (p0 p1 p2 p3 p4 : Int32) :
    Ct l Z n0 x code maxLocals ret room_1 [.int p0, .int p1, .int p2, .int p3, .int p4] h (fun v h' => v = some (.int 1)) := by
  refine Ct.intro (plainFor_of_name pn_1) [.val (.int p0), .val (.int p1), .val (.int p2), .val (.int p3), .val (.int p4), .unset, .unset, .unset, .unset, .unset, .unset, .unset, .unset, .unset, .unset, .unset, .unset, .unset, .unset, .unset] (fun m => by first | (simp [entryFrame, mkF, argsToLocals, Value.category]; done) | (simp [entryFrame, mkF, argsToLocals, Value.category, maxLocals]; done) | rfl) ?_
  intro k hl K
  replace K : Ok k Z n0 "com/example/rankwise/rankwise/store/TripleIndexLowerBoundPinLaw" room_1 code 20 (some .boolean) "law" := K
  refine G.iload K Dx_0 rfl ?_
  refine G.bipush K Dx_2 6 rfl ?_
  refine G.iushr K Dx_4 ?_
  refine G.bipush K Dx_5 7 rfl ?_
  refine G.iand K Dx_7 ?_
  refine G.iconst K Dx_8 5 rfl ?_
  refine G.irem K Dx_9 (by decide) ?_
  obtain ⟨u0, hu0, eu0⟩ := own_and_lt (XT.ushr p4 6) 7 (by decide)
  rw [show XT.ushr p4 6 &&& 7 = Int32.ofNat u0 from eu0, show Int32.ofNat u0 % 5 = Int32.ofNat (u0 % 5) from own_nmod (n := 5) (by omega) (by decide)]
  obtain ⟨mm, hmm⟩ : ∃ q, q = u0 % 5 := ⟨_, rfl⟩
  rw [← hmm]
  refine G.istore K Dx_10 ([.val (.int p0), .val (.int p1), .val (.int p2), .val (.int p3), .val (.int p4), .val (.int (Int32.ofNat mm)), .unset, .unset, .unset, .unset, .unset, .unset, .unset, .unset, .unset, .unset, .unset, .unset, .unset, .unset]) rfl ?_
  refine G.iconst K Dx_12 4 rfl ?_
  refine G.newarr_i K (wd hw 0 rfl) (Hp.nil (n0 := n0) (h := h)) (by decide) 4 (by decide) (by decide) (by decide) (by decide) Dx_13 ?_
  intro a885 h886 H886
  change Hp n0 h886 [(a885, Ia Z [0, 0, 0, 0])] at H886
  refine G.astore K Dx_15 rfl ([.val (.int p0), .val (.int p1), .val (.int p2), .val (.int p3), .val (.int p4), .val (.int (Int32.ofNat mm)), .val (.ref a885), .unset, .unset, .unset, .unset, .unset, .unset, .unset, .unset, .unset, .unset, .unset, .unset, .unset]) rfl ?_
  refine G.iconst K Dx_17 4 rfl ?_
  refine G.newarr_i K (wd hw 0 rfl) H886 (by decide) 4 (by decide) (by decide) (by decide) (by decide) Dx_18 ?_
  intro a887 h888 H888
  change Hp n0 h888 [(a887, Ia Z [0, 0, 0, 0]), (a885, Ia Z [0, 0, 0, 0])] at H888
  refine G.astore K Dx_20 rfl ([.val (.int p0), .val (.int p1), .val (.int p2), .val (.int p3), .val (.int p4), .val (.int (Int32.ofNat mm)), .val (.ref a885), .val (.ref a887), .unset, .unset, .unset, .unset, .unset, .unset, .unset, .unset, .unset, .unset, .unset, .unset]) rfl ?_
  refine G.iconst K Dx_22 4 rfl ?_
  refine G.newarr_i K (wd hw 0 rfl) H888 (by decide) 4 (by decide) (by decide) (by decide) (by decide) Dx_23 ?_
  intro a889 h890 H890
  change Hp n0 h890 [(a889, Ia Z [0, 0, 0, 0]), (a887, Ia Z [0, 0, 0, 0]), (a885, Ia Z [0, 0, 0, 0])] at H890
  refine G.astore K Dx_25 rfl ([.val (.int p0), .val (.int p1), .val (.int p2), .val (.int p3), .val (.int p4), .val (.int (Int32.ofNat mm)), .val (.ref a885), .val (.ref a887), .val (.ref a889), .unset, .unset, .unset, .unset, .unset, .unset, .unset, .unset, .unset, .unset, .unset]) rfl ?_
  refine G.aload K Dx_27 rfl rfl ?_
  refine G.iconst K Dx_29 0 rfl ?_
  refine G.iloadN K Dx_30 rfl ?_
  refine G.bipush K Dx_31 15 rfl ?_
  refine G.iand K Dx_33 ?_
  obtain ⟨s0, hs0, es0⟩ := own_and_lt p0 15 (by decide)
  rw [show p0 &&& 15 = Int32.ofNat s0 from es0]
  refine G.astore_i K H890 (i := 1) rfl (by decide) (Nat.le_of_ble_eq_true rfl) Dx_34 ?_
  intro h891 H891
  change Hp n0 h891 [(a889, Ia Z [0, 0, 0, 0]), (a887, Ia Z [(Int32.ofNat s0), 0, 0, 0]), (a885, Ia Z [0, 0, 0, 0])] at H891
  refine G.aload K Dx_35 rfl rfl ?_
  refine G.iconst K Dx_37 0 rfl ?_
  refine G.iloadN K Dx_38 rfl ?_
  refine G.iconst K Dx_39 4 rfl ?_
  refine G.iushr K Dx_40 ?_
  refine G.bipush K Dx_41 15 rfl ?_
  refine G.iand K Dx_43 ?_
  obtain ⟨t0, ht0, et0⟩ := own_and_lt (XT.ushr p0 (4 : Int32)) 15 (by decide)
  rw [show (XT.ushr p0 (4 : Int32)) &&& 15 = Int32.ofNat t0 from et0]
  obtain ⟨k0, hk0, ea0, eb0⟩ : ∃ q, q < 256 ∧ s0 = q / 16 ∧ t0 = q % 16 := ⟨16 * s0 + t0, by omega, by omega, by omega⟩
  subst ea0 eb0
  change Hp n0 h891 [(a889, Ia Z [0, 0, 0, 0]), (a887, Ia Z [(Int32.ofNat (k0 / 16)), 0, 0, 0]), (a885, Ia Z [0, 0, 0, 0])] at H891
  refine G.astore_i K H891 (i := 0) rfl (by decide) (Nat.le_of_ble_eq_true rfl) Dx_44 ?_
  intro h892 H892
  change Hp n0 h892 [(a889, Ia Z [(Int32.ofNat (k0 % 16)), 0, 0, 0]), (a887, Ia Z [(Int32.ofNat (k0 / 16)), 0, 0, 0]), (a885, Ia Z [0, 0, 0, 0])] at H892
  refine G.aload K Dx_45 rfl rfl ?_
  refine G.iconst K Dx_47 1 rfl ?_
  refine G.iloadN K Dx_48 rfl ?_
  refine G.bipush K Dx_49 8 rfl ?_
  refine G.iushr K Dx_51 ?_
  refine G.bipush K Dx_52 15 rfl ?_
  refine G.iand K Dx_54 ?_
  obtain ⟨s1, hs1, es1⟩ := own_and_lt (XT.ushr p0 (8 : Int32)) 15 (by decide)
  rw [show (XT.ushr p0 (8 : Int32)) &&& 15 = Int32.ofNat s1 from es1]
  refine G.astore_i K H892 (i := 1) rfl (by decide) (Nat.le_of_ble_eq_true rfl) Dx_55 ?_
  intro h893 H893
  change Hp n0 h893 [(a889, Ia Z [(Int32.ofNat (k0 % 16)), 0, 0, 0]), (a887, Ia Z [(Int32.ofNat (k0 / 16)), (Int32.ofNat s1), 0, 0]), (a885, Ia Z [0, 0, 0, 0])] at H893
  refine G.aload K Dx_56 rfl rfl ?_
  refine G.iconst K Dx_58 1 rfl ?_
  refine G.iloadN K Dx_59 rfl ?_
  refine G.bipush K Dx_60 12 rfl ?_
  refine G.iushr K Dx_62 ?_
  refine G.bipush K Dx_63 15 rfl ?_
  refine G.iand K Dx_65 ?_
  obtain ⟨t1, ht1, et1⟩ := own_and_lt (XT.ushr p0 (12 : Int32)) 15 (by decide)
  rw [show (XT.ushr p0 (12 : Int32)) &&& 15 = Int32.ofNat t1 from et1]
  obtain ⟨k1, hk1, ea1, eb1⟩ : ∃ q, q < 256 ∧ s1 = q / 16 ∧ t1 = q % 16 := ⟨16 * s1 + t1, by omega, by omega, by omega⟩
  subst ea1 eb1
  change Hp n0 h893 [(a889, Ia Z [(Int32.ofNat (k0 % 16)), 0, 0, 0]), (a887, Ia Z [(Int32.ofNat (k0 / 16)), (Int32.ofNat (k1 / 16)), 0, 0]), (a885, Ia Z [0, 0, 0, 0])] at H893
  refine G.astore_i K H893 (i := 0) rfl (by decide) (Nat.le_of_ble_eq_true rfl) Dx_66 ?_
  intro h894 H894
  change Hp n0 h894 [(a889, Ia Z [(Int32.ofNat (k0 % 16)), (Int32.ofNat (k1 % 16)), 0, 0]), (a887, Ia Z [(Int32.ofNat (k0 / 16)), (Int32.ofNat (k1 / 16)), 0, 0]), (a885, Ia Z [0, 0, 0, 0])] at H894
  refine G.aload K Dx_67 rfl rfl ?_
  refine G.iconst K Dx_69 2 rfl ?_
  refine G.iloadN K Dx_70 rfl ?_
  refine G.bipush K Dx_71 15 rfl ?_
  refine G.iand K Dx_73 ?_
  obtain ⟨s2, hs2, es2⟩ := own_and_lt p1 15 (by decide)
  rw [show p1 &&& 15 = Int32.ofNat s2 from es2]
  refine G.astore_i K H894 (i := 1) rfl (by decide) (Nat.le_of_ble_eq_true rfl) Dx_74 ?_
  intro h895 H895
  change Hp n0 h895 [(a889, Ia Z [(Int32.ofNat (k0 % 16)), (Int32.ofNat (k1 % 16)), 0, 0]), (a887, Ia Z [(Int32.ofNat (k0 / 16)), (Int32.ofNat (k1 / 16)), (Int32.ofNat s2), 0]), (a885, Ia Z [0, 0, 0, 0])] at H895
  refine G.aload K Dx_75 rfl rfl ?_
  refine G.iconst K Dx_77 2 rfl ?_
  refine G.iloadN K Dx_78 rfl ?_
  refine G.iconst K Dx_79 4 rfl ?_
  refine G.iushr K Dx_80 ?_
  refine G.bipush K Dx_81 15 rfl ?_
  refine G.iand K Dx_83 ?_
  obtain ⟨t2, ht2, et2⟩ := own_and_lt (XT.ushr p1 (4 : Int32)) 15 (by decide)
  rw [show (XT.ushr p1 (4 : Int32)) &&& 15 = Int32.ofNat t2 from et2]
  obtain ⟨k2, hk2, ea2, eb2⟩ : ∃ q, q < 256 ∧ s2 = q / 16 ∧ t2 = q % 16 := ⟨16 * s2 + t2, by omega, by omega, by omega⟩
  subst ea2 eb2
  change Hp n0 h895 [(a889, Ia Z [(Int32.ofNat (k0 % 16)), (Int32.ofNat (k1 % 16)), 0, 0]), (a887, Ia Z [(Int32.ofNat (k0 / 16)), (Int32.ofNat (k1 / 16)), (Int32.ofNat (k2 / 16)), 0]), (a885, Ia Z [0, 0, 0, 0])] at H895
  refine G.astore_i K H895 (i := 0) rfl (by decide) (Nat.le_of_ble_eq_true rfl) Dx_84 ?_
  intro h896 H896
  change Hp n0 h896 [(a889, Ia Z [(Int32.ofNat (k0 % 16)), (Int32.ofNat (k1 % 16)), (Int32.ofNat (k2 % 16)), 0]), (a887, Ia Z [(Int32.ofNat (k0 / 16)), (Int32.ofNat (k1 / 16)), (Int32.ofNat (k2 / 16)), 0]), (a885, Ia Z [0, 0, 0, 0])] at H896
  refine G.aload K Dx_85 rfl rfl ?_
  refine G.iconst K Dx_87 3 rfl ?_
  refine G.iloadN K Dx_88 rfl ?_
  refine G.bipush K Dx_89 8 rfl ?_
  refine G.iushr K Dx_91 ?_
  refine G.bipush K Dx_92 15 rfl ?_
  refine G.iand K Dx_94 ?_
  obtain ⟨s3, hs3, es3⟩ := own_and_lt (XT.ushr p1 (8 : Int32)) 15 (by decide)
  rw [show (XT.ushr p1 (8 : Int32)) &&& 15 = Int32.ofNat s3 from es3]
  refine G.astore_i K H896 (i := 1) rfl (by decide) (Nat.le_of_ble_eq_true rfl) Dx_95 ?_
  intro h897 H897
  change Hp n0 h897 [(a889, Ia Z [(Int32.ofNat (k0 % 16)), (Int32.ofNat (k1 % 16)), (Int32.ofNat (k2 % 16)), 0]), (a887, Ia Z [(Int32.ofNat (k0 / 16)), (Int32.ofNat (k1 / 16)), (Int32.ofNat (k2 / 16)), (Int32.ofNat s3)]), (a885, Ia Z [0, 0, 0, 0])] at H897
  refine G.aload K Dx_96 rfl rfl ?_
  refine G.iconst K Dx_98 3 rfl ?_
  refine G.iloadN K Dx_99 rfl ?_
  refine G.bipush K Dx_100 12 rfl ?_
  refine G.iushr K Dx_102 ?_
  refine G.bipush K Dx_103 15 rfl ?_
  refine G.iand K Dx_105 ?_
  obtain ⟨t3, ht3, et3⟩ := own_and_lt (XT.ushr p1 (12 : Int32)) 15 (by decide)
  rw [show (XT.ushr p1 (12 : Int32)) &&& 15 = Int32.ofNat t3 from et3]
  obtain ⟨k3, hk3, ea3, eb3⟩ : ∃ q, q < 256 ∧ s3 = q / 16 ∧ t3 = q % 16 := ⟨16 * s3 + t3, by omega, by omega, by omega⟩
  subst ea3 eb3
  change Hp n0 h897 [(a889, Ia Z [(Int32.ofNat (k0 % 16)), (Int32.ofNat (k1 % 16)), (Int32.ofNat (k2 % 16)), 0]), (a887, Ia Z [(Int32.ofNat (k0 / 16)), (Int32.ofNat (k1 / 16)), (Int32.ofNat (k2 / 16)), (Int32.ofNat (k3 / 16))]), (a885, Ia Z [0, 0, 0, 0])] at H897
  refine G.astore_i K H897 (i := 0) rfl (by decide) (Nat.le_of_ble_eq_true rfl) Dx_106 ?_
  intro h898 H898
  change Hp n0 h898 [(a889, Ia Z [(Int32.ofNat (k0 % 16)), (Int32.ofNat (k1 % 16)), (Int32.ofNat (k2 % 16)), (Int32.ofNat (k3 % 16))]), (a887, Ia Z [(Int32.ofNat (k0 / 16)), (Int32.ofNat (k1 / 16)), (Int32.ofNat (k2 / 16)), (Int32.ofNat (k3 / 16))]), (a885, Ia Z [0, 0, 0, 0])] at H898
  refine G.iconst K Dx_107 3 rfl ?_
  refine G.newarr_x K (wd hw 0 rfl) H898 (by decide) 3 (by decide) (by decide) (by decide) (by decide) Dx_108 ?_
  intro a899 h900 H900
  change Hp n0 h900 [(a899, Xa Z [0, 0, 0]), (a889, Ia Z [(Int32.ofNat (k0 % 16)), (Int32.ofNat (k1 % 16)), (Int32.ofNat (k2 % 16)), (Int32.ofNat (k3 % 16))]), (a887, Ia Z [(Int32.ofNat (k0 / 16)), (Int32.ofNat (k1 / 16)), (Int32.ofNat (k2 / 16)), (Int32.ofNat (k3 / 16))]), (a885, Ia Z [0, 0, 0, 0])] at H900
  refine G.dup K Dx_110 rfl ?_
  refine G.iconst K Dx_111 0 rfl ?_
  refine G.iconst K Dx_112 0 rfl ?_
  refine G.astore_x K H900 (i := 0) rfl (by decide) (Nat.le_of_ble_eq_true rfl) Dx_113 ?_
  intro h901 H901
  change Hp n0 h901 [(a899, Xa Z [0, 0, 0]), (a889, Ia Z [(Int32.ofNat (k0 % 16)), (Int32.ofNat (k1 % 16)), (Int32.ofNat (k2 % 16)), (Int32.ofNat (k3 % 16))]), (a887, Ia Z [(Int32.ofNat (k0 / 16)), (Int32.ofNat (k1 / 16)), (Int32.ofNat (k2 / 16)), (Int32.ofNat (k3 / 16))]), (a885, Ia Z [0, 0, 0, 0])] at H901
  refine G.dup K Dx_114 rfl ?_
  refine G.iconst K Dx_115 1 rfl ?_
  refine G.iconst K Dx_116 1 rfl ?_
  refine G.astore_x K H901 (i := 0) rfl (by decide) (Nat.le_of_ble_eq_true rfl) Dx_117 ?_
  intro h902 H902
  change Hp n0 h902 [(a899, Xa Z [0, 1, 0]), (a889, Ia Z [(Int32.ofNat (k0 % 16)), (Int32.ofNat (k1 % 16)), (Int32.ofNat (k2 % 16)), (Int32.ofNat (k3 % 16))]), (a887, Ia Z [(Int32.ofNat (k0 / 16)), (Int32.ofNat (k1 / 16)), (Int32.ofNat (k2 / 16)), (Int32.ofNat (k3 / 16))]), (a885, Ia Z [0, 0, 0, 0])] at H902
  refine G.dup K Dx_118 rfl ?_
  refine G.iconst K Dx_119 2 rfl ?_
  refine G.iconst K Dx_120 2 rfl ?_
  refine G.astore_x K H902 (i := 0) rfl (by decide) (Nat.le_of_ble_eq_true rfl) Dx_121 ?_
  intro h903 H903
  change Hp n0 h903 [(a899, Xa Z [0, 1, 2]), (a889, Ia Z [(Int32.ofNat (k0 % 16)), (Int32.ofNat (k1 % 16)), (Int32.ofNat (k2 % 16)), (Int32.ofNat (k3 % 16))]), (a887, Ia Z [(Int32.ofNat (k0 / 16)), (Int32.ofNat (k1 / 16)), (Int32.ofNat (k2 / 16)), (Int32.ofNat (k3 / 16))]), (a885, Ia Z [0, 0, 0, 0])] at H903
  refine G.astore K Dx_122 rfl ([.val (.int p0), .val (.int p1), .val (.int p2), .val (.int p3), .val (.int p4), .val (.int (Int32.ofNat mm)), .val (.ref a885), .val (.ref a887), .val (.ref a889), .val (.ref a899), .unset, .unset, .unset, .unset, .unset, .unset, .unset, .unset, .unset, .unset]) rfl ?_
  change Hp n0 h903 [(a899, Xa Z [0, 1, 2]), (a889, Ia Z (lst 4 (tF (ky k0 k1 k2 k3)))), (a887, Ia Z (lst 4 (sF (ky k0 k1 k2 k3)))), (a885, Ia Z (lst 4 (fun _ => 0)))] at H903
  have hK := ky_lt hk0 hk1 hk2 hk3
  have hm4 : mm ≤ 4 := by omega
  clear hmm
  refine G.new K (wd hw 1 rfl) (wd hw 2 rfl) (wd hw 3 rfl) (cf_NST hw) (vs := [.null, .null, .null]) (by rfl) H903 (by decide) (by decide) Dx_124 ?_
  intro a904 h905 H905
  change Hp n0 h905 [(a904, Ob Z "com/example/rankwise/rankwise/store/TripleIndex" NST [.null, .null, .null]), (a899, Xa Z [0, 1, 2]), (a889, Ia Z (lst 4 (tF (ky k0 k1 k2 k3)))), (a887, Ia Z (lst 4 (sF (ky k0 k1 k2 k3)))), (a885, Ia Z (lst 4 (fun _ => 0)))] at H905
  refine G.dup K Dx_127 rfl ?_
  refine G.aload K Dx_128 rfl rfl ?_
  refine G.aload K Dx_130 rfl rfl ?_
  refine G.aload K Dx_132 rfl rfl ?_
  refine G.iload K Dx_134 rfl ?_
  refine G.aload K Dx_136 rfl rfl ?_
  have H906 : Hp n0 h905 [(a899, Xa Z [0, 1, 2]), (a904, Ob Z "com/example/rankwise/rankwise/store/TripleIndex" NST [.null, .null, .null]), (a889, Ia Z (lst 4 (tF (ky k0 k1 k2 k3)))), (a887, Ia Z (lst 4 (sF (ky k0 k1 k2 k3)))), (a885, Ia Z (lst 4 (fun _ => 0)))] := H905.pull 1 rfl
  have H907 : Hp n0 h905 [(a889, Ia Z (lst 4 (tF (ky k0 k1 k2 k3)))), (a899, Xa Z [0, 1, 2]), (a904, Ob Z "com/example/rankwise/rankwise/store/TripleIndex" NST [.null, .null, .null]), (a887, Ia Z (lst 4 (sF (ky k0 k1 k2 k3)))), (a885, Ia Z (lst 4 (fun _ => 0)))] := H906.pull 2 rfl
  have H908 : Hp n0 h905 [(a887, Ia Z (lst 4 (sF (ky k0 k1 k2 k3)))), (a889, Ia Z (lst 4 (tF (ky k0 k1 k2 k3)))), (a899, Xa Z [0, 1, 2]), (a904, Ob Z "com/example/rankwise/rankwise/store/TripleIndex" NST [.null, .null, .null]), (a885, Ia Z (lst 4 (fun _ => 0)))] := H907.pull 3 rfl
  have H909 : Hp n0 h905 [(a885, Ia Z (lst 4 (fun _ => 0))), (a887, Ia Z (lst 4 (sF (ky k0 k1 k2 k3)))), (a889, Ia Z (lst 4 (tF (ky k0 k1 k2 k3)))), (a899, Xa Z [0, 1, 2]), (a904, Ob Z "com/example/rankwise/rankwise/store/TripleIndex" NST [.null, .null, .null])] := H908.pull 4 rfl
  have H910 : Hp n0 h905 [(a904, Ob Z "com/example/rankwise/rankwise/store/TripleIndex" NST [.null, .null, .null]), (a885, Ia Z (lst 4 (fun _ => 0))), (a887, Ia Z (lst 4 (sF (ky k0 k1 k2 k3)))), (a889, Ia Z (lst 4 (tF (ky k0 k1 k2 k3)))), (a899, Xa Z [0, 1, 2])] := H909.pull 4 rfl
  refine G.callI K hl rfl (wd hw 4 rfl) (wd hw 5 rfl) (wd hw 3 rfl) (wd hw 6 rfl) (by decide) pd_4 (ct_ctor l Z a0 hw n0 h905 a904 a899 a885 a887 a889 (ky k0 k1 k2 k3) mm [] hK hm4 H910) 1 rfl (by decide) (by decide) (by decide) (by decide) rfl rfl [.ref a899, .int (Int32.ofNat mm), .ref a889, .ref a887, .ref a885] rfl Dx_138 ?_
  rintro _ h911 ⟨B1, B2, B3, L, zf, rfl, hDD, H911⟩
  change G k n0 _ h911 _ _ 141 [.val (.int p0), .val (.int p1), .val (.int p2), .val (.int p3), .val (.int p4), .val (.int (Int32.ofNat mm)), .val (.ref a885), .val (.ref a887), .val (.ref a889), .val (.ref a899), .unset, .unset, .unset, .unset, .unset, .unset, .unset, .unset, .unset, .unset] [.ref a904]
  refine G.astore K Dx_141 rfl ([.val (.int p0), .val (.int p1), .val (.int p2), .val (.int p3), .val (.int p4), .val (.int (Int32.ofNat mm)), .val (.ref a885), .val (.ref a887), .val (.ref a889), .val (.ref a899), .val (.ref a904), .unset, .unset, .unset, .unset, .unset, .unset, .unset, .unset, .unset]) rfl ?_
  have T912 : ∀ b0 : Nat, b0 ≤ 1 ∧ (b0 = 0 ↔ mm = 0) → G k n0 (fun v h' => v = some (.int 1)) h911 13 58 153 [.val (.int p0), .val (.int p1), .val (.int p2), .val (.int p3), .val (.int p4), .val (.int (Int32.ofNat mm)), .val (.ref a885), .val (.ref a887), .val (.ref a889), .val (.ref a899), .val (.ref a904), .unset, .unset, .unset, .unset, .unset, .unset, .unset, .unset, .unset] [.int (Int32.ofNat b0)] := by
    intro b0 ub0
    refine G.istore K Dx_153 ([.val (.int p0), .val (.int p1), .val (.int p2), .val (.int p3), .val (.int p4), .val (.int (Int32.ofNat mm)), .val (.ref a885), .val (.ref a887), .val (.ref a889), .val (.ref a899), .val (.ref a904), .val (.int (Int32.ofNat b0)), .unset, .unset, .unset, .unset, .unset, .unset, .unset, .unset]) rfl ?_
    have T913 : ∀ b1 : Nat, b1 ≤ 1 ∧ (b1 = 0 ↔ (mm ≤ 1 ∨ k1 = k0)) → G k n0 (fun v h' => v = some (.int 1)) h911 13 58 178 [.val (.int p0), .val (.int p1), .val (.int p2), .val (.int p3), .val (.int p4), .val (.int (Int32.ofNat mm)), .val (.ref a885), .val (.ref a887), .val (.ref a889), .val (.ref a899), .val (.ref a904), .val (.int (Int32.ofNat b0)), .unset, .unset, .unset, .unset, .unset, .unset, .unset, .unset] [.int (Int32.ofNat b1)] := by
      intro b1 ub1
      refine G.istore K Dx_178 ([.val (.int p0), .val (.int p1), .val (.int p2), .val (.int p3), .val (.int p4), .val (.int (Int32.ofNat mm)), .val (.ref a885), .val (.ref a887), .val (.ref a889), .val (.ref a899), .val (.ref a904), .val (.int (Int32.ofNat b0)), .val (.int (Int32.ofNat b1)), .unset, .unset, .unset, .unset, .unset, .unset, .unset]) rfl ?_
      have T914 : ∀ b2 : Nat, b2 ≤ 1 ∧ (b2 = 0 ↔ (mm ≤ 2 ∨ k2 = k0 ∨ k2 = k1)) → G k n0 (fun v h' => v = some (.int 1)) h911 13 58 215 [.val (.int p0), .val (.int p1), .val (.int p2), .val (.int p3), .val (.int p4), .val (.int (Int32.ofNat mm)), .val (.ref a885), .val (.ref a887), .val (.ref a889), .val (.ref a899), .val (.ref a904), .val (.int (Int32.ofNat b0)), .val (.int (Int32.ofNat b1)), .unset, .unset, .unset, .unset, .unset, .unset, .unset] [.int (Int32.ofNat b2)] := by
        intro b2 ub2
        refine G.istore K Dx_215 ([.val (.int p0), .val (.int p1), .val (.int p2), .val (.int p3), .val (.int p4), .val (.int (Int32.ofNat mm)), .val (.ref a885), .val (.ref a887), .val (.ref a889), .val (.ref a899), .val (.ref a904), .val (.int (Int32.ofNat b0)), .val (.int (Int32.ofNat b1)), .val (.int (Int32.ofNat b2)), .unset, .unset, .unset, .unset, .unset, .unset]) rfl ?_
        have T915 : ∀ b3 : Nat, b3 ≤ 1 ∧ (b3 = 0 ↔ (mm ≤ 3 ∨ k3 = k0 ∨ k3 = k1 ∨ k3 = k2)) → G k n0 (fun v h' => v = some (.int 1)) h911 13 58 264 [.val (.int p0), .val (.int p1), .val (.int p2), .val (.int p3), .val (.int p4), .val (.int (Int32.ofNat mm)), .val (.ref a885), .val (.ref a887), .val (.ref a889), .val (.ref a899), .val (.ref a904), .val (.int (Int32.ofNat b0)), .val (.int (Int32.ofNat b1)), .val (.int (Int32.ofNat b2)), .unset, .unset, .unset, .unset, .unset, .unset] [.int (Int32.ofNat b3)] := by
          intro b3 ub3
          refine G.istore K Dx_264 ([.val (.int p0), .val (.int p1), .val (.int p2), .val (.int p3), .val (.int p4), .val (.int (Int32.ofNat mm)), .val (.ref a885), .val (.ref a887), .val (.ref a889), .val (.ref a899), .val (.ref a904), .val (.int (Int32.ofNat b0)), .val (.int (Int32.ofNat b1)), .val (.int (Int32.ofNat b2)), .val (.int (Int32.ofNat b3)), .unset, .unset, .unset, .unset, .unset]) rfl ?_
          refine G.iload K Dx_266 rfl ?_
          refine G.callS K hl (wd hw 28 rfl) (wd hw 29 rfl) (wd hw 30 rfl) (wd hw 31 rfl) (by decide) pd_5 (ct_one l Z a0 hw n0 _ b0 (by omega)) 0 rfl (by decide) (by decide) (by decide) (by decide) rfl rfl [.int (Int32.ofNat b0)] rfl Dx_268 ?_
          rintro _ _ ⟨rfl, rfl⟩
          change G k n0 _ h911 _ _ 271 [.val (.int p0), .val (.int p1), .val (.int p2), .val (.int p3), .val (.int p4), .val (.int (Int32.ofNat mm)), .val (.ref a885), .val (.ref a887), .val (.ref a889), .val (.ref a899), .val (.ref a904), .val (.int (Int32.ofNat b0)), .val (.int (Int32.ofNat b1)), .val (.int (Int32.ofNat b2)), .val (.int (Int32.ofNat b3)), .unset, .unset, .unset, .unset, .unset] [.int (Int32.ofNat b0)]
          refine G.iload K Dx_271 rfl ?_
          refine G.callS K hl (wd hw 28 rfl) (wd hw 29 rfl) (wd hw 30 rfl) (wd hw 31 rfl) (by decide) pd_5 (ct_one l Z a0 hw n0 _ b1 (by omega)) 1 rfl (by decide) (by decide) (by decide) (by decide) rfl rfl [.int (Int32.ofNat b1)] rfl Dx_273 ?_
          rintro _ _ ⟨rfl, rfl⟩
          change G k n0 _ h911 _ _ 276 [.val (.int p0), .val (.int p1), .val (.int p2), .val (.int p3), .val (.int p4), .val (.int (Int32.ofNat mm)), .val (.ref a885), .val (.ref a887), .val (.ref a889), .val (.ref a899), .val (.ref a904), .val (.int (Int32.ofNat b0)), .val (.int (Int32.ofNat b1)), .val (.int (Int32.ofNat b2)), .val (.int (Int32.ofNat b3)), .unset, .unset, .unset, .unset, .unset] [.int (Int32.ofNat b1), .int (Int32.ofNat b0)]
          refine G.iadd K Dx_276 ?_
          refine G.iload K Dx_277 rfl ?_
          refine G.callS K hl (wd hw 28 rfl) (wd hw 29 rfl) (wd hw 30 rfl) (wd hw 31 rfl) (by decide) pd_5 (ct_one l Z a0 hw n0 _ b2 (by omega)) 1 rfl (by decide) (by decide) (by decide) (by decide) rfl rfl [.int (Int32.ofNat b2)] rfl Dx_279 ?_
          rintro _ _ ⟨rfl, rfl⟩
          change G k n0 _ h911 _ _ 282 [.val (.int p0), .val (.int p1), .val (.int p2), .val (.int p3), .val (.int p4), .val (.int (Int32.ofNat mm)), .val (.ref a885), .val (.ref a887), .val (.ref a889), .val (.ref a899), .val (.ref a904), .val (.int (Int32.ofNat b0)), .val (.int (Int32.ofNat b1)), .val (.int (Int32.ofNat b2)), .val (.int (Int32.ofNat b3)), .unset, .unset, .unset, .unset, .unset] [.int (Int32.ofNat b2), .int ((Int32.ofNat b0) + (Int32.ofNat b1))]
          refine G.iadd K Dx_282 ?_
          refine G.iload K Dx_283 rfl ?_
          refine G.callS K hl (wd hw 28 rfl) (wd hw 29 rfl) (wd hw 30 rfl) (wd hw 31 rfl) (by decide) pd_5 (ct_one l Z a0 hw n0 _ b3 (by omega)) 1 rfl (by decide) (by decide) (by decide) (by decide) rfl rfl [.int (Int32.ofNat b3)] rfl Dx_285 ?_
          rintro _ _ ⟨rfl, rfl⟩
          change G k n0 _ h911 _ _ 288 [.val (.int p0), .val (.int p1), .val (.int p2), .val (.int p3), .val (.int p4), .val (.int (Int32.ofNat mm)), .val (.ref a885), .val (.ref a887), .val (.ref a889), .val (.ref a899), .val (.ref a904), .val (.int (Int32.ofNat b0)), .val (.int (Int32.ofNat b1)), .val (.int (Int32.ofNat b2)), .val (.int (Int32.ofNat b3)), .unset, .unset, .unset, .unset, .unset] [.int (Int32.ofNat b3), .int (((Int32.ofNat b0) + (Int32.ofNat b1)) + (Int32.ofNat b2))]
          refine G.iadd K Dx_288 ?_
          rw [own_nadd, own_nadd, own_nadd]
          obtain ⟨n, en⟩ : ∃ q, q = b0 + b1 + b2 + b3 := ⟨_, rfl⟩
          rw [← en]
          refine G.istore K Dx_289 ([.val (.int p0), .val (.int p1), .val (.int p2), .val (.int p3), .val (.int p4), .val (.int (Int32.ofNat mm)), .val (.ref a885), .val (.ref a887), .val (.ref a889), .val (.ref a899), .val (.ref a904), .val (.int (Int32.ofNat b0)), .val (.int (Int32.ofNat b1)), .val (.int (Int32.ofNat b2)), .val (.int (Int32.ofNat b3)), .val (.int (Int32.ofNat n)), .unset, .unset, .unset, .unset]) rfl ?_
          have T916 : ∀ d0 : Nat, d0 ≤ 1 ∧ (b0 = 0 → d0 = 0) ∧ (¬ b0 = 0 → d0 = ix p2 p3 k0) → G k n0 (fun v h' => v = some (.int 1)) h911 13 58 317 [.val (.int p0), .val (.int p1), .val (.int p2), .val (.int p3), .val (.int p4), .val (.int (Int32.ofNat mm)), .val (.ref a885), .val (.ref a887), .val (.ref a889), .val (.ref a899), .val (.ref a904), .val (.int (Int32.ofNat b0)), .val (.int (Int32.ofNat b1)), .val (.int (Int32.ofNat b2)), .val (.int (Int32.ofNat b3)), .val (.int (Int32.ofNat n)), .unset, .unset, .unset, .unset] [.int (Int32.ofNat d0)] := by
            intro d0 ud0
            refine G.callS K hl (wd hw 28 rfl) (wd hw 29 rfl) (wd hw 30 rfl) (wd hw 31 rfl) (by decide) pd_5 (ct_one l Z a0 hw n0 _ d0 (by omega)) 0 rfl (by decide) (by decide) (by decide) (by decide) rfl rfl [.int (Int32.ofNat d0)] rfl Dx_317 ?_
            rintro _ _ ⟨rfl, rfl⟩
            change G k n0 _ h911 _ _ 320 [.val (.int p0), .val (.int p1), .val (.int p2), .val (.int p3), .val (.int p4), .val (.int (Int32.ofNat mm)), .val (.ref a885), .val (.ref a887), .val (.ref a889), .val (.ref a899), .val (.ref a904), .val (.int (Int32.ofNat b0)), .val (.int (Int32.ofNat b1)), .val (.int (Int32.ofNat b2)), .val (.int (Int32.ofNat b3)), .val (.int (Int32.ofNat n)), .unset, .unset, .unset, .unset] [.int (Int32.ofNat d0)]
            have T917 : ∀ d1 : Nat, d1 ≤ 1 ∧ (b1 = 0 → d1 = 0) ∧ (¬ b1 = 0 → d1 = ix p2 p3 k1) → G k n0 (fun v h' => v = some (.int 1)) h911 13 58 346 [.val (.int p0), .val (.int p1), .val (.int p2), .val (.int p3), .val (.int p4), .val (.int (Int32.ofNat mm)), .val (.ref a885), .val (.ref a887), .val (.ref a889), .val (.ref a899), .val (.ref a904), .val (.int (Int32.ofNat b0)), .val (.int (Int32.ofNat b1)), .val (.int (Int32.ofNat b2)), .val (.int (Int32.ofNat b3)), .val (.int (Int32.ofNat n)), .unset, .unset, .unset, .unset] [.int (Int32.ofNat d1), .int (Int32.ofNat d0)] := by
              intro d1 ud1
              refine G.callS K hl (wd hw 28 rfl) (wd hw 29 rfl) (wd hw 30 rfl) (wd hw 31 rfl) (by decide) pd_5 (ct_one l Z a0 hw n0 _ d1 (by omega)) 1 rfl (by decide) (by decide) (by decide) (by decide) rfl rfl [.int (Int32.ofNat d1)] rfl Dx_346 ?_
              rintro _ _ ⟨rfl, rfl⟩
              change G k n0 _ h911 _ _ 349 [.val (.int p0), .val (.int p1), .val (.int p2), .val (.int p3), .val (.int p4), .val (.int (Int32.ofNat mm)), .val (.ref a885), .val (.ref a887), .val (.ref a889), .val (.ref a899), .val (.ref a904), .val (.int (Int32.ofNat b0)), .val (.int (Int32.ofNat b1)), .val (.int (Int32.ofNat b2)), .val (.int (Int32.ofNat b3)), .val (.int (Int32.ofNat n)), .unset, .unset, .unset, .unset] [.int (Int32.ofNat d1), .int (Int32.ofNat d0)]
              refine G.iadd K Dx_349 ?_
              have T918 : ∀ d2 : Nat, d2 ≤ 1 ∧ (b2 = 0 → d2 = 0) ∧ (¬ b2 = 0 → d2 = ix p2 p3 k2) → G k n0 (fun v h' => v = some (.int 1)) h911 13 58 376 [.val (.int p0), .val (.int p1), .val (.int p2), .val (.int p3), .val (.int p4), .val (.int (Int32.ofNat mm)), .val (.ref a885), .val (.ref a887), .val (.ref a889), .val (.ref a899), .val (.ref a904), .val (.int (Int32.ofNat b0)), .val (.int (Int32.ofNat b1)), .val (.int (Int32.ofNat b2)), .val (.int (Int32.ofNat b3)), .val (.int (Int32.ofNat n)), .unset, .unset, .unset, .unset] [.int (Int32.ofNat d2), .int ((Int32.ofNat d0) + (Int32.ofNat d1))] := by
                intro d2 ud2
                refine G.callS K hl (wd hw 28 rfl) (wd hw 29 rfl) (wd hw 30 rfl) (wd hw 31 rfl) (by decide) pd_5 (ct_one l Z a0 hw n0 _ d2 (by omega)) 1 rfl (by decide) (by decide) (by decide) (by decide) rfl rfl [.int (Int32.ofNat d2)] rfl Dx_376 ?_
                rintro _ _ ⟨rfl, rfl⟩
                change G k n0 _ h911 _ _ 379 [.val (.int p0), .val (.int p1), .val (.int p2), .val (.int p3), .val (.int p4), .val (.int (Int32.ofNat mm)), .val (.ref a885), .val (.ref a887), .val (.ref a889), .val (.ref a899), .val (.ref a904), .val (.int (Int32.ofNat b0)), .val (.int (Int32.ofNat b1)), .val (.int (Int32.ofNat b2)), .val (.int (Int32.ofNat b3)), .val (.int (Int32.ofNat n)), .unset, .unset, .unset, .unset] [.int (Int32.ofNat d2), .int ((Int32.ofNat d0) + (Int32.ofNat d1))]
                refine G.iadd K Dx_379 ?_
                have T919 : ∀ d3 : Nat, d3 ≤ 1 ∧ (b3 = 0 → d3 = 0) ∧ (¬ b3 = 0 → d3 = ix p2 p3 k3) → G k n0 (fun v h' => v = some (.int 1)) h911 13 58 406 [.val (.int p0), .val (.int p1), .val (.int p2), .val (.int p3), .val (.int p4), .val (.int (Int32.ofNat mm)), .val (.ref a885), .val (.ref a887), .val (.ref a889), .val (.ref a899), .val (.ref a904), .val (.int (Int32.ofNat b0)), .val (.int (Int32.ofNat b1)), .val (.int (Int32.ofNat b2)), .val (.int (Int32.ofNat b3)), .val (.int (Int32.ofNat n)), .unset, .unset, .unset, .unset] [.int (Int32.ofNat d3), .int (((Int32.ofNat d0) + (Int32.ofNat d1)) + (Int32.ofNat d2))] := by
                  intro d3 ud3
                  refine G.callS K hl (wd hw 28 rfl) (wd hw 29 rfl) (wd hw 30 rfl) (wd hw 31 rfl) (by decide) pd_5 (ct_one l Z a0 hw n0 _ d3 (by omega)) 1 rfl (by decide) (by decide) (by decide) (by decide) rfl rfl [.int (Int32.ofNat d3)] rfl Dx_406 ?_
                  rintro _ _ ⟨rfl, rfl⟩
                  change G k n0 _ h911 _ _ 409 [.val (.int p0), .val (.int p1), .val (.int p2), .val (.int p3), .val (.int p4), .val (.int (Int32.ofNat mm)), .val (.ref a885), .val (.ref a887), .val (.ref a889), .val (.ref a899), .val (.ref a904), .val (.int (Int32.ofNat b0)), .val (.int (Int32.ofNat b1)), .val (.int (Int32.ofNat b2)), .val (.int (Int32.ofNat b3)), .val (.int (Int32.ofNat n)), .unset, .unset, .unset, .unset] [.int (Int32.ofNat d3), .int (((Int32.ofNat d0) + (Int32.ofNat d1)) + (Int32.ofNat d2))]
                  refine G.iadd K Dx_409 ?_
                  rw [own_nadd, own_nadd, own_nadd]
                  obtain ⟨cc, ecc⟩ : ∃ q, q = d0 + d1 + d2 + d3 := ⟨_, rfl⟩
                  rw [← ecc]
                  refine G.istore K Dx_410 ([.val (.int p0), .val (.int p1), .val (.int p2), .val (.int p3), .val (.int p4), .val (.int (Int32.ofNat mm)), .val (.ref a885), .val (.ref a887), .val (.ref a889), .val (.ref a899), .val (.ref a904), .val (.int (Int32.ofNat b0)), .val (.int (Int32.ofNat b1)), .val (.int (Int32.ofNat b2)), .val (.int (Int32.ofNat b3)), .val (.int (Int32.ofNat n)), .val (.int (Int32.ofNat cc)), .unset, .unset, .unset]) rfl ?_
                  refine G.iload K Dx_412 rfl ?_
                  refine G.bipush K Dx_414 7 rfl ?_
                  refine G.iand K Dx_416 ?_
                  obtain ⟨u1, hu1, eu1⟩ := own_and_lt p4 7 (by decide)
                  rw [show p4 &&& 7 = Int32.ofNat u1 from eu1]
                  refine G.iload K Dx_417 rfl ?_
                  refine G.iconst K Dx_419 1 rfl ?_
                  refine G.iadd K Dx_420 ?_
                  rw [own_nsucc n]
                  refine G.irem K Dx_421 (fun e => absurd ((own_neq (n := 0) (by omega) (by decide)).mp e) (by omega)) ?_
                  rw [own_nmod (by omega) (by omega)]
                  obtain ⟨fr, efr⟩ : ∃ q, q = u1 % (n + 1) := ⟨_, rfl⟩
                  rw [← efr]
                  have hfr : fr ≤ n := by have := Nat.mod_lt u1 (show 0 < n + 1 by omega); omega
                  refine G.istore K Dx_422 ([.val (.int p0), .val (.int p1), .val (.int p2), .val (.int p3), .val (.int p4), .val (.int (Int32.ofNat mm)), .val (.ref a885), .val (.ref a887), .val (.ref a889), .val (.ref a899), .val (.ref a904), .val (.int (Int32.ofNat b0)), .val (.int (Int32.ofNat b1)), .val (.int (Int32.ofNat b2)), .val (.int (Int32.ofNat b3)), .val (.int (Int32.ofNat n)), .val (.int (Int32.ofNat cc)), .val (.int (Int32.ofNat fr)), .unset, .unset]) rfl ?_
                  refine G.iload K Dx_424 rfl ?_
                  refine G.iload K Dx_426 rfl ?_
                  refine G.iconst K Dx_428 3 rfl ?_
                  refine G.iushr K Dx_429 ?_
                  refine G.bipush K Dx_430 7 rfl ?_
                  refine G.iand K Dx_432 ?_
                  obtain ⟨u2, hu2, eu2⟩ := own_and_lt (XT.ushr p4 3) 7 (by decide)
                  rw [show XT.ushr p4 3 &&& 7 = Int32.ofNat u2 from eu2]
                  refine G.iload K Dx_433 rfl ?_
                  refine G.iload K Dx_435 rfl ?_
                  refine G.isub K Dx_437 ?_
                  refine G.iconst K Dx_438 1 rfl ?_
                  refine G.iadd K Dx_439 ?_
                  rw [own_nsub hfr, own_nsucc]
                  refine G.irem K Dx_440 (fun e => absurd ((own_neq (n := 0) (by omega) (by decide)).mp e) (by omega)) ?_
                  rw [own_nmod (by omega) (by omega)]
                  refine G.iadd K Dx_441 ?_
                  rw [own_nadd]
                  obtain ⟨t2, et2⟩ : ∃ q, q = fr + u2 % (n - fr + 1) := ⟨_, rfl⟩
                  rw [← et2]
                  have ht2 : fr ≤ t2 ∧ t2 ≤ n := by have := Nat.mod_lt u2 (show 0 < n - fr + 1 by omega); omega
                  refine G.istore K Dx_442 ([.val (.int p0), .val (.int p1), .val (.int p2), .val (.int p3), .val (.int p4), .val (.int (Int32.ofNat mm)), .val (.ref a885), .val (.ref a887), .val (.ref a889), .val (.ref a899), .val (.ref a904), .val (.int (Int32.ofNat b0)), .val (.int (Int32.ofNat b1)), .val (.int (Int32.ofNat b2)), .val (.int (Int32.ofNat b3)), .val (.int (Int32.ofNat n)), .val (.int (Int32.ofNat cc)), .val (.int (Int32.ofNat fr)), .val (.int (Int32.ofNat t2)), .unset]) rfl ?_
                  refine G.iload K Dx_444 rfl ?_
                  refine G.iload K Dx_446 rfl ?_
                  refine G.iload K Dx_448 rfl ?_
                  refine G.callS K hl (wd hw 32 rfl) (wd hw 33 rfl) (wd hw 34 rfl) (wd hw 35 rfl) (by decide) pd_0 (ct_min l Z a0 hw n0 _ (Int32.ofNat t2) (Int32.ofNat cc)) 1 rfl (by decide) (by decide) (by decide) (by decide) rfl rfl [.int (Int32.ofNat cc), .int (Int32.ofNat t2)] rfl Dx_450 ?_
                  rintro _ _ ⟨rfl, rfl⟩
                  rw [own_nmin (by omega) (by omega)]
                  change G k n0 _ h911 _ _ 453 [.val (.int p0), .val (.int p1), .val (.int p2), .val (.int p3), .val (.int p4), .val (.int (Int32.ofNat mm)), .val (.ref a885), .val (.ref a887), .val (.ref a889), .val (.ref a899), .val (.ref a904), .val (.int (Int32.ofNat b0)), .val (.int (Int32.ofNat b1)), .val (.int (Int32.ofNat b2)), .val (.int (Int32.ofNat b3)), .val (.int (Int32.ofNat n)), .val (.int (Int32.ofNat cc)), .val (.int (Int32.ofNat fr)), .val (.int (Int32.ofNat t2)), .unset] [.int (Int32.ofNat (min t2 cc)), .int (Int32.ofNat fr)]
                  refine G.callS K hl (wd hw 36 rfl) (wd hw 37 rfl) (wd hw 34 rfl) (wd hw 38 rfl) (by decide) pd_0 (ct_max l Z a0 hw n0 _ (Int32.ofNat fr) (Int32.ofNat (min t2 cc))) 0 rfl (by decide) (by decide) (by decide) (by decide) rfl rfl [.int (Int32.ofNat (min t2 cc)), .int (Int32.ofNat fr)] rfl Dx_453 ?_
                  rintro _ _ ⟨rfl, rfl⟩
                  rw [own_nmax (by omega) (by omega)]
                  change G k n0 _ h911 _ _ 456 [.val (.int p0), .val (.int p1), .val (.int p2), .val (.int p3), .val (.int p4), .val (.int (Int32.ofNat mm)), .val (.ref a885), .val (.ref a887), .val (.ref a889), .val (.ref a899), .val (.ref a904), .val (.int (Int32.ofNat b0)), .val (.int (Int32.ofNat b1)), .val (.int (Int32.ofNat b2)), .val (.int (Int32.ofNat b3)), .val (.int (Int32.ofNat n)), .val (.int (Int32.ofNat cc)), .val (.int (Int32.ofNat fr)), .val (.int (Int32.ofNat t2)), .unset] [.int (Int32.ofNat (max fr (min t2 cc)))]
                  refine G.istore K Dx_456 ([.val (.int p0), .val (.int p1), .val (.int p2), .val (.int p3), .val (.int p4), .val (.int (Int32.ofNat mm)), .val (.ref a885), .val (.ref a887), .val (.ref a889), .val (.ref a899), .val (.ref a904), .val (.int (Int32.ofNat b0)), .val (.int (Int32.ofNat b1)), .val (.int (Int32.ofNat b2)), .val (.int (Int32.ofNat b3)), .val (.int (Int32.ofNat n)), .val (.int (Int32.ofNat cc)), .val (.int (Int32.ofNat fr)), .val (.int (Int32.ofNat t2)), .val (.int (Int32.ofNat (max fr (min t2 cc))))]) rfl ?_
                  have eL : L = n := hDD.n.trans ((nb hm4 ub0 ub1 ub2 ub3).trans en.symm)
                  have eC : Dg mm (ix p2 p3) k0 k1 k2 k3 = cc := (nc hm4 ub0 ub1 ub2 ub3 ud0 ud1 ud2 ud3).trans ecc.symm
                  have hB : ∀ r, r < L → (Bq p2 p3 ((ky k0 k1 k2 k3) (zf r)) ↔ r < cc) := by rw [← eC]; exact DD.c hK hDD p2 p3
                  refine G.aload K Dx_458 rfl rfl ?_
                  refine G.iload K Dx_460 rfl ?_
                  refine G.iload K Dx_462 rfl ?_
                  refine G.iloadN K Dx_464 rfl ?_
                  refine G.iloadN K Dx_465 rfl ?_
                  have H920 : Hp n0 h911 [(B3, Ia Z (lst (2 * L) (cF (ky k0 k1 k2 k3) zf))), (a904, Ob Z "com/example/rankwise/rankwise/store/TripleIndex" NST [.ref B1, .ref B2, .ref B3]), (a885, Ia Z (lst 4 (fun _ => 0))), (a887, Ia Z (lst 4 (sF (ky k0 k1 k2 k3)))), (a889, Ia Z (lst 4 (tF (ky k0 k1 k2 k3))))] := H911.pull 1 rfl
                  have H921 : Hp n0 h911 [(a904, Ob Z "com/example/rankwise/rankwise/store/TripleIndex" NST [.ref B1, .ref B2, .ref B3]), (B3, Ia Z (lst (2 * L) (cF (ky k0 k1 k2 k3) zf))), (a885, Ia Z (lst 4 (fun _ => 0))), (a887, Ia Z (lst 4 (sF (ky k0 k1 k2 k3)))), (a889, Ia Z (lst 4 (tF (ky k0 k1 k2 k3))))] := H920.pull 1 rfl
                  refine G.callV K hl (wd hw 39 rfl) (wd hw 40 rfl) (wd hw 42 rfl) (wd hw 41 rfl) (wd hw 3 rfl) (wd hw 43 rfl) (by decide) pd_6 (H921.exa (i := 0) rfl) (ct_lb l Z a0 hw n0 h911 a904 B1 B2 B3 (ky k0 k1 k2 k3) zf L fr t2 cc p2 p3 [(a885, Ia Z (lst 4 (fun _ => 0))), (a887, Ia Z (lst 4 (sF (ky k0 k1 k2 k3)))), (a889, Ia Z (lst 4 (tF (ky k0 k1 k2 k3))))] hDD.1 (by omega) (by omega) hB H921) 0 rfl (by decide) (by decide) (by decide) (by decide) rfl rfl [.int p3, .int p2, .int (Int32.ofNat t2), .int (Int32.ofNat fr)] rfl Dx_466 ?_
                  rintro _ _ ⟨rfl, rfl⟩
                  change G k n0 _ h911 _ _ 469 [.val (.int p0), .val (.int p1), .val (.int p2), .val (.int p3), .val (.int p4), .val (.int (Int32.ofNat mm)), .val (.ref a885), .val (.ref a887), .val (.ref a889), .val (.ref a899), .val (.ref a904), .val (.int (Int32.ofNat b0)), .val (.int (Int32.ofNat b1)), .val (.int (Int32.ofNat b2)), .val (.int (Int32.ofNat b3)), .val (.int (Int32.ofNat n)), .val (.int (Int32.ofNat cc)), .val (.int (Int32.ofNat fr)), .val (.int (Int32.ofNat t2)), .val (.int (Int32.ofNat (max fr (min t2 cc))))] [.int (Int32.ofNat (max fr (min t2 cc)))]
                  refine G.iload K Dx_469 rfl ?_
                  refine G.icmp_ne K Dx_471 (fun q => absurd rfl q) (fun q922 => ?_)
                  refine G.iconst K Dx_474 1 rfl ?_
                  refine G.goto K Dx_475 ?_
                  refine G.ret_bool K Dx_479 ?_
                  exact rfl
                refine G.iload K Dx_380 rfl ?_
                refine G.if_eq K Dx_382 (fun q923 => ?_) (fun q923 => ?_)
                · have f924 : b3 = 0 := (own_neq (n := 0) (by omega) (by decide)).mp q923
                  refine G.iconst K Dx_405 0 rfl ?_
                  exact T919 0 (by omega)
                · have f926 : ¬ b3 = 0 := fun y => q923 (by rw [y]; rfl)
                  refine G.aload K Dx_385 rfl rfl ?_
                  refine G.iconst K Dx_387 3 rfl ?_
                  refine G.aload_i K H911 (i := 3) rfl (by decide) rfl Dx_388 ?_
                  refine G.aload K Dx_389 rfl rfl ?_
                  refine G.iconst K Dx_391 3 rfl ?_
                  refine G.aload_i K H911 (i := 4) rfl (by decide) rfl Dx_392 ?_
                  refine G.iloadN K Dx_393 rfl ?_
                  refine G.iloadN K Dx_394 rfl ?_
                  refine G.callS K hl (wd hw 55 rfl) (wd hw 56 rfl) (wd hw 30 rfl) (wd hw 57 rfl) (by decide) pd_7 (ct_less l Z a0 hw n0 _ (Int32.ofNat (k3 / 16)) (Int32.ofNat (k3 % 16)) p2 p3) 1 rfl (by decide) (by decide) (by decide) (by decide) rfl rfl [.int p3, .int p2, .int (Int32.ofNat (k3 % 16)), .int (Int32.ofNat (k3 / 16))] rfl Dx_395 ?_
                  rintro _ _ ⟨z927, rfl, hz927, rfl⟩
                  change G k n0 _ h911 _ _ 398 [.val (.int p0), .val (.int p1), .val (.int p2), .val (.int p3), .val (.int p4), .val (.int (Int32.ofNat mm)), .val (.ref a885), .val (.ref a887), .val (.ref a889), .val (.ref a899), .val (.ref a904), .val (.int (Int32.ofNat b0)), .val (.int (Int32.ofNat b1)), .val (.int (Int32.ofNat b2)), .val (.int (Int32.ofNat b3)), .val (.int (Int32.ofNat n)), .unset, .unset, .unset, .unset] [.int z927, .int (((Int32.ofNat d0) + (Int32.ofNat d1)) + (Int32.ofNat d2))]
                  refine G.if_eq K Dx_398 (fun q928 => ?_) (fun q928 => ?_)
                  · have f929 : ix p2 p3 k3 = 0 := ix0 (show ¬ Bq p2 p3 k3 from hz927.mp q928)
                    refine G.iconst K Dx_405 0 rfl ?_
                    exact T919 0 (by omega)
                  · have f931 : ix p2 p3 k3 = 1 := ix1 (Decidable.of_not_not (p := Bq p2 p3 k3) fun y => q928 (hz927.mpr y))
                    refine G.iconst K Dx_401 1 rfl ?_
                    refine G.goto K Dx_402 ?_
                    exact T919 1 (by omega)
              refine G.iload K Dx_350 rfl ?_
              refine G.if_eq K Dx_352 (fun q933 => ?_) (fun q933 => ?_)
              · have f934 : b2 = 0 := (own_neq (n := 0) (by omega) (by decide)).mp q933
                refine G.iconst K Dx_375 0 rfl ?_
                exact T918 0 (by omega)
              · have f936 : ¬ b2 = 0 := fun y => q933 (by rw [y]; rfl)
                refine G.aload K Dx_355 rfl rfl ?_
                refine G.iconst K Dx_357 2 rfl ?_
                refine G.aload_i K H911 (i := 3) rfl (by decide) rfl Dx_358 ?_
                refine G.aload K Dx_359 rfl rfl ?_
                refine G.iconst K Dx_361 2 rfl ?_
                refine G.aload_i K H911 (i := 4) rfl (by decide) rfl Dx_362 ?_
                refine G.iloadN K Dx_363 rfl ?_
                refine G.iloadN K Dx_364 rfl ?_
                refine G.callS K hl (wd hw 55 rfl) (wd hw 56 rfl) (wd hw 30 rfl) (wd hw 57 rfl) (by decide) pd_7 (ct_less l Z a0 hw n0 _ (Int32.ofNat (k2 / 16)) (Int32.ofNat (k2 % 16)) p2 p3) 1 rfl (by decide) (by decide) (by decide) (by decide) rfl rfl [.int p3, .int p2, .int (Int32.ofNat (k2 % 16)), .int (Int32.ofNat (k2 / 16))] rfl Dx_365 ?_
                rintro _ _ ⟨z937, rfl, hz937, rfl⟩
                change G k n0 _ h911 _ _ 368 [.val (.int p0), .val (.int p1), .val (.int p2), .val (.int p3), .val (.int p4), .val (.int (Int32.ofNat mm)), .val (.ref a885), .val (.ref a887), .val (.ref a889), .val (.ref a899), .val (.ref a904), .val (.int (Int32.ofNat b0)), .val (.int (Int32.ofNat b1)), .val (.int (Int32.ofNat b2)), .val (.int (Int32.ofNat b3)), .val (.int (Int32.ofNat n)), .unset, .unset, .unset, .unset] [.int z937, .int ((Int32.ofNat d0) + (Int32.ofNat d1))]
                refine G.if_eq K Dx_368 (fun q938 => ?_) (fun q938 => ?_)
                · have f939 : ix p2 p3 k2 = 0 := ix0 (show ¬ Bq p2 p3 k2 from hz937.mp q938)
                  refine G.iconst K Dx_375 0 rfl ?_
                  exact T918 0 (by omega)
                · have f941 : ix p2 p3 k2 = 1 := ix1 (Decidable.of_not_not (p := Bq p2 p3 k2) fun y => q938 (hz937.mpr y))
                  refine G.iconst K Dx_371 1 rfl ?_
                  refine G.goto K Dx_372 ?_
                  exact T918 1 (by omega)
            refine G.iload K Dx_320 rfl ?_
            refine G.if_eq K Dx_322 (fun q943 => ?_) (fun q943 => ?_)
            · have f944 : b1 = 0 := (own_neq (n := 0) (by omega) (by decide)).mp q943
              refine G.iconst K Dx_345 0 rfl ?_
              exact T917 0 (by omega)
            · have f946 : ¬ b1 = 0 := fun y => q943 (by rw [y]; rfl)
              refine G.aload K Dx_325 rfl rfl ?_
              refine G.iconst K Dx_327 1 rfl ?_
              refine G.aload_i K H911 (i := 3) rfl (by decide) rfl Dx_328 ?_
              refine G.aload K Dx_329 rfl rfl ?_
              refine G.iconst K Dx_331 1 rfl ?_
              refine G.aload_i K H911 (i := 4) rfl (by decide) rfl Dx_332 ?_
              refine G.iloadN K Dx_333 rfl ?_
              refine G.iloadN K Dx_334 rfl ?_
              refine G.callS K hl (wd hw 55 rfl) (wd hw 56 rfl) (wd hw 30 rfl) (wd hw 57 rfl) (by decide) pd_7 (ct_less l Z a0 hw n0 _ (Int32.ofNat (k1 / 16)) (Int32.ofNat (k1 % 16)) p2 p3) 1 rfl (by decide) (by decide) (by decide) (by decide) rfl rfl [.int p3, .int p2, .int (Int32.ofNat (k1 % 16)), .int (Int32.ofNat (k1 / 16))] rfl Dx_335 ?_
              rintro _ _ ⟨z947, rfl, hz947, rfl⟩
              change G k n0 _ h911 _ _ 338 [.val (.int p0), .val (.int p1), .val (.int p2), .val (.int p3), .val (.int p4), .val (.int (Int32.ofNat mm)), .val (.ref a885), .val (.ref a887), .val (.ref a889), .val (.ref a899), .val (.ref a904), .val (.int (Int32.ofNat b0)), .val (.int (Int32.ofNat b1)), .val (.int (Int32.ofNat b2)), .val (.int (Int32.ofNat b3)), .val (.int (Int32.ofNat n)), .unset, .unset, .unset, .unset] [.int z947, .int (Int32.ofNat d0)]
              refine G.if_eq K Dx_338 (fun q948 => ?_) (fun q948 => ?_)
              · have f949 : ix p2 p3 k1 = 0 := ix0 (show ¬ Bq p2 p3 k1 from hz947.mp q948)
                refine G.iconst K Dx_345 0 rfl ?_
                exact T917 0 (by omega)
              · have f951 : ix p2 p3 k1 = 1 := ix1 (Decidable.of_not_not (p := Bq p2 p3 k1) fun y => q948 (hz947.mpr y))
                refine G.iconst K Dx_341 1 rfl ?_
                refine G.goto K Dx_342 ?_
                exact T917 1 (by omega)
          refine G.iload K Dx_291 rfl ?_
          refine G.if_eq K Dx_293 (fun q953 => ?_) (fun q953 => ?_)
          · have f954 : b0 = 0 := (own_neq (n := 0) (by omega) (by decide)).mp q953
            refine G.iconst K Dx_316 0 rfl ?_
            exact T916 0 (by omega)
          · have f956 : ¬ b0 = 0 := fun y => q953 (by rw [y]; rfl)
            refine G.aload K Dx_296 rfl rfl ?_
            refine G.iconst K Dx_298 0 rfl ?_
            refine G.aload_i K H911 (i := 3) rfl (by decide) rfl Dx_299 ?_
            refine G.aload K Dx_300 rfl rfl ?_
            refine G.iconst K Dx_302 0 rfl ?_
            refine G.aload_i K H911 (i := 4) rfl (by decide) rfl Dx_303 ?_
            refine G.iloadN K Dx_304 rfl ?_
            refine G.iloadN K Dx_305 rfl ?_
            refine G.callS K hl (wd hw 55 rfl) (wd hw 56 rfl) (wd hw 30 rfl) (wd hw 57 rfl) (by decide) pd_7 (ct_less l Z a0 hw n0 _ (Int32.ofNat (k0 / 16)) (Int32.ofNat (k0 % 16)) p2 p3) 0 rfl (by decide) (by decide) (by decide) (by decide) rfl rfl [.int p3, .int p2, .int (Int32.ofNat (k0 % 16)), .int (Int32.ofNat (k0 / 16))] rfl Dx_306 ?_
            rintro _ _ ⟨z957, rfl, hz957, rfl⟩
            change G k n0 _ h911 _ _ 309 [.val (.int p0), .val (.int p1), .val (.int p2), .val (.int p3), .val (.int p4), .val (.int (Int32.ofNat mm)), .val (.ref a885), .val (.ref a887), .val (.ref a889), .val (.ref a899), .val (.ref a904), .val (.int (Int32.ofNat b0)), .val (.int (Int32.ofNat b1)), .val (.int (Int32.ofNat b2)), .val (.int (Int32.ofNat b3)), .val (.int (Int32.ofNat n)), .unset, .unset, .unset, .unset] [.int z957]
            refine G.if_eq K Dx_309 (fun q958 => ?_) (fun q958 => ?_)
            · have f959 : ix p2 p3 k0 = 0 := ix0 (show ¬ Bq p2 p3 k0 from hz957.mp q958)
              refine G.iconst K Dx_316 0 rfl ?_
              exact T916 0 (by omega)
            · have f961 : ix p2 p3 k0 = 1 := ix1 (Decidable.of_not_not (p := Bq p2 p3 k0) fun y => q958 (hz957.mpr y))
              refine G.iconst K Dx_312 1 rfl ?_
              refine G.goto K Dx_313 ?_
              exact T916 1 (by omega)
        refine G.iload K Dx_217 rfl ?_
        refine G.iconst K Dx_219 3 rfl ?_
        refine G.icmp_le K Dx_220 (fun q963 => ?_) (fun q963 => ?_)
        · have f964 : ¬ 3 < mm := fun y => q963 ((own_nlt (i := 3) (n := mm) (by omega) (by omega)).mpr y)
          refine G.iconst K Dx_263 0 rfl ?_
          exact T915 0 (by omega)
        · have f966 : 3 < mm := (own_nlt (i := 3) (n := mm) (by omega) (by omega)).mp q963
          refine G.aload K Dx_223 rfl rfl ?_
          refine G.aload K Dx_225 rfl rfl ?_
          refine G.iconst K Dx_227 3 rfl ?_
          refine G.iconst K Dx_228 0 rfl ?_
          have H967 : Hp n0 h911 [(a889, Ia Z (lst 4 (tF (ky k0 k1 k2 k3)))), (a904, Ob Z "com/example/rankwise/rankwise/store/TripleIndex" NST [.ref B1, .ref B2, .ref B3]), (B3, Ia Z (lst (2 * L) (cF (ky k0 k1 k2 k3) zf))), (a885, Ia Z (lst 4 (fun _ => 0))), (a887, Ia Z (lst 4 (sF (ky k0 k1 k2 k3))))] := H911.pull 4 rfl
          have H968 : Hp n0 h911 [(a887, Ia Z (lst 4 (sF (ky k0 k1 k2 k3)))), (a889, Ia Z (lst 4 (tF (ky k0 k1 k2 k3)))), (a904, Ob Z "com/example/rankwise/rankwise/store/TripleIndex" NST [.ref B1, .ref B2, .ref B3]), (B3, Ia Z (lst (2 * L) (cF (ky k0 k1 k2 k3) zf))), (a885, Ia Z (lst 4 (fun _ => 0)))] := H967.pull 4 rfl
          refine G.callS K hl (wd hw 52 rfl) (wd hw 53 rfl) (wd hw 30 rfl) (wd hw 54 rfl) (by decide) pd_8 (ct_same l Z a0 hw n0 h911 a887 a889 (ky k0 k1 k2 k3) 3 0 [(a904, Ob Z "com/example/rankwise/rankwise/store/TripleIndex" NST [.ref B1, .ref B2, .ref B3]), (B3, Ia Z (lst (2 * L) (cF (ky k0 k1 k2 k3) zf))), (a885, Ia Z (lst 4 (fun _ => 0)))] hK (by decide) (by decide) H968) 0 rfl (by decide) (by decide) (by decide) (by decide) rfl rfl [.int 0, .int 3, .ref a889, .ref a887] rfl Dx_229 ?_
          rintro _ _ ⟨z969, rfl, hz969, rfl⟩
          change G k n0 _ h911 _ _ 232 [.val (.int p0), .val (.int p1), .val (.int p2), .val (.int p3), .val (.int p4), .val (.int (Int32.ofNat mm)), .val (.ref a885), .val (.ref a887), .val (.ref a889), .val (.ref a899), .val (.ref a904), .val (.int (Int32.ofNat b0)), .val (.int (Int32.ofNat b1)), .val (.int (Int32.ofNat b2)), .unset, .unset, .unset, .unset, .unset, .unset] [.int z969]
          refine G.if_ne K Dx_232 (fun q970 => ?_) (fun q970 => ?_)
          · have f971 : k3 = k0 := Decidable.of_not_not fun y => q970 (hz969.mpr y)
            refine G.iconst K Dx_263 0 rfl ?_
            exact T915 0 (by omega)
          · have f973 : ¬ k3 = k0 := hz969.mp q970
            refine G.aload K Dx_235 rfl rfl ?_
            refine G.aload K Dx_237 rfl rfl ?_
            refine G.iconst K Dx_239 3 rfl ?_
            refine G.iconst K Dx_240 1 rfl ?_
            have H974 : Hp n0 h911 [(a889, Ia Z (lst 4 (tF (ky k0 k1 k2 k3)))), (a887, Ia Z (lst 4 (sF (ky k0 k1 k2 k3)))), (a904, Ob Z "com/example/rankwise/rankwise/store/TripleIndex" NST [.ref B1, .ref B2, .ref B3]), (B3, Ia Z (lst (2 * L) (cF (ky k0 k1 k2 k3) zf))), (a885, Ia Z (lst 4 (fun _ => 0)))] := H968.pull 1 rfl
            have H975 : Hp n0 h911 [(a887, Ia Z (lst 4 (sF (ky k0 k1 k2 k3)))), (a889, Ia Z (lst 4 (tF (ky k0 k1 k2 k3)))), (a904, Ob Z "com/example/rankwise/rankwise/store/TripleIndex" NST [.ref B1, .ref B2, .ref B3]), (B3, Ia Z (lst (2 * L) (cF (ky k0 k1 k2 k3) zf))), (a885, Ia Z (lst 4 (fun _ => 0)))] := H974.pull 1 rfl
            refine G.callS K hl (wd hw 52 rfl) (wd hw 53 rfl) (wd hw 30 rfl) (wd hw 54 rfl) (by decide) pd_8 (ct_same l Z a0 hw n0 h911 a887 a889 (ky k0 k1 k2 k3) 3 1 [(a904, Ob Z "com/example/rankwise/rankwise/store/TripleIndex" NST [.ref B1, .ref B2, .ref B3]), (B3, Ia Z (lst (2 * L) (cF (ky k0 k1 k2 k3) zf))), (a885, Ia Z (lst 4 (fun _ => 0)))] hK (by decide) (by decide) H975) 0 rfl (by decide) (by decide) (by decide) (by decide) rfl rfl [.int 1, .int 3, .ref a889, .ref a887] rfl Dx_241 ?_
            rintro _ _ ⟨z976, rfl, hz976, rfl⟩
            change G k n0 _ h911 _ _ 244 [.val (.int p0), .val (.int p1), .val (.int p2), .val (.int p3), .val (.int p4), .val (.int (Int32.ofNat mm)), .val (.ref a885), .val (.ref a887), .val (.ref a889), .val (.ref a899), .val (.ref a904), .val (.int (Int32.ofNat b0)), .val (.int (Int32.ofNat b1)), .val (.int (Int32.ofNat b2)), .unset, .unset, .unset, .unset, .unset, .unset] [.int z976]
            refine G.if_ne K Dx_244 (fun q977 => ?_) (fun q977 => ?_)
            · have f978 : k3 = k1 := Decidable.of_not_not fun y => q977 (hz976.mpr y)
              refine G.iconst K Dx_263 0 rfl ?_
              exact T915 0 (by omega)
            · have f980 : ¬ k3 = k1 := hz976.mp q977
              refine G.aload K Dx_247 rfl rfl ?_
              refine G.aload K Dx_249 rfl rfl ?_
              refine G.iconst K Dx_251 3 rfl ?_
              refine G.iconst K Dx_252 2 rfl ?_
              have H981 : Hp n0 h911 [(a889, Ia Z (lst 4 (tF (ky k0 k1 k2 k3)))), (a887, Ia Z (lst 4 (sF (ky k0 k1 k2 k3)))), (a904, Ob Z "com/example/rankwise/rankwise/store/TripleIndex" NST [.ref B1, .ref B2, .ref B3]), (B3, Ia Z (lst (2 * L) (cF (ky k0 k1 k2 k3) zf))), (a885, Ia Z (lst 4 (fun _ => 0)))] := H975.pull 1 rfl
              have H982 : Hp n0 h911 [(a887, Ia Z (lst 4 (sF (ky k0 k1 k2 k3)))), (a889, Ia Z (lst 4 (tF (ky k0 k1 k2 k3)))), (a904, Ob Z "com/example/rankwise/rankwise/store/TripleIndex" NST [.ref B1, .ref B2, .ref B3]), (B3, Ia Z (lst (2 * L) (cF (ky k0 k1 k2 k3) zf))), (a885, Ia Z (lst 4 (fun _ => 0)))] := H981.pull 1 rfl
              refine G.callS K hl (wd hw 52 rfl) (wd hw 53 rfl) (wd hw 30 rfl) (wd hw 54 rfl) (by decide) pd_8 (ct_same l Z a0 hw n0 h911 a887 a889 (ky k0 k1 k2 k3) 3 2 [(a904, Ob Z "com/example/rankwise/rankwise/store/TripleIndex" NST [.ref B1, .ref B2, .ref B3]), (B3, Ia Z (lst (2 * L) (cF (ky k0 k1 k2 k3) zf))), (a885, Ia Z (lst 4 (fun _ => 0)))] hK (by decide) (by decide) H982) 0 rfl (by decide) (by decide) (by decide) (by decide) rfl rfl [.int 2, .int 3, .ref a889, .ref a887] rfl Dx_253 ?_
              rintro _ _ ⟨z983, rfl, hz983, rfl⟩
              change G k n0 _ h911 _ _ 256 [.val (.int p0), .val (.int p1), .val (.int p2), .val (.int p3), .val (.int p4), .val (.int (Int32.ofNat mm)), .val (.ref a885), .val (.ref a887), .val (.ref a889), .val (.ref a899), .val (.ref a904), .val (.int (Int32.ofNat b0)), .val (.int (Int32.ofNat b1)), .val (.int (Int32.ofNat b2)), .unset, .unset, .unset, .unset, .unset, .unset] [.int z983]
              refine G.if_ne K Dx_256 (fun q984 => ?_) (fun q984 => ?_)
              · have f985 : k3 = k2 := Decidable.of_not_not fun y => q984 (hz983.mpr y)
                refine G.iconst K Dx_263 0 rfl ?_
                exact T915 0 (by omega)
              · have f987 : ¬ k3 = k2 := hz983.mp q984
                refine G.iconst K Dx_259 1 rfl ?_
                refine G.goto K Dx_260 ?_
                exact T915 1 (by omega)
      refine G.iload K Dx_180 rfl ?_
      refine G.iconst K Dx_182 2 rfl ?_
      refine G.icmp_le K Dx_183 (fun q989 => ?_) (fun q989 => ?_)
      · have f990 : ¬ 2 < mm := fun y => q989 ((own_nlt (i := 2) (n := mm) (by omega) (by omega)).mpr y)
        refine G.iconst K Dx_214 0 rfl ?_
        exact T914 0 (by omega)
      · have f992 : 2 < mm := (own_nlt (i := 2) (n := mm) (by omega) (by omega)).mp q989
        refine G.aload K Dx_186 rfl rfl ?_
        refine G.aload K Dx_188 rfl rfl ?_
        refine G.iconst K Dx_190 2 rfl ?_
        refine G.iconst K Dx_191 0 rfl ?_
        have H993 : Hp n0 h911 [(a889, Ia Z (lst 4 (tF (ky k0 k1 k2 k3)))), (a904, Ob Z "com/example/rankwise/rankwise/store/TripleIndex" NST [.ref B1, .ref B2, .ref B3]), (B3, Ia Z (lst (2 * L) (cF (ky k0 k1 k2 k3) zf))), (a885, Ia Z (lst 4 (fun _ => 0))), (a887, Ia Z (lst 4 (sF (ky k0 k1 k2 k3))))] := H911.pull 4 rfl
        have H994 : Hp n0 h911 [(a887, Ia Z (lst 4 (sF (ky k0 k1 k2 k3)))), (a889, Ia Z (lst 4 (tF (ky k0 k1 k2 k3)))), (a904, Ob Z "com/example/rankwise/rankwise/store/TripleIndex" NST [.ref B1, .ref B2, .ref B3]), (B3, Ia Z (lst (2 * L) (cF (ky k0 k1 k2 k3) zf))), (a885, Ia Z (lst 4 (fun _ => 0)))] := H993.pull 4 rfl
        refine G.callS K hl (wd hw 52 rfl) (wd hw 53 rfl) (wd hw 30 rfl) (wd hw 54 rfl) (by decide) pd_8 (ct_same l Z a0 hw n0 h911 a887 a889 (ky k0 k1 k2 k3) 2 0 [(a904, Ob Z "com/example/rankwise/rankwise/store/TripleIndex" NST [.ref B1, .ref B2, .ref B3]), (B3, Ia Z (lst (2 * L) (cF (ky k0 k1 k2 k3) zf))), (a885, Ia Z (lst 4 (fun _ => 0)))] hK (by decide) (by decide) H994) 0 rfl (by decide) (by decide) (by decide) (by decide) rfl rfl [.int 0, .int 2, .ref a889, .ref a887] rfl Dx_192 ?_
        rintro _ _ ⟨z995, rfl, hz995, rfl⟩
        change G k n0 _ h911 _ _ 195 [.val (.int p0), .val (.int p1), .val (.int p2), .val (.int p3), .val (.int p4), .val (.int (Int32.ofNat mm)), .val (.ref a885), .val (.ref a887), .val (.ref a889), .val (.ref a899), .val (.ref a904), .val (.int (Int32.ofNat b0)), .val (.int (Int32.ofNat b1)), .unset, .unset, .unset, .unset, .unset, .unset, .unset] [.int z995]
        refine G.if_ne K Dx_195 (fun q996 => ?_) (fun q996 => ?_)
        · have f997 : k2 = k0 := Decidable.of_not_not fun y => q996 (hz995.mpr y)
          refine G.iconst K Dx_214 0 rfl ?_
          exact T914 0 (by omega)
        · have f999 : ¬ k2 = k0 := hz995.mp q996
          refine G.aload K Dx_198 rfl rfl ?_
          refine G.aload K Dx_200 rfl rfl ?_
          refine G.iconst K Dx_202 2 rfl ?_
          refine G.iconst K Dx_203 1 rfl ?_
          have H1000 : Hp n0 h911 [(a889, Ia Z (lst 4 (tF (ky k0 k1 k2 k3)))), (a887, Ia Z (lst 4 (sF (ky k0 k1 k2 k3)))), (a904, Ob Z "com/example/rankwise/rankwise/store/TripleIndex" NST [.ref B1, .ref B2, .ref B3]), (B3, Ia Z (lst (2 * L) (cF (ky k0 k1 k2 k3) zf))), (a885, Ia Z (lst 4 (fun _ => 0)))] := H994.pull 1 rfl
          have H1001 : Hp n0 h911 [(a887, Ia Z (lst 4 (sF (ky k0 k1 k2 k3)))), (a889, Ia Z (lst 4 (tF (ky k0 k1 k2 k3)))), (a904, Ob Z "com/example/rankwise/rankwise/store/TripleIndex" NST [.ref B1, .ref B2, .ref B3]), (B3, Ia Z (lst (2 * L) (cF (ky k0 k1 k2 k3) zf))), (a885, Ia Z (lst 4 (fun _ => 0)))] := H1000.pull 1 rfl
          refine G.callS K hl (wd hw 52 rfl) (wd hw 53 rfl) (wd hw 30 rfl) (wd hw 54 rfl) (by decide) pd_8 (ct_same l Z a0 hw n0 h911 a887 a889 (ky k0 k1 k2 k3) 2 1 [(a904, Ob Z "com/example/rankwise/rankwise/store/TripleIndex" NST [.ref B1, .ref B2, .ref B3]), (B3, Ia Z (lst (2 * L) (cF (ky k0 k1 k2 k3) zf))), (a885, Ia Z (lst 4 (fun _ => 0)))] hK (by decide) (by decide) H1001) 0 rfl (by decide) (by decide) (by decide) (by decide) rfl rfl [.int 1, .int 2, .ref a889, .ref a887] rfl Dx_204 ?_
          rintro _ _ ⟨z1002, rfl, hz1002, rfl⟩
          change G k n0 _ h911 _ _ 207 [.val (.int p0), .val (.int p1), .val (.int p2), .val (.int p3), .val (.int p4), .val (.int (Int32.ofNat mm)), .val (.ref a885), .val (.ref a887), .val (.ref a889), .val (.ref a899), .val (.ref a904), .val (.int (Int32.ofNat b0)), .val (.int (Int32.ofNat b1)), .unset, .unset, .unset, .unset, .unset, .unset, .unset] [.int z1002]
          refine G.if_ne K Dx_207 (fun q1003 => ?_) (fun q1003 => ?_)
          · have f1004 : k2 = k1 := Decidable.of_not_not fun y => q1003 (hz1002.mpr y)
            refine G.iconst K Dx_214 0 rfl ?_
            exact T914 0 (by omega)
          · have f1006 : ¬ k2 = k1 := hz1002.mp q1003
            refine G.iconst K Dx_210 1 rfl ?_
            refine G.goto K Dx_211 ?_
            exact T914 1 (by omega)
    refine G.iload K Dx_155 rfl ?_
    refine G.iconst K Dx_157 1 rfl ?_
    refine G.icmp_le K Dx_158 (fun q1008 => ?_) (fun q1008 => ?_)
    · have f1009 : ¬ 1 < mm := fun y => q1008 ((own_nlt (i := 1) (n := mm) (by omega) (by omega)).mpr y)
      refine G.iconst K Dx_177 0 rfl ?_
      exact T913 0 (by omega)
    · have f1011 : 1 < mm := (own_nlt (i := 1) (n := mm) (by omega) (by omega)).mp q1008
      refine G.aload K Dx_161 rfl rfl ?_
      refine G.aload K Dx_163 rfl rfl ?_
      refine G.iconst K Dx_165 1 rfl ?_
      refine G.iconst K Dx_166 0 rfl ?_
      have H1012 : Hp n0 h911 [(a889, Ia Z (lst 4 (tF (ky k0 k1 k2 k3)))), (a904, Ob Z "com/example/rankwise/rankwise/store/TripleIndex" NST [.ref B1, .ref B2, .ref B3]), (B3, Ia Z (lst (2 * L) (cF (ky k0 k1 k2 k3) zf))), (a885, Ia Z (lst 4 (fun _ => 0))), (a887, Ia Z (lst 4 (sF (ky k0 k1 k2 k3))))] := H911.pull 4 rfl
      have H1013 : Hp n0 h911 [(a887, Ia Z (lst 4 (sF (ky k0 k1 k2 k3)))), (a889, Ia Z (lst 4 (tF (ky k0 k1 k2 k3)))), (a904, Ob Z "com/example/rankwise/rankwise/store/TripleIndex" NST [.ref B1, .ref B2, .ref B3]), (B3, Ia Z (lst (2 * L) (cF (ky k0 k1 k2 k3) zf))), (a885, Ia Z (lst 4 (fun _ => 0)))] := H1012.pull 4 rfl
      refine G.callS K hl (wd hw 52 rfl) (wd hw 53 rfl) (wd hw 30 rfl) (wd hw 54 rfl) (by decide) pd_8 (ct_same l Z a0 hw n0 h911 a887 a889 (ky k0 k1 k2 k3) 1 0 [(a904, Ob Z "com/example/rankwise/rankwise/store/TripleIndex" NST [.ref B1, .ref B2, .ref B3]), (B3, Ia Z (lst (2 * L) (cF (ky k0 k1 k2 k3) zf))), (a885, Ia Z (lst 4 (fun _ => 0)))] hK (by decide) (by decide) H1013) 0 rfl (by decide) (by decide) (by decide) (by decide) rfl rfl [.int 0, .int 1, .ref a889, .ref a887] rfl Dx_167 ?_
      rintro _ _ ⟨z1014, rfl, hz1014, rfl⟩
      change G k n0 _ h911 _ _ 170 [.val (.int p0), .val (.int p1), .val (.int p2), .val (.int p3), .val (.int p4), .val (.int (Int32.ofNat mm)), .val (.ref a885), .val (.ref a887), .val (.ref a889), .val (.ref a899), .val (.ref a904), .val (.int (Int32.ofNat b0)), .unset, .unset, .unset, .unset, .unset, .unset, .unset, .unset] [.int z1014]
      refine G.if_ne K Dx_170 (fun q1015 => ?_) (fun q1015 => ?_)
      · have f1016 : k1 = k0 := Decidable.of_not_not fun y => q1015 (hz1014.mpr y)
        refine G.iconst K Dx_177 0 rfl ?_
        exact T913 0 (by omega)
      · have f1018 : ¬ k1 = k0 := hz1014.mp q1015
        refine G.iconst K Dx_173 1 rfl ?_
        refine G.goto K Dx_174 ?_
        exact T913 1 (by omega)
  refine G.iload K Dx_143 rfl ?_
  refine G.if_le K Dx_145 (fun q1020 => ?_) (fun q1020 => ?_)
  · have f1021 : ¬ 0 < mm := fun y => q1020 ((own_nlt (i := 0) (n := mm) (by omega) (by omega)).mpr y)
    refine G.iconst K Dx_152 0 rfl ?_
    exact T912 0 (by omega)
  · have f1023 : 0 < mm := (own_nlt (i := 0) (n := mm) (by omega) (by omega)).mp q1020
    refine G.iconst K Dx_148 1 rfl ?_
    refine G.goto K Dx_149 ?_
    exact T912 1 (by omega)
set_option maxRecDepth 65536 in
set_option maxHeartbeats 40000000 in
theorem comes_1 {Post : Tables → Env → Array Value → State → Outcome → State → Prop} (hpost : ∀ tb e args s v u, (limb_1_1.after args s (.returned v) u = true ∧ limb_1_2.after args s (.returned v) u = true ∧ True) → FrameEnd s (.returned v) u (Jvm.fieldLocs frame_1_writes args s ++ Jvm.arrayLocs frame_1_arrays args s ++ Jvm.staticLocs frame_1_statics s) 32 192 → Post tb e args s (.returned v) u) :
    ArmFor flags0 classFile x code maxLocals ret World_1 tables_1 room_1 Calls_1 rest_1 Pre_1 Post := by
  intro l hfl _ _ p e ha hc hk s m args below hf hA hF happ hP
  obtain ⟨hcalls, hrest, hpre⟩ := hP
  obtain ⟨-, -, -, hnamed, -, -, -, hat⟩ := (Spec.applies_iff hf).mp happ
  obtain ⟨hg, hn⟩ := and_e (Cond.before_iff.mp (show (Jvm.Cond.and given_1 narrow_1).before args s = true from hpre))
  obtain ⟨g0, g1⟩ := and_e hg
  obtain ⟨u0, v0⟩ := and_e g1
  obtain ⟨u1, v1⟩ := and_e v0
  obtain ⟨u2, v2⟩ := and_e v1
  obtain ⟨u3, v3⟩ := and_e v2
  obtain ⟨w0, w1, w2, w3, w4, rfl⟩ : ∃ w0 w1 w2 w3 w4 : Value, args = #[w0, w1, w2, w3, w4] := by
    have hs : args.size = 5 := by simpa [Cond.value, given_1] using g0
    obtain ⟨L⟩ := args
    match L, hs with
    | [w0, w1, w2, w3, w4], _ => exact ⟨w0, w1, w2, w3, w4, rfl⟩
  have hw := fun d (hd : d ∈ tables_1) => atoms_spec (ws := Jvm.Cond.code x code maxLocals ret :: tables_1) hat d (List.mem_cons_of_mem _ hd)
  obtain ⟨i0, ei0⟩ := is_v u0
  obtain rfl : w0 = (.int i0) := Option.some.inj ei0
  obtain ⟨i1, ei1⟩ := is_v u1
  obtain rfl : w1 = (.int i1) := Option.some.inj ei1
  obtain ⟨i2, ei2⟩ := is_v u2
  obtain rfl : w2 = (.int i2) := Option.some.inj ei2
  obtain ⟨i3, ei3⟩ := is_v u3
  obtain rfl : w3 = (.int i3) := Option.some.inj ei3
  obtain ⟨i4, ei4⟩ := is_v v3
  obtain rfl : w4 = (.int i4) := Option.some.inj ei4
  obtain ⟨n, o, h1, h2, h3, _, L, rfl, ⟨rfl, N⟩, hq⟩ := ct_law l s _ hw s.heap.size s.heap i0 i1 i2 i3 i4 (Nat.le_refl _) tables_1 p e ha hc hk s m _ below hf ((Spec.applies_iff_loose hf).mp happ).1 ⟨rfl, State.Warmed39.refl s, rfl⟩ trivial
  refine ⟨n, _, h1, h2, h3, hpost _ _ _ _ _ _ ⟨Cond.after_iff.mpr rfl, Cond.after_iff.mpr (eq_i res_at (Term.int_eval (1)) rfl), trivial⟩ ⟨hq.1, hq.2.1, (hq.2.2.sift fun y hy => Or.inr (N y hy)).mono (by decide) (by decide)⟩⟩
theorem main_1_1 : Claimed_1_1 := comes_1 fun _ _ _ _ _ _ h hF => ⟨h.1, hF⟩
theorem main_1_2 : Claimed_1_2 := comes_1 fun _ _ _ _ _ _ h hF => ⟨h.2.1, hF⟩
end Jvm.Pilot.@@N@@
namespace Jvm.Pilot.@@N@@
open Jvm Jvm.ClassFile Sem Op Lib Jvm.Free Jvm.Stand Jvm.Pilot.@@N@@.Jvm.D
/-! MADE BY PROGRAM (witnessworld.py) out of the Statement's table words and the real class files: 17 classes; the members and pool entries that the words name. The judged class is class 1, her method 4. -/
namespace start1
open Jvm.ClassFile
def u (s : String) : CpInfo := .utf8 (stringToUtf16 s)
/-- a pool by its gaps: so many unusable entries, then the entry; so many at the end -/
def gap : Nat → List CpInfo → List CpInfo
  | 0, r => r
  | n + 1, r => .unusable :: gap n r
def poolList (es : List (Nat × CpInfo)) (last : Nat) : List CpInfo := es.foldr (fun e r => gap e.1 (e.2 :: r)) (gap last [])
def pool (es : List (Nat × CpInfo)) (last : Nat) : Array CpInfo := ⟨poolList es last⟩
def fileOf (pool : Array CpInfo) (this : Nat) (attrs : Array Attribute := #[]) (ms : Array MethodInfo := #[]) (fl : Nat := 33) (sup : Nat := 0) (ifs : Array Nat := #[]) (fds : Array FieldInfo := #[]) : ClassFile where
  minorVersion := 0
  majorVersion := 65
  constantPool := pool
  accessFlags := fl
  thisClass := this
  superClass := sup
  interfaces := ifs
  fields := fds
  methods := ms
  attributes := attrs
def plain (name : String) (sup : Option ClassId) : Class where
  name := name
  kind := .ordinary
  loader := none
  accessFlags := 33
  super := sup
  interfaces := #[]
  cf := none
  fields := #[]
  methods := #[]
  instanceTypes := #[]
  staticTypes := #[]
  resolved := #[]
  callSites := []
  init := .initialized
  statics := none
  mirror := none

def pool0 : Array CpInfo := pool [(5, u "<init>"), (0, u "()V"), (1, .class_ 10), (1, u "java/lang/Object"), (85, u "clone"), (0, u "()Ljava/lang/Object;")] 26

def k0c0 : Code := { maxStack := 0, maxLocals := 1, code := object_method_1_code, exceptionTable := #[], attributes := #[] }
def k0m0 : Method := { name := "<init>", desc := "()V", sig := { parameters := [], returnType := none }, accessFlags := 1, code := some k0c0 }
def k0m1 : Method := { name := "clone", desc := "()Ljava/lang/Object;", sig := { parameters := [], returnType := some (.object "java/lang/Object") }, accessFlags := 260, code := none }
/-- java/lang/Object -/
def k0 : Class := { plain "java/lang/Object" none with
  accessFlags := 33
  interfaces := #[]
  cf := some (fileOf pool0 8 #[] #[{ accessFlags := 1, nameIndex := 5, descriptorIndex := 6, attributes := #[] }, { accessFlags := 260, nameIndex := 96, descriptorIndex := 97, attributes := #[] }] 33 0 #[] #[])
  fields := #[]
  methods := #[k0m0, k0m1]
  instanceTypes := #[]
  staticTypes := #[]
  resolved := Array.replicate 124 none
  statics := none }

def pool1 : Array CpInfo := pool [(2, .class_ 4), (1, u "java/lang/Object"), (0, u "<init>"), (0, u "()V"), (0, .class_ 8), (0, u "com/example/rankwise/rankwise/store/TripleIndex"), (0, .methodref 7 10), (0, .nameAndType 5 11), (0, u "([I[I[II[I)V"), (0, .methodref 13 14), (0, .class_ 15), (0, .nameAndType 16 17), (0, u "com/example/rankwise/rankwise/store/TripleIndexLowerBoundPinLaw"), (0, u "same"), (0, u "([I[III)Z"), (0, .methodref 13 19), (0, .nameAndType 20 21), (0, u "one"), (0, u "(Z)I"), (0, .methodref 13 23), (0, .nameAndType 24 25), (0, u "less"), (0, u "(IIII)Z"), (0, .methodref 27 28), (0, .class_ 29), (0, .nameAndType 30 31), (0, u "java/lang/Math"), (0, u "min"), (0, u "(II)I"), (0, .methodref 27 33), (0, .nameAndType 34 31), (0, u "max"), (0, .methodref 7 36), (0, .nameAndType 37 38), (0, u "lowerBound"), (0, u "(IIII)I"), (3, u "law"), (0, u "(IIIII)Z")] 4

def k1m0 : Method := { name := "<init>", desc := "()V", sig := { parameters := [], returnType := none }, accessFlags := 1, code := none }
def k1c1 : Code := { maxStack := 1, maxLocals := 1, code := method_2_code, exceptionTable := #[], attributes := #[] }
def k1m1 : Method := { name := "one", desc := "(Z)I", sig := { parameters := [.boolean], returnType := some .int }, accessFlags := 10, code := some k1c1 }
def k1c2 : Code := { maxStack := 3, maxLocals := 4, code := method_3_code, exceptionTable := #[], attributes := #[] }
def k1m2 : Method := { name := "same", desc := "([I[III)Z", sig := { parameters := [(.array .int), (.array .int), .int, .int], returnType := some .boolean }, accessFlags := 10, code := some k1c2 }
def k1c3 : Code := { maxStack := 2, maxLocals := 4, code := method_4_code, exceptionTable := #[], attributes := #[] }
def k1m3 : Method := { name := "less", desc := "(IIII)Z", sig := { parameters := [.int, .int, .int, .int], returnType := some .boolean }, accessFlags := 10, code := some k1c3 }
def k1c4 : Code := { maxStack := 7, maxLocals := 20, code := code, exceptionTable := #[], attributes := #[] }
def k1m4 : Method := { name := "law", desc := "(IIIII)Z", sig := { parameters := [.int, .int, .int, .int, .int], returnType := some .boolean }, accessFlags := 9, code := some k1c4 }
/-- com/example/rankwise/rankwise/store/TripleIndexLowerBoundPinLaw -/
def k1 : Class := { plain "com/example/rankwise/rankwise/store/TripleIndexLowerBoundPinLaw" (some 0) with
  accessFlags := 49
  interfaces := #[]
  cf := some (fileOf pool1 13 #[] #[{ accessFlags := 1, nameIndex := 5, descriptorIndex := 6, attributes := #[] }, { accessFlags := 10, nameIndex := 20, descriptorIndex := 21, attributes := #[] }, { accessFlags := 10, nameIndex := 16, descriptorIndex := 17, attributes := #[] }, { accessFlags := 10, nameIndex := 24, descriptorIndex := 25, attributes := #[] }, { accessFlags := 9, nameIndex := 42, descriptorIndex := 43, attributes := #[] }] 49 2 #[] #[])
  fields := #[]
  methods := #[k1m0, k1m1, k1m2, k1m3, k1m4]
  instanceTypes := #[]
  staticTypes := #[]
  resolved := Array.replicate 48 none
  statics := none }

def pool2 : Array CpInfo := pool [(1, .methodref 2 3), (0, .class_ 4), (0, .nameAndType 5 6), (0, u "java/lang/Object"), (0, u "<init>"), (0, u "()V"), (0, .methodref 8 9), (0, .class_ 10), (0, .nameAndType 11 12), (0, u "[I"), (0, u "clone"), (0, u "()Ljava/lang/Object;"), (0, .fieldref 14 15), (0, .class_ 16), (0, .nameAndType 17 10), (0, u "com/example/rankwise/rankwise/store/TripleIndex"), (0, u "columnOf"), (0, .methodref 14 19), (0, .nameAndType 20 21), (0, u "sortedOrder"), (0, u "([I[I[II)[I"), (0, .fieldref 14 23), (0, .nameAndType 24 10), (0, u "starts"), (0, .methodref 26 27), (0, .class_ 28), (0, .nameAndType 29 30), (0, u "java/util/Arrays"), (0, u "copyOf"), (0, u "([II)[I"), (0, .fieldref 14 32), (0, .nameAndType 33 10), (0, u "columns"), (7, .methodref 42 43), (0, .class_ 44), (0, .nameAndType 45 46), (0, u "java/lang/Math"), (0, u "min"), (0, u "(II)I"), (0, .methodref 14 48), (0, .nameAndType 49 50), (0, u "compare"), (0, u "([I[I[III)I"), (0, .methodref 52 53), (0, .class_ 54), (0, .nameAndType 49 46), (0, u "java/lang/Integer"), (0, u "([I[I[II[I)V"), (8, u "lowerBound"), (0, u "(IIII)I")] 2

def k2c0 : Code := { maxStack := 6, maxLocals := 13, code := prog_99_method_1_code, exceptionTable := #[], attributes := #[] }
def k2m0 : Method := { name := "<init>", desc := "([I[I[II[I)V", sig := { parameters := [(.array .int), (.array .int), (.array .int), .int, (.array .int)], returnType := none }, accessFlags := 0, code := some k2c0 }
def k2c1 : Code := { maxStack := 3, maxLocals := 9, code := prog_99_method_9_code, exceptionTable := #[], attributes := #[] }
def k2m1 : Method := { name := "lowerBound", desc := "(IIII)I", sig := { parameters := [.int, .int, .int, .int], returnType := some .int }, accessFlags := 0, code := some k2c1 }
def k2c2 : Code := { maxStack := 6, maxLocals := 14, code := prog_99_method_10_code, exceptionTable := #[], attributes := #[] }
def k2m2 : Method := { name := "sortedOrder", desc := "([I[I[II)[I", sig := { parameters := [(.array .int), (.array .int), (.array .int), .int], returnType := some (.array .int) }, accessFlags := 10, code := some k2c2 }
def k2c3 : Code := { maxStack := 3, maxLocals := 6, code := prog_99_method_11_code, exceptionTable := #[], attributes := #[] }
def k2m3 : Method := { name := "compare", desc := "([I[I[III)I", sig := { parameters := [(.array .int), (.array .int), (.array .int), .int, .int], returnType := some .int }, accessFlags := 10, code := some k2c3 }
/-- com/example/rankwise/rankwise/store/TripleIndex -/
def k2 : Class := { plain "com/example/rankwise/rankwise/store/TripleIndex" (some 0) with
  accessFlags := 32
  interfaces := #[]
  cf := some (fileOf pool2 14 #[] #[{ accessFlags := 0, nameIndex := 5, descriptorIndex := 55, attributes := #[] }, { accessFlags := 0, nameIndex := 64, descriptorIndex := 65, attributes := #[] }, { accessFlags := 10, nameIndex := 20, descriptorIndex := 21, attributes := #[] }, { accessFlags := 10, nameIndex := 49, descriptorIndex := 50, attributes := #[] }] 32 2 #[] #[{ accessFlags := 18, nameIndex := 17, descriptorIndex := 10, attributes := #[] }, { accessFlags := 18, nameIndex := 24, descriptorIndex := 10, attributes := #[] }, { accessFlags := 18, nameIndex := 33, descriptorIndex := 10, attributes := #[] }])
  fields := #[{ name := "columnOf", type := (.array .int), accessFlags := 18, slot := 0, constantValue := 0 }, { name := "starts", type := (.array .int), accessFlags := 18, slot := 1, constantValue := 0 }, { name := "columns", type := (.array .int), accessFlags := 18, slot := 2, constantValue := 0 }]
  methods := #[k2m0, k2m1, k2m2, k2m3]
  instanceTypes := #[(.array .int), (.array .int), (.array .int)]
  staticTypes := #[]
  resolved := Array.replicate 68 none
  statics := none }

def pool3 : Array CpInfo := pool [(1, .class_ 2), (0, u "java/lang/Cloneable"), (0, .class_ 4), (0, u "java/lang/Object")] 2

/-- java/lang/Cloneable -/
def k3 : Class := { plain "java/lang/Cloneable" (some 0) with
  accessFlags := 1537
  interfaces := #[]
  cf := some (fileOf pool3 1 #[] #[] 1537 3 #[] #[])
  fields := #[]
  methods := #[]
  instanceTypes := #[]
  staticTypes := #[]
  resolved := Array.replicate 7 none
  statics := none }

def pool4 : Array CpInfo := pool [(1, .class_ 2), (0, u "java/lang/Math"), (1, .class_ 6), (1, u "java/lang/Object"), (0, u "<init>"), (0, u "()V"), (89, .class_ 100), (1, u "java/lang/Math$RandomNumberGeneratorHolder"), (71, u "negativeZeroFloatBits"), (0, u "J"), (2, u "negativeZeroDoubleBits"), (21, u "max"), (2, u "min"), (43, u "$assertionsDisabled"), (0, u "Z"), (88, u "(II)I"), (2, u "twoToTheDoubleScaleDown"), (0, u "D"), (4, u "twoToTheDoubleScaleUp"), (9, u "E"), (3, u "PI"), (2, u "TAU"), (2, u "DEGREES_TO_RADIANS"), (0, u "RADIANS_TO_DEGREES")] 94

def k4m0 : Method := { name := "<init>", desc := "()V", sig := { parameters := [], returnType := none }, accessFlags := 2, code := none }
def k4c1 : Code := { maxStack := 2, maxLocals := 2, code := jdk_29_method_65_code, exceptionTable := #[], attributes := #[] }
def k4m1 : Method := { name := "max", desc := "(II)I", sig := { parameters := [.int, .int], returnType := some .int }, accessFlags := 9, code := some k4c1 }
def k4c2 : Code := { maxStack := 2, maxLocals := 2, code := jdk_29_method_69_code, exceptionTable := #[], attributes := #[] }
def k4m2 : Method := { name := "min", desc := "(II)I", sig := { parameters := [.int, .int], returnType := some .int }, accessFlags := 9, code := some k4c2 }
/-- java/lang/Math -/
def k4 : Class := { plain "java/lang/Math" (some 0) with
  accessFlags := 49
  interfaces := #[]
  cf := some (fileOf pool4 1 #[.nestMembers #[98]] #[{ accessFlags := 2, nameIndex := 7, descriptorIndex := 8, attributes := #[] }, { accessFlags := 9, nameIndex := 198, descriptorIndex := 335, attributes := #[] }, { accessFlags := 9, nameIndex := 201, descriptorIndex := 335, attributes := #[] }] 49 4 #[] #[{ accessFlags := 25, nameIndex := 354, descriptorIndex := 339, attributes := #[] }, { accessFlags := 25, nameIndex := 358, descriptorIndex := 339, attributes := #[] }, { accessFlags := 25, nameIndex := 361, descriptorIndex := 339, attributes := #[] }, { accessFlags := 26, nameIndex := 364, descriptorIndex := 339, attributes := #[] }, { accessFlags := 26, nameIndex := 365, descriptorIndex := 339, attributes := #[] }, { accessFlags := 26, nameIndex := 172, descriptorIndex := 173, attributes := #[] }, { accessFlags := 26, nameIndex := 176, descriptorIndex := 173, attributes := #[] }, { accessFlags := 8, nameIndex := 344, descriptorIndex := 339, attributes := #[] }, { accessFlags := 8, nameIndex := 338, descriptorIndex := 339, attributes := #[] }, { accessFlags := 4120, nameIndex := 245, descriptorIndex := 246, attributes := #[] }])
  fields := #[{ name := "E", type := .double, accessFlags := 25, slot := 0, constantValue := 0 }, { name := "PI", type := .double, accessFlags := 25, slot := 1, constantValue := 0 }, { name := "TAU", type := .double, accessFlags := 25, slot := 2, constantValue := 0 }, { name := "DEGREES_TO_RADIANS", type := .double, accessFlags := 26, slot := 3, constantValue := 0 }, { name := "RADIANS_TO_DEGREES", type := .double, accessFlags := 26, slot := 4, constantValue := 0 }, { name := "negativeZeroFloatBits", type := .long, accessFlags := 26, slot := 5, constantValue := 0 }, { name := "negativeZeroDoubleBits", type := .long, accessFlags := 26, slot := 6, constantValue := 0 }, { name := "twoToTheDoubleScaleUp", type := .double, accessFlags := 8, slot := 7, constantValue := 0 }, { name := "twoToTheDoubleScaleDown", type := .double, accessFlags := 8, slot := 8, constantValue := 0 }, { name := "$assertionsDisabled", type := .boolean, accessFlags := 4120, slot := 9, constantValue := 0 }]
  methods := #[k4m0, k4m1, k4m2]
  instanceTypes := #[]
  staticTypes := #[.double, .double, .double, .double, .double, .long, .long, .double, .double, .boolean]
  resolved := Array.replicate 460 none
  statics := none }

def pool5 : Array CpInfo := pool [(1, .class_ 2), (0, u "java/io/Serializable"), (0, .class_ 4), (0, u "java/lang/Object")] 2

/-- java/io/Serializable -/
def k5 : Class := { plain "java/io/Serializable" (some 0) with
  accessFlags := 1537
  interfaces := #[]
  cf := some (fileOf pool5 1 #[] #[] 1537 3 #[] #[])
  fields := #[]
  methods := #[]
  instanceTypes := #[]
  staticTypes := #[]
  resolved := Array.replicate 7 none
  statics := none }

def pool6 : Array CpInfo := pool [(2, .class_ 4), (1, u "java/lang/Object"), (0, u "<init>"), (0, u "()V"), (1, .class_ 10), (1, u "java/lang/Number"), (2, .class_ 14), (0, u "java/io/Serializable"), (0, u "serialVersionUID"), (0, u "J")] 20

def k6m0 : Method := { name := "<init>", desc := "()V", sig := { parameters := [], returnType := none }, accessFlags := 1, code := none }
/-- java/lang/Number -/
def k6 : Class := { plain "java/lang/Number" (some 0) with
  accessFlags := 1057
  interfaces := #[5]
  cf := some (fileOf pool6 8 #[] #[{ accessFlags := 1, nameIndex := 5, descriptorIndex := 6, attributes := #[] }] 1057 2 #[13] #[{ accessFlags := 26, nameIndex := 15, descriptorIndex := 16, attributes := #[] }])
  fields := #[{ name := "serialVersionUID", type := .long, accessFlags := 26, slot := 0, constantValue := 0 }]
  methods := #[k6m0]
  instanceTypes := #[]
  staticTypes := #[.long]
  resolved := Array.replicate 37 none
  statics := none }

def pool7 : Array CpInfo := pool [(1, .class_ 2), (0, u "java/lang/Comparable"), (0, .class_ 4), (0, u "java/lang/Object")] 7

/-- java/lang/Comparable -/
def k7 : Class := { plain "java/lang/Comparable" (some 0) with
  accessFlags := 1537
  interfaces := #[]
  cf := some (fileOf pool7 1 #[] #[] 1537 3 #[] #[])
  fields := #[]
  methods := #[]
  instanceTypes := #[]
  staticTypes := #[]
  resolved := Array.replicate 12 none
  statics := none }

def pool8 : Array CpInfo := pool [(1, .class_ 2), (0, u "java/lang/constant/Constable"), (0, .class_ 4), (0, u "java/lang/Object")] 6

/-- java/lang/constant/Constable -/
def k8 : Class := { plain "java/lang/constant/Constable" (some 0) with
  accessFlags := 1537
  interfaces := #[]
  cf := some (fileOf pool8 1 #[] #[] 1537 3 #[] #[])
  fields := #[]
  methods := #[]
  instanceTypes := #[]
  staticTypes := #[]
  resolved := Array.replicate 11 none
  statics := none }

def pool9 : Array CpInfo := pool [(1, .class_ 2), (0, u "java/lang/constant/ConstantDesc"), (0, .class_ 4), (0, u "java/lang/Object")] 32

/-- java/lang/constant/ConstantDesc -/
def k9 : Class := { plain "java/lang/constant/ConstantDesc" (some 0) with
  accessFlags := 1537
  interfaces := #[]
  cf := some (fileOf pool9 1 #[] #[] 1537 3 #[] #[])
  fields := #[]
  methods := #[]
  instanceTypes := #[]
  staticTypes := #[]
  resolved := Array.replicate 37 none
  statics := none }

def pool10 : Array CpInfo := pool [(1, .class_ 2), (0, u "java/lang/Integer"), (16, u "digits"), (0, u "[C"), (39, u "(II)I"), (24, u "DigitOnes"), (0, u "[B"), (2, u "DigitTens"), (99, .class_ 190), (0, u "java/lang/Integer$IntegerCache"), (3, u "I"), (8, .class_ 204), (0, u "java/lang/Number"), (2, u "value"), (53, u "compare"), (40, u "TYPE"), (0, u "Ljava/lang/Class;"), (0, .class_ 305), (0, u "java/lang/Comparable"), (0, .class_ 307), (0, u "java/lang/constant/Constable"), (0, .class_ 309), (0, u "java/lang/constant/ConstantDesc"), (0, u "MIN_VALUE"), (1, u "MAX_VALUE"), (3, u "SIZE"), (1, u "BYTES"), (1, u "serialVersionUID"), (0, u "J")] 131

def k10c0 : Code := { maxStack := 2, maxLocals := 2, code := jdk_33_method_40_code, exceptionTable := #[], attributes := #[] }
def k10m0 : Method := { name := "compare", desc := "(II)I", sig := { parameters := [.int, .int], returnType := some .int }, accessFlags := 9, code := some k10c0 }
/-- java/lang/Integer -/
def k10 : Class := { plain "java/lang/Integer" (some 6) with
  accessFlags := 49
  interfaces := #[7, 8, 9]
  cf := some (fileOf pool10 1 #[.nestMembers #[189]] #[{ accessFlags := 9, nameIndex := 261, descriptorIndex := 60, attributes := #[] }] 49 203 #[304, 306, 308] #[{ accessFlags := 25, nameIndex := 310, descriptorIndex := 194, attributes := #[] }, { accessFlags := 25, nameIndex := 312, descriptorIndex := 194, attributes := #[] }, { accessFlags := 25, nameIndex := 302, descriptorIndex := 303, attributes := #[] }, { accessFlags := 24, nameIndex := 19, descriptorIndex := 20, attributes := #[] }, { accessFlags := 24, nameIndex := 89, descriptorIndex := 86, attributes := #[] }, { accessFlags := 24, nameIndex := 85, descriptorIndex := 86, attributes := #[] }, { accessFlags := 18, nameIndex := 207, descriptorIndex := 194, attributes := #[] }, { accessFlags := 25, nameIndex := 316, descriptorIndex := 194, attributes := #[] }, { accessFlags := 25, nameIndex := 318, descriptorIndex := 194, attributes := #[] }, { accessFlags := 26, nameIndex := 320, descriptorIndex := 321, attributes := #[] }])
  fields := #[{ name := "MIN_VALUE", type := .int, accessFlags := 25, slot := 0, constantValue := 0 }, { name := "MAX_VALUE", type := .int, accessFlags := 25, slot := 1, constantValue := 0 }, { name := "TYPE", type := (.object "java/lang/Class"), accessFlags := 25, slot := 2, constantValue := 0 }, { name := "digits", type := (.array .char), accessFlags := 24, slot := 3, constantValue := 0 }, { name := "DigitTens", type := (.array .byte), accessFlags := 24, slot := 4, constantValue := 0 }, { name := "DigitOnes", type := (.array .byte), accessFlags := 24, slot := 5, constantValue := 0 }, { name := "value", type := .int, accessFlags := 18, slot := 0, constantValue := 0 }, { name := "SIZE", type := .int, accessFlags := 25, slot := 6, constantValue := 0 }, { name := "BYTES", type := .int, accessFlags := 25, slot := 7, constantValue := 0 }, { name := "serialVersionUID", type := .long, accessFlags := 26, slot := 8, constantValue := 0 }]
  methods := #[k10m0]
  instanceTypes := #[.int]
  staticTypes := #[.int, .int, (.object "java/lang/Class"), (.array .char), (.array .byte), (.array .byte), .int, .int, .long]
  resolved := Array.replicate 453 none
  statics := none }

def pool11 : Array CpInfo := pool [(2, .class_ 4), (1, u "java/lang/Object"), (0, u "<init>"), (0, u "()V"), (7, .class_ 16), (1, u "java/util/Arrays"), (57, .class_ 76), (1, u "java/util/Arrays$NaturalOrder"), (36, .class_ 115), (1, u "java/util/Arrays$LegacyMergeSort"), (1, u "Z"), (32, .methodref 151 152), (0, .class_ 153), (0, .nameAndType 154 155), (0, u "java/lang/System"), (0, u "arraycopy"), (0, u "(Ljava/lang/Object;ILjava/lang/Object;II)V"), (146, u "copyOf"), (1, .methodref 305 306), (0, .class_ 307), (0, .nameAndType 308 309), (0, u "java/lang/Math"), (0, u "min"), (0, u "(II)I"), (65, .class_ 376), (0, u "java/util/Arrays$ArrayList"), (68, u "$assertionsDisabled"), (269, u "MIN_ARRAY_SORT_GRAN"), (0, u "I"), (2, u "INSERTIONSORT_THRESHOLD"), (151, u "([II)[I"), (103, .class_ 976), (0, u "java/util/Arrays$ArrayItr")] 52

def k11m0 : Method := { name := "<init>", desc := "()V", sig := { parameters := [], returnType := none }, accessFlags := 2, code := none }
def k11c1 : Code := { maxStack := 6, maxLocals := 3, code := jdk_65_method_123_code, exceptionTable := #[], attributes := #[] }
def k11m1 : Method := { name := "copyOf", desc := "([II)[I", sig := { parameters := [(.array .int), .int], returnType := some (.array .int) }, accessFlags := 9, code := some k11c1 }
/-- java/util/Arrays -/
def k11 : Class := { plain "java/util/Arrays" (some 0) with
  accessFlags := 49
  interfaces := #[]
  cf := some (fileOf pool11 14 #[.nestMembers #[975, 375, 113, 74]] #[{ accessFlags := 2, nameIndex := 5, descriptorIndex := 6, attributes := #[] }, { accessFlags := 9, nameIndex := 302, descriptorIndex := 871, attributes := #[] }] 49 2 #[] #[{ accessFlags := 26, nameIndex := 715, descriptorIndex := 716, attributes := #[] }, { accessFlags := 26, nameIndex := 719, descriptorIndex := 716, attributes := #[] }, { accessFlags := 4120, nameIndex := 445, descriptorIndex := 117, attributes := #[] }])
  fields := #[{ name := "MIN_ARRAY_SORT_GRAN", type := .int, accessFlags := 26, slot := 0, constantValue := 0 }, { name := "INSERTIONSORT_THRESHOLD", type := .int, accessFlags := 26, slot := 1, constantValue := 0 }, { name := "$assertionsDisabled", type := .boolean, accessFlags := 4120, slot := 2, constantValue := 0 }]
  methods := #[k11m0, k11m1]
  instanceTypes := #[]
  staticTypes := #[.int, .int, .boolean]
  resolved := Array.replicate 1029 none
  statics := none }

def pool12 : Array CpInfo := pool [(2, .class_ 4), (1, u "java/lang/Object"), (0, u "<init>"), (0, u "()V"), (1, .class_ 10), (1, u "java/lang/System"), (0, u "allowSecurityManager"), (0, u "I"), (16, u "cons"), (0, u "Ljava/io/Console;"), (77, .class_ 110), (1, u "java/lang/System$CallersHolder"), (43, u "initialErrStream"), (0, u "Ljava/io/PrintStream;"), (19, u "security"), (0, u "Ljava/lang/SecurityManager;"), (31, .class_ 209), (0, u "java/lang/System$1"), (7, u "props"), (0, u "Ljava/util/Properties;"), (2, u "lineSeparator"), (0, u "Ljava/lang/String;"), (96, .class_ 321), (1, u "java/lang/System$LoggerFinder"), (5, .class_ 328), (0, u "java/lang/System$Logger"), (67, u "err"), (2, u "out"), (91, u "notSupportedJnuEncoding"), (15, u "in"), (17, u "initialIn"), (0, u "Ljava/io/InputStream;"), (35, u "bootLayer"), (0, u "Ljava/lang/ModuleLayer;"), (99, .class_ 664), (0, u "java/lang/System$2"), (9, u "NEVER"), (2, u "MAYBE"), (49, u "arraycopy"), (0, u "(Ljava/lang/Object;ILjava/lang/Object;II)V"), (72, .class_ 802), (0, u "java/lang/System$Logger$Level")] 31

def k12m0 : Method := { name := "<init>", desc := "()V", sig := { parameters := [], returnType := none }, accessFlags := 2, code := none }
def k12m1 : Method := { name := "arraycopy", desc := "(Ljava/lang/Object;ILjava/lang/Object;II)V", sig := { parameters := [(.object "java/lang/Object"), .int, (.object "java/lang/Object"), .int, .int], returnType := none }, accessFlags := 265, code := none }
/-- java/lang/System -/
def k12 : Class := { plain "java/lang/System" (some 0) with
  accessFlags := 49
  interfaces := #[]
  cf := some (fileOf pool12 8 #[.nestMembers #[319, 327, 801, 108, 663, 208]] #[{ accessFlags := 2, nameIndex := 5, descriptorIndex := 6, attributes := #[] }, { accessFlags := 265, nameIndex := 727, descriptorIndex := 728, attributes := #[] }] 49 2 #[] #[{ accessFlags := 25, nameIndex := 507, descriptorIndex := 526, attributes := #[] }, { accessFlags := 25, nameIndex := 399, descriptorIndex := 155, attributes := #[] }, { accessFlags := 25, nameIndex := 396, descriptorIndex := 155, attributes := #[] }, { accessFlags := 10, nameIndex := 525, descriptorIndex := 526, attributes := #[] }, { accessFlags := 26, nameIndex := 674, descriptorIndex := 12, attributes := #[] }, { accessFlags := 26, nameIndex := 677, descriptorIndex := 12, attributes := #[] }, { accessFlags := 10, nameIndex := 11, descriptorIndex := 12, attributes := #[] }, { accessFlags := 74, nameIndex := 175, descriptorIndex := 176, attributes := #[] }, { accessFlags := 10, nameIndex := 491, descriptorIndex := 222, attributes := #[] }, { accessFlags := 74, nameIndex := 29, descriptorIndex := 30, attributes := #[] }, { accessFlags := 74, nameIndex := 154, descriptorIndex := 155, attributes := #[] }, { accessFlags := 10, nameIndex := 217, descriptorIndex := 218, attributes := #[] }, { accessFlags := 10, nameIndex := 221, descriptorIndex := 222, attributes := #[] }, { accessFlags := 8, nameIndex := 562, descriptorIndex := 563, attributes := #[] }])
  fields := #[{ name := "in", type := (.object "java/io/InputStream"), accessFlags := 25, slot := 0, constantValue := 0 }, { name := "out", type := (.object "java/io/PrintStream"), accessFlags := 25, slot := 1, constantValue := 0 }, { name := "err", type := (.object "java/io/PrintStream"), accessFlags := 25, slot := 2, constantValue := 0 }, { name := "initialIn", type := (.object "java/io/InputStream"), accessFlags := 10, slot := 3, constantValue := 0 }, { name := "NEVER", type := .int, accessFlags := 26, slot := 4, constantValue := 0 }, { name := "MAYBE", type := .int, accessFlags := 26, slot := 5, constantValue := 0 }, { name := "allowSecurityManager", type := .int, accessFlags := 10, slot := 6, constantValue := 0 }, { name := "security", type := (.object "java/lang/SecurityManager"), accessFlags := 74, slot := 7, constantValue := 0 }, { name := "notSupportedJnuEncoding", type := (.object "java/lang/String"), accessFlags := 10, slot := 8, constantValue := 0 }, { name := "cons", type := (.object "java/io/Console"), accessFlags := 74, slot := 9, constantValue := 0 }, { name := "initialErrStream", type := (.object "java/io/PrintStream"), accessFlags := 74, slot := 10, constantValue := 0 }, { name := "props", type := (.object "java/util/Properties"), accessFlags := 10, slot := 11, constantValue := 0 }, { name := "lineSeparator", type := (.object "java/lang/String"), accessFlags := 10, slot := 12, constantValue := 0 }, { name := "bootLayer", type := (.object "java/lang/ModuleLayer"), accessFlags := 8, slot := 13, constantValue := 0 }]
  methods := #[k12m0, k12m1]
  instanceTypes := #[]
  staticTypes := #[(.object "java/io/InputStream"), (.object "java/io/PrintStream"), (.object "java/io/PrintStream"), (.object "java/io/InputStream"), .int, .int, .int, (.object "java/lang/SecurityManager"), (.object "java/lang/String"), (.object "java/io/Console"), (.object "java/io/PrintStream"), (.object "java/util/Properties"), (.object "java/lang/String"), (.object "java/lang/ModuleLayer")]
  resolved := Array.replicate 834 none
  statics := none }

/-- the primitive byte -/
def k13 : Class := { plain "byte" none with kind := .primitive 'B', accessFlags := 0x411 }
/-- [B -/
def k14 : Class := { plain "[B" (some 0) with kind := .array 13 .byte, interfaces := #[3, 5], accessFlags := 1041 }

/-- the primitive int -/
def k15 : Class := { plain "int" none with kind := .primitive 'I', accessFlags := 0x411 }
/-- [I -/
def k16 : Class := { plain "[I" (some 0) with kind := .array 15 .int, interfaces := #[3, 5], accessFlags := 1041 }

def heap : Heap := #[]
def classes : Array Class := #[k0, k1, k2, k3, k4, k5, k6, k7, k8, k9, k10, k11, k12, k13, k14, k15, k16]
def interned : List (Array UInt16 × Addr) := []
def slotsUsed : Nat := 0
def theMethod : MethodId := ⟨1, 4⟩
def args0 : Array Value := #[.int 5, .int 6, .int 7, .int 8, .int 9]
def aboutOver (below : List Frame) : State where
  vm := { classes := classes, interned := interned.toArray }
  heap := heap
  slotsUsed := slotsUsed
  threads := #[{ frames := .invoking theMethod args0 :: below }]
def below0 : List Frame := [.native { method := ⟨0, 0⟩, args := #[] }]
def about1 : State := aboutOver below0
def p0 : Program := .bare "" "" ""
def e0 : Env := launch0.env 0 0 0
theorem w_frames : about1.frames = Frame.invoking theMethod args0 :: below0 := rfl
set_option maxRecDepth 65536 in
theorem w_args : argsFit about1.vm theMethod args0 = true := by decide +kernel
set_option maxRecDepth 65536 in
theorem w_heap : heapFits about1 = true := by decide +kernel
set_option maxRecDepth 65536 in
theorem w_runnable : about1.curStatus? = some .runnable := by decide +kernel
set_option maxRecDepth 65536 in
theorem w_alone : about1.alone = true := by decide +kernel
set_option maxRecDepth 65536 in
theorem w_named : about1.methodNamed? x = some theMethod := by decide +kernel
set_option maxRecDepth 65536 in
theorem w_hears : about1.hears theMethod below0 = true := by decide +kernel
set_option maxRecDepth 65536 in
theorem w_ripe : about1.ripe theMethod args0 below0 = true := by decide +kernel
theorem w_running : about1.status = .running := rfl
set_option maxRecDepth 65536 in
theorem w_room : about1.hasRoom e0.platform room_1 = true :=
  launch0.hasRoom_least _ room_1 (by decide +kernel) (by decide +kernel) (by decide +kernel) (by decide +kernel) (by decide +kernel) (by decide +kernel)
theorem allAtoms_all (ts : List Jvm.Cond) (a : Array Jvm.Value) (st : Jvm.State) : (allAtoms ts).before a st = ts.all (fun c => c.before a st) := by
  induction ts with
  | nil => rfl
  | cons c t ih =>
    show (Jvm.Cond.and c (allAtoms t)).before a st = _
    rw [Jvm.Cond.before_and, ih, List.all_cons]
def words1 : List Jvm.Cond := Jvm.Cond.code x code maxLocals ret :: tables_1
/-- a 'code' word, met by the world's own term for the bytes: nothing is compared byte by byte -/
theorem code_word {y : MethodName} {bytes : ByteArray} {mx : Nat} {rt : Option FieldType} {a : Array Value} {s : State} {m : MethodId} {meth : Method} {c : Code} (h1 : s.methodNamed? y = some m) (h2 : s.vm.method? m = some meth) (h3 : meth.code = some c) (h4 : c.code = bytes)
    (h5 : (c.maxLocals == mx && c.exceptionTable.isEmpty && decide (c.maxStack ≤ mostOperands) && decide (meth.sig.returnType = rt) && !meth.locks && decide (parseMethodDescriptor y.desc = some meth.sig)) = true) : (Jvm.Cond.code y bytes mx rt).before a s = true := by
  simp only [Bool.and_eq_true, beq_iff_eq, Bool.not_eq_true', decide_eq_true_eq] at h5
  obtain ⟨⟨⟨⟨⟨g1, g2⟩, g3⟩, g4⟩, g5⟩, g6⟩ := h5
  simp [Cond.before, Cond.holds, Cond.value, h1, h2, h3, h4, g1, g2, g3, g4, g5, g6]
def isCode : Jvm.Cond → Bool
  | .code _ _ _ _ => true
  | _ => false
theorem all_split {L : List Jvm.Cond} {P : Jvm.Cond → Bool} (h1 : L.all (fun c => isCode c || P c) = true) (h2 : ∀ c ∈ L.filter isCode, P c = true) : L.all P = true := by
  refine List.all_eq_true.mpr fun c hc => ?_
  have h := List.all_eq_true.mp h1 c hc
  rcases Bool.eq_false_or_eq_true (isCode c) with hi | hi
  · exact h2 c (List.mem_filter.mpr ⟨hc, hi⟩)
  · simpa [hi] using h
set_option maxRecDepth 65536 in
theorem w_c0 : (Jvm.Cond.code x code maxLocals ret).before args0 about1 = true := code_word (m := ⟨1, 4⟩) (meth := k1m4) (c := k1c4) (by decide +kernel) rfl rfl rfl (by decide +kernel)
set_option maxRecDepth 65536 in
theorem w_c1 : (Jvm.Cond.code ({ cls := "com/example/rankwise/rankwise/store/TripleIndex", name := "<init>", desc := "([I[I[II[I)V" } : Jvm.MethodName) prog_99_method_1_code (13 : Nat) (Option.none : Option Jvm.ClassFile.FieldType)).before args0 about1 = true := code_word (m := ⟨2, 0⟩) (meth := k2m0) (c := k2c0) (by decide +kernel) rfl rfl rfl (by decide +kernel)
set_option maxRecDepth 65536 in
theorem w_c2 : (Jvm.Cond.code ({ cls := "java/lang/Object", name := "<init>", desc := "()V" } : Jvm.MethodName) object_method_1_code (1 : Nat) (Option.none : Option Jvm.ClassFile.FieldType)).before args0 about1 = true := code_word (m := ⟨0, 0⟩) (meth := k0m0) (c := k0c0) (by decide +kernel) rfl rfl rfl (by decide +kernel)
set_option maxRecDepth 65536 in
theorem w_c3 : (Jvm.Cond.code ({ cls := "com/example/rankwise/rankwise/store/TripleIndex", name := "sortedOrder", desc := "([I[I[II)[I" } : Jvm.MethodName) prog_99_method_10_code (14 : Nat) (Option.some (Jvm.ClassFile.FieldType.array Jvm.ClassFile.FieldType.int))).before args0 about1 = true := code_word (m := ⟨2, 2⟩) (meth := k2m2) (c := k2c2) (by decide +kernel) rfl rfl rfl (by decide +kernel)
set_option maxRecDepth 65536 in
theorem w_c4 : (Jvm.Cond.code ({ cls := "com/example/rankwise/rankwise/store/TripleIndexLowerBoundPinLaw", name := "one", desc := "(Z)I" } : Jvm.MethodName) method_2_code (1 : Nat) (Option.some Jvm.ClassFile.FieldType.int)).before args0 about1 = true := code_word (m := ⟨1, 1⟩) (meth := k1m1) (c := k1c1) (by decide +kernel) rfl rfl rfl (by decide +kernel)
set_option maxRecDepth 65536 in
theorem w_c5 : (Jvm.Cond.code ({ cls := "java/lang/Math", name := "min", desc := "(II)I" } : Jvm.MethodName) jdk_29_method_69_code (2 : Nat) (Option.some Jvm.ClassFile.FieldType.int)).before args0 about1 = true := code_word (m := ⟨4, 2⟩) (meth := k4m2) (c := k4c2) (by decide +kernel) rfl rfl rfl (by decide +kernel)
set_option maxRecDepth 65536 in
theorem w_c6 : (Jvm.Cond.code ({ cls := "java/lang/Math", name := "max", desc := "(II)I" } : Jvm.MethodName) jdk_29_method_65_code (2 : Nat) (Option.some Jvm.ClassFile.FieldType.int)).before args0 about1 = true := code_word (m := ⟨4, 1⟩) (meth := k4m1) (c := k4c1) (by decide +kernel) rfl rfl rfl (by decide +kernel)
set_option maxRecDepth 65536 in
theorem w_c7 : (Jvm.Cond.code ({ cls := "com/example/rankwise/rankwise/store/TripleIndex", name := "lowerBound", desc := "(IIII)I" } : Jvm.MethodName) prog_99_method_9_code (9 : Nat) (Option.some Jvm.ClassFile.FieldType.int)).before args0 about1 = true := code_word (m := ⟨2, 1⟩) (meth := k2m1) (c := k2c1) (by decide +kernel) rfl rfl rfl (by decide +kernel)
set_option maxRecDepth 65536 in
theorem w_c8 : (Jvm.Cond.code ({ cls := "com/example/rankwise/rankwise/store/TripleIndex", name := "compare", desc := "([I[I[III)I" } : Jvm.MethodName) prog_99_method_11_code (6 : Nat) (Option.some Jvm.ClassFile.FieldType.int)).before args0 about1 = true := code_word (m := ⟨2, 3⟩) (meth := k2m3) (c := k2c3) (by decide +kernel) rfl rfl rfl (by decide +kernel)
set_option maxRecDepth 65536 in
theorem w_c9 : (Jvm.Cond.code ({ cls := "java/lang/Integer", name := "compare", desc := "(II)I" } : Jvm.MethodName) jdk_33_method_40_code (2 : Nat) (Option.some Jvm.ClassFile.FieldType.int)).before args0 about1 = true := code_word (m := ⟨10, 0⟩) (meth := k10m0) (c := k10c0) (by decide +kernel) rfl rfl rfl (by decide +kernel)
set_option maxRecDepth 65536 in
theorem w_c10 : (Jvm.Cond.code ({ cls := "com/example/rankwise/rankwise/store/TripleIndexLowerBoundPinLaw", name := "same", desc := "([I[III)Z" } : Jvm.MethodName) method_3_code (4 : Nat) (Option.some Jvm.ClassFile.FieldType.boolean)).before args0 about1 = true := code_word (m := ⟨1, 2⟩) (meth := k1m2) (c := k1c2) (by decide +kernel) rfl rfl rfl (by decide +kernel)
set_option maxRecDepth 65536 in
theorem w_c11 : (Jvm.Cond.code ({ cls := "com/example/rankwise/rankwise/store/TripleIndexLowerBoundPinLaw", name := "less", desc := "(IIII)Z" } : Jvm.MethodName) method_4_code (4 : Nat) (Option.some Jvm.ClassFile.FieldType.boolean)).before args0 about1 = true := code_word (m := ⟨1, 3⟩) (meth := k1m3) (c := k1c3) (by decide +kernel) rfl rfl rfl (by decide +kernel)
set_option maxRecDepth 65536 in
theorem w_c12 : (Jvm.Cond.code ({ cls := "java/util/Arrays", name := "copyOf", desc := "([II)[I" } : Jvm.MethodName) jdk_65_method_123_code (3 : Nat) (Option.some (Jvm.ClassFile.FieldType.array Jvm.ClassFile.FieldType.int))).before args0 about1 = true := code_word (m := ⟨11, 1⟩) (meth := k11m1) (c := k11c1) (by decide +kernel) rfl rfl rfl (by decide +kernel)
def codes1 : List Jvm.Cond := [Jvm.Cond.code x code maxLocals ret, Jvm.Cond.code ({ cls := "com/example/rankwise/rankwise/store/TripleIndex", name := "<init>", desc := "([I[I[II[I)V" } : Jvm.MethodName) prog_99_method_1_code (13 : Nat) (Option.none : Option Jvm.ClassFile.FieldType), Jvm.Cond.code ({ cls := "java/lang/Object", name := "<init>", desc := "()V" } : Jvm.MethodName) object_method_1_code (1 : Nat) (Option.none : Option Jvm.ClassFile.FieldType), Jvm.Cond.code ({ cls := "com/example/rankwise/rankwise/store/TripleIndex", name := "sortedOrder", desc := "([I[I[II)[I" } : Jvm.MethodName) prog_99_method_10_code (14 : Nat) (Option.some (Jvm.ClassFile.FieldType.array Jvm.ClassFile.FieldType.int)), Jvm.Cond.code ({ cls := "com/example/rankwise/rankwise/store/TripleIndexLowerBoundPinLaw", name := "one", desc := "(Z)I" } : Jvm.MethodName) method_2_code (1 : Nat) (Option.some Jvm.ClassFile.FieldType.int), Jvm.Cond.code ({ cls := "java/lang/Math", name := "min", desc := "(II)I" } : Jvm.MethodName) jdk_29_method_69_code (2 : Nat) (Option.some Jvm.ClassFile.FieldType.int), Jvm.Cond.code ({ cls := "java/lang/Math", name := "max", desc := "(II)I" } : Jvm.MethodName) jdk_29_method_65_code (2 : Nat) (Option.some Jvm.ClassFile.FieldType.int), Jvm.Cond.code ({ cls := "com/example/rankwise/rankwise/store/TripleIndex", name := "lowerBound", desc := "(IIII)I" } : Jvm.MethodName) prog_99_method_9_code (9 : Nat) (Option.some Jvm.ClassFile.FieldType.int), Jvm.Cond.code ({ cls := "com/example/rankwise/rankwise/store/TripleIndex", name := "compare", desc := "([I[I[III)I" } : Jvm.MethodName) prog_99_method_11_code (6 : Nat) (Option.some Jvm.ClassFile.FieldType.int), Jvm.Cond.code ({ cls := "java/lang/Integer", name := "compare", desc := "(II)I" } : Jvm.MethodName) jdk_33_method_40_code (2 : Nat) (Option.some Jvm.ClassFile.FieldType.int), Jvm.Cond.code ({ cls := "com/example/rankwise/rankwise/store/TripleIndexLowerBoundPinLaw", name := "same", desc := "([I[III)Z" } : Jvm.MethodName) method_3_code (4 : Nat) (Option.some Jvm.ClassFile.FieldType.boolean), Jvm.Cond.code ({ cls := "com/example/rankwise/rankwise/store/TripleIndexLowerBoundPinLaw", name := "less", desc := "(IIII)Z" } : Jvm.MethodName) method_4_code (4 : Nat) (Option.some Jvm.ClassFile.FieldType.boolean), Jvm.Cond.code ({ cls := "java/util/Arrays", name := "copyOf", desc := "([II)[I" } : Jvm.MethodName) jdk_65_method_123_code (3 : Nat) (Option.some (Jvm.ClassFile.FieldType.array Jvm.ClassFile.FieldType.int))]
set_option maxRecDepth 65536 in
theorem codes_eq : words1.filter isCode = codes1 := rfl
theorem w_codes : ∀ c ∈ words1.filter isCode, c.before args0 about1 = true := by
  rw [codes_eq]
  intro c hc
  simp only [codes1, List.mem_cons, List.not_mem_nil, or_false] at hc
  rcases hc with rfl | rfl | rfl | rfl | rfl | rfl | rfl | rfl | rfl | rfl | rfl | rfl | rfl
  · exact w_c0
  · exact w_c1
  · exact w_c2
  · exact w_c3
  · exact w_c4
  · exact w_c5
  · exact w_c6
  · exact w_c7
  · exact w_c8
  · exact w_c9
  · exact w_c10
  · exact w_c11
  · exact w_c12
set_option maxRecDepth 65536 in
theorem w_t1 : (words1.take 24).all (fun c => isCode c || c.before args0 about1) = true := by decide +kernel
set_option maxRecDepth 65536 in
theorem w_t2 : ((words1.drop 24).take 24).all (fun c => isCode c || c.before args0 about1) = true := by decide +kernel
set_option maxRecDepth 65536 in
theorem w_t3 : ((words1.drop 24).drop 24).all (fun c => isCode c || c.before args0 about1) = true := by decide +kernel
theorem w_tables : (allAtoms (Jvm.Cond.code x code maxLocals ret :: tables_1)).before args0 about1 = true := by
  rw [allAtoms_all]
  show words1.all (fun c => c.before args0 about1) = true
  refine all_split ?_ w_codes
  rw [← List.take_append_drop 24 words1, List.all_append, w_t1, ← List.take_append_drop 24 (words1.drop 24), List.all_append, w_t2, w_t3]
  rfl
set_option maxRecDepth 65536 in
theorem w_case : (Jvm.Cond.and given_1 narrow_1).before args0 about1 = true := by decide +kernel
theorem w_applies : (headSpec (Jvm.Cond.code x code maxLocals ret :: tables_1) room_1).applies x e0.platform about1 = true :=
  (Spec.applies_iff w_frames).mpr ⟨w_running, w_runnable, w_alone, w_named, w_hears, w_ripe, w_room, w_tables⟩
theorem atStart : AtStart classFile x code maxLocals ret World_1 tables_1 room_1 Calls_1 rest_1 Pre_1 launch0 p0 e0 about1 theMethod args0 below0 :=
  ⟨lists_1, trivial, launch0.admits_env _ _ _, launch0.least_env, fairChoices_fair.cas, fairChoices_fair.clock, w_frames, w_args, w_heap, w_applies, trivial, trivial, w_case⟩
end start1
theorem witness_1 : WitnessClaimed_1 := ⟨start1.p0, start1.e0, start1.about1, start1.theMethod, start1.args0, start1.below0, start1.atStart⟩
end Jvm.Pilot.@@N@@
