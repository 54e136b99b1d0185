import JvmDerived
import JvmDerived.Pilot.@@N@@Statement
import JvmDerived.Pilot.@@N@@Code
set_option linter.unusedVariables false
set_option linter.unusedSimpArgs false
namespace Jvm.OwnKit
open Sem ClassFile Op Lib Jvm.Stand Jvm.Free Jvm.LawKit Jvm.RoadKit
/-- what stays the same in one body: program, launch, environment, room, first state, method, arguments, frames below, method record, code -/
abbrev Cx := Program × Launch × Env × Room × State × MethodId × Array Value × List Frame × Method × Code
/-- from here the body runs to its end, and Q holds of what it returns and of the heap then -/
def G (k : Cx) (n0 : Nat) (Q : Option Value → Heap → Prop) (h : Heap) (cells slots pc : Nat) (Ls : List Slot) (St : List Value) : Prop :=
  cells ≤ k.2.2.2.1.cells → slots ≤ k.2.2.2.1.slots → ∀ (T : State) (locs : List Loc),
  Stand k.1 k.2.1 k.2.2.1 k.2.2.2.1 k.2.2.2.2.1 k.2.2.2.2.2.1 k.2.2.2.2.2.2.1 k.2.2.2.2.2.2.2.1 k.2.2.2.2.2.2.2.2.1 k.2.2.2.2.2.2.2.2.2 T locs cells slots → T.heap = h → Fr n0 locs →
  ∃ s₂ o, Steps k.1.tables k.2.2.1 k.2.2.2.2.2.2.2.1 (T.setTop (mkF k.2.2.2.2.2.1 pc ⟨Ls⟩ St)) s₂ ∧ s₂.status = .running ∧ Ended s₂ k.2.2.2.2.2.2.2.1 o ∧
    ∃ v L, o = .returned v ∧ (Q v s₂.heap ∧ Fr n0 L) ∧ FrameEnd k.2.2.2.2.1 o s₂ L k.2.2.2.1.cells k.2.2.2.1.slots
/-- what is known of the body all along -/
def Ok (k : Cx) (Z : State) (n0 : Nat) (own : String) (R : Room) (bytes : ByteArray) (maxL : Nat) (ret : Option FieldType) (nm : String) : Prop :=
  k.1.tables.exec = Jvm.exec ∧ Z.Warmed39 k.2.2.2.2.1.vm ∧ k.2.2.2.2.1.vm.findClass own = some k.2.2.2.2.2.1.cls ∧ k.2.2.2.1 = R ∧ k.2.2.2.2.2.2.2.2.2.code = bytes ∧
  k.2.2.2.2.2.2.2.2.2.maxLocals = maxL ∧ k.2.2.2.2.2.2.2.2.1.sig.returnType = ret ∧ k.2.2.2.2.2.2.2.2.1.locks = false ∧ k.2.2.2.2.2.2.2.2.1.name = nm ∧ n0 ≤ k.2.2.2.2.1.heap.size
def Dc (bytes : ByteArray) (pc : Nat) (i : Instr) (len pc' : Nat) : Prop := decode bytes pc = .ok (i, len) ∧ pc' = pc + len
def Db (bytes : ByteArray) (pc : Nat) (f : Int → Instr) (nx tg : Nat) : Prop := ∃ o : Int, decode bytes pc = .ok (f o, 3) ∧ nx = pc + 3 ∧ 0 ≤ (pc : Int) + o ∧ ((pc : Int) + o).toNat = tg
theorem dc {bytes : ByteArray} {pc : Nat} {i : Instr} {len : Nat} (h : decode bytes pc = .ok (i, len)) {pc' : Nat} (e : pc' = pc + len) : Dc bytes pc i len pc' := ⟨h, e⟩
theorem db {bytes : ByteArray} {pc : Nat} {f : Int → Instr} (o : Int) (h : decode bytes pc = .ok (f o, 3)) {nx tg : Nat} (e : nx = pc + 3) (e2 : 0 ≤ (pc : Int) + o) (e3 : ((pc : Int) + o).toNat = tg) : Db bytes pc f nx tg := ⟨o, h, e, e2, e3⟩
variable {k : Cx} {Z : State} {n0 : Nat} {own : String} {R : Room} {bytes : ByteArray} {maxL : Nat} {ret : Option FieldType} {nm : String} {Q : Option Value → Heap → Prop} {h : Heap} {cells slots pc pc' nx tg : Nat} {Ls Ls' : List Slot} {St St' : List Value} {a0 : Array Value}
theorem mvD {own : String} {i : Nat} {v : UInt64} {Z s : State} {a0 args : Array Value} (hZ : Z.Warmed39 s.vm) (w : (Cond.constantDouble own i v).before a0 Z = true) : (Cond.constantDouble own i v).before args s = true := by
  have h1 := Cond.constantDouble_setVm (s := Z) (args := a0) hZ.alike own i v
  rw [w] at h1
  exact h1
/-- one step that moves neither heap nor tables -/
theorem G.plain {p : Program} {l : Launch} {e : Env} {R : Room} {s : State} {m : MethodId} {args : Array Value} {below : List Frame} {meth : Method} {c : Code}
    (st : ∀ T locs target, Stand p l e R s m args below meth c T locs cells slots → Steps p.tables e below (T.setTop (mkF m pc' ⟨Ls'⟩ St')) target → Steps p.tables e below (T.setTop (mkF m pc ⟨Ls⟩ St)) target)
    (g : G (p, l, e, R, s, m, args, below, meth, c) n0 Q h cells slots pc' Ls' St') : G (p, l, e, R, s, m, args, below, meth, c) n0 Q h cells slots pc Ls St := by
  intro hc hs T locs X eT N
  obtain ⟨s₂, o, h1, r⟩ := g hc hs T locs X eT N
  exact ⟨s₂, o, st T locs s₂ X h1, r⟩
/-- one step that leaves the heap as it is -/
theorem G.moved {p : Program} {l : Launch} {e : Env} {R : Room} {s : State} {m : MethodId} {args : Array Value} {below : List Frame} {meth : Method} {c : Code}
    (st : ∀ T locs, Stand p l e R s m args below meth c T locs cells slots → T.heap = h → ∃ T', Stand p l e R s m args below meth c T' locs cells slots ∧ T'.heap = h ∧ ∀ target, Steps p.tables e below (T'.setTop (mkF m pc' ⟨Ls'⟩ St')) target → Steps p.tables e below (T.setTop (mkF m pc ⟨Ls⟩ St)) target)
    (g : G (p, l, e, R, s, m, args, below, meth, c) n0 Q h cells slots pc' Ls' St') : G (p, l, e, R, s, m, args, below, meth, c) n0 Q h cells slots pc Ls St := by
  intro hc hs T locs X eT N
  obtain ⟨T', X', eT', st⟩ := st T locs X eT
  obtain ⟨s₂, o, h1, r⟩ := g hc hs T' locs X' eT' N
  exact ⟨s₂, o, st s₂ h1, r⟩
theorem G.more {cells' slots' : Nat} (K : Ok k Z n0 own R bytes maxL ret nm) (g : G k n0 Q h cells' slots' pc Ls St) (hc : cells ≤ cells') (hs : slots ≤ slots') (hc' : cells' ≤ R.cells) (hs' : slots' ≤ R.slots) : G k n0 Q h cells slots pc Ls St := by
  obtain ⟨-, -, -, rfl, -⟩ := K
  intro _ _ T locs X eT N
  exact g hc' hs' T locs (X.more hc hs) eT N
theorem G.post {Q' : Option Value → Heap → Prop} (g : G k n0 Q' h cells slots pc Ls St) (q : ∀ v h, Q' v h → Q v h) : G k n0 Q h cells slots pc Ls St := by
  intro hc hs T locs X eT N
  obtain ⟨s₂, o, h1, h2, h3, v, L, h4, ⟨h5, h6⟩, h7⟩ := g hc hs T locs X eT N
  exact ⟨s₂, o, h1, h2, h3, v, L, h4, ⟨q _ _ h5, h6⟩, h7⟩
theorem G.iadd (K : Ok k Z n0 own R bytes maxL ret nm) {x y : Int32} (d : Dc bytes pc .iadd 1 pc') (g : G k n0 Q h cells slots pc' Ls (.int (x + y) :: St)) : G k n0 Q h cells slots pc Ls (.int y :: .int x :: St) := by
  obtain ⟨p, l, e, R', s, m, args, below, meth, c⟩ := k
  obtain ⟨hx, hZ, hown, rfl, rfl, rfl, rfl, hlk, rfl, hn0⟩ := K
  obtain ⟨d, rfl⟩ := d
  exact G.plain (fun T locs t X q => XS.iadd X.here hx rfl d rfl q) g
theorem G.isub (K : Ok k Z n0 own R bytes maxL ret nm) {x y : Int32} (d : Dc bytes pc .isub 1 pc') (g : G k n0 Q h cells slots pc' Ls (.int (x - y) :: St)) : G k n0 Q h cells slots pc Ls (.int y :: .int x :: St) := by
  obtain ⟨p, l, e, R', s, m, args, below, meth, c⟩ := k
  obtain ⟨hx, hZ, hown, rfl, rfl, rfl, rfl, hlk, rfl, hn0⟩ := K
  obtain ⟨d, rfl⟩ := d
  exact G.plain (fun T locs t X q => XS.isub X.here hx rfl d rfl q) g
theorem G.imul (K : Ok k Z n0 own R bytes maxL ret nm) {x y : Int32} (d : Dc bytes pc .imul 1 pc') (g : G k n0 Q h cells slots pc' Ls (.int (x * y) :: St)) : G k n0 Q h cells slots pc Ls (.int y :: .int x :: St) := by
  obtain ⟨p, l, e, R', s, m, args, below, meth, c⟩ := k
  obtain ⟨hx, hZ, hown, rfl, rfl, rfl, rfl, hlk, rfl, hn0⟩ := K
  obtain ⟨d, rfl⟩ := d
  exact G.plain (fun T locs t X q => XS.imul X.here hx rfl d rfl q) g
theorem G.iand (K : Ok k Z n0 own R bytes maxL ret nm) {x y : Int32} (d : Dc bytes pc .iand 1 pc') (g : G k n0 Q h cells slots pc' Ls (.int (x &&& y) :: St)) : G k n0 Q h cells slots pc Ls (.int y :: .int x :: St) := by
  obtain ⟨p, l, e, R', s, m, args, below, meth, c⟩ := k
  obtain ⟨hx, hZ, hown, rfl, rfl, rfl, rfl, hlk, rfl, hn0⟩ := K
  obtain ⟨d, rfl⟩ := d
  exact G.plain (fun T locs t X q => XS.iand X.here hx rfl d rfl q) g
theorem G.ior (K : Ok k Z n0 own R bytes maxL ret nm) {x y : Int32} (d : Dc bytes pc .ior 1 pc') (g : G k n0 Q h cells slots pc' Ls (.int (x ||| y) :: St)) : G k n0 Q h cells slots pc Ls (.int y :: .int x :: St) := by
  obtain ⟨p, l, e, R', s, m, args, below, meth, c⟩ := k
  obtain ⟨hx, hZ, hown, rfl, rfl, rfl, rfl, hlk, rfl, hn0⟩ := K
  obtain ⟨d, rfl⟩ := d
  exact G.plain (fun T locs t X q => XT.ior X.here hx rfl d rfl q) g
theorem G.ixor (K : Ok k Z n0 own R bytes maxL ret nm) {x y : Int32} (d : Dc bytes pc .ixor 1 pc') (g : G k n0 Q h cells slots pc' Ls (.int (x ^^^ y) :: St)) : G k n0 Q h cells slots pc Ls (.int y :: .int x :: St) := by
  obtain ⟨p, l, e, R', s, m, args, below, meth, c⟩ := k
  obtain ⟨hx, hZ, hown, rfl, rfl, rfl, rfl, hlk, rfl, hn0⟩ := K
  obtain ⟨d, rfl⟩ := d
  exact G.plain (fun T locs t X q => XT.ixor X.here hx rfl d rfl q) g
theorem G.ishl (K : Ok k Z n0 own R bytes maxL ret nm) {x y : Int32} (d : Dc bytes pc .ishl 1 pc') (g : G k n0 Q h cells slots pc' Ls (.int (x <<< (y &&& 31)) :: St)) : G k n0 Q h cells slots pc Ls (.int y :: .int x :: St) := by
  obtain ⟨p, l, e, R', s, m, args, below, meth, c⟩ := k
  obtain ⟨hx, hZ, hown, rfl, rfl, rfl, rfl, hlk, rfl, hn0⟩ := K
  obtain ⟨d, rfl⟩ := d
  exact G.plain (fun T locs t X q => XT.ishl X.here hx rfl d rfl q) g
theorem G.ishr (K : Ok k Z n0 own R bytes maxL ret nm) {x y : Int32} (d : Dc bytes pc .ishr 1 pc') (g : G k n0 Q h cells slots pc' Ls (.int (x >>> (y &&& 31)) :: St)) : G k n0 Q h cells slots pc Ls (.int y :: .int x :: St) := by
  obtain ⟨p, l, e, R', s, m, args, below, meth, c⟩ := k
  obtain ⟨hx, hZ, hown, rfl, rfl, rfl, rfl, hlk, rfl, hn0⟩ := K
  obtain ⟨d, rfl⟩ := d
  exact G.plain (fun T locs t X q => XT.ishr X.here hx rfl d rfl q) g
theorem G.iushr (K : Ok k Z n0 own R bytes maxL ret nm) {x y : Int32} (d : Dc bytes pc .iushr 1 pc') (g : G k n0 Q h cells slots pc' Ls (.int (XT.ushr x y) :: St)) : G k n0 Q h cells slots pc Ls (.int y :: .int x :: St) := by
  obtain ⟨p, l, e, R', s, m, args, below, meth, c⟩ := k
  obtain ⟨hx, hZ, hown, rfl, rfl, rfl, rfl, hlk, rfl, hn0⟩ := K
  obtain ⟨d, rfl⟩ := d
  exact G.plain (fun T locs t X q => XT.iushr X.here hx rfl d rfl q) g
theorem G.ladd (K : Ok k Z n0 own R bytes maxL ret nm) {x y : Int64} (d : Dc bytes pc .ladd 1 pc') (g : G k n0 Q h cells slots pc' Ls (.long (x + y) :: St)) : G k n0 Q h cells slots pc Ls (.long y :: .long x :: St) := by
  obtain ⟨p, l, e, R', s, m, args, below, meth, c⟩ := k
  obtain ⟨hx, hZ, hown, rfl, rfl, rfl, rfl, hlk, rfl, hn0⟩ := K
  obtain ⟨d, rfl⟩ := d
  exact G.plain (fun T locs t X q => XT.ladd X.here hx rfl d rfl q) g
theorem G.lsub (K : Ok k Z n0 own R bytes maxL ret nm) {x y : Int64} (d : Dc bytes pc .lsub 1 pc') (g : G k n0 Q h cells slots pc' Ls (.long (x - y) :: St)) : G k n0 Q h cells slots pc Ls (.long y :: .long x :: St) := by
  obtain ⟨p, l, e, R', s, m, args, below, meth, c⟩ := k
  obtain ⟨hx, hZ, hown, rfl, rfl, rfl, rfl, hlk, rfl, hn0⟩ := K
  obtain ⟨d, rfl⟩ := d
  exact G.plain (fun T locs t X q => XT.lsub X.here hx rfl d rfl q) g
theorem G.lmul (K : Ok k Z n0 own R bytes maxL ret nm) {x y : Int64} (d : Dc bytes pc .lmul 1 pc') (g : G k n0 Q h cells slots pc' Ls (.long (x * y) :: St)) : G k n0 Q h cells slots pc Ls (.long y :: .long x :: St) := by
  obtain ⟨p, l, e, R', s, m, args, below, meth, c⟩ := k
  obtain ⟨hx, hZ, hown, rfl, rfl, rfl, rfl, hlk, rfl, hn0⟩ := K
  obtain ⟨d, rfl⟩ := d
  exact G.plain (fun T locs t X q => XT.lmul X.here hx rfl d rfl q) g
theorem G.land (K : Ok k Z n0 own R bytes maxL ret nm) {x y : Int64} (d : Dc bytes pc .land 1 pc') (g : G k n0 Q h cells slots pc' Ls (.long (x &&& y) :: St)) : G k n0 Q h cells slots pc Ls (.long y :: .long x :: St) := by
  obtain ⟨p, l, e, R', s, m, args, below, meth, c⟩ := k
  obtain ⟨hx, hZ, hown, rfl, rfl, rfl, rfl, hlk, rfl, hn0⟩ := K
  obtain ⟨d, rfl⟩ := d
  exact G.plain (fun T locs t X q => XT.land X.here hx rfl d rfl q) g
theorem G.lor (K : Ok k Z n0 own R bytes maxL ret nm) {x y : Int64} (d : Dc bytes pc .lor 1 pc') (g : G k n0 Q h cells slots pc' Ls (.long (x ||| y) :: St)) : G k n0 Q h cells slots pc Ls (.long y :: .long x :: St) := by
  obtain ⟨p, l, e, R', s, m, args, below, meth, c⟩ := k
  obtain ⟨hx, hZ, hown, rfl, rfl, rfl, rfl, hlk, rfl, hn0⟩ := K
  obtain ⟨d, rfl⟩ := d
  exact G.plain (fun T locs t X q => XT.lor X.here hx rfl d rfl q) g
theorem G.lxor (K : Ok k Z n0 own R bytes maxL ret nm) {x y : Int64} (d : Dc bytes pc .lxor 1 pc') (g : G k n0 Q h cells slots pc' Ls (.long (x ^^^ y) :: St)) : G k n0 Q h cells slots pc Ls (.long y :: .long x :: St) := by
  obtain ⟨p, l, e, R', s, m, args, below, meth, c⟩ := k
  obtain ⟨hx, hZ, hown, rfl, rfl, rfl, rfl, hlk, rfl, hn0⟩ := K
  obtain ⟨d, rfl⟩ := d
  exact G.plain (fun T locs t X q => XT.lxor X.here hx rfl d rfl q) g
theorem G.lshl (K : Ok k Z n0 own R bytes maxL ret nm) {x : Int64} {y : Int32} (d : Dc bytes pc .lshl 1 pc') (g : G k n0 Q h cells slots pc' Ls (.long (x <<< (y.toInt64 &&& 63)) :: St)) : G k n0 Q h cells slots pc Ls (.int y :: .long x :: St) := by
  obtain ⟨p, l, e, R', s, m, args, below, meth, c⟩ := k
  obtain ⟨hx, hZ, hown, rfl, rfl, rfl, rfl, hlk, rfl, hn0⟩ := K
  obtain ⟨d, rfl⟩ := d
  exact G.plain (fun T locs t X q => XT.lshl X.here hx rfl d rfl q) g
theorem G.lshr (K : Ok k Z n0 own R bytes maxL ret nm) {x : Int64} {y : Int32} (d : Dc bytes pc .lshr 1 pc') (g : G k n0 Q h cells slots pc' Ls (.long (x >>> (y.toInt64 &&& 63)) :: St)) : G k n0 Q h cells slots pc Ls (.int y :: .long x :: St) := by
  obtain ⟨p, l, e, R', s, m, args, below, meth, c⟩ := k
  obtain ⟨hx, hZ, hown, rfl, rfl, rfl, rfl, hlk, rfl, hn0⟩ := K
  obtain ⟨d, rfl⟩ := d
  exact G.plain (fun T locs t X q => XT.lshr X.here hx rfl d rfl q) g
theorem G.lushr (K : Ok k Z n0 own R bytes maxL ret nm) {x : Int64} {y : Int32} (d : Dc bytes pc .lushr 1 pc') (g : G k n0 Q h cells slots pc' Ls (.long (XT.ushrL x y) :: St)) : G k n0 Q h cells slots pc Ls (.int y :: .long x :: St) := by
  obtain ⟨p, l, e, R', s, m, args, below, meth, c⟩ := k
  obtain ⟨hx, hZ, hown, rfl, rfl, rfl, rfl, hlk, rfl, hn0⟩ := K
  obtain ⟨d, rfl⟩ := d
  exact G.plain (fun T locs t X q => XT.lushr X.here hx rfl d rfl q) g
theorem G.irem (K : Ok k Z n0 own R bytes maxL ret nm) {x y : Int32} (d : Dc bytes pc .irem 1 pc') (hy : y ≠ 0) (g : G k n0 Q h cells slots pc' Ls (.int (x % y) :: St)) : G k n0 Q h cells slots pc Ls (.int y :: .int x :: St) := by
  obtain ⟨p, l, e, R', s, m, args, below, meth, c⟩ := k
  obtain ⟨hx, hZ, hown, rfl, rfl, rfl, rfl, hlk, rfl, hn0⟩ := K
  obtain ⟨d, rfl⟩ := d
  exact G.plain (fun T locs t X q => iremM X hx rfl d rfl hy q) g
theorem G.idiv (K : Ok k Z n0 own R bytes maxL ret nm) {x y : Int32} (d : Dc bytes pc .idiv 1 pc') (hy : y ≠ 0) (g : G k n0 Q h cells slots pc' Ls (.int (x / y) :: St)) : G k n0 Q h cells slots pc Ls (.int y :: .int x :: St) := by
  obtain ⟨p, l, e, R', s, m, args, below, meth, c⟩ := k
  obtain ⟨hx, hZ, hown, rfl, rfl, rfl, rfl, hlk, rfl, hn0⟩ := K
  obtain ⟨d, rfl⟩ := d
  exact G.plain (fun T locs t X q => XS.idiv X.here hx rfl d rfl hy q) g
theorem G.ldiv (K : Ok k Z n0 own R bytes maxL ret nm) {x y : Int64} (d : Dc bytes pc .ldiv 1 pc') (hy : y ≠ 0) (g : G k n0 Q h cells slots pc' Ls (.long (x / y) :: St)) : G k n0 Q h cells slots pc Ls (.long y :: .long x :: St) := by
  obtain ⟨p, l, e, R', s, m, args, below, meth, c⟩ := k
  obtain ⟨hx, hZ, hown, rfl, rfl, rfl, rfl, hlk, rfl, hn0⟩ := K
  obtain ⟨d, rfl⟩ := d
  exact G.plain (fun T locs t X q => XT.ldiv X.here hx rfl d rfl hy q) g
theorem G.ineg (K : Ok k Z n0 own R bytes maxL ret nm) {x : Int32} (d : Dc bytes pc .ineg 1 pc') (g : G k n0 Q h cells slots pc' Ls (.int (-x) :: St)) : G k n0 Q h cells slots pc Ls (.int x :: St) := by
  obtain ⟨p, l, e, R', s, m, args, below, meth, c⟩ := k
  obtain ⟨hx, hZ, hown, rfl, rfl, rfl, rfl, hlk, rfl, hn0⟩ := K
  obtain ⟨d, rfl⟩ := d
  exact G.plain (fun T locs t X q => XS.ineg X.here hx rfl d rfl q) g
theorem G.lneg (K : Ok k Z n0 own R bytes maxL ret nm) {x : Int64} (d : Dc bytes pc .lneg 1 pc') (g : G k n0 Q h cells slots pc' Ls (.long (-x) :: St)) : G k n0 Q h cells slots pc Ls (.long x :: St) := by
  obtain ⟨p, l, e, R', s, m, args, below, meth, c⟩ := k
  obtain ⟨hx, hZ, hown, rfl, rfl, rfl, rfl, hlk, rfl, hn0⟩ := K
  obtain ⟨d, rfl⟩ := d
  exact G.plain (fun T locs t X q => XT.lneg X.here hx rfl d rfl q) g
theorem G.i2l (K : Ok k Z n0 own R bytes maxL ret nm) {x : Int32} (d : Dc bytes pc .i2l 1 pc') (g : G k n0 Q h cells slots pc' Ls (.long x.toInt64 :: St)) : G k n0 Q h cells slots pc Ls (.int x :: St) := by
  obtain ⟨p, l, e, R', s, m, args, below, meth, c⟩ := k
  obtain ⟨hx, hZ, hown, rfl, rfl, rfl, rfl, hlk, rfl, hn0⟩ := K
  obtain ⟨d, rfl⟩ := d
  exact G.plain (fun T locs t X q => XT.i2l X.here hx rfl d rfl q) g
theorem G.l2i (K : Ok k Z n0 own R bytes maxL ret nm) {x : Int64} (d : Dc bytes pc .l2i 1 pc') (g : G k n0 Q h cells slots pc' Ls (.int x.toInt32 :: St)) : G k n0 Q h cells slots pc Ls (.long x :: St) := by
  obtain ⟨p, l, e, R', s, m, args, below, meth, c⟩ := k
  obtain ⟨hx, hZ, hown, rfl, rfl, rfl, rfl, hlk, rfl, hn0⟩ := K
  obtain ⟨d, rfl⟩ := d
  exact G.plain (fun T locs t X q => XT.l2i X.here hx rfl d rfl q) g
theorem G.i2b (K : Ok k Z n0 own R bytes maxL ret nm) {x : Int32} (d : Dc bytes pc .i2b 1 pc') (g : G k n0 Q h cells slots pc' Ls (.int x.toInt8.toInt32 :: St)) : G k n0 Q h cells slots pc Ls (.int x :: St) := by
  obtain ⟨p, l, e, R', s, m, args, below, meth, c⟩ := k
  obtain ⟨hx, hZ, hown, rfl, rfl, rfl, rfl, hlk, rfl, hn0⟩ := K
  obtain ⟨d, rfl⟩ := d
  exact G.plain (fun T locs t X q => XT.i2b X.here hx rfl d rfl q) g
theorem G.i2s (K : Ok k Z n0 own R bytes maxL ret nm) {x : Int32} (d : Dc bytes pc .i2s 1 pc') (g : G k n0 Q h cells slots pc' Ls (.int x.toInt16.toInt32 :: St)) : G k n0 Q h cells slots pc Ls (.int x :: St) := by
  obtain ⟨p, l, e, R', s, m, args, below, meth, c⟩ := k
  obtain ⟨hx, hZ, hown, rfl, rfl, rfl, rfl, hlk, rfl, hn0⟩ := K
  obtain ⟨d, rfl⟩ := d
  exact G.plain (fun T locs t X q => XT.i2s X.here hx rfl d rfl q) g
theorem G.i2c (K : Ok k Z n0 own R bytes maxL ret nm) {x : Int32} (d : Dc bytes pc .i2c 1 pc') (g : G k n0 Q h cells slots pc' Ls (.int x.toUInt32.toUInt16.toUInt32.toInt32 :: St)) : G k n0 Q h cells slots pc Ls (.int x :: St) := by
  obtain ⟨p, l, e, R', s, m, args, below, meth, c⟩ := k
  obtain ⟨hx, hZ, hown, rfl, rfl, rfl, rfl, hlk, rfl, hn0⟩ := K
  obtain ⟨d, rfl⟩ := d
  exact G.plain (fun T locs t X q => XT.i2c X.here hx rfl d rfl q) g
theorem G.iloadN (K : Ok k Z n0 own R bytes maxL ret nm) {v : Int32} {i : Fin 4} (d : Dc bytes pc (.iload_n i) 1 pc') (hl : Ls[i.val]? = some (.val (.int v))) (g : G k n0 Q h cells slots pc' Ls (.int v :: St)) : G k n0 Q h cells slots pc Ls (St) := by
  obtain ⟨p, l, e, R', s, m, args, below, meth, c⟩ := k
  obtain ⟨hx, hZ, hown, rfl, rfl, rfl, rfl, hlk, rfl, hn0⟩ := K
  obtain ⟨d, rfl⟩ := d
  exact G.plain (fun T locs t X q => XS.iloadN X.here hx rfl d (by simpa using hl) q) g
theorem G.iload (K : Ok k Z n0 own R bytes maxL ret nm) {v : Int32} {i : Nat} (d : Dc bytes pc (.iload i) 2 pc') (hl : Ls[i]? = some (.val (.int v))) (g : G k n0 Q h cells slots pc' Ls (.int v :: St)) : G k n0 Q h cells slots pc Ls (St) := by
  obtain ⟨p, l, e, R', s, m, args, below, meth, c⟩ := k
  obtain ⟨hx, hZ, hown, rfl, rfl, rfl, rfl, hlk, rfl, hn0⟩ := K
  obtain ⟨d, rfl⟩ := d
  exact G.plain (fun T locs t X q => XS.iload X.here hx rfl d (by simpa using hl) q) g
theorem G.lloadN (K : Ok k Z n0 own R bytes maxL ret nm) {v : Int64} {i : Fin 4} (d : Dc bytes pc (.lload_n i) 1 pc') (hl : Ls[i.val]? = some (.val (.long v))) (g : G k n0 Q h cells slots pc' Ls (.long v :: St)) : G k n0 Q h cells slots pc Ls (St) := by
  obtain ⟨p, l, e, R', s, m, args, below, meth, c⟩ := k
  obtain ⟨hx, hZ, hown, rfl, rfl, rfl, rfl, hlk, rfl, hn0⟩ := K
  obtain ⟨d, rfl⟩ := d
  exact G.plain (fun T locs t X q => XT.lloadN X.here hx rfl d (by simpa using hl) q) g
theorem G.lload (K : Ok k Z n0 own R bytes maxL ret nm) {v : Int64} {i : Nat} (d : Dc bytes pc (.lload i) 2 pc') (hl : Ls[i]? = some (.val (.long v))) (g : G k n0 Q h cells slots pc' Ls (.long v :: St)) : G k n0 Q h cells slots pc Ls (St) := by
  obtain ⟨p, l, e, R', s, m, args, below, meth, c⟩ := k
  obtain ⟨hx, hZ, hown, rfl, rfl, rfl, rfl, hlk, rfl, hn0⟩ := K
  obtain ⟨d, rfl⟩ := d
  exact G.plain (fun T locs t X q => XT.lload X.here hx rfl d (by simpa using hl) q) g
theorem G.aloadN (K : Ok k Z n0 own R bytes maxL ret nm) {v : Value} {i : Fin 4} (d : Dc bytes pc (.aload_n i) 1 pc') (hl : Ls[i.val]? = some (.val (v))) (hv : v.isRef = true) (g : G k n0 Q h cells slots pc' Ls (v :: St)) : G k n0 Q h cells slots pc Ls (St) := by
  obtain ⟨p, l, e, R', s, m, args, below, meth, c⟩ := k
  obtain ⟨hx, hZ, hown, rfl, rfl, rfl, rfl, hlk, rfl, hn0⟩ := K
  obtain ⟨d, rfl⟩ := d
  exact G.plain (fun T locs t X q => XS.aloadN X.here hx rfl d (by simpa using hl) hv q) g
theorem G.aload (K : Ok k Z n0 own R bytes maxL ret nm) {v : Value} {i : Nat} (d : Dc bytes pc (.aload i) 2 pc') (hl : Ls[i]? = some (.val (v))) (hv : v.isRef = true) (g : G k n0 Q h cells slots pc' Ls (v :: St)) : G k n0 Q h cells slots pc Ls (St) := by
  obtain ⟨p, l, e, R', s, m, args, below, meth, c⟩ := k
  obtain ⟨hx, hZ, hown, rfl, rfl, rfl, rfl, hlk, rfl, hn0⟩ := K
  obtain ⟨d, rfl⟩ := d
  exact G.plain (fun T locs t X q => XS.aload X.here hx rfl d (by simpa using hl) hv q) g
theorem G.istoreN (K : Ok k Z n0 own R bytes maxL ret nm) {v : Int32} {i : Fin 4} (d : Dc bytes pc (.istore_n i) 1 pc') (Ls' : List Slot) (hl : storeLocals ⟨Ls⟩ i.val (.int v) = some ⟨Ls'⟩) (g : G k n0 Q h cells slots pc' Ls' (St)) : G k n0 Q h cells slots pc Ls (.int v :: St) := by
  obtain ⟨p, l, e, R', s, m, args, below, meth, c⟩ := k
  obtain ⟨hx, hZ, hown, rfl, rfl, rfl, rfl, hlk, rfl, hn0⟩ := K
  obtain ⟨d, rfl⟩ := d
  exact G.plain (fun T locs t X q => XS.istoreN X.here hx rfl d rfl hl q) g
theorem G.istore (K : Ok k Z n0 own R bytes maxL ret nm) {v : Int32} {i : Nat} (d : Dc bytes pc (.istore i) 2 pc') (Ls' : List Slot) (hl : storeLocals ⟨Ls⟩ i (.int v) = some ⟨Ls'⟩) (g : G k n0 Q h cells slots pc' Ls' (St)) : G k n0 Q h cells slots pc Ls (.int v :: St) := by
  obtain ⟨p, l, e, R', s, m, args, below, meth, c⟩ := k
  obtain ⟨hx, hZ, hown, rfl, rfl, rfl, rfl, hlk, rfl, hn0⟩ := K
  obtain ⟨d, rfl⟩ := d
  exact G.plain (fun T locs t X q => XS.istore X.here hx rfl d rfl hl q) g
theorem G.lstoreN (K : Ok k Z n0 own R bytes maxL ret nm) {v : Int64} {i : Fin 4} (d : Dc bytes pc (.lstore_n i) 1 pc') (Ls' : List Slot) (hl : storeLocals ⟨Ls⟩ i.val (.long v) = some ⟨Ls'⟩) (g : G k n0 Q h cells slots pc' Ls' (St)) : G k n0 Q h cells slots pc Ls (.long v :: St) := by
  obtain ⟨p, l, e, R', s, m, args, below, meth, c⟩ := k
  obtain ⟨hx, hZ, hown, rfl, rfl, rfl, rfl, hlk, rfl, hn0⟩ := K
  obtain ⟨d, rfl⟩ := d
  exact G.plain (fun T locs t X q => XT.lstoreN X.here hx rfl d rfl hl q) g
theorem G.lstore (K : Ok k Z n0 own R bytes maxL ret nm) {v : Int64} {i : Nat} (d : Dc bytes pc (.lstore i) 2 pc') (Ls' : List Slot) (hl : storeLocals ⟨Ls⟩ i (.long v) = some ⟨Ls'⟩) (g : G k n0 Q h cells slots pc' Ls' (St)) : G k n0 Q h cells slots pc Ls (.long v :: St) := by
  obtain ⟨p, l, e, R', s, m, args, below, meth, c⟩ := k
  obtain ⟨hx, hZ, hown, rfl, rfl, rfl, rfl, hlk, rfl, hn0⟩ := K
  obtain ⟨d, rfl⟩ := d
  exact G.plain (fun T locs t X q => XT.lstore X.here hx rfl d rfl hl q) g
theorem G.astoreN (K : Ok k Z n0 own R bytes maxL ret nm) {v : Value} {i : Fin 4} (d : Dc bytes pc (.astore_n i) 1 pc') (hv : v.isRef = true) (Ls' : List Slot) (hl : storeLocals ⟨Ls⟩ i.val (v) = some ⟨Ls'⟩) (g : G k n0 Q h cells slots pc' Ls' (St)) : G k n0 Q h cells slots pc Ls (v :: St) := by
  obtain ⟨p, l, e, R', s, m, args, below, meth, c⟩ := k
  obtain ⟨hx, hZ, hown, rfl, rfl, rfl, rfl, hlk, rfl, hn0⟩ := K
  obtain ⟨d, rfl⟩ := d
  exact G.plain (fun T locs t X q => XS.astoreN X.here hx rfl d rfl hv hl q) g
theorem G.astore (K : Ok k Z n0 own R bytes maxL ret nm) {v : Value} {i : Nat} (d : Dc bytes pc (.astore i) 2 pc') (hv : v.isRef = true) (Ls' : List Slot) (hl : storeLocals ⟨Ls⟩ i (v) = some ⟨Ls'⟩) (g : G k n0 Q h cells slots pc' Ls' (St)) : G k n0 Q h cells slots pc Ls (v :: St) := by
  obtain ⟨p, l, e, R', s, m, args, below, meth, c⟩ := k
  obtain ⟨hx, hZ, hown, rfl, rfl, rfl, rfl, hlk, rfl, hn0⟩ := K
  obtain ⟨d, rfl⟩ := d
  exact G.plain (fun T locs t X q => XS.astore X.here hx rfl d rfl hv hl q) g
theorem G.iinc (K : Ok k Z n0 own R bytes maxL ret nm) {x : Int32} {i : Nat} {cst : Int} (d : Dc bytes pc (.iinc i cst) 3 pc') (v : Int32) (hv : Int32.ofInt cst = v) (hl0 : Ls[i]? = some (.val (.int x))) (Ls' : List Slot) (hl : storeLocals ⟨Ls⟩ i (.int (x + v)) = some ⟨Ls'⟩) (g : G k n0 Q h cells slots pc' Ls' (St)) : G k n0 Q h cells slots pc Ls (St) := by
  obtain ⟨p, l, e, R', s, m, args, below, meth, c⟩ := k
  obtain ⟨hx, hZ, hown, rfl, rfl, rfl, rfl, hlk, rfl, hn0⟩ := K
  obtain ⟨d, rfl⟩ := d
  exact G.plain (fun T locs t X q => XT.iincV X.here hx rfl v d hv (by simpa using hl0) hl q) g
theorem G.iconst (K : Ok k Z n0 own R bytes maxL ret nm) {i : Int} (d : Dc bytes pc (.iconst i) 1 pc') (v : Int32) (hv : Int32.ofInt i = v) (g : G k n0 Q h cells slots pc' Ls (.int v :: St)) : G k n0 Q h cells slots pc Ls (St) := by
  obtain ⟨p, l, e, R', s, m, args, below, meth, c⟩ := k
  obtain ⟨hx, hZ, hown, rfl, rfl, rfl, rfl, hlk, rfl, hn0⟩ := K
  obtain ⟨d, rfl⟩ := d
  exact G.plain (fun T locs t X q => XT.iconstV X.here hx rfl v d hv q) g
theorem G.bipush (K : Ok k Z n0 own R bytes maxL ret nm) {i : Int} (d : Dc bytes pc (.bipush i) 2 pc') (v : Int32) (hv : (Int8.ofInt i).toInt32 = v) (g : G k n0 Q h cells slots pc' Ls (.int v :: St)) : G k n0 Q h cells slots pc Ls (St) := by
  obtain ⟨p, l, e, R', s, m, args, below, meth, c⟩ := k
  obtain ⟨hx, hZ, hown, rfl, rfl, rfl, rfl, hlk, rfl, hn0⟩ := K
  obtain ⟨d, rfl⟩ := d
  exact G.plain (fun T locs t X q => XT.bipushV X.here hx rfl v d hv q) g
theorem G.sipush (K : Ok k Z n0 own R bytes maxL ret nm) {i : Int} (d : Dc bytes pc (.sipush i) 3 pc') (v : Int32) (hv : (Int16.ofInt i).toInt32 = v) (g : G k n0 Q h cells slots pc' Ls (.int v :: St)) : G k n0 Q h cells slots pc Ls (St) := by
  obtain ⟨p, l, e, R', s, m, args, below, meth, c⟩ := k
  obtain ⟨hx, hZ, hown, rfl, rfl, rfl, rfl, hlk, rfl, hn0⟩ := K
  obtain ⟨d, rfl⟩ := d
  exact G.plain (fun T locs t X q => XT.sipushV X.here hx rfl v d hv q) g
theorem G.lconst (K : Ok k Z n0 own R bytes maxL ret nm) {i : Fin 2} (d : Dc bytes pc (.lconst i) 1 pc') (v : Int64) (hv : Int64.ofNat i = v) (g : G k n0 Q h cells slots pc' Ls (.long v :: St)) : G k n0 Q h cells slots pc Ls (St) := by
  obtain ⟨p, l, e, R', s, m, args, below, meth, c⟩ := k
  obtain ⟨hx, hZ, hown, rfl, rfl, rfl, rfl, hlk, rfl, hn0⟩ := K
  obtain ⟨d, rfl⟩ := d
  exact G.plain (fun T locs t X q => XT.lconstV X.here hx rfl v d hv q) g
theorem G.aconst_null (K : Ok k Z n0 own R bytes maxL ret nm)  (d : Dc bytes pc .aconst_null 1 pc') (g : G k n0 Q h cells slots pc' Ls (.null :: St)) : G k n0 Q h cells slots pc Ls (St) := by
  obtain ⟨p, l, e, R', s, m, args, below, meth, c⟩ := k
  obtain ⟨hx, hZ, hown, rfl, rfl, rfl, rfl, hlk, rfl, hn0⟩ := K
  obtain ⟨d, rfl⟩ := d
  exact G.plain (fun T locs t X q => XS.aconstNull X.here hx rfl d q) g
theorem G.ldcI (K : Ok k Z n0 own R bytes maxL ret nm) {v : Int32} {i : Nat} (d : Dc bytes pc (.ldc i) 2 pc') (w : (Cond.constant own i v).before a0 Z = true) (g : G k n0 Q h cells slots pc' Ls (.int v :: St)) : G k n0 Q h cells slots pc Ls (St) := by
  obtain ⟨p, l, e, R', s, m, args, below, meth, c⟩ := k
  obtain ⟨hx, hZ, hown, rfl, rfl, rfl, rfl, hlk, rfl, hn0⟩ := K
  obtain ⟨d, rfl⟩ := d
  exact G.plain (fun T locs t X q => X.ldcI hx hown (mvT hZ w) rfl d q) g
theorem G.ldcWI (K : Ok k Z n0 own R bytes maxL ret nm) {v : Int32} {i : Nat} (d : Dc bytes pc (.ldc_w i) 3 pc') (w : (Cond.constant own i v).before a0 Z = true) (g : G k n0 Q h cells slots pc' Ls (.int v :: St)) : G k n0 Q h cells slots pc Ls (St) := by
  obtain ⟨p, l, e, R', s, m, args, below, meth, c⟩ := k
  obtain ⟨hx, hZ, hown, rfl, rfl, rfl, rfl, hlk, rfl, hn0⟩ := K
  obtain ⟨d, rfl⟩ := d
  exact G.plain (fun T locs t X q => X.ldcWI hx hown (mvT hZ w) rfl d q) g
theorem G.ldc2J (K : Ok k Z n0 own R bytes maxL ret nm) {v : Int64} {i : Nat} (d : Dc bytes pc (.ldc2_w i) 3 pc') (w : (Cond.constantLong own i v).before a0 Z = true) (g : G k n0 Q h cells slots pc' Ls (.long v :: St)) : G k n0 Q h cells slots pc Ls (St) := by
  obtain ⟨p, l, e, R', s, m, args, below, meth, c⟩ := k
  obtain ⟨hx, hZ, hown, rfl, rfl, rfl, rfl, hlk, rfl, hn0⟩ := K
  obtain ⟨d, rfl⟩ := d
  exact G.plain (fun T locs t X q => X.ldc2J hx hown (mvT hZ w) rfl d q) g
theorem G.dup (K : Ok k Z n0 own R bytes maxL ret nm) {x : Value} (d : Dc bytes pc .dup 1 pc') (hv : x.category = 1) (g : G k n0 Q h cells slots pc' Ls (x :: x :: St)) : G k n0 Q h cells slots pc Ls (x :: St) := by
  obtain ⟨p, l, e, R', s, m, args, below, meth, c⟩ := k
  obtain ⟨hx, hZ, hown, rfl, rfl, rfl, rfl, hlk, rfl, hn0⟩ := K
  obtain ⟨d, rfl⟩ := d
  exact G.plain (fun T locs t X q => XS.dup X.here hx rfl d rfl hv q) g
theorem G.pop (K : Ok k Z n0 own R bytes maxL ret nm) {x : Value} (d : Dc bytes pc .pop 1 pc') (hv : x.category = 1) (g : G k n0 Q h cells slots pc' Ls (St)) : G k n0 Q h cells slots pc Ls (x :: St) := by
  obtain ⟨p, l, e, R', s, m, args, below, meth, c⟩ := k
  obtain ⟨hx, hZ, hown, rfl, rfl, rfl, rfl, hlk, rfl, hn0⟩ := K
  obtain ⟨d, rfl⟩ := d
  exact G.plain (fun T locs t X q => XT.pop X.here hx rfl d rfl hv q) g
theorem G.dup_x1 (K : Ok k Z n0 own R bytes maxL ret nm) {x y : Value} (d : Dc bytes pc .dup_x1 1 pc') (hv : x.category = 1) (hv' : y.category = 1) (g : G k n0 Q h cells slots pc' Ls (x :: y :: x :: St)) : G k n0 Q h cells slots pc Ls (x :: y :: St) := by
  obtain ⟨p, l, e, R', s, m, args, below, meth, c⟩ := k
  obtain ⟨hx, hZ, hown, rfl, rfl, rfl, rfl, hlk, rfl, hn0⟩ := K
  obtain ⟨d, rfl⟩ := d
  exact G.plain (fun T locs t X q => XT.dupX1 X.here hx rfl d rfl hv hv' q) g
theorem G.dup2 (K : Ok k Z n0 own R bytes maxL ret nm) {x y : Value} (d : Dc bytes pc .dup2 1 pc') (hv : x.category = 1) (hv' : y.category = 1) (g : G k n0 Q h cells slots pc' Ls (x :: y :: x :: y :: St)) : G k n0 Q h cells slots pc Ls (x :: y :: St) := by
  obtain ⟨p, l, e, R', s, m, args, below, meth, c⟩ := k
  obtain ⟨hx, hZ, hown, rfl, rfl, rfl, rfl, hlk, rfl, hn0⟩ := K
  obtain ⟨d, rfl⟩ := d
  exact G.plain (fun T locs t X q => XT.dup2 X.here hx rfl d rfl hv hv' q) g
theorem G.dup2L (K : Ok k Z n0 own R bytes maxL ret nm) {x : Int64} (d : Dc bytes pc .dup2 1 pc') (g : G k n0 Q h cells slots pc' Ls (.long x :: .long x :: St)) : G k n0 Q h cells slots pc Ls (.long x :: St) := by
  obtain ⟨p, l, e, R', s, m, args, below, meth, c⟩ := k
  obtain ⟨hx, hZ, hown, rfl, rfl, rfl, rfl, hlk, rfl, hn0⟩ := K
  obtain ⟨d, rfl⟩ := d
  exact G.plain (fun T locs t X q => XT.dup2L X.here hx rfl d rfl q) g
theorem G.pop2L (K : Ok k Z n0 own R bytes maxL ret nm) {x : Int64} (d : Dc bytes pc .pop2 1 pc') (g : G k n0 Q h cells slots pc' Ls (St)) : G k n0 Q h cells slots pc Ls (.long x :: St) := by
  obtain ⟨p, l, e, R', s, m, args, below, meth, c⟩ := k
  obtain ⟨hx, hZ, hown, rfl, rfl, rfl, rfl, hlk, rfl, hn0⟩ := K
  obtain ⟨d, rfl⟩ := d
  exact G.plain (fun T locs t X q => by jvm_step X.here [X.here.top, hx, d, Value.category]; exact q) g
theorem G.ldc2D (K : Ok k Z n0 own R bytes maxL ret nm) {v : UInt64} {i : Nat} (d : Dc bytes pc (.ldc2_w i) 3 pc') (w : (Cond.constantDouble own i v).before a0 Z = true) (g : G k n0 Q h cells slots pc' Ls (.double v :: St)) : G k n0 Q h cells slots pc Ls (St) := by
  obtain ⟨p, l, e, R', s, m, args, below, meth, c⟩ := k
  obtain ⟨hx, hZ, hown, rfl, rfl, rfl, rfl, hlk, rfl, hn0⟩ := K
  obtain ⟨d, rfl⟩ := d
  exact G.plain (fun T locs t X q => X.ldc2DoubleC hx hown (mvD hZ w) (g := mkF m pc ⟨Ls⟩ St) rfl d t q) g
theorem G.dconst0 (K : Ok k Z n0 own R bytes maxL ret nm)  (d : Dc bytes pc (.dconst 0) 1 pc') (g : G k n0 Q h cells slots pc' Ls (.double FP.dconst0 :: St)) : G k n0 Q h cells slots pc Ls (St) := by
  obtain ⟨p, l, e, R', s, m, args, below, meth, c⟩ := k
  obtain ⟨hx, hZ, hown, rfl, rfl, rfl, rfl, hlk, rfl, hn0⟩ := K
  obtain ⟨d, rfl⟩ := d
  exact G.plain (fun T locs t X q => XS.dconst0 X.here hx rfl d rfl q) g
theorem G.dconst1 (K : Ok k Z n0 own R bytes maxL ret nm)  (d : Dc bytes pc (.dconst 1) 1 pc') (g : G k n0 Q h cells slots pc' Ls (.double FP.dconst1 :: St)) : G k n0 Q h cells slots pc Ls (St) := by
  obtain ⟨p, l, e, R', s, m, args, below, meth, c⟩ := k
  obtain ⟨hx, hZ, hown, rfl, rfl, rfl, rfl, hlk, rfl, hn0⟩ := K
  obtain ⟨d, rfl⟩ := d
  exact G.plain (fun T locs t X q => XS.dconst1 X.here hx rfl d rfl q) g
theorem G.dloadN (K : Ok k Z n0 own R bytes maxL ret nm) {v : UInt64} {i : Fin 4} (d : Dc bytes pc (.dload_n i) 1 pc') (hl : Ls[i.val]? = some (.val (.double v))) (g : G k n0 Q h cells slots pc' Ls (.double v :: St)) : G k n0 Q h cells slots pc Ls (St) := by
  obtain ⟨p, l, e, R', s, m, args, below, meth, c⟩ := k
  obtain ⟨hx, hZ, hown, rfl, rfl, rfl, rfl, hlk, rfl, hn0⟩ := K
  obtain ⟨d, rfl⟩ := d
  exact G.plain (fun T locs t X q => XS.dloadN X.here hx rfl d (by simpa using hl) q) g
theorem G.goto (K : Ok k Z n0 own R bytes maxL ret nm) (d : Db bytes pc .goto nx tg) (g : G k n0 Q h cells slots tg Ls St) : G k n0 Q h cells slots pc Ls St := by
  obtain ⟨p, l, e, R', s, m, args, below, meth, c⟩ := k
  obtain ⟨hx, hZ, hown, rfl, rfl, rfl, rfl, hlk, rfl, hn0⟩ := K
  obtain ⟨o, d, rfl, d1, d2⟩ := d
  exact G.plain (fun T locs t X q => XS.goto X.here hx rfl rfl d d1 d2 q) g
theorem G.icmp_eq (K : Ok k Z n0 own R bytes maxL ret nm) {x y : Int32} (d : Db bytes pc (.if_icmp .eq) nx tg) (gy : x = y → G k n0 Q h cells slots tg Ls St) (gn : ¬ (x = y) → G k n0 Q h cells slots nx Ls St) : G k n0 Q h cells slots pc Ls (.int y :: .int x :: St) := by
  obtain ⟨p, l, e, R', s, m, args, below, meth, c⟩ := k
  obtain ⟨hx, hZ, hown, rfl, rfl, rfl, rfl, hlk, rfl, hn0⟩ := K
  obtain ⟨o, d, rfl, d1, d2⟩ := d
  by_cases q : x = y
  · exact G.plain (fun T locs t X z => XS.icmpYes X.here hx rfl rfl d rfl (XT.ii_eq_t q) d1 d2 z) (gy q)
  · exact G.plain (fun T locs t X z => XS.icmpNo X.here hx rfl d rfl (XT.ii_eq_f q) z) (gn q)
theorem G.if_eq (K : Ok k Z n0 own R bytes maxL ret nm) {x : Int32} (d : Db bytes pc (.ifCond .eq) nx tg) (gy : x = 0 → G k n0 Q h cells slots tg Ls St) (gn : ¬ (x = 0) → G k n0 Q h cells slots nx Ls St) : G k n0 Q h cells slots pc Ls (.int x :: St) := by
  obtain ⟨p, l, e, R', s, m, args, below, meth, c⟩ := k
  obtain ⟨hx, hZ, hown, rfl, rfl, rfl, rfl, hlk, rfl, hn0⟩ := K
  obtain ⟨o, d, rfl, d1, d2⟩ := d
  by_cases q : x = 0
  · exact G.plain (fun T locs t X z => XS.ifYes X.here hx rfl rfl d rfl (XT.i0_eq_t q) d1 d2 z) (gy q)
  · exact G.plain (fun T locs t X z => XS.ifNo X.here hx rfl d rfl (XT.i0_eq_f q) z) (gn q)
theorem G.lcmp_eq (K : Ok k Z n0 own R bytes maxL ret nm) {x y : Int64} {pd : Nat} (dl : Dc bytes pc .lcmp 1 pd) (d : Db bytes pd (.ifCond .eq) nx tg) (gy : x = y → G k n0 Q h cells slots tg Ls St) (gn : ¬ (x = y) → G k n0 Q h cells slots nx Ls St) : G k n0 Q h cells slots pc Ls (.long y :: .long x :: St) := by
  obtain ⟨p, l, e, R', s, m, args, below, meth, c⟩ := k
  obtain ⟨hx, hZ, hown, rfl, rfl, rfl, rfl, hlk, rfl, hn0⟩ := K
  obtain ⟨dl, rfl⟩ := dl
  obtain ⟨o, d, rfl, d1, d2⟩ := d
  by_cases q : x = y
  · exact G.plain (fun T locs t X z => XT.lcmp X.here hx rfl dl rfl (XS.ifYes X.here hx rfl rfl d rfl (XT.ll_eq_t q) d1 d2 z)) (gy q)
  · exact G.plain (fun T locs t X z => XT.lcmp X.here hx rfl dl rfl (XS.ifNo X.here hx rfl d rfl (XT.ll_eq_f q) z)) (gn q)
theorem G.icmp_ne (K : Ok k Z n0 own R bytes maxL ret nm) {x y : Int32} (d : Db bytes pc (.if_icmp .ne) nx tg) (gy : ¬ (x = y) → G k n0 Q h cells slots tg Ls St) (gn : x = y → G k n0 Q h cells slots nx Ls St) : G k n0 Q h cells slots pc Ls (.int y :: .int x :: St) := by
  obtain ⟨p, l, e, R', s, m, args, below, meth, c⟩ := k
  obtain ⟨hx, hZ, hown, rfl, rfl, rfl, rfl, hlk, rfl, hn0⟩ := K
  obtain ⟨o, d, rfl, d1, d2⟩ := d
  by_cases q : x = y
  · exact G.plain (fun T locs t X z => XS.icmpNo X.here hx rfl d rfl (XT.ii_ne_f q) z) (gn q)
  · exact G.plain (fun T locs t X z => XS.icmpYes X.here hx rfl rfl d rfl (XT.ii_ne_t q) d1 d2 z) (gy q)
theorem G.if_ne (K : Ok k Z n0 own R bytes maxL ret nm) {x : Int32} (d : Db bytes pc (.ifCond .ne) nx tg) (gy : ¬ (x = 0) → G k n0 Q h cells slots tg Ls St) (gn : x = 0 → G k n0 Q h cells slots nx Ls St) : G k n0 Q h cells slots pc Ls (.int x :: St) := by
  obtain ⟨p, l, e, R', s, m, args, below, meth, c⟩ := k
  obtain ⟨hx, hZ, hown, rfl, rfl, rfl, rfl, hlk, rfl, hn0⟩ := K
  obtain ⟨o, d, rfl, d1, d2⟩ := d
  by_cases q : x = 0
  · exact G.plain (fun T locs t X z => XS.ifNo X.here hx rfl d rfl (XT.i0_ne_f q) z) (gn q)
  · exact G.plain (fun T locs t X z => XS.ifYes X.here hx rfl rfl d rfl (XT.i0_ne_t q) d1 d2 z) (gy q)
theorem G.lcmp_ne (K : Ok k Z n0 own R bytes maxL ret nm) {x y : Int64} {pd : Nat} (dl : Dc bytes pc .lcmp 1 pd) (d : Db bytes pd (.ifCond .ne) nx tg) (gy : ¬ (x = y) → G k n0 Q h cells slots tg Ls St) (gn : x = y → G k n0 Q h cells slots nx Ls St) : G k n0 Q h cells slots pc Ls (.long y :: .long x :: St) := by
  obtain ⟨p, l, e, R', s, m, args, below, meth, c⟩ := k
  obtain ⟨hx, hZ, hown, rfl, rfl, rfl, rfl, hlk, rfl, hn0⟩ := K
  obtain ⟨dl, rfl⟩ := dl
  obtain ⟨o, d, rfl, d1, d2⟩ := d
  by_cases q : x = y
  · exact G.plain (fun T locs t X z => XT.lcmp X.here hx rfl dl rfl (XS.ifNo X.here hx rfl d rfl (XT.ll_ne_f q) z)) (gn q)
  · exact G.plain (fun T locs t X z => XT.lcmp X.here hx rfl dl rfl (XS.ifYes X.here hx rfl rfl d rfl (XT.ll_ne_t q) d1 d2 z)) (gy q)
theorem G.icmp_lt (K : Ok k Z n0 own R bytes maxL ret nm) {x y : Int32} (d : Db bytes pc (.if_icmp .lt) nx tg) (gy : x < y → G k n0 Q h cells slots tg Ls St) (gn : ¬ (x < y) → G k n0 Q h cells slots nx Ls St) : G k n0 Q h cells slots pc Ls (.int y :: .int x :: St) := by
  obtain ⟨p, l, e, R', s, m, args, below, meth, c⟩ := k
  obtain ⟨hx, hZ, hown, rfl, rfl, rfl, rfl, hlk, rfl, hn0⟩ := K
  obtain ⟨o, d, rfl, d1, d2⟩ := d
  by_cases q : x < y
  · exact G.plain (fun T locs t X z => XS.icmpYes X.here hx rfl rfl d rfl (XT.ii_lt_t q) d1 d2 z) (gy q)
  · exact G.plain (fun T locs t X z => XS.icmpNo X.here hx rfl d rfl (XT.ii_lt_f q) z) (gn q)
theorem G.if_lt (K : Ok k Z n0 own R bytes maxL ret nm) {x : Int32} (d : Db bytes pc (.ifCond .lt) nx tg) (gy : x < 0 → G k n0 Q h cells slots tg Ls St) (gn : ¬ (x < 0) → G k n0 Q h cells slots nx Ls St) : G k n0 Q h cells slots pc Ls (.int x :: St) := by
  obtain ⟨p, l, e, R', s, m, args, below, meth, c⟩ := k
  obtain ⟨hx, hZ, hown, rfl, rfl, rfl, rfl, hlk, rfl, hn0⟩ := K
  obtain ⟨o, d, rfl, d1, d2⟩ := d
  by_cases q : x < 0
  · exact G.plain (fun T locs t X z => XS.ifYes X.here hx rfl rfl d rfl (XT.i0_lt_t q) d1 d2 z) (gy q)
  · exact G.plain (fun T locs t X z => XS.ifNo X.here hx rfl d rfl (XT.i0_lt_f q) z) (gn q)
theorem G.lcmp_lt (K : Ok k Z n0 own R bytes maxL ret nm) {x y : Int64} {pd : Nat} (dl : Dc bytes pc .lcmp 1 pd) (d : Db bytes pd (.ifCond .lt) nx tg) (gy : x < y → G k n0 Q h cells slots tg Ls St) (gn : ¬ (x < y) → G k n0 Q h cells slots nx Ls St) : G k n0 Q h cells slots pc Ls (.long y :: .long x :: St) := by
  obtain ⟨p, l, e, R', s, m, args, below, meth, c⟩ := k
  obtain ⟨hx, hZ, hown, rfl, rfl, rfl, rfl, hlk, rfl, hn0⟩ := K
  obtain ⟨dl, rfl⟩ := dl
  obtain ⟨o, d, rfl, d1, d2⟩ := d
  by_cases q : x < y
  · exact G.plain (fun T locs t X z => XT.lcmp X.here hx rfl dl rfl (XS.ifYes X.here hx rfl rfl d rfl (XT.ll_lt_t q) d1 d2 z)) (gy q)
  · exact G.plain (fun T locs t X z => XT.lcmp X.here hx rfl dl rfl (XS.ifNo X.here hx rfl d rfl (XT.ll_lt_f q) z)) (gn q)
theorem G.icmp_ge (K : Ok k Z n0 own R bytes maxL ret nm) {x y : Int32} (d : Db bytes pc (.if_icmp .ge) nx tg) (gy : ¬ (x < y) → G k n0 Q h cells slots tg Ls St) (gn : x < y → G k n0 Q h cells slots nx Ls St) : G k n0 Q h cells slots pc Ls (.int y :: .int x :: St) := by
  obtain ⟨p, l, e, R', s, m, args, below, meth, c⟩ := k
  obtain ⟨hx, hZ, hown, rfl, rfl, rfl, rfl, hlk, rfl, hn0⟩ := K
  obtain ⟨o, d, rfl, d1, d2⟩ := d
  by_cases q : x < y
  · exact G.plain (fun T locs t X z => XS.icmpNo X.here hx rfl d rfl (XT.ii_ge_f q) z) (gn q)
  · exact G.plain (fun T locs t X z => XS.icmpYes X.here hx rfl rfl d rfl (XT.ii_ge_t q) d1 d2 z) (gy q)
theorem G.if_ge (K : Ok k Z n0 own R bytes maxL ret nm) {x : Int32} (d : Db bytes pc (.ifCond .ge) nx tg) (gy : ¬ (x < 0) → G k n0 Q h cells slots tg Ls St) (gn : x < 0 → G k n0 Q h cells slots nx Ls St) : G k n0 Q h cells slots pc Ls (.int x :: St) := by
  obtain ⟨p, l, e, R', s, m, args, below, meth, c⟩ := k
  obtain ⟨hx, hZ, hown, rfl, rfl, rfl, rfl, hlk, rfl, hn0⟩ := K
  obtain ⟨o, d, rfl, d1, d2⟩ := d
  by_cases q : x < 0
  · exact G.plain (fun T locs t X z => XS.ifNo X.here hx rfl d rfl (XT.i0_ge_f q) z) (gn q)
  · exact G.plain (fun T locs t X z => XS.ifYes X.here hx rfl rfl d rfl (XT.i0_ge_t q) d1 d2 z) (gy q)
theorem G.lcmp_ge (K : Ok k Z n0 own R bytes maxL ret nm) {x y : Int64} {pd : Nat} (dl : Dc bytes pc .lcmp 1 pd) (d : Db bytes pd (.ifCond .ge) nx tg) (gy : ¬ (x < y) → G k n0 Q h cells slots tg Ls St) (gn : x < y → G k n0 Q h cells slots nx Ls St) : G k n0 Q h cells slots pc Ls (.long y :: .long x :: St) := by
  obtain ⟨p, l, e, R', s, m, args, below, meth, c⟩ := k
  obtain ⟨hx, hZ, hown, rfl, rfl, rfl, rfl, hlk, rfl, hn0⟩ := K
  obtain ⟨dl, rfl⟩ := dl
  obtain ⟨o, d, rfl, d1, d2⟩ := d
  by_cases q : x < y
  · exact G.plain (fun T locs t X z => XT.lcmp X.here hx rfl dl rfl (XS.ifNo X.here hx rfl d rfl (XT.ll_ge_f q) z)) (gn q)
  · exact G.plain (fun T locs t X z => XT.lcmp X.here hx rfl dl rfl (XS.ifYes X.here hx rfl rfl d rfl (XT.ll_ge_t q) d1 d2 z)) (gy q)
theorem G.icmp_gt (K : Ok k Z n0 own R bytes maxL ret nm) {x y : Int32} (d : Db bytes pc (.if_icmp .gt) nx tg) (gy : y < x → G k n0 Q h cells slots tg Ls St) (gn : ¬ (y < x) → G k n0 Q h cells slots nx Ls St) : G k n0 Q h cells slots pc Ls (.int y :: .int x :: St) := by
  obtain ⟨p, l, e, R', s, m, args, below, meth, c⟩ := k
  obtain ⟨hx, hZ, hown, rfl, rfl, rfl, rfl, hlk, rfl, hn0⟩ := K
  obtain ⟨o, d, rfl, d1, d2⟩ := d
  by_cases q : y < x
  · exact G.plain (fun T locs t X z => XS.icmpYes X.here hx rfl rfl d rfl (XT.ii_gt_t q) d1 d2 z) (gy q)
  · exact G.plain (fun T locs t X z => XS.icmpNo X.here hx rfl d rfl (XT.ii_gt_f q) z) (gn q)
theorem G.if_gt (K : Ok k Z n0 own R bytes maxL ret nm) {x : Int32} (d : Db bytes pc (.ifCond .gt) nx tg) (gy : 0 < x → G k n0 Q h cells slots tg Ls St) (gn : ¬ (0 < x) → G k n0 Q h cells slots nx Ls St) : G k n0 Q h cells slots pc Ls (.int x :: St) := by
  obtain ⟨p, l, e, R', s, m, args, below, meth, c⟩ := k
  obtain ⟨hx, hZ, hown, rfl, rfl, rfl, rfl, hlk, rfl, hn0⟩ := K
  obtain ⟨o, d, rfl, d1, d2⟩ := d
  by_cases q : 0 < x
  · exact G.plain (fun T locs t X z => XS.ifYes X.here hx rfl rfl d rfl (XT.i0_gt_t q) d1 d2 z) (gy q)
  · exact G.plain (fun T locs t X z => XS.ifNo X.here hx rfl d rfl (XT.i0_gt_f q) z) (gn q)
theorem G.lcmp_gt (K : Ok k Z n0 own R bytes maxL ret nm) {x y : Int64} {pd : Nat} (dl : Dc bytes pc .lcmp 1 pd) (d : Db bytes pd (.ifCond .gt) nx tg) (gy : y < x → G k n0 Q h cells slots tg Ls St) (gn : ¬ (y < x) → G k n0 Q h cells slots nx Ls St) : G k n0 Q h cells slots pc Ls (.long y :: .long x :: St) := by
  obtain ⟨p, l, e, R', s, m, args, below, meth, c⟩ := k
  obtain ⟨hx, hZ, hown, rfl, rfl, rfl, rfl, hlk, rfl, hn0⟩ := K
  obtain ⟨dl, rfl⟩ := dl
  obtain ⟨o, d, rfl, d1, d2⟩ := d
  by_cases q : y < x
  · exact G.plain (fun T locs t X z => XT.lcmp X.here hx rfl dl rfl (XS.ifYes X.here hx rfl rfl d rfl (XT.ll_gt_t q) d1 d2 z)) (gy q)
  · exact G.plain (fun T locs t X z => XT.lcmp X.here hx rfl dl rfl (XS.ifNo X.here hx rfl d rfl (XT.ll_gt_f q) z)) (gn q)
theorem G.icmp_le (K : Ok k Z n0 own R bytes maxL ret nm) {x y : Int32} (d : Db bytes pc (.if_icmp .le) nx tg) (gy : ¬ (y < x) → G k n0 Q h cells slots tg Ls St) (gn : y < x → G k n0 Q h cells slots nx Ls St) : G k n0 Q h cells slots pc Ls (.int y :: .int x :: St) := by
  obtain ⟨p, l, e, R', s, m, args, below, meth, c⟩ := k
  obtain ⟨hx, hZ, hown, rfl, rfl, rfl, rfl, hlk, rfl, hn0⟩ := K
  obtain ⟨o, d, rfl, d1, d2⟩ := d
  by_cases q : y < x
  · exact G.plain (fun T locs t X z => XS.icmpNo X.here hx rfl d rfl (XT.ii_le_f q) z) (gn q)
  · exact G.plain (fun T locs t X z => XS.icmpYes X.here hx rfl rfl d rfl (XT.ii_le_t q) d1 d2 z) (gy q)
theorem G.if_le (K : Ok k Z n0 own R bytes maxL ret nm) {x : Int32} (d : Db bytes pc (.ifCond .le) nx tg) (gy : ¬ (0 < x) → G k n0 Q h cells slots tg Ls St) (gn : 0 < x → G k n0 Q h cells slots nx Ls St) : G k n0 Q h cells slots pc Ls (.int x :: St) := by
  obtain ⟨p, l, e, R', s, m, args, below, meth, c⟩ := k
  obtain ⟨hx, hZ, hown, rfl, rfl, rfl, rfl, hlk, rfl, hn0⟩ := K
  obtain ⟨o, d, rfl, d1, d2⟩ := d
  by_cases q : 0 < x
  · exact G.plain (fun T locs t X z => XS.ifNo X.here hx rfl d rfl (XT.i0_le_f q) z) (gn q)
  · exact G.plain (fun T locs t X z => XS.ifYes X.here hx rfl rfl d rfl (XT.i0_le_t q) d1 d2 z) (gy q)
theorem G.lcmp_le (K : Ok k Z n0 own R bytes maxL ret nm) {x y : Int64} {pd : Nat} (dl : Dc bytes pc .lcmp 1 pd) (d : Db bytes pd (.ifCond .le) nx tg) (gy : ¬ (y < x) → G k n0 Q h cells slots tg Ls St) (gn : y < x → G k n0 Q h cells slots nx Ls St) : G k n0 Q h cells slots pc Ls (.long y :: .long x :: St) := by
  obtain ⟨p, l, e, R', s, m, args, below, meth, c⟩ := k
  obtain ⟨hx, hZ, hown, rfl, rfl, rfl, rfl, hlk, rfl, hn0⟩ := K
  obtain ⟨dl, rfl⟩ := dl
  obtain ⟨o, d, rfl, d1, d2⟩ := d
  by_cases q : y < x
  · exact G.plain (fun T locs t X z => XT.lcmp X.here hx rfl dl rfl (XS.ifNo X.here hx rfl d rfl (XT.ll_le_f q) z)) (gn q)
  · exact G.plain (fun T locs t X z => XT.lcmp X.here hx rfl dl rfl (XS.ifYes X.here hx rfl rfl d rfl (XT.ll_le_t q) d1 d2 z)) (gy q)
theorem G.ifnull_ref (K : Ok k Z n0 own R bytes maxL ret nm) {a : Addr} (d : Db bytes pc .ifnull nx tg) (g : G k n0 Q h cells slots nx Ls St) : G k n0 Q h cells slots pc Ls (.ref a :: St) := by
  obtain ⟨p, l, e, R', s, m, args, below, meth, c⟩ := k
  obtain ⟨hx, hZ, hown, rfl, rfl, rfl, rfl, hlk, rfl, hn0⟩ := K
  obtain ⟨o, d, rfl, d1, d2⟩ := d
  exact G.plain (fun T locs t X q => XS.ifnullNo X.here hx rfl d rfl q) g
theorem G.ifnonnull_ref (K : Ok k Z n0 own R bytes maxL ret nm) {a : Addr} (d : Db bytes pc .ifnonnull nx tg) (g : G k n0 Q h cells slots tg Ls St) : G k n0 Q h cells slots pc Ls (.ref a :: St) := by
  obtain ⟨p, l, e, R', s, m, args, below, meth, c⟩ := k
  obtain ⟨hx, hZ, hown, rfl, rfl, rfl, rfl, hlk, rfl, hn0⟩ := K
  obtain ⟨o, d, rfl, d1, d2⟩ := d
  exact G.plain (fun T locs t X q => XT.ifnonnullYes X.here hx rfl rfl d rfl d1 d2 q) g
theorem G.acmp_ne (K : Ok k Z n0 own R bytes maxL ret nm) {x y : Value} (hx' : x.isRef = true) (hy' : y.isRef = true) (d : Db bytes pc (.if_acmp .ne) nx tg) (gy : ¬ x = y → G k n0 Q h cells slots tg Ls St) (gn : x = y → G k n0 Q h cells slots nx Ls St) : G k n0 Q h cells slots pc Ls (y :: x :: St) := by
  obtain ⟨p, l, e, R', s, m, args, below, meth, c⟩ := k
  obtain ⟨hx, hZ, hown, rfl, rfl, rfl, rfl, hlk, rfl, hn0⟩ := K
  obtain ⟨o, d, rfl, d1, d2⟩ := d
  by_cases q : x = y
  · exact G.plain (fun T locs t X z => XT.acmpNo X.here hx rfl d rfl hx' hy' (XT.aa_ne_f q) z) (gn q)
  · exact G.plain (fun T locs t X z => XT.acmpYes X.here hx rfl rfl d rfl hx' hy' (XT.aa_ne_t q) d1 d2 z) (gy q)
/-- the end -/
theorem G.leave {p : Program} {l : Launch} {e : Env} {R : Room} {s : State} {m : MethodId} {args : Array Value} {below : List Frame} {meth : Method} {c : Code} (hlk : meth.locks = false) (v : Option Value) (hv : meth.sig.returnType = none → v = none) (hq : Q v h)
    (st : ∀ T locs fs, Stand p l e R s m args below meth c T locs cells slots → (∀ (f : JFrame) (acts : List Action), f.method = m → f.locked = none → f.entered = [] → (doReturn e (T.setTop f) acts v).1 = T.setFrames fs) → Steps p.tables e below (T.setTop (mkF m pc ⟨Ls⟩ St)) (T.setFrames fs)) :
    G (p, l, e, R, s, m, args, below, meth, c) n0 Q h cells slots pc Ls St := by
  intro hc hs T locs X eT N
  obtain ⟨fs, hr, hrun, hended, hW, hsame⟩ := X.leave (v := v) hv hlk
  exact ⟨_, _, st T locs fs X hr, hrun, hended, v, locs, rfl, ⟨by show Q v T.heap; rw [eT]; exact hq, N⟩, ⟨_, rfl⟩, hW, hsame.mono hc hs⟩
theorem G.ret_int (K : Ok k Z n0 own R bytes maxL (some .int) nm) {x : Int32} (d : Dc bytes pc .ireturn 1 pc') (hq : Q (some (.int x)) h) : G k n0 Q h cells slots pc Ls (.int x :: St) := by
  obtain ⟨p, l, e, R', s, m, args, below, meth, c⟩ := k
  obtain ⟨hx, hZ, hown, rfl, rfl, rfl, hr0, hlk, rfl, hn0⟩ := K
  obtain ⟨d, rfl⟩ := d
  exact G.leave hlk (some (.int x)) (fun q => by rw [hr0] at q; cases q) hq (fun T locs fs X hr => retOut X hx hr0 rfl (Or.inl ⟨rfl, Or.inl rfl, x, rfl⟩) d hr)
theorem G.ret_bool (K : Ok k Z n0 own R bytes maxL (some .boolean) nm) {x : Int32} (d : Dc bytes pc .ireturn 1 pc') (hq : Q (some (.int (x &&& 1))) h) : G k n0 Q h cells slots pc Ls (.int x :: St) := by
  obtain ⟨p, l, e, R', s, m, args, below, meth, c⟩ := k
  obtain ⟨hx, hZ, hown, rfl, rfl, rfl, hr0, hlk, rfl, hn0⟩ := K
  obtain ⟨d, rfl⟩ := d
  exact G.leave hlk (some (.int (x &&& 1))) (fun q => by rw [hr0] at q; cases q) hq (fun T locs fs X hr => retN X hx (t := .boolean) hr0 (by simp) d hr)
theorem G.ret_long (K : Ok k Z n0 own R bytes maxL (some .long) nm) {x : Int64} (d : Dc bytes pc .lreturn 1 pc') (hq : Q (some (.long x)) h) : G k n0 Q h cells slots pc Ls (.long x :: St) := by
  obtain ⟨p, l, e, R', s, m, args, below, meth, c⟩ := k
  obtain ⟨hx, hZ, hown, rfl, rfl, rfl, hr0, hlk, rfl, hn0⟩ := K
  obtain ⟨d, rfl⟩ := d
  exact G.leave hlk (some (.long x)) (fun q => by rw [hr0] at q; cases q) hq (fun T locs fs X hr => retOut X hx hr0 rfl (Or.inr (Or.inl ⟨rfl, rfl, x, rfl⟩)) d hr)
theorem G.ret_ref {t : FieldType} (K : Ok k Z n0 own R bytes maxL (some t) nm) (ht : t.isReference = true) {x : Value} (hv : x.isRef = true) (d : Dc bytes pc .areturn 1 pc') (hq : Q (some x) h) : G k n0 Q h cells slots pc Ls (x :: St) := by
  obtain ⟨p, l, e, R', s, m, args, below, meth, c⟩ := k
  obtain ⟨hx, hZ, hown, rfl, rfl, rfl, hr0, hlk, rfl, hn0⟩ := K
  obtain ⟨d, rfl⟩ := d
  have hn : narrow t x = x := by rcases ref_cases hv with rfl | ⟨a, rfl⟩ <;> cases t <;> rfl
  exact G.leave hlk (some x) (fun q => by rw [hr0] at q; cases q) hq (fun T locs fs X hr => retOut X hx hr0 hn (Or.inr (Or.inr (Or.inr (Or.inr ⟨rfl, ht, hv⟩)))) d hr)
theorem G.ret_void (K : Ok k Z n0 own R bytes maxL none nm) (d : Dc bytes pc .return_ 1 pc') (hq : Q none h) : G k n0 Q h cells slots pc Ls [] := by
  obtain ⟨p, l, e, R', s, m, args, below, meth, c⟩ := k
  obtain ⟨hx, hZ, hown, rfl, rfl, rfl, hr0, hlk, rfl, hn0⟩ := K
  obtain ⟨d, rfl⟩ := d
  exact G.leave hlk none (fun q => rfl) hq (fun T locs fs X hr => X.returnOut hx hr0 d hr)
/-! ### what is known of the heap: one word a cell that the law has made -/
theorem nd_inj {α : Type} {L : List α} (H : L.Nodup) {i j : Nat} {x : α} (hi : L[i]? = some x) (hj : L[j]? = some x) : i = j := by
  obtain ⟨h1, e1⟩ := List.getElem?_eq_some_iff.mp hi
  obtain ⟨h2, e2⟩ := List.getElem?_eq_some_iff.mp hj
  have w := List.pairwise_iff_getElem.mp H
  rcases Nat.lt_trichotomy i j with q | q | q
  · exact absurd (e1.trans e2.symm) (w i j h1 h2 q)
  · exact q
  · exact absurd (e2.trans e1.symm) (w j i h2 h1 q)
abbrev Ch := Addr × (Cell → Prop)
def Hp (n0 : Nat) (h : Heap) (σ : List Ch) : Prop := (σ.map Prod.fst).Nodup ∧ ∀ q ∈ σ, n0 ≤ q.1 ∧ ∃ cell, h[q.1]? = some cell ∧ q.2 cell
variable {σ : List Ch} {a : Addr} {P P' : Cell → Prop} {i : Nat} {h' : Heap}
theorem Hp.nil : Hp n0 h [] := ⟨List.nodup_nil, fun _ q => nomatch q⟩
theorem Hp.at (H : Hp n0 h σ) (hi : σ[i]? = some (a, P)) : n0 ≤ a ∧ ∃ cell, h[a]? = some cell ∧ P cell := H.2 _ (List.mem_of_getElem? hi)
theorem Hp.ge (H : Hp n0 h σ) (hi : σ[i]? = some (a, P)) : n0 ≤ a := (H.at hi).1
theorem Hp.lt (H : Hp n0 h σ) (q : Ch) (hq : q ∈ σ) : q.1 < h.size := by
  obtain ⟨-, cell, h1, -⟩ := H.2 _ hq
  exact (Array.getElem?_eq_some_iff.mp h1).1
theorem Hp.ne (H : Hp n0 h σ) {j : Nat} {b : Addr} {P' : Cell → Prop} (hi : σ[i]? = some (a, P)) (hj : σ[j]? = some (b, P')) (q : i ≠ j) : a ≠ b := by
  intro e
  subst e
  exact q (nd_inj H.1 (x := a) (by simp [hi]) (by simp [hj]))
theorem Hp.ext (H : Hp n0 h σ) (E : Ext h h') : Hp n0 h' σ := ⟨H.1, fun q hq => by obtain ⟨h1, c, h2, h3⟩ := H.2 q hq; exact ⟨h1, c, E.2 _ _ h2, h3⟩⟩
theorem Hp.cons (H : Hp n0 h σ) (E : Ext h h') (hn : n0 ≤ h.size) (w : ∃ cell, h'[h.size]? = some cell ∧ P cell) : Hp n0 h' ((h.size, P) :: σ) := by
  refine ⟨?_, fun q hq => ?_⟩
  · rw [List.map_cons, List.nodup_cons]
    refine ⟨fun q => ?_, H.1⟩
    obtain ⟨x, hx, e⟩ := List.mem_map.mp q
    have := H.lt x hx
    rw [e] at this
    exact absurd this (Nat.lt_irrefl _)
  · rcases List.mem_cons.mp hq with rfl | hq
    · exact ⟨hn, w⟩
    · exact (H.ext E).2 q hq
theorem Hp.drop {x : Ch} (H : Hp n0 h (x :: σ)) : Hp n0 h σ := ⟨(List.nodup_cons.mp H.1).2, fun q hq => H.2 q (List.mem_cons_of_mem _ hq)⟩
theorem Hp.sub {σ' : List Ch} (H : Hp n0 h σ) (q : σ'.Sublist σ) : Hp n0 h σ' := ⟨List.Nodup.sublist (q.map _) H.1, fun x hx => H.2 x (q.subset hx)⟩
theorem Hp.perm {σ' : List Ch} (H : Hp n0 h σ) (q : σ'.Perm σ) : Hp n0 h σ' := ⟨(List.Perm.nodup_iff (q.map Prod.fst)).mpr H.1, fun x hx => H.2 x (q.mem_iff.mp hx)⟩
theorem perm_pull : ∀ {i : Nat} {σ : List Ch} {x : Ch}, σ[i]? = some x → (x :: σ.eraseIdx i).Perm σ
  | 0, y :: σ, x, e => by cases Option.some.inj e; exact List.Perm.refl _
  | i + 1, y :: σ, x, e => ((List.Perm.swap y x _).trans ((perm_pull (i := i) (σ := σ) e).cons y))
theorem Hp.pull (H : Hp n0 h σ) (i : Nat) {x : Ch} (hi : σ[i]? = some x) : Hp n0 h (x :: σ.eraseIdx i) := H.perm (perm_pull hi)
theorem Hp.set (H : Hp n0 h σ) (hi : σ[i]? = some (a, P)) (hs : h'.size = h.size) (ho : ∀ b, b ≠ a → h'[b]? = h[b]?) (w : ∃ cell, h'[a]? = some cell ∧ P' cell) : Hp n0 h' (σ.set i (a, P')) := by
  obtain ⟨hlt, e1⟩ := List.getElem?_eq_some_iff.mp hi
  have em : (σ.set i (a, P')).map Prod.fst = σ.map Prod.fst := by
    apply List.ext_getElem?
    intro j
    by_cases q : i = j
    · subst q; simp [hlt, e1]
    · simp [List.getElem?_set_ne q]
  refine ⟨by rw [em]; exact H.1, fun q hq => ?_⟩
  obtain ⟨j, hj, e⟩ := List.getElem_of_mem hq
  rw [List.getElem_set] at e
  rw [List.length_set] at hj
  by_cases z : i = j
  · rw [if_pos z] at e; subst e; exact ⟨H.ge hi, w⟩
  · rw [if_neg z] at e
    have hj' : σ[j]? = some (q.1, q.2) := by rw [List.getElem?_eq_getElem hj, e]
    have hne : q.1 ≠ a := H.ne hj' hi (Ne.symm z)
    obtain ⟨h1, c, h2, h3⟩ := H.at hj'
    exact ⟨h1, c, by rw [ho _ hne]; exact h2, h3⟩
theorem Hp.wr {sl : Nat} {v : Value} (H : Hp n0 h σ) (hi : σ[i]? = some (a, P)) (W : Wr h h' a sl v) (hP : ∀ cell, P cell → P' (cell.setSlot sl v)) : Hp n0 h' (σ.set i (a, P')) := by
  obtain ⟨cell, h1, h2, h3, rfl⟩ := W
  obtain ⟨-, c', h4, h5⟩ := H.at hi
  cases h1.symm.trans h4
  refine H.set hi (by simp) (fun b hb => Array.getElem?_setIfInBounds_ne (Ne.symm hb)) ⟨_, Array.getElem?_setIfInBounds_self_of_lt (Array.getElem?_eq_some_iff.mp h1).1, hP _ h5⟩
theorem Hp.imp (H : Hp n0 h σ) (hi : σ[i]? = some (a, P)) (hP : ∀ cell, P cell → P' cell) : Hp n0 h (σ.set i (a, P')) := by
  obtain ⟨-, c, h1, h2⟩ := H.at hi
  exact H.set hi rfl (fun _ _ => rfl) ⟨c, h1, hP c h2⟩
/-- an object, its class, the fields that are spoken of and what they hold -/
def Ob (Z : State) (C : String) (NS : List (String × String × String)) (vs : List Value) (cell : Cell) : Prop :=
  (∃ k, Z.vm.findClass C = some cell.cls ∧ Z.vm.classes[cell.cls]? = some k ∧ cell.vm.isStatics = false ∧ (k.kind = .ordinary → cell.slots.size = k.instanceTypes.size)) ∧
  ∀ (j : Nat) (f : String × String × String) (v : Value), NS[j]? = some f → vs[j]? = some v → ∃ (cf : ClassId) (k : Class) (i : Nat) (fd : Field), Z.fieldFound? f.1 f.2.1 f.2.2 = some (cf, k, i, fd) ∧ fd.isStatic = false ∧ cell.vm ≠ .unknown ∧ Z.vm.assignable cell.cls cf = true ∧ cell.slots[fd.slot]? = some v
/-- what the sheet says of a class's fields -/
def Cf (Z : State) (a0 : Array Value) (C : String) (NS : List (String × String × String)) : Prop := (∀ f ∈ NS, Laid Z a0 C f.1 f.2.1 f.2.2) ∧ (NS.map fun f => f.2.1).Nodup ∧ ∀ f ∈ NS, ∃ t, parseFieldDescriptor f.2.2 = some t
variable {C O n ds : String} {NS : List (String × String × String)} {vs : List Value} {j : Nat} {v w : Value}
theorem Hp.exa (H : Hp n0 h σ) (hi : σ[i]? = some (a, Ob Z C NS vs)) : Exa Z h a C := by
  obtain ⟨-, cell, h1, ⟨k, h2, h3, h4, h5⟩, -⟩ := H.at hi
  exact ⟨cell, k, h1, h2, h3, h4, h5⟩
theorem Hp.fld (H : Hp n0 h σ) (hi : σ[i]? = some (a, Ob Z C NS vs)) (hj : NS[j]? = some (O, n, ds)) (hv : vs[j]? = some v) : Fld Z h a O n ds v := by
  obtain ⟨-, cell, h1, ⟨k, h2, h3, h4, h5⟩, h6⟩ := H.at hi
  obtain ⟨cf, k, i, fd, q1, q2, q3, q4, q5⟩ := h6 j _ _ hj hv
  exact ⟨cell, cf, k, i, fd, h1, q1, q2, q3, h4, q4, q5⟩
theorem Ob.set (F : Cf Z a0 C NS) (hj : NS[j]? = some (O, n, ds)) (hv : vs[j]? = some v) (w : Value) {cell : Cell} (B : Ob Z C NS vs cell) : Ob Z C NS (vs.set j w) (cell.setSlot (RoadKit.slotOf Z O n ds) w) := by
  obtain ⟨⟨k, h2, h3, h4, h5⟩, h6⟩ := B
  refine ⟨⟨k, h2, h3, h4, fun q => by rw [sz_set]; exact h5 q⟩, fun j' f v' hf hv' => ?_⟩
  obtain ⟨cf, kk, ii, fd, q1, q2, q3, q4, q5⟩ := h6 j _ _ hj hv
  have es : RoadKit.slotOf Z O n ds = fd.slot := by simp [RoadKit.slotOf, q1]
  by_cases z : j = j'
  · subst z
    cases hj.symm.trans hf
    have hl := (List.getElem?_eq_some_iff.mp hv).1
    rw [List.getElem?_set_self hl] at hv'
    cases hv'
    refine ⟨cf, kk, ii, fd, q1, q2, q3, q4, ?_⟩
    rw [es]
    exact Array.getElem?_setIfInBounds_self_of_lt (Array.getElem?_eq_some_iff.mp q5).1
  · rw [List.getElem?_set_ne z] at hv'
    obtain ⟨cf', kk', ii', fd', r1, r2, r3, r4, r5⟩ := h6 j' _ _ hf hv'
    refine ⟨cf', kk', ii', fd', r1, r2, r3, r4, ?_⟩
    have es' : RoadKit.slotOf Z f.1 f.2.1 f.2.2 = fd'.slot := by simp [RoadKit.slotOf, r1]
    have m1 := List.mem_of_getElem? hj
    have m2 := List.mem_of_getElem? hf
    have hne : n ≠ f.2.1 := by
      intro e
      exact z (nd_inj F.2.1 (x := n) (by simp [hj]) (by simp [hf, e]))
    obtain ⟨t1, p1⟩ := F.2.2 _ m1
    obtain ⟨t2, p2⟩ := F.2.2 _ m2
    have := RoadKit.slot_ne (F.1 _ m1) (F.1 _ m2) hne p1 p2
    rw [es'] at this
    show (Array.setIfInBounds _ _ _)[_]? = _
    rw [Array.getElem?_setIfInBounds_ne this]
    exact r5
theorem G.getF (K : Ok k Z n0 own R bytes maxL ret nm) {idx : Nat} {host : String} (w : (Cond.fieldLink own idx O n ds).before a0 Z = true ∨ (Cond.fieldLinkNest own idx O n ds host).before a0 Z = true) (H : Hp n0 h σ) (hi : σ[i]? = some (a, Ob Z C NS vs)) (hj : NS[j]? = some (O, n, ds)) (hv : vs[j]? = some v)
    (d : Dc bytes pc (.getfield idx) 3 pc') (g : G k n0 Q h cells slots pc' Ls (v :: St)) : G k n0 Q h cells slots pc Ls (.ref a :: St) := by
  obtain ⟨p, l, e, R', s, m, args, below, meth, c⟩ := k
  obtain ⟨hx, hZ, hown, rfl, rfl, rfl, rfl, hlk, rfl, hn0⟩ := K
  obtain ⟨d, rfl⟩ := d
  exact G.moved (fun T locs X eT => RoadKit.getF X hx hZ hown w Via.refl eT (H.fld hi hj hv) (g := mkF m pc ⟨Ls⟩ (.ref a :: St)) rfl rfl d) g
theorem G.putF (K : Ok k Z n0 own R bytes maxL ret nm) {idx kk : Nat} {host : String} {ty : FieldType} (w : (Cond.fieldLink own idx O n ds).before a0 Z = true ∨ (Cond.fieldLinkNest own idx O n ds host).before a0 Z = true) (F : Cf Z a0 C NS) (wl : (Cond.lays C O n ds).before a0 Z = true ∨ ((Cond.laysFinal C O n ds).before a0 Z = true ∧ own = O ∧ nm = "<init>")) (wi : (Cond.instantiable C kk).before a0 Z = true)
    (H : Hp n0 h σ) (hi : σ[i]? = some (a, Ob Z C NS vs)) (hj : NS[j]? = some (O, n, ds)) {old : Value} (hv : vs[j]? = some old) (hty : parseFieldDescriptor ds = some ty) (hn : narrow ty v = v) (hf : fits ty v = true)
    (d : Dc bytes pc (.putfield idx) 3 pc') (g : ∀ h', Hp n0 h' (σ.set i (a, Ob Z C NS (vs.set j v))) → G k n0 Q h' cells slots pc' Ls St) : G k n0 Q h cells slots pc Ls (v :: .ref a :: St) := by
  obtain ⟨p, l, e, R', s, m, args, below, meth, c⟩ := k
  obtain ⟨hx, hZ, hown, rfl, rfl, rfl, rfl, hlk, rfl, hn0⟩ := K
  obtain ⟨d, rfl⟩ := d
  intro hc hs T locs X eT N
  obtain ⟨T', h', X', eT', W, st⟩ := RoadKit.putF X hx hZ hown w Via.refl eT (H.fld hi hj hv) (H.exa hi) wl wi hty hn hf (g := mkF m pc ⟨Ls⟩ (v :: .ref a :: St)) rfl rfl d
  obtain ⟨s₂, o, h1, r⟩ := g h' (H.wr hi W fun cell B => Ob.set F hj hv v B) hc hs T' _ X' eT' (Fr.snoc X' N (H.ge hi))
  exact ⟨s₂, o, st s₂ h1, r⟩
theorem G.putFN (K : Ok k Z n0 own R bytes maxL ret nm) {idx kk : Nat} {ty : FieldType} (w : (Cond.fieldLink own idx O n ds).before a0 Z = true) (F : Cf Z a0 C NS) (wl : (Cond.lays C O n ds).before a0 Z = true ∨ ((Cond.laysFinal C O n ds).before a0 Z = true ∧ own = O ∧ nm = "<init>")) (wi : (Cond.instantiable C kk).before a0 Z = true)
    (H : Hp n0 h σ) (hi : σ[i]? = some (a, Ob Z C NS vs)) (hj : NS[j]? = some (O, n, ds)) {old v' : Value} (hv : vs[j]? = some old) (hty : parseFieldDescriptor ds = some ty) (hn : narrow ty v = v') (hf : fits ty v' = true)
    (d : Dc bytes pc (.putfield idx) 3 pc') (g : ∀ h', Hp n0 h' (σ.set i (a, Ob Z C NS (vs.set j v'))) → G k n0 Q h' cells slots pc' Ls St) : G k n0 Q h cells slots pc Ls (v :: .ref a :: St) := by
  obtain ⟨p, l, e, R', s, m, args, below, meth, c⟩ := k
  obtain ⟨hx, hZ, hown, rfl, rfl, rfl, rfl, hlk, rfl, hn0⟩ := K
  obtain ⟨d, rfl⟩ := d
  intro hc hs T locs X eT N
  obtain ⟨T', h', X', eT', W, st⟩ := RoadKit.putFN X hx hZ hown w Via.refl eT (H.fld hi hj hv) (H.exa hi) wl wi hty hn hf (g := mkF m pc ⟨Ls⟩ (v :: .ref a :: St)) rfl rfl d
  obtain ⟨s₂, o, h1, r⟩ := g h' (H.wr hi W fun cell B => Ob.set F hj hv v' B) hc hs T' _ X' eT' (Fr.snoc X' N (H.ge hi))
  exact ⟨s₂, o, st s₂ h1, r⟩
theorem size_ok {p : Program} {l : Launch} {e : Env} {R : Room} {s : State} {m : MethodId} {args : Array Value} {below : List Frame} {meth : Method} {c : Code} {T : State} {locs : List Loc} (X : Stand p l e R s m args below meth c T locs cells slots) (eT : T.heap = h) (hn : n0 ≤ s.heap.size) : n0 ≤ h.size := by
  have := X.same.2.1
  subst eT
  exact Nat.le_trans hn this
theorem G.new (K : Ok k Z n0 own R bytes maxL ret nm) {idx kk : Nat} (w : (Cond.classLink own idx C).before a0 Z = true) (wi : (Cond.instantiable C kk).before a0 Z = true) (wz : (Cond.initialized C).before a0 Z = true) (F : Cf Z a0 C NS)
    (hd : NS.map (fun f => (parseFieldDescriptor f.2.2).map defaultValue) = vs.map some) (H : Hp n0 h σ) (hc : cells + 1 ≤ R.cells) (hl : slots + kk ≤ R.slots) (d : Dc bytes pc (.new idx) 3 pc')
    (g : ∀ a h', Hp n0 h' ((a, Ob Z C NS vs) :: σ) → G k n0 Q h' (cells + 1) (slots + kk) pc' Ls (.ref a :: St)) : G k n0 Q h cells slots pc Ls St := by
  obtain ⟨p, l, e, R', s, m, args, below, meth, c⟩ := k
  obtain ⟨hx, hZ, hown, rfl, rfl, rfl, rfl, hlk, rfl, hn0⟩ := K
  obtain ⟨d, rfl⟩ := d
  intro _ _ T locs X eT N
  obtain ⟨T', h', X', eT', E, A, D, ⟨cell, hc1, hc2, -⟩, st⟩ := RoadKit.newO X hx hZ hown w wi wz eT (g := mkF m pc ⟨Ls⟩ St) rfl d hc hl
  have B : Ob Z C NS vs cell := by
    obtain ⟨c', k, q1, q2, q3, q4, q5⟩ := A
    cases hc1.symm.trans q1
    refine ⟨⟨k, q2, q3, q4, q5⟩, fun j f v hf hv => ?_⟩
    have e1 : (NS.map (fun f => (parseFieldDescriptor f.2.2).map defaultValue))[j]? = some ((parseFieldDescriptor f.2.2).map defaultValue) := by simp [hf]
    rw [hd] at e1
    simp only [List.getElem?_map, hv, Option.map_some, Option.some.injEq] at e1
    obtain ⟨t, ht⟩ := F.2.2 _ (List.mem_of_getElem? hf)
    rw [ht, Option.map_some, Option.some.injEq] at e1
    obtain ⟨c'', cf, k', i', fd, r1, r2, r3, r4, r5, r6, r7⟩ := D (F.1 _ (List.mem_of_getElem? hf)) ht
    cases hc1.symm.trans r1
    exact ⟨cf, k', i', fd, r2, r3, r4, r6, by rw [e1]; exact r7⟩
  obtain ⟨s₂, o, h1, r⟩ := g h.size h' (H.cons E (size_ok X eT hn0) ⟨cell, hc1, B⟩) hc hl T' _ X' eT' N
  exact ⟨s₂, o, st s₂ h1, r⟩
/-! ### arrays -/
def Aa (Z : State) (ty : FieldType) (vs : List Value) (cell : Cell) : Prop := Z.isArrayOf cell ty ∧ cell.vm ≠ .unknown ∧ cell.slots = vs.toArray ∧ vs.length < 2 ^ 31
abbrev Ia (Z : State) (xs : List Int32) : Cell → Prop := Aa Z .int (xs.map Value.int)
abbrev La (Z : State) (xs : List Int64) : Cell → Prop := Aa Z .long (xs.map Value.long)
variable {ty : FieldType} {xs : List Int32} {ys : List Int64} {x z : Int32} {y : Int64}
theorem inb (hn : ¬ z < 0) (hv : vs[z.toNatClampNeg]? = some v) {cell : Cell} (e : cell.slots = vs.toArray) : ¬ (z < 0 ∨ cell.slots.size ≤ z.toNatClampNeg) := by
  intro q
  have := (List.getElem?_eq_some_iff.mp hv).1
  rcases q with q | q
  · exact hn q
  · rw [e] at q; simp at q; omega
theorem G.alen (K : Ok k Z n0 own R bytes maxL ret nm) (H : Hp n0 h σ) (hi : σ[i]? = some (a, Aa Z ty vs)) (d : Dc bytes pc .arraylength 1 pc') (z : Int32) (hz : Int32.ofNat vs.length = z) (g : G k n0 Q h cells slots pc' Ls (.int z :: St)) : G k n0 Q h cells slots pc Ls (.ref a :: St) := by
  obtain ⟨p, l, e, R', s, m, args, below, meth, c⟩ := k
  obtain ⟨hx, hZ, hown, rfl, rfl, rfl, rfl, hlk, rfl, hn0⟩ := K
  obtain ⟨d, rfl⟩ := d
  obtain ⟨-, cell, h1, h2, h3, h4, h5⟩ := H.at hi
  refine G.moved (fun T locs X eT => ⟨T, X, eT, fun t q => ?_⟩) g
  refine X.arraylength hx (by rw [eT]; exact h1) (State.isArrayOf_alike hZ.alike h2) (g := mkF m pc ⟨Ls⟩ (.ref a :: St)) rfl rfl d t ?_
  have : cell.slots.size.toInt32 = z := by rw [h4, ← hz]; simp [Nat.toInt32]
  rw [this]; exact q
theorem G.aload_i (K : Ok k Z n0 own R bytes maxL ret nm) (H : Hp n0 h σ) (hi : σ[i]? = some (a, Ia Z xs)) (hn : ¬ z < 0) (hv : xs[z.toNatClampNeg]? = some x) (d : Dc bytes pc .iaload 1 pc') (g : G k n0 Q h cells slots pc' Ls (.int x :: St)) : G k n0 Q h cells slots pc Ls (.int z :: .ref a :: St) := by
  obtain ⟨p, l, e, R', s, m, args, below, meth, c⟩ := k
  obtain ⟨hx, hZ, hown, rfl, rfl, rfl, rfl, hlk, rfl, hn0⟩ := K
  obtain ⟨d, rfl⟩ := d
  obtain ⟨-, cell, h1, h2, h3, h4, h5⟩ := H.at hi
  have hv' : (xs.map Value.int)[z.toNatClampNeg]? = some (.int x) := by simp [hv]
  exact G.moved (fun T locs X eT => ⟨T, X, eT, fun t q => X.iaload hx (by rw [eT]; exact h1) (State.isArrayOf_alike hZ.alike h2) h3 (inb hn hv' h4) (v := .int x) (by rw [h4]; simpa using hv') (g := mkF m pc ⟨Ls⟩ (.int z :: .ref a :: St)) rfl rfl d t q⟩) g
theorem G.aload_l (K : Ok k Z n0 own R bytes maxL ret nm) (H : Hp n0 h σ) (hi : σ[i]? = some (a, La Z ys)) (hn : ¬ z < 0) (hv : ys[z.toNatClampNeg]? = some y) (d : Dc bytes pc .laload 1 pc') (g : G k n0 Q h cells slots pc' Ls (.long y :: St)) : G k n0 Q h cells slots pc Ls (.int z :: .ref a :: St) := by
  obtain ⟨p, l, e, R', s, m, args, below, meth, c⟩ := k
  obtain ⟨hx, hZ, hown, rfl, rfl, rfl, rfl, hlk, rfl, hn0⟩ := K
  obtain ⟨d, rfl⟩ := d
  obtain ⟨-, cell, h1, h2, h3, h4, h5⟩ := H.at hi
  have hv' : (ys.map Value.long)[z.toNatClampNeg]? = some (.long y) := by simp [hv]
  exact G.moved (fun T locs X eT => ⟨T, X, eT, fun t q => X.laload hx (by rw [eT]; exact h1) (State.isArrayOf_alike hZ.alike h2) h3 (inb hn hv' h4) (v := .long y) (by rw [h4]; simpa using hv') (g := mkF m pc ⟨Ls⟩ (.int z :: .ref a :: St)) rfl rfl d t q⟩) g
theorem Aa.set {i : Nat} {v : Value} {cell : Cell} (A : Aa Z ty vs cell) : Aa Z ty (vs.set i v) (cell.setSlot i v) := by
  obtain ⟨h2, h3, h4, h5⟩ := A
  exact ⟨h2, h3, by simp [Cell.setSlot, h4], by simpa using h5⟩
theorem G.astore_i (K : Ok k Z n0 own R bytes maxL ret nm) (H : Hp n0 h σ) (hi : σ[i]? = some (a, Ia Z xs)) (hn : ¬ z < 0) (hv : z.toNatClampNeg < xs.length) (d : Dc bytes pc .iastore 1 pc') (g : ∀ h', Hp n0 h' (σ.set i (a, Ia Z (xs.set z.toNatClampNeg x))) → G k n0 Q h' cells slots pc' Ls St) : G k n0 Q h cells slots pc Ls (.int x :: .int z :: .ref a :: St) := by
  obtain ⟨p, l, e, R', s, m, args, below, meth, c⟩ := k
  obtain ⟨hx, hZ, hown, rfl, rfl, rfl, rfl, hlk, rfl, hn0⟩ := K
  obtain ⟨d, rfl⟩ := d
  obtain ⟨ge, cell, h1, h2, h3, h4, h5⟩ := H.at hi
  have hv' : (xs.map Value.int)[z.toNatClampNeg]? = some (.int xs[z.toNatClampNeg]) := by simp [hv]
  intro hc hs T locs X eT N
  obtain ⟨T', h', X', eT', W, st⟩ := RoadKit.stI X hx hZ eT ⟨h1, h2, h3⟩ (inb hn hv' h4) (g := mkF m pc ⟨Ls⟩ (.int x :: .int z :: .ref a :: St)) rfl rfl d
  have H' : Hp n0 h' (σ.set i (a, Ia Z (xs.set z.toNatClampNeg x))) := H.wr hi W fun cell B => by
    have := Aa.set (i := z.toNatClampNeg) (v := .int x) B
    rw [← List.map_set] at this; exact this
  obtain ⟨s₂, o, q1, r⟩ := g h' H' hc hs T' _ X' eT' (Fr.snoc X' N ge)
  exact ⟨s₂, o, st s₂ q1, r⟩
theorem G.astore_l (K : Ok k Z n0 own R bytes maxL ret nm) (H : Hp n0 h σ) (hi : σ[i]? = some (a, La Z ys)) (hn : ¬ z < 0) (hv : z.toNatClampNeg < ys.length) (d : Dc bytes pc .lastore 1 pc') (g : ∀ h', Hp n0 h' (σ.set i (a, La Z (ys.set z.toNatClampNeg y))) → G k n0 Q h' cells slots pc' Ls St) : G k n0 Q h cells slots pc Ls (.long y :: .int z :: .ref a :: St) := by
  obtain ⟨p, l, e, R', s, m, args, below, meth, c⟩ := k
  obtain ⟨hx, hZ, hown, rfl, rfl, rfl, rfl, hlk, rfl, hn0⟩ := K
  obtain ⟨d, rfl⟩ := d
  obtain ⟨ge, cell, h1, h2, h3, h4, h5⟩ := H.at hi
  have hv' : (ys.map Value.long)[z.toNatClampNeg]? = some (.long ys[z.toNatClampNeg]) := by simp [hv]
  intro hc hs T locs X eT N
  obtain ⟨T', h', X', eT', W, st⟩ := RoadKit.stJ X hx hZ eT ⟨h1, h2, h3⟩ (inb hn hv' h4) (g := mkF m pc ⟨Ls⟩ (.long y :: .int z :: .ref a :: St)) rfl rfl d
  have H' : Hp n0 h' (σ.set i (a, La Z (ys.set z.toNatClampNeg y))) := H.wr hi W fun cell B => by
    have := Aa.set (i := z.toNatClampNeg) (v := .long y) B
    rw [← List.map_set] at this; exact this
  obtain ⟨s₂, o, q1, r⟩ := g h' H' hc hs T' _ X' eT' (Fr.snoc X' N ge)
  exact ⟨s₂, o, st s₂ q1, r⟩
theorem G.newarr (K : Ok k Z n0 own R bytes maxL ret nm) {aty : ArrayType} (w : (Cond.arrayClass (newarray.typeOf aty)).before a0 Z = true) (H : Hp n0 h σ) (hn : ¬ z < 0) (cap : Nat) (hcap : z.toNatClampNeg ≤ cap) (hb : cap * 8 ≤ 536870912) (hc : cells + 1 ≤ R.cells) (hl : slots + cap ≤ R.slots) (d : Dc bytes pc (.newarray aty) 2 pc')
    (g : ∀ a h', Hp n0 h' ((a, Aa Z (newarray.typeOf aty) (List.replicate z.toNatClampNeg (defaultValue (newarray.typeOf aty)))) :: σ) → G k n0 Q h' (cells + 1) (slots + cap) pc' Ls (.ref a :: St)) : G k n0 Q h cells slots pc Ls (.int z :: St) := by
  obtain ⟨p, l, e, R', s, m, args, below, meth, c⟩ := k
  obtain ⟨hx, hZ, hown, rfl, rfl, rfl, rfl, hlk, rfl, hn0⟩ := K
  obtain ⟨d, rfl⟩ := d
  intro _ _ T locs X eT N
  obtain ⟨T', h', cA, X', eT', E, A, st⟩ := RoadKit.newP X hx hZ w eT (g := mkF m pc ⟨Ls⟩ (.int z :: St)) rfl d rfl hn hcap hb hc hl
  have B : Aa Z (newarray.typeOf aty) (List.replicate z.toNatClampNeg (defaultValue (newarray.typeOf aty))) (newA cA (newarray.typeOf aty) z) :=
    ⟨A.2.1, A.2.2, by simp [newA], by rw [List.length_replicate]; exact (back32 hn).2⟩
  obtain ⟨s₂, o, h1, r⟩ := g h.size h' (H.cons E (size_ok X eT hn0) ⟨_, A.1, B⟩) hc hl T' _ X' eT' N
  exact ⟨s₂, o, st s₂ h1, r⟩
theorem G.newarr_i (K : Ok k Z n0 own R bytes maxL ret nm) (w : (Cond.arrayClass .int).before a0 Z = true) (H : Hp n0 h σ) (hn : ¬ z < 0) (cap : Nat) (hcap : z.toNatClampNeg ≤ cap) (hb : cap * 8 ≤ 536870912) (hc : cells + 1 ≤ R.cells) (hl : slots + cap ≤ R.slots) (d : Dc bytes pc (.newarray .int) 2 pc')
    (g : ∀ a h', Hp n0 h' ((a, Ia Z (List.replicate z.toNatClampNeg 0)) :: σ) → G k n0 Q h' (cells + 1) (slots + cap) pc' Ls (.ref a :: St)) : G k n0 Q h cells slots pc Ls (.int z :: St) :=
  G.newarr K (aty := .int) w H hn cap hcap hb hc hl d fun a h' H' => g a h' (by show Hp n0 h' ((a, Aa Z .int ((List.replicate z.toNatClampNeg (0 : Int32)).map Value.int)) :: σ); rw [List.map_replicate]; exact H')
theorem G.newarr_l (K : Ok k Z n0 own R bytes maxL ret nm) (w : (Cond.arrayClass .long).before a0 Z = true) (H : Hp n0 h σ) (hn : ¬ z < 0) (cap : Nat) (hcap : z.toNatClampNeg ≤ cap) (hb : cap * 8 ≤ 536870912) (hc : cells + 1 ≤ R.cells) (hl : slots + cap ≤ R.slots) (d : Dc bytes pc (.newarray .long) 2 pc')
    (g : ∀ a h', Hp n0 h' ((a, La Z (List.replicate z.toNatClampNeg 0)) :: σ) → G k n0 Q h' (cells + 1) (slots + cap) pc' Ls (.ref a :: St)) : G k n0 Q h cells slots pc Ls (.int z :: St) :=
  G.newarr K (aty := .long) w H hn cap hcap hb hc hl d fun a h' H' => g a h' (by show Hp n0 h' ((a, Aa Z .long ((List.replicate z.toNatClampNeg (0 : Int64)).map Value.long)) :: σ); rw [List.map_replicate]; exact H')
/-! ### calls -/
/-- a body's contract: called on these arguments at this heap it returns, and Q holds -/
def Ct (l : Launch) (Z : State) (n0 : Nat) (yy : MethodName) (bytes : ByteArray) (maxL : Nat) (ret : Option FieldType) (rm : Room) (as : List Value) (h : Heap) (Q : Option Value → Heap → Prop) : Prop :=
  n0 ≤ h.size → ∀ ws, MetFree l yy (head1 (Cond.code yy bytes maxL ret :: ws) rm) (fun a U => a = as.toArray ∧ Z.Warmed39 U.vm ∧ U.heap = h) (fun _ _ _ _ _ => True)
    (fun _ U o U' => ∃ v L, o = .returned v ∧ (Q v U'.heap ∧ Fr n0 L) ∧ FrameEnd U o U' L rm.cells rm.slots)
variable {l : Launch} {yy : MethodName} {rm : Room} {as : List Value}
theorem Ct.post {Q' : Option Value → Heap → Prop} (c : Ct l Z n0 yy bytes maxL ret rm as h Q) (q : ∀ v h', Q v h' → Q' v h') : Ct l Z n0 yy bytes maxL ret rm as h Q' := by
  intro hn ws p e a1 a2 a3 s m args below a4 a5 a6 a7
  obtain ⟨n, o, h1, h2, h3, v, L, h4, ⟨h5, h6⟩, h7⟩ := c hn ws p e a1 a2 a3 s m args below a4 a5 a6 a7
  exact ⟨n, o, h1, h2, h3, v, L, h4, ⟨q _ _ h5, h6⟩, h7⟩
theorem Ct.intro (hp : plainFor yy = true) (Ls : List Slot) (hE : ∀ m, entryFrame m as.toArray maxL = mkF m 0 ⟨Ls⟩ [])
    (body : ∀ k : Cx, k.2.1 = l → Ok k Z n0 yy.cls rm bytes maxL ret yy.name → G k n0 Q h 0 0 0 Ls []) : Ct l Z n0 yy bytes maxL ret rm as h Q := by
  intro hn0 ws
  refine MetFree.of_bodySF hp hisR ?_
  intro p e s m args below meth c s₁ Bd hml0 hP hK
  obtain ⟨rfl, hZ, hh⟩ := hP
  have X0 : Stand p l e rm s m as.toArray below meth c s₁ [] 0 0 := Stand.of_body Bd
  have e0 : s₁.heap = h := by rw [← hh, Bd.state]; rfl
  have g := body (p, l, e, rm, s, m, as.toArray, below, meth, c) rfl ⟨Bd.exec, hZ, findClass_of_methodNamed Bd.named, rfl, Bd.bytes, hml0, Bd.returns, Bd.notSynchronized, (name_of_methodNamed Bd.named Bd.method).1, by show n0 ≤ s.heap.size; rw [hh]; exact hn0⟩ (Nat.zero_le _) (Nat.zero_le _) s₁ [] X0 e0 (Fr.nil n0)
  obtain ⟨s₂, o, h1, r⟩ := g
  exact ⟨s₂, o, castTop (hE m) h1, r⟩
theorem G.callS (K : Ok k Z n0 own R bytes maxL ret nm) (hl : k.2.1 = l) {idx : Nat} {by' : ByteArray} {ml : Nat} {rt : Option FieldType} {ps : List FieldType} {Q' : Option Value → Heap → Prop}
    (w1 : (Cond.methodLink own idx yy).before a0 Z = true) (w2 : (Cond.static yy).before a0 Z = true) (w3 : (Cond.initialized yy.cls).before a0 Z = true) (w4 : (Cond.code yy by' ml rt).before a0 Z = true)
    (hy : yy.cls ≠ "java/lang/invoke/MethodHandle" ∧ yy.cls ≠ "java/lang/invoke/VarHandle") (pd : parseMethodDescriptor yy.desc = some ⟨ps, rt⟩) (c : Ct l Z n0 yy by' ml rt rm as h Q') (W : Nat) (hW : (St.map fun v => v.category).sum = W)
    (hfr : rm.frames + 1 ≤ R.frames) (hlo : W + (ml + 11) + rm.locals ≤ R.locals) (hce : cells + rm.cells ≤ R.cells) (hsl : slots + rm.slots ≤ R.slots) (hps : as.length = ps.length) (hsz : Ls.length = maxL) (ar : List Value) (har : as.reverse = ar) (d : Dc bytes pc (.invokestatic idx) 3 pc')
    (g : ∀ v h', Q' v h' → G k n0 Q h' (cells + rm.cells) (slots + rm.slots) pc' Ls (v.toList ++ St)) : G k n0 Q h cells slots pc Ls (ar ++ St) := by
  obtain ⟨p, l, e, R', s, m, args, below, meth, c⟩ := k
  obtain ⟨hx, hZ, hown, rfl, rfl, rfl, rfl, hlk, rfl, hn0⟩ := K
  obtain ⟨d, rfl⟩ := d
  subst hl
  subst har
  intro _ _ T locs X eT N
  have hn1 : n0 ≤ h.size := size_ok X eT hn0
  obtain ⟨v, _, ⟨T', L', k', n'⟩, -, X', ⟨Lc, ⟨hQ, hF⟩, e1, e2, e3⟩, st⟩ := Jvm.LawKit.callS X hx (y := yy) hown (mvT hZ w1) (mvT hZ w2) (mvT hZ w3) (mvT hZ w4) hy (backOf (W := W) (Q := fun v h' L => Q' v h' ∧ Fr n0 L) (c hn1 []) hZ w4 w3 hfr hlo) (g := mkF m pc ⟨Ls⟩ (as.reverse ++ St)) rfl (by simpa using hsz) (argsL := as) (rest := St) (lenOf pd hps) rfl (by show 2 * 0 + _ ≤ _; omega) d (fun _ _ => ⟨rfl, eT, hce, hsl⟩)
  dsimp only [Pt.U, Pt.locs, Pt.cells, Pt.slots] at X' e1 e2 e3 st hQ
  subst e1 e2 e3
  obtain ⟨s₂, o, h1, r⟩ := g v T'.heap hQ hce hsl T' _ X' rfl (Fr.app N hF)
  exact ⟨s₂, o, st _ h1, r⟩
theorem G.callI (K : Ok k Z n0 own R bytes maxL ret nm) (hl : k.2.1 = l) {idx : Nat} {by' : ByteArray} {ml : Nat} {ps : List FieldType} {Q' : Option Value → Heap → Prop} (hi : yy.name = "<init>")
    (w1 : (Cond.methodLink own idx yy).before a0 Z = true) (w2 : (Cond.instanceMethod yy).before a0 Z = true) (w3 : (Cond.initialized yy.cls).before a0 Z = true) (w4 : (Cond.code yy by' ml none).before a0 Z = true)
    (hy : yy.cls ≠ "java/lang/invoke/MethodHandle" ∧ yy.cls ≠ "java/lang/invoke/VarHandle") (pd : parseMethodDescriptor yy.desc = some ⟨ps, none⟩) {a : Addr} (c : Ct l Z n0 yy by' ml none rm (.ref a :: as) h Q') (W : Nat) (hW : (St.map fun v => v.category).sum = W)
    (hfr : rm.frames + 1 ≤ R.frames) (hlo : W + (ml + 11) + rm.locals ≤ R.locals) (hce : cells + rm.cells ≤ R.cells) (hsl : slots + rm.slots ≤ R.slots) (hps : as.length = ps.length) (hsz : Ls.length = maxL) (ar : List Value) (har : as.reverse = ar) (d : Dc bytes pc (.invokespecial idx) 3 pc')
    (g : ∀ v h', Q' v h' → G k n0 Q h' (cells + rm.cells) (slots + rm.slots) pc' Ls (v.toList ++ St)) : G k n0 Q h cells slots pc Ls (ar ++ .ref a :: St) := by
  obtain ⟨p, l, e, R', s, m, args, below, meth, c⟩ := k
  obtain ⟨hx, hZ, hown, rfl, rfl, rfl, rfl, hlk, rfl, hn0⟩ := K
  obtain ⟨d, rfl⟩ := d
  subst hl
  subst har
  intro _ _ T locs X eT N
  have hn1 : n0 ≤ h.size := size_ok X eT hn0
  obtain ⟨v, _, ⟨T', L', k', n'⟩, -, X', ⟨Lc, ⟨hQ, hF⟩, e1, e2, e3⟩, st⟩ := X.specialBack hx (y := yy) hi hown (mvT hZ w1) (mvT hZ w2) (mvT hZ w4) hy (backOf (W := W) (Q := fun v h' L => Q' v h' ∧ Fr n0 L) (c hn1 []) hZ w4 w3 hfr hlo) (g := mkF m pc ⟨Ls⟩ (as.reverse ++ .ref a :: St)) rfl (by simpa using hsz) (Steps.refl _) (a := a) (argsL := as) (rest := St) (lenOf pd hps) rfl (by show 2 * 0 + _ ≤ _; omega) d (fun _ _ => ⟨rfl, eT, hce, hsl⟩)
  dsimp only [Pt.U, Pt.locs, Pt.cells, Pt.slots] at X' e1 e2 e3 st hQ
  subst e1 e2 e3
  obtain ⟨s₂, o, h1, r⟩ := g v T'.heap hQ hce hsl T' _ X' rfl (Fr.app N hF)
  exact ⟨s₂, o, st.trans h1, r⟩
theorem G.callV (K : Ok k Z n0 own R bytes maxL ret nm) (hl : k.2.1 = l) {idx : Nat} {by' : ByteArray} {ml : Nat} {rt : Option FieldType} {ps : List FieldType} {Q' : Option Value → Heap → Prop} {C : String}
    (w1 : (Cond.methodLink own idx yy).before a0 Z = true) (wd : (Cond.declares yy).before a0 Z = true) (ws : (Cond.selects C yy yy).before a0 Z = true) (w2 : (Cond.instanceMethod yy).before a0 Z = true) (w3 : (Cond.initialized yy.cls).before a0 Z = true) (w4 : (Cond.code yy by' ml rt).before a0 Z = true)
    (hy : yy.cls ≠ "java/lang/invoke/MethodHandle" ∧ yy.cls ≠ "java/lang/invoke/VarHandle") (pd : parseMethodDescriptor yy.desc = some ⟨ps, rt⟩) {a : Addr} (E : Exa Z h a C) (c : Ct l Z n0 yy by' ml rt rm (.ref a :: as) h Q') (W : Nat) (hW : (St.map fun v => v.category).sum = W)
    (hfr : rm.frames + 1 ≤ R.frames) (hlo : W + (ml + 11) + rm.locals ≤ R.locals) (hce : cells + rm.cells ≤ R.cells) (hsl : slots + rm.slots ≤ R.slots) (hps : as.length = ps.length) (hsz : Ls.length = maxL) (ar : List Value) (har : as.reverse = ar) (d : Dc bytes pc (.invokevirtual idx) 3 pc')
    (g : ∀ v h', Q' v h' → G k n0 Q h' (cells + rm.cells) (slots + rm.slots) pc' Ls (v.toList ++ St)) : G k n0 Q h cells slots pc Ls (ar ++ .ref a :: St) := by
  obtain ⟨p, l, e, R', s, m, args, below, meth, c⟩ := k
  obtain ⟨hx, hZ, hown, rfl, rfl, rfl, rfl, hlk, rfl, hn0⟩ := K
  obtain ⟨d, rfl⟩ := d
  subst hl
  subst har
  intro _ _ T locs X eT N
  have hn1 : n0 ≤ h.size := size_ok X eT hn0
  obtain ⟨cq, kq, qa, qb, qc⟩ := isOf hZ eT E
  obtain ⟨v, _, ⟨T', L', k', n'⟩, -, X', ⟨Lc, ⟨hQ, hF⟩, e1, e2, e3⟩, st⟩ := X.virtualBack hx (y := yy) (z := yy) hown (mvT hZ w1) (mvT hZ wd) (notFace_of_selects (args := #[]) (mvT hZ ws)) (mvT hZ ws) (mvT hZ w2) hy (backOf (W := W) (Q := fun v h' L => Q' v h' ∧ Fr n0 L) (c hn1 []) hZ w4 w3 hfr hlo) qa qc (g := mkF m pc ⟨Ls⟩ (as.reverse ++ .ref a :: St)) rfl (by simpa using hsz) (Steps.refl _) (argsL := as) (rest := St) (lenOf pd hps) rfl (by show 2 * 0 + _ ≤ _; omega) d (fun _ _ => ⟨rfl, eT, hce, hsl⟩)
  dsimp only [Pt.U, Pt.locs, Pt.cells, Pt.slots] at X' e1 e2 e3 st hQ
  subst e1 e2 e3
  obtain ⟨s₂, o, h1, r⟩ := g v T'.heap hQ hce hsl T' _ X' rfl (Fr.app N hF)
  exact ⟨s₂, o, st.trans h1, r⟩
theorem G.callP (K : Ok k Z n0 own R bytes maxL ret nm) (hl : k.2.1 = l) {idx kk : Nat} {by' : ByteArray} {ml : Nat} {rt : Option FieldType} {ps : List FieldType} {Q' : Option Value → Heap → Prop}
    (w1 : (Cond.methodLink own idx yy).before a0 Z = true) (wp : (Cond.privateMethod yy).before a0 Z = true) (wi : (Cond.instantiable yy.cls kk).before a0 Z = true) (w2 : (Cond.instanceMethod yy).before a0 Z = true) (w3 : (Cond.initialized yy.cls).before a0 Z = true) (w4 : (Cond.code yy by' ml rt).before a0 Z = true)
    (hy : yy.cls ≠ "java/lang/invoke/MethodHandle" ∧ yy.cls ≠ "java/lang/invoke/VarHandle") (pd : parseMethodDescriptor yy.desc = some ⟨ps, rt⟩) {a : Addr} {C : String} (E : Exa Z h a C) (c : Ct l Z n0 yy by' ml rt rm (.ref a :: as) h Q') (W : Nat) (hW : (St.map fun v => v.category).sum = W)
    (hfr : rm.frames + 1 ≤ R.frames) (hlo : W + (ml + 11) + rm.locals ≤ R.locals) (hce : cells + rm.cells ≤ R.cells) (hsl : slots + rm.slots ≤ R.slots) (hps : as.length = ps.length) (hsz : Ls.length = maxL) (ar : List Value) (har : as.reverse = ar) (d : Dc bytes pc (.invokevirtual idx) 3 pc')
    (g : ∀ v h', Q' v h' → G k n0 Q h' (cells + rm.cells) (slots + rm.slots) pc' Ls (v.toList ++ St)) : G k n0 Q h cells slots pc Ls (ar ++ .ref a :: St) := by
  obtain ⟨p, l, e, R', s, m, args, below, meth, c⟩ := k
  obtain ⟨hx, hZ, hown, rfl, rfl, rfl, rfl, hlk, rfl, hn0⟩ := K
  obtain ⟨d, rfl⟩ := d
  subst hl
  subst har
  intro _ _ T locs X eT N
  have hn1 : n0 ≤ h.size := size_ok X eT hn0
  obtain ⟨cq, q, q'⟩ := E.cell
  have hpriv : s.PrivateAt yy := Cond.privateMethod_at (mvP hZ wp (args := #[]))
  obtain ⟨c2, k2, i1, i2, -, i4, -⟩ := Cond.instantiable_spec (mvT hZ wi (args := args))
  have hsel : (Cond.selects yy.cls yy yy).before args s = true := selects_self_of_private i1 i2 (by cases hh : k2.isInterface <;> simp_all) hpriv (mvT hZ w2) hy
  obtain ⟨v, _, ⟨T', L', k', n'⟩, -, X', ⟨Lc, ⟨hQ, hF⟩, e1, e2, e3⟩, st⟩ := X.privateBack hx (y := yy) hown (mvT hZ w1) (mvT hZ w2) hsel hpriv (mvT hZ w4) hy (backOf (W := W) (Q := fun v h' L => Q' v h' ∧ Fr n0 L) (c hn1 []) hZ w4 w3 hfr hlo) (g := mkF m pc ⟨Ls⟩ (as.reverse ++ .ref a :: St)) rfl (by simpa using hsz) (Steps.refl _) (a := a) (by rw [eT]; exact q) q' (argsL := as) (rest := St) (lenOf pd hps) rfl (by show 2 * 0 + _ ≤ _; omega) d (fun _ _ => ⟨rfl, eT, hce, hsl⟩)
  dsimp only [Pt.U, Pt.locs, Pt.cells, Pt.slots] at X' e1 e2 e3 st hQ
  subst e1 e2 e3
  obtain ⟨s₂, o, h1, r⟩ := g v T'.heap hQ hce hsl T' _ X' rfl (Fr.app N hF)
  exact ⟨s₂, o, st.trans h1, r⟩
theorem G.initO (K : Ok k Z n0 own R bytes maxL ret nm) {idx : Nat} (w1 : (Cond.methodLink own idx Lib.objectInit).before a0 Z = true) (w2 : (Cond.instanceMethod Lib.objectInit).before a0 Z = true) (w3 : (Cond.code Lib.objectInit ⟨#[0xb1]⟩ 1 none).before a0 Z = true) {a : Addr}
    (hsz : Ls.length = maxL) (W : Nat) (hW : (St.map fun v => v.category).sum = W) (hfr : 1 ≤ R.frames) (hlo : W + 12 ≤ R.locals) (d : Dc bytes pc (.invokespecial idx) 3 pc') (g : G k n0 Q h cells slots pc' Ls St) : G k n0 Q h cells slots pc Ls (.ref a :: St) := by
  obtain ⟨p, l, e, R', s, m, args, below, meth, c⟩ := k
  obtain ⟨hx, hZ, hown, rfl, rfl, rfl, rfl, hlk, rfl, hn0⟩ := K
  obtain ⟨d, rfl⟩ := d
  exact G.moved (fun T locs X eT => RoadKit.initO X hx hZ hown w1 w2 w3 eT (g := mkF m pc ⟨Ls⟩ (.ref a :: St)) rfl (by simpa using hsz) rfl d hfr (W := W) (by show 2 * 0 + _ ≤ _; omega) hlo) g
/-! ### arrays of references -/
def Ra (Z : State) (C : String) (vs : List Value) (cell : Cell) : Prop := Aa Z (.object C) vs cell ∧ Ovr Z cell.cls C
theorem G.anewarr (K : Ok k Z n0 own R bytes maxL ret nm) {idx : Nat} (w1 : (Cond.classLink own idx C).before a0 Z = true) (w2 : (Cond.arrayOver (.object C)).before a0 Z = true) (H : Hp n0 h σ) (hn : ¬ z < 0) (cap : Nat) (hcap : z.toNatClampNeg ≤ cap) (hb : cap * 8 ≤ 536870912) (hc : cells + 1 ≤ R.cells) (hl : slots + cap ≤ R.slots) (d : Dc bytes pc (.anewarray idx) 3 pc')
    (g : ∀ a h', Hp n0 h' ((a, Ra Z C (List.replicate z.toNatClampNeg .null)) :: σ) → G k n0 Q h' (cells + 1) (slots + cap) pc' Ls (.ref a :: St)) : G k n0 Q h cells slots pc Ls (.int z :: St) := by
  obtain ⟨p, l, e, R', s, m, args, below, meth, c⟩ := k
  obtain ⟨hx, hZ, hown, rfl, rfl, rfl, rfl, hlk, rfl, hn0⟩ := K
  obtain ⟨d, rfl⟩ := d
  intro _ _ T locs X eT N
  obtain ⟨T', h', cA, X', eT', E, A, O, st⟩ := RoadKit.newR X hx hZ hown w1 w2 eT (g := mkF m pc ⟨Ls⟩ (.int z :: St)) rfl d rfl hn hcap hb hc hl
  have B : Ra Z C (List.replicate z.toNatClampNeg .null) (newA cA (.object C) z) :=
    ⟨⟨A.2.1, A.2.2, by simp [newA, defaultValue], by rw [List.length_replicate]; exact (back32 hn).2⟩, O⟩
  obtain ⟨s₂, o, h1, r⟩ := g h.size h' (H.cons E (size_ok X eT hn0) ⟨_, A.1, B⟩) hc hl T' _ X' eT' N
  exact ⟨s₂, o, st s₂ h1, r⟩
theorem G.astore_r (K : Ok k Z n0 own R bytes maxL ret nm) (H : Hp n0 h σ) (hi : σ[i]? = some (a, Ra Z C vs)) (hn : ¬ z < 0) (hv : z.toNatClampNeg < vs.length) (hw : w = .null ∨ ∃ y, w = .ref y ∧ Exa Z h y C) (d : Dc bytes pc .aastore 1 pc') (g : ∀ h', Hp n0 h' (σ.set i (a, Ra Z C (vs.set z.toNatClampNeg w))) → G k n0 Q h' cells slots pc' Ls St) : G k n0 Q h cells slots pc Ls (w :: .int z :: .ref a :: St) := by
  obtain ⟨p, l, e, R', s, m, args, below, meth, c⟩ := k
  obtain ⟨hx, hZ, hown, rfl, rfl, rfl, rfl, hlk, rfl, hn0⟩ := K
  obtain ⟨d, rfl⟩ := d
  obtain ⟨ge, cell, h1, ⟨h2, h3, h4, h5⟩, O⟩ := H.at hi
  have hv' : vs[z.toNatClampNeg]? = some vs[z.toNatClampNeg] := by simp [hv]
  have F : Sto Z h a w := by
    rcases hw with rfl | ⟨y, rfl, E⟩
    · exact Or.inl rfl
    · exact Sto.of ⟨h1, h2, h3⟩ O (Ins.self E)
  intro hc hs T locs X eT N
  obtain ⟨T', h', X', eT', W, st⟩ := RoadKit.stR X hx hZ eT ⟨h1, h2, h3⟩ (inb hn hv' h4) rfl F (g := mkF m pc ⟨Ls⟩ (w :: .int z :: .ref a :: St)) rfl rfl d
  have H' : Hp n0 h' (σ.set i (a, Ra Z C (vs.set z.toNatClampNeg w))) := H.wr hi W fun cell B => ⟨Aa.set B.1, B.2⟩
  obtain ⟨s₂, o, q1, r⟩ := g h' H' hc hs T' _ X' eT' (Fr.snoc X' N ge)
  exact ⟨s₂, o, st s₂ q1, r⟩
theorem G.aload_r (K : Ok k Z n0 own R bytes maxL ret nm) (H : Hp n0 h σ) (hi : σ[i]? = some (a, Ra Z C vs)) (hn : ¬ z < 0) (hv : vs[z.toNatClampNeg]? = some v) (d : Dc bytes pc .aaload 1 pc') (g : G k n0 Q h cells slots pc' Ls (v :: St)) : G k n0 Q h cells slots pc Ls (.int z :: .ref a :: St) := by
  obtain ⟨p, l, e, R', s, m, args, below, meth, c⟩ := k
  obtain ⟨hx, hZ, hown, rfl, rfl, rfl, rfl, hlk, rfl, hn0⟩ := K
  obtain ⟨d, rfl⟩ := d
  obtain ⟨-, cell, h1, ⟨h2, h3, h4, h5⟩, O⟩ := H.at hi
  exact G.moved (fun T locs X eT => ⟨T, X, eT, fun t q => X.aaload hx (by rw [eT]; exact h1) (State.isArrayOf_alike hZ.alike h2) rfl h3 (inb hn hv h4) (v := v) (by rw [h4]; simpa using hv) (g := mkF m pc ⟨Ls⟩ (.int z :: .ref a :: St)) rfl rfl d t q⟩) g
theorem G.alen_r (K : Ok k Z n0 own R bytes maxL ret nm) (H : Hp n0 h σ) (hi : σ[i]? = some (a, Ra Z C vs)) (d : Dc bytes pc .arraylength 1 pc') (z : Int32) (hz : Int32.ofNat vs.length = z) (g : G k n0 Q h cells slots pc' Ls (.int z :: St)) : G k n0 Q h cells slots pc Ls (.ref a :: St) := by
  obtain ⟨-, cell, h1, h2⟩ := H.at hi
  exact G.alen K (H.imp hi fun _ B => B.1) (i := i) (ty := .object C) (vs := vs) (by rw [List.getElem?_set_self (List.getElem?_eq_some_iff.mp hi).1]) d z hz g
/-! ### System.arraycopy -/
def cpy {α : Type} (xs ys : List α) (sp dp n : Nat) : List α := ys.take dp ++ (xs.drop sp).take n ++ ys.drop (dp + n)
theorem cpy_map {α β : Type} (f : α → β) (xs ys : List α) (sp dp n : Nat) : cpy (xs.map f) (ys.map f) sp dp n = (cpy xs ys sp dp n).map f := by simp [cpy, List.map_take, List.map_drop]
theorem G.acopy (K : Ok k Z n0 own R bytes maxL ret nm) {idx : Nat} (w1 : (Cond.methodLink own idx acN).before a0 Z = true) (w2 : (Cond.native acN).before a0 Z = true) (w3 : (Cond.static acN).before a0 Z = true) (w4 : (Cond.initialized "java/lang/System").before a0 Z = true)
    (H : Hp n0 h σ) {i' : Nat} {b : Addr} {ws : List Value} (hi : σ[i]? = some (a, Aa Z ty vs)) (hi' : σ[i']? = some (b, Aa Z ty ws)) (hty : refKind ty = false) (hall : ∀ v ∈ vs, fits ty v = true ∧ ∀ (U : State) (cp : ClassId), U.takes cp v)
    {sp dp n : Int32} (h1 : ¬ sp < 0) (h2 : ¬ dp < 0) (h3 : ¬ n < 0) (h4 : sp.toNatClampNeg + n.toNatClampNeg ≤ vs.length) (h5 : dp.toNatClampNeg + n.toNatClampNeg ≤ ws.length)
    (hsz : Ls.length = maxL) (W : Nat) (hW : (St.map fun v => v.category).sum = W) (hfr : 1 ≤ R.frames) (hlo : W + (nativeFrameWords "java/lang/System" "arraycopy" 5 + 11) ≤ R.locals) (d : Dc bytes pc (.invokestatic idx) 3 pc')
    (g : ∀ h', Hp n0 h' (σ.set i' (b, Aa Z ty (cpy vs ws sp.toNatClampNeg dp.toNatClampNeg n.toNatClampNeg))) → G k n0 Q h' cells slots pc' Ls St) : G k n0 Q h cells slots pc Ls (.int n :: .int dp :: .ref b :: .int sp :: .ref a :: St) := by
  obtain ⟨p, l, e, R', s, m, args, below, meth, c⟩ := k
  obtain ⟨hx, hZ, hown, rfl, rfl, rfl, rfl, hlk, rfl, hn0⟩ := K
  obtain ⟨d, rfl⟩ := d
  obtain ⟨-, cs, c1, c2, c3, c4, c5⟩ := H.at hi
  obtain ⟨ge, cd, d1, d2, d3, d4, d5⟩ := H.at hi'
  have c2' := c2
  have d2' := d2
  obtain ⟨cz, ks, k1, kc, k2⟩ := State.isArrayOf_alike (T := s) hZ.alike c2'
  obtain ⟨dz, kd, m1, mc, m2⟩ := State.isArrayOf_alike (T := s) hZ.alike d2'
  have e1 : ∀ {x : Int32}, ¬ x < 0 → x.toInt = x.toNatClampNeg := fun {x} q => by
    rw [Int32.lt_iff_toInt_lt] at q
    have z0 : (0 : Int32).toInt = 0 := rfl
    show x.toInt = ((x.toInt.toNat : Nat) : Int)
    omega
  intro hc hs T locs X eT N
  obtain ⟨vm₁, hW₁, X', st⟩ := X.arraycopyK hx hown (mvT hZ w1) (mvT hZ w2) (mvT hZ w3) (mvT hZ w4) (src := a) (dst := b) (srcPos := sp) (destPos := dp) (n := n) (cs := cs) (cd := cd) (by rw [eT]; exact c1) (by rw [eT]; exact d1)
    (fun q e => by have := Arr.plain (Z := Z) (h := h) (a := a) ⟨c1, c2, c3⟩; rw [e] at this; cases this) (fun q e => by have := Arr.plain (Z := Z) (h := h) (a := b) ⟨d1, d2, d3⟩; rw [e] at this; cases this) c3 d3 k1 m1 k2 m2
    (by rw [hty]; simp) h1 h2 h3 (by rw [e1 h1, e1 h3, c4]; simp; omega) (by rw [e1 h2, e1 h3, d4]; simp; omega)
    (fun vm hvm j hj => by
      have hlt : sp.toNatClampNeg + j < vs.length := by omega
      have hg : cs.slots.getD (sp.toNatClampNeg + j) .null = vs[sp.toNatClampNeg + j] := by rw [c4]; simp [hlt]
      rw [hg]
      exact ⟨(hall _ (List.getElem_mem hlt)).1, (hall _ (List.getElem_mem hlt)).2 _ _⟩)
    (g := mkF m pc ⟨Ls⟩ (.int n :: .int dp :: .ref b :: .int sp :: .ref a :: St)) rfl (by simpa using hsz) rfl d hfr (by show 2 * 0 + _ + _ ≤ _; omega)
  have hf := Cell.storeRun_facts cd dp.toNatClampNeg (cs.stretch sp.toNatClampNeg n.toNatClampNeg)
  have hlen := Cell.stretch_length cs sp.toNatClampNeg n.toNatClampNeg
  have hB : Aa Z ty (cpy vs ws sp.toNatClampNeg dp.toNatClampNeg n.toNatClampNeg) (copied cs cd sp dp n) := by
    have hll : (cpy vs ws sp.toNatClampNeg dp.toNatClampNeg n.toNatClampNeg).length = ws.length := by simp [cpy]; omega
    refine ⟨⟨by rw [hf.2.1]; exact d2.1, by rw [hf.1]; exact d2.2⟩, by rw [hf.2.1]; exact d3, ?_, by rw [hll]; exact d5⟩
    apply Array.ext_getElem?
    intro j
    rw [Cell.storeRun_get _ _ _ _ (by rw [hlen, d4]; simpa using h5), hlen, d4]
    simp only [List.getElem?_toArray]
    by_cases q : dp.toNatClampNeg ≤ j ∧ j < dp.toNatClampNeg + n.toNatClampNeg
    · rw [if_pos q]
      have hjn : j - dp.toNatClampNeg < n.toNatClampNeg := by omega
      have hlt : sp.toNatClampNeg + (j - dp.toNatClampNeg) < vs.length := by omega
      simp only [Cell.stretch, List.getElem?_map, List.getElem?_range hjn, Option.map_some, cpy]
      rw [List.append_assoc, List.getElem?_append_right (by simp; omega), List.getElem?_append_left (by simp; omega), List.getElem?_take_of_lt (by simp; omega), List.getElem?_drop, c4]
      have hm : min dp.toNatClampNeg ws.length = dp.toNatClampNeg := by omega
      simp [hm, hlt]
    · rw [if_neg q]
      unfold cpy
      by_cases q2 : j < dp.toNatClampNeg
      · rw [List.append_assoc, List.getElem?_append_left (by simp; omega), List.getElem?_take_of_lt q2]
      · rw [List.getElem?_append_right (by simp; omega), List.getElem?_drop]
        congr 1; simp; omega
  have H' : Hp n0 ((T.setVm vm₁).setCell b (copied cs cd sp dp n)).heap (σ.set i' (b, Aa Z ty (cpy vs ws sp.toNatClampNeg dp.toNatClampNeg n.toNatClampNeg))) := by
    have eh : ((T.setVm vm₁).setCell b (copied cs cd sp dp n)).heap = h.setIfInBounds b (copied cs cd sp dp n) := by rw [← eT]; rfl
    rw [eh]
    exact H.set hi' (by simp) (fun x hx => Array.getElem?_setIfInBounds_ne (Ne.symm hx)) ⟨_, Array.getElem?_setIfInBounds_self_of_lt (Array.getElem?_eq_some_iff.mp d1).1, hB⟩
  obtain ⟨s₂, o, q1, r⟩ := g _ H' hc hs _ _ X' rfl (N.app fun y hy => by rw [copyLocs_base hy]; exact ge)
  exact ⟨s₂, o, st s₂ q1, r⟩
theorem all_int (xs : List Int32) : ∀ v ∈ xs.map Value.int, fits .int v = true ∧ ∀ (U : State) (cp : ClassId), U.takes cp v := by
  intro v hv
  obtain ⟨x, -, rfl⟩ := List.mem_map.mp hv
  exact ⟨rfl, fun _ _ => trivial⟩
theorem all_long (xs : List Int64) : ∀ v ∈ xs.map Value.long, fits .long v = true ∧ ∀ (U : State) (cp : ClassId), U.takes cp v := by
  intro v hv
  obtain ⟨x, -, rfl⟩ := List.mem_map.mp hv
  exact ⟨rfl, fun _ _ => trivial⟩
end Jvm.OwnKit
namespace Jvm.Pilot.@@N@@
open Jvm Jvm.ClassFile Sem Op Lib Jvm.Free Jvm.Stand Jvm.LawKit Jvm.RoadKit Bundle Jvm.OwnKit Jvm.Pilot.@@N@@.Jvm.D
theorem wd {Z : State} {a0 : Array Value} (hw : ∀ d ∈ tables_1, d.before a0 Z = true) (i : Nat) {d : Jvm.Cond} (h : tables_1[i]? = some d) : d.before a0 Z = true := hw _ (List.mem_of_getElem? h)
theorem own_nint {i : Nat} (h : i < 2147483648) : (Int32.ofNat i).toInt = i := Int32.toInt_ofNat_of_lt (by omega)
theorem own_nlt {i n : Nat} (h : i < 2147483648) (h' : n < 2147483648) : (Int32.ofNat i < Int32.ofNat n) ↔ i < n := by
  rw [Int32.lt_iff_toInt_lt, own_nint h, own_nint h']; omega
theorem own_nle {i n : Nat} (h : i < 2147483648) (h' : n < 2147483648) : (Int32.ofNat i ≤ Int32.ofNat n) ↔ i ≤ n := by
  rw [Int32.le_iff_toInt_le, own_nint h, own_nint h']; omega
theorem own_neq {i n : Nat} (h : i < 2147483648) (h' : n < 2147483648) : (Int32.ofNat i = Int32.ofNat n) ↔ i = n := by
  rw [← Int32.toInt_inj, own_nint h, own_nint h']; omega
theorem own_nadd (i j : Nat) : Int32.ofNat i + Int32.ofNat j = Int32.ofNat (i + j) := (Int32.ofNat_add i j).symm
theorem own_nsucc (i : Nat) : Int32.ofNat i + 1 = Int32.ofNat (i + 1) := own_nadd i 1
theorem own_nidx {i : Nat} (h : i < 2147483648) : (Int32.ofNat i).toNatClampNeg = i := by
  show (Int32.ofNat i).toInt.toNat = i
  rw [own_nint h]; rfl
theorem own_nneg {i : Nat} (h : i < 2147483648) : ¬ Int32.ofNat i < 0 := by
  rw [Int32.lt_iff_toInt_lt, own_nint h]; show ¬ (i : Int) < 0; omega
theorem own_nsub {i j : Nat} (h : j ≤ i) : Int32.ofNat i - Int32.ofNat j = Int32.ofNat (i - j) := by
  have := own_nadd (i - j) j
  rw [Nat.sub_add_cancel h] at this
  rw [← this, Int32.add_sub_cancel]
theorem own_nmul (i j : Nat) : Int32.ofNat i * Int32.ofNat j = Int32.ofNat (i * j) := (Int32.ofNat_mul i j).symm
/-- a non-negative int is a natural -/
theorem own_nat (x : Int32) (h : ¬ x < 0) : ∃ n : Nat, n < 2147483648 ∧ x = Int32.ofNat n := by
  have h2 : 0 ≤ x.toInt := by rw [Int32.lt_iff_toInt_lt] at h; have : (0 : Int32).toInt = 0 := rfl; omega
  have h3 := Int32.toInt_lt x
  refine ⟨x.toInt.toNat, by omega, ?_⟩
  apply Int32.toInt_inj.mp
  rw [own_nint (by omega)]; omega
theorem own_msk (x : Int32) : ∃ n : Nat, n < 2147483648 ∧ x &&& 2147483647 = Int32.ofNat n := by
  apply own_nat
  rw [Int32.lt_iff_toInt_lt]
  have h : (x &&& 2147483647).toBitVec = x.toBitVec &&& 2147483647#32 := rfl
  have hn : (x.toBitVec &&& 2147483647#32).toNat < 2147483648 := by
    rw [BitVec.toNat_and]; exact Nat.lt_of_le_of_lt Nat.and_le_right (by decide)
  have : (x &&& 2147483647).toInt = ((x.toBitVec &&& 2147483647#32).toNat : Int) := by
    show (x &&& 2147483647).toBitVec.toInt = _
    rw [h, BitVec.toInt_eq_toNat_of_lt (by omega)]
  rw [this]; show ¬ ((_ : Nat) : Int) < 0; omega
theorem own_nmod {i n : Nat} (h : i < 2147483648) (hn : n < 2147483648) : Int32.ofNat i % Int32.ofNat n = Int32.ofNat (i % n) := by
  apply Int32.toInt_inj.mp
  have hl : i % n ≤ i := Nat.mod_le i n
  rw [Int32.toInt_mod, own_nint h, own_nint hn, own_nint (by omega)]
  exact (Int.ofNat_tmod i n).symm ▸ rfl
/-- small mask: x & (2^k - 1) -/
theorem own_and_lt (x : Int32) (m : Nat) (hm : m < 2147483648) : ∃ n : Nat, n ≤ m ∧ x &&& Int32.ofNat m = Int32.ofNat n := by
  have h : (x &&& Int32.ofNat m).toBitVec = x.toBitVec &&& BitVec.ofNat 32 m := rfl
  refine ⟨(x.toBitVec &&& BitVec.ofNat 32 m).toNat, ?_, ?_⟩
  · rw [BitVec.toNat_and]; exact Nat.le_trans Nat.and_le_right (by rw [BitVec.toNat_ofNat]; exact Nat.mod_le _ _)
  · apply Int32.toBitVec_inj.mp
    rw [h]
    show _ = BitVec.ofNat 32 _
    rw [BitVec.ofNat_toNat, BitVec.setWidth_eq]
theorem own_1add (i : Nat) : 1 + Int32.ofNat i = Int32.ofNat (i + 1) := by rw [Nat.add_comm]; exact own_nadd 1 i
theorem own_succsub (i : Nat) : Int32.ofNat (i + 1) - 1 = Int32.ofNat i := own_nsub (i := i + 1) (j := 1) (by omega)
theorem pd_0 : parseMethodDescriptor "(II)I" = some ⟨[.int, .int], some .int⟩ := by decide +kernel
theorem pd_1 : parseMethodDescriptor "(III)V" = some ⟨[.int, .int, .int], none⟩ := by decide +kernel
theorem pd_2 : parseMethodDescriptor "([II)[I" = some ⟨[(.array .int), .int], some (.array .int)⟩ := by decide +kernel
theorem pd_3 : parseMethodDescriptor "([IIII)V" = some ⟨[(.array .int), .int, .int, .int], none⟩ := by decide +kernel
theorem pd_4 : parseMethodDescriptor "()V" = some ⟨[], none⟩ := by decide +kernel
theorem pd_5 : parseMethodDescriptor "([ID)V" = some ⟨[(.array .int), .double], none⟩ := by decide +kernel
theorem pd_6 : parseMethodDescriptor "(I)I" = some ⟨[.int], some .int⟩ := by decide +kernel
theorem pd_7 : parseMethodDescriptor "(ILcom/example/rankwise/rankwise/engine/Ranked;)V" = some ⟨[.int, (.object "com/example/rankwise/rankwise/engine/Ranked")], none⟩ := by decide +kernel
def NSI : List (String × String × String) := [("com/example/rankwise/rankwise/engine/KeptItems", "items", "[Lcom/example/rankwise/rankwise/engine/Ranked;"), ("com/example/rankwise/rankwise/engine/KeptItems", "keyOf", "[I"), ("com/example/rankwise/rankwise/engine/KeptItems", "earlier", "[I"), ("com/example/rankwise/rankwise/engine/KeptItems", "later", "[I"), ("com/example/rankwise/rankwise/engine/KeptItems", "size", "I"), ("com/example/rankwise/rankwise/engine/KeptItems", "firstOf", "[I"), ("com/example/rankwise/rankwise/engine/KeptItems", "lastOf", "[I")]
theorem cf_NSI {Z : State} {a0 : Array Value} (hw : ∀ d ∈ tables_1, d.before a0 Z = true) : Cf Z a0 "com/example/rankwise/rankwise/engine/KeptItems" NSI := by
  refine ⟨fun f hf => ?_, by decide +kernel, fun f hf => ?_⟩
  · simp only [NSI, List.mem_cons, List.not_mem_nil, or_false] at hf
    rcases hf with rfl | rfl | rfl | rfl | rfl | rfl | rfl
    · exact Or.inl (wd hw 12 rfl)
    · exact Or.inl (wd hw 15 rfl)
    · exact Or.inl (wd hw 17 rfl)
    · exact Or.inl (wd hw 19 rfl)
    · exact Or.inl (wd hw 47 rfl)
    · exact Or.inl (wd hw 21 rfl)
    · exact Or.inl (wd hw 23 rfl)
  · simp only [NSI, List.mem_cons, List.not_mem_nil, or_false] at hf
    rcases hf with rfl | rfl | rfl | rfl | rfl | rfl | rfl
    · exact ⟨(.array (.object "com/example/rankwise/rankwise/engine/Ranked")), by decide +kernel⟩
    · exact ⟨(.array .int), by decide +kernel⟩
    · exact ⟨(.array .int), by decide +kernel⟩
    · exact ⟨(.array .int), by decide +kernel⟩
    · exact ⟨.int, by decide +kernel⟩
    · exact ⟨(.array .int), by decide +kernel⟩
    · exact ⟨(.array .int), by decide +kernel⟩
def NSR : List (String × String × String) := [("com/example/rankwise/rankwise/engine/Ranked", "solution", "[I"), ("com/example/rankwise/rankwise/engine/Ranked", "utility", "D")]
theorem cf_NSR {Z : State} {a0 : Array Value} (hw : ∀ d ∈ tables_1, d.before a0 Z = true) : Cf Z a0 "com/example/rankwise/rankwise/engine/Ranked" NSR := by
  refine ⟨fun f hf => ?_, by decide +kernel, fun f hf => ?_⟩
  · simp only [NSR, List.mem_cons, List.not_mem_nil, or_false] at hf
    rcases hf with rfl | rfl
    · exact Or.inr (wd hw 32 rfl)
    · exact Or.inr (wd hw 34 rfl)
  · simp only [NSR, List.mem_cons, List.not_mem_nil, or_false] at hf
    rcases hf with rfl | rfl
    · exact ⟨(.array .int), by decide +kernel⟩
    · exact ⟨.double, by decide +kernel⟩
/-! arrays as functions -/
def lst {α : Type} (n : Nat) (F : Nat → α) : List α := (List.range n).map F
def fup {α : Type} (F : Nat → α) (i : Nat) (v : α) : Nat → α := fun j => if j = i then v else F j
theorem lst_len {α : Type} (n : Nat) (F : Nat → α) : (lst n F).length = n := by simp [lst]
theorem lst_get {α : Type} {n i : Nat} (F : Nat → α) (h : i < n) : (lst n F)[i]? = some (F i) := by
  unfold lst; rw [List.getElem?_map, List.getElem?_range h]; rfl
theorem lst_out {α : Type} {n i : Nat} (F : Nat → α) (h : n ≤ i) : (lst n F)[i]? = none := List.getElem?_eq_none (by rw [lst_len]; exact h)
theorem lst_congr {α : Type} {n : Nat} {F G : Nat → α} (h : ∀ i, i < n → F i = G i) : lst n F = lst n G := by
  unfold lst; exact List.map_congr_left fun i hi => h i (List.mem_range.mp hi)
theorem lst_set {α : Type} {n i : Nat} (F : Nat → α) (h : i < n) (v : α) : (lst n F).set i v = lst n (fup F i v) := by
  apply List.ext_getElem?
  intro j
  by_cases q : i = j
  · subst q; rw [List.getElem?_set_self (by rw [lst_len]; exact h), lst_get _ h]; simp [fup]
  · rw [List.getElem?_set_ne q]
    by_cases hj : j < n
    · rw [lst_get _ hj, lst_get _ hj]; unfold fup; rw [if_neg (fun z => q z.symm)]
    · rw [lst_out _ (by omega), lst_out _ (by omega)]
theorem lst_rep {α : Type} (n : Nat) (v : α) : List.replicate n v = lst n (fun _ => v) := by
  apply List.ext_getElem?
  intro j
  rw [List.getElem?_replicate]
  by_cases hj : j < n
  · rw [if_pos hj, lst_get _ hj]
  · rw [if_neg hj, lst_out _ (by omega)]
theorem lst_map {α β : Type} (n : Nat) (F : Nat → α) (f : α → β) : (lst n F).map f = lst n (fun i => f (F i)) := by simp [lst, Function.comp_def]
theorem lst_cpy {L L' : Nat} (F G : Nat → Int32) (h : L ≤ L') : cpy (lst L F) (lst L' G) 0 0 L = lst L' (fun k => if k < L then F k else G k) := by
  apply List.ext_getElem?
  intro j
  unfold cpy
  rw [List.take_zero, List.nil_append, List.drop_zero, Nat.zero_add, List.take_of_length_le (by rw [lst_len]; exact Nat.le_refl _)]
  by_cases hj : j < L
  · rw [List.getElem?_append_left (by rw [lst_len]; exact hj), lst_get _ hj, lst_get _ (by omega), if_pos hj]
  · rw [List.getElem?_append_right (by rw [lst_len]; omega), lst_len, List.getElem?_drop]
    by_cases hj2 : j < L'
    · rw [lst_get _ (by omega), lst_get _ hj2, if_neg hj]; congr 2; omega
    · rw [lst_out _ (by omega), lst_out _ (by omega)]
theorem lst_grown {L L' : Nat} {F : Nat → Int32} (h : ∀ i, L ≤ i → F i = -1) : lst L' (fun k => if L ≤ k ∧ k < L' then -1 else if k < L then F k else 0) = lst L' F := by
  apply lst_congr
  intro i hi
  by_cases q : L ≤ i
  · rw [if_pos ⟨q, hi⟩, h i q]
  · rw [if_neg (by omega), if_pos (by omega)]
def fil (F : Nat → Int32) (lo hi : Nat) (v : Int32) : Nat → Int32 := fun i => if lo ≤ i ∧ i < hi then v else F i
theorem fil_next (F : Nat → Int32) (lo i : Nat) (v : Int32) (h : lo ≤ i) : fup (fil F lo i v) i v = fil F lo (i + 1) v := by
  funext j
  unfold fup fil
  by_cases q : j = i
  · subst q; rw [if_pos rfl, if_pos (by omega)]
  · rw [if_neg q]
    have : (lo ≤ j ∧ j < i) ↔ (lo ≤ j ∧ j < i + 1) := by omega
    simp only [this]
theorem fil_none (F : Nat → Int32) (lo : Nat) (v : Int32) : F = fil F lo lo v := by
  funext j; unfold fil; rw [if_neg (by omega)]
/-- the links' ints: none, or one of the first s places -/
def Ix (s : Nat) (v : Int32) : Prop := v = -1 ∨ ∃ j, j < s ∧ v = Int32.ofNat j
theorem Ix.up {s : Nat} {v : Int32} (h : Ix s v) : Ix (s + 1) v := h.imp id fun ⟨j, h1, h2⟩ => ⟨j, by omega, h2⟩
theorem Ix_fup {s q : Nat} {F : Nat → Int32} (h : ∀ i, Ix s (F i)) : ∀ i, Ix (s + 1) (fup F q (Int32.ofNat s) i) := by
  intro i
  unfold fup
  split
  · exact Or.inr ⟨s, by omega, rfl⟩
  · exact (h i).up
theorem Ix.neg {s : Nat} {v : Int32} (h : Ix s v) (hs : s < 2147483648) (q : v < 0) : v = -1 := by
  rcases h with h | ⟨j, h1, h2⟩
  · exact h
  · subst h2; exact absurd q (own_nneg (by omega))
theorem Ix.pos {s : Nat} {v : Int32} (h : Ix s v) (q : ¬ v < 0) : ∃ j, j < s ∧ v = Int32.ofNat j := by
  rcases h with h | h
  · subst h; exact absurd (by decide) q
  · exact h
def adF (LO FO : Nat → Int32) (q s : Nat) : Nat → Int32 := if LO q < 0 then fup FO q (Int32.ofNat s) else FO
def adT (LO LT : Nat → Int32) (q s : Nat) : Nat → Int32 := if LO q < 0 then fup LT s (-1) else fup (fup LT s (-1)) (LO q).toNatClampNeg (Int32.ofNat s)
def drF (pv : Int32) (FO : Nat → Int32) (q : Nat) : Nat → Int32 := if pv < 0 then fup FO q (-1) else FO
def drT (pv : Int32) (LT : Nat → Int32) : Nat → Int32 := if pv < 0 then LT else fup LT pv.toNatClampNeg (-1)
theorem fup_out {F : Nat → Int32} {L L' q : Nat} {v : Int32} (h : ∀ i, L ≤ i → F i = -1) (hL : L ≤ L') (hq : q < L') : ∀ i, L' ≤ i → fup F q v i = -1 := by
  intro i hi; unfold fup; rw [if_neg (by omega)]; exact h i (by omega)
theorem adF_out {LO FO : Nat → Int32} {L L' q s : Nat} (h : ∀ i, L ≤ i → FO i = -1) (hL : L ≤ L') (hq : q < L') : ∀ i, L' ≤ i → adF LO FO q s i = -1 := by
  intro i hi; unfold adF; split
  · exact fup_out h hL hq i hi
  · exact h i (by omega)
theorem drF_out {pv : Int32} {FO : Nat → Int32} {L q : Nat} (h : ∀ i, L ≤ i → FO i = -1) (hq : q < L) : ∀ i, L ≤ i → drF pv FO q i = -1 := by
  intro i hi; unfold drF; split
  · exact fup_out h (Nat.le_refl _) hq i hi
  · exact h i hi
theorem D29_65_0 : Dc jdk_29_method_65_code 0 (.iload_n 0) 1 1 := dc (by decide +kernel) rfl
theorem D29_65_1 : Dc jdk_29_method_65_code 1 (.iload_n 1) 1 2 := dc (by decide +kernel) rfl
theorem D29_65_2 : Db jdk_29_method_65_code 2 (.if_icmp .lt) 5 9 := db (7) (by decide +kernel) rfl (by decide) (by decide)
theorem D29_65_5 : Dc jdk_29_method_65_code 5 (.iload_n 0) 1 6 := dc (by decide +kernel) rfl
theorem D29_65_6 : Db jdk_29_method_65_code 6 (.goto) 9 10 := db (4) (by decide +kernel) rfl (by decide) (by decide)
theorem D29_65_9 : Dc jdk_29_method_65_code 9 (.iload_n 1) 1 10 := dc (by decide +kernel) rfl
theorem D29_65_10 : Dc jdk_29_method_65_code 10 (.ireturn) 1 11 := dc (by decide +kernel) rfl
set_option maxRecDepth 65536 in
set_option maxHeartbeats 40000000 in
theorem ct_max (l : Launch) (Z : State) (a0 : Array Value) (hw : ∀ d ∈ tables_1, d.before a0 Z = true) (n0 : Nat) (h : Heap) (y z : Int32) :
    Ct l Z n0 (⟨"java/lang/Math", "max", "(II)I"⟩ : MethodName) jdk_29_method_65_code 2 (some .int) ({ frames := 0, cells := 0, slots := 0, locals := 0 } : Room) [.int y, .int z] h (fun v h' => v = some (.int (if y < z then z else y)) ∧ h = h') := by
  refine Ct.intro (Jvm.Free.JP.mathPlain rfl (by decide +kernel)) [.val (.int y), .val (.int z)] (fun m => by first | (simp [entryFrame, mkF, argsToLocals, Value.category]; done) | (simp [entryFrame, mkF, argsToLocals, Value.category, maxLocals]; done) | rfl) ?_
  intro k hl K
  replace K : Ok k Z n0 "java/lang/Math" ({ frames := 0, cells := 0, slots := 0, locals := 0 } : Room) jdk_29_method_65_code 2 (some .int) "max" := K
  refine G.iloadN K D29_65_0 rfl ?_
  refine G.iloadN K D29_65_1 rfl ?_
  refine G.icmp_lt K D29_65_2 (fun q1 => ?_) (fun q1 => ?_)
  · refine G.iloadN K D29_65_9 rfl ?_
    refine G.ret_int K D29_65_10 ?_
    exact ⟨by simp [q1], rfl⟩
  · refine G.iloadN K D29_65_5 rfl ?_
    refine G.goto K D29_65_6 ?_
    refine G.ret_int K D29_65_10 ?_
    exact ⟨by simp [q1], rfl⟩
theorem D29_69_0 : Dc jdk_29_method_69_code 0 (.iload_n 0) 1 1 := dc (by decide +kernel) rfl
theorem D29_69_1 : Dc jdk_29_method_69_code 1 (.iload_n 1) 1 2 := dc (by decide +kernel) rfl
theorem D29_69_2 : Db jdk_29_method_69_code 2 (.if_icmp .gt) 5 9 := db (7) (by decide +kernel) rfl (by decide) (by decide)
theorem D29_69_5 : Dc jdk_29_method_69_code 5 (.iload_n 0) 1 6 := dc (by decide +kernel) rfl
theorem D29_69_6 : Db jdk_29_method_69_code 6 (.goto) 9 10 := db (4) (by decide +kernel) rfl (by decide) (by decide)
theorem D29_69_9 : Dc jdk_29_method_69_code 9 (.iload_n 1) 1 10 := dc (by decide +kernel) rfl
theorem D29_69_10 : Dc jdk_29_method_69_code 10 (.ireturn) 1 11 := dc (by decide +kernel) rfl
set_option maxRecDepth 65536 in
set_option maxHeartbeats 40000000 in
theorem ct_min (l : Launch) (Z : State) (a0 : Array Value) (hw : ∀ d ∈ tables_1, d.before a0 Z = true) (n0 : Nat) (h : Heap) (y z : Int32) :
    Ct l Z n0 (⟨"java/lang/Math", "min", "(II)I"⟩ : MethodName) jdk_29_method_69_code 2 (some .int) ({ frames := 0, cells := 0, slots := 0, locals := 0 } : Room) [.int y, .int z] h (fun v h' => v = some (.int (if z < y then z else y)) ∧ h = h') := by
  refine Ct.intro (Jvm.Free.JP.mathPlain rfl (by decide +kernel)) [.val (.int y), .val (.int z)] (fun m => by first | (simp [entryFrame, mkF, argsToLocals, Value.category]; done) | (simp [entryFrame, mkF, argsToLocals, Value.category, maxLocals]; done) | rfl) ?_
  intro k hl K
  replace K : Ok k Z n0 "java/lang/Math" ({ frames := 0, cells := 0, slots := 0, locals := 0 } : Room) jdk_29_method_69_code 2 (some .int) "min" := K
  refine G.iloadN K D29_69_0 rfl ?_
  refine G.iloadN K D29_69_1 rfl ?_
  refine G.icmp_gt K D29_69_2 (fun q2 => ?_) (fun q2 => ?_)
  · refine G.iloadN K D29_69_9 rfl ?_
    refine G.ret_int K D29_69_10 ?_
    exact ⟨by simp [q2], rfl⟩
  · refine G.iloadN K D29_69_5 rfl ?_
    refine G.goto K D29_69_6 ?_
    refine G.ret_int K D29_69_10 ?_
    exact ⟨by simp [q2], rfl⟩
theorem D61_1_0 : Dc prog_61_method_1_code 0 (.aload_n 0) 1 1 := dc (by decide +kernel) rfl
theorem D61_1_1 : Dc prog_61_method_1_code 1 (.invokespecial 1) 3 4 := dc (by decide +kernel) rfl
theorem D61_1_4 : Dc prog_61_method_1_code 4 (.aload_n 0) 1 5 := dc (by decide +kernel) rfl
theorem D61_1_5 : Dc prog_61_method_1_code 5 (.aload_n 1) 1 6 := dc (by decide +kernel) rfl
theorem D61_1_6 : Dc prog_61_method_1_code 6 (.putfield 7) 3 9 := dc (by decide +kernel) rfl
theorem D61_1_9 : Dc prog_61_method_1_code 9 (.aload_n 0) 1 10 := dc (by decide +kernel) rfl
theorem D61_1_10 : Dc prog_61_method_1_code 10 (.dload_n 2) 1 11 := dc (by decide +kernel) rfl
theorem D61_1_11 : Dc prog_61_method_1_code 11 (.putfield 13) 3 14 := dc (by decide +kernel) rfl
theorem D61_1_14 : Dc prog_61_method_1_code 14 (.return_) 1 15 := dc (by decide +kernel) rfl
theorem pn_0 : plainName "com/example/rankwise/rankwise/engine/Ranked" = true := by first | (simp [plainName, overriddenIn]; done) | decide +kernel
set_option maxRecDepth 65536 in
set_option maxHeartbeats 40000000 in
theorem ct_ranked (l : Launch) (Z : State) (a0 : Array Value) (hw : ∀ d ∈ tables_1, d.before a0 Z = true) (n0 : Nat) (h : Heap) (a b : Addr) (u : UInt64) (σ : List Ch) (H : Hp n0 h ((a, Ob Z "com/example/rankwise/rankwise/engine/Ranked" NSR [.null, .double 0]) :: σ)) :
    Ct l Z n0 (⟨"com/example/rankwise/rankwise/engine/Ranked", "<init>", "([ID)V"⟩ : MethodName) prog_61_method_1_code 4 none ({ frames := 1, cells := 0, slots := 0, locals := 12 } : Room) [.ref a, .ref b, .double u] h (fun v h' => v = none ∧ Hp n0 h' ((a, Ob Z "com/example/rankwise/rankwise/engine/Ranked" NSR [.ref b, .double u]) :: σ)) := by
  refine Ct.intro (plainFor_of_name pn_0) [.val (.ref a), .val (.ref b), .val (.double u), .second] (fun m => by first | (simp [entryFrame, mkF, argsToLocals, Value.category]; done) | (simp [entryFrame, mkF, argsToLocals, Value.category, maxLocals]; done) | rfl) ?_
  intro k hl K
  replace K : Ok k Z n0 "com/example/rankwise/rankwise/engine/Ranked" ({ frames := 1, cells := 0, slots := 0, locals := 12 } : Room) prog_61_method_1_code 4 none "<init>" := K
  refine G.aloadN K D61_1_0 rfl rfl ?_
  refine G.initO K (wd hw 30 rfl) (wd hw 7 rfl) (wd hw 8 rfl) rfl 0 rfl (by decide) (by decide) D61_1_1 ?_
  refine G.aloadN K D61_1_4 rfl rfl ?_
  refine G.aloadN K D61_1_5 rfl rfl ?_
  refine G.putF K (host := "") (Or.inl (wd hw 31 rfl)) (cf_NSR hw) (Or.inr ⟨(wd hw 32 rfl), rfl, rfl⟩) (wd hw 25 rfl) H (i := 0) rfl (j := 0) rfl rfl (ty := (.array .int)) (by decide) rfl rfl D61_1_6 ?_
  intro h3 H3
  change Hp n0 h3 ((a, Ob Z "com/example/rankwise/rankwise/engine/Ranked" NSR [.ref b, .double 0]) :: σ) at H3
  refine G.aloadN K D61_1_9 rfl rfl ?_
  refine G.dloadN K D61_1_10 rfl ?_
  refine G.putF K (host := "") (Or.inl (wd hw 33 rfl)) (cf_NSR hw) (Or.inr ⟨(wd hw 34 rfl), rfl, rfl⟩) (wd hw 25 rfl) H3 (i := 0) rfl (j := 1) rfl rfl (ty := .double) (by decide) rfl rfl D61_1_11 ?_
  intro h4 H4
  change Hp n0 h4 ((a, Ob Z "com/example/rankwise/rankwise/engine/Ranked" NSR [.ref b, .double u]) :: σ) at H4
  refine G.ret_void K D61_1_14 ?_
  exact ⟨rfl, H4⟩
theorem D65_123_0 : Dc jdk_65_method_123_code 0 (.iload_n 1) 1 1 := dc (by decide +kernel) rfl
theorem D65_123_1 : Dc jdk_65_method_123_code 1 (.aload_n 0) 1 2 := dc (by decide +kernel) rfl
theorem D65_123_2 : Dc jdk_65_method_123_code 2 (.arraylength) 1 3 := dc (by decide +kernel) rfl
theorem D65_123_3 : Db jdk_65_method_123_code 3 (.if_icmp .ne) 6 14 := db (11) (by decide +kernel) rfl (by decide) (by decide)
theorem D65_123_6 : Dc jdk_65_method_123_code 6 (.aload_n 0) 1 7 := dc (by decide +kernel) rfl
theorem D65_123_7 : Dc jdk_65_method_123_code 7 (.invokevirtual 316) 3 10 := dc (by decide +kernel) rfl
theorem D65_123_10 : Dc jdk_65_method_123_code 10 (.checkcast 317) 3 13 := dc (by decide +kernel) rfl
theorem D65_123_13 : Dc jdk_65_method_123_code 13 (.areturn) 1 14 := dc (by decide +kernel) rfl
theorem D65_123_14 : Dc jdk_65_method_123_code 14 (.iload_n 1) 1 15 := dc (by decide +kernel) rfl
theorem D65_123_15 : Dc jdk_65_method_123_code 15 (.newarray .int) 2 17 := dc (by decide +kernel) rfl
theorem D65_123_17 : Dc jdk_65_method_123_code 17 (.astore_n 2) 1 18 := dc (by decide +kernel) rfl
theorem D65_123_18 : Dc jdk_65_method_123_code 18 (.aload_n 0) 1 19 := dc (by decide +kernel) rfl
theorem D65_123_19 : Dc jdk_65_method_123_code 19 (.iconst 0) 1 20 := dc (by decide +kernel) rfl
theorem D65_123_20 : Dc jdk_65_method_123_code 20 (.aload_n 2) 1 21 := dc (by decide +kernel) rfl
theorem D65_123_21 : Dc jdk_65_method_123_code 21 (.iconst 0) 1 22 := dc (by decide +kernel) rfl
theorem D65_123_22 : Dc jdk_65_method_123_code 22 (.aload_n 0) 1 23 := dc (by decide +kernel) rfl
theorem D65_123_23 : Dc jdk_65_method_123_code 23 (.arraylength) 1 24 := dc (by decide +kernel) rfl
theorem D65_123_24 : Dc jdk_65_method_123_code 24 (.iload_n 1) 1 25 := dc (by decide +kernel) rfl
theorem D65_123_25 : Dc jdk_65_method_123_code 25 (.invokestatic 304) 3 28 := dc (by decide +kernel) rfl
theorem D65_123_28 : Dc jdk_65_method_123_code 28 (.invokestatic 150) 3 31 := dc (by decide +kernel) rfl
theorem D65_123_31 : Dc jdk_65_method_123_code 31 (.aload_n 2) 1 32 := dc (by decide +kernel) rfl
theorem D65_123_32 : Dc jdk_65_method_123_code 32 (.areturn) 1 33 := dc (by decide +kernel) rfl
theorem pf_copy : plainFor (⟨"java/util/Arrays", "copyOf", "([II)[I"⟩ : MethodName) = true := by decide +kernel
set_option maxRecDepth 65536 in
set_option maxHeartbeats 40000000 in
theorem ct_copy (l : Launch) (Z : State) (a0 : Array Value) (hw : ∀ d ∈ tables_1, d.before a0 Z = true) (n0 : Nat) (h : Heap) (b : Addr) (L L2 : Nat) (F : Nat → Int32) (σ : List Ch) (hL : L < L2) (hL2 : L2 ≤ 16) (H : Hp n0 h ((b, Ia Z (lst L F)) :: σ)) :
    Ct l Z n0 (⟨"java/util/Arrays", "copyOf", "([II)[I"⟩ : MethodName) jdk_65_method_123_code 3 (some (.array .int)) ({ frames := 1, cells := 1, slots := 16, locals := 30 } : Room) [.ref b, .int (Int32.ofNat L2)] h (fun v h' => ∃ b' : Addr, v = some (.ref b') ∧ Hp n0 h' ((b', Ia Z (lst L2 (fun i => if i < L then F i else 0))) :: (b, Ia Z (lst L F)) :: σ)) := by
  refine Ct.intro pf_copy [.val (.ref b), .val (.int (Int32.ofNat L2)), .unset] (fun m => by first | (simp [entryFrame, mkF, argsToLocals, Value.category]; done) | (simp [entryFrame, mkF, argsToLocals, Value.category, maxLocals]; done) | rfl) ?_
  intro k hl K
  replace K : Ok k Z n0 "java/util/Arrays" ({ frames := 1, cells := 1, slots := 16, locals := 30 } : Room) jdk_65_method_123_code 3 (some (.array .int)) "copyOf" := K
  refine G.iloadN K D65_123_0 rfl ?_
  refine G.aloadN K D65_123_1 rfl rfl ?_
  refine G.alen K H (i := 0) rfl D65_123_2 (Int32.ofNat L) (by rw [List.length_map, lst_len]) ?_
  refine G.icmp_ne K D65_123_3 (fun q5 => ?_) (fun q => absurd ((own_neq (by omega) (by omega)).mp q) (by omega))
  refine G.iloadN K D65_123_14 rfl ?_
  refine G.newarr_i K (wd hw 13 rfl) H (own_nneg (by omega)) 16 (by rw [own_nidx (by omega)]; omega) (by decide) (by decide) (by decide) D65_123_15 ?_
  intro a6 h7 H7
  rw [own_nidx (by omega), lst_rep] at H7
  change Hp n0 h7 ((a6, Ia Z (lst L2 (fun _ => 0))) :: (b, Ia Z (lst L F)) :: σ) at H7
  refine G.astoreN K D65_123_17 rfl ([.val (.ref b), .val (.int (Int32.ofNat L2)), .val (.ref a6)]) rfl ?_
  refine G.aloadN K D65_123_18 rfl rfl ?_
  refine G.iconst K D65_123_19 0 rfl ?_
  refine G.aloadN K D65_123_20 rfl rfl ?_
  refine G.iconst K D65_123_21 0 rfl ?_
  refine G.aloadN K D65_123_22 rfl rfl ?_
  refine G.alen K H7 (i := 1) rfl D65_123_23 (Int32.ofNat L) (by rw [List.length_map, lst_len]) ?_
  refine G.iloadN K D65_123_24 rfl ?_
  refine G.callS K hl (wd hw 56 rfl) (wd hw 57 rfl) (wd hw 50 rfl) (wd hw 58 rfl) (by decide) pd_0 (ct_min l Z a0 hw n0 _ (Int32.ofNat L) (Int32.ofNat L2)) 4 rfl (by decide) (by decide) (by decide) (by decide) rfl rfl [.int (Int32.ofNat L2), .int (Int32.ofNat L)] rfl D65_123_25 ?_
  rintro _ _ ⟨rfl, rfl⟩
  rw [if_neg (fun z => absurd ((own_nlt (by omega) (by omega)).mp z) (by omega))]
  change G k n0 _ h7 _ _ 28 [.val (.ref b), .val (.int (Int32.ofNat L2)), .val (.ref a6)] [.int (Int32.ofNat L), .int 0, .ref a6, .int 0, .ref b]
  refine G.acopy K (wd hw 59 rfl) (wd hw 62 rfl) (wd hw 60 rfl) (wd hw 61 rfl) H7 (i := 1) (i' := 0) rfl rfl rfl (all_int _) (by decide) (by decide) (own_nneg (by omega)) (by rw [own_nidx (by omega), List.length_map, lst_len]; show 0 + L ≤ L; omega) (by rw [own_nidx (by omega), List.length_map, lst_len]; show 0 + L ≤ L2; omega) rfl 0 rfl (by decide) (by decide) D65_123_28 ?_
  intro h8 H8
  rw [cpy_map, own_nidx (by omega), show (0 : Int32).toNatClampNeg = 0 from rfl, lst_cpy _ _ (by omega)] at H8
  change Hp n0 h8 ((a6, Ia Z (lst L2 (fun i => if i < L then F i else 0))) :: (b, Ia Z (lst L F)) :: σ) at H8
  refine G.aloadN K D65_123_31 rfl rfl ?_
  refine G.ret_ref K rfl rfl D65_123_32 ?_
  exact ⟨_, rfl, H8⟩
theorem D65_30_0 : Dc jdk_65_method_30_code 0 (.iload_n 1) 1 1 := dc (by decide +kernel) rfl
theorem D65_30_1 : Dc jdk_65_method_30_code 1 (.iload_n 2) 1 2 := dc (by decide +kernel) rfl
theorem D65_30_2 : Db jdk_65_method_30_code 2 (.if_icmp .le) 5 46 := db (44) (by decide +kernel) rfl (by decide) (by decide)
theorem D65_30_5 : Dc jdk_65_method_30_code 5 (.new 43) 3 8 := dc (by decide +kernel) rfl
theorem D65_30_8 : Dc jdk_65_method_30_code 8 (.dup) 1 9 := dc (by decide +kernel) rfl
theorem D65_30_9 : Dc jdk_65_method_30_code 9 (.new 45) 3 12 := dc (by decide +kernel) rfl
theorem D65_30_12 : Dc jdk_65_method_30_code 12 (.dup) 1 13 := dc (by decide +kernel) rfl
theorem D65_30_13 : Dc jdk_65_method_30_code 13 (.invokespecial 47) 3 16 := dc (by decide +kernel) rfl
theorem D65_30_16 : Dc jdk_65_method_30_code 16 (.ldc 48) 2 18 := dc (by decide +kernel) rfl
theorem D65_30_18 : Dc jdk_65_method_30_code 18 (.invokevirtual 50) 3 21 := dc (by decide +kernel) rfl
theorem D65_30_21 : Dc jdk_65_method_30_code 21 (.iload_n 1) 1 22 := dc (by decide +kernel) rfl
theorem D65_30_22 : Dc jdk_65_method_30_code 22 (.invokevirtual 54) 3 25 := dc (by decide +kernel) rfl
theorem D65_30_25 : Dc jdk_65_method_30_code 25 (.ldc 57) 2 27 := dc (by decide +kernel) rfl
theorem D65_30_27 : Dc jdk_65_method_30_code 27 (.invokevirtual 50) 3 30 := dc (by decide +kernel) rfl
theorem D65_30_30 : Dc jdk_65_method_30_code 30 (.iload_n 2) 1 31 := dc (by decide +kernel) rfl
theorem D65_30_31 : Dc jdk_65_method_30_code 31 (.invokevirtual 54) 3 34 := dc (by decide +kernel) rfl
theorem D65_30_34 : Dc jdk_65_method_30_code 34 (.ldc 59) 2 36 := dc (by decide +kernel) rfl
theorem D65_30_36 : Dc jdk_65_method_30_code 36 (.invokevirtual 50) 3 39 := dc (by decide +kernel) rfl
theorem D65_30_39 : Dc jdk_65_method_30_code 39 (.invokevirtual 61) 3 42 := dc (by decide +kernel) rfl
theorem D65_30_42 : Dc jdk_65_method_30_code 42 (.invokespecial 65) 3 45 := dc (by decide +kernel) rfl
theorem D65_30_45 : Dc jdk_65_method_30_code 45 (.athrow) 1 46 := dc (by decide +kernel) rfl
theorem D65_30_46 : Dc jdk_65_method_30_code 46 (.iload_n 1) 1 47 := dc (by decide +kernel) rfl
theorem D65_30_47 : Db jdk_65_method_30_code 47 (.ifCond .ge) 50 59 := db (12) (by decide +kernel) rfl (by decide) (by decide)
theorem D65_30_50 : Dc jdk_65_method_30_code 50 (.new 68) 3 53 := dc (by decide +kernel) rfl
theorem D65_30_53 : Dc jdk_65_method_30_code 53 (.dup) 1 54 := dc (by decide +kernel) rfl
theorem D65_30_54 : Dc jdk_65_method_30_code 54 (.iload_n 1) 1 55 := dc (by decide +kernel) rfl
theorem D65_30_55 : Dc jdk_65_method_30_code 55 (.invokespecial 70) 3 58 := dc (by decide +kernel) rfl
theorem D65_30_58 : Dc jdk_65_method_30_code 58 (.athrow) 1 59 := dc (by decide +kernel) rfl
theorem D65_30_59 : Dc jdk_65_method_30_code 59 (.iload_n 2) 1 60 := dc (by decide +kernel) rfl
theorem D65_30_60 : Dc jdk_65_method_30_code 60 (.iload_n 0) 1 61 := dc (by decide +kernel) rfl
theorem D65_30_61 : Db jdk_65_method_30_code 61 (.if_icmp .le) 64 73 := db (12) (by decide +kernel) rfl (by decide) (by decide)
theorem D65_30_64 : Dc jdk_65_method_30_code 64 (.new 68) 3 67 := dc (by decide +kernel) rfl
theorem D65_30_67 : Dc jdk_65_method_30_code 67 (.dup) 1 68 := dc (by decide +kernel) rfl
theorem D65_30_68 : Dc jdk_65_method_30_code 68 (.iload_n 2) 1 69 := dc (by decide +kernel) rfl
theorem D65_30_69 : Dc jdk_65_method_30_code 69 (.invokespecial 70) 3 72 := dc (by decide +kernel) rfl
theorem D65_30_72 : Dc jdk_65_method_30_code 72 (.athrow) 1 73 := dc (by decide +kernel) rfl
theorem D65_30_73 : Dc jdk_65_method_30_code 73 (.return_) 1 74 := dc (by decide +kernel) rfl
theorem pf_rng : plainFor (⟨"java/util/Arrays", "rangeCheck", "(III)V"⟩ : MethodName) = true := by decide +kernel
set_option maxRecDepth 65536 in
set_option maxHeartbeats 40000000 in
theorem ct_range (l : Launch) (Z : State) (a0 : Array Value) (hw : ∀ d ∈ tables_1, d.before a0 Z = true) (n0 : Nat) (h : Heap) (n lo hi : Nat) (h1 : lo ≤ hi) (h2 : hi ≤ n) (h3 : n ≤ 1000) :
    Ct l Z n0 (⟨"java/util/Arrays", "rangeCheck", "(III)V"⟩ : MethodName) jdk_65_method_30_code 3 none ({ frames := 0, cells := 0, slots := 0, locals := 0 } : Room) [.int (Int32.ofNat n), .int (Int32.ofNat lo), .int (Int32.ofNat hi)] h (fun v h' => v = none ∧ h = h') := by
  refine Ct.intro pf_rng [.val (.int (Int32.ofNat n)), .val (.int (Int32.ofNat lo)), .val (.int (Int32.ofNat hi))] (fun m => by first | (simp [entryFrame, mkF, argsToLocals, Value.category]; done) | (simp [entryFrame, mkF, argsToLocals, Value.category, maxLocals]; done) | rfl) ?_
  intro k hl K
  replace K : Ok k Z n0 "java/util/Arrays" ({ frames := 0, cells := 0, slots := 0, locals := 0 } : Room) jdk_65_method_30_code 3 none "rangeCheck" := K
  refine G.iloadN K D65_30_0 rfl ?_
  refine G.iloadN K D65_30_1 rfl ?_
  refine G.icmp_le K D65_30_2 (fun q9 => ?_) (fun q => absurd ((own_nlt (by omega) (by omega)).mp q) (by omega))
  refine G.iloadN K D65_30_46 rfl ?_
  refine G.if_ge K D65_30_47 (fun q10 => ?_) (fun q => absurd q (own_nneg (by omega)))
  refine G.iloadN K D65_30_59 rfl ?_
  refine G.iloadN K D65_30_60 rfl ?_
  refine G.icmp_le K D65_30_61 (fun q11 => ?_) (fun q => absurd ((own_nlt (by omega) (by omega)).mp q) (by omega))
  refine G.ret_void K D65_30_73 ?_
  exact ⟨rfl, rfl⟩
theorem D65_104_0 : Dc jdk_65_method_104_code 0 (.aload_n 0) 1 1 := dc (by decide +kernel) rfl
theorem D65_104_1 : Dc jdk_65_method_104_code 1 (.arraylength) 1 2 := dc (by decide +kernel) rfl
theorem D65_104_2 : Dc jdk_65_method_104_code 2 (.iload_n 1) 1 3 := dc (by decide +kernel) rfl
theorem D65_104_3 : Dc jdk_65_method_104_code 3 (.iload_n 2) 1 4 := dc (by decide +kernel) rfl
theorem D65_104_4 : Dc jdk_65_method_104_code 4 (.invokestatic 13) 3 7 := dc (by decide +kernel) rfl
theorem D65_104_7 : Dc jdk_65_method_104_code 7 (.iload_n 1) 1 8 := dc (by decide +kernel) rfl
theorem D65_104_8 : Dc jdk_65_method_104_code 8 (.istore 4) 2 10 := dc (by decide +kernel) rfl
theorem D65_104_10 : Dc jdk_65_method_104_code 10 (.iload 4) 2 12 := dc (by decide +kernel) rfl
theorem D65_104_12 : Dc jdk_65_method_104_code 12 (.iload_n 2) 1 13 := dc (by decide +kernel) rfl
theorem D65_104_13 : Db jdk_65_method_104_code 13 (.if_icmp .ge) 16 27 := db (14) (by decide +kernel) rfl (by decide) (by decide)
theorem D65_104_16 : Dc jdk_65_method_104_code 16 (.aload_n 0) 1 17 := dc (by decide +kernel) rfl
theorem D65_104_17 : Dc jdk_65_method_104_code 17 (.iload 4) 2 19 := dc (by decide +kernel) rfl
theorem D65_104_19 : Dc jdk_65_method_104_code 19 (.iload_n 3) 1 20 := dc (by decide +kernel) rfl
theorem D65_104_20 : Dc jdk_65_method_104_code 20 (.iastore) 1 21 := dc (by decide +kernel) rfl
theorem D65_104_21 : Dc jdk_65_method_104_code 21 (.iinc 4 1) 3 24 := dc (by decide +kernel) rfl
theorem D65_104_24 : Db jdk_65_method_104_code 24 (.goto) 27 10 := db (-14) (by decide +kernel) rfl (by decide) (by decide)
theorem D65_104_27 : Dc jdk_65_method_104_code 27 (.return_) 1 28 := dc (by decide +kernel) rfl
theorem pf_fill : plainFor (⟨"java/util/Arrays", "fill", "([IIII)V"⟩ : MethodName) = true := by decide +kernel
set_option maxRecDepth 65536 in
set_option maxHeartbeats 40000000 in
theorem ct_fill (l : Launch) (Z : State) (a0 : Array Value) (hw : ∀ d ∈ tables_1, d.before a0 Z = true) (n0 : Nat) (h : Heap) (b : Addr) (n lo hi : Nat) (x : Int32) (F : Nat → Int32) (σ : List Ch) (h1 : lo ≤ hi) (h2 : hi ≤ n) (h3 : n ≤ 1000) (H : Hp n0 h ((b, Ia Z (lst n F)) :: σ)) :
    Ct l Z n0 (⟨"java/util/Arrays", "fill", "([IIII)V"⟩ : MethodName) jdk_65_method_104_code 5 none ({ frames := 1, cells := 0, slots := 0, locals := 16 } : Room) [.ref b, .int (Int32.ofNat lo), .int (Int32.ofNat hi), .int x] h (fun v h' => v = none ∧ Hp n0 h' ((b, Ia Z (lst n (fil F lo hi x))) :: σ)) := by
  refine Ct.intro pf_fill [.val (.ref b), .val (.int (Int32.ofNat lo)), .val (.int (Int32.ofNat hi)), .val (.int x), .unset] (fun m => by first | (simp [entryFrame, mkF, argsToLocals, Value.category]; done) | (simp [entryFrame, mkF, argsToLocals, Value.category, maxLocals]; done) | rfl) ?_
  intro k hl K
  replace K : Ok k Z n0 "java/util/Arrays" ({ frames := 1, cells := 0, slots := 0, locals := 16 } : Room) jdk_65_method_104_code 5 none "fill" := K
  refine G.aloadN K D65_104_0 rfl rfl ?_
  refine G.alen K H (i := 0) rfl D65_104_1 (Int32.ofNat n) (by rw [List.length_map, lst_len]) ?_
  refine G.iloadN K D65_104_2 rfl ?_
  refine G.iloadN K D65_104_3 rfl ?_
  refine G.callS K hl (wd hw 66 rfl) (wd hw 67 rfl) (wd hw 54 rfl) (wd hw 68 rfl) (by decide) pd_1 (ct_range l Z a0 hw n0 _ n lo hi (by omega) (by omega) (by omega)) 0 rfl (by decide) (by decide) (by decide) (by decide) rfl rfl [.int (Int32.ofNat hi), .int (Int32.ofNat lo), .int (Int32.ofNat n)] rfl D65_104_4 ?_
  rintro _ _ ⟨rfl, rfl⟩
  change G k n0 _ h _ _ 7 [.val (.ref b), .val (.int (Int32.ofNat lo)), .val (.int (Int32.ofNat hi)), .val (.int x), .unset] []
  refine G.iloadN K D65_104_7 rfl ?_
  refine G.istore K D65_104_8 ([.val (.ref b), .val (.int (Int32.ofNat lo)), .val (.int (Int32.ofNat hi)), .val (.int x), .val (.int (Int32.ofNat lo))]) rfl ?_
  have loop : ∀ (j i : Nat) (h2 : Heap), i + j = hi → lo ≤ i → Hp n0 h2 ((b, Ia Z (lst n (fil F lo i x))) :: σ) → G k n0 (fun v h' => v = none ∧ Hp n0 h' ((b, Ia Z (lst n (fil F lo hi x))) :: σ)) h2 0 0 10 [.val (.ref b), .val (.int (Int32.ofNat lo)), .val (.int (Int32.ofNat hi)), .val (.int x), .val (.int (Int32.ofNat i))] [] := by
    intro j
    induction j with
    | zero =>
      intro i h2 hj hlo H2
      obtain rfl : hi = i := by omega
      refine G.iload K D65_104_10 rfl ?_
      refine G.iloadN K D65_104_12 rfl ?_
      refine G.icmp_ge K D65_104_13 (fun q12 => ?_) (fun q => absurd ((own_nlt (by omega) (by omega)).mp q) (by omega))
      refine G.ret_void K D65_104_27 ?_
      exact ⟨rfl, H2⟩
    | succ j ih =>
      intro i h2 hj hlo H2
      have hp : i < 2147483648 := by omega
      refine G.iload K D65_104_10 rfl ?_
      refine G.iloadN K D65_104_12 rfl ?_
      refine G.icmp_ge K D65_104_13 (fun q => absurd ((own_nlt (by omega) (by omega)).mpr (by omega)) q) (fun q13 => ?_)
      refine G.aloadN K D65_104_16 rfl rfl ?_
      refine G.iload K D65_104_17 rfl ?_
      refine G.iloadN K D65_104_19 rfl ?_
      refine G.astore_i K H2 (i := 0) rfl (own_nneg hp) (by rw [own_nidx hp, lst_len]; omega) D65_104_20 ?_
      intro h14 H14
      rw [own_nidx hp, lst_set _ (by omega), fil_next F lo i x hlo] at H14
      change Hp n0 h14 ((b, Ia Z (lst n (fil F lo (i + 1) x))) :: σ) at H14
      refine G.iinc K D65_104_21 1 rfl rfl ([.val (.ref b), .val (.int (Int32.ofNat lo)), .val (.int (Int32.ofNat hi)), .val (.int x), .val (.int ((Int32.ofNat i) + 1))]) rfl ?_
      refine G.goto K D65_104_24 ?_
      rw [own_nsucc i]
      exact ih (i + 1) _ (by omega) (by omega) H14
  exact loop (hi - lo) lo _ (by omega) (by omega) (by rw [← fil_none]; exact H)
theorem D25_1_0 : Dc prog_25_method_1_code 0 (.aload_n 0) 1 1 := dc (by decide +kernel) rfl
theorem D25_1_1 : Dc prog_25_method_1_code 1 (.invokespecial 1) 3 4 := dc (by decide +kernel) rfl
theorem D25_1_4 : Dc prog_25_method_1_code 4 (.aload_n 0) 1 5 := dc (by decide +kernel) rfl
theorem D25_1_5 : Dc prog_25_method_1_code 5 (.bipush 16) 2 7 := dc (by decide +kernel) rfl
theorem D25_1_7 : Dc prog_25_method_1_code 7 (.anewarray 7) 3 10 := dc (by decide +kernel) rfl
theorem D25_1_10 : Dc prog_25_method_1_code 10 (.putfield 9) 3 13 := dc (by decide +kernel) rfl
theorem D25_1_13 : Dc prog_25_method_1_code 13 (.aload_n 0) 1 14 := dc (by decide +kernel) rfl
theorem D25_1_14 : Dc prog_25_method_1_code 14 (.bipush 16) 2 16 := dc (by decide +kernel) rfl
theorem D25_1_16 : Dc prog_25_method_1_code 16 (.newarray .int) 2 18 := dc (by decide +kernel) rfl
theorem D25_1_18 : Dc prog_25_method_1_code 18 (.putfield 15) 3 21 := dc (by decide +kernel) rfl
theorem D25_1_21 : Dc prog_25_method_1_code 21 (.aload_n 0) 1 22 := dc (by decide +kernel) rfl
theorem D25_1_22 : Dc prog_25_method_1_code 22 (.bipush 16) 2 24 := dc (by decide +kernel) rfl
theorem D25_1_24 : Dc prog_25_method_1_code 24 (.newarray .int) 2 26 := dc (by decide +kernel) rfl
theorem D25_1_26 : Dc prog_25_method_1_code 26 (.putfield 19) 3 29 := dc (by decide +kernel) rfl
theorem D25_1_29 : Dc prog_25_method_1_code 29 (.aload_n 0) 1 30 := dc (by decide +kernel) rfl
theorem D25_1_30 : Dc prog_25_method_1_code 30 (.bipush 16) 2 32 := dc (by decide +kernel) rfl
theorem D25_1_32 : Dc prog_25_method_1_code 32 (.newarray .int) 2 34 := dc (by decide +kernel) rfl
theorem D25_1_34 : Dc prog_25_method_1_code 34 (.putfield 22) 3 37 := dc (by decide +kernel) rfl
theorem D25_1_37 : Dc prog_25_method_1_code 37 (.aload_n 0) 1 38 := dc (by decide +kernel) rfl
theorem D25_1_38 : Dc prog_25_method_1_code 38 (.iconst 0) 1 39 := dc (by decide +kernel) rfl
theorem D25_1_39 : Dc prog_25_method_1_code 39 (.newarray .int) 2 41 := dc (by decide +kernel) rfl
theorem D25_1_41 : Dc prog_25_method_1_code 41 (.putfield 25) 3 44 := dc (by decide +kernel) rfl
theorem D25_1_44 : Dc prog_25_method_1_code 44 (.aload_n 0) 1 45 := dc (by decide +kernel) rfl
theorem D25_1_45 : Dc prog_25_method_1_code 45 (.iconst 0) 1 46 := dc (by decide +kernel) rfl
theorem D25_1_46 : Dc prog_25_method_1_code 46 (.newarray .int) 2 48 := dc (by decide +kernel) rfl
theorem D25_1_48 : Dc prog_25_method_1_code 48 (.putfield 28) 3 51 := dc (by decide +kernel) rfl
theorem D25_1_51 : Dc prog_25_method_1_code 51 (.return_) 1 52 := dc (by decide +kernel) rfl
theorem pn_1 : plainName "com/example/rankwise/rankwise/engine/KeptItems" = true := by first | (simp [plainName, overriddenIn]; done) | decide +kernel
set_option maxRecDepth 65536 in
set_option maxHeartbeats 40000000 in
theorem ct_new (l : Launch) (Z : State) (a0 : Array Value) (hw : ∀ d ∈ tables_1, d.before a0 Z = true) (n0 : Nat) (h : Heap) (a : Addr) (σ : List Ch) (H : Hp n0 h ((a, Ob Z "com/example/rankwise/rankwise/engine/KeptItems" NSI [.null, .null, .null, .null, .int 0, .null, .null]) :: σ)) :
    Ct l Z n0 (⟨"com/example/rankwise/rankwise/engine/KeptItems", "<init>", "()V"⟩ : MethodName) prog_25_method_1_code 1 none ({ frames := 1, cells := 6, slots := 64, locals := 12 } : Room) [.ref a] h (fun v h' => v = none ∧ ∃ ia ka ea la fa ga : Addr, Hp n0 h' ((a, Ob Z "com/example/rankwise/rankwise/engine/KeptItems" NSI [.ref ia, .ref ka, .ref ea, .ref la, .int 0, .ref fa, .ref ga]) :: (ia, Ra Z "com/example/rankwise/rankwise/engine/Ranked" (lst 16 (fun _ => Value.null))) :: (ka, Ia Z (lst 16 (fun _ => 0))) :: (ea, Ia Z (lst 16 (fun _ => 0))) :: (la, Ia Z (lst 16 (fun _ => 0))) :: (fa, Ia Z (lst 0 (fun _ => -1))) :: (ga, Ia Z (lst 0 (fun _ => -1))) :: σ)) := by
  refine Ct.intro (plainFor_of_name pn_1) [.val (.ref a)] (fun m => by first | (simp [entryFrame, mkF, argsToLocals, Value.category]; done) | (simp [entryFrame, mkF, argsToLocals, Value.category, maxLocals]; done) | rfl) ?_
  intro k hl K
  replace K : Ok k Z n0 "com/example/rankwise/rankwise/engine/KeptItems" ({ frames := 1, cells := 6, slots := 64, locals := 12 } : Room) prog_25_method_1_code 1 none "<init>" := K
  refine G.aloadN K D25_1_0 rfl rfl ?_
  refine G.initO K (wd hw 6 rfl) (wd hw 7 rfl) (wd hw 8 rfl) rfl 0 rfl (by decide) (by decide) D25_1_1 ?_
  refine G.aloadN K D25_1_4 rfl rfl ?_
  refine G.bipush K D25_1_5 16 rfl ?_
  refine G.anewarr K (wd hw 9 rfl) (wd hw 10 rfl) H (by decide) 16 (by decide) (by decide) (by decide) (by decide) D25_1_7 ?_
  intro a15 h16 H16
  rw [lst_rep] at H16
  change Hp n0 h16 ((a15, Ra Z "com/example/rankwise/rankwise/engine/Ranked" (lst 16 (fun _ => Value.null))) :: (a, Ob Z "com/example/rankwise/rankwise/engine/KeptItems" NSI [.null, .null, .null, .null, .int 0, .null, .null]) :: σ) at H16
  refine G.putF K (host := "") (Or.inl (wd hw 11 rfl)) (cf_NSI hw) (Or.inl (wd hw 12 rfl)) (wd hw 1 rfl) H16 (i := 1) rfl (j := 0) rfl rfl (ty := (.array (.object "com/example/rankwise/rankwise/engine/Ranked"))) (by decide) rfl rfl D25_1_10 ?_
  intro h17 H17
  change Hp n0 h17 ((a15, Ra Z "com/example/rankwise/rankwise/engine/Ranked" (lst 16 (fun _ => Value.null))) :: (a, Ob Z "com/example/rankwise/rankwise/engine/KeptItems" NSI [.ref a15, .null, .null, .null, .int 0, .null, .null]) :: σ) at H17
  refine G.aloadN K D25_1_13 rfl rfl ?_
  refine G.bipush K D25_1_14 16 rfl ?_
  refine G.newarr_i K (wd hw 13 rfl) H17 (by decide) 16 (by decide) (by decide) (by decide) (by decide) D25_1_16 ?_
  intro a18 h19 H19
  change Hp n0 h19 ((a18, Ia Z [0, 0, 0, 0, 0, 0, 0, 0, 0, 0, 0, 0, 0, 0, 0, 0]) :: (a15, Ra Z "com/example/rankwise/rankwise/engine/Ranked" (lst 16 (fun _ => Value.null))) :: (a, Ob Z "com/example/rankwise/rankwise/engine/KeptItems" NSI [.ref a15, .null, .null, .null, .int 0, .null, .null]) :: σ) at H19
  refine G.putF K (host := "") (Or.inl (wd hw 14 rfl)) (cf_NSI hw) (Or.inl (wd hw 15 rfl)) (wd hw 1 rfl) H19 (i := 2) rfl (j := 1) rfl rfl (ty := (.array .int)) (by decide) rfl rfl D25_1_18 ?_
  intro h20 H20
  change Hp n0 h20 ((a18, Ia Z [0, 0, 0, 0, 0, 0, 0, 0, 0, 0, 0, 0, 0, 0, 0, 0]) :: (a15, Ra Z "com/example/rankwise/rankwise/engine/Ranked" (lst 16 (fun _ => Value.null))) :: (a, Ob Z "com/example/rankwise/rankwise/engine/KeptItems" NSI [.ref a15, .ref a18, .null, .null, .int 0, .null, .null]) :: σ) at H20
  refine G.aloadN K D25_1_21 rfl rfl ?_
  refine G.bipush K D25_1_22 16 rfl ?_
  refine G.newarr_i K (wd hw 13 rfl) H20 (by decide) 16 (by decide) (by decide) (by decide) (by decide) D25_1_24 ?_
  intro a21 h22 H22
  change Hp n0 h22 ((a21, Ia Z [0, 0, 0, 0, 0, 0, 0, 0, 0, 0, 0, 0, 0, 0, 0, 0]) :: (a18, Ia Z [0, 0, 0, 0, 0, 0, 0, 0, 0, 0, 0, 0, 0, 0, 0, 0]) :: (a15, Ra Z "com/example/rankwise/rankwise/engine/Ranked" (lst 16 (fun _ => Value.null))) :: (a, Ob Z "com/example/rankwise/rankwise/engine/KeptItems" NSI [.ref a15, .ref a18, .null, .null, .int 0, .null, .null]) :: σ) at H22
  refine G.putF K (host := "") (Or.inl (wd hw 16 rfl)) (cf_NSI hw) (Or.inl (wd hw 17 rfl)) (wd hw 1 rfl) H22 (i := 3) rfl (j := 2) rfl rfl (ty := (.array .int)) (by decide) rfl rfl D25_1_26 ?_
  intro h23 H23
  change Hp n0 h23 ((a21, Ia Z [0, 0, 0, 0, 0, 0, 0, 0, 0, 0, 0, 0, 0, 0, 0, 0]) :: (a18, Ia Z [0, 0, 0, 0, 0, 0, 0, 0, 0, 0, 0, 0, 0, 0, 0, 0]) :: (a15, Ra Z "com/example/rankwise/rankwise/engine/Ranked" (lst 16 (fun _ => Value.null))) :: (a, Ob Z "com/example/rankwise/rankwise/engine/KeptItems" NSI [.ref a15, .ref a18, .ref a21, .null, .int 0, .null, .null]) :: σ) at H23
  refine G.aloadN K D25_1_29 rfl rfl ?_
  refine G.bipush K D25_1_30 16 rfl ?_
  refine G.newarr_i K (wd hw 13 rfl) H23 (by decide) 16 (by decide) (by decide) (by decide) (by decide) D25_1_32 ?_
  intro a24 h25 H25
  change Hp n0 h25 ((a24, Ia Z [0, 0, 0, 0, 0, 0, 0, 0, 0, 0, 0, 0, 0, 0, 0, 0]) :: (a21, Ia Z [0, 0, 0, 0, 0, 0, 0, 0, 0, 0, 0, 0, 0, 0, 0, 0]) :: (a18, Ia Z [0, 0, 0, 0, 0, 0, 0, 0, 0, 0, 0, 0, 0, 0, 0, 0]) :: (a15, Ra Z "com/example/rankwise/rankwise/engine/Ranked" (lst 16 (fun _ => Value.null))) :: (a, Ob Z "com/example/rankwise/rankwise/engine/KeptItems" NSI [.ref a15, .ref a18, .ref a21, .null, .int 0, .null, .null]) :: σ) at H25
  refine G.putF K (host := "") (Or.inl (wd hw 18 rfl)) (cf_NSI hw) (Or.inl (wd hw 19 rfl)) (wd hw 1 rfl) H25 (i := 4) rfl (j := 3) rfl rfl (ty := (.array .int)) (by decide) rfl rfl D25_1_34 ?_
  intro h26 H26
  change Hp n0 h26 ((a24, Ia Z [0, 0, 0, 0, 0, 0, 0, 0, 0, 0, 0, 0, 0, 0, 0, 0]) :: (a21, Ia Z [0, 0, 0, 0, 0, 0, 0, 0, 0, 0, 0, 0, 0, 0, 0, 0]) :: (a18, Ia Z [0, 0, 0, 0, 0, 0, 0, 0, 0, 0, 0, 0, 0, 0, 0, 0]) :: (a15, Ra Z "com/example/rankwise/rankwise/engine/Ranked" (lst 16 (fun _ => Value.null))) :: (a, Ob Z "com/example/rankwise/rankwise/engine/KeptItems" NSI [.ref a15, .ref a18, .ref a21, .ref a24, .int 0, .null, .null]) :: σ) at H26
  refine G.aloadN K D25_1_37 rfl rfl ?_
  refine G.iconst K D25_1_38 0 rfl ?_
  refine G.newarr_i K (wd hw 13 rfl) H26 (by decide) 0 (by decide) (by decide) (by decide) (by decide) D25_1_39 ?_
  intro a27 h28 H28
  change Hp n0 h28 ((a27, Ia Z []) :: (a24, Ia Z [0, 0, 0, 0, 0, 0, 0, 0, 0, 0, 0, 0, 0, 0, 0, 0]) :: (a21, Ia Z [0, 0, 0, 0, 0, 0, 0, 0, 0, 0, 0, 0, 0, 0, 0, 0]) :: (a18, Ia Z [0, 0, 0, 0, 0, 0, 0, 0, 0, 0, 0, 0, 0, 0, 0, 0]) :: (a15, Ra Z "com/example/rankwise/rankwise/engine/Ranked" (lst 16 (fun _ => Value.null))) :: (a, Ob Z "com/example/rankwise/rankwise/engine/KeptItems" NSI [.ref a15, .ref a18, .ref a21, .ref a24, .int 0, .null, .null]) :: σ) at H28
  refine G.putF K (host := "") (Or.inl (wd hw 20 rfl)) (cf_NSI hw) (Or.inl (wd hw 21 rfl)) (wd hw 1 rfl) H28 (i := 5) rfl (j := 5) rfl rfl (ty := (.array .int)) (by decide) rfl rfl D25_1_41 ?_
  intro h29 H29
  change Hp n0 h29 ((a27, Ia Z []) :: (a24, Ia Z [0, 0, 0, 0, 0, 0, 0, 0, 0, 0, 0, 0, 0, 0, 0, 0]) :: (a21, Ia Z [0, 0, 0, 0, 0, 0, 0, 0, 0, 0, 0, 0, 0, 0, 0, 0]) :: (a18, Ia Z [0, 0, 0, 0, 0, 0, 0, 0, 0, 0, 0, 0, 0, 0, 0, 0]) :: (a15, Ra Z "com/example/rankwise/rankwise/engine/Ranked" (lst 16 (fun _ => Value.null))) :: (a, Ob Z "com/example/rankwise/rankwise/engine/KeptItems" NSI [.ref a15, .ref a18, .ref a21, .ref a24, .int 0, .ref a27, .null]) :: σ) at H29
  refine G.aloadN K D25_1_44 rfl rfl ?_
  refine G.iconst K D25_1_45 0 rfl ?_
  refine G.newarr_i K (wd hw 13 rfl) H29 (by decide) 0 (by decide) (by decide) (by decide) (by decide) D25_1_46 ?_
  intro a30 h31 H31
  change Hp n0 h31 ((a30, Ia Z []) :: (a27, Ia Z []) :: (a24, Ia Z [0, 0, 0, 0, 0, 0, 0, 0, 0, 0, 0, 0, 0, 0, 0, 0]) :: (a21, Ia Z [0, 0, 0, 0, 0, 0, 0, 0, 0, 0, 0, 0, 0, 0, 0, 0]) :: (a18, Ia Z [0, 0, 0, 0, 0, 0, 0, 0, 0, 0, 0, 0, 0, 0, 0, 0]) :: (a15, Ra Z "com/example/rankwise/rankwise/engine/Ranked" (lst 16 (fun _ => Value.null))) :: (a, Ob Z "com/example/rankwise/rankwise/engine/KeptItems" NSI [.ref a15, .ref a18, .ref a21, .ref a24, .int 0, .ref a27, .null]) :: σ) at H31
  refine G.putF K (host := "") (Or.inl (wd hw 22 rfl)) (cf_NSI hw) (Or.inl (wd hw 23 rfl)) (wd hw 1 rfl) H31 (i := 6) rfl (j := 6) rfl rfl (ty := (.array .int)) (by decide) rfl rfl D25_1_48 ?_
  intro h32 H32
  change Hp n0 h32 ((a30, Ia Z []) :: (a27, Ia Z []) :: (a24, Ia Z [0, 0, 0, 0, 0, 0, 0, 0, 0, 0, 0, 0, 0, 0, 0, 0]) :: (a21, Ia Z [0, 0, 0, 0, 0, 0, 0, 0, 0, 0, 0, 0, 0, 0, 0, 0]) :: (a18, Ia Z [0, 0, 0, 0, 0, 0, 0, 0, 0, 0, 0, 0, 0, 0, 0, 0]) :: (a15, Ra Z "com/example/rankwise/rankwise/engine/Ranked" (lst 16 (fun _ => Value.null))) :: (a, Ob Z "com/example/rankwise/rankwise/engine/KeptItems" NSI [.ref a15, .ref a18, .ref a21, .ref a24, .int 0, .ref a27, .ref a30]) :: σ) at H32
  refine G.ret_void K D25_1_51 ?_
  have H33 : Hp n0 h32 ((a27, Ia Z []) :: (a30, Ia Z []) :: (a24, Ia Z [0, 0, 0, 0, 0, 0, 0, 0, 0, 0, 0, 0, 0, 0, 0, 0]) :: (a21, Ia Z [0, 0, 0, 0, 0, 0, 0, 0, 0, 0, 0, 0, 0, 0, 0, 0]) :: (a18, Ia Z [0, 0, 0, 0, 0, 0, 0, 0, 0, 0, 0, 0, 0, 0, 0, 0]) :: (a15, Ra Z "com/example/rankwise/rankwise/engine/Ranked" (lst 16 (fun _ => Value.null))) :: (a, Ob Z "com/example/rankwise/rankwise/engine/KeptItems" NSI [.ref a15, .ref a18, .ref a21, .ref a24, .int 0, .ref a27, .ref a30]) :: σ) := H32.pull 1 rfl
  have H34 : Hp n0 h32 ((a24, Ia Z [0, 0, 0, 0, 0, 0, 0, 0, 0, 0, 0, 0, 0, 0, 0, 0]) :: (a27, Ia Z []) :: (a30, Ia Z []) :: (a21, Ia Z [0, 0, 0, 0, 0, 0, 0, 0, 0, 0, 0, 0, 0, 0, 0, 0]) :: (a18, Ia Z [0, 0, 0, 0, 0, 0, 0, 0, 0, 0, 0, 0, 0, 0, 0, 0]) :: (a15, Ra Z "com/example/rankwise/rankwise/engine/Ranked" (lst 16 (fun _ => Value.null))) :: (a, Ob Z "com/example/rankwise/rankwise/engine/KeptItems" NSI [.ref a15, .ref a18, .ref a21, .ref a24, .int 0, .ref a27, .ref a30]) :: σ) := H33.pull 2 rfl
  have H35 : Hp n0 h32 ((a21, Ia Z [0, 0, 0, 0, 0, 0, 0, 0, 0, 0, 0, 0, 0, 0, 0, 0]) :: (a24, Ia Z [0, 0, 0, 0, 0, 0, 0, 0, 0, 0, 0, 0, 0, 0, 0, 0]) :: (a27, Ia Z []) :: (a30, Ia Z []) :: (a18, Ia Z [0, 0, 0, 0, 0, 0, 0, 0, 0, 0, 0, 0, 0, 0, 0, 0]) :: (a15, Ra Z "com/example/rankwise/rankwise/engine/Ranked" (lst 16 (fun _ => Value.null))) :: (a, Ob Z "com/example/rankwise/rankwise/engine/KeptItems" NSI [.ref a15, .ref a18, .ref a21, .ref a24, .int 0, .ref a27, .ref a30]) :: σ) := H34.pull 3 rfl
  have H36 : Hp n0 h32 ((a18, Ia Z [0, 0, 0, 0, 0, 0, 0, 0, 0, 0, 0, 0, 0, 0, 0, 0]) :: (a21, Ia Z [0, 0, 0, 0, 0, 0, 0, 0, 0, 0, 0, 0, 0, 0, 0, 0]) :: (a24, Ia Z [0, 0, 0, 0, 0, 0, 0, 0, 0, 0, 0, 0, 0, 0, 0, 0]) :: (a27, Ia Z []) :: (a30, Ia Z []) :: (a15, Ra Z "com/example/rankwise/rankwise/engine/Ranked" (lst 16 (fun _ => Value.null))) :: (a, Ob Z "com/example/rankwise/rankwise/engine/KeptItems" NSI [.ref a15, .ref a18, .ref a21, .ref a24, .int 0, .ref a27, .ref a30]) :: σ) := H35.pull 4 rfl
  have H37 : Hp n0 h32 ((a15, Ra Z "com/example/rankwise/rankwise/engine/Ranked" (lst 16 (fun _ => Value.null))) :: (a18, Ia Z [0, 0, 0, 0, 0, 0, 0, 0, 0, 0, 0, 0, 0, 0, 0, 0]) :: (a21, Ia Z [0, 0, 0, 0, 0, 0, 0, 0, 0, 0, 0, 0, 0, 0, 0, 0]) :: (a24, Ia Z [0, 0, 0, 0, 0, 0, 0, 0, 0, 0, 0, 0, 0, 0, 0, 0]) :: (a27, Ia Z []) :: (a30, Ia Z []) :: (a, Ob Z "com/example/rankwise/rankwise/engine/KeptItems" NSI [.ref a15, .ref a18, .ref a21, .ref a24, .int 0, .ref a27, .ref a30]) :: σ) := H36.pull 5 rfl
  have H38 : Hp n0 h32 ((a, Ob Z "com/example/rankwise/rankwise/engine/KeptItems" NSI [.ref a15, .ref a18, .ref a21, .ref a24, .int 0, .ref a27, .ref a30]) :: (a15, Ra Z "com/example/rankwise/rankwise/engine/Ranked" (lst 16 (fun _ => Value.null))) :: (a18, Ia Z [0, 0, 0, 0, 0, 0, 0, 0, 0, 0, 0, 0, 0, 0, 0, 0]) :: (a21, Ia Z [0, 0, 0, 0, 0, 0, 0, 0, 0, 0, 0, 0, 0, 0, 0, 0]) :: (a24, Ia Z [0, 0, 0, 0, 0, 0, 0, 0, 0, 0, 0, 0, 0, 0, 0, 0]) :: (a27, Ia Z []) :: (a30, Ia Z []) :: σ) := H37.pull 6 rfl
  exact ⟨rfl, _, _, _, _, _, _, H38⟩
theorem D25_3_0 : Dc prog_25_method_3_code 0 (.iload_n 1) 1 1 := dc (by decide +kernel) rfl
theorem D25_3_1 : Dc prog_25_method_3_code 1 (.aload_n 0) 1 2 := dc (by decide +kernel) rfl
theorem D25_3_2 : Dc prog_25_method_3_code 2 (.getfield 25) 3 5 := dc (by decide +kernel) rfl
theorem D25_3_5 : Dc prog_25_method_3_code 5 (.arraylength) 1 6 := dc (by decide +kernel) rfl
theorem D25_3_6 : Db prog_25_method_3_code 6 (.if_icmp .ge) 9 18 := db (12) (by decide +kernel) rfl (by decide) (by decide)
theorem D25_3_9 : Dc prog_25_method_3_code 9 (.aload_n 0) 1 10 := dc (by decide +kernel) rfl
theorem D25_3_10 : Dc prog_25_method_3_code 10 (.getfield 25) 3 13 := dc (by decide +kernel) rfl
theorem D25_3_13 : Dc prog_25_method_3_code 13 (.iload_n 1) 1 14 := dc (by decide +kernel) rfl
theorem D25_3_14 : Dc prog_25_method_3_code 14 (.iaload) 1 15 := dc (by decide +kernel) rfl
theorem D25_3_15 : Db prog_25_method_3_code 15 (.goto) 18 19 := db (4) (by decide +kernel) rfl (by decide) (by decide)
theorem D25_3_18 : Dc prog_25_method_3_code 18 (.iconst (-1)) 1 19 := dc (by decide +kernel) rfl
theorem D25_3_19 : Dc prog_25_method_3_code 19 (.ireturn) 1 20 := dc (by decide +kernel) rfl
set_option maxRecDepth 65536 in
set_option maxHeartbeats 40000000 in
theorem ct_first (l : Launch) (Z : State) (a0 : Array Value) (hw : ∀ d ∈ tables_1, d.before a0 Z = true) (n0 : Nat) (h : Heap) (a ia ka ea la fa ga : Addr) (sz : Int32) (L q : Nat) (IT : Nat → Value) (KO EA LT FO LO : Nat → Int32) (σ : List Ch) (hL : L ≤ 16) (hq : q < 2147483648) (hF : ∀ i, L ≤ i → FO i = -1) (H : Hp n0 h ((a, Ob Z "com/example/rankwise/rankwise/engine/KeptItems" NSI [.ref ia, .ref ka, .ref ea, .ref la, .int sz, .ref fa, .ref ga]) :: (ia, Ra Z "com/example/rankwise/rankwise/engine/Ranked" (lst 16 IT)) :: (ka, Ia Z (lst 16 KO)) :: (ea, Ia Z (lst 16 EA)) :: (la, Ia Z (lst 16 LT)) :: (fa, Ia Z (lst L FO)) :: (ga, Ia Z (lst L LO)) :: σ)) :
    Ct l Z n0 (⟨"com/example/rankwise/rankwise/engine/KeptItems", "first", "(I)I"⟩ : MethodName) prog_25_method_3_code 2 (some .int) ({ frames := 0, cells := 0, slots := 0, locals := 0 } : Room) [.ref a, .int (Int32.ofNat q)] h (fun v h' => v = some (.int (FO q)) ∧ Hp n0 h' ((a, Ob Z "com/example/rankwise/rankwise/engine/KeptItems" NSI [.ref ia, .ref ka, .ref ea, .ref la, .int sz, .ref fa, .ref ga]) :: (ia, Ra Z "com/example/rankwise/rankwise/engine/Ranked" (lst 16 IT)) :: (ka, Ia Z (lst 16 KO)) :: (ea, Ia Z (lst 16 EA)) :: (la, Ia Z (lst 16 LT)) :: (fa, Ia Z (lst L FO)) :: (ga, Ia Z (lst L LO)) :: σ)) := by
  refine Ct.intro (plainFor_of_name pn_1) [.val (.ref a), .val (.int (Int32.ofNat q))] (fun m => by first | (simp [entryFrame, mkF, argsToLocals, Value.category]; done) | (simp [entryFrame, mkF, argsToLocals, Value.category, maxLocals]; done) | rfl) ?_
  intro k hl K
  replace K : Ok k Z n0 "com/example/rankwise/rankwise/engine/KeptItems" ({ frames := 0, cells := 0, slots := 0, locals := 0 } : Room) prog_25_method_3_code 2 (some .int) "first" := K
  refine G.iloadN K D25_3_0 rfl ?_
  refine G.aloadN K D25_3_1 rfl rfl ?_
  refine G.getF K (host := "") (Or.inl (wd hw 20 rfl)) H (i := 0) rfl (j := 5) rfl rfl D25_3_2 ?_
  refine G.alen K H (i := 5) rfl D25_3_5 (Int32.ofNat L) (by rw [List.length_map, lst_len]) ?_
  refine G.icmp_ge K D25_3_6 (fun q39 => ?_) (fun q39 => ?_)
  · refine G.iconst K D25_3_18 (-1) rfl ?_
    refine G.ret_int K D25_3_19 ?_
    exact ⟨by rw [hF q (Nat.le_of_not_lt fun z => q39 ((own_nlt (by omega) (by omega)).mpr z))], H⟩
  · refine G.aloadN K D25_3_9 rfl rfl ?_
    refine G.getF K (host := "") (Or.inl (wd hw 20 rfl)) H (i := 0) rfl (j := 5) rfl rfl D25_3_10 ?_
    refine G.iloadN K D25_3_13 rfl ?_
    refine G.aload_i K H (i := 5) rfl (own_nneg hq) (by rw [own_nidx hq]; exact lst_get _ ((own_nlt hq (by omega)).mp q39)) D25_3_14 ?_
    refine G.goto K D25_3_15 ?_
    refine G.ret_int K D25_3_19 ?_
    exact ⟨rfl, H⟩
theorem D25_2_0 : Dc prog_25_method_2_code 0 (.aload_n 0) 1 1 := dc (by decide +kernel) rfl
theorem D25_2_1 : Dc prog_25_method_2_code 1 (.getfield 31) 3 4 := dc (by decide +kernel) rfl
theorem D25_2_4 : Dc prog_25_method_2_code 4 (.aload_n 0) 1 5 := dc (by decide +kernel) rfl
theorem D25_2_5 : Dc prog_25_method_2_code 5 (.getfield 9) 3 8 := dc (by decide +kernel) rfl
theorem D25_2_8 : Dc prog_25_method_2_code 8 (.arraylength) 1 9 := dc (by decide +kernel) rfl
theorem D25_2_9 : Db prog_25_method_2_code 9 (.if_icmp .ne) 12 70 := db (61) (by decide +kernel) rfl (by decide) (by decide)
theorem D25_2_12 : Dc prog_25_method_2_code 12 (.iconst 2) 1 13 := dc (by decide +kernel) rfl
theorem D25_2_13 : Dc prog_25_method_2_code 13 (.aload_n 0) 1 14 := dc (by decide +kernel) rfl
theorem D25_2_14 : Dc prog_25_method_2_code 14 (.getfield 31) 3 17 := dc (by decide +kernel) rfl
theorem D25_2_17 : Dc prog_25_method_2_code 17 (.imul) 1 18 := dc (by decide +kernel) rfl
theorem D25_2_18 : Dc prog_25_method_2_code 18 (.istore_n 3) 1 19 := dc (by decide +kernel) rfl
theorem D25_2_19 : Dc prog_25_method_2_code 19 (.aload_n 0) 1 20 := dc (by decide +kernel) rfl
theorem D25_2_20 : Dc prog_25_method_2_code 20 (.aload_n 0) 1 21 := dc (by decide +kernel) rfl
theorem D25_2_21 : Dc prog_25_method_2_code 21 (.getfield 9) 3 24 := dc (by decide +kernel) rfl
theorem D25_2_24 : Dc prog_25_method_2_code 24 (.iload_n 3) 1 25 := dc (by decide +kernel) rfl
theorem D25_2_25 : Dc prog_25_method_2_code 25 (.invokestatic 35) 3 28 := dc (by decide +kernel) rfl
theorem D25_2_28 : Dc prog_25_method_2_code 28 (.checkcast 41) 3 31 := dc (by decide +kernel) rfl
theorem D25_2_31 : Dc prog_25_method_2_code 31 (.putfield 9) 3 34 := dc (by decide +kernel) rfl
theorem D25_2_34 : Dc prog_25_method_2_code 34 (.aload_n 0) 1 35 := dc (by decide +kernel) rfl
theorem D25_2_35 : Dc prog_25_method_2_code 35 (.aload_n 0) 1 36 := dc (by decide +kernel) rfl
theorem D25_2_36 : Dc prog_25_method_2_code 36 (.getfield 15) 3 39 := dc (by decide +kernel) rfl
theorem D25_2_39 : Dc prog_25_method_2_code 39 (.iload_n 3) 1 40 := dc (by decide +kernel) rfl
theorem D25_2_40 : Dc prog_25_method_2_code 40 (.invokestatic 42) 3 43 := dc (by decide +kernel) rfl
theorem D25_2_43 : Dc prog_25_method_2_code 43 (.putfield 15) 3 46 := dc (by decide +kernel) rfl
theorem D25_2_46 : Dc prog_25_method_2_code 46 (.aload_n 0) 1 47 := dc (by decide +kernel) rfl
theorem D25_2_47 : Dc prog_25_method_2_code 47 (.aload_n 0) 1 48 := dc (by decide +kernel) rfl
theorem D25_2_48 : Dc prog_25_method_2_code 48 (.getfield 19) 3 51 := dc (by decide +kernel) rfl
theorem D25_2_51 : Dc prog_25_method_2_code 51 (.iload_n 3) 1 52 := dc (by decide +kernel) rfl
theorem D25_2_52 : Dc prog_25_method_2_code 52 (.invokestatic 42) 3 55 := dc (by decide +kernel) rfl
theorem D25_2_55 : Dc prog_25_method_2_code 55 (.putfield 19) 3 58 := dc (by decide +kernel) rfl
theorem D25_2_58 : Dc prog_25_method_2_code 58 (.aload_n 0) 1 59 := dc (by decide +kernel) rfl
theorem D25_2_59 : Dc prog_25_method_2_code 59 (.aload_n 0) 1 60 := dc (by decide +kernel) rfl
theorem D25_2_60 : Dc prog_25_method_2_code 60 (.getfield 22) 3 63 := dc (by decide +kernel) rfl
theorem D25_2_63 : Dc prog_25_method_2_code 63 (.iload_n 3) 1 64 := dc (by decide +kernel) rfl
theorem D25_2_64 : Dc prog_25_method_2_code 64 (.invokestatic 42) 3 67 := dc (by decide +kernel) rfl
theorem D25_2_67 : Dc prog_25_method_2_code 67 (.putfield 22) 3 70 := dc (by decide +kernel) rfl
theorem D25_2_70 : Dc prog_25_method_2_code 70 (.iload_n 1) 1 71 := dc (by decide +kernel) rfl
theorem D25_2_71 : Dc prog_25_method_2_code 71 (.aload_n 0) 1 72 := dc (by decide +kernel) rfl
theorem D25_2_72 : Dc prog_25_method_2_code 72 (.getfield 25) 3 75 := dc (by decide +kernel) rfl
theorem D25_2_75 : Dc prog_25_method_2_code 75 (.arraylength) 1 76 := dc (by decide +kernel) rfl
theorem D25_2_76 : Db prog_25_method_2_code 76 (.if_icmp .lt) 79 146 := db (70) (by decide +kernel) rfl (by decide) (by decide)
theorem D25_2_79 : Dc prog_25_method_2_code 79 (.iload_n 1) 1 80 := dc (by decide +kernel) rfl
theorem D25_2_80 : Dc prog_25_method_2_code 80 (.iconst 1) 1 81 := dc (by decide +kernel) rfl
theorem D25_2_81 : Dc prog_25_method_2_code 81 (.iadd) 1 82 := dc (by decide +kernel) rfl
theorem D25_2_82 : Dc prog_25_method_2_code 82 (.iconst 2) 1 83 := dc (by decide +kernel) rfl
theorem D25_2_83 : Dc prog_25_method_2_code 83 (.aload_n 0) 1 84 := dc (by decide +kernel) rfl
theorem D25_2_84 : Dc prog_25_method_2_code 84 (.getfield 25) 3 87 := dc (by decide +kernel) rfl
theorem D25_2_87 : Dc prog_25_method_2_code 87 (.arraylength) 1 88 := dc (by decide +kernel) rfl
theorem D25_2_88 : Dc prog_25_method_2_code 88 (.imul) 1 89 := dc (by decide +kernel) rfl
theorem D25_2_89 : Dc prog_25_method_2_code 89 (.invokestatic 45) 3 92 := dc (by decide +kernel) rfl
theorem D25_2_92 : Dc prog_25_method_2_code 92 (.istore_n 3) 1 93 := dc (by decide +kernel) rfl
theorem D25_2_93 : Dc prog_25_method_2_code 93 (.aload_n 0) 1 94 := dc (by decide +kernel) rfl
theorem D25_2_94 : Dc prog_25_method_2_code 94 (.getfield 25) 3 97 := dc (by decide +kernel) rfl
theorem D25_2_97 : Dc prog_25_method_2_code 97 (.arraylength) 1 98 := dc (by decide +kernel) rfl
theorem D25_2_98 : Dc prog_25_method_2_code 98 (.istore 4) 2 100 := dc (by decide +kernel) rfl
theorem D25_2_100 : Dc prog_25_method_2_code 100 (.aload_n 0) 1 101 := dc (by decide +kernel) rfl
theorem D25_2_101 : Dc prog_25_method_2_code 101 (.aload_n 0) 1 102 := dc (by decide +kernel) rfl
theorem D25_2_102 : Dc prog_25_method_2_code 102 (.getfield 25) 3 105 := dc (by decide +kernel) rfl
theorem D25_2_105 : Dc prog_25_method_2_code 105 (.iload_n 3) 1 106 := dc (by decide +kernel) rfl
theorem D25_2_106 : Dc prog_25_method_2_code 106 (.invokestatic 42) 3 109 := dc (by decide +kernel) rfl
theorem D25_2_109 : Dc prog_25_method_2_code 109 (.putfield 25) 3 112 := dc (by decide +kernel) rfl
theorem D25_2_112 : Dc prog_25_method_2_code 112 (.aload_n 0) 1 113 := dc (by decide +kernel) rfl
theorem D25_2_113 : Dc prog_25_method_2_code 113 (.aload_n 0) 1 114 := dc (by decide +kernel) rfl
theorem D25_2_114 : Dc prog_25_method_2_code 114 (.getfield 28) 3 117 := dc (by decide +kernel) rfl
theorem D25_2_117 : Dc prog_25_method_2_code 117 (.iload_n 3) 1 118 := dc (by decide +kernel) rfl
theorem D25_2_118 : Dc prog_25_method_2_code 118 (.invokestatic 42) 3 121 := dc (by decide +kernel) rfl
theorem D25_2_121 : Dc prog_25_method_2_code 121 (.putfield 28) 3 124 := dc (by decide +kernel) rfl
theorem D25_2_124 : Dc prog_25_method_2_code 124 (.aload_n 0) 1 125 := dc (by decide +kernel) rfl
theorem D25_2_125 : Dc prog_25_method_2_code 125 (.getfield 25) 3 128 := dc (by decide +kernel) rfl
theorem D25_2_128 : Dc prog_25_method_2_code 128 (.iload 4) 2 130 := dc (by decide +kernel) rfl
theorem D25_2_130 : Dc prog_25_method_2_code 130 (.iload_n 3) 1 131 := dc (by decide +kernel) rfl
theorem D25_2_131 : Dc prog_25_method_2_code 131 (.iconst (-1)) 1 132 := dc (by decide +kernel) rfl
theorem D25_2_132 : Dc prog_25_method_2_code 132 (.invokestatic 51) 3 135 := dc (by decide +kernel) rfl
theorem D25_2_135 : Dc prog_25_method_2_code 135 (.aload_n 0) 1 136 := dc (by decide +kernel) rfl
theorem D25_2_136 : Dc prog_25_method_2_code 136 (.getfield 28) 3 139 := dc (by decide +kernel) rfl
theorem D25_2_139 : Dc prog_25_method_2_code 139 (.iload 4) 2 141 := dc (by decide +kernel) rfl
theorem D25_2_141 : Dc prog_25_method_2_code 141 (.iload_n 3) 1 142 := dc (by decide +kernel) rfl
theorem D25_2_142 : Dc prog_25_method_2_code 142 (.iconst (-1)) 1 143 := dc (by decide +kernel) rfl
theorem D25_2_143 : Dc prog_25_method_2_code 143 (.invokestatic 51) 3 146 := dc (by decide +kernel) rfl
theorem D25_2_146 : Dc prog_25_method_2_code 146 (.aload_n 0) 1 147 := dc (by decide +kernel) rfl
theorem D25_2_147 : Dc prog_25_method_2_code 147 (.getfield 28) 3 150 := dc (by decide +kernel) rfl
theorem D25_2_150 : Dc prog_25_method_2_code 150 (.iload_n 1) 1 151 := dc (by decide +kernel) rfl
theorem D25_2_151 : Dc prog_25_method_2_code 151 (.iaload) 1 152 := dc (by decide +kernel) rfl
theorem D25_2_152 : Dc prog_25_method_2_code 152 (.istore_n 3) 1 153 := dc (by decide +kernel) rfl
theorem D25_2_153 : Dc prog_25_method_2_code 153 (.aload_n 0) 1 154 := dc (by decide +kernel) rfl
theorem D25_2_154 : Dc prog_25_method_2_code 154 (.getfield 9) 3 157 := dc (by decide +kernel) rfl
theorem D25_2_157 : Dc prog_25_method_2_code 157 (.aload_n 0) 1 158 := dc (by decide +kernel) rfl
theorem D25_2_158 : Dc prog_25_method_2_code 158 (.getfield 31) 3 161 := dc (by decide +kernel) rfl
theorem D25_2_161 : Dc prog_25_method_2_code 161 (.aload_n 2) 1 162 := dc (by decide +kernel) rfl
theorem D25_2_162 : Dc prog_25_method_2_code 162 (.aastore) 1 163 := dc (by decide +kernel) rfl
theorem D25_2_163 : Dc prog_25_method_2_code 163 (.aload_n 0) 1 164 := dc (by decide +kernel) rfl
theorem D25_2_164 : Dc prog_25_method_2_code 164 (.getfield 15) 3 167 := dc (by decide +kernel) rfl
theorem D25_2_167 : Dc prog_25_method_2_code 167 (.aload_n 0) 1 168 := dc (by decide +kernel) rfl
theorem D25_2_168 : Dc prog_25_method_2_code 168 (.getfield 31) 3 171 := dc (by decide +kernel) rfl
theorem D25_2_171 : Dc prog_25_method_2_code 171 (.iload_n 1) 1 172 := dc (by decide +kernel) rfl
theorem D25_2_172 : Dc prog_25_method_2_code 172 (.iastore) 1 173 := dc (by decide +kernel) rfl
theorem D25_2_173 : Dc prog_25_method_2_code 173 (.aload_n 0) 1 174 := dc (by decide +kernel) rfl
theorem D25_2_174 : Dc prog_25_method_2_code 174 (.getfield 19) 3 177 := dc (by decide +kernel) rfl
theorem D25_2_177 : Dc prog_25_method_2_code 177 (.aload_n 0) 1 178 := dc (by decide +kernel) rfl
theorem D25_2_178 : Dc prog_25_method_2_code 178 (.getfield 31) 3 181 := dc (by decide +kernel) rfl
theorem D25_2_181 : Dc prog_25_method_2_code 181 (.iload_n 3) 1 182 := dc (by decide +kernel) rfl
theorem D25_2_182 : Dc prog_25_method_2_code 182 (.iastore) 1 183 := dc (by decide +kernel) rfl
theorem D25_2_183 : Dc prog_25_method_2_code 183 (.aload_n 0) 1 184 := dc (by decide +kernel) rfl
theorem D25_2_184 : Dc prog_25_method_2_code 184 (.getfield 22) 3 187 := dc (by decide +kernel) rfl
theorem D25_2_187 : Dc prog_25_method_2_code 187 (.aload_n 0) 1 188 := dc (by decide +kernel) rfl
theorem D25_2_188 : Dc prog_25_method_2_code 188 (.getfield 31) 3 191 := dc (by decide +kernel) rfl
theorem D25_2_191 : Dc prog_25_method_2_code 191 (.iconst (-1)) 1 192 := dc (by decide +kernel) rfl
theorem D25_2_192 : Dc prog_25_method_2_code 192 (.iastore) 1 193 := dc (by decide +kernel) rfl
theorem D25_2_193 : Dc prog_25_method_2_code 193 (.iload_n 3) 1 194 := dc (by decide +kernel) rfl
theorem D25_2_194 : Db prog_25_method_2_code 194 (.ifCond .lt) 197 210 := db (16) (by decide +kernel) rfl (by decide) (by decide)
theorem D25_2_197 : Dc prog_25_method_2_code 197 (.aload_n 0) 1 198 := dc (by decide +kernel) rfl
theorem D25_2_198 : Dc prog_25_method_2_code 198 (.getfield 22) 3 201 := dc (by decide +kernel) rfl
theorem D25_2_201 : Dc prog_25_method_2_code 201 (.iload_n 3) 1 202 := dc (by decide +kernel) rfl
theorem D25_2_202 : Dc prog_25_method_2_code 202 (.aload_n 0) 1 203 := dc (by decide +kernel) rfl
theorem D25_2_203 : Dc prog_25_method_2_code 203 (.getfield 31) 3 206 := dc (by decide +kernel) rfl
theorem D25_2_206 : Dc prog_25_method_2_code 206 (.iastore) 1 207 := dc (by decide +kernel) rfl
theorem D25_2_207 : Db prog_25_method_2_code 207 (.goto) 210 220 := db (13) (by decide +kernel) rfl (by decide) (by decide)
theorem D25_2_210 : Dc prog_25_method_2_code 210 (.aload_n 0) 1 211 := dc (by decide +kernel) rfl
theorem D25_2_211 : Dc prog_25_method_2_code 211 (.getfield 25) 3 214 := dc (by decide +kernel) rfl
theorem D25_2_214 : Dc prog_25_method_2_code 214 (.iload_n 1) 1 215 := dc (by decide +kernel) rfl
theorem D25_2_215 : Dc prog_25_method_2_code 215 (.aload_n 0) 1 216 := dc (by decide +kernel) rfl
theorem D25_2_216 : Dc prog_25_method_2_code 216 (.getfield 31) 3 219 := dc (by decide +kernel) rfl
theorem D25_2_219 : Dc prog_25_method_2_code 219 (.iastore) 1 220 := dc (by decide +kernel) rfl
theorem D25_2_220 : Dc prog_25_method_2_code 220 (.aload_n 0) 1 221 := dc (by decide +kernel) rfl
theorem D25_2_221 : Dc prog_25_method_2_code 221 (.getfield 28) 3 224 := dc (by decide +kernel) rfl
theorem D25_2_224 : Dc prog_25_method_2_code 224 (.iload_n 1) 1 225 := dc (by decide +kernel) rfl
theorem D25_2_225 : Dc prog_25_method_2_code 225 (.aload_n 0) 1 226 := dc (by decide +kernel) rfl
theorem D25_2_226 : Dc prog_25_method_2_code 226 (.getfield 31) 3 229 := dc (by decide +kernel) rfl
theorem D25_2_229 : Dc prog_25_method_2_code 229 (.iastore) 1 230 := dc (by decide +kernel) rfl
theorem D25_2_230 : Dc prog_25_method_2_code 230 (.aload_n 0) 1 231 := dc (by decide +kernel) rfl
theorem D25_2_231 : Dc prog_25_method_2_code 231 (.dup) 1 232 := dc (by decide +kernel) rfl
theorem D25_2_232 : Dc prog_25_method_2_code 232 (.getfield 31) 3 235 := dc (by decide +kernel) rfl
theorem D25_2_235 : Dc prog_25_method_2_code 235 (.iconst 1) 1 236 := dc (by decide +kernel) rfl
theorem D25_2_236 : Dc prog_25_method_2_code 236 (.iadd) 1 237 := dc (by decide +kernel) rfl
theorem D25_2_237 : Dc prog_25_method_2_code 237 (.putfield 31) 3 240 := dc (by decide +kernel) rfl
theorem D25_2_240 : Dc prog_25_method_2_code 240 (.return_) 1 241 := dc (by decide +kernel) rfl
theorem own_nmax {a b : Nat} (ha : a < 2147483648) (hb : b < 2147483648) : (if Int32.ofNat a < Int32.ofNat b then Int32.ofNat b else Int32.ofNat a) = Int32.ofNat (max a b) := by
  by_cases q : a < b
  · rw [if_pos ((own_nlt ha hb).mpr q), Nat.max_eq_right (by omega)]
  · rw [if_neg (fun z => q ((own_nlt ha hb).mp z)), Nat.max_eq_left (by omega)]
set_option maxRecDepth 65536 in
set_option maxHeartbeats 40000000 in
theorem ct_add (l : Launch) (Z : State) (a0 : Array Value) (hw : ∀ d ∈ tables_1, d.before a0 Z = true) (n0 : Nat) (h : Heap) (a ia ka ea la fa ga : Addr) (it : Addr) (s L q : Nat) (IT : Nat → Value) (KO EA LT FO LO : Nat → Int32) (vr : List Value) (σ : List Ch) (hs : s < 15) (hL : L ≤ 14) (hq : q ≤ 7) (hF : ∀ i, L ≤ i → FO i = -1) (hO : ∀ i, L ≤ i → LO i = -1) (hI : ∀ i, Ix s (LO i)) (H : Hp n0 h ((a, Ob Z "com/example/rankwise/rankwise/engine/KeptItems" NSI [.ref ia, .ref ka, .ref ea, .ref la, .int (Int32.ofNat s), .ref fa, .ref ga]) :: (ia, Ra Z "com/example/rankwise/rankwise/engine/Ranked" (lst 16 IT)) :: (ka, Ia Z (lst 16 KO)) :: (ea, Ia Z (lst 16 EA)) :: (la, Ia Z (lst 16 LT)) :: (fa, Ia Z (lst L FO)) :: (ga, Ia Z (lst L LO)) :: (it, Ob Z "com/example/rankwise/rankwise/engine/Ranked" NSR vr) :: σ)) :
    Ct l Z n0 (⟨"com/example/rankwise/rankwise/engine/KeptItems", "add", "(ILcom/example/rankwise/rankwise/engine/Ranked;)V"⟩ : MethodName) prog_25_method_2_code 5 none ({ frames := 2, cells := 2, slots := 32, locals := 60 } : Room) [.ref a, .int (Int32.ofNat q), .ref it] h (fun v h' => v = none ∧ ∃ (fb gb : Addr) (L' : Nat), L ≤ L' ∧ q < L' ∧ L' ≤ 14 ∧ Hp n0 h' ((a, Ob Z "com/example/rankwise/rankwise/engine/KeptItems" NSI [.ref ia, .ref ka, .ref ea, .ref la, .int (Int32.ofNat (s + 1)), .ref fb, .ref gb]) :: (ia, Ra Z "com/example/rankwise/rankwise/engine/Ranked" (lst 16 (fup IT s (Value.ref it)))) :: (ka, Ia Z (lst 16 (fup KO s (Int32.ofNat q)))) :: (ea, Ia Z (lst 16 (fup EA s (LO q)))) :: (la, Ia Z (lst 16 (adT LO LT q s))) :: (fb, Ia Z (lst L' (adF LO FO q s))) :: (gb, Ia Z (lst L' (fup LO q (Int32.ofNat s)))) :: (it, Ob Z "com/example/rankwise/rankwise/engine/Ranked" NSR vr) :: σ)) := by
  refine Ct.intro (plainFor_of_name pn_1) [.val (.ref a), .val (.int (Int32.ofNat q)), .val (.ref it), .unset, .unset] (fun m => by first | (simp [entryFrame, mkF, argsToLocals, Value.category]; done) | (simp [entryFrame, mkF, argsToLocals, Value.category, maxLocals]; done) | rfl) ?_
  intro k hl K
  replace K : Ok k Z n0 "com/example/rankwise/rankwise/engine/KeptItems" ({ frames := 2, cells := 2, slots := 32, locals := 60 } : Room) prog_25_method_2_code 5 none "add" := K
  refine G.aloadN K D25_2_0 rfl rfl ?_
  refine G.getF K (host := "") (Or.inl (wd hw 46 rfl)) H (i := 0) rfl (j := 4) rfl rfl D25_2_1 ?_
  refine G.aloadN K D25_2_4 rfl rfl ?_
  refine G.getF K (host := "") (Or.inl (wd hw 11 rfl)) H (i := 0) rfl (j := 0) rfl rfl D25_2_5 ?_
  refine G.alen_r K H (i := 1) rfl D25_2_8 16 (by rw [lst_len]; rfl) ?_
  refine G.icmp_ne K D25_2_9 (fun q40 => ?_) (fun q => absurd ((own_neq (n := 16) (by omega) (by decide)).mp q) (by omega))
  have T146 : ∀ (h2 : Heap) (fb gb : Addr) (L' : Nat) (s3 s4 : Slot), L ≤ L' → q < L' → L' ≤ 14 → (s3 = .unset ∨ ∃ w3, s3 = .val (.int w3)) → Hp n0 h2 ((a, Ob Z "com/example/rankwise/rankwise/engine/KeptItems" NSI [.ref ia, .ref ka, .ref ea, .ref la, .int (Int32.ofNat s), .ref fb, .ref gb]) :: (ia, Ra Z "com/example/rankwise/rankwise/engine/Ranked" (lst 16 IT)) :: (ka, Ia Z (lst 16 KO)) :: (ea, Ia Z (lst 16 EA)) :: (la, Ia Z (lst 16 LT)) :: (fb, Ia Z (lst L' FO)) :: (gb, Ia Z (lst L' LO)) :: (it, Ob Z "com/example/rankwise/rankwise/engine/Ranked" NSR vr) :: σ) → G k n0 (fun v h' => v = none ∧ ∃ (fb gb : Addr) (L' : Nat), L ≤ L' ∧ q < L' ∧ L' ≤ 14 ∧ Hp n0 h' ((a, Ob Z "com/example/rankwise/rankwise/engine/KeptItems" NSI [.ref ia, .ref ka, .ref ea, .ref la, .int (Int32.ofNat (s + 1)), .ref fb, .ref gb]) :: (ia, Ra Z "com/example/rankwise/rankwise/engine/Ranked" (lst 16 (fup IT s (Value.ref it)))) :: (ka, Ia Z (lst 16 (fup KO s (Int32.ofNat q)))) :: (ea, Ia Z (lst 16 (fup EA s (LO q)))) :: (la, Ia Z (lst 16 (adT LO LT q s))) :: (fb, Ia Z (lst L' (adF LO FO q s))) :: (gb, Ia Z (lst L' (fup LO q (Int32.ofNat s)))) :: (it, Ob Z "com/example/rankwise/rankwise/engine/Ranked" NSR vr) :: σ)) h2 2 32 146 [.val (.ref a), .val (.int (Int32.ofNat q)), .val (.ref it), s3, s4] [] := by
    intro h2 fb gb L' s3 s4 hLL hqL hL14 hs3 H2
    have hsp : s < 2147483648 := by omega
    have hqp : q < 2147483648 := by omega
    refine G.aloadN K D25_2_146 rfl rfl ?_
    refine G.getF K (host := "") (Or.inl (wd hw 22 rfl)) H2 (i := 0) rfl (j := 6) rfl rfl D25_2_147 ?_
    refine G.iloadN K D25_2_150 rfl ?_
    refine G.aload_i K H2 (i := 6) rfl (own_nneg hqp) (by rw [own_nidx hqp]; exact lst_get _ hqL) D25_2_151 ?_
    refine G.istoreN K D25_2_152 ([.val (.ref a), .val (.int (Int32.ofNat q)), .val (.ref it), .val (.int (LO q)), s4]) (by rcases hs3 with rfl | ⟨_, rfl⟩ <;> rfl) ?_
    refine G.aloadN K D25_2_153 rfl rfl ?_
    refine G.getF K (host := "") (Or.inl (wd hw 11 rfl)) H2 (i := 0) rfl (j := 0) rfl rfl D25_2_154 ?_
    refine G.aloadN K D25_2_157 rfl rfl ?_
    refine G.getF K (host := "") (Or.inl (wd hw 46 rfl)) H2 (i := 0) rfl (j := 4) rfl rfl D25_2_158 ?_
    refine G.aloadN K D25_2_161 rfl rfl ?_
    refine G.astore_r K H2 (i := 1) rfl (own_nneg hsp) (by rw [own_nidx hsp, lst_len]; omega) (Or.inr ⟨_, rfl, H2.exa (i := 7) rfl⟩) D25_2_162 ?_
    intro h41 H41
    rw [own_nidx hsp, lst_set _ (by omega)] at H41
    change Hp n0 h41 ((a, Ob Z "com/example/rankwise/rankwise/engine/KeptItems" NSI [.ref ia, .ref ka, .ref ea, .ref la, .int (Int32.ofNat s), .ref fb, .ref gb]) :: (ia, Ra Z "com/example/rankwise/rankwise/engine/Ranked" (lst 16 (fup IT s (Value.ref it)))) :: (ka, Ia Z (lst 16 KO)) :: (ea, Ia Z (lst 16 EA)) :: (la, Ia Z (lst 16 LT)) :: (fb, Ia Z (lst L' FO)) :: (gb, Ia Z (lst L' LO)) :: (it, Ob Z "com/example/rankwise/rankwise/engine/Ranked" NSR vr) :: σ) at H41
    refine G.aloadN K D25_2_163 rfl rfl ?_
    refine G.getF K (host := "") (Or.inl (wd hw 14 rfl)) H41 (i := 0) rfl (j := 1) rfl rfl D25_2_164 ?_
    refine G.aloadN K D25_2_167 rfl rfl ?_
    refine G.getF K (host := "") (Or.inl (wd hw 46 rfl)) H41 (i := 0) rfl (j := 4) rfl rfl D25_2_168 ?_
    refine G.iloadN K D25_2_171 rfl ?_
    refine G.astore_i K H41 (i := 2) rfl (own_nneg hsp) (by rw [own_nidx hsp, lst_len]; omega) D25_2_172 ?_
    intro h42 H42
    rw [own_nidx hsp, lst_set _ (by omega)] at H42
    change Hp n0 h42 ((a, Ob Z "com/example/rankwise/rankwise/engine/KeptItems" NSI [.ref ia, .ref ka, .ref ea, .ref la, .int (Int32.ofNat s), .ref fb, .ref gb]) :: (ia, Ra Z "com/example/rankwise/rankwise/engine/Ranked" (lst 16 (fup IT s (Value.ref it)))) :: (ka, Ia Z (lst 16 (fup KO s (Int32.ofNat q)))) :: (ea, Ia Z (lst 16 EA)) :: (la, Ia Z (lst 16 LT)) :: (fb, Ia Z (lst L' FO)) :: (gb, Ia Z (lst L' LO)) :: (it, Ob Z "com/example/rankwise/rankwise/engine/Ranked" NSR vr) :: σ) at H42
    refine G.aloadN K D25_2_173 rfl rfl ?_
    refine G.getF K (host := "") (Or.inl (wd hw 16 rfl)) H42 (i := 0) rfl (j := 2) rfl rfl D25_2_174 ?_
    refine G.aloadN K D25_2_177 rfl rfl ?_
    refine G.getF K (host := "") (Or.inl (wd hw 46 rfl)) H42 (i := 0) rfl (j := 4) rfl rfl D25_2_178 ?_
    refine G.iloadN K D25_2_181 rfl ?_
    refine G.astore_i K H42 (i := 3) rfl (own_nneg hsp) (by rw [own_nidx hsp, lst_len]; omega) D25_2_182 ?_
    intro h43 H43
    rw [own_nidx hsp, lst_set _ (by omega)] at H43
    change Hp n0 h43 ((a, Ob Z "com/example/rankwise/rankwise/engine/KeptItems" NSI [.ref ia, .ref ka, .ref ea, .ref la, .int (Int32.ofNat s), .ref fb, .ref gb]) :: (ia, Ra Z "com/example/rankwise/rankwise/engine/Ranked" (lst 16 (fup IT s (Value.ref it)))) :: (ka, Ia Z (lst 16 (fup KO s (Int32.ofNat q)))) :: (ea, Ia Z (lst 16 (fup EA s (LO q)))) :: (la, Ia Z (lst 16 LT)) :: (fb, Ia Z (lst L' FO)) :: (gb, Ia Z (lst L' LO)) :: (it, Ob Z "com/example/rankwise/rankwise/engine/Ranked" NSR vr) :: σ) at H43
    refine G.aloadN K D25_2_183 rfl rfl ?_
    refine G.getF K (host := "") (Or.inl (wd hw 18 rfl)) H43 (i := 0) rfl (j := 3) rfl rfl D25_2_184 ?_
    refine G.aloadN K D25_2_187 rfl rfl ?_
    refine G.getF K (host := "") (Or.inl (wd hw 46 rfl)) H43 (i := 0) rfl (j := 4) rfl rfl D25_2_188 ?_
    refine G.iconst K D25_2_191 (-1) rfl ?_
    refine G.astore_i K H43 (i := 4) rfl (own_nneg hsp) (by rw [own_nidx hsp, lst_len]; omega) D25_2_192 ?_
    intro h44 H44
    rw [own_nidx hsp, lst_set _ (by omega)] at H44
    change Hp n0 h44 ((a, Ob Z "com/example/rankwise/rankwise/engine/KeptItems" NSI [.ref ia, .ref ka, .ref ea, .ref la, .int (Int32.ofNat s), .ref fb, .ref gb]) :: (ia, Ra Z "com/example/rankwise/rankwise/engine/Ranked" (lst 16 (fup IT s (Value.ref it)))) :: (ka, Ia Z (lst 16 (fup KO s (Int32.ofNat q)))) :: (ea, Ia Z (lst 16 (fup EA s (LO q)))) :: (la, Ia Z (lst 16 (fup LT s (-1)))) :: (fb, Ia Z (lst L' FO)) :: (gb, Ia Z (lst L' LO)) :: (it, Ob Z "com/example/rankwise/rankwise/engine/Ranked" NSR vr) :: σ) at H44
    refine G.iloadN K D25_2_193 rfl ?_
    refine G.if_lt K D25_2_194 (fun q45 => ?_) (fun q45 => ?_)
    · refine G.aloadN K D25_2_210 rfl rfl ?_
      refine G.getF K (host := "") (Or.inl (wd hw 20 rfl)) H44 (i := 0) rfl (j := 5) rfl rfl D25_2_211 ?_
      refine G.iloadN K D25_2_214 rfl ?_
      refine G.aloadN K D25_2_215 rfl rfl ?_
      refine G.getF K (host := "") (Or.inl (wd hw 46 rfl)) H44 (i := 0) rfl (j := 4) rfl rfl D25_2_216 ?_
      refine G.astore_i K H44 (i := 5) rfl (own_nneg hqp) (by rw [own_nidx hqp, lst_len]; omega) D25_2_219 ?_
      intro h46 H46
      rw [own_nidx hqp, lst_set _ hqL] at H46
      change Hp n0 h46 ((a, Ob Z "com/example/rankwise/rankwise/engine/KeptItems" NSI [.ref ia, .ref ka, .ref ea, .ref la, .int (Int32.ofNat s), .ref fb, .ref gb]) :: (ia, Ra Z "com/example/rankwise/rankwise/engine/Ranked" (lst 16 (fup IT s (Value.ref it)))) :: (ka, Ia Z (lst 16 (fup KO s (Int32.ofNat q)))) :: (ea, Ia Z (lst 16 (fup EA s (LO q)))) :: (la, Ia Z (lst 16 (fup LT s (-1)))) :: (fb, Ia Z (lst L' (fup FO q (Int32.ofNat s)))) :: (gb, Ia Z (lst L' LO)) :: (it, Ob Z "com/example/rankwise/rankwise/engine/Ranked" NSR vr) :: σ) at H46
      refine G.aloadN K D25_2_220 rfl rfl ?_
      refine G.getF K (host := "") (Or.inl (wd hw 22 rfl)) H46 (i := 0) rfl (j := 6) rfl rfl D25_2_221 ?_
      refine G.iloadN K D25_2_224 rfl ?_
      refine G.aloadN K D25_2_225 rfl rfl ?_
      refine G.getF K (host := "") (Or.inl (wd hw 46 rfl)) H46 (i := 0) rfl (j := 4) rfl rfl D25_2_226 ?_
      refine G.astore_i K H46 (i := 6) rfl (own_nneg hqp) (by rw [own_nidx hqp, lst_len]; omega) D25_2_229 ?_
      intro h47 H47
      rw [own_nidx hqp, lst_set _ hqL] at H47
      change Hp n0 h47 ((a, Ob Z "com/example/rankwise/rankwise/engine/KeptItems" NSI [.ref ia, .ref ka, .ref ea, .ref la, .int (Int32.ofNat s), .ref fb, .ref gb]) :: (ia, Ra Z "com/example/rankwise/rankwise/engine/Ranked" (lst 16 (fup IT s (Value.ref it)))) :: (ka, Ia Z (lst 16 (fup KO s (Int32.ofNat q)))) :: (ea, Ia Z (lst 16 (fup EA s (LO q)))) :: (la, Ia Z (lst 16 (fup LT s (-1)))) :: (fb, Ia Z (lst L' (fup FO q (Int32.ofNat s)))) :: (gb, Ia Z (lst L' (fup LO q (Int32.ofNat s)))) :: (it, Ob Z "com/example/rankwise/rankwise/engine/Ranked" NSR vr) :: σ) at H47
      refine G.aloadN K D25_2_230 rfl rfl ?_
      refine G.dup K D25_2_231 rfl ?_
      refine G.getF K (host := "") (Or.inl (wd hw 46 rfl)) H47 (i := 0) rfl (j := 4) rfl rfl D25_2_232 ?_
      refine G.iconst K D25_2_235 1 rfl ?_
      refine G.iadd K D25_2_236 ?_
      rw [own_nsucc s]
      refine G.putF K (host := "") (Or.inl (wd hw 46 rfl)) (cf_NSI hw) (Or.inl (wd hw 47 rfl)) (wd hw 1 rfl) H47 (i := 0) rfl (j := 4) rfl rfl (ty := .int) (by decide) rfl rfl D25_2_237 ?_
      intro h48 H48
      change Hp n0 h48 ((a, Ob Z "com/example/rankwise/rankwise/engine/KeptItems" NSI [.ref ia, .ref ka, .ref ea, .ref la, .int (Int32.ofNat (s + 1)), .ref fb, .ref gb]) :: (ia, Ra Z "com/example/rankwise/rankwise/engine/Ranked" (lst 16 (fup IT s (Value.ref it)))) :: (ka, Ia Z (lst 16 (fup KO s (Int32.ofNat q)))) :: (ea, Ia Z (lst 16 (fup EA s (LO q)))) :: (la, Ia Z (lst 16 (fup LT s (-1)))) :: (fb, Ia Z (lst L' (fup FO q (Int32.ofNat s)))) :: (gb, Ia Z (lst L' (fup LO q (Int32.ofNat s)))) :: (it, Ob Z "com/example/rankwise/rankwise/engine/Ranked" NSR vr) :: σ) at H48
      refine G.ret_void K D25_2_240 ?_
      have H49 : Hp n0 h48 ((it, Ob Z "com/example/rankwise/rankwise/engine/Ranked" NSR vr) :: (a, Ob Z "com/example/rankwise/rankwise/engine/KeptItems" NSI [.ref ia, .ref ka, .ref ea, .ref la, .int (Int32.ofNat (s + 1)), .ref fb, .ref gb]) :: (ia, Ra Z "com/example/rankwise/rankwise/engine/Ranked" (lst 16 (fup IT s (Value.ref it)))) :: (ka, Ia Z (lst 16 (fup KO s (Int32.ofNat q)))) :: (ea, Ia Z (lst 16 (fup EA s (LO q)))) :: (la, Ia Z (lst 16 (fup LT s (-1)))) :: (fb, Ia Z (lst L' (fup FO q (Int32.ofNat s)))) :: (gb, Ia Z (lst L' (fup LO q (Int32.ofNat s)))) :: σ) := H48.pull 7 rfl
      have H50 : Hp n0 h48 ((gb, Ia Z (lst L' (fup LO q (Int32.ofNat s)))) :: (it, Ob Z "com/example/rankwise/rankwise/engine/Ranked" NSR vr) :: (a, Ob Z "com/example/rankwise/rankwise/engine/KeptItems" NSI [.ref ia, .ref ka, .ref ea, .ref la, .int (Int32.ofNat (s + 1)), .ref fb, .ref gb]) :: (ia, Ra Z "com/example/rankwise/rankwise/engine/Ranked" (lst 16 (fup IT s (Value.ref it)))) :: (ka, Ia Z (lst 16 (fup KO s (Int32.ofNat q)))) :: (ea, Ia Z (lst 16 (fup EA s (LO q)))) :: (la, Ia Z (lst 16 (fup LT s (-1)))) :: (fb, Ia Z (lst L' (fup FO q (Int32.ofNat s)))) :: σ) := H49.pull 7 rfl
      have H51 : Hp n0 h48 ((fb, Ia Z (lst L' (fup FO q (Int32.ofNat s)))) :: (gb, Ia Z (lst L' (fup LO q (Int32.ofNat s)))) :: (it, Ob Z "com/example/rankwise/rankwise/engine/Ranked" NSR vr) :: (a, Ob Z "com/example/rankwise/rankwise/engine/KeptItems" NSI [.ref ia, .ref ka, .ref ea, .ref la, .int (Int32.ofNat (s + 1)), .ref fb, .ref gb]) :: (ia, Ra Z "com/example/rankwise/rankwise/engine/Ranked" (lst 16 (fup IT s (Value.ref it)))) :: (ka, Ia Z (lst 16 (fup KO s (Int32.ofNat q)))) :: (ea, Ia Z (lst 16 (fup EA s (LO q)))) :: (la, Ia Z (lst 16 (fup LT s (-1)))) :: σ) := H50.pull 7 rfl
      have H52 : Hp n0 h48 ((la, Ia Z (lst 16 (fup LT s (-1)))) :: (fb, Ia Z (lst L' (fup FO q (Int32.ofNat s)))) :: (gb, Ia Z (lst L' (fup LO q (Int32.ofNat s)))) :: (it, Ob Z "com/example/rankwise/rankwise/engine/Ranked" NSR vr) :: (a, Ob Z "com/example/rankwise/rankwise/engine/KeptItems" NSI [.ref ia, .ref ka, .ref ea, .ref la, .int (Int32.ofNat (s + 1)), .ref fb, .ref gb]) :: (ia, Ra Z "com/example/rankwise/rankwise/engine/Ranked" (lst 16 (fup IT s (Value.ref it)))) :: (ka, Ia Z (lst 16 (fup KO s (Int32.ofNat q)))) :: (ea, Ia Z (lst 16 (fup EA s (LO q)))) :: σ) := H51.pull 7 rfl
      have H53 : Hp n0 h48 ((ea, Ia Z (lst 16 (fup EA s (LO q)))) :: (la, Ia Z (lst 16 (fup LT s (-1)))) :: (fb, Ia Z (lst L' (fup FO q (Int32.ofNat s)))) :: (gb, Ia Z (lst L' (fup LO q (Int32.ofNat s)))) :: (it, Ob Z "com/example/rankwise/rankwise/engine/Ranked" NSR vr) :: (a, Ob Z "com/example/rankwise/rankwise/engine/KeptItems" NSI [.ref ia, .ref ka, .ref ea, .ref la, .int (Int32.ofNat (s + 1)), .ref fb, .ref gb]) :: (ia, Ra Z "com/example/rankwise/rankwise/engine/Ranked" (lst 16 (fup IT s (Value.ref it)))) :: (ka, Ia Z (lst 16 (fup KO s (Int32.ofNat q)))) :: σ) := H52.pull 7 rfl
      have H54 : Hp n0 h48 ((ka, Ia Z (lst 16 (fup KO s (Int32.ofNat q)))) :: (ea, Ia Z (lst 16 (fup EA s (LO q)))) :: (la, Ia Z (lst 16 (fup LT s (-1)))) :: (fb, Ia Z (lst L' (fup FO q (Int32.ofNat s)))) :: (gb, Ia Z (lst L' (fup LO q (Int32.ofNat s)))) :: (it, Ob Z "com/example/rankwise/rankwise/engine/Ranked" NSR vr) :: (a, Ob Z "com/example/rankwise/rankwise/engine/KeptItems" NSI [.ref ia, .ref ka, .ref ea, .ref la, .int (Int32.ofNat (s + 1)), .ref fb, .ref gb]) :: (ia, Ra Z "com/example/rankwise/rankwise/engine/Ranked" (lst 16 (fup IT s (Value.ref it)))) :: σ) := H53.pull 7 rfl
      have H55 : Hp n0 h48 ((ia, Ra Z "com/example/rankwise/rankwise/engine/Ranked" (lst 16 (fup IT s (Value.ref it)))) :: (ka, Ia Z (lst 16 (fup KO s (Int32.ofNat q)))) :: (ea, Ia Z (lst 16 (fup EA s (LO q)))) :: (la, Ia Z (lst 16 (fup LT s (-1)))) :: (fb, Ia Z (lst L' (fup FO q (Int32.ofNat s)))) :: (gb, Ia Z (lst L' (fup LO q (Int32.ofNat s)))) :: (it, Ob Z "com/example/rankwise/rankwise/engine/Ranked" NSR vr) :: (a, Ob Z "com/example/rankwise/rankwise/engine/KeptItems" NSI [.ref ia, .ref ka, .ref ea, .ref la, .int (Int32.ofNat (s + 1)), .ref fb, .ref gb]) :: σ) := H54.pull 7 rfl
      have H56 : Hp n0 h48 ((a, Ob Z "com/example/rankwise/rankwise/engine/KeptItems" NSI [.ref ia, .ref ka, .ref ea, .ref la, .int (Int32.ofNat (s + 1)), .ref fb, .ref gb]) :: (ia, Ra Z "com/example/rankwise/rankwise/engine/Ranked" (lst 16 (fup IT s (Value.ref it)))) :: (ka, Ia Z (lst 16 (fup KO s (Int32.ofNat q)))) :: (ea, Ia Z (lst 16 (fup EA s (LO q)))) :: (la, Ia Z (lst 16 (fup LT s (-1)))) :: (fb, Ia Z (lst L' (fup FO q (Int32.ofNat s)))) :: (gb, Ia Z (lst L' (fup LO q (Int32.ofNat s)))) :: (it, Ob Z "com/example/rankwise/rankwise/engine/Ranked" NSR vr) :: σ) := H55.pull 7 rfl
      exact ⟨rfl, fb, gb, L', hLL, hqL, hL14, by rw [adT, if_pos q45, adF, if_pos q45]; exact H56⟩
    · obtain ⟨j, hj, ej⟩ := (hI q).pos q45
      have hjp : j < 2147483648 := by omega
      refine G.aloadN K D25_2_197 rfl rfl ?_
      refine G.getF K (host := "") (Or.inl (wd hw 18 rfl)) H44 (i := 0) rfl (j := 3) rfl rfl D25_2_198 ?_
      refine G.iloadN K D25_2_201 rfl ?_
      refine G.aloadN K D25_2_202 rfl rfl ?_
      refine G.getF K (host := "") (Or.inl (wd hw 46 rfl)) H44 (i := 0) rfl (j := 4) rfl rfl D25_2_203 ?_
      refine G.astore_i K H44 (i := 4) rfl (q45) (by rw [ej, own_nidx hjp, lst_len]; omega) D25_2_206 ?_
      intro h57 H57
      rw [show (LO q).toNatClampNeg = j from (by rw [ej, own_nidx hjp]), lst_set _ (by omega)] at H57
      change Hp n0 h57 ((a, Ob Z "com/example/rankwise/rankwise/engine/KeptItems" NSI [.ref ia, .ref ka, .ref ea, .ref la, .int (Int32.ofNat s), .ref fb, .ref gb]) :: (ia, Ra Z "com/example/rankwise/rankwise/engine/Ranked" (lst 16 (fup IT s (Value.ref it)))) :: (ka, Ia Z (lst 16 (fup KO s (Int32.ofNat q)))) :: (ea, Ia Z (lst 16 (fup EA s (LO q)))) :: (la, Ia Z (lst 16 (fup (fup LT s (-1)) j (Int32.ofNat s)))) :: (fb, Ia Z (lst L' FO)) :: (gb, Ia Z (lst L' LO)) :: (it, Ob Z "com/example/rankwise/rankwise/engine/Ranked" NSR vr) :: σ) at H57
      refine G.goto K D25_2_207 ?_
      refine G.aloadN K D25_2_220 rfl rfl ?_
      refine G.getF K (host := "") (Or.inl (wd hw 22 rfl)) H57 (i := 0) rfl (j := 6) rfl rfl D25_2_221 ?_
      refine G.iloadN K D25_2_224 rfl ?_
      refine G.aloadN K D25_2_225 rfl rfl ?_
      refine G.getF K (host := "") (Or.inl (wd hw 46 rfl)) H57 (i := 0) rfl (j := 4) rfl rfl D25_2_226 ?_
      refine G.astore_i K H57 (i := 6) rfl (own_nneg hqp) (by rw [own_nidx hqp, lst_len]; omega) D25_2_229 ?_
      intro h58 H58
      rw [own_nidx hqp, lst_set _ hqL] at H58
      change Hp n0 h58 ((a, Ob Z "com/example/rankwise/rankwise/engine/KeptItems" NSI [.ref ia, .ref ka, .ref ea, .ref la, .int (Int32.ofNat s), .ref fb, .ref gb]) :: (ia, Ra Z "com/example/rankwise/rankwise/engine/Ranked" (lst 16 (fup IT s (Value.ref it)))) :: (ka, Ia Z (lst 16 (fup KO s (Int32.ofNat q)))) :: (ea, Ia Z (lst 16 (fup EA s (LO q)))) :: (la, Ia Z (lst 16 (fup (fup LT s (-1)) j (Int32.ofNat s)))) :: (fb, Ia Z (lst L' FO)) :: (gb, Ia Z (lst L' (fup LO q (Int32.ofNat s)))) :: (it, Ob Z "com/example/rankwise/rankwise/engine/Ranked" NSR vr) :: σ) at H58
      refine G.aloadN K D25_2_230 rfl rfl ?_
      refine G.dup K D25_2_231 rfl ?_
      refine G.getF K (host := "") (Or.inl (wd hw 46 rfl)) H58 (i := 0) rfl (j := 4) rfl rfl D25_2_232 ?_
      refine G.iconst K D25_2_235 1 rfl ?_
      refine G.iadd K D25_2_236 ?_
      rw [own_nsucc s]
      refine G.putF K (host := "") (Or.inl (wd hw 46 rfl)) (cf_NSI hw) (Or.inl (wd hw 47 rfl)) (wd hw 1 rfl) H58 (i := 0) rfl (j := 4) rfl rfl (ty := .int) (by decide) rfl rfl D25_2_237 ?_
      intro h59 H59
      change Hp n0 h59 ((a, Ob Z "com/example/rankwise/rankwise/engine/KeptItems" NSI [.ref ia, .ref ka, .ref ea, .ref la, .int (Int32.ofNat (s + 1)), .ref fb, .ref gb]) :: (ia, Ra Z "com/example/rankwise/rankwise/engine/Ranked" (lst 16 (fup IT s (Value.ref it)))) :: (ka, Ia Z (lst 16 (fup KO s (Int32.ofNat q)))) :: (ea, Ia Z (lst 16 (fup EA s (LO q)))) :: (la, Ia Z (lst 16 (fup (fup LT s (-1)) j (Int32.ofNat s)))) :: (fb, Ia Z (lst L' FO)) :: (gb, Ia Z (lst L' (fup LO q (Int32.ofNat s)))) :: (it, Ob Z "com/example/rankwise/rankwise/engine/Ranked" NSR vr) :: σ) at H59
      refine G.ret_void K D25_2_240 ?_
      have H60 : Hp n0 h59 ((it, Ob Z "com/example/rankwise/rankwise/engine/Ranked" NSR vr) :: (a, Ob Z "com/example/rankwise/rankwise/engine/KeptItems" NSI [.ref ia, .ref ka, .ref ea, .ref la, .int (Int32.ofNat (s + 1)), .ref fb, .ref gb]) :: (ia, Ra Z "com/example/rankwise/rankwise/engine/Ranked" (lst 16 (fup IT s (Value.ref it)))) :: (ka, Ia Z (lst 16 (fup KO s (Int32.ofNat q)))) :: (ea, Ia Z (lst 16 (fup EA s (LO q)))) :: (la, Ia Z (lst 16 (fup (fup LT s (-1)) j (Int32.ofNat s)))) :: (fb, Ia Z (lst L' FO)) :: (gb, Ia Z (lst L' (fup LO q (Int32.ofNat s)))) :: σ) := H59.pull 7 rfl
      have H61 : Hp n0 h59 ((gb, Ia Z (lst L' (fup LO q (Int32.ofNat s)))) :: (it, Ob Z "com/example/rankwise/rankwise/engine/Ranked" NSR vr) :: (a, Ob Z "com/example/rankwise/rankwise/engine/KeptItems" NSI [.ref ia, .ref ka, .ref ea, .ref la, .int (Int32.ofNat (s + 1)), .ref fb, .ref gb]) :: (ia, Ra Z "com/example/rankwise/rankwise/engine/Ranked" (lst 16 (fup IT s (Value.ref it)))) :: (ka, Ia Z (lst 16 (fup KO s (Int32.ofNat q)))) :: (ea, Ia Z (lst 16 (fup EA s (LO q)))) :: (la, Ia Z (lst 16 (fup (fup LT s (-1)) j (Int32.ofNat s)))) :: (fb, Ia Z (lst L' FO)) :: σ) := H60.pull 7 rfl
      have H62 : Hp n0 h59 ((fb, Ia Z (lst L' FO)) :: (gb, Ia Z (lst L' (fup LO q (Int32.ofNat s)))) :: (it, Ob Z "com/example/rankwise/rankwise/engine/Ranked" NSR vr) :: (a, Ob Z "com/example/rankwise/rankwise/engine/KeptItems" NSI [.ref ia, .ref ka, .ref ea, .ref la, .int (Int32.ofNat (s + 1)), .ref fb, .ref gb]) :: (ia, Ra Z "com/example/rankwise/rankwise/engine/Ranked" (lst 16 (fup IT s (Value.ref it)))) :: (ka, Ia Z (lst 16 (fup KO s (Int32.ofNat q)))) :: (ea, Ia Z (lst 16 (fup EA s (LO q)))) :: (la, Ia Z (lst 16 (fup (fup LT s (-1)) j (Int32.ofNat s)))) :: σ) := H61.pull 7 rfl
      have H63 : Hp n0 h59 ((la, Ia Z (lst 16 (fup (fup LT s (-1)) j (Int32.ofNat s)))) :: (fb, Ia Z (lst L' FO)) :: (gb, Ia Z (lst L' (fup LO q (Int32.ofNat s)))) :: (it, Ob Z "com/example/rankwise/rankwise/engine/Ranked" NSR vr) :: (a, Ob Z "com/example/rankwise/rankwise/engine/KeptItems" NSI [.ref ia, .ref ka, .ref ea, .ref la, .int (Int32.ofNat (s + 1)), .ref fb, .ref gb]) :: (ia, Ra Z "com/example/rankwise/rankwise/engine/Ranked" (lst 16 (fup IT s (Value.ref it)))) :: (ka, Ia Z (lst 16 (fup KO s (Int32.ofNat q)))) :: (ea, Ia Z (lst 16 (fup EA s (LO q)))) :: σ) := H62.pull 7 rfl
      have H64 : Hp n0 h59 ((ea, Ia Z (lst 16 (fup EA s (LO q)))) :: (la, Ia Z (lst 16 (fup (fup LT s (-1)) j (Int32.ofNat s)))) :: (fb, Ia Z (lst L' FO)) :: (gb, Ia Z (lst L' (fup LO q (Int32.ofNat s)))) :: (it, Ob Z "com/example/rankwise/rankwise/engine/Ranked" NSR vr) :: (a, Ob Z "com/example/rankwise/rankwise/engine/KeptItems" NSI [.ref ia, .ref ka, .ref ea, .ref la, .int (Int32.ofNat (s + 1)), .ref fb, .ref gb]) :: (ia, Ra Z "com/example/rankwise/rankwise/engine/Ranked" (lst 16 (fup IT s (Value.ref it)))) :: (ka, Ia Z (lst 16 (fup KO s (Int32.ofNat q)))) :: σ) := H63.pull 7 rfl
      have H65 : Hp n0 h59 ((ka, Ia Z (lst 16 (fup KO s (Int32.ofNat q)))) :: (ea, Ia Z (lst 16 (fup EA s (LO q)))) :: (la, Ia Z (lst 16 (fup (fup LT s (-1)) j (Int32.ofNat s)))) :: (fb, Ia Z (lst L' FO)) :: (gb, Ia Z (lst L' (fup LO q (Int32.ofNat s)))) :: (it, Ob Z "com/example/rankwise/rankwise/engine/Ranked" NSR vr) :: (a, Ob Z "com/example/rankwise/rankwise/engine/KeptItems" NSI [.ref ia, .ref ka, .ref ea, .ref la, .int (Int32.ofNat (s + 1)), .ref fb, .ref gb]) :: (ia, Ra Z "com/example/rankwise/rankwise/engine/Ranked" (lst 16 (fup IT s (Value.ref it)))) :: σ) := H64.pull 7 rfl
      have H66 : Hp n0 h59 ((ia, Ra Z "com/example/rankwise/rankwise/engine/Ranked" (lst 16 (fup IT s (Value.ref it)))) :: (ka, Ia Z (lst 16 (fup KO s (Int32.ofNat q)))) :: (ea, Ia Z (lst 16 (fup EA s (LO q)))) :: (la, Ia Z (lst 16 (fup (fup LT s (-1)) j (Int32.ofNat s)))) :: (fb, Ia Z (lst L' FO)) :: (gb, Ia Z (lst L' (fup LO q (Int32.ofNat s)))) :: (it, Ob Z "com/example/rankwise/rankwise/engine/Ranked" NSR vr) :: (a, Ob Z "com/example/rankwise/rankwise/engine/KeptItems" NSI [.ref ia, .ref ka, .ref ea, .ref la, .int (Int32.ofNat (s + 1)), .ref fb, .ref gb]) :: σ) := H65.pull 7 rfl
      have H67 : Hp n0 h59 ((a, Ob Z "com/example/rankwise/rankwise/engine/KeptItems" NSI [.ref ia, .ref ka, .ref ea, .ref la, .int (Int32.ofNat (s + 1)), .ref fb, .ref gb]) :: (ia, Ra Z "com/example/rankwise/rankwise/engine/Ranked" (lst 16 (fup IT s (Value.ref it)))) :: (ka, Ia Z (lst 16 (fup KO s (Int32.ofNat q)))) :: (ea, Ia Z (lst 16 (fup EA s (LO q)))) :: (la, Ia Z (lst 16 (fup (fup LT s (-1)) j (Int32.ofNat s)))) :: (fb, Ia Z (lst L' FO)) :: (gb, Ia Z (lst L' (fup LO q (Int32.ofNat s)))) :: (it, Ob Z "com/example/rankwise/rankwise/engine/Ranked" NSR vr) :: σ) := H66.pull 7 rfl
      exact ⟨rfl, fb, gb, L', hLL, hqL, hL14, by rw [adT, if_neg q45, adF, if_neg q45, show (LO q).toNatClampNeg = j from by rw [ej, own_nidx hjp]]; exact H67⟩
  refine G.iloadN K D25_2_70 rfl ?_
  refine G.aloadN K D25_2_71 rfl rfl ?_
  refine G.getF K (host := "") (Or.inl (wd hw 20 rfl)) H (i := 0) rfl (j := 5) rfl rfl D25_2_72 ?_
  refine G.alen K H (i := 5) rfl D25_2_75 (Int32.ofNat L) (by rw [List.length_map, lst_len]) ?_
  refine G.icmp_lt K D25_2_76 (fun q68 => ?_) (fun q68 => ?_)
  · exact G.more K (T146 _ fa ga L _ _ (Nat.le_refl _) ((own_nlt (by omega) (by omega)).mp q68) (by omega) (Or.inl rfl) H) (by decide) (by decide) (by decide) (by decide)
  · have hge : L ≤ q := Nat.le_of_not_lt fun z => q68 ((own_nlt (by omega) (by omega)).mpr z)
    refine G.iloadN K D25_2_79 rfl ?_
    refine G.iconst K D25_2_80 1 rfl ?_
    refine G.iadd K D25_2_81 ?_
    rw [own_nsucc q]
    refine G.iconst K D25_2_82 2 rfl ?_
    refine G.aloadN K D25_2_83 rfl rfl ?_
    refine G.getF K (host := "") (Or.inl (wd hw 20 rfl)) H (i := 0) rfl (j := 5) rfl rfl D25_2_84 ?_
    refine G.alen K H (i := 5) rfl D25_2_87 (Int32.ofNat L) (by rw [List.length_map, lst_len]) ?_
    refine G.imul K D25_2_88 ?_
    rw [show 2 * Int32.ofNat L = Int32.ofNat (2 * L) from own_nmul 2 L]
    refine G.callS K hl (wd hw 48 rfl) (wd hw 49 rfl) (wd hw 50 rfl) (wd hw 51 rfl) (by decide) pd_0 (ct_max l Z a0 hw n0 _ (Int32.ofNat (q + 1)) (Int32.ofNat (2 * L))) 0 rfl (by decide) (by decide) (by decide) (by decide) rfl rfl [.int (Int32.ofNat (2 * L)), .int (Int32.ofNat (q + 1))] rfl D25_2_89 ?_
    rintro _ _ ⟨rfl, rfl⟩
    rw [own_nmax (by omega) (by omega)]
    change G k n0 _ h _ _ 92 [.val (.ref a), .val (.int (Int32.ofNat q)), .val (.ref it), .unset, .unset] [.int (Int32.ofNat (max (q + 1) (2 * L)))]
    refine G.istoreN K D25_2_92 ([.val (.ref a), .val (.int (Int32.ofNat q)), .val (.ref it), .val (.int (Int32.ofNat (max (q + 1) (2 * L)))), .unset]) rfl ?_
    refine G.aloadN K D25_2_93 rfl rfl ?_
    refine G.getF K (host := "") (Or.inl (wd hw 20 rfl)) H (i := 0) rfl (j := 5) rfl rfl D25_2_94 ?_
    refine G.alen K H (i := 5) rfl D25_2_97 (Int32.ofNat L) (by rw [List.length_map, lst_len]) ?_
    refine G.istore K D25_2_98 ([.val (.ref a), .val (.int (Int32.ofNat q)), .val (.ref it), .val (.int (Int32.ofNat (max (q + 1) (2 * L)))), .val (.int (Int32.ofNat L))]) rfl ?_
    refine G.aloadN K D25_2_100 rfl rfl ?_
    refine G.aloadN K D25_2_101 rfl rfl ?_
    refine G.getF K (host := "") (Or.inl (wd hw 20 rfl)) H (i := 0) rfl (j := 5) rfl rfl D25_2_102 ?_
    refine G.iloadN K D25_2_105 rfl ?_
    have H69 : Hp n0 h ((fa, Ia Z (lst L FO)) :: (a, Ob Z "com/example/rankwise/rankwise/engine/KeptItems" NSI [.ref ia, .ref ka, .ref ea, .ref la, .int (Int32.ofNat s), .ref fa, .ref ga]) :: (ia, Ra Z "com/example/rankwise/rankwise/engine/Ranked" (lst 16 IT)) :: (ka, Ia Z (lst 16 KO)) :: (ea, Ia Z (lst 16 EA)) :: (la, Ia Z (lst 16 LT)) :: (ga, Ia Z (lst L LO)) :: (it, Ob Z "com/example/rankwise/rankwise/engine/Ranked" NSR vr) :: σ) := H.pull 5 rfl
    refine G.callS K hl (wd hw 52 rfl) (wd hw 53 rfl) (wd hw 54 rfl) (wd hw 55 rfl) (by decide) pd_2 (ct_copy l Z a0 hw n0 h fa L (max (q + 1) (2 * L)) FO ((a, Ob Z "com/example/rankwise/rankwise/engine/KeptItems" NSI [.ref ia, .ref ka, .ref ea, .ref la, .int (Int32.ofNat s), .ref fa, .ref ga]) :: (ia, Ra Z "com/example/rankwise/rankwise/engine/Ranked" (lst 16 IT)) :: (ka, Ia Z (lst 16 KO)) :: (ea, Ia Z (lst 16 EA)) :: (la, Ia Z (lst 16 LT)) :: (ga, Ia Z (lst L LO)) :: (it, Ob Z "com/example/rankwise/rankwise/engine/Ranked" NSR vr) :: σ) (by omega) (by omega) H69) 1 rfl (by decide) (by decide) (by decide) (by decide) rfl rfl [.int (Int32.ofNat (max (q + 1) (2 * L))), .ref fa] rfl D25_2_106 ?_
    rintro _ h70 ⟨b70, rfl, H70⟩
    change G k n0 _ h70 _ _ 109 [.val (.ref a), .val (.int (Int32.ofNat q)), .val (.ref it), .val (.int (Int32.ofNat (max (q + 1) (2 * L)))), .val (.int (Int32.ofNat L))] [.ref b70, .ref a]
    refine G.putF K (host := "") (Or.inl (wd hw 20 rfl)) (cf_NSI hw) (Or.inl (wd hw 21 rfl)) (wd hw 1 rfl) H70 (i := 2) rfl (j := 5) rfl rfl (ty := (.array .int)) (by decide) rfl rfl D25_2_109 ?_
    intro h71 H71
    change Hp n0 h71 ((b70, Ia Z (lst (max (q + 1) (2 * L)) (fun i => if i < L then FO i else 0))) :: (fa, Ia Z (lst L FO)) :: (a, Ob Z "com/example/rankwise/rankwise/engine/KeptItems" NSI [.ref ia, .ref ka, .ref ea, .ref la, .int (Int32.ofNat s), .ref b70, .ref ga]) :: (ia, Ra Z "com/example/rankwise/rankwise/engine/Ranked" (lst 16 IT)) :: (ka, Ia Z (lst 16 KO)) :: (ea, Ia Z (lst 16 EA)) :: (la, Ia Z (lst 16 LT)) :: (ga, Ia Z (lst L LO)) :: (it, Ob Z "com/example/rankwise/rankwise/engine/Ranked" NSR vr) :: σ) at H71
    refine G.aloadN K D25_2_112 rfl rfl ?_
    refine G.aloadN K D25_2_113 rfl rfl ?_
    refine G.getF K (host := "") (Or.inl (wd hw 22 rfl)) H71 (i := 2) rfl (j := 6) rfl rfl D25_2_114 ?_
    refine G.iloadN K D25_2_117 rfl ?_
    have H72 : Hp n0 h71 ((ga, Ia Z (lst L LO)) :: (b70, Ia Z (lst (max (q + 1) (2 * L)) (fun i => if i < L then FO i else 0))) :: (fa, Ia Z (lst L FO)) :: (a, Ob Z "com/example/rankwise/rankwise/engine/KeptItems" NSI [.ref ia, .ref ka, .ref ea, .ref la, .int (Int32.ofNat s), .ref b70, .ref ga]) :: (ia, Ra Z "com/example/rankwise/rankwise/engine/Ranked" (lst 16 IT)) :: (ka, Ia Z (lst 16 KO)) :: (ea, Ia Z (lst 16 EA)) :: (la, Ia Z (lst 16 LT)) :: (it, Ob Z "com/example/rankwise/rankwise/engine/Ranked" NSR vr) :: σ) := H71.pull 7 rfl
    refine G.callS K hl (wd hw 52 rfl) (wd hw 53 rfl) (wd hw 54 rfl) (wd hw 55 rfl) (by decide) pd_2 (ct_copy l Z a0 hw n0 h71 ga L (max (q + 1) (2 * L)) LO ((b70, Ia Z (lst (max (q + 1) (2 * L)) (fun i => if i < L then FO i else 0))) :: (fa, Ia Z (lst L FO)) :: (a, Ob Z "com/example/rankwise/rankwise/engine/KeptItems" NSI [.ref ia, .ref ka, .ref ea, .ref la, .int (Int32.ofNat s), .ref b70, .ref ga]) :: (ia, Ra Z "com/example/rankwise/rankwise/engine/Ranked" (lst 16 IT)) :: (ka, Ia Z (lst 16 KO)) :: (ea, Ia Z (lst 16 EA)) :: (la, Ia Z (lst 16 LT)) :: (it, Ob Z "com/example/rankwise/rankwise/engine/Ranked" NSR vr) :: σ) (by omega) (by omega) H72) 1 rfl (by decide) (by decide) (by decide) (by decide) rfl rfl [.int (Int32.ofNat (max (q + 1) (2 * L))), .ref ga] rfl D25_2_118 ?_
    rintro _ h73 ⟨b73, rfl, H73⟩
    change G k n0 _ h73 _ _ 121 [.val (.ref a), .val (.int (Int32.ofNat q)), .val (.ref it), .val (.int (Int32.ofNat (max (q + 1) (2 * L)))), .val (.int (Int32.ofNat L))] [.ref b73, .ref a]
    refine G.putF K (host := "") (Or.inl (wd hw 22 rfl)) (cf_NSI hw) (Or.inl (wd hw 23 rfl)) (wd hw 1 rfl) H73 (i := 4) rfl (j := 6) rfl rfl (ty := (.array .int)) (by decide) rfl rfl D25_2_121 ?_
    intro h74 H74
    change Hp n0 h74 ((b73, Ia Z (lst (max (q + 1) (2 * L)) (fun i => if i < L then LO i else 0))) :: (ga, Ia Z (lst L LO)) :: (b70, Ia Z (lst (max (q + 1) (2 * L)) (fun i => if i < L then FO i else 0))) :: (fa, Ia Z (lst L FO)) :: (a, Ob Z "com/example/rankwise/rankwise/engine/KeptItems" NSI [.ref ia, .ref ka, .ref ea, .ref la, .int (Int32.ofNat s), .ref b70, .ref b73]) :: (ia, Ra Z "com/example/rankwise/rankwise/engine/Ranked" (lst 16 IT)) :: (ka, Ia Z (lst 16 KO)) :: (ea, Ia Z (lst 16 EA)) :: (la, Ia Z (lst 16 LT)) :: (it, Ob Z "com/example/rankwise/rankwise/engine/Ranked" NSR vr) :: σ) at H74
    refine G.aloadN K D25_2_124 rfl rfl ?_
    refine G.getF K (host := "") (Or.inl (wd hw 20 rfl)) H74 (i := 4) rfl (j := 5) rfl rfl D25_2_125 ?_
    refine G.iload K D25_2_128 rfl ?_
    refine G.iloadN K D25_2_130 rfl ?_
    refine G.iconst K D25_2_131 (-1) rfl ?_
    have H75 : Hp n0 h74 ((b70, Ia Z (lst (max (q + 1) (2 * L)) (fun i => if i < L then FO i else 0))) :: (b73, Ia Z (lst (max (q + 1) (2 * L)) (fun i => if i < L then LO i else 0))) :: (ga, Ia Z (lst L LO)) :: (fa, Ia Z (lst L FO)) :: (a, Ob Z "com/example/rankwise/rankwise/engine/KeptItems" NSI [.ref ia, .ref ka, .ref ea, .ref la, .int (Int32.ofNat s), .ref b70, .ref b73]) :: (ia, Ra Z "com/example/rankwise/rankwise/engine/Ranked" (lst 16 IT)) :: (ka, Ia Z (lst 16 KO)) :: (ea, Ia Z (lst 16 EA)) :: (la, Ia Z (lst 16 LT)) :: (it, Ob Z "com/example/rankwise/rankwise/engine/Ranked" NSR vr) :: σ) := H74.pull 2 rfl
    refine G.callS K hl (wd hw 63 rfl) (wd hw 64 rfl) (wd hw 54 rfl) (wd hw 65 rfl) (by decide) pd_3 (ct_fill l Z a0 hw n0 h74 b70 (max (q + 1) (2 * L)) L (max (q + 1) (2 * L)) (-1) (fun i => if i < L then FO i else 0) ((b73, Ia Z (lst (max (q + 1) (2 * L)) (fun i => if i < L then LO i else 0))) :: (ga, Ia Z (lst L LO)) :: (fa, Ia Z (lst L FO)) :: (a, Ob Z "com/example/rankwise/rankwise/engine/KeptItems" NSI [.ref ia, .ref ka, .ref ea, .ref la, .int (Int32.ofNat s), .ref b70, .ref b73]) :: (ia, Ra Z "com/example/rankwise/rankwise/engine/Ranked" (lst 16 IT)) :: (ka, Ia Z (lst 16 KO)) :: (ea, Ia Z (lst 16 EA)) :: (la, Ia Z (lst 16 LT)) :: (it, Ob Z "com/example/rankwise/rankwise/engine/Ranked" NSR vr) :: σ) (by omega) (by omega) (by omega) H75) 0 rfl (by decide) (by decide) (by decide) (by decide) rfl rfl [.int (-1), .int (Int32.ofNat (max (q + 1) (2 * L))), .int (Int32.ofNat L), .ref b70] rfl D25_2_132 ?_
    rintro _ h76 ⟨rfl, H76⟩
    change Hp n0 h76 ((b70, Ia Z (lst (max (q + 1) (2 * L)) (fun i => if L ≤ i ∧ i < (max (q + 1) (2 * L)) then -1 else if i < L then FO i else 0))) :: (b73, Ia Z (lst (max (q + 1) (2 * L)) (fun i => if i < L then LO i else 0))) :: (ga, Ia Z (lst L LO)) :: (fa, Ia Z (lst L FO)) :: (a, Ob Z "com/example/rankwise/rankwise/engine/KeptItems" NSI [.ref ia, .ref ka, .ref ea, .ref la, .int (Int32.ofNat s), .ref b70, .ref b73]) :: (ia, Ra Z "com/example/rankwise/rankwise/engine/Ranked" (lst 16 IT)) :: (ka, Ia Z (lst 16 KO)) :: (ea, Ia Z (lst 16 EA)) :: (la, Ia Z (lst 16 LT)) :: (it, Ob Z "com/example/rankwise/rankwise/engine/Ranked" NSR vr) :: σ) at H76
    change G k n0 _ h76 _ _ 135 [.val (.ref a), .val (.int (Int32.ofNat q)), .val (.ref it), .val (.int (Int32.ofNat (max (q + 1) (2 * L)))), .val (.int (Int32.ofNat L))] []
    refine G.aloadN K D25_2_135 rfl rfl ?_
    refine G.getF K (host := "") (Or.inl (wd hw 22 rfl)) H76 (i := 4) rfl (j := 6) rfl rfl D25_2_136 ?_
    refine G.iload K D25_2_139 rfl ?_
    refine G.iloadN K D25_2_141 rfl ?_
    refine G.iconst K D25_2_142 (-1) rfl ?_
    have H77 : Hp n0 h76 ((b73, Ia Z (lst (max (q + 1) (2 * L)) (fun i => if i < L then LO i else 0))) :: (b70, Ia Z (lst (max (q + 1) (2 * L)) (fun i => if L ≤ i ∧ i < (max (q + 1) (2 * L)) then -1 else if i < L then FO i else 0))) :: (ga, Ia Z (lst L LO)) :: (fa, Ia Z (lst L FO)) :: (a, Ob Z "com/example/rankwise/rankwise/engine/KeptItems" NSI [.ref ia, .ref ka, .ref ea, .ref la, .int (Int32.ofNat s), .ref b70, .ref b73]) :: (ia, Ra Z "com/example/rankwise/rankwise/engine/Ranked" (lst 16 IT)) :: (ka, Ia Z (lst 16 KO)) :: (ea, Ia Z (lst 16 EA)) :: (la, Ia Z (lst 16 LT)) :: (it, Ob Z "com/example/rankwise/rankwise/engine/Ranked" NSR vr) :: σ) := H76.pull 1 rfl
    refine G.callS K hl (wd hw 63 rfl) (wd hw 64 rfl) (wd hw 54 rfl) (wd hw 65 rfl) (by decide) pd_3 (ct_fill l Z a0 hw n0 h76 b73 (max (q + 1) (2 * L)) L (max (q + 1) (2 * L)) (-1) (fun i => if i < L then LO i else 0) ((b70, Ia Z (lst (max (q + 1) (2 * L)) (fun i => if L ≤ i ∧ i < (max (q + 1) (2 * L)) then -1 else if i < L then FO i else 0))) :: (ga, Ia Z (lst L LO)) :: (fa, Ia Z (lst L FO)) :: (a, Ob Z "com/example/rankwise/rankwise/engine/KeptItems" NSI [.ref ia, .ref ka, .ref ea, .ref la, .int (Int32.ofNat s), .ref b70, .ref b73]) :: (ia, Ra Z "com/example/rankwise/rankwise/engine/Ranked" (lst 16 IT)) :: (ka, Ia Z (lst 16 KO)) :: (ea, Ia Z (lst 16 EA)) :: (la, Ia Z (lst 16 LT)) :: (it, Ob Z "com/example/rankwise/rankwise/engine/Ranked" NSR vr) :: σ) (by omega) (by omega) (by omega) H77) 0 rfl (by decide) (by decide) (by decide) (by decide) rfl rfl [.int (-1), .int (Int32.ofNat (max (q + 1) (2 * L))), .int (Int32.ofNat L), .ref b73] rfl D25_2_143 ?_
    rintro _ h78 ⟨rfl, H78⟩
    change Hp n0 h78 ((b73, Ia Z (lst (max (q + 1) (2 * L)) (fun i => if L ≤ i ∧ i < (max (q + 1) (2 * L)) then -1 else if i < L then LO i else 0))) :: (b70, Ia Z (lst (max (q + 1) (2 * L)) (fun i => if L ≤ i ∧ i < (max (q + 1) (2 * L)) then -1 else if i < L then FO i else 0))) :: (ga, Ia Z (lst L LO)) :: (fa, Ia Z (lst L FO)) :: (a, Ob Z "com/example/rankwise/rankwise/engine/KeptItems" NSI [.ref ia, .ref ka, .ref ea, .ref la, .int (Int32.ofNat s), .ref b70, .ref b73]) :: (ia, Ra Z "com/example/rankwise/rankwise/engine/Ranked" (lst 16 IT)) :: (ka, Ia Z (lst 16 KO)) :: (ea, Ia Z (lst 16 EA)) :: (la, Ia Z (lst 16 LT)) :: (it, Ob Z "com/example/rankwise/rankwise/engine/Ranked" NSR vr) :: σ) at H78
    change G k n0 _ h78 _ _ 146 [.val (.ref a), .val (.int (Int32.ofNat q)), .val (.ref it), .val (.int (Int32.ofNat (max (q + 1) (2 * L)))), .val (.int (Int32.ofNat L))] []
    have H79 : Hp n0 h78 ((ga, Ia Z (lst L LO)) :: (b73, Ia Z (lst (max (q + 1) (2 * L)) (fun i => if L ≤ i ∧ i < (max (q + 1) (2 * L)) then -1 else if i < L then LO i else 0))) :: (b70, Ia Z (lst (max (q + 1) (2 * L)) (fun i => if L ≤ i ∧ i < (max (q + 1) (2 * L)) then -1 else if i < L then FO i else 0))) :: (fa, Ia Z (lst L FO)) :: (a, Ob Z "com/example/rankwise/rankwise/engine/KeptItems" NSI [.ref ia, .ref ka, .ref ea, .ref la, .int (Int32.ofNat s), .ref b70, .ref b73]) :: (ia, Ra Z "com/example/rankwise/rankwise/engine/Ranked" (lst 16 IT)) :: (ka, Ia Z (lst 16 KO)) :: (ea, Ia Z (lst 16 EA)) :: (la, Ia Z (lst 16 LT)) :: (it, Ob Z "com/example/rankwise/rankwise/engine/Ranked" NSR vr) :: σ) := H78.pull 2 rfl
    have H80 : Hp n0 h78 ((fa, Ia Z (lst L FO)) :: (ga, Ia Z (lst L LO)) :: (b73, Ia Z (lst (max (q + 1) (2 * L)) (fun i => if L ≤ i ∧ i < (max (q + 1) (2 * L)) then -1 else if i < L then LO i else 0))) :: (b70, Ia Z (lst (max (q + 1) (2 * L)) (fun i => if L ≤ i ∧ i < (max (q + 1) (2 * L)) then -1 else if i < L then FO i else 0))) :: (a, Ob Z "com/example/rankwise/rankwise/engine/KeptItems" NSI [.ref ia, .ref ka, .ref ea, .ref la, .int (Int32.ofNat s), .ref b70, .ref b73]) :: (ia, Ra Z "com/example/rankwise/rankwise/engine/Ranked" (lst 16 IT)) :: (ka, Ia Z (lst 16 KO)) :: (ea, Ia Z (lst 16 EA)) :: (la, Ia Z (lst 16 LT)) :: (it, Ob Z "com/example/rankwise/rankwise/engine/Ranked" NSR vr) :: σ) := H79.pull 3 rfl
    have H81 : Hp n0 h78 ((it, Ob Z "com/example/rankwise/rankwise/engine/Ranked" NSR vr) :: (fa, Ia Z (lst L FO)) :: (ga, Ia Z (lst L LO)) :: (b73, Ia Z (lst (max (q + 1) (2 * L)) (fun i => if L ≤ i ∧ i < (max (q + 1) (2 * L)) then -1 else if i < L then LO i else 0))) :: (b70, Ia Z (lst (max (q + 1) (2 * L)) (fun i => if L ≤ i ∧ i < (max (q + 1) (2 * L)) then -1 else if i < L then FO i else 0))) :: (a, Ob Z "com/example/rankwise/rankwise/engine/KeptItems" NSI [.ref ia, .ref ka, .ref ea, .ref la, .int (Int32.ofNat s), .ref b70, .ref b73]) :: (ia, Ra Z "com/example/rankwise/rankwise/engine/Ranked" (lst 16 IT)) :: (ka, Ia Z (lst 16 KO)) :: (ea, Ia Z (lst 16 EA)) :: (la, Ia Z (lst 16 LT)) :: σ) := H80.pull 9 rfl
    have H82 : Hp n0 h78 ((b73, Ia Z (lst (max (q + 1) (2 * L)) (fun i => if L ≤ i ∧ i < (max (q + 1) (2 * L)) then -1 else if i < L then LO i else 0))) :: (it, Ob Z "com/example/rankwise/rankwise/engine/Ranked" NSR vr) :: (fa, Ia Z (lst L FO)) :: (ga, Ia Z (lst L LO)) :: (b70, Ia Z (lst (max (q + 1) (2 * L)) (fun i => if L ≤ i ∧ i < (max (q + 1) (2 * L)) then -1 else if i < L then FO i else 0))) :: (a, Ob Z "com/example/rankwise/rankwise/engine/KeptItems" NSI [.ref ia, .ref ka, .ref ea, .ref la, .int (Int32.ofNat s), .ref b70, .ref b73]) :: (ia, Ra Z "com/example/rankwise/rankwise/engine/Ranked" (lst 16 IT)) :: (ka, Ia Z (lst 16 KO)) :: (ea, Ia Z (lst 16 EA)) :: (la, Ia Z (lst 16 LT)) :: σ) := H81.pull 3 rfl
    have H83 : Hp n0 h78 ((b70, Ia Z (lst (max (q + 1) (2 * L)) (fun i => if L ≤ i ∧ i < (max (q + 1) (2 * L)) then -1 else if i < L then FO i else 0))) :: (b73, Ia Z (lst (max (q + 1) (2 * L)) (fun i => if L ≤ i ∧ i < (max (q + 1) (2 * L)) then -1 else if i < L then LO i else 0))) :: (it, Ob Z "com/example/rankwise/rankwise/engine/Ranked" NSR vr) :: (fa, Ia Z (lst L FO)) :: (ga, Ia Z (lst L LO)) :: (a, Ob Z "com/example/rankwise/rankwise/engine/KeptItems" NSI [.ref ia, .ref ka, .ref ea, .ref la, .int (Int32.ofNat s), .ref b70, .ref b73]) :: (ia, Ra Z "com/example/rankwise/rankwise/engine/Ranked" (lst 16 IT)) :: (ka, Ia Z (lst 16 KO)) :: (ea, Ia Z (lst 16 EA)) :: (la, Ia Z (lst 16 LT)) :: σ) := H82.pull 4 rfl
    have H84 : Hp n0 h78 ((la, Ia Z (lst 16 LT)) :: (b70, Ia Z (lst (max (q + 1) (2 * L)) (fun i => if L ≤ i ∧ i < (max (q + 1) (2 * L)) then -1 else if i < L then FO i else 0))) :: (b73, Ia Z (lst (max (q + 1) (2 * L)) (fun i => if L ≤ i ∧ i < (max (q + 1) (2 * L)) then -1 else if i < L then LO i else 0))) :: (it, Ob Z "com/example/rankwise/rankwise/engine/Ranked" NSR vr) :: (fa, Ia Z (lst L FO)) :: (ga, Ia Z (lst L LO)) :: (a, Ob Z "com/example/rankwise/rankwise/engine/KeptItems" NSI [.ref ia, .ref ka, .ref ea, .ref la, .int (Int32.ofNat s), .ref b70, .ref b73]) :: (ia, Ra Z "com/example/rankwise/rankwise/engine/Ranked" (lst 16 IT)) :: (ka, Ia Z (lst 16 KO)) :: (ea, Ia Z (lst 16 EA)) :: σ) := H83.pull 9 rfl
    have H85 : Hp n0 h78 ((ea, Ia Z (lst 16 EA)) :: (la, Ia Z (lst 16 LT)) :: (b70, Ia Z (lst (max (q + 1) (2 * L)) (fun i => if L ≤ i ∧ i < (max (q + 1) (2 * L)) then -1 else if i < L then FO i else 0))) :: (b73, Ia Z (lst (max (q + 1) (2 * L)) (fun i => if L ≤ i ∧ i < (max (q + 1) (2 * L)) then -1 else if i < L then LO i else 0))) :: (it, Ob Z "com/example/rankwise/rankwise/engine/Ranked" NSR vr) :: (fa, Ia Z (lst L FO)) :: (ga, Ia Z (lst L LO)) :: (a, Ob Z "com/example/rankwise/rankwise/engine/KeptItems" NSI [.ref ia, .ref ka, .ref ea, .ref la, .int (Int32.ofNat s), .ref b70, .ref b73]) :: (ia, Ra Z "com/example/rankwise/rankwise/engine/Ranked" (lst 16 IT)) :: (ka, Ia Z (lst 16 KO)) :: σ) := H84.pull 9 rfl
    have H86 : Hp n0 h78 ((ka, Ia Z (lst 16 KO)) :: (ea, Ia Z (lst 16 EA)) :: (la, Ia Z (lst 16 LT)) :: (b70, Ia Z (lst (max (q + 1) (2 * L)) (fun i => if L ≤ i ∧ i < (max (q + 1) (2 * L)) then -1 else if i < L then FO i else 0))) :: (b73, Ia Z (lst (max (q + 1) (2 * L)) (fun i => if L ≤ i ∧ i < (max (q + 1) (2 * L)) then -1 else if i < L then LO i else 0))) :: (it, Ob Z "com/example/rankwise/rankwise/engine/Ranked" NSR vr) :: (fa, Ia Z (lst L FO)) :: (ga, Ia Z (lst L LO)) :: (a, Ob Z "com/example/rankwise/rankwise/engine/KeptItems" NSI [.ref ia, .ref ka, .ref ea, .ref la, .int (Int32.ofNat s), .ref b70, .ref b73]) :: (ia, Ra Z "com/example/rankwise/rankwise/engine/Ranked" (lst 16 IT)) :: σ) := H85.pull 9 rfl
    have H87 : Hp n0 h78 ((ia, Ra Z "com/example/rankwise/rankwise/engine/Ranked" (lst 16 IT)) :: (ka, Ia Z (lst 16 KO)) :: (ea, Ia Z (lst 16 EA)) :: (la, Ia Z (lst 16 LT)) :: (b70, Ia Z (lst (max (q + 1) (2 * L)) (fun i => if L ≤ i ∧ i < (max (q + 1) (2 * L)) then -1 else if i < L then FO i else 0))) :: (b73, Ia Z (lst (max (q + 1) (2 * L)) (fun i => if L ≤ i ∧ i < (max (q + 1) (2 * L)) then -1 else if i < L then LO i else 0))) :: (it, Ob Z "com/example/rankwise/rankwise/engine/Ranked" NSR vr) :: (fa, Ia Z (lst L FO)) :: (ga, Ia Z (lst L LO)) :: (a, Ob Z "com/example/rankwise/rankwise/engine/KeptItems" NSI [.ref ia, .ref ka, .ref ea, .ref la, .int (Int32.ofNat s), .ref b70, .ref b73]) :: σ) := H86.pull 9 rfl
    have H88 : Hp n0 h78 ((a, Ob Z "com/example/rankwise/rankwise/engine/KeptItems" NSI [.ref ia, .ref ka, .ref ea, .ref la, .int (Int32.ofNat s), .ref b70, .ref b73]) :: (ia, Ra Z "com/example/rankwise/rankwise/engine/Ranked" (lst 16 IT)) :: (ka, Ia Z (lst 16 KO)) :: (ea, Ia Z (lst 16 EA)) :: (la, Ia Z (lst 16 LT)) :: (b70, Ia Z (lst (max (q + 1) (2 * L)) (fun i => if L ≤ i ∧ i < (max (q + 1) (2 * L)) then -1 else if i < L then FO i else 0))) :: (b73, Ia Z (lst (max (q + 1) (2 * L)) (fun i => if L ≤ i ∧ i < (max (q + 1) (2 * L)) then -1 else if i < L then LO i else 0))) :: (it, Ob Z "com/example/rankwise/rankwise/engine/Ranked" NSR vr) :: (fa, Ia Z (lst L FO)) :: (ga, Ia Z (lst L LO)) :: σ) := H87.pull 9 rfl
    have H89 : Hp n0 h78 ((a, Ob Z "com/example/rankwise/rankwise/engine/KeptItems" NSI [.ref ia, .ref ka, .ref ea, .ref la, .int (Int32.ofNat s), .ref b70, .ref b73]) :: (ia, Ra Z "com/example/rankwise/rankwise/engine/Ranked" (lst 16 IT)) :: (ka, Ia Z (lst 16 KO)) :: (ea, Ia Z (lst 16 EA)) :: (la, Ia Z (lst 16 LT)) :: (b70, Ia Z (lst (max (q + 1) (2 * L)) (fun i => if L ≤ i ∧ i < (max (q + 1) (2 * L)) then -1 else if i < L then FO i else 0))) :: (b73, Ia Z (lst (max (q + 1) (2 * L)) (fun i => if L ≤ i ∧ i < (max (q + 1) (2 * L)) then -1 else if i < L then LO i else 0))) :: (it, Ob Z "com/example/rankwise/rankwise/engine/Ranked" NSR vr) :: σ) := H88.sub (List.Sublist.cons_cons _ (List.Sublist.cons_cons _ (List.Sublist.cons_cons _ (List.Sublist.cons_cons _ (List.Sublist.cons_cons _ (List.Sublist.cons_cons _ (List.Sublist.cons_cons _ (List.Sublist.cons_cons _ (List.Sublist.cons _ (List.Sublist.cons _ (List.Sublist.refl _)))))))))))
    rw [lst_grown hF, lst_grown hO] at H89
    exact T146 _ _ _ (max (q + 1) (2 * L)) _ _ (by omega) (by omega) (by omega) (Or.inr ⟨_, rfl⟩) H89
theorem D25_8_0 : Dc prog_25_method_8_code 0 (.aload_n 0) 1 1 := dc (by decide +kernel) rfl
theorem D25_8_1 : Dc prog_25_method_8_code 1 (.dup) 1 2 := dc (by decide +kernel) rfl
theorem D25_8_2 : Dc prog_25_method_8_code 2 (.getfield 31) 3 5 := dc (by decide +kernel) rfl
theorem D25_8_5 : Dc prog_25_method_8_code 5 (.iconst 1) 1 6 := dc (by decide +kernel) rfl
theorem D25_8_6 : Dc prog_25_method_8_code 6 (.isub) 1 7 := dc (by decide +kernel) rfl
theorem D25_8_7 : Dc prog_25_method_8_code 7 (.putfield 31) 3 10 := dc (by decide +kernel) rfl
theorem D25_8_10 : Dc prog_25_method_8_code 10 (.aload_n 0) 1 11 := dc (by decide +kernel) rfl
theorem D25_8_11 : Dc prog_25_method_8_code 11 (.getfield 15) 3 14 := dc (by decide +kernel) rfl
theorem D25_8_14 : Dc prog_25_method_8_code 14 (.aload_n 0) 1 15 := dc (by decide +kernel) rfl
theorem D25_8_15 : Dc prog_25_method_8_code 15 (.getfield 31) 3 18 := dc (by decide +kernel) rfl
theorem D25_8_18 : Dc prog_25_method_8_code 18 (.iaload) 1 19 := dc (by decide +kernel) rfl
theorem D25_8_19 : Dc prog_25_method_8_code 19 (.istore_n 1) 1 20 := dc (by decide +kernel) rfl
theorem D25_8_20 : Dc prog_25_method_8_code 20 (.aload_n 0) 1 21 := dc (by decide +kernel) rfl
theorem D25_8_21 : Dc prog_25_method_8_code 21 (.getfield 19) 3 24 := dc (by decide +kernel) rfl
theorem D25_8_24 : Dc prog_25_method_8_code 24 (.aload_n 0) 1 25 := dc (by decide +kernel) rfl
theorem D25_8_25 : Dc prog_25_method_8_code 25 (.getfield 31) 3 28 := dc (by decide +kernel) rfl
theorem D25_8_28 : Dc prog_25_method_8_code 28 (.iaload) 1 29 := dc (by decide +kernel) rfl
theorem D25_8_29 : Dc prog_25_method_8_code 29 (.istore_n 2) 1 30 := dc (by decide +kernel) rfl
theorem D25_8_30 : Dc prog_25_method_8_code 30 (.aload_n 0) 1 31 := dc (by decide +kernel) rfl
theorem D25_8_31 : Dc prog_25_method_8_code 31 (.getfield 28) 3 34 := dc (by decide +kernel) rfl
theorem D25_8_34 : Dc prog_25_method_8_code 34 (.iload_n 1) 1 35 := dc (by decide +kernel) rfl
theorem D25_8_35 : Dc prog_25_method_8_code 35 (.iload_n 2) 1 36 := dc (by decide +kernel) rfl
theorem D25_8_36 : Dc prog_25_method_8_code 36 (.iastore) 1 37 := dc (by decide +kernel) rfl
theorem D25_8_37 : Dc prog_25_method_8_code 37 (.iload_n 2) 1 38 := dc (by decide +kernel) rfl
theorem D25_8_38 : Db prog_25_method_8_code 38 (.ifCond .lt) 41 51 := db (13) (by decide +kernel) rfl (by decide) (by decide)
theorem D25_8_41 : Dc prog_25_method_8_code 41 (.aload_n 0) 1 42 := dc (by decide +kernel) rfl
theorem D25_8_42 : Dc prog_25_method_8_code 42 (.getfield 22) 3 45 := dc (by decide +kernel) rfl
theorem D25_8_45 : Dc prog_25_method_8_code 45 (.iload_n 2) 1 46 := dc (by decide +kernel) rfl
theorem D25_8_46 : Dc prog_25_method_8_code 46 (.iconst (-1)) 1 47 := dc (by decide +kernel) rfl
theorem D25_8_47 : Dc prog_25_method_8_code 47 (.iastore) 1 48 := dc (by decide +kernel) rfl
theorem D25_8_48 : Db prog_25_method_8_code 48 (.goto) 51 58 := db (10) (by decide +kernel) rfl (by decide) (by decide)
theorem D25_8_51 : Dc prog_25_method_8_code 51 (.aload_n 0) 1 52 := dc (by decide +kernel) rfl
theorem D25_8_52 : Dc prog_25_method_8_code 52 (.getfield 25) 3 55 := dc (by decide +kernel) rfl
theorem D25_8_55 : Dc prog_25_method_8_code 55 (.iload_n 1) 1 56 := dc (by decide +kernel) rfl
theorem D25_8_56 : Dc prog_25_method_8_code 56 (.iconst (-1)) 1 57 := dc (by decide +kernel) rfl
theorem D25_8_57 : Dc prog_25_method_8_code 57 (.iastore) 1 58 := dc (by decide +kernel) rfl
theorem D25_8_58 : Dc prog_25_method_8_code 58 (.aload_n 0) 1 59 := dc (by decide +kernel) rfl
theorem D25_8_59 : Dc prog_25_method_8_code 59 (.getfield 9) 3 62 := dc (by decide +kernel) rfl
theorem D25_8_62 : Dc prog_25_method_8_code 62 (.aload_n 0) 1 63 := dc (by decide +kernel) rfl
theorem D25_8_63 : Dc prog_25_method_8_code 63 (.getfield 31) 3 66 := dc (by decide +kernel) rfl
theorem D25_8_66 : Dc prog_25_method_8_code 66 (.aconst_null) 1 67 := dc (by decide +kernel) rfl
theorem D25_8_67 : Dc prog_25_method_8_code 67 (.aastore) 1 68 := dc (by decide +kernel) rfl
theorem D25_8_68 : Dc prog_25_method_8_code 68 (.return_) 1 69 := dc (by decide +kernel) rfl
set_option maxRecDepth 65536 in
set_option maxHeartbeats 40000000 in
theorem ct_drop (l : Launch) (Z : State) (a0 : Array Value) (hw : ∀ d ∈ tables_1, d.before a0 Z = true) (n0 : Nat) (h : Heap) (a ia ka ea la fa ga : Addr) (s L q : Nat) (pv : Int32) (IT : Nat → Value) (KO EA LT FO LO : Nat → Int32) (σ : List Ch) (hs : s < 15) (hL : L ≤ 14) (hq : q < L) (hk : KO s = Int32.ofNat q) (hp : EA s = pv) (hI : Ix 15 pv) (H : Hp n0 h ((a, Ob Z "com/example/rankwise/rankwise/engine/KeptItems" NSI [.ref ia, .ref ka, .ref ea, .ref la, .int (Int32.ofNat (s + 1)), .ref fa, .ref ga]) :: (ia, Ra Z "com/example/rankwise/rankwise/engine/Ranked" (lst 16 IT)) :: (ka, Ia Z (lst 16 KO)) :: (ea, Ia Z (lst 16 EA)) :: (la, Ia Z (lst 16 LT)) :: (fa, Ia Z (lst L FO)) :: (ga, Ia Z (lst L LO)) :: σ)) :
    Ct l Z n0 (⟨"com/example/rankwise/rankwise/engine/KeptItems", "dropLast", "()V"⟩ : MethodName) prog_25_method_8_code 3 none ({ frames := 0, cells := 0, slots := 0, locals := 0 } : Room) [.ref a] h (fun v h' => v = none ∧ Hp n0 h' ((a, Ob Z "com/example/rankwise/rankwise/engine/KeptItems" NSI [.ref ia, .ref ka, .ref ea, .ref la, .int (Int32.ofNat s), .ref fa, .ref ga]) :: (ia, Ra Z "com/example/rankwise/rankwise/engine/Ranked" (lst 16 (fup IT s Value.null))) :: (ka, Ia Z (lst 16 KO)) :: (ea, Ia Z (lst 16 EA)) :: (la, Ia Z (lst 16 (drT pv LT))) :: (fa, Ia Z (lst L (drF pv FO q))) :: (ga, Ia Z (lst L (fup LO q pv))) :: σ)) := by
  refine Ct.intro (plainFor_of_name pn_1) [.val (.ref a), .unset, .unset] (fun m => by first | (simp [entryFrame, mkF, argsToLocals, Value.category]; done) | (simp [entryFrame, mkF, argsToLocals, Value.category, maxLocals]; done) | rfl) ?_
  intro k hl K
  replace K : Ok k Z n0 "com/example/rankwise/rankwise/engine/KeptItems" ({ frames := 0, cells := 0, slots := 0, locals := 0 } : Room) prog_25_method_8_code 3 none "dropLast" := K
  have hsp : s < 2147483648 := by omega
  have hqp : q < 2147483648 := by omega
  refine G.aloadN K D25_8_0 rfl rfl ?_
  refine G.dup K D25_8_1 rfl ?_
  refine G.getF K (host := "") (Or.inl (wd hw 46 rfl)) H (i := 0) rfl (j := 4) rfl rfl D25_8_2 ?_
  refine G.iconst K D25_8_5 1 rfl ?_
  refine G.isub K D25_8_6 ?_
  rw [own_succsub s]
  refine G.putF K (host := "") (Or.inl (wd hw 46 rfl)) (cf_NSI hw) (Or.inl (wd hw 47 rfl)) (wd hw 1 rfl) H (i := 0) rfl (j := 4) rfl rfl (ty := .int) (by decide) rfl rfl D25_8_7 ?_
  intro h90 H90
  change Hp n0 h90 ((a, Ob Z "com/example/rankwise/rankwise/engine/KeptItems" NSI [.ref ia, .ref ka, .ref ea, .ref la, .int (Int32.ofNat s), .ref fa, .ref ga]) :: (ia, Ra Z "com/example/rankwise/rankwise/engine/Ranked" (lst 16 IT)) :: (ka, Ia Z (lst 16 KO)) :: (ea, Ia Z (lst 16 EA)) :: (la, Ia Z (lst 16 LT)) :: (fa, Ia Z (lst L FO)) :: (ga, Ia Z (lst L LO)) :: σ) at H90
  refine G.aloadN K D25_8_10 rfl rfl ?_
  refine G.getF K (host := "") (Or.inl (wd hw 14 rfl)) H90 (i := 0) rfl (j := 1) rfl rfl D25_8_11 ?_
  refine G.aloadN K D25_8_14 rfl rfl ?_
  refine G.getF K (host := "") (Or.inl (wd hw 46 rfl)) H90 (i := 0) rfl (j := 4) rfl rfl D25_8_15 ?_
  refine G.aload_i K H90 (i := 2) rfl (own_nneg hsp) (by rw [own_nidx hsp, lst_get _ (by omega), hk]) D25_8_18 ?_
  refine G.istoreN K D25_8_19 ([.val (.ref a), .val (.int (Int32.ofNat q)), .unset]) rfl ?_
  refine G.aloadN K D25_8_20 rfl rfl ?_
  refine G.getF K (host := "") (Or.inl (wd hw 16 rfl)) H90 (i := 0) rfl (j := 2) rfl rfl D25_8_21 ?_
  refine G.aloadN K D25_8_24 rfl rfl ?_
  refine G.getF K (host := "") (Or.inl (wd hw 46 rfl)) H90 (i := 0) rfl (j := 4) rfl rfl D25_8_25 ?_
  refine G.aload_i K H90 (i := 3) rfl (own_nneg hsp) (by rw [own_nidx hsp, lst_get _ (by omega), hp]) D25_8_28 ?_
  refine G.istoreN K D25_8_29 ([.val (.ref a), .val (.int (Int32.ofNat q)), .val (.int pv)]) rfl ?_
  refine G.aloadN K D25_8_30 rfl rfl ?_
  refine G.getF K (host := "") (Or.inl (wd hw 22 rfl)) H90 (i := 0) rfl (j := 6) rfl rfl D25_8_31 ?_
  refine G.iloadN K D25_8_34 rfl ?_
  refine G.iloadN K D25_8_35 rfl ?_
  refine G.astore_i K H90 (i := 6) rfl (own_nneg hqp) (by rw [own_nidx hqp, lst_len]; omega) D25_8_36 ?_
  intro h91 H91
  rw [own_nidx hqp, lst_set _ hq] at H91
  change Hp n0 h91 ((a, Ob Z "com/example/rankwise/rankwise/engine/KeptItems" NSI [.ref ia, .ref ka, .ref ea, .ref la, .int (Int32.ofNat s), .ref fa, .ref ga]) :: (ia, Ra Z "com/example/rankwise/rankwise/engine/Ranked" (lst 16 IT)) :: (ka, Ia Z (lst 16 KO)) :: (ea, Ia Z (lst 16 EA)) :: (la, Ia Z (lst 16 LT)) :: (fa, Ia Z (lst L FO)) :: (ga, Ia Z (lst L (fup LO q pv))) :: σ) at H91
  refine G.iloadN K D25_8_37 rfl ?_
  refine G.if_lt K D25_8_38 (fun q92 => ?_) (fun q92 => ?_)
  · refine G.aloadN K D25_8_51 rfl rfl ?_
    refine G.getF K (host := "") (Or.inl (wd hw 20 rfl)) H91 (i := 0) rfl (j := 5) rfl rfl D25_8_52 ?_
    refine G.iloadN K D25_8_55 rfl ?_
    refine G.iconst K D25_8_56 (-1) rfl ?_
    refine G.astore_i K H91 (i := 5) rfl (own_nneg hqp) (by rw [own_nidx hqp, lst_len]; omega) D25_8_57 ?_
    intro h93 H93
    rw [own_nidx hqp, lst_set _ hq] at H93
    change Hp n0 h93 ((a, Ob Z "com/example/rankwise/rankwise/engine/KeptItems" NSI [.ref ia, .ref ka, .ref ea, .ref la, .int (Int32.ofNat s), .ref fa, .ref ga]) :: (ia, Ra Z "com/example/rankwise/rankwise/engine/Ranked" (lst 16 IT)) :: (ka, Ia Z (lst 16 KO)) :: (ea, Ia Z (lst 16 EA)) :: (la, Ia Z (lst 16 LT)) :: (fa, Ia Z (lst L (fup FO q (-1)))) :: (ga, Ia Z (lst L (fup LO q pv))) :: σ) at H93
    refine G.aloadN K D25_8_58 rfl rfl ?_
    refine G.getF K (host := "") (Or.inl (wd hw 11 rfl)) H93 (i := 0) rfl (j := 0) rfl rfl D25_8_59 ?_
    refine G.aloadN K D25_8_62 rfl rfl ?_
    refine G.getF K (host := "") (Or.inl (wd hw 46 rfl)) H93 (i := 0) rfl (j := 4) rfl rfl D25_8_63 ?_
    refine G.aconst_null K D25_8_66 ?_
    refine G.astore_r K H93 (i := 1) rfl (own_nneg hsp) (by rw [own_nidx hsp, lst_len]; omega) (Or.inl rfl) D25_8_67 ?_
    intro h94 H94
    rw [own_nidx hsp, lst_set _ (by omega)] at H94
    change Hp n0 h94 ((a, Ob Z "com/example/rankwise/rankwise/engine/KeptItems" NSI [.ref ia, .ref ka, .ref ea, .ref la, .int (Int32.ofNat s), .ref fa, .ref ga]) :: (ia, Ra Z "com/example/rankwise/rankwise/engine/Ranked" (lst 16 (fup IT s Value.null))) :: (ka, Ia Z (lst 16 KO)) :: (ea, Ia Z (lst 16 EA)) :: (la, Ia Z (lst 16 LT)) :: (fa, Ia Z (lst L (fup FO q (-1)))) :: (ga, Ia Z (lst L (fup LO q pv))) :: σ) at H94
    refine G.ret_void K D25_8_68 ?_
    exact ⟨rfl, by rw [drT, if_pos q92, drF, if_pos q92]; exact H94⟩
  · obtain ⟨j, hj, ej⟩ := hI.pos q92
    have hjp : j < 2147483648 := by omega
    refine G.aloadN K D25_8_41 rfl rfl ?_
    refine G.getF K (host := "") (Or.inl (wd hw 18 rfl)) H91 (i := 0) rfl (j := 3) rfl rfl D25_8_42 ?_
    refine G.iloadN K D25_8_45 rfl ?_
    refine G.iconst K D25_8_46 (-1) rfl ?_
    refine G.astore_i K H91 (i := 4) rfl (q92) (by rw [ej, own_nidx hjp, lst_len]; omega) D25_8_47 ?_
    intro h95 H95
    rw [show pv.toNatClampNeg = j from (by rw [ej, own_nidx hjp]), lst_set _ (by omega)] at H95
    change Hp n0 h95 ((a, Ob Z "com/example/rankwise/rankwise/engine/KeptItems" NSI [.ref ia, .ref ka, .ref ea, .ref la, .int (Int32.ofNat s), .ref fa, .ref ga]) :: (ia, Ra Z "com/example/rankwise/rankwise/engine/Ranked" (lst 16 IT)) :: (ka, Ia Z (lst 16 KO)) :: (ea, Ia Z (lst 16 EA)) :: (la, Ia Z (lst 16 (fup LT j (-1)))) :: (fa, Ia Z (lst L FO)) :: (ga, Ia Z (lst L (fup LO q pv))) :: σ) at H95
    refine G.goto K D25_8_48 ?_
    refine G.aloadN K D25_8_58 rfl rfl ?_
    refine G.getF K (host := "") (Or.inl (wd hw 11 rfl)) H95 (i := 0) rfl (j := 0) rfl rfl D25_8_59 ?_
    refine G.aloadN K D25_8_62 rfl rfl ?_
    refine G.getF K (host := "") (Or.inl (wd hw 46 rfl)) H95 (i := 0) rfl (j := 4) rfl rfl D25_8_63 ?_
    refine G.aconst_null K D25_8_66 ?_
    refine G.astore_r K H95 (i := 1) rfl (own_nneg hsp) (by rw [own_nidx hsp, lst_len]; omega) (Or.inl rfl) D25_8_67 ?_
    intro h96 H96
    rw [own_nidx hsp, lst_set _ (by omega)] at H96
    change Hp n0 h96 ((a, Ob Z "com/example/rankwise/rankwise/engine/KeptItems" NSI [.ref ia, .ref ka, .ref ea, .ref la, .int (Int32.ofNat s), .ref fa, .ref ga]) :: (ia, Ra Z "com/example/rankwise/rankwise/engine/Ranked" (lst 16 (fup IT s Value.null))) :: (ka, Ia Z (lst 16 KO)) :: (ea, Ia Z (lst 16 EA)) :: (la, Ia Z (lst 16 (fup LT j (-1)))) :: (fa, Ia Z (lst L FO)) :: (ga, Ia Z (lst L (fup LO q pv))) :: σ) at H96
    refine G.ret_void K D25_8_68 ?_
    exact ⟨rfl, by rw [drT, if_neg q92, drF, if_neg q92, show pv.toNatClampNeg = j from by rw [ej, own_nidx hjp]]; exact H96⟩
theorem Ix_le {s t : Nat} {v : Int32} (h : Ix s v) (q : s ≤ t) : Ix t v := h.imp id fun ⟨j, h1, h2⟩ => ⟨j, by omega, h2⟩
theorem Ix_back {s q : Nat} {LO : Nat → Int32} (h : ∀ i, Ix s (LO i)) : ∀ i, Ix s (fup (fup LO q (Int32.ofNat s)) q (LO q) i) := by
  intro i; unfold fup; by_cases z : i = q
  · rw [if_pos z]; exact h q
  · rw [if_neg z, if_neg z]; exact h i
theorem Dx_0 : Dc code 0 (.iload_n 0) 1 1 := dc at_0 rfl
theorem Dx_1 : Dc code 1 (.iconst 3) 1 2 := dc at_1 rfl
theorem Dx_2 : Dc code 2 (.iand) 1 3 := dc at_2 rfl
theorem Dx_3 : Dc code 3 (.istore 4) 2 5 := dc at_3 rfl
theorem Dx_5 : Dc code 5 (.iload_n 1) 1 6 := dc at_5 rfl
theorem Dx_6 : Dc code 6 (.bipush 7) 2 8 := dc at_6 rfl
theorem Dx_8 : Dc code 8 (.iand) 1 9 := dc at_8 rfl
theorem Dx_9 : Dc code 9 (.istore 5) 2 11 := dc at_9 rfl
theorem Dx_11 : Dc code 11 (.iload_n 1) 1 12 := dc at_11 rfl
theorem Dx_12 : Dc code 12 (.iconst 3) 1 13 := dc at_12 rfl
theorem Dx_13 : Dc code 13 (.iushr) 1 14 := dc at_13 rfl
theorem Dx_14 : Dc code 14 (.bipush 7) 2 16 := dc at_14 rfl
theorem Dx_16 : Dc code 16 (.iand) 1 17 := dc at_16 rfl
theorem Dx_17 : Dc code 17 (.istore 6) 2 19 := dc at_17 rfl
theorem Dx_19 : Dc code 19 (.iload_n 1) 1 20 := dc at_19 rfl
theorem Dx_20 : Dc code 20 (.bipush 6) 2 22 := dc at_20 rfl
theorem Dx_22 : Dc code 22 (.iushr) 1 23 := dc at_22 rfl
theorem Dx_23 : Dc code 23 (.bipush 7) 2 25 := dc at_23 rfl
theorem Dx_25 : Dc code 25 (.iand) 1 26 := dc at_25 rfl
theorem Dx_26 : Dc code 26 (.istore 7) 2 28 := dc at_26 rfl
theorem Dx_28 : Dc code 28 (.iload_n 3) 1 29 := dc at_28 rfl
theorem Dx_29 : Dc code 29 (.iconst 2) 1 30 := dc at_29 rfl
theorem Dx_30 : Dc code 30 (.iand) 1 31 := dc at_30 rfl
theorem Dx_31 : Db code 31 (.ifCond .eq) 34 43 := db (12) at_31 rfl (by decide) (by decide)
theorem Dx_34 : Dc code 34 (.iload 4) 2 36 := dc at_34 rfl
theorem Dx_36 : Db code 36 (.ifCond .le) 39 43 := db (7) at_36 rfl (by decide) (by decide)
theorem Dx_39 : Dc code 39 (.iconst 1) 1 40 := dc at_39 rfl
theorem Dx_40 : Db code 40 (.goto) 43 44 := db (4) at_40 rfl (by decide) (by decide)
theorem Dx_43 : Dc code 43 (.iconst 0) 1 44 := dc at_43 rfl
theorem Dx_44 : Dc code 44 (.istore 8) 2 46 := dc at_44 rfl
theorem Dx_46 : Dc code 46 (.iload_n 3) 1 47 := dc at_46 rfl
theorem Dx_47 : Dc code 47 (.iconst 1) 1 48 := dc at_47 rfl
theorem Dx_48 : Dc code 48 (.iand) 1 49 := dc at_48 rfl
theorem Dx_49 : Db code 49 (.ifCond .eq) 52 59 := db (10) at_49 rfl (by decide) (by decide)
theorem Dx_52 : Dc code 52 (.iload_n 2) 1 53 := dc at_52 rfl
theorem Dx_53 : Dc code 53 (.bipush 15) 2 55 := dc at_53 rfl
theorem Dx_55 : Dc code 55 (.iand) 1 56 := dc at_55 rfl
theorem Dx_56 : Db code 56 (.goto) 59 63 := db (7) at_56 rfl (by decide) (by decide)
theorem Dx_59 : Dc code 59 (.iload_n 2) 1 60 := dc at_59 rfl
theorem Dx_60 : Dc code 60 (.ldc 7) 2 62 := dc at_60 rfl
theorem Dx_62 : Dc code 62 (.iand) 1 63 := dc at_62 rfl
theorem Dx_63 : Dc code 63 (.istore 9) 2 65 := dc at_63 rfl
theorem Dx_65 : Dc code 65 (.new 8) 3 68 := dc at_65 rfl
theorem Dx_68 : Dc code 68 (.dup) 1 69 := dc at_68 rfl
theorem Dx_69 : Dc code 69 (.invokespecial 10) 3 72 := dc at_69 rfl
theorem Dx_72 : Dc code 72 (.astore 10) 2 74 := dc at_72 rfl
theorem Dx_74 : Dc code 74 (.new 11) 3 77 := dc at_74 rfl
theorem Dx_77 : Dc code 77 (.dup) 1 78 := dc at_77 rfl
theorem Dx_78 : Dc code 78 (.iconst 0) 1 79 := dc at_78 rfl
theorem Dx_79 : Dc code 79 (.newarray .int) 2 81 := dc at_79 rfl
theorem Dx_81 : Dc code 81 (.dconst 0) 1 82 := dc at_81 rfl
theorem Dx_82 : Dc code 82 (.invokespecial 13) 3 85 := dc at_82 rfl
theorem Dx_85 : Dc code 85 (.astore 11) 2 87 := dc at_85 rfl
theorem Dx_87 : Dc code 87 (.iload 4) 2 89 := dc at_87 rfl
theorem Dx_89 : Db code 89 (.ifCond .le) 92 101 := db (12) at_89 rfl (by decide) (by decide)
theorem Dx_92 : Dc code 92 (.aload 10) 2 94 := dc at_92 rfl
theorem Dx_94 : Dc code 94 (.iload 5) 2 96 := dc at_94 rfl
theorem Dx_96 : Dc code 96 (.aload 11) 2 98 := dc at_96 rfl
theorem Dx_98 : Dc code 98 (.invokevirtual 16) 3 101 := dc at_98 rfl
theorem Dx_101 : Dc code 101 (.iload 4) 2 103 := dc at_101 rfl
theorem Dx_103 : Dc code 103 (.iconst 1) 1 104 := dc at_103 rfl
theorem Dx_104 : Db code 104 (.if_icmp .le) 107 116 := db (12) at_104 rfl (by decide) (by decide)
theorem Dx_107 : Dc code 107 (.aload 10) 2 109 := dc at_107 rfl
theorem Dx_109 : Dc code 109 (.iload 6) 2 111 := dc at_109 rfl
theorem Dx_111 : Dc code 111 (.aload 11) 2 113 := dc at_111 rfl
theorem Dx_113 : Dc code 113 (.invokevirtual 16) 3 116 := dc at_113 rfl
theorem Dx_116 : Dc code 116 (.iload 4) 2 118 := dc at_116 rfl
theorem Dx_118 : Dc code 118 (.iconst 2) 1 119 := dc at_118 rfl
theorem Dx_119 : Db code 119 (.if_icmp .le) 122 131 := db (12) at_119 rfl (by decide) (by decide)
theorem Dx_122 : Dc code 122 (.aload 10) 2 124 := dc at_122 rfl
theorem Dx_124 : Dc code 124 (.iload 7) 2 126 := dc at_124 rfl
theorem Dx_126 : Dc code 126 (.aload 11) 2 128 := dc at_126 rfl
theorem Dx_128 : Dc code 128 (.invokevirtual 16) 3 131 := dc at_128 rfl
theorem Dx_131 : Dc code 131 (.iload 8) 2 133 := dc at_131 rfl
theorem Dx_133 : Db code 133 (.ifCond .eq) 136 141 := db (8) at_133 rfl (by decide) (by decide)
theorem Dx_136 : Dc code 136 (.aload 10) 2 138 := dc at_136 rfl
theorem Dx_138 : Dc code 138 (.invokevirtual 20) 3 141 := dc at_138 rfl
theorem Dx_141 : Dc code 141 (.iload 8) 2 143 := dc at_141 rfl
theorem Dx_143 : Db code 143 (.ifCond .eq) 146 153 := db (10) at_143 rfl (by decide) (by decide)
theorem Dx_146 : Dc code 146 (.iload 4) 2 148 := dc at_146 rfl
theorem Dx_148 : Dc code 148 (.iconst 1) 1 149 := dc at_148 rfl
theorem Dx_149 : Dc code 149 (.isub) 1 150 := dc at_149 rfl
theorem Dx_150 : Db code 150 (.goto) 153 155 := db (5) at_150 rfl (by decide) (by decide)
theorem Dx_153 : Dc code 153 (.iload 4) 2 155 := dc at_153 rfl
theorem Dx_155 : Dc code 155 (.istore 12) 2 157 := dc at_155 rfl
theorem Dx_157 : Dc code 157 (.iconst (-1)) 1 158 := dc at_157 rfl
theorem Dx_158 : Dc code 158 (.istore 13) 2 160 := dc at_158 rfl
theorem Dx_160 : Dc code 160 (.iload 12) 2 162 := dc at_160 rfl
theorem Dx_162 : Dc code 162 (.iconst 2) 1 163 := dc at_162 rfl
theorem Dx_163 : Db code 163 (.if_icmp .le) 166 176 := db (13) at_163 rfl (by decide) (by decide)
theorem Dx_166 : Dc code 166 (.iload 7) 2 168 := dc at_166 rfl
theorem Dx_168 : Dc code 168 (.iload 9) 2 170 := dc at_168 rfl
theorem Dx_170 : Db code 170 (.if_icmp .ne) 173 176 := db (6) at_170 rfl (by decide) (by decide)
theorem Dx_173 : Dc code 173 (.iconst 2) 1 174 := dc at_173 rfl
theorem Dx_174 : Dc code 174 (.istore 13) 2 176 := dc at_174 rfl
theorem Dx_176 : Dc code 176 (.iload 12) 2 178 := dc at_176 rfl
theorem Dx_178 : Dc code 178 (.iconst 1) 1 179 := dc at_178 rfl
theorem Dx_179 : Db code 179 (.if_icmp .le) 182 192 := db (13) at_179 rfl (by decide) (by decide)
theorem Dx_182 : Dc code 182 (.iload 6) 2 184 := dc at_182 rfl
theorem Dx_184 : Dc code 184 (.iload 9) 2 186 := dc at_184 rfl
theorem Dx_186 : Db code 186 (.if_icmp .ne) 189 192 := db (6) at_186 rfl (by decide) (by decide)
theorem Dx_189 : Dc code 189 (.iconst 1) 1 190 := dc at_189 rfl
theorem Dx_190 : Dc code 190 (.istore 13) 2 192 := dc at_190 rfl
theorem Dx_192 : Dc code 192 (.iload 12) 2 194 := dc at_192 rfl
theorem Dx_194 : Db code 194 (.ifCond .le) 197 207 := db (13) at_194 rfl (by decide) (by decide)
theorem Dx_197 : Dc code 197 (.iload 5) 2 199 := dc at_197 rfl
theorem Dx_199 : Dc code 199 (.iload 9) 2 201 := dc at_199 rfl
theorem Dx_201 : Db code 201 (.if_icmp .ne) 204 207 := db (6) at_201 rfl (by decide) (by decide)
theorem Dx_204 : Dc code 204 (.iconst 0) 1 205 := dc at_204 rfl
theorem Dx_205 : Dc code 205 (.istore 13) 2 207 := dc at_205 rfl
theorem Dx_207 : Dc code 207 (.aload 10) 2 209 := dc at_207 rfl
theorem Dx_209 : Dc code 209 (.iload 9) 2 211 := dc at_209 rfl
theorem Dx_211 : Dc code 211 (.invokevirtual 23) 3 214 := dc at_211 rfl
theorem Dx_214 : Dc code 214 (.iload 13) 2 216 := dc at_214 rfl
theorem Dx_216 : Db code 216 (.if_icmp .ne) 219 223 := db (7) at_216 rfl (by decide) (by decide)
theorem Dx_219 : Dc code 219 (.iconst 1) 1 220 := dc at_219 rfl
theorem Dx_220 : Db code 220 (.goto) 223 224 := db (4) at_220 rfl (by decide) (by decide)
theorem Dx_223 : Dc code 223 (.iconst 0) 1 224 := dc at_223 rfl
theorem Dx_224 : Dc code 224 (.ireturn) 1 225 := dc at_224 rfl
theorem fst_0_0 (q0 q1 q2 Q : Nat) : ((fun _ => -1)) Q = (-1 : Int32) := by
  rfl
theorem fst_1_0 (q0 q1 q2 Q : Nat) : (adF (fun _ => -1) (fun _ => -1) q0 0) Q = (if q0 = Q then 0 else -1 : Int32) := by
  by_cases b0 : q0 = Q <;> simp_all [adF, drF, fup, eq_comm]
theorem fst_1_1 (q0 q1 q2 Q : Nat) : (drF ((fun _ => -1) q0) (adF (fun _ => -1) (fun _ => -1) q0 0) q0) Q = (-1 : Int32) := by
  by_cases b0 : q0 = Q <;> simp_all [adF, drF, fup, eq_comm]
theorem fst_2_0 (q0 q1 q2 Q : Nat) : (adF (fup (fun _ => -1) q0 (Int32.ofNat 0)) (adF (fun _ => -1) (fun _ => -1) q0 0) q1 1) Q = (if q0 = Q then 0 else (if q1 = Q then 1 else -1) : Int32) := by
  by_cases c01 : q0 = q1 <;> by_cases b0 : q0 = Q <;> by_cases b1 : q1 = Q <;> simp_all [adF, drF, fup, eq_comm]
theorem fst_2_1 (q0 q1 q2 Q : Nat) : (drF ((fup (fun _ => -1) q0 (Int32.ofNat 0)) q1) (adF (fup (fun _ => -1) q0 (Int32.ofNat 0)) (adF (fun _ => -1) (fun _ => -1) q0 0) q1 1) q1) Q = (if q0 = Q then 0 else -1 : Int32) := by
  by_cases c01 : q0 = q1 <;> by_cases b0 : q0 = Q <;> by_cases b1 : q1 = Q <;> simp_all [adF, drF, fup, eq_comm]
theorem fst_3_0 (q0 q1 q2 Q : Nat) : (adF (fup (fup (fun _ => -1) q0 (Int32.ofNat 0)) q1 (Int32.ofNat 1)) (adF (fup (fun _ => -1) q0 (Int32.ofNat 0)) (adF (fun _ => -1) (fun _ => -1) q0 0) q1 1) q2 2) Q = (if q0 = Q then 0 else (if q1 = Q then 1 else (if q2 = Q then 2 else -1)) : Int32) := by
  by_cases c01 : q0 = q1 <;> by_cases c02 : q0 = q2 <;> by_cases c12 : q1 = q2 <;> by_cases b0 : q0 = Q <;> by_cases b1 : q1 = Q <;> by_cases b2 : q2 = Q <;> simp_all [adF, drF, fup, eq_comm]
theorem fst_3_1 (q0 q1 q2 Q : Nat) : (drF ((fup (fup (fun _ => -1) q0 (Int32.ofNat 0)) q1 (Int32.ofNat 1)) q2) (adF (fup (fup (fun _ => -1) q0 (Int32.ofNat 0)) q1 (Int32.ofNat 1)) (adF (fup (fun _ => -1) q0 (Int32.ofNat 0)) (adF (fun _ => -1) (fun _ => -1) q0 0) q1 1) q2 2) q2) Q = (if q0 = Q then 0 else (if q1 = Q then 1 else -1) : Int32) := by
  by_cases c01 : q0 = q1 <;> by_cases c02 : q0 = q2 <;> by_cases c12 : q1 = q2 <;> by_cases b0 : q0 = Q <;> by_cases b1 : q1 = Q <;> by_cases b2 : q2 = Q <;> simp_all [adF, drF, fup, eq_comm]
theorem pn_2 : plainName "com/example/rankwise/rankwise/engine/KeptItemsFirstPinLaw" = true := by first | (simp [plainName, overriddenIn]; done) | decide +kernel
set_option maxRecDepth 65536 in
set_option maxHeartbeats 40000000 in
theorem ct_law (l : Launch) (Z : State) (a0 : Array Value) (hw : ∀ d ∈ tables_1, d.before a0 Z = true) (n0 : Nat) (h : Heap) (p0 p1 p2 p3 : Int32) :
    Ct l Z n0 x code maxLocals ret room_1 [.int p0, .int p1, .int p2, .int p3] h (fun v h' => v = some (.int 1)) := by
  refine Ct.intro (plainFor_of_name pn_2) [.val (.int p0), .val (.int p1), .val (.int p2), .val (.int p3), .unset, .unset, .unset, .unset, .unset, .unset, .unset, .unset, .unset, .unset] (fun m => by first | (simp [entryFrame, mkF, argsToLocals, Value.category]; done) | (simp [entryFrame, mkF, argsToLocals, Value.category, maxLocals]; done) | rfl) ?_
  intro k hl K
  replace K : Ok k Z n0 "com/example/rankwise/rankwise/engine/KeptItemsFirstPinLaw" room_1 code 14 (some .boolean) "law" := K
  refine G.iloadN K Dx_0 rfl ?_
  refine G.iconst K Dx_1 3 rfl ?_
  refine G.iand K Dx_2 ?_
  obtain ⟨N, hN, eN⟩ := own_and_lt p0 3 (by decide)
  rw [show p0 &&& 3 = Int32.ofNat N from eN]
  rcases (by omega : N = 0 ∨ N = 1 ∨ N = 2 ∨ N = 3) with rfl | rfl | rfl | rfl
  · change G k n0 _ h _ _ 3 [.val (.int p0), .val (.int p1), .val (.int p2), .val (.int p3), .unset, .unset, .unset, .unset, .unset, .unset, .unset, .unset, .unset, .unset] [.int 0]
    refine G.istore K Dx_3 ([.val (.int p0), .val (.int p1), .val (.int p2), .val (.int p3), .val (.int 0), .unset, .unset, .unset, .unset, .unset, .unset, .unset, .unset, .unset]) rfl ?_
    refine G.iloadN K Dx_5 rfl ?_
    refine G.bipush K Dx_6 7 rfl ?_
    refine G.iand K Dx_8 ?_
    obtain ⟨q0, hq0, eq0⟩ := own_and_lt p1 7 (by decide)
    rw [show p1 &&& 7 = Int32.ofNat q0 from eq0]
    refine G.istore K Dx_9 ([.val (.int p0), .val (.int p1), .val (.int p2), .val (.int p3), .val (.int 0), .val (.int (Int32.ofNat q0)), .unset, .unset, .unset, .unset, .unset, .unset, .unset, .unset]) rfl ?_
    refine G.iloadN K Dx_11 rfl ?_
    refine G.iconst K Dx_12 3 rfl ?_
    refine G.iushr K Dx_13 ?_
    refine G.bipush K Dx_14 7 rfl ?_
    refine G.iand K Dx_16 ?_
    obtain ⟨q1, hq1, eq1⟩ := own_and_lt (XT.ushr p1 3) 7 (by decide)
    rw [show XT.ushr p1 3 &&& 7 = Int32.ofNat q1 from eq1]
    refine G.istore K Dx_17 ([.val (.int p0), .val (.int p1), .val (.int p2), .val (.int p3), .val (.int 0), .val (.int (Int32.ofNat q0)), .val (.int (Int32.ofNat q1)), .unset, .unset, .unset, .unset, .unset, .unset, .unset]) rfl ?_
    refine G.iloadN K Dx_19 rfl ?_
    refine G.bipush K Dx_20 6 rfl ?_
    refine G.iushr K Dx_22 ?_
    refine G.bipush K Dx_23 7 rfl ?_
    refine G.iand K Dx_25 ?_
    obtain ⟨q2, hq2, eq2⟩ := own_and_lt (XT.ushr p1 6) 7 (by decide)
    rw [show XT.ushr p1 6 &&& 7 = Int32.ofNat q2 from eq2]
    refine G.istore K Dx_26 ([.val (.int p0), .val (.int p1), .val (.int p2), .val (.int p3), .val (.int 0), .val (.int (Int32.ofNat q0)), .val (.int (Int32.ofNat q1)), .val (.int (Int32.ofNat q2)), .unset, .unset, .unset, .unset, .unset, .unset]) rfl ?_
    refine G.iloadN K Dx_28 rfl ?_
    refine G.iconst K Dx_29 2 rfl ?_
    refine G.iand K Dx_30 ?_
    refine G.if_eq K Dx_31 (fun q97 => ?_) (fun q97 => ?_)
    · refine G.iconst K Dx_43 0 rfl ?_
      refine G.istore K Dx_44 ([.val (.int p0), .val (.int p1), .val (.int p2), .val (.int p3), .val (.int 0), .val (.int (Int32.ofNat q0)), .val (.int (Int32.ofNat q1)), .val (.int (Int32.ofNat q2)), .val (.int 0), .unset, .unset, .unset, .unset, .unset]) rfl ?_
      have T63 : ∀ qq : Nat, qq < 2147483648 → G k n0 (fun v h' => v = some (.int 1)) h 0 0 63 [.val (.int p0), .val (.int p1), .val (.int p2), .val (.int p3), .val (.int 0), .val (.int (Int32.ofNat q0)), .val (.int (Int32.ofNat q1)), .val (.int (Int32.ofNat q2)), .val (.int 0), .unset, .unset, .unset, .unset, .unset] [.int (Int32.ofNat qq)] := by
        intro qq hqq
        refine G.istore K Dx_63 ([.val (.int p0), .val (.int p1), .val (.int p2), .val (.int p3), .val (.int 0), .val (.int (Int32.ofNat q0)), .val (.int (Int32.ofNat q1)), .val (.int (Int32.ofNat q2)), .val (.int 0), .val (.int (Int32.ofNat qq)), .unset, .unset, .unset, .unset]) rfl ?_
        refine G.new K (wd hw 0 rfl) (wd hw 1 rfl) (wd hw 2 rfl) (cf_NSI hw) (vs := [.null, .null, .null, .null, .int 0, .null, .null]) (by rfl) (Hp.nil (n0 := n0) (h := h)) (by decide) (by decide) Dx_65 ?_
        intro a98 h99 H99
        change Hp n0 h99 [(a98, Ob Z "com/example/rankwise/rankwise/engine/KeptItems" NSI [.null, .null, .null, .null, .int 0, .null, .null])] at H99
        refine G.dup K Dx_68 rfl ?_
        refine G.callI K hl rfl (wd hw 3 rfl) (wd hw 4 rfl) (wd hw 2 rfl) (wd hw 5 rfl) (by decide) pd_4 (ct_new l Z a0 hw n0 h99 a98 [] H99) 1 rfl (by decide) (by decide) (by decide) (by decide) rfl rfl [] rfl Dx_69 ?_
        rintro _ h100 ⟨rfl, ia100, ka100, ea100, la100, fa100, ga100, H100⟩
        change G k n0 _ h100 _ _ 72 [.val (.int p0), .val (.int p1), .val (.int p2), .val (.int p3), .val (.int 0), .val (.int (Int32.ofNat q0)), .val (.int (Int32.ofNat q1)), .val (.int (Int32.ofNat q2)), .val (.int 0), .val (.int (Int32.ofNat qq)), .unset, .unset, .unset, .unset] [.ref a98]
        refine G.astore K Dx_72 rfl ([.val (.int p0), .val (.int p1), .val (.int p2), .val (.int p3), .val (.int 0), .val (.int (Int32.ofNat q0)), .val (.int (Int32.ofNat q1)), .val (.int (Int32.ofNat q2)), .val (.int 0), .val (.int (Int32.ofNat qq)), .val (.ref a98), .unset, .unset, .unset]) rfl ?_
        refine G.new K (wd hw 24 rfl) (wd hw 25 rfl) (wd hw 26 rfl) (cf_NSR hw) (vs := [.null, .double 0]) (by rfl) H100 (by decide) (by decide) Dx_74 ?_
        intro a101 h102 H102
        change Hp n0 h102 [(a101, Ob Z "com/example/rankwise/rankwise/engine/Ranked" NSR [.null, .double 0]), (a98, Ob Z "com/example/rankwise/rankwise/engine/KeptItems" NSI [.ref ia100, .ref ka100, .ref ea100, .ref la100, .int 0, .ref fa100, .ref ga100]), (ia100, Ra Z "com/example/rankwise/rankwise/engine/Ranked" (lst 16 (fun _ => Value.null))), (ka100, Ia Z (lst 16 (fun _ => 0))), (ea100, Ia Z (lst 16 (fun _ => 0))), (la100, Ia Z (lst 16 (fun _ => 0))), (fa100, Ia Z (lst 0 (fun _ => -1))), (ga100, Ia Z (lst 0 (fun _ => -1)))] at H102
        refine G.dup K Dx_77 rfl ?_
        refine G.iconst K Dx_78 0 rfl ?_
        refine G.newarr_i K (wd hw 13 rfl) H102 (by decide) 0 (by decide) (by decide) (by decide) (by decide) Dx_79 ?_
        intro a103 h104 H104
        change Hp n0 h104 [(a103, Ia Z []), (a101, Ob Z "com/example/rankwise/rankwise/engine/Ranked" NSR [.null, .double 0]), (a98, Ob Z "com/example/rankwise/rankwise/engine/KeptItems" NSI [.ref ia100, .ref ka100, .ref ea100, .ref la100, .int 0, .ref fa100, .ref ga100]), (ia100, Ra Z "com/example/rankwise/rankwise/engine/Ranked" (lst 16 (fun _ => Value.null))), (ka100, Ia Z (lst 16 (fun _ => 0))), (ea100, Ia Z (lst 16 (fun _ => 0))), (la100, Ia Z (lst 16 (fun _ => 0))), (fa100, Ia Z (lst 0 (fun _ => -1))), (ga100, Ia Z (lst 0 (fun _ => -1)))] at H104
        refine G.dconst0 K Dx_81 ?_
        have H105 : Hp n0 h104 [(a101, Ob Z "com/example/rankwise/rankwise/engine/Ranked" NSR [.null, .double 0]), (a103, Ia Z []), (a98, Ob Z "com/example/rankwise/rankwise/engine/KeptItems" NSI [.ref ia100, .ref ka100, .ref ea100, .ref la100, .int 0, .ref fa100, .ref ga100]), (ia100, Ra Z "com/example/rankwise/rankwise/engine/Ranked" (lst 16 (fun _ => Value.null))), (ka100, Ia Z (lst 16 (fun _ => 0))), (ea100, Ia Z (lst 16 (fun _ => 0))), (la100, Ia Z (lst 16 (fun _ => 0))), (fa100, Ia Z (lst 0 (fun _ => -1))), (ga100, Ia Z (lst 0 (fun _ => -1)))] := H104.pull 1 rfl
        refine G.callI K hl rfl (wd hw 27 rfl) (wd hw 28 rfl) (wd hw 26 rfl) (wd hw 29 rfl) (by decide) pd_5 (ct_ranked l Z a0 hw n0 h104 a101 a103 FP.dconst0 [(a103, Ia Z []), (a98, Ob Z "com/example/rankwise/rankwise/engine/KeptItems" NSI [.ref ia100, .ref ka100, .ref ea100, .ref la100, .int 0, .ref fa100, .ref ga100]), (ia100, Ra Z "com/example/rankwise/rankwise/engine/Ranked" (lst 16 (fun _ => Value.null))), (ka100, Ia Z (lst 16 (fun _ => 0))), (ea100, Ia Z (lst 16 (fun _ => 0))), (la100, Ia Z (lst 16 (fun _ => 0))), (fa100, Ia Z (lst 0 (fun _ => -1))), (ga100, Ia Z (lst 0 (fun _ => -1)))] H105) 1 rfl (by decide) (by decide) (by decide) (by decide) rfl rfl [.double FP.dconst0, .ref a103] rfl Dx_82 ?_
        rintro _ h106 ⟨rfl, H106⟩
        change G k n0 _ h106 _ _ 85 [.val (.int p0), .val (.int p1), .val (.int p2), .val (.int p3), .val (.int 0), .val (.int (Int32.ofNat q0)), .val (.int (Int32.ofNat q1)), .val (.int (Int32.ofNat q2)), .val (.int 0), .val (.int (Int32.ofNat qq)), .val (.ref a98), .unset, .unset, .unset] [.ref a101]
        refine G.astore K Dx_85 rfl ([.val (.int p0), .val (.int p1), .val (.int p2), .val (.int p3), .val (.int 0), .val (.int (Int32.ofNat q0)), .val (.int (Int32.ofNat q1)), .val (.int (Int32.ofNat q2)), .val (.int 0), .val (.int (Int32.ofNat qq)), .val (.ref a98), .val (.ref a101), .unset, .unset]) rfl ?_
        refine G.iload K Dx_87 rfl ?_
        refine G.if_le K Dx_89 (fun _ => ?_) (fun q => absurd q (by decide))
        refine G.iload K Dx_101 rfl ?_
        refine G.iconst K Dx_103 1 rfl ?_
        refine G.icmp_le K Dx_104 (fun _ => ?_) (fun q => absurd q (by decide))
        refine G.iload K Dx_116 rfl ?_
        refine G.iconst K Dx_118 2 rfl ?_
        refine G.icmp_le K Dx_119 (fun _ => ?_) (fun q => absurd q (by decide))
        refine G.iload K Dx_131 rfl ?_
        refine G.if_eq K Dx_133 (fun _ => ?_) (fun q => absurd q (by decide))
        refine G.iload K Dx_141 rfl ?_
        refine G.if_eq K Dx_143 (fun _ => ?_) (fun q => absurd q (by decide))
        refine G.iload K Dx_153 rfl ?_
        refine G.istore K Dx_155 ([.val (.int p0), .val (.int p1), .val (.int p2), .val (.int p3), .val (.int 0), .val (.int (Int32.ofNat q0)), .val (.int (Int32.ofNat q1)), .val (.int (Int32.ofNat q2)), .val (.int 0), .val (.int (Int32.ofNat qq)), .val (.ref a98), .val (.ref a101), .val (.int 0), .unset]) rfl ?_
        refine G.iconst K Dx_157 (-1) rfl ?_
        refine G.istore K Dx_158 ([.val (.int p0), .val (.int p1), .val (.int p2), .val (.int p3), .val (.int 0), .val (.int (Int32.ofNat q0)), .val (.int (Int32.ofNat q1)), .val (.int (Int32.ofNat q2)), .val (.int 0), .val (.int (Int32.ofNat qq)), .val (.ref a98), .val (.ref a101), .val (.int 0), .val (.int (-1))]) rfl ?_
        refine G.iload K Dx_160 rfl ?_
        refine G.iconst K Dx_162 2 rfl ?_
        refine G.icmp_le K Dx_163 (fun _ => ?_) (fun q => absurd q (by decide))
        refine G.iload K Dx_176 rfl ?_
        refine G.iconst K Dx_178 1 rfl ?_
        refine G.icmp_le K Dx_179 (fun _ => ?_) (fun q => absurd q (by decide))
        refine G.iload K Dx_192 rfl ?_
        refine G.if_le K Dx_194 (fun _ => ?_) (fun q => absurd q (by decide))
        refine G.aload K Dx_207 rfl rfl ?_
        refine G.iload K Dx_209 rfl ?_
        have H115 : Hp n0 h106 [(ga100, Ia Z (lst 0 (fun _ => -1))), (a101, Ob Z "com/example/rankwise/rankwise/engine/Ranked" NSR [.ref a103, .double FP.dconst0]), (a103, Ia Z []), (a98, Ob Z "com/example/rankwise/rankwise/engine/KeptItems" NSI [.ref ia100, .ref ka100, .ref ea100, .ref la100, .int 0, .ref fa100, .ref ga100]), (ia100, Ra Z "com/example/rankwise/rankwise/engine/Ranked" (lst 16 (fun _ => Value.null))), (ka100, Ia Z (lst 16 (fun _ => 0))), (ea100, Ia Z (lst 16 (fun _ => 0))), (la100, Ia Z (lst 16 (fun _ => 0))), (fa100, Ia Z (lst 0 (fun _ => -1)))] := H106.pull 8 rfl
        have H116 : Hp n0 h106 [(fa100, Ia Z (lst 0 (fun _ => -1))), (ga100, Ia Z (lst 0 (fun _ => -1))), (a101, Ob Z "com/example/rankwise/rankwise/engine/Ranked" NSR [.ref a103, .double FP.dconst0]), (a103, Ia Z []), (a98, Ob Z "com/example/rankwise/rankwise/engine/KeptItems" NSI [.ref ia100, .ref ka100, .ref ea100, .ref la100, .int 0, .ref fa100, .ref ga100]), (ia100, Ra Z "com/example/rankwise/rankwise/engine/Ranked" (lst 16 (fun _ => Value.null))), (ka100, Ia Z (lst 16 (fun _ => 0))), (ea100, Ia Z (lst 16 (fun _ => 0))), (la100, Ia Z (lst 16 (fun _ => 0)))] := H115.pull 8 rfl
        have H117 : Hp n0 h106 [(la100, Ia Z (lst 16 (fun _ => 0))), (fa100, Ia Z (lst 0 (fun _ => -1))), (ga100, Ia Z (lst 0 (fun _ => -1))), (a101, Ob Z "com/example/rankwise/rankwise/engine/Ranked" NSR [.ref a103, .double FP.dconst0]), (a103, Ia Z []), (a98, Ob Z "com/example/rankwise/rankwise/engine/KeptItems" NSI [.ref ia100, .ref ka100, .ref ea100, .ref la100, .int 0, .ref fa100, .ref ga100]), (ia100, Ra Z "com/example/rankwise/rankwise/engine/Ranked" (lst 16 (fun _ => Value.null))), (ka100, Ia Z (lst 16 (fun _ => 0))), (ea100, Ia Z (lst 16 (fun _ => 0)))] := H116.pull 8 rfl
        have H118 : Hp n0 h106 [(ea100, Ia Z (lst 16 (fun _ => 0))), (la100, Ia Z (lst 16 (fun _ => 0))), (fa100, Ia Z (lst 0 (fun _ => -1))), (ga100, Ia Z (lst 0 (fun _ => -1))), (a101, Ob Z "com/example/rankwise/rankwise/engine/Ranked" NSR [.ref a103, .double FP.dconst0]), (a103, Ia Z []), (a98, Ob Z "com/example/rankwise/rankwise/engine/KeptItems" NSI [.ref ia100, .ref ka100, .ref ea100, .ref la100, .int 0, .ref fa100, .ref ga100]), (ia100, Ra Z "com/example/rankwise/rankwise/engine/Ranked" (lst 16 (fun _ => Value.null))), (ka100, Ia Z (lst 16 (fun _ => 0)))] := H117.pull 8 rfl
        have H119 : Hp n0 h106 [(ka100, Ia Z (lst 16 (fun _ => 0))), (ea100, Ia Z (lst 16 (fun _ => 0))), (la100, Ia Z (lst 16 (fun _ => 0))), (fa100, Ia Z (lst 0 (fun _ => -1))), (ga100, Ia Z (lst 0 (fun _ => -1))), (a101, Ob Z "com/example/rankwise/rankwise/engine/Ranked" NSR [.ref a103, .double FP.dconst0]), (a103, Ia Z []), (a98, Ob Z "com/example/rankwise/rankwise/engine/KeptItems" NSI [.ref ia100, .ref ka100, .ref ea100, .ref la100, .int 0, .ref fa100, .ref ga100]), (ia100, Ra Z "com/example/rankwise/rankwise/engine/Ranked" (lst 16 (fun _ => Value.null)))] := H118.pull 8 rfl
        have H120 : Hp n0 h106 [(ia100, Ra Z "com/example/rankwise/rankwise/engine/Ranked" (lst 16 (fun _ => Value.null))), (ka100, Ia Z (lst 16 (fun _ => 0))), (ea100, Ia Z (lst 16 (fun _ => 0))), (la100, Ia Z (lst 16 (fun _ => 0))), (fa100, Ia Z (lst 0 (fun _ => -1))), (ga100, Ia Z (lst 0 (fun _ => -1))), (a101, Ob Z "com/example/rankwise/rankwise/engine/Ranked" NSR [.ref a103, .double FP.dconst0]), (a103, Ia Z []), (a98, Ob Z "com/example/rankwise/rankwise/engine/KeptItems" NSI [.ref ia100, .ref ka100, .ref ea100, .ref la100, .int 0, .ref fa100, .ref ga100])] := H119.pull 8 rfl
        have H121 : Hp n0 h106 [(a98, Ob Z "com/example/rankwise/rankwise/engine/KeptItems" NSI [.ref ia100, .ref ka100, .ref ea100, .ref la100, .int 0, .ref fa100, .ref ga100]), (ia100, Ra Z "com/example/rankwise/rankwise/engine/Ranked" (lst 16 (fun _ => Value.null))), (ka100, Ia Z (lst 16 (fun _ => 0))), (ea100, Ia Z (lst 16 (fun _ => 0))), (la100, Ia Z (lst 16 (fun _ => 0))), (fa100, Ia Z (lst 0 (fun _ => -1))), (ga100, Ia Z (lst 0 (fun _ => -1))), (a101, Ob Z "com/example/rankwise/rankwise/engine/Ranked" NSR [.ref a103, .double FP.dconst0]), (a103, Ia Z [])] := H120.pull 8 rfl
        refine G.callV K hl (wd hw 35 rfl) (wd hw 36 rfl) (wd hw 38 rfl) (wd hw 37 rfl) (wd hw 2 rfl) (wd hw 39 rfl) (by decide) pd_6 (H121.exa (i := 0) rfl) (ct_first l Z a0 hw n0 h106 a98 ia100 ka100 ea100 la100 fa100 ga100 0 0 qq (fun _ => Value.null) (fun _ => 0) (fun _ => 0) (fun _ => 0) (fun _ => -1) (fun _ => -1) [(a101, Ob Z "com/example/rankwise/rankwise/engine/Ranked" NSR [.ref a103, .double FP.dconst0]), (a103, Ia Z [])] (by decide) (by omega) (fun _ _ => rfl) H121) 0 rfl (by decide) (by decide) (by decide) (by decide) rfl rfl [.int (Int32.ofNat qq)] rfl Dx_211 ?_
        rintro _ h122 ⟨rfl, H122⟩
        change G k n0 _ h122 _ _ 214 [.val (.int p0), .val (.int p1), .val (.int p2), .val (.int p3), .val (.int 0), .val (.int (Int32.ofNat q0)), .val (.int (Int32.ofNat q1)), .val (.int (Int32.ofNat q2)), .val (.int 0), .val (.int (Int32.ofNat qq)), .val (.ref a98), .val (.ref a101), .val (.int 0), .val (.int (-1))] [.int (((fun _ => -1)) qq)]
        refine G.iload K Dx_214 rfl ?_
        have hf := fst_0_0 q0 q1 q2 qq
        refine G.icmp_ne K Dx_216 (fun q => absurd hf q) (fun q123 => ?_)
        refine G.iconst K Dx_219 1 rfl ?_
        refine G.goto K Dx_220 ?_
        refine G.ret_bool K Dx_224 ?_
        exact rfl
      refine G.iloadN K Dx_46 rfl ?_
      refine G.iconst K Dx_47 1 rfl ?_
      refine G.iand K Dx_48 ?_
      refine G.if_eq K Dx_49 (fun q124 => ?_) (fun q124 => ?_)
      · refine G.iloadN K Dx_59 rfl ?_
        refine G.ldcI K Dx_60 (wd hw 40 rfl) ?_
        refine G.iand K Dx_62 ?_
        obtain ⟨u, hu, eu⟩ := own_msk p2
        rw [eu]
        exact T63 u hu
      · refine G.iloadN K Dx_52 rfl ?_
        refine G.bipush K Dx_53 15 rfl ?_
        refine G.iand K Dx_55 ?_
        refine G.goto K Dx_56 ?_
        obtain ⟨u, hu, eu⟩ := own_and_lt p2 15 (by decide)
        rw [show p2 &&& 15 = Int32.ofNat u from eu]
        exact T63 u (by omega)
    · refine G.iload K Dx_34 rfl ?_
      refine G.if_le K Dx_36 (fun _ => ?_) (fun q => absurd q (by decide))
      refine G.iconst K Dx_43 0 rfl ?_
      refine G.istore K Dx_44 ([.val (.int p0), .val (.int p1), .val (.int p2), .val (.int p3), .val (.int 0), .val (.int (Int32.ofNat q0)), .val (.int (Int32.ofNat q1)), .val (.int (Int32.ofNat q2)), .val (.int 0), .unset, .unset, .unset, .unset, .unset]) rfl ?_
      have T63 : ∀ qq : Nat, qq < 2147483648 → G k n0 (fun v h' => v = some (.int 1)) h 0 0 63 [.val (.int p0), .val (.int p1), .val (.int p2), .val (.int p3), .val (.int 0), .val (.int (Int32.ofNat q0)), .val (.int (Int32.ofNat q1)), .val (.int (Int32.ofNat q2)), .val (.int 0), .unset, .unset, .unset, .unset, .unset] [.int (Int32.ofNat qq)] := by
        intro qq hqq
        refine G.istore K Dx_63 ([.val (.int p0), .val (.int p1), .val (.int p2), .val (.int p3), .val (.int 0), .val (.int (Int32.ofNat q0)), .val (.int (Int32.ofNat q1)), .val (.int (Int32.ofNat q2)), .val (.int 0), .val (.int (Int32.ofNat qq)), .unset, .unset, .unset, .unset]) rfl ?_
        refine G.new K (wd hw 0 rfl) (wd hw 1 rfl) (wd hw 2 rfl) (cf_NSI hw) (vs := [.null, .null, .null, .null, .int 0, .null, .null]) (by rfl) (Hp.nil (n0 := n0) (h := h)) (by decide) (by decide) Dx_65 ?_
        intro a126 h127 H127
        change Hp n0 h127 [(a126, Ob Z "com/example/rankwise/rankwise/engine/KeptItems" NSI [.null, .null, .null, .null, .int 0, .null, .null])] at H127
        refine G.dup K Dx_68 rfl ?_
        refine G.callI K hl rfl (wd hw 3 rfl) (wd hw 4 rfl) (wd hw 2 rfl) (wd hw 5 rfl) (by decide) pd_4 (ct_new l Z a0 hw n0 h127 a126 [] H127) 1 rfl (by decide) (by decide) (by decide) (by decide) rfl rfl [] rfl Dx_69 ?_
        rintro _ h128 ⟨rfl, ia128, ka128, ea128, la128, fa128, ga128, H128⟩
        change G k n0 _ h128 _ _ 72 [.val (.int p0), .val (.int p1), .val (.int p2), .val (.int p3), .val (.int 0), .val (.int (Int32.ofNat q0)), .val (.int (Int32.ofNat q1)), .val (.int (Int32.ofNat q2)), .val (.int 0), .val (.int (Int32.ofNat qq)), .unset, .unset, .unset, .unset] [.ref a126]
        refine G.astore K Dx_72 rfl ([.val (.int p0), .val (.int p1), .val (.int p2), .val (.int p3), .val (.int 0), .val (.int (Int32.ofNat q0)), .val (.int (Int32.ofNat q1)), .val (.int (Int32.ofNat q2)), .val (.int 0), .val (.int (Int32.ofNat qq)), .val (.ref a126), .unset, .unset, .unset]) rfl ?_
        refine G.new K (wd hw 24 rfl) (wd hw 25 rfl) (wd hw 26 rfl) (cf_NSR hw) (vs := [.null, .double 0]) (by rfl) H128 (by decide) (by decide) Dx_74 ?_
        intro a129 h130 H130
        change Hp n0 h130 [(a129, Ob Z "com/example/rankwise/rankwise/engine/Ranked" NSR [.null, .double 0]), (a126, Ob Z "com/example/rankwise/rankwise/engine/KeptItems" NSI [.ref ia128, .ref ka128, .ref ea128, .ref la128, .int 0, .ref fa128, .ref ga128]), (ia128, Ra Z "com/example/rankwise/rankwise/engine/Ranked" (lst 16 (fun _ => Value.null))), (ka128, Ia Z (lst 16 (fun _ => 0))), (ea128, Ia Z (lst 16 (fun _ => 0))), (la128, Ia Z (lst 16 (fun _ => 0))), (fa128, Ia Z (lst 0 (fun _ => -1))), (ga128, Ia Z (lst 0 (fun _ => -1)))] at H130
        refine G.dup K Dx_77 rfl ?_
        refine G.iconst K Dx_78 0 rfl ?_
        refine G.newarr_i K (wd hw 13 rfl) H130 (by decide) 0 (by decide) (by decide) (by decide) (by decide) Dx_79 ?_
        intro a131 h132 H132
        change Hp n0 h132 [(a131, Ia Z []), (a129, Ob Z "com/example/rankwise/rankwise/engine/Ranked" NSR [.null, .double 0]), (a126, Ob Z "com/example/rankwise/rankwise/engine/KeptItems" NSI [.ref ia128, .ref ka128, .ref ea128, .ref la128, .int 0, .ref fa128, .ref ga128]), (ia128, Ra Z "com/example/rankwise/rankwise/engine/Ranked" (lst 16 (fun _ => Value.null))), (ka128, Ia Z (lst 16 (fun _ => 0))), (ea128, Ia Z (lst 16 (fun _ => 0))), (la128, Ia Z (lst 16 (fun _ => 0))), (fa128, Ia Z (lst 0 (fun _ => -1))), (ga128, Ia Z (lst 0 (fun _ => -1)))] at H132
        refine G.dconst0 K Dx_81 ?_
        have H133 : Hp n0 h132 [(a129, Ob Z "com/example/rankwise/rankwise/engine/Ranked" NSR [.null, .double 0]), (a131, Ia Z []), (a126, Ob Z "com/example/rankwise/rankwise/engine/KeptItems" NSI [.ref ia128, .ref ka128, .ref ea128, .ref la128, .int 0, .ref fa128, .ref ga128]), (ia128, Ra Z "com/example/rankwise/rankwise/engine/Ranked" (lst 16 (fun _ => Value.null))), (ka128, Ia Z (lst 16 (fun _ => 0))), (ea128, Ia Z (lst 16 (fun _ => 0))), (la128, Ia Z (lst 16 (fun _ => 0))), (fa128, Ia Z (lst 0 (fun _ => -1))), (ga128, Ia Z (lst 0 (fun _ => -1)))] := H132.pull 1 rfl
        refine G.callI K hl rfl (wd hw 27 rfl) (wd hw 28 rfl) (wd hw 26 rfl) (wd hw 29 rfl) (by decide) pd_5 (ct_ranked l Z a0 hw n0 h132 a129 a131 FP.dconst0 [(a131, Ia Z []), (a126, Ob Z "com/example/rankwise/rankwise/engine/KeptItems" NSI [.ref ia128, .ref ka128, .ref ea128, .ref la128, .int 0, .ref fa128, .ref ga128]), (ia128, Ra Z "com/example/rankwise/rankwise/engine/Ranked" (lst 16 (fun _ => Value.null))), (ka128, Ia Z (lst 16 (fun _ => 0))), (ea128, Ia Z (lst 16 (fun _ => 0))), (la128, Ia Z (lst 16 (fun _ => 0))), (fa128, Ia Z (lst 0 (fun _ => -1))), (ga128, Ia Z (lst 0 (fun _ => -1)))] H133) 1 rfl (by decide) (by decide) (by decide) (by decide) rfl rfl [.double FP.dconst0, .ref a131] rfl Dx_82 ?_
        rintro _ h134 ⟨rfl, H134⟩
        change G k n0 _ h134 _ _ 85 [.val (.int p0), .val (.int p1), .val (.int p2), .val (.int p3), .val (.int 0), .val (.int (Int32.ofNat q0)), .val (.int (Int32.ofNat q1)), .val (.int (Int32.ofNat q2)), .val (.int 0), .val (.int (Int32.ofNat qq)), .val (.ref a126), .unset, .unset, .unset] [.ref a129]
        refine G.astore K Dx_85 rfl ([.val (.int p0), .val (.int p1), .val (.int p2), .val (.int p3), .val (.int 0), .val (.int (Int32.ofNat q0)), .val (.int (Int32.ofNat q1)), .val (.int (Int32.ofNat q2)), .val (.int 0), .val (.int (Int32.ofNat qq)), .val (.ref a126), .val (.ref a129), .unset, .unset]) rfl ?_
        refine G.iload K Dx_87 rfl ?_
        refine G.if_le K Dx_89 (fun _ => ?_) (fun q => absurd q (by decide))
        refine G.iload K Dx_101 rfl ?_
        refine G.iconst K Dx_103 1 rfl ?_
        refine G.icmp_le K Dx_104 (fun _ => ?_) (fun q => absurd q (by decide))
        refine G.iload K Dx_116 rfl ?_
        refine G.iconst K Dx_118 2 rfl ?_
        refine G.icmp_le K Dx_119 (fun _ => ?_) (fun q => absurd q (by decide))
        refine G.iload K Dx_131 rfl ?_
        refine G.if_eq K Dx_133 (fun _ => ?_) (fun q => absurd q (by decide))
        refine G.iload K Dx_141 rfl ?_
        refine G.if_eq K Dx_143 (fun _ => ?_) (fun q => absurd q (by decide))
        refine G.iload K Dx_153 rfl ?_
        refine G.istore K Dx_155 ([.val (.int p0), .val (.int p1), .val (.int p2), .val (.int p3), .val (.int 0), .val (.int (Int32.ofNat q0)), .val (.int (Int32.ofNat q1)), .val (.int (Int32.ofNat q2)), .val (.int 0), .val (.int (Int32.ofNat qq)), .val (.ref a126), .val (.ref a129), .val (.int 0), .unset]) rfl ?_
        refine G.iconst K Dx_157 (-1) rfl ?_
        refine G.istore K Dx_158 ([.val (.int p0), .val (.int p1), .val (.int p2), .val (.int p3), .val (.int 0), .val (.int (Int32.ofNat q0)), .val (.int (Int32.ofNat q1)), .val (.int (Int32.ofNat q2)), .val (.int 0), .val (.int (Int32.ofNat qq)), .val (.ref a126), .val (.ref a129), .val (.int 0), .val (.int (-1))]) rfl ?_
        refine G.iload K Dx_160 rfl ?_
        refine G.iconst K Dx_162 2 rfl ?_
        refine G.icmp_le K Dx_163 (fun _ => ?_) (fun q => absurd q (by decide))
        refine G.iload K Dx_176 rfl ?_
        refine G.iconst K Dx_178 1 rfl ?_
        refine G.icmp_le K Dx_179 (fun _ => ?_) (fun q => absurd q (by decide))
        refine G.iload K Dx_192 rfl ?_
        refine G.if_le K Dx_194 (fun _ => ?_) (fun q => absurd q (by decide))
        refine G.aload K Dx_207 rfl rfl ?_
        refine G.iload K Dx_209 rfl ?_
        have H143 : Hp n0 h134 [(ga128, Ia Z (lst 0 (fun _ => -1))), (a129, Ob Z "com/example/rankwise/rankwise/engine/Ranked" NSR [.ref a131, .double FP.dconst0]), (a131, Ia Z []), (a126, Ob Z "com/example/rankwise/rankwise/engine/KeptItems" NSI [.ref ia128, .ref ka128, .ref ea128, .ref la128, .int 0, .ref fa128, .ref ga128]), (ia128, Ra Z "com/example/rankwise/rankwise/engine/Ranked" (lst 16 (fun _ => Value.null))), (ka128, Ia Z (lst 16 (fun _ => 0))), (ea128, Ia Z (lst 16 (fun _ => 0))), (la128, Ia Z (lst 16 (fun _ => 0))), (fa128, Ia Z (lst 0 (fun _ => -1)))] := H134.pull 8 rfl
        have H144 : Hp n0 h134 [(fa128, Ia Z (lst 0 (fun _ => -1))), (ga128, Ia Z (lst 0 (fun _ => -1))), (a129, Ob Z "com/example/rankwise/rankwise/engine/Ranked" NSR [.ref a131, .double FP.dconst0]), (a131, Ia Z []), (a126, Ob Z "com/example/rankwise/rankwise/engine/KeptItems" NSI [.ref ia128, .ref ka128, .ref ea128, .ref la128, .int 0, .ref fa128, .ref ga128]), (ia128, Ra Z "com/example/rankwise/rankwise/engine/Ranked" (lst 16 (fun _ => Value.null))), (ka128, Ia Z (lst 16 (fun _ => 0))), (ea128, Ia Z (lst 16 (fun _ => 0))), (la128, Ia Z (lst 16 (fun _ => 0)))] := H143.pull 8 rfl
        have H145 : Hp n0 h134 [(la128, Ia Z (lst 16 (fun _ => 0))), (fa128, Ia Z (lst 0 (fun _ => -1))), (ga128, Ia Z (lst 0 (fun _ => -1))), (a129, Ob Z "com/example/rankwise/rankwise/engine/Ranked" NSR [.ref a131, .double FP.dconst0]), (a131, Ia Z []), (a126, Ob Z "com/example/rankwise/rankwise/engine/KeptItems" NSI [.ref ia128, .ref ka128, .ref ea128, .ref la128, .int 0, .ref fa128, .ref ga128]), (ia128, Ra Z "com/example/rankwise/rankwise/engine/Ranked" (lst 16 (fun _ => Value.null))), (ka128, Ia Z (lst 16 (fun _ => 0))), (ea128, Ia Z (lst 16 (fun _ => 0)))] := H144.pull 8 rfl
        have H146 : Hp n0 h134 [(ea128, Ia Z (lst 16 (fun _ => 0))), (la128, Ia Z (lst 16 (fun _ => 0))), (fa128, Ia Z (lst 0 (fun _ => -1))), (ga128, Ia Z (lst 0 (fun _ => -1))), (a129, Ob Z "com/example/rankwise/rankwise/engine/Ranked" NSR [.ref a131, .double FP.dconst0]), (a131, Ia Z []), (a126, Ob Z "com/example/rankwise/rankwise/engine/KeptItems" NSI [.ref ia128, .ref ka128, .ref ea128, .ref la128, .int 0, .ref fa128, .ref ga128]), (ia128, Ra Z "com/example/rankwise/rankwise/engine/Ranked" (lst 16 (fun _ => Value.null))), (ka128, Ia Z (lst 16 (fun _ => 0)))] := H145.pull 8 rfl
        have H147 : Hp n0 h134 [(ka128, Ia Z (lst 16 (fun _ => 0))), (ea128, Ia Z (lst 16 (fun _ => 0))), (la128, Ia Z (lst 16 (fun _ => 0))), (fa128, Ia Z (lst 0 (fun _ => -1))), (ga128, Ia Z (lst 0 (fun _ => -1))), (a129, Ob Z "com/example/rankwise/rankwise/engine/Ranked" NSR [.ref a131, .double FP.dconst0]), (a131, Ia Z []), (a126, Ob Z "com/example/rankwise/rankwise/engine/KeptItems" NSI [.ref ia128, .ref ka128, .ref ea128, .ref la128, .int 0, .ref fa128, .ref ga128]), (ia128, Ra Z "com/example/rankwise/rankwise/engine/Ranked" (lst 16 (fun _ => Value.null)))] := H146.pull 8 rfl
        have H148 : Hp n0 h134 [(ia128, Ra Z "com/example/rankwise/rankwise/engine/Ranked" (lst 16 (fun _ => Value.null))), (ka128, Ia Z (lst 16 (fun _ => 0))), (ea128, Ia Z (lst 16 (fun _ => 0))), (la128, Ia Z (lst 16 (fun _ => 0))), (fa128, Ia Z (lst 0 (fun _ => -1))), (ga128, Ia Z (lst 0 (fun _ => -1))), (a129, Ob Z "com/example/rankwise/rankwise/engine/Ranked" NSR [.ref a131, .double FP.dconst0]), (a131, Ia Z []), (a126, Ob Z "com/example/rankwise/rankwise/engine/KeptItems" NSI [.ref ia128, .ref ka128, .ref ea128, .ref la128, .int 0, .ref fa128, .ref ga128])] := H147.pull 8 rfl
        have H149 : Hp n0 h134 [(a126, Ob Z "com/example/rankwise/rankwise/engine/KeptItems" NSI [.ref ia128, .ref ka128, .ref ea128, .ref la128, .int 0, .ref fa128, .ref ga128]), (ia128, Ra Z "com/example/rankwise/rankwise/engine/Ranked" (lst 16 (fun _ => Value.null))), (ka128, Ia Z (lst 16 (fun _ => 0))), (ea128, Ia Z (lst 16 (fun _ => 0))), (la128, Ia Z (lst 16 (fun _ => 0))), (fa128, Ia Z (lst 0 (fun _ => -1))), (ga128, Ia Z (lst 0 (fun _ => -1))), (a129, Ob Z "com/example/rankwise/rankwise/engine/Ranked" NSR [.ref a131, .double FP.dconst0]), (a131, Ia Z [])] := H148.pull 8 rfl
        refine G.callV K hl (wd hw 35 rfl) (wd hw 36 rfl) (wd hw 38 rfl) (wd hw 37 rfl) (wd hw 2 rfl) (wd hw 39 rfl) (by decide) pd_6 (H149.exa (i := 0) rfl) (ct_first l Z a0 hw n0 h134 a126 ia128 ka128 ea128 la128 fa128 ga128 0 0 qq (fun _ => Value.null) (fun _ => 0) (fun _ => 0) (fun _ => 0) (fun _ => -1) (fun _ => -1) [(a129, Ob Z "com/example/rankwise/rankwise/engine/Ranked" NSR [.ref a131, .double FP.dconst0]), (a131, Ia Z [])] (by decide) (by omega) (fun _ _ => rfl) H149) 0 rfl (by decide) (by decide) (by decide) (by decide) rfl rfl [.int (Int32.ofNat qq)] rfl Dx_211 ?_
        rintro _ h150 ⟨rfl, H150⟩
        change G k n0 _ h150 _ _ 214 [.val (.int p0), .val (.int p1), .val (.int p2), .val (.int p3), .val (.int 0), .val (.int (Int32.ofNat q0)), .val (.int (Int32.ofNat q1)), .val (.int (Int32.ofNat q2)), .val (.int 0), .val (.int (Int32.ofNat qq)), .val (.ref a126), .val (.ref a129), .val (.int 0), .val (.int (-1))] [.int (((fun _ => -1)) qq)]
        refine G.iload K Dx_214 rfl ?_
        have hf := fst_0_0 q0 q1 q2 qq
        refine G.icmp_ne K Dx_216 (fun q => absurd hf q) (fun q151 => ?_)
        refine G.iconst K Dx_219 1 rfl ?_
        refine G.goto K Dx_220 ?_
        refine G.ret_bool K Dx_224 ?_
        exact rfl
      refine G.iloadN K Dx_46 rfl ?_
      refine G.iconst K Dx_47 1 rfl ?_
      refine G.iand K Dx_48 ?_
      refine G.if_eq K Dx_49 (fun q152 => ?_) (fun q152 => ?_)
      · refine G.iloadN K Dx_59 rfl ?_
        refine G.ldcI K Dx_60 (wd hw 40 rfl) ?_
        refine G.iand K Dx_62 ?_
        obtain ⟨u, hu, eu⟩ := own_msk p2
        rw [eu]
        exact T63 u hu
      · refine G.iloadN K Dx_52 rfl ?_
        refine G.bipush K Dx_53 15 rfl ?_
        refine G.iand K Dx_55 ?_
        refine G.goto K Dx_56 ?_
        obtain ⟨u, hu, eu⟩ := own_and_lt p2 15 (by decide)
        rw [show p2 &&& 15 = Int32.ofNat u from eu]
        exact T63 u (by omega)
  · change G k n0 _ h _ _ 3 [.val (.int p0), .val (.int p1), .val (.int p2), .val (.int p3), .unset, .unset, .unset, .unset, .unset, .unset, .unset, .unset, .unset, .unset] [.int 1]
    refine G.istore K Dx_3 ([.val (.int p0), .val (.int p1), .val (.int p2), .val (.int p3), .val (.int 1), .unset, .unset, .unset, .unset, .unset, .unset, .unset, .unset, .unset]) rfl ?_
    refine G.iloadN K Dx_5 rfl ?_
    refine G.bipush K Dx_6 7 rfl ?_
    refine G.iand K Dx_8 ?_
    obtain ⟨q0, hq0, eq0⟩ := own_and_lt p1 7 (by decide)
    rw [show p1 &&& 7 = Int32.ofNat q0 from eq0]
    refine G.istore K Dx_9 ([.val (.int p0), .val (.int p1), .val (.int p2), .val (.int p3), .val (.int 1), .val (.int (Int32.ofNat q0)), .unset, .unset, .unset, .unset, .unset, .unset, .unset, .unset]) rfl ?_
    refine G.iloadN K Dx_11 rfl ?_
    refine G.iconst K Dx_12 3 rfl ?_
    refine G.iushr K Dx_13 ?_
    refine G.bipush K Dx_14 7 rfl ?_
    refine G.iand K Dx_16 ?_
    obtain ⟨q1, hq1, eq1⟩ := own_and_lt (XT.ushr p1 3) 7 (by decide)
    rw [show XT.ushr p1 3 &&& 7 = Int32.ofNat q1 from eq1]
    refine G.istore K Dx_17 ([.val (.int p0), .val (.int p1), .val (.int p2), .val (.int p3), .val (.int 1), .val (.int (Int32.ofNat q0)), .val (.int (Int32.ofNat q1)), .unset, .unset, .unset, .unset, .unset, .unset, .unset]) rfl ?_
    refine G.iloadN K Dx_19 rfl ?_
    refine G.bipush K Dx_20 6 rfl ?_
    refine G.iushr K Dx_22 ?_
    refine G.bipush K Dx_23 7 rfl ?_
    refine G.iand K Dx_25 ?_
    obtain ⟨q2, hq2, eq2⟩ := own_and_lt (XT.ushr p1 6) 7 (by decide)
    rw [show XT.ushr p1 6 &&& 7 = Int32.ofNat q2 from eq2]
    refine G.istore K Dx_26 ([.val (.int p0), .val (.int p1), .val (.int p2), .val (.int p3), .val (.int 1), .val (.int (Int32.ofNat q0)), .val (.int (Int32.ofNat q1)), .val (.int (Int32.ofNat q2)), .unset, .unset, .unset, .unset, .unset, .unset]) rfl ?_
    refine G.iloadN K Dx_28 rfl ?_
    refine G.iconst K Dx_29 2 rfl ?_
    refine G.iand K Dx_30 ?_
    refine G.if_eq K Dx_31 (fun q153 => ?_) (fun q153 => ?_)
    · refine G.iconst K Dx_43 0 rfl ?_
      refine G.istore K Dx_44 ([.val (.int p0), .val (.int p1), .val (.int p2), .val (.int p3), .val (.int 1), .val (.int (Int32.ofNat q0)), .val (.int (Int32.ofNat q1)), .val (.int (Int32.ofNat q2)), .val (.int 0), .unset, .unset, .unset, .unset, .unset]) rfl ?_
      have T63 : ∀ qq : Nat, qq < 2147483648 → G k n0 (fun v h' => v = some (.int 1)) h 0 0 63 [.val (.int p0), .val (.int p1), .val (.int p2), .val (.int p3), .val (.int 1), .val (.int (Int32.ofNat q0)), .val (.int (Int32.ofNat q1)), .val (.int (Int32.ofNat q2)), .val (.int 0), .unset, .unset, .unset, .unset, .unset] [.int (Int32.ofNat qq)] := by
        intro qq hqq
        refine G.istore K Dx_63 ([.val (.int p0), .val (.int p1), .val (.int p2), .val (.int p3), .val (.int 1), .val (.int (Int32.ofNat q0)), .val (.int (Int32.ofNat q1)), .val (.int (Int32.ofNat q2)), .val (.int 0), .val (.int (Int32.ofNat qq)), .unset, .unset, .unset, .unset]) rfl ?_
        refine G.new K (wd hw 0 rfl) (wd hw 1 rfl) (wd hw 2 rfl) (cf_NSI hw) (vs := [.null, .null, .null, .null, .int 0, .null, .null]) (by rfl) (Hp.nil (n0 := n0) (h := h)) (by decide) (by decide) Dx_65 ?_
        intro a154 h155 H155
        change Hp n0 h155 [(a154, Ob Z "com/example/rankwise/rankwise/engine/KeptItems" NSI [.null, .null, .null, .null, .int 0, .null, .null])] at H155
        refine G.dup K Dx_68 rfl ?_
        refine G.callI K hl rfl (wd hw 3 rfl) (wd hw 4 rfl) (wd hw 2 rfl) (wd hw 5 rfl) (by decide) pd_4 (ct_new l Z a0 hw n0 h155 a154 [] H155) 1 rfl (by decide) (by decide) (by decide) (by decide) rfl rfl [] rfl Dx_69 ?_
        rintro _ h156 ⟨rfl, ia156, ka156, ea156, la156, fa156, ga156, H156⟩
        change G k n0 _ h156 _ _ 72 [.val (.int p0), .val (.int p1), .val (.int p2), .val (.int p3), .val (.int 1), .val (.int (Int32.ofNat q0)), .val (.int (Int32.ofNat q1)), .val (.int (Int32.ofNat q2)), .val (.int 0), .val (.int (Int32.ofNat qq)), .unset, .unset, .unset, .unset] [.ref a154]
        refine G.astore K Dx_72 rfl ([.val (.int p0), .val (.int p1), .val (.int p2), .val (.int p3), .val (.int 1), .val (.int (Int32.ofNat q0)), .val (.int (Int32.ofNat q1)), .val (.int (Int32.ofNat q2)), .val (.int 0), .val (.int (Int32.ofNat qq)), .val (.ref a154), .unset, .unset, .unset]) rfl ?_
        refine G.new K (wd hw 24 rfl) (wd hw 25 rfl) (wd hw 26 rfl) (cf_NSR hw) (vs := [.null, .double 0]) (by rfl) H156 (by decide) (by decide) Dx_74 ?_
        intro a157 h158 H158
        change Hp n0 h158 [(a157, Ob Z "com/example/rankwise/rankwise/engine/Ranked" NSR [.null, .double 0]), (a154, Ob Z "com/example/rankwise/rankwise/engine/KeptItems" NSI [.ref ia156, .ref ka156, .ref ea156, .ref la156, .int 0, .ref fa156, .ref ga156]), (ia156, Ra Z "com/example/rankwise/rankwise/engine/Ranked" (lst 16 (fun _ => Value.null))), (ka156, Ia Z (lst 16 (fun _ => 0))), (ea156, Ia Z (lst 16 (fun _ => 0))), (la156, Ia Z (lst 16 (fun _ => 0))), (fa156, Ia Z (lst 0 (fun _ => -1))), (ga156, Ia Z (lst 0 (fun _ => -1)))] at H158
        refine G.dup K Dx_77 rfl ?_
        refine G.iconst K Dx_78 0 rfl ?_
        refine G.newarr_i K (wd hw 13 rfl) H158 (by decide) 0 (by decide) (by decide) (by decide) (by decide) Dx_79 ?_
        intro a159 h160 H160
        change Hp n0 h160 [(a159, Ia Z []), (a157, Ob Z "com/example/rankwise/rankwise/engine/Ranked" NSR [.null, .double 0]), (a154, Ob Z "com/example/rankwise/rankwise/engine/KeptItems" NSI [.ref ia156, .ref ka156, .ref ea156, .ref la156, .int 0, .ref fa156, .ref ga156]), (ia156, Ra Z "com/example/rankwise/rankwise/engine/Ranked" (lst 16 (fun _ => Value.null))), (ka156, Ia Z (lst 16 (fun _ => 0))), (ea156, Ia Z (lst 16 (fun _ => 0))), (la156, Ia Z (lst 16 (fun _ => 0))), (fa156, Ia Z (lst 0 (fun _ => -1))), (ga156, Ia Z (lst 0 (fun _ => -1)))] at H160
        refine G.dconst0 K Dx_81 ?_
        have H161 : Hp n0 h160 [(a157, Ob Z "com/example/rankwise/rankwise/engine/Ranked" NSR [.null, .double 0]), (a159, Ia Z []), (a154, Ob Z "com/example/rankwise/rankwise/engine/KeptItems" NSI [.ref ia156, .ref ka156, .ref ea156, .ref la156, .int 0, .ref fa156, .ref ga156]), (ia156, Ra Z "com/example/rankwise/rankwise/engine/Ranked" (lst 16 (fun _ => Value.null))), (ka156, Ia Z (lst 16 (fun _ => 0))), (ea156, Ia Z (lst 16 (fun _ => 0))), (la156, Ia Z (lst 16 (fun _ => 0))), (fa156, Ia Z (lst 0 (fun _ => -1))), (ga156, Ia Z (lst 0 (fun _ => -1)))] := H160.pull 1 rfl
        refine G.callI K hl rfl (wd hw 27 rfl) (wd hw 28 rfl) (wd hw 26 rfl) (wd hw 29 rfl) (by decide) pd_5 (ct_ranked l Z a0 hw n0 h160 a157 a159 FP.dconst0 [(a159, Ia Z []), (a154, Ob Z "com/example/rankwise/rankwise/engine/KeptItems" NSI [.ref ia156, .ref ka156, .ref ea156, .ref la156, .int 0, .ref fa156, .ref ga156]), (ia156, Ra Z "com/example/rankwise/rankwise/engine/Ranked" (lst 16 (fun _ => Value.null))), (ka156, Ia Z (lst 16 (fun _ => 0))), (ea156, Ia Z (lst 16 (fun _ => 0))), (la156, Ia Z (lst 16 (fun _ => 0))), (fa156, Ia Z (lst 0 (fun _ => -1))), (ga156, Ia Z (lst 0 (fun _ => -1)))] H161) 1 rfl (by decide) (by decide) (by decide) (by decide) rfl rfl [.double FP.dconst0, .ref a159] rfl Dx_82 ?_
        rintro _ h162 ⟨rfl, H162⟩
        change G k n0 _ h162 _ _ 85 [.val (.int p0), .val (.int p1), .val (.int p2), .val (.int p3), .val (.int 1), .val (.int (Int32.ofNat q0)), .val (.int (Int32.ofNat q1)), .val (.int (Int32.ofNat q2)), .val (.int 0), .val (.int (Int32.ofNat qq)), .val (.ref a154), .unset, .unset, .unset] [.ref a157]
        refine G.astore K Dx_85 rfl ([.val (.int p0), .val (.int p1), .val (.int p2), .val (.int p3), .val (.int 1), .val (.int (Int32.ofNat q0)), .val (.int (Int32.ofNat q1)), .val (.int (Int32.ofNat q2)), .val (.int 0), .val (.int (Int32.ofNat qq)), .val (.ref a154), .val (.ref a157), .unset, .unset]) rfl ?_
        refine G.iload K Dx_87 rfl ?_
        refine G.if_le K Dx_89 (fun q => absurd q (by decide)) (fun _ => ?_)
        refine G.aload K Dx_92 rfl rfl ?_
        refine G.iload K Dx_94 rfl ?_
        refine G.aload K Dx_96 rfl rfl ?_
        have H164 : Hp n0 h162 [(ga156, Ia Z (lst 0 (fun _ => -1))), (a157, Ob Z "com/example/rankwise/rankwise/engine/Ranked" NSR [.ref a159, .double FP.dconst0]), (a159, Ia Z []), (a154, Ob Z "com/example/rankwise/rankwise/engine/KeptItems" NSI [.ref ia156, .ref ka156, .ref ea156, .ref la156, .int 0, .ref fa156, .ref ga156]), (ia156, Ra Z "com/example/rankwise/rankwise/engine/Ranked" (lst 16 (fun _ => Value.null))), (ka156, Ia Z (lst 16 (fun _ => 0))), (ea156, Ia Z (lst 16 (fun _ => 0))), (la156, Ia Z (lst 16 (fun _ => 0))), (fa156, Ia Z (lst 0 (fun _ => -1)))] := H162.pull 8 rfl
        have H165 : Hp n0 h162 [(fa156, Ia Z (lst 0 (fun _ => -1))), (ga156, Ia Z (lst 0 (fun _ => -1))), (a157, Ob Z "com/example/rankwise/rankwise/engine/Ranked" NSR [.ref a159, .double FP.dconst0]), (a159, Ia Z []), (a154, Ob Z "com/example/rankwise/rankwise/engine/KeptItems" NSI [.ref ia156, .ref ka156, .ref ea156, .ref la156, .int 0, .ref fa156, .ref ga156]), (ia156, Ra Z "com/example/rankwise/rankwise/engine/Ranked" (lst 16 (fun _ => Value.null))), (ka156, Ia Z (lst 16 (fun _ => 0))), (ea156, Ia Z (lst 16 (fun _ => 0))), (la156, Ia Z (lst 16 (fun _ => 0)))] := H164.pull 8 rfl
        have H166 : Hp n0 h162 [(la156, Ia Z (lst 16 (fun _ => 0))), (fa156, Ia Z (lst 0 (fun _ => -1))), (ga156, Ia Z (lst 0 (fun _ => -1))), (a157, Ob Z "com/example/rankwise/rankwise/engine/Ranked" NSR [.ref a159, .double FP.dconst0]), (a159, Ia Z []), (a154, Ob Z "com/example/rankwise/rankwise/engine/KeptItems" NSI [.ref ia156, .ref ka156, .ref ea156, .ref la156, .int 0, .ref fa156, .ref ga156]), (ia156, Ra Z "com/example/rankwise/rankwise/engine/Ranked" (lst 16 (fun _ => Value.null))), (ka156, Ia Z (lst 16 (fun _ => 0))), (ea156, Ia Z (lst 16 (fun _ => 0)))] := H165.pull 8 rfl
        have H167 : Hp n0 h162 [(ea156, Ia Z (lst 16 (fun _ => 0))), (la156, Ia Z (lst 16 (fun _ => 0))), (fa156, Ia Z (lst 0 (fun _ => -1))), (ga156, Ia Z (lst 0 (fun _ => -1))), (a157, Ob Z "com/example/rankwise/rankwise/engine/Ranked" NSR [.ref a159, .double FP.dconst0]), (a159, Ia Z []), (a154, Ob Z "com/example/rankwise/rankwise/engine/KeptItems" NSI [.ref ia156, .ref ka156, .ref ea156, .ref la156, .int 0, .ref fa156, .ref ga156]), (ia156, Ra Z "com/example/rankwise/rankwise/engine/Ranked" (lst 16 (fun _ => Value.null))), (ka156, Ia Z (lst 16 (fun _ => 0)))] := H166.pull 8 rfl
        have H168 : Hp n0 h162 [(ka156, Ia Z (lst 16 (fun _ => 0))), (ea156, Ia Z (lst 16 (fun _ => 0))), (la156, Ia Z (lst 16 (fun _ => 0))), (fa156, Ia Z (lst 0 (fun _ => -1))), (ga156, Ia Z (lst 0 (fun _ => -1))), (a157, Ob Z "com/example/rankwise/rankwise/engine/Ranked" NSR [.ref a159, .double FP.dconst0]), (a159, Ia Z []), (a154, Ob Z "com/example/rankwise/rankwise/engine/KeptItems" NSI [.ref ia156, .ref ka156, .ref ea156, .ref la156, .int 0, .ref fa156, .ref ga156]), (ia156, Ra Z "com/example/rankwise/rankwise/engine/Ranked" (lst 16 (fun _ => Value.null)))] := H167.pull 8 rfl
        have H169 : Hp n0 h162 [(ia156, Ra Z "com/example/rankwise/rankwise/engine/Ranked" (lst 16 (fun _ => Value.null))), (ka156, Ia Z (lst 16 (fun _ => 0))), (ea156, Ia Z (lst 16 (fun _ => 0))), (la156, Ia Z (lst 16 (fun _ => 0))), (fa156, Ia Z (lst 0 (fun _ => -1))), (ga156, Ia Z (lst 0 (fun _ => -1))), (a157, Ob Z "com/example/rankwise/rankwise/engine/Ranked" NSR [.ref a159, .double FP.dconst0]), (a159, Ia Z []), (a154, Ob Z "com/example/rankwise/rankwise/engine/KeptItems" NSI [.ref ia156, .ref ka156, .ref ea156, .ref la156, .int 0, .ref fa156, .ref ga156])] := H168.pull 8 rfl
        have H170 : Hp n0 h162 [(a154, Ob Z "com/example/rankwise/rankwise/engine/KeptItems" NSI [.ref ia156, .ref ka156, .ref ea156, .ref la156, .int 0, .ref fa156, .ref ga156]), (ia156, Ra Z "com/example/rankwise/rankwise/engine/Ranked" (lst 16 (fun _ => Value.null))), (ka156, Ia Z (lst 16 (fun _ => 0))), (ea156, Ia Z (lst 16 (fun _ => 0))), (la156, Ia Z (lst 16 (fun _ => 0))), (fa156, Ia Z (lst 0 (fun _ => -1))), (ga156, Ia Z (lst 0 (fun _ => -1))), (a157, Ob Z "com/example/rankwise/rankwise/engine/Ranked" NSR [.ref a159, .double FP.dconst0]), (a159, Ia Z [])] := H169.pull 8 rfl
        refine G.callV K hl (wd hw 41 rfl) (wd hw 42 rfl) (wd hw 44 rfl) (wd hw 43 rfl) (wd hw 2 rfl) (wd hw 45 rfl) (by decide) pd_7 (H170.exa (i := 0) rfl) (ct_add l Z a0 hw n0 h162 a154 ia156 ka156 ea156 la156 fa156 ga156 a157 0 0 q0 (fun _ => Value.null) (fun _ => 0) (fun _ => 0) (fun _ => 0) (fun _ => -1) (fun _ => -1) [.ref a159, .double FP.dconst0] [(a159, Ia Z [])] (by decide) (by decide) (by omega) (fun _ _ => rfl) (fun _ _ => rfl) (fun _ => (Or.inl rfl : Ix 0 (-1))) H170) 0 rfl (by decide) (by decide) (by decide) (by decide) rfl rfl [.ref a157, .int (Int32.ofNat q0)] rfl Dx_98 ?_
        rintro _ h171 ⟨rfl, fb171, gb171, L171, l1171, l2171, l3171, H171⟩
        have hF171 : ∀ i, L171 ≤ i → (adF (fun _ => -1) (fun _ => -1) q0 0) i = -1 := adF_out (fun _ _ => rfl) l1171 l2171
        have hO171 : ∀ i, L171 ≤ i → (fup (fun _ => -1) q0 (Int32.ofNat 0)) i = -1 := fup_out (fun _ _ => rfl) l1171 l2171
        have hI171 : ∀ i, Ix 1 ((fup (fun _ => -1) q0 (Int32.ofNat 0)) i) := Ix_fup (fun _ => (Or.inl rfl : Ix 0 (-1)))
        change G k n0 _ h171 _ _ 101 [.val (.int p0), .val (.int p1), .val (.int p2), .val (.int p3), .val (.int 1), .val (.int (Int32.ofNat q0)), .val (.int (Int32.ofNat q1)), .val (.int (Int32.ofNat q2)), .val (.int 0), .val (.int (Int32.ofNat qq)), .val (.ref a154), .val (.ref a157), .unset, .unset] []
        refine G.iload K Dx_101 rfl ?_
        refine G.iconst K Dx_103 1 rfl ?_
        refine G.icmp_le K Dx_104 (fun _ => ?_) (fun q => absurd q (by decide))
        refine G.iload K Dx_116 rfl ?_
        refine G.iconst K Dx_118 2 rfl ?_
        refine G.icmp_le K Dx_119 (fun _ => ?_) (fun q => absurd q (by decide))
        refine G.iload K Dx_131 rfl ?_
        refine G.if_eq K Dx_133 (fun _ => ?_) (fun q => absurd q (by decide))
        refine G.iload K Dx_141 rfl ?_
        refine G.if_eq K Dx_143 (fun _ => ?_) (fun q => absurd q (by decide))
        refine G.iload K Dx_153 rfl ?_
        refine G.istore K Dx_155 ([.val (.int p0), .val (.int p1), .val (.int p2), .val (.int p3), .val (.int 1), .val (.int (Int32.ofNat q0)), .val (.int (Int32.ofNat q1)), .val (.int (Int32.ofNat q2)), .val (.int 0), .val (.int (Int32.ofNat qq)), .val (.ref a154), .val (.ref a157), .val (.int 1), .unset]) rfl ?_
        refine G.iconst K Dx_157 (-1) rfl ?_
        refine G.istore K Dx_158 ([.val (.int p0), .val (.int p1), .val (.int p2), .val (.int p3), .val (.int 1), .val (.int (Int32.ofNat q0)), .val (.int (Int32.ofNat q1)), .val (.int (Int32.ofNat q2)), .val (.int 0), .val (.int (Int32.ofNat qq)), .val (.ref a154), .val (.ref a157), .val (.int 1), .val (.int (-1))]) rfl ?_
        refine G.iload K Dx_160 rfl ?_
        refine G.iconst K Dx_162 2 rfl ?_
        refine G.icmp_le K Dx_163 (fun _ => ?_) (fun q => absurd q (by decide))
        refine G.iload K Dx_176 rfl ?_
        refine G.iconst K Dx_178 1 rfl ?_
        refine G.icmp_le K Dx_179 (fun _ => ?_) (fun q => absurd q (by decide))
        refine G.iload K Dx_192 rfl ?_
        refine G.if_le K Dx_194 (fun q => absurd q (by decide)) (fun _ => ?_)
        refine G.iload K Dx_197 rfl ?_
        refine G.iload K Dx_199 rfl ?_
        refine G.icmp_ne K Dx_201 (fun q179 => ?_) (fun q179 => ?_)
        · refine G.aload K Dx_207 rfl rfl ?_
          refine G.iload K Dx_209 rfl ?_
          have H180 : Hp n0 h171 [(gb171, Ia Z (lst L171 (fup (fun _ => -1) q0 (Int32.ofNat 0)))), (a154, Ob Z "com/example/rankwise/rankwise/engine/KeptItems" NSI [.ref ia156, .ref ka156, .ref ea156, .ref la156, .int 1, .ref fb171, .ref gb171]), (ia156, Ra Z "com/example/rankwise/rankwise/engine/Ranked" (lst 16 (fup (fun _ => Value.null) 0 (Value.ref a157)))), (ka156, Ia Z (lst 16 (fup (fun _ => 0) 0 (Int32.ofNat q0)))), (ea156, Ia Z (lst 16 (fup (fun _ => 0) 0 ((fun _ => -1) q0)))), (la156, Ia Z (lst 16 (adT (fun _ => -1) (fun _ => 0) q0 0))), (fb171, Ia Z (lst L171 (adF (fun _ => -1) (fun _ => -1) q0 0))), (a157, Ob Z "com/example/rankwise/rankwise/engine/Ranked" NSR [.ref a159, .double FP.dconst0]), (a159, Ia Z [])] := H171.pull 6 rfl
          have H181 : Hp n0 h171 [(fb171, Ia Z (lst L171 (adF (fun _ => -1) (fun _ => -1) q0 0))), (gb171, Ia Z (lst L171 (fup (fun _ => -1) q0 (Int32.ofNat 0)))), (a154, Ob Z "com/example/rankwise/rankwise/engine/KeptItems" NSI [.ref ia156, .ref ka156, .ref ea156, .ref la156, .int 1, .ref fb171, .ref gb171]), (ia156, Ra Z "com/example/rankwise/rankwise/engine/Ranked" (lst 16 (fup (fun _ => Value.null) 0 (Value.ref a157)))), (ka156, Ia Z (lst 16 (fup (fun _ => 0) 0 (Int32.ofNat q0)))), (ea156, Ia Z (lst 16 (fup (fun _ => 0) 0 ((fun _ => -1) q0)))), (la156, Ia Z (lst 16 (adT (fun _ => -1) (fun _ => 0) q0 0))), (a157, Ob Z "com/example/rankwise/rankwise/engine/Ranked" NSR [.ref a159, .double FP.dconst0]), (a159, Ia Z [])] := H180.pull 6 rfl
          have H182 : Hp n0 h171 [(la156, Ia Z (lst 16 (adT (fun _ => -1) (fun _ => 0) q0 0))), (fb171, Ia Z (lst L171 (adF (fun _ => -1) (fun _ => -1) q0 0))), (gb171, Ia Z (lst L171 (fup (fun _ => -1) q0 (Int32.ofNat 0)))), (a154, Ob Z "com/example/rankwise/rankwise/engine/KeptItems" NSI [.ref ia156, .ref ka156, .ref ea156, .ref la156, .int 1, .ref fb171, .ref gb171]), (ia156, Ra Z "com/example/rankwise/rankwise/engine/Ranked" (lst 16 (fup (fun _ => Value.null) 0 (Value.ref a157)))), (ka156, Ia Z (lst 16 (fup (fun _ => 0) 0 (Int32.ofNat q0)))), (ea156, Ia Z (lst 16 (fup (fun _ => 0) 0 ((fun _ => -1) q0)))), (a157, Ob Z "com/example/rankwise/rankwise/engine/Ranked" NSR [.ref a159, .double FP.dconst0]), (a159, Ia Z [])] := H181.pull 6 rfl
          have H183 : Hp n0 h171 [(ea156, Ia Z (lst 16 (fup (fun _ => 0) 0 ((fun _ => -1) q0)))), (la156, Ia Z (lst 16 (adT (fun _ => -1) (fun _ => 0) q0 0))), (fb171, Ia Z (lst L171 (adF (fun _ => -1) (fun _ => -1) q0 0))), (gb171, Ia Z (lst L171 (fup (fun _ => -1) q0 (Int32.ofNat 0)))), (a154, Ob Z "com/example/rankwise/rankwise/engine/KeptItems" NSI [.ref ia156, .ref ka156, .ref ea156, .ref la156, .int 1, .ref fb171, .ref gb171]), (ia156, Ra Z "com/example/rankwise/rankwise/engine/Ranked" (lst 16 (fup (fun _ => Value.null) 0 (Value.ref a157)))), (ka156, Ia Z (lst 16 (fup (fun _ => 0) 0 (Int32.ofNat q0)))), (a157, Ob Z "com/example/rankwise/rankwise/engine/Ranked" NSR [.ref a159, .double FP.dconst0]), (a159, Ia Z [])] := H182.pull 6 rfl
          have H184 : Hp n0 h171 [(ka156, Ia Z (lst 16 (fup (fun _ => 0) 0 (Int32.ofNat q0)))), (ea156, Ia Z (lst 16 (fup (fun _ => 0) 0 ((fun _ => -1) q0)))), (la156, Ia Z (lst 16 (adT (fun _ => -1) (fun _ => 0) q0 0))), (fb171, Ia Z (lst L171 (adF (fun _ => -1) (fun _ => -1) q0 0))), (gb171, Ia Z (lst L171 (fup (fun _ => -1) q0 (Int32.ofNat 0)))), (a154, Ob Z "com/example/rankwise/rankwise/engine/KeptItems" NSI [.ref ia156, .ref ka156, .ref ea156, .ref la156, .int 1, .ref fb171, .ref gb171]), (ia156, Ra Z "com/example/rankwise/rankwise/engine/Ranked" (lst 16 (fup (fun _ => Value.null) 0 (Value.ref a157)))), (a157, Ob Z "com/example/rankwise/rankwise/engine/Ranked" NSR [.ref a159, .double FP.dconst0]), (a159, Ia Z [])] := H183.pull 6 rfl
          have H185 : Hp n0 h171 [(ia156, Ra Z "com/example/rankwise/rankwise/engine/Ranked" (lst 16 (fup (fun _ => Value.null) 0 (Value.ref a157)))), (ka156, Ia Z (lst 16 (fup (fun _ => 0) 0 (Int32.ofNat q0)))), (ea156, Ia Z (lst 16 (fup (fun _ => 0) 0 ((fun _ => -1) q0)))), (la156, Ia Z (lst 16 (adT (fun _ => -1) (fun _ => 0) q0 0))), (fb171, Ia Z (lst L171 (adF (fun _ => -1) (fun _ => -1) q0 0))), (gb171, Ia Z (lst L171 (fup (fun _ => -1) q0 (Int32.ofNat 0)))), (a154, Ob Z "com/example/rankwise/rankwise/engine/KeptItems" NSI [.ref ia156, .ref ka156, .ref ea156, .ref la156, .int 1, .ref fb171, .ref gb171]), (a157, Ob Z "com/example/rankwise/rankwise/engine/Ranked" NSR [.ref a159, .double FP.dconst0]), (a159, Ia Z [])] := H184.pull 6 rfl
          have H186 : Hp n0 h171 [(a154, Ob Z "com/example/rankwise/rankwise/engine/KeptItems" NSI [.ref ia156, .ref ka156, .ref ea156, .ref la156, .int 1, .ref fb171, .ref gb171]), (ia156, Ra Z "com/example/rankwise/rankwise/engine/Ranked" (lst 16 (fup (fun _ => Value.null) 0 (Value.ref a157)))), (ka156, Ia Z (lst 16 (fup (fun _ => 0) 0 (Int32.ofNat q0)))), (ea156, Ia Z (lst 16 (fup (fun _ => 0) 0 ((fun _ => -1) q0)))), (la156, Ia Z (lst 16 (adT (fun _ => -1) (fun _ => 0) q0 0))), (fb171, Ia Z (lst L171 (adF (fun _ => -1) (fun _ => -1) q0 0))), (gb171, Ia Z (lst L171 (fup (fun _ => -1) q0 (Int32.ofNat 0)))), (a157, Ob Z "com/example/rankwise/rankwise/engine/Ranked" NSR [.ref a159, .double FP.dconst0]), (a159, Ia Z [])] := H185.pull 6 rfl
          refine G.callV K hl (wd hw 35 rfl) (wd hw 36 rfl) (wd hw 38 rfl) (wd hw 37 rfl) (wd hw 2 rfl) (wd hw 39 rfl) (by decide) pd_6 (H186.exa (i := 0) rfl) (ct_first l Z a0 hw n0 h171 a154 ia156 ka156 ea156 la156 fb171 gb171 1 L171 qq (fup (fun _ => Value.null) 0 (Value.ref a157)) (fup (fun _ => 0) 0 (Int32.ofNat q0)) (fup (fun _ => 0) 0 ((fun _ => -1) q0)) (adT (fun _ => -1) (fun _ => 0) q0 0) (adF (fun _ => -1) (fun _ => -1) q0 0) (fup (fun _ => -1) q0 (Int32.ofNat 0)) [(a157, Ob Z "com/example/rankwise/rankwise/engine/Ranked" NSR [.ref a159, .double FP.dconst0]), (a159, Ia Z [])] (by have := l3171; omega) (by omega) hF171 H186) 0 rfl (by decide) (by decide) (by decide) (by decide) rfl rfl [.int (Int32.ofNat qq)] rfl Dx_211 ?_
          rintro _ h187 ⟨rfl, H187⟩
          change G k n0 _ h187 _ _ 214 [.val (.int p0), .val (.int p1), .val (.int p2), .val (.int p3), .val (.int 1), .val (.int (Int32.ofNat q0)), .val (.int (Int32.ofNat q1)), .val (.int (Int32.ofNat q2)), .val (.int 0), .val (.int (Int32.ofNat qq)), .val (.ref a154), .val (.ref a157), .val (.int 1), .val (.int (-1))] [.int ((adF (fun _ => -1) (fun _ => -1) q0 0) qq)]
          refine G.iload K Dx_214 rfl ?_
          rw [own_neq (by omega) (by omega)] at q179
          have hf := fst_1_0 q0 q1 q2 qq
          rw [if_neg q179] at hf
          refine G.icmp_ne K Dx_216 (fun q => absurd hf q) (fun q188 => ?_)
          refine G.iconst K Dx_219 1 rfl ?_
          refine G.goto K Dx_220 ?_
          refine G.ret_bool K Dx_224 ?_
          exact rfl
        · refine G.iconst K Dx_204 0 rfl ?_
          refine G.istore K Dx_205 ([.val (.int p0), .val (.int p1), .val (.int p2), .val (.int p3), .val (.int 1), .val (.int (Int32.ofNat q0)), .val (.int (Int32.ofNat q1)), .val (.int (Int32.ofNat q2)), .val (.int 0), .val (.int (Int32.ofNat qq)), .val (.ref a154), .val (.ref a157), .val (.int 1), .val (.int 0)]) rfl ?_
          refine G.aload K Dx_207 rfl rfl ?_
          refine G.iload K Dx_209 rfl ?_
          have H189 : Hp n0 h171 [(gb171, Ia Z (lst L171 (fup (fun _ => -1) q0 (Int32.ofNat 0)))), (a154, Ob Z "com/example/rankwise/rankwise/engine/KeptItems" NSI [.ref ia156, .ref ka156, .ref ea156, .ref la156, .int 1, .ref fb171, .ref gb171]), (ia156, Ra Z "com/example/rankwise/rankwise/engine/Ranked" (lst 16 (fup (fun _ => Value.null) 0 (Value.ref a157)))), (ka156, Ia Z (lst 16 (fup (fun _ => 0) 0 (Int32.ofNat q0)))), (ea156, Ia Z (lst 16 (fup (fun _ => 0) 0 ((fun _ => -1) q0)))), (la156, Ia Z (lst 16 (adT (fun _ => -1) (fun _ => 0) q0 0))), (fb171, Ia Z (lst L171 (adF (fun _ => -1) (fun _ => -1) q0 0))), (a157, Ob Z "com/example/rankwise/rankwise/engine/Ranked" NSR [.ref a159, .double FP.dconst0]), (a159, Ia Z [])] := H171.pull 6 rfl
          have H190 : Hp n0 h171 [(fb171, Ia Z (lst L171 (adF (fun _ => -1) (fun _ => -1) q0 0))), (gb171, Ia Z (lst L171 (fup (fun _ => -1) q0 (Int32.ofNat 0)))), (a154, Ob Z "com/example/rankwise/rankwise/engine/KeptItems" NSI [.ref ia156, .ref ka156, .ref ea156, .ref la156, .int 1, .ref fb171, .ref gb171]), (ia156, Ra Z "com/example/rankwise/rankwise/engine/Ranked" (lst 16 (fup (fun _ => Value.null) 0 (Value.ref a157)))), (ka156, Ia Z (lst 16 (fup (fun _ => 0) 0 (Int32.ofNat q0)))), (ea156, Ia Z (lst 16 (fup (fun _ => 0) 0 ((fun _ => -1) q0)))), (la156, Ia Z (lst 16 (adT (fun _ => -1) (fun _ => 0) q0 0))), (a157, Ob Z "com/example/rankwise/rankwise/engine/Ranked" NSR [.ref a159, .double FP.dconst0]), (a159, Ia Z [])] := H189.pull 6 rfl
          have H191 : Hp n0 h171 [(la156, Ia Z (lst 16 (adT (fun _ => -1) (fun _ => 0) q0 0))), (fb171, Ia Z (lst L171 (adF (fun _ => -1) (fun _ => -1) q0 0))), (gb171, Ia Z (lst L171 (fup (fun _ => -1) q0 (Int32.ofNat 0)))), (a154, Ob Z "com/example/rankwise/rankwise/engine/KeptItems" NSI [.ref ia156, .ref ka156, .ref ea156, .ref la156, .int 1, .ref fb171, .ref gb171]), (ia156, Ra Z "com/example/rankwise/rankwise/engine/Ranked" (lst 16 (fup (fun _ => Value.null) 0 (Value.ref a157)))), (ka156, Ia Z (lst 16 (fup (fun _ => 0) 0 (Int32.ofNat q0)))), (ea156, Ia Z (lst 16 (fup (fun _ => 0) 0 ((fun _ => -1) q0)))), (a157, Ob Z "com/example/rankwise/rankwise/engine/Ranked" NSR [.ref a159, .double FP.dconst0]), (a159, Ia Z [])] := H190.pull 6 rfl
          have H192 : Hp n0 h171 [(ea156, Ia Z (lst 16 (fup (fun _ => 0) 0 ((fun _ => -1) q0)))), (la156, Ia Z (lst 16 (adT (fun _ => -1) (fun _ => 0) q0 0))), (fb171, Ia Z (lst L171 (adF (fun _ => -1) (fun _ => -1) q0 0))), (gb171, Ia Z (lst L171 (fup (fun _ => -1) q0 (Int32.ofNat 0)))), (a154, Ob Z "com/example/rankwise/rankwise/engine/KeptItems" NSI [.ref ia156, .ref ka156, .ref ea156, .ref la156, .int 1, .ref fb171, .ref gb171]), (ia156, Ra Z "com/example/rankwise/rankwise/engine/Ranked" (lst 16 (fup (fun _ => Value.null) 0 (Value.ref a157)))), (ka156, Ia Z (lst 16 (fup (fun _ => 0) 0 (Int32.ofNat q0)))), (a157, Ob Z "com/example/rankwise/rankwise/engine/Ranked" NSR [.ref a159, .double FP.dconst0]), (a159, Ia Z [])] := H191.pull 6 rfl
          have H193 : Hp n0 h171 [(ka156, Ia Z (lst 16 (fup (fun _ => 0) 0 (Int32.ofNat q0)))), (ea156, Ia Z (lst 16 (fup (fun _ => 0) 0 ((fun _ => -1) q0)))), (la156, Ia Z (lst 16 (adT (fun _ => -1) (fun _ => 0) q0 0))), (fb171, Ia Z (lst L171 (adF (fun _ => -1) (fun _ => -1) q0 0))), (gb171, Ia Z (lst L171 (fup (fun _ => -1) q0 (Int32.ofNat 0)))), (a154, Ob Z "com/example/rankwise/rankwise/engine/KeptItems" NSI [.ref ia156, .ref ka156, .ref ea156, .ref la156, .int 1, .ref fb171, .ref gb171]), (ia156, Ra Z "com/example/rankwise/rankwise/engine/Ranked" (lst 16 (fup (fun _ => Value.null) 0 (Value.ref a157)))), (a157, Ob Z "com/example/rankwise/rankwise/engine/Ranked" NSR [.ref a159, .double FP.dconst0]), (a159, Ia Z [])] := H192.pull 6 rfl
          have H194 : Hp n0 h171 [(ia156, Ra Z "com/example/rankwise/rankwise/engine/Ranked" (lst 16 (fup (fun _ => Value.null) 0 (Value.ref a157)))), (ka156, Ia Z (lst 16 (fup (fun _ => 0) 0 (Int32.ofNat q0)))), (ea156, Ia Z (lst 16 (fup (fun _ => 0) 0 ((fun _ => -1) q0)))), (la156, Ia Z (lst 16 (adT (fun _ => -1) (fun _ => 0) q0 0))), (fb171, Ia Z (lst L171 (adF (fun _ => -1) (fun _ => -1) q0 0))), (gb171, Ia Z (lst L171 (fup (fun _ => -1) q0 (Int32.ofNat 0)))), (a154, Ob Z "com/example/rankwise/rankwise/engine/KeptItems" NSI [.ref ia156, .ref ka156, .ref ea156, .ref la156, .int 1, .ref fb171, .ref gb171]), (a157, Ob Z "com/example/rankwise/rankwise/engine/Ranked" NSR [.ref a159, .double FP.dconst0]), (a159, Ia Z [])] := H193.pull 6 rfl
          have H195 : Hp n0 h171 [(a154, Ob Z "com/example/rankwise/rankwise/engine/KeptItems" NSI [.ref ia156, .ref ka156, .ref ea156, .ref la156, .int 1, .ref fb171, .ref gb171]), (ia156, Ra Z "com/example/rankwise/rankwise/engine/Ranked" (lst 16 (fup (fun _ => Value.null) 0 (Value.ref a157)))), (ka156, Ia Z (lst 16 (fup (fun _ => 0) 0 (Int32.ofNat q0)))), (ea156, Ia Z (lst 16 (fup (fun _ => 0) 0 ((fun _ => -1) q0)))), (la156, Ia Z (lst 16 (adT (fun _ => -1) (fun _ => 0) q0 0))), (fb171, Ia Z (lst L171 (adF (fun _ => -1) (fun _ => -1) q0 0))), (gb171, Ia Z (lst L171 (fup (fun _ => -1) q0 (Int32.ofNat 0)))), (a157, Ob Z "com/example/rankwise/rankwise/engine/Ranked" NSR [.ref a159, .double FP.dconst0]), (a159, Ia Z [])] := H194.pull 6 rfl
          refine G.callV K hl (wd hw 35 rfl) (wd hw 36 rfl) (wd hw 38 rfl) (wd hw 37 rfl) (wd hw 2 rfl) (wd hw 39 rfl) (by decide) pd_6 (H195.exa (i := 0) rfl) (ct_first l Z a0 hw n0 h171 a154 ia156 ka156 ea156 la156 fb171 gb171 1 L171 qq (fup (fun _ => Value.null) 0 (Value.ref a157)) (fup (fun _ => 0) 0 (Int32.ofNat q0)) (fup (fun _ => 0) 0 ((fun _ => -1) q0)) (adT (fun _ => -1) (fun _ => 0) q0 0) (adF (fun _ => -1) (fun _ => -1) q0 0) (fup (fun _ => -1) q0 (Int32.ofNat 0)) [(a157, Ob Z "com/example/rankwise/rankwise/engine/Ranked" NSR [.ref a159, .double FP.dconst0]), (a159, Ia Z [])] (by have := l3171; omega) (by omega) hF171 H195) 0 rfl (by decide) (by decide) (by decide) (by decide) rfl rfl [.int (Int32.ofNat qq)] rfl Dx_211 ?_
          rintro _ h196 ⟨rfl, H196⟩
          change G k n0 _ h196 _ _ 214 [.val (.int p0), .val (.int p1), .val (.int p2), .val (.int p3), .val (.int 1), .val (.int (Int32.ofNat q0)), .val (.int (Int32.ofNat q1)), .val (.int (Int32.ofNat q2)), .val (.int 0), .val (.int (Int32.ofNat qq)), .val (.ref a154), .val (.ref a157), .val (.int 1), .val (.int 0)] [.int ((adF (fun _ => -1) (fun _ => -1) q0 0) qq)]
          refine G.iload K Dx_214 rfl ?_
          rw [own_neq (by omega) (by omega)] at q179
          have hf := fst_1_0 q0 q1 q2 qq
          rw [if_pos q179] at hf
          refine G.icmp_ne K Dx_216 (fun q => absurd hf q) (fun q197 => ?_)
          refine G.iconst K Dx_219 1 rfl ?_
          refine G.goto K Dx_220 ?_
          refine G.ret_bool K Dx_224 ?_
          exact rfl
      refine G.iloadN K Dx_46 rfl ?_
      refine G.iconst K Dx_47 1 rfl ?_
      refine G.iand K Dx_48 ?_
      refine G.if_eq K Dx_49 (fun q198 => ?_) (fun q198 => ?_)
      · refine G.iloadN K Dx_59 rfl ?_
        refine G.ldcI K Dx_60 (wd hw 40 rfl) ?_
        refine G.iand K Dx_62 ?_
        obtain ⟨u, hu, eu⟩ := own_msk p2
        rw [eu]
        exact T63 u hu
      · refine G.iloadN K Dx_52 rfl ?_
        refine G.bipush K Dx_53 15 rfl ?_
        refine G.iand K Dx_55 ?_
        refine G.goto K Dx_56 ?_
        obtain ⟨u, hu, eu⟩ := own_and_lt p2 15 (by decide)
        rw [show p2 &&& 15 = Int32.ofNat u from eu]
        exact T63 u (by omega)
    · refine G.iload K Dx_34 rfl ?_
      refine G.if_le K Dx_36 (fun q => absurd q (by decide)) (fun _ => ?_)
      refine G.iconst K Dx_39 1 rfl ?_
      refine G.goto K Dx_40 ?_
      refine G.istore K Dx_44 ([.val (.int p0), .val (.int p1), .val (.int p2), .val (.int p3), .val (.int 1), .val (.int (Int32.ofNat q0)), .val (.int (Int32.ofNat q1)), .val (.int (Int32.ofNat q2)), .val (.int 1), .unset, .unset, .unset, .unset, .unset]) rfl ?_
      have T63 : ∀ qq : Nat, qq < 2147483648 → G k n0 (fun v h' => v = some (.int 1)) h 0 0 63 [.val (.int p0), .val (.int p1), .val (.int p2), .val (.int p3), .val (.int 1), .val (.int (Int32.ofNat q0)), .val (.int (Int32.ofNat q1)), .val (.int (Int32.ofNat q2)), .val (.int 1), .unset, .unset, .unset, .unset, .unset] [.int (Int32.ofNat qq)] := by
        intro qq hqq
        refine G.istore K Dx_63 ([.val (.int p0), .val (.int p1), .val (.int p2), .val (.int p3), .val (.int 1), .val (.int (Int32.ofNat q0)), .val (.int (Int32.ofNat q1)), .val (.int (Int32.ofNat q2)), .val (.int 1), .val (.int (Int32.ofNat qq)), .unset, .unset, .unset, .unset]) rfl ?_
        refine G.new K (wd hw 0 rfl) (wd hw 1 rfl) (wd hw 2 rfl) (cf_NSI hw) (vs := [.null, .null, .null, .null, .int 0, .null, .null]) (by rfl) (Hp.nil (n0 := n0) (h := h)) (by decide) (by decide) Dx_65 ?_
        intro a200 h201 H201
        change Hp n0 h201 [(a200, Ob Z "com/example/rankwise/rankwise/engine/KeptItems" NSI [.null, .null, .null, .null, .int 0, .null, .null])] at H201
        refine G.dup K Dx_68 rfl ?_
        refine G.callI K hl rfl (wd hw 3 rfl) (wd hw 4 rfl) (wd hw 2 rfl) (wd hw 5 rfl) (by decide) pd_4 (ct_new l Z a0 hw n0 h201 a200 [] H201) 1 rfl (by decide) (by decide) (by decide) (by decide) rfl rfl [] rfl Dx_69 ?_
        rintro _ h202 ⟨rfl, ia202, ka202, ea202, la202, fa202, ga202, H202⟩
        change G k n0 _ h202 _ _ 72 [.val (.int p0), .val (.int p1), .val (.int p2), .val (.int p3), .val (.int 1), .val (.int (Int32.ofNat q0)), .val (.int (Int32.ofNat q1)), .val (.int (Int32.ofNat q2)), .val (.int 1), .val (.int (Int32.ofNat qq)), .unset, .unset, .unset, .unset] [.ref a200]
        refine G.astore K Dx_72 rfl ([.val (.int p0), .val (.int p1), .val (.int p2), .val (.int p3), .val (.int 1), .val (.int (Int32.ofNat q0)), .val (.int (Int32.ofNat q1)), .val (.int (Int32.ofNat q2)), .val (.int 1), .val (.int (Int32.ofNat qq)), .val (.ref a200), .unset, .unset, .unset]) rfl ?_
        refine G.new K (wd hw 24 rfl) (wd hw 25 rfl) (wd hw 26 rfl) (cf_NSR hw) (vs := [.null, .double 0]) (by rfl) H202 (by decide) (by decide) Dx_74 ?_
        intro a203 h204 H204
        change Hp n0 h204 [(a203, Ob Z "com/example/rankwise/rankwise/engine/Ranked" NSR [.null, .double 0]), (a200, Ob Z "com/example/rankwise/rankwise/engine/KeptItems" NSI [.ref ia202, .ref ka202, .ref ea202, .ref la202, .int 0, .ref fa202, .ref ga202]), (ia202, Ra Z "com/example/rankwise/rankwise/engine/Ranked" (lst 16 (fun _ => Value.null))), (ka202, Ia Z (lst 16 (fun _ => 0))), (ea202, Ia Z (lst 16 (fun _ => 0))), (la202, Ia Z (lst 16 (fun _ => 0))), (fa202, Ia Z (lst 0 (fun _ => -1))), (ga202, Ia Z (lst 0 (fun _ => -1)))] at H204
        refine G.dup K Dx_77 rfl ?_
        refine G.iconst K Dx_78 0 rfl ?_
        refine G.newarr_i K (wd hw 13 rfl) H204 (by decide) 0 (by decide) (by decide) (by decide) (by decide) Dx_79 ?_
        intro a205 h206 H206
        change Hp n0 h206 [(a205, Ia Z []), (a203, Ob Z "com/example/rankwise/rankwise/engine/Ranked" NSR [.null, .double 0]), (a200, Ob Z "com/example/rankwise/rankwise/engine/KeptItems" NSI [.ref ia202, .ref ka202, .ref ea202, .ref la202, .int 0, .ref fa202, .ref ga202]), (ia202, Ra Z "com/example/rankwise/rankwise/engine/Ranked" (lst 16 (fun _ => Value.null))), (ka202, Ia Z (lst 16 (fun _ => 0))), (ea202, Ia Z (lst 16 (fun _ => 0))), (la202, Ia Z (lst 16 (fun _ => 0))), (fa202, Ia Z (lst 0 (fun _ => -1))), (ga202, Ia Z (lst 0 (fun _ => -1)))] at H206
        refine G.dconst0 K Dx_81 ?_
        have H207 : Hp n0 h206 [(a203, Ob Z "com/example/rankwise/rankwise/engine/Ranked" NSR [.null, .double 0]), (a205, Ia Z []), (a200, Ob Z "com/example/rankwise/rankwise/engine/KeptItems" NSI [.ref ia202, .ref ka202, .ref ea202, .ref la202, .int 0, .ref fa202, .ref ga202]), (ia202, Ra Z "com/example/rankwise/rankwise/engine/Ranked" (lst 16 (fun _ => Value.null))), (ka202, Ia Z (lst 16 (fun _ => 0))), (ea202, Ia Z (lst 16 (fun _ => 0))), (la202, Ia Z (lst 16 (fun _ => 0))), (fa202, Ia Z (lst 0 (fun _ => -1))), (ga202, Ia Z (lst 0 (fun _ => -1)))] := H206.pull 1 rfl
        refine G.callI K hl rfl (wd hw 27 rfl) (wd hw 28 rfl) (wd hw 26 rfl) (wd hw 29 rfl) (by decide) pd_5 (ct_ranked l Z a0 hw n0 h206 a203 a205 FP.dconst0 [(a205, Ia Z []), (a200, Ob Z "com/example/rankwise/rankwise/engine/KeptItems" NSI [.ref ia202, .ref ka202, .ref ea202, .ref la202, .int 0, .ref fa202, .ref ga202]), (ia202, Ra Z "com/example/rankwise/rankwise/engine/Ranked" (lst 16 (fun _ => Value.null))), (ka202, Ia Z (lst 16 (fun _ => 0))), (ea202, Ia Z (lst 16 (fun _ => 0))), (la202, Ia Z (lst 16 (fun _ => 0))), (fa202, Ia Z (lst 0 (fun _ => -1))), (ga202, Ia Z (lst 0 (fun _ => -1)))] H207) 1 rfl (by decide) (by decide) (by decide) (by decide) rfl rfl [.double FP.dconst0, .ref a205] rfl Dx_82 ?_
        rintro _ h208 ⟨rfl, H208⟩
        change G k n0 _ h208 _ _ 85 [.val (.int p0), .val (.int p1), .val (.int p2), .val (.int p3), .val (.int 1), .val (.int (Int32.ofNat q0)), .val (.int (Int32.ofNat q1)), .val (.int (Int32.ofNat q2)), .val (.int 1), .val (.int (Int32.ofNat qq)), .val (.ref a200), .unset, .unset, .unset] [.ref a203]
        refine G.astore K Dx_85 rfl ([.val (.int p0), .val (.int p1), .val (.int p2), .val (.int p3), .val (.int 1), .val (.int (Int32.ofNat q0)), .val (.int (Int32.ofNat q1)), .val (.int (Int32.ofNat q2)), .val (.int 1), .val (.int (Int32.ofNat qq)), .val (.ref a200), .val (.ref a203), .unset, .unset]) rfl ?_
        refine G.iload K Dx_87 rfl ?_
        refine G.if_le K Dx_89 (fun q => absurd q (by decide)) (fun _ => ?_)
        refine G.aload K Dx_92 rfl rfl ?_
        refine G.iload K Dx_94 rfl ?_
        refine G.aload K Dx_96 rfl rfl ?_
        have H210 : Hp n0 h208 [(ga202, Ia Z (lst 0 (fun _ => -1))), (a203, Ob Z "com/example/rankwise/rankwise/engine/Ranked" NSR [.ref a205, .double FP.dconst0]), (a205, Ia Z []), (a200, Ob Z "com/example/rankwise/rankwise/engine/KeptItems" NSI [.ref ia202, .ref ka202, .ref ea202, .ref la202, .int 0, .ref fa202, .ref ga202]), (ia202, Ra Z "com/example/rankwise/rankwise/engine/Ranked" (lst 16 (fun _ => Value.null))), (ka202, Ia Z (lst 16 (fun _ => 0))), (ea202, Ia Z (lst 16 (fun _ => 0))), (la202, Ia Z (lst 16 (fun _ => 0))), (fa202, Ia Z (lst 0 (fun _ => -1)))] := H208.pull 8 rfl
        have H211 : Hp n0 h208 [(fa202, Ia Z (lst 0 (fun _ => -1))), (ga202, Ia Z (lst 0 (fun _ => -1))), (a203, Ob Z "com/example/rankwise/rankwise/engine/Ranked" NSR [.ref a205, .double FP.dconst0]), (a205, Ia Z []), (a200, Ob Z "com/example/rankwise/rankwise/engine/KeptItems" NSI [.ref ia202, .ref ka202, .ref ea202, .ref la202, .int 0, .ref fa202, .ref ga202]), (ia202, Ra Z "com/example/rankwise/rankwise/engine/Ranked" (lst 16 (fun _ => Value.null))), (ka202, Ia Z (lst 16 (fun _ => 0))), (ea202, Ia Z (lst 16 (fun _ => 0))), (la202, Ia Z (lst 16 (fun _ => 0)))] := H210.pull 8 rfl
        have H212 : Hp n0 h208 [(la202, Ia Z (lst 16 (fun _ => 0))), (fa202, Ia Z (lst 0 (fun _ => -1))), (ga202, Ia Z (lst 0 (fun _ => -1))), (a203, Ob Z "com/example/rankwise/rankwise/engine/Ranked" NSR [.ref a205, .double FP.dconst0]), (a205, Ia Z []), (a200, Ob Z "com/example/rankwise/rankwise/engine/KeptItems" NSI [.ref ia202, .ref ka202, .ref ea202, .ref la202, .int 0, .ref fa202, .ref ga202]), (ia202, Ra Z "com/example/rankwise/rankwise/engine/Ranked" (lst 16 (fun _ => Value.null))), (ka202, Ia Z (lst 16 (fun _ => 0))), (ea202, Ia Z (lst 16 (fun _ => 0)))] := H211.pull 8 rfl
        have H213 : Hp n0 h208 [(ea202, Ia Z (lst 16 (fun _ => 0))), (la202, Ia Z (lst 16 (fun _ => 0))), (fa202, Ia Z (lst 0 (fun _ => -1))), (ga202, Ia Z (lst 0 (fun _ => -1))), (a203, Ob Z "com/example/rankwise/rankwise/engine/Ranked" NSR [.ref a205, .double FP.dconst0]), (a205, Ia Z []), (a200, Ob Z "com/example/rankwise/rankwise/engine/KeptItems" NSI [.ref ia202, .ref ka202, .ref ea202, .ref la202, .int 0, .ref fa202, .ref ga202]), (ia202, Ra Z "com/example/rankwise/rankwise/engine/Ranked" (lst 16 (fun _ => Value.null))), (ka202, Ia Z (lst 16 (fun _ => 0)))] := H212.pull 8 rfl
        have H214 : Hp n0 h208 [(ka202, Ia Z (lst 16 (fun _ => 0))), (ea202, Ia Z (lst 16 (fun _ => 0))), (la202, Ia Z (lst 16 (fun _ => 0))), (fa202, Ia Z (lst 0 (fun _ => -1))), (ga202, Ia Z (lst 0 (fun _ => -1))), (a203, Ob Z "com/example/rankwise/rankwise/engine/Ranked" NSR [.ref a205, .double FP.dconst0]), (a205, Ia Z []), (a200, Ob Z "com/example/rankwise/rankwise/engine/KeptItems" NSI [.ref ia202, .ref ka202, .ref ea202, .ref la202, .int 0, .ref fa202, .ref ga202]), (ia202, Ra Z "com/example/rankwise/rankwise/engine/Ranked" (lst 16 (fun _ => Value.null)))] := H213.pull 8 rfl
        have H215 : Hp n0 h208 [(ia202, Ra Z "com/example/rankwise/rankwise/engine/Ranked" (lst 16 (fun _ => Value.null))), (ka202, Ia Z (lst 16 (fun _ => 0))), (ea202, Ia Z (lst 16 (fun _ => 0))), (la202, Ia Z (lst 16 (fun _ => 0))), (fa202, Ia Z (lst 0 (fun _ => -1))), (ga202, Ia Z (lst 0 (fun _ => -1))), (a203, Ob Z "com/example/rankwise/rankwise/engine/Ranked" NSR [.ref a205, .double FP.dconst0]), (a205, Ia Z []), (a200, Ob Z "com/example/rankwise/rankwise/engine/KeptItems" NSI [.ref ia202, .ref ka202, .ref ea202, .ref la202, .int 0, .ref fa202, .ref ga202])] := H214.pull 8 rfl
        have H216 : Hp n0 h208 [(a200, Ob Z "com/example/rankwise/rankwise/engine/KeptItems" NSI [.ref ia202, .ref ka202, .ref ea202, .ref la202, .int 0, .ref fa202, .ref ga202]), (ia202, Ra Z "com/example/rankwise/rankwise/engine/Ranked" (lst 16 (fun _ => Value.null))), (ka202, Ia Z (lst 16 (fun _ => 0))), (ea202, Ia Z (lst 16 (fun _ => 0))), (la202, Ia Z (lst 16 (fun _ => 0))), (fa202, Ia Z (lst 0 (fun _ => -1))), (ga202, Ia Z (lst 0 (fun _ => -1))), (a203, Ob Z "com/example/rankwise/rankwise/engine/Ranked" NSR [.ref a205, .double FP.dconst0]), (a205, Ia Z [])] := H215.pull 8 rfl
        refine G.callV K hl (wd hw 41 rfl) (wd hw 42 rfl) (wd hw 44 rfl) (wd hw 43 rfl) (wd hw 2 rfl) (wd hw 45 rfl) (by decide) pd_7 (H216.exa (i := 0) rfl) (ct_add l Z a0 hw n0 h208 a200 ia202 ka202 ea202 la202 fa202 ga202 a203 0 0 q0 (fun _ => Value.null) (fun _ => 0) (fun _ => 0) (fun _ => 0) (fun _ => -1) (fun _ => -1) [.ref a205, .double FP.dconst0] [(a205, Ia Z [])] (by decide) (by decide) (by omega) (fun _ _ => rfl) (fun _ _ => rfl) (fun _ => (Or.inl rfl : Ix 0 (-1))) H216) 0 rfl (by decide) (by decide) (by decide) (by decide) rfl rfl [.ref a203, .int (Int32.ofNat q0)] rfl Dx_98 ?_
        rintro _ h217 ⟨rfl, fb217, gb217, L217, l1217, l2217, l3217, H217⟩
        have hF217 : ∀ i, L217 ≤ i → (adF (fun _ => -1) (fun _ => -1) q0 0) i = -1 := adF_out (fun _ _ => rfl) l1217 l2217
        have hO217 : ∀ i, L217 ≤ i → (fup (fun _ => -1) q0 (Int32.ofNat 0)) i = -1 := fup_out (fun _ _ => rfl) l1217 l2217
        have hI217 : ∀ i, Ix 1 ((fup (fun _ => -1) q0 (Int32.ofNat 0)) i) := Ix_fup (fun _ => (Or.inl rfl : Ix 0 (-1)))
        change G k n0 _ h217 _ _ 101 [.val (.int p0), .val (.int p1), .val (.int p2), .val (.int p3), .val (.int 1), .val (.int (Int32.ofNat q0)), .val (.int (Int32.ofNat q1)), .val (.int (Int32.ofNat q2)), .val (.int 1), .val (.int (Int32.ofNat qq)), .val (.ref a200), .val (.ref a203), .unset, .unset] []
        refine G.iload K Dx_101 rfl ?_
        refine G.iconst K Dx_103 1 rfl ?_
        refine G.icmp_le K Dx_104 (fun _ => ?_) (fun q => absurd q (by decide))
        refine G.iload K Dx_116 rfl ?_
        refine G.iconst K Dx_118 2 rfl ?_
        refine G.icmp_le K Dx_119 (fun _ => ?_) (fun q => absurd q (by decide))
        refine G.iload K Dx_131 rfl ?_
        refine G.if_eq K Dx_133 (fun q => absurd q (by decide)) (fun _ => ?_)
        refine G.aload K Dx_136 rfl rfl ?_
        have H221 : Hp n0 h217 [(gb217, Ia Z (lst L217 (fup (fun _ => -1) q0 (Int32.ofNat 0)))), (a200, Ob Z "com/example/rankwise/rankwise/engine/KeptItems" NSI [.ref ia202, .ref ka202, .ref ea202, .ref la202, .int 1, .ref fb217, .ref gb217]), (ia202, Ra Z "com/example/rankwise/rankwise/engine/Ranked" (lst 16 (fup (fun _ => Value.null) 0 (Value.ref a203)))), (ka202, Ia Z (lst 16 (fup (fun _ => 0) 0 (Int32.ofNat q0)))), (ea202, Ia Z (lst 16 (fup (fun _ => 0) 0 ((fun _ => -1) q0)))), (la202, Ia Z (lst 16 (adT (fun _ => -1) (fun _ => 0) q0 0))), (fb217, Ia Z (lst L217 (adF (fun _ => -1) (fun _ => -1) q0 0))), (a203, Ob Z "com/example/rankwise/rankwise/engine/Ranked" NSR [.ref a205, .double FP.dconst0]), (a205, Ia Z [])] := H217.pull 6 rfl
        have H222 : Hp n0 h217 [(fb217, Ia Z (lst L217 (adF (fun _ => -1) (fun _ => -1) q0 0))), (gb217, Ia Z (lst L217 (fup (fun _ => -1) q0 (Int32.ofNat 0)))), (a200, Ob Z "com/example/rankwise/rankwise/engine/KeptItems" NSI [.ref ia202, .ref ka202, .ref ea202, .ref la202, .int 1, .ref fb217, .ref gb217]), (ia202, Ra Z "com/example/rankwise/rankwise/engine/Ranked" (lst 16 (fup (fun _ => Value.null) 0 (Value.ref a203)))), (ka202, Ia Z (lst 16 (fup (fun _ => 0) 0 (Int32.ofNat q0)))), (ea202, Ia Z (lst 16 (fup (fun _ => 0) 0 ((fun _ => -1) q0)))), (la202, Ia Z (lst 16 (adT (fun _ => -1) (fun _ => 0) q0 0))), (a203, Ob Z "com/example/rankwise/rankwise/engine/Ranked" NSR [.ref a205, .double FP.dconst0]), (a205, Ia Z [])] := H221.pull 6 rfl
        have H223 : Hp n0 h217 [(la202, Ia Z (lst 16 (adT (fun _ => -1) (fun _ => 0) q0 0))), (fb217, Ia Z (lst L217 (adF (fun _ => -1) (fun _ => -1) q0 0))), (gb217, Ia Z (lst L217 (fup (fun _ => -1) q0 (Int32.ofNat 0)))), (a200, Ob Z "com/example/rankwise/rankwise/engine/KeptItems" NSI [.ref ia202, .ref ka202, .ref ea202, .ref la202, .int 1, .ref fb217, .ref gb217]), (ia202, Ra Z "com/example/rankwise/rankwise/engine/Ranked" (lst 16 (fup (fun _ => Value.null) 0 (Value.ref a203)))), (ka202, Ia Z (lst 16 (fup (fun _ => 0) 0 (Int32.ofNat q0)))), (ea202, Ia Z (lst 16 (fup (fun _ => 0) 0 ((fun _ => -1) q0)))), (a203, Ob Z "com/example/rankwise/rankwise/engine/Ranked" NSR [.ref a205, .double FP.dconst0]), (a205, Ia Z [])] := H222.pull 6 rfl
        have H224 : Hp n0 h217 [(ea202, Ia Z (lst 16 (fup (fun _ => 0) 0 ((fun _ => -1) q0)))), (la202, Ia Z (lst 16 (adT (fun _ => -1) (fun _ => 0) q0 0))), (fb217, Ia Z (lst L217 (adF (fun _ => -1) (fun _ => -1) q0 0))), (gb217, Ia Z (lst L217 (fup (fun _ => -1) q0 (Int32.ofNat 0)))), (a200, Ob Z "com/example/rankwise/rankwise/engine/KeptItems" NSI [.ref ia202, .ref ka202, .ref ea202, .ref la202, .int 1, .ref fb217, .ref gb217]), (ia202, Ra Z "com/example/rankwise/rankwise/engine/Ranked" (lst 16 (fup (fun _ => Value.null) 0 (Value.ref a203)))), (ka202, Ia Z (lst 16 (fup (fun _ => 0) 0 (Int32.ofNat q0)))), (a203, Ob Z "com/example/rankwise/rankwise/engine/Ranked" NSR [.ref a205, .double FP.dconst0]), (a205, Ia Z [])] := H223.pull 6 rfl
        have H225 : Hp n0 h217 [(ka202, Ia Z (lst 16 (fup (fun _ => 0) 0 (Int32.ofNat q0)))), (ea202, Ia Z (lst 16 (fup (fun _ => 0) 0 ((fun _ => -1) q0)))), (la202, Ia Z (lst 16 (adT (fun _ => -1) (fun _ => 0) q0 0))), (fb217, Ia Z (lst L217 (adF (fun _ => -1) (fun _ => -1) q0 0))), (gb217, Ia Z (lst L217 (fup (fun _ => -1) q0 (Int32.ofNat 0)))), (a200, Ob Z "com/example/rankwise/rankwise/engine/KeptItems" NSI [.ref ia202, .ref ka202, .ref ea202, .ref la202, .int 1, .ref fb217, .ref gb217]), (ia202, Ra Z "com/example/rankwise/rankwise/engine/Ranked" (lst 16 (fup (fun _ => Value.null) 0 (Value.ref a203)))), (a203, Ob Z "com/example/rankwise/rankwise/engine/Ranked" NSR [.ref a205, .double FP.dconst0]), (a205, Ia Z [])] := H224.pull 6 rfl
        have H226 : Hp n0 h217 [(ia202, Ra Z "com/example/rankwise/rankwise/engine/Ranked" (lst 16 (fup (fun _ => Value.null) 0 (Value.ref a203)))), (ka202, Ia Z (lst 16 (fup (fun _ => 0) 0 (Int32.ofNat q0)))), (ea202, Ia Z (lst 16 (fup (fun _ => 0) 0 ((fun _ => -1) q0)))), (la202, Ia Z (lst 16 (adT (fun _ => -1) (fun _ => 0) q0 0))), (fb217, Ia Z (lst L217 (adF (fun _ => -1) (fun _ => -1) q0 0))), (gb217, Ia Z (lst L217 (fup (fun _ => -1) q0 (Int32.ofNat 0)))), (a200, Ob Z "com/example/rankwise/rankwise/engine/KeptItems" NSI [.ref ia202, .ref ka202, .ref ea202, .ref la202, .int 1, .ref fb217, .ref gb217]), (a203, Ob Z "com/example/rankwise/rankwise/engine/Ranked" NSR [.ref a205, .double FP.dconst0]), (a205, Ia Z [])] := H225.pull 6 rfl
        have H227 : Hp n0 h217 [(a200, Ob Z "com/example/rankwise/rankwise/engine/KeptItems" NSI [.ref ia202, .ref ka202, .ref ea202, .ref la202, .int 1, .ref fb217, .ref gb217]), (ia202, Ra Z "com/example/rankwise/rankwise/engine/Ranked" (lst 16 (fup (fun _ => Value.null) 0 (Value.ref a203)))), (ka202, Ia Z (lst 16 (fup (fun _ => 0) 0 (Int32.ofNat q0)))), (ea202, Ia Z (lst 16 (fup (fun _ => 0) 0 ((fun _ => -1) q0)))), (la202, Ia Z (lst 16 (adT (fun _ => -1) (fun _ => 0) q0 0))), (fb217, Ia Z (lst L217 (adF (fun _ => -1) (fun _ => -1) q0 0))), (gb217, Ia Z (lst L217 (fup (fun _ => -1) q0 (Int32.ofNat 0)))), (a203, Ob Z "com/example/rankwise/rankwise/engine/Ranked" NSR [.ref a205, .double FP.dconst0]), (a205, Ia Z [])] := H226.pull 6 rfl
        refine G.callV K hl (wd hw 70 rfl) (wd hw 71 rfl) (wd hw 73 rfl) (wd hw 72 rfl) (wd hw 2 rfl) (wd hw 74 rfl) (by decide) pd_4 (H227.exa (i := 0) rfl) (ct_drop l Z a0 hw n0 h217 a200 ia202 ka202 ea202 la202 fb217 gb217 0 L217 q0 ((fun _ => -1) q0) (fup (fun _ => Value.null) 0 (Value.ref a203)) (fup (fun _ => 0) 0 (Int32.ofNat q0)) (fup (fun _ => 0) 0 ((fun _ => -1) q0)) (adT (fun _ => -1) (fun _ => 0) q0 0) (adF (fun _ => -1) (fun _ => -1) q0 0) (fup (fun _ => -1) q0 (Int32.ofNat 0)) [(a203, Ob Z "com/example/rankwise/rankwise/engine/Ranked" NSR [.ref a205, .double FP.dconst0]), (a205, Ia Z [])] (by decide) l3217 l2217 rfl rfl (Ix_le (s := 0) ((fun _ => (Or.inl rfl : Ix 0 (-1))) q0) (by decide)) H227) 0 rfl (by decide) (by decide) (by decide) (by decide) rfl rfl [] rfl Dx_138 ?_
        rintro _ h228 ⟨rfl, H228⟩
        have hF228 : ∀ i, L217 ≤ i → (drF ((fun _ => -1) q0) (adF (fun _ => -1) (fun _ => -1) q0 0) q0) i = -1 := drF_out hF217 l2217
        have hO228 : ∀ i, L217 ≤ i → (fup (fup (fun _ => -1) q0 (Int32.ofNat 0)) q0 ((fun _ => -1) q0)) i = -1 := fup_out hO217 (Nat.le_refl _) l2217
        have hI228 : ∀ i, Ix 0 ((fup (fup (fun _ => -1) q0 (Int32.ofNat 0)) q0 ((fun _ => -1) q0)) i) := Ix_back (fun _ => (Or.inl rfl : Ix 0 (-1)))
        change G k n0 _ h228 _ _ 141 [.val (.int p0), .val (.int p1), .val (.int p2), .val (.int p3), .val (.int 1), .val (.int (Int32.ofNat q0)), .val (.int (Int32.ofNat q1)), .val (.int (Int32.ofNat q2)), .val (.int 1), .val (.int (Int32.ofNat qq)), .val (.ref a200), .val (.ref a203), .unset, .unset] []
        refine G.iload K Dx_141 rfl ?_
        refine G.if_eq K Dx_143 (fun q => absurd q (by decide)) (fun _ => ?_)
        refine G.iload K Dx_146 rfl ?_
        refine G.iconst K Dx_148 1 rfl ?_
        refine G.isub K Dx_149 ?_
        change G k n0 _ h228 _ _ 150 [.val (.int p0), .val (.int p1), .val (.int p2), .val (.int p3), .val (.int 1), .val (.int (Int32.ofNat q0)), .val (.int (Int32.ofNat q1)), .val (.int (Int32.ofNat q2)), .val (.int 1), .val (.int (Int32.ofNat qq)), .val (.ref a200), .val (.ref a203), .unset, .unset] [.int 0]
        refine G.goto K Dx_150 ?_
        refine G.istore K Dx_155 ([.val (.int p0), .val (.int p1), .val (.int p2), .val (.int p3), .val (.int 1), .val (.int (Int32.ofNat q0)), .val (.int (Int32.ofNat q1)), .val (.int (Int32.ofNat q2)), .val (.int 1), .val (.int (Int32.ofNat qq)), .val (.ref a200), .val (.ref a203), .val (.int 0), .unset]) rfl ?_
        refine G.iconst K Dx_157 (-1) rfl ?_
        refine G.istore K Dx_158 ([.val (.int p0), .val (.int p1), .val (.int p2), .val (.int p3), .val (.int 1), .val (.int (Int32.ofNat q0)), .val (.int (Int32.ofNat q1)), .val (.int (Int32.ofNat q2)), .val (.int 1), .val (.int (Int32.ofNat qq)), .val (.ref a200), .val (.ref a203), .val (.int 0), .val (.int (-1))]) rfl ?_
        refine G.iload K Dx_160 rfl ?_
        refine G.iconst K Dx_162 2 rfl ?_
        refine G.icmp_le K Dx_163 (fun _ => ?_) (fun q => absurd q (by decide))
        refine G.iload K Dx_176 rfl ?_
        refine G.iconst K Dx_178 1 rfl ?_
        refine G.icmp_le K Dx_179 (fun _ => ?_) (fun q => absurd q (by decide))
        refine G.iload K Dx_192 rfl ?_
        refine G.if_le K Dx_194 (fun _ => ?_) (fun q => absurd q (by decide))
        refine G.aload K Dx_207 rfl rfl ?_
        refine G.iload K Dx_209 rfl ?_
        have H233 : Hp n0 h228 [(gb217, Ia Z (lst L217 (fup (fup (fun _ => -1) q0 (Int32.ofNat 0)) q0 ((fun _ => -1) q0)))), (a200, Ob Z "com/example/rankwise/rankwise/engine/KeptItems" NSI [.ref ia202, .ref ka202, .ref ea202, .ref la202, .int 0, .ref fb217, .ref gb217]), (ia202, Ra Z "com/example/rankwise/rankwise/engine/Ranked" (lst 16 (fup (fup (fun _ => Value.null) 0 (Value.ref a203)) 0 Value.null))), (ka202, Ia Z (lst 16 (fup (fun _ => 0) 0 (Int32.ofNat q0)))), (ea202, Ia Z (lst 16 (fup (fun _ => 0) 0 ((fun _ => -1) q0)))), (la202, Ia Z (lst 16 (drT ((fun _ => -1) q0) (adT (fun _ => -1) (fun _ => 0) q0 0)))), (fb217, Ia Z (lst L217 (drF ((fun _ => -1) q0) (adF (fun _ => -1) (fun _ => -1) q0 0) q0))), (a203, Ob Z "com/example/rankwise/rankwise/engine/Ranked" NSR [.ref a205, .double FP.dconst0]), (a205, Ia Z [])] := H228.pull 6 rfl
        have H234 : Hp n0 h228 [(fb217, Ia Z (lst L217 (drF ((fun _ => -1) q0) (adF (fun _ => -1) (fun _ => -1) q0 0) q0))), (gb217, Ia Z (lst L217 (fup (fup (fun _ => -1) q0 (Int32.ofNat 0)) q0 ((fun _ => -1) q0)))), (a200, Ob Z "com/example/rankwise/rankwise/engine/KeptItems" NSI [.ref ia202, .ref ka202, .ref ea202, .ref la202, .int 0, .ref fb217, .ref gb217]), (ia202, Ra Z "com/example/rankwise/rankwise/engine/Ranked" (lst 16 (fup (fup (fun _ => Value.null) 0 (Value.ref a203)) 0 Value.null))), (ka202, Ia Z (lst 16 (fup (fun _ => 0) 0 (Int32.ofNat q0)))), (ea202, Ia Z (lst 16 (fup (fun _ => 0) 0 ((fun _ => -1) q0)))), (la202, Ia Z (lst 16 (drT ((fun _ => -1) q0) (adT (fun _ => -1) (fun _ => 0) q0 0)))), (a203, Ob Z "com/example/rankwise/rankwise/engine/Ranked" NSR [.ref a205, .double FP.dconst0]), (a205, Ia Z [])] := H233.pull 6 rfl
        have H235 : Hp n0 h228 [(la202, Ia Z (lst 16 (drT ((fun _ => -1) q0) (adT (fun _ => -1) (fun _ => 0) q0 0)))), (fb217, Ia Z (lst L217 (drF ((fun _ => -1) q0) (adF (fun _ => -1) (fun _ => -1) q0 0) q0))), (gb217, Ia Z (lst L217 (fup (fup (fun _ => -1) q0 (Int32.ofNat 0)) q0 ((fun _ => -1) q0)))), (a200, Ob Z "com/example/rankwise/rankwise/engine/KeptItems" NSI [.ref ia202, .ref ka202, .ref ea202, .ref la202, .int 0, .ref fb217, .ref gb217]), (ia202, Ra Z "com/example/rankwise/rankwise/engine/Ranked" (lst 16 (fup (fup (fun _ => Value.null) 0 (Value.ref a203)) 0 Value.null))), (ka202, Ia Z (lst 16 (fup (fun _ => 0) 0 (Int32.ofNat q0)))), (ea202, Ia Z (lst 16 (fup (fun _ => 0) 0 ((fun _ => -1) q0)))), (a203, Ob Z "com/example/rankwise/rankwise/engine/Ranked" NSR [.ref a205, .double FP.dconst0]), (a205, Ia Z [])] := H234.pull 6 rfl
        have H236 : Hp n0 h228 [(ea202, Ia Z (lst 16 (fup (fun _ => 0) 0 ((fun _ => -1) q0)))), (la202, Ia Z (lst 16 (drT ((fun _ => -1) q0) (adT (fun _ => -1) (fun _ => 0) q0 0)))), (fb217, Ia Z (lst L217 (drF ((fun _ => -1) q0) (adF (fun _ => -1) (fun _ => -1) q0 0) q0))), (gb217, Ia Z (lst L217 (fup (fup (fun _ => -1) q0 (Int32.ofNat 0)) q0 ((fun _ => -1) q0)))), (a200, Ob Z "com/example/rankwise/rankwise/engine/KeptItems" NSI [.ref ia202, .ref ka202, .ref ea202, .ref la202, .int 0, .ref fb217, .ref gb217]), (ia202, Ra Z "com/example/rankwise/rankwise/engine/Ranked" (lst 16 (fup (fup (fun _ => Value.null) 0 (Value.ref a203)) 0 Value.null))), (ka202, Ia Z (lst 16 (fup (fun _ => 0) 0 (Int32.ofNat q0)))), (a203, Ob Z "com/example/rankwise/rankwise/engine/Ranked" NSR [.ref a205, .double FP.dconst0]), (a205, Ia Z [])] := H235.pull 6 rfl
        have H237 : Hp n0 h228 [(ka202, Ia Z (lst 16 (fup (fun _ => 0) 0 (Int32.ofNat q0)))), (ea202, Ia Z (lst 16 (fup (fun _ => 0) 0 ((fun _ => -1) q0)))), (la202, Ia Z (lst 16 (drT ((fun _ => -1) q0) (adT (fun _ => -1) (fun _ => 0) q0 0)))), (fb217, Ia Z (lst L217 (drF ((fun _ => -1) q0) (adF (fun _ => -1) (fun _ => -1) q0 0) q0))), (gb217, Ia Z (lst L217 (fup (fup (fun _ => -1) q0 (Int32.ofNat 0)) q0 ((fun _ => -1) q0)))), (a200, Ob Z "com/example/rankwise/rankwise/engine/KeptItems" NSI [.ref ia202, .ref ka202, .ref ea202, .ref la202, .int 0, .ref fb217, .ref gb217]), (ia202, Ra Z "com/example/rankwise/rankwise/engine/Ranked" (lst 16 (fup (fup (fun _ => Value.null) 0 (Value.ref a203)) 0 Value.null))), (a203, Ob Z "com/example/rankwise/rankwise/engine/Ranked" NSR [.ref a205, .double FP.dconst0]), (a205, Ia Z [])] := H236.pull 6 rfl
        have H238 : Hp n0 h228 [(ia202, Ra Z "com/example/rankwise/rankwise/engine/Ranked" (lst 16 (fup (fup (fun _ => Value.null) 0 (Value.ref a203)) 0 Value.null))), (ka202, Ia Z (lst 16 (fup (fun _ => 0) 0 (Int32.ofNat q0)))), (ea202, Ia Z (lst 16 (fup (fun _ => 0) 0 ((fun _ => -1) q0)))), (la202, Ia Z (lst 16 (drT ((fun _ => -1) q0) (adT (fun _ => -1) (fun _ => 0) q0 0)))), (fb217, Ia Z (lst L217 (drF ((fun _ => -1) q0) (adF (fun _ => -1) (fun _ => -1) q0 0) q0))), (gb217, Ia Z (lst L217 (fup (fup (fun _ => -1) q0 (Int32.ofNat 0)) q0 ((fun _ => -1) q0)))), (a200, Ob Z "com/example/rankwise/rankwise/engine/KeptItems" NSI [.ref ia202, .ref ka202, .ref ea202, .ref la202, .int 0, .ref fb217, .ref gb217]), (a203, Ob Z "com/example/rankwise/rankwise/engine/Ranked" NSR [.ref a205, .double FP.dconst0]), (a205, Ia Z [])] := H237.pull 6 rfl
        have H239 : Hp n0 h228 [(a200, Ob Z "com/example/rankwise/rankwise/engine/KeptItems" NSI [.ref ia202, .ref ka202, .ref ea202, .ref la202, .int 0, .ref fb217, .ref gb217]), (ia202, Ra Z "com/example/rankwise/rankwise/engine/Ranked" (lst 16 (fup (fup (fun _ => Value.null) 0 (Value.ref a203)) 0 Value.null))), (ka202, Ia Z (lst 16 (fup (fun _ => 0) 0 (Int32.ofNat q0)))), (ea202, Ia Z (lst 16 (fup (fun _ => 0) 0 ((fun _ => -1) q0)))), (la202, Ia Z (lst 16 (drT ((fun _ => -1) q0) (adT (fun _ => -1) (fun _ => 0) q0 0)))), (fb217, Ia Z (lst L217 (drF ((fun _ => -1) q0) (adF (fun _ => -1) (fun _ => -1) q0 0) q0))), (gb217, Ia Z (lst L217 (fup (fup (fun _ => -1) q0 (Int32.ofNat 0)) q0 ((fun _ => -1) q0)))), (a203, Ob Z "com/example/rankwise/rankwise/engine/Ranked" NSR [.ref a205, .double FP.dconst0]), (a205, Ia Z [])] := H238.pull 6 rfl
        refine G.callV K hl (wd hw 35 rfl) (wd hw 36 rfl) (wd hw 38 rfl) (wd hw 37 rfl) (wd hw 2 rfl) (wd hw 39 rfl) (by decide) pd_6 (H239.exa (i := 0) rfl) (ct_first l Z a0 hw n0 h228 a200 ia202 ka202 ea202 la202 fb217 gb217 0 L217 qq (fup (fup (fun _ => Value.null) 0 (Value.ref a203)) 0 Value.null) (fup (fun _ => 0) 0 (Int32.ofNat q0)) (fup (fun _ => 0) 0 ((fun _ => -1) q0)) (drT ((fun _ => -1) q0) (adT (fun _ => -1) (fun _ => 0) q0 0)) (drF ((fun _ => -1) q0) (adF (fun _ => -1) (fun _ => -1) q0 0) q0) (fup (fup (fun _ => -1) q0 (Int32.ofNat 0)) q0 ((fun _ => -1) q0)) [(a203, Ob Z "com/example/rankwise/rankwise/engine/Ranked" NSR [.ref a205, .double FP.dconst0]), (a205, Ia Z [])] (by have := l3217; omega) (by omega) hF228 H239) 0 rfl (by decide) (by decide) (by decide) (by decide) rfl rfl [.int (Int32.ofNat qq)] rfl Dx_211 ?_
        rintro _ h240 ⟨rfl, H240⟩
        change G k n0 _ h240 _ _ 214 [.val (.int p0), .val (.int p1), .val (.int p2), .val (.int p3), .val (.int 1), .val (.int (Int32.ofNat q0)), .val (.int (Int32.ofNat q1)), .val (.int (Int32.ofNat q2)), .val (.int 1), .val (.int (Int32.ofNat qq)), .val (.ref a200), .val (.ref a203), .val (.int 0), .val (.int (-1))] [.int ((drF ((fun _ => -1) q0) (adF (fun _ => -1) (fun _ => -1) q0 0) q0) qq)]
        refine G.iload K Dx_214 rfl ?_
        have hf := fst_1_1 q0 q1 q2 qq
        refine G.icmp_ne K Dx_216 (fun q => absurd hf q) (fun q241 => ?_)
        refine G.iconst K Dx_219 1 rfl ?_
        refine G.goto K Dx_220 ?_
        refine G.ret_bool K Dx_224 ?_
        exact rfl
      refine G.iloadN K Dx_46 rfl ?_
      refine G.iconst K Dx_47 1 rfl ?_
      refine G.iand K Dx_48 ?_
      refine G.if_eq K Dx_49 (fun q242 => ?_) (fun q242 => ?_)
      · refine G.iloadN K Dx_59 rfl ?_
        refine G.ldcI K Dx_60 (wd hw 40 rfl) ?_
        refine G.iand K Dx_62 ?_
        obtain ⟨u, hu, eu⟩ := own_msk p2
        rw [eu]
        exact T63 u hu
      · refine G.iloadN K Dx_52 rfl ?_
        refine G.bipush K Dx_53 15 rfl ?_
        refine G.iand K Dx_55 ?_
        refine G.goto K Dx_56 ?_
        obtain ⟨u, hu, eu⟩ := own_and_lt p2 15 (by decide)
        rw [show p2 &&& 15 = Int32.ofNat u from eu]
        exact T63 u (by omega)
  · change G k n0 _ h _ _ 3 [.val (.int p0), .val (.int p1), .val (.int p2), .val (.int p3), .unset, .unset, .unset, .unset, .unset, .unset, .unset, .unset, .unset, .unset] [.int 2]
    refine G.istore K Dx_3 ([.val (.int p0), .val (.int p1), .val (.int p2), .val (.int p3), .val (.int 2), .unset, .unset, .unset, .unset, .unset, .unset, .unset, .unset, .unset]) rfl ?_
    refine G.iloadN K Dx_5 rfl ?_
    refine G.bipush K Dx_6 7 rfl ?_
    refine G.iand K Dx_8 ?_
    obtain ⟨q0, hq0, eq0⟩ := own_and_lt p1 7 (by decide)
    rw [show p1 &&& 7 = Int32.ofNat q0 from eq0]
    refine G.istore K Dx_9 ([.val (.int p0), .val (.int p1), .val (.int p2), .val (.int p3), .val (.int 2), .val (.int (Int32.ofNat q0)), .unset, .unset, .unset, .unset, .unset, .unset, .unset, .unset]) rfl ?_
    refine G.iloadN K Dx_11 rfl ?_
    refine G.iconst K Dx_12 3 rfl ?_
    refine G.iushr K Dx_13 ?_
    refine G.bipush K Dx_14 7 rfl ?_
    refine G.iand K Dx_16 ?_
    obtain ⟨q1, hq1, eq1⟩ := own_and_lt (XT.ushr p1 3) 7 (by decide)
    rw [show XT.ushr p1 3 &&& 7 = Int32.ofNat q1 from eq1]
    refine G.istore K Dx_17 ([.val (.int p0), .val (.int p1), .val (.int p2), .val (.int p3), .val (.int 2), .val (.int (Int32.ofNat q0)), .val (.int (Int32.ofNat q1)), .unset, .unset, .unset, .unset, .unset, .unset, .unset]) rfl ?_
    refine G.iloadN K Dx_19 rfl ?_
    refine G.bipush K Dx_20 6 rfl ?_
    refine G.iushr K Dx_22 ?_
    refine G.bipush K Dx_23 7 rfl ?_
    refine G.iand K Dx_25 ?_
    obtain ⟨q2, hq2, eq2⟩ := own_and_lt (XT.ushr p1 6) 7 (by decide)
    rw [show XT.ushr p1 6 &&& 7 = Int32.ofNat q2 from eq2]
    refine G.istore K Dx_26 ([.val (.int p0), .val (.int p1), .val (.int p2), .val (.int p3), .val (.int 2), .val (.int (Int32.ofNat q0)), .val (.int (Int32.ofNat q1)), .val (.int (Int32.ofNat q2)), .unset, .unset, .unset, .unset, .unset, .unset]) rfl ?_
    refine G.iloadN K Dx_28 rfl ?_
    refine G.iconst K Dx_29 2 rfl ?_
    refine G.iand K Dx_30 ?_
    refine G.if_eq K Dx_31 (fun q243 => ?_) (fun q243 => ?_)
    · refine G.iconst K Dx_43 0 rfl ?_
      refine G.istore K Dx_44 ([.val (.int p0), .val (.int p1), .val (.int p2), .val (.int p3), .val (.int 2), .val (.int (Int32.ofNat q0)), .val (.int (Int32.ofNat q1)), .val (.int (Int32.ofNat q2)), .val (.int 0), .unset, .unset, .unset, .unset, .unset]) rfl ?_
      have T63 : ∀ qq : Nat, qq < 2147483648 → G k n0 (fun v h' => v = some (.int 1)) h 0 0 63 [.val (.int p0), .val (.int p1), .val (.int p2), .val (.int p3), .val (.int 2), .val (.int (Int32.ofNat q0)), .val (.int (Int32.ofNat q1)), .val (.int (Int32.ofNat q2)), .val (.int 0), .unset, .unset, .unset, .unset, .unset] [.int (Int32.ofNat qq)] := by
        intro qq hqq
        refine G.istore K Dx_63 ([.val (.int p0), .val (.int p1), .val (.int p2), .val (.int p3), .val (.int 2), .val (.int (Int32.ofNat q0)), .val (.int (Int32.ofNat q1)), .val (.int (Int32.ofNat q2)), .val (.int 0), .val (.int (Int32.ofNat qq)), .unset, .unset, .unset, .unset]) rfl ?_
        refine G.new K (wd hw 0 rfl) (wd hw 1 rfl) (wd hw 2 rfl) (cf_NSI hw) (vs := [.null, .null, .null, .null, .int 0, .null, .null]) (by rfl) (Hp.nil (n0 := n0) (h := h)) (by decide) (by decide) Dx_65 ?_
        intro a244 h245 H245
        change Hp n0 h245 [(a244, Ob Z "com/example/rankwise/rankwise/engine/KeptItems" NSI [.null, .null, .null, .null, .int 0, .null, .null])] at H245
        refine G.dup K Dx_68 rfl ?_
        refine G.callI K hl rfl (wd hw 3 rfl) (wd hw 4 rfl) (wd hw 2 rfl) (wd hw 5 rfl) (by decide) pd_4 (ct_new l Z a0 hw n0 h245 a244 [] H245) 1 rfl (by decide) (by decide) (by decide) (by decide) rfl rfl [] rfl Dx_69 ?_
        rintro _ h246 ⟨rfl, ia246, ka246, ea246, la246, fa246, ga246, H246⟩
        change G k n0 _ h246 _ _ 72 [.val (.int p0), .val (.int p1), .val (.int p2), .val (.int p3), .val (.int 2), .val (.int (Int32.ofNat q0)), .val (.int (Int32.ofNat q1)), .val (.int (Int32.ofNat q2)), .val (.int 0), .val (.int (Int32.ofNat qq)), .unset, .unset, .unset, .unset] [.ref a244]
        refine G.astore K Dx_72 rfl ([.val (.int p0), .val (.int p1), .val (.int p2), .val (.int p3), .val (.int 2), .val (.int (Int32.ofNat q0)), .val (.int (Int32.ofNat q1)), .val (.int (Int32.ofNat q2)), .val (.int 0), .val (.int (Int32.ofNat qq)), .val (.ref a244), .unset, .unset, .unset]) rfl ?_
        refine G.new K (wd hw 24 rfl) (wd hw 25 rfl) (wd hw 26 rfl) (cf_NSR hw) (vs := [.null, .double 0]) (by rfl) H246 (by decide) (by decide) Dx_74 ?_
        intro a247 h248 H248
        change Hp n0 h248 [(a247, Ob Z "com/example/rankwise/rankwise/engine/Ranked" NSR [.null, .double 0]), (a244, Ob Z "com/example/rankwise/rankwise/engine/KeptItems" NSI [.ref ia246, .ref ka246, .ref ea246, .ref la246, .int 0, .ref fa246, .ref ga246]), (ia246, Ra Z "com/example/rankwise/rankwise/engine/Ranked" (lst 16 (fun _ => Value.null))), (ka246, Ia Z (lst 16 (fun _ => 0))), (ea246, Ia Z (lst 16 (fun _ => 0))), (la246, Ia Z (lst 16 (fun _ => 0))), (fa246, Ia Z (lst 0 (fun _ => -1))), (ga246, Ia Z (lst 0 (fun _ => -1)))] at H248
        refine G.dup K Dx_77 rfl ?_
        refine G.iconst K Dx_78 0 rfl ?_
        refine G.newarr_i K (wd hw 13 rfl) H248 (by decide) 0 (by decide) (by decide) (by decide) (by decide) Dx_79 ?_
        intro a249 h250 H250
        change Hp n0 h250 [(a249, Ia Z []), (a247, Ob Z "com/example/rankwise/rankwise/engine/Ranked" NSR [.null, .double 0]), (a244, Ob Z "com/example/rankwise/rankwise/engine/KeptItems" NSI [.ref ia246, .ref ka246, .ref ea246, .ref la246, .int 0, .ref fa246, .ref ga246]), (ia246, Ra Z "com/example/rankwise/rankwise/engine/Ranked" (lst 16 (fun _ => Value.null))), (ka246, Ia Z (lst 16 (fun _ => 0))), (ea246, Ia Z (lst 16 (fun _ => 0))), (la246, Ia Z (lst 16 (fun _ => 0))), (fa246, Ia Z (lst 0 (fun _ => -1))), (ga246, Ia Z (lst 0 (fun _ => -1)))] at H250
        refine G.dconst0 K Dx_81 ?_
        have H251 : Hp n0 h250 [(a247, Ob Z "com/example/rankwise/rankwise/engine/Ranked" NSR [.null, .double 0]), (a249, Ia Z []), (a244, Ob Z "com/example/rankwise/rankwise/engine/KeptItems" NSI [.ref ia246, .ref ka246, .ref ea246, .ref la246, .int 0, .ref fa246, .ref ga246]), (ia246, Ra Z "com/example/rankwise/rankwise/engine/Ranked" (lst 16 (fun _ => Value.null))), (ka246, Ia Z (lst 16 (fun _ => 0))), (ea246, Ia Z (lst 16 (fun _ => 0))), (la246, Ia Z (lst 16 (fun _ => 0))), (fa246, Ia Z (lst 0 (fun _ => -1))), (ga246, Ia Z (lst 0 (fun _ => -1)))] := H250.pull 1 rfl
        refine G.callI K hl rfl (wd hw 27 rfl) (wd hw 28 rfl) (wd hw 26 rfl) (wd hw 29 rfl) (by decide) pd_5 (ct_ranked l Z a0 hw n0 h250 a247 a249 FP.dconst0 [(a249, Ia Z []), (a244, Ob Z "com/example/rankwise/rankwise/engine/KeptItems" NSI [.ref ia246, .ref ka246, .ref ea246, .ref la246, .int 0, .ref fa246, .ref ga246]), (ia246, Ra Z "com/example/rankwise/rankwise/engine/Ranked" (lst 16 (fun _ => Value.null))), (ka246, Ia Z (lst 16 (fun _ => 0))), (ea246, Ia Z (lst 16 (fun _ => 0))), (la246, Ia Z (lst 16 (fun _ => 0))), (fa246, Ia Z (lst 0 (fun _ => -1))), (ga246, Ia Z (lst 0 (fun _ => -1)))] H251) 1 rfl (by decide) (by decide) (by decide) (by decide) rfl rfl [.double FP.dconst0, .ref a249] rfl Dx_82 ?_
        rintro _ h252 ⟨rfl, H252⟩
        change G k n0 _ h252 _ _ 85 [.val (.int p0), .val (.int p1), .val (.int p2), .val (.int p3), .val (.int 2), .val (.int (Int32.ofNat q0)), .val (.int (Int32.ofNat q1)), .val (.int (Int32.ofNat q2)), .val (.int 0), .val (.int (Int32.ofNat qq)), .val (.ref a244), .unset, .unset, .unset] [.ref a247]
        refine G.astore K Dx_85 rfl ([.val (.int p0), .val (.int p1), .val (.int p2), .val (.int p3), .val (.int 2), .val (.int (Int32.ofNat q0)), .val (.int (Int32.ofNat q1)), .val (.int (Int32.ofNat q2)), .val (.int 0), .val (.int (Int32.ofNat qq)), .val (.ref a244), .val (.ref a247), .unset, .unset]) rfl ?_
        refine G.iload K Dx_87 rfl ?_
        refine G.if_le K Dx_89 (fun q => absurd q (by decide)) (fun _ => ?_)
        refine G.aload K Dx_92 rfl rfl ?_
        refine G.iload K Dx_94 rfl ?_
        refine G.aload K Dx_96 rfl rfl ?_
        have H254 : Hp n0 h252 [(ga246, Ia Z (lst 0 (fun _ => -1))), (a247, Ob Z "com/example/rankwise/rankwise/engine/Ranked" NSR [.ref a249, .double FP.dconst0]), (a249, Ia Z []), (a244, Ob Z "com/example/rankwise/rankwise/engine/KeptItems" NSI [.ref ia246, .ref ka246, .ref ea246, .ref la246, .int 0, .ref fa246, .ref ga246]), (ia246, Ra Z "com/example/rankwise/rankwise/engine/Ranked" (lst 16 (fun _ => Value.null))), (ka246, Ia Z (lst 16 (fun _ => 0))), (ea246, Ia Z (lst 16 (fun _ => 0))), (la246, Ia Z (lst 16 (fun _ => 0))), (fa246, Ia Z (lst 0 (fun _ => -1)))] := H252.pull 8 rfl
        have H255 : Hp n0 h252 [(fa246, Ia Z (lst 0 (fun _ => -1))), (ga246, Ia Z (lst 0 (fun _ => -1))), (a247, Ob Z "com/example/rankwise/rankwise/engine/Ranked" NSR [.ref a249, .double FP.dconst0]), (a249, Ia Z []), (a244, Ob Z "com/example/rankwise/rankwise/engine/KeptItems" NSI [.ref ia246, .ref ka246, .ref ea246, .ref la246, .int 0, .ref fa246, .ref ga246]), (ia246, Ra Z "com/example/rankwise/rankwise/engine/Ranked" (lst 16 (fun _ => Value.null))), (ka246, Ia Z (lst 16 (fun _ => 0))), (ea246, Ia Z (lst 16 (fun _ => 0))), (la246, Ia Z (lst 16 (fun _ => 0)))] := H254.pull 8 rfl
        have H256 : Hp n0 h252 [(la246, Ia Z (lst 16 (fun _ => 0))), (fa246, Ia Z (lst 0 (fun _ => -1))), (ga246, Ia Z (lst 0 (fun _ => -1))), (a247, Ob Z "com/example/rankwise/rankwise/engine/Ranked" NSR [.ref a249, .double FP.dconst0]), (a249, Ia Z []), (a244, Ob Z "com/example/rankwise/rankwise/engine/KeptItems" NSI [.ref ia246, .ref ka246, .ref ea246, .ref la246, .int 0, .ref fa246, .ref ga246]), (ia246, Ra Z "com/example/rankwise/rankwise/engine/Ranked" (lst 16 (fun _ => Value.null))), (ka246, Ia Z (lst 16 (fun _ => 0))), (ea246, Ia Z (lst 16 (fun _ => 0)))] := H255.pull 8 rfl
        have H257 : Hp n0 h252 [(ea246, Ia Z (lst 16 (fun _ => 0))), (la246, Ia Z (lst 16 (fun _ => 0))), (fa246, Ia Z (lst 0 (fun _ => -1))), (ga246, Ia Z (lst 0 (fun _ => -1))), (a247, Ob Z "com/example/rankwise/rankwise/engine/Ranked" NSR [.ref a249, .double FP.dconst0]), (a249, Ia Z []), (a244, Ob Z "com/example/rankwise/rankwise/engine/KeptItems" NSI [.ref ia246, .ref ka246, .ref ea246, .ref la246, .int 0, .ref fa246, .ref ga246]), (ia246, Ra Z "com/example/rankwise/rankwise/engine/Ranked" (lst 16 (fun _ => Value.null))), (ka246, Ia Z (lst 16 (fun _ => 0)))] := H256.pull 8 rfl
        have H258 : Hp n0 h252 [(ka246, Ia Z (lst 16 (fun _ => 0))), (ea246, Ia Z (lst 16 (fun _ => 0))), (la246, Ia Z (lst 16 (fun _ => 0))), (fa246, Ia Z (lst 0 (fun _ => -1))), (ga246, Ia Z (lst 0 (fun _ => -1))), (a247, Ob Z "com/example/rankwise/rankwise/engine/Ranked" NSR [.ref a249, .double FP.dconst0]), (a249, Ia Z []), (a244, Ob Z "com/example/rankwise/rankwise/engine/KeptItems" NSI [.ref ia246, .ref ka246, .ref ea246, .ref la246, .int 0, .ref fa246, .ref ga246]), (ia246, Ra Z "com/example/rankwise/rankwise/engine/Ranked" (lst 16 (fun _ => Value.null)))] := H257.pull 8 rfl
        have H259 : Hp n0 h252 [(ia246, Ra Z "com/example/rankwise/rankwise/engine/Ranked" (lst 16 (fun _ => Value.null))), (ka246, Ia Z (lst 16 (fun _ => 0))), (ea246, Ia Z (lst 16 (fun _ => 0))), (la246, Ia Z (lst 16 (fun _ => 0))), (fa246, Ia Z (lst 0 (fun _ => -1))), (ga246, Ia Z (lst 0 (fun _ => -1))), (a247, Ob Z "com/example/rankwise/rankwise/engine/Ranked" NSR [.ref a249, .double FP.dconst0]), (a249, Ia Z []), (a244, Ob Z "com/example/rankwise/rankwise/engine/KeptItems" NSI [.ref ia246, .ref ka246, .ref ea246, .ref la246, .int 0, .ref fa246, .ref ga246])] := H258.pull 8 rfl
        have H260 : Hp n0 h252 [(a244, Ob Z "com/example/rankwise/rankwise/engine/KeptItems" NSI [.ref ia246, .ref ka246, .ref ea246, .ref la246, .int 0, .ref fa246, .ref ga246]), (ia246, Ra Z "com/example/rankwise/rankwise/engine/Ranked" (lst 16 (fun _ => Value.null))), (ka246, Ia Z (lst 16 (fun _ => 0))), (ea246, Ia Z (lst 16 (fun _ => 0))), (la246, Ia Z (lst 16 (fun _ => 0))), (fa246, Ia Z (lst 0 (fun _ => -1))), (ga246, Ia Z (lst 0 (fun _ => -1))), (a247, Ob Z "com/example/rankwise/rankwise/engine/Ranked" NSR [.ref a249, .double FP.dconst0]), (a249, Ia Z [])] := H259.pull 8 rfl
        refine G.callV K hl (wd hw 41 rfl) (wd hw 42 rfl) (wd hw 44 rfl) (wd hw 43 rfl) (wd hw 2 rfl) (wd hw 45 rfl) (by decide) pd_7 (H260.exa (i := 0) rfl) (ct_add l Z a0 hw n0 h252 a244 ia246 ka246 ea246 la246 fa246 ga246 a247 0 0 q0 (fun _ => Value.null) (fun _ => 0) (fun _ => 0) (fun _ => 0) (fun _ => -1) (fun _ => -1) [.ref a249, .double FP.dconst0] [(a249, Ia Z [])] (by decide) (by decide) (by omega) (fun _ _ => rfl) (fun _ _ => rfl) (fun _ => (Or.inl rfl : Ix 0 (-1))) H260) 0 rfl (by decide) (by decide) (by decide) (by decide) rfl rfl [.ref a247, .int (Int32.ofNat q0)] rfl Dx_98 ?_
        rintro _ h261 ⟨rfl, fb261, gb261, L261, l1261, l2261, l3261, H261⟩
        have hF261 : ∀ i, L261 ≤ i → (adF (fun _ => -1) (fun _ => -1) q0 0) i = -1 := adF_out (fun _ _ => rfl) l1261 l2261
        have hO261 : ∀ i, L261 ≤ i → (fup (fun _ => -1) q0 (Int32.ofNat 0)) i = -1 := fup_out (fun _ _ => rfl) l1261 l2261
        have hI261 : ∀ i, Ix 1 ((fup (fun _ => -1) q0 (Int32.ofNat 0)) i) := Ix_fup (fun _ => (Or.inl rfl : Ix 0 (-1)))
        change G k n0 _ h261 _ _ 101 [.val (.int p0), .val (.int p1), .val (.int p2), .val (.int p3), .val (.int 2), .val (.int (Int32.ofNat q0)), .val (.int (Int32.ofNat q1)), .val (.int (Int32.ofNat q2)), .val (.int 0), .val (.int (Int32.ofNat qq)), .val (.ref a244), .val (.ref a247), .unset, .unset] []
        refine G.iload K Dx_101 rfl ?_
        refine G.iconst K Dx_103 1 rfl ?_
        refine G.icmp_le K Dx_104 (fun q => absurd q (by decide)) (fun _ => ?_)
        refine G.aload K Dx_107 rfl rfl ?_
        refine G.iload K Dx_109 rfl ?_
        refine G.aload K Dx_111 rfl rfl ?_
        have H263 : Hp n0 h261 [(a247, Ob Z "com/example/rankwise/rankwise/engine/Ranked" NSR [.ref a249, .double FP.dconst0]), (a244, Ob Z "com/example/rankwise/rankwise/engine/KeptItems" NSI [.ref ia246, .ref ka246, .ref ea246, .ref la246, .int 1, .ref fb261, .ref gb261]), (ia246, Ra Z "com/example/rankwise/rankwise/engine/Ranked" (lst 16 (fup (fun _ => Value.null) 0 (Value.ref a247)))), (ka246, Ia Z (lst 16 (fup (fun _ => 0) 0 (Int32.ofNat q0)))), (ea246, Ia Z (lst 16 (fup (fun _ => 0) 0 ((fun _ => -1) q0)))), (la246, Ia Z (lst 16 (adT (fun _ => -1) (fun _ => 0) q0 0))), (fb261, Ia Z (lst L261 (adF (fun _ => -1) (fun _ => -1) q0 0))), (gb261, Ia Z (lst L261 (fup (fun _ => -1) q0 (Int32.ofNat 0)))), (a249, Ia Z [])] := H261.pull 7 rfl
        have H264 : Hp n0 h261 [(gb261, Ia Z (lst L261 (fup (fun _ => -1) q0 (Int32.ofNat 0)))), (a247, Ob Z "com/example/rankwise/rankwise/engine/Ranked" NSR [.ref a249, .double FP.dconst0]), (a244, Ob Z "com/example/rankwise/rankwise/engine/KeptItems" NSI [.ref ia246, .ref ka246, .ref ea246, .ref la246, .int 1, .ref fb261, .ref gb261]), (ia246, Ra Z "com/example/rankwise/rankwise/engine/Ranked" (lst 16 (fup (fun _ => Value.null) 0 (Value.ref a247)))), (ka246, Ia Z (lst 16 (fup (fun _ => 0) 0 (Int32.ofNat q0)))), (ea246, Ia Z (lst 16 (fup (fun _ => 0) 0 ((fun _ => -1) q0)))), (la246, Ia Z (lst 16 (adT (fun _ => -1) (fun _ => 0) q0 0))), (fb261, Ia Z (lst L261 (adF (fun _ => -1) (fun _ => -1) q0 0))), (a249, Ia Z [])] := H263.pull 7 rfl
        have H265 : Hp n0 h261 [(fb261, Ia Z (lst L261 (adF (fun _ => -1) (fun _ => -1) q0 0))), (gb261, Ia Z (lst L261 (fup (fun _ => -1) q0 (Int32.ofNat 0)))), (a247, Ob Z "com/example/rankwise/rankwise/engine/Ranked" NSR [.ref a249, .double FP.dconst0]), (a244, Ob Z "com/example/rankwise/rankwise/engine/KeptItems" NSI [.ref ia246, .ref ka246, .ref ea246, .ref la246, .int 1, .ref fb261, .ref gb261]), (ia246, Ra Z "com/example/rankwise/rankwise/engine/Ranked" (lst 16 (fup (fun _ => Value.null) 0 (Value.ref a247)))), (ka246, Ia Z (lst 16 (fup (fun _ => 0) 0 (Int32.ofNat q0)))), (ea246, Ia Z (lst 16 (fup (fun _ => 0) 0 ((fun _ => -1) q0)))), (la246, Ia Z (lst 16 (adT (fun _ => -1) (fun _ => 0) q0 0))), (a249, Ia Z [])] := H264.pull 7 rfl
        have H266 : Hp n0 h261 [(la246, Ia Z (lst 16 (adT (fun _ => -1) (fun _ => 0) q0 0))), (fb261, Ia Z (lst L261 (adF (fun _ => -1) (fun _ => -1) q0 0))), (gb261, Ia Z (lst L261 (fup (fun _ => -1) q0 (Int32.ofNat 0)))), (a247, Ob Z "com/example/rankwise/rankwise/engine/Ranked" NSR [.ref a249, .double FP.dconst0]), (a244, Ob Z "com/example/rankwise/rankwise/engine/KeptItems" NSI [.ref ia246, .ref ka246, .ref ea246, .ref la246, .int 1, .ref fb261, .ref gb261]), (ia246, Ra Z "com/example/rankwise/rankwise/engine/Ranked" (lst 16 (fup (fun _ => Value.null) 0 (Value.ref a247)))), (ka246, Ia Z (lst 16 (fup (fun _ => 0) 0 (Int32.ofNat q0)))), (ea246, Ia Z (lst 16 (fup (fun _ => 0) 0 ((fun _ => -1) q0)))), (a249, Ia Z [])] := H265.pull 7 rfl
        have H267 : Hp n0 h261 [(ea246, Ia Z (lst 16 (fup (fun _ => 0) 0 ((fun _ => -1) q0)))), (la246, Ia Z (lst 16 (adT (fun _ => -1) (fun _ => 0) q0 0))), (fb261, Ia Z (lst L261 (adF (fun _ => -1) (fun _ => -1) q0 0))), (gb261, Ia Z (lst L261 (fup (fun _ => -1) q0 (Int32.ofNat 0)))), (a247, Ob Z "com/example/rankwise/rankwise/engine/Ranked" NSR [.ref a249, .double FP.dconst0]), (a244, Ob Z "com/example/rankwise/rankwise/engine/KeptItems" NSI [.ref ia246, .ref ka246, .ref ea246, .ref la246, .int 1, .ref fb261, .ref gb261]), (ia246, Ra Z "com/example/rankwise/rankwise/engine/Ranked" (lst 16 (fup (fun _ => Value.null) 0 (Value.ref a247)))), (ka246, Ia Z (lst 16 (fup (fun _ => 0) 0 (Int32.ofNat q0)))), (a249, Ia Z [])] := H266.pull 7 rfl
        have H268 : Hp n0 h261 [(ka246, Ia Z (lst 16 (fup (fun _ => 0) 0 (Int32.ofNat q0)))), (ea246, Ia Z (lst 16 (fup (fun _ => 0) 0 ((fun _ => -1) q0)))), (la246, Ia Z (lst 16 (adT (fun _ => -1) (fun _ => 0) q0 0))), (fb261, Ia Z (lst L261 (adF (fun _ => -1) (fun _ => -1) q0 0))), (gb261, Ia Z (lst L261 (fup (fun _ => -1) q0 (Int32.ofNat 0)))), (a247, Ob Z "com/example/rankwise/rankwise/engine/Ranked" NSR [.ref a249, .double FP.dconst0]), (a244, Ob Z "com/example/rankwise/rankwise/engine/KeptItems" NSI [.ref ia246, .ref ka246, .ref ea246, .ref la246, .int 1, .ref fb261, .ref gb261]), (ia246, Ra Z "com/example/rankwise/rankwise/engine/Ranked" (lst 16 (fup (fun _ => Value.null) 0 (Value.ref a247)))), (a249, Ia Z [])] := H267.pull 7 rfl
        have H269 : Hp n0 h261 [(ia246, Ra Z "com/example/rankwise/rankwise/engine/Ranked" (lst 16 (fup (fun _ => Value.null) 0 (Value.ref a247)))), (ka246, Ia Z (lst 16 (fup (fun _ => 0) 0 (Int32.ofNat q0)))), (ea246, Ia Z (lst 16 (fup (fun _ => 0) 0 ((fun _ => -1) q0)))), (la246, Ia Z (lst 16 (adT (fun _ => -1) (fun _ => 0) q0 0))), (fb261, Ia Z (lst L261 (adF (fun _ => -1) (fun _ => -1) q0 0))), (gb261, Ia Z (lst L261 (fup (fun _ => -1) q0 (Int32.ofNat 0)))), (a247, Ob Z "com/example/rankwise/rankwise/engine/Ranked" NSR [.ref a249, .double FP.dconst0]), (a244, Ob Z "com/example/rankwise/rankwise/engine/KeptItems" NSI [.ref ia246, .ref ka246, .ref ea246, .ref la246, .int 1, .ref fb261, .ref gb261]), (a249, Ia Z [])] := H268.pull 7 rfl
        have H270 : Hp n0 h261 [(a244, Ob Z "com/example/rankwise/rankwise/engine/KeptItems" NSI [.ref ia246, .ref ka246, .ref ea246, .ref la246, .int 1, .ref fb261, .ref gb261]), (ia246, Ra Z "com/example/rankwise/rankwise/engine/Ranked" (lst 16 (fup (fun _ => Value.null) 0 (Value.ref a247)))), (ka246, Ia Z (lst 16 (fup (fun _ => 0) 0 (Int32.ofNat q0)))), (ea246, Ia Z (lst 16 (fup (fun _ => 0) 0 ((fun _ => -1) q0)))), (la246, Ia Z (lst 16 (adT (fun _ => -1) (fun _ => 0) q0 0))), (fb261, Ia Z (lst L261 (adF (fun _ => -1) (fun _ => -1) q0 0))), (gb261, Ia Z (lst L261 (fup (fun _ => -1) q0 (Int32.ofNat 0)))), (a247, Ob Z "com/example/rankwise/rankwise/engine/Ranked" NSR [.ref a249, .double FP.dconst0]), (a249, Ia Z [])] := H269.pull 7 rfl
        refine G.callV K hl (wd hw 41 rfl) (wd hw 42 rfl) (wd hw 44 rfl) (wd hw 43 rfl) (wd hw 2 rfl) (wd hw 45 rfl) (by decide) pd_7 (H270.exa (i := 0) rfl) (ct_add l Z a0 hw n0 h261 a244 ia246 ka246 ea246 la246 fb261 gb261 a247 1 L261 q1 (fup (fun _ => Value.null) 0 (Value.ref a247)) (fup (fun _ => 0) 0 (Int32.ofNat q0)) (fup (fun _ => 0) 0 ((fun _ => -1) q0)) (adT (fun _ => -1) (fun _ => 0) q0 0) (adF (fun _ => -1) (fun _ => -1) q0 0) (fup (fun _ => -1) q0 (Int32.ofNat 0)) [.ref a249, .double FP.dconst0] [(a249, Ia Z [])] (by decide) l3261 (by omega) hF261 hO261 hI261 H270) 0 rfl (by decide) (by decide) (by decide) (by decide) rfl rfl [.ref a247, .int (Int32.ofNat q1)] rfl Dx_113 ?_
        rintro _ h271 ⟨rfl, fb271, gb271, L271, l1271, l2271, l3271, H271⟩
        have hF271 : ∀ i, L271 ≤ i → (adF (fup (fun _ => -1) q0 (Int32.ofNat 0)) (adF (fun _ => -1) (fun _ => -1) q0 0) q1 1) i = -1 := adF_out hF261 l1271 l2271
        have hO271 : ∀ i, L271 ≤ i → (fup (fup (fun _ => -1) q0 (Int32.ofNat 0)) q1 (Int32.ofNat 1)) i = -1 := fup_out hO261 l1271 l2271
        have hI271 : ∀ i, Ix 2 ((fup (fup (fun _ => -1) q0 (Int32.ofNat 0)) q1 (Int32.ofNat 1)) i) := Ix_fup hI261
        change G k n0 _ h271 _ _ 116 [.val (.int p0), .val (.int p1), .val (.int p2), .val (.int p3), .val (.int 2), .val (.int (Int32.ofNat q0)), .val (.int (Int32.ofNat q1)), .val (.int (Int32.ofNat q2)), .val (.int 0), .val (.int (Int32.ofNat qq)), .val (.ref a244), .val (.ref a247), .unset, .unset] []
        refine G.iload K Dx_116 rfl ?_
        refine G.iconst K Dx_118 2 rfl ?_
        refine G.icmp_le K Dx_119 (fun _ => ?_) (fun q => absurd q (by decide))
        refine G.iload K Dx_131 rfl ?_
        refine G.if_eq K Dx_133 (fun _ => ?_) (fun q => absurd q (by decide))
        refine G.iload K Dx_141 rfl ?_
        refine G.if_eq K Dx_143 (fun _ => ?_) (fun q => absurd q (by decide))
        refine G.iload K Dx_153 rfl ?_
        refine G.istore K Dx_155 ([.val (.int p0), .val (.int p1), .val (.int p2), .val (.int p3), .val (.int 2), .val (.int (Int32.ofNat q0)), .val (.int (Int32.ofNat q1)), .val (.int (Int32.ofNat q2)), .val (.int 0), .val (.int (Int32.ofNat qq)), .val (.ref a244), .val (.ref a247), .val (.int 2), .unset]) rfl ?_
        refine G.iconst K Dx_157 (-1) rfl ?_
        refine G.istore K Dx_158 ([.val (.int p0), .val (.int p1), .val (.int p2), .val (.int p3), .val (.int 2), .val (.int (Int32.ofNat q0)), .val (.int (Int32.ofNat q1)), .val (.int (Int32.ofNat q2)), .val (.int 0), .val (.int (Int32.ofNat qq)), .val (.ref a244), .val (.ref a247), .val (.int 2), .val (.int (-1))]) rfl ?_
        refine G.iload K Dx_160 rfl ?_
        refine G.iconst K Dx_162 2 rfl ?_
        refine G.icmp_le K Dx_163 (fun _ => ?_) (fun q => absurd q (by decide))
        refine G.iload K Dx_176 rfl ?_
        refine G.iconst K Dx_178 1 rfl ?_
        refine G.icmp_le K Dx_179 (fun q => absurd q (by decide)) (fun _ => ?_)
        refine G.iload K Dx_182 rfl ?_
        refine G.iload K Dx_184 rfl ?_
        refine G.icmp_ne K Dx_186 (fun q277 => ?_) (fun q277 => ?_)
        · refine G.iload K Dx_192 rfl ?_
          refine G.if_le K Dx_194 (fun q => absurd q (by decide)) (fun _ => ?_)
          refine G.iload K Dx_197 rfl ?_
          refine G.iload K Dx_199 rfl ?_
          refine G.icmp_ne K Dx_201 (fun q279 => ?_) (fun q279 => ?_)
          · refine G.aload K Dx_207 rfl rfl ?_
            refine G.iload K Dx_209 rfl ?_
            have H280 : Hp n0 h271 [(gb271, Ia Z (lst L271 (fup (fup (fun _ => -1) q0 (Int32.ofNat 0)) q1 (Int32.ofNat 1)))), (a244, Ob Z "com/example/rankwise/rankwise/engine/KeptItems" NSI [.ref ia246, .ref ka246, .ref ea246, .ref la246, .int 2, .ref fb271, .ref gb271]), (ia246, Ra Z "com/example/rankwise/rankwise/engine/Ranked" (lst 16 (fup (fup (fun _ => Value.null) 0 (Value.ref a247)) 1 (Value.ref a247)))), (ka246, Ia Z (lst 16 (fup (fup (fun _ => 0) 0 (Int32.ofNat q0)) 1 (Int32.ofNat q1)))), (ea246, Ia Z (lst 16 (fup (fup (fun _ => 0) 0 ((fun _ => -1) q0)) 1 ((fup (fun _ => -1) q0 (Int32.ofNat 0)) q1)))), (la246, Ia Z (lst 16 (adT (fup (fun _ => -1) q0 (Int32.ofNat 0)) (adT (fun _ => -1) (fun _ => 0) q0 0) q1 1))), (fb271, Ia Z (lst L271 (adF (fup (fun _ => -1) q0 (Int32.ofNat 0)) (adF (fun _ => -1) (fun _ => -1) q0 0) q1 1))), (a247, Ob Z "com/example/rankwise/rankwise/engine/Ranked" NSR [.ref a249, .double FP.dconst0]), (a249, Ia Z [])] := H271.pull 6 rfl
            have H281 : Hp n0 h271 [(fb271, Ia Z (lst L271 (adF (fup (fun _ => -1) q0 (Int32.ofNat 0)) (adF (fun _ => -1) (fun _ => -1) q0 0) q1 1))), (gb271, Ia Z (lst L271 (fup (fup (fun _ => -1) q0 (Int32.ofNat 0)) q1 (Int32.ofNat 1)))), (a244, Ob Z "com/example/rankwise/rankwise/engine/KeptItems" NSI [.ref ia246, .ref ka246, .ref ea246, .ref la246, .int 2, .ref fb271, .ref gb271]), (ia246, Ra Z "com/example/rankwise/rankwise/engine/Ranked" (lst 16 (fup (fup (fun _ => Value.null) 0 (Value.ref a247)) 1 (Value.ref a247)))), (ka246, Ia Z (lst 16 (fup (fup (fun _ => 0) 0 (Int32.ofNat q0)) 1 (Int32.ofNat q1)))), (ea246, Ia Z (lst 16 (fup (fup (fun _ => 0) 0 ((fun _ => -1) q0)) 1 ((fup (fun _ => -1) q0 (Int32.ofNat 0)) q1)))), (la246, Ia Z (lst 16 (adT (fup (fun _ => -1) q0 (Int32.ofNat 0)) (adT (fun _ => -1) (fun _ => 0) q0 0) q1 1))), (a247, Ob Z "com/example/rankwise/rankwise/engine/Ranked" NSR [.ref a249, .double FP.dconst0]), (a249, Ia Z [])] := H280.pull 6 rfl
            have H282 : Hp n0 h271 [(la246, Ia Z (lst 16 (adT (fup (fun _ => -1) q0 (Int32.ofNat 0)) (adT (fun _ => -1) (fun _ => 0) q0 0) q1 1))), (fb271, Ia Z (lst L271 (adF (fup (fun _ => -1) q0 (Int32.ofNat 0)) (adF (fun _ => -1) (fun _ => -1) q0 0) q1 1))), (gb271, Ia Z (lst L271 (fup (fup (fun _ => -1) q0 (Int32.ofNat 0)) q1 (Int32.ofNat 1)))), (a244, Ob Z "com/example/rankwise/rankwise/engine/KeptItems" NSI [.ref ia246, .ref ka246, .ref ea246, .ref la246, .int 2, .ref fb271, .ref gb271]), (ia246, Ra Z "com/example/rankwise/rankwise/engine/Ranked" (lst 16 (fup (fup (fun _ => Value.null) 0 (Value.ref a247)) 1 (Value.ref a247)))), (ka246, Ia Z (lst 16 (fup (fup (fun _ => 0) 0 (Int32.ofNat q0)) 1 (Int32.ofNat q1)))), (ea246, Ia Z (lst 16 (fup (fup (fun _ => 0) 0 ((fun _ => -1) q0)) 1 ((fup (fun _ => -1) q0 (Int32.ofNat 0)) q1)))), (a247, Ob Z "com/example/rankwise/rankwise/engine/Ranked" NSR [.ref a249, .double FP.dconst0]), (a249, Ia Z [])] := H281.pull 6 rfl
            have H283 : Hp n0 h271 [(ea246, Ia Z (lst 16 (fup (fup (fun _ => 0) 0 ((fun _ => -1) q0)) 1 ((fup (fun _ => -1) q0 (Int32.ofNat 0)) q1)))), (la246, Ia Z (lst 16 (adT (fup (fun _ => -1) q0 (Int32.ofNat 0)) (adT (fun _ => -1) (fun _ => 0) q0 0) q1 1))), (fb271, Ia Z (lst L271 (adF (fup (fun _ => -1) q0 (Int32.ofNat 0)) (adF (fun _ => -1) (fun _ => -1) q0 0) q1 1))), (gb271, Ia Z (lst L271 (fup (fup (fun _ => -1) q0 (Int32.ofNat 0)) q1 (Int32.ofNat 1)))), (a244, Ob Z "com/example/rankwise/rankwise/engine/KeptItems" NSI [.ref ia246, .ref ka246, .ref ea246, .ref la246, .int 2, .ref fb271, .ref gb271]), (ia246, Ra Z "com/example/rankwise/rankwise/engine/Ranked" (lst 16 (fup (fup (fun _ => Value.null) 0 (Value.ref a247)) 1 (Value.ref a247)))), (ka246, Ia Z (lst 16 (fup (fup (fun _ => 0) 0 (Int32.ofNat q0)) 1 (Int32.ofNat q1)))), (a247, Ob Z "com/example/rankwise/rankwise/engine/Ranked" NSR [.ref a249, .double FP.dconst0]), (a249, Ia Z [])] := H282.pull 6 rfl
            have H284 : Hp n0 h271 [(ka246, Ia Z (lst 16 (fup (fup (fun _ => 0) 0 (Int32.ofNat q0)) 1 (Int32.ofNat q1)))), (ea246, Ia Z (lst 16 (fup (fup (fun _ => 0) 0 ((fun _ => -1) q0)) 1 ((fup (fun _ => -1) q0 (Int32.ofNat 0)) q1)))), (la246, Ia Z (lst 16 (adT (fup (fun _ => -1) q0 (Int32.ofNat 0)) (adT (fun _ => -1) (fun _ => 0) q0 0) q1 1))), (fb271, Ia Z (lst L271 (adF (fup (fun _ => -1) q0 (Int32.ofNat 0)) (adF (fun _ => -1) (fun _ => -1) q0 0) q1 1))), (gb271, Ia Z (lst L271 (fup (fup (fun _ => -1) q0 (Int32.ofNat 0)) q1 (Int32.ofNat 1)))), (a244, Ob Z "com/example/rankwise/rankwise/engine/KeptItems" NSI [.ref ia246, .ref ka246, .ref ea246, .ref la246, .int 2, .ref fb271, .ref gb271]), (ia246, Ra Z "com/example/rankwise/rankwise/engine/Ranked" (lst 16 (fup (fup (fun _ => Value.null) 0 (Value.ref a247)) 1 (Value.ref a247)))), (a247, Ob Z "com/example/rankwise/rankwise/engine/Ranked" NSR [.ref a249, .double FP.dconst0]), (a249, Ia Z [])] := H283.pull 6 rfl
            have H285 : Hp n0 h271 [(ia246, Ra Z "com/example/rankwise/rankwise/engine/Ranked" (lst 16 (fup (fup (fun _ => Value.null) 0 (Value.ref a247)) 1 (Value.ref a247)))), (ka246, Ia Z (lst 16 (fup (fup (fun _ => 0) 0 (Int32.ofNat q0)) 1 (Int32.ofNat q1)))), (ea246, Ia Z (lst 16 (fup (fup (fun _ => 0) 0 ((fun _ => -1) q0)) 1 ((fup (fun _ => -1) q0 (Int32.ofNat 0)) q1)))), (la246, Ia Z (lst 16 (adT (fup (fun _ => -1) q0 (Int32.ofNat 0)) (adT (fun _ => -1) (fun _ => 0) q0 0) q1 1))), (fb271, Ia Z (lst L271 (adF (fup (fun _ => -1) q0 (Int32.ofNat 0)) (adF (fun _ => -1) (fun _ => -1) q0 0) q1 1))), (gb271, Ia Z (lst L271 (fup (fup (fun _ => -1) q0 (Int32.ofNat 0)) q1 (Int32.ofNat 1)))), (a244, Ob Z "com/example/rankwise/rankwise/engine/KeptItems" NSI [.ref ia246, .ref ka246, .ref ea246, .ref la246, .int 2, .ref fb271, .ref gb271]), (a247, Ob Z "com/example/rankwise/rankwise/engine/Ranked" NSR [.ref a249, .double FP.dconst0]), (a249, Ia Z [])] := H284.pull 6 rfl
            have H286 : Hp n0 h271 [(a244, Ob Z "com/example/rankwise/rankwise/engine/KeptItems" NSI [.ref ia246, .ref ka246, .ref ea246, .ref la246, .int 2, .ref fb271, .ref gb271]), (ia246, Ra Z "com/example/rankwise/rankwise/engine/Ranked" (lst 16 (fup (fup (fun _ => Value.null) 0 (Value.ref a247)) 1 (Value.ref a247)))), (ka246, Ia Z (lst 16 (fup (fup (fun _ => 0) 0 (Int32.ofNat q0)) 1 (Int32.ofNat q1)))), (ea246, Ia Z (lst 16 (fup (fup (fun _ => 0) 0 ((fun _ => -1) q0)) 1 ((fup (fun _ => -1) q0 (Int32.ofNat 0)) q1)))), (la246, Ia Z (lst 16 (adT (fup (fun _ => -1) q0 (Int32.ofNat 0)) (adT (fun _ => -1) (fun _ => 0) q0 0) q1 1))), (fb271, Ia Z (lst L271 (adF (fup (fun _ => -1) q0 (Int32.ofNat 0)) (adF (fun _ => -1) (fun _ => -1) q0 0) q1 1))), (gb271, Ia Z (lst L271 (fup (fup (fun _ => -1) q0 (Int32.ofNat 0)) q1 (Int32.ofNat 1)))), (a247, Ob Z "com/example/rankwise/rankwise/engine/Ranked" NSR [.ref a249, .double FP.dconst0]), (a249, Ia Z [])] := H285.pull 6 rfl
            refine G.callV K hl (wd hw 35 rfl) (wd hw 36 rfl) (wd hw 38 rfl) (wd hw 37 rfl) (wd hw 2 rfl) (wd hw 39 rfl) (by decide) pd_6 (H286.exa (i := 0) rfl) (ct_first l Z a0 hw n0 h271 a244 ia246 ka246 ea246 la246 fb271 gb271 2 L271 qq (fup (fup (fun _ => Value.null) 0 (Value.ref a247)) 1 (Value.ref a247)) (fup (fup (fun _ => 0) 0 (Int32.ofNat q0)) 1 (Int32.ofNat q1)) (fup (fup (fun _ => 0) 0 ((fun _ => -1) q0)) 1 ((fup (fun _ => -1) q0 (Int32.ofNat 0)) q1)) (adT (fup (fun _ => -1) q0 (Int32.ofNat 0)) (adT (fun _ => -1) (fun _ => 0) q0 0) q1 1) (adF (fup (fun _ => -1) q0 (Int32.ofNat 0)) (adF (fun _ => -1) (fun _ => -1) q0 0) q1 1) (fup (fup (fun _ => -1) q0 (Int32.ofNat 0)) q1 (Int32.ofNat 1)) [(a247, Ob Z "com/example/rankwise/rankwise/engine/Ranked" NSR [.ref a249, .double FP.dconst0]), (a249, Ia Z [])] (by have := l3271; omega) (by omega) hF271 H286) 0 rfl (by decide) (by decide) (by decide) (by decide) rfl rfl [.int (Int32.ofNat qq)] rfl Dx_211 ?_
            rintro _ h287 ⟨rfl, H287⟩
            change G k n0 _ h287 _ _ 214 [.val (.int p0), .val (.int p1), .val (.int p2), .val (.int p3), .val (.int 2), .val (.int (Int32.ofNat q0)), .val (.int (Int32.ofNat q1)), .val (.int (Int32.ofNat q2)), .val (.int 0), .val (.int (Int32.ofNat qq)), .val (.ref a244), .val (.ref a247), .val (.int 2), .val (.int (-1))] [.int ((adF (fup (fun _ => -1) q0 (Int32.ofNat 0)) (adF (fun _ => -1) (fun _ => -1) q0 0) q1 1) qq)]
            refine G.iload K Dx_214 rfl ?_
            rw [own_neq (by omega) (by omega)] at q277
            rw [own_neq (by omega) (by omega)] at q279
            have hf := fst_2_0 q0 q1 q2 qq
            rw [if_neg q279, if_neg q277] at hf
            refine G.icmp_ne K Dx_216 (fun q => absurd hf q) (fun q288 => ?_)
            refine G.iconst K Dx_219 1 rfl ?_
            refine G.goto K Dx_220 ?_
            refine G.ret_bool K Dx_224 ?_
            exact rfl
          · refine G.iconst K Dx_204 0 rfl ?_
            refine G.istore K Dx_205 ([.val (.int p0), .val (.int p1), .val (.int p2), .val (.int p3), .val (.int 2), .val (.int (Int32.ofNat q0)), .val (.int (Int32.ofNat q1)), .val (.int (Int32.ofNat q2)), .val (.int 0), .val (.int (Int32.ofNat qq)), .val (.ref a244), .val (.ref a247), .val (.int 2), .val (.int 0)]) rfl ?_
            refine G.aload K Dx_207 rfl rfl ?_
            refine G.iload K Dx_209 rfl ?_
            have H289 : Hp n0 h271 [(gb271, Ia Z (lst L271 (fup (fup (fun _ => -1) q0 (Int32.ofNat 0)) q1 (Int32.ofNat 1)))), (a244, Ob Z "com/example/rankwise/rankwise/engine/KeptItems" NSI [.ref ia246, .ref ka246, .ref ea246, .ref la246, .int 2, .ref fb271, .ref gb271]), (ia246, Ra Z "com/example/rankwise/rankwise/engine/Ranked" (lst 16 (fup (fup (fun _ => Value.null) 0 (Value.ref a247)) 1 (Value.ref a247)))), (ka246, Ia Z (lst 16 (fup (fup (fun _ => 0) 0 (Int32.ofNat q0)) 1 (Int32.ofNat q1)))), (ea246, Ia Z (lst 16 (fup (fup (fun _ => 0) 0 ((fun _ => -1) q0)) 1 ((fup (fun _ => -1) q0 (Int32.ofNat 0)) q1)))), (la246, Ia Z (lst 16 (adT (fup (fun _ => -1) q0 (Int32.ofNat 0)) (adT (fun _ => -1) (fun _ => 0) q0 0) q1 1))), (fb271, Ia Z (lst L271 (adF (fup (fun _ => -1) q0 (Int32.ofNat 0)) (adF (fun _ => -1) (fun _ => -1) q0 0) q1 1))), (a247, Ob Z "com/example/rankwise/rankwise/engine/Ranked" NSR [.ref a249, .double FP.dconst0]), (a249, Ia Z [])] := H271.pull 6 rfl
            have H290 : Hp n0 h271 [(fb271, Ia Z (lst L271 (adF (fup (fun _ => -1) q0 (Int32.ofNat 0)) (adF (fun _ => -1) (fun _ => -1) q0 0) q1 1))), (gb271, Ia Z (lst L271 (fup (fup (fun _ => -1) q0 (Int32.ofNat 0)) q1 (Int32.ofNat 1)))), (a244, Ob Z "com/example/rankwise/rankwise/engine/KeptItems" NSI [.ref ia246, .ref ka246, .ref ea246, .ref la246, .int 2, .ref fb271, .ref gb271]), (ia246, Ra Z "com/example/rankwise/rankwise/engine/Ranked" (lst 16 (fup (fup (fun _ => Value.null) 0 (Value.ref a247)) 1 (Value.ref a247)))), (ka246, Ia Z (lst 16 (fup (fup (fun _ => 0) 0 (Int32.ofNat q0)) 1 (Int32.ofNat q1)))), (ea246, Ia Z (lst 16 (fup (fup (fun _ => 0) 0 ((fun _ => -1) q0)) 1 ((fup (fun _ => -1) q0 (Int32.ofNat 0)) q1)))), (la246, Ia Z (lst 16 (adT (fup (fun _ => -1) q0 (Int32.ofNat 0)) (adT (fun _ => -1) (fun _ => 0) q0 0) q1 1))), (a247, Ob Z "com/example/rankwise/rankwise/engine/Ranked" NSR [.ref a249, .double FP.dconst0]), (a249, Ia Z [])] := H289.pull 6 rfl
            have H291 : Hp n0 h271 [(la246, Ia Z (lst 16 (adT (fup (fun _ => -1) q0 (Int32.ofNat 0)) (adT (fun _ => -1) (fun _ => 0) q0 0) q1 1))), (fb271, Ia Z (lst L271 (adF (fup (fun _ => -1) q0 (Int32.ofNat 0)) (adF (fun _ => -1) (fun _ => -1) q0 0) q1 1))), (gb271, Ia Z (lst L271 (fup (fup (fun _ => -1) q0 (Int32.ofNat 0)) q1 (Int32.ofNat 1)))), (a244, Ob Z "com/example/rankwise/rankwise/engine/KeptItems" NSI [.ref ia246, .ref ka246, .ref ea246, .ref la246, .int 2, .ref fb271, .ref gb271]), (ia246, Ra Z "com/example/rankwise/rankwise/engine/Ranked" (lst 16 (fup (fup (fun _ => Value.null) 0 (Value.ref a247)) 1 (Value.ref a247)))), (ka246, Ia Z (lst 16 (fup (fup (fun _ => 0) 0 (Int32.ofNat q0)) 1 (Int32.ofNat q1)))), (ea246, Ia Z (lst 16 (fup (fup (fun _ => 0) 0 ((fun _ => -1) q0)) 1 ((fup (fun _ => -1) q0 (Int32.ofNat 0)) q1)))), (a247, Ob Z "com/example/rankwise/rankwise/engine/Ranked" NSR [.ref a249, .double FP.dconst0]), (a249, Ia Z [])] := H290.pull 6 rfl
            have H292 : Hp n0 h271 [(ea246, Ia Z (lst 16 (fup (fup (fun _ => 0) 0 ((fun _ => -1) q0)) 1 ((fup (fun _ => -1) q0 (Int32.ofNat 0)) q1)))), (la246, Ia Z (lst 16 (adT (fup (fun _ => -1) q0 (Int32.ofNat 0)) (adT (fun _ => -1) (fun _ => 0) q0 0) q1 1))), (fb271, Ia Z (lst L271 (adF (fup (fun _ => -1) q0 (Int32.ofNat 0)) (adF (fun _ => -1) (fun _ => -1) q0 0) q1 1))), (gb271, Ia Z (lst L271 (fup (fup (fun _ => -1) q0 (Int32.ofNat 0)) q1 (Int32.ofNat 1)))), (a244, Ob Z "com/example/rankwise/rankwise/engine/KeptItems" NSI [.ref ia246, .ref ka246, .ref ea246, .ref la246, .int 2, .ref fb271, .ref gb271]), (ia246, Ra Z "com/example/rankwise/rankwise/engine/Ranked" (lst 16 (fup (fup (fun _ => Value.null) 0 (Value.ref a247)) 1 (Value.ref a247)))), (ka246, Ia Z (lst 16 (fup (fup (fun _ => 0) 0 (Int32.ofNat q0)) 1 (Int32.ofNat q1)))), (a247, Ob Z "com/example/rankwise/rankwise/engine/Ranked" NSR [.ref a249, .double FP.dconst0]), (a249, Ia Z [])] := H291.pull 6 rfl
            have H293 : Hp n0 h271 [(ka246, Ia Z (lst 16 (fup (fup (fun _ => 0) 0 (Int32.ofNat q0)) 1 (Int32.ofNat q1)))), (ea246, Ia Z (lst 16 (fup (fup (fun _ => 0) 0 ((fun _ => -1) q0)) 1 ((fup (fun _ => -1) q0 (Int32.ofNat 0)) q1)))), (la246, Ia Z (lst 16 (adT (fup (fun _ => -1) q0 (Int32.ofNat 0)) (adT (fun _ => -1) (fun _ => 0) q0 0) q1 1))), (fb271, Ia Z (lst L271 (adF (fup (fun _ => -1) q0 (Int32.ofNat 0)) (adF (fun _ => -1) (fun _ => -1) q0 0) q1 1))), (gb271, Ia Z (lst L271 (fup (fup (fun _ => -1) q0 (Int32.ofNat 0)) q1 (Int32.ofNat 1)))), (a244, Ob Z "com/example/rankwise/rankwise/engine/KeptItems" NSI [.ref ia246, .ref ka246, .ref ea246, .ref la246, .int 2, .ref fb271, .ref gb271]), (ia246, Ra Z "com/example/rankwise/rankwise/engine/Ranked" (lst 16 (fup (fup (fun _ => Value.null) 0 (Value.ref a247)) 1 (Value.ref a247)))), (a247, Ob Z "com/example/rankwise/rankwise/engine/Ranked" NSR [.ref a249, .double FP.dconst0]), (a249, Ia Z [])] := H292.pull 6 rfl
            have H294 : Hp n0 h271 [(ia246, Ra Z "com/example/rankwise/rankwise/engine/Ranked" (lst 16 (fup (fup (fun _ => Value.null) 0 (Value.ref a247)) 1 (Value.ref a247)))), (ka246, Ia Z (lst 16 (fup (fup (fun _ => 0) 0 (Int32.ofNat q0)) 1 (Int32.ofNat q1)))), (ea246, Ia Z (lst 16 (fup (fup (fun _ => 0) 0 ((fun _ => -1) q0)) 1 ((fup (fun _ => -1) q0 (Int32.ofNat 0)) q1)))), (la246, Ia Z (lst 16 (adT (fup (fun _ => -1) q0 (Int32.ofNat 0)) (adT (fun _ => -1) (fun _ => 0) q0 0) q1 1))), (fb271, Ia Z (lst L271 (adF (fup (fun _ => -1) q0 (Int32.ofNat 0)) (adF (fun _ => -1) (fun _ => -1) q0 0) q1 1))), (gb271, Ia Z (lst L271 (fup (fup (fun _ => -1) q0 (Int32.ofNat 0)) q1 (Int32.ofNat 1)))), (a244, Ob Z "com/example/rankwise/rankwise/engine/KeptItems" NSI [.ref ia246, .ref ka246, .ref ea246, .ref la246, .int 2, .ref fb271, .ref gb271]), (a247, Ob Z "com/example/rankwise/rankwise/engine/Ranked" NSR [.ref a249, .double FP.dconst0]), (a249, Ia Z [])] := H293.pull 6 rfl
            have H295 : Hp n0 h271 [(a244, Ob Z "com/example/rankwise/rankwise/engine/KeptItems" NSI [.ref ia246, .ref ka246, .ref ea246, .ref la246, .int 2, .ref fb271, .ref gb271]), (ia246, Ra Z "com/example/rankwise/rankwise/engine/Ranked" (lst 16 (fup (fup (fun _ => Value.null) 0 (Value.ref a247)) 1 (Value.ref a247)))), (ka246, Ia Z (lst 16 (fup (fup (fun _ => 0) 0 (Int32.ofNat q0)) 1 (Int32.ofNat q1)))), (ea246, Ia Z (lst 16 (fup (fup (fun _ => 0) 0 ((fun _ => -1) q0)) 1 ((fup (fun _ => -1) q0 (Int32.ofNat 0)) q1)))), (la246, Ia Z (lst 16 (adT (fup (fun _ => -1) q0 (Int32.ofNat 0)) (adT (fun _ => -1) (fun _ => 0) q0 0) q1 1))), (fb271, Ia Z (lst L271 (adF (fup (fun _ => -1) q0 (Int32.ofNat 0)) (adF (fun _ => -1) (fun _ => -1) q0 0) q1 1))), (gb271, Ia Z (lst L271 (fup (fup (fun _ => -1) q0 (Int32.ofNat 0)) q1 (Int32.ofNat 1)))), (a247, Ob Z "com/example/rankwise/rankwise/engine/Ranked" NSR [.ref a249, .double FP.dconst0]), (a249, Ia Z [])] := H294.pull 6 rfl
            refine G.callV K hl (wd hw 35 rfl) (wd hw 36 rfl) (wd hw 38 rfl) (wd hw 37 rfl) (wd hw 2 rfl) (wd hw 39 rfl) (by decide) pd_6 (H295.exa (i := 0) rfl) (ct_first l Z a0 hw n0 h271 a244 ia246 ka246 ea246 la246 fb271 gb271 2 L271 qq (fup (fup (fun _ => Value.null) 0 (Value.ref a247)) 1 (Value.ref a247)) (fup (fup (fun _ => 0) 0 (Int32.ofNat q0)) 1 (Int32.ofNat q1)) (fup (fup (fun _ => 0) 0 ((fun _ => -1) q0)) 1 ((fup (fun _ => -1) q0 (Int32.ofNat 0)) q1)) (adT (fup (fun _ => -1) q0 (Int32.ofNat 0)) (adT (fun _ => -1) (fun _ => 0) q0 0) q1 1) (adF (fup (fun _ => -1) q0 (Int32.ofNat 0)) (adF (fun _ => -1) (fun _ => -1) q0 0) q1 1) (fup (fup (fun _ => -1) q0 (Int32.ofNat 0)) q1 (Int32.ofNat 1)) [(a247, Ob Z "com/example/rankwise/rankwise/engine/Ranked" NSR [.ref a249, .double FP.dconst0]), (a249, Ia Z [])] (by have := l3271; omega) (by omega) hF271 H295) 0 rfl (by decide) (by decide) (by decide) (by decide) rfl rfl [.int (Int32.ofNat qq)] rfl Dx_211 ?_
            rintro _ h296 ⟨rfl, H296⟩
            change G k n0 _ h296 _ _ 214 [.val (.int p0), .val (.int p1), .val (.int p2), .val (.int p3), .val (.int 2), .val (.int (Int32.ofNat q0)), .val (.int (Int32.ofNat q1)), .val (.int (Int32.ofNat q2)), .val (.int 0), .val (.int (Int32.ofNat qq)), .val (.ref a244), .val (.ref a247), .val (.int 2), .val (.int 0)] [.int ((adF (fup (fun _ => -1) q0 (Int32.ofNat 0)) (adF (fun _ => -1) (fun _ => -1) q0 0) q1 1) qq)]
            refine G.iload K Dx_214 rfl ?_
            rw [own_neq (by omega) (by omega)] at q277
            rw [own_neq (by omega) (by omega)] at q279
            have hf := fst_2_0 q0 q1 q2 qq
            rw [if_pos q279] at hf
            refine G.icmp_ne K Dx_216 (fun q => absurd hf q) (fun q297 => ?_)
            refine G.iconst K Dx_219 1 rfl ?_
            refine G.goto K Dx_220 ?_
            refine G.ret_bool K Dx_224 ?_
            exact rfl
        · refine G.iconst K Dx_189 1 rfl ?_
          refine G.istore K Dx_190 ([.val (.int p0), .val (.int p1), .val (.int p2), .val (.int p3), .val (.int 2), .val (.int (Int32.ofNat q0)), .val (.int (Int32.ofNat q1)), .val (.int (Int32.ofNat q2)), .val (.int 0), .val (.int (Int32.ofNat qq)), .val (.ref a244), .val (.ref a247), .val (.int 2), .val (.int 1)]) rfl ?_
          refine G.iload K Dx_192 rfl ?_
          refine G.if_le K Dx_194 (fun q => absurd q (by decide)) (fun _ => ?_)
          refine G.iload K Dx_197 rfl ?_
          refine G.iload K Dx_199 rfl ?_
          refine G.icmp_ne K Dx_201 (fun q299 => ?_) (fun q299 => ?_)
          · refine G.aload K Dx_207 rfl rfl ?_
            refine G.iload K Dx_209 rfl ?_
            have H300 : Hp n0 h271 [(gb271, Ia Z (lst L271 (fup (fup (fun _ => -1) q0 (Int32.ofNat 0)) q1 (Int32.ofNat 1)))), (a244, Ob Z "com/example/rankwise/rankwise/engine/KeptItems" NSI [.ref ia246, .ref ka246, .ref ea246, .ref la246, .int 2, .ref fb271, .ref gb271]), (ia246, Ra Z "com/example/rankwise/rankwise/engine/Ranked" (lst 16 (fup (fup (fun _ => Value.null) 0 (Value.ref a247)) 1 (Value.ref a247)))), (ka246, Ia Z (lst 16 (fup (fup (fun _ => 0) 0 (Int32.ofNat q0)) 1 (Int32.ofNat q1)))), (ea246, Ia Z (lst 16 (fup (fup (fun _ => 0) 0 ((fun _ => -1) q0)) 1 ((fup (fun _ => -1) q0 (Int32.ofNat 0)) q1)))), (la246, Ia Z (lst 16 (adT (fup (fun _ => -1) q0 (Int32.ofNat 0)) (adT (fun _ => -1) (fun _ => 0) q0 0) q1 1))), (fb271, Ia Z (lst L271 (adF (fup (fun _ => -1) q0 (Int32.ofNat 0)) (adF (fun _ => -1) (fun _ => -1) q0 0) q1 1))), (a247, Ob Z "com/example/rankwise/rankwise/engine/Ranked" NSR [.ref a249, .double FP.dconst0]), (a249, Ia Z [])] := H271.pull 6 rfl
            have H301 : Hp n0 h271 [(fb271, Ia Z (lst L271 (adF (fup (fun _ => -1) q0 (Int32.ofNat 0)) (adF (fun _ => -1) (fun _ => -1) q0 0) q1 1))), (gb271, Ia Z (lst L271 (fup (fup (fun _ => -1) q0 (Int32.ofNat 0)) q1 (Int32.ofNat 1)))), (a244, Ob Z "com/example/rankwise/rankwise/engine/KeptItems" NSI [.ref ia246, .ref ka246, .ref ea246, .ref la246, .int 2, .ref fb271, .ref gb271]), (ia246, Ra Z "com/example/rankwise/rankwise/engine/Ranked" (lst 16 (fup (fup (fun _ => Value.null) 0 (Value.ref a247)) 1 (Value.ref a247)))), (ka246, Ia Z (lst 16 (fup (fup (fun _ => 0) 0 (Int32.ofNat q0)) 1 (Int32.ofNat q1)))), (ea246, Ia Z (lst 16 (fup (fup (fun _ => 0) 0 ((fun _ => -1) q0)) 1 ((fup (fun _ => -1) q0 (Int32.ofNat 0)) q1)))), (la246, Ia Z (lst 16 (adT (fup (fun _ => -1) q0 (Int32.ofNat 0)) (adT (fun _ => -1) (fun _ => 0) q0 0) q1 1))), (a247, Ob Z "com/example/rankwise/rankwise/engine/Ranked" NSR [.ref a249, .double FP.dconst0]), (a249, Ia Z [])] := H300.pull 6 rfl
            have H302 : Hp n0 h271 [(la246, Ia Z (lst 16 (adT (fup (fun _ => -1) q0 (Int32.ofNat 0)) (adT (fun _ => -1) (fun _ => 0) q0 0) q1 1))), (fb271, Ia Z (lst L271 (adF (fup (fun _ => -1) q0 (Int32.ofNat 0)) (adF (fun _ => -1) (fun _ => -1) q0 0) q1 1))), (gb271, Ia Z (lst L271 (fup (fup (fun _ => -1) q0 (Int32.ofNat 0)) q1 (Int32.ofNat 1)))), (a244, Ob Z "com/example/rankwise/rankwise/engine/KeptItems" NSI [.ref ia246, .ref ka246, .ref ea246, .ref la246, .int 2, .ref fb271, .ref gb271]), (ia246, Ra Z "com/example/rankwise/rankwise/engine/Ranked" (lst 16 (fup (fup (fun _ => Value.null) 0 (Value.ref a247)) 1 (Value.ref a247)))), (ka246, Ia Z (lst 16 (fup (fup (fun _ => 0) 0 (Int32.ofNat q0)) 1 (Int32.ofNat q1)))), (ea246, Ia Z (lst 16 (fup (fup (fun _ => 0) 0 ((fun _ => -1) q0)) 1 ((fup (fun _ => -1) q0 (Int32.ofNat 0)) q1)))), (a247, Ob Z "com/example/rankwise/rankwise/engine/Ranked" NSR [.ref a249, .double FP.dconst0]), (a249, Ia Z [])] := H301.pull 6 rfl
            have H303 : Hp n0 h271 [(ea246, Ia Z (lst 16 (fup (fup (fun _ => 0) 0 ((fun _ => -1) q0)) 1 ((fup (fun _ => -1) q0 (Int32.ofNat 0)) q1)))), (la246, Ia Z (lst 16 (adT (fup (fun _ => -1) q0 (Int32.ofNat 0)) (adT (fun _ => -1) (fun _ => 0) q0 0) q1 1))), (fb271, Ia Z (lst L271 (adF (fup (fun _ => -1) q0 (Int32.ofNat 0)) (adF (fun _ => -1) (fun _ => -1) q0 0) q1 1))), (gb271, Ia Z (lst L271 (fup (fup (fun _ => -1) q0 (Int32.ofNat 0)) q1 (Int32.ofNat 1)))), (a244, Ob Z "com/example/rankwise/rankwise/engine/KeptItems" NSI [.ref ia246, .ref ka246, .ref ea246, .ref la246, .int 2, .ref fb271, .ref gb271]), (ia246, Ra Z "com/example/rankwise/rankwise/engine/Ranked" (lst 16 (fup (fup (fun _ => Value.null) 0 (Value.ref a247)) 1 (Value.ref a247)))), (ka246, Ia Z (lst 16 (fup (fup (fun _ => 0) 0 (Int32.ofNat q0)) 1 (Int32.ofNat q1)))), (a247, Ob Z "com/example/rankwise/rankwise/engine/Ranked" NSR [.ref a249, .double FP.dconst0]), (a249, Ia Z [])] := H302.pull 6 rfl
            have H304 : Hp n0 h271 [(ka246, Ia Z (lst 16 (fup (fup (fun _ => 0) 0 (Int32.ofNat q0)) 1 (Int32.ofNat q1)))), (ea246, Ia Z (lst 16 (fup (fup (fun _ => 0) 0 ((fun _ => -1) q0)) 1 ((fup (fun _ => -1) q0 (Int32.ofNat 0)) q1)))), (la246, Ia Z (lst 16 (adT (fup (fun _ => -1) q0 (Int32.ofNat 0)) (adT (fun _ => -1) (fun _ => 0) q0 0) q1 1))), (fb271, Ia Z (lst L271 (adF (fup (fun _ => -1) q0 (Int32.ofNat 0)) (adF (fun _ => -1) (fun _ => -1) q0 0) q1 1))), (gb271, Ia Z (lst L271 (fup (fup (fun _ => -1) q0 (Int32.ofNat 0)) q1 (Int32.ofNat 1)))), (a244, Ob Z "com/example/rankwise/rankwise/engine/KeptItems" NSI [.ref ia246, .ref ka246, .ref ea246, .ref la246, .int 2, .ref fb271, .ref gb271]), (ia246, Ra Z "com/example/rankwise/rankwise/engine/Ranked" (lst 16 (fup (fup (fun _ => Value.null) 0 (Value.ref a247)) 1 (Value.ref a247)))), (a247, Ob Z "com/example/rankwise/rankwise/engine/Ranked" NSR [.ref a249, .double FP.dconst0]), (a249, Ia Z [])] := H303.pull 6 rfl
            have H305 : Hp n0 h271 [(ia246, Ra Z "com/example/rankwise/rankwise/engine/Ranked" (lst 16 (fup (fup (fun _ => Value.null) 0 (Value.ref a247)) 1 (Value.ref a247)))), (ka246, Ia Z (lst 16 (fup (fup (fun _ => 0) 0 (Int32.ofNat q0)) 1 (Int32.ofNat q1)))), (ea246, Ia Z (lst 16 (fup (fup (fun _ => 0) 0 ((fun _ => -1) q0)) 1 ((fup (fun _ => -1) q0 (Int32.ofNat 0)) q1)))), (la246, Ia Z (lst 16 (adT (fup (fun _ => -1) q0 (Int32.ofNat 0)) (adT (fun _ => -1) (fun _ => 0) q0 0) q1 1))), (fb271, Ia Z (lst L271 (adF (fup (fun _ => -1) q0 (Int32.ofNat 0)) (adF (fun _ => -1) (fun _ => -1) q0 0) q1 1))), (gb271, Ia Z (lst L271 (fup (fup (fun _ => -1) q0 (Int32.ofNat 0)) q1 (Int32.ofNat 1)))), (a244, Ob Z "com/example/rankwise/rankwise/engine/KeptItems" NSI [.ref ia246, .ref ka246, .ref ea246, .ref la246, .int 2, .ref fb271, .ref gb271]), (a247, Ob Z "com/example/rankwise/rankwise/engine/Ranked" NSR [.ref a249, .double FP.dconst0]), (a249, Ia Z [])] := H304.pull 6 rfl
            have H306 : Hp n0 h271 [(a244, Ob Z "com/example/rankwise/rankwise/engine/KeptItems" NSI [.ref ia246, .ref ka246, .ref ea246, .ref la246, .int 2, .ref fb271, .ref gb271]), (ia246, Ra Z "com/example/rankwise/rankwise/engine/Ranked" (lst 16 (fup (fup (fun _ => Value.null) 0 (Value.ref a247)) 1 (Value.ref a247)))), (ka246, Ia Z (lst 16 (fup (fup (fun _ => 0) 0 (Int32.ofNat q0)) 1 (Int32.ofNat q1)))), (ea246, Ia Z (lst 16 (fup (fup (fun _ => 0) 0 ((fun _ => -1) q0)) 1 ((fup (fun _ => -1) q0 (Int32.ofNat 0)) q1)))), (la246, Ia Z (lst 16 (adT (fup (fun _ => -1) q0 (Int32.ofNat 0)) (adT (fun _ => -1) (fun _ => 0) q0 0) q1 1))), (fb271, Ia Z (lst L271 (adF (fup (fun _ => -1) q0 (Int32.ofNat 0)) (adF (fun _ => -1) (fun _ => -1) q0 0) q1 1))), (gb271, Ia Z (lst L271 (fup (fup (fun _ => -1) q0 (Int32.ofNat 0)) q1 (Int32.ofNat 1)))), (a247, Ob Z "com/example/rankwise/rankwise/engine/Ranked" NSR [.ref a249, .double FP.dconst0]), (a249, Ia Z [])] := H305.pull 6 rfl
            refine G.callV K hl (wd hw 35 rfl) (wd hw 36 rfl) (wd hw 38 rfl) (wd hw 37 rfl) (wd hw 2 rfl) (wd hw 39 rfl) (by decide) pd_6 (H306.exa (i := 0) rfl) (ct_first l Z a0 hw n0 h271 a244 ia246 ka246 ea246 la246 fb271 gb271 2 L271 qq (fup (fup (fun _ => Value.null) 0 (Value.ref a247)) 1 (Value.ref a247)) (fup (fup (fun _ => 0) 0 (Int32.ofNat q0)) 1 (Int32.ofNat q1)) (fup (fup (fun _ => 0) 0 ((fun _ => -1) q0)) 1 ((fup (fun _ => -1) q0 (Int32.ofNat 0)) q1)) (adT (fup (fun _ => -1) q0 (Int32.ofNat 0)) (adT (fun _ => -1) (fun _ => 0) q0 0) q1 1) (adF (fup (fun _ => -1) q0 (Int32.ofNat 0)) (adF (fun _ => -1) (fun _ => -1) q0 0) q1 1) (fup (fup (fun _ => -1) q0 (Int32.ofNat 0)) q1 (Int32.ofNat 1)) [(a247, Ob Z "com/example/rankwise/rankwise/engine/Ranked" NSR [.ref a249, .double FP.dconst0]), (a249, Ia Z [])] (by have := l3271; omega) (by omega) hF271 H306) 0 rfl (by decide) (by decide) (by decide) (by decide) rfl rfl [.int (Int32.ofNat qq)] rfl Dx_211 ?_
            rintro _ h307 ⟨rfl, H307⟩
            change G k n0 _ h307 _ _ 214 [.val (.int p0), .val (.int p1), .val (.int p2), .val (.int p3), .val (.int 2), .val (.int (Int32.ofNat q0)), .val (.int (Int32.ofNat q1)), .val (.int (Int32.ofNat q2)), .val (.int 0), .val (.int (Int32.ofNat qq)), .val (.ref a244), .val (.ref a247), .val (.int 2), .val (.int 1)] [.int ((adF (fup (fun _ => -1) q0 (Int32.ofNat 0)) (adF (fun _ => -1) (fun _ => -1) q0 0) q1 1) qq)]
            refine G.iload K Dx_214 rfl ?_
            rw [own_neq (by omega) (by omega)] at q277
            rw [own_neq (by omega) (by omega)] at q299
            have hf := fst_2_0 q0 q1 q2 qq
            rw [if_neg q299, if_pos q277] at hf
            refine G.icmp_ne K Dx_216 (fun q => absurd hf q) (fun q308 => ?_)
            refine G.iconst K Dx_219 1 rfl ?_
            refine G.goto K Dx_220 ?_
            refine G.ret_bool K Dx_224 ?_
            exact rfl
          · refine G.iconst K Dx_204 0 rfl ?_
            refine G.istore K Dx_205 ([.val (.int p0), .val (.int p1), .val (.int p2), .val (.int p3), .val (.int 2), .val (.int (Int32.ofNat q0)), .val (.int (Int32.ofNat q1)), .val (.int (Int32.ofNat q2)), .val (.int 0), .val (.int (Int32.ofNat qq)), .val (.ref a244), .val (.ref a247), .val (.int 2), .val (.int 0)]) rfl ?_
            refine G.aload K Dx_207 rfl rfl ?_
            refine G.iload K Dx_209 rfl ?_
            have H309 : Hp n0 h271 [(gb271, Ia Z (lst L271 (fup (fup (fun _ => -1) q0 (Int32.ofNat 0)) q1 (Int32.ofNat 1)))), (a244, Ob Z "com/example/rankwise/rankwise/engine/KeptItems" NSI [.ref ia246, .ref ka246, .ref ea246, .ref la246, .int 2, .ref fb271, .ref gb271]), (ia246, Ra Z "com/example/rankwise/rankwise/engine/Ranked" (lst 16 (fup (fup (fun _ => Value.null) 0 (Value.ref a247)) 1 (Value.ref a247)))), (ka246, Ia Z (lst 16 (fup (fup (fun _ => 0) 0 (Int32.ofNat q0)) 1 (Int32.ofNat q1)))), (ea246, Ia Z (lst 16 (fup (fup (fun _ => 0) 0 ((fun _ => -1) q0)) 1 ((fup (fun _ => -1) q0 (Int32.ofNat 0)) q1)))), (la246, Ia Z (lst 16 (adT (fup (fun _ => -1) q0 (Int32.ofNat 0)) (adT (fun _ => -1) (fun _ => 0) q0 0) q1 1))), (fb271, Ia Z (lst L271 (adF (fup (fun _ => -1) q0 (Int32.ofNat 0)) (adF (fun _ => -1) (fun _ => -1) q0 0) q1 1))), (a247, Ob Z "com/example/rankwise/rankwise/engine/Ranked" NSR [.ref a249, .double FP.dconst0]), (a249, Ia Z [])] := H271.pull 6 rfl
            have H310 : Hp n0 h271 [(fb271, Ia Z (lst L271 (adF (fup (fun _ => -1) q0 (Int32.ofNat 0)) (adF (fun _ => -1) (fun _ => -1) q0 0) q1 1))), (gb271, Ia Z (lst L271 (fup (fup (fun _ => -1) q0 (Int32.ofNat 0)) q1 (Int32.ofNat 1)))), (a244, Ob Z "com/example/rankwise/rankwise/engine/KeptItems" NSI [.ref ia246, .ref ka246, .ref ea246, .ref la246, .int 2, .ref fb271, .ref gb271]), (ia246, Ra Z "com/example/rankwise/rankwise/engine/Ranked" (lst 16 (fup (fup (fun _ => Value.null) 0 (Value.ref a247)) 1 (Value.ref a247)))), (ka246, Ia Z (lst 16 (fup (fup (fun _ => 0) 0 (Int32.ofNat q0)) 1 (Int32.ofNat q1)))), (ea246, Ia Z (lst 16 (fup (fup (fun _ => 0) 0 ((fun _ => -1) q0)) 1 ((fup (fun _ => -1) q0 (Int32.ofNat 0)) q1)))), (la246, Ia Z (lst 16 (adT (fup (fun _ => -1) q0 (Int32.ofNat 0)) (adT (fun _ => -1) (fun _ => 0) q0 0) q1 1))), (a247, Ob Z "com/example/rankwise/rankwise/engine/Ranked" NSR [.ref a249, .double FP.dconst0]), (a249, Ia Z [])] := H309.pull 6 rfl
            have H311 : Hp n0 h271 [(la246, Ia Z (lst 16 (adT (fup (fun _ => -1) q0 (Int32.ofNat 0)) (adT (fun _ => -1) (fun _ => 0) q0 0) q1 1))), (fb271, Ia Z (lst L271 (adF (fup (fun _ => -1) q0 (Int32.ofNat 0)) (adF (fun _ => -1) (fun _ => -1) q0 0) q1 1))), (gb271, Ia Z (lst L271 (fup (fup (fun _ => -1) q0 (Int32.ofNat 0)) q1 (Int32.ofNat 1)))), (a244, Ob Z "com/example/rankwise/rankwise/engine/KeptItems" NSI [.ref ia246, .ref ka246, .ref ea246, .ref la246, .int 2, .ref fb271, .ref gb271]), (ia246, Ra Z "com/example/rankwise/rankwise/engine/Ranked" (lst 16 (fup (fup (fun _ => Value.null) 0 (Value.ref a247)) 1 (Value.ref a247)))), (ka246, Ia Z (lst 16 (fup (fup (fun _ => 0) 0 (Int32.ofNat q0)) 1 (Int32.ofNat q1)))), (ea246, Ia Z (lst 16 (fup (fup (fun _ => 0) 0 ((fun _ => -1) q0)) 1 ((fup (fun _ => -1) q0 (Int32.ofNat 0)) q1)))), (a247, Ob Z "com/example/rankwise/rankwise/engine/Ranked" NSR [.ref a249, .double FP.dconst0]), (a249, Ia Z [])] := H310.pull 6 rfl
            have H312 : Hp n0 h271 [(ea246, Ia Z (lst 16 (fup (fup (fun _ => 0) 0 ((fun _ => -1) q0)) 1 ((fup (fun _ => -1) q0 (Int32.ofNat 0)) q1)))), (la246, Ia Z (lst 16 (adT (fup (fun _ => -1) q0 (Int32.ofNat 0)) (adT (fun _ => -1) (fun _ => 0) q0 0) q1 1))), (fb271, Ia Z (lst L271 (adF (fup (fun _ => -1) q0 (Int32.ofNat 0)) (adF (fun _ => -1) (fun _ => -1) q0 0) q1 1))), (gb271, Ia Z (lst L271 (fup (fup (fun _ => -1) q0 (Int32.ofNat 0)) q1 (Int32.ofNat 1)))), (a244, Ob Z "com/example/rankwise/rankwise/engine/KeptItems" NSI [.ref ia246, .ref ka246, .ref ea246, .ref la246, .int 2, .ref fb271, .ref gb271]), (ia246, Ra Z "com/example/rankwise/rankwise/engine/Ranked" (lst 16 (fup (fup (fun _ => Value.null) 0 (Value.ref a247)) 1 (Value.ref a247)))), (ka246, Ia Z (lst 16 (fup (fup (fun _ => 0) 0 (Int32.ofNat q0)) 1 (Int32.ofNat q1)))), (a247, Ob Z "com/example/rankwise/rankwise/engine/Ranked" NSR [.ref a249, .double FP.dconst0]), (a249, Ia Z [])] := H311.pull 6 rfl
            have H313 : Hp n0 h271 [(ka246, Ia Z (lst 16 (fup (fup (fun _ => 0) 0 (Int32.ofNat q0)) 1 (Int32.ofNat q1)))), (ea246, Ia Z (lst 16 (fup (fup (fun _ => 0) 0 ((fun _ => -1) q0)) 1 ((fup (fun _ => -1) q0 (Int32.ofNat 0)) q1)))), (la246, Ia Z (lst 16 (adT (fup (fun _ => -1) q0 (Int32.ofNat 0)) (adT (fun _ => -1) (fun _ => 0) q0 0) q1 1))), (fb271, Ia Z (lst L271 (adF (fup (fun _ => -1) q0 (Int32.ofNat 0)) (adF (fun _ => -1) (fun _ => -1) q0 0) q1 1))), (gb271, Ia Z (lst L271 (fup (fup (fun _ => -1) q0 (Int32.ofNat 0)) q1 (Int32.ofNat 1)))), (a244, Ob Z "com/example/rankwise/rankwise/engine/KeptItems" NSI [.ref ia246, .ref ka246, .ref ea246, .ref la246, .int 2, .ref fb271, .ref gb271]), (ia246, Ra Z "com/example/rankwise/rankwise/engine/Ranked" (lst 16 (fup (fup (fun _ => Value.null) 0 (Value.ref a247)) 1 (Value.ref a247)))), (a247, Ob Z "com/example/rankwise/rankwise/engine/Ranked" NSR [.ref a249, .double FP.dconst0]), (a249, Ia Z [])] := H312.pull 6 rfl
            have H314 : Hp n0 h271 [(ia246, Ra Z "com/example/rankwise/rankwise/engine/Ranked" (lst 16 (fup (fup (fun _ => Value.null) 0 (Value.ref a247)) 1 (Value.ref a247)))), (ka246, Ia Z (lst 16 (fup (fup (fun _ => 0) 0 (Int32.ofNat q0)) 1 (Int32.ofNat q1)))), (ea246, Ia Z (lst 16 (fup (fup (fun _ => 0) 0 ((fun _ => -1) q0)) 1 ((fup (fun _ => -1) q0 (Int32.ofNat 0)) q1)))), (la246, Ia Z (lst 16 (adT (fup (fun _ => -1) q0 (Int32.ofNat 0)) (adT (fun _ => -1) (fun _ => 0) q0 0) q1 1))), (fb271, Ia Z (lst L271 (adF (fup (fun _ => -1) q0 (Int32.ofNat 0)) (adF (fun _ => -1) (fun _ => -1) q0 0) q1 1))), (gb271, Ia Z (lst L271 (fup (fup (fun _ => -1) q0 (Int32.ofNat 0)) q1 (Int32.ofNat 1)))), (a244, Ob Z "com/example/rankwise/rankwise/engine/KeptItems" NSI [.ref ia246, .ref ka246, .ref ea246, .ref la246, .int 2, .ref fb271, .ref gb271]), (a247, Ob Z "com/example/rankwise/rankwise/engine/Ranked" NSR [.ref a249, .double FP.dconst0]), (a249, Ia Z [])] := H313.pull 6 rfl
            have H315 : Hp n0 h271 [(a244, Ob Z "com/example/rankwise/rankwise/engine/KeptItems" NSI [.ref ia246, .ref ka246, .ref ea246, .ref la246, .int 2, .ref fb271, .ref gb271]), (ia246, Ra Z "com/example/rankwise/rankwise/engine/Ranked" (lst 16 (fup (fup (fun _ => Value.null) 0 (Value.ref a247)) 1 (Value.ref a247)))), (ka246, Ia Z (lst 16 (fup (fup (fun _ => 0) 0 (Int32.ofNat q0)) 1 (Int32.ofNat q1)))), (ea246, Ia Z (lst 16 (fup (fup (fun _ => 0) 0 ((fun _ => -1) q0)) 1 ((fup (fun _ => -1) q0 (Int32.ofNat 0)) q1)))), (la246, Ia Z (lst 16 (adT (fup (fun _ => -1) q0 (Int32.ofNat 0)) (adT (fun _ => -1) (fun _ => 0) q0 0) q1 1))), (fb271, Ia Z (lst L271 (adF (fup (fun _ => -1) q0 (Int32.ofNat 0)) (adF (fun _ => -1) (fun _ => -1) q0 0) q1 1))), (gb271, Ia Z (lst L271 (fup (fup (fun _ => -1) q0 (Int32.ofNat 0)) q1 (Int32.ofNat 1)))), (a247, Ob Z "com/example/rankwise/rankwise/engine/Ranked" NSR [.ref a249, .double FP.dconst0]), (a249, Ia Z [])] := H314.pull 6 rfl
            refine G.callV K hl (wd hw 35 rfl) (wd hw 36 rfl) (wd hw 38 rfl) (wd hw 37 rfl) (wd hw 2 rfl) (wd hw 39 rfl) (by decide) pd_6 (H315.exa (i := 0) rfl) (ct_first l Z a0 hw n0 h271 a244 ia246 ka246 ea246 la246 fb271 gb271 2 L271 qq (fup (fup (fun _ => Value.null) 0 (Value.ref a247)) 1 (Value.ref a247)) (fup (fup (fun _ => 0) 0 (Int32.ofNat q0)) 1 (Int32.ofNat q1)) (fup (fup (fun _ => 0) 0 ((fun _ => -1) q0)) 1 ((fup (fun _ => -1) q0 (Int32.ofNat 0)) q1)) (adT (fup (fun _ => -1) q0 (Int32.ofNat 0)) (adT (fun _ => -1) (fun _ => 0) q0 0) q1 1) (adF (fup (fun _ => -1) q0 (Int32.ofNat 0)) (adF (fun _ => -1) (fun _ => -1) q0 0) q1 1) (fup (fup (fun _ => -1) q0 (Int32.ofNat 0)) q1 (Int32.ofNat 1)) [(a247, Ob Z "com/example/rankwise/rankwise/engine/Ranked" NSR [.ref a249, .double FP.dconst0]), (a249, Ia Z [])] (by have := l3271; omega) (by omega) hF271 H315) 0 rfl (by decide) (by decide) (by decide) (by decide) rfl rfl [.int (Int32.ofNat qq)] rfl Dx_211 ?_
            rintro _ h316 ⟨rfl, H316⟩
            change G k n0 _ h316 _ _ 214 [.val (.int p0), .val (.int p1), .val (.int p2), .val (.int p3), .val (.int 2), .val (.int (Int32.ofNat q0)), .val (.int (Int32.ofNat q1)), .val (.int (Int32.ofNat q2)), .val (.int 0), .val (.int (Int32.ofNat qq)), .val (.ref a244), .val (.ref a247), .val (.int 2), .val (.int 0)] [.int ((adF (fup (fun _ => -1) q0 (Int32.ofNat 0)) (adF (fun _ => -1) (fun _ => -1) q0 0) q1 1) qq)]
            refine G.iload K Dx_214 rfl ?_
            rw [own_neq (by omega) (by omega)] at q277
            rw [own_neq (by omega) (by omega)] at q299
            have hf := fst_2_0 q0 q1 q2 qq
            rw [if_pos q299] at hf
            refine G.icmp_ne K Dx_216 (fun q => absurd hf q) (fun q317 => ?_)
            refine G.iconst K Dx_219 1 rfl ?_
            refine G.goto K Dx_220 ?_
            refine G.ret_bool K Dx_224 ?_
            exact rfl
      refine G.iloadN K Dx_46 rfl ?_
      refine G.iconst K Dx_47 1 rfl ?_
      refine G.iand K Dx_48 ?_
      refine G.if_eq K Dx_49 (fun q318 => ?_) (fun q318 => ?_)
      · refine G.iloadN K Dx_59 rfl ?_
        refine G.ldcI K Dx_60 (wd hw 40 rfl) ?_
        refine G.iand K Dx_62 ?_
        obtain ⟨u, hu, eu⟩ := own_msk p2
        rw [eu]
        exact T63 u hu
      · refine G.iloadN K Dx_52 rfl ?_
        refine G.bipush K Dx_53 15 rfl ?_
        refine G.iand K Dx_55 ?_
        refine G.goto K Dx_56 ?_
        obtain ⟨u, hu, eu⟩ := own_and_lt p2 15 (by decide)
        rw [show p2 &&& 15 = Int32.ofNat u from eu]
        exact T63 u (by omega)
    · refine G.iload K Dx_34 rfl ?_
      refine G.if_le K Dx_36 (fun q => absurd q (by decide)) (fun _ => ?_)
      refine G.iconst K Dx_39 1 rfl ?_
      refine G.goto K Dx_40 ?_
      refine G.istore K Dx_44 ([.val (.int p0), .val (.int p1), .val (.int p2), .val (.int p3), .val (.int 2), .val (.int (Int32.ofNat q0)), .val (.int (Int32.ofNat q1)), .val (.int (Int32.ofNat q2)), .val (.int 1), .unset, .unset, .unset, .unset, .unset]) rfl ?_
      have T63 : ∀ qq : Nat, qq < 2147483648 → G k n0 (fun v h' => v = some (.int 1)) h 0 0 63 [.val (.int p0), .val (.int p1), .val (.int p2), .val (.int p3), .val (.int 2), .val (.int (Int32.ofNat q0)), .val (.int (Int32.ofNat q1)), .val (.int (Int32.ofNat q2)), .val (.int 1), .unset, .unset, .unset, .unset, .unset] [.int (Int32.ofNat qq)] := by
        intro qq hqq
        refine G.istore K Dx_63 ([.val (.int p0), .val (.int p1), .val (.int p2), .val (.int p3), .val (.int 2), .val (.int (Int32.ofNat q0)), .val (.int (Int32.ofNat q1)), .val (.int (Int32.ofNat q2)), .val (.int 1), .val (.int (Int32.ofNat qq)), .unset, .unset, .unset, .unset]) rfl ?_
        refine G.new K (wd hw 0 rfl) (wd hw 1 rfl) (wd hw 2 rfl) (cf_NSI hw) (vs := [.null, .null, .null, .null, .int 0, .null, .null]) (by rfl) (Hp.nil (n0 := n0) (h := h)) (by decide) (by decide) Dx_65 ?_
        intro a320 h321 H321
        change Hp n0 h321 [(a320, Ob Z "com/example/rankwise/rankwise/engine/KeptItems" NSI [.null, .null, .null, .null, .int 0, .null, .null])] at H321
        refine G.dup K Dx_68 rfl ?_
        refine G.callI K hl rfl (wd hw 3 rfl) (wd hw 4 rfl) (wd hw 2 rfl) (wd hw 5 rfl) (by decide) pd_4 (ct_new l Z a0 hw n0 h321 a320 [] H321) 1 rfl (by decide) (by decide) (by decide) (by decide) rfl rfl [] rfl Dx_69 ?_
        rintro _ h322 ⟨rfl, ia322, ka322, ea322, la322, fa322, ga322, H322⟩
        change G k n0 _ h322 _ _ 72 [.val (.int p0), .val (.int p1), .val (.int p2), .val (.int p3), .val (.int 2), .val (.int (Int32.ofNat q0)), .val (.int (Int32.ofNat q1)), .val (.int (Int32.ofNat q2)), .val (.int 1), .val (.int (Int32.ofNat qq)), .unset, .unset, .unset, .unset] [.ref a320]
        refine G.astore K Dx_72 rfl ([.val (.int p0), .val (.int p1), .val (.int p2), .val (.int p3), .val (.int 2), .val (.int (Int32.ofNat q0)), .val (.int (Int32.ofNat q1)), .val (.int (Int32.ofNat q2)), .val (.int 1), .val (.int (Int32.ofNat qq)), .val (.ref a320), .unset, .unset, .unset]) rfl ?_
        refine G.new K (wd hw 24 rfl) (wd hw 25 rfl) (wd hw 26 rfl) (cf_NSR hw) (vs := [.null, .double 0]) (by rfl) H322 (by decide) (by decide) Dx_74 ?_
        intro a323 h324 H324
        change Hp n0 h324 [(a323, Ob Z "com/example/rankwise/rankwise/engine/Ranked" NSR [.null, .double 0]), (a320, Ob Z "com/example/rankwise/rankwise/engine/KeptItems" NSI [.ref ia322, .ref ka322, .ref ea322, .ref la322, .int 0, .ref fa322, .ref ga322]), (ia322, Ra Z "com/example/rankwise/rankwise/engine/Ranked" (lst 16 (fun _ => Value.null))), (ka322, Ia Z (lst 16 (fun _ => 0))), (ea322, Ia Z (lst 16 (fun _ => 0))), (la322, Ia Z (lst 16 (fun _ => 0))), (fa322, Ia Z (lst 0 (fun _ => -1))), (ga322, Ia Z (lst 0 (fun _ => -1)))] at H324
        refine G.dup K Dx_77 rfl ?_
        refine G.iconst K Dx_78 0 rfl ?_
        refine G.newarr_i K (wd hw 13 rfl) H324 (by decide) 0 (by decide) (by decide) (by decide) (by decide) Dx_79 ?_
        intro a325 h326 H326
        change Hp n0 h326 [(a325, Ia Z []), (a323, Ob Z "com/example/rankwise/rankwise/engine/Ranked" NSR [.null, .double 0]), (a320, Ob Z "com/example/rankwise/rankwise/engine/KeptItems" NSI [.ref ia322, .ref ka322, .ref ea322, .ref la322, .int 0, .ref fa322, .ref ga322]), (ia322, Ra Z "com/example/rankwise/rankwise/engine/Ranked" (lst 16 (fun _ => Value.null))), (ka322, Ia Z (lst 16 (fun _ => 0))), (ea322, Ia Z (lst 16 (fun _ => 0))), (la322, Ia Z (lst 16 (fun _ => 0))), (fa322, Ia Z (lst 0 (fun _ => -1))), (ga322, Ia Z (lst 0 (fun _ => -1)))] at H326
        refine G.dconst0 K Dx_81 ?_
        have H327 : Hp n0 h326 [(a323, Ob Z "com/example/rankwise/rankwise/engine/Ranked" NSR [.null, .double 0]), (a325, Ia Z []), (a320, Ob Z "com/example/rankwise/rankwise/engine/KeptItems" NSI [.ref ia322, .ref ka322, .ref ea322, .ref la322, .int 0, .ref fa322, .ref ga322]), (ia322, Ra Z "com/example/rankwise/rankwise/engine/Ranked" (lst 16 (fun _ => Value.null))), (ka322, Ia Z (lst 16 (fun _ => 0))), (ea322, Ia Z (lst 16 (fun _ => 0))), (la322, Ia Z (lst 16 (fun _ => 0))), (fa322, Ia Z (lst 0 (fun _ => -1))), (ga322, Ia Z (lst 0 (fun _ => -1)))] := H326.pull 1 rfl
        refine G.callI K hl rfl (wd hw 27 rfl) (wd hw 28 rfl) (wd hw 26 rfl) (wd hw 29 rfl) (by decide) pd_5 (ct_ranked l Z a0 hw n0 h326 a323 a325 FP.dconst0 [(a325, Ia Z []), (a320, Ob Z "com/example/rankwise/rankwise/engine/KeptItems" NSI [.ref ia322, .ref ka322, .ref ea322, .ref la322, .int 0, .ref fa322, .ref ga322]), (ia322, Ra Z "com/example/rankwise/rankwise/engine/Ranked" (lst 16 (fun _ => Value.null))), (ka322, Ia Z (lst 16 (fun _ => 0))), (ea322, Ia Z (lst 16 (fun _ => 0))), (la322, Ia Z (lst 16 (fun _ => 0))), (fa322, Ia Z (lst 0 (fun _ => -1))), (ga322, Ia Z (lst 0 (fun _ => -1)))] H327) 1 rfl (by decide) (by decide) (by decide) (by decide) rfl rfl [.double FP.dconst0, .ref a325] rfl Dx_82 ?_
        rintro _ h328 ⟨rfl, H328⟩
        change G k n0 _ h328 _ _ 85 [.val (.int p0), .val (.int p1), .val (.int p2), .val (.int p3), .val (.int 2), .val (.int (Int32.ofNat q0)), .val (.int (Int32.ofNat q1)), .val (.int (Int32.ofNat q2)), .val (.int 1), .val (.int (Int32.ofNat qq)), .val (.ref a320), .unset, .unset, .unset] [.ref a323]
        refine G.astore K Dx_85 rfl ([.val (.int p0), .val (.int p1), .val (.int p2), .val (.int p3), .val (.int 2), .val (.int (Int32.ofNat q0)), .val (.int (Int32.ofNat q1)), .val (.int (Int32.ofNat q2)), .val (.int 1), .val (.int (Int32.ofNat qq)), .val (.ref a320), .val (.ref a323), .unset, .unset]) rfl ?_
        refine G.iload K Dx_87 rfl ?_
        refine G.if_le K Dx_89 (fun q => absurd q (by decide)) (fun _ => ?_)
        refine G.aload K Dx_92 rfl rfl ?_
        refine G.iload K Dx_94 rfl ?_
        refine G.aload K Dx_96 rfl rfl ?_
        have H330 : Hp n0 h328 [(ga322, Ia Z (lst 0 (fun _ => -1))), (a323, Ob Z "com/example/rankwise/rankwise/engine/Ranked" NSR [.ref a325, .double FP.dconst0]), (a325, Ia Z []), (a320, Ob Z "com/example/rankwise/rankwise/engine/KeptItems" NSI [.ref ia322, .ref ka322, .ref ea322, .ref la322, .int 0, .ref fa322, .ref ga322]), (ia322, Ra Z "com/example/rankwise/rankwise/engine/Ranked" (lst 16 (fun _ => Value.null))), (ka322, Ia Z (lst 16 (fun _ => 0))), (ea322, Ia Z (lst 16 (fun _ => 0))), (la322, Ia Z (lst 16 (fun _ => 0))), (fa322, Ia Z (lst 0 (fun _ => -1)))] := H328.pull 8 rfl
        have H331 : Hp n0 h328 [(fa322, Ia Z (lst 0 (fun _ => -1))), (ga322, Ia Z (lst 0 (fun _ => -1))), (a323, Ob Z "com/example/rankwise/rankwise/engine/Ranked" NSR [.ref a325, .double FP.dconst0]), (a325, Ia Z []), (a320, Ob Z "com/example/rankwise/rankwise/engine/KeptItems" NSI [.ref ia322, .ref ka322, .ref ea322, .ref la322, .int 0, .ref fa322, .ref ga322]), (ia322, Ra Z "com/example/rankwise/rankwise/engine/Ranked" (lst 16 (fun _ => Value.null))), (ka322, Ia Z (lst 16 (fun _ => 0))), (ea322, Ia Z (lst 16 (fun _ => 0))), (la322, Ia Z (lst 16 (fun _ => 0)))] := H330.pull 8 rfl
        have H332 : Hp n0 h328 [(la322, Ia Z (lst 16 (fun _ => 0))), (fa322, Ia Z (lst 0 (fun _ => -1))), (ga322, Ia Z (lst 0 (fun _ => -1))), (a323, Ob Z "com/example/rankwise/rankwise/engine/Ranked" NSR [.ref a325, .double FP.dconst0]), (a325, Ia Z []), (a320, Ob Z "com/example/rankwise/rankwise/engine/KeptItems" NSI [.ref ia322, .ref ka322, .ref ea322, .ref la322, .int 0, .ref fa322, .ref ga322]), (ia322, Ra Z "com/example/rankwise/rankwise/engine/Ranked" (lst 16 (fun _ => Value.null))), (ka322, Ia Z (lst 16 (fun _ => 0))), (ea322, Ia Z (lst 16 (fun _ => 0)))] := H331.pull 8 rfl
        have H333 : Hp n0 h328 [(ea322, Ia Z (lst 16 (fun _ => 0))), (la322, Ia Z (lst 16 (fun _ => 0))), (fa322, Ia Z (lst 0 (fun _ => -1))), (ga322, Ia Z (lst 0 (fun _ => -1))), (a323, Ob Z "com/example/rankwise/rankwise/engine/Ranked" NSR [.ref a325, .double FP.dconst0]), (a325, Ia Z []), (a320, Ob Z "com/example/rankwise/rankwise/engine/KeptItems" NSI [.ref ia322, .ref ka322, .ref ea322, .ref la322, .int 0, .ref fa322, .ref ga322]), (ia322, Ra Z "com/example/rankwise/rankwise/engine/Ranked" (lst 16 (fun _ => Value.null))), (ka322, Ia Z (lst 16 (fun _ => 0)))] := H332.pull 8 rfl
        have H334 : Hp n0 h328 [(ka322, Ia Z (lst 16 (fun _ => 0))), (ea322, Ia Z (lst 16 (fun _ => 0))), (la322, Ia Z (lst 16 (fun _ => 0))), (fa322, Ia Z (lst 0 (fun _ => -1))), (ga322, Ia Z (lst 0 (fun _ => -1))), (a323, Ob Z "com/example/rankwise/rankwise/engine/Ranked" NSR [.ref a325, .double FP.dconst0]), (a325, Ia Z []), (a320, Ob Z "com/example/rankwise/rankwise/engine/KeptItems" NSI [.ref ia322, .ref ka322, .ref ea322, .ref la322, .int 0, .ref fa322, .ref ga322]), (ia322, Ra Z "com/example/rankwise/rankwise/engine/Ranked" (lst 16 (fun _ => Value.null)))] := H333.pull 8 rfl
        have H335 : Hp n0 h328 [(ia322, Ra Z "com/example/rankwise/rankwise/engine/Ranked" (lst 16 (fun _ => Value.null))), (ka322, Ia Z (lst 16 (fun _ => 0))), (ea322, Ia Z (lst 16 (fun _ => 0))), (la322, Ia Z (lst 16 (fun _ => 0))), (fa322, Ia Z (lst 0 (fun _ => -1))), (ga322, Ia Z (lst 0 (fun _ => -1))), (a323, Ob Z "com/example/rankwise/rankwise/engine/Ranked" NSR [.ref a325, .double FP.dconst0]), (a325, Ia Z []), (a320, Ob Z "com/example/rankwise/rankwise/engine/KeptItems" NSI [.ref ia322, .ref ka322, .ref ea322, .ref la322, .int 0, .ref fa322, .ref ga322])] := H334.pull 8 rfl
        have H336 : Hp n0 h328 [(a320, Ob Z "com/example/rankwise/rankwise/engine/KeptItems" NSI [.ref ia322, .ref ka322, .ref ea322, .ref la322, .int 0, .ref fa322, .ref ga322]), (ia322, Ra Z "com/example/rankwise/rankwise/engine/Ranked" (lst 16 (fun _ => Value.null))), (ka322, Ia Z (lst 16 (fun _ => 0))), (ea322, Ia Z (lst 16 (fun _ => 0))), (la322, Ia Z (lst 16 (fun _ => 0))), (fa322, Ia Z (lst 0 (fun _ => -1))), (ga322, Ia Z (lst 0 (fun _ => -1))), (a323, Ob Z "com/example/rankwise/rankwise/engine/Ranked" NSR [.ref a325, .double FP.dconst0]), (a325, Ia Z [])] := H335.pull 8 rfl
        refine G.callV K hl (wd hw 41 rfl) (wd hw 42 rfl) (wd hw 44 rfl) (wd hw 43 rfl) (wd hw 2 rfl) (wd hw 45 rfl) (by decide) pd_7 (H336.exa (i := 0) rfl) (ct_add l Z a0 hw n0 h328 a320 ia322 ka322 ea322 la322 fa322 ga322 a323 0 0 q0 (fun _ => Value.null) (fun _ => 0) (fun _ => 0) (fun _ => 0) (fun _ => -1) (fun _ => -1) [.ref a325, .double FP.dconst0] [(a325, Ia Z [])] (by decide) (by decide) (by omega) (fun _ _ => rfl) (fun _ _ => rfl) (fun _ => (Or.inl rfl : Ix 0 (-1))) H336) 0 rfl (by decide) (by decide) (by decide) (by decide) rfl rfl [.ref a323, .int (Int32.ofNat q0)] rfl Dx_98 ?_
        rintro _ h337 ⟨rfl, fb337, gb337, L337, l1337, l2337, l3337, H337⟩
        have hF337 : ∀ i, L337 ≤ i → (adF (fun _ => -1) (fun _ => -1) q0 0) i = -1 := adF_out (fun _ _ => rfl) l1337 l2337
        have hO337 : ∀ i, L337 ≤ i → (fup (fun _ => -1) q0 (Int32.ofNat 0)) i = -1 := fup_out (fun _ _ => rfl) l1337 l2337
        have hI337 : ∀ i, Ix 1 ((fup (fun _ => -1) q0 (Int32.ofNat 0)) i) := Ix_fup (fun _ => (Or.inl rfl : Ix 0 (-1)))
        change G k n0 _ h337 _ _ 101 [.val (.int p0), .val (.int p1), .val (.int p2), .val (.int p3), .val (.int 2), .val (.int (Int32.ofNat q0)), .val (.int (Int32.ofNat q1)), .val (.int (Int32.ofNat q2)), .val (.int 1), .val (.int (Int32.ofNat qq)), .val (.ref a320), .val (.ref a323), .unset, .unset] []
        refine G.iload K Dx_101 rfl ?_
        refine G.iconst K Dx_103 1 rfl ?_
        refine G.icmp_le K Dx_104 (fun q => absurd q (by decide)) (fun _ => ?_)
        refine G.aload K Dx_107 rfl rfl ?_
        refine G.iload K Dx_109 rfl ?_
        refine G.aload K Dx_111 rfl rfl ?_
        have H339 : Hp n0 h337 [(a323, Ob Z "com/example/rankwise/rankwise/engine/Ranked" NSR [.ref a325, .double FP.dconst0]), (a320, Ob Z "com/example/rankwise/rankwise/engine/KeptItems" NSI [.ref ia322, .ref ka322, .ref ea322, .ref la322, .int 1, .ref fb337, .ref gb337]), (ia322, Ra Z "com/example/rankwise/rankwise/engine/Ranked" (lst 16 (fup (fun _ => Value.null) 0 (Value.ref a323)))), (ka322, Ia Z (lst 16 (fup (fun _ => 0) 0 (Int32.ofNat q0)))), (ea322, Ia Z (lst 16 (fup (fun _ => 0) 0 ((fun _ => -1) q0)))), (la322, Ia Z (lst 16 (adT (fun _ => -1) (fun _ => 0) q0 0))), (fb337, Ia Z (lst L337 (adF (fun _ => -1) (fun _ => -1) q0 0))), (gb337, Ia Z (lst L337 (fup (fun _ => -1) q0 (Int32.ofNat 0)))), (a325, Ia Z [])] := H337.pull 7 rfl
        have H340 : Hp n0 h337 [(gb337, Ia Z (lst L337 (fup (fun _ => -1) q0 (Int32.ofNat 0)))), (a323, Ob Z "com/example/rankwise/rankwise/engine/Ranked" NSR [.ref a325, .double FP.dconst0]), (a320, Ob Z "com/example/rankwise/rankwise/engine/KeptItems" NSI [.ref ia322, .ref ka322, .ref ea322, .ref la322, .int 1, .ref fb337, .ref gb337]), (ia322, Ra Z "com/example/rankwise/rankwise/engine/Ranked" (lst 16 (fup (fun _ => Value.null) 0 (Value.ref a323)))), (ka322, Ia Z (lst 16 (fup (fun _ => 0) 0 (Int32.ofNat q0)))), (ea322, Ia Z (lst 16 (fup (fun _ => 0) 0 ((fun _ => -1) q0)))), (la322, Ia Z (lst 16 (adT (fun _ => -1) (fun _ => 0) q0 0))), (fb337, Ia Z (lst L337 (adF (fun _ => -1) (fun _ => -1) q0 0))), (a325, Ia Z [])] := H339.pull 7 rfl
        have H341 : Hp n0 h337 [(fb337, Ia Z (lst L337 (adF (fun _ => -1) (fun _ => -1) q0 0))), (gb337, Ia Z (lst L337 (fup (fun _ => -1) q0 (Int32.ofNat 0)))), (a323, Ob Z "com/example/rankwise/rankwise/engine/Ranked" NSR [.ref a325, .double FP.dconst0]), (a320, Ob Z "com/example/rankwise/rankwise/engine/KeptItems" NSI [.ref ia322, .ref ka322, .ref ea322, .ref la322, .int 1, .ref fb337, .ref gb337]), (ia322, Ra Z "com/example/rankwise/rankwise/engine/Ranked" (lst 16 (fup (fun _ => Value.null) 0 (Value.ref a323)))), (ka322, Ia Z (lst 16 (fup (fun _ => 0) 0 (Int32.ofNat q0)))), (ea322, Ia Z (lst 16 (fup (fun _ => 0) 0 ((fun _ => -1) q0)))), (la322, Ia Z (lst 16 (adT (fun _ => -1) (fun _ => 0) q0 0))), (a325, Ia Z [])] := H340.pull 7 rfl
        have H342 : Hp n0 h337 [(la322, Ia Z (lst 16 (adT (fun _ => -1) (fun _ => 0) q0 0))), (fb337, Ia Z (lst L337 (adF (fun _ => -1) (fun _ => -1) q0 0))), (gb337, Ia Z (lst L337 (fup (fun _ => -1) q0 (Int32.ofNat 0)))), (a323, Ob Z "com/example/rankwise/rankwise/engine/Ranked" NSR [.ref a325, .double FP.dconst0]), (a320, Ob Z "com/example/rankwise/rankwise/engine/KeptItems" NSI [.ref ia322, .ref ka322, .ref ea322, .ref la322, .int 1, .ref fb337, .ref gb337]), (ia322, Ra Z "com/example/rankwise/rankwise/engine/Ranked" (lst 16 (fup (fun _ => Value.null) 0 (Value.ref a323)))), (ka322, Ia Z (lst 16 (fup (fun _ => 0) 0 (Int32.ofNat q0)))), (ea322, Ia Z (lst 16 (fup (fun _ => 0) 0 ((fun _ => -1) q0)))), (a325, Ia Z [])] := H341.pull 7 rfl
        have H343 : Hp n0 h337 [(ea322, Ia Z (lst 16 (fup (fun _ => 0) 0 ((fun _ => -1) q0)))), (la322, Ia Z (lst 16 (adT (fun _ => -1) (fun _ => 0) q0 0))), (fb337, Ia Z (lst L337 (adF (fun _ => -1) (fun _ => -1) q0 0))), (gb337, Ia Z (lst L337 (fup (fun _ => -1) q0 (Int32.ofNat 0)))), (a323, Ob Z "com/example/rankwise/rankwise/engine/Ranked" NSR [.ref a325, .double FP.dconst0]), (a320, Ob Z "com/example/rankwise/rankwise/engine/KeptItems" NSI [.ref ia322, .ref ka322, .ref ea322, .ref la322, .int 1, .ref fb337, .ref gb337]), (ia322, Ra Z "com/example/rankwise/rankwise/engine/Ranked" (lst 16 (fup (fun _ => Value.null) 0 (Value.ref a323)))), (ka322, Ia Z (lst 16 (fup (fun _ => 0) 0 (Int32.ofNat q0)))), (a325, Ia Z [])] := H342.pull 7 rfl
        have H344 : Hp n0 h337 [(ka322, Ia Z (lst 16 (fup (fun _ => 0) 0 (Int32.ofNat q0)))), (ea322, Ia Z (lst 16 (fup (fun _ => 0) 0 ((fun _ => -1) q0)))), (la322, Ia Z (lst 16 (adT (fun _ => -1) (fun _ => 0) q0 0))), (fb337, Ia Z (lst L337 (adF (fun _ => -1) (fun _ => -1) q0 0))), (gb337, Ia Z (lst L337 (fup (fun _ => -1) q0 (Int32.ofNat 0)))), (a323, Ob Z "com/example/rankwise/rankwise/engine/Ranked" NSR [.ref a325, .double FP.dconst0]), (a320, Ob Z "com/example/rankwise/rankwise/engine/KeptItems" NSI [.ref ia322, .ref ka322, .ref ea322, .ref la322, .int 1, .ref fb337, .ref gb337]), (ia322, Ra Z "com/example/rankwise/rankwise/engine/Ranked" (lst 16 (fup (fun _ => Value.null) 0 (Value.ref a323)))), (a325, Ia Z [])] := H343.pull 7 rfl
        have H345 : Hp n0 h337 [(ia322, Ra Z "com/example/rankwise/rankwise/engine/Ranked" (lst 16 (fup (fun _ => Value.null) 0 (Value.ref a323)))), (ka322, Ia Z (lst 16 (fup (fun _ => 0) 0 (Int32.ofNat q0)))), (ea322, Ia Z (lst 16 (fup (fun _ => 0) 0 ((fun _ => -1) q0)))), (la322, Ia Z (lst 16 (adT (fun _ => -1) (fun _ => 0) q0 0))), (fb337, Ia Z (lst L337 (adF (fun _ => -1) (fun _ => -1) q0 0))), (gb337, Ia Z (lst L337 (fup (fun _ => -1) q0 (Int32.ofNat 0)))), (a323, Ob Z "com/example/rankwise/rankwise/engine/Ranked" NSR [.ref a325, .double FP.dconst0]), (a320, Ob Z "com/example/rankwise/rankwise/engine/KeptItems" NSI [.ref ia322, .ref ka322, .ref ea322, .ref la322, .int 1, .ref fb337, .ref gb337]), (a325, Ia Z [])] := H344.pull 7 rfl
        have H346 : Hp n0 h337 [(a320, Ob Z "com/example/rankwise/rankwise/engine/KeptItems" NSI [.ref ia322, .ref ka322, .ref ea322, .ref la322, .int 1, .ref fb337, .ref gb337]), (ia322, Ra Z "com/example/rankwise/rankwise/engine/Ranked" (lst 16 (fup (fun _ => Value.null) 0 (Value.ref a323)))), (ka322, Ia Z (lst 16 (fup (fun _ => 0) 0 (Int32.ofNat q0)))), (ea322, Ia Z (lst 16 (fup (fun _ => 0) 0 ((fun _ => -1) q0)))), (la322, Ia Z (lst 16 (adT (fun _ => -1) (fun _ => 0) q0 0))), (fb337, Ia Z (lst L337 (adF (fun _ => -1) (fun _ => -1) q0 0))), (gb337, Ia Z (lst L337 (fup (fun _ => -1) q0 (Int32.ofNat 0)))), (a323, Ob Z "com/example/rankwise/rankwise/engine/Ranked" NSR [.ref a325, .double FP.dconst0]), (a325, Ia Z [])] := H345.pull 7 rfl
        refine G.callV K hl (wd hw 41 rfl) (wd hw 42 rfl) (wd hw 44 rfl) (wd hw 43 rfl) (wd hw 2 rfl) (wd hw 45 rfl) (by decide) pd_7 (H346.exa (i := 0) rfl) (ct_add l Z a0 hw n0 h337 a320 ia322 ka322 ea322 la322 fb337 gb337 a323 1 L337 q1 (fup (fun _ => Value.null) 0 (Value.ref a323)) (fup (fun _ => 0) 0 (Int32.ofNat q0)) (fup (fun _ => 0) 0 ((fun _ => -1) q0)) (adT (fun _ => -1) (fun _ => 0) q0 0) (adF (fun _ => -1) (fun _ => -1) q0 0) (fup (fun _ => -1) q0 (Int32.ofNat 0)) [.ref a325, .double FP.dconst0] [(a325, Ia Z [])] (by decide) l3337 (by omega) hF337 hO337 hI337 H346) 0 rfl (by decide) (by decide) (by decide) (by decide) rfl rfl [.ref a323, .int (Int32.ofNat q1)] rfl Dx_113 ?_
        rintro _ h347 ⟨rfl, fb347, gb347, L347, l1347, l2347, l3347, H347⟩
        have hF347 : ∀ i, L347 ≤ i → (adF (fup (fun _ => -1) q0 (Int32.ofNat 0)) (adF (fun _ => -1) (fun _ => -1) q0 0) q1 1) i = -1 := adF_out hF337 l1347 l2347
        have hO347 : ∀ i, L347 ≤ i → (fup (fup (fun _ => -1) q0 (Int32.ofNat 0)) q1 (Int32.ofNat 1)) i = -1 := fup_out hO337 l1347 l2347
        have hI347 : ∀ i, Ix 2 ((fup (fup (fun _ => -1) q0 (Int32.ofNat 0)) q1 (Int32.ofNat 1)) i) := Ix_fup hI337
        change G k n0 _ h347 _ _ 116 [.val (.int p0), .val (.int p1), .val (.int p2), .val (.int p3), .val (.int 2), .val (.int (Int32.ofNat q0)), .val (.int (Int32.ofNat q1)), .val (.int (Int32.ofNat q2)), .val (.int 1), .val (.int (Int32.ofNat qq)), .val (.ref a320), .val (.ref a323), .unset, .unset] []
        refine G.iload K Dx_116 rfl ?_
        refine G.iconst K Dx_118 2 rfl ?_
        refine G.icmp_le K Dx_119 (fun _ => ?_) (fun q => absurd q (by decide))
        refine G.iload K Dx_131 rfl ?_
        refine G.if_eq K Dx_133 (fun q => absurd q (by decide)) (fun _ => ?_)
        refine G.aload K Dx_136 rfl rfl ?_
        have H350 : Hp n0 h347 [(gb347, Ia Z (lst L347 (fup (fup (fun _ => -1) q0 (Int32.ofNat 0)) q1 (Int32.ofNat 1)))), (a320, Ob Z "com/example/rankwise/rankwise/engine/KeptItems" NSI [.ref ia322, .ref ka322, .ref ea322, .ref la322, .int 2, .ref fb347, .ref gb347]), (ia322, Ra Z "com/example/rankwise/rankwise/engine/Ranked" (lst 16 (fup (fup (fun _ => Value.null) 0 (Value.ref a323)) 1 (Value.ref a323)))), (ka322, Ia Z (lst 16 (fup (fup (fun _ => 0) 0 (Int32.ofNat q0)) 1 (Int32.ofNat q1)))), (ea322, Ia Z (lst 16 (fup (fup (fun _ => 0) 0 ((fun _ => -1) q0)) 1 ((fup (fun _ => -1) q0 (Int32.ofNat 0)) q1)))), (la322, Ia Z (lst 16 (adT (fup (fun _ => -1) q0 (Int32.ofNat 0)) (adT (fun _ => -1) (fun _ => 0) q0 0) q1 1))), (fb347, Ia Z (lst L347 (adF (fup (fun _ => -1) q0 (Int32.ofNat 0)) (adF (fun _ => -1) (fun _ => -1) q0 0) q1 1))), (a323, Ob Z "com/example/rankwise/rankwise/engine/Ranked" NSR [.ref a325, .double FP.dconst0]), (a325, Ia Z [])] := H347.pull 6 rfl
        have H351 : Hp n0 h347 [(fb347, Ia Z (lst L347 (adF (fup (fun _ => -1) q0 (Int32.ofNat 0)) (adF (fun _ => -1) (fun _ => -1) q0 0) q1 1))), (gb347, Ia Z (lst L347 (fup (fup (fun _ => -1) q0 (Int32.ofNat 0)) q1 (Int32.ofNat 1)))), (a320, Ob Z "com/example/rankwise/rankwise/engine/KeptItems" NSI [.ref ia322, .ref ka322, .ref ea322, .ref la322, .int 2, .ref fb347, .ref gb347]), (ia322, Ra Z "com/example/rankwise/rankwise/engine/Ranked" (lst 16 (fup (fup (fun _ => Value.null) 0 (Value.ref a323)) 1 (Value.ref a323)))), (ka322, Ia Z (lst 16 (fup (fup (fun _ => 0) 0 (Int32.ofNat q0)) 1 (Int32.ofNat q1)))), (ea322, Ia Z (lst 16 (fup (fup (fun _ => 0) 0 ((fun _ => -1) q0)) 1 ((fup (fun _ => -1) q0 (Int32.ofNat 0)) q1)))), (la322, Ia Z (lst 16 (adT (fup (fun _ => -1) q0 (Int32.ofNat 0)) (adT (fun _ => -1) (fun _ => 0) q0 0) q1 1))), (a323, Ob Z "com/example/rankwise/rankwise/engine/Ranked" NSR [.ref a325, .double FP.dconst0]), (a325, Ia Z [])] := H350.pull 6 rfl
        have H352 : Hp n0 h347 [(la322, Ia Z (lst 16 (adT (fup (fun _ => -1) q0 (Int32.ofNat 0)) (adT (fun _ => -1) (fun _ => 0) q0 0) q1 1))), (fb347, Ia Z (lst L347 (adF (fup (fun _ => -1) q0 (Int32.ofNat 0)) (adF (fun _ => -1) (fun _ => -1) q0 0) q1 1))), (gb347, Ia Z (lst L347 (fup (fup (fun _ => -1) q0 (Int32.ofNat 0)) q1 (Int32.ofNat 1)))), (a320, Ob Z "com/example/rankwise/rankwise/engine/KeptItems" NSI [.ref ia322, .ref ka322, .ref ea322, .ref la322, .int 2, .ref fb347, .ref gb347]), (ia322, Ra Z "com/example/rankwise/rankwise/engine/Ranked" (lst 16 (fup (fup (fun _ => Value.null) 0 (Value.ref a323)) 1 (Value.ref a323)))), (ka322, Ia Z (lst 16 (fup (fup (fun _ => 0) 0 (Int32.ofNat q0)) 1 (Int32.ofNat q1)))), (ea322, Ia Z (lst 16 (fup (fup (fun _ => 0) 0 ((fun _ => -1) q0)) 1 ((fup (fun _ => -1) q0 (Int32.ofNat 0)) q1)))), (a323, Ob Z "com/example/rankwise/rankwise/engine/Ranked" NSR [.ref a325, .double FP.dconst0]), (a325, Ia Z [])] := H351.pull 6 rfl
        have H353 : Hp n0 h347 [(ea322, Ia Z (lst 16 (fup (fup (fun _ => 0) 0 ((fun _ => -1) q0)) 1 ((fup (fun _ => -1) q0 (Int32.ofNat 0)) q1)))), (la322, Ia Z (lst 16 (adT (fup (fun _ => -1) q0 (Int32.ofNat 0)) (adT (fun _ => -1) (fun _ => 0) q0 0) q1 1))), (fb347, Ia Z (lst L347 (adF (fup (fun _ => -1) q0 (Int32.ofNat 0)) (adF (fun _ => -1) (fun _ => -1) q0 0) q1 1))), (gb347, Ia Z (lst L347 (fup (fup (fun _ => -1) q0 (Int32.ofNat 0)) q1 (Int32.ofNat 1)))), (a320, Ob Z "com/example/rankwise/rankwise/engine/KeptItems" NSI [.ref ia322, .ref ka322, .ref ea322, .ref la322, .int 2, .ref fb347, .ref gb347]), (ia322, Ra Z "com/example/rankwise/rankwise/engine/Ranked" (lst 16 (fup (fup (fun _ => Value.null) 0 (Value.ref a323)) 1 (Value.ref a323)))), (ka322, Ia Z (lst 16 (fup (fup (fun _ => 0) 0 (Int32.ofNat q0)) 1 (Int32.ofNat q1)))), (a323, Ob Z "com/example/rankwise/rankwise/engine/Ranked" NSR [.ref a325, .double FP.dconst0]), (a325, Ia Z [])] := H352.pull 6 rfl
        have H354 : Hp n0 h347 [(ka322, Ia Z (lst 16 (fup (fup (fun _ => 0) 0 (Int32.ofNat q0)) 1 (Int32.ofNat q1)))), (ea322, Ia Z (lst 16 (fup (fup (fun _ => 0) 0 ((fun _ => -1) q0)) 1 ((fup (fun _ => -1) q0 (Int32.ofNat 0)) q1)))), (la322, Ia Z (lst 16 (adT (fup (fun _ => -1) q0 (Int32.ofNat 0)) (adT (fun _ => -1) (fun _ => 0) q0 0) q1 1))), (fb347, Ia Z (lst L347 (adF (fup (fun _ => -1) q0 (Int32.ofNat 0)) (adF (fun _ => -1) (fun _ => -1) q0 0) q1 1))), (gb347, Ia Z (lst L347 (fup (fup (fun _ => -1) q0 (Int32.ofNat 0)) q1 (Int32.ofNat 1)))), (a320, Ob Z "com/example/rankwise/rankwise/engine/KeptItems" NSI [.ref ia322, .ref ka322, .ref ea322, .ref la322, .int 2, .ref fb347, .ref gb347]), (ia322, Ra Z "com/example/rankwise/rankwise/engine/Ranked" (lst 16 (fup (fup (fun _ => Value.null) 0 (Value.ref a323)) 1 (Value.ref a323)))), (a323, Ob Z "com/example/rankwise/rankwise/engine/Ranked" NSR [.ref a325, .double FP.dconst0]), (a325, Ia Z [])] := H353.pull 6 rfl
        have H355 : Hp n0 h347 [(ia322, Ra Z "com/example/rankwise/rankwise/engine/Ranked" (lst 16 (fup (fup (fun _ => Value.null) 0 (Value.ref a323)) 1 (Value.ref a323)))), (ka322, Ia Z (lst 16 (fup (fup (fun _ => 0) 0 (Int32.ofNat q0)) 1 (Int32.ofNat q1)))), (ea322, Ia Z (lst 16 (fup (fup (fun _ => 0) 0 ((fun _ => -1) q0)) 1 ((fup (fun _ => -1) q0 (Int32.ofNat 0)) q1)))), (la322, Ia Z (lst 16 (adT (fup (fun _ => -1) q0 (Int32.ofNat 0)) (adT (fun _ => -1) (fun _ => 0) q0 0) q1 1))), (fb347, Ia Z (lst L347 (adF (fup (fun _ => -1) q0 (Int32.ofNat 0)) (adF (fun _ => -1) (fun _ => -1) q0 0) q1 1))), (gb347, Ia Z (lst L347 (fup (fup (fun _ => -1) q0 (Int32.ofNat 0)) q1 (Int32.ofNat 1)))), (a320, Ob Z "com/example/rankwise/rankwise/engine/KeptItems" NSI [.ref ia322, .ref ka322, .ref ea322, .ref la322, .int 2, .ref fb347, .ref gb347]), (a323, Ob Z "com/example/rankwise/rankwise/engine/Ranked" NSR [.ref a325, .double FP.dconst0]), (a325, Ia Z [])] := H354.pull 6 rfl
        have H356 : Hp n0 h347 [(a320, Ob Z "com/example/rankwise/rankwise/engine/KeptItems" NSI [.ref ia322, .ref ka322, .ref ea322, .ref la322, .int 2, .ref fb347, .ref gb347]), (ia322, Ra Z "com/example/rankwise/rankwise/engine/Ranked" (lst 16 (fup (fup (fun _ => Value.null) 0 (Value.ref a323)) 1 (Value.ref a323)))), (ka322, Ia Z (lst 16 (fup (fup (fun _ => 0) 0 (Int32.ofNat q0)) 1 (Int32.ofNat q1)))), (ea322, Ia Z (lst 16 (fup (fup (fun _ => 0) 0 ((fun _ => -1) q0)) 1 ((fup (fun _ => -1) q0 (Int32.ofNat 0)) q1)))), (la322, Ia Z (lst 16 (adT (fup (fun _ => -1) q0 (Int32.ofNat 0)) (adT (fun _ => -1) (fun _ => 0) q0 0) q1 1))), (fb347, Ia Z (lst L347 (adF (fup (fun _ => -1) q0 (Int32.ofNat 0)) (adF (fun _ => -1) (fun _ => -1) q0 0) q1 1))), (gb347, Ia Z (lst L347 (fup (fup (fun _ => -1) q0 (Int32.ofNat 0)) q1 (Int32.ofNat 1)))), (a323, Ob Z "com/example/rankwise/rankwise/engine/Ranked" NSR [.ref a325, .double FP.dconst0]), (a325, Ia Z [])] := H355.pull 6 rfl
        refine G.callV K hl (wd hw 70 rfl) (wd hw 71 rfl) (wd hw 73 rfl) (wd hw 72 rfl) (wd hw 2 rfl) (wd hw 74 rfl) (by decide) pd_4 (H356.exa (i := 0) rfl) (ct_drop l Z a0 hw n0 h347 a320 ia322 ka322 ea322 la322 fb347 gb347 1 L347 q1 ((fup (fun _ => -1) q0 (Int32.ofNat 0)) q1) (fup (fup (fun _ => Value.null) 0 (Value.ref a323)) 1 (Value.ref a323)) (fup (fup (fun _ => 0) 0 (Int32.ofNat q0)) 1 (Int32.ofNat q1)) (fup (fup (fun _ => 0) 0 ((fun _ => -1) q0)) 1 ((fup (fun _ => -1) q0 (Int32.ofNat 0)) q1)) (adT (fup (fun _ => -1) q0 (Int32.ofNat 0)) (adT (fun _ => -1) (fun _ => 0) q0 0) q1 1) (adF (fup (fun _ => -1) q0 (Int32.ofNat 0)) (adF (fun _ => -1) (fun _ => -1) q0 0) q1 1) (fup (fup (fun _ => -1) q0 (Int32.ofNat 0)) q1 (Int32.ofNat 1)) [(a323, Ob Z "com/example/rankwise/rankwise/engine/Ranked" NSR [.ref a325, .double FP.dconst0]), (a325, Ia Z [])] (by decide) l3347 l2347 rfl rfl (Ix_le (s := 1) (hI337 q1) (by decide)) H356) 0 rfl (by decide) (by decide) (by decide) (by decide) rfl rfl [] rfl Dx_138 ?_
        rintro _ h357 ⟨rfl, H357⟩
        have hF357 : ∀ i, L347 ≤ i → (drF ((fup (fun _ => -1) q0 (Int32.ofNat 0)) q1) (adF (fup (fun _ => -1) q0 (Int32.ofNat 0)) (adF (fun _ => -1) (fun _ => -1) q0 0) q1 1) q1) i = -1 := drF_out hF347 l2347
        have hO357 : ∀ i, L347 ≤ i → (fup (fup (fup (fun _ => -1) q0 (Int32.ofNat 0)) q1 (Int32.ofNat 1)) q1 ((fup (fun _ => -1) q0 (Int32.ofNat 0)) q1)) i = -1 := fup_out hO347 (Nat.le_refl _) l2347
        have hI357 : ∀ i, Ix 1 ((fup (fup (fup (fun _ => -1) q0 (Int32.ofNat 0)) q1 (Int32.ofNat 1)) q1 ((fup (fun _ => -1) q0 (Int32.ofNat 0)) q1)) i) := Ix_back hI337
        change G k n0 _ h357 _ _ 141 [.val (.int p0), .val (.int p1), .val (.int p2), .val (.int p3), .val (.int 2), .val (.int (Int32.ofNat q0)), .val (.int (Int32.ofNat q1)), .val (.int (Int32.ofNat q2)), .val (.int 1), .val (.int (Int32.ofNat qq)), .val (.ref a320), .val (.ref a323), .unset, .unset] []
        refine G.iload K Dx_141 rfl ?_
        refine G.if_eq K Dx_143 (fun q => absurd q (by decide)) (fun _ => ?_)
        refine G.iload K Dx_146 rfl ?_
        refine G.iconst K Dx_148 1 rfl ?_
        refine G.isub K Dx_149 ?_
        change G k n0 _ h357 _ _ 150 [.val (.int p0), .val (.int p1), .val (.int p2), .val (.int p3), .val (.int 2), .val (.int (Int32.ofNat q0)), .val (.int (Int32.ofNat q1)), .val (.int (Int32.ofNat q2)), .val (.int 1), .val (.int (Int32.ofNat qq)), .val (.ref a320), .val (.ref a323), .unset, .unset] [.int 1]
        refine G.goto K Dx_150 ?_
        refine G.istore K Dx_155 ([.val (.int p0), .val (.int p1), .val (.int p2), .val (.int p3), .val (.int 2), .val (.int (Int32.ofNat q0)), .val (.int (Int32.ofNat q1)), .val (.int (Int32.ofNat q2)), .val (.int 1), .val (.int (Int32.ofNat qq)), .val (.ref a320), .val (.ref a323), .val (.int 1), .unset]) rfl ?_
        refine G.iconst K Dx_157 (-1) rfl ?_
        refine G.istore K Dx_158 ([.val (.int p0), .val (.int p1), .val (.int p2), .val (.int p3), .val (.int 2), .val (.int (Int32.ofNat q0)), .val (.int (Int32.ofNat q1)), .val (.int (Int32.ofNat q2)), .val (.int 1), .val (.int (Int32.ofNat qq)), .val (.ref a320), .val (.ref a323), .val (.int 1), .val (.int (-1))]) rfl ?_
        refine G.iload K Dx_160 rfl ?_
        refine G.iconst K Dx_162 2 rfl ?_
        refine G.icmp_le K Dx_163 (fun _ => ?_) (fun q => absurd q (by decide))
        refine G.iload K Dx_176 rfl ?_
        refine G.iconst K Dx_178 1 rfl ?_
        refine G.icmp_le K Dx_179 (fun _ => ?_) (fun q => absurd q (by decide))
        refine G.iload K Dx_192 rfl ?_
        refine G.if_le K Dx_194 (fun q => absurd q (by decide)) (fun _ => ?_)
        refine G.iload K Dx_197 rfl ?_
        refine G.iload K Dx_199 rfl ?_
        refine G.icmp_ne K Dx_201 (fun q362 => ?_) (fun q362 => ?_)
        · refine G.aload K Dx_207 rfl rfl ?_
          refine G.iload K Dx_209 rfl ?_
          have H363 : Hp n0 h357 [(gb347, Ia Z (lst L347 (fup (fup (fup (fun _ => -1) q0 (Int32.ofNat 0)) q1 (Int32.ofNat 1)) q1 ((fup (fun _ => -1) q0 (Int32.ofNat 0)) q1)))), (a320, Ob Z "com/example/rankwise/rankwise/engine/KeptItems" NSI [.ref ia322, .ref ka322, .ref ea322, .ref la322, .int 1, .ref fb347, .ref gb347]), (ia322, Ra Z "com/example/rankwise/rankwise/engine/Ranked" (lst 16 (fup (fup (fup (fun _ => Value.null) 0 (Value.ref a323)) 1 (Value.ref a323)) 1 Value.null))), (ka322, Ia Z (lst 16 (fup (fup (fun _ => 0) 0 (Int32.ofNat q0)) 1 (Int32.ofNat q1)))), (ea322, Ia Z (lst 16 (fup (fup (fun _ => 0) 0 ((fun _ => -1) q0)) 1 ((fup (fun _ => -1) q0 (Int32.ofNat 0)) q1)))), (la322, Ia Z (lst 16 (drT ((fup (fun _ => -1) q0 (Int32.ofNat 0)) q1) (adT (fup (fun _ => -1) q0 (Int32.ofNat 0)) (adT (fun _ => -1) (fun _ => 0) q0 0) q1 1)))), (fb347, Ia Z (lst L347 (drF ((fup (fun _ => -1) q0 (Int32.ofNat 0)) q1) (adF (fup (fun _ => -1) q0 (Int32.ofNat 0)) (adF (fun _ => -1) (fun _ => -1) q0 0) q1 1) q1))), (a323, Ob Z "com/example/rankwise/rankwise/engine/Ranked" NSR [.ref a325, .double FP.dconst0]), (a325, Ia Z [])] := H357.pull 6 rfl
          have H364 : Hp n0 h357 [(fb347, Ia Z (lst L347 (drF ((fup (fun _ => -1) q0 (Int32.ofNat 0)) q1) (adF (fup (fun _ => -1) q0 (Int32.ofNat 0)) (adF (fun _ => -1) (fun _ => -1) q0 0) q1 1) q1))), (gb347, Ia Z (lst L347 (fup (fup (fup (fun _ => -1) q0 (Int32.ofNat 0)) q1 (Int32.ofNat 1)) q1 ((fup (fun _ => -1) q0 (Int32.ofNat 0)) q1)))), (a320, Ob Z "com/example/rankwise/rankwise/engine/KeptItems" NSI [.ref ia322, .ref ka322, .ref ea322, .ref la322, .int 1, .ref fb347, .ref gb347]), (ia322, Ra Z "com/example/rankwise/rankwise/engine/Ranked" (lst 16 (fup (fup (fup (fun _ => Value.null) 0 (Value.ref a323)) 1 (Value.ref a323)) 1 Value.null))), (ka322, Ia Z (lst 16 (fup (fup (fun _ => 0) 0 (Int32.ofNat q0)) 1 (Int32.ofNat q1)))), (ea322, Ia Z (lst 16 (fup (fup (fun _ => 0) 0 ((fun _ => -1) q0)) 1 ((fup (fun _ => -1) q0 (Int32.ofNat 0)) q1)))), (la322, Ia Z (lst 16 (drT ((fup (fun _ => -1) q0 (Int32.ofNat 0)) q1) (adT (fup (fun _ => -1) q0 (Int32.ofNat 0)) (adT (fun _ => -1) (fun _ => 0) q0 0) q1 1)))), (a323, Ob Z "com/example/rankwise/rankwise/engine/Ranked" NSR [.ref a325, .double FP.dconst0]), (a325, Ia Z [])] := H363.pull 6 rfl
          have H365 : Hp n0 h357 [(la322, Ia Z (lst 16 (drT ((fup (fun _ => -1) q0 (Int32.ofNat 0)) q1) (adT (fup (fun _ => -1) q0 (Int32.ofNat 0)) (adT (fun _ => -1) (fun _ => 0) q0 0) q1 1)))), (fb347, Ia Z (lst L347 (drF ((fup (fun _ => -1) q0 (Int32.ofNat 0)) q1) (adF (fup (fun _ => -1) q0 (Int32.ofNat 0)) (adF (fun _ => -1) (fun _ => -1) q0 0) q1 1) q1))), (gb347, Ia Z (lst L347 (fup (fup (fup (fun _ => -1) q0 (Int32.ofNat 0)) q1 (Int32.ofNat 1)) q1 ((fup (fun _ => -1) q0 (Int32.ofNat 0)) q1)))), (a320, Ob Z "com/example/rankwise/rankwise/engine/KeptItems" NSI [.ref ia322, .ref ka322, .ref ea322, .ref la322, .int 1, .ref fb347, .ref gb347]), (ia322, Ra Z "com/example/rankwise/rankwise/engine/Ranked" (lst 16 (fup (fup (fup (fun _ => Value.null) 0 (Value.ref a323)) 1 (Value.ref a323)) 1 Value.null))), (ka322, Ia Z (lst 16 (fup (fup (fun _ => 0) 0 (Int32.ofNat q0)) 1 (Int32.ofNat q1)))), (ea322, Ia Z (lst 16 (fup (fup (fun _ => 0) 0 ((fun _ => -1) q0)) 1 ((fup (fun _ => -1) q0 (Int32.ofNat 0)) q1)))), (a323, Ob Z "com/example/rankwise/rankwise/engine/Ranked" NSR [.ref a325, .double FP.dconst0]), (a325, Ia Z [])] := H364.pull 6 rfl
          have H366 : Hp n0 h357 [(ea322, Ia Z (lst 16 (fup (fup (fun _ => 0) 0 ((fun _ => -1) q0)) 1 ((fup (fun _ => -1) q0 (Int32.ofNat 0)) q1)))), (la322, Ia Z (lst 16 (drT ((fup (fun _ => -1) q0 (Int32.ofNat 0)) q1) (adT (fup (fun _ => -1) q0 (Int32.ofNat 0)) (adT (fun _ => -1) (fun _ => 0) q0 0) q1 1)))), (fb347, Ia Z (lst L347 (drF ((fup (fun _ => -1) q0 (Int32.ofNat 0)) q1) (adF (fup (fun _ => -1) q0 (Int32.ofNat 0)) (adF (fun _ => -1) (fun _ => -1) q0 0) q1 1) q1))), (gb347, Ia Z (lst L347 (fup (fup (fup (fun _ => -1) q0 (Int32.ofNat 0)) q1 (Int32.ofNat 1)) q1 ((fup (fun _ => -1) q0 (Int32.ofNat 0)) q1)))), (a320, Ob Z "com/example/rankwise/rankwise/engine/KeptItems" NSI [.ref ia322, .ref ka322, .ref ea322, .ref la322, .int 1, .ref fb347, .ref gb347]), (ia322, Ra Z "com/example/rankwise/rankwise/engine/Ranked" (lst 16 (fup (fup (fup (fun _ => Value.null) 0 (Value.ref a323)) 1 (Value.ref a323)) 1 Value.null))), (ka322, Ia Z (lst 16 (fup (fup (fun _ => 0) 0 (Int32.ofNat q0)) 1 (Int32.ofNat q1)))), (a323, Ob Z "com/example/rankwise/rankwise/engine/Ranked" NSR [.ref a325, .double FP.dconst0]), (a325, Ia Z [])] := H365.pull 6 rfl
          have H367 : Hp n0 h357 [(ka322, Ia Z (lst 16 (fup (fup (fun _ => 0) 0 (Int32.ofNat q0)) 1 (Int32.ofNat q1)))), (ea322, Ia Z (lst 16 (fup (fup (fun _ => 0) 0 ((fun _ => -1) q0)) 1 ((fup (fun _ => -1) q0 (Int32.ofNat 0)) q1)))), (la322, Ia Z (lst 16 (drT ((fup (fun _ => -1) q0 (Int32.ofNat 0)) q1) (adT (fup (fun _ => -1) q0 (Int32.ofNat 0)) (adT (fun _ => -1) (fun _ => 0) q0 0) q1 1)))), (fb347, Ia Z (lst L347 (drF ((fup (fun _ => -1) q0 (Int32.ofNat 0)) q1) (adF (fup (fun _ => -1) q0 (Int32.ofNat 0)) (adF (fun _ => -1) (fun _ => -1) q0 0) q1 1) q1))), (gb347, Ia Z (lst L347 (fup (fup (fup (fun _ => -1) q0 (Int32.ofNat 0)) q1 (Int32.ofNat 1)) q1 ((fup (fun _ => -1) q0 (Int32.ofNat 0)) q1)))), (a320, Ob Z "com/example/rankwise/rankwise/engine/KeptItems" NSI [.ref ia322, .ref ka322, .ref ea322, .ref la322, .int 1, .ref fb347, .ref gb347]), (ia322, Ra Z "com/example/rankwise/rankwise/engine/Ranked" (lst 16 (fup (fup (fup (fun _ => Value.null) 0 (Value.ref a323)) 1 (Value.ref a323)) 1 Value.null))), (a323, Ob Z "com/example/rankwise/rankwise/engine/Ranked" NSR [.ref a325, .double FP.dconst0]), (a325, Ia Z [])] := H366.pull 6 rfl
          have H368 : Hp n0 h357 [(ia322, Ra Z "com/example/rankwise/rankwise/engine/Ranked" (lst 16 (fup (fup (fup (fun _ => Value.null) 0 (Value.ref a323)) 1 (Value.ref a323)) 1 Value.null))), (ka322, Ia Z (lst 16 (fup (fup (fun _ => 0) 0 (Int32.ofNat q0)) 1 (Int32.ofNat q1)))), (ea322, Ia Z (lst 16 (fup (fup (fun _ => 0) 0 ((fun _ => -1) q0)) 1 ((fup (fun _ => -1) q0 (Int32.ofNat 0)) q1)))), (la322, Ia Z (lst 16 (drT ((fup (fun _ => -1) q0 (Int32.ofNat 0)) q1) (adT (fup (fun _ => -1) q0 (Int32.ofNat 0)) (adT (fun _ => -1) (fun _ => 0) q0 0) q1 1)))), (fb347, Ia Z (lst L347 (drF ((fup (fun _ => -1) q0 (Int32.ofNat 0)) q1) (adF (fup (fun _ => -1) q0 (Int32.ofNat 0)) (adF (fun _ => -1) (fun _ => -1) q0 0) q1 1) q1))), (gb347, Ia Z (lst L347 (fup (fup (fup (fun _ => -1) q0 (Int32.ofNat 0)) q1 (Int32.ofNat 1)) q1 ((fup (fun _ => -1) q0 (Int32.ofNat 0)) q1)))), (a320, Ob Z "com/example/rankwise/rankwise/engine/KeptItems" NSI [.ref ia322, .ref ka322, .ref ea322, .ref la322, .int 1, .ref fb347, .ref gb347]), (a323, Ob Z "com/example/rankwise/rankwise/engine/Ranked" NSR [.ref a325, .double FP.dconst0]), (a325, Ia Z [])] := H367.pull 6 rfl
          have H369 : Hp n0 h357 [(a320, Ob Z "com/example/rankwise/rankwise/engine/KeptItems" NSI [.ref ia322, .ref ka322, .ref ea322, .ref la322, .int 1, .ref fb347, .ref gb347]), (ia322, Ra Z "com/example/rankwise/rankwise/engine/Ranked" (lst 16 (fup (fup (fup (fun _ => Value.null) 0 (Value.ref a323)) 1 (Value.ref a323)) 1 Value.null))), (ka322, Ia Z (lst 16 (fup (fup (fun _ => 0) 0 (Int32.ofNat q0)) 1 (Int32.ofNat q1)))), (ea322, Ia Z (lst 16 (fup (fup (fun _ => 0) 0 ((fun _ => -1) q0)) 1 ((fup (fun _ => -1) q0 (Int32.ofNat 0)) q1)))), (la322, Ia Z (lst 16 (drT ((fup (fun _ => -1) q0 (Int32.ofNat 0)) q1) (adT (fup (fun _ => -1) q0 (Int32.ofNat 0)) (adT (fun _ => -1) (fun _ => 0) q0 0) q1 1)))), (fb347, Ia Z (lst L347 (drF ((fup (fun _ => -1) q0 (Int32.ofNat 0)) q1) (adF (fup (fun _ => -1) q0 (Int32.ofNat 0)) (adF (fun _ => -1) (fun _ => -1) q0 0) q1 1) q1))), (gb347, Ia Z (lst L347 (fup (fup (fup (fun _ => -1) q0 (Int32.ofNat 0)) q1 (Int32.ofNat 1)) q1 ((fup (fun _ => -1) q0 (Int32.ofNat 0)) q1)))), (a323, Ob Z "com/example/rankwise/rankwise/engine/Ranked" NSR [.ref a325, .double FP.dconst0]), (a325, Ia Z [])] := H368.pull 6 rfl
          refine G.callV K hl (wd hw 35 rfl) (wd hw 36 rfl) (wd hw 38 rfl) (wd hw 37 rfl) (wd hw 2 rfl) (wd hw 39 rfl) (by decide) pd_6 (H369.exa (i := 0) rfl) (ct_first l Z a0 hw n0 h357 a320 ia322 ka322 ea322 la322 fb347 gb347 1 L347 qq (fup (fup (fup (fun _ => Value.null) 0 (Value.ref a323)) 1 (Value.ref a323)) 1 Value.null) (fup (fup (fun _ => 0) 0 (Int32.ofNat q0)) 1 (Int32.ofNat q1)) (fup (fup (fun _ => 0) 0 ((fun _ => -1) q0)) 1 ((fup (fun _ => -1) q0 (Int32.ofNat 0)) q1)) (drT ((fup (fun _ => -1) q0 (Int32.ofNat 0)) q1) (adT (fup (fun _ => -1) q0 (Int32.ofNat 0)) (adT (fun _ => -1) (fun _ => 0) q0 0) q1 1)) (drF ((fup (fun _ => -1) q0 (Int32.ofNat 0)) q1) (adF (fup (fun _ => -1) q0 (Int32.ofNat 0)) (adF (fun _ => -1) (fun _ => -1) q0 0) q1 1) q1) (fup (fup (fup (fun _ => -1) q0 (Int32.ofNat 0)) q1 (Int32.ofNat 1)) q1 ((fup (fun _ => -1) q0 (Int32.ofNat 0)) q1)) [(a323, Ob Z "com/example/rankwise/rankwise/engine/Ranked" NSR [.ref a325, .double FP.dconst0]), (a325, Ia Z [])] (by have := l3347; omega) (by omega) hF357 H369) 0 rfl (by decide) (by decide) (by decide) (by decide) rfl rfl [.int (Int32.ofNat qq)] rfl Dx_211 ?_
          rintro _ h370 ⟨rfl, H370⟩
          change G k n0 _ h370 _ _ 214 [.val (.int p0), .val (.int p1), .val (.int p2), .val (.int p3), .val (.int 2), .val (.int (Int32.ofNat q0)), .val (.int (Int32.ofNat q1)), .val (.int (Int32.ofNat q2)), .val (.int 1), .val (.int (Int32.ofNat qq)), .val (.ref a320), .val (.ref a323), .val (.int 1), .val (.int (-1))] [.int ((drF ((fup (fun _ => -1) q0 (Int32.ofNat 0)) q1) (adF (fup (fun _ => -1) q0 (Int32.ofNat 0)) (adF (fun _ => -1) (fun _ => -1) q0 0) q1 1) q1) qq)]
          refine G.iload K Dx_214 rfl ?_
          rw [own_neq (by omega) (by omega)] at q362
          have hf := fst_2_1 q0 q1 q2 qq
          rw [if_neg q362] at hf
          refine G.icmp_ne K Dx_216 (fun q => absurd hf q) (fun q371 => ?_)
          refine G.iconst K Dx_219 1 rfl ?_
          refine G.goto K Dx_220 ?_
          refine G.ret_bool K Dx_224 ?_
          exact rfl
        · refine G.iconst K Dx_204 0 rfl ?_
          refine G.istore K Dx_205 ([.val (.int p0), .val (.int p1), .val (.int p2), .val (.int p3), .val (.int 2), .val (.int (Int32.ofNat q0)), .val (.int (Int32.ofNat q1)), .val (.int (Int32.ofNat q2)), .val (.int 1), .val (.int (Int32.ofNat qq)), .val (.ref a320), .val (.ref a323), .val (.int 1), .val (.int 0)]) rfl ?_
          refine G.aload K Dx_207 rfl rfl ?_
          refine G.iload K Dx_209 rfl ?_
          have H372 : Hp n0 h357 [(gb347, Ia Z (lst L347 (fup (fup (fup (fun _ => -1) q0 (Int32.ofNat 0)) q1 (Int32.ofNat 1)) q1 ((fup (fun _ => -1) q0 (Int32.ofNat 0)) q1)))), (a320, Ob Z "com/example/rankwise/rankwise/engine/KeptItems" NSI [.ref ia322, .ref ka322, .ref ea322, .ref la322, .int 1, .ref fb347, .ref gb347]), (ia322, Ra Z "com/example/rankwise/rankwise/engine/Ranked" (lst 16 (fup (fup (fup (fun _ => Value.null) 0 (Value.ref a323)) 1 (Value.ref a323)) 1 Value.null))), (ka322, Ia Z (lst 16 (fup (fup (fun _ => 0) 0 (Int32.ofNat q0)) 1 (Int32.ofNat q1)))), (ea322, Ia Z (lst 16 (fup (fup (fun _ => 0) 0 ((fun _ => -1) q0)) 1 ((fup (fun _ => -1) q0 (Int32.ofNat 0)) q1)))), (la322, Ia Z (lst 16 (drT ((fup (fun _ => -1) q0 (Int32.ofNat 0)) q1) (adT (fup (fun _ => -1) q0 (Int32.ofNat 0)) (adT (fun _ => -1) (fun _ => 0) q0 0) q1 1)))), (fb347, Ia Z (lst L347 (drF ((fup (fun _ => -1) q0 (Int32.ofNat 0)) q1) (adF (fup (fun _ => -1) q0 (Int32.ofNat 0)) (adF (fun _ => -1) (fun _ => -1) q0 0) q1 1) q1))), (a323, Ob Z "com/example/rankwise/rankwise/engine/Ranked" NSR [.ref a325, .double FP.dconst0]), (a325, Ia Z [])] := H357.pull 6 rfl
          have H373 : Hp n0 h357 [(fb347, Ia Z (lst L347 (drF ((fup (fun _ => -1) q0 (Int32.ofNat 0)) q1) (adF (fup (fun _ => -1) q0 (Int32.ofNat 0)) (adF (fun _ => -1) (fun _ => -1) q0 0) q1 1) q1))), (gb347, Ia Z (lst L347 (fup (fup (fup (fun _ => -1) q0 (Int32.ofNat 0)) q1 (Int32.ofNat 1)) q1 ((fup (fun _ => -1) q0 (Int32.ofNat 0)) q1)))), (a320, Ob Z "com/example/rankwise/rankwise/engine/KeptItems" NSI [.ref ia322, .ref ka322, .ref ea322, .ref la322, .int 1, .ref fb347, .ref gb347]), (ia322, Ra Z "com/example/rankwise/rankwise/engine/Ranked" (lst 16 (fup (fup (fup (fun _ => Value.null) 0 (Value.ref a323)) 1 (Value.ref a323)) 1 Value.null))), (ka322, Ia Z (lst 16 (fup (fup (fun _ => 0) 0 (Int32.ofNat q0)) 1 (Int32.ofNat q1)))), (ea322, Ia Z (lst 16 (fup (fup (fun _ => 0) 0 ((fun _ => -1) q0)) 1 ((fup (fun _ => -1) q0 (Int32.ofNat 0)) q1)))), (la322, Ia Z (lst 16 (drT ((fup (fun _ => -1) q0 (Int32.ofNat 0)) q1) (adT (fup (fun _ => -1) q0 (Int32.ofNat 0)) (adT (fun _ => -1) (fun _ => 0) q0 0) q1 1)))), (a323, Ob Z "com/example/rankwise/rankwise/engine/Ranked" NSR [.ref a325, .double FP.dconst0]), (a325, Ia Z [])] := H372.pull 6 rfl
          have H374 : Hp n0 h357 [(la322, Ia Z (lst 16 (drT ((fup (fun _ => -1) q0 (Int32.ofNat 0)) q1) (adT (fup (fun _ => -1) q0 (Int32.ofNat 0)) (adT (fun _ => -1) (fun _ => 0) q0 0) q1 1)))), (fb347, Ia Z (lst L347 (drF ((fup (fun _ => -1) q0 (Int32.ofNat 0)) q1) (adF (fup (fun _ => -1) q0 (Int32.ofNat 0)) (adF (fun _ => -1) (fun _ => -1) q0 0) q1 1) q1))), (gb347, Ia Z (lst L347 (fup (fup (fup (fun _ => -1) q0 (Int32.ofNat 0)) q1 (Int32.ofNat 1)) q1 ((fup (fun _ => -1) q0 (Int32.ofNat 0)) q1)))), (a320, Ob Z "com/example/rankwise/rankwise/engine/KeptItems" NSI [.ref ia322, .ref ka322, .ref ea322, .ref la322, .int 1, .ref fb347, .ref gb347]), (ia322, Ra Z "com/example/rankwise/rankwise/engine/Ranked" (lst 16 (fup (fup (fup (fun _ => Value.null) 0 (Value.ref a323)) 1 (Value.ref a323)) 1 Value.null))), (ka322, Ia Z (lst 16 (fup (fup (fun _ => 0) 0 (Int32.ofNat q0)) 1 (Int32.ofNat q1)))), (ea322, Ia Z (lst 16 (fup (fup (fun _ => 0) 0 ((fun _ => -1) q0)) 1 ((fup (fun _ => -1) q0 (Int32.ofNat 0)) q1)))), (a323, Ob Z "com/example/rankwise/rankwise/engine/Ranked" NSR [.ref a325, .double FP.dconst0]), (a325, Ia Z [])] := H373.pull 6 rfl
          have H375 : Hp n0 h357 [(ea322, Ia Z (lst 16 (fup (fup (fun _ => 0) 0 ((fun _ => -1) q0)) 1 ((fup (fun _ => -1) q0 (Int32.ofNat 0)) q1)))), (la322, Ia Z (lst 16 (drT ((fup (fun _ => -1) q0 (Int32.ofNat 0)) q1) (adT (fup (fun _ => -1) q0 (Int32.ofNat 0)) (adT (fun _ => -1) (fun _ => 0) q0 0) q1 1)))), (fb347, Ia Z (lst L347 (drF ((fup (fun _ => -1) q0 (Int32.ofNat 0)) q1) (adF (fup (fun _ => -1) q0 (Int32.ofNat 0)) (adF (fun _ => -1) (fun _ => -1) q0 0) q1 1) q1))), (gb347, Ia Z (lst L347 (fup (fup (fup (fun _ => -1) q0 (Int32.ofNat 0)) q1 (Int32.ofNat 1)) q1 ((fup (fun _ => -1) q0 (Int32.ofNat 0)) q1)))), (a320, Ob Z "com/example/rankwise/rankwise/engine/KeptItems" NSI [.ref ia322, .ref ka322, .ref ea322, .ref la322, .int 1, .ref fb347, .ref gb347]), (ia322, Ra Z "com/example/rankwise/rankwise/engine/Ranked" (lst 16 (fup (fup (fup (fun _ => Value.null) 0 (Value.ref a323)) 1 (Value.ref a323)) 1 Value.null))), (ka322, Ia Z (lst 16 (fup (fup (fun _ => 0) 0 (Int32.ofNat q0)) 1 (Int32.ofNat q1)))), (a323, Ob Z "com/example/rankwise/rankwise/engine/Ranked" NSR [.ref a325, .double FP.dconst0]), (a325, Ia Z [])] := H374.pull 6 rfl
          have H376 : Hp n0 h357 [(ka322, Ia Z (lst 16 (fup (fup (fun _ => 0) 0 (Int32.ofNat q0)) 1 (Int32.ofNat q1)))), (ea322, Ia Z (lst 16 (fup (fup (fun _ => 0) 0 ((fun _ => -1) q0)) 1 ((fup (fun _ => -1) q0 (Int32.ofNat 0)) q1)))), (la322, Ia Z (lst 16 (drT ((fup (fun _ => -1) q0 (Int32.ofNat 0)) q1) (adT (fup (fun _ => -1) q0 (Int32.ofNat 0)) (adT (fun _ => -1) (fun _ => 0) q0 0) q1 1)))), (fb347, Ia Z (lst L347 (drF ((fup (fun _ => -1) q0 (Int32.ofNat 0)) q1) (adF (fup (fun _ => -1) q0 (Int32.ofNat 0)) (adF (fun _ => -1) (fun _ => -1) q0 0) q1 1) q1))), (gb347, Ia Z (lst L347 (fup (fup (fup (fun _ => -1) q0 (Int32.ofNat 0)) q1 (Int32.ofNat 1)) q1 ((fup (fun _ => -1) q0 (Int32.ofNat 0)) q1)))), (a320, Ob Z "com/example/rankwise/rankwise/engine/KeptItems" NSI [.ref ia322, .ref ka322, .ref ea322, .ref la322, .int 1, .ref fb347, .ref gb347]), (ia322, Ra Z "com/example/rankwise/rankwise/engine/Ranked" (lst 16 (fup (fup (fup (fun _ => Value.null) 0 (Value.ref a323)) 1 (Value.ref a323)) 1 Value.null))), (a323, Ob Z "com/example/rankwise/rankwise/engine/Ranked" NSR [.ref a325, .double FP.dconst0]), (a325, Ia Z [])] := H375.pull 6 rfl
          have H377 : Hp n0 h357 [(ia322, Ra Z "com/example/rankwise/rankwise/engine/Ranked" (lst 16 (fup (fup (fup (fun _ => Value.null) 0 (Value.ref a323)) 1 (Value.ref a323)) 1 Value.null))), (ka322, Ia Z (lst 16 (fup (fup (fun _ => 0) 0 (Int32.ofNat q0)) 1 (Int32.ofNat q1)))), (ea322, Ia Z (lst 16 (fup (fup (fun _ => 0) 0 ((fun _ => -1) q0)) 1 ((fup (fun _ => -1) q0 (Int32.ofNat 0)) q1)))), (la322, Ia Z (lst 16 (drT ((fup (fun _ => -1) q0 (Int32.ofNat 0)) q1) (adT (fup (fun _ => -1) q0 (Int32.ofNat 0)) (adT (fun _ => -1) (fun _ => 0) q0 0) q1 1)))), (fb347, Ia Z (lst L347 (drF ((fup (fun _ => -1) q0 (Int32.ofNat 0)) q1) (adF (fup (fun _ => -1) q0 (Int32.ofNat 0)) (adF (fun _ => -1) (fun _ => -1) q0 0) q1 1) q1))), (gb347, Ia Z (lst L347 (fup (fup (fup (fun _ => -1) q0 (Int32.ofNat 0)) q1 (Int32.ofNat 1)) q1 ((fup (fun _ => -1) q0 (Int32.ofNat 0)) q1)))), (a320, Ob Z "com/example/rankwise/rankwise/engine/KeptItems" NSI [.ref ia322, .ref ka322, .ref ea322, .ref la322, .int 1, .ref fb347, .ref gb347]), (a323, Ob Z "com/example/rankwise/rankwise/engine/Ranked" NSR [.ref a325, .double FP.dconst0]), (a325, Ia Z [])] := H376.pull 6 rfl
          have H378 : Hp n0 h357 [(a320, Ob Z "com/example/rankwise/rankwise/engine/KeptItems" NSI [.ref ia322, .ref ka322, .ref ea322, .ref la322, .int 1, .ref fb347, .ref gb347]), (ia322, Ra Z "com/example/rankwise/rankwise/engine/Ranked" (lst 16 (fup (fup (fup (fun _ => Value.null) 0 (Value.ref a323)) 1 (Value.ref a323)) 1 Value.null))), (ka322, Ia Z (lst 16 (fup (fup (fun _ => 0) 0 (Int32.ofNat q0)) 1 (Int32.ofNat q1)))), (ea322, Ia Z (lst 16 (fup (fup (fun _ => 0) 0 ((fun _ => -1) q0)) 1 ((fup (fun _ => -1) q0 (Int32.ofNat 0)) q1)))), (la322, Ia Z (lst 16 (drT ((fup (fun _ => -1) q0 (Int32.ofNat 0)) q1) (adT (fup (fun _ => -1) q0 (Int32.ofNat 0)) (adT (fun _ => -1) (fun _ => 0) q0 0) q1 1)))), (fb347, Ia Z (lst L347 (drF ((fup (fun _ => -1) q0 (Int32.ofNat 0)) q1) (adF (fup (fun _ => -1) q0 (Int32.ofNat 0)) (adF (fun _ => -1) (fun _ => -1) q0 0) q1 1) q1))), (gb347, Ia Z (lst L347 (fup (fup (fup (fun _ => -1) q0 (Int32.ofNat 0)) q1 (Int32.ofNat 1)) q1 ((fup (fun _ => -1) q0 (Int32.ofNat 0)) q1)))), (a323, Ob Z "com/example/rankwise/rankwise/engine/Ranked" NSR [.ref a325, .double FP.dconst0]), (a325, Ia Z [])] := H377.pull 6 rfl
          refine G.callV K hl (wd hw 35 rfl) (wd hw 36 rfl) (wd hw 38 rfl) (wd hw 37 rfl) (wd hw 2 rfl) (wd hw 39 rfl) (by decide) pd_6 (H378.exa (i := 0) rfl) (ct_first l Z a0 hw n0 h357 a320 ia322 ka322 ea322 la322 fb347 gb347 1 L347 qq (fup (fup (fup (fun _ => Value.null) 0 (Value.ref a323)) 1 (Value.ref a323)) 1 Value.null) (fup (fup (fun _ => 0) 0 (Int32.ofNat q0)) 1 (Int32.ofNat q1)) (fup (fup (fun _ => 0) 0 ((fun _ => -1) q0)) 1 ((fup (fun _ => -1) q0 (Int32.ofNat 0)) q1)) (drT ((fup (fun _ => -1) q0 (Int32.ofNat 0)) q1) (adT (fup (fun _ => -1) q0 (Int32.ofNat 0)) (adT (fun _ => -1) (fun _ => 0) q0 0) q1 1)) (drF ((fup (fun _ => -1) q0 (Int32.ofNat 0)) q1) (adF (fup (fun _ => -1) q0 (Int32.ofNat 0)) (adF (fun _ => -1) (fun _ => -1) q0 0) q1 1) q1) (fup (fup (fup (fun _ => -1) q0 (Int32.ofNat 0)) q1 (Int32.ofNat 1)) q1 ((fup (fun _ => -1) q0 (Int32.ofNat 0)) q1)) [(a323, Ob Z "com/example/rankwise/rankwise/engine/Ranked" NSR [.ref a325, .double FP.dconst0]), (a325, Ia Z [])] (by have := l3347; omega) (by omega) hF357 H378) 0 rfl (by decide) (by decide) (by decide) (by decide) rfl rfl [.int (Int32.ofNat qq)] rfl Dx_211 ?_
          rintro _ h379 ⟨rfl, H379⟩
          change G k n0 _ h379 _ _ 214 [.val (.int p0), .val (.int p1), .val (.int p2), .val (.int p3), .val (.int 2), .val (.int (Int32.ofNat q0)), .val (.int (Int32.ofNat q1)), .val (.int (Int32.ofNat q2)), .val (.int 1), .val (.int (Int32.ofNat qq)), .val (.ref a320), .val (.ref a323), .val (.int 1), .val (.int 0)] [.int ((drF ((fup (fun _ => -1) q0 (Int32.ofNat 0)) q1) (adF (fup (fun _ => -1) q0 (Int32.ofNat 0)) (adF (fun _ => -1) (fun _ => -1) q0 0) q1 1) q1) qq)]
          refine G.iload K Dx_214 rfl ?_
          rw [own_neq (by omega) (by omega)] at q362
          have hf := fst_2_1 q0 q1 q2 qq
          rw [if_pos q362] at hf
          refine G.icmp_ne K Dx_216 (fun q => absurd hf q) (fun q380 => ?_)
          refine G.iconst K Dx_219 1 rfl ?_
          refine G.goto K Dx_220 ?_
          refine G.ret_bool K Dx_224 ?_
          exact rfl
      refine G.iloadN K Dx_46 rfl ?_
      refine G.iconst K Dx_47 1 rfl ?_
      refine G.iand K Dx_48 ?_
      refine G.if_eq K Dx_49 (fun q381 => ?_) (fun q381 => ?_)
      · refine G.iloadN K Dx_59 rfl ?_
        refine G.ldcI K Dx_60 (wd hw 40 rfl) ?_
        refine G.iand K Dx_62 ?_
        obtain ⟨u, hu, eu⟩ := own_msk p2
        rw [eu]
        exact T63 u hu
      · refine G.iloadN K Dx_52 rfl ?_
        refine G.bipush K Dx_53 15 rfl ?_
        refine G.iand K Dx_55 ?_
        refine G.goto K Dx_56 ?_
        obtain ⟨u, hu, eu⟩ := own_and_lt p2 15 (by decide)
        rw [show p2 &&& 15 = Int32.ofNat u from eu]
        exact T63 u (by omega)
  · change G k n0 _ h _ _ 3 [.val (.int p0), .val (.int p1), .val (.int p2), .val (.int p3), .unset, .unset, .unset, .unset, .unset, .unset, .unset, .unset, .unset, .unset] [.int 3]
    refine G.istore K Dx_3 ([.val (.int p0), .val (.int p1), .val (.int p2), .val (.int p3), .val (.int 3), .unset, .unset, .unset, .unset, .unset, .unset, .unset, .unset, .unset]) rfl ?_
    refine G.iloadN K Dx_5 rfl ?_
    refine G.bipush K Dx_6 7 rfl ?_
    refine G.iand K Dx_8 ?_
    obtain ⟨q0, hq0, eq0⟩ := own_and_lt p1 7 (by decide)
    rw [show p1 &&& 7 = Int32.ofNat q0 from eq0]
    refine G.istore K Dx_9 ([.val (.int p0), .val (.int p1), .val (.int p2), .val (.int p3), .val (.int 3), .val (.int (Int32.ofNat q0)), .unset, .unset, .unset, .unset, .unset, .unset, .unset, .unset]) rfl ?_
    refine G.iloadN K Dx_11 rfl ?_
    refine G.iconst K Dx_12 3 rfl ?_
    refine G.iushr K Dx_13 ?_
    refine G.bipush K Dx_14 7 rfl ?_
    refine G.iand K Dx_16 ?_
    obtain ⟨q1, hq1, eq1⟩ := own_and_lt (XT.ushr p1 3) 7 (by decide)
    rw [show XT.ushr p1 3 &&& 7 = Int32.ofNat q1 from eq1]
    refine G.istore K Dx_17 ([.val (.int p0), .val (.int p1), .val (.int p2), .val (.int p3), .val (.int 3), .val (.int (Int32.ofNat q0)), .val (.int (Int32.ofNat q1)), .unset, .unset, .unset, .unset, .unset, .unset, .unset]) rfl ?_
    refine G.iloadN K Dx_19 rfl ?_
    refine G.bipush K Dx_20 6 rfl ?_
    refine G.iushr K Dx_22 ?_
    refine G.bipush K Dx_23 7 rfl ?_
    refine G.iand K Dx_25 ?_
    obtain ⟨q2, hq2, eq2⟩ := own_and_lt (XT.ushr p1 6) 7 (by decide)
    rw [show XT.ushr p1 6 &&& 7 = Int32.ofNat q2 from eq2]
    refine G.istore K Dx_26 ([.val (.int p0), .val (.int p1), .val (.int p2), .val (.int p3), .val (.int 3), .val (.int (Int32.ofNat q0)), .val (.int (Int32.ofNat q1)), .val (.int (Int32.ofNat q2)), .unset, .unset, .unset, .unset, .unset, .unset]) rfl ?_
    refine G.iloadN K Dx_28 rfl ?_
    refine G.iconst K Dx_29 2 rfl ?_
    refine G.iand K Dx_30 ?_
    refine G.if_eq K Dx_31 (fun q382 => ?_) (fun q382 => ?_)
    · refine G.iconst K Dx_43 0 rfl ?_
      refine G.istore K Dx_44 ([.val (.int p0), .val (.int p1), .val (.int p2), .val (.int p3), .val (.int 3), .val (.int (Int32.ofNat q0)), .val (.int (Int32.ofNat q1)), .val (.int (Int32.ofNat q2)), .val (.int 0), .unset, .unset, .unset, .unset, .unset]) rfl ?_
      have T63 : ∀ qq : Nat, qq < 2147483648 → G k n0 (fun v h' => v = some (.int 1)) h 0 0 63 [.val (.int p0), .val (.int p1), .val (.int p2), .val (.int p3), .val (.int 3), .val (.int (Int32.ofNat q0)), .val (.int (Int32.ofNat q1)), .val (.int (Int32.ofNat q2)), .val (.int 0), .unset, .unset, .unset, .unset, .unset] [.int (Int32.ofNat qq)] := by
        intro qq hqq
        refine G.istore K Dx_63 ([.val (.int p0), .val (.int p1), .val (.int p2), .val (.int p3), .val (.int 3), .val (.int (Int32.ofNat q0)), .val (.int (Int32.ofNat q1)), .val (.int (Int32.ofNat q2)), .val (.int 0), .val (.int (Int32.ofNat qq)), .unset, .unset, .unset, .unset]) rfl ?_
        refine G.new K (wd hw 0 rfl) (wd hw 1 rfl) (wd hw 2 rfl) (cf_NSI hw) (vs := [.null, .null, .null, .null, .int 0, .null, .null]) (by rfl) (Hp.nil (n0 := n0) (h := h)) (by decide) (by decide) Dx_65 ?_
        intro a383 h384 H384
        change Hp n0 h384 [(a383, Ob Z "com/example/rankwise/rankwise/engine/KeptItems" NSI [.null, .null, .null, .null, .int 0, .null, .null])] at H384
        refine G.dup K Dx_68 rfl ?_
        refine G.callI K hl rfl (wd hw 3 rfl) (wd hw 4 rfl) (wd hw 2 rfl) (wd hw 5 rfl) (by decide) pd_4 (ct_new l Z a0 hw n0 h384 a383 [] H384) 1 rfl (by decide) (by decide) (by decide) (by decide) rfl rfl [] rfl Dx_69 ?_
        rintro _ h385 ⟨rfl, ia385, ka385, ea385, la385, fa385, ga385, H385⟩
        change G k n0 _ h385 _ _ 72 [.val (.int p0), .val (.int p1), .val (.int p2), .val (.int p3), .val (.int 3), .val (.int (Int32.ofNat q0)), .val (.int (Int32.ofNat q1)), .val (.int (Int32.ofNat q2)), .val (.int 0), .val (.int (Int32.ofNat qq)), .unset, .unset, .unset, .unset] [.ref a383]
        refine G.astore K Dx_72 rfl ([.val (.int p0), .val (.int p1), .val (.int p2), .val (.int p3), .val (.int 3), .val (.int (Int32.ofNat q0)), .val (.int (Int32.ofNat q1)), .val (.int (Int32.ofNat q2)), .val (.int 0), .val (.int (Int32.ofNat qq)), .val (.ref a383), .unset, .unset, .unset]) rfl ?_
        refine G.new K (wd hw 24 rfl) (wd hw 25 rfl) (wd hw 26 rfl) (cf_NSR hw) (vs := [.null, .double 0]) (by rfl) H385 (by decide) (by decide) Dx_74 ?_
        intro a386 h387 H387
        change Hp n0 h387 [(a386, Ob Z "com/example/rankwise/rankwise/engine/Ranked" NSR [.null, .double 0]), (a383, Ob Z "com/example/rankwise/rankwise/engine/KeptItems" NSI [.ref ia385, .ref ka385, .ref ea385, .ref la385, .int 0, .ref fa385, .ref ga385]), (ia385, Ra Z "com/example/rankwise/rankwise/engine/Ranked" (lst 16 (fun _ => Value.null))), (ka385, Ia Z (lst 16 (fun _ => 0))), (ea385, Ia Z (lst 16 (fun _ => 0))), (la385, Ia Z (lst 16 (fun _ => 0))), (fa385, Ia Z (lst 0 (fun _ => -1))), (ga385, Ia Z (lst 0 (fun _ => -1)))] at H387
        refine G.dup K Dx_77 rfl ?_
        refine G.iconst K Dx_78 0 rfl ?_
        refine G.newarr_i K (wd hw 13 rfl) H387 (by decide) 0 (by decide) (by decide) (by decide) (by decide) Dx_79 ?_
        intro a388 h389 H389
        change Hp n0 h389 [(a388, Ia Z []), (a386, Ob Z "com/example/rankwise/rankwise/engine/Ranked" NSR [.null, .double 0]), (a383, Ob Z "com/example/rankwise/rankwise/engine/KeptItems" NSI [.ref ia385, .ref ka385, .ref ea385, .ref la385, .int 0, .ref fa385, .ref ga385]), (ia385, Ra Z "com/example/rankwise/rankwise/engine/Ranked" (lst 16 (fun _ => Value.null))), (ka385, Ia Z (lst 16 (fun _ => 0))), (ea385, Ia Z (lst 16 (fun _ => 0))), (la385, Ia Z (lst 16 (fun _ => 0))), (fa385, Ia Z (lst 0 (fun _ => -1))), (ga385, Ia Z (lst 0 (fun _ => -1)))] at H389
        refine G.dconst0 K Dx_81 ?_
        have H390 : Hp n0 h389 [(a386, Ob Z "com/example/rankwise/rankwise/engine/Ranked" NSR [.null, .double 0]), (a388, Ia Z []), (a383, Ob Z "com/example/rankwise/rankwise/engine/KeptItems" NSI [.ref ia385, .ref ka385, .ref ea385, .ref la385, .int 0, .ref fa385, .ref ga385]), (ia385, Ra Z "com/example/rankwise/rankwise/engine/Ranked" (lst 16 (fun _ => Value.null))), (ka385, Ia Z (lst 16 (fun _ => 0))), (ea385, Ia Z (lst 16 (fun _ => 0))), (la385, Ia Z (lst 16 (fun _ => 0))), (fa385, Ia Z (lst 0 (fun _ => -1))), (ga385, Ia Z (lst 0 (fun _ => -1)))] := H389.pull 1 rfl
        refine G.callI K hl rfl (wd hw 27 rfl) (wd hw 28 rfl) (wd hw 26 rfl) (wd hw 29 rfl) (by decide) pd_5 (ct_ranked l Z a0 hw n0 h389 a386 a388 FP.dconst0 [(a388, Ia Z []), (a383, Ob Z "com/example/rankwise/rankwise/engine/KeptItems" NSI [.ref ia385, .ref ka385, .ref ea385, .ref la385, .int 0, .ref fa385, .ref ga385]), (ia385, Ra Z "com/example/rankwise/rankwise/engine/Ranked" (lst 16 (fun _ => Value.null))), (ka385, Ia Z (lst 16 (fun _ => 0))), (ea385, Ia Z (lst 16 (fun _ => 0))), (la385, Ia Z (lst 16 (fun _ => 0))), (fa385, Ia Z (lst 0 (fun _ => -1))), (ga385, Ia Z (lst 0 (fun _ => -1)))] H390) 1 rfl (by decide) (by decide) (by decide) (by decide) rfl rfl [.double FP.dconst0, .ref a388] rfl Dx_82 ?_
        rintro _ h391 ⟨rfl, H391⟩
        change G k n0 _ h391 _ _ 85 [.val (.int p0), .val (.int p1), .val (.int p2), .val (.int p3), .val (.int 3), .val (.int (Int32.ofNat q0)), .val (.int (Int32.ofNat q1)), .val (.int (Int32.ofNat q2)), .val (.int 0), .val (.int (Int32.ofNat qq)), .val (.ref a383), .unset, .unset, .unset] [.ref a386]
        refine G.astore K Dx_85 rfl ([.val (.int p0), .val (.int p1), .val (.int p2), .val (.int p3), .val (.int 3), .val (.int (Int32.ofNat q0)), .val (.int (Int32.ofNat q1)), .val (.int (Int32.ofNat q2)), .val (.int 0), .val (.int (Int32.ofNat qq)), .val (.ref a383), .val (.ref a386), .unset, .unset]) rfl ?_
        refine G.iload K Dx_87 rfl ?_
        refine G.if_le K Dx_89 (fun q => absurd q (by decide)) (fun _ => ?_)
        refine G.aload K Dx_92 rfl rfl ?_
        refine G.iload K Dx_94 rfl ?_
        refine G.aload K Dx_96 rfl rfl ?_
        have H393 : Hp n0 h391 [(ga385, Ia Z (lst 0 (fun _ => -1))), (a386, Ob Z "com/example/rankwise/rankwise/engine/Ranked" NSR [.ref a388, .double FP.dconst0]), (a388, Ia Z []), (a383, Ob Z "com/example/rankwise/rankwise/engine/KeptItems" NSI [.ref ia385, .ref ka385, .ref ea385, .ref la385, .int 0, .ref fa385, .ref ga385]), (ia385, Ra Z "com/example/rankwise/rankwise/engine/Ranked" (lst 16 (fun _ => Value.null))), (ka385, Ia Z (lst 16 (fun _ => 0))), (ea385, Ia Z (lst 16 (fun _ => 0))), (la385, Ia Z (lst 16 (fun _ => 0))), (fa385, Ia Z (lst 0 (fun _ => -1)))] := H391.pull 8 rfl
        have H394 : Hp n0 h391 [(fa385, Ia Z (lst 0 (fun _ => -1))), (ga385, Ia Z (lst 0 (fun _ => -1))), (a386, Ob Z "com/example/rankwise/rankwise/engine/Ranked" NSR [.ref a388, .double FP.dconst0]), (a388, Ia Z []), (a383, Ob Z "com/example/rankwise/rankwise/engine/KeptItems" NSI [.ref ia385, .ref ka385, .ref ea385, .ref la385, .int 0, .ref fa385, .ref ga385]), (ia385, Ra Z "com/example/rankwise/rankwise/engine/Ranked" (lst 16 (fun _ => Value.null))), (ka385, Ia Z (lst 16 (fun _ => 0))), (ea385, Ia Z (lst 16 (fun _ => 0))), (la385, Ia Z (lst 16 (fun _ => 0)))] := H393.pull 8 rfl
        have H395 : Hp n0 h391 [(la385, Ia Z (lst 16 (fun _ => 0))), (fa385, Ia Z (lst 0 (fun _ => -1))), (ga385, Ia Z (lst 0 (fun _ => -1))), (a386, Ob Z "com/example/rankwise/rankwise/engine/Ranked" NSR [.ref a388, .double FP.dconst0]), (a388, Ia Z []), (a383, Ob Z "com/example/rankwise/rankwise/engine/KeptItems" NSI [.ref ia385, .ref ka385, .ref ea385, .ref la385, .int 0, .ref fa385, .ref ga385]), (ia385, Ra Z "com/example/rankwise/rankwise/engine/Ranked" (lst 16 (fun _ => Value.null))), (ka385, Ia Z (lst 16 (fun _ => 0))), (ea385, Ia Z (lst 16 (fun _ => 0)))] := H394.pull 8 rfl
        have H396 : Hp n0 h391 [(ea385, Ia Z (lst 16 (fun _ => 0))), (la385, Ia Z (lst 16 (fun _ => 0))), (fa385, Ia Z (lst 0 (fun _ => -1))), (ga385, Ia Z (lst 0 (fun _ => -1))), (a386, Ob Z "com/example/rankwise/rankwise/engine/Ranked" NSR [.ref a388, .double FP.dconst0]), (a388, Ia Z []), (a383, Ob Z "com/example/rankwise/rankwise/engine/KeptItems" NSI [.ref ia385, .ref ka385, .ref ea385, .ref la385, .int 0, .ref fa385, .ref ga385]), (ia385, Ra Z "com/example/rankwise/rankwise/engine/Ranked" (lst 16 (fun _ => Value.null))), (ka385, Ia Z (lst 16 (fun _ => 0)))] := H395.pull 8 rfl
        have H397 : Hp n0 h391 [(ka385, Ia Z (lst 16 (fun _ => 0))), (ea385, Ia Z (lst 16 (fun _ => 0))), (la385, Ia Z (lst 16 (fun _ => 0))), (fa385, Ia Z (lst 0 (fun _ => -1))), (ga385, Ia Z (lst 0 (fun _ => -1))), (a386, Ob Z "com/example/rankwise/rankwise/engine/Ranked" NSR [.ref a388, .double FP.dconst0]), (a388, Ia Z []), (a383, Ob Z "com/example/rankwise/rankwise/engine/KeptItems" NSI [.ref ia385, .ref ka385, .ref ea385, .ref la385, .int 0, .ref fa385, .ref ga385]), (ia385, Ra Z "com/example/rankwise/rankwise/engine/Ranked" (lst 16 (fun _ => Value.null)))] := H396.pull 8 rfl
        have H398 : Hp n0 h391 [(ia385, Ra Z "com/example/rankwise/rankwise/engine/Ranked" (lst 16 (fun _ => Value.null))), (ka385, Ia Z (lst 16 (fun _ => 0))), (ea385, Ia Z (lst 16 (fun _ => 0))), (la385, Ia Z (lst 16 (fun _ => 0))), (fa385, Ia Z (lst 0 (fun _ => -1))), (ga385, Ia Z (lst 0 (fun _ => -1))), (a386, Ob Z "com/example/rankwise/rankwise/engine/Ranked" NSR [.ref a388, .double FP.dconst0]), (a388, Ia Z []), (a383, Ob Z "com/example/rankwise/rankwise/engine/KeptItems" NSI [.ref ia385, .ref ka385, .ref ea385, .ref la385, .int 0, .ref fa385, .ref ga385])] := H397.pull 8 rfl
        have H399 : Hp n0 h391 [(a383, Ob Z "com/example/rankwise/rankwise/engine/KeptItems" NSI [.ref ia385, .ref ka385, .ref ea385, .ref la385, .int 0, .ref fa385, .ref ga385]), (ia385, Ra Z "com/example/rankwise/rankwise/engine/Ranked" (lst 16 (fun _ => Value.null))), (ka385, Ia Z (lst 16 (fun _ => 0))), (ea385, Ia Z (lst 16 (fun _ => 0))), (la385, Ia Z (lst 16 (fun _ => 0))), (fa385, Ia Z (lst 0 (fun _ => -1))), (ga385, Ia Z (lst 0 (fun _ => -1))), (a386, Ob Z "com/example/rankwise/rankwise/engine/Ranked" NSR [.ref a388, .double FP.dconst0]), (a388, Ia Z [])] := H398.pull 8 rfl
        refine G.callV K hl (wd hw 41 rfl) (wd hw 42 rfl) (wd hw 44 rfl) (wd hw 43 rfl) (wd hw 2 rfl) (wd hw 45 rfl) (by decide) pd_7 (H399.exa (i := 0) rfl) (ct_add l Z a0 hw n0 h391 a383 ia385 ka385 ea385 la385 fa385 ga385 a386 0 0 q0 (fun _ => Value.null) (fun _ => 0) (fun _ => 0) (fun _ => 0) (fun _ => -1) (fun _ => -1) [.ref a388, .double FP.dconst0] [(a388, Ia Z [])] (by decide) (by decide) (by omega) (fun _ _ => rfl) (fun _ _ => rfl) (fun _ => (Or.inl rfl : Ix 0 (-1))) H399) 0 rfl (by decide) (by decide) (by decide) (by decide) rfl rfl [.ref a386, .int (Int32.ofNat q0)] rfl Dx_98 ?_
        rintro _ h400 ⟨rfl, fb400, gb400, L400, l1400, l2400, l3400, H400⟩
        have hF400 : ∀ i, L400 ≤ i → (adF (fun _ => -1) (fun _ => -1) q0 0) i = -1 := adF_out (fun _ _ => rfl) l1400 l2400
        have hO400 : ∀ i, L400 ≤ i → (fup (fun _ => -1) q0 (Int32.ofNat 0)) i = -1 := fup_out (fun _ _ => rfl) l1400 l2400
        have hI400 : ∀ i, Ix 1 ((fup (fun _ => -1) q0 (Int32.ofNat 0)) i) := Ix_fup (fun _ => (Or.inl rfl : Ix 0 (-1)))
        change G k n0 _ h400 _ _ 101 [.val (.int p0), .val (.int p1), .val (.int p2), .val (.int p3), .val (.int 3), .val (.int (Int32.ofNat q0)), .val (.int (Int32.ofNat q1)), .val (.int (Int32.ofNat q2)), .val (.int 0), .val (.int (Int32.ofNat qq)), .val (.ref a383), .val (.ref a386), .unset, .unset] []
        refine G.iload K Dx_101 rfl ?_
        refine G.iconst K Dx_103 1 rfl ?_
        refine G.icmp_le K Dx_104 (fun q => absurd q (by decide)) (fun _ => ?_)
        refine G.aload K Dx_107 rfl rfl ?_
        refine G.iload K Dx_109 rfl ?_
        refine G.aload K Dx_111 rfl rfl ?_
        have H402 : Hp n0 h400 [(a386, Ob Z "com/example/rankwise/rankwise/engine/Ranked" NSR [.ref a388, .double FP.dconst0]), (a383, Ob Z "com/example/rankwise/rankwise/engine/KeptItems" NSI [.ref ia385, .ref ka385, .ref ea385, .ref la385, .int 1, .ref fb400, .ref gb400]), (ia385, Ra Z "com/example/rankwise/rankwise/engine/Ranked" (lst 16 (fup (fun _ => Value.null) 0 (Value.ref a386)))), (ka385, Ia Z (lst 16 (fup (fun _ => 0) 0 (Int32.ofNat q0)))), (ea385, Ia Z (lst 16 (fup (fun _ => 0) 0 ((fun _ => -1) q0)))), (la385, Ia Z (lst 16 (adT (fun _ => -1) (fun _ => 0) q0 0))), (fb400, Ia Z (lst L400 (adF (fun _ => -1) (fun _ => -1) q0 0))), (gb400, Ia Z (lst L400 (fup (fun _ => -1) q0 (Int32.ofNat 0)))), (a388, Ia Z [])] := H400.pull 7 rfl
        have H403 : Hp n0 h400 [(gb400, Ia Z (lst L400 (fup (fun _ => -1) q0 (Int32.ofNat 0)))), (a386, Ob Z "com/example/rankwise/rankwise/engine/Ranked" NSR [.ref a388, .double FP.dconst0]), (a383, Ob Z "com/example/rankwise/rankwise/engine/KeptItems" NSI [.ref ia385, .ref ka385, .ref ea385, .ref la385, .int 1, .ref fb400, .ref gb400]), (ia385, Ra Z "com/example/rankwise/rankwise/engine/Ranked" (lst 16 (fup (fun _ => Value.null) 0 (Value.ref a386)))), (ka385, Ia Z (lst 16 (fup (fun _ => 0) 0 (Int32.ofNat q0)))), (ea385, Ia Z (lst 16 (fup (fun _ => 0) 0 ((fun _ => -1) q0)))), (la385, Ia Z (lst 16 (adT (fun _ => -1) (fun _ => 0) q0 0))), (fb400, Ia Z (lst L400 (adF (fun _ => -1) (fun _ => -1) q0 0))), (a388, Ia Z [])] := H402.pull 7 rfl
        have H404 : Hp n0 h400 [(fb400, Ia Z (lst L400 (adF (fun _ => -1) (fun _ => -1) q0 0))), (gb400, Ia Z (lst L400 (fup (fun _ => -1) q0 (Int32.ofNat 0)))), (a386, Ob Z "com/example/rankwise/rankwise/engine/Ranked" NSR [.ref a388, .double FP.dconst0]), (a383, Ob Z "com/example/rankwise/rankwise/engine/KeptItems" NSI [.ref ia385, .ref ka385, .ref ea385, .ref la385, .int 1, .ref fb400, .ref gb400]), (ia385, Ra Z "com/example/rankwise/rankwise/engine/Ranked" (lst 16 (fup (fun _ => Value.null) 0 (Value.ref a386)))), (ka385, Ia Z (lst 16 (fup (fun _ => 0) 0 (Int32.ofNat q0)))), (ea385, Ia Z (lst 16 (fup (fun _ => 0) 0 ((fun _ => -1) q0)))), (la385, Ia Z (lst 16 (adT (fun _ => -1) (fun _ => 0) q0 0))), (a388, Ia Z [])] := H403.pull 7 rfl
        have H405 : Hp n0 h400 [(la385, Ia Z (lst 16 (adT (fun _ => -1) (fun _ => 0) q0 0))), (fb400, Ia Z (lst L400 (adF (fun _ => -1) (fun _ => -1) q0 0))), (gb400, Ia Z (lst L400 (fup (fun _ => -1) q0 (Int32.ofNat 0)))), (a386, Ob Z "com/example/rankwise/rankwise/engine/Ranked" NSR [.ref a388, .double FP.dconst0]), (a383, Ob Z "com/example/rankwise/rankwise/engine/KeptItems" NSI [.ref ia385, .ref ka385, .ref ea385, .ref la385, .int 1, .ref fb400, .ref gb400]), (ia385, Ra Z "com/example/rankwise/rankwise/engine/Ranked" (lst 16 (fup (fun _ => Value.null) 0 (Value.ref a386)))), (ka385, Ia Z (lst 16 (fup (fun _ => 0) 0 (Int32.ofNat q0)))), (ea385, Ia Z (lst 16 (fup (fun _ => 0) 0 ((fun _ => -1) q0)))), (a388, Ia Z [])] := H404.pull 7 rfl
        have H406 : Hp n0 h400 [(ea385, Ia Z (lst 16 (fup (fun _ => 0) 0 ((fun _ => -1) q0)))), (la385, Ia Z (lst 16 (adT (fun _ => -1) (fun _ => 0) q0 0))), (fb400, Ia Z (lst L400 (adF (fun _ => -1) (fun _ => -1) q0 0))), (gb400, Ia Z (lst L400 (fup (fun _ => -1) q0 (Int32.ofNat 0)))), (a386, Ob Z "com/example/rankwise/rankwise/engine/Ranked" NSR [.ref a388, .double FP.dconst0]), (a383, Ob Z "com/example/rankwise/rankwise/engine/KeptItems" NSI [.ref ia385, .ref ka385, .ref ea385, .ref la385, .int 1, .ref fb400, .ref gb400]), (ia385, Ra Z "com/example/rankwise/rankwise/engine/Ranked" (lst 16 (fup (fun _ => Value.null) 0 (Value.ref a386)))), (ka385, Ia Z (lst 16 (fup (fun _ => 0) 0 (Int32.ofNat q0)))), (a388, Ia Z [])] := H405.pull 7 rfl
        have H407 : Hp n0 h400 [(ka385, Ia Z (lst 16 (fup (fun _ => 0) 0 (Int32.ofNat q0)))), (ea385, Ia Z (lst 16 (fup (fun _ => 0) 0 ((fun _ => -1) q0)))), (la385, Ia Z (lst 16 (adT (fun _ => -1) (fun _ => 0) q0 0))), (fb400, Ia Z (lst L400 (adF (fun _ => -1) (fun _ => -1) q0 0))), (gb400, Ia Z (lst L400 (fup (fun _ => -1) q0 (Int32.ofNat 0)))), (a386, Ob Z "com/example/rankwise/rankwise/engine/Ranked" NSR [.ref a388, .double FP.dconst0]), (a383, Ob Z "com/example/rankwise/rankwise/engine/KeptItems" NSI [.ref ia385, .ref ka385, .ref ea385, .ref la385, .int 1, .ref fb400, .ref gb400]), (ia385, Ra Z "com/example/rankwise/rankwise/engine/Ranked" (lst 16 (fup (fun _ => Value.null) 0 (Value.ref a386)))), (a388, Ia Z [])] := H406.pull 7 rfl
        have H408 : Hp n0 h400 [(ia385, Ra Z "com/example/rankwise/rankwise/engine/Ranked" (lst 16 (fup (fun _ => Value.null) 0 (Value.ref a386)))), (ka385, Ia Z (lst 16 (fup (fun _ => 0) 0 (Int32.ofNat q0)))), (ea385, Ia Z (lst 16 (fup (fun _ => 0) 0 ((fun _ => -1) q0)))), (la385, Ia Z (lst 16 (adT (fun _ => -1) (fun _ => 0) q0 0))), (fb400, Ia Z (lst L400 (adF (fun _ => -1) (fun _ => -1) q0 0))), (gb400, Ia Z (lst L400 (fup (fun _ => -1) q0 (Int32.ofNat 0)))), (a386, Ob Z "com/example/rankwise/rankwise/engine/Ranked" NSR [.ref a388, .double FP.dconst0]), (a383, Ob Z "com/example/rankwise/rankwise/engine/KeptItems" NSI [.ref ia385, .ref ka385, .ref ea385, .ref la385, .int 1, .ref fb400, .ref gb400]), (a388, Ia Z [])] := H407.pull 7 rfl
        have H409 : Hp n0 h400 [(a383, Ob Z "com/example/rankwise/rankwise/engine/KeptItems" NSI [.ref ia385, .ref ka385, .ref ea385, .ref la385, .int 1, .ref fb400, .ref gb400]), (ia385, Ra Z "com/example/rankwise/rankwise/engine/Ranked" (lst 16 (fup (fun _ => Value.null) 0 (Value.ref a386)))), (ka385, Ia Z (lst 16 (fup (fun _ => 0) 0 (Int32.ofNat q0)))), (ea385, Ia Z (lst 16 (fup (fun _ => 0) 0 ((fun _ => -1) q0)))), (la385, Ia Z (lst 16 (adT (fun _ => -1) (fun _ => 0) q0 0))), (fb400, Ia Z (lst L400 (adF (fun _ => -1) (fun _ => -1) q0 0))), (gb400, Ia Z (lst L400 (fup (fun _ => -1) q0 (Int32.ofNat 0)))), (a386, Ob Z "com/example/rankwise/rankwise/engine/Ranked" NSR [.ref a388, .double FP.dconst0]), (a388, Ia Z [])] := H408.pull 7 rfl
        refine G.callV K hl (wd hw 41 rfl) (wd hw 42 rfl) (wd hw 44 rfl) (wd hw 43 rfl) (wd hw 2 rfl) (wd hw 45 rfl) (by decide) pd_7 (H409.exa (i := 0) rfl) (ct_add l Z a0 hw n0 h400 a383 ia385 ka385 ea385 la385 fb400 gb400 a386 1 L400 q1 (fup (fun _ => Value.null) 0 (Value.ref a386)) (fup (fun _ => 0) 0 (Int32.ofNat q0)) (fup (fun _ => 0) 0 ((fun _ => -1) q0)) (adT (fun _ => -1) (fun _ => 0) q0 0) (adF (fun _ => -1) (fun _ => -1) q0 0) (fup (fun _ => -1) q0 (Int32.ofNat 0)) [.ref a388, .double FP.dconst0] [(a388, Ia Z [])] (by decide) l3400 (by omega) hF400 hO400 hI400 H409) 0 rfl (by decide) (by decide) (by decide) (by decide) rfl rfl [.ref a386, .int (Int32.ofNat q1)] rfl Dx_113 ?_
        rintro _ h410 ⟨rfl, fb410, gb410, L410, l1410, l2410, l3410, H410⟩
        have hF410 : ∀ i, L410 ≤ i → (adF (fup (fun _ => -1) q0 (Int32.ofNat 0)) (adF (fun _ => -1) (fun _ => -1) q0 0) q1 1) i = -1 := adF_out hF400 l1410 l2410
        have hO410 : ∀ i, L410 ≤ i → (fup (fup (fun _ => -1) q0 (Int32.ofNat 0)) q1 (Int32.ofNat 1)) i = -1 := fup_out hO400 l1410 l2410
        have hI410 : ∀ i, Ix 2 ((fup (fup (fun _ => -1) q0 (Int32.ofNat 0)) q1 (Int32.ofNat 1)) i) := Ix_fup hI400
        change G k n0 _ h410 _ _ 116 [.val (.int p0), .val (.int p1), .val (.int p2), .val (.int p3), .val (.int 3), .val (.int (Int32.ofNat q0)), .val (.int (Int32.ofNat q1)), .val (.int (Int32.ofNat q2)), .val (.int 0), .val (.int (Int32.ofNat qq)), .val (.ref a383), .val (.ref a386), .unset, .unset] []
        refine G.iload K Dx_116 rfl ?_
        refine G.iconst K Dx_118 2 rfl ?_
        refine G.icmp_le K Dx_119 (fun q => absurd q (by decide)) (fun _ => ?_)
        refine G.aload K Dx_122 rfl rfl ?_
        refine G.iload K Dx_124 rfl ?_
        refine G.aload K Dx_126 rfl rfl ?_
        have H412 : Hp n0 h410 [(a386, Ob Z "com/example/rankwise/rankwise/engine/Ranked" NSR [.ref a388, .double FP.dconst0]), (a383, Ob Z "com/example/rankwise/rankwise/engine/KeptItems" NSI [.ref ia385, .ref ka385, .ref ea385, .ref la385, .int 2, .ref fb410, .ref gb410]), (ia385, Ra Z "com/example/rankwise/rankwise/engine/Ranked" (lst 16 (fup (fup (fun _ => Value.null) 0 (Value.ref a386)) 1 (Value.ref a386)))), (ka385, Ia Z (lst 16 (fup (fup (fun _ => 0) 0 (Int32.ofNat q0)) 1 (Int32.ofNat q1)))), (ea385, Ia Z (lst 16 (fup (fup (fun _ => 0) 0 ((fun _ => -1) q0)) 1 ((fup (fun _ => -1) q0 (Int32.ofNat 0)) q1)))), (la385, Ia Z (lst 16 (adT (fup (fun _ => -1) q0 (Int32.ofNat 0)) (adT (fun _ => -1) (fun _ => 0) q0 0) q1 1))), (fb410, Ia Z (lst L410 (adF (fup (fun _ => -1) q0 (Int32.ofNat 0)) (adF (fun _ => -1) (fun _ => -1) q0 0) q1 1))), (gb410, Ia Z (lst L410 (fup (fup (fun _ => -1) q0 (Int32.ofNat 0)) q1 (Int32.ofNat 1)))), (a388, Ia Z [])] := H410.pull 7 rfl
        have H413 : Hp n0 h410 [(gb410, Ia Z (lst L410 (fup (fup (fun _ => -1) q0 (Int32.ofNat 0)) q1 (Int32.ofNat 1)))), (a386, Ob Z "com/example/rankwise/rankwise/engine/Ranked" NSR [.ref a388, .double FP.dconst0]), (a383, Ob Z "com/example/rankwise/rankwise/engine/KeptItems" NSI [.ref ia385, .ref ka385, .ref ea385, .ref la385, .int 2, .ref fb410, .ref gb410]), (ia385, Ra Z "com/example/rankwise/rankwise/engine/Ranked" (lst 16 (fup (fup (fun _ => Value.null) 0 (Value.ref a386)) 1 (Value.ref a386)))), (ka385, Ia Z (lst 16 (fup (fup (fun _ => 0) 0 (Int32.ofNat q0)) 1 (Int32.ofNat q1)))), (ea385, Ia Z (lst 16 (fup (fup (fun _ => 0) 0 ((fun _ => -1) q0)) 1 ((fup (fun _ => -1) q0 (Int32.ofNat 0)) q1)))), (la385, Ia Z (lst 16 (adT (fup (fun _ => -1) q0 (Int32.ofNat 0)) (adT (fun _ => -1) (fun _ => 0) q0 0) q1 1))), (fb410, Ia Z (lst L410 (adF (fup (fun _ => -1) q0 (Int32.ofNat 0)) (adF (fun _ => -1) (fun _ => -1) q0 0) q1 1))), (a388, Ia Z [])] := H412.pull 7 rfl
        have H414 : Hp n0 h410 [(fb410, Ia Z (lst L410 (adF (fup (fun _ => -1) q0 (Int32.ofNat 0)) (adF (fun _ => -1) (fun _ => -1) q0 0) q1 1))), (gb410, Ia Z (lst L410 (fup (fup (fun _ => -1) q0 (Int32.ofNat 0)) q1 (Int32.ofNat 1)))), (a386, Ob Z "com/example/rankwise/rankwise/engine/Ranked" NSR [.ref a388, .double FP.dconst0]), (a383, Ob Z "com/example/rankwise/rankwise/engine/KeptItems" NSI [.ref ia385, .ref ka385, .ref ea385, .ref la385, .int 2, .ref fb410, .ref gb410]), (ia385, Ra Z "com/example/rankwise/rankwise/engine/Ranked" (lst 16 (fup (fup (fun _ => Value.null) 0 (Value.ref a386)) 1 (Value.ref a386)))), (ka385, Ia Z (lst 16 (fup (fup (fun _ => 0) 0 (Int32.ofNat q0)) 1 (Int32.ofNat q1)))), (ea385, Ia Z (lst 16 (fup (fup (fun _ => 0) 0 ((fun _ => -1) q0)) 1 ((fup (fun _ => -1) q0 (Int32.ofNat 0)) q1)))), (la385, Ia Z (lst 16 (adT (fup (fun _ => -1) q0 (Int32.ofNat 0)) (adT (fun _ => -1) (fun _ => 0) q0 0) q1 1))), (a388, Ia Z [])] := H413.pull 7 rfl
        have H415 : Hp n0 h410 [(la385, Ia Z (lst 16 (adT (fup (fun _ => -1) q0 (Int32.ofNat 0)) (adT (fun _ => -1) (fun _ => 0) q0 0) q1 1))), (fb410, Ia Z (lst L410 (adF (fup (fun _ => -1) q0 (Int32.ofNat 0)) (adF (fun _ => -1) (fun _ => -1) q0 0) q1 1))), (gb410, Ia Z (lst L410 (fup (fup (fun _ => -1) q0 (Int32.ofNat 0)) q1 (Int32.ofNat 1)))), (a386, Ob Z "com/example/rankwise/rankwise/engine/Ranked" NSR [.ref a388, .double FP.dconst0]), (a383, Ob Z "com/example/rankwise/rankwise/engine/KeptItems" NSI [.ref ia385, .ref ka385, .ref ea385, .ref la385, .int 2, .ref fb410, .ref gb410]), (ia385, Ra Z "com/example/rankwise/rankwise/engine/Ranked" (lst 16 (fup (fup (fun _ => Value.null) 0 (Value.ref a386)) 1 (Value.ref a386)))), (ka385, Ia Z (lst 16 (fup (fup (fun _ => 0) 0 (Int32.ofNat q0)) 1 (Int32.ofNat q1)))), (ea385, Ia Z (lst 16 (fup (fup (fun _ => 0) 0 ((fun _ => -1) q0)) 1 ((fup (fun _ => -1) q0 (Int32.ofNat 0)) q1)))), (a388, Ia Z [])] := H414.pull 7 rfl
        have H416 : Hp n0 h410 [(ea385, Ia Z (lst 16 (fup (fup (fun _ => 0) 0 ((fun _ => -1) q0)) 1 ((fup (fun _ => -1) q0 (Int32.ofNat 0)) q1)))), (la385, Ia Z (lst 16 (adT (fup (fun _ => -1) q0 (Int32.ofNat 0)) (adT (fun _ => -1) (fun _ => 0) q0 0) q1 1))), (fb410, Ia Z (lst L410 (adF (fup (fun _ => -1) q0 (Int32.ofNat 0)) (adF (fun _ => -1) (fun _ => -1) q0 0) q1 1))), (gb410, Ia Z (lst L410 (fup (fup (fun _ => -1) q0 (Int32.ofNat 0)) q1 (Int32.ofNat 1)))), (a386, Ob Z "com/example/rankwise/rankwise/engine/Ranked" NSR [.ref a388, .double FP.dconst0]), (a383, Ob Z "com/example/rankwise/rankwise/engine/KeptItems" NSI [.ref ia385, .ref ka385, .ref ea385, .ref la385, .int 2, .ref fb410, .ref gb410]), (ia385, Ra Z "com/example/rankwise/rankwise/engine/Ranked" (lst 16 (fup (fup (fun _ => Value.null) 0 (Value.ref a386)) 1 (Value.ref a386)))), (ka385, Ia Z (lst 16 (fup (fup (fun _ => 0) 0 (Int32.ofNat q0)) 1 (Int32.ofNat q1)))), (a388, Ia Z [])] := H415.pull 7 rfl
        have H417 : Hp n0 h410 [(ka385, Ia Z (lst 16 (fup (fup (fun _ => 0) 0 (Int32.ofNat q0)) 1 (Int32.ofNat q1)))), (ea385, Ia Z (lst 16 (fup (fup (fun _ => 0) 0 ((fun _ => -1) q0)) 1 ((fup (fun _ => -1) q0 (Int32.ofNat 0)) q1)))), (la385, Ia Z (lst 16 (adT (fup (fun _ => -1) q0 (Int32.ofNat 0)) (adT (fun _ => -1) (fun _ => 0) q0 0) q1 1))), (fb410, Ia Z (lst L410 (adF (fup (fun _ => -1) q0 (Int32.ofNat 0)) (adF (fun _ => -1) (fun _ => -1) q0 0) q1 1))), (gb410, Ia Z (lst L410 (fup (fup (fun _ => -1) q0 (Int32.ofNat 0)) q1 (Int32.ofNat 1)))), (a386, Ob Z "com/example/rankwise/rankwise/engine/Ranked" NSR [.ref a388, .double FP.dconst0]), (a383, Ob Z "com/example/rankwise/rankwise/engine/KeptItems" NSI [.ref ia385, .ref ka385, .ref ea385, .ref la385, .int 2, .ref fb410, .ref gb410]), (ia385, Ra Z "com/example/rankwise/rankwise/engine/Ranked" (lst 16 (fup (fup (fun _ => Value.null) 0 (Value.ref a386)) 1 (Value.ref a386)))), (a388, Ia Z [])] := H416.pull 7 rfl
        have H418 : Hp n0 h410 [(ia385, Ra Z "com/example/rankwise/rankwise/engine/Ranked" (lst 16 (fup (fup (fun _ => Value.null) 0 (Value.ref a386)) 1 (Value.ref a386)))), (ka385, Ia Z (lst 16 (fup (fup (fun _ => 0) 0 (Int32.ofNat q0)) 1 (Int32.ofNat q1)))), (ea385, Ia Z (lst 16 (fup (fup (fun _ => 0) 0 ((fun _ => -1) q0)) 1 ((fup (fun _ => -1) q0 (Int32.ofNat 0)) q1)))), (la385, Ia Z (lst 16 (adT (fup (fun _ => -1) q0 (Int32.ofNat 0)) (adT (fun _ => -1) (fun _ => 0) q0 0) q1 1))), (fb410, Ia Z (lst L410 (adF (fup (fun _ => -1) q0 (Int32.ofNat 0)) (adF (fun _ => -1) (fun _ => -1) q0 0) q1 1))), (gb410, Ia Z (lst L410 (fup (fup (fun _ => -1) q0 (Int32.ofNat 0)) q1 (Int32.ofNat 1)))), (a386, Ob Z "com/example/rankwise/rankwise/engine/Ranked" NSR [.ref a388, .double FP.dconst0]), (a383, Ob Z "com/example/rankwise/rankwise/engine/KeptItems" NSI [.ref ia385, .ref ka385, .ref ea385, .ref la385, .int 2, .ref fb410, .ref gb410]), (a388, Ia Z [])] := H417.pull 7 rfl
        have H419 : Hp n0 h410 [(a383, Ob Z "com/example/rankwise/rankwise/engine/KeptItems" NSI [.ref ia385, .ref ka385, .ref ea385, .ref la385, .int 2, .ref fb410, .ref gb410]), (ia385, Ra Z "com/example/rankwise/rankwise/engine/Ranked" (lst 16 (fup (fup (fun _ => Value.null) 0 (Value.ref a386)) 1 (Value.ref a386)))), (ka385, Ia Z (lst 16 (fup (fup (fun _ => 0) 0 (Int32.ofNat q0)) 1 (Int32.ofNat q1)))), (ea385, Ia Z (lst 16 (fup (fup (fun _ => 0) 0 ((fun _ => -1) q0)) 1 ((fup (fun _ => -1) q0 (Int32.ofNat 0)) q1)))), (la385, Ia Z (lst 16 (adT (fup (fun _ => -1) q0 (Int32.ofNat 0)) (adT (fun _ => -1) (fun _ => 0) q0 0) q1 1))), (fb410, Ia Z (lst L410 (adF (fup (fun _ => -1) q0 (Int32.ofNat 0)) (adF (fun _ => -1) (fun _ => -1) q0 0) q1 1))), (gb410, Ia Z (lst L410 (fup (fup (fun _ => -1) q0 (Int32.ofNat 0)) q1 (Int32.ofNat 1)))), (a386, Ob Z "com/example/rankwise/rankwise/engine/Ranked" NSR [.ref a388, .double FP.dconst0]), (a388, Ia Z [])] := H418.pull 7 rfl
        refine G.callV K hl (wd hw 41 rfl) (wd hw 42 rfl) (wd hw 44 rfl) (wd hw 43 rfl) (wd hw 2 rfl) (wd hw 45 rfl) (by decide) pd_7 (H419.exa (i := 0) rfl) (ct_add l Z a0 hw n0 h410 a383 ia385 ka385 ea385 la385 fb410 gb410 a386 2 L410 q2 (fup (fup (fun _ => Value.null) 0 (Value.ref a386)) 1 (Value.ref a386)) (fup (fup (fun _ => 0) 0 (Int32.ofNat q0)) 1 (Int32.ofNat q1)) (fup (fup (fun _ => 0) 0 ((fun _ => -1) q0)) 1 ((fup (fun _ => -1) q0 (Int32.ofNat 0)) q1)) (adT (fup (fun _ => -1) q0 (Int32.ofNat 0)) (adT (fun _ => -1) (fun _ => 0) q0 0) q1 1) (adF (fup (fun _ => -1) q0 (Int32.ofNat 0)) (adF (fun _ => -1) (fun _ => -1) q0 0) q1 1) (fup (fup (fun _ => -1) q0 (Int32.ofNat 0)) q1 (Int32.ofNat 1)) [.ref a388, .double FP.dconst0] [(a388, Ia Z [])] (by decide) l3410 (by omega) hF410 hO410 hI410 H419) 0 rfl (by decide) (by decide) (by decide) (by decide) rfl rfl [.ref a386, .int (Int32.ofNat q2)] rfl Dx_128 ?_
        rintro _ h420 ⟨rfl, fb420, gb420, L420, l1420, l2420, l3420, H420⟩
        have hF420 : ∀ i, L420 ≤ i → (adF (fup (fup (fun _ => -1) q0 (Int32.ofNat 0)) q1 (Int32.ofNat 1)) (adF (fup (fun _ => -1) q0 (Int32.ofNat 0)) (adF (fun _ => -1) (fun _ => -1) q0 0) q1 1) q2 2) i = -1 := adF_out hF410 l1420 l2420
        have hO420 : ∀ i, L420 ≤ i → (fup (fup (fup (fun _ => -1) q0 (Int32.ofNat 0)) q1 (Int32.ofNat 1)) q2 (Int32.ofNat 2)) i = -1 := fup_out hO410 l1420 l2420
        have hI420 : ∀ i, Ix 3 ((fup (fup (fup (fun _ => -1) q0 (Int32.ofNat 0)) q1 (Int32.ofNat 1)) q2 (Int32.ofNat 2)) i) := Ix_fup hI410
        change G k n0 _ h420 _ _ 131 [.val (.int p0), .val (.int p1), .val (.int p2), .val (.int p3), .val (.int 3), .val (.int (Int32.ofNat q0)), .val (.int (Int32.ofNat q1)), .val (.int (Int32.ofNat q2)), .val (.int 0), .val (.int (Int32.ofNat qq)), .val (.ref a383), .val (.ref a386), .unset, .unset] []
        refine G.iload K Dx_131 rfl ?_
        refine G.if_eq K Dx_133 (fun _ => ?_) (fun q => absurd q (by decide))
        refine G.iload K Dx_141 rfl ?_
        refine G.if_eq K Dx_143 (fun _ => ?_) (fun q => absurd q (by decide))
        refine G.iload K Dx_153 rfl ?_
        refine G.istore K Dx_155 ([.val (.int p0), .val (.int p1), .val (.int p2), .val (.int p3), .val (.int 3), .val (.int (Int32.ofNat q0)), .val (.int (Int32.ofNat q1)), .val (.int (Int32.ofNat q2)), .val (.int 0), .val (.int (Int32.ofNat qq)), .val (.ref a383), .val (.ref a386), .val (.int 3), .unset]) rfl ?_
        refine G.iconst K Dx_157 (-1) rfl ?_
        refine G.istore K Dx_158 ([.val (.int p0), .val (.int p1), .val (.int p2), .val (.int p3), .val (.int 3), .val (.int (Int32.ofNat q0)), .val (.int (Int32.ofNat q1)), .val (.int (Int32.ofNat q2)), .val (.int 0), .val (.int (Int32.ofNat qq)), .val (.ref a383), .val (.ref a386), .val (.int 3), .val (.int (-1))]) rfl ?_
        refine G.iload K Dx_160 rfl ?_
        refine G.iconst K Dx_162 2 rfl ?_
        refine G.icmp_le K Dx_163 (fun q => absurd q (by decide)) (fun _ => ?_)
        refine G.iload K Dx_166 rfl ?_
        refine G.iload K Dx_168 rfl ?_
        refine G.icmp_ne K Dx_170 (fun q424 => ?_) (fun q424 => ?_)
        · refine G.iload K Dx_176 rfl ?_
          refine G.iconst K Dx_178 1 rfl ?_
          refine G.icmp_le K Dx_179 (fun q => absurd q (by decide)) (fun _ => ?_)
          refine G.iload K Dx_182 rfl ?_
          refine G.iload K Dx_184 rfl ?_
          refine G.icmp_ne K Dx_186 (fun q426 => ?_) (fun q426 => ?_)
          · refine G.iload K Dx_192 rfl ?_
            refine G.if_le K Dx_194 (fun q => absurd q (by decide)) (fun _ => ?_)
            refine G.iload K Dx_197 rfl ?_
            refine G.iload K Dx_199 rfl ?_
            refine G.icmp_ne K Dx_201 (fun q428 => ?_) (fun q428 => ?_)
            · refine G.aload K Dx_207 rfl rfl ?_
              refine G.iload K Dx_209 rfl ?_
              have H429 : Hp n0 h420 [(gb420, Ia Z (lst L420 (fup (fup (fup (fun _ => -1) q0 (Int32.ofNat 0)) q1 (Int32.ofNat 1)) q2 (Int32.ofNat 2)))), (a383, Ob Z "com/example/rankwise/rankwise/engine/KeptItems" NSI [.ref ia385, .ref ka385, .ref ea385, .ref la385, .int 3, .ref fb420, .ref gb420]), (ia385, Ra Z "com/example/rankwise/rankwise/engine/Ranked" (lst 16 (fup (fup (fup (fun _ => Value.null) 0 (Value.ref a386)) 1 (Value.ref a386)) 2 (Value.ref a386)))), (ka385, Ia Z (lst 16 (fup (fup (fup (fun _ => 0) 0 (Int32.ofNat q0)) 1 (Int32.ofNat q1)) 2 (Int32.ofNat q2)))), (ea385, Ia Z (lst 16 (fup (fup (fup (fun _ => 0) 0 ((fun _ => -1) q0)) 1 ((fup (fun _ => -1) q0 (Int32.ofNat 0)) q1)) 2 ((fup (fup (fun _ => -1) q0 (Int32.ofNat 0)) q1 (Int32.ofNat 1)) q2)))), (la385, Ia Z (lst 16 (adT (fup (fup (fun _ => -1) q0 (Int32.ofNat 0)) q1 (Int32.ofNat 1)) (adT (fup (fun _ => -1) q0 (Int32.ofNat 0)) (adT (fun _ => -1) (fun _ => 0) q0 0) q1 1) q2 2))), (fb420, Ia Z (lst L420 (adF (fup (fup (fun _ => -1) q0 (Int32.ofNat 0)) q1 (Int32.ofNat 1)) (adF (fup (fun _ => -1) q0 (Int32.ofNat 0)) (adF (fun _ => -1) (fun _ => -1) q0 0) q1 1) q2 2))), (a386, Ob Z "com/example/rankwise/rankwise/engine/Ranked" NSR [.ref a388, .double FP.dconst0]), (a388, Ia Z [])] := H420.pull 6 rfl
              have H430 : Hp n0 h420 [(fb420, Ia Z (lst L420 (adF (fup (fup (fun _ => -1) q0 (Int32.ofNat 0)) q1 (Int32.ofNat 1)) (adF (fup (fun _ => -1) q0 (Int32.ofNat 0)) (adF (fun _ => -1) (fun _ => -1) q0 0) q1 1) q2 2))), (gb420, Ia Z (lst L420 (fup (fup (fup (fun _ => -1) q0 (Int32.ofNat 0)) q1 (Int32.ofNat 1)) q2 (Int32.ofNat 2)))), (a383, Ob Z "com/example/rankwise/rankwise/engine/KeptItems" NSI [.ref ia385, .ref ka385, .ref ea385, .ref la385, .int 3, .ref fb420, .ref gb420]), (ia385, Ra Z "com/example/rankwise/rankwise/engine/Ranked" (lst 16 (fup (fup (fup (fun _ => Value.null) 0 (Value.ref a386)) 1 (Value.ref a386)) 2 (Value.ref a386)))), (ka385, Ia Z (lst 16 (fup (fup (fup (fun _ => 0) 0 (Int32.ofNat q0)) 1 (Int32.ofNat q1)) 2 (Int32.ofNat q2)))), (ea385, Ia Z (lst 16 (fup (fup (fup (fun _ => 0) 0 ((fun _ => -1) q0)) 1 ((fup (fun _ => -1) q0 (Int32.ofNat 0)) q1)) 2 ((fup (fup (fun _ => -1) q0 (Int32.ofNat 0)) q1 (Int32.ofNat 1)) q2)))), (la385, Ia Z (lst 16 (adT (fup (fup (fun _ => -1) q0 (Int32.ofNat 0)) q1 (Int32.ofNat 1)) (adT (fup (fun _ => -1) q0 (Int32.ofNat 0)) (adT (fun _ => -1) (fun _ => 0) q0 0) q1 1) q2 2))), (a386, Ob Z "com/example/rankwise/rankwise/engine/Ranked" NSR [.ref a388, .double FP.dconst0]), (a388, Ia Z [])] := H429.pull 6 rfl
              have H431 : Hp n0 h420 [(la385, Ia Z (lst 16 (adT (fup (fup (fun _ => -1) q0 (Int32.ofNat 0)) q1 (Int32.ofNat 1)) (adT (fup (fun _ => -1) q0 (Int32.ofNat 0)) (adT (fun _ => -1) (fun _ => 0) q0 0) q1 1) q2 2))), (fb420, Ia Z (lst L420 (adF (fup (fup (fun _ => -1) q0 (Int32.ofNat 0)) q1 (Int32.ofNat 1)) (adF (fup (fun _ => -1) q0 (Int32.ofNat 0)) (adF (fun _ => -1) (fun _ => -1) q0 0) q1 1) q2 2))), (gb420, Ia Z (lst L420 (fup (fup (fup (fun _ => -1) q0 (Int32.ofNat 0)) q1 (Int32.ofNat 1)) q2 (Int32.ofNat 2)))), (a383, Ob Z "com/example/rankwise/rankwise/engine/KeptItems" NSI [.ref ia385, .ref ka385, .ref ea385, .ref la385, .int 3, .ref fb420, .ref gb420]), (ia385, Ra Z "com/example/rankwise/rankwise/engine/Ranked" (lst 16 (fup (fup (fup (fun _ => Value.null) 0 (Value.ref a386)) 1 (Value.ref a386)) 2 (Value.ref a386)))), (ka385, Ia Z (lst 16 (fup (fup (fup (fun _ => 0) 0 (Int32.ofNat q0)) 1 (Int32.ofNat q1)) 2 (Int32.ofNat q2)))), (ea385, Ia Z (lst 16 (fup (fup (fup (fun _ => 0) 0 ((fun _ => -1) q0)) 1 ((fup (fun _ => -1) q0 (Int32.ofNat 0)) q1)) 2 ((fup (fup (fun _ => -1) q0 (Int32.ofNat 0)) q1 (Int32.ofNat 1)) q2)))), (a386, Ob Z "com/example/rankwise/rankwise/engine/Ranked" NSR [.ref a388, .double FP.dconst0]), (a388, Ia Z [])] := H430.pull 6 rfl
              have H432 : Hp n0 h420 [(ea385, Ia Z (lst 16 (fup (fup (fup (fun _ => 0) 0 ((fun _ => -1) q0)) 1 ((fup (fun _ => -1) q0 (Int32.ofNat 0)) q1)) 2 ((fup (fup (fun _ => -1) q0 (Int32.ofNat 0)) q1 (Int32.ofNat 1)) q2)))), (la385, Ia Z (lst 16 (adT (fup (fup (fun _ => -1) q0 (Int32.ofNat 0)) q1 (Int32.ofNat 1)) (adT (fup (fun _ => -1) q0 (Int32.ofNat 0)) (adT (fun _ => -1) (fun _ => 0) q0 0) q1 1) q2 2))), (fb420, Ia Z (lst L420 (adF (fup (fup (fun _ => -1) q0 (Int32.ofNat 0)) q1 (Int32.ofNat 1)) (adF (fup (fun _ => -1) q0 (Int32.ofNat 0)) (adF (fun _ => -1) (fun _ => -1) q0 0) q1 1) q2 2))), (gb420, Ia Z (lst L420 (fup (fup (fup (fun _ => -1) q0 (Int32.ofNat 0)) q1 (Int32.ofNat 1)) q2 (Int32.ofNat 2)))), (a383, Ob Z "com/example/rankwise/rankwise/engine/KeptItems" NSI [.ref ia385, .ref ka385, .ref ea385, .ref la385, .int 3, .ref fb420, .ref gb420]), (ia385, Ra Z "com/example/rankwise/rankwise/engine/Ranked" (lst 16 (fup (fup (fup (fun _ => Value.null) 0 (Value.ref a386)) 1 (Value.ref a386)) 2 (Value.ref a386)))), (ka385, Ia Z (lst 16 (fup (fup (fup (fun _ => 0) 0 (Int32.ofNat q0)) 1 (Int32.ofNat q1)) 2 (Int32.ofNat q2)))), (a386, Ob Z "com/example/rankwise/rankwise/engine/Ranked" NSR [.ref a388, .double FP.dconst0]), (a388, Ia Z [])] := H431.pull 6 rfl
              have H433 : Hp n0 h420 [(ka385, Ia Z (lst 16 (fup (fup (fup (fun _ => 0) 0 (Int32.ofNat q0)) 1 (Int32.ofNat q1)) 2 (Int32.ofNat q2)))), (ea385, Ia Z (lst 16 (fup (fup (fup (fun _ => 0) 0 ((fun _ => -1) q0)) 1 ((fup (fun _ => -1) q0 (Int32.ofNat 0)) q1)) 2 ((fup (fup (fun _ => -1) q0 (Int32.ofNat 0)) q1 (Int32.ofNat 1)) q2)))), (la385, Ia Z (lst 16 (adT (fup (fup (fun _ => -1) q0 (Int32.ofNat 0)) q1 (Int32.ofNat 1)) (adT (fup (fun _ => -1) q0 (Int32.ofNat 0)) (adT (fun _ => -1) (fun _ => 0) q0 0) q1 1) q2 2))), (fb420, Ia Z (lst L420 (adF (fup (fup (fun _ => -1) q0 (Int32.ofNat 0)) q1 (Int32.ofNat 1)) (adF (fup (fun _ => -1) q0 (Int32.ofNat 0)) (adF (fun _ => -1) (fun _ => -1) q0 0) q1 1) q2 2))), (gb420, Ia Z (lst L420 (fup (fup (fup (fun _ => -1) q0 (Int32.ofNat 0)) q1 (Int32.ofNat 1)) q2 (Int32.ofNat 2)))), (a383, Ob Z "com/example/rankwise/rankwise/engine/KeptItems" NSI [.ref ia385, .ref ka385, .ref ea385, .ref la385, .int 3, .ref fb420, .ref gb420]), (ia385, Ra Z "com/example/rankwise/rankwise/engine/Ranked" (lst 16 (fup (fup (fup (fun _ => Value.null) 0 (Value.ref a386)) 1 (Value.ref a386)) 2 (Value.ref a386)))), (a386, Ob Z "com/example/rankwise/rankwise/engine/Ranked" NSR [.ref a388, .double FP.dconst0]), (a388, Ia Z [])] := H432.pull 6 rfl
              have H434 : Hp n0 h420 [(ia385, Ra Z "com/example/rankwise/rankwise/engine/Ranked" (lst 16 (fup (fup (fup (fun _ => Value.null) 0 (Value.ref a386)) 1 (Value.ref a386)) 2 (Value.ref a386)))), (ka385, Ia Z (lst 16 (fup (fup (fup (fun _ => 0) 0 (Int32.ofNat q0)) 1 (Int32.ofNat q1)) 2 (Int32.ofNat q2)))), (ea385, Ia Z (lst 16 (fup (fup (fup (fun _ => 0) 0 ((fun _ => -1) q0)) 1 ((fup (fun _ => -1) q0 (Int32.ofNat 0)) q1)) 2 ((fup (fup (fun _ => -1) q0 (Int32.ofNat 0)) q1 (Int32.ofNat 1)) q2)))), (la385, Ia Z (lst 16 (adT (fup (fup (fun _ => -1) q0 (Int32.ofNat 0)) q1 (Int32.ofNat 1)) (adT (fup (fun _ => -1) q0 (Int32.ofNat 0)) (adT (fun _ => -1) (fun _ => 0) q0 0) q1 1) q2 2))), (fb420, Ia Z (lst L420 (adF (fup (fup (fun _ => -1) q0 (Int32.ofNat 0)) q1 (Int32.ofNat 1)) (adF (fup (fun _ => -1) q0 (Int32.ofNat 0)) (adF (fun _ => -1) (fun _ => -1) q0 0) q1 1) q2 2))), (gb420, Ia Z (lst L420 (fup (fup (fup (fun _ => -1) q0 (Int32.ofNat 0)) q1 (Int32.ofNat 1)) q2 (Int32.ofNat 2)))), (a383, Ob Z "com/example/rankwise/rankwise/engine/KeptItems" NSI [.ref ia385, .ref ka385, .ref ea385, .ref la385, .int 3, .ref fb420, .ref gb420]), (a386, Ob Z "com/example/rankwise/rankwise/engine/Ranked" NSR [.ref a388, .double FP.dconst0]), (a388, Ia Z [])] := H433.pull 6 rfl
              have H435 : Hp n0 h420 [(a383, Ob Z "com/example/rankwise/rankwise/engine/KeptItems" NSI [.ref ia385, .ref ka385, .ref ea385, .ref la385, .int 3, .ref fb420, .ref gb420]), (ia385, Ra Z "com/example/rankwise/rankwise/engine/Ranked" (lst 16 (fup (fup (fup (fun _ => Value.null) 0 (Value.ref a386)) 1 (Value.ref a386)) 2 (Value.ref a386)))), (ka385, Ia Z (lst 16 (fup (fup (fup (fun _ => 0) 0 (Int32.ofNat q0)) 1 (Int32.ofNat q1)) 2 (Int32.ofNat q2)))), (ea385, Ia Z (lst 16 (fup (fup (fup (fun _ => 0) 0 ((fun _ => -1) q0)) 1 ((fup (fun _ => -1) q0 (Int32.ofNat 0)) q1)) 2 ((fup (fup (fun _ => -1) q0 (Int32.ofNat 0)) q1 (Int32.ofNat 1)) q2)))), (la385, Ia Z (lst 16 (adT (fup (fup (fun _ => -1) q0 (Int32.ofNat 0)) q1 (Int32.ofNat 1)) (adT (fup (fun _ => -1) q0 (Int32.ofNat 0)) (adT (fun _ => -1) (fun _ => 0) q0 0) q1 1) q2 2))), (fb420, Ia Z (lst L420 (adF (fup (fup (fun _ => -1) q0 (Int32.ofNat 0)) q1 (Int32.ofNat 1)) (adF (fup (fun _ => -1) q0 (Int32.ofNat 0)) (adF (fun _ => -1) (fun _ => -1) q0 0) q1 1) q2 2))), (gb420, Ia Z (lst L420 (fup (fup (fup (fun _ => -1) q0 (Int32.ofNat 0)) q1 (Int32.ofNat 1)) q2 (Int32.ofNat 2)))), (a386, Ob Z "com/example/rankwise/rankwise/engine/Ranked" NSR [.ref a388, .double FP.dconst0]), (a388, Ia Z [])] := H434.pull 6 rfl
              refine G.callV K hl (wd hw 35 rfl) (wd hw 36 rfl) (wd hw 38 rfl) (wd hw 37 rfl) (wd hw 2 rfl) (wd hw 39 rfl) (by decide) pd_6 (H435.exa (i := 0) rfl) (ct_first l Z a0 hw n0 h420 a383 ia385 ka385 ea385 la385 fb420 gb420 3 L420 qq (fup (fup (fup (fun _ => Value.null) 0 (Value.ref a386)) 1 (Value.ref a386)) 2 (Value.ref a386)) (fup (fup (fup (fun _ => 0) 0 (Int32.ofNat q0)) 1 (Int32.ofNat q1)) 2 (Int32.ofNat q2)) (fup (fup (fup (fun _ => 0) 0 ((fun _ => -1) q0)) 1 ((fup (fun _ => -1) q0 (Int32.ofNat 0)) q1)) 2 ((fup (fup (fun _ => -1) q0 (Int32.ofNat 0)) q1 (Int32.ofNat 1)) q2)) (adT (fup (fup (fun _ => -1) q0 (Int32.ofNat 0)) q1 (Int32.ofNat 1)) (adT (fup (fun _ => -1) q0 (Int32.ofNat 0)) (adT (fun _ => -1) (fun _ => 0) q0 0) q1 1) q2 2) (adF (fup (fup (fun _ => -1) q0 (Int32.ofNat 0)) q1 (Int32.ofNat 1)) (adF (fup (fun _ => -1) q0 (Int32.ofNat 0)) (adF (fun _ => -1) (fun _ => -1) q0 0) q1 1) q2 2) (fup (fup (fup (fun _ => -1) q0 (Int32.ofNat 0)) q1 (Int32.ofNat 1)) q2 (Int32.ofNat 2)) [(a386, Ob Z "com/example/rankwise/rankwise/engine/Ranked" NSR [.ref a388, .double FP.dconst0]), (a388, Ia Z [])] (by have := l3420; omega) (by omega) hF420 H435) 0 rfl (by decide) (by decide) (by decide) (by decide) rfl rfl [.int (Int32.ofNat qq)] rfl Dx_211 ?_
              rintro _ h436 ⟨rfl, H436⟩
              change G k n0 _ h436 _ _ 214 [.val (.int p0), .val (.int p1), .val (.int p2), .val (.int p3), .val (.int 3), .val (.int (Int32.ofNat q0)), .val (.int (Int32.ofNat q1)), .val (.int (Int32.ofNat q2)), .val (.int 0), .val (.int (Int32.ofNat qq)), .val (.ref a383), .val (.ref a386), .val (.int 3), .val (.int (-1))] [.int ((adF (fup (fup (fun _ => -1) q0 (Int32.ofNat 0)) q1 (Int32.ofNat 1)) (adF (fup (fun _ => -1) q0 (Int32.ofNat 0)) (adF (fun _ => -1) (fun _ => -1) q0 0) q1 1) q2 2) qq)]
              refine G.iload K Dx_214 rfl ?_
              rw [own_neq (by omega) (by omega)] at q424
              rw [own_neq (by omega) (by omega)] at q426
              rw [own_neq (by omega) (by omega)] at q428
              have hf := fst_3_0 q0 q1 q2 qq
              rw [if_neg q428, if_neg q426, if_neg q424] at hf
              refine G.icmp_ne K Dx_216 (fun q => absurd hf q) (fun q437 => ?_)
              refine G.iconst K Dx_219 1 rfl ?_
              refine G.goto K Dx_220 ?_
              refine G.ret_bool K Dx_224 ?_
              exact rfl
            · refine G.iconst K Dx_204 0 rfl ?_
              refine G.istore K Dx_205 ([.val (.int p0), .val (.int p1), .val (.int p2), .val (.int p3), .val (.int 3), .val (.int (Int32.ofNat q0)), .val (.int (Int32.ofNat q1)), .val (.int (Int32.ofNat q2)), .val (.int 0), .val (.int (Int32.ofNat qq)), .val (.ref a383), .val (.ref a386), .val (.int 3), .val (.int 0)]) rfl ?_
              refine G.aload K Dx_207 rfl rfl ?_
              refine G.iload K Dx_209 rfl ?_
              have H438 : Hp n0 h420 [(gb420, Ia Z (lst L420 (fup (fup (fup (fun _ => -1) q0 (Int32.ofNat 0)) q1 (Int32.ofNat 1)) q2 (Int32.ofNat 2)))), (a383, Ob Z "com/example/rankwise/rankwise/engine/KeptItems" NSI [.ref ia385, .ref ka385, .ref ea385, .ref la385, .int 3, .ref fb420, .ref gb420]), (ia385, Ra Z "com/example/rankwise/rankwise/engine/Ranked" (lst 16 (fup (fup (fup (fun _ => Value.null) 0 (Value.ref a386)) 1 (Value.ref a386)) 2 (Value.ref a386)))), (ka385, Ia Z (lst 16 (fup (fup (fup (fun _ => 0) 0 (Int32.ofNat q0)) 1 (Int32.ofNat q1)) 2 (Int32.ofNat q2)))), (ea385, Ia Z (lst 16 (fup (fup (fup (fun _ => 0) 0 ((fun _ => -1) q0)) 1 ((fup (fun _ => -1) q0 (Int32.ofNat 0)) q1)) 2 ((fup (fup (fun _ => -1) q0 (Int32.ofNat 0)) q1 (Int32.ofNat 1)) q2)))), (la385, Ia Z (lst 16 (adT (fup (fup (fun _ => -1) q0 (Int32.ofNat 0)) q1 (Int32.ofNat 1)) (adT (fup (fun _ => -1) q0 (Int32.ofNat 0)) (adT (fun _ => -1) (fun _ => 0) q0 0) q1 1) q2 2))), (fb420, Ia Z (lst L420 (adF (fup (fup (fun _ => -1) q0 (Int32.ofNat 0)) q1 (Int32.ofNat 1)) (adF (fup (fun _ => -1) q0 (Int32.ofNat 0)) (adF (fun _ => -1) (fun _ => -1) q0 0) q1 1) q2 2))), (a386, Ob Z "com/example/rankwise/rankwise/engine/Ranked" NSR [.ref a388, .double FP.dconst0]), (a388, Ia Z [])] := H420.pull 6 rfl
              have H439 : Hp n0 h420 [(fb420, Ia Z (lst L420 (adF (fup (fup (fun _ => -1) q0 (Int32.ofNat 0)) q1 (Int32.ofNat 1)) (adF (fup (fun _ => -1) q0 (Int32.ofNat 0)) (adF (fun _ => -1) (fun _ => -1) q0 0) q1 1) q2 2))), (gb420, Ia Z (lst L420 (fup (fup (fup (fun _ => -1) q0 (Int32.ofNat 0)) q1 (Int32.ofNat 1)) q2 (Int32.ofNat 2)))), (a383, Ob Z "com/example/rankwise/rankwise/engine/KeptItems" NSI [.ref ia385, .ref ka385, .ref ea385, .ref la385, .int 3, .ref fb420, .ref gb420]), (ia385, Ra Z "com/example/rankwise/rankwise/engine/Ranked" (lst 16 (fup (fup (fup (fun _ => Value.null) 0 (Value.ref a386)) 1 (Value.ref a386)) 2 (Value.ref a386)))), (ka385, Ia Z (lst 16 (fup (fup (fup (fun _ => 0) 0 (Int32.ofNat q0)) 1 (Int32.ofNat q1)) 2 (Int32.ofNat q2)))), (ea385, Ia Z (lst 16 (fup (fup (fup (fun _ => 0) 0 ((fun _ => -1) q0)) 1 ((fup (fun _ => -1) q0 (Int32.ofNat 0)) q1)) 2 ((fup (fup (fun _ => -1) q0 (Int32.ofNat 0)) q1 (Int32.ofNat 1)) q2)))), (la385, Ia Z (lst 16 (adT (fup (fup (fun _ => -1) q0 (Int32.ofNat 0)) q1 (Int32.ofNat 1)) (adT (fup (fun _ => -1) q0 (Int32.ofNat 0)) (adT (fun _ => -1) (fun _ => 0) q0 0) q1 1) q2 2))), (a386, Ob Z "com/example/rankwise/rankwise/engine/Ranked" NSR [.ref a388, .double FP.dconst0]), (a388, Ia Z [])] := H438.pull 6 rfl
              have H440 : Hp n0 h420 [(la385, Ia Z (lst 16 (adT (fup (fup (fun _ => -1) q0 (Int32.ofNat 0)) q1 (Int32.ofNat 1)) (adT (fup (fun _ => -1) q0 (Int32.ofNat 0)) (adT (fun _ => -1) (fun _ => 0) q0 0) q1 1) q2 2))), (fb420, Ia Z (lst L420 (adF (fup (fup (fun _ => -1) q0 (Int32.ofNat 0)) q1 (Int32.ofNat 1)) (adF (fup (fun _ => -1) q0 (Int32.ofNat 0)) (adF (fun _ => -1) (fun _ => -1) q0 0) q1 1) q2 2))), (gb420, Ia Z (lst L420 (fup (fup (fup (fun _ => -1) q0 (Int32.ofNat 0)) q1 (Int32.ofNat 1)) q2 (Int32.ofNat 2)))), (a383, Ob Z "com/example/rankwise/rankwise/engine/KeptItems" NSI [.ref ia385, .ref ka385, .ref ea385, .ref la385, .int 3, .ref fb420, .ref gb420]), (ia385, Ra Z "com/example/rankwise/rankwise/engine/Ranked" (lst 16 (fup (fup (fup (fun _ => Value.null) 0 (Value.ref a386)) 1 (Value.ref a386)) 2 (Value.ref a386)))), (ka385, Ia Z (lst 16 (fup (fup (fup (fun _ => 0) 0 (Int32.ofNat q0)) 1 (Int32.ofNat q1)) 2 (Int32.ofNat q2)))), (ea385, Ia Z (lst 16 (fup (fup (fup (fun _ => 0) 0 ((fun _ => -1) q0)) 1 ((fup (fun _ => -1) q0 (Int32.ofNat 0)) q1)) 2 ((fup (fup (fun _ => -1) q0 (Int32.ofNat 0)) q1 (Int32.ofNat 1)) q2)))), (a386, Ob Z "com/example/rankwise/rankwise/engine/Ranked" NSR [.ref a388, .double FP.dconst0]), (a388, Ia Z [])] := H439.pull 6 rfl
              have H441 : Hp n0 h420 [(ea385, Ia Z (lst 16 (fup (fup (fup (fun _ => 0) 0 ((fun _ => -1) q0)) 1 ((fup (fun _ => -1) q0 (Int32.ofNat 0)) q1)) 2 ((fup (fup (fun _ => -1) q0 (Int32.ofNat 0)) q1 (Int32.ofNat 1)) q2)))), (la385, Ia Z (lst 16 (adT (fup (fup (fun _ => -1) q0 (Int32.ofNat 0)) q1 (Int32.ofNat 1)) (adT (fup (fun _ => -1) q0 (Int32.ofNat 0)) (adT (fun _ => -1) (fun _ => 0) q0 0) q1 1) q2 2))), (fb420, Ia Z (lst L420 (adF (fup (fup (fun _ => -1) q0 (Int32.ofNat 0)) q1 (Int32.ofNat 1)) (adF (fup (fun _ => -1) q0 (Int32.ofNat 0)) (adF (fun _ => -1) (fun _ => -1) q0 0) q1 1) q2 2))), (gb420, Ia Z (lst L420 (fup (fup (fup (fun _ => -1) q0 (Int32.ofNat 0)) q1 (Int32.ofNat 1)) q2 (Int32.ofNat 2)))), (a383, Ob Z "com/example/rankwise/rankwise/engine/KeptItems" NSI [.ref ia385, .ref ka385, .ref ea385, .ref la385, .int 3, .ref fb420, .ref gb420]), (ia385, Ra Z "com/example/rankwise/rankwise/engine/Ranked" (lst 16 (fup (fup (fup (fun _ => Value.null) 0 (Value.ref a386)) 1 (Value.ref a386)) 2 (Value.ref a386)))), (ka385, Ia Z (lst 16 (fup (fup (fup (fun _ => 0) 0 (Int32.ofNat q0)) 1 (Int32.ofNat q1)) 2 (Int32.ofNat q2)))), (a386, Ob Z "com/example/rankwise/rankwise/engine/Ranked" NSR [.ref a388, .double FP.dconst0]), (a388, Ia Z [])] := H440.pull 6 rfl
              have H442 : Hp n0 h420 [(ka385, Ia Z (lst 16 (fup (fup (fup (fun _ => 0) 0 (Int32.ofNat q0)) 1 (Int32.ofNat q1)) 2 (Int32.ofNat q2)))), (ea385, Ia Z (lst 16 (fup (fup (fup (fun _ => 0) 0 ((fun _ => -1) q0)) 1 ((fup (fun _ => -1) q0 (Int32.ofNat 0)) q1)) 2 ((fup (fup (fun _ => -1) q0 (Int32.ofNat 0)) q1 (Int32.ofNat 1)) q2)))), (la385, Ia Z (lst 16 (adT (fup (fup (fun _ => -1) q0 (Int32.ofNat 0)) q1 (Int32.ofNat 1)) (adT (fup (fun _ => -1) q0 (Int32.ofNat 0)) (adT (fun _ => -1) (fun _ => 0) q0 0) q1 1) q2 2))), (fb420, Ia Z (lst L420 (adF (fup (fup (fun _ => -1) q0 (Int32.ofNat 0)) q1 (Int32.ofNat 1)) (adF (fup (fun _ => -1) q0 (Int32.ofNat 0)) (adF (fun _ => -1) (fun _ => -1) q0 0) q1 1) q2 2))), (gb420, Ia Z (lst L420 (fup (fup (fup (fun _ => -1) q0 (Int32.ofNat 0)) q1 (Int32.ofNat 1)) q2 (Int32.ofNat 2)))), (a383, Ob Z "com/example/rankwise/rankwise/engine/KeptItems" NSI [.ref ia385, .ref ka385, .ref ea385, .ref la385, .int 3, .ref fb420, .ref gb420]), (ia385, Ra Z "com/example/rankwise/rankwise/engine/Ranked" (lst 16 (fup (fup (fup (fun _ => Value.null) 0 (Value.ref a386)) 1 (Value.ref a386)) 2 (Value.ref a386)))), (a386, Ob Z "com/example/rankwise/rankwise/engine/Ranked" NSR [.ref a388, .double FP.dconst0]), (a388, Ia Z [])] := H441.pull 6 rfl
              have H443 : Hp n0 h420 [(ia385, Ra Z "com/example/rankwise/rankwise/engine/Ranked" (lst 16 (fup (fup (fup (fun _ => Value.null) 0 (Value.ref a386)) 1 (Value.ref a386)) 2 (Value.ref a386)))), (ka385, Ia Z (lst 16 (fup (fup (fup (fun _ => 0) 0 (Int32.ofNat q0)) 1 (Int32.ofNat q1)) 2 (Int32.ofNat q2)))), (ea385, Ia Z (lst 16 (fup (fup (fup (fun _ => 0) 0 ((fun _ => -1) q0)) 1 ((fup (fun _ => -1) q0 (Int32.ofNat 0)) q1)) 2 ((fup (fup (fun _ => -1) q0 (Int32.ofNat 0)) q1 (Int32.ofNat 1)) q2)))), (la385, Ia Z (lst 16 (adT (fup (fup (fun _ => -1) q0 (Int32.ofNat 0)) q1 (Int32.ofNat 1)) (adT (fup (fun _ => -1) q0 (Int32.ofNat 0)) (adT (fun _ => -1) (fun _ => 0) q0 0) q1 1) q2 2))), (fb420, Ia Z (lst L420 (adF (fup (fup (fun _ => -1) q0 (Int32.ofNat 0)) q1 (Int32.ofNat 1)) (adF (fup (fun _ => -1) q0 (Int32.ofNat 0)) (adF (fun _ => -1) (fun _ => -1) q0 0) q1 1) q2 2))), (gb420, Ia Z (lst L420 (fup (fup (fup (fun _ => -1) q0 (Int32.ofNat 0)) q1 (Int32.ofNat 1)) q2 (Int32.ofNat 2)))), (a383, Ob Z "com/example/rankwise/rankwise/engine/KeptItems" NSI [.ref ia385, .ref ka385, .ref ea385, .ref la385, .int 3, .ref fb420, .ref gb420]), (a386, Ob Z "com/example/rankwise/rankwise/engine/Ranked" NSR [.ref a388, .double FP.dconst0]), (a388, Ia Z [])] := H442.pull 6 rfl
              have H444 : Hp n0 h420 [(a383, Ob Z "com/example/rankwise/rankwise/engine/KeptItems" NSI [.ref ia385, .ref ka385, .ref ea385, .ref la385, .int 3, .ref fb420, .ref gb420]), (ia385, Ra Z "com/example/rankwise/rankwise/engine/Ranked" (lst 16 (fup (fup (fup (fun _ => Value.null) 0 (Value.ref a386)) 1 (Value.ref a386)) 2 (Value.ref a386)))), (ka385, Ia Z (lst 16 (fup (fup (fup (fun _ => 0) 0 (Int32.ofNat q0)) 1 (Int32.ofNat q1)) 2 (Int32.ofNat q2)))), (ea385, Ia Z (lst 16 (fup (fup (fup (fun _ => 0) 0 ((fun _ => -1) q0)) 1 ((fup (fun _ => -1) q0 (Int32.ofNat 0)) q1)) 2 ((fup (fup (fun _ => -1) q0 (Int32.ofNat 0)) q1 (Int32.ofNat 1)) q2)))), (la385, Ia Z (lst 16 (adT (fup (fup (fun _ => -1) q0 (Int32.ofNat 0)) q1 (Int32.ofNat 1)) (adT (fup (fun _ => -1) q0 (Int32.ofNat 0)) (adT (fun _ => -1) (fun _ => 0) q0 0) q1 1) q2 2))), (fb420, Ia Z (lst L420 (adF (fup (fup (fun _ => -1) q0 (Int32.ofNat 0)) q1 (Int32.ofNat 1)) (adF (fup (fun _ => -1) q0 (Int32.ofNat 0)) (adF (fun _ => -1) (fun _ => -1) q0 0) q1 1) q2 2))), (gb420, Ia Z (lst L420 (fup (fup (fup (fun _ => -1) q0 (Int32.ofNat 0)) q1 (Int32.ofNat 1)) q2 (Int32.ofNat 2)))), (a386, Ob Z "com/example/rankwise/rankwise/engine/Ranked" NSR [.ref a388, .double FP.dconst0]), (a388, Ia Z [])] := H443.pull 6 rfl
              refine G.callV K hl (wd hw 35 rfl) (wd hw 36 rfl) (wd hw 38 rfl) (wd hw 37 rfl) (wd hw 2 rfl) (wd hw 39 rfl) (by decide) pd_6 (H444.exa (i := 0) rfl) (ct_first l Z a0 hw n0 h420 a383 ia385 ka385 ea385 la385 fb420 gb420 3 L420 qq (fup (fup (fup (fun _ => Value.null) 0 (Value.ref a386)) 1 (Value.ref a386)) 2 (Value.ref a386)) (fup (fup (fup (fun _ => 0) 0 (Int32.ofNat q0)) 1 (Int32.ofNat q1)) 2 (Int32.ofNat q2)) (fup (fup (fup (fun _ => 0) 0 ((fun _ => -1) q0)) 1 ((fup (fun _ => -1) q0 (Int32.ofNat 0)) q1)) 2 ((fup (fup (fun _ => -1) q0 (Int32.ofNat 0)) q1 (Int32.ofNat 1)) q2)) (adT (fup (fup (fun _ => -1) q0 (Int32.ofNat 0)) q1 (Int32.ofNat 1)) (adT (fup (fun _ => -1) q0 (Int32.ofNat 0)) (adT (fun _ => -1) (fun _ => 0) q0 0) q1 1) q2 2) (adF (fup (fup (fun _ => -1) q0 (Int32.ofNat 0)) q1 (Int32.ofNat 1)) (adF (fup (fun _ => -1) q0 (Int32.ofNat 0)) (adF (fun _ => -1) (fun _ => -1) q0 0) q1 1) q2 2) (fup (fup (fup (fun _ => -1) q0 (Int32.ofNat 0)) q1 (Int32.ofNat 1)) q2 (Int32.ofNat 2)) [(a386, Ob Z "com/example/rankwise/rankwise/engine/Ranked" NSR [.ref a388, .double FP.dconst0]), (a388, Ia Z [])] (by have := l3420; omega) (by omega) hF420 H444) 0 rfl (by decide) (by decide) (by decide) (by decide) rfl rfl [.int (Int32.ofNat qq)] rfl Dx_211 ?_
              rintro _ h445 ⟨rfl, H445⟩
              change G k n0 _ h445 _ _ 214 [.val (.int p0), .val (.int p1), .val (.int p2), .val (.int p3), .val (.int 3), .val (.int (Int32.ofNat q0)), .val (.int (Int32.ofNat q1)), .val (.int (Int32.ofNat q2)), .val (.int 0), .val (.int (Int32.ofNat qq)), .val (.ref a383), .val (.ref a386), .val (.int 3), .val (.int 0)] [.int ((adF (fup (fup (fun _ => -1) q0 (Int32.ofNat 0)) q1 (Int32.ofNat 1)) (adF (fup (fun _ => -1) q0 (Int32.ofNat 0)) (adF (fun _ => -1) (fun _ => -1) q0 0) q1 1) q2 2) qq)]
              refine G.iload K Dx_214 rfl ?_
              rw [own_neq (by omega) (by omega)] at q424
              rw [own_neq (by omega) (by omega)] at q426
              rw [own_neq (by omega) (by omega)] at q428
              have hf := fst_3_0 q0 q1 q2 qq
              rw [if_pos q428] at hf
              refine G.icmp_ne K Dx_216 (fun q => absurd hf q) (fun q446 => ?_)
              refine G.iconst K Dx_219 1 rfl ?_
              refine G.goto K Dx_220 ?_
              refine G.ret_bool K Dx_224 ?_
              exact rfl
          · refine G.iconst K Dx_189 1 rfl ?_
            refine G.istore K Dx_190 ([.val (.int p0), .val (.int p1), .val (.int p2), .val (.int p3), .val (.int 3), .val (.int (Int32.ofNat q0)), .val (.int (Int32.ofNat q1)), .val (.int (Int32.ofNat q2)), .val (.int 0), .val (.int (Int32.ofNat qq)), .val (.ref a383), .val (.ref a386), .val (.int 3), .val (.int 1)]) rfl ?_
            refine G.iload K Dx_192 rfl ?_
            refine G.if_le K Dx_194 (fun q => absurd q (by decide)) (fun _ => ?_)
            refine G.iload K Dx_197 rfl ?_
            refine G.iload K Dx_199 rfl ?_
            refine G.icmp_ne K Dx_201 (fun q448 => ?_) (fun q448 => ?_)
            · refine G.aload K Dx_207 rfl rfl ?_
              refine G.iload K Dx_209 rfl ?_
              have H449 : Hp n0 h420 [(gb420, Ia Z (lst L420 (fup (fup (fup (fun _ => -1) q0 (Int32.ofNat 0)) q1 (Int32.ofNat 1)) q2 (Int32.ofNat 2)))), (a383, Ob Z "com/example/rankwise/rankwise/engine/KeptItems" NSI [.ref ia385, .ref ka385, .ref ea385, .ref la385, .int 3, .ref fb420, .ref gb420]), (ia385, Ra Z "com/example/rankwise/rankwise/engine/Ranked" (lst 16 (fup (fup (fup (fun _ => Value.null) 0 (Value.ref a386)) 1 (Value.ref a386)) 2 (Value.ref a386)))), (ka385, Ia Z (lst 16 (fup (fup (fup (fun _ => 0) 0 (Int32.ofNat q0)) 1 (Int32.ofNat q1)) 2 (Int32.ofNat q2)))), (ea385, Ia Z (lst 16 (fup (fup (fup (fun _ => 0) 0 ((fun _ => -1) q0)) 1 ((fup (fun _ => -1) q0 (Int32.ofNat 0)) q1)) 2 ((fup (fup (fun _ => -1) q0 (Int32.ofNat 0)) q1 (Int32.ofNat 1)) q2)))), (la385, Ia Z (lst 16 (adT (fup (fup (fun _ => -1) q0 (Int32.ofNat 0)) q1 (Int32.ofNat 1)) (adT (fup (fun _ => -1) q0 (Int32.ofNat 0)) (adT (fun _ => -1) (fun _ => 0) q0 0) q1 1) q2 2))), (fb420, Ia Z (lst L420 (adF (fup (fup (fun _ => -1) q0 (Int32.ofNat 0)) q1 (Int32.ofNat 1)) (adF (fup (fun _ => -1) q0 (Int32.ofNat 0)) (adF (fun _ => -1) (fun _ => -1) q0 0) q1 1) q2 2))), (a386, Ob Z "com/example/rankwise/rankwise/engine/Ranked" NSR [.ref a388, .double FP.dconst0]), (a388, Ia Z [])] := H420.pull 6 rfl
              have H450 : Hp n0 h420 [(fb420, Ia Z (lst L420 (adF (fup (fup (fun _ => -1) q0 (Int32.ofNat 0)) q1 (Int32.ofNat 1)) (adF (fup (fun _ => -1) q0 (Int32.ofNat 0)) (adF (fun _ => -1) (fun _ => -1) q0 0) q1 1) q2 2))), (gb420, Ia Z (lst L420 (fup (fup (fup (fun _ => -1) q0 (Int32.ofNat 0)) q1 (Int32.ofNat 1)) q2 (Int32.ofNat 2)))), (a383, Ob Z "com/example/rankwise/rankwise/engine/KeptItems" NSI [.ref ia385, .ref ka385, .ref ea385, .ref la385, .int 3, .ref fb420, .ref gb420]), (ia385, Ra Z "com/example/rankwise/rankwise/engine/Ranked" (lst 16 (fup (fup (fup (fun _ => Value.null) 0 (Value.ref a386)) 1 (Value.ref a386)) 2 (Value.ref a386)))), (ka385, Ia Z (lst 16 (fup (fup (fup (fun _ => 0) 0 (Int32.ofNat q0)) 1 (Int32.ofNat q1)) 2 (Int32.ofNat q2)))), (ea385, Ia Z (lst 16 (fup (fup (fup (fun _ => 0) 0 ((fun _ => -1) q0)) 1 ((fup (fun _ => -1) q0 (Int32.ofNat 0)) q1)) 2 ((fup (fup (fun _ => -1) q0 (Int32.ofNat 0)) q1 (Int32.ofNat 1)) q2)))), (la385, Ia Z (lst 16 (adT (fup (fup (fun _ => -1) q0 (Int32.ofNat 0)) q1 (Int32.ofNat 1)) (adT (fup (fun _ => -1) q0 (Int32.ofNat 0)) (adT (fun _ => -1) (fun _ => 0) q0 0) q1 1) q2 2))), (a386, Ob Z "com/example/rankwise/rankwise/engine/Ranked" NSR [.ref a388, .double FP.dconst0]), (a388, Ia Z [])] := H449.pull 6 rfl
              have H451 : Hp n0 h420 [(la385, Ia Z (lst 16 (adT (fup (fup (fun _ => -1) q0 (Int32.ofNat 0)) q1 (Int32.ofNat 1)) (adT (fup (fun _ => -1) q0 (Int32.ofNat 0)) (adT (fun _ => -1) (fun _ => 0) q0 0) q1 1) q2 2))), (fb420, Ia Z (lst L420 (adF (fup (fup (fun _ => -1) q0 (Int32.ofNat 0)) q1 (Int32.ofNat 1)) (adF (fup (fun _ => -1) q0 (Int32.ofNat 0)) (adF (fun _ => -1) (fun _ => -1) q0 0) q1 1) q2 2))), (gb420, Ia Z (lst L420 (fup (fup (fup (fun _ => -1) q0 (Int32.ofNat 0)) q1 (Int32.ofNat 1)) q2 (Int32.ofNat 2)))), (a383, Ob Z "com/example/rankwise/rankwise/engine/KeptItems" NSI [.ref ia385, .ref ka385, .ref ea385, .ref la385, .int 3, .ref fb420, .ref gb420]), (ia385, Ra Z "com/example/rankwise/rankwise/engine/Ranked" (lst 16 (fup (fup (fup (fun _ => Value.null) 0 (Value.ref a386)) 1 (Value.ref a386)) 2 (Value.ref a386)))), (ka385, Ia Z (lst 16 (fup (fup (fup (fun _ => 0) 0 (Int32.ofNat q0)) 1 (Int32.ofNat q1)) 2 (Int32.ofNat q2)))), (ea385, Ia Z (lst 16 (fup (fup (fup (fun _ => 0) 0 ((fun _ => -1) q0)) 1 ((fup (fun _ => -1) q0 (Int32.ofNat 0)) q1)) 2 ((fup (fup (fun _ => -1) q0 (Int32.ofNat 0)) q1 (Int32.ofNat 1)) q2)))), (a386, Ob Z "com/example/rankwise/rankwise/engine/Ranked" NSR [.ref a388, .double FP.dconst0]), (a388, Ia Z [])] := H450.pull 6 rfl
              have H452 : Hp n0 h420 [(ea385, Ia Z (lst 16 (fup (fup (fup (fun _ => 0) 0 ((fun _ => -1) q0)) 1 ((fup (fun _ => -1) q0 (Int32.ofNat 0)) q1)) 2 ((fup (fup (fun _ => -1) q0 (Int32.ofNat 0)) q1 (Int32.ofNat 1)) q2)))), (la385, Ia Z (lst 16 (adT (fup (fup (fun _ => -1) q0 (Int32.ofNat 0)) q1 (Int32.ofNat 1)) (adT (fup (fun _ => -1) q0 (Int32.ofNat 0)) (adT (fun _ => -1) (fun _ => 0) q0 0) q1 1) q2 2))), (fb420, Ia Z (lst L420 (adF (fup (fup (fun _ => -1) q0 (Int32.ofNat 0)) q1 (Int32.ofNat 1)) (adF (fup (fun _ => -1) q0 (Int32.ofNat 0)) (adF (fun _ => -1) (fun _ => -1) q0 0) q1 1) q2 2))), (gb420, Ia Z (lst L420 (fup (fup (fup (fun _ => -1) q0 (Int32.ofNat 0)) q1 (Int32.ofNat 1)) q2 (Int32.ofNat 2)))), (a383, Ob Z "com/example/rankwise/rankwise/engine/KeptItems" NSI [.ref ia385, .ref ka385, .ref ea385, .ref la385, .int 3, .ref fb420, .ref gb420]), (ia385, Ra Z "com/example/rankwise/rankwise/engine/Ranked" (lst 16 (fup (fup (fup (fun _ => Value.null) 0 (Value.ref a386)) 1 (Value.ref a386)) 2 (Value.ref a386)))), (ka385, Ia Z (lst 16 (fup (fup (fup (fun _ => 0) 0 (Int32.ofNat q0)) 1 (Int32.ofNat q1)) 2 (Int32.ofNat q2)))), (a386, Ob Z "com/example/rankwise/rankwise/engine/Ranked" NSR [.ref a388, .double FP.dconst0]), (a388, Ia Z [])] := H451.pull 6 rfl
              have H453 : Hp n0 h420 [(ka385, Ia Z (lst 16 (fup (fup (fup (fun _ => 0) 0 (Int32.ofNat q0)) 1 (Int32.ofNat q1)) 2 (Int32.ofNat q2)))), (ea385, Ia Z (lst 16 (fup (fup (fup (fun _ => 0) 0 ((fun _ => -1) q0)) 1 ((fup (fun _ => -1) q0 (Int32.ofNat 0)) q1)) 2 ((fup (fup (fun _ => -1) q0 (Int32.ofNat 0)) q1 (Int32.ofNat 1)) q2)))), (la385, Ia Z (lst 16 (adT (fup (fup (fun _ => -1) q0 (Int32.ofNat 0)) q1 (Int32.ofNat 1)) (adT (fup (fun _ => -1) q0 (Int32.ofNat 0)) (adT (fun _ => -1) (fun _ => 0) q0 0) q1 1) q2 2))), (fb420, Ia Z (lst L420 (adF (fup (fup (fun _ => -1) q0 (Int32.ofNat 0)) q1 (Int32.ofNat 1)) (adF (fup (fun _ => -1) q0 (Int32.ofNat 0)) (adF (fun _ => -1) (fun _ => -1) q0 0) q1 1) q2 2))), (gb420, Ia Z (lst L420 (fup (fup (fup (fun _ => -1) q0 (Int32.ofNat 0)) q1 (Int32.ofNat 1)) q2 (Int32.ofNat 2)))), (a383, Ob Z "com/example/rankwise/rankwise/engine/KeptItems" NSI [.ref ia385, .ref ka385, .ref ea385, .ref la385, .int 3, .ref fb420, .ref gb420]), (ia385, Ra Z "com/example/rankwise/rankwise/engine/Ranked" (lst 16 (fup (fup (fup (fun _ => Value.null) 0 (Value.ref a386)) 1 (Value.ref a386)) 2 (Value.ref a386)))), (a386, Ob Z "com/example/rankwise/rankwise/engine/Ranked" NSR [.ref a388, .double FP.dconst0]), (a388, Ia Z [])] := H452.pull 6 rfl
              have H454 : Hp n0 h420 [(ia385, Ra Z "com/example/rankwise/rankwise/engine/Ranked" (lst 16 (fup (fup (fup (fun _ => Value.null) 0 (Value.ref a386)) 1 (Value.ref a386)) 2 (Value.ref a386)))), (ka385, Ia Z (lst 16 (fup (fup (fup (fun _ => 0) 0 (Int32.ofNat q0)) 1 (Int32.ofNat q1)) 2 (Int32.ofNat q2)))), (ea385, Ia Z (lst 16 (fup (fup (fup (fun _ => 0) 0 ((fun _ => -1) q0)) 1 ((fup (fun _ => -1) q0 (Int32.ofNat 0)) q1)) 2 ((fup (fup (fun _ => -1) q0 (Int32.ofNat 0)) q1 (Int32.ofNat 1)) q2)))), (la385, Ia Z (lst 16 (adT (fup (fup (fun _ => -1) q0 (Int32.ofNat 0)) q1 (Int32.ofNat 1)) (adT (fup (fun _ => -1) q0 (Int32.ofNat 0)) (adT (fun _ => -1) (fun _ => 0) q0 0) q1 1) q2 2))), (fb420, Ia Z (lst L420 (adF (fup (fup (fun _ => -1) q0 (Int32.ofNat 0)) q1 (Int32.ofNat 1)) (adF (fup (fun _ => -1) q0 (Int32.ofNat 0)) (adF (fun _ => -1) (fun _ => -1) q0 0) q1 1) q2 2))), (gb420, Ia Z (lst L420 (fup (fup (fup (fun _ => -1) q0 (Int32.ofNat 0)) q1 (Int32.ofNat 1)) q2 (Int32.ofNat 2)))), (a383, Ob Z "com/example/rankwise/rankwise/engine/KeptItems" NSI [.ref ia385, .ref ka385, .ref ea385, .ref la385, .int 3, .ref fb420, .ref gb420]), (a386, Ob Z "com/example/rankwise/rankwise/engine/Ranked" NSR [.ref a388, .double FP.dconst0]), (a388, Ia Z [])] := H453.pull 6 rfl
              have H455 : Hp n0 h420 [(a383, Ob Z "com/example/rankwise/rankwise/engine/KeptItems" NSI [.ref ia385, .ref ka385, .ref ea385, .ref la385, .int 3, .ref fb420, .ref gb420]), (ia385, Ra Z "com/example/rankwise/rankwise/engine/Ranked" (lst 16 (fup (fup (fup (fun _ => Value.null) 0 (Value.ref a386)) 1 (Value.ref a386)) 2 (Value.ref a386)))), (ka385, Ia Z (lst 16 (fup (fup (fup (fun _ => 0) 0 (Int32.ofNat q0)) 1 (Int32.ofNat q1)) 2 (Int32.ofNat q2)))), (ea385, Ia Z (lst 16 (fup (fup (fup (fun _ => 0) 0 ((fun _ => -1) q0)) 1 ((fup (fun _ => -1) q0 (Int32.ofNat 0)) q1)) 2 ((fup (fup (fun _ => -1) q0 (Int32.ofNat 0)) q1 (Int32.ofNat 1)) q2)))), (la385, Ia Z (lst 16 (adT (fup (fup (fun _ => -1) q0 (Int32.ofNat 0)) q1 (Int32.ofNat 1)) (adT (fup (fun _ => -1) q0 (Int32.ofNat 0)) (adT (fun _ => -1) (fun _ => 0) q0 0) q1 1) q2 2))), (fb420, Ia Z (lst L420 (adF (fup (fup (fun _ => -1) q0 (Int32.ofNat 0)) q1 (Int32.ofNat 1)) (adF (fup (fun _ => -1) q0 (Int32.ofNat 0)) (adF (fun _ => -1) (fun _ => -1) q0 0) q1 1) q2 2))), (gb420, Ia Z (lst L420 (fup (fup (fup (fun _ => -1) q0 (Int32.ofNat 0)) q1 (Int32.ofNat 1)) q2 (Int32.ofNat 2)))), (a386, Ob Z "com/example/rankwise/rankwise/engine/Ranked" NSR [.ref a388, .double FP.dconst0]), (a388, Ia Z [])] := H454.pull 6 rfl
              refine G.callV K hl (wd hw 35 rfl) (wd hw 36 rfl) (wd hw 38 rfl) (wd hw 37 rfl) (wd hw 2 rfl) (wd hw 39 rfl) (by decide) pd_6 (H455.exa (i := 0) rfl) (ct_first l Z a0 hw n0 h420 a383 ia385 ka385 ea385 la385 fb420 gb420 3 L420 qq (fup (fup (fup (fun _ => Value.null) 0 (Value.ref a386)) 1 (Value.ref a386)) 2 (Value.ref a386)) (fup (fup (fup (fun _ => 0) 0 (Int32.ofNat q0)) 1 (Int32.ofNat q1)) 2 (Int32.ofNat q2)) (fup (fup (fup (fun _ => 0) 0 ((fun _ => -1) q0)) 1 ((fup (fun _ => -1) q0 (Int32.ofNat 0)) q1)) 2 ((fup (fup (fun _ => -1) q0 (Int32.ofNat 0)) q1 (Int32.ofNat 1)) q2)) (adT (fup (fup (fun _ => -1) q0 (Int32.ofNat 0)) q1 (Int32.ofNat 1)) (adT (fup (fun _ => -1) q0 (Int32.ofNat 0)) (adT (fun _ => -1) (fun _ => 0) q0 0) q1 1) q2 2) (adF (fup (fup (fun _ => -1) q0 (Int32.ofNat 0)) q1 (Int32.ofNat 1)) (adF (fup (fun _ => -1) q0 (Int32.ofNat 0)) (adF (fun _ => -1) (fun _ => -1) q0 0) q1 1) q2 2) (fup (fup (fup (fun _ => -1) q0 (Int32.ofNat 0)) q1 (Int32.ofNat 1)) q2 (Int32.ofNat 2)) [(a386, Ob Z "com/example/rankwise/rankwise/engine/Ranked" NSR [.ref a388, .double FP.dconst0]), (a388, Ia Z [])] (by have := l3420; omega) (by omega) hF420 H455) 0 rfl (by decide) (by decide) (by decide) (by decide) rfl rfl [.int (Int32.ofNat qq)] rfl Dx_211 ?_
              rintro _ h456 ⟨rfl, H456⟩
              change G k n0 _ h456 _ _ 214 [.val (.int p0), .val (.int p1), .val (.int p2), .val (.int p3), .val (.int 3), .val (.int (Int32.ofNat q0)), .val (.int (Int32.ofNat q1)), .val (.int (Int32.ofNat q2)), .val (.int 0), .val (.int (Int32.ofNat qq)), .val (.ref a383), .val (.ref a386), .val (.int 3), .val (.int 1)] [.int ((adF (fup (fup (fun _ => -1) q0 (Int32.ofNat 0)) q1 (Int32.ofNat 1)) (adF (fup (fun _ => -1) q0 (Int32.ofNat 0)) (adF (fun _ => -1) (fun _ => -1) q0 0) q1 1) q2 2) qq)]
              refine G.iload K Dx_214 rfl ?_
              rw [own_neq (by omega) (by omega)] at q424
              rw [own_neq (by omega) (by omega)] at q426
              rw [own_neq (by omega) (by omega)] at q448
              have hf := fst_3_0 q0 q1 q2 qq
              rw [if_neg q448, if_pos q426] at hf
              refine G.icmp_ne K Dx_216 (fun q => absurd hf q) (fun q457 => ?_)
              refine G.iconst K Dx_219 1 rfl ?_
              refine G.goto K Dx_220 ?_
              refine G.ret_bool K Dx_224 ?_
              exact rfl
            · refine G.iconst K Dx_204 0 rfl ?_
              refine G.istore K Dx_205 ([.val (.int p0), .val (.int p1), .val (.int p2), .val (.int p3), .val (.int 3), .val (.int (Int32.ofNat q0)), .val (.int (Int32.ofNat q1)), .val (.int (Int32.ofNat q2)), .val (.int 0), .val (.int (Int32.ofNat qq)), .val (.ref a383), .val (.ref a386), .val (.int 3), .val (.int 0)]) rfl ?_
              refine G.aload K Dx_207 rfl rfl ?_
              refine G.iload K Dx_209 rfl ?_
              have H458 : Hp n0 h420 [(gb420, Ia Z (lst L420 (fup (fup (fup (fun _ => -1) q0 (Int32.ofNat 0)) q1 (Int32.ofNat 1)) q2 (Int32.ofNat 2)))), (a383, Ob Z "com/example/rankwise/rankwise/engine/KeptItems" NSI [.ref ia385, .ref ka385, .ref ea385, .ref la385, .int 3, .ref fb420, .ref gb420]), (ia385, Ra Z "com/example/rankwise/rankwise/engine/Ranked" (lst 16 (fup (fup (fup (fun _ => Value.null) 0 (Value.ref a386)) 1 (Value.ref a386)) 2 (Value.ref a386)))), (ka385, Ia Z (lst 16 (fup (fup (fup (fun _ => 0) 0 (Int32.ofNat q0)) 1 (Int32.ofNat q1)) 2 (Int32.ofNat q2)))), (ea385, Ia Z (lst 16 (fup (fup (fup (fun _ => 0) 0 ((fun _ => -1) q0)) 1 ((fup (fun _ => -1) q0 (Int32.ofNat 0)) q1)) 2 ((fup (fup (fun _ => -1) q0 (Int32.ofNat 0)) q1 (Int32.ofNat 1)) q2)))), (la385, Ia Z (lst 16 (adT (fup (fup (fun _ => -1) q0 (Int32.ofNat 0)) q1 (Int32.ofNat 1)) (adT (fup (fun _ => -1) q0 (Int32.ofNat 0)) (adT (fun _ => -1) (fun _ => 0) q0 0) q1 1) q2 2))), (fb420, Ia Z (lst L420 (adF (fup (fup (fun _ => -1) q0 (Int32.ofNat 0)) q1 (Int32.ofNat 1)) (adF (fup (fun _ => -1) q0 (Int32.ofNat 0)) (adF (fun _ => -1) (fun _ => -1) q0 0) q1 1) q2 2))), (a386, Ob Z "com/example/rankwise/rankwise/engine/Ranked" NSR [.ref a388, .double FP.dconst0]), (a388, Ia Z [])] := H420.pull 6 rfl
              have H459 : Hp n0 h420 [(fb420, Ia Z (lst L420 (adF (fup (fup (fun _ => -1) q0 (Int32.ofNat 0)) q1 (Int32.ofNat 1)) (adF (fup (fun _ => -1) q0 (Int32.ofNat 0)) (adF (fun _ => -1) (fun _ => -1) q0 0) q1 1) q2 2))), (gb420, Ia Z (lst L420 (fup (fup (fup (fun _ => -1) q0 (Int32.ofNat 0)) q1 (Int32.ofNat 1)) q2 (Int32.ofNat 2)))), (a383, Ob Z "com/example/rankwise/rankwise/engine/KeptItems" NSI [.ref ia385, .ref ka385, .ref ea385, .ref la385, .int 3, .ref fb420, .ref gb420]), (ia385, Ra Z "com/example/rankwise/rankwise/engine/Ranked" (lst 16 (fup (fup (fup (fun _ => Value.null) 0 (Value.ref a386)) 1 (Value.ref a386)) 2 (Value.ref a386)))), (ka385, Ia Z (lst 16 (fup (fup (fup (fun _ => 0) 0 (Int32.ofNat q0)) 1 (Int32.ofNat q1)) 2 (Int32.ofNat q2)))), (ea385, Ia Z (lst 16 (fup (fup (fup (fun _ => 0) 0 ((fun _ => -1) q0)) 1 ((fup (fun _ => -1) q0 (Int32.ofNat 0)) q1)) 2 ((fup (fup (fun _ => -1) q0 (Int32.ofNat 0)) q1 (Int32.ofNat 1)) q2)))), (la385, Ia Z (lst 16 (adT (fup (fup (fun _ => -1) q0 (Int32.ofNat 0)) q1 (Int32.ofNat 1)) (adT (fup (fun _ => -1) q0 (Int32.ofNat 0)) (adT (fun _ => -1) (fun _ => 0) q0 0) q1 1) q2 2))), (a386, Ob Z "com/example/rankwise/rankwise/engine/Ranked" NSR [.ref a388, .double FP.dconst0]), (a388, Ia Z [])] := H458.pull 6 rfl
              have H460 : Hp n0 h420 [(la385, Ia Z (lst 16 (adT (fup (fup (fun _ => -1) q0 (Int32.ofNat 0)) q1 (Int32.ofNat 1)) (adT (fup (fun _ => -1) q0 (Int32.ofNat 0)) (adT (fun _ => -1) (fun _ => 0) q0 0) q1 1) q2 2))), (fb420, Ia Z (lst L420 (adF (fup (fup (fun _ => -1) q0 (Int32.ofNat 0)) q1 (Int32.ofNat 1)) (adF (fup (fun _ => -1) q0 (Int32.ofNat 0)) (adF (fun _ => -1) (fun _ => -1) q0 0) q1 1) q2 2))), (gb420, Ia Z (lst L420 (fup (fup (fup (fun _ => -1) q0 (Int32.ofNat 0)) q1 (Int32.ofNat 1)) q2 (Int32.ofNat 2)))), (a383, Ob Z "com/example/rankwise/rankwise/engine/KeptItems" NSI [.ref ia385, .ref ka385, .ref ea385, .ref la385, .int 3, .ref fb420, .ref gb420]), (ia385, Ra Z "com/example/rankwise/rankwise/engine/Ranked" (lst 16 (fup (fup (fup (fun _ => Value.null) 0 (Value.ref a386)) 1 (Value.ref a386)) 2 (Value.ref a386)))), (ka385, Ia Z (lst 16 (fup (fup (fup (fun _ => 0) 0 (Int32.ofNat q0)) 1 (Int32.ofNat q1)) 2 (Int32.ofNat q2)))), (ea385, Ia Z (lst 16 (fup (fup (fup (fun _ => 0) 0 ((fun _ => -1) q0)) 1 ((fup (fun _ => -1) q0 (Int32.ofNat 0)) q1)) 2 ((fup (fup (fun _ => -1) q0 (Int32.ofNat 0)) q1 (Int32.ofNat 1)) q2)))), (a386, Ob Z "com/example/rankwise/rankwise/engine/Ranked" NSR [.ref a388, .double FP.dconst0]), (a388, Ia Z [])] := H459.pull 6 rfl
              have H461 : Hp n0 h420 [(ea385, Ia Z (lst 16 (fup (fup (fup (fun _ => 0) 0 ((fun _ => -1) q0)) 1 ((fup (fun _ => -1) q0 (Int32.ofNat 0)) q1)) 2 ((fup (fup (fun _ => -1) q0 (Int32.ofNat 0)) q1 (Int32.ofNat 1)) q2)))), (la385, Ia Z (lst 16 (adT (fup (fup (fun _ => -1) q0 (Int32.ofNat 0)) q1 (Int32.ofNat 1)) (adT (fup (fun _ => -1) q0 (Int32.ofNat 0)) (adT (fun _ => -1) (fun _ => 0) q0 0) q1 1) q2 2))), (fb420, Ia Z (lst L420 (adF (fup (fup (fun _ => -1) q0 (Int32.ofNat 0)) q1 (Int32.ofNat 1)) (adF (fup (fun _ => -1) q0 (Int32.ofNat 0)) (adF (fun _ => -1) (fun _ => -1) q0 0) q1 1) q2 2))), (gb420, Ia Z (lst L420 (fup (fup (fup (fun _ => -1) q0 (Int32.ofNat 0)) q1 (Int32.ofNat 1)) q2 (Int32.ofNat 2)))), (a383, Ob Z "com/example/rankwise/rankwise/engine/KeptItems" NSI [.ref ia385, .ref ka385, .ref ea385, .ref la385, .int 3, .ref fb420, .ref gb420]), (ia385, Ra Z "com/example/rankwise/rankwise/engine/Ranked" (lst 16 (fup (fup (fup (fun _ => Value.null) 0 (Value.ref a386)) 1 (Value.ref a386)) 2 (Value.ref a386)))), (ka385, Ia Z (lst 16 (fup (fup (fup (fun _ => 0) 0 (Int32.ofNat q0)) 1 (Int32.ofNat q1)) 2 (Int32.ofNat q2)))), (a386, Ob Z "com/example/rankwise/rankwise/engine/Ranked" NSR [.ref a388, .double FP.dconst0]), (a388, Ia Z [])] := H460.pull 6 rfl
              have H462 : Hp n0 h420 [(ka385, Ia Z (lst 16 (fup (fup (fup (fun _ => 0) 0 (Int32.ofNat q0)) 1 (Int32.ofNat q1)) 2 (Int32.ofNat q2)))), (ea385, Ia Z (lst 16 (fup (fup (fup (fun _ => 0) 0 ((fun _ => -1) q0)) 1 ((fup (fun _ => -1) q0 (Int32.ofNat 0)) q1)) 2 ((fup (fup (fun _ => -1) q0 (Int32.ofNat 0)) q1 (Int32.ofNat 1)) q2)))), (la385, Ia Z (lst 16 (adT (fup (fup (fun _ => -1) q0 (Int32.ofNat 0)) q1 (Int32.ofNat 1)) (adT (fup (fun _ => -1) q0 (Int32.ofNat 0)) (adT (fun _ => -1) (fun _ => 0) q0 0) q1 1) q2 2))), (fb420, Ia Z (lst L420 (adF (fup (fup (fun _ => -1) q0 (Int32.ofNat 0)) q1 (Int32.ofNat 1)) (adF (fup (fun _ => -1) q0 (Int32.ofNat 0)) (adF (fun _ => -1) (fun _ => -1) q0 0) q1 1) q2 2))), (gb420, Ia Z (lst L420 (fup (fup (fup (fun _ => -1) q0 (Int32.ofNat 0)) q1 (Int32.ofNat 1)) q2 (Int32.ofNat 2)))), (a383, Ob Z "com/example/rankwise/rankwise/engine/KeptItems" NSI [.ref ia385, .ref ka385, .ref ea385, .ref la385, .int 3, .ref fb420, .ref gb420]), (ia385, Ra Z "com/example/rankwise/rankwise/engine/Ranked" (lst 16 (fup (fup (fup (fun _ => Value.null) 0 (Value.ref a386)) 1 (Value.ref a386)) 2 (Value.ref a386)))), (a386, Ob Z "com/example/rankwise/rankwise/engine/Ranked" NSR [.ref a388, .double FP.dconst0]), (a388, Ia Z [])] := H461.pull 6 rfl
              have H463 : Hp n0 h420 [(ia385, Ra Z "com/example/rankwise/rankwise/engine/Ranked" (lst 16 (fup (fup (fup (fun _ => Value.null) 0 (Value.ref a386)) 1 (Value.ref a386)) 2 (Value.ref a386)))), (ka385, Ia Z (lst 16 (fup (fup (fup (fun _ => 0) 0 (Int32.ofNat q0)) 1 (Int32.ofNat q1)) 2 (Int32.ofNat q2)))), (ea385, Ia Z (lst 16 (fup (fup (fup (fun _ => 0) 0 ((fun _ => -1) q0)) 1 ((fup (fun _ => -1) q0 (Int32.ofNat 0)) q1)) 2 ((fup (fup (fun _ => -1) q0 (Int32.ofNat 0)) q1 (Int32.ofNat 1)) q2)))), (la385, Ia Z (lst 16 (adT (fup (fup (fun _ => -1) q0 (Int32.ofNat 0)) q1 (Int32.ofNat 1)) (adT (fup (fun _ => -1) q0 (Int32.ofNat 0)) (adT (fun _ => -1) (fun _ => 0) q0 0) q1 1) q2 2))), (fb420, Ia Z (lst L420 (adF (fup (fup (fun _ => -1) q0 (Int32.ofNat 0)) q1 (Int32.ofNat 1)) (adF (fup (fun _ => -1) q0 (Int32.ofNat 0)) (adF (fun _ => -1) (fun _ => -1) q0 0) q1 1) q2 2))), (gb420, Ia Z (lst L420 (fup (fup (fup (fun _ => -1) q0 (Int32.ofNat 0)) q1 (Int32.ofNat 1)) q2 (Int32.ofNat 2)))), (a383, Ob Z "com/example/rankwise/rankwise/engine/KeptItems" NSI [.ref ia385, .ref ka385, .ref ea385, .ref la385, .int 3, .ref fb420, .ref gb420]), (a386, Ob Z "com/example/rankwise/rankwise/engine/Ranked" NSR [.ref a388, .double FP.dconst0]), (a388, Ia Z [])] := H462.pull 6 rfl
              have H464 : Hp n0 h420 [(a383, Ob Z "com/example/rankwise/rankwise/engine/KeptItems" NSI [.ref ia385, .ref ka385, .ref ea385, .ref la385, .int 3, .ref fb420, .ref gb420]), (ia385, Ra Z "com/example/rankwise/rankwise/engine/Ranked" (lst 16 (fup (fup (fup (fun _ => Value.null) 0 (Value.ref a386)) 1 (Value.ref a386)) 2 (Value.ref a386)))), (ka385, Ia Z (lst 16 (fup (fup (fup (fun _ => 0) 0 (Int32.ofNat q0)) 1 (Int32.ofNat q1)) 2 (Int32.ofNat q2)))), (ea385, Ia Z (lst 16 (fup (fup (fup (fun _ => 0) 0 ((fun _ => -1) q0)) 1 ((fup (fun _ => -1) q0 (Int32.ofNat 0)) q1)) 2 ((fup (fup (fun _ => -1) q0 (Int32.ofNat 0)) q1 (Int32.ofNat 1)) q2)))), (la385, Ia Z (lst 16 (adT (fup (fup (fun _ => -1) q0 (Int32.ofNat 0)) q1 (Int32.ofNat 1)) (adT (fup (fun _ => -1) q0 (Int32.ofNat 0)) (adT (fun _ => -1) (fun _ => 0) q0 0) q1 1) q2 2))), (fb420, Ia Z (lst L420 (adF (fup (fup (fun _ => -1) q0 (Int32.ofNat 0)) q1 (Int32.ofNat 1)) (adF (fup (fun _ => -1) q0 (Int32.ofNat 0)) (adF (fun _ => -1) (fun _ => -1) q0 0) q1 1) q2 2))), (gb420, Ia Z (lst L420 (fup (fup (fup (fun _ => -1) q0 (Int32.ofNat 0)) q1 (Int32.ofNat 1)) q2 (Int32.ofNat 2)))), (a386, Ob Z "com/example/rankwise/rankwise/engine/Ranked" NSR [.ref a388, .double FP.dconst0]), (a388, Ia Z [])] := H463.pull 6 rfl
              refine G.callV K hl (wd hw 35 rfl) (wd hw 36 rfl) (wd hw 38 rfl) (wd hw 37 rfl) (wd hw 2 rfl) (wd hw 39 rfl) (by decide) pd_6 (H464.exa (i := 0) rfl) (ct_first l Z a0 hw n0 h420 a383 ia385 ka385 ea385 la385 fb420 gb420 3 L420 qq (fup (fup (fup (fun _ => Value.null) 0 (Value.ref a386)) 1 (Value.ref a386)) 2 (Value.ref a386)) (fup (fup (fup (fun _ => 0) 0 (Int32.ofNat q0)) 1 (Int32.ofNat q1)) 2 (Int32.ofNat q2)) (fup (fup (fup (fun _ => 0) 0 ((fun _ => -1) q0)) 1 ((fup (fun _ => -1) q0 (Int32.ofNat 0)) q1)) 2 ((fup (fup (fun _ => -1) q0 (Int32.ofNat 0)) q1 (Int32.ofNat 1)) q2)) (adT (fup (fup (fun _ => -1) q0 (Int32.ofNat 0)) q1 (Int32.ofNat 1)) (adT (fup (fun _ => -1) q0 (Int32.ofNat 0)) (adT (fun _ => -1) (fun _ => 0) q0 0) q1 1) q2 2) (adF (fup (fup (fun _ => -1) q0 (Int32.ofNat 0)) q1 (Int32.ofNat 1)) (adF (fup (fun _ => -1) q0 (Int32.ofNat 0)) (adF (fun _ => -1) (fun _ => -1) q0 0) q1 1) q2 2) (fup (fup (fup (fun _ => -1) q0 (Int32.ofNat 0)) q1 (Int32.ofNat 1)) q2 (Int32.ofNat 2)) [(a386, Ob Z "com/example/rankwise/rankwise/engine/Ranked" NSR [.ref a388, .double FP.dconst0]), (a388, Ia Z [])] (by have := l3420; omega) (by omega) hF420 H464) 0 rfl (by decide) (by decide) (by decide) (by decide) rfl rfl [.int (Int32.ofNat qq)] rfl Dx_211 ?_
              rintro _ h465 ⟨rfl, H465⟩
              change G k n0 _ h465 _ _ 214 [.val (.int p0), .val (.int p1), .val (.int p2), .val (.int p3), .val (.int 3), .val (.int (Int32.ofNat q0)), .val (.int (Int32.ofNat q1)), .val (.int (Int32.ofNat q2)), .val (.int 0), .val (.int (Int32.ofNat qq)), .val (.ref a383), .val (.ref a386), .val (.int 3), .val (.int 0)] [.int ((adF (fup (fup (fun _ => -1) q0 (Int32.ofNat 0)) q1 (Int32.ofNat 1)) (adF (fup (fun _ => -1) q0 (Int32.ofNat 0)) (adF (fun _ => -1) (fun _ => -1) q0 0) q1 1) q2 2) qq)]
              refine G.iload K Dx_214 rfl ?_
              rw [own_neq (by omega) (by omega)] at q424
              rw [own_neq (by omega) (by omega)] at q426
              rw [own_neq (by omega) (by omega)] at q448
              have hf := fst_3_0 q0 q1 q2 qq
              rw [if_pos q448] at hf
              refine G.icmp_ne K Dx_216 (fun q => absurd hf q) (fun q466 => ?_)
              refine G.iconst K Dx_219 1 rfl ?_
              refine G.goto K Dx_220 ?_
              refine G.ret_bool K Dx_224 ?_
              exact rfl
        · refine G.iconst K Dx_173 2 rfl ?_
          refine G.istore K Dx_174 ([.val (.int p0), .val (.int p1), .val (.int p2), .val (.int p3), .val (.int 3), .val (.int (Int32.ofNat q0)), .val (.int (Int32.ofNat q1)), .val (.int (Int32.ofNat q2)), .val (.int 0), .val (.int (Int32.ofNat qq)), .val (.ref a383), .val (.ref a386), .val (.int 3), .val (.int 2)]) rfl ?_
          refine G.iload K Dx_176 rfl ?_
          refine G.iconst K Dx_178 1 rfl ?_
          refine G.icmp_le K Dx_179 (fun q => absurd q (by decide)) (fun _ => ?_)
          refine G.iload K Dx_182 rfl ?_
          refine G.iload K Dx_184 rfl ?_
          refine G.icmp_ne K Dx_186 (fun q468 => ?_) (fun q468 => ?_)
          · refine G.iload K Dx_192 rfl ?_
            refine G.if_le K Dx_194 (fun q => absurd q (by decide)) (fun _ => ?_)
            refine G.iload K Dx_197 rfl ?_
            refine G.iload K Dx_199 rfl ?_
            refine G.icmp_ne K Dx_201 (fun q470 => ?_) (fun q470 => ?_)
            · refine G.aload K Dx_207 rfl rfl ?_
              refine G.iload K Dx_209 rfl ?_
              have H471 : Hp n0 h420 [(gb420, Ia Z (lst L420 (fup (fup (fup (fun _ => -1) q0 (Int32.ofNat 0)) q1 (Int32.ofNat 1)) q2 (Int32.ofNat 2)))), (a383, Ob Z "com/example/rankwise/rankwise/engine/KeptItems" NSI [.ref ia385, .ref ka385, .ref ea385, .ref la385, .int 3, .ref fb420, .ref gb420]), (ia385, Ra Z "com/example/rankwise/rankwise/engine/Ranked" (lst 16 (fup (fup (fup (fun _ => Value.null) 0 (Value.ref a386)) 1 (Value.ref a386)) 2 (Value.ref a386)))), (ka385, Ia Z (lst 16 (fup (fup (fup (fun _ => 0) 0 (Int32.ofNat q0)) 1 (Int32.ofNat q1)) 2 (Int32.ofNat q2)))), (ea385, Ia Z (lst 16 (fup (fup (fup (fun _ => 0) 0 ((fun _ => -1) q0)) 1 ((fup (fun _ => -1) q0 (Int32.ofNat 0)) q1)) 2 ((fup (fup (fun _ => -1) q0 (Int32.ofNat 0)) q1 (Int32.ofNat 1)) q2)))), (la385, Ia Z (lst 16 (adT (fup (fup (fun _ => -1) q0 (Int32.ofNat 0)) q1 (Int32.ofNat 1)) (adT (fup (fun _ => -1) q0 (Int32.ofNat 0)) (adT (fun _ => -1) (fun _ => 0) q0 0) q1 1) q2 2))), (fb420, Ia Z (lst L420 (adF (fup (fup (fun _ => -1) q0 (Int32.ofNat 0)) q1 (Int32.ofNat 1)) (adF (fup (fun _ => -1) q0 (Int32.ofNat 0)) (adF (fun _ => -1) (fun _ => -1) q0 0) q1 1) q2 2))), (a386, Ob Z "com/example/rankwise/rankwise/engine/Ranked" NSR [.ref a388, .double FP.dconst0]), (a388, Ia Z [])] := H420.pull 6 rfl
              have H472 : Hp n0 h420 [(fb420, Ia Z (lst L420 (adF (fup (fup (fun _ => -1) q0 (Int32.ofNat 0)) q1 (Int32.ofNat 1)) (adF (fup (fun _ => -1) q0 (Int32.ofNat 0)) (adF (fun _ => -1) (fun _ => -1) q0 0) q1 1) q2 2))), (gb420, Ia Z (lst L420 (fup (fup (fup (fun _ => -1) q0 (Int32.ofNat 0)) q1 (Int32.ofNat 1)) q2 (Int32.ofNat 2)))), (a383, Ob Z "com/example/rankwise/rankwise/engine/KeptItems" NSI [.ref ia385, .ref ka385, .ref ea385, .ref la385, .int 3, .ref fb420, .ref gb420]), (ia385, Ra Z "com/example/rankwise/rankwise/engine/Ranked" (lst 16 (fup (fup (fup (fun _ => Value.null) 0 (Value.ref a386)) 1 (Value.ref a386)) 2 (Value.ref a386)))), (ka385, Ia Z (lst 16 (fup (fup (fup (fun _ => 0) 0 (Int32.ofNat q0)) 1 (Int32.ofNat q1)) 2 (Int32.ofNat q2)))), (ea385, Ia Z (lst 16 (fup (fup (fup (fun _ => 0) 0 ((fun _ => -1) q0)) 1 ((fup (fun _ => -1) q0 (Int32.ofNat 0)) q1)) 2 ((fup (fup (fun _ => -1) q0 (Int32.ofNat 0)) q1 (Int32.ofNat 1)) q2)))), (la385, Ia Z (lst 16 (adT (fup (fup (fun _ => -1) q0 (Int32.ofNat 0)) q1 (Int32.ofNat 1)) (adT (fup (fun _ => -1) q0 (Int32.ofNat 0)) (adT (fun _ => -1) (fun _ => 0) q0 0) q1 1) q2 2))), (a386, Ob Z "com/example/rankwise/rankwise/engine/Ranked" NSR [.ref a388, .double FP.dconst0]), (a388, Ia Z [])] := H471.pull 6 rfl
              have H473 : Hp n0 h420 [(la385, Ia Z (lst 16 (adT (fup (fup (fun _ => -1) q0 (Int32.ofNat 0)) q1 (Int32.ofNat 1)) (adT (fup (fun _ => -1) q0 (Int32.ofNat 0)) (adT (fun _ => -1) (fun _ => 0) q0 0) q1 1) q2 2))), (fb420, Ia Z (lst L420 (adF (fup (fup (fun _ => -1) q0 (Int32.ofNat 0)) q1 (Int32.ofNat 1)) (adF (fup (fun _ => -1) q0 (Int32.ofNat 0)) (adF (fun _ => -1) (fun _ => -1) q0 0) q1 1) q2 2))), (gb420, Ia Z (lst L420 (fup (fup (fup (fun _ => -1) q0 (Int32.ofNat 0)) q1 (Int32.ofNat 1)) q2 (Int32.ofNat 2)))), (a383, Ob Z "com/example/rankwise/rankwise/engine/KeptItems" NSI [.ref ia385, .ref ka385, .ref ea385, .ref la385, .int 3, .ref fb420, .ref gb420]), (ia385, Ra Z "com/example/rankwise/rankwise/engine/Ranked" (lst 16 (fup (fup (fup (fun _ => Value.null) 0 (Value.ref a386)) 1 (Value.ref a386)) 2 (Value.ref a386)))), (ka385, Ia Z (lst 16 (fup (fup (fup (fun _ => 0) 0 (Int32.ofNat q0)) 1 (Int32.ofNat q1)) 2 (Int32.ofNat q2)))), (ea385, Ia Z (lst 16 (fup (fup (fup (fun _ => 0) 0 ((fun _ => -1) q0)) 1 ((fup (fun _ => -1) q0 (Int32.ofNat 0)) q1)) 2 ((fup (fup (fun _ => -1) q0 (Int32.ofNat 0)) q1 (Int32.ofNat 1)) q2)))), (a386, Ob Z "com/example/rankwise/rankwise/engine/Ranked" NSR [.ref a388, .double FP.dconst0]), (a388, Ia Z [])] := H472.pull 6 rfl
              have H474 : Hp n0 h420 [(ea385, Ia Z (lst 16 (fup (fup (fup (fun _ => 0) 0 ((fun _ => -1) q0)) 1 ((fup (fun _ => -1) q0 (Int32.ofNat 0)) q1)) 2 ((fup (fup (fun _ => -1) q0 (Int32.ofNat 0)) q1 (Int32.ofNat 1)) q2)))), (la385, Ia Z (lst 16 (adT (fup (fup (fun _ => -1) q0 (Int32.ofNat 0)) q1 (Int32.ofNat 1)) (adT (fup (fun _ => -1) q0 (Int32.ofNat 0)) (adT (fun _ => -1) (fun _ => 0) q0 0) q1 1) q2 2))), (fb420, Ia Z (lst L420 (adF (fup (fup (fun _ => -1) q0 (Int32.ofNat 0)) q1 (Int32.ofNat 1)) (adF (fup (fun _ => -1) q0 (Int32.ofNat 0)) (adF (fun _ => -1) (fun _ => -1) q0 0) q1 1) q2 2))), (gb420, Ia Z (lst L420 (fup (fup (fup (fun _ => -1) q0 (Int32.ofNat 0)) q1 (Int32.ofNat 1)) q2 (Int32.ofNat 2)))), (a383, Ob Z "com/example/rankwise/rankwise/engine/KeptItems" NSI [.ref ia385, .ref ka385, .ref ea385, .ref la385, .int 3, .ref fb420, .ref gb420]), (ia385, Ra Z "com/example/rankwise/rankwise/engine/Ranked" (lst 16 (fup (fup (fup (fun _ => Value.null) 0 (Value.ref a386)) 1 (Value.ref a386)) 2 (Value.ref a386)))), (ka385, Ia Z (lst 16 (fup (fup (fup (fun _ => 0) 0 (Int32.ofNat q0)) 1 (Int32.ofNat q1)) 2 (Int32.ofNat q2)))), (a386, Ob Z "com/example/rankwise/rankwise/engine/Ranked" NSR [.ref a388, .double FP.dconst0]), (a388, Ia Z [])] := H473.pull 6 rfl
              have H475 : Hp n0 h420 [(ka385, Ia Z (lst 16 (fup (fup (fup (fun _ => 0) 0 (Int32.ofNat q0)) 1 (Int32.ofNat q1)) 2 (Int32.ofNat q2)))), (ea385, Ia Z (lst 16 (fup (fup (fup (fun _ => 0) 0 ((fun _ => -1) q0)) 1 ((fup (fun _ => -1) q0 (Int32.ofNat 0)) q1)) 2 ((fup (fup (fun _ => -1) q0 (Int32.ofNat 0)) q1 (Int32.ofNat 1)) q2)))), (la385, Ia Z (lst 16 (adT (fup (fup (fun _ => -1) q0 (Int32.ofNat 0)) q1 (Int32.ofNat 1)) (adT (fup (fun _ => -1) q0 (Int32.ofNat 0)) (adT (fun _ => -1) (fun _ => 0) q0 0) q1 1) q2 2))), (fb420, Ia Z (lst L420 (adF (fup (fup (fun _ => -1) q0 (Int32.ofNat 0)) q1 (Int32.ofNat 1)) (adF (fup (fun _ => -1) q0 (Int32.ofNat 0)) (adF (fun _ => -1) (fun _ => -1) q0 0) q1 1) q2 2))), (gb420, Ia Z (lst L420 (fup (fup (fup (fun _ => -1) q0 (Int32.ofNat 0)) q1 (Int32.ofNat 1)) q2 (Int32.ofNat 2)))), (a383, Ob Z "com/example/rankwise/rankwise/engine/KeptItems" NSI [.ref ia385, .ref ka385, .ref ea385, .ref la385, .int 3, .ref fb420, .ref gb420]), (ia385, Ra Z "com/example/rankwise/rankwise/engine/Ranked" (lst 16 (fup (fup (fup (fun _ => Value.null) 0 (Value.ref a386)) 1 (Value.ref a386)) 2 (Value.ref a386)))), (a386, Ob Z "com/example/rankwise/rankwise/engine/Ranked" NSR [.ref a388, .double FP.dconst0]), (a388, Ia Z [])] := H474.pull 6 rfl
              have H476 : Hp n0 h420 [(ia385, Ra Z "com/example/rankwise/rankwise/engine/Ranked" (lst 16 (fup (fup (fup (fun _ => Value.null) 0 (Value.ref a386)) 1 (Value.ref a386)) 2 (Value.ref a386)))), (ka385, Ia Z (lst 16 (fup (fup (fup (fun _ => 0) 0 (Int32.ofNat q0)) 1 (Int32.ofNat q1)) 2 (Int32.ofNat q2)))), (ea385, Ia Z (lst 16 (fup (fup (fup (fun _ => 0) 0 ((fun _ => -1) q0)) 1 ((fup (fun _ => -1) q0 (Int32.ofNat 0)) q1)) 2 ((fup (fup (fun _ => -1) q0 (Int32.ofNat 0)) q1 (Int32.ofNat 1)) q2)))), (la385, Ia Z (lst 16 (adT (fup (fup (fun _ => -1) q0 (Int32.ofNat 0)) q1 (Int32.ofNat 1)) (adT (fup (fun _ => -1) q0 (Int32.ofNat 0)) (adT (fun _ => -1) (fun _ => 0) q0 0) q1 1) q2 2))), (fb420, Ia Z (lst L420 (adF (fup (fup (fun _ => -1) q0 (Int32.ofNat 0)) q1 (Int32.ofNat 1)) (adF (fup (fun _ => -1) q0 (Int32.ofNat 0)) (adF (fun _ => -1) (fun _ => -1) q0 0) q1 1) q2 2))), (gb420, Ia Z (lst L420 (fup (fup (fup (fun _ => -1) q0 (Int32.ofNat 0)) q1 (Int32.ofNat 1)) q2 (Int32.ofNat 2)))), (a383, Ob Z "com/example/rankwise/rankwise/engine/KeptItems" NSI [.ref ia385, .ref ka385, .ref ea385, .ref la385, .int 3, .ref fb420, .ref gb420]), (a386, Ob Z "com/example/rankwise/rankwise/engine/Ranked" NSR [.ref a388, .double FP.dconst0]), (a388, Ia Z [])] := H475.pull 6 rfl
              have H477 : Hp n0 h420 [(a383, Ob Z "com/example/rankwise/rankwise/engine/KeptItems" NSI [.ref ia385, .ref ka385, .ref ea385, .ref la385, .int 3, .ref fb420, .ref gb420]), (ia385, Ra Z "com/example/rankwise/rankwise/engine/Ranked" (lst 16 (fup (fup (fup (fun _ => Value.null) 0 (Value.ref a386)) 1 (Value.ref a386)) 2 (Value.ref a386)))), (ka385, Ia Z (lst 16 (fup (fup (fup (fun _ => 0) 0 (Int32.ofNat q0)) 1 (Int32.ofNat q1)) 2 (Int32.ofNat q2)))), (ea385, Ia Z (lst 16 (fup (fup (fup (fun _ => 0) 0 ((fun _ => -1) q0)) 1 ((fup (fun _ => -1) q0 (Int32.ofNat 0)) q1)) 2 ((fup (fup (fun _ => -1) q0 (Int32.ofNat 0)) q1 (Int32.ofNat 1)) q2)))), (la385, Ia Z (lst 16 (adT (fup (fup (fun _ => -1) q0 (Int32.ofNat 0)) q1 (Int32.ofNat 1)) (adT (fup (fun _ => -1) q0 (Int32.ofNat 0)) (adT (fun _ => -1) (fun _ => 0) q0 0) q1 1) q2 2))), (fb420, Ia Z (lst L420 (adF (fup (fup (fun _ => -1) q0 (Int32.ofNat 0)) q1 (Int32.ofNat 1)) (adF (fup (fun _ => -1) q0 (Int32.ofNat 0)) (adF (fun _ => -1) (fun _ => -1) q0 0) q1 1) q2 2))), (gb420, Ia Z (lst L420 (fup (fup (fup (fun _ => -1) q0 (Int32.ofNat 0)) q1 (Int32.ofNat 1)) q2 (Int32.ofNat 2)))), (a386, Ob Z "com/example/rankwise/rankwise/engine/Ranked" NSR [.ref a388, .double FP.dconst0]), (a388, Ia Z [])] := H476.pull 6 rfl
              refine G.callV K hl (wd hw 35 rfl) (wd hw 36 rfl) (wd hw 38 rfl) (wd hw 37 rfl) (wd hw 2 rfl) (wd hw 39 rfl) (by decide) pd_6 (H477.exa (i := 0) rfl) (ct_first l Z a0 hw n0 h420 a383 ia385 ka385 ea385 la385 fb420 gb420 3 L420 qq (fup (fup (fup (fun _ => Value.null) 0 (Value.ref a386)) 1 (Value.ref a386)) 2 (Value.ref a386)) (fup (fup (fup (fun _ => 0) 0 (Int32.ofNat q0)) 1 (Int32.ofNat q1)) 2 (Int32.ofNat q2)) (fup (fup (fup (fun _ => 0) 0 ((fun _ => -1) q0)) 1 ((fup (fun _ => -1) q0 (Int32.ofNat 0)) q1)) 2 ((fup (fup (fun _ => -1) q0 (Int32.ofNat 0)) q1 (Int32.ofNat 1)) q2)) (adT (fup (fup (fun _ => -1) q0 (Int32.ofNat 0)) q1 (Int32.ofNat 1)) (adT (fup (fun _ => -1) q0 (Int32.ofNat 0)) (adT (fun _ => -1) (fun _ => 0) q0 0) q1 1) q2 2) (adF (fup (fup (fun _ => -1) q0 (Int32.ofNat 0)) q1 (Int32.ofNat 1)) (adF (fup (fun _ => -1) q0 (Int32.ofNat 0)) (adF (fun _ => -1) (fun _ => -1) q0 0) q1 1) q2 2) (fup (fup (fup (fun _ => -1) q0 (Int32.ofNat 0)) q1 (Int32.ofNat 1)) q2 (Int32.ofNat 2)) [(a386, Ob Z "com/example/rankwise/rankwise/engine/Ranked" NSR [.ref a388, .double FP.dconst0]), (a388, Ia Z [])] (by have := l3420; omega) (by omega) hF420 H477) 0 rfl (by decide) (by decide) (by decide) (by decide) rfl rfl [.int (Int32.ofNat qq)] rfl Dx_211 ?_
              rintro _ h478 ⟨rfl, H478⟩
              change G k n0 _ h478 _ _ 214 [.val (.int p0), .val (.int p1), .val (.int p2), .val (.int p3), .val (.int 3), .val (.int (Int32.ofNat q0)), .val (.int (Int32.ofNat q1)), .val (.int (Int32.ofNat q2)), .val (.int 0), .val (.int (Int32.ofNat qq)), .val (.ref a383), .val (.ref a386), .val (.int 3), .val (.int 2)] [.int ((adF (fup (fup (fun _ => -1) q0 (Int32.ofNat 0)) q1 (Int32.ofNat 1)) (adF (fup (fun _ => -1) q0 (Int32.ofNat 0)) (adF (fun _ => -1) (fun _ => -1) q0 0) q1 1) q2 2) qq)]
              refine G.iload K Dx_214 rfl ?_
              rw [own_neq (by omega) (by omega)] at q424
              rw [own_neq (by omega) (by omega)] at q468
              rw [own_neq (by omega) (by omega)] at q470
              have hf := fst_3_0 q0 q1 q2 qq
              rw [if_neg q470, if_neg q468, if_pos q424] at hf
              refine G.icmp_ne K Dx_216 (fun q => absurd hf q) (fun q479 => ?_)
              refine G.iconst K Dx_219 1 rfl ?_
              refine G.goto K Dx_220 ?_
              refine G.ret_bool K Dx_224 ?_
              exact rfl
            · refine G.iconst K Dx_204 0 rfl ?_
              refine G.istore K Dx_205 ([.val (.int p0), .val (.int p1), .val (.int p2), .val (.int p3), .val (.int 3), .val (.int (Int32.ofNat q0)), .val (.int (Int32.ofNat q1)), .val (.int (Int32.ofNat q2)), .val (.int 0), .val (.int (Int32.ofNat qq)), .val (.ref a383), .val (.ref a386), .val (.int 3), .val (.int 0)]) rfl ?_
              refine G.aload K Dx_207 rfl rfl ?_
              refine G.iload K Dx_209 rfl ?_
              have H480 : Hp n0 h420 [(gb420, Ia Z (lst L420 (fup (fup (fup (fun _ => -1) q0 (Int32.ofNat 0)) q1 (Int32.ofNat 1)) q2 (Int32.ofNat 2)))), (a383, Ob Z "com/example/rankwise/rankwise/engine/KeptItems" NSI [.ref ia385, .ref ka385, .ref ea385, .ref la385, .int 3, .ref fb420, .ref gb420]), (ia385, Ra Z "com/example/rankwise/rankwise/engine/Ranked" (lst 16 (fup (fup (fup (fun _ => Value.null) 0 (Value.ref a386)) 1 (Value.ref a386)) 2 (Value.ref a386)))), (ka385, Ia Z (lst 16 (fup (fup (fup (fun _ => 0) 0 (Int32.ofNat q0)) 1 (Int32.ofNat q1)) 2 (Int32.ofNat q2)))), (ea385, Ia Z (lst 16 (fup (fup (fup (fun _ => 0) 0 ((fun _ => -1) q0)) 1 ((fup (fun _ => -1) q0 (Int32.ofNat 0)) q1)) 2 ((fup (fup (fun _ => -1) q0 (Int32.ofNat 0)) q1 (Int32.ofNat 1)) q2)))), (la385, Ia Z (lst 16 (adT (fup (fup (fun _ => -1) q0 (Int32.ofNat 0)) q1 (Int32.ofNat 1)) (adT (fup (fun _ => -1) q0 (Int32.ofNat 0)) (adT (fun _ => -1) (fun _ => 0) q0 0) q1 1) q2 2))), (fb420, Ia Z (lst L420 (adF (fup (fup (fun _ => -1) q0 (Int32.ofNat 0)) q1 (Int32.ofNat 1)) (adF (fup (fun _ => -1) q0 (Int32.ofNat 0)) (adF (fun _ => -1) (fun _ => -1) q0 0) q1 1) q2 2))), (a386, Ob Z "com/example/rankwise/rankwise/engine/Ranked" NSR [.ref a388, .double FP.dconst0]), (a388, Ia Z [])] := H420.pull 6 rfl
              have H481 : Hp n0 h420 [(fb420, Ia Z (lst L420 (adF (fup (fup (fun _ => -1) q0 (Int32.ofNat 0)) q1 (Int32.ofNat 1)) (adF (fup (fun _ => -1) q0 (Int32.ofNat 0)) (adF (fun _ => -1) (fun _ => -1) q0 0) q1 1) q2 2))), (gb420, Ia Z (lst L420 (fup (fup (fup (fun _ => -1) q0 (Int32.ofNat 0)) q1 (Int32.ofNat 1)) q2 (Int32.ofNat 2)))), (a383, Ob Z "com/example/rankwise/rankwise/engine/KeptItems" NSI [.ref ia385, .ref ka385, .ref ea385, .ref la385, .int 3, .ref fb420, .ref gb420]), (ia385, Ra Z "com/example/rankwise/rankwise/engine/Ranked" (lst 16 (fup (fup (fup (fun _ => Value.null) 0 (Value.ref a386)) 1 (Value.ref a386)) 2 (Value.ref a386)))), (ka385, Ia Z (lst 16 (fup (fup (fup (fun _ => 0) 0 (Int32.ofNat q0)) 1 (Int32.ofNat q1)) 2 (Int32.ofNat q2)))), (ea385, Ia Z (lst 16 (fup (fup (fup (fun _ => 0) 0 ((fun _ => -1) q0)) 1 ((fup (fun _ => -1) q0 (Int32.ofNat 0)) q1)) 2 ((fup (fup (fun _ => -1) q0 (Int32.ofNat 0)) q1 (Int32.ofNat 1)) q2)))), (la385, Ia Z (lst 16 (adT (fup (fup (fun _ => -1) q0 (Int32.ofNat 0)) q1 (Int32.ofNat 1)) (adT (fup (fun _ => -1) q0 (Int32.ofNat 0)) (adT (fun _ => -1) (fun _ => 0) q0 0) q1 1) q2 2))), (a386, Ob Z "com/example/rankwise/rankwise/engine/Ranked" NSR [.ref a388, .double FP.dconst0]), (a388, Ia Z [])] := H480.pull 6 rfl
              have H482 : Hp n0 h420 [(la385, Ia Z (lst 16 (adT (fup (fup (fun _ => -1) q0 (Int32.ofNat 0)) q1 (Int32.ofNat 1)) (adT (fup (fun _ => -1) q0 (Int32.ofNat 0)) (adT (fun _ => -1) (fun _ => 0) q0 0) q1 1) q2 2))), (fb420, Ia Z (lst L420 (adF (fup (fup (fun _ => -1) q0 (Int32.ofNat 0)) q1 (Int32.ofNat 1)) (adF (fup (fun _ => -1) q0 (Int32.ofNat 0)) (adF (fun _ => -1) (fun _ => -1) q0 0) q1 1) q2 2))), (gb420, Ia Z (lst L420 (fup (fup (fup (fun _ => -1) q0 (Int32.ofNat 0)) q1 (Int32.ofNat 1)) q2 (Int32.ofNat 2)))), (a383, Ob Z "com/example/rankwise/rankwise/engine/KeptItems" NSI [.ref ia385, .ref ka385, .ref ea385, .ref la385, .int 3, .ref fb420, .ref gb420]), (ia385, Ra Z "com/example/rankwise/rankwise/engine/Ranked" (lst 16 (fup (fup (fup (fun _ => Value.null) 0 (Value.ref a386)) 1 (Value.ref a386)) 2 (Value.ref a386)))), (ka385, Ia Z (lst 16 (fup (fup (fup (fun _ => 0) 0 (Int32.ofNat q0)) 1 (Int32.ofNat q1)) 2 (Int32.ofNat q2)))), (ea385, Ia Z (lst 16 (fup (fup (fup (fun _ => 0) 0 ((fun _ => -1) q0)) 1 ((fup (fun _ => -1) q0 (Int32.ofNat 0)) q1)) 2 ((fup (fup (fun _ => -1) q0 (Int32.ofNat 0)) q1 (Int32.ofNat 1)) q2)))), (a386, Ob Z "com/example/rankwise/rankwise/engine/Ranked" NSR [.ref a388, .double FP.dconst0]), (a388, Ia Z [])] := H481.pull 6 rfl
              have H483 : Hp n0 h420 [(ea385, Ia Z (lst 16 (fup (fup (fup (fun _ => 0) 0 ((fun _ => -1) q0)) 1 ((fup (fun _ => -1) q0 (Int32.ofNat 0)) q1)) 2 ((fup (fup (fun _ => -1) q0 (Int32.ofNat 0)) q1 (Int32.ofNat 1)) q2)))), (la385, Ia Z (lst 16 (adT (fup (fup (fun _ => -1) q0 (Int32.ofNat 0)) q1 (Int32.ofNat 1)) (adT (fup (fun _ => -1) q0 (Int32.ofNat 0)) (adT (fun _ => -1) (fun _ => 0) q0 0) q1 1) q2 2))), (fb420, Ia Z (lst L420 (adF (fup (fup (fun _ => -1) q0 (Int32.ofNat 0)) q1 (Int32.ofNat 1)) (adF (fup (fun _ => -1) q0 (Int32.ofNat 0)) (adF (fun _ => -1) (fun _ => -1) q0 0) q1 1) q2 2))), (gb420, Ia Z (lst L420 (fup (fup (fup (fun _ => -1) q0 (Int32.ofNat 0)) q1 (Int32.ofNat 1)) q2 (Int32.ofNat 2)))), (a383, Ob Z "com/example/rankwise/rankwise/engine/KeptItems" NSI [.ref ia385, .ref ka385, .ref ea385, .ref la385, .int 3, .ref fb420, .ref gb420]), (ia385, Ra Z "com/example/rankwise/rankwise/engine/Ranked" (lst 16 (fup (fup (fup (fun _ => Value.null) 0 (Value.ref a386)) 1 (Value.ref a386)) 2 (Value.ref a386)))), (ka385, Ia Z (lst 16 (fup (fup (fup (fun _ => 0) 0 (Int32.ofNat q0)) 1 (Int32.ofNat q1)) 2 (Int32.ofNat q2)))), (a386, Ob Z "com/example/rankwise/rankwise/engine/Ranked" NSR [.ref a388, .double FP.dconst0]), (a388, Ia Z [])] := H482.pull 6 rfl
              have H484 : Hp n0 h420 [(ka385, Ia Z (lst 16 (fup (fup (fup (fun _ => 0) 0 (Int32.ofNat q0)) 1 (Int32.ofNat q1)) 2 (Int32.ofNat q2)))), (ea385, Ia Z (lst 16 (fup (fup (fup (fun _ => 0) 0 ((fun _ => -1) q0)) 1 ((fup (fun _ => -1) q0 (Int32.ofNat 0)) q1)) 2 ((fup (fup (fun _ => -1) q0 (Int32.ofNat 0)) q1 (Int32.ofNat 1)) q2)))), (la385, Ia Z (lst 16 (adT (fup (fup (fun _ => -1) q0 (Int32.ofNat 0)) q1 (Int32.ofNat 1)) (adT (fup (fun _ => -1) q0 (Int32.ofNat 0)) (adT (fun _ => -1) (fun _ => 0) q0 0) q1 1) q2 2))), (fb420, Ia Z (lst L420 (adF (fup (fup (fun _ => -1) q0 (Int32.ofNat 0)) q1 (Int32.ofNat 1)) (adF (fup (fun _ => -1) q0 (Int32.ofNat 0)) (adF (fun _ => -1) (fun _ => -1) q0 0) q1 1) q2 2))), (gb420, Ia Z (lst L420 (fup (fup (fup (fun _ => -1) q0 (Int32.ofNat 0)) q1 (Int32.ofNat 1)) q2 (Int32.ofNat 2)))), (a383, Ob Z "com/example/rankwise/rankwise/engine/KeptItems" NSI [.ref ia385, .ref ka385, .ref ea385, .ref la385, .int 3, .ref fb420, .ref gb420]), (ia385, Ra Z "com/example/rankwise/rankwise/engine/Ranked" (lst 16 (fup (fup (fup (fun _ => Value.null) 0 (Value.ref a386)) 1 (Value.ref a386)) 2 (Value.ref a386)))), (a386, Ob Z "com/example/rankwise/rankwise/engine/Ranked" NSR [.ref a388, .double FP.dconst0]), (a388, Ia Z [])] := H483.pull 6 rfl
              have H485 : Hp n0 h420 [(ia385, Ra Z "com/example/rankwise/rankwise/engine/Ranked" (lst 16 (fup (fup (fup (fun _ => Value.null) 0 (Value.ref a386)) 1 (Value.ref a386)) 2 (Value.ref a386)))), (ka385, Ia Z (lst 16 (fup (fup (fup (fun _ => 0) 0 (Int32.ofNat q0)) 1 (Int32.ofNat q1)) 2 (Int32.ofNat q2)))), (ea385, Ia Z (lst 16 (fup (fup (fup (fun _ => 0) 0 ((fun _ => -1) q0)) 1 ((fup (fun _ => -1) q0 (Int32.ofNat 0)) q1)) 2 ((fup (fup (fun _ => -1) q0 (Int32.ofNat 0)) q1 (Int32.ofNat 1)) q2)))), (la385, Ia Z (lst 16 (adT (fup (fup (fun _ => -1) q0 (Int32.ofNat 0)) q1 (Int32.ofNat 1)) (adT (fup (fun _ => -1) q0 (Int32.ofNat 0)) (adT (fun _ => -1) (fun _ => 0) q0 0) q1 1) q2 2))), (fb420, Ia Z (lst L420 (adF (fup (fup (fun _ => -1) q0 (Int32.ofNat 0)) q1 (Int32.ofNat 1)) (adF (fup (fun _ => -1) q0 (Int32.ofNat 0)) (adF (fun _ => -1) (fun _ => -1) q0 0) q1 1) q2 2))), (gb420, Ia Z (lst L420 (fup (fup (fup (fun _ => -1) q0 (Int32.ofNat 0)) q1 (Int32.ofNat 1)) q2 (Int32.ofNat 2)))), (a383, Ob Z "com/example/rankwise/rankwise/engine/KeptItems" NSI [.ref ia385, .ref ka385, .ref ea385, .ref la385, .int 3, .ref fb420, .ref gb420]), (a386, Ob Z "com/example/rankwise/rankwise/engine/Ranked" NSR [.ref a388, .double FP.dconst0]), (a388, Ia Z [])] := H484.pull 6 rfl
              have H486 : Hp n0 h420 [(a383, Ob Z "com/example/rankwise/rankwise/engine/KeptItems" NSI [.ref ia385, .ref ka385, .ref ea385, .ref la385, .int 3, .ref fb420, .ref gb420]), (ia385, Ra Z "com/example/rankwise/rankwise/engine/Ranked" (lst 16 (fup (fup (fup (fun _ => Value.null) 0 (Value.ref a386)) 1 (Value.ref a386)) 2 (Value.ref a386)))), (ka385, Ia Z (lst 16 (fup (fup (fup (fun _ => 0) 0 (Int32.ofNat q0)) 1 (Int32.ofNat q1)) 2 (Int32.ofNat q2)))), (ea385, Ia Z (lst 16 (fup (fup (fup (fun _ => 0) 0 ((fun _ => -1) q0)) 1 ((fup (fun _ => -1) q0 (Int32.ofNat 0)) q1)) 2 ((fup (fup (fun _ => -1) q0 (Int32.ofNat 0)) q1 (Int32.ofNat 1)) q2)))), (la385, Ia Z (lst 16 (adT (fup (fup (fun _ => -1) q0 (Int32.ofNat 0)) q1 (Int32.ofNat 1)) (adT (fup (fun _ => -1) q0 (Int32.ofNat 0)) (adT (fun _ => -1) (fun _ => 0) q0 0) q1 1) q2 2))), (fb420, Ia Z (lst L420 (adF (fup (fup (fun _ => -1) q0 (Int32.ofNat 0)) q1 (Int32.ofNat 1)) (adF (fup (fun _ => -1) q0 (Int32.ofNat 0)) (adF (fun _ => -1) (fun _ => -1) q0 0) q1 1) q2 2))), (gb420, Ia Z (lst L420 (fup (fup (fup (fun _ => -1) q0 (Int32.ofNat 0)) q1 (Int32.ofNat 1)) q2 (Int32.ofNat 2)))), (a386, Ob Z "com/example/rankwise/rankwise/engine/Ranked" NSR [.ref a388, .double FP.dconst0]), (a388, Ia Z [])] := H485.pull 6 rfl
              refine G.callV K hl (wd hw 35 rfl) (wd hw 36 rfl) (wd hw 38 rfl) (wd hw 37 rfl) (wd hw 2 rfl) (wd hw 39 rfl) (by decide) pd_6 (H486.exa (i := 0) rfl) (ct_first l Z a0 hw n0 h420 a383 ia385 ka385 ea385 la385 fb420 gb420 3 L420 qq (fup (fup (fup (fun _ => Value.null) 0 (Value.ref a386)) 1 (Value.ref a386)) 2 (Value.ref a386)) (fup (fup (fup (fun _ => 0) 0 (Int32.ofNat q0)) 1 (Int32.ofNat q1)) 2 (Int32.ofNat q2)) (fup (fup (fup (fun _ => 0) 0 ((fun _ => -1) q0)) 1 ((fup (fun _ => -1) q0 (Int32.ofNat 0)) q1)) 2 ((fup (fup (fun _ => -1) q0 (Int32.ofNat 0)) q1 (Int32.ofNat 1)) q2)) (adT (fup (fup (fun _ => -1) q0 (Int32.ofNat 0)) q1 (Int32.ofNat 1)) (adT (fup (fun _ => -1) q0 (Int32.ofNat 0)) (adT (fun _ => -1) (fun _ => 0) q0 0) q1 1) q2 2) (adF (fup (fup (fun _ => -1) q0 (Int32.ofNat 0)) q1 (Int32.ofNat 1)) (adF (fup (fun _ => -1) q0 (Int32.ofNat 0)) (adF (fun _ => -1) (fun _ => -1) q0 0) q1 1) q2 2) (fup (fup (fup (fun _ => -1) q0 (Int32.ofNat 0)) q1 (Int32.ofNat 1)) q2 (Int32.ofNat 2)) [(a386, Ob Z "com/example/rankwise/rankwise/engine/Ranked" NSR [.ref a388, .double FP.dconst0]), (a388, Ia Z [])] (by have := l3420; omega) (by omega) hF420 H486) 0 rfl (by decide) (by decide) (by decide) (by decide) rfl rfl [.int (Int32.ofNat qq)] rfl Dx_211 ?_
              rintro _ h487 ⟨rfl, H487⟩
              change G k n0 _ h487 _ _ 214 [.val (.int p0), .val (.int p1), .val (.int p2), .val (.int p3), .val (.int 3), .val (.int (Int32.ofNat q0)), .val (.int (Int32.ofNat q1)), .val (.int (Int32.ofNat q2)), .val (.int 0), .val (.int (Int32.ofNat qq)), .val (.ref a383), .val (.ref a386), .val (.int 3), .val (.int 0)] [.int ((adF (fup (fup (fun _ => -1) q0 (Int32.ofNat 0)) q1 (Int32.ofNat 1)) (adF (fup (fun _ => -1) q0 (Int32.ofNat 0)) (adF (fun _ => -1) (fun _ => -1) q0 0) q1 1) q2 2) qq)]
              refine G.iload K Dx_214 rfl ?_
              rw [own_neq (by omega) (by omega)] at q424
              rw [own_neq (by omega) (by omega)] at q468
              rw [own_neq (by omega) (by omega)] at q470
              have hf := fst_3_0 q0 q1 q2 qq
              rw [if_pos q470] at hf
              refine G.icmp_ne K Dx_216 (fun q => absurd hf q) (fun q488 => ?_)
              refine G.iconst K Dx_219 1 rfl ?_
              refine G.goto K Dx_220 ?_
              refine G.ret_bool K Dx_224 ?_
              exact rfl
          · refine G.iconst K Dx_189 1 rfl ?_
            refine G.istore K Dx_190 ([.val (.int p0), .val (.int p1), .val (.int p2), .val (.int p3), .val (.int 3), .val (.int (Int32.ofNat q0)), .val (.int (Int32.ofNat q1)), .val (.int (Int32.ofNat q2)), .val (.int 0), .val (.int (Int32.ofNat qq)), .val (.ref a383), .val (.ref a386), .val (.int 3), .val (.int 1)]) rfl ?_
            refine G.iload K Dx_192 rfl ?_
            refine G.if_le K Dx_194 (fun q => absurd q (by decide)) (fun _ => ?_)
            refine G.iload K Dx_197 rfl ?_
            refine G.iload K Dx_199 rfl ?_
            refine G.icmp_ne K Dx_201 (fun q490 => ?_) (fun q490 => ?_)
            · refine G.aload K Dx_207 rfl rfl ?_
              refine G.iload K Dx_209 rfl ?_
              have H491 : Hp n0 h420 [(gb420, Ia Z (lst L420 (fup (fup (fup (fun _ => -1) q0 (Int32.ofNat 0)) q1 (Int32.ofNat 1)) q2 (Int32.ofNat 2)))), (a383, Ob Z "com/example/rankwise/rankwise/engine/KeptItems" NSI [.ref ia385, .ref ka385, .ref ea385, .ref la385, .int 3, .ref fb420, .ref gb420]), (ia385, Ra Z "com/example/rankwise/rankwise/engine/Ranked" (lst 16 (fup (fup (fup (fun _ => Value.null) 0 (Value.ref a386)) 1 (Value.ref a386)) 2 (Value.ref a386)))), (ka385, Ia Z (lst 16 (fup (fup (fup (fun _ => 0) 0 (Int32.ofNat q0)) 1 (Int32.ofNat q1)) 2 (Int32.ofNat q2)))), (ea385, Ia Z (lst 16 (fup (fup (fup (fun _ => 0) 0 ((fun _ => -1) q0)) 1 ((fup (fun _ => -1) q0 (Int32.ofNat 0)) q1)) 2 ((fup (fup (fun _ => -1) q0 (Int32.ofNat 0)) q1 (Int32.ofNat 1)) q2)))), (la385, Ia Z (lst 16 (adT (fup (fup (fun _ => -1) q0 (Int32.ofNat 0)) q1 (Int32.ofNat 1)) (adT (fup (fun _ => -1) q0 (Int32.ofNat 0)) (adT (fun _ => -1) (fun _ => 0) q0 0) q1 1) q2 2))), (fb420, Ia Z (lst L420 (adF (fup (fup (fun _ => -1) q0 (Int32.ofNat 0)) q1 (Int32.ofNat 1)) (adF (fup (fun _ => -1) q0 (Int32.ofNat 0)) (adF (fun _ => -1) (fun _ => -1) q0 0) q1 1) q2 2))), (a386, Ob Z "com/example/rankwise/rankwise/engine/Ranked" NSR [.ref a388, .double FP.dconst0]), (a388, Ia Z [])] := H420.pull 6 rfl
              have H492 : Hp n0 h420 [(fb420, Ia Z (lst L420 (adF (fup (fup (fun _ => -1) q0 (Int32.ofNat 0)) q1 (Int32.ofNat 1)) (adF (fup (fun _ => -1) q0 (Int32.ofNat 0)) (adF (fun _ => -1) (fun _ => -1) q0 0) q1 1) q2 2))), (gb420, Ia Z (lst L420 (fup (fup (fup (fun _ => -1) q0 (Int32.ofNat 0)) q1 (Int32.ofNat 1)) q2 (Int32.ofNat 2)))), (a383, Ob Z "com/example/rankwise/rankwise/engine/KeptItems" NSI [.ref ia385, .ref ka385, .ref ea385, .ref la385, .int 3, .ref fb420, .ref gb420]), (ia385, Ra Z "com/example/rankwise/rankwise/engine/Ranked" (lst 16 (fup (fup (fup (fun _ => Value.null) 0 (Value.ref a386)) 1 (Value.ref a386)) 2 (Value.ref a386)))), (ka385, Ia Z (lst 16 (fup (fup (fup (fun _ => 0) 0 (Int32.ofNat q0)) 1 (Int32.ofNat q1)) 2 (Int32.ofNat q2)))), (ea385, Ia Z (lst 16 (fup (fup (fup (fun _ => 0) 0 ((fun _ => -1) q0)) 1 ((fup (fun _ => -1) q0 (Int32.ofNat 0)) q1)) 2 ((fup (fup (fun _ => -1) q0 (Int32.ofNat 0)) q1 (Int32.ofNat 1)) q2)))), (la385, Ia Z (lst 16 (adT (fup (fup (fun _ => -1) q0 (Int32.ofNat 0)) q1 (Int32.ofNat 1)) (adT (fup (fun _ => -1) q0 (Int32.ofNat 0)) (adT (fun _ => -1) (fun _ => 0) q0 0) q1 1) q2 2))), (a386, Ob Z "com/example/rankwise/rankwise/engine/Ranked" NSR [.ref a388, .double FP.dconst0]), (a388, Ia Z [])] := H491.pull 6 rfl
              have H493 : Hp n0 h420 [(la385, Ia Z (lst 16 (adT (fup (fup (fun _ => -1) q0 (Int32.ofNat 0)) q1 (Int32.ofNat 1)) (adT (fup (fun _ => -1) q0 (Int32.ofNat 0)) (adT (fun _ => -1) (fun _ => 0) q0 0) q1 1) q2 2))), (fb420, Ia Z (lst L420 (adF (fup (fup (fun _ => -1) q0 (Int32.ofNat 0)) q1 (Int32.ofNat 1)) (adF (fup (fun _ => -1) q0 (Int32.ofNat 0)) (adF (fun _ => -1) (fun _ => -1) q0 0) q1 1) q2 2))), (gb420, Ia Z (lst L420 (fup (fup (fup (fun _ => -1) q0 (Int32.ofNat 0)) q1 (Int32.ofNat 1)) q2 (Int32.ofNat 2)))), (a383, Ob Z "com/example/rankwise/rankwise/engine/KeptItems" NSI [.ref ia385, .ref ka385, .ref ea385, .ref la385, .int 3, .ref fb420, .ref gb420]), (ia385, Ra Z "com/example/rankwise/rankwise/engine/Ranked" (lst 16 (fup (fup (fup (fun _ => Value.null) 0 (Value.ref a386)) 1 (Value.ref a386)) 2 (Value.ref a386)))), (ka385, Ia Z (lst 16 (fup (fup (fup (fun _ => 0) 0 (Int32.ofNat q0)) 1 (Int32.ofNat q1)) 2 (Int32.ofNat q2)))), (ea385, Ia Z (lst 16 (fup (fup (fup (fun _ => 0) 0 ((fun _ => -1) q0)) 1 ((fup (fun _ => -1) q0 (Int32.ofNat 0)) q1)) 2 ((fup (fup (fun _ => -1) q0 (Int32.ofNat 0)) q1 (Int32.ofNat 1)) q2)))), (a386, Ob Z "com/example/rankwise/rankwise/engine/Ranked" NSR [.ref a388, .double FP.dconst0]), (a388, Ia Z [])] := H492.pull 6 rfl
              have H494 : Hp n0 h420 [(ea385, Ia Z (lst 16 (fup (fup (fup (fun _ => 0) 0 ((fun _ => -1) q0)) 1 ((fup (fun _ => -1) q0 (Int32.ofNat 0)) q1)) 2 ((fup (fup (fun _ => -1) q0 (Int32.ofNat 0)) q1 (Int32.ofNat 1)) q2)))), (la385, Ia Z (lst 16 (adT (fup (fup (fun _ => -1) q0 (Int32.ofNat 0)) q1 (Int32.ofNat 1)) (adT (fup (fun _ => -1) q0 (Int32.ofNat 0)) (adT (fun _ => -1) (fun _ => 0) q0 0) q1 1) q2 2))), (fb420, Ia Z (lst L420 (adF (fup (fup (fun _ => -1) q0 (Int32.ofNat 0)) q1 (Int32.ofNat 1)) (adF (fup (fun _ => -1) q0 (Int32.ofNat 0)) (adF (fun _ => -1) (fun _ => -1) q0 0) q1 1) q2 2))), (gb420, Ia Z (lst L420 (fup (fup (fup (fun _ => -1) q0 (Int32.ofNat 0)) q1 (Int32.ofNat 1)) q2 (Int32.ofNat 2)))), (a383, Ob Z "com/example/rankwise/rankwise/engine/KeptItems" NSI [.ref ia385, .ref ka385, .ref ea385, .ref la385, .int 3, .ref fb420, .ref gb420]), (ia385, Ra Z "com/example/rankwise/rankwise/engine/Ranked" (lst 16 (fup (fup (fup (fun _ => Value.null) 0 (Value.ref a386)) 1 (Value.ref a386)) 2 (Value.ref a386)))), (ka385, Ia Z (lst 16 (fup (fup (fup (fun _ => 0) 0 (Int32.ofNat q0)) 1 (Int32.ofNat q1)) 2 (Int32.ofNat q2)))), (a386, Ob Z "com/example/rankwise/rankwise/engine/Ranked" NSR [.ref a388, .double FP.dconst0]), (a388, Ia Z [])] := H493.pull 6 rfl
              have H495 : Hp n0 h420 [(ka385, Ia Z (lst 16 (fup (fup (fup (fun _ => 0) 0 (Int32.ofNat q0)) 1 (Int32.ofNat q1)) 2 (Int32.ofNat q2)))), (ea385, Ia Z (lst 16 (fup (fup (fup (fun _ => 0) 0 ((fun _ => -1) q0)) 1 ((fup (fun _ => -1) q0 (Int32.ofNat 0)) q1)) 2 ((fup (fup (fun _ => -1) q0 (Int32.ofNat 0)) q1 (Int32.ofNat 1)) q2)))), (la385, Ia Z (lst 16 (adT (fup (fup (fun _ => -1) q0 (Int32.ofNat 0)) q1 (Int32.ofNat 1)) (adT (fup (fun _ => -1) q0 (Int32.ofNat 0)) (adT (fun _ => -1) (fun _ => 0) q0 0) q1 1) q2 2))), (fb420, Ia Z (lst L420 (adF (fup (fup (fun _ => -1) q0 (Int32.ofNat 0)) q1 (Int32.ofNat 1)) (adF (fup (fun _ => -1) q0 (Int32.ofNat 0)) (adF (fun _ => -1) (fun _ => -1) q0 0) q1 1) q2 2))), (gb420, Ia Z (lst L420 (fup (fup (fup (fun _ => -1) q0 (Int32.ofNat 0)) q1 (Int32.ofNat 1)) q2 (Int32.ofNat 2)))), (a383, Ob Z "com/example/rankwise/rankwise/engine/KeptItems" NSI [.ref ia385, .ref ka385, .ref ea385, .ref la385, .int 3, .ref fb420, .ref gb420]), (ia385, Ra Z "com/example/rankwise/rankwise/engine/Ranked" (lst 16 (fup (fup (fup (fun _ => Value.null) 0 (Value.ref a386)) 1 (Value.ref a386)) 2 (Value.ref a386)))), (a386, Ob Z "com/example/rankwise/rankwise/engine/Ranked" NSR [.ref a388, .double FP.dconst0]), (a388, Ia Z [])] := H494.pull 6 rfl
              have H496 : Hp n0 h420 [(ia385, Ra Z "com/example/rankwise/rankwise/engine/Ranked" (lst 16 (fup (fup (fup (fun _ => Value.null) 0 (Value.ref a386)) 1 (Value.ref a386)) 2 (Value.ref a386)))), (ka385, Ia Z (lst 16 (fup (fup (fup (fun _ => 0) 0 (Int32.ofNat q0)) 1 (Int32.ofNat q1)) 2 (Int32.ofNat q2)))), (ea385, Ia Z (lst 16 (fup (fup (fup (fun _ => 0) 0 ((fun _ => -1) q0)) 1 ((fup (fun _ => -1) q0 (Int32.ofNat 0)) q1)) 2 ((fup (fup (fun _ => -1) q0 (Int32.ofNat 0)) q1 (Int32.ofNat 1)) q2)))), (la385, Ia Z (lst 16 (adT (fup (fup (fun _ => -1) q0 (Int32.ofNat 0)) q1 (Int32.ofNat 1)) (adT (fup (fun _ => -1) q0 (Int32.ofNat 0)) (adT (fun _ => -1) (fun _ => 0) q0 0) q1 1) q2 2))), (fb420, Ia Z (lst L420 (adF (fup (fup (fun _ => -1) q0 (Int32.ofNat 0)) q1 (Int32.ofNat 1)) (adF (fup (fun _ => -1) q0 (Int32.ofNat 0)) (adF (fun _ => -1) (fun _ => -1) q0 0) q1 1) q2 2))), (gb420, Ia Z (lst L420 (fup (fup (fup (fun _ => -1) q0 (Int32.ofNat 0)) q1 (Int32.ofNat 1)) q2 (Int32.ofNat 2)))), (a383, Ob Z "com/example/rankwise/rankwise/engine/KeptItems" NSI [.ref ia385, .ref ka385, .ref ea385, .ref la385, .int 3, .ref fb420, .ref gb420]), (a386, Ob Z "com/example/rankwise/rankwise/engine/Ranked" NSR [.ref a388, .double FP.dconst0]), (a388, Ia Z [])] := H495.pull 6 rfl
              have H497 : Hp n0 h420 [(a383, Ob Z "com/example/rankwise/rankwise/engine/KeptItems" NSI [.ref ia385, .ref ka385, .ref ea385, .ref la385, .int 3, .ref fb420, .ref gb420]), (ia385, Ra Z "com/example/rankwise/rankwise/engine/Ranked" (lst 16 (fup (fup (fup (fun _ => Value.null) 0 (Value.ref a386)) 1 (Value.ref a386)) 2 (Value.ref a386)))), (ka385, Ia Z (lst 16 (fup (fup (fup (fun _ => 0) 0 (Int32.ofNat q0)) 1 (Int32.ofNat q1)) 2 (Int32.ofNat q2)))), (ea385, Ia Z (lst 16 (fup (fup (fup (fun _ => 0) 0 ((fun _ => -1) q0)) 1 ((fup (fun _ => -1) q0 (Int32.ofNat 0)) q1)) 2 ((fup (fup (fun _ => -1) q0 (Int32.ofNat 0)) q1 (Int32.ofNat 1)) q2)))), (la385, Ia Z (lst 16 (adT (fup (fup (fun _ => -1) q0 (Int32.ofNat 0)) q1 (Int32.ofNat 1)) (adT (fup (fun _ => -1) q0 (Int32.ofNat 0)) (adT (fun _ => -1) (fun _ => 0) q0 0) q1 1) q2 2))), (fb420, Ia Z (lst L420 (adF (fup (fup (fun _ => -1) q0 (Int32.ofNat 0)) q1 (Int32.ofNat 1)) (adF (fup (fun _ => -1) q0 (Int32.ofNat 0)) (adF (fun _ => -1) (fun _ => -1) q0 0) q1 1) q2 2))), (gb420, Ia Z (lst L420 (fup (fup (fup (fun _ => -1) q0 (Int32.ofNat 0)) q1 (Int32.ofNat 1)) q2 (Int32.ofNat 2)))), (a386, Ob Z "com/example/rankwise/rankwise/engine/Ranked" NSR [.ref a388, .double FP.dconst0]), (a388, Ia Z [])] := H496.pull 6 rfl
              refine G.callV K hl (wd hw 35 rfl) (wd hw 36 rfl) (wd hw 38 rfl) (wd hw 37 rfl) (wd hw 2 rfl) (wd hw 39 rfl) (by decide) pd_6 (H497.exa (i := 0) rfl) (ct_first l Z a0 hw n0 h420 a383 ia385 ka385 ea385 la385 fb420 gb420 3 L420 qq (fup (fup (fup (fun _ => Value.null) 0 (Value.ref a386)) 1 (Value.ref a386)) 2 (Value.ref a386)) (fup (fup (fup (fun _ => 0) 0 (Int32.ofNat q0)) 1 (Int32.ofNat q1)) 2 (Int32.ofNat q2)) (fup (fup (fup (fun _ => 0) 0 ((fun _ => -1) q0)) 1 ((fup (fun _ => -1) q0 (Int32.ofNat 0)) q1)) 2 ((fup (fup (fun _ => -1) q0 (Int32.ofNat 0)) q1 (Int32.ofNat 1)) q2)) (adT (fup (fup (fun _ => -1) q0 (Int32.ofNat 0)) q1 (Int32.ofNat 1)) (adT (fup (fun _ => -1) q0 (Int32.ofNat 0)) (adT (fun _ => -1) (fun _ => 0) q0 0) q1 1) q2 2) (adF (fup (fup (fun _ => -1) q0 (Int32.ofNat 0)) q1 (Int32.ofNat 1)) (adF (fup (fun _ => -1) q0 (Int32.ofNat 0)) (adF (fun _ => -1) (fun _ => -1) q0 0) q1 1) q2 2) (fup (fup (fup (fun _ => -1) q0 (Int32.ofNat 0)) q1 (Int32.ofNat 1)) q2 (Int32.ofNat 2)) [(a386, Ob Z "com/example/rankwise/rankwise/engine/Ranked" NSR [.ref a388, .double FP.dconst0]), (a388, Ia Z [])] (by have := l3420; omega) (by omega) hF420 H497) 0 rfl (by decide) (by decide) (by decide) (by decide) rfl rfl [.int (Int32.ofNat qq)] rfl Dx_211 ?_
              rintro _ h498 ⟨rfl, H498⟩
              change G k n0 _ h498 _ _ 214 [.val (.int p0), .val (.int p1), .val (.int p2), .val (.int p3), .val (.int 3), .val (.int (Int32.ofNat q0)), .val (.int (Int32.ofNat q1)), .val (.int (Int32.ofNat q2)), .val (.int 0), .val (.int (Int32.ofNat qq)), .val (.ref a383), .val (.ref a386), .val (.int 3), .val (.int 1)] [.int ((adF (fup (fup (fun _ => -1) q0 (Int32.ofNat 0)) q1 (Int32.ofNat 1)) (adF (fup (fun _ => -1) q0 (Int32.ofNat 0)) (adF (fun _ => -1) (fun _ => -1) q0 0) q1 1) q2 2) qq)]
              refine G.iload K Dx_214 rfl ?_
              rw [own_neq (by omega) (by omega)] at q424
              rw [own_neq (by omega) (by omega)] at q468
              rw [own_neq (by omega) (by omega)] at q490
              have hf := fst_3_0 q0 q1 q2 qq
              rw [if_neg q490, if_pos q468] at hf
              refine G.icmp_ne K Dx_216 (fun q => absurd hf q) (fun q499 => ?_)
              refine G.iconst K Dx_219 1 rfl ?_
              refine G.goto K Dx_220 ?_
              refine G.ret_bool K Dx_224 ?_
              exact rfl
            · refine G.iconst K Dx_204 0 rfl ?_
              refine G.istore K Dx_205 ([.val (.int p0), .val (.int p1), .val (.int p2), .val (.int p3), .val (.int 3), .val (.int (Int32.ofNat q0)), .val (.int (Int32.ofNat q1)), .val (.int (Int32.ofNat q2)), .val (.int 0), .val (.int (Int32.ofNat qq)), .val (.ref a383), .val (.ref a386), .val (.int 3), .val (.int 0)]) rfl ?_
              refine G.aload K Dx_207 rfl rfl ?_
              refine G.iload K Dx_209 rfl ?_
              have H500 : Hp n0 h420 [(gb420, Ia Z (lst L420 (fup (fup (fup (fun _ => -1) q0 (Int32.ofNat 0)) q1 (Int32.ofNat 1)) q2 (Int32.ofNat 2)))), (a383, Ob Z "com/example/rankwise/rankwise/engine/KeptItems" NSI [.ref ia385, .ref ka385, .ref ea385, .ref la385, .int 3, .ref fb420, .ref gb420]), (ia385, Ra Z "com/example/rankwise/rankwise/engine/Ranked" (lst 16 (fup (fup (fup (fun _ => Value.null) 0 (Value.ref a386)) 1 (Value.ref a386)) 2 (Value.ref a386)))), (ka385, Ia Z (lst 16 (fup (fup (fup (fun _ => 0) 0 (Int32.ofNat q0)) 1 (Int32.ofNat q1)) 2 (Int32.ofNat q2)))), (ea385, Ia Z (lst 16 (fup (fup (fup (fun _ => 0) 0 ((fun _ => -1) q0)) 1 ((fup (fun _ => -1) q0 (Int32.ofNat 0)) q1)) 2 ((fup (fup (fun _ => -1) q0 (Int32.ofNat 0)) q1 (Int32.ofNat 1)) q2)))), (la385, Ia Z (lst 16 (adT (fup (fup (fun _ => -1) q0 (Int32.ofNat 0)) q1 (Int32.ofNat 1)) (adT (fup (fun _ => -1) q0 (Int32.ofNat 0)) (adT (fun _ => -1) (fun _ => 0) q0 0) q1 1) q2 2))), (fb420, Ia Z (lst L420 (adF (fup (fup (fun _ => -1) q0 (Int32.ofNat 0)) q1 (Int32.ofNat 1)) (adF (fup (fun _ => -1) q0 (Int32.ofNat 0)) (adF (fun _ => -1) (fun _ => -1) q0 0) q1 1) q2 2))), (a386, Ob Z "com/example/rankwise/rankwise/engine/Ranked" NSR [.ref a388, .double FP.dconst0]), (a388, Ia Z [])] := H420.pull 6 rfl
              have H501 : Hp n0 h420 [(fb420, Ia Z (lst L420 (adF (fup (fup (fun _ => -1) q0 (Int32.ofNat 0)) q1 (Int32.ofNat 1)) (adF (fup (fun _ => -1) q0 (Int32.ofNat 0)) (adF (fun _ => -1) (fun _ => -1) q0 0) q1 1) q2 2))), (gb420, Ia Z (lst L420 (fup (fup (fup (fun _ => -1) q0 (Int32.ofNat 0)) q1 (Int32.ofNat 1)) q2 (Int32.ofNat 2)))), (a383, Ob Z "com/example/rankwise/rankwise/engine/KeptItems" NSI [.ref ia385, .ref ka385, .ref ea385, .ref la385, .int 3, .ref fb420, .ref gb420]), (ia385, Ra Z "com/example/rankwise/rankwise/engine/Ranked" (lst 16 (fup (fup (fup (fun _ => Value.null) 0 (Value.ref a386)) 1 (Value.ref a386)) 2 (Value.ref a386)))), (ka385, Ia Z (lst 16 (fup (fup (fup (fun _ => 0) 0 (Int32.ofNat q0)) 1 (Int32.ofNat q1)) 2 (Int32.ofNat q2)))), (ea385, Ia Z (lst 16 (fup (fup (fup (fun _ => 0) 0 ((fun _ => -1) q0)) 1 ((fup (fun _ => -1) q0 (Int32.ofNat 0)) q1)) 2 ((fup (fup (fun _ => -1) q0 (Int32.ofNat 0)) q1 (Int32.ofNat 1)) q2)))), (la385, Ia Z (lst 16 (adT (fup (fup (fun _ => -1) q0 (Int32.ofNat 0)) q1 (Int32.ofNat 1)) (adT (fup (fun _ => -1) q0 (Int32.ofNat 0)) (adT (fun _ => -1) (fun _ => 0) q0 0) q1 1) q2 2))), (a386, Ob Z "com/example/rankwise/rankwise/engine/Ranked" NSR [.ref a388, .double FP.dconst0]), (a388, Ia Z [])] := H500.pull 6 rfl
              have H502 : Hp n0 h420 [(la385, Ia Z (lst 16 (adT (fup (fup (fun _ => -1) q0 (Int32.ofNat 0)) q1 (Int32.ofNat 1)) (adT (fup (fun _ => -1) q0 (Int32.ofNat 0)) (adT (fun _ => -1) (fun _ => 0) q0 0) q1 1) q2 2))), (fb420, Ia Z (lst L420 (adF (fup (fup (fun _ => -1) q0 (Int32.ofNat 0)) q1 (Int32.ofNat 1)) (adF (fup (fun _ => -1) q0 (Int32.ofNat 0)) (adF (fun _ => -1) (fun _ => -1) q0 0) q1 1) q2 2))), (gb420, Ia Z (lst L420 (fup (fup (fup (fun _ => -1) q0 (Int32.ofNat 0)) q1 (Int32.ofNat 1)) q2 (Int32.ofNat 2)))), (a383, Ob Z "com/example/rankwise/rankwise/engine/KeptItems" NSI [.ref ia385, .ref ka385, .ref ea385, .ref la385, .int 3, .ref fb420, .ref gb420]), (ia385, Ra Z "com/example/rankwise/rankwise/engine/Ranked" (lst 16 (fup (fup (fup (fun _ => Value.null) 0 (Value.ref a386)) 1 (Value.ref a386)) 2 (Value.ref a386)))), (ka385, Ia Z (lst 16 (fup (fup (fup (fun _ => 0) 0 (Int32.ofNat q0)) 1 (Int32.ofNat q1)) 2 (Int32.ofNat q2)))), (ea385, Ia Z (lst 16 (fup (fup (fup (fun _ => 0) 0 ((fun _ => -1) q0)) 1 ((fup (fun _ => -1) q0 (Int32.ofNat 0)) q1)) 2 ((fup (fup (fun _ => -1) q0 (Int32.ofNat 0)) q1 (Int32.ofNat 1)) q2)))), (a386, Ob Z "com/example/rankwise/rankwise/engine/Ranked" NSR [.ref a388, .double FP.dconst0]), (a388, Ia Z [])] := H501.pull 6 rfl
              have H503 : Hp n0 h420 [(ea385, Ia Z (lst 16 (fup (fup (fup (fun _ => 0) 0 ((fun _ => -1) q0)) 1 ((fup (fun _ => -1) q0 (Int32.ofNat 0)) q1)) 2 ((fup (fup (fun _ => -1) q0 (Int32.ofNat 0)) q1 (Int32.ofNat 1)) q2)))), (la385, Ia Z (lst 16 (adT (fup (fup (fun _ => -1) q0 (Int32.ofNat 0)) q1 (Int32.ofNat 1)) (adT (fup (fun _ => -1) q0 (Int32.ofNat 0)) (adT (fun _ => -1) (fun _ => 0) q0 0) q1 1) q2 2))), (fb420, Ia Z (lst L420 (adF (fup (fup (fun _ => -1) q0 (Int32.ofNat 0)) q1 (Int32.ofNat 1)) (adF (fup (fun _ => -1) q0 (Int32.ofNat 0)) (adF (fun _ => -1) (fun _ => -1) q0 0) q1 1) q2 2))), (gb420, Ia Z (lst L420 (fup (fup (fup (fun _ => -1) q0 (Int32.ofNat 0)) q1 (Int32.ofNat 1)) q2 (Int32.ofNat 2)))), (a383, Ob Z "com/example/rankwise/rankwise/engine/KeptItems" NSI [.ref ia385, .ref ka385, .ref ea385, .ref la385, .int 3, .ref fb420, .ref gb420]), (ia385, Ra Z "com/example/rankwise/rankwise/engine/Ranked" (lst 16 (fup (fup (fup (fun _ => Value.null) 0 (Value.ref a386)) 1 (Value.ref a386)) 2 (Value.ref a386)))), (ka385, Ia Z (lst 16 (fup (fup (fup (fun _ => 0) 0 (Int32.ofNat q0)) 1 (Int32.ofNat q1)) 2 (Int32.ofNat q2)))), (a386, Ob Z "com/example/rankwise/rankwise/engine/Ranked" NSR [.ref a388, .double FP.dconst0]), (a388, Ia Z [])] := H502.pull 6 rfl
              have H504 : Hp n0 h420 [(ka385, Ia Z (lst 16 (fup (fup (fup (fun _ => 0) 0 (Int32.ofNat q0)) 1 (Int32.ofNat q1)) 2 (Int32.ofNat q2)))), (ea385, Ia Z (lst 16 (fup (fup (fup (fun _ => 0) 0 ((fun _ => -1) q0)) 1 ((fup (fun _ => -1) q0 (Int32.ofNat 0)) q1)) 2 ((fup (fup (fun _ => -1) q0 (Int32.ofNat 0)) q1 (Int32.ofNat 1)) q2)))), (la385, Ia Z (lst 16 (adT (fup (fup (fun _ => -1) q0 (Int32.ofNat 0)) q1 (Int32.ofNat 1)) (adT (fup (fun _ => -1) q0 (Int32.ofNat 0)) (adT (fun _ => -1) (fun _ => 0) q0 0) q1 1) q2 2))), (fb420, Ia Z (lst L420 (adF (fup (fup (fun _ => -1) q0 (Int32.ofNat 0)) q1 (Int32.ofNat 1)) (adF (fup (fun _ => -1) q0 (Int32.ofNat 0)) (adF (fun _ => -1) (fun _ => -1) q0 0) q1 1) q2 2))), (gb420, Ia Z (lst L420 (fup (fup (fup (fun _ => -1) q0 (Int32.ofNat 0)) q1 (Int32.ofNat 1)) q2 (Int32.ofNat 2)))), (a383, Ob Z "com/example/rankwise/rankwise/engine/KeptItems" NSI [.ref ia385, .ref ka385, .ref ea385, .ref la385, .int 3, .ref fb420, .ref gb420]), (ia385, Ra Z "com/example/rankwise/rankwise/engine/Ranked" (lst 16 (fup (fup (fup (fun _ => Value.null) 0 (Value.ref a386)) 1 (Value.ref a386)) 2 (Value.ref a386)))), (a386, Ob Z "com/example/rankwise/rankwise/engine/Ranked" NSR [.ref a388, .double FP.dconst0]), (a388, Ia Z [])] := H503.pull 6 rfl
              have H505 : Hp n0 h420 [(ia385, Ra Z "com/example/rankwise/rankwise/engine/Ranked" (lst 16 (fup (fup (fup (fun _ => Value.null) 0 (Value.ref a386)) 1 (Value.ref a386)) 2 (Value.ref a386)))), (ka385, Ia Z (lst 16 (fup (fup (fup (fun _ => 0) 0 (Int32.ofNat q0)) 1 (Int32.ofNat q1)) 2 (Int32.ofNat q2)))), (ea385, Ia Z (lst 16 (fup (fup (fup (fun _ => 0) 0 ((fun _ => -1) q0)) 1 ((fup (fun _ => -1) q0 (Int32.ofNat 0)) q1)) 2 ((fup (fup (fun _ => -1) q0 (Int32.ofNat 0)) q1 (Int32.ofNat 1)) q2)))), (la385, Ia Z (lst 16 (adT (fup (fup (fun _ => -1) q0 (Int32.ofNat 0)) q1 (Int32.ofNat 1)) (adT (fup (fun _ => -1) q0 (Int32.ofNat 0)) (adT (fun _ => -1) (fun _ => 0) q0 0) q1 1) q2 2))), (fb420, Ia Z (lst L420 (adF (fup (fup (fun _ => -1) q0 (Int32.ofNat 0)) q1 (Int32.ofNat 1)) (adF (fup (fun _ => -1) q0 (Int32.ofNat 0)) (adF (fun _ => -1) (fun _ => -1) q0 0) q1 1) q2 2))), (gb420, Ia Z (lst L420 (fup (fup (fup (fun _ => -1) q0 (Int32.ofNat 0)) q1 (Int32.ofNat 1)) q2 (Int32.ofNat 2)))), (a383, Ob Z "com/example/rankwise/rankwise/engine/KeptItems" NSI [.ref ia385, .ref ka385, .ref ea385, .ref la385, .int 3, .ref fb420, .ref gb420]), (a386, Ob Z "com/example/rankwise/rankwise/engine/Ranked" NSR [.ref a388, .double FP.dconst0]), (a388, Ia Z [])] := H504.pull 6 rfl
              have H506 : Hp n0 h420 [(a383, Ob Z "com/example/rankwise/rankwise/engine/KeptItems" NSI [.ref ia385, .ref ka385, .ref ea385, .ref la385, .int 3, .ref fb420, .ref gb420]), (ia385, Ra Z "com/example/rankwise/rankwise/engine/Ranked" (lst 16 (fup (fup (fup (fun _ => Value.null) 0 (Value.ref a386)) 1 (Value.ref a386)) 2 (Value.ref a386)))), (ka385, Ia Z (lst 16 (fup (fup (fup (fun _ => 0) 0 (Int32.ofNat q0)) 1 (Int32.ofNat q1)) 2 (Int32.ofNat q2)))), (ea385, Ia Z (lst 16 (fup (fup (fup (fun _ => 0) 0 ((fun _ => -1) q0)) 1 ((fup (fun _ => -1) q0 (Int32.ofNat 0)) q1)) 2 ((fup (fup (fun _ => -1) q0 (Int32.ofNat 0)) q1 (Int32.ofNat 1)) q2)))), (la385, Ia Z (lst 16 (adT (fup (fup (fun _ => -1) q0 (Int32.ofNat 0)) q1 (Int32.ofNat 1)) (adT (fup (fun _ => -1) q0 (Int32.ofNat 0)) (adT (fun _ => -1) (fun _ => 0) q0 0) q1 1) q2 2))), (fb420, Ia Z (lst L420 (adF (fup (fup (fun _ => -1) q0 (Int32.ofNat 0)) q1 (Int32.ofNat 1)) (adF (fup (fun _ => -1) q0 (Int32.ofNat 0)) (adF (fun _ => -1) (fun _ => -1) q0 0) q1 1) q2 2))), (gb420, Ia Z (lst L420 (fup (fup (fup (fun _ => -1) q0 (Int32.ofNat 0)) q1 (Int32.ofNat 1)) q2 (Int32.ofNat 2)))), (a386, Ob Z "com/example/rankwise/rankwise/engine/Ranked" NSR [.ref a388, .double FP.dconst0]), (a388, Ia Z [])] := H505.pull 6 rfl
              refine G.callV K hl (wd hw 35 rfl) (wd hw 36 rfl) (wd hw 38 rfl) (wd hw 37 rfl) (wd hw 2 rfl) (wd hw 39 rfl) (by decide) pd_6 (H506.exa (i := 0) rfl) (ct_first l Z a0 hw n0 h420 a383 ia385 ka385 ea385 la385 fb420 gb420 3 L420 qq (fup (fup (fup (fun _ => Value.null) 0 (Value.ref a386)) 1 (Value.ref a386)) 2 (Value.ref a386)) (fup (fup (fup (fun _ => 0) 0 (Int32.ofNat q0)) 1 (Int32.ofNat q1)) 2 (Int32.ofNat q2)) (fup (fup (fup (fun _ => 0) 0 ((fun _ => -1) q0)) 1 ((fup (fun _ => -1) q0 (Int32.ofNat 0)) q1)) 2 ((fup (fup (fun _ => -1) q0 (Int32.ofNat 0)) q1 (Int32.ofNat 1)) q2)) (adT (fup (fup (fun _ => -1) q0 (Int32.ofNat 0)) q1 (Int32.ofNat 1)) (adT (fup (fun _ => -1) q0 (Int32.ofNat 0)) (adT (fun _ => -1) (fun _ => 0) q0 0) q1 1) q2 2) (adF (fup (fup (fun _ => -1) q0 (Int32.ofNat 0)) q1 (Int32.ofNat 1)) (adF (fup (fun _ => -1) q0 (Int32.ofNat 0)) (adF (fun _ => -1) (fun _ => -1) q0 0) q1 1) q2 2) (fup (fup (fup (fun _ => -1) q0 (Int32.ofNat 0)) q1 (Int32.ofNat 1)) q2 (Int32.ofNat 2)) [(a386, Ob Z "com/example/rankwise/rankwise/engine/Ranked" NSR [.ref a388, .double FP.dconst0]), (a388, Ia Z [])] (by have := l3420; omega) (by omega) hF420 H506) 0 rfl (by decide) (by decide) (by decide) (by decide) rfl rfl [.int (Int32.ofNat qq)] rfl Dx_211 ?_
              rintro _ h507 ⟨rfl, H507⟩
              change G k n0 _ h507 _ _ 214 [.val (.int p0), .val (.int p1), .val (.int p2), .val (.int p3), .val (.int 3), .val (.int (Int32.ofNat q0)), .val (.int (Int32.ofNat q1)), .val (.int (Int32.ofNat q2)), .val (.int 0), .val (.int (Int32.ofNat qq)), .val (.ref a383), .val (.ref a386), .val (.int 3), .val (.int 0)] [.int ((adF (fup (fup (fun _ => -1) q0 (Int32.ofNat 0)) q1 (Int32.ofNat 1)) (adF (fup (fun _ => -1) q0 (Int32.ofNat 0)) (adF (fun _ => -1) (fun _ => -1) q0 0) q1 1) q2 2) qq)]
              refine G.iload K Dx_214 rfl ?_
              rw [own_neq (by omega) (by omega)] at q424
              rw [own_neq (by omega) (by omega)] at q468
              rw [own_neq (by omega) (by omega)] at q490
              have hf := fst_3_0 q0 q1 q2 qq
              rw [if_pos q490] at hf
              refine G.icmp_ne K Dx_216 (fun q => absurd hf q) (fun q508 => ?_)
              refine G.iconst K Dx_219 1 rfl ?_
              refine G.goto K Dx_220 ?_
              refine G.ret_bool K Dx_224 ?_
              exact rfl
      refine G.iloadN K Dx_46 rfl ?_
      refine G.iconst K Dx_47 1 rfl ?_
      refine G.iand K Dx_48 ?_
      refine G.if_eq K Dx_49 (fun q509 => ?_) (fun q509 => ?_)
      · refine G.iloadN K Dx_59 rfl ?_
        refine G.ldcI K Dx_60 (wd hw 40 rfl) ?_
        refine G.iand K Dx_62 ?_
        obtain ⟨u, hu, eu⟩ := own_msk p2
        rw [eu]
        exact T63 u hu
      · refine G.iloadN K Dx_52 rfl ?_
        refine G.bipush K Dx_53 15 rfl ?_
        refine G.iand K Dx_55 ?_
        refine G.goto K Dx_56 ?_
        obtain ⟨u, hu, eu⟩ := own_and_lt p2 15 (by decide)
        rw [show p2 &&& 15 = Int32.ofNat u from eu]
        exact T63 u (by omega)
    · refine G.iload K Dx_34 rfl ?_
      refine G.if_le K Dx_36 (fun q => absurd q (by decide)) (fun _ => ?_)
      refine G.iconst K Dx_39 1 rfl ?_
      refine G.goto K Dx_40 ?_
      refine G.istore K Dx_44 ([.val (.int p0), .val (.int p1), .val (.int p2), .val (.int p3), .val (.int 3), .val (.int (Int32.ofNat q0)), .val (.int (Int32.ofNat q1)), .val (.int (Int32.ofNat q2)), .val (.int 1), .unset, .unset, .unset, .unset, .unset]) rfl ?_
      have T63 : ∀ qq : Nat, qq < 2147483648 → G k n0 (fun v h' => v = some (.int 1)) h 0 0 63 [.val (.int p0), .val (.int p1), .val (.int p2), .val (.int p3), .val (.int 3), .val (.int (Int32.ofNat q0)), .val (.int (Int32.ofNat q1)), .val (.int (Int32.ofNat q2)), .val (.int 1), .unset, .unset, .unset, .unset, .unset] [.int (Int32.ofNat qq)] := by
        intro qq hqq
        refine G.istore K Dx_63 ([.val (.int p0), .val (.int p1), .val (.int p2), .val (.int p3), .val (.int 3), .val (.int (Int32.ofNat q0)), .val (.int (Int32.ofNat q1)), .val (.int (Int32.ofNat q2)), .val (.int 1), .val (.int (Int32.ofNat qq)), .unset, .unset, .unset, .unset]) rfl ?_
        refine G.new K (wd hw 0 rfl) (wd hw 1 rfl) (wd hw 2 rfl) (cf_NSI hw) (vs := [.null, .null, .null, .null, .int 0, .null, .null]) (by rfl) (Hp.nil (n0 := n0) (h := h)) (by decide) (by decide) Dx_65 ?_
        intro a511 h512 H512
        change Hp n0 h512 [(a511, Ob Z "com/example/rankwise/rankwise/engine/KeptItems" NSI [.null, .null, .null, .null, .int 0, .null, .null])] at H512
        refine G.dup K Dx_68 rfl ?_
        refine G.callI K hl rfl (wd hw 3 rfl) (wd hw 4 rfl) (wd hw 2 rfl) (wd hw 5 rfl) (by decide) pd_4 (ct_new l Z a0 hw n0 h512 a511 [] H512) 1 rfl (by decide) (by decide) (by decide) (by decide) rfl rfl [] rfl Dx_69 ?_
        rintro _ h513 ⟨rfl, ia513, ka513, ea513, la513, fa513, ga513, H513⟩
        change G k n0 _ h513 _ _ 72 [.val (.int p0), .val (.int p1), .val (.int p2), .val (.int p3), .val (.int 3), .val (.int (Int32.ofNat q0)), .val (.int (Int32.ofNat q1)), .val (.int (Int32.ofNat q2)), .val (.int 1), .val (.int (Int32.ofNat qq)), .unset, .unset, .unset, .unset] [.ref a511]
        refine G.astore K Dx_72 rfl ([.val (.int p0), .val (.int p1), .val (.int p2), .val (.int p3), .val (.int 3), .val (.int (Int32.ofNat q0)), .val (.int (Int32.ofNat q1)), .val (.int (Int32.ofNat q2)), .val (.int 1), .val (.int (Int32.ofNat qq)), .val (.ref a511), .unset, .unset, .unset]) rfl ?_
        refine G.new K (wd hw 24 rfl) (wd hw 25 rfl) (wd hw 26 rfl) (cf_NSR hw) (vs := [.null, .double 0]) (by rfl) H513 (by decide) (by decide) Dx_74 ?_
        intro a514 h515 H515
        change Hp n0 h515 [(a514, Ob Z "com/example/rankwise/rankwise/engine/Ranked" NSR [.null, .double 0]), (a511, Ob Z "com/example/rankwise/rankwise/engine/KeptItems" NSI [.ref ia513, .ref ka513, .ref ea513, .ref la513, .int 0, .ref fa513, .ref ga513]), (ia513, Ra Z "com/example/rankwise/rankwise/engine/Ranked" (lst 16 (fun _ => Value.null))), (ka513, Ia Z (lst 16 (fun _ => 0))), (ea513, Ia Z (lst 16 (fun _ => 0))), (la513, Ia Z (lst 16 (fun _ => 0))), (fa513, Ia Z (lst 0 (fun _ => -1))), (ga513, Ia Z (lst 0 (fun _ => -1)))] at H515
        refine G.dup K Dx_77 rfl ?_
        refine G.iconst K Dx_78 0 rfl ?_
        refine G.newarr_i K (wd hw 13 rfl) H515 (by decide) 0 (by decide) (by decide) (by decide) (by decide) Dx_79 ?_
        intro a516 h517 H517
        change Hp n0 h517 [(a516, Ia Z []), (a514, Ob Z "com/example/rankwise/rankwise/engine/Ranked" NSR [.null, .double 0]), (a511, Ob Z "com/example/rankwise/rankwise/engine/KeptItems" NSI [.ref ia513, .ref ka513, .ref ea513, .ref la513, .int 0, .ref fa513, .ref ga513]), (ia513, Ra Z "com/example/rankwise/rankwise/engine/Ranked" (lst 16 (fun _ => Value.null))), (ka513, Ia Z (lst 16 (fun _ => 0))), (ea513, Ia Z (lst 16 (fun _ => 0))), (la513, Ia Z (lst 16 (fun _ => 0))), (fa513, Ia Z (lst 0 (fun _ => -1))), (ga513, Ia Z (lst 0 (fun _ => -1)))] at H517
        refine G.dconst0 K Dx_81 ?_
        have H518 : Hp n0 h517 [(a514, Ob Z "com/example/rankwise/rankwise/engine/Ranked" NSR [.null, .double 0]), (a516, Ia Z []), (a511, Ob Z "com/example/rankwise/rankwise/engine/KeptItems" NSI [.ref ia513, .ref ka513, .ref ea513, .ref la513, .int 0, .ref fa513, .ref ga513]), (ia513, Ra Z "com/example/rankwise/rankwise/engine/Ranked" (lst 16 (fun _ => Value.null))), (ka513, Ia Z (lst 16 (fun _ => 0))), (ea513, Ia Z (lst 16 (fun _ => 0))), (la513, Ia Z (lst 16 (fun _ => 0))), (fa513, Ia Z (lst 0 (fun _ => -1))), (ga513, Ia Z (lst 0 (fun _ => -1)))] := H517.pull 1 rfl
        refine G.callI K hl rfl (wd hw 27 rfl) (wd hw 28 rfl) (wd hw 26 rfl) (wd hw 29 rfl) (by decide) pd_5 (ct_ranked l Z a0 hw n0 h517 a514 a516 FP.dconst0 [(a516, Ia Z []), (a511, Ob Z "com/example/rankwise/rankwise/engine/KeptItems" NSI [.ref ia513, .ref ka513, .ref ea513, .ref la513, .int 0, .ref fa513, .ref ga513]), (ia513, Ra Z "com/example/rankwise/rankwise/engine/Ranked" (lst 16 (fun _ => Value.null))), (ka513, Ia Z (lst 16 (fun _ => 0))), (ea513, Ia Z (lst 16 (fun _ => 0))), (la513, Ia Z (lst 16 (fun _ => 0))), (fa513, Ia Z (lst 0 (fun _ => -1))), (ga513, Ia Z (lst 0 (fun _ => -1)))] H518) 1 rfl (by decide) (by decide) (by decide) (by decide) rfl rfl [.double FP.dconst0, .ref a516] rfl Dx_82 ?_
        rintro _ h519 ⟨rfl, H519⟩
        change G k n0 _ h519 _ _ 85 [.val (.int p0), .val (.int p1), .val (.int p2), .val (.int p3), .val (.int 3), .val (.int (Int32.ofNat q0)), .val (.int (Int32.ofNat q1)), .val (.int (Int32.ofNat q2)), .val (.int 1), .val (.int (Int32.ofNat qq)), .val (.ref a511), .unset, .unset, .unset] [.ref a514]
        refine G.astore K Dx_85 rfl ([.val (.int p0), .val (.int p1), .val (.int p2), .val (.int p3), .val (.int 3), .val (.int (Int32.ofNat q0)), .val (.int (Int32.ofNat q1)), .val (.int (Int32.ofNat q2)), .val (.int 1), .val (.int (Int32.ofNat qq)), .val (.ref a511), .val (.ref a514), .unset, .unset]) rfl ?_
        refine G.iload K Dx_87 rfl ?_
        refine G.if_le K Dx_89 (fun q => absurd q (by decide)) (fun _ => ?_)
        refine G.aload K Dx_92 rfl rfl ?_
        refine G.iload K Dx_94 rfl ?_
        refine G.aload K Dx_96 rfl rfl ?_
        have H521 : Hp n0 h519 [(ga513, Ia Z (lst 0 (fun _ => -1))), (a514, Ob Z "com/example/rankwise/rankwise/engine/Ranked" NSR [.ref a516, .double FP.dconst0]), (a516, Ia Z []), (a511, Ob Z "com/example/rankwise/rankwise/engine/KeptItems" NSI [.ref ia513, .ref ka513, .ref ea513, .ref la513, .int 0, .ref fa513, .ref ga513]), (ia513, Ra Z "com/example/rankwise/rankwise/engine/Ranked" (lst 16 (fun _ => Value.null))), (ka513, Ia Z (lst 16 (fun _ => 0))), (ea513, Ia Z (lst 16 (fun _ => 0))), (la513, Ia Z (lst 16 (fun _ => 0))), (fa513, Ia Z (lst 0 (fun _ => -1)))] := H519.pull 8 rfl
        have H522 : Hp n0 h519 [(fa513, Ia Z (lst 0 (fun _ => -1))), (ga513, Ia Z (lst 0 (fun _ => -1))), (a514, Ob Z "com/example/rankwise/rankwise/engine/Ranked" NSR [.ref a516, .double FP.dconst0]), (a516, Ia Z []), (a511, Ob Z "com/example/rankwise/rankwise/engine/KeptItems" NSI [.ref ia513, .ref ka513, .ref ea513, .ref la513, .int 0, .ref fa513, .ref ga513]), (ia513, Ra Z "com/example/rankwise/rankwise/engine/Ranked" (lst 16 (fun _ => Value.null))), (ka513, Ia Z (lst 16 (fun _ => 0))), (ea513, Ia Z (lst 16 (fun _ => 0))), (la513, Ia Z (lst 16 (fun _ => 0)))] := H521.pull 8 rfl
        have H523 : Hp n0 h519 [(la513, Ia Z (lst 16 (fun _ => 0))), (fa513, Ia Z (lst 0 (fun _ => -1))), (ga513, Ia Z (lst 0 (fun _ => -1))), (a514, Ob Z "com/example/rankwise/rankwise/engine/Ranked" NSR [.ref a516, .double FP.dconst0]), (a516, Ia Z []), (a511, Ob Z "com/example/rankwise/rankwise/engine/KeptItems" NSI [.ref ia513, .ref ka513, .ref ea513, .ref la513, .int 0, .ref fa513, .ref ga513]), (ia513, Ra Z "com/example/rankwise/rankwise/engine/Ranked" (lst 16 (fun _ => Value.null))), (ka513, Ia Z (lst 16 (fun _ => 0))), (ea513, Ia Z (lst 16 (fun _ => 0)))] := H522.pull 8 rfl
        have H524 : Hp n0 h519 [(ea513, Ia Z (lst 16 (fun _ => 0))), (la513, Ia Z (lst 16 (fun _ => 0))), (fa513, Ia Z (lst 0 (fun _ => -1))), (ga513, Ia Z (lst 0 (fun _ => -1))), (a514, Ob Z "com/example/rankwise/rankwise/engine/Ranked" NSR [.ref a516, .double FP.dconst0]), (a516, Ia Z []), (a511, Ob Z "com/example/rankwise/rankwise/engine/KeptItems" NSI [.ref ia513, .ref ka513, .ref ea513, .ref la513, .int 0, .ref fa513, .ref ga513]), (ia513, Ra Z "com/example/rankwise/rankwise/engine/Ranked" (lst 16 (fun _ => Value.null))), (ka513, Ia Z (lst 16 (fun _ => 0)))] := H523.pull 8 rfl
        have H525 : Hp n0 h519 [(ka513, Ia Z (lst 16 (fun _ => 0))), (ea513, Ia Z (lst 16 (fun _ => 0))), (la513, Ia Z (lst 16 (fun _ => 0))), (fa513, Ia Z (lst 0 (fun _ => -1))), (ga513, Ia Z (lst 0 (fun _ => -1))), (a514, Ob Z "com/example/rankwise/rankwise/engine/Ranked" NSR [.ref a516, .double FP.dconst0]), (a516, Ia Z []), (a511, Ob Z "com/example/rankwise/rankwise/engine/KeptItems" NSI [.ref ia513, .ref ka513, .ref ea513, .ref la513, .int 0, .ref fa513, .ref ga513]), (ia513, Ra Z "com/example/rankwise/rankwise/engine/Ranked" (lst 16 (fun _ => Value.null)))] := H524.pull 8 rfl
        have H526 : Hp n0 h519 [(ia513, Ra Z "com/example/rankwise/rankwise/engine/Ranked" (lst 16 (fun _ => Value.null))), (ka513, Ia Z (lst 16 (fun _ => 0))), (ea513, Ia Z (lst 16 (fun _ => 0))), (la513, Ia Z (lst 16 (fun _ => 0))), (fa513, Ia Z (lst 0 (fun _ => -1))), (ga513, Ia Z (lst 0 (fun _ => -1))), (a514, Ob Z "com/example/rankwise/rankwise/engine/Ranked" NSR [.ref a516, .double FP.dconst0]), (a516, Ia Z []), (a511, Ob Z "com/example/rankwise/rankwise/engine/KeptItems" NSI [.ref ia513, .ref ka513, .ref ea513, .ref la513, .int 0, .ref fa513, .ref ga513])] := H525.pull 8 rfl
        have H527 : Hp n0 h519 [(a511, Ob Z "com/example/rankwise/rankwise/engine/KeptItems" NSI [.ref ia513, .ref ka513, .ref ea513, .ref la513, .int 0, .ref fa513, .ref ga513]), (ia513, Ra Z "com/example/rankwise/rankwise/engine/Ranked" (lst 16 (fun _ => Value.null))), (ka513, Ia Z (lst 16 (fun _ => 0))), (ea513, Ia Z (lst 16 (fun _ => 0))), (la513, Ia Z (lst 16 (fun _ => 0))), (fa513, Ia Z (lst 0 (fun _ => -1))), (ga513, Ia Z (lst 0 (fun _ => -1))), (a514, Ob Z "com/example/rankwise/rankwise/engine/Ranked" NSR [.ref a516, .double FP.dconst0]), (a516, Ia Z [])] := H526.pull 8 rfl
        refine G.callV K hl (wd hw 41 rfl) (wd hw 42 rfl) (wd hw 44 rfl) (wd hw 43 rfl) (wd hw 2 rfl) (wd hw 45 rfl) (by decide) pd_7 (H527.exa (i := 0) rfl) (ct_add l Z a0 hw n0 h519 a511 ia513 ka513 ea513 la513 fa513 ga513 a514 0 0 q0 (fun _ => Value.null) (fun _ => 0) (fun _ => 0) (fun _ => 0) (fun _ => -1) (fun _ => -1) [.ref a516, .double FP.dconst0] [(a516, Ia Z [])] (by decide) (by decide) (by omega) (fun _ _ => rfl) (fun _ _ => rfl) (fun _ => (Or.inl rfl : Ix 0 (-1))) H527) 0 rfl (by decide) (by decide) (by decide) (by decide) rfl rfl [.ref a514, .int (Int32.ofNat q0)] rfl Dx_98 ?_
        rintro _ h528 ⟨rfl, fb528, gb528, L528, l1528, l2528, l3528, H528⟩
        have hF528 : ∀ i, L528 ≤ i → (adF (fun _ => -1) (fun _ => -1) q0 0) i = -1 := adF_out (fun _ _ => rfl) l1528 l2528
        have hO528 : ∀ i, L528 ≤ i → (fup (fun _ => -1) q0 (Int32.ofNat 0)) i = -1 := fup_out (fun _ _ => rfl) l1528 l2528
        have hI528 : ∀ i, Ix 1 ((fup (fun _ => -1) q0 (Int32.ofNat 0)) i) := Ix_fup (fun _ => (Or.inl rfl : Ix 0 (-1)))
        change G k n0 _ h528 _ _ 101 [.val (.int p0), .val (.int p1), .val (.int p2), .val (.int p3), .val (.int 3), .val (.int (Int32.ofNat q0)), .val (.int (Int32.ofNat q1)), .val (.int (Int32.ofNat q2)), .val (.int 1), .val (.int (Int32.ofNat qq)), .val (.ref a511), .val (.ref a514), .unset, .unset] []
        refine G.iload K Dx_101 rfl ?_
        refine G.iconst K Dx_103 1 rfl ?_
        refine G.icmp_le K Dx_104 (fun q => absurd q (by decide)) (fun _ => ?_)
        refine G.aload K Dx_107 rfl rfl ?_
        refine G.iload K Dx_109 rfl ?_
        refine G.aload K Dx_111 rfl rfl ?_
        have H530 : Hp n0 h528 [(a514, Ob Z "com/example/rankwise/rankwise/engine/Ranked" NSR [.ref a516, .double FP.dconst0]), (a511, Ob Z "com/example/rankwise/rankwise/engine/KeptItems" NSI [.ref ia513, .ref ka513, .ref ea513, .ref la513, .int 1, .ref fb528, .ref gb528]), (ia513, Ra Z "com/example/rankwise/rankwise/engine/Ranked" (lst 16 (fup (fun _ => Value.null) 0 (Value.ref a514)))), (ka513, Ia Z (lst 16 (fup (fun _ => 0) 0 (Int32.ofNat q0)))), (ea513, Ia Z (lst 16 (fup (fun _ => 0) 0 ((fun _ => -1) q0)))), (la513, Ia Z (lst 16 (adT (fun _ => -1) (fun _ => 0) q0 0))), (fb528, Ia Z (lst L528 (adF (fun _ => -1) (fun _ => -1) q0 0))), (gb528, Ia Z (lst L528 (fup (fun _ => -1) q0 (Int32.ofNat 0)))), (a516, Ia Z [])] := H528.pull 7 rfl
        have H531 : Hp n0 h528 [(gb528, Ia Z (lst L528 (fup (fun _ => -1) q0 (Int32.ofNat 0)))), (a514, Ob Z "com/example/rankwise/rankwise/engine/Ranked" NSR [.ref a516, .double FP.dconst0]), (a511, Ob Z "com/example/rankwise/rankwise/engine/KeptItems" NSI [.ref ia513, .ref ka513, .ref ea513, .ref la513, .int 1, .ref fb528, .ref gb528]), (ia513, Ra Z "com/example/rankwise/rankwise/engine/Ranked" (lst 16 (fup (fun _ => Value.null) 0 (Value.ref a514)))), (ka513, Ia Z (lst 16 (fup (fun _ => 0) 0 (Int32.ofNat q0)))), (ea513, Ia Z (lst 16 (fup (fun _ => 0) 0 ((fun _ => -1) q0)))), (la513, Ia Z (lst 16 (adT (fun _ => -1) (fun _ => 0) q0 0))), (fb528, Ia Z (lst L528 (adF (fun _ => -1) (fun _ => -1) q0 0))), (a516, Ia Z [])] := H530.pull 7 rfl
        have H532 : Hp n0 h528 [(fb528, Ia Z (lst L528 (adF (fun _ => -1) (fun _ => -1) q0 0))), (gb528, Ia Z (lst L528 (fup (fun _ => -1) q0 (Int32.ofNat 0)))), (a514, Ob Z "com/example/rankwise/rankwise/engine/Ranked" NSR [.ref a516, .double FP.dconst0]), (a511, Ob Z "com/example/rankwise/rankwise/engine/KeptItems" NSI [.ref ia513, .ref ka513, .ref ea513, .ref la513, .int 1, .ref fb528, .ref gb528]), (ia513, Ra Z "com/example/rankwise/rankwise/engine/Ranked" (lst 16 (fup (fun _ => Value.null) 0 (Value.ref a514)))), (ka513, Ia Z (lst 16 (fup (fun _ => 0) 0 (Int32.ofNat q0)))), (ea513, Ia Z (lst 16 (fup (fun _ => 0) 0 ((fun _ => -1) q0)))), (la513, Ia Z (lst 16 (adT (fun _ => -1) (fun _ => 0) q0 0))), (a516, Ia Z [])] := H531.pull 7 rfl
        have H533 : Hp n0 h528 [(la513, Ia Z (lst 16 (adT (fun _ => -1) (fun _ => 0) q0 0))), (fb528, Ia Z (lst L528 (adF (fun _ => -1) (fun _ => -1) q0 0))), (gb528, Ia Z (lst L528 (fup (fun _ => -1) q0 (Int32.ofNat 0)))), (a514, Ob Z "com/example/rankwise/rankwise/engine/Ranked" NSR [.ref a516, .double FP.dconst0]), (a511, Ob Z "com/example/rankwise/rankwise/engine/KeptItems" NSI [.ref ia513, .ref ka513, .ref ea513, .ref la513, .int 1, .ref fb528, .ref gb528]), (ia513, Ra Z "com/example/rankwise/rankwise/engine/Ranked" (lst 16 (fup (fun _ => Value.null) 0 (Value.ref a514)))), (ka513, Ia Z (lst 16 (fup (fun _ => 0) 0 (Int32.ofNat q0)))), (ea513, Ia Z (lst 16 (fup (fun _ => 0) 0 ((fun _ => -1) q0)))), (a516, Ia Z [])] := H532.pull 7 rfl
        have H534 : Hp n0 h528 [(ea513, Ia Z (lst 16 (fup (fun _ => 0) 0 ((fun _ => -1) q0)))), (la513, Ia Z (lst 16 (adT (fun _ => -1) (fun _ => 0) q0 0))), (fb528, Ia Z (lst L528 (adF (fun _ => -1) (fun _ => -1) q0 0))), (gb528, Ia Z (lst L528 (fup (fun _ => -1) q0 (Int32.ofNat 0)))), (a514, Ob Z "com/example/rankwise/rankwise/engine/Ranked" NSR [.ref a516, .double FP.dconst0]), (a511, Ob Z "com/example/rankwise/rankwise/engine/KeptItems" NSI [.ref ia513, .ref ka513, .ref ea513, .ref la513, .int 1, .ref fb528, .ref gb528]), (ia513, Ra Z "com/example/rankwise/rankwise/engine/Ranked" (lst 16 (fup (fun _ => Value.null) 0 (Value.ref a514)))), (ka513, Ia Z (lst 16 (fup (fun _ => 0) 0 (Int32.ofNat q0)))), (a516, Ia Z [])] := H533.pull 7 rfl
        have H535 : Hp n0 h528 [(ka513, Ia Z (lst 16 (fup (fun _ => 0) 0 (Int32.ofNat q0)))), (ea513, Ia Z (lst 16 (fup (fun _ => 0) 0 ((fun _ => -1) q0)))), (la513, Ia Z (lst 16 (adT (fun _ => -1) (fun _ => 0) q0 0))), (fb528, Ia Z (lst L528 (adF (fun _ => -1) (fun _ => -1) q0 0))), (gb528, Ia Z (lst L528 (fup (fun _ => -1) q0 (Int32.ofNat 0)))), (a514, Ob Z "com/example/rankwise/rankwise/engine/Ranked" NSR [.ref a516, .double FP.dconst0]), (a511, Ob Z "com/example/rankwise/rankwise/engine/KeptItems" NSI [.ref ia513, .ref ka513, .ref ea513, .ref la513, .int 1, .ref fb528, .ref gb528]), (ia513, Ra Z "com/example/rankwise/rankwise/engine/Ranked" (lst 16 (fup (fun _ => Value.null) 0 (Value.ref a514)))), (a516, Ia Z [])] := H534.pull 7 rfl
        have H536 : Hp n0 h528 [(ia513, Ra Z "com/example/rankwise/rankwise/engine/Ranked" (lst 16 (fup (fun _ => Value.null) 0 (Value.ref a514)))), (ka513, Ia Z (lst 16 (fup (fun _ => 0) 0 (Int32.ofNat q0)))), (ea513, Ia Z (lst 16 (fup (fun _ => 0) 0 ((fun _ => -1) q0)))), (la513, Ia Z (lst 16 (adT (fun _ => -1) (fun _ => 0) q0 0))), (fb528, Ia Z (lst L528 (adF (fun _ => -1) (fun _ => -1) q0 0))), (gb528, Ia Z (lst L528 (fup (fun _ => -1) q0 (Int32.ofNat 0)))), (a514, Ob Z "com/example/rankwise/rankwise/engine/Ranked" NSR [.ref a516, .double FP.dconst0]), (a511, Ob Z "com/example/rankwise/rankwise/engine/KeptItems" NSI [.ref ia513, .ref ka513, .ref ea513, .ref la513, .int 1, .ref fb528, .ref gb528]), (a516, Ia Z [])] := H535.pull 7 rfl
        have H537 : Hp n0 h528 [(a511, Ob Z "com/example/rankwise/rankwise/engine/KeptItems" NSI [.ref ia513, .ref ka513, .ref ea513, .ref la513, .int 1, .ref fb528, .ref gb528]), (ia513, Ra Z "com/example/rankwise/rankwise/engine/Ranked" (lst 16 (fup (fun _ => Value.null) 0 (Value.ref a514)))), (ka513, Ia Z (lst 16 (fup (fun _ => 0) 0 (Int32.ofNat q0)))), (ea513, Ia Z (lst 16 (fup (fun _ => 0) 0 ((fun _ => -1) q0)))), (la513, Ia Z (lst 16 (adT (fun _ => -1) (fun _ => 0) q0 0))), (fb528, Ia Z (lst L528 (adF (fun _ => -1) (fun _ => -1) q0 0))), (gb528, Ia Z (lst L528 (fup (fun _ => -1) q0 (Int32.ofNat 0)))), (a514, Ob Z "com/example/rankwise/rankwise/engine/Ranked" NSR [.ref a516, .double FP.dconst0]), (a516, Ia Z [])] := H536.pull 7 rfl
        refine G.callV K hl (wd hw 41 rfl) (wd hw 42 rfl) (wd hw 44 rfl) (wd hw 43 rfl) (wd hw 2 rfl) (wd hw 45 rfl) (by decide) pd_7 (H537.exa (i := 0) rfl) (ct_add l Z a0 hw n0 h528 a511 ia513 ka513 ea513 la513 fb528 gb528 a514 1 L528 q1 (fup (fun _ => Value.null) 0 (Value.ref a514)) (fup (fun _ => 0) 0 (Int32.ofNat q0)) (fup (fun _ => 0) 0 ((fun _ => -1) q0)) (adT (fun _ => -1) (fun _ => 0) q0 0) (adF (fun _ => -1) (fun _ => -1) q0 0) (fup (fun _ => -1) q0 (Int32.ofNat 0)) [.ref a516, .double FP.dconst0] [(a516, Ia Z [])] (by decide) l3528 (by omega) hF528 hO528 hI528 H537) 0 rfl (by decide) (by decide) (by decide) (by decide) rfl rfl [.ref a514, .int (Int32.ofNat q1)] rfl Dx_113 ?_
        rintro _ h538 ⟨rfl, fb538, gb538, L538, l1538, l2538, l3538, H538⟩
        have hF538 : ∀ i, L538 ≤ i → (adF (fup (fun _ => -1) q0 (Int32.ofNat 0)) (adF (fun _ => -1) (fun _ => -1) q0 0) q1 1) i = -1 := adF_out hF528 l1538 l2538
        have hO538 : ∀ i, L538 ≤ i → (fup (fup (fun _ => -1) q0 (Int32.ofNat 0)) q1 (Int32.ofNat 1)) i = -1 := fup_out hO528 l1538 l2538
        have hI538 : ∀ i, Ix 2 ((fup (fup (fun _ => -1) q0 (Int32.ofNat 0)) q1 (Int32.ofNat 1)) i) := Ix_fup hI528
        change G k n0 _ h538 _ _ 116 [.val (.int p0), .val (.int p1), .val (.int p2), .val (.int p3), .val (.int 3), .val (.int (Int32.ofNat q0)), .val (.int (Int32.ofNat q1)), .val (.int (Int32.ofNat q2)), .val (.int 1), .val (.int (Int32.ofNat qq)), .val (.ref a511), .val (.ref a514), .unset, .unset] []
        refine G.iload K Dx_116 rfl ?_
        refine G.iconst K Dx_118 2 rfl ?_
        refine G.icmp_le K Dx_119 (fun q => absurd q (by decide)) (fun _ => ?_)
        refine G.aload K Dx_122 rfl rfl ?_
        refine G.iload K Dx_124 rfl ?_
        refine G.aload K Dx_126 rfl rfl ?_
        have H540 : Hp n0 h538 [(a514, Ob Z "com/example/rankwise/rankwise/engine/Ranked" NSR [.ref a516, .double FP.dconst0]), (a511, Ob Z "com/example/rankwise/rankwise/engine/KeptItems" NSI [.ref ia513, .ref ka513, .ref ea513, .ref la513, .int 2, .ref fb538, .ref gb538]), (ia513, Ra Z "com/example/rankwise/rankwise/engine/Ranked" (lst 16 (fup (fup (fun _ => Value.null) 0 (Value.ref a514)) 1 (Value.ref a514)))), (ka513, Ia Z (lst 16 (fup (fup (fun _ => 0) 0 (Int32.ofNat q0)) 1 (Int32.ofNat q1)))), (ea513, Ia Z (lst 16 (fup (fup (fun _ => 0) 0 ((fun _ => -1) q0)) 1 ((fup (fun _ => -1) q0 (Int32.ofNat 0)) q1)))), (la513, Ia Z (lst 16 (adT (fup (fun _ => -1) q0 (Int32.ofNat 0)) (adT (fun _ => -1) (fun _ => 0) q0 0) q1 1))), (fb538, Ia Z (lst L538 (adF (fup (fun _ => -1) q0 (Int32.ofNat 0)) (adF (fun _ => -1) (fun _ => -1) q0 0) q1 1))), (gb538, Ia Z (lst L538 (fup (fup (fun _ => -1) q0 (Int32.ofNat 0)) q1 (Int32.ofNat 1)))), (a516, Ia Z [])] := H538.pull 7 rfl
        have H541 : Hp n0 h538 [(gb538, Ia Z (lst L538 (fup (fup (fun _ => -1) q0 (Int32.ofNat 0)) q1 (Int32.ofNat 1)))), (a514, Ob Z "com/example/rankwise/rankwise/engine/Ranked" NSR [.ref a516, .double FP.dconst0]), (a511, Ob Z "com/example/rankwise/rankwise/engine/KeptItems" NSI [.ref ia513, .ref ka513, .ref ea513, .ref la513, .int 2, .ref fb538, .ref gb538]), (ia513, Ra Z "com/example/rankwise/rankwise/engine/Ranked" (lst 16 (fup (fup (fun _ => Value.null) 0 (Value.ref a514)) 1 (Value.ref a514)))), (ka513, Ia Z (lst 16 (fup (fup (fun _ => 0) 0 (Int32.ofNat q0)) 1 (Int32.ofNat q1)))), (ea513, Ia Z (lst 16 (fup (fup (fun _ => 0) 0 ((fun _ => -1) q0)) 1 ((fup (fun _ => -1) q0 (Int32.ofNat 0)) q1)))), (la513, Ia Z (lst 16 (adT (fup (fun _ => -1) q0 (Int32.ofNat 0)) (adT (fun _ => -1) (fun _ => 0) q0 0) q1 1))), (fb538, Ia Z (lst L538 (adF (fup (fun _ => -1) q0 (Int32.ofNat 0)) (adF (fun _ => -1) (fun _ => -1) q0 0) q1 1))), (a516, Ia Z [])] := H540.pull 7 rfl
        have H542 : Hp n0 h538 [(fb538, Ia Z (lst L538 (adF (fup (fun _ => -1) q0 (Int32.ofNat 0)) (adF (fun _ => -1) (fun _ => -1) q0 0) q1 1))), (gb538, Ia Z (lst L538 (fup (fup (fun _ => -1) q0 (Int32.ofNat 0)) q1 (Int32.ofNat 1)))), (a514, Ob Z "com/example/rankwise/rankwise/engine/Ranked" NSR [.ref a516, .double FP.dconst0]), (a511, Ob Z "com/example/rankwise/rankwise/engine/KeptItems" NSI [.ref ia513, .ref ka513, .ref ea513, .ref la513, .int 2, .ref fb538, .ref gb538]), (ia513, Ra Z "com/example/rankwise/rankwise/engine/Ranked" (lst 16 (fup (fup (fun _ => Value.null) 0 (Value.ref a514)) 1 (Value.ref a514)))), (ka513, Ia Z (lst 16 (fup (fup (fun _ => 0) 0 (Int32.ofNat q0)) 1 (Int32.ofNat q1)))), (ea513, Ia Z (lst 16 (fup (fup (fun _ => 0) 0 ((fun _ => -1) q0)) 1 ((fup (fun _ => -1) q0 (Int32.ofNat 0)) q1)))), (la513, Ia Z (lst 16 (adT (fup (fun _ => -1) q0 (Int32.ofNat 0)) (adT (fun _ => -1) (fun _ => 0) q0 0) q1 1))), (a516, Ia Z [])] := H541.pull 7 rfl
        have H543 : Hp n0 h538 [(la513, Ia Z (lst 16 (adT (fup (fun _ => -1) q0 (Int32.ofNat 0)) (adT (fun _ => -1) (fun _ => 0) q0 0) q1 1))), (fb538, Ia Z (lst L538 (adF (fup (fun _ => -1) q0 (Int32.ofNat 0)) (adF (fun _ => -1) (fun _ => -1) q0 0) q1 1))), (gb538, Ia Z (lst L538 (fup (fup (fun _ => -1) q0 (Int32.ofNat 0)) q1 (Int32.ofNat 1)))), (a514, Ob Z "com/example/rankwise/rankwise/engine/Ranked" NSR [.ref a516, .double FP.dconst0]), (a511, Ob Z "com/example/rankwise/rankwise/engine/KeptItems" NSI [.ref ia513, .ref ka513, .ref ea513, .ref la513, .int 2, .ref fb538, .ref gb538]), (ia513, Ra Z "com/example/rankwise/rankwise/engine/Ranked" (lst 16 (fup (fup (fun _ => Value.null) 0 (Value.ref a514)) 1 (Value.ref a514)))), (ka513, Ia Z (lst 16 (fup (fup (fun _ => 0) 0 (Int32.ofNat q0)) 1 (Int32.ofNat q1)))), (ea513, Ia Z (lst 16 (fup (fup (fun _ => 0) 0 ((fun _ => -1) q0)) 1 ((fup (fun _ => -1) q0 (Int32.ofNat 0)) q1)))), (a516, Ia Z [])] := H542.pull 7 rfl
        have H544 : Hp n0 h538 [(ea513, Ia Z (lst 16 (fup (fup (fun _ => 0) 0 ((fun _ => -1) q0)) 1 ((fup (fun _ => -1) q0 (Int32.ofNat 0)) q1)))), (la513, Ia Z (lst 16 (adT (fup (fun _ => -1) q0 (Int32.ofNat 0)) (adT (fun _ => -1) (fun _ => 0) q0 0) q1 1))), (fb538, Ia Z (lst L538 (adF (fup (fun _ => -1) q0 (Int32.ofNat 0)) (adF (fun _ => -1) (fun _ => -1) q0 0) q1 1))), (gb538, Ia Z (lst L538 (fup (fup (fun _ => -1) q0 (Int32.ofNat 0)) q1 (Int32.ofNat 1)))), (a514, Ob Z "com/example/rankwise/rankwise/engine/Ranked" NSR [.ref a516, .double FP.dconst0]), (a511, Ob Z "com/example/rankwise/rankwise/engine/KeptItems" NSI [.ref ia513, .ref ka513, .ref ea513, .ref la513, .int 2, .ref fb538, .ref gb538]), (ia513, Ra Z "com/example/rankwise/rankwise/engine/Ranked" (lst 16 (fup (fup (fun _ => Value.null) 0 (Value.ref a514)) 1 (Value.ref a514)))), (ka513, Ia Z (lst 16 (fup (fup (fun _ => 0) 0 (Int32.ofNat q0)) 1 (Int32.ofNat q1)))), (a516, Ia Z [])] := H543.pull 7 rfl
        have H545 : Hp n0 h538 [(ka513, Ia Z (lst 16 (fup (fup (fun _ => 0) 0 (Int32.ofNat q0)) 1 (Int32.ofNat q1)))), (ea513, Ia Z (lst 16 (fup (fup (fun _ => 0) 0 ((fun _ => -1) q0)) 1 ((fup (fun _ => -1) q0 (Int32.ofNat 0)) q1)))), (la513, Ia Z (lst 16 (adT (fup (fun _ => -1) q0 (Int32.ofNat 0)) (adT (fun _ => -1) (fun _ => 0) q0 0) q1 1))), (fb538, Ia Z (lst L538 (adF (fup (fun _ => -1) q0 (Int32.ofNat 0)) (adF (fun _ => -1) (fun _ => -1) q0 0) q1 1))), (gb538, Ia Z (lst L538 (fup (fup (fun _ => -1) q0 (Int32.ofNat 0)) q1 (Int32.ofNat 1)))), (a514, Ob Z "com/example/rankwise/rankwise/engine/Ranked" NSR [.ref a516, .double FP.dconst0]), (a511, Ob Z "com/example/rankwise/rankwise/engine/KeptItems" NSI [.ref ia513, .ref ka513, .ref ea513, .ref la513, .int 2, .ref fb538, .ref gb538]), (ia513, Ra Z "com/example/rankwise/rankwise/engine/Ranked" (lst 16 (fup (fup (fun _ => Value.null) 0 (Value.ref a514)) 1 (Value.ref a514)))), (a516, Ia Z [])] := H544.pull 7 rfl
        have H546 : Hp n0 h538 [(ia513, Ra Z "com/example/rankwise/rankwise/engine/Ranked" (lst 16 (fup (fup (fun _ => Value.null) 0 (Value.ref a514)) 1 (Value.ref a514)))), (ka513, Ia Z (lst 16 (fup (fup (fun _ => 0) 0 (Int32.ofNat q0)) 1 (Int32.ofNat q1)))), (ea513, Ia Z (lst 16 (fup (fup (fun _ => 0) 0 ((fun _ => -1) q0)) 1 ((fup (fun _ => -1) q0 (Int32.ofNat 0)) q1)))), (la513, Ia Z (lst 16 (adT (fup (fun _ => -1) q0 (Int32.ofNat 0)) (adT (fun _ => -1) (fun _ => 0) q0 0) q1 1))), (fb538, Ia Z (lst L538 (adF (fup (fun _ => -1) q0 (Int32.ofNat 0)) (adF (fun _ => -1) (fun _ => -1) q0 0) q1 1))), (gb538, Ia Z (lst L538 (fup (fup (fun _ => -1) q0 (Int32.ofNat 0)) q1 (Int32.ofNat 1)))), (a514, Ob Z "com/example/rankwise/rankwise/engine/Ranked" NSR [.ref a516, .double FP.dconst0]), (a511, Ob Z "com/example/rankwise/rankwise/engine/KeptItems" NSI [.ref ia513, .ref ka513, .ref ea513, .ref la513, .int 2, .ref fb538, .ref gb538]), (a516, Ia Z [])] := H545.pull 7 rfl
        have H547 : Hp n0 h538 [(a511, Ob Z "com/example/rankwise/rankwise/engine/KeptItems" NSI [.ref ia513, .ref ka513, .ref ea513, .ref la513, .int 2, .ref fb538, .ref gb538]), (ia513, Ra Z "com/example/rankwise/rankwise/engine/Ranked" (lst 16 (fup (fup (fun _ => Value.null) 0 (Value.ref a514)) 1 (Value.ref a514)))), (ka513, Ia Z (lst 16 (fup (fup (fun _ => 0) 0 (Int32.ofNat q0)) 1 (Int32.ofNat q1)))), (ea513, Ia Z (lst 16 (fup (fup (fun _ => 0) 0 ((fun _ => -1) q0)) 1 ((fup (fun _ => -1) q0 (Int32.ofNat 0)) q1)))), (la513, Ia Z (lst 16 (adT (fup (fun _ => -1) q0 (Int32.ofNat 0)) (adT (fun _ => -1) (fun _ => 0) q0 0) q1 1))), (fb538, Ia Z (lst L538 (adF (fup (fun _ => -1) q0 (Int32.ofNat 0)) (adF (fun _ => -1) (fun _ => -1) q0 0) q1 1))), (gb538, Ia Z (lst L538 (fup (fup (fun _ => -1) q0 (Int32.ofNat 0)) q1 (Int32.ofNat 1)))), (a514, Ob Z "com/example/rankwise/rankwise/engine/Ranked" NSR [.ref a516, .double FP.dconst0]), (a516, Ia Z [])] := H546.pull 7 rfl
        refine G.callV K hl (wd hw 41 rfl) (wd hw 42 rfl) (wd hw 44 rfl) (wd hw 43 rfl) (wd hw 2 rfl) (wd hw 45 rfl) (by decide) pd_7 (H547.exa (i := 0) rfl) (ct_add l Z a0 hw n0 h538 a511 ia513 ka513 ea513 la513 fb538 gb538 a514 2 L538 q2 (fup (fup (fun _ => Value.null) 0 (Value.ref a514)) 1 (Value.ref a514)) (fup (fup (fun _ => 0) 0 (Int32.ofNat q0)) 1 (Int32.ofNat q1)) (fup (fup (fun _ => 0) 0 ((fun _ => -1) q0)) 1 ((fup (fun _ => -1) q0 (Int32.ofNat 0)) q1)) (adT (fup (fun _ => -1) q0 (Int32.ofNat 0)) (adT (fun _ => -1) (fun _ => 0) q0 0) q1 1) (adF (fup (fun _ => -1) q0 (Int32.ofNat 0)) (adF (fun _ => -1) (fun _ => -1) q0 0) q1 1) (fup (fup (fun _ => -1) q0 (Int32.ofNat 0)) q1 (Int32.ofNat 1)) [.ref a516, .double FP.dconst0] [(a516, Ia Z [])] (by decide) l3538 (by omega) hF538 hO538 hI538 H547) 0 rfl (by decide) (by decide) (by decide) (by decide) rfl rfl [.ref a514, .int (Int32.ofNat q2)] rfl Dx_128 ?_
        rintro _ h548 ⟨rfl, fb548, gb548, L548, l1548, l2548, l3548, H548⟩
        have hF548 : ∀ i, L548 ≤ i → (adF (fup (fup (fun _ => -1) q0 (Int32.ofNat 0)) q1 (Int32.ofNat 1)) (adF (fup (fun _ => -1) q0 (Int32.ofNat 0)) (adF (fun _ => -1) (fun _ => -1) q0 0) q1 1) q2 2) i = -1 := adF_out hF538 l1548 l2548
        have hO548 : ∀ i, L548 ≤ i → (fup (fup (fup (fun _ => -1) q0 (Int32.ofNat 0)) q1 (Int32.ofNat 1)) q2 (Int32.ofNat 2)) i = -1 := fup_out hO538 l1548 l2548
        have hI548 : ∀ i, Ix 3 ((fup (fup (fup (fun _ => -1) q0 (Int32.ofNat 0)) q1 (Int32.ofNat 1)) q2 (Int32.ofNat 2)) i) := Ix_fup hI538
        change G k n0 _ h548 _ _ 131 [.val (.int p0), .val (.int p1), .val (.int p2), .val (.int p3), .val (.int 3), .val (.int (Int32.ofNat q0)), .val (.int (Int32.ofNat q1)), .val (.int (Int32.ofNat q2)), .val (.int 1), .val (.int (Int32.ofNat qq)), .val (.ref a511), .val (.ref a514), .unset, .unset] []
        refine G.iload K Dx_131 rfl ?_
        refine G.if_eq K Dx_133 (fun q => absurd q (by decide)) (fun _ => ?_)
        refine G.aload K Dx_136 rfl rfl ?_
        have H550 : Hp n0 h548 [(gb548, Ia Z (lst L548 (fup (fup (fup (fun _ => -1) q0 (Int32.ofNat 0)) q1 (Int32.ofNat 1)) q2 (Int32.ofNat 2)))), (a511, Ob Z "com/example/rankwise/rankwise/engine/KeptItems" NSI [.ref ia513, .ref ka513, .ref ea513, .ref la513, .int 3, .ref fb548, .ref gb548]), (ia513, Ra Z "com/example/rankwise/rankwise/engine/Ranked" (lst 16 (fup (fup (fup (fun _ => Value.null) 0 (Value.ref a514)) 1 (Value.ref a514)) 2 (Value.ref a514)))), (ka513, Ia Z (lst 16 (fup (fup (fup (fun _ => 0) 0 (Int32.ofNat q0)) 1 (Int32.ofNat q1)) 2 (Int32.ofNat q2)))), (ea513, Ia Z (lst 16 (fup (fup (fup (fun _ => 0) 0 ((fun _ => -1) q0)) 1 ((fup (fun _ => -1) q0 (Int32.ofNat 0)) q1)) 2 ((fup (fup (fun _ => -1) q0 (Int32.ofNat 0)) q1 (Int32.ofNat 1)) q2)))), (la513, Ia Z (lst 16 (adT (fup (fup (fun _ => -1) q0 (Int32.ofNat 0)) q1 (Int32.ofNat 1)) (adT (fup (fun _ => -1) q0 (Int32.ofNat 0)) (adT (fun _ => -1) (fun _ => 0) q0 0) q1 1) q2 2))), (fb548, Ia Z (lst L548 (adF (fup (fup (fun _ => -1) q0 (Int32.ofNat 0)) q1 (Int32.ofNat 1)) (adF (fup (fun _ => -1) q0 (Int32.ofNat 0)) (adF (fun _ => -1) (fun _ => -1) q0 0) q1 1) q2 2))), (a514, Ob Z "com/example/rankwise/rankwise/engine/Ranked" NSR [.ref a516, .double FP.dconst0]), (a516, Ia Z [])] := H548.pull 6 rfl
        have H551 : Hp n0 h548 [(fb548, Ia Z (lst L548 (adF (fup (fup (fun _ => -1) q0 (Int32.ofNat 0)) q1 (Int32.ofNat 1)) (adF (fup (fun _ => -1) q0 (Int32.ofNat 0)) (adF (fun _ => -1) (fun _ => -1) q0 0) q1 1) q2 2))), (gb548, Ia Z (lst L548 (fup (fup (fup (fun _ => -1) q0 (Int32.ofNat 0)) q1 (Int32.ofNat 1)) q2 (Int32.ofNat 2)))), (a511, Ob Z "com/example/rankwise/rankwise/engine/KeptItems" NSI [.ref ia513, .ref ka513, .ref ea513, .ref la513, .int 3, .ref fb548, .ref gb548]), (ia513, Ra Z "com/example/rankwise/rankwise/engine/Ranked" (lst 16 (fup (fup (fup (fun _ => Value.null) 0 (Value.ref a514)) 1 (Value.ref a514)) 2 (Value.ref a514)))), (ka513, Ia Z (lst 16 (fup (fup (fup (fun _ => 0) 0 (Int32.ofNat q0)) 1 (Int32.ofNat q1)) 2 (Int32.ofNat q2)))), (ea513, Ia Z (lst 16 (fup (fup (fup (fun _ => 0) 0 ((fun _ => -1) q0)) 1 ((fup (fun _ => -1) q0 (Int32.ofNat 0)) q1)) 2 ((fup (fup (fun _ => -1) q0 (Int32.ofNat 0)) q1 (Int32.ofNat 1)) q2)))), (la513, Ia Z (lst 16 (adT (fup (fup (fun _ => -1) q0 (Int32.ofNat 0)) q1 (Int32.ofNat 1)) (adT (fup (fun _ => -1) q0 (Int32.ofNat 0)) (adT (fun _ => -1) (fun _ => 0) q0 0) q1 1) q2 2))), (a514, Ob Z "com/example/rankwise/rankwise/engine/Ranked" NSR [.ref a516, .double FP.dconst0]), (a516, Ia Z [])] := H550.pull 6 rfl
        have H552 : Hp n0 h548 [(la513, Ia Z (lst 16 (adT (fup (fup (fun _ => -1) q0 (Int32.ofNat 0)) q1 (Int32.ofNat 1)) (adT (fup (fun _ => -1) q0 (Int32.ofNat 0)) (adT (fun _ => -1) (fun _ => 0) q0 0) q1 1) q2 2))), (fb548, Ia Z (lst L548 (adF (fup (fup (fun _ => -1) q0 (Int32.ofNat 0)) q1 (Int32.ofNat 1)) (adF (fup (fun _ => -1) q0 (Int32.ofNat 0)) (adF (fun _ => -1) (fun _ => -1) q0 0) q1 1) q2 2))), (gb548, Ia Z (lst L548 (fup (fup (fup (fun _ => -1) q0 (Int32.ofNat 0)) q1 (Int32.ofNat 1)) q2 (Int32.ofNat 2)))), (a511, Ob Z "com/example/rankwise/rankwise/engine/KeptItems" NSI [.ref ia513, .ref ka513, .ref ea513, .ref la513, .int 3, .ref fb548, .ref gb548]), (ia513, Ra Z "com/example/rankwise/rankwise/engine/Ranked" (lst 16 (fup (fup (fup (fun _ => Value.null) 0 (Value.ref a514)) 1 (Value.ref a514)) 2 (Value.ref a514)))), (ka513, Ia Z (lst 16 (fup (fup (fup (fun _ => 0) 0 (Int32.ofNat q0)) 1 (Int32.ofNat q1)) 2 (Int32.ofNat q2)))), (ea513, Ia Z (lst 16 (fup (fup (fup (fun _ => 0) 0 ((fun _ => -1) q0)) 1 ((fup (fun _ => -1) q0 (Int32.ofNat 0)) q1)) 2 ((fup (fup (fun _ => -1) q0 (Int32.ofNat 0)) q1 (Int32.ofNat 1)) q2)))), (a514, Ob Z "com/example/rankwise/rankwise/engine/Ranked" NSR [.ref a516, .double FP.dconst0]), (a516, Ia Z [])] := H551.pull 6 rfl
        have H553 : Hp n0 h548 [(ea513, Ia Z (lst 16 (fup (fup (fup (fun _ => 0) 0 ((fun _ => -1) q0)) 1 ((fup (fun _ => -1) q0 (Int32.ofNat 0)) q1)) 2 ((fup (fup (fun _ => -1) q0 (Int32.ofNat 0)) q1 (Int32.ofNat 1)) q2)))), (la513, Ia Z (lst 16 (adT (fup (fup (fun _ => -1) q0 (Int32.ofNat 0)) q1 (Int32.ofNat 1)) (adT (fup (fun _ => -1) q0 (Int32.ofNat 0)) (adT (fun _ => -1) (fun _ => 0) q0 0) q1 1) q2 2))), (fb548, Ia Z (lst L548 (adF (fup (fup (fun _ => -1) q0 (Int32.ofNat 0)) q1 (Int32.ofNat 1)) (adF (fup (fun _ => -1) q0 (Int32.ofNat 0)) (adF (fun _ => -1) (fun _ => -1) q0 0) q1 1) q2 2))), (gb548, Ia Z (lst L548 (fup (fup (fup (fun _ => -1) q0 (Int32.ofNat 0)) q1 (Int32.ofNat 1)) q2 (Int32.ofNat 2)))), (a511, Ob Z "com/example/rankwise/rankwise/engine/KeptItems" NSI [.ref ia513, .ref ka513, .ref ea513, .ref la513, .int 3, .ref fb548, .ref gb548]), (ia513, Ra Z "com/example/rankwise/rankwise/engine/Ranked" (lst 16 (fup (fup (fup (fun _ => Value.null) 0 (Value.ref a514)) 1 (Value.ref a514)) 2 (Value.ref a514)))), (ka513, Ia Z (lst 16 (fup (fup (fup (fun _ => 0) 0 (Int32.ofNat q0)) 1 (Int32.ofNat q1)) 2 (Int32.ofNat q2)))), (a514, Ob Z "com/example/rankwise/rankwise/engine/Ranked" NSR [.ref a516, .double FP.dconst0]), (a516, Ia Z [])] := H552.pull 6 rfl
        have H554 : Hp n0 h548 [(ka513, Ia Z (lst 16 (fup (fup (fup (fun _ => 0) 0 (Int32.ofNat q0)) 1 (Int32.ofNat q1)) 2 (Int32.ofNat q2)))), (ea513, Ia Z (lst 16 (fup (fup (fup (fun _ => 0) 0 ((fun _ => -1) q0)) 1 ((fup (fun _ => -1) q0 (Int32.ofNat 0)) q1)) 2 ((fup (fup (fun _ => -1) q0 (Int32.ofNat 0)) q1 (Int32.ofNat 1)) q2)))), (la513, Ia Z (lst 16 (adT (fup (fup (fun _ => -1) q0 (Int32.ofNat 0)) q1 (Int32.ofNat 1)) (adT (fup (fun _ => -1) q0 (Int32.ofNat 0)) (adT (fun _ => -1) (fun _ => 0) q0 0) q1 1) q2 2))), (fb548, Ia Z (lst L548 (adF (fup (fup (fun _ => -1) q0 (Int32.ofNat 0)) q1 (Int32.ofNat 1)) (adF (fup (fun _ => -1) q0 (Int32.ofNat 0)) (adF (fun _ => -1) (fun _ => -1) q0 0) q1 1) q2 2))), (gb548, Ia Z (lst L548 (fup (fup (fup (fun _ => -1) q0 (Int32.ofNat 0)) q1 (Int32.ofNat 1)) q2 (Int32.ofNat 2)))), (a511, Ob Z "com/example/rankwise/rankwise/engine/KeptItems" NSI [.ref ia513, .ref ka513, .ref ea513, .ref la513, .int 3, .ref fb548, .ref gb548]), (ia513, Ra Z "com/example/rankwise/rankwise/engine/Ranked" (lst 16 (fup (fup (fup (fun _ => Value.null) 0 (Value.ref a514)) 1 (Value.ref a514)) 2 (Value.ref a514)))), (a514, Ob Z "com/example/rankwise/rankwise/engine/Ranked" NSR [.ref a516, .double FP.dconst0]), (a516, Ia Z [])] := H553.pull 6 rfl
        have H555 : Hp n0 h548 [(ia513, Ra Z "com/example/rankwise/rankwise/engine/Ranked" (lst 16 (fup (fup (fup (fun _ => Value.null) 0 (Value.ref a514)) 1 (Value.ref a514)) 2 (Value.ref a514)))), (ka513, Ia Z (lst 16 (fup (fup (fup (fun _ => 0) 0 (Int32.ofNat q0)) 1 (Int32.ofNat q1)) 2 (Int32.ofNat q2)))), (ea513, Ia Z (lst 16 (fup (fup (fup (fun _ => 0) 0 ((fun _ => -1) q0)) 1 ((fup (fun _ => -1) q0 (Int32.ofNat 0)) q1)) 2 ((fup (fup (fun _ => -1) q0 (Int32.ofNat 0)) q1 (Int32.ofNat 1)) q2)))), (la513, Ia Z (lst 16 (adT (fup (fup (fun _ => -1) q0 (Int32.ofNat 0)) q1 (Int32.ofNat 1)) (adT (fup (fun _ => -1) q0 (Int32.ofNat 0)) (adT (fun _ => -1) (fun _ => 0) q0 0) q1 1) q2 2))), (fb548, Ia Z (lst L548 (adF (fup (fup (fun _ => -1) q0 (Int32.ofNat 0)) q1 (Int32.ofNat 1)) (adF (fup (fun _ => -1) q0 (Int32.ofNat 0)) (adF (fun _ => -1) (fun _ => -1) q0 0) q1 1) q2 2))), (gb548, Ia Z (lst L548 (fup (fup (fup (fun _ => -1) q0 (Int32.ofNat 0)) q1 (Int32.ofNat 1)) q2 (Int32.ofNat 2)))), (a511, Ob Z "com/example/rankwise/rankwise/engine/KeptItems" NSI [.ref ia513, .ref ka513, .ref ea513, .ref la513, .int 3, .ref fb548, .ref gb548]), (a514, Ob Z "com/example/rankwise/rankwise/engine/Ranked" NSR [.ref a516, .double FP.dconst0]), (a516, Ia Z [])] := H554.pull 6 rfl
        have H556 : Hp n0 h548 [(a511, Ob Z "com/example/rankwise/rankwise/engine/KeptItems" NSI [.ref ia513, .ref ka513, .ref ea513, .ref la513, .int 3, .ref fb548, .ref gb548]), (ia513, Ra Z "com/example/rankwise/rankwise/engine/Ranked" (lst 16 (fup (fup (fup (fun _ => Value.null) 0 (Value.ref a514)) 1 (Value.ref a514)) 2 (Value.ref a514)))), (ka513, Ia Z (lst 16 (fup (fup (fup (fun _ => 0) 0 (Int32.ofNat q0)) 1 (Int32.ofNat q1)) 2 (Int32.ofNat q2)))), (ea513, Ia Z (lst 16 (fup (fup (fup (fun _ => 0) 0 ((fun _ => -1) q0)) 1 ((fup (fun _ => -1) q0 (Int32.ofNat 0)) q1)) 2 ((fup (fup (fun _ => -1) q0 (Int32.ofNat 0)) q1 (Int32.ofNat 1)) q2)))), (la513, Ia Z (lst 16 (adT (fup (fup (fun _ => -1) q0 (Int32.ofNat 0)) q1 (Int32.ofNat 1)) (adT (fup (fun _ => -1) q0 (Int32.ofNat 0)) (adT (fun _ => -1) (fun _ => 0) q0 0) q1 1) q2 2))), (fb548, Ia Z (lst L548 (adF (fup (fup (fun _ => -1) q0 (Int32.ofNat 0)) q1 (Int32.ofNat 1)) (adF (fup (fun _ => -1) q0 (Int32.ofNat 0)) (adF (fun _ => -1) (fun _ => -1) q0 0) q1 1) q2 2))), (gb548, Ia Z (lst L548 (fup (fup (fup (fun _ => -1) q0 (Int32.ofNat 0)) q1 (Int32.ofNat 1)) q2 (Int32.ofNat 2)))), (a514, Ob Z "com/example/rankwise/rankwise/engine/Ranked" NSR [.ref a516, .double FP.dconst0]), (a516, Ia Z [])] := H555.pull 6 rfl
        refine G.callV K hl (wd hw 70 rfl) (wd hw 71 rfl) (wd hw 73 rfl) (wd hw 72 rfl) (wd hw 2 rfl) (wd hw 74 rfl) (by decide) pd_4 (H556.exa (i := 0) rfl) (ct_drop l Z a0 hw n0 h548 a511 ia513 ka513 ea513 la513 fb548 gb548 2 L548 q2 ((fup (fup (fun _ => -1) q0 (Int32.ofNat 0)) q1 (Int32.ofNat 1)) q2) (fup (fup (fup (fun _ => Value.null) 0 (Value.ref a514)) 1 (Value.ref a514)) 2 (Value.ref a514)) (fup (fup (fup (fun _ => 0) 0 (Int32.ofNat q0)) 1 (Int32.ofNat q1)) 2 (Int32.ofNat q2)) (fup (fup (fup (fun _ => 0) 0 ((fun _ => -1) q0)) 1 ((fup (fun _ => -1) q0 (Int32.ofNat 0)) q1)) 2 ((fup (fup (fun _ => -1) q0 (Int32.ofNat 0)) q1 (Int32.ofNat 1)) q2)) (adT (fup (fup (fun _ => -1) q0 (Int32.ofNat 0)) q1 (Int32.ofNat 1)) (adT (fup (fun _ => -1) q0 (Int32.ofNat 0)) (adT (fun _ => -1) (fun _ => 0) q0 0) q1 1) q2 2) (adF (fup (fup (fun _ => -1) q0 (Int32.ofNat 0)) q1 (Int32.ofNat 1)) (adF (fup (fun _ => -1) q0 (Int32.ofNat 0)) (adF (fun _ => -1) (fun _ => -1) q0 0) q1 1) q2 2) (fup (fup (fup (fun _ => -1) q0 (Int32.ofNat 0)) q1 (Int32.ofNat 1)) q2 (Int32.ofNat 2)) [(a514, Ob Z "com/example/rankwise/rankwise/engine/Ranked" NSR [.ref a516, .double FP.dconst0]), (a516, Ia Z [])] (by decide) l3548 l2548 rfl rfl (Ix_le (s := 2) (hI538 q2) (by decide)) H556) 0 rfl (by decide) (by decide) (by decide) (by decide) rfl rfl [] rfl Dx_138 ?_
        rintro _ h557 ⟨rfl, H557⟩
        have hF557 : ∀ i, L548 ≤ i → (drF ((fup (fup (fun _ => -1) q0 (Int32.ofNat 0)) q1 (Int32.ofNat 1)) q2) (adF (fup (fup (fun _ => -1) q0 (Int32.ofNat 0)) q1 (Int32.ofNat 1)) (adF (fup (fun _ => -1) q0 (Int32.ofNat 0)) (adF (fun _ => -1) (fun _ => -1) q0 0) q1 1) q2 2) q2) i = -1 := drF_out hF548 l2548
        have hO557 : ∀ i, L548 ≤ i → (fup (fup (fup (fup (fun _ => -1) q0 (Int32.ofNat 0)) q1 (Int32.ofNat 1)) q2 (Int32.ofNat 2)) q2 ((fup (fup (fun _ => -1) q0 (Int32.ofNat 0)) q1 (Int32.ofNat 1)) q2)) i = -1 := fup_out hO548 (Nat.le_refl _) l2548
        have hI557 : ∀ i, Ix 2 ((fup (fup (fup (fup (fun _ => -1) q0 (Int32.ofNat 0)) q1 (Int32.ofNat 1)) q2 (Int32.ofNat 2)) q2 ((fup (fup (fun _ => -1) q0 (Int32.ofNat 0)) q1 (Int32.ofNat 1)) q2)) i) := Ix_back hI538
        change G k n0 _ h557 _ _ 141 [.val (.int p0), .val (.int p1), .val (.int p2), .val (.int p3), .val (.int 3), .val (.int (Int32.ofNat q0)), .val (.int (Int32.ofNat q1)), .val (.int (Int32.ofNat q2)), .val (.int 1), .val (.int (Int32.ofNat qq)), .val (.ref a511), .val (.ref a514), .unset, .unset] []
        refine G.iload K Dx_141 rfl ?_
        refine G.if_eq K Dx_143 (fun q => absurd q (by decide)) (fun _ => ?_)
        refine G.iload K Dx_146 rfl ?_
        refine G.iconst K Dx_148 1 rfl ?_
        refine G.isub K Dx_149 ?_
        change G k n0 _ h557 _ _ 150 [.val (.int p0), .val (.int p1), .val (.int p2), .val (.int p3), .val (.int 3), .val (.int (Int32.ofNat q0)), .val (.int (Int32.ofNat q1)), .val (.int (Int32.ofNat q2)), .val (.int 1), .val (.int (Int32.ofNat qq)), .val (.ref a511), .val (.ref a514), .unset, .unset] [.int 2]
        refine G.goto K Dx_150 ?_
        refine G.istore K Dx_155 ([.val (.int p0), .val (.int p1), .val (.int p2), .val (.int p3), .val (.int 3), .val (.int (Int32.ofNat q0)), .val (.int (Int32.ofNat q1)), .val (.int (Int32.ofNat q2)), .val (.int 1), .val (.int (Int32.ofNat qq)), .val (.ref a511), .val (.ref a514), .val (.int 2), .unset]) rfl ?_
        refine G.iconst K Dx_157 (-1) rfl ?_
        refine G.istore K Dx_158 ([.val (.int p0), .val (.int p1), .val (.int p2), .val (.int p3), .val (.int 3), .val (.int (Int32.ofNat q0)), .val (.int (Int32.ofNat q1)), .val (.int (Int32.ofNat q2)), .val (.int 1), .val (.int (Int32.ofNat qq)), .val (.ref a511), .val (.ref a514), .val (.int 2), .val (.int (-1))]) rfl ?_
        refine G.iload K Dx_160 rfl ?_
        refine G.iconst K Dx_162 2 rfl ?_
        refine G.icmp_le K Dx_163 (fun _ => ?_) (fun q => absurd q (by decide))
        refine G.iload K Dx_176 rfl ?_
        refine G.iconst K Dx_178 1 rfl ?_
        refine G.icmp_le K Dx_179 (fun q => absurd q (by decide)) (fun _ => ?_)
        refine G.iload K Dx_182 rfl ?_
        refine G.iload K Dx_184 rfl ?_
        refine G.icmp_ne K Dx_186 (fun q561 => ?_) (fun q561 => ?_)
        · refine G.iload K Dx_192 rfl ?_
          refine G.if_le K Dx_194 (fun q => absurd q (by decide)) (fun _ => ?_)
          refine G.iload K Dx_197 rfl ?_
          refine G.iload K Dx_199 rfl ?_
          refine G.icmp_ne K Dx_201 (fun q563 => ?_) (fun q563 => ?_)
          · refine G.aload K Dx_207 rfl rfl ?_
            refine G.iload K Dx_209 rfl ?_
            have H564 : Hp n0 h557 [(gb548, Ia Z (lst L548 (fup (fup (fup (fup (fun _ => -1) q0 (Int32.ofNat 0)) q1 (Int32.ofNat 1)) q2 (Int32.ofNat 2)) q2 ((fup (fup (fun _ => -1) q0 (Int32.ofNat 0)) q1 (Int32.ofNat 1)) q2)))), (a511, Ob Z "com/example/rankwise/rankwise/engine/KeptItems" NSI [.ref ia513, .ref ka513, .ref ea513, .ref la513, .int 2, .ref fb548, .ref gb548]), (ia513, Ra Z "com/example/rankwise/rankwise/engine/Ranked" (lst 16 (fup (fup (fup (fup (fun _ => Value.null) 0 (Value.ref a514)) 1 (Value.ref a514)) 2 (Value.ref a514)) 2 Value.null))), (ka513, Ia Z (lst 16 (fup (fup (fup (fun _ => 0) 0 (Int32.ofNat q0)) 1 (Int32.ofNat q1)) 2 (Int32.ofNat q2)))), (ea513, Ia Z (lst 16 (fup (fup (fup (fun _ => 0) 0 ((fun _ => -1) q0)) 1 ((fup (fun _ => -1) q0 (Int32.ofNat 0)) q1)) 2 ((fup (fup (fun _ => -1) q0 (Int32.ofNat 0)) q1 (Int32.ofNat 1)) q2)))), (la513, Ia Z (lst 16 (drT ((fup (fup (fun _ => -1) q0 (Int32.ofNat 0)) q1 (Int32.ofNat 1)) q2) (adT (fup (fup (fun _ => -1) q0 (Int32.ofNat 0)) q1 (Int32.ofNat 1)) (adT (fup (fun _ => -1) q0 (Int32.ofNat 0)) (adT (fun _ => -1) (fun _ => 0) q0 0) q1 1) q2 2)))), (fb548, Ia Z (lst L548 (drF ((fup (fup (fun _ => -1) q0 (Int32.ofNat 0)) q1 (Int32.ofNat 1)) q2) (adF (fup (fup (fun _ => -1) q0 (Int32.ofNat 0)) q1 (Int32.ofNat 1)) (adF (fup (fun _ => -1) q0 (Int32.ofNat 0)) (adF (fun _ => -1) (fun _ => -1) q0 0) q1 1) q2 2) q2))), (a514, Ob Z "com/example/rankwise/rankwise/engine/Ranked" NSR [.ref a516, .double FP.dconst0]), (a516, Ia Z [])] := H557.pull 6 rfl
            have H565 : Hp n0 h557 [(fb548, Ia Z (lst L548 (drF ((fup (fup (fun _ => -1) q0 (Int32.ofNat 0)) q1 (Int32.ofNat 1)) q2) (adF (fup (fup (fun _ => -1) q0 (Int32.ofNat 0)) q1 (Int32.ofNat 1)) (adF (fup (fun _ => -1) q0 (Int32.ofNat 0)) (adF (fun _ => -1) (fun _ => -1) q0 0) q1 1) q2 2) q2))), (gb548, Ia Z (lst L548 (fup (fup (fup (fup (fun _ => -1) q0 (Int32.ofNat 0)) q1 (Int32.ofNat 1)) q2 (Int32.ofNat 2)) q2 ((fup (fup (fun _ => -1) q0 (Int32.ofNat 0)) q1 (Int32.ofNat 1)) q2)))), (a511, Ob Z "com/example/rankwise/rankwise/engine/KeptItems" NSI [.ref ia513, .ref ka513, .ref ea513, .ref la513, .int 2, .ref fb548, .ref gb548]), (ia513, Ra Z "com/example/rankwise/rankwise/engine/Ranked" (lst 16 (fup (fup (fup (fup (fun _ => Value.null) 0 (Value.ref a514)) 1 (Value.ref a514)) 2 (Value.ref a514)) 2 Value.null))), (ka513, Ia Z (lst 16 (fup (fup (fup (fun _ => 0) 0 (Int32.ofNat q0)) 1 (Int32.ofNat q1)) 2 (Int32.ofNat q2)))), (ea513, Ia Z (lst 16 (fup (fup (fup (fun _ => 0) 0 ((fun _ => -1) q0)) 1 ((fup (fun _ => -1) q0 (Int32.ofNat 0)) q1)) 2 ((fup (fup (fun _ => -1) q0 (Int32.ofNat 0)) q1 (Int32.ofNat 1)) q2)))), (la513, Ia Z (lst 16 (drT ((fup (fup (fun _ => -1) q0 (Int32.ofNat 0)) q1 (Int32.ofNat 1)) q2) (adT (fup (fup (fun _ => -1) q0 (Int32.ofNat 0)) q1 (Int32.ofNat 1)) (adT (fup (fun _ => -1) q0 (Int32.ofNat 0)) (adT (fun _ => -1) (fun _ => 0) q0 0) q1 1) q2 2)))), (a514, Ob Z "com/example/rankwise/rankwise/engine/Ranked" NSR [.ref a516, .double FP.dconst0]), (a516, Ia Z [])] := H564.pull 6 rfl
            have H566 : Hp n0 h557 [(la513, Ia Z (lst 16 (drT ((fup (fup (fun _ => -1) q0 (Int32.ofNat 0)) q1 (Int32.ofNat 1)) q2) (adT (fup (fup (fun _ => -1) q0 (Int32.ofNat 0)) q1 (Int32.ofNat 1)) (adT (fup (fun _ => -1) q0 (Int32.ofNat 0)) (adT (fun _ => -1) (fun _ => 0) q0 0) q1 1) q2 2)))), (fb548, Ia Z (lst L548 (drF ((fup (fup (fun _ => -1) q0 (Int32.ofNat 0)) q1 (Int32.ofNat 1)) q2) (adF (fup (fup (fun _ => -1) q0 (Int32.ofNat 0)) q1 (Int32.ofNat 1)) (adF (fup (fun _ => -1) q0 (Int32.ofNat 0)) (adF (fun _ => -1) (fun _ => -1) q0 0) q1 1) q2 2) q2))), (gb548, Ia Z (lst L548 (fup (fup (fup (fup (fun _ => -1) q0 (Int32.ofNat 0)) q1 (Int32.ofNat 1)) q2 (Int32.ofNat 2)) q2 ((fup (fup (fun _ => -1) q0 (Int32.ofNat 0)) q1 (Int32.ofNat 1)) q2)))), (a511, Ob Z "com/example/rankwise/rankwise/engine/KeptItems" NSI [.ref ia513, .ref ka513, .ref ea513, .ref la513, .int 2, .ref fb548, .ref gb548]), (ia513, Ra Z "com/example/rankwise/rankwise/engine/Ranked" (lst 16 (fup (fup (fup (fup (fun _ => Value.null) 0 (Value.ref a514)) 1 (Value.ref a514)) 2 (Value.ref a514)) 2 Value.null))), (ka513, Ia Z (lst 16 (fup (fup (fup (fun _ => 0) 0 (Int32.ofNat q0)) 1 (Int32.ofNat q1)) 2 (Int32.ofNat q2)))), (ea513, Ia Z (lst 16 (fup (fup (fup (fun _ => 0) 0 ((fun _ => -1) q0)) 1 ((fup (fun _ => -1) q0 (Int32.ofNat 0)) q1)) 2 ((fup (fup (fun _ => -1) q0 (Int32.ofNat 0)) q1 (Int32.ofNat 1)) q2)))), (a514, Ob Z "com/example/rankwise/rankwise/engine/Ranked" NSR [.ref a516, .double FP.dconst0]), (a516, Ia Z [])] := H565.pull 6 rfl
            have H567 : Hp n0 h557 [(ea513, Ia Z (lst 16 (fup (fup (fup (fun _ => 0) 0 ((fun _ => -1) q0)) 1 ((fup (fun _ => -1) q0 (Int32.ofNat 0)) q1)) 2 ((fup (fup (fun _ => -1) q0 (Int32.ofNat 0)) q1 (Int32.ofNat 1)) q2)))), (la513, Ia Z (lst 16 (drT ((fup (fup (fun _ => -1) q0 (Int32.ofNat 0)) q1 (Int32.ofNat 1)) q2) (adT (fup (fup (fun _ => -1) q0 (Int32.ofNat 0)) q1 (Int32.ofNat 1)) (adT (fup (fun _ => -1) q0 (Int32.ofNat 0)) (adT (fun _ => -1) (fun _ => 0) q0 0) q1 1) q2 2)))), (fb548, Ia Z (lst L548 (drF ((fup (fup (fun _ => -1) q0 (Int32.ofNat 0)) q1 (Int32.ofNat 1)) q2) (adF (fup (fup (fun _ => -1) q0 (Int32.ofNat 0)) q1 (Int32.ofNat 1)) (adF (fup (fun _ => -1) q0 (Int32.ofNat 0)) (adF (fun _ => -1) (fun _ => -1) q0 0) q1 1) q2 2) q2))), (gb548, Ia Z (lst L548 (fup (fup (fup (fup (fun _ => -1) q0 (Int32.ofNat 0)) q1 (Int32.ofNat 1)) q2 (Int32.ofNat 2)) q2 ((fup (fup (fun _ => -1) q0 (Int32.ofNat 0)) q1 (Int32.ofNat 1)) q2)))), (a511, Ob Z "com/example/rankwise/rankwise/engine/KeptItems" NSI [.ref ia513, .ref ka513, .ref ea513, .ref la513, .int 2, .ref fb548, .ref gb548]), (ia513, Ra Z "com/example/rankwise/rankwise/engine/Ranked" (lst 16 (fup (fup (fup (fup (fun _ => Value.null) 0 (Value.ref a514)) 1 (Value.ref a514)) 2 (Value.ref a514)) 2 Value.null))), (ka513, Ia Z (lst 16 (fup (fup (fup (fun _ => 0) 0 (Int32.ofNat q0)) 1 (Int32.ofNat q1)) 2 (Int32.ofNat q2)))), (a514, Ob Z "com/example/rankwise/rankwise/engine/Ranked" NSR [.ref a516, .double FP.dconst0]), (a516, Ia Z [])] := H566.pull 6 rfl
            have H568 : Hp n0 h557 [(ka513, Ia Z (lst 16 (fup (fup (fup (fun _ => 0) 0 (Int32.ofNat q0)) 1 (Int32.ofNat q1)) 2 (Int32.ofNat q2)))), (ea513, Ia Z (lst 16 (fup (fup (fup (fun _ => 0) 0 ((fun _ => -1) q0)) 1 ((fup (fun _ => -1) q0 (Int32.ofNat 0)) q1)) 2 ((fup (fup (fun _ => -1) q0 (Int32.ofNat 0)) q1 (Int32.ofNat 1)) q2)))), (la513, Ia Z (lst 16 (drT ((fup (fup (fun _ => -1) q0 (Int32.ofNat 0)) q1 (Int32.ofNat 1)) q2) (adT (fup (fup (fun _ => -1) q0 (Int32.ofNat 0)) q1 (Int32.ofNat 1)) (adT (fup (fun _ => -1) q0 (Int32.ofNat 0)) (adT (fun _ => -1) (fun _ => 0) q0 0) q1 1) q2 2)))), (fb548, Ia Z (lst L548 (drF ((fup (fup (fun _ => -1) q0 (Int32.ofNat 0)) q1 (Int32.ofNat 1)) q2) (adF (fup (fup (fun _ => -1) q0 (Int32.ofNat 0)) q1 (Int32.ofNat 1)) (adF (fup (fun _ => -1) q0 (Int32.ofNat 0)) (adF (fun _ => -1) (fun _ => -1) q0 0) q1 1) q2 2) q2))), (gb548, Ia Z (lst L548 (fup (fup (fup (fup (fun _ => -1) q0 (Int32.ofNat 0)) q1 (Int32.ofNat 1)) q2 (Int32.ofNat 2)) q2 ((fup (fup (fun _ => -1) q0 (Int32.ofNat 0)) q1 (Int32.ofNat 1)) q2)))), (a511, Ob Z "com/example/rankwise/rankwise/engine/KeptItems" NSI [.ref ia513, .ref ka513, .ref ea513, .ref la513, .int 2, .ref fb548, .ref gb548]), (ia513, Ra Z "com/example/rankwise/rankwise/engine/Ranked" (lst 16 (fup (fup (fup (fup (fun _ => Value.null) 0 (Value.ref a514)) 1 (Value.ref a514)) 2 (Value.ref a514)) 2 Value.null))), (a514, Ob Z "com/example/rankwise/rankwise/engine/Ranked" NSR [.ref a516, .double FP.dconst0]), (a516, Ia Z [])] := H567.pull 6 rfl
            have H569 : Hp n0 h557 [(ia513, Ra Z "com/example/rankwise/rankwise/engine/Ranked" (lst 16 (fup (fup (fup (fup (fun _ => Value.null) 0 (Value.ref a514)) 1 (Value.ref a514)) 2 (Value.ref a514)) 2 Value.null))), (ka513, Ia Z (lst 16 (fup (fup (fup (fun _ => 0) 0 (Int32.ofNat q0)) 1 (Int32.ofNat q1)) 2 (Int32.ofNat q2)))), (ea513, Ia Z (lst 16 (fup (fup (fup (fun _ => 0) 0 ((fun _ => -1) q0)) 1 ((fup (fun _ => -1) q0 (Int32.ofNat 0)) q1)) 2 ((fup (fup (fun _ => -1) q0 (Int32.ofNat 0)) q1 (Int32.ofNat 1)) q2)))), (la513, Ia Z (lst 16 (drT ((fup (fup (fun _ => -1) q0 (Int32.ofNat 0)) q1 (Int32.ofNat 1)) q2) (adT (fup (fup (fun _ => -1) q0 (Int32.ofNat 0)) q1 (Int32.ofNat 1)) (adT (fup (fun _ => -1) q0 (Int32.ofNat 0)) (adT (fun _ => -1) (fun _ => 0) q0 0) q1 1) q2 2)))), (fb548, Ia Z (lst L548 (drF ((fup (fup (fun _ => -1) q0 (Int32.ofNat 0)) q1 (Int32.ofNat 1)) q2) (adF (fup (fup (fun _ => -1) q0 (Int32.ofNat 0)) q1 (Int32.ofNat 1)) (adF (fup (fun _ => -1) q0 (Int32.ofNat 0)) (adF (fun _ => -1) (fun _ => -1) q0 0) q1 1) q2 2) q2))), (gb548, Ia Z (lst L548 (fup (fup (fup (fup (fun _ => -1) q0 (Int32.ofNat 0)) q1 (Int32.ofNat 1)) q2 (Int32.ofNat 2)) q2 ((fup (fup (fun _ => -1) q0 (Int32.ofNat 0)) q1 (Int32.ofNat 1)) q2)))), (a511, Ob Z "com/example/rankwise/rankwise/engine/KeptItems" NSI [.ref ia513, .ref ka513, .ref ea513, .ref la513, .int 2, .ref fb548, .ref gb548]), (a514, Ob Z "com/example/rankwise/rankwise/engine/Ranked" NSR [.ref a516, .double FP.dconst0]), (a516, Ia Z [])] := H568.pull 6 rfl
            have H570 : Hp n0 h557 [(a511, Ob Z "com/example/rankwise/rankwise/engine/KeptItems" NSI [.ref ia513, .ref ka513, .ref ea513, .ref la513, .int 2, .ref fb548, .ref gb548]), (ia513, Ra Z "com/example/rankwise/rankwise/engine/Ranked" (lst 16 (fup (fup (fup (fup (fun _ => Value.null) 0 (Value.ref a514)) 1 (Value.ref a514)) 2 (Value.ref a514)) 2 Value.null))), (ka513, Ia Z (lst 16 (fup (fup (fup (fun _ => 0) 0 (Int32.ofNat q0)) 1 (Int32.ofNat q1)) 2 (Int32.ofNat q2)))), (ea513, Ia Z (lst 16 (fup (fup (fup (fun _ => 0) 0 ((fun _ => -1) q0)) 1 ((fup (fun _ => -1) q0 (Int32.ofNat 0)) q1)) 2 ((fup (fup (fun _ => -1) q0 (Int32.ofNat 0)) q1 (Int32.ofNat 1)) q2)))), (la513, Ia Z (lst 16 (drT ((fup (fup (fun _ => -1) q0 (Int32.ofNat 0)) q1 (Int32.ofNat 1)) q2) (adT (fup (fup (fun _ => -1) q0 (Int32.ofNat 0)) q1 (Int32.ofNat 1)) (adT (fup (fun _ => -1) q0 (Int32.ofNat 0)) (adT (fun _ => -1) (fun _ => 0) q0 0) q1 1) q2 2)))), (fb548, Ia Z (lst L548 (drF ((fup (fup (fun _ => -1) q0 (Int32.ofNat 0)) q1 (Int32.ofNat 1)) q2) (adF (fup (fup (fun _ => -1) q0 (Int32.ofNat 0)) q1 (Int32.ofNat 1)) (adF (fup (fun _ => -1) q0 (Int32.ofNat 0)) (adF (fun _ => -1) (fun _ => -1) q0 0) q1 1) q2 2) q2))), (gb548, Ia Z (lst L548 (fup (fup (fup (fup (fun _ => -1) q0 (Int32.ofNat 0)) q1 (Int32.ofNat 1)) q2 (Int32.ofNat 2)) q2 ((fup (fup (fun _ => -1) q0 (Int32.ofNat 0)) q1 (Int32.ofNat 1)) q2)))), (a514, Ob Z "com/example/rankwise/rankwise/engine/Ranked" NSR [.ref a516, .double FP.dconst0]), (a516, Ia Z [])] := H569.pull 6 rfl
            refine G.callV K hl (wd hw 35 rfl) (wd hw 36 rfl) (wd hw 38 rfl) (wd hw 37 rfl) (wd hw 2 rfl) (wd hw 39 rfl) (by decide) pd_6 (H570.exa (i := 0) rfl) (ct_first l Z a0 hw n0 h557 a511 ia513 ka513 ea513 la513 fb548 gb548 2 L548 qq (fup (fup (fup (fup (fun _ => Value.null) 0 (Value.ref a514)) 1 (Value.ref a514)) 2 (Value.ref a514)) 2 Value.null) (fup (fup (fup (fun _ => 0) 0 (Int32.ofNat q0)) 1 (Int32.ofNat q1)) 2 (Int32.ofNat q2)) (fup (fup (fup (fun _ => 0) 0 ((fun _ => -1) q0)) 1 ((fup (fun _ => -1) q0 (Int32.ofNat 0)) q1)) 2 ((fup (fup (fun _ => -1) q0 (Int32.ofNat 0)) q1 (Int32.ofNat 1)) q2)) (drT ((fup (fup (fun _ => -1) q0 (Int32.ofNat 0)) q1 (Int32.ofNat 1)) q2) (adT (fup (fup (fun _ => -1) q0 (Int32.ofNat 0)) q1 (Int32.ofNat 1)) (adT (fup (fun _ => -1) q0 (Int32.ofNat 0)) (adT (fun _ => -1) (fun _ => 0) q0 0) q1 1) q2 2)) (drF ((fup (fup (fun _ => -1) q0 (Int32.ofNat 0)) q1 (Int32.ofNat 1)) q2) (adF (fup (fup (fun _ => -1) q0 (Int32.ofNat 0)) q1 (Int32.ofNat 1)) (adF (fup (fun _ => -1) q0 (Int32.ofNat 0)) (adF (fun _ => -1) (fun _ => -1) q0 0) q1 1) q2 2) q2) (fup (fup (fup (fup (fun _ => -1) q0 (Int32.ofNat 0)) q1 (Int32.ofNat 1)) q2 (Int32.ofNat 2)) q2 ((fup (fup (fun _ => -1) q0 (Int32.ofNat 0)) q1 (Int32.ofNat 1)) q2)) [(a514, Ob Z "com/example/rankwise/rankwise/engine/Ranked" NSR [.ref a516, .double FP.dconst0]), (a516, Ia Z [])] (by have := l3548; omega) (by omega) hF557 H570) 0 rfl (by decide) (by decide) (by decide) (by decide) rfl rfl [.int (Int32.ofNat qq)] rfl Dx_211 ?_
            rintro _ h571 ⟨rfl, H571⟩
            change G k n0 _ h571 _ _ 214 [.val (.int p0), .val (.int p1), .val (.int p2), .val (.int p3), .val (.int 3), .val (.int (Int32.ofNat q0)), .val (.int (Int32.ofNat q1)), .val (.int (Int32.ofNat q2)), .val (.int 1), .val (.int (Int32.ofNat qq)), .val (.ref a511), .val (.ref a514), .val (.int 2), .val (.int (-1))] [.int ((drF ((fup (fup (fun _ => -1) q0 (Int32.ofNat 0)) q1 (Int32.ofNat 1)) q2) (adF (fup (fup (fun _ => -1) q0 (Int32.ofNat 0)) q1 (Int32.ofNat 1)) (adF (fup (fun _ => -1) q0 (Int32.ofNat 0)) (adF (fun _ => -1) (fun _ => -1) q0 0) q1 1) q2 2) q2) qq)]
            refine G.iload K Dx_214 rfl ?_
            rw [own_neq (by omega) (by omega)] at q561
            rw [own_neq (by omega) (by omega)] at q563
            have hf := fst_3_1 q0 q1 q2 qq
            rw [if_neg q563, if_neg q561] at hf
            refine G.icmp_ne K Dx_216 (fun q => absurd hf q) (fun q572 => ?_)
            refine G.iconst K Dx_219 1 rfl ?_
            refine G.goto K Dx_220 ?_
            refine G.ret_bool K Dx_224 ?_
            exact rfl
          · refine G.iconst K Dx_204 0 rfl ?_
            refine G.istore K Dx_205 ([.val (.int p0), .val (.int p1), .val (.int p2), .val (.int p3), .val (.int 3), .val (.int (Int32.ofNat q0)), .val (.int (Int32.ofNat q1)), .val (.int (Int32.ofNat q2)), .val (.int 1), .val (.int (Int32.ofNat qq)), .val (.ref a511), .val (.ref a514), .val (.int 2), .val (.int 0)]) rfl ?_
            refine G.aload K Dx_207 rfl rfl ?_
            refine G.iload K Dx_209 rfl ?_
            have H573 : Hp n0 h557 [(gb548, Ia Z (lst L548 (fup (fup (fup (fup (fun _ => -1) q0 (Int32.ofNat 0)) q1 (Int32.ofNat 1)) q2 (Int32.ofNat 2)) q2 ((fup (fup (fun _ => -1) q0 (Int32.ofNat 0)) q1 (Int32.ofNat 1)) q2)))), (a511, Ob Z "com/example/rankwise/rankwise/engine/KeptItems" NSI [.ref ia513, .ref ka513, .ref ea513, .ref la513, .int 2, .ref fb548, .ref gb548]), (ia513, Ra Z "com/example/rankwise/rankwise/engine/Ranked" (lst 16 (fup (fup (fup (fup (fun _ => Value.null) 0 (Value.ref a514)) 1 (Value.ref a514)) 2 (Value.ref a514)) 2 Value.null))), (ka513, Ia Z (lst 16 (fup (fup (fup (fun _ => 0) 0 (Int32.ofNat q0)) 1 (Int32.ofNat q1)) 2 (Int32.ofNat q2)))), (ea513, Ia Z (lst 16 (fup (fup (fup (fun _ => 0) 0 ((fun _ => -1) q0)) 1 ((fup (fun _ => -1) q0 (Int32.ofNat 0)) q1)) 2 ((fup (fup (fun _ => -1) q0 (Int32.ofNat 0)) q1 (Int32.ofNat 1)) q2)))), (la513, Ia Z (lst 16 (drT ((fup (fup (fun _ => -1) q0 (Int32.ofNat 0)) q1 (Int32.ofNat 1)) q2) (adT (fup (fup (fun _ => -1) q0 (Int32.ofNat 0)) q1 (Int32.ofNat 1)) (adT (fup (fun _ => -1) q0 (Int32.ofNat 0)) (adT (fun _ => -1) (fun _ => 0) q0 0) q1 1) q2 2)))), (fb548, Ia Z (lst L548 (drF ((fup (fup (fun _ => -1) q0 (Int32.ofNat 0)) q1 (Int32.ofNat 1)) q2) (adF (fup (fup (fun _ => -1) q0 (Int32.ofNat 0)) q1 (Int32.ofNat 1)) (adF (fup (fun _ => -1) q0 (Int32.ofNat 0)) (adF (fun _ => -1) (fun _ => -1) q0 0) q1 1) q2 2) q2))), (a514, Ob Z "com/example/rankwise/rankwise/engine/Ranked" NSR [.ref a516, .double FP.dconst0]), (a516, Ia Z [])] := H557.pull 6 rfl
            have H574 : Hp n0 h557 [(fb548, Ia Z (lst L548 (drF ((fup (fup (fun _ => -1) q0 (Int32.ofNat 0)) q1 (Int32.ofNat 1)) q2) (adF (fup (fup (fun _ => -1) q0 (Int32.ofNat 0)) q1 (Int32.ofNat 1)) (adF (fup (fun _ => -1) q0 (Int32.ofNat 0)) (adF (fun _ => -1) (fun _ => -1) q0 0) q1 1) q2 2) q2))), (gb548, Ia Z (lst L548 (fup (fup (fup (fup (fun _ => -1) q0 (Int32.ofNat 0)) q1 (Int32.ofNat 1)) q2 (Int32.ofNat 2)) q2 ((fup (fup (fun _ => -1) q0 (Int32.ofNat 0)) q1 (Int32.ofNat 1)) q2)))), (a511, Ob Z "com/example/rankwise/rankwise/engine/KeptItems" NSI [.ref ia513, .ref ka513, .ref ea513, .ref la513, .int 2, .ref fb548, .ref gb548]), (ia513, Ra Z "com/example/rankwise/rankwise/engine/Ranked" (lst 16 (fup (fup (fup (fup (fun _ => Value.null) 0 (Value.ref a514)) 1 (Value.ref a514)) 2 (Value.ref a514)) 2 Value.null))), (ka513, Ia Z (lst 16 (fup (fup (fup (fun _ => 0) 0 (Int32.ofNat q0)) 1 (Int32.ofNat q1)) 2 (Int32.ofNat q2)))), (ea513, Ia Z (lst 16 (fup (fup (fup (fun _ => 0) 0 ((fun _ => -1) q0)) 1 ((fup (fun _ => -1) q0 (Int32.ofNat 0)) q1)) 2 ((fup (fup (fun _ => -1) q0 (Int32.ofNat 0)) q1 (Int32.ofNat 1)) q2)))), (la513, Ia Z (lst 16 (drT ((fup (fup (fun _ => -1) q0 (Int32.ofNat 0)) q1 (Int32.ofNat 1)) q2) (adT (fup (fup (fun _ => -1) q0 (Int32.ofNat 0)) q1 (Int32.ofNat 1)) (adT (fup (fun _ => -1) q0 (Int32.ofNat 0)) (adT (fun _ => -1) (fun _ => 0) q0 0) q1 1) q2 2)))), (a514, Ob Z "com/example/rankwise/rankwise/engine/Ranked" NSR [.ref a516, .double FP.dconst0]), (a516, Ia Z [])] := H573.pull 6 rfl
            have H575 : Hp n0 h557 [(la513, Ia Z (lst 16 (drT ((fup (fup (fun _ => -1) q0 (Int32.ofNat 0)) q1 (Int32.ofNat 1)) q2) (adT (fup (fup (fun _ => -1) q0 (Int32.ofNat 0)) q1 (Int32.ofNat 1)) (adT (fup (fun _ => -1) q0 (Int32.ofNat 0)) (adT (fun _ => -1) (fun _ => 0) q0 0) q1 1) q2 2)))), (fb548, Ia Z (lst L548 (drF ((fup (fup (fun _ => -1) q0 (Int32.ofNat 0)) q1 (Int32.ofNat 1)) q2) (adF (fup (fup (fun _ => -1) q0 (Int32.ofNat 0)) q1 (Int32.ofNat 1)) (adF (fup (fun _ => -1) q0 (Int32.ofNat 0)) (adF (fun _ => -1) (fun _ => -1) q0 0) q1 1) q2 2) q2))), (gb548, Ia Z (lst L548 (fup (fup (fup (fup (fun _ => -1) q0 (Int32.ofNat 0)) q1 (Int32.ofNat 1)) q2 (Int32.ofNat 2)) q2 ((fup (fup (fun _ => -1) q0 (Int32.ofNat 0)) q1 (Int32.ofNat 1)) q2)))), (a511, Ob Z "com/example/rankwise/rankwise/engine/KeptItems" NSI [.ref ia513, .ref ka513, .ref ea513, .ref la513, .int 2, .ref fb548, .ref gb548]), (ia513, Ra Z "com/example/rankwise/rankwise/engine/Ranked" (lst 16 (fup (fup (fup (fup (fun _ => Value.null) 0 (Value.ref a514)) 1 (Value.ref a514)) 2 (Value.ref a514)) 2 Value.null))), (ka513, Ia Z (lst 16 (fup (fup (fup (fun _ => 0) 0 (Int32.ofNat q0)) 1 (Int32.ofNat q1)) 2 (Int32.ofNat q2)))), (ea513, Ia Z (lst 16 (fup (fup (fup (fun _ => 0) 0 ((fun _ => -1) q0)) 1 ((fup (fun _ => -1) q0 (Int32.ofNat 0)) q1)) 2 ((fup (fup (fun _ => -1) q0 (Int32.ofNat 0)) q1 (Int32.ofNat 1)) q2)))), (a514, Ob Z "com/example/rankwise/rankwise/engine/Ranked" NSR [.ref a516, .double FP.dconst0]), (a516, Ia Z [])] := H574.pull 6 rfl
            have H576 : Hp n0 h557 [(ea513, Ia Z (lst 16 (fup (fup (fup (fun _ => 0) 0 ((fun _ => -1) q0)) 1 ((fup (fun _ => -1) q0 (Int32.ofNat 0)) q1)) 2 ((fup (fup (fun _ => -1) q0 (Int32.ofNat 0)) q1 (Int32.ofNat 1)) q2)))), (la513, Ia Z (lst 16 (drT ((fup (fup (fun _ => -1) q0 (Int32.ofNat 0)) q1 (Int32.ofNat 1)) q2) (adT (fup (fup (fun _ => -1) q0 (Int32.ofNat 0)) q1 (Int32.ofNat 1)) (adT (fup (fun _ => -1) q0 (Int32.ofNat 0)) (adT (fun _ => -1) (fun _ => 0) q0 0) q1 1) q2 2)))), (fb548, Ia Z (lst L548 (drF ((fup (fup (fun _ => -1) q0 (Int32.ofNat 0)) q1 (Int32.ofNat 1)) q2) (adF (fup (fup (fun _ => -1) q0 (Int32.ofNat 0)) q1 (Int32.ofNat 1)) (adF (fup (fun _ => -1) q0 (Int32.ofNat 0)) (adF (fun _ => -1) (fun _ => -1) q0 0) q1 1) q2 2) q2))), (gb548, Ia Z (lst L548 (fup (fup (fup (fup (fun _ => -1) q0 (Int32.ofNat 0)) q1 (Int32.ofNat 1)) q2 (Int32.ofNat 2)) q2 ((fup (fup (fun _ => -1) q0 (Int32.ofNat 0)) q1 (Int32.ofNat 1)) q2)))), (a511, Ob Z "com/example/rankwise/rankwise/engine/KeptItems" NSI [.ref ia513, .ref ka513, .ref ea513, .ref la513, .int 2, .ref fb548, .ref gb548]), (ia513, Ra Z "com/example/rankwise/rankwise/engine/Ranked" (lst 16 (fup (fup (fup (fup (fun _ => Value.null) 0 (Value.ref a514)) 1 (Value.ref a514)) 2 (Value.ref a514)) 2 Value.null))), (ka513, Ia Z (lst 16 (fup (fup (fup (fun _ => 0) 0 (Int32.ofNat q0)) 1 (Int32.ofNat q1)) 2 (Int32.ofNat q2)))), (a514, Ob Z "com/example/rankwise/rankwise/engine/Ranked" NSR [.ref a516, .double FP.dconst0]), (a516, Ia Z [])] := H575.pull 6 rfl
            have H577 : Hp n0 h557 [(ka513, Ia Z (lst 16 (fup (fup (fup (fun _ => 0) 0 (Int32.ofNat q0)) 1 (Int32.ofNat q1)) 2 (Int32.ofNat q2)))), (ea513, Ia Z (lst 16 (fup (fup (fup (fun _ => 0) 0 ((fun _ => -1) q0)) 1 ((fup (fun _ => -1) q0 (Int32.ofNat 0)) q1)) 2 ((fup (fup (fun _ => -1) q0 (Int32.ofNat 0)) q1 (Int32.ofNat 1)) q2)))), (la513, Ia Z (lst 16 (drT ((fup (fup (fun _ => -1) q0 (Int32.ofNat 0)) q1 (Int32.ofNat 1)) q2) (adT (fup (fup (fun _ => -1) q0 (Int32.ofNat 0)) q1 (Int32.ofNat 1)) (adT (fup (fun _ => -1) q0 (Int32.ofNat 0)) (adT (fun _ => -1) (fun _ => 0) q0 0) q1 1) q2 2)))), (fb548, Ia Z (lst L548 (drF ((fup (fup (fun _ => -1) q0 (Int32.ofNat 0)) q1 (Int32.ofNat 1)) q2) (adF (fup (fup (fun _ => -1) q0 (Int32.ofNat 0)) q1 (Int32.ofNat 1)) (adF (fup (fun _ => -1) q0 (Int32.ofNat 0)) (adF (fun _ => -1) (fun _ => -1) q0 0) q1 1) q2 2) q2))), (gb548, Ia Z (lst L548 (fup (fup (fup (fup (fun _ => -1) q0 (Int32.ofNat 0)) q1 (Int32.ofNat 1)) q2 (Int32.ofNat 2)) q2 ((fup (fup (fun _ => -1) q0 (Int32.ofNat 0)) q1 (Int32.ofNat 1)) q2)))), (a511, Ob Z "com/example/rankwise/rankwise/engine/KeptItems" NSI [.ref ia513, .ref ka513, .ref ea513, .ref la513, .int 2, .ref fb548, .ref gb548]), (ia513, Ra Z "com/example/rankwise/rankwise/engine/Ranked" (lst 16 (fup (fup (fup (fup (fun _ => Value.null) 0 (Value.ref a514)) 1 (Value.ref a514)) 2 (Value.ref a514)) 2 Value.null))), (a514, Ob Z "com/example/rankwise/rankwise/engine/Ranked" NSR [.ref a516, .double FP.dconst0]), (a516, Ia Z [])] := H576.pull 6 rfl
            have H578 : Hp n0 h557 [(ia513, Ra Z "com/example/rankwise/rankwise/engine/Ranked" (lst 16 (fup (fup (fup (fup (fun _ => Value.null) 0 (Value.ref a514)) 1 (Value.ref a514)) 2 (Value.ref a514)) 2 Value.null))), (ka513, Ia Z (lst 16 (fup (fup (fup (fun _ => 0) 0 (Int32.ofNat q0)) 1 (Int32.ofNat q1)) 2 (Int32.ofNat q2)))), (ea513, Ia Z (lst 16 (fup (fup (fup (fun _ => 0) 0 ((fun _ => -1) q0)) 1 ((fup (fun _ => -1) q0 (Int32.ofNat 0)) q1)) 2 ((fup (fup (fun _ => -1) q0 (Int32.ofNat 0)) q1 (Int32.ofNat 1)) q2)))), (la513, Ia Z (lst 16 (drT ((fup (fup (fun _ => -1) q0 (Int32.ofNat 0)) q1 (Int32.ofNat 1)) q2) (adT (fup (fup (fun _ => -1) q0 (Int32.ofNat 0)) q1 (Int32.ofNat 1)) (adT (fup (fun _ => -1) q0 (Int32.ofNat 0)) (adT (fun _ => -1) (fun _ => 0) q0 0) q1 1) q2 2)))), (fb548, Ia Z (lst L548 (drF ((fup (fup (fun _ => -1) q0 (Int32.ofNat 0)) q1 (Int32.ofNat 1)) q2) (adF (fup (fup (fun _ => -1) q0 (Int32.ofNat 0)) q1 (Int32.ofNat 1)) (adF (fup (fun _ => -1) q0 (Int32.ofNat 0)) (adF (fun _ => -1) (fun _ => -1) q0 0) q1 1) q2 2) q2))), (gb548, Ia Z (lst L548 (fup (fup (fup (fup (fun _ => -1) q0 (Int32.ofNat 0)) q1 (Int32.ofNat 1)) q2 (Int32.ofNat 2)) q2 ((fup (fup (fun _ => -1) q0 (Int32.ofNat 0)) q1 (Int32.ofNat 1)) q2)))), (a511, Ob Z "com/example/rankwise/rankwise/engine/KeptItems" NSI [.ref ia513, .ref ka513, .ref ea513, .ref la513, .int 2, .ref fb548, .ref gb548]), (a514, Ob Z "com/example/rankwise/rankwise/engine/Ranked" NSR [.ref a516, .double FP.dconst0]), (a516, Ia Z [])] := H577.pull 6 rfl
            have H579 : Hp n0 h557 [(a511, Ob Z "com/example/rankwise/rankwise/engine/KeptItems" NSI [.ref ia513, .ref ka513, .ref ea513, .ref la513, .int 2, .ref fb548, .ref gb548]), (ia513, Ra Z "com/example/rankwise/rankwise/engine/Ranked" (lst 16 (fup (fup (fup (fup (fun _ => Value.null) 0 (Value.ref a514)) 1 (Value.ref a514)) 2 (Value.ref a514)) 2 Value.null))), (ka513, Ia Z (lst 16 (fup (fup (fup (fun _ => 0) 0 (Int32.ofNat q0)) 1 (Int32.ofNat q1)) 2 (Int32.ofNat q2)))), (ea513, Ia Z (lst 16 (fup (fup (fup (fun _ => 0) 0 ((fun _ => -1) q0)) 1 ((fup (fun _ => -1) q0 (Int32.ofNat 0)) q1)) 2 ((fup (fup (fun _ => -1) q0 (Int32.ofNat 0)) q1 (Int32.ofNat 1)) q2)))), (la513, Ia Z (lst 16 (drT ((fup (fup (fun _ => -1) q0 (Int32.ofNat 0)) q1 (Int32.ofNat 1)) q2) (adT (fup (fup (fun _ => -1) q0 (Int32.ofNat 0)) q1 (Int32.ofNat 1)) (adT (fup (fun _ => -1) q0 (Int32.ofNat 0)) (adT (fun _ => -1) (fun _ => 0) q0 0) q1 1) q2 2)))), (fb548, Ia Z (lst L548 (drF ((fup (fup (fun _ => -1) q0 (Int32.ofNat 0)) q1 (Int32.ofNat 1)) q2) (adF (fup (fup (fun _ => -1) q0 (Int32.ofNat 0)) q1 (Int32.ofNat 1)) (adF (fup (fun _ => -1) q0 (Int32.ofNat 0)) (adF (fun _ => -1) (fun _ => -1) q0 0) q1 1) q2 2) q2))), (gb548, Ia Z (lst L548 (fup (fup (fup (fup (fun _ => -1) q0 (Int32.ofNat 0)) q1 (Int32.ofNat 1)) q2 (Int32.ofNat 2)) q2 ((fup (fup (fun _ => -1) q0 (Int32.ofNat 0)) q1 (Int32.ofNat 1)) q2)))), (a514, Ob Z "com/example/rankwise/rankwise/engine/Ranked" NSR [.ref a516, .double FP.dconst0]), (a516, Ia Z [])] := H578.pull 6 rfl
            refine G.callV K hl (wd hw 35 rfl) (wd hw 36 rfl) (wd hw 38 rfl) (wd hw 37 rfl) (wd hw 2 rfl) (wd hw 39 rfl) (by decide) pd_6 (H579.exa (i := 0) rfl) (ct_first l Z a0 hw n0 h557 a511 ia513 ka513 ea513 la513 fb548 gb548 2 L548 qq (fup (fup (fup (fup (fun _ => Value.null) 0 (Value.ref a514)) 1 (Value.ref a514)) 2 (Value.ref a514)) 2 Value.null) (fup (fup (fup (fun _ => 0) 0 (Int32.ofNat q0)) 1 (Int32.ofNat q1)) 2 (Int32.ofNat q2)) (fup (fup (fup (fun _ => 0) 0 ((fun _ => -1) q0)) 1 ((fup (fun _ => -1) q0 (Int32.ofNat 0)) q1)) 2 ((fup (fup (fun _ => -1) q0 (Int32.ofNat 0)) q1 (Int32.ofNat 1)) q2)) (drT ((fup (fup (fun _ => -1) q0 (Int32.ofNat 0)) q1 (Int32.ofNat 1)) q2) (adT (fup (fup (fun _ => -1) q0 (Int32.ofNat 0)) q1 (Int32.ofNat 1)) (adT (fup (fun _ => -1) q0 (Int32.ofNat 0)) (adT (fun _ => -1) (fun _ => 0) q0 0) q1 1) q2 2)) (drF ((fup (fup (fun _ => -1) q0 (Int32.ofNat 0)) q1 (Int32.ofNat 1)) q2) (adF (fup (fup (fun _ => -1) q0 (Int32.ofNat 0)) q1 (Int32.ofNat 1)) (adF (fup (fun _ => -1) q0 (Int32.ofNat 0)) (adF (fun _ => -1) (fun _ => -1) q0 0) q1 1) q2 2) q2) (fup (fup (fup (fup (fun _ => -1) q0 (Int32.ofNat 0)) q1 (Int32.ofNat 1)) q2 (Int32.ofNat 2)) q2 ((fup (fup (fun _ => -1) q0 (Int32.ofNat 0)) q1 (Int32.ofNat 1)) q2)) [(a514, Ob Z "com/example/rankwise/rankwise/engine/Ranked" NSR [.ref a516, .double FP.dconst0]), (a516, Ia Z [])] (by have := l3548; omega) (by omega) hF557 H579) 0 rfl (by decide) (by decide) (by decide) (by decide) rfl rfl [.int (Int32.ofNat qq)] rfl Dx_211 ?_
            rintro _ h580 ⟨rfl, H580⟩
            change G k n0 _ h580 _ _ 214 [.val (.int p0), .val (.int p1), .val (.int p2), .val (.int p3), .val (.int 3), .val (.int (Int32.ofNat q0)), .val (.int (Int32.ofNat q1)), .val (.int (Int32.ofNat q2)), .val (.int 1), .val (.int (Int32.ofNat qq)), .val (.ref a511), .val (.ref a514), .val (.int 2), .val (.int 0)] [.int ((drF ((fup (fup (fun _ => -1) q0 (Int32.ofNat 0)) q1 (Int32.ofNat 1)) q2) (adF (fup (fup (fun _ => -1) q0 (Int32.ofNat 0)) q1 (Int32.ofNat 1)) (adF (fup (fun _ => -1) q0 (Int32.ofNat 0)) (adF (fun _ => -1) (fun _ => -1) q0 0) q1 1) q2 2) q2) qq)]
            refine G.iload K Dx_214 rfl ?_
            rw [own_neq (by omega) (by omega)] at q561
            rw [own_neq (by omega) (by omega)] at q563
            have hf := fst_3_1 q0 q1 q2 qq
            rw [if_pos q563] at hf
            refine G.icmp_ne K Dx_216 (fun q => absurd hf q) (fun q581 => ?_)
            refine G.iconst K Dx_219 1 rfl ?_
            refine G.goto K Dx_220 ?_
            refine G.ret_bool K Dx_224 ?_
            exact rfl
        · refine G.iconst K Dx_189 1 rfl ?_
          refine G.istore K Dx_190 ([.val (.int p0), .val (.int p1), .val (.int p2), .val (.int p3), .val (.int 3), .val (.int (Int32.ofNat q0)), .val (.int (Int32.ofNat q1)), .val (.int (Int32.ofNat q2)), .val (.int 1), .val (.int (Int32.ofNat qq)), .val (.ref a511), .val (.ref a514), .val (.int 2), .val (.int 1)]) rfl ?_
          refine G.iload K Dx_192 rfl ?_
          refine G.if_le K Dx_194 (fun q => absurd q (by decide)) (fun _ => ?_)
          refine G.iload K Dx_197 rfl ?_
          refine G.iload K Dx_199 rfl ?_
          refine G.icmp_ne K Dx_201 (fun q583 => ?_) (fun q583 => ?_)
          · refine G.aload K Dx_207 rfl rfl ?_
            refine G.iload K Dx_209 rfl ?_
            have H584 : Hp n0 h557 [(gb548, Ia Z (lst L548 (fup (fup (fup (fup (fun _ => -1) q0 (Int32.ofNat 0)) q1 (Int32.ofNat 1)) q2 (Int32.ofNat 2)) q2 ((fup (fup (fun _ => -1) q0 (Int32.ofNat 0)) q1 (Int32.ofNat 1)) q2)))), (a511, Ob Z "com/example/rankwise/rankwise/engine/KeptItems" NSI [.ref ia513, .ref ka513, .ref ea513, .ref la513, .int 2, .ref fb548, .ref gb548]), (ia513, Ra Z "com/example/rankwise/rankwise/engine/Ranked" (lst 16 (fup (fup (fup (fup (fun _ => Value.null) 0 (Value.ref a514)) 1 (Value.ref a514)) 2 (Value.ref a514)) 2 Value.null))), (ka513, Ia Z (lst 16 (fup (fup (fup (fun _ => 0) 0 (Int32.ofNat q0)) 1 (Int32.ofNat q1)) 2 (Int32.ofNat q2)))), (ea513, Ia Z (lst 16 (fup (fup (fup (fun _ => 0) 0 ((fun _ => -1) q0)) 1 ((fup (fun _ => -1) q0 (Int32.ofNat 0)) q1)) 2 ((fup (fup (fun _ => -1) q0 (Int32.ofNat 0)) q1 (Int32.ofNat 1)) q2)))), (la513, Ia Z (lst 16 (drT ((fup (fup (fun _ => -1) q0 (Int32.ofNat 0)) q1 (Int32.ofNat 1)) q2) (adT (fup (fup (fun _ => -1) q0 (Int32.ofNat 0)) q1 (Int32.ofNat 1)) (adT (fup (fun _ => -1) q0 (Int32.ofNat 0)) (adT (fun _ => -1) (fun _ => 0) q0 0) q1 1) q2 2)))), (fb548, Ia Z (lst L548 (drF ((fup (fup (fun _ => -1) q0 (Int32.ofNat 0)) q1 (Int32.ofNat 1)) q2) (adF (fup (fup (fun _ => -1) q0 (Int32.ofNat 0)) q1 (Int32.ofNat 1)) (adF (fup (fun _ => -1) q0 (Int32.ofNat 0)) (adF (fun _ => -1) (fun _ => -1) q0 0) q1 1) q2 2) q2))), (a514, Ob Z "com/example/rankwise/rankwise/engine/Ranked" NSR [.ref a516, .double FP.dconst0]), (a516, Ia Z [])] := H557.pull 6 rfl
            have H585 : Hp n0 h557 [(fb548, Ia Z (lst L548 (drF ((fup (fup (fun _ => -1) q0 (Int32.ofNat 0)) q1 (Int32.ofNat 1)) q2) (adF (fup (fup (fun _ => -1) q0 (Int32.ofNat 0)) q1 (Int32.ofNat 1)) (adF (fup (fun _ => -1) q0 (Int32.ofNat 0)) (adF (fun _ => -1) (fun _ => -1) q0 0) q1 1) q2 2) q2))), (gb548, Ia Z (lst L548 (fup (fup (fup (fup (fun _ => -1) q0 (Int32.ofNat 0)) q1 (Int32.ofNat 1)) q2 (Int32.ofNat 2)) q2 ((fup (fup (fun _ => -1) q0 (Int32.ofNat 0)) q1 (Int32.ofNat 1)) q2)))), (a511, Ob Z "com/example/rankwise/rankwise/engine/KeptItems" NSI [.ref ia513, .ref ka513, .ref ea513, .ref la513, .int 2, .ref fb548, .ref gb548]), (ia513, Ra Z "com/example/rankwise/rankwise/engine/Ranked" (lst 16 (fup (fup (fup (fup (fun _ => Value.null) 0 (Value.ref a514)) 1 (Value.ref a514)) 2 (Value.ref a514)) 2 Value.null))), (ka513, Ia Z (lst 16 (fup (fup (fup (fun _ => 0) 0 (Int32.ofNat q0)) 1 (Int32.ofNat q1)) 2 (Int32.ofNat q2)))), (ea513, Ia Z (lst 16 (fup (fup (fup (fun _ => 0) 0 ((fun _ => -1) q0)) 1 ((fup (fun _ => -1) q0 (Int32.ofNat 0)) q1)) 2 ((fup (fup (fun _ => -1) q0 (Int32.ofNat 0)) q1 (Int32.ofNat 1)) q2)))), (la513, Ia Z (lst 16 (drT ((fup (fup (fun _ => -1) q0 (Int32.ofNat 0)) q1 (Int32.ofNat 1)) q2) (adT (fup (fup (fun _ => -1) q0 (Int32.ofNat 0)) q1 (Int32.ofNat 1)) (adT (fup (fun _ => -1) q0 (Int32.ofNat 0)) (adT (fun _ => -1) (fun _ => 0) q0 0) q1 1) q2 2)))), (a514, Ob Z "com/example/rankwise/rankwise/engine/Ranked" NSR [.ref a516, .double FP.dconst0]), (a516, Ia Z [])] := H584.pull 6 rfl
            have H586 : Hp n0 h557 [(la513, Ia Z (lst 16 (drT ((fup (fup (fun _ => -1) q0 (Int32.ofNat 0)) q1 (Int32.ofNat 1)) q2) (adT (fup (fup (fun _ => -1) q0 (Int32.ofNat 0)) q1 (Int32.ofNat 1)) (adT (fup (fun _ => -1) q0 (Int32.ofNat 0)) (adT (fun _ => -1) (fun _ => 0) q0 0) q1 1) q2 2)))), (fb548, Ia Z (lst L548 (drF ((fup (fup (fun _ => -1) q0 (Int32.ofNat 0)) q1 (Int32.ofNat 1)) q2) (adF (fup (fup (fun _ => -1) q0 (Int32.ofNat 0)) q1 (Int32.ofNat 1)) (adF (fup (fun _ => -1) q0 (Int32.ofNat 0)) (adF (fun _ => -1) (fun _ => -1) q0 0) q1 1) q2 2) q2))), (gb548, Ia Z (lst L548 (fup (fup (fup (fup (fun _ => -1) q0 (Int32.ofNat 0)) q1 (Int32.ofNat 1)) q2 (Int32.ofNat 2)) q2 ((fup (fup (fun _ => -1) q0 (Int32.ofNat 0)) q1 (Int32.ofNat 1)) q2)))), (a511, Ob Z "com/example/rankwise/rankwise/engine/KeptItems" NSI [.ref ia513, .ref ka513, .ref ea513, .ref la513, .int 2, .ref fb548, .ref gb548]), (ia513, Ra Z "com/example/rankwise/rankwise/engine/Ranked" (lst 16 (fup (fup (fup (fup (fun _ => Value.null) 0 (Value.ref a514)) 1 (Value.ref a514)) 2 (Value.ref a514)) 2 Value.null))), (ka513, Ia Z (lst 16 (fup (fup (fup (fun _ => 0) 0 (Int32.ofNat q0)) 1 (Int32.ofNat q1)) 2 (Int32.ofNat q2)))), (ea513, Ia Z (lst 16 (fup (fup (fup (fun _ => 0) 0 ((fun _ => -1) q0)) 1 ((fup (fun _ => -1) q0 (Int32.ofNat 0)) q1)) 2 ((fup (fup (fun _ => -1) q0 (Int32.ofNat 0)) q1 (Int32.ofNat 1)) q2)))), (a514, Ob Z "com/example/rankwise/rankwise/engine/Ranked" NSR [.ref a516, .double FP.dconst0]), (a516, Ia Z [])] := H585.pull 6 rfl
            have H587 : Hp n0 h557 [(ea513, Ia Z (lst 16 (fup (fup (fup (fun _ => 0) 0 ((fun _ => -1) q0)) 1 ((fup (fun _ => -1) q0 (Int32.ofNat 0)) q1)) 2 ((fup (fup (fun _ => -1) q0 (Int32.ofNat 0)) q1 (Int32.ofNat 1)) q2)))), (la513, Ia Z (lst 16 (drT ((fup (fup (fun _ => -1) q0 (Int32.ofNat 0)) q1 (Int32.ofNat 1)) q2) (adT (fup (fup (fun _ => -1) q0 (Int32.ofNat 0)) q1 (Int32.ofNat 1)) (adT (fup (fun _ => -1) q0 (Int32.ofNat 0)) (adT (fun _ => -1) (fun _ => 0) q0 0) q1 1) q2 2)))), (fb548, Ia Z (lst L548 (drF ((fup (fup (fun _ => -1) q0 (Int32.ofNat 0)) q1 (Int32.ofNat 1)) q2) (adF (fup (fup (fun _ => -1) q0 (Int32.ofNat 0)) q1 (Int32.ofNat 1)) (adF (fup (fun _ => -1) q0 (Int32.ofNat 0)) (adF (fun _ => -1) (fun _ => -1) q0 0) q1 1) q2 2) q2))), (gb548, Ia Z (lst L548 (fup (fup (fup (fup (fun _ => -1) q0 (Int32.ofNat 0)) q1 (Int32.ofNat 1)) q2 (Int32.ofNat 2)) q2 ((fup (fup (fun _ => -1) q0 (Int32.ofNat 0)) q1 (Int32.ofNat 1)) q2)))), (a511, Ob Z "com/example/rankwise/rankwise/engine/KeptItems" NSI [.ref ia513, .ref ka513, .ref ea513, .ref la513, .int 2, .ref fb548, .ref gb548]), (ia513, Ra Z "com/example/rankwise/rankwise/engine/Ranked" (lst 16 (fup (fup (fup (fup (fun _ => Value.null) 0 (Value.ref a514)) 1 (Value.ref a514)) 2 (Value.ref a514)) 2 Value.null))), (ka513, Ia Z (lst 16 (fup (fup (fup (fun _ => 0) 0 (Int32.ofNat q0)) 1 (Int32.ofNat q1)) 2 (Int32.ofNat q2)))), (a514, Ob Z "com/example/rankwise/rankwise/engine/Ranked" NSR [.ref a516, .double FP.dconst0]), (a516, Ia Z [])] := H586.pull 6 rfl
            have H588 : Hp n0 h557 [(ka513, Ia Z (lst 16 (fup (fup (fup (fun _ => 0) 0 (Int32.ofNat q0)) 1 (Int32.ofNat q1)) 2 (Int32.ofNat q2)))), (ea513, Ia Z (lst 16 (fup (fup (fup (fun _ => 0) 0 ((fun _ => -1) q0)) 1 ((fup (fun _ => -1) q0 (Int32.ofNat 0)) q1)) 2 ((fup (fup (fun _ => -1) q0 (Int32.ofNat 0)) q1 (Int32.ofNat 1)) q2)))), (la513, Ia Z (lst 16 (drT ((fup (fup (fun _ => -1) q0 (Int32.ofNat 0)) q1 (Int32.ofNat 1)) q2) (adT (fup (fup (fun _ => -1) q0 (Int32.ofNat 0)) q1 (Int32.ofNat 1)) (adT (fup (fun _ => -1) q0 (Int32.ofNat 0)) (adT (fun _ => -1) (fun _ => 0) q0 0) q1 1) q2 2)))), (fb548, Ia Z (lst L548 (drF ((fup (fup (fun _ => -1) q0 (Int32.ofNat 0)) q1 (Int32.ofNat 1)) q2) (adF (fup (fup (fun _ => -1) q0 (Int32.ofNat 0)) q1 (Int32.ofNat 1)) (adF (fup (fun _ => -1) q0 (Int32.ofNat 0)) (adF (fun _ => -1) (fun _ => -1) q0 0) q1 1) q2 2) q2))), (gb548, Ia Z (lst L548 (fup (fup (fup (fup (fun _ => -1) q0 (Int32.ofNat 0)) q1 (Int32.ofNat 1)) q2 (Int32.ofNat 2)) q2 ((fup (fup (fun _ => -1) q0 (Int32.ofNat 0)) q1 (Int32.ofNat 1)) q2)))), (a511, Ob Z "com/example/rankwise/rankwise/engine/KeptItems" NSI [.ref ia513, .ref ka513, .ref ea513, .ref la513, .int 2, .ref fb548, .ref gb548]), (ia513, Ra Z "com/example/rankwise/rankwise/engine/Ranked" (lst 16 (fup (fup (fup (fup (fun _ => Value.null) 0 (Value.ref a514)) 1 (Value.ref a514)) 2 (Value.ref a514)) 2 Value.null))), (a514, Ob Z "com/example/rankwise/rankwise/engine/Ranked" NSR [.ref a516, .double FP.dconst0]), (a516, Ia Z [])] := H587.pull 6 rfl
            have H589 : Hp n0 h557 [(ia513, Ra Z "com/example/rankwise/rankwise/engine/Ranked" (lst 16 (fup (fup (fup (fup (fun _ => Value.null) 0 (Value.ref a514)) 1 (Value.ref a514)) 2 (Value.ref a514)) 2 Value.null))), (ka513, Ia Z (lst 16 (fup (fup (fup (fun _ => 0) 0 (Int32.ofNat q0)) 1 (Int32.ofNat q1)) 2 (Int32.ofNat q2)))), (ea513, Ia Z (lst 16 (fup (fup (fup (fun _ => 0) 0 ((fun _ => -1) q0)) 1 ((fup (fun _ => -1) q0 (Int32.ofNat 0)) q1)) 2 ((fup (fup (fun _ => -1) q0 (Int32.ofNat 0)) q1 (Int32.ofNat 1)) q2)))), (la513, Ia Z (lst 16 (drT ((fup (fup (fun _ => -1) q0 (Int32.ofNat 0)) q1 (Int32.ofNat 1)) q2) (adT (fup (fup (fun _ => -1) q0 (Int32.ofNat 0)) q1 (Int32.ofNat 1)) (adT (fup (fun _ => -1) q0 (Int32.ofNat 0)) (adT (fun _ => -1) (fun _ => 0) q0 0) q1 1) q2 2)))), (fb548, Ia Z (lst L548 (drF ((fup (fup (fun _ => -1) q0 (Int32.ofNat 0)) q1 (Int32.ofNat 1)) q2) (adF (fup (fup (fun _ => -1) q0 (Int32.ofNat 0)) q1 (Int32.ofNat 1)) (adF (fup (fun _ => -1) q0 (Int32.ofNat 0)) (adF (fun _ => -1) (fun _ => -1) q0 0) q1 1) q2 2) q2))), (gb548, Ia Z (lst L548 (fup (fup (fup (fup (fun _ => -1) q0 (Int32.ofNat 0)) q1 (Int32.ofNat 1)) q2 (Int32.ofNat 2)) q2 ((fup (fup (fun _ => -1) q0 (Int32.ofNat 0)) q1 (Int32.ofNat 1)) q2)))), (a511, Ob Z "com/example/rankwise/rankwise/engine/KeptItems" NSI [.ref ia513, .ref ka513, .ref ea513, .ref la513, .int 2, .ref fb548, .ref gb548]), (a514, Ob Z "com/example/rankwise/rankwise/engine/Ranked" NSR [.ref a516, .double FP.dconst0]), (a516, Ia Z [])] := H588.pull 6 rfl
            have H590 : Hp n0 h557 [(a511, Ob Z "com/example/rankwise/rankwise/engine/KeptItems" NSI [.ref ia513, .ref ka513, .ref ea513, .ref la513, .int 2, .ref fb548, .ref gb548]), (ia513, Ra Z "com/example/rankwise/rankwise/engine/Ranked" (lst 16 (fup (fup (fup (fup (fun _ => Value.null) 0 (Value.ref a514)) 1 (Value.ref a514)) 2 (Value.ref a514)) 2 Value.null))), (ka513, Ia Z (lst 16 (fup (fup (fup (fun _ => 0) 0 (Int32.ofNat q0)) 1 (Int32.ofNat q1)) 2 (Int32.ofNat q2)))), (ea513, Ia Z (lst 16 (fup (fup (fup (fun _ => 0) 0 ((fun _ => -1) q0)) 1 ((fup (fun _ => -1) q0 (Int32.ofNat 0)) q1)) 2 ((fup (fup (fun _ => -1) q0 (Int32.ofNat 0)) q1 (Int32.ofNat 1)) q2)))), (la513, Ia Z (lst 16 (drT ((fup (fup (fun _ => -1) q0 (Int32.ofNat 0)) q1 (Int32.ofNat 1)) q2) (adT (fup (fup (fun _ => -1) q0 (Int32.ofNat 0)) q1 (Int32.ofNat 1)) (adT (fup (fun _ => -1) q0 (Int32.ofNat 0)) (adT (fun _ => -1) (fun _ => 0) q0 0) q1 1) q2 2)))), (fb548, Ia Z (lst L548 (drF ((fup (fup (fun _ => -1) q0 (Int32.ofNat 0)) q1 (Int32.ofNat 1)) q2) (adF (fup (fup (fun _ => -1) q0 (Int32.ofNat 0)) q1 (Int32.ofNat 1)) (adF (fup (fun _ => -1) q0 (Int32.ofNat 0)) (adF (fun _ => -1) (fun _ => -1) q0 0) q1 1) q2 2) q2))), (gb548, Ia Z (lst L548 (fup (fup (fup (fup (fun _ => -1) q0 (Int32.ofNat 0)) q1 (Int32.ofNat 1)) q2 (Int32.ofNat 2)) q2 ((fup (fup (fun _ => -1) q0 (Int32.ofNat 0)) q1 (Int32.ofNat 1)) q2)))), (a514, Ob Z "com/example/rankwise/rankwise/engine/Ranked" NSR [.ref a516, .double FP.dconst0]), (a516, Ia Z [])] := H589.pull 6 rfl
            refine G.callV K hl (wd hw 35 rfl) (wd hw 36 rfl) (wd hw 38 rfl) (wd hw 37 rfl) (wd hw 2 rfl) (wd hw 39 rfl) (by decide) pd_6 (H590.exa (i := 0) rfl) (ct_first l Z a0 hw n0 h557 a511 ia513 ka513 ea513 la513 fb548 gb548 2 L548 qq (fup (fup (fup (fup (fun _ => Value.null) 0 (Value.ref a514)) 1 (Value.ref a514)) 2 (Value.ref a514)) 2 Value.null) (fup (fup (fup (fun _ => 0) 0 (Int32.ofNat q0)) 1 (Int32.ofNat q1)) 2 (Int32.ofNat q2)) (fup (fup (fup (fun _ => 0) 0 ((fun _ => -1) q0)) 1 ((fup (fun _ => -1) q0 (Int32.ofNat 0)) q1)) 2 ((fup (fup (fun _ => -1) q0 (Int32.ofNat 0)) q1 (Int32.ofNat 1)) q2)) (drT ((fup (fup (fun _ => -1) q0 (Int32.ofNat 0)) q1 (Int32.ofNat 1)) q2) (adT (fup (fup (fun _ => -1) q0 (Int32.ofNat 0)) q1 (Int32.ofNat 1)) (adT (fup (fun _ => -1) q0 (Int32.ofNat 0)) (adT (fun _ => -1) (fun _ => 0) q0 0) q1 1) q2 2)) (drF ((fup (fup (fun _ => -1) q0 (Int32.ofNat 0)) q1 (Int32.ofNat 1)) q2) (adF (fup (fup (fun _ => -1) q0 (Int32.ofNat 0)) q1 (Int32.ofNat 1)) (adF (fup (fun _ => -1) q0 (Int32.ofNat 0)) (adF (fun _ => -1) (fun _ => -1) q0 0) q1 1) q2 2) q2) (fup (fup (fup (fup (fun _ => -1) q0 (Int32.ofNat 0)) q1 (Int32.ofNat 1)) q2 (Int32.ofNat 2)) q2 ((fup (fup (fun _ => -1) q0 (Int32.ofNat 0)) q1 (Int32.ofNat 1)) q2)) [(a514, Ob Z "com/example/rankwise/rankwise/engine/Ranked" NSR [.ref a516, .double FP.dconst0]), (a516, Ia Z [])] (by have := l3548; omega) (by omega) hF557 H590) 0 rfl (by decide) (by decide) (by decide) (by decide) rfl rfl [.int (Int32.ofNat qq)] rfl Dx_211 ?_
            rintro _ h591 ⟨rfl, H591⟩
            change G k n0 _ h591 _ _ 214 [.val (.int p0), .val (.int p1), .val (.int p2), .val (.int p3), .val (.int 3), .val (.int (Int32.ofNat q0)), .val (.int (Int32.ofNat q1)), .val (.int (Int32.ofNat q2)), .val (.int 1), .val (.int (Int32.ofNat qq)), .val (.ref a511), .val (.ref a514), .val (.int 2), .val (.int 1)] [.int ((drF ((fup (fup (fun _ => -1) q0 (Int32.ofNat 0)) q1 (Int32.ofNat 1)) q2) (adF (fup (fup (fun _ => -1) q0 (Int32.ofNat 0)) q1 (Int32.ofNat 1)) (adF (fup (fun _ => -1) q0 (Int32.ofNat 0)) (adF (fun _ => -1) (fun _ => -1) q0 0) q1 1) q2 2) q2) qq)]
            refine G.iload K Dx_214 rfl ?_
            rw [own_neq (by omega) (by omega)] at q561
            rw [own_neq (by omega) (by omega)] at q583
            have hf := fst_3_1 q0 q1 q2 qq
            rw [if_neg q583, if_pos q561] at hf
            refine G.icmp_ne K Dx_216 (fun q => absurd hf q) (fun q592 => ?_)
            refine G.iconst K Dx_219 1 rfl ?_
            refine G.goto K Dx_220 ?_
            refine G.ret_bool K Dx_224 ?_
            exact rfl
          · refine G.iconst K Dx_204 0 rfl ?_
            refine G.istore K Dx_205 ([.val (.int p0), .val (.int p1), .val (.int p2), .val (.int p3), .val (.int 3), .val (.int (Int32.ofNat q0)), .val (.int (Int32.ofNat q1)), .val (.int (Int32.ofNat q2)), .val (.int 1), .val (.int (Int32.ofNat qq)), .val (.ref a511), .val (.ref a514), .val (.int 2), .val (.int 0)]) rfl ?_
            refine G.aload K Dx_207 rfl rfl ?_
            refine G.iload K Dx_209 rfl ?_
            have H593 : Hp n0 h557 [(gb548, Ia Z (lst L548 (fup (fup (fup (fup (fun _ => -1) q0 (Int32.ofNat 0)) q1 (Int32.ofNat 1)) q2 (Int32.ofNat 2)) q2 ((fup (fup (fun _ => -1) q0 (Int32.ofNat 0)) q1 (Int32.ofNat 1)) q2)))), (a511, Ob Z "com/example/rankwise/rankwise/engine/KeptItems" NSI [.ref ia513, .ref ka513, .ref ea513, .ref la513, .int 2, .ref fb548, .ref gb548]), (ia513, Ra Z "com/example/rankwise/rankwise/engine/Ranked" (lst 16 (fup (fup (fup (fup (fun _ => Value.null) 0 (Value.ref a514)) 1 (Value.ref a514)) 2 (Value.ref a514)) 2 Value.null))), (ka513, Ia Z (lst 16 (fup (fup (fup (fun _ => 0) 0 (Int32.ofNat q0)) 1 (Int32.ofNat q1)) 2 (Int32.ofNat q2)))), (ea513, Ia Z (lst 16 (fup (fup (fup (fun _ => 0) 0 ((fun _ => -1) q0)) 1 ((fup (fun _ => -1) q0 (Int32.ofNat 0)) q1)) 2 ((fup (fup (fun _ => -1) q0 (Int32.ofNat 0)) q1 (Int32.ofNat 1)) q2)))), (la513, Ia Z (lst 16 (drT ((fup (fup (fun _ => -1) q0 (Int32.ofNat 0)) q1 (Int32.ofNat 1)) q2) (adT (fup (fup (fun _ => -1) q0 (Int32.ofNat 0)) q1 (Int32.ofNat 1)) (adT (fup (fun _ => -1) q0 (Int32.ofNat 0)) (adT (fun _ => -1) (fun _ => 0) q0 0) q1 1) q2 2)))), (fb548, Ia Z (lst L548 (drF ((fup (fup (fun _ => -1) q0 (Int32.ofNat 0)) q1 (Int32.ofNat 1)) q2) (adF (fup (fup (fun _ => -1) q0 (Int32.ofNat 0)) q1 (Int32.ofNat 1)) (adF (fup (fun _ => -1) q0 (Int32.ofNat 0)) (adF (fun _ => -1) (fun _ => -1) q0 0) q1 1) q2 2) q2))), (a514, Ob Z "com/example/rankwise/rankwise/engine/Ranked" NSR [.ref a516, .double FP.dconst0]), (a516, Ia Z [])] := H557.pull 6 rfl
            have H594 : Hp n0 h557 [(fb548, Ia Z (lst L548 (drF ((fup (fup (fun _ => -1) q0 (Int32.ofNat 0)) q1 (Int32.ofNat 1)) q2) (adF (fup (fup (fun _ => -1) q0 (Int32.ofNat 0)) q1 (Int32.ofNat 1)) (adF (fup (fun _ => -1) q0 (Int32.ofNat 0)) (adF (fun _ => -1) (fun _ => -1) q0 0) q1 1) q2 2) q2))), (gb548, Ia Z (lst L548 (fup (fup (fup (fup (fun _ => -1) q0 (Int32.ofNat 0)) q1 (Int32.ofNat 1)) q2 (Int32.ofNat 2)) q2 ((fup (fup (fun _ => -1) q0 (Int32.ofNat 0)) q1 (Int32.ofNat 1)) q2)))), (a511, Ob Z "com/example/rankwise/rankwise/engine/KeptItems" NSI [.ref ia513, .ref ka513, .ref ea513, .ref la513, .int 2, .ref fb548, .ref gb548]), (ia513, Ra Z "com/example/rankwise/rankwise/engine/Ranked" (lst 16 (fup (fup (fup (fup (fun _ => Value.null) 0 (Value.ref a514)) 1 (Value.ref a514)) 2 (Value.ref a514)) 2 Value.null))), (ka513, Ia Z (lst 16 (fup (fup (fup (fun _ => 0) 0 (Int32.ofNat q0)) 1 (Int32.ofNat q1)) 2 (Int32.ofNat q2)))), (ea513, Ia Z (lst 16 (fup (fup (fup (fun _ => 0) 0 ((fun _ => -1) q0)) 1 ((fup (fun _ => -1) q0 (Int32.ofNat 0)) q1)) 2 ((fup (fup (fun _ => -1) q0 (Int32.ofNat 0)) q1 (Int32.ofNat 1)) q2)))), (la513, Ia Z (lst 16 (drT ((fup (fup (fun _ => -1) q0 (Int32.ofNat 0)) q1 (Int32.ofNat 1)) q2) (adT (fup (fup (fun _ => -1) q0 (Int32.ofNat 0)) q1 (Int32.ofNat 1)) (adT (fup (fun _ => -1) q0 (Int32.ofNat 0)) (adT (fun _ => -1) (fun _ => 0) q0 0) q1 1) q2 2)))), (a514, Ob Z "com/example/rankwise/rankwise/engine/Ranked" NSR [.ref a516, .double FP.dconst0]), (a516, Ia Z [])] := H593.pull 6 rfl
            have H595 : Hp n0 h557 [(la513, Ia Z (lst 16 (drT ((fup (fup (fun _ => -1) q0 (Int32.ofNat 0)) q1 (Int32.ofNat 1)) q2) (adT (fup (fup (fun _ => -1) q0 (Int32.ofNat 0)) q1 (Int32.ofNat 1)) (adT (fup (fun _ => -1) q0 (Int32.ofNat 0)) (adT (fun _ => -1) (fun _ => 0) q0 0) q1 1) q2 2)))), (fb548, Ia Z (lst L548 (drF ((fup (fup (fun _ => -1) q0 (Int32.ofNat 0)) q1 (Int32.ofNat 1)) q2) (adF (fup (fup (fun _ => -1) q0 (Int32.ofNat 0)) q1 (Int32.ofNat 1)) (adF (fup (fun _ => -1) q0 (Int32.ofNat 0)) (adF (fun _ => -1) (fun _ => -1) q0 0) q1 1) q2 2) q2))), (gb548, Ia Z (lst L548 (fup (fup (fup (fup (fun _ => -1) q0 (Int32.ofNat 0)) q1 (Int32.ofNat 1)) q2 (Int32.ofNat 2)) q2 ((fup (fup (fun _ => -1) q0 (Int32.ofNat 0)) q1 (Int32.ofNat 1)) q2)))), (a511, Ob Z "com/example/rankwise/rankwise/engine/KeptItems" NSI [.ref ia513, .ref ka513, .ref ea513, .ref la513, .int 2, .ref fb548, .ref gb548]), (ia513, Ra Z "com/example/rankwise/rankwise/engine/Ranked" (lst 16 (fup (fup (fup (fup (fun _ => Value.null) 0 (Value.ref a514)) 1 (Value.ref a514)) 2 (Value.ref a514)) 2 Value.null))), (ka513, Ia Z (lst 16 (fup (fup (fup (fun _ => 0) 0 (Int32.ofNat q0)) 1 (Int32.ofNat q1)) 2 (Int32.ofNat q2)))), (ea513, Ia Z (lst 16 (fup (fup (fup (fun _ => 0) 0 ((fun _ => -1) q0)) 1 ((fup (fun _ => -1) q0 (Int32.ofNat 0)) q1)) 2 ((fup (fup (fun _ => -1) q0 (Int32.ofNat 0)) q1 (Int32.ofNat 1)) q2)))), (a514, Ob Z "com/example/rankwise/rankwise/engine/Ranked" NSR [.ref a516, .double FP.dconst0]), (a516, Ia Z [])] := H594.pull 6 rfl
            have H596 : Hp n0 h557 [(ea513, Ia Z (lst 16 (fup (fup (fup (fun _ => 0) 0 ((fun _ => -1) q0)) 1 ((fup (fun _ => -1) q0 (Int32.ofNat 0)) q1)) 2 ((fup (fup (fun _ => -1) q0 (Int32.ofNat 0)) q1 (Int32.ofNat 1)) q2)))), (la513, Ia Z (lst 16 (drT ((fup (fup (fun _ => -1) q0 (Int32.ofNat 0)) q1 (Int32.ofNat 1)) q2) (adT (fup (fup (fun _ => -1) q0 (Int32.ofNat 0)) q1 (Int32.ofNat 1)) (adT (fup (fun _ => -1) q0 (Int32.ofNat 0)) (adT (fun _ => -1) (fun _ => 0) q0 0) q1 1) q2 2)))), (fb548, Ia Z (lst L548 (drF ((fup (fup (fun _ => -1) q0 (Int32.ofNat 0)) q1 (Int32.ofNat 1)) q2) (adF (fup (fup (fun _ => -1) q0 (Int32.ofNat 0)) q1 (Int32.ofNat 1)) (adF (fup (fun _ => -1) q0 (Int32.ofNat 0)) (adF (fun _ => -1) (fun _ => -1) q0 0) q1 1) q2 2) q2))), (gb548, Ia Z (lst L548 (fup (fup (fup (fup (fun _ => -1) q0 (Int32.ofNat 0)) q1 (Int32.ofNat 1)) q2 (Int32.ofNat 2)) q2 ((fup (fup (fun _ => -1) q0 (Int32.ofNat 0)) q1 (Int32.ofNat 1)) q2)))), (a511, Ob Z "com/example/rankwise/rankwise/engine/KeptItems" NSI [.ref ia513, .ref ka513, .ref ea513, .ref la513, .int 2, .ref fb548, .ref gb548]), (ia513, Ra Z "com/example/rankwise/rankwise/engine/Ranked" (lst 16 (fup (fup (fup (fup (fun _ => Value.null) 0 (Value.ref a514)) 1 (Value.ref a514)) 2 (Value.ref a514)) 2 Value.null))), (ka513, Ia Z (lst 16 (fup (fup (fup (fun _ => 0) 0 (Int32.ofNat q0)) 1 (Int32.ofNat q1)) 2 (Int32.ofNat q2)))), (a514, Ob Z "com/example/rankwise/rankwise/engine/Ranked" NSR [.ref a516, .double FP.dconst0]), (a516, Ia Z [])] := H595.pull 6 rfl
            have H597 : Hp n0 h557 [(ka513, Ia Z (lst 16 (fup (fup (fup (fun _ => 0) 0 (Int32.ofNat q0)) 1 (Int32.ofNat q1)) 2 (Int32.ofNat q2)))), (ea513, Ia Z (lst 16 (fup (fup (fup (fun _ => 0) 0 ((fun _ => -1) q0)) 1 ((fup (fun _ => -1) q0 (Int32.ofNat 0)) q1)) 2 ((fup (fup (fun _ => -1) q0 (Int32.ofNat 0)) q1 (Int32.ofNat 1)) q2)))), (la513, Ia Z (lst 16 (drT ((fup (fup (fun _ => -1) q0 (Int32.ofNat 0)) q1 (Int32.ofNat 1)) q2) (adT (fup (fup (fun _ => -1) q0 (Int32.ofNat 0)) q1 (Int32.ofNat 1)) (adT (fup (fun _ => -1) q0 (Int32.ofNat 0)) (adT (fun _ => -1) (fun _ => 0) q0 0) q1 1) q2 2)))), (fb548, Ia Z (lst L548 (drF ((fup (fup (fun _ => -1) q0 (Int32.ofNat 0)) q1 (Int32.ofNat 1)) q2) (adF (fup (fup (fun _ => -1) q0 (Int32.ofNat 0)) q1 (Int32.ofNat 1)) (adF (fup (fun _ => -1) q0 (Int32.ofNat 0)) (adF (fun _ => -1) (fun _ => -1) q0 0) q1 1) q2 2) q2))), (gb548, Ia Z (lst L548 (fup (fup (fup (fup (fun _ => -1) q0 (Int32.ofNat 0)) q1 (Int32.ofNat 1)) q2 (Int32.ofNat 2)) q2 ((fup (fup (fun _ => -1) q0 (Int32.ofNat 0)) q1 (Int32.ofNat 1)) q2)))), (a511, Ob Z "com/example/rankwise/rankwise/engine/KeptItems" NSI [.ref ia513, .ref ka513, .ref ea513, .ref la513, .int 2, .ref fb548, .ref gb548]), (ia513, Ra Z "com/example/rankwise/rankwise/engine/Ranked" (lst 16 (fup (fup (fup (fup (fun _ => Value.null) 0 (Value.ref a514)) 1 (Value.ref a514)) 2 (Value.ref a514)) 2 Value.null))), (a514, Ob Z "com/example/rankwise/rankwise/engine/Ranked" NSR [.ref a516, .double FP.dconst0]), (a516, Ia Z [])] := H596.pull 6 rfl
            have H598 : Hp n0 h557 [(ia513, Ra Z "com/example/rankwise/rankwise/engine/Ranked" (lst 16 (fup (fup (fup (fup (fun _ => Value.null) 0 (Value.ref a514)) 1 (Value.ref a514)) 2 (Value.ref a514)) 2 Value.null))), (ka513, Ia Z (lst 16 (fup (fup (fup (fun _ => 0) 0 (Int32.ofNat q0)) 1 (Int32.ofNat q1)) 2 (Int32.ofNat q2)))), (ea513, Ia Z (lst 16 (fup (fup (fup (fun _ => 0) 0 ((fun _ => -1) q0)) 1 ((fup (fun _ => -1) q0 (Int32.ofNat 0)) q1)) 2 ((fup (fup (fun _ => -1) q0 (Int32.ofNat 0)) q1 (Int32.ofNat 1)) q2)))), (la513, Ia Z (lst 16 (drT ((fup (fup (fun _ => -1) q0 (Int32.ofNat 0)) q1 (Int32.ofNat 1)) q2) (adT (fup (fup (fun _ => -1) q0 (Int32.ofNat 0)) q1 (Int32.ofNat 1)) (adT (fup (fun _ => -1) q0 (Int32.ofNat 0)) (adT (fun _ => -1) (fun _ => 0) q0 0) q1 1) q2 2)))), (fb548, Ia Z (lst L548 (drF ((fup (fup (fun _ => -1) q0 (Int32.ofNat 0)) q1 (Int32.ofNat 1)) q2) (adF (fup (fup (fun _ => -1) q0 (Int32.ofNat 0)) q1 (Int32.ofNat 1)) (adF (fup (fun _ => -1) q0 (Int32.ofNat 0)) (adF (fun _ => -1) (fun _ => -1) q0 0) q1 1) q2 2) q2))), (gb548, Ia Z (lst L548 (fup (fup (fup (fup (fun _ => -1) q0 (Int32.ofNat 0)) q1 (Int32.ofNat 1)) q2 (Int32.ofNat 2)) q2 ((fup (fup (fun _ => -1) q0 (Int32.ofNat 0)) q1 (Int32.ofNat 1)) q2)))), (a511, Ob Z "com/example/rankwise/rankwise/engine/KeptItems" NSI [.ref ia513, .ref ka513, .ref ea513, .ref la513, .int 2, .ref fb548, .ref gb548]), (a514, Ob Z "com/example/rankwise/rankwise/engine/Ranked" NSR [.ref a516, .double FP.dconst0]), (a516, Ia Z [])] := H597.pull 6 rfl
            have H599 : Hp n0 h557 [(a511, Ob Z "com/example/rankwise/rankwise/engine/KeptItems" NSI [.ref ia513, .ref ka513, .ref ea513, .ref la513, .int 2, .ref fb548, .ref gb548]), (ia513, Ra Z "com/example/rankwise/rankwise/engine/Ranked" (lst 16 (fup (fup (fup (fup (fun _ => Value.null) 0 (Value.ref a514)) 1 (Value.ref a514)) 2 (Value.ref a514)) 2 Value.null))), (ka513, Ia Z (lst 16 (fup (fup (fup (fun _ => 0) 0 (Int32.ofNat q0)) 1 (Int32.ofNat q1)) 2 (Int32.ofNat q2)))), (ea513, Ia Z (lst 16 (fup (fup (fup (fun _ => 0) 0 ((fun _ => -1) q0)) 1 ((fup (fun _ => -1) q0 (Int32.ofNat 0)) q1)) 2 ((fup (fup (fun _ => -1) q0 (Int32.ofNat 0)) q1 (Int32.ofNat 1)) q2)))), (la513, Ia Z (lst 16 (drT ((fup (fup (fun _ => -1) q0 (Int32.ofNat 0)) q1 (Int32.ofNat 1)) q2) (adT (fup (fup (fun _ => -1) q0 (Int32.ofNat 0)) q1 (Int32.ofNat 1)) (adT (fup (fun _ => -1) q0 (Int32.ofNat 0)) (adT (fun _ => -1) (fun _ => 0) q0 0) q1 1) q2 2)))), (fb548, Ia Z (lst L548 (drF ((fup (fup (fun _ => -1) q0 (Int32.ofNat 0)) q1 (Int32.ofNat 1)) q2) (adF (fup (fup (fun _ => -1) q0 (Int32.ofNat 0)) q1 (Int32.ofNat 1)) (adF (fup (fun _ => -1) q0 (Int32.ofNat 0)) (adF (fun _ => -1) (fun _ => -1) q0 0) q1 1) q2 2) q2))), (gb548, Ia Z (lst L548 (fup (fup (fup (fup (fun _ => -1) q0 (Int32.ofNat 0)) q1 (Int32.ofNat 1)) q2 (Int32.ofNat 2)) q2 ((fup (fup (fun _ => -1) q0 (Int32.ofNat 0)) q1 (Int32.ofNat 1)) q2)))), (a514, Ob Z "com/example/rankwise/rankwise/engine/Ranked" NSR [.ref a516, .double FP.dconst0]), (a516, Ia Z [])] := H598.pull 6 rfl
            refine G.callV K hl (wd hw 35 rfl) (wd hw 36 rfl) (wd hw 38 rfl) (wd hw 37 rfl) (wd hw 2 rfl) (wd hw 39 rfl) (by decide) pd_6 (H599.exa (i := 0) rfl) (ct_first l Z a0 hw n0 h557 a511 ia513 ka513 ea513 la513 fb548 gb548 2 L548 qq (fup (fup (fup (fup (fun _ => Value.null) 0 (Value.ref a514)) 1 (Value.ref a514)) 2 (Value.ref a514)) 2 Value.null) (fup (fup (fup (fun _ => 0) 0 (Int32.ofNat q0)) 1 (Int32.ofNat q1)) 2 (Int32.ofNat q2)) (fup (fup (fup (fun _ => 0) 0 ((fun _ => -1) q0)) 1 ((fup (fun _ => -1) q0 (Int32.ofNat 0)) q1)) 2 ((fup (fup (fun _ => -1) q0 (Int32.ofNat 0)) q1 (Int32.ofNat 1)) q2)) (drT ((fup (fup (fun _ => -1) q0 (Int32.ofNat 0)) q1 (Int32.ofNat 1)) q2) (adT (fup (fup (fun _ => -1) q0 (Int32.ofNat 0)) q1 (Int32.ofNat 1)) (adT (fup (fun _ => -1) q0 (Int32.ofNat 0)) (adT (fun _ => -1) (fun _ => 0) q0 0) q1 1) q2 2)) (drF ((fup (fup (fun _ => -1) q0 (Int32.ofNat 0)) q1 (Int32.ofNat 1)) q2) (adF (fup (fup (fun _ => -1) q0 (Int32.ofNat 0)) q1 (Int32.ofNat 1)) (adF (fup (fun _ => -1) q0 (Int32.ofNat 0)) (adF (fun _ => -1) (fun _ => -1) q0 0) q1 1) q2 2) q2) (fup (fup (fup (fup (fun _ => -1) q0 (Int32.ofNat 0)) q1 (Int32.ofNat 1)) q2 (Int32.ofNat 2)) q2 ((fup (fup (fun _ => -1) q0 (Int32.ofNat 0)) q1 (Int32.ofNat 1)) q2)) [(a514, Ob Z "com/example/rankwise/rankwise/engine/Ranked" NSR [.ref a516, .double FP.dconst0]), (a516, Ia Z [])] (by have := l3548; omega) (by omega) hF557 H599) 0 rfl (by decide) (by decide) (by decide) (by decide) rfl rfl [.int (Int32.ofNat qq)] rfl Dx_211 ?_
            rintro _ h600 ⟨rfl, H600⟩
            change G k n0 _ h600 _ _ 214 [.val (.int p0), .val (.int p1), .val (.int p2), .val (.int p3), .val (.int 3), .val (.int (Int32.ofNat q0)), .val (.int (Int32.ofNat q1)), .val (.int (Int32.ofNat q2)), .val (.int 1), .val (.int (Int32.ofNat qq)), .val (.ref a511), .val (.ref a514), .val (.int 2), .val (.int 0)] [.int ((drF ((fup (fup (fun _ => -1) q0 (Int32.ofNat 0)) q1 (Int32.ofNat 1)) q2) (adF (fup (fup (fun _ => -1) q0 (Int32.ofNat 0)) q1 (Int32.ofNat 1)) (adF (fup (fun _ => -1) q0 (Int32.ofNat 0)) (adF (fun _ => -1) (fun _ => -1) q0 0) q1 1) q2 2) q2) qq)]
            refine G.iload K Dx_214 rfl ?_
            rw [own_neq (by omega) (by omega)] at q561
            rw [own_neq (by omega) (by omega)] at q583
            have hf := fst_3_1 q0 q1 q2 qq
            rw [if_pos q583] at hf
            refine G.icmp_ne K Dx_216 (fun q => absurd hf q) (fun q601 => ?_)
            refine G.iconst K Dx_219 1 rfl ?_
            refine G.goto K Dx_220 ?_
            refine G.ret_bool K Dx_224 ?_
            exact rfl
      refine G.iloadN K Dx_46 rfl ?_
      refine G.iconst K Dx_47 1 rfl ?_
      refine G.iand K Dx_48 ?_
      refine G.if_eq K Dx_49 (fun q602 => ?_) (fun q602 => ?_)
      · refine G.iloadN K Dx_59 rfl ?_
        refine G.ldcI K Dx_60 (wd hw 40 rfl) ?_
        refine G.iand K Dx_62 ?_
        obtain ⟨u, hu, eu⟩ := own_msk p2
        rw [eu]
        exact T63 u hu
      · refine G.iloadN K Dx_52 rfl ?_
        refine G.bipush K Dx_53 15 rfl ?_
        refine G.iand K Dx_55 ?_
        refine G.goto K Dx_56 ?_
        obtain ⟨u, hu, eu⟩ := own_and_lt p2 15 (by decide)
        rw [show p2 &&& 15 = Int32.ofNat u from eu]
        exact T63 u (by omega)
set_option maxRecDepth 65536 in
set_option maxHeartbeats 40000000 in
theorem comes_1 {Post : Tables → Env → Array Value → State → Outcome → State → Prop} (hpost : ∀ tb e args s v u, (limb_1_1.after args s (.returned v) u = true ∧ limb_1_2.after args s (.returned v) u = true ∧ True) → FrameEnd s (.returned v) u (Jvm.fieldLocs frame_1_writes args s ++ Jvm.arrayLocs frame_1_arrays args s ++ Jvm.staticLocs frame_1_statics s) 40 320 → Post tb e args s (.returned v) u) :
    ArmFor flags0 classFile x code maxLocals ret World_1 tables_1 room_1 Calls_1 rest_1 Pre_1 Post := by
  intro l hfl _ _ p e ha hc hk s m args below hf hA hF happ hP
  obtain ⟨hcalls, hrest, hpre⟩ := hP
  obtain ⟨-, -, -, hnamed, -, -, -, hat⟩ := (Spec.applies_iff hf).mp happ
  obtain ⟨hg, hn⟩ := and_e (Cond.before_iff.mp (show (Jvm.Cond.and given_1 narrow_1).before args s = true from hpre))
  obtain ⟨g0, g1⟩ := and_e hg
  obtain ⟨u0, v0⟩ := and_e g1
  obtain ⟨u1, v1⟩ := and_e v0
  obtain ⟨u2, v2⟩ := and_e v1
  obtain ⟨w0, w1, w2, w3, rfl⟩ : ∃ w0 w1 w2 w3 : Value, args = #[w0, w1, w2, w3] := by
    have hs : args.size = 4 := by simpa [Cond.value, given_1] using g0
    obtain ⟨L⟩ := args
    match L, hs with
    | [w0, w1, w2, w3], _ => exact ⟨w0, w1, w2, w3, rfl⟩
  have hw := fun d (hd : d ∈ tables_1) => atoms_spec (ws := Jvm.Cond.code x code maxLocals ret :: tables_1) hat d (List.mem_cons_of_mem _ hd)
  obtain ⟨i0, ei0⟩ := is_v u0
  obtain rfl : w0 = (.int i0) := Option.some.inj ei0
  obtain ⟨i1, ei1⟩ := is_v u1
  obtain rfl : w1 = (.int i1) := Option.some.inj ei1
  obtain ⟨i2, ei2⟩ := is_v u2
  obtain rfl : w2 = (.int i2) := Option.some.inj ei2
  obtain ⟨i3, ei3⟩ := is_v v2
  obtain rfl : w3 = (.int i3) := Option.some.inj ei3
  obtain ⟨n, o, h1, h2, h3, _, L, rfl, ⟨rfl, N⟩, hq⟩ := ct_law l s _ hw s.heap.size s.heap i0 i1 i2 i3 (Nat.le_refl _) tables_1 p e ha hc hk s m _ below hf ((Spec.applies_iff_loose hf).mp happ).1 ⟨rfl, State.Warmed39.refl s, rfl⟩ trivial
  refine ⟨n, _, h1, h2, h3, hpost _ _ _ _ _ _ ⟨Cond.after_iff.mpr rfl, Cond.after_iff.mpr (eq_i res_at (Term.int_eval (1)) rfl), trivial⟩ ⟨hq.1, hq.2.1, (hq.2.2.sift fun y hy => Or.inr (N y hy)).mono (by decide) (by decide)⟩⟩
theorem main_1_1 : Claimed_1_1 := comes_1 fun _ _ _ _ _ _ h hF => ⟨h.1, hF⟩
theorem main_1_2 : Claimed_1_2 := comes_1 fun _ _ _ _ _ _ h hF => ⟨h.2.1, hF⟩
end Jvm.Pilot.@@N@@
namespace Jvm.Pilot.@@N@@
open Jvm Jvm.ClassFile Sem Op Lib Jvm.Free Jvm.Stand Jvm.Pilot.@@N@@.Jvm.D
/-! MADE BY PROGRAM (witnessworld.py) out of the Statement's table words and the real class files: 14 classes; the members and pool entries that the words name. The judged class is class 1, her method 1. -/
namespace start1
open Jvm.ClassFile
def u (s : String) : CpInfo := .utf8 (stringToUtf16 s)
/-- a pool by its gaps: so many unusable entries, then the entry; so many at the end -/
def gap : Nat → List CpInfo → List CpInfo
  | 0, r => r
  | n + 1, r => .unusable :: gap n r
def poolList (es : List (Nat × CpInfo)) (last : Nat) : List CpInfo := es.foldr (fun e r => gap e.1 (e.2 :: r)) (gap last [])
def pool (es : List (Nat × CpInfo)) (last : Nat) : Array CpInfo := ⟨poolList es last⟩
def fileOf (pool : Array CpInfo) (this : Nat) (attrs : Array Attribute := #[]) (ms : Array MethodInfo := #[]) (fl : Nat := 33) (sup : Nat := 0) (ifs : Array Nat := #[]) (fds : Array FieldInfo := #[]) : ClassFile where
  minorVersion := 0
  majorVersion := 65
  constantPool := pool
  accessFlags := fl
  thisClass := this
  superClass := sup
  interfaces := ifs
  fields := fds
  methods := ms
  attributes := attrs
def plain (name : String) (sup : Option ClassId) : Class where
  name := name
  kind := .ordinary
  loader := none
  accessFlags := 33
  super := sup
  interfaces := #[]
  cf := none
  fields := #[]
  methods := #[]
  instanceTypes := #[]
  staticTypes := #[]
  resolved := #[]
  callSites := []
  init := .initialized
  statics := none
  mirror := none

def pool0 : Array CpInfo := pool [(5, u "<init>"), (0, u "()V"), (1, .class_ 10), (1, u "java/lang/Object")] 113

def k0c0 : Code := { maxStack := 0, maxLocals := 1, code := object_method_1_code, exceptionTable := #[], attributes := #[] }
def k0m0 : Method := { name := "<init>", desc := "()V", sig := { parameters := [], returnType := none }, accessFlags := 1, code := some k0c0 }
/-- java/lang/Object -/
def k0 : Class := { plain "java/lang/Object" none with
  accessFlags := 33
  interfaces := #[]
  cf := some (fileOf pool0 8 #[] #[{ accessFlags := 1, nameIndex := 5, descriptorIndex := 6, attributes := #[] }] 33 0 #[] #[])
  fields := #[]
  methods := #[k0m0]
  instanceTypes := #[]
  staticTypes := #[]
  resolved := Array.replicate 124 none
  statics := none }

def pool1 : Array CpInfo := pool [(2, .class_ 4), (0, .nameAndType 5 6), (0, u "java/lang/Object"), (0, u "<init>"), (0, u "()V"), (0, .integer 2147483647), (0, .class_ 9), (0, u "com/example/rankwise/rankwise/engine/KeptItems"), (0, .methodref 8 3), (0, .class_ 12), (0, u "com/example/rankwise/rankwise/engine/Ranked"), (0, .methodref 11 14), (0, .nameAndType 5 15), (0, u "([ID)V"), (0, .methodref 8 17), (0, .nameAndType 18 19), (0, u "add"), (0, u "(ILcom/example/rankwise/rankwise/engine/Ranked;)V"), (0, .methodref 8 21), (0, .nameAndType 22 6), (0, u "dropLast"), (0, .methodref 8 24), (0, .nameAndType 25 26), (0, u "first"), (0, u "(I)I"), (0, .class_ 28), (0, u "com/example/rankwise/rankwise/engine/KeptItemsFirstPinLaw"), (2, u "law"), (0, u "(IIII)Z")] 3

def k1m0 : Method := { name := "<init>", desc := "()V", sig := { parameters := [], returnType := none }, accessFlags := 1, code := none }
def k1c1 : Code := { maxStack := 5, maxLocals := 14, code := code, exceptionTable := #[], attributes := #[] }
def k1m1 : Method := { name := "law", desc := "(IIII)Z", sig := { parameters := [.int, .int, .int, .int], returnType := some .boolean }, accessFlags := 9, code := some k1c1 }
/-- com/example/rankwise/rankwise/engine/KeptItemsFirstPinLaw -/
def k1 : Class := { plain "com/example/rankwise/rankwise/engine/KeptItemsFirstPinLaw" (some 0) with
  accessFlags := 49
  interfaces := #[]
  cf := some (fileOf pool1 27 #[] #[{ accessFlags := 1, nameIndex := 5, descriptorIndex := 6, attributes := #[] }, { accessFlags := 9, nameIndex := 31, descriptorIndex := 32, attributes := #[] }] 49 2 #[] #[])
  fields := #[]
  methods := #[k1m0, k1m1]
  instanceTypes := #[]
  staticTypes := #[]
  resolved := Array.replicate 36 none
  statics := none }

def pool2 : Array CpInfo := pool [(1, .methodref 2 3), (0, .class_ 4), (0, .nameAndType 5 6), (0, u "java/lang/Object"), (0, u "<init>"), (0, u "()V"), (0, .class_ 8), (0, u "com/example/rankwise/rankwise/engine/Ranked"), (0, .fieldref 10 11), (0, .class_ 12), (0, .nameAndType 13 14), (0, u "com/example/rankwise/rankwise/engine/KeptItems"), (0, u "items"), (0, u "[Lcom/example/rankwise/rankwise/engine/Ranked;"), (0, .fieldref 10 16), (0, .nameAndType 17 18), (0, u "keyOf"), (0, u "[I"), (0, .fieldref 10 20), (0, .nameAndType 21 18), (0, u "earlier"), (0, .fieldref 10 23), (0, .nameAndType 24 18), (0, u "later"), (0, .fieldref 10 26), (0, .nameAndType 27 18), (0, u "firstOf"), (0, .fieldref 10 29), (0, .nameAndType 30 18), (0, u "lastOf"), (0, .fieldref 10 32), (0, .nameAndType 33 34), (0, u "size"), (0, u "I"), (1, .class_ 38), (1, u "java/util/Arrays"), (0, u "copyOf"), (2, .methodref 36 43), (0, .nameAndType 39 44), (0, u "([II)[I"), (0, .methodref 46 47), (0, .class_ 48), (0, .nameAndType 49 50), (0, u "java/lang/Math"), (0, u "max"), (0, u "(II)I"), (0, .methodref 36 52), (0, .nameAndType 53 54), (0, u "fill"), (0, u "([IIII)V"), (2, u "add"), (0, u "(ILcom/example/rankwise/rankwise/engine/Ranked;)V"), (1, u "first"), (0, u "(I)I"), (7, u "dropLast")] 2

def k2c0 : Code := { maxStack := 2, maxLocals := 1, code := prog_25_method_1_code, exceptionTable := #[], attributes := #[] }
def k2m0 : Method := { name := "<init>", desc := "()V", sig := { parameters := [], returnType := none }, accessFlags := 0, code := some k2c0 }
def k2c1 : Code := { maxStack := 4, maxLocals := 5, code := prog_25_method_2_code, exceptionTable := #[], attributes := #[] }
def k2m1 : Method := { name := "add", desc := "(ILcom/example/rankwise/rankwise/engine/Ranked;)V", sig := { parameters := [.int, (.object "com/example/rankwise/rankwise/engine/Ranked")], returnType := none }, accessFlags := 0, code := some k2c1 }
def k2c2 : Code := { maxStack := 2, maxLocals := 2, code := prog_25_method_3_code, exceptionTable := #[], attributes := #[] }
def k2m2 : Method := { name := "first", desc := "(I)I", sig := { parameters := [.int], returnType := some .int }, accessFlags := 0, code := some k2c2 }
def k2c3 : Code := { maxStack := 3, maxLocals := 3, code := prog_25_method_8_code, exceptionTable := #[], attributes := #[] }
def k2m3 : Method := { name := "dropLast", desc := "()V", sig := { parameters := [], returnType := none }, accessFlags := 0, code := some k2c3 }
/-- com/example/rankwise/rankwise/engine/KeptItems -/
def k2 : Class := { plain "com/example/rankwise/rankwise/engine/KeptItems" (some 0) with
  accessFlags := 32
  interfaces := #[]
  cf := some (fileOf pool2 10 #[] #[{ accessFlags := 0, nameIndex := 5, descriptorIndex := 6, attributes := #[] }, { accessFlags := 0, nameIndex := 57, descriptorIndex := 58, attributes := #[] }, { accessFlags := 0, nameIndex := 60, descriptorIndex := 61, attributes := #[] }, { accessFlags := 0, nameIndex := 69, descriptorIndex := 6, attributes := #[] }] 32 2 #[] #[{ accessFlags := 2, nameIndex := 13, descriptorIndex := 14, attributes := #[] }, { accessFlags := 2, nameIndex := 17, descriptorIndex := 18, attributes := #[] }, { accessFlags := 2, nameIndex := 21, descriptorIndex := 18, attributes := #[] }, { accessFlags := 2, nameIndex := 24, descriptorIndex := 18, attributes := #[] }, { accessFlags := 2, nameIndex := 33, descriptorIndex := 34, attributes := #[] }, { accessFlags := 2, nameIndex := 27, descriptorIndex := 18, attributes := #[] }, { accessFlags := 2, nameIndex := 30, descriptorIndex := 18, attributes := #[] }])
  fields := #[{ name := "items", type := (.array (.object "com/example/rankwise/rankwise/engine/Ranked")), accessFlags := 2, slot := 0, constantValue := 0 }, { name := "keyOf", type := (.array .int), accessFlags := 2, slot := 1, constantValue := 0 }, { name := "earlier", type := (.array .int), accessFlags := 2, slot := 2, constantValue := 0 }, { name := "later", type := (.array .int), accessFlags := 2, slot := 3, constantValue := 0 }, { name := "size", type := .int, accessFlags := 2, slot := 4, constantValue := 0 }, { name := "firstOf", type := (.array .int), accessFlags := 2, slot := 5, constantValue := 0 }, { name := "lastOf", type := (.array .int), accessFlags := 2, slot := 6, constantValue := 0 }]
  methods := #[k2m0, k2m1, k2m2, k2m3]
  instanceTypes := #[(.array (.object "com/example/rankwise/rankwise/engine/Ranked")), (.array .int), (.array .int), (.array .int), .int, (.array .int), (.array .int)]
  staticTypes := #[]
  resolved := Array.replicate 72 none
  statics := none }

def pool3 : Array CpInfo := pool [(1, .methodref 2 3), (0, .class_ 4), (0, .nameAndType 5 6), (0, u "java/lang/Object"), (0, u "<init>"), (0, u "()V"), (0, .fieldref 8 9), (0, .class_ 10), (0, .nameAndType 11 12), (0, u "com/example/rankwise/rankwise/engine/Ranked"), (0, u "solution"), (0, u "[I"), (0, .fieldref 8 14), (0, .nameAndType 15 16), (0, u "utility"), (0, u "D"), (11, u "BEST_FIRST"), (0, u "Ljava/util/Comparator;"), (2, u "([ID)V")] 29

def k3c0 : Code := { maxStack := 3, maxLocals := 4, code := prog_61_method_1_code, exceptionTable := #[], attributes := #[] }
def k3m0 : Method := { name := "<init>", desc := "([ID)V", sig := { parameters := [(.array .int), .double], returnType := none }, accessFlags := 0, code := some k3c0 }
/-- com/example/rankwise/rankwise/engine/Ranked -/
def k3 : Class := { plain "com/example/rankwise/rankwise/engine/Ranked" (some 0) with
  accessFlags := 32
  interfaces := #[]
  cf := some (fileOf pool3 8 #[] #[{ accessFlags := 0, nameIndex := 5, descriptorIndex := 32, attributes := #[] }] 32 2 #[] #[{ accessFlags := 24, nameIndex := 28, descriptorIndex := 29, attributes := #[] }, { accessFlags := 18, nameIndex := 11, descriptorIndex := 12, attributes := #[] }, { accessFlags := 18, nameIndex := 15, descriptorIndex := 16, attributes := #[] }])
  fields := #[{ name := "BEST_FIRST", type := (.object "java/util/Comparator"), accessFlags := 24, slot := 0, constantValue := 0 }, { name := "solution", type := (.array .int), accessFlags := 18, slot := 0, constantValue := 0 }, { name := "utility", type := .double, accessFlags := 18, slot := 1, constantValue := 0 }]
  methods := #[k3m0]
  instanceTypes := #[(.array .int), .double]
  staticTypes := #[(.object "java/util/Comparator")]
  resolved := Array.replicate 62 none
  statics := none }

def pool4 : Array CpInfo := pool [(1, .class_ 2), (0, u "java/lang/Math"), (1, .class_ 6), (1, u "java/lang/Object"), (0, u "<init>"), (0, u "()V"), (89, .class_ 100), (1, u "java/lang/Math$RandomNumberGeneratorHolder"), (71, u "negativeZeroFloatBits"), (0, u "J"), (2, u "negativeZeroDoubleBits"), (21, u "max"), (2, u "min"), (43, u "$assertionsDisabled"), (0, u "Z"), (88, u "(II)I"), (2, u "twoToTheDoubleScaleDown"), (0, u "D"), (4, u "twoToTheDoubleScaleUp"), (9, u "E"), (3, u "PI"), (2, u "TAU"), (2, u "DEGREES_TO_RADIANS"), (0, u "RADIANS_TO_DEGREES")] 94

def k4m0 : Method := { name := "<init>", desc := "()V", sig := { parameters := [], returnType := none }, accessFlags := 2, code := none }
def k4c1 : Code := { maxStack := 2, maxLocals := 2, code := jdk_29_method_65_code, exceptionTable := #[], attributes := #[] }
def k4m1 : Method := { name := "max", desc := "(II)I", sig := { parameters := [.int, .int], returnType := some .int }, accessFlags := 9, code := some k4c1 }
def k4c2 : Code := { maxStack := 2, maxLocals := 2, code := jdk_29_method_69_code, exceptionTable := #[], attributes := #[] }
def k4m2 : Method := { name := "min", desc := "(II)I", sig := { parameters := [.int, .int], returnType := some .int }, accessFlags := 9, code := some k4c2 }
/-- java/lang/Math -/
def k4 : Class := { plain "java/lang/Math" (some 0) with
  accessFlags := 49
  interfaces := #[]
  cf := some (fileOf pool4 1 #[.nestMembers #[98]] #[{ accessFlags := 2, nameIndex := 7, descriptorIndex := 8, attributes := #[] }, { accessFlags := 9, nameIndex := 198, descriptorIndex := 335, attributes := #[] }, { accessFlags := 9, nameIndex := 201, descriptorIndex := 335, attributes := #[] }] 49 4 #[] #[{ accessFlags := 25, nameIndex := 354, descriptorIndex := 339, attributes := #[] }, { accessFlags := 25, nameIndex := 358, descriptorIndex := 339, attributes := #[] }, { accessFlags := 25, nameIndex := 361, descriptorIndex := 339, attributes := #[] }, { accessFlags := 26, nameIndex := 364, descriptorIndex := 339, attributes := #[] }, { accessFlags := 26, nameIndex := 365, descriptorIndex := 339, attributes := #[] }, { accessFlags := 26, nameIndex := 172, descriptorIndex := 173, attributes := #[] }, { accessFlags := 26, nameIndex := 176, descriptorIndex := 173, attributes := #[] }, { accessFlags := 8, nameIndex := 344, descriptorIndex := 339, attributes := #[] }, { accessFlags := 8, nameIndex := 338, descriptorIndex := 339, attributes := #[] }, { accessFlags := 4120, nameIndex := 245, descriptorIndex := 246, attributes := #[] }])
  fields := #[{ name := "E", type := .double, accessFlags := 25, slot := 0, constantValue := 0 }, { name := "PI", type := .double, accessFlags := 25, slot := 1, constantValue := 0 }, { name := "TAU", type := .double, accessFlags := 25, slot := 2, constantValue := 0 }, { name := "DEGREES_TO_RADIANS", type := .double, accessFlags := 26, slot := 3, constantValue := 0 }, { name := "RADIANS_TO_DEGREES", type := .double, accessFlags := 26, slot := 4, constantValue := 0 }, { name := "negativeZeroFloatBits", type := .long, accessFlags := 26, slot := 5, constantValue := 0 }, { name := "negativeZeroDoubleBits", type := .long, accessFlags := 26, slot := 6, constantValue := 0 }, { name := "twoToTheDoubleScaleUp", type := .double, accessFlags := 8, slot := 7, constantValue := 0 }, { name := "twoToTheDoubleScaleDown", type := .double, accessFlags := 8, slot := 8, constantValue := 0 }, { name := "$assertionsDisabled", type := .boolean, accessFlags := 4120, slot := 9, constantValue := 0 }]
  methods := #[k4m0, k4m1, k4m2]
  instanceTypes := #[]
  staticTypes := #[.double, .double, .double, .double, .double, .long, .long, .double, .double, .boolean]
  resolved := Array.replicate 460 none
  statics := none }

def pool5 : Array CpInfo := pool [(2, .class_ 4), (1, u "java/lang/Object"), (0, u "<init>"), (0, u "()V"), (5, u "([IIII)V"), (0, .methodref 14 15), (0, .class_ 16), (0, .nameAndType 17 18), (0, u "java/util/Arrays"), (0, u "rangeCheck"), (0, u "(III)V"), (55, .class_ 76), (1, u "java/util/Arrays$NaturalOrder"), (36, .class_ 115), (1, u "java/util/Arrays$LegacyMergeSort"), (1, u "Z"), (32, .methodref 151 152), (0, .class_ 153), (0, .nameAndType 154 155), (0, u "java/lang/System"), (0, u "arraycopy"), (0, u "(Ljava/lang/Object;ILjava/lang/Object;II)V"), (146, u "copyOf"), (1, .methodref 305 306), (0, .class_ 307), (0, .nameAndType 308 309), (0, u "java/lang/Math"), (0, u "min"), (0, u "(II)I"), (65, .class_ 376), (0, u "java/util/Arrays$ArrayList"), (68, u "$assertionsDisabled"), (269, u "MIN_ARRAY_SORT_GRAN"), (0, u "I"), (2, u "INSERTIONSORT_THRESHOLD"), (120, u "fill"), (30, u "([II)[I"), (103, .class_ 976), (0, u "java/util/Arrays$ArrayItr")] 52

def k5m0 : Method := { name := "<init>", desc := "()V", sig := { parameters := [], returnType := none }, accessFlags := 2, code := none }
def k5c1 : Code := { maxStack := 4, maxLocals := 3, code := jdk_65_method_30_code, exceptionTable := #[], attributes := #[] }
def k5m1 : Method := { name := "rangeCheck", desc := "(III)V", sig := { parameters := [.int, .int, .int], returnType := none }, accessFlags := 8, code := some k5c1 }
def k5c2 : Code := { maxStack := 3, maxLocals := 5, code := jdk_65_method_104_code, exceptionTable := #[], attributes := #[] }
def k5m2 : Method := { name := "fill", desc := "([IIII)V", sig := { parameters := [(.array .int), .int, .int, .int], returnType := none }, accessFlags := 9, code := some k5c2 }
def k5c3 : Code := { maxStack := 6, maxLocals := 3, code := jdk_65_method_123_code, exceptionTable := #[], attributes := #[] }
def k5m3 : Method := { name := "copyOf", desc := "([II)[I", sig := { parameters := [(.array .int), .int], returnType := some (.array .int) }, accessFlags := 9, code := some k5c3 }
/-- java/util/Arrays -/
def k5 : Class := { plain "java/util/Arrays" (some 0) with
  accessFlags := 49
  interfaces := #[]
  cf := some (fileOf pool5 14 #[.nestMembers #[975, 375, 113, 74]] #[{ accessFlags := 2, nameIndex := 5, descriptorIndex := 6, attributes := #[] }, { accessFlags := 8, nameIndex := 17, descriptorIndex := 18, attributes := #[] }, { accessFlags := 9, nameIndex := 840, descriptorIndex := 12, attributes := #[] }, { accessFlags := 9, nameIndex := 302, descriptorIndex := 871, attributes := #[] }] 49 2 #[] #[{ accessFlags := 26, nameIndex := 715, descriptorIndex := 716, attributes := #[] }, { accessFlags := 26, nameIndex := 719, descriptorIndex := 716, attributes := #[] }, { accessFlags := 4120, nameIndex := 445, descriptorIndex := 117, attributes := #[] }])
  fields := #[{ name := "MIN_ARRAY_SORT_GRAN", type := .int, accessFlags := 26, slot := 0, constantValue := 0 }, { name := "INSERTIONSORT_THRESHOLD", type := .int, accessFlags := 26, slot := 1, constantValue := 0 }, { name := "$assertionsDisabled", type := .boolean, accessFlags := 4120, slot := 2, constantValue := 0 }]
  methods := #[k5m0, k5m1, k5m2, k5m3]
  instanceTypes := #[]
  staticTypes := #[.int, .int, .boolean]
  resolved := Array.replicate 1029 none
  statics := none }

def pool6 : Array CpInfo := pool [(2, .class_ 4), (1, u "java/lang/Object"), (0, u "<init>"), (0, u "()V"), (1, .class_ 10), (1, u "java/lang/System"), (0, u "allowSecurityManager"), (0, u "I"), (16, u "cons"), (0, u "Ljava/io/Console;"), (77, .class_ 110), (1, u "java/lang/System$CallersHolder"), (43, u "initialErrStream"), (0, u "Ljava/io/PrintStream;"), (19, u "security"), (0, u "Ljava/lang/SecurityManager;"), (31, .class_ 209), (0, u "java/lang/System$1"), (7, u "props"), (0, u "Ljava/util/Properties;"), (2, u "lineSeparator"), (0, u "Ljava/lang/String;"), (96, .class_ 321), (1, u "java/lang/System$LoggerFinder"), (5, .class_ 328), (0, u "java/lang/System$Logger"), (67, u "err"), (2, u "out"), (91, u "notSupportedJnuEncoding"), (15, u "in"), (17, u "initialIn"), (0, u "Ljava/io/InputStream;"), (35, u "bootLayer"), (0, u "Ljava/lang/ModuleLayer;"), (99, .class_ 664), (0, u "java/lang/System$2"), (9, u "NEVER"), (2, u "MAYBE"), (49, u "arraycopy"), (0, u "(Ljava/lang/Object;ILjava/lang/Object;II)V"), (72, .class_ 802), (0, u "java/lang/System$Logger$Level")] 31

def k6m0 : Method := { name := "<init>", desc := "()V", sig := { parameters := [], returnType := none }, accessFlags := 2, code := none }
def k6m1 : Method := { name := "arraycopy", desc := "(Ljava/lang/Object;ILjava/lang/Object;II)V", sig := { parameters := [(.object "java/lang/Object"), .int, (.object "java/lang/Object"), .int, .int], returnType := none }, accessFlags := 265, code := none }
/-- java/lang/System -/
def k6 : Class := { plain "java/lang/System" (some 0) with
  accessFlags := 49
  interfaces := #[]
  cf := some (fileOf pool6 8 #[.nestMembers #[319, 327, 801, 108, 663, 208]] #[{ accessFlags := 2, nameIndex := 5, descriptorIndex := 6, attributes := #[] }, { accessFlags := 265, nameIndex := 727, descriptorIndex := 728, attributes := #[] }] 49 2 #[] #[{ accessFlags := 25, nameIndex := 507, descriptorIndex := 526, attributes := #[] }, { accessFlags := 25, nameIndex := 399, descriptorIndex := 155, attributes := #[] }, { accessFlags := 25, nameIndex := 396, descriptorIndex := 155, attributes := #[] }, { accessFlags := 10, nameIndex := 525, descriptorIndex := 526, attributes := #[] }, { accessFlags := 26, nameIndex := 674, descriptorIndex := 12, attributes := #[] }, { accessFlags := 26, nameIndex := 677, descriptorIndex := 12, attributes := #[] }, { accessFlags := 10, nameIndex := 11, descriptorIndex := 12, attributes := #[] }, { accessFlags := 74, nameIndex := 175, descriptorIndex := 176, attributes := #[] }, { accessFlags := 10, nameIndex := 491, descriptorIndex := 222, attributes := #[] }, { accessFlags := 74, nameIndex := 29, descriptorIndex := 30, attributes := #[] }, { accessFlags := 74, nameIndex := 154, descriptorIndex := 155, attributes := #[] }, { accessFlags := 10, nameIndex := 217, descriptorIndex := 218, attributes := #[] }, { accessFlags := 10, nameIndex := 221, descriptorIndex := 222, attributes := #[] }, { accessFlags := 8, nameIndex := 562, descriptorIndex := 563, attributes := #[] }])
  fields := #[{ name := "in", type := (.object "java/io/InputStream"), accessFlags := 25, slot := 0, constantValue := 0 }, { name := "out", type := (.object "java/io/PrintStream"), accessFlags := 25, slot := 1, constantValue := 0 }, { name := "err", type := (.object "java/io/PrintStream"), accessFlags := 25, slot := 2, constantValue := 0 }, { name := "initialIn", type := (.object "java/io/InputStream"), accessFlags := 10, slot := 3, constantValue := 0 }, { name := "NEVER", type := .int, accessFlags := 26, slot := 4, constantValue := 0 }, { name := "MAYBE", type := .int, accessFlags := 26, slot := 5, constantValue := 0 }, { name := "allowSecurityManager", type := .int, accessFlags := 10, slot := 6, constantValue := 0 }, { name := "security", type := (.object "java/lang/SecurityManager"), accessFlags := 74, slot := 7, constantValue := 0 }, { name := "notSupportedJnuEncoding", type := (.object "java/lang/String"), accessFlags := 10, slot := 8, constantValue := 0 }, { name := "cons", type := (.object "java/io/Console"), accessFlags := 74, slot := 9, constantValue := 0 }, { name := "initialErrStream", type := (.object "java/io/PrintStream"), accessFlags := 74, slot := 10, constantValue := 0 }, { name := "props", type := (.object "java/util/Properties"), accessFlags := 10, slot := 11, constantValue := 0 }, { name := "lineSeparator", type := (.object "java/lang/String"), accessFlags := 10, slot := 12, constantValue := 0 }, { name := "bootLayer", type := (.object "java/lang/ModuleLayer"), accessFlags := 8, slot := 13, constantValue := 0 }]
  methods := #[k6m0, k6m1]
  instanceTypes := #[]
  staticTypes := #[(.object "java/io/InputStream"), (.object "java/io/PrintStream"), (.object "java/io/PrintStream"), (.object "java/io/InputStream"), .int, .int, .int, (.object "java/lang/SecurityManager"), (.object "java/lang/String"), (.object "java/io/Console"), (.object "java/io/PrintStream"), (.object "java/util/Properties"), (.object "java/lang/String"), (.object "java/lang/ModuleLayer")]
  resolved := Array.replicate 834 none
  statics := none }

def pool7 : Array CpInfo := pool [(1, u "java/lang/Cloneable"), (0, .class_ 1), (0, u "java/lang/Object"), (0, .class_ 3)] 3

/-- java/lang/Cloneable -/
def k7 : Class := { plain "java/lang/Cloneable" (some 0) with
  accessFlags := 1537
  interfaces := #[]
  cf := some (fileOf pool7 2 #[] #[] 1537 4 #[] #[])
  fields := #[]
  methods := #[]
  instanceTypes := #[]
  staticTypes := #[]
  resolved := Array.replicate 8 none
  statics := none }

def pool8 : Array CpInfo := pool [(1, u "java/io/Serializable"), (0, .class_ 1), (0, u "java/lang/Object"), (0, .class_ 3)] 3

/-- java/io/Serializable -/
def k8 : Class := { plain "java/io/Serializable" (some 0) with
  accessFlags := 1537
  interfaces := #[]
  cf := some (fileOf pool8 2 #[] #[] 1537 4 #[] #[])
  fields := #[]
  methods := #[]
  instanceTypes := #[]
  staticTypes := #[]
  resolved := Array.replicate 8 none
  statics := none }

/-- the primitive byte -/
def k9 : Class := { plain "byte" none with kind := .primitive 'B', accessFlags := 0x411 }
/-- [B -/
def k10 : Class := { plain "[B" (some 0) with kind := .array 9 .byte, interfaces := #[7, 8], accessFlags := 1041 }

/-- the primitive int -/
def k11 : Class := { plain "int" none with kind := .primitive 'I', accessFlags := 0x411 }
/-- [I -/
def k12 : Class := { plain "[I" (some 0) with kind := .array 11 .int, interfaces := #[7, 8], accessFlags := 1041 }

/-- [Lcom/example/rankwise/rankwise/engine/Ranked; -/
def k13 : Class := { plain "[Lcom/example/rankwise/rankwise/engine/Ranked;" (some 0) with kind := .array 3 (.object "com/example/rankwise/rankwise/engine/Ranked"), interfaces := #[7, 8], accessFlags := 1041 }

def heap : Heap := #[]
def classes : Array Class := #[k0, k1, k2, k3, k4, k5, k6, k7, k8, k9, k10, k11, k12, k13]
def interned : List (Array UInt16 × Addr) := []
def slotsUsed : Nat := 0
def theMethod : MethodId := ⟨1, 1⟩
def args0 : Array Value := #[.int 5, .int 6, .int 7, .int 8]
def aboutOver (below : List Frame) : State where
  vm := { classes := classes, interned := interned.toArray }
  heap := heap
  slotsUsed := slotsUsed
  threads := #[{ frames := .invoking theMethod args0 :: below }]
def below0 : List Frame := [.native { method := ⟨0, 0⟩, args := #[] }]
def about1 : State := aboutOver below0
def p0 : Program := .bare "" "" ""
def e0 : Env := launch0.env 0 0 0
theorem w_frames : about1.frames = Frame.invoking theMethod args0 :: below0 := rfl
set_option maxRecDepth 65536 in
theorem w_args : argsFit about1.vm theMethod args0 = true := by decide +kernel
set_option maxRecDepth 65536 in
theorem w_heap : heapFits about1 = true := by decide +kernel
set_option maxRecDepth 65536 in
theorem w_runnable : about1.curStatus? = some .runnable := by decide +kernel
set_option maxRecDepth 65536 in
theorem w_alone : about1.alone = true := by decide +kernel
set_option maxRecDepth 65536 in
theorem w_named : about1.methodNamed? x = some theMethod := by decide +kernel
set_option maxRecDepth 65536 in
theorem w_hears : about1.hears theMethod below0 = true := by decide +kernel
set_option maxRecDepth 65536 in
theorem w_ripe : about1.ripe theMethod args0 below0 = true := by decide +kernel
theorem w_running : about1.status = .running := rfl
set_option maxRecDepth 65536 in
theorem w_room : about1.hasRoom e0.platform room_1 = true :=
  launch0.hasRoom_least _ room_1 (by decide +kernel) (by decide +kernel) (by decide +kernel) (by decide +kernel) (by decide +kernel) (by decide +kernel)
theorem allAtoms_all (ts : List Jvm.Cond) (a : Array Jvm.Value) (st : Jvm.State) : (allAtoms ts).before a st = ts.all (fun c => c.before a st) := by
  induction ts with
  | nil => rfl
  | cons c t ih =>
    show (Jvm.Cond.and c (allAtoms t)).before a st = _
    rw [Jvm.Cond.before_and, ih, List.all_cons]
def words1 : List Jvm.Cond := Jvm.Cond.code x code maxLocals ret :: tables_1
/-- a 'code' word, met by the world's own term for the bytes: nothing is compared byte by byte -/
theorem code_word {y : MethodName} {bytes : ByteArray} {mx : Nat} {rt : Option FieldType} {a : Array Value} {s : State} {m : MethodId} {meth : Method} {c : Code} (h1 : s.methodNamed? y = some m) (h2 : s.vm.method? m = some meth) (h3 : meth.code = some c) (h4 : c.code = bytes)
    (h5 : (c.maxLocals == mx && c.exceptionTable.isEmpty && decide (c.maxStack ≤ mostOperands) && decide (meth.sig.returnType = rt) && !meth.locks && decide (parseMethodDescriptor y.desc = some meth.sig)) = true) : (Jvm.Cond.code y bytes mx rt).before a s = true := by
  simp only [Bool.and_eq_true, beq_iff_eq, Bool.not_eq_true', decide_eq_true_eq] at h5
  obtain ⟨⟨⟨⟨⟨g1, g2⟩, g3⟩, g4⟩, g5⟩, g6⟩ := h5
  simp [Cond.before, Cond.holds, Cond.value, h1, h2, h3, h4, g1, g2, g3, g4, g5, g6]
def isCode : Jvm.Cond → Bool
  | .code _ _ _ _ => true
  | _ => false
theorem all_split {L : List Jvm.Cond} {P : Jvm.Cond → Bool} (h1 : L.all (fun c => isCode c || P c) = true) (h2 : ∀ c ∈ L.filter isCode, P c = true) : L.all P = true := by
  refine List.all_eq_true.mpr fun c hc => ?_
  have h := List.all_eq_true.mp h1 c hc
  rcases Bool.eq_false_or_eq_true (isCode c) with hi | hi
  · exact h2 c (List.mem_filter.mpr ⟨hc, hi⟩)
  · simpa [hi] using h
set_option maxRecDepth 65536 in
theorem w_c0 : (Jvm.Cond.code x code maxLocals ret).before args0 about1 = true := code_word (m := ⟨1, 1⟩) (meth := k1m1) (c := k1c1) (by decide +kernel) rfl rfl rfl (by decide +kernel)
set_option maxRecDepth 65536 in
theorem w_c1 : (Jvm.Cond.code ({ cls := "com/example/rankwise/rankwise/engine/KeptItems", name := "<init>", desc := "()V" } : Jvm.MethodName) prog_25_method_1_code (1 : Nat) (Option.none : Option Jvm.ClassFile.FieldType)).before args0 about1 = true := code_word (m := ⟨2, 0⟩) (meth := k2m0) (c := k2c0) (by decide +kernel) rfl rfl rfl (by decide +kernel)
set_option maxRecDepth 65536 in
theorem w_c2 : (Jvm.Cond.code ({ cls := "java/lang/Object", name := "<init>", desc := "()V" } : Jvm.MethodName) object_method_1_code (1 : Nat) (Option.none : Option Jvm.ClassFile.FieldType)).before args0 about1 = true := code_word (m := ⟨0, 0⟩) (meth := k0m0) (c := k0c0) (by decide +kernel) rfl rfl rfl (by decide +kernel)
set_option maxRecDepth 65536 in
theorem w_c3 : (Jvm.Cond.code ({ cls := "com/example/rankwise/rankwise/engine/Ranked", name := "<init>", desc := "([ID)V" } : Jvm.MethodName) prog_61_method_1_code (4 : Nat) (Option.none : Option Jvm.ClassFile.FieldType)).before args0 about1 = true := code_word (m := ⟨3, 0⟩) (meth := k3m0) (c := k3c0) (by decide +kernel) rfl rfl rfl (by decide +kernel)
set_option maxRecDepth 65536 in
theorem w_c4 : (Jvm.Cond.code ({ cls := "com/example/rankwise/rankwise/engine/KeptItems", name := "first", desc := "(I)I" } : Jvm.MethodName) prog_25_method_3_code (2 : Nat) (Option.some Jvm.ClassFile.FieldType.int)).before args0 about1 = true := code_word (m := ⟨2, 2⟩) (meth := k2m2) (c := k2c2) (by decide +kernel) rfl rfl rfl (by decide +kernel)
set_option maxRecDepth 65536 in
theorem w_c5 : (Jvm.Cond.code ({ cls := "com/example/rankwise/rankwise/engine/KeptItems", name := "add", desc := "(ILcom/example/rankwise/rankwise/engine/Ranked;)V" } : Jvm.MethodName) prog_25_method_2_code (5 : Nat) (Option.none : Option Jvm.ClassFile.FieldType)).before args0 about1 = true := code_word (m := ⟨2, 1⟩) (meth := k2m1) (c := k2c1) (by decide +kernel) rfl rfl rfl (by decide +kernel)
set_option maxRecDepth 65536 in
theorem w_c6 : (Jvm.Cond.code ({ cls := "java/lang/Math", name := "max", desc := "(II)I" } : Jvm.MethodName) jdk_29_method_65_code (2 : Nat) (Option.some Jvm.ClassFile.FieldType.int)).before args0 about1 = true := code_word (m := ⟨4, 1⟩) (meth := k4m1) (c := k4c1) (by decide +kernel) rfl rfl rfl (by decide +kernel)
set_option maxRecDepth 65536 in
theorem w_c7 : (Jvm.Cond.code ({ cls := "java/util/Arrays", name := "copyOf", desc := "([II)[I" } : Jvm.MethodName) jdk_65_method_123_code (3 : Nat) (Option.some (Jvm.ClassFile.FieldType.array Jvm.ClassFile.FieldType.int))).before args0 about1 = true := code_word (m := ⟨5, 3⟩) (meth := k5m3) (c := k5c3) (by decide +kernel) rfl rfl rfl (by decide +kernel)
set_option maxRecDepth 65536 in
theorem w_c8 : (Jvm.Cond.code ({ cls := "java/lang/Math", name := "min", desc := "(II)I" } : Jvm.MethodName) jdk_29_method_69_code (2 : Nat) (Option.some Jvm.ClassFile.FieldType.int)).before args0 about1 = true := code_word (m := ⟨4, 2⟩) (meth := k4m2) (c := k4c2) (by decide +kernel) rfl rfl rfl (by decide +kernel)
set_option maxRecDepth 65536 in
theorem w_c9 : (Jvm.Cond.code ({ cls := "java/util/Arrays", name := "fill", desc := "([IIII)V" } : Jvm.MethodName) jdk_65_method_104_code (5 : Nat) (Option.none : Option Jvm.ClassFile.FieldType)).before args0 about1 = true := code_word (m := ⟨5, 2⟩) (meth := k5m2) (c := k5c2) (by decide +kernel) rfl rfl rfl (by decide +kernel)
set_option maxRecDepth 65536 in
theorem w_c10 : (Jvm.Cond.code ({ cls := "java/util/Arrays", name := "rangeCheck", desc := "(III)V" } : Jvm.MethodName) jdk_65_method_30_code (3 : Nat) (Option.none : Option Jvm.ClassFile.FieldType)).before args0 about1 = true := code_word (m := ⟨5, 1⟩) (meth := k5m1) (c := k5c1) (by decide +kernel) rfl rfl rfl (by decide +kernel)
set_option maxRecDepth 65536 in
theorem w_c11 : (Jvm.Cond.code ({ cls := "com/example/rankwise/rankwise/engine/KeptItems", name := "dropLast", desc := "()V" } : Jvm.MethodName) prog_25_method_8_code (3 : Nat) (Option.none : Option Jvm.ClassFile.FieldType)).before args0 about1 = true := code_word (m := ⟨2, 3⟩) (meth := k2m3) (c := k2c3) (by decide +kernel) rfl rfl rfl (by decide +kernel)
def codes1 : List Jvm.Cond := [Jvm.Cond.code x code maxLocals ret, Jvm.Cond.code ({ cls := "com/example/rankwise/rankwise/engine/KeptItems", name := "<init>", desc := "()V" } : Jvm.MethodName) prog_25_method_1_code (1 : Nat) (Option.none : Option Jvm.ClassFile.FieldType), Jvm.Cond.code ({ cls := "java/lang/Object", name := "<init>", desc := "()V" } : Jvm.MethodName) object_method_1_code (1 : Nat) (Option.none : Option Jvm.ClassFile.FieldType), Jvm.Cond.code ({ cls := "com/example/rankwise/rankwise/engine/Ranked", name := "<init>", desc := "([ID)V" } : Jvm.MethodName) prog_61_method_1_code (4 : Nat) (Option.none : Option Jvm.ClassFile.FieldType), Jvm.Cond.code ({ cls := "com/example/rankwise/rankwise/engine/KeptItems", name := "first", desc := "(I)I" } : Jvm.MethodName) prog_25_method_3_code (2 : Nat) (Option.some Jvm.ClassFile.FieldType.int), Jvm.Cond.code ({ cls := "com/example/rankwise/rankwise/engine/KeptItems", name := "add", desc := "(ILcom/example/rankwise/rankwise/engine/Ranked;)V" } : Jvm.MethodName) prog_25_method_2_code (5 : Nat) (Option.none : Option Jvm.ClassFile.FieldType), Jvm.Cond.code ({ cls := "java/lang/Math", name := "max", desc := "(II)I" } : Jvm.MethodName) jdk_29_method_65_code (2 : Nat) (Option.some Jvm.ClassFile.FieldType.int), Jvm.Cond.code ({ cls := "java/util/Arrays", name := "copyOf", desc := "([II)[I" } : Jvm.MethodName) jdk_65_method_123_code (3 : Nat) (Option.some (Jvm.ClassFile.FieldType.array Jvm.ClassFile.FieldType.int)), Jvm.Cond.code ({ cls := "java/lang/Math", name := "min", desc := "(II)I" } : Jvm.MethodName) jdk_29_method_69_code (2 : Nat) (Option.some Jvm.ClassFile.FieldType.int), Jvm.Cond.code ({ cls := "java/util/Arrays", name := "fill", desc := "([IIII)V" } : Jvm.MethodName) jdk_65_method_104_code (5 : Nat) (Option.none : Option Jvm.ClassFile.FieldType), Jvm.Cond.code ({ cls := "java/util/Arrays", name := "rangeCheck", desc := "(III)V" } : Jvm.MethodName) jdk_65_method_30_code (3 : Nat) (Option.none : Option Jvm.ClassFile.FieldType), Jvm.Cond.code ({ cls := "com/example/rankwise/rankwise/engine/KeptItems", name := "dropLast", desc := "()V" } : Jvm.MethodName) prog_25_method_8_code (3 : Nat) (Option.none : Option Jvm.ClassFile.FieldType)]
set_option maxRecDepth 65536 in
theorem codes_eq : words1.filter isCode = codes1 := rfl
theorem w_codes : ∀ c ∈ words1.filter isCode, c.before args0 about1 = true := by
  rw [codes_eq]
  intro c hc
  simp only [codes1, List.mem_cons, List.not_mem_nil, or_false] at hc
  rcases hc with rfl | rfl | rfl | rfl | rfl | rfl | rfl | rfl | rfl | rfl | rfl | rfl
  · exact w_c0
  · exact w_c1
  · exact w_c2
  · exact w_c3
  · exact w_c4
  · exact w_c5
  · exact w_c6
  · exact w_c7
  · exact w_c8
  · exact w_c9
  · exact w_c10
  · exact w_c11
set_option maxRecDepth 65536 in
theorem w_t1 : (words1.take 24).all (fun c => isCode c || c.before args0 about1) = true := by decide +kernel
set_option maxRecDepth 65536 in
theorem w_t2 : ((words1.drop 24).take 24).all (fun c => isCode c || c.before args0 about1) = true := by decide +kernel
set_option maxRecDepth 65536 in
theorem w_t3 : (((words1.drop 24).drop 24).take 24).all (fun c => isCode c || c.before args0 about1) = true := by decide +kernel
set_option maxRecDepth 65536 in
theorem w_t4 : (((words1.drop 24).drop 24).drop 24).all (fun c => isCode c || c.before args0 about1) = true := by decide +kernel
theorem w_tables : (allAtoms (Jvm.Cond.code x code maxLocals ret :: tables_1)).before args0 about1 = true := by
  rw [allAtoms_all]
  show words1.all (fun c => c.before args0 about1) = true
  refine all_split ?_ w_codes
  rw [← List.take_append_drop 24 words1, List.all_append, w_t1, ← List.take_append_drop 24 (words1.drop 24), List.all_append, w_t2, ← List.take_append_drop 24 ((words1.drop 24).drop 24), List.all_append, w_t3, w_t4]
  rfl
set_option maxRecDepth 65536 in
theorem w_case : (Jvm.Cond.and given_1 narrow_1).before args0 about1 = true := by decide +kernel
theorem w_applies : (headSpec (Jvm.Cond.code x code maxLocals ret :: tables_1) room_1).applies x e0.platform about1 = true :=
  (Spec.applies_iff w_frames).mpr ⟨w_running, w_runnable, w_alone, w_named, w_hears, w_ripe, w_room, w_tables⟩
theorem atStart : AtStart classFile x code maxLocals ret World_1 tables_1 room_1 Calls_1 rest_1 Pre_1 launch0 p0 e0 about1 theMethod args0 below0 :=
  ⟨lists_1, trivial, launch0.admits_env _ _ _, launch0.least_env, fairChoices_fair.cas, fairChoices_fair.clock, w_frames, w_args, w_heap, w_applies, trivial, trivial, w_case⟩
end start1
theorem witness_1 : WitnessClaimed_1 := ⟨start1.p0, start1.e0, start1.about1, start1.theMethod, start1.args0, start1.below0, start1.atStart⟩
end Jvm.Pilot.@@N@@
