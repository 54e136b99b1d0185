import JvmDerived
import JvmDerived.Pilot.@@N@@Statement
import JvmDerived.Pilot.@@N@@Code
set_option linter.unusedVariables false
set_option linter.unusedSimpArgs false
namespace Jvm.OwnKit
open Sem ClassFile Op Lib Jvm.Stand Jvm.Free Jvm.LawKit Jvm.RoadKit
/-- what stays the same in one body: program, launch, environment, room, first state, method, arguments, frames below, method record, code -/
abbrev Cx := Program × Launch × Env × Room × State × MethodId × Array Value × List Frame × Method × Code
/-- from here the body runs to its end, and Q holds of what it returns and of the heap then -/
def G (k : Cx) (n0 : Nat) (Q : Option Value → Heap → Prop) (h : Heap) (cells slots pc : Nat) (Ls : List Slot) (St : List Value) : Prop :=
  cells ≤ k.2.2.2.1.cells → slots ≤ k.2.2.2.1.slots → ∀ (T : State) (locs : List Loc),
  Stand k.1 k.2.1 k.2.2.1 k.2.2.2.1 k.2.2.2.2.1 k.2.2.2.2.2.1 k.2.2.2.2.2.2.1 k.2.2.2.2.2.2.2.1 k.2.2.2.2.2.2.2.2.1 k.2.2.2.2.2.2.2.2.2 T locs cells slots → T.heap = h → Fr n0 locs →
  ∃ s₂ o, Steps k.1.tables k.2.2.1 k.2.2.2.2.2.2.2.1 (T.setTop (mkF k.2.2.2.2.2.1 pc ⟨Ls⟩ St)) s₂ ∧ s₂.status = .running ∧ Ended s₂ k.2.2.2.2.2.2.2.1 o ∧
    ∃ v L, o = .returned v ∧ (Q v s₂.heap ∧ Fr n0 L) ∧ FrameEnd k.2.2.2.2.1 o s₂ L k.2.2.2.1.cells k.2.2.2.1.slots
/-- what is known of the body all along -/
def Ok (k : Cx) (Z : State) (n0 : Nat) (own : String) (R : Room) (bytes : ByteArray) (maxL : Nat) (ret : Option FieldType) (nm : String) : Prop :=
  k.1.tables.exec = Jvm.exec ∧ Z.Warmed39 k.2.2.2.2.1.vm ∧ k.2.2.2.2.1.vm.findClass own = some k.2.2.2.2.2.1.cls ∧ k.2.2.2.1 = R ∧ k.2.2.2.2.2.2.2.2.2.code = bytes ∧
  k.2.2.2.2.2.2.2.2.2.maxLocals = maxL ∧ k.2.2.2.2.2.2.2.2.1.sig.returnType = ret ∧ k.2.2.2.2.2.2.2.2.1.locks = false ∧ k.2.2.2.2.2.2.2.2.1.name = nm ∧ n0 ≤ k.2.2.2.2.1.heap.size
def Dc (bytes : ByteArray) (pc : Nat) (i : Instr) (len pc' : Nat) : Prop := decode bytes pc = .ok (i, len) ∧ pc' = pc + len
def Db (bytes : ByteArray) (pc : Nat) (f : Int → Instr) (nx tg : Nat) : Prop := ∃ o : Int, decode bytes pc = .ok (f o, 3) ∧ nx = pc + 3 ∧ 0 ≤ (pc : Int) + o ∧ ((pc : Int) + o).toNat = tg
theorem dc {bytes : ByteArray} {pc : Nat} {i : Instr} {len : Nat} (h : decode bytes pc = .ok (i, len)) {pc' : Nat} (e : pc' = pc + len) : Dc bytes pc i len pc' := ⟨h, e⟩
theorem db {bytes : ByteArray} {pc : Nat} {f : Int → Instr} (o : Int) (h : decode bytes pc = .ok (f o, 3)) {nx tg : Nat} (e : nx = pc + 3) (e2 : 0 ≤ (pc : Int) + o) (e3 : ((pc : Int) + o).toNat = tg) : Db bytes pc f nx tg := ⟨o, h, e, e2, e3⟩
variable {k : Cx} {Z : State} {n0 : Nat} {own : String} {R : Room} {bytes : ByteArray} {maxL : Nat} {ret : Option FieldType} {nm : String} {Q : Option Value → Heap → Prop} {h : Heap} {cells slots pc pc' nx tg : Nat} {Ls Ls' : List Slot} {St St' : List Value} {a0 : Array Value}
/-- one step that moves neither heap nor tables -/
theorem G.plain {p : Program} {l : Launch} {e : Env} {R : Room} {s : State} {m : MethodId} {args : Array Value} {below : List Frame} {meth : Method} {c : Code}
    (st : ∀ T locs target, Stand p l e R s m args below meth c T locs cells slots → Steps p.tables e below (T.setTop (mkF m pc' ⟨Ls'⟩ St')) target → Steps p.tables e below (T.setTop (mkF m pc ⟨Ls⟩ St)) target)
    (g : G (p, l, e, R, s, m, args, below, meth, c) n0 Q h cells slots pc' Ls' St') : G (p, l, e, R, s, m, args, below, meth, c) n0 Q h cells slots pc Ls St := by
  intro hc hs T locs X eT N
  obtain ⟨s₂, o, h1, r⟩ := g hc hs T locs X eT N
  exact ⟨s₂, o, st T locs s₂ X h1, r⟩
/-- one step that leaves the heap as it is -/
theorem G.moved {p : Program} {l : Launch} {e : Env} {R : Room} {s : State} {m : MethodId} {args : Array Value} {below : List Frame} {meth : Method} {c : Code}
    (st : ∀ T locs, Stand p l e R s m args below meth c T locs cells slots → T.heap = h → ∃ T', Stand p l e R s m args below meth c T' locs cells slots ∧ T'.heap = h ∧ ∀ target, Steps p.tables e below (T'.setTop (mkF m pc' ⟨Ls'⟩ St')) target → Steps p.tables e below (T.setTop (mkF m pc ⟨Ls⟩ St)) target)
    (g : G (p, l, e, R, s, m, args, below, meth, c) n0 Q h cells slots pc' Ls' St') : G (p, l, e, R, s, m, args, below, meth, c) n0 Q h cells slots pc Ls St := by
  intro hc hs T locs X eT N
  obtain ⟨T', X', eT', st⟩ := st T locs X eT
  obtain ⟨s₂, o, h1, r⟩ := g hc hs T' locs X' eT' N
  exact ⟨s₂, o, st s₂ h1, r⟩
theorem G.more {cells' slots' : Nat} (K : Ok k Z n0 own R bytes maxL ret nm) (g : G k n0 Q h cells' slots' pc Ls St) (hc : cells ≤ cells') (hs : slots ≤ slots') (hc' : cells' ≤ R.cells) (hs' : slots' ≤ R.slots) : G k n0 Q h cells slots pc Ls St := by
  obtain ⟨-, -, -, rfl, -⟩ := K
  intro _ _ T locs X eT N
  exact g hc' hs' T locs (X.more hc hs) eT N
theorem G.post {Q' : Option Value → Heap → Prop} (g : G k n0 Q' h cells slots pc Ls St) (q : ∀ v h, Q' v h → Q v h) : G k n0 Q h cells slots pc Ls St := by
  intro hc hs T locs X eT N
  obtain ⟨s₂, o, h1, h2, h3, v, L, h4, ⟨h5, h6⟩, h7⟩ := g hc hs T locs X eT N
  exact ⟨s₂, o, h1, h2, h3, v, L, h4, ⟨q _ _ h5, h6⟩, h7⟩
theorem G.iadd (K : Ok k Z n0 own R bytes maxL ret nm) {x y : Int32} (d : Dc bytes pc .iadd 1 pc') (g : G k n0 Q h cells slots pc' Ls (.int (x + y) :: St)) : G k n0 Q h cells slots pc Ls (.int y :: .int x :: St) := by
  obtain ⟨p, l, e, R', s, m, args, below, meth, c⟩ := k
  obtain ⟨hx, hZ, hown, rfl, rfl, rfl, rfl, hlk, rfl, hn0⟩ := K
  obtain ⟨d, rfl⟩ := d
  exact G.plain (fun T locs t X q => XS.iadd X.here hx rfl d rfl q) g
theorem G.isub (K : Ok k Z n0 own R bytes maxL ret nm) {x y : Int32} (d : Dc bytes pc .isub 1 pc') (g : G k n0 Q h cells slots pc' Ls (.int (x - y) :: St)) : G k n0 Q h cells slots pc Ls (.int y :: .int x :: St) := by
  obtain ⟨p, l, e, R', s, m, args, below, meth, c⟩ := k
  obtain ⟨hx, hZ, hown, rfl, rfl, rfl, rfl, hlk, rfl, hn0⟩ := K
  obtain ⟨d, rfl⟩ := d
  exact G.plain (fun T locs t X q => XS.isub X.here hx rfl d rfl q) g
theorem G.imul (K : Ok k Z n0 own R bytes maxL ret nm) {x y : Int32} (d : Dc bytes pc .imul 1 pc') (g : G k n0 Q h cells slots pc' Ls (.int (x * y) :: St)) : G k n0 Q h cells slots pc Ls (.int y :: .int x :: St) := by
  obtain ⟨p, l, e, R', s, m, args, below, meth, c⟩ := k
  obtain ⟨hx, hZ, hown, rfl, rfl, rfl, rfl, hlk, rfl, hn0⟩ := K
  obtain ⟨d, rfl⟩ := d
  exact G.plain (fun T locs t X q => XS.imul X.here hx rfl d rfl q) g
theorem G.iand (K : Ok k Z n0 own R bytes maxL ret nm) {x y : Int32} (d : Dc bytes pc .iand 1 pc') (g : G k n0 Q h cells slots pc' Ls (.int (x &&& y) :: St)) : G k n0 Q h cells slots pc Ls (.int y :: .int x :: St) := by
  obtain ⟨p, l, e, R', s, m, args, below, meth, c⟩ := k
  obtain ⟨hx, hZ, hown, rfl, rfl, rfl, rfl, hlk, rfl, hn0⟩ := K
  obtain ⟨d, rfl⟩ := d
  exact G.plain (fun T locs t X q => XS.iand X.here hx rfl d rfl q) g
theorem G.ior (K : Ok k Z n0 own R bytes maxL ret nm) {x y : Int32} (d : Dc bytes pc .ior 1 pc') (g : G k n0 Q h cells slots pc' Ls (.int (x ||| y) :: St)) : G k n0 Q h cells slots pc Ls (.int y :: .int x :: St) := by
  obtain ⟨p, l, e, R', s, m, args, below, meth, c⟩ := k
  obtain ⟨hx, hZ, hown, rfl, rfl, rfl, rfl, hlk, rfl, hn0⟩ := K
  obtain ⟨d, rfl⟩ := d
  exact G.plain (fun T locs t X q => XT.ior X.here hx rfl d rfl q) g
theorem G.ixor (K : Ok k Z n0 own R bytes maxL ret nm) {x y : Int32} (d : Dc bytes pc .ixor 1 pc') (g : G k n0 Q h cells slots pc' Ls (.int (x ^^^ y) :: St)) : G k n0 Q h cells slots pc Ls (.int y :: .int x :: St) := by
  obtain ⟨p, l, e, R', s, m, args, below, meth, c⟩ := k
  obtain ⟨hx, hZ, hown, rfl, rfl, rfl, rfl, hlk, rfl, hn0⟩ := K
  obtain ⟨d, rfl⟩ := d
  exact G.plain (fun T locs t X q => XT.ixor X.here hx rfl d rfl q) g
theorem G.ishl (K : Ok k Z n0 own R bytes maxL ret nm) {x y : Int32} (d : Dc bytes pc .ishl 1 pc') (g : G k n0 Q h cells slots pc' Ls (.int (x <<< (y &&& 31)) :: St)) : G k n0 Q h cells slots pc Ls (.int y :: .int x :: St) := by
  obtain ⟨p, l, e, R', s, m, args, below, meth, c⟩ := k
  obtain ⟨hx, hZ, hown, rfl, rfl, rfl, rfl, hlk, rfl, hn0⟩ := K
  obtain ⟨d, rfl⟩ := d
  exact G.plain (fun T locs t X q => XT.ishl X.here hx rfl d rfl q) g
theorem G.ishr (K : Ok k Z n0 own R bytes maxL ret nm) {x y : Int32} (d : Dc bytes pc .ishr 1 pc') (g : G k n0 Q h cells slots pc' Ls (.int (x >>> (y &&& 31)) :: St)) : G k n0 Q h cells slots pc Ls (.int y :: .int x :: St) := by
  obtain ⟨p, l, e, R', s, m, args, below, meth, c⟩ := k
  obtain ⟨hx, hZ, hown, rfl, rfl, rfl, rfl, hlk, rfl, hn0⟩ := K
  obtain ⟨d, rfl⟩ := d
  exact G.plain (fun T locs t X q => XT.ishr X.here hx rfl d rfl q) g
theorem G.iushr (K : Ok k Z n0 own R bytes maxL ret nm) {x y : Int32} (d : Dc bytes pc .iushr 1 pc') (g : G k n0 Q h cells slots pc' Ls (.int (XT.ushr x y) :: St)) : G k n0 Q h cells slots pc Ls (.int y :: .int x :: St) := by
  obtain ⟨p, l, e, R', s, m, args, below, meth, c⟩ := k
  obtain ⟨hx, hZ, hown, rfl, rfl, rfl, rfl, hlk, rfl, hn0⟩ := K
  obtain ⟨d, rfl⟩ := d
  exact G.plain (fun T locs t X q => XT.iushr X.here hx rfl d rfl q) g
theorem G.ladd (K : Ok k Z n0 own R bytes maxL ret nm) {x y : Int64} (d : Dc bytes pc .ladd 1 pc') (g : G k n0 Q h cells slots pc' Ls (.long (x + y) :: St)) : G k n0 Q h cells slots pc Ls (.long y :: .long x :: St) := by
  obtain ⟨p, l, e, R', s, m, args, below, meth, c⟩ := k
  obtain ⟨hx, hZ, hown, rfl, rfl, rfl, rfl, hlk, rfl, hn0⟩ := K
  obtain ⟨d, rfl⟩ := d
  exact G.plain (fun T locs t X q => XT.ladd X.here hx rfl d rfl q) g
theorem G.lsub (K : Ok k Z n0 own R bytes maxL ret nm) {x y : Int64} (d : Dc bytes pc .lsub 1 pc') (g : G k n0 Q h cells slots pc' Ls (.long (x - y) :: St)) : G k n0 Q h cells slots pc Ls (.long y :: .long x :: St) := by
  obtain ⟨p, l, e, R', s, m, args, below, meth, c⟩ := k
  obtain ⟨hx, hZ, hown, rfl, rfl, rfl, rfl, hlk, rfl, hn0⟩ := K
  obtain ⟨d, rfl⟩ := d
  exact G.plain (fun T locs t X q => XT.lsub X.here hx rfl d rfl q) g
theorem G.lmul (K : Ok k Z n0 own R bytes maxL ret nm) {x y : Int64} (d : Dc bytes pc .lmul 1 pc') (g : G k n0 Q h cells slots pc' Ls (.long (x * y) :: St)) : G k n0 Q h cells slots pc Ls (.long y :: .long x :: St) := by
  obtain ⟨p, l, e, R', s, m, args, below, meth, c⟩ := k
  obtain ⟨hx, hZ, hown, rfl, rfl, rfl, rfl, hlk, rfl, hn0⟩ := K
  obtain ⟨d, rfl⟩ := d
  exact G.plain (fun T locs t X q => XT.lmul X.here hx rfl d rfl q) g
theorem G.land (K : Ok k Z n0 own R bytes maxL ret nm) {x y : Int64} (d : Dc bytes pc .land 1 pc') (g : G k n0 Q h cells slots pc' Ls (.long (x &&& y) :: St)) : G k n0 Q h cells slots pc Ls (.long y :: .long x :: St) := by
  obtain ⟨p, l, e, R', s, m, args, below, meth, c⟩ := k
  obtain ⟨hx, hZ, hown, rfl, rfl, rfl, rfl, hlk, rfl, hn0⟩ := K
  obtain ⟨d, rfl⟩ := d
  exact G.plain (fun T locs t X q => XT.land X.here hx rfl d rfl q) g
theorem G.lor (K : Ok k Z n0 own R bytes maxL ret nm) {x y : Int64} (d : Dc bytes pc .lor 1 pc') (g : G k n0 Q h cells slots pc' Ls (.long (x ||| y) :: St)) : G k n0 Q h cells slots pc Ls (.long y :: .long x :: St) := by
  obtain ⟨p, l, e, R', s, m, args, below, meth, c⟩ := k
  obtain ⟨hx, hZ, hown, rfl, rfl, rfl, rfl, hlk, rfl, hn0⟩ := K
  obtain ⟨d, rfl⟩ := d
  exact G.plain (fun T locs t X q => XT.lor X.here hx rfl d rfl q) g
theorem G.lxor (K : Ok k Z n0 own R bytes maxL ret nm) {x y : Int64} (d : Dc bytes pc .lxor 1 pc') (g : G k n0 Q h cells slots pc' Ls (.long (x ^^^ y) :: St)) : G k n0 Q h cells slots pc Ls (.long y :: .long x :: St) := by
  obtain ⟨p, l, e, R', s, m, args, below, meth, c⟩ := k
  obtain ⟨hx, hZ, hown, rfl, rfl, rfl, rfl, hlk, rfl, hn0⟩ := K
  obtain ⟨d, rfl⟩ := d
  exact G.plain (fun T locs t X q => XT.lxor X.here hx rfl d rfl q) g
theorem G.lshl (K : Ok k Z n0 own R bytes maxL ret nm) {x : Int64} {y : Int32} (d : Dc bytes pc .lshl 1 pc') (g : G k n0 Q h cells slots pc' Ls (.long (x <<< (y.toInt64 &&& 63)) :: St)) : G k n0 Q h cells slots pc Ls (.int y :: .long x :: St) := by
  obtain ⟨p, l, e, R', s, m, args, below, meth, c⟩ := k
  obtain ⟨hx, hZ, hown, rfl, rfl, rfl, rfl, hlk, rfl, hn0⟩ := K
  obtain ⟨d, rfl⟩ := d
  exact G.plain (fun T locs t X q => XT.lshl X.here hx rfl d rfl q) g
theorem G.lshr (K : Ok k Z n0 own R bytes maxL ret nm) {x : Int64} {y : Int32} (d : Dc bytes pc .lshr 1 pc') (g : G k n0 Q h cells slots pc' Ls (.long (x >>> (y.toInt64 &&& 63)) :: St)) : G k n0 Q h cells slots pc Ls (.int y :: .long x :: St) := by
  obtain ⟨p, l, e, R', s, m, args, below, meth, c⟩ := k
  obtain ⟨hx, hZ, hown, rfl, rfl, rfl, rfl, hlk, rfl, hn0⟩ := K
  obtain ⟨d, rfl⟩ := d
  exact G.plain (fun T locs t X q => XT.lshr X.here hx rfl d rfl q) g
theorem G.lushr (K : Ok k Z n0 own R bytes maxL ret nm) {x : Int64} {y : Int32} (d : Dc bytes pc .lushr 1 pc') (g : G k n0 Q h cells slots pc' Ls (.long (XT.ushrL x y) :: St)) : G k n0 Q h cells slots pc Ls (.int y :: .long x :: St) := by
  obtain ⟨p, l, e, R', s, m, args, below, meth, c⟩ := k
  obtain ⟨hx, hZ, hown, rfl, rfl, rfl, rfl, hlk, rfl, hn0⟩ := K
  obtain ⟨d, rfl⟩ := d
  exact G.plain (fun T locs t X q => XT.lushr X.here hx rfl d rfl q) g
theorem G.irem (K : Ok k Z n0 own R bytes maxL ret nm) {x y : Int32} (d : Dc bytes pc .irem 1 pc') (hy : y ≠ 0) (g : G k n0 Q h cells slots pc' Ls (.int (x % y) :: St)) : G k n0 Q h cells slots pc Ls (.int y :: .int x :: St) := by
  obtain ⟨p, l, e, R', s, m, args, below, meth, c⟩ := k
  obtain ⟨hx, hZ, hown, rfl, rfl, rfl, rfl, hlk, rfl, hn0⟩ := K
  obtain ⟨d, rfl⟩ := d
  exact G.plain (fun T locs t X q => iremM X hx rfl d rfl hy q) g
theorem G.idiv (K : Ok k Z n0 own R bytes maxL ret nm) {x y : Int32} (d : Dc bytes pc .idiv 1 pc') (hy : y ≠ 0) (g : G k n0 Q h cells slots pc' Ls (.int (x / y) :: St)) : G k n0 Q h cells slots pc Ls (.int y :: .int x :: St) := by
  obtain ⟨p, l, e, R', s, m, args, below, meth, c⟩ := k
  obtain ⟨hx, hZ, hown, rfl, rfl, rfl, rfl, hlk, rfl, hn0⟩ := K
  obtain ⟨d, rfl⟩ := d
  exact G.plain (fun T locs t X q => XS.idiv X.here hx rfl d rfl hy q) g
theorem G.ldiv (K : Ok k Z n0 own R bytes maxL ret nm) {x y : Int64} (d : Dc bytes pc .ldiv 1 pc') (hy : y ≠ 0) (g : G k n0 Q h cells slots pc' Ls (.long (x / y) :: St)) : G k n0 Q h cells slots pc Ls (.long y :: .long x :: St) := by
  obtain ⟨p, l, e, R', s, m, args, below, meth, c⟩ := k
  obtain ⟨hx, hZ, hown, rfl, rfl, rfl, rfl, hlk, rfl, hn0⟩ := K
  obtain ⟨d, rfl⟩ := d
  exact G.plain (fun T locs t X q => XT.ldiv X.here hx rfl d rfl hy q) g
theorem G.ineg (K : Ok k Z n0 own R bytes maxL ret nm) {x : Int32} (d : Dc bytes pc .ineg 1 pc') (g : G k n0 Q h cells slots pc' Ls (.int (-x) :: St)) : G k n0 Q h cells slots pc Ls (.int x :: St) := by
  obtain ⟨p, l, e, R', s, m, args, below, meth, c⟩ := k
  obtain ⟨hx, hZ, hown, rfl, rfl, rfl, rfl, hlk, rfl, hn0⟩ := K
  obtain ⟨d, rfl⟩ := d
  exact G.plain (fun T locs t X q => XS.ineg X.here hx rfl d rfl q) g
theorem G.lneg (K : Ok k Z n0 own R bytes maxL ret nm) {x : Int64} (d : Dc bytes pc .lneg 1 pc') (g : G k n0 Q h cells slots pc' Ls (.long (-x) :: St)) : G k n0 Q h cells slots pc Ls (.long x :: St) := by
  obtain ⟨p, l, e, R', s, m, args, below, meth, c⟩ := k
  obtain ⟨hx, hZ, hown, rfl, rfl, rfl, rfl, hlk, rfl, hn0⟩ := K
  obtain ⟨d, rfl⟩ := d
  exact G.plain (fun T locs t X q => XT.lneg X.here hx rfl d rfl q) g
theorem G.i2l (K : Ok k Z n0 own R bytes maxL ret nm) {x : Int32} (d : Dc bytes pc .i2l 1 pc') (g : G k n0 Q h cells slots pc' Ls (.long x.toInt64 :: St)) : G k n0 Q h cells slots pc Ls (.int x :: St) := by
  obtain ⟨p, l, e, R', s, m, args, below, meth, c⟩ := k
  obtain ⟨hx, hZ, hown, rfl, rfl, rfl, rfl, hlk, rfl, hn0⟩ := K
  obtain ⟨d, rfl⟩ := d
  exact G.plain (fun T locs t X q => XT.i2l X.here hx rfl d rfl q) g
theorem G.l2i (K : Ok k Z n0 own R bytes maxL ret nm) {x : Int64} (d : Dc bytes pc .l2i 1 pc') (g : G k n0 Q h cells slots pc' Ls (.int x.toInt32 :: St)) : G k n0 Q h cells slots pc Ls (.long x :: St) := by
  obtain ⟨p, l, e, R', s, m, args, below, meth, c⟩ := k
  obtain ⟨hx, hZ, hown, rfl, rfl, rfl, rfl, hlk, rfl, hn0⟩ := K
  obtain ⟨d, rfl⟩ := d
  exact G.plain (fun T locs t X q => XT.l2i X.here hx rfl d rfl q) g
theorem G.i2b (K : Ok k Z n0 own R bytes maxL ret nm) {x : Int32} (d : Dc bytes pc .i2b 1 pc') (g : G k n0 Q h cells slots pc' Ls (.int x.toInt8.toInt32 :: St)) : G k n0 Q h cells slots pc Ls (.int x :: St) := by
  obtain ⟨p, l, e, R', s, m, args, below, meth, c⟩ := k
  obtain ⟨hx, hZ, hown, rfl, rfl, rfl, rfl, hlk, rfl, hn0⟩ := K
  obtain ⟨d, rfl⟩ := d
  exact G.plain (fun T locs t X q => XT.i2b X.here hx rfl d rfl q) g
theorem G.i2s (K : Ok k Z n0 own R bytes maxL ret nm) {x : Int32} (d : Dc bytes pc .i2s 1 pc') (g : G k n0 Q h cells slots pc' Ls (.int x.toInt16.toInt32 :: St)) : G k n0 Q h cells slots pc Ls (.int x :: St) := by
  obtain ⟨p, l, e, R', s, m, args, below, meth, c⟩ := k
  obtain ⟨hx, hZ, hown, rfl, rfl, rfl, rfl, hlk, rfl, hn0⟩ := K
  obtain ⟨d, rfl⟩ := d
  exact G.plain (fun T locs t X q => XT.i2s X.here hx rfl d rfl q) g
theorem G.i2c (K : Ok k Z n0 own R bytes maxL ret nm) {x : Int32} (d : Dc bytes pc .i2c 1 pc') (g : G k n0 Q h cells slots pc' Ls (.int x.toUInt32.toUInt16.toUInt32.toInt32 :: St)) : G k n0 Q h cells slots pc Ls (.int x :: St) := by
  obtain ⟨p, l, e, R', s, m, args, below, meth, c⟩ := k
  obtain ⟨hx, hZ, hown, rfl, rfl, rfl, rfl, hlk, rfl, hn0⟩ := K
  obtain ⟨d, rfl⟩ := d
  exact G.plain (fun T locs t X q => XT.i2c X.here hx rfl d rfl q) g
theorem G.iloadN (K : Ok k Z n0 own R bytes maxL ret nm) {v : Int32} {i : Fin 4} (d : Dc bytes pc (.iload_n i) 1 pc') (hl : Ls[i.val]? = some (.val (.int v))) (g : G k n0 Q h cells slots pc' Ls (.int v :: St)) : G k n0 Q h cells slots pc Ls (St) := by
  obtain ⟨p, l, e, R', s, m, args, below, meth, c⟩ := k
  obtain ⟨hx, hZ, hown, rfl, rfl, rfl, rfl, hlk, rfl, hn0⟩ := K
  obtain ⟨d, rfl⟩ := d
  exact G.plain (fun T locs t X q => XS.iloadN X.here hx rfl d (by simpa using hl) q) g
theorem G.iload (K : Ok k Z n0 own R bytes maxL ret nm) {v : Int32} {i : Nat} (d : Dc bytes pc (.iload i) 2 pc') (hl : Ls[i]? = some (.val (.int v))) (g : G k n0 Q h cells slots pc' Ls (.int v :: St)) : G k n0 Q h cells slots pc Ls (St) := by
  obtain ⟨p, l, e, R', s, m, args, below, meth, c⟩ := k
  obtain ⟨hx, hZ, hown, rfl, rfl, rfl, rfl, hlk, rfl, hn0⟩ := K
  obtain ⟨d, rfl⟩ := d
  exact G.plain (fun T locs t X q => XS.iload X.here hx rfl d (by simpa using hl) q) g
theorem G.lloadN (K : Ok k Z n0 own R bytes maxL ret nm) {v : Int64} {i : Fin 4} (d : Dc bytes pc (.lload_n i) 1 pc') (hl : Ls[i.val]? = some (.val (.long v))) (g : G k n0 Q h cells slots pc' Ls (.long v :: St)) : G k n0 Q h cells slots pc Ls (St) := by
  obtain ⟨p, l, e, R', s, m, args, below, meth, c⟩ := k
  obtain ⟨hx, hZ, hown, rfl, rfl, rfl, rfl, hlk, rfl, hn0⟩ := K
  obtain ⟨d, rfl⟩ := d
  exact G.plain (fun T locs t X q => XT.lloadN X.here hx rfl d (by simpa using hl) q) g
theorem G.lload (K : Ok k Z n0 own R bytes maxL ret nm) {v : Int64} {i : Nat} (d : Dc bytes pc (.lload i) 2 pc') (hl : Ls[i]? = some (.val (.long v))) (g : G k n0 Q h cells slots pc' Ls (.long v :: St)) : G k n0 Q h cells slots pc Ls (St) := by
  obtain ⟨p, l, e, R', s, m, args, below, meth, c⟩ := k
  obtain ⟨hx, hZ, hown, rfl, rfl, rfl, rfl, hlk, rfl, hn0⟩ := K
  obtain ⟨d, rfl⟩ := d
  exact G.plain (fun T locs t X q => XT.lload X.here hx rfl d (by simpa using hl) q) g
theorem G.aloadN (K : Ok k Z n0 own R bytes maxL ret nm) {v : Value} {i : Fin 4} (d : Dc bytes pc (.aload_n i) 1 pc') (hl : Ls[i.val]? = some (.val (v))) (hv : v.isRef = true) (g : G k n0 Q h cells slots pc' Ls (v :: St)) : G k n0 Q h cells slots pc Ls (St) := by
  obtain ⟨p, l, e, R', s, m, args, below, meth, c⟩ := k
  obtain ⟨hx, hZ, hown, rfl, rfl, rfl, rfl, hlk, rfl, hn0⟩ := K
  obtain ⟨d, rfl⟩ := d
  exact G.plain (fun T locs t X q => XS.aloadN X.here hx rfl d (by simpa using hl) hv q) g
theorem G.aload (K : Ok k Z n0 own R bytes maxL ret nm) {v : Value} {i : Nat} (d : Dc bytes pc (.aload i) 2 pc') (hl : Ls[i]? = some (.val (v))) (hv : v.isRef = true) (g : G k n0 Q h cells slots pc' Ls (v :: St)) : G k n0 Q h cells slots pc Ls (St) := by
  obtain ⟨p, l, e, R', s, m, args, below, meth, c⟩ := k
  obtain ⟨hx, hZ, hown, rfl, rfl, rfl, rfl, hlk, rfl, hn0⟩ := K
  obtain ⟨d, rfl⟩ := d
  exact G.plain (fun T locs t X q => XS.aload X.here hx rfl d (by simpa using hl) hv q) g
theorem G.istoreN (K : Ok k Z n0 own R bytes maxL ret nm) {v : Int32} {i : Fin 4} (d : Dc bytes pc (.istore_n i) 1 pc') (Ls' : List Slot) (hl : storeLocals ⟨Ls⟩ i.val (.int v) = some ⟨Ls'⟩) (g : G k n0 Q h cells slots pc' Ls' (St)) : G k n0 Q h cells slots pc Ls (.int v :: St) := by
  obtain ⟨p, l, e, R', s, m, args, below, meth, c⟩ := k
  obtain ⟨hx, hZ, hown, rfl, rfl, rfl, rfl, hlk, rfl, hn0⟩ := K
  obtain ⟨d, rfl⟩ := d
  exact G.plain (fun T locs t X q => XS.istoreN X.here hx rfl d rfl hl q) g
theorem G.istore (K : Ok k Z n0 own R bytes maxL ret nm) {v : Int32} {i : Nat} (d : Dc bytes pc (.istore i) 2 pc') (Ls' : List Slot) (hl : storeLocals ⟨Ls⟩ i (.int v) = some ⟨Ls'⟩) (g : G k n0 Q h cells slots pc' Ls' (St)) : G k n0 Q h cells slots pc Ls (.int v :: St) := by
  obtain ⟨p, l, e, R', s, m, args, below, meth, c⟩ := k
  obtain ⟨hx, hZ, hown, rfl, rfl, rfl, rfl, hlk, rfl, hn0⟩ := K
  obtain ⟨d, rfl⟩ := d
  exact G.plain (fun T locs t X q => XS.istore X.here hx rfl d rfl hl q) g
theorem G.lstoreN (K : Ok k Z n0 own R bytes maxL ret nm) {v : Int64} {i : Fin 4} (d : Dc bytes pc (.lstore_n i) 1 pc') (Ls' : List Slot) (hl : storeLocals ⟨Ls⟩ i.val (.long v) = some ⟨Ls'⟩) (g : G k n0 Q h cells slots pc' Ls' (St)) : G k n0 Q h cells slots pc Ls (.long v :: St) := by
  obtain ⟨p, l, e, R', s, m, args, below, meth, c⟩ := k
  obtain ⟨hx, hZ, hown, rfl, rfl, rfl, rfl, hlk, rfl, hn0⟩ := K
  obtain ⟨d, rfl⟩ := d
  exact G.plain (fun T locs t X q => XT.lstoreN X.here hx rfl d rfl hl q) g
theorem G.lstore (K : Ok k Z n0 own R bytes maxL ret nm) {v : Int64} {i : Nat} (d : Dc bytes pc (.lstore i) 2 pc') (Ls' : List Slot) (hl : storeLocals ⟨Ls⟩ i (.long v) = some ⟨Ls'⟩) (g : G k n0 Q h cells slots pc' Ls' (St)) : G k n0 Q h cells slots pc Ls (.long v :: St) := by
  obtain ⟨p, l, e, R', s, m, args, below, meth, c⟩ := k
  obtain ⟨hx, hZ, hown, rfl, rfl, rfl, rfl, hlk, rfl, hn0⟩ := K
  obtain ⟨d, rfl⟩ := d
  exact G.plain (fun T locs t X q => XT.lstore X.here hx rfl d rfl hl q) g
theorem G.astoreN (K : Ok k Z n0 own R bytes maxL ret nm) {v : Value} {i : Fin 4} (d : Dc bytes pc (.astore_n i) 1 pc') (hv : v.isRef = true) (Ls' : List Slot) (hl : storeLocals ⟨Ls⟩ i.val (v) = some ⟨Ls'⟩) (g : G k n0 Q h cells slots pc' Ls' (St)) : G k n0 Q h cells slots pc Ls (v :: St) := by
  obtain ⟨p, l, e, R', s, m, args, below, meth, c⟩ := k
  obtain ⟨hx, hZ, hown, rfl, rfl, rfl, rfl, hlk, rfl, hn0⟩ := K
  obtain ⟨d, rfl⟩ := d
  exact G.plain (fun T locs t X q => XS.astoreN X.here hx rfl d rfl hv hl q) g
theorem G.astore (K : Ok k Z n0 own R bytes maxL ret nm) {v : Value} {i : Nat} (d : Dc bytes pc (.astore i) 2 pc') (hv : v.isRef = true) (Ls' : List Slot) (hl : storeLocals ⟨Ls⟩ i (v) = some ⟨Ls'⟩) (g : G k n0 Q h cells slots pc' Ls' (St)) : G k n0 Q h cells slots pc Ls (v :: St) := by
  obtain ⟨p, l, e, R', s, m, args, below, meth, c⟩ := k
  obtain ⟨hx, hZ, hown, rfl, rfl, rfl, rfl, hlk, rfl, hn0⟩ := K
  obtain ⟨d, rfl⟩ := d
  exact G.plain (fun T locs t X q => XS.astore X.here hx rfl d rfl hv hl q) g
theorem G.iinc (K : Ok k Z n0 own R bytes maxL ret nm) {x : Int32} {i : Nat} {cst : Int} (d : Dc bytes pc (.iinc i cst) 3 pc') (v : Int32) (hv : Int32.ofInt cst = v) (hl0 : Ls[i]? = some (.val (.int x))) (Ls' : List Slot) (hl : storeLocals ⟨Ls⟩ i (.int (x + v)) = some ⟨Ls'⟩) (g : G k n0 Q h cells slots pc' Ls' (St)) : G k n0 Q h cells slots pc Ls (St) := by
  obtain ⟨p, l, e, R', s, m, args, below, meth, c⟩ := k
  obtain ⟨hx, hZ, hown, rfl, rfl, rfl, rfl, hlk, rfl, hn0⟩ := K
  obtain ⟨d, rfl⟩ := d
  exact G.plain (fun T locs t X q => XT.iincV X.here hx rfl v d hv (by simpa using hl0) hl q) g
theorem G.iconst (K : Ok k Z n0 own R bytes maxL ret nm) {i : Int} (d : Dc bytes pc (.iconst i) 1 pc') (v : Int32) (hv : Int32.ofInt i = v) (g : G k n0 Q h cells slots pc' Ls (.int v :: St)) : G k n0 Q h cells slots pc Ls (St) := by
  obtain ⟨p, l, e, R', s, m, args, below, meth, c⟩ := k
  obtain ⟨hx, hZ, hown, rfl, rfl, rfl, rfl, hlk, rfl, hn0⟩ := K
  obtain ⟨d, rfl⟩ := d
  exact G.plain (fun T locs t X q => XT.iconstV X.here hx rfl v d hv q) g
theorem G.bipush (K : Ok k Z n0 own R bytes maxL ret nm) {i : Int} (d : Dc bytes pc (.bipush i) 2 pc') (v : Int32) (hv : (Int8.ofInt i).toInt32 = v) (g : G k n0 Q h cells slots pc' Ls (.int v :: St)) : G k n0 Q h cells slots pc Ls (St) := by
  obtain ⟨p, l, e, R', s, m, args, below, meth, c⟩ := k
  obtain ⟨hx, hZ, hown, rfl, rfl, rfl, rfl, hlk, rfl, hn0⟩ := K
  obtain ⟨d, rfl⟩ := d
  exact G.plain (fun T locs t X q => XT.bipushV X.here hx rfl v d hv q) g
theorem G.sipush (K : Ok k Z n0 own R bytes maxL ret nm) {i : Int} (d : Dc bytes pc (.sipush i) 3 pc') (v : Int32) (hv : (Int16.ofInt i).toInt32 = v) (g : G k n0 Q h cells slots pc' Ls (.int v :: St)) : G k n0 Q h cells slots pc Ls (St) := by
  obtain ⟨p, l, e, R', s, m, args, below, meth, c⟩ := k
  obtain ⟨hx, hZ, hown, rfl, rfl, rfl, rfl, hlk, rfl, hn0⟩ := K
  obtain ⟨d, rfl⟩ := d
  exact G.plain (fun T locs t X q => XT.sipushV X.here hx rfl v d hv q) g
theorem G.lconst (K : Ok k Z n0 own R bytes maxL ret nm) {i : Fin 2} (d : Dc bytes pc (.lconst i) 1 pc') (v : Int64) (hv : Int64.ofNat i = v) (g : G k n0 Q h cells slots pc' Ls (.long v :: St)) : G k n0 Q h cells slots pc Ls (St) := by
  obtain ⟨p, l, e, R', s, m, args, below, meth, c⟩ := k
  obtain ⟨hx, hZ, hown, rfl, rfl, rfl, rfl, hlk, rfl, hn0⟩ := K
  obtain ⟨d, rfl⟩ := d
  exact G.plain (fun T locs t X q => XT.lconstV X.here hx rfl v d hv q) g
theorem G.aconst_null (K : Ok k Z n0 own R bytes maxL ret nm)  (d : Dc bytes pc .aconst_null 1 pc') (g : G k n0 Q h cells slots pc' Ls (.null :: St)) : G k n0 Q h cells slots pc Ls (St) := by
  obtain ⟨p, l, e, R', s, m, args, below, meth, c⟩ := k
  obtain ⟨hx, hZ, hown, rfl, rfl, rfl, rfl, hlk, rfl, hn0⟩ := K
  obtain ⟨d, rfl⟩ := d
  exact G.plain (fun T locs t X q => XS.aconstNull X.here hx rfl d q) g
theorem G.ldcI (K : Ok k Z n0 own R bytes maxL ret nm) {v : Int32} {i : Nat} (d : Dc bytes pc (.ldc i) 2 pc') (w : (Cond.constant own i v).before a0 Z = true) (g : G k n0 Q h cells slots pc' Ls (.int v :: St)) : G k n0 Q h cells slots pc Ls (St) := by
  obtain ⟨p, l, e, R', s, m, args, below, meth, c⟩ := k
  obtain ⟨hx, hZ, hown, rfl, rfl, rfl, rfl, hlk, rfl, hn0⟩ := K
  obtain ⟨d, rfl⟩ := d
  exact G.plain (fun T locs t X q => X.ldcI hx hown (mvT hZ w) rfl d q) g
theorem G.ldcWI (K : Ok k Z n0 own R bytes maxL ret nm) {v : Int32} {i : Nat} (d : Dc bytes pc (.ldc_w i) 3 pc') (w : (Cond.constant own i v).before a0 Z = true) (g : G k n0 Q h cells slots pc' Ls (.int v :: St)) : G k n0 Q h cells slots pc Ls (St) := by
  obtain ⟨p, l, e, R', s, m, args, below, meth, c⟩ := k
  obtain ⟨hx, hZ, hown, rfl, rfl, rfl, rfl, hlk, rfl, hn0⟩ := K
  obtain ⟨d, rfl⟩ := d
  exact G.plain (fun T locs t X q => X.ldcWI hx hown (mvT hZ w) rfl d q) g
theorem G.ldc2J (K : Ok k Z n0 own R bytes maxL ret nm) {v : Int64} {i : Nat} (d : Dc bytes pc (.ldc2_w i) 3 pc') (w : (Cond.constantLong own i v).before a0 Z = true) (g : G k n0 Q h cells slots pc' Ls (.long v :: St)) : G k n0 Q h cells slots pc Ls (St) := by
  obtain ⟨p, l, e, R', s, m, args, below, meth, c⟩ := k
  obtain ⟨hx, hZ, hown, rfl, rfl, rfl, rfl, hlk, rfl, hn0⟩ := K
  obtain ⟨d, rfl⟩ := d
  exact G.plain (fun T locs t X q => X.ldc2J hx hown (mvT hZ w) rfl d q) g
theorem G.dup (K : Ok k Z n0 own R bytes maxL ret nm) {x : Value} (d : Dc bytes pc .dup 1 pc') (hv : x.category = 1) (g : G k n0 Q h cells slots pc' Ls (x :: x :: St)) : G k n0 Q h cells slots pc Ls (x :: St) := by
  obtain ⟨p, l, e, R', s, m, args, below, meth, c⟩ := k
  obtain ⟨hx, hZ, hown, rfl, rfl, rfl, rfl, hlk, rfl, hn0⟩ := K
  obtain ⟨d, rfl⟩ := d
  exact G.plain (fun T locs t X q => XS.dup X.here hx rfl d rfl hv q) g
theorem G.pop (K : Ok k Z n0 own R bytes maxL ret nm) {x : Value} (d : Dc bytes pc .pop 1 pc') (hv : x.category = 1) (g : G k n0 Q h cells slots pc' Ls (St)) : G k n0 Q h cells slots pc Ls (x :: St) := by
  obtain ⟨p, l, e, R', s, m, args, below, meth, c⟩ := k
  obtain ⟨hx, hZ, hown, rfl, rfl, rfl, rfl, hlk, rfl, hn0⟩ := K
  obtain ⟨d, rfl⟩ := d
  exact G.plain (fun T locs t X q => XT.pop X.here hx rfl d rfl hv q) g
theorem G.dup_x1 (K : Ok k Z n0 own R bytes maxL ret nm) {x y : Value} (d : Dc bytes pc .dup_x1 1 pc') (hv : x.category = 1) (hv' : y.category = 1) (g : G k n0 Q h cells slots pc' Ls (x :: y :: x :: St)) : G k n0 Q h cells slots pc Ls (x :: y :: St) := by
  obtain ⟨p, l, e, R', s, m, args, below, meth, c⟩ := k
  obtain ⟨hx, hZ, hown, rfl, rfl, rfl, rfl, hlk, rfl, hn0⟩ := K
  obtain ⟨d, rfl⟩ := d
  exact G.plain (fun T locs t X q => XT.dupX1 X.here hx rfl d rfl hv hv' q) g
theorem G.dup2 (K : Ok k Z n0 own R bytes maxL ret nm) {x y : Value} (d : Dc bytes pc .dup2 1 pc') (hv : x.category = 1) (hv' : y.category = 1) (g : G k n0 Q h cells slots pc' Ls (x :: y :: x :: y :: St)) : G k n0 Q h cells slots pc Ls (x :: y :: St) := by
  obtain ⟨p, l, e, R', s, m, args, below, meth, c⟩ := k
  obtain ⟨hx, hZ, hown, rfl, rfl, rfl, rfl, hlk, rfl, hn0⟩ := K
  obtain ⟨d, rfl⟩ := d
  exact G.plain (fun T locs t X q => XT.dup2 X.here hx rfl d rfl hv hv' q) g
theorem G.dup2L (K : Ok k Z n0 own R bytes maxL ret nm) {x : Int64} (d : Dc bytes pc .dup2 1 pc') (g : G k n0 Q h cells slots pc' Ls (.long x :: .long x :: St)) : G k n0 Q h cells slots pc Ls (.long x :: St) := by
  obtain ⟨p, l, e, R', s, m, args, below, meth, c⟩ := k
  obtain ⟨hx, hZ, hown, rfl, rfl, rfl, rfl, hlk, rfl, hn0⟩ := K
  obtain ⟨d, rfl⟩ := d
  exact G.plain (fun T locs t X q => XT.dup2L X.here hx rfl d rfl q) g
theorem G.goto (K : Ok k Z n0 own R bytes maxL ret nm) (d : Db bytes pc .goto nx tg) (g : G k n0 Q h cells slots tg Ls St) : G k n0 Q h cells slots pc Ls St := by
  obtain ⟨p, l, e, R', s, m, args, below, meth, c⟩ := k
  obtain ⟨hx, hZ, hown, rfl, rfl, rfl, rfl, hlk, rfl, hn0⟩ := K
  obtain ⟨o, d, rfl, d1, d2⟩ := d
  exact G.plain (fun T locs t X q => XS.goto X.here hx rfl rfl d d1 d2 q) g
theorem G.icmp_eq (K : Ok k Z n0 own R bytes maxL ret nm) {x y : Int32} (d : Db bytes pc (.if_icmp .eq) nx tg) (gy : x = y → G k n0 Q h cells slots tg Ls St) (gn : ¬ (x = y) → G k n0 Q h cells slots nx Ls St) : G k n0 Q h cells slots pc Ls (.int y :: .int x :: St) := by
  obtain ⟨p, l, e, R', s, m, args, below, meth, c⟩ := k
  obtain ⟨hx, hZ, hown, rfl, rfl, rfl, rfl, hlk, rfl, hn0⟩ := K
  obtain ⟨o, d, rfl, d1, d2⟩ := d
  by_cases q : x = y
  · exact G.plain (fun T locs t X z => XS.icmpYes X.here hx rfl rfl d rfl (XT.ii_eq_t q) d1 d2 z) (gy q)
  · exact G.plain (fun T locs t X z => XS.icmpNo X.here hx rfl d rfl (XT.ii_eq_f q) z) (gn q)
theorem G.if_eq (K : Ok k Z n0 own R bytes maxL ret nm) {x : Int32} (d : Db bytes pc (.ifCond .eq) nx tg) (gy : x = 0 → G k n0 Q h cells slots tg Ls St) (gn : ¬ (x = 0) → G k n0 Q h cells slots nx Ls St) : G k n0 Q h cells slots pc Ls (.int x :: St) := by
  obtain ⟨p, l, e, R', s, m, args, below, meth, c⟩ := k
  obtain ⟨hx, hZ, hown, rfl, rfl, rfl, rfl, hlk, rfl, hn0⟩ := K
  obtain ⟨o, d, rfl, d1, d2⟩ := d
  by_cases q : x = 0
  · exact G.plain (fun T locs t X z => XS.ifYes X.here hx rfl rfl d rfl (XT.i0_eq_t q) d1 d2 z) (gy q)
  · exact G.plain (fun T locs t X z => XS.ifNo X.here hx rfl d rfl (XT.i0_eq_f q) z) (gn q)
theorem G.lcmp_eq (K : Ok k Z n0 own R bytes maxL ret nm) {x y : Int64} {pd : Nat} (dl : Dc bytes pc .lcmp 1 pd) (d : Db bytes pd (.ifCond .eq) nx tg) (gy : x = y → G k n0 Q h cells slots tg Ls St) (gn : ¬ (x = y) → G k n0 Q h cells slots nx Ls St) : G k n0 Q h cells slots pc Ls (.long y :: .long x :: St) := by
  obtain ⟨p, l, e, R', s, m, args, below, meth, c⟩ := k
  obtain ⟨hx, hZ, hown, rfl, rfl, rfl, rfl, hlk, rfl, hn0⟩ := K
  obtain ⟨dl, rfl⟩ := dl
  obtain ⟨o, d, rfl, d1, d2⟩ := d
  by_cases q : x = y
  · exact G.plain (fun T locs t X z => XT.lcmp X.here hx rfl dl rfl (XS.ifYes X.here hx rfl rfl d rfl (XT.ll_eq_t q) d1 d2 z)) (gy q)
  · exact G.plain (fun T locs t X z => XT.lcmp X.here hx rfl dl rfl (XS.ifNo X.here hx rfl d rfl (XT.ll_eq_f q) z)) (gn q)
theorem G.icmp_ne (K : Ok k Z n0 own R bytes maxL ret nm) {x y : Int32} (d : Db bytes pc (.if_icmp .ne) nx tg) (gy : ¬ (x = y) → G k n0 Q h cells slots tg Ls St) (gn : x = y → G k n0 Q h cells slots nx Ls St) : G k n0 Q h cells slots pc Ls (.int y :: .int x :: St) := by
  obtain ⟨p, l, e, R', s, m, args, below, meth, c⟩ := k
  obtain ⟨hx, hZ, hown, rfl, rfl, rfl, rfl, hlk, rfl, hn0⟩ := K
  obtain ⟨o, d, rfl, d1, d2⟩ := d
  by_cases q : x = y
  · exact G.plain (fun T locs t X z => XS.icmpNo X.here hx rfl d rfl (XT.ii_ne_f q) z) (gn q)
  · exact G.plain (fun T locs t X z => XS.icmpYes X.here hx rfl rfl d rfl (XT.ii_ne_t q) d1 d2 z) (gy q)
theorem G.if_ne (K : Ok k Z n0 own R bytes maxL ret nm) {x : Int32} (d : Db bytes pc (.ifCond .ne) nx tg) (gy : ¬ (x = 0) → G k n0 Q h cells slots tg Ls St) (gn : x = 0 → G k n0 Q h cells slots nx Ls St) : G k n0 Q h cells slots pc Ls (.int x :: St) := by
  obtain ⟨p, l, e, R', s, m, args, below, meth, c⟩ := k
  obtain ⟨hx, hZ, hown, rfl, rfl, rfl, rfl, hlk, rfl, hn0⟩ := K
  obtain ⟨o, d, rfl, d1, d2⟩ := d
  by_cases q : x = 0
  · exact G.plain (fun T locs t X z => XS.ifNo X.here hx rfl d rfl (XT.i0_ne_f q) z) (gn q)
  · exact G.plain (fun T locs t X z => XS.ifYes X.here hx rfl rfl d rfl (XT.i0_ne_t q) d1 d2 z) (gy q)
theorem G.lcmp_ne (K : Ok k Z n0 own R bytes maxL ret nm) {x y : Int64} {pd : Nat} (dl : Dc bytes pc .lcmp 1 pd) (d : Db bytes pd (.ifCond .ne) nx tg) (gy : ¬ (x = y) → G k n0 Q h cells slots tg Ls St) (gn : x = y → G k n0 Q h cells slots nx Ls St) : G k n0 Q h cells slots pc Ls (.long y :: .long x :: St) := by
  obtain ⟨p, l, e, R', s, m, args, below, meth, c⟩ := k
  obtain ⟨hx, hZ, hown, rfl, rfl, rfl, rfl, hlk, rfl, hn0⟩ := K
  obtain ⟨dl, rfl⟩ := dl
  obtain ⟨o, d, rfl, d1, d2⟩ := d
  by_cases q : x = y
  · exact G.plain (fun T locs t X z => XT.lcmp X.here hx rfl dl rfl (XS.ifNo X.here hx rfl d rfl (XT.ll_ne_f q) z)) (gn q)
  · exact G.plain (fun T locs t X z => XT.lcmp X.here hx rfl dl rfl (XS.ifYes X.here hx rfl rfl d rfl (XT.ll_ne_t q) d1 d2 z)) (gy q)
theorem G.icmp_lt (K : Ok k Z n0 own R bytes maxL ret nm) {x y : Int32} (d : Db bytes pc (.if_icmp .lt) nx tg) (gy : x < y → G k n0 Q h cells slots tg Ls St) (gn : ¬ (x < y) → G k n0 Q h cells slots nx Ls St) : G k n0 Q h cells slots pc Ls (.int y :: .int x :: St) := by
  obtain ⟨p, l, e, R', s, m, args, below, meth, c⟩ := k
  obtain ⟨hx, hZ, hown, rfl, rfl, rfl, rfl, hlk, rfl, hn0⟩ := K
  obtain ⟨o, d, rfl, d1, d2⟩ := d
  by_cases q : x < y
  · exact G.plain (fun T locs t X z => XS.icmpYes X.here hx rfl rfl d rfl (XT.ii_lt_t q) d1 d2 z) (gy q)
  · exact G.plain (fun T locs t X z => XS.icmpNo X.here hx rfl d rfl (XT.ii_lt_f q) z) (gn q)
theorem G.if_lt (K : Ok k Z n0 own R bytes maxL ret nm) {x : Int32} (d : Db bytes pc (.ifCond .lt) nx tg) (gy : x < 0 → G k n0 Q h cells slots tg Ls St) (gn : ¬ (x < 0) → G k n0 Q h cells slots nx Ls St) : G k n0 Q h cells slots pc Ls (.int x :: St) := by
  obtain ⟨p, l, e, R', s, m, args, below, meth, c⟩ := k
  obtain ⟨hx, hZ, hown, rfl, rfl, rfl, rfl, hlk, rfl, hn0⟩ := K
  obtain ⟨o, d, rfl, d1, d2⟩ := d
  by_cases q : x < 0
  · exact G.plain (fun T locs t X z => XS.ifYes X.here hx rfl rfl d rfl (XT.i0_lt_t q) d1 d2 z) (gy q)
  · exact G.plain (fun T locs t X z => XS.ifNo X.here hx rfl d rfl (XT.i0_lt_f q) z) (gn q)
theorem G.lcmp_lt (K : Ok k Z n0 own R bytes maxL ret nm) {x y : Int64} {pd : Nat} (dl : Dc bytes pc .lcmp 1 pd) (d : Db bytes pd (.ifCond .lt) nx tg) (gy : x < y → G k n0 Q h cells slots tg Ls St) (gn : ¬ (x < y) → G k n0 Q h cells slots nx Ls St) : G k n0 Q h cells slots pc Ls (.long y :: .long x :: St) := by
  obtain ⟨p, l, e, R', s, m, args, below, meth, c⟩ := k
  obtain ⟨hx, hZ, hown, rfl, rfl, rfl, rfl, hlk, rfl, hn0⟩ := K
  obtain ⟨dl, rfl⟩ := dl
  obtain ⟨o, d, rfl, d1, d2⟩ := d
  by_cases q : x < y
  · exact G.plain (fun T locs t X z => XT.lcmp X.here hx rfl dl rfl (XS.ifYes X.here hx rfl rfl d rfl (XT.ll_lt_t q) d1 d2 z)) (gy q)
  · exact G.plain (fun T locs t X z => XT.lcmp X.here hx rfl dl rfl (XS.ifNo X.here hx rfl d rfl (XT.ll_lt_f q) z)) (gn q)
theorem G.icmp_ge (K : Ok k Z n0 own R bytes maxL ret nm) {x y : Int32} (d : Db bytes pc (.if_icmp .ge) nx tg) (gy : ¬ (x < y) → G k n0 Q h cells slots tg Ls St) (gn : x < y → G k n0 Q h cells slots nx Ls St) : G k n0 Q h cells slots pc Ls (.int y :: .int x :: St) := by
  obtain ⟨p, l, e, R', s, m, args, below, meth, c⟩ := k
  obtain ⟨hx, hZ, hown, rfl, rfl, rfl, rfl, hlk, rfl, hn0⟩ := K
  obtain ⟨o, d, rfl, d1, d2⟩ := d
  by_cases q : x < y
  · exact G.plain (fun T locs t X z => XS.icmpNo X.here hx rfl d rfl (XT.ii_ge_f q) z) (gn q)
  · exact G.plain (fun T locs t X z => XS.icmpYes X.here hx rfl rfl d rfl (XT.ii_ge_t q) d1 d2 z) (gy q)
theorem G.if_ge (K : Ok k Z n0 own R bytes maxL ret nm) {x : Int32} (d : Db bytes pc (.ifCond .ge) nx tg) (gy : ¬ (x < 0) → G k n0 Q h cells slots tg Ls St) (gn : x < 0 → G k n0 Q h cells slots nx Ls St) : G k n0 Q h cells slots pc Ls (.int x :: St) := by
  obtain ⟨p, l, e, R', s, m, args, below, meth, c⟩ := k
  obtain ⟨hx, hZ, hown, rfl, rfl, rfl, rfl, hlk, rfl, hn0⟩ := K
  obtain ⟨o, d, rfl, d1, d2⟩ := d
  by_cases q : x < 0
  · exact G.plain (fun T locs t X z => XS.ifNo X.here hx rfl d rfl (XT.i0_ge_f q) z) (gn q)
  · exact G.plain (fun T locs t X z => XS.ifYes X.here hx rfl rfl d rfl (XT.i0_ge_t q) d1 d2 z) (gy q)
theorem G.lcmp_ge (K : Ok k Z n0 own R bytes maxL ret nm) {x y : Int64} {pd : Nat} (dl : Dc bytes pc .lcmp 1 pd) (d : Db bytes pd (.ifCond .ge) nx tg) (gy : ¬ (x < y) → G k n0 Q h cells slots tg Ls St) (gn : x < y → G k n0 Q h cells slots nx Ls St) : G k n0 Q h cells slots pc Ls (.long y :: .long x :: St) := by
  obtain ⟨p, l, e, R', s, m, args, below, meth, c⟩ := k
  obtain ⟨hx, hZ, hown, rfl, rfl, rfl, rfl, hlk, rfl, hn0⟩ := K
  obtain ⟨dl, rfl⟩ := dl
  obtain ⟨o, d, rfl, d1, d2⟩ := d
  by_cases q : x < y
  · exact G.plain (fun T locs t X z => XT.lcmp X.here hx rfl dl rfl (XS.ifNo X.here hx rfl d rfl (XT.ll_ge_f q) z)) (gn q)
  · exact G.plain (fun T locs t X z => XT.lcmp X.here hx rfl dl rfl (XS.ifYes X.here hx rfl rfl d rfl (XT.ll_ge_t q) d1 d2 z)) (gy q)
theorem G.icmp_gt (K : Ok k Z n0 own R bytes maxL ret nm) {x y : Int32} (d : Db bytes pc (.if_icmp .gt) nx tg) (gy : y < x → G k n0 Q h cells slots tg Ls St) (gn : ¬ (y < x) → G k n0 Q h cells slots nx Ls St) : G k n0 Q h cells slots pc Ls (.int y :: .int x :: St) := by
  obtain ⟨p, l, e, R', s, m, args, below, meth, c⟩ := k
  obtain ⟨hx, hZ, hown, rfl, rfl, rfl, rfl, hlk, rfl, hn0⟩ := K
  obtain ⟨o, d, rfl, d1, d2⟩ := d
  by_cases q : y < x
  · exact G.plain (fun T locs t X z => XS.icmpYes X.here hx rfl rfl d rfl (XT.ii_gt_t q) d1 d2 z) (gy q)
  · exact G.plain (fun T locs t X z => XS.icmpNo X.here hx rfl d rfl (XT.ii_gt_f q) z) (gn q)
theorem G.if_gt (K : Ok k Z n0 own R bytes maxL ret nm) {x : Int32} (d : Db bytes pc (.ifCond .gt) nx tg) (gy : 0 < x → G k n0 Q h cells slots tg Ls St) (gn : ¬ (0 < x) → G k n0 Q h cells slots nx Ls St) : G k n0 Q h cells slots pc Ls (.int x :: St) := by
  obtain ⟨p, l, e, R', s, m, args, below, meth, c⟩ := k
  obtain ⟨hx, hZ, hown, rfl, rfl, rfl, rfl, hlk, rfl, hn0⟩ := K
  obtain ⟨o, d, rfl, d1, d2⟩ := d
  by_cases q : 0 < x
  · exact G.plain (fun T locs t X z => XS.ifYes X.here hx rfl rfl d rfl (XT.i0_gt_t q) d1 d2 z) (gy q)
  · exact G.plain (fun T locs t X z => XS.ifNo X.here hx rfl d rfl (XT.i0_gt_f q) z) (gn q)
theorem G.lcmp_gt (K : Ok k Z n0 own R bytes maxL ret nm) {x y : Int64} {pd : Nat} (dl : Dc bytes pc .lcmp 1 pd) (d : Db bytes pd (.ifCond .gt) nx tg) (gy : y < x → G k n0 Q h cells slots tg Ls St) (gn : ¬ (y < x) → G k n0 Q h cells slots nx Ls St) : G k n0 Q h cells slots pc Ls (.long y :: .long x :: St) := by
  obtain ⟨p, l, e, R', s, m, args, below, meth, c⟩ := k
  obtain ⟨hx, hZ, hown, rfl, rfl, rfl, rfl, hlk, rfl, hn0⟩ := K
  obtain ⟨dl, rfl⟩ := dl
  obtain ⟨o, d, rfl, d1, d2⟩ := d
  by_cases q : y < x
  · exact G.plain (fun T locs t X z => XT.lcmp X.here hx rfl dl rfl (XS.ifYes X.here hx rfl rfl d rfl (XT.ll_gt_t q) d1 d2 z)) (gy q)
  · exact G.plain (fun T locs t X z => XT.lcmp X.here hx rfl dl rfl (XS.ifNo X.here hx rfl d rfl (XT.ll_gt_f q) z)) (gn q)
theorem G.icmp_le (K : Ok k Z n0 own R bytes maxL ret nm) {x y : Int32} (d : Db bytes pc (.if_icmp .le) nx tg) (gy : ¬ (y < x) → G k n0 Q h cells slots tg Ls St) (gn : y < x → G k n0 Q h cells slots nx Ls St) : G k n0 Q h cells slots pc Ls (.int y :: .int x :: St) := by
  obtain ⟨p, l, e, R', s, m, args, below, meth, c⟩ := k
  obtain ⟨hx, hZ, hown, rfl, rfl, rfl, rfl, hlk, rfl, hn0⟩ := K
  obtain ⟨o, d, rfl, d1, d2⟩ := d
  by_cases q : y < x
  · exact G.plain (fun T locs t X z => XS.icmpNo X.here hx rfl d rfl (XT.ii_le_f q) z) (gn q)
  · exact G.plain (fun T locs t X z => XS.icmpYes X.here hx rfl rfl d rfl (XT.ii_le_t q) d1 d2 z) (gy q)
theorem G.if_le (K : Ok k Z n0 own R bytes maxL ret nm) {x : Int32} (d : Db bytes pc (.ifCond .le) nx tg) (gy : ¬ (0 < x) → G k n0 Q h cells slots tg Ls St) (gn : 0 < x → G k n0 Q h cells slots nx Ls St) : G k n0 Q h cells slots pc Ls (.int x :: St) := by
  obtain ⟨p, l, e, R', s, m, args, below, meth, c⟩ := k
  obtain ⟨hx, hZ, hown, rfl, rfl, rfl, rfl, hlk, rfl, hn0⟩ := K
  obtain ⟨o, d, rfl, d1, d2⟩ := d
  by_cases q : 0 < x
  · exact G.plain (fun T locs t X z => XS.ifNo X.here hx rfl d rfl (XT.i0_le_f q) z) (gn q)
  · exact G.plain (fun T locs t X z => XS.ifYes X.here hx rfl rfl d rfl (XT.i0_le_t q) d1 d2 z) (gy q)
theorem G.lcmp_le (K : Ok k Z n0 own R bytes maxL ret nm) {x y : Int64} {pd : Nat} (dl : Dc bytes pc .lcmp 1 pd) (d : Db bytes pd (.ifCond .le) nx tg) (gy : ¬ (y < x) → G k n0 Q h cells slots tg Ls St) (gn : y < x → G k n0 Q h cells slots nx Ls St) : G k n0 Q h cells slots pc Ls (.long y :: .long x :: St) := by
  obtain ⟨p, l, e, R', s, m, args, below, meth, c⟩ := k
  obtain ⟨hx, hZ, hown, rfl, rfl, rfl, rfl, hlk, rfl, hn0⟩ := K
  obtain ⟨dl, rfl⟩ := dl
  obtain ⟨o, d, rfl, d1, d2⟩ := d
  by_cases q : y < x
  · exact G.plain (fun T locs t X z => XT.lcmp X.here hx rfl dl rfl (XS.ifNo X.here hx rfl d rfl (XT.ll_le_f q) z)) (gn q)
  · exact G.plain (fun T locs t X z => XT.lcmp X.here hx rfl dl rfl (XS.ifYes X.here hx rfl rfl d rfl (XT.ll_le_t q) d1 d2 z)) (gy q)
theorem G.ifnull_ref (K : Ok k Z n0 own R bytes maxL ret nm) {a : Addr} (d : Db bytes pc .ifnull nx tg) (g : G k n0 Q h cells slots nx Ls St) : G k n0 Q h cells slots pc Ls (.ref a :: St) := by
  obtain ⟨p, l, e, R', s, m, args, below, meth, c⟩ := k
  obtain ⟨hx, hZ, hown, rfl, rfl, rfl, rfl, hlk, rfl, hn0⟩ := K
  obtain ⟨o, d, rfl, d1, d2⟩ := d
  exact G.plain (fun T locs t X q => XS.ifnullNo X.here hx rfl d rfl q) g
theorem G.ifnonnull_ref (K : Ok k Z n0 own R bytes maxL ret nm) {a : Addr} (d : Db bytes pc .ifnonnull nx tg) (g : G k n0 Q h cells slots tg Ls St) : G k n0 Q h cells slots pc Ls (.ref a :: St) := by
  obtain ⟨p, l, e, R', s, m, args, below, meth, c⟩ := k
  obtain ⟨hx, hZ, hown, rfl, rfl, rfl, rfl, hlk, rfl, hn0⟩ := K
  obtain ⟨o, d, rfl, d1, d2⟩ := d
  exact G.plain (fun T locs t X q => XT.ifnonnullYes X.here hx rfl rfl d rfl d1 d2 q) g
theorem G.acmp_ne (K : Ok k Z n0 own R bytes maxL ret nm) {x y : Value} (hx' : x.isRef = true) (hy' : y.isRef = true) (d : Db bytes pc (.if_acmp .ne) nx tg) (gy : ¬ x = y → G k n0 Q h cells slots tg Ls St) (gn : x = y → G k n0 Q h cells slots nx Ls St) : G k n0 Q h cells slots pc Ls (y :: x :: St) := by
  obtain ⟨p, l, e, R', s, m, args, below, meth, c⟩ := k
  obtain ⟨hx, hZ, hown, rfl, rfl, rfl, rfl, hlk, rfl, hn0⟩ := K
  obtain ⟨o, d, rfl, d1, d2⟩ := d
  by_cases q : x = y
  · exact G.plain (fun T locs t X z => XT.acmpNo X.here hx rfl d rfl hx' hy' (XT.aa_ne_f q) z) (gn q)
  · exact G.plain (fun T locs t X z => XT.acmpYes X.here hx rfl rfl d rfl hx' hy' (XT.aa_ne_t q) d1 d2 z) (gy q)
/-- the end -/
theorem G.leave {p : Program} {l : Launch} {e : Env} {R : Room} {s : State} {m : MethodId} {args : Array Value} {below : List Frame} {meth : Method} {c : Code} (hlk : meth.locks = false) (v : Option Value) (hv : meth.sig.returnType = none → v = none) (hq : Q v h)
    (st : ∀ T locs fs, Stand p l e R s m args below meth c T locs cells slots → (∀ (f : JFrame) (acts : List Action), f.method = m → f.locked = none → f.entered = [] → (doReturn e (T.setTop f) acts v).1 = T.setFrames fs) → Steps p.tables e below (T.setTop (mkF m pc ⟨Ls⟩ St)) (T.setFrames fs)) :
    G (p, l, e, R, s, m, args, below, meth, c) n0 Q h cells slots pc Ls St := by
  intro hc hs T locs X eT N
  obtain ⟨fs, hr, hrun, hended, hW, hsame⟩ := X.leave (v := v) hv hlk
  exact ⟨_, _, st T locs fs X hr, hrun, hended, v, locs, rfl, ⟨by show Q v T.heap; rw [eT]; exact hq, N⟩, ⟨_, rfl⟩, hW, hsame.mono hc hs⟩
theorem G.ret_int (K : Ok k Z n0 own R bytes maxL (some .int) nm) {x : Int32} (d : Dc bytes pc .ireturn 1 pc') (hq : Q (some (.int x)) h) : G k n0 Q h cells slots pc Ls (.int x :: St) := by
  obtain ⟨p, l, e, R', s, m, args, below, meth, c⟩ := k
  obtain ⟨hx, hZ, hown, rfl, rfl, rfl, hr0, hlk, rfl, hn0⟩ := K
  obtain ⟨d, rfl⟩ := d
  exact G.leave hlk (some (.int x)) (fun q => by rw [hr0] at q; cases q) hq (fun T locs fs X hr => retOut X hx hr0 rfl (Or.inl ⟨rfl, Or.inl rfl, x, rfl⟩) d hr)
theorem G.ret_bool (K : Ok k Z n0 own R bytes maxL (some .boolean) nm) {x : Int32} (d : Dc bytes pc .ireturn 1 pc') (hq : Q (some (.int (x &&& 1))) h) : G k n0 Q h cells slots pc Ls (.int x :: St) := by
  obtain ⟨p, l, e, R', s, m, args, below, meth, c⟩ := k
  obtain ⟨hx, hZ, hown, rfl, rfl, rfl, hr0, hlk, rfl, hn0⟩ := K
  obtain ⟨d, rfl⟩ := d
  exact G.leave hlk (some (.int (x &&& 1))) (fun q => by rw [hr0] at q; cases q) hq (fun T locs fs X hr => retN X hx (t := .boolean) hr0 (by simp) d hr)
theorem G.ret_long (K : Ok k Z n0 own R bytes maxL (some .long) nm) {x : Int64} (d : Dc bytes pc .lreturn 1 pc') (hq : Q (some (.long x)) h) : G k n0 Q h cells slots pc Ls (.long x :: St) := by
  obtain ⟨p, l, e, R', s, m, args, below, meth, c⟩ := k
  obtain ⟨hx, hZ, hown, rfl, rfl, rfl, hr0, hlk, rfl, hn0⟩ := K
  obtain ⟨d, rfl⟩ := d
  exact G.leave hlk (some (.long x)) (fun q => by rw [hr0] at q; cases q) hq (fun T locs fs X hr => retOut X hx hr0 rfl (Or.inr (Or.inl ⟨rfl, rfl, x, rfl⟩)) d hr)
theorem G.ret_ref {t : FieldType} (K : Ok k Z n0 own R bytes maxL (some t) nm) (ht : t.isReference = true) {x : Value} (hv : x.isRef = true) (d : Dc bytes pc .areturn 1 pc') (hq : Q (some x) h) : G k n0 Q h cells slots pc Ls (x :: St) := by
  obtain ⟨p, l, e, R', s, m, args, below, meth, c⟩ := k
  obtain ⟨hx, hZ, hown, rfl, rfl, rfl, hr0, hlk, rfl, hn0⟩ := K
  obtain ⟨d, rfl⟩ := d
  have hn : narrow t x = x := by rcases ref_cases hv with rfl | ⟨a, rfl⟩ <;> cases t <;> rfl
  exact G.leave hlk (some x) (fun q => by rw [hr0] at q; cases q) hq (fun T locs fs X hr => retOut X hx hr0 hn (Or.inr (Or.inr (Or.inr (Or.inr ⟨rfl, ht, hv⟩)))) d hr)
theorem G.ret_void (K : Ok k Z n0 own R bytes maxL none nm) (d : Dc bytes pc .return_ 1 pc') (hq : Q none h) : G k n0 Q h cells slots pc Ls [] := by
  obtain ⟨p, l, e, R', s, m, args, below, meth, c⟩ := k
  obtain ⟨hx, hZ, hown, rfl, rfl, rfl, hr0, hlk, rfl, hn0⟩ := K
  obtain ⟨d, rfl⟩ := d
  exact G.leave hlk none (fun q => rfl) hq (fun T locs fs X hr => X.returnOut hx hr0 d hr)
/-! ### what is known of the heap: one word a cell that the law has made -/
theorem nd_inj {α : Type} {L : List α} (H : L.Nodup) {i j : Nat} {x : α} (hi : L[i]? = some x) (hj : L[j]? = some x) : i = j := by
  obtain ⟨h1, e1⟩ := List.getElem?_eq_some_iff.mp hi
  obtain ⟨h2, e2⟩ := List.getElem?_eq_some_iff.mp hj
  have w := List.pairwise_iff_getElem.mp H
  rcases Nat.lt_trichotomy i j with q | q | q
  · exact absurd (e1.trans e2.symm) (w i j h1 h2 q)
  · exact q
  · exact absurd (e2.trans e1.symm) (w j i h2 h1 q)
abbrev Ch := Addr × (Cell → Prop)
def Hp (n0 : Nat) (h : Heap) (σ : List Ch) : Prop := (σ.map Prod.fst).Nodup ∧ ∀ q ∈ σ, n0 ≤ q.1 ∧ ∃ cell, h[q.1]? = some cell ∧ q.2 cell
variable {σ : List Ch} {a : Addr} {P P' : Cell → Prop} {i : Nat} {h' : Heap}
theorem Hp.nil : Hp n0 h [] := ⟨List.nodup_nil, fun _ q => nomatch q⟩
theorem Hp.at (H : Hp n0 h σ) (hi : σ[i]? = some (a, P)) : n0 ≤ a ∧ ∃ cell, h[a]? = some cell ∧ P cell := H.2 _ (List.mem_of_getElem? hi)
theorem Hp.ge (H : Hp n0 h σ) (hi : σ[i]? = some (a, P)) : n0 ≤ a := (H.at hi).1
theorem Hp.lt (H : Hp n0 h σ) (q : Ch) (hq : q ∈ σ) : q.1 < h.size := by
  obtain ⟨-, cell, h1, -⟩ := H.2 _ hq
  exact (Array.getElem?_eq_some_iff.mp h1).1
theorem Hp.ne (H : Hp n0 h σ) {j : Nat} {b : Addr} {P' : Cell → Prop} (hi : σ[i]? = some (a, P)) (hj : σ[j]? = some (b, P')) (q : i ≠ j) : a ≠ b := by
  intro e
  subst e
  exact q (nd_inj H.1 (x := a) (by simp [hi]) (by simp [hj]))
theorem Hp.ext (H : Hp n0 h σ) (E : Ext h h') : Hp n0 h' σ := ⟨H.1, fun q hq => by obtain ⟨h1, c, h2, h3⟩ := H.2 q hq; exact ⟨h1, c, E.2 _ _ h2, h3⟩⟩
theorem Hp.cons (H : Hp n0 h σ) (E : Ext h h') (hn : n0 ≤ h.size) (w : ∃ cell, h'[h.size]? = some cell ∧ P cell) : Hp n0 h' ((h.size, P) :: σ) := by
  refine ⟨?_, fun q hq => ?_⟩
  · rw [List.map_cons, List.nodup_cons]
    refine ⟨fun q => ?_, H.1⟩
    obtain ⟨x, hx, e⟩ := List.mem_map.mp q
    have := H.lt x hx
    rw [e] at this
    exact absurd this (Nat.lt_irrefl _)
  · rcases List.mem_cons.mp hq with rfl | hq
    · exact ⟨hn, w⟩
    · exact (H.ext E).2 q hq
theorem Hp.drop {x : Ch} (H : Hp n0 h (x :: σ)) : Hp n0 h σ := ⟨(List.nodup_cons.mp H.1).2, fun q hq => H.2 q (List.mem_cons_of_mem _ hq)⟩
theorem Hp.sub {σ' : List Ch} (H : Hp n0 h σ) (q : σ'.Sublist σ) : Hp n0 h σ' := ⟨List.Nodup.sublist (q.map _) H.1, fun x hx => H.2 x (q.subset hx)⟩
theorem Hp.perm {σ' : List Ch} (H : Hp n0 h σ) (q : σ'.Perm σ) : Hp n0 h σ' := ⟨(List.Perm.nodup_iff (q.map Prod.fst)).mpr H.1, fun x hx => H.2 x (q.mem_iff.mp hx)⟩
theorem perm_pull : ∀ {i : Nat} {σ : List Ch} {x : Ch}, σ[i]? = some x → (x :: σ.eraseIdx i).Perm σ
  | 0, y :: σ, x, e => by cases Option.some.inj e; exact List.Perm.refl _
  | i + 1, y :: σ, x, e => ((List.Perm.swap y x _).trans ((perm_pull (i := i) (σ := σ) e).cons y))
theorem Hp.pull (H : Hp n0 h σ) (i : Nat) {x : Ch} (hi : σ[i]? = some x) : Hp n0 h (x :: σ.eraseIdx i) := H.perm (perm_pull hi)
theorem Hp.set (H : Hp n0 h σ) (hi : σ[i]? = some (a, P)) (hs : h'.size = h.size) (ho : ∀ b, b ≠ a → h'[b]? = h[b]?) (w : ∃ cell, h'[a]? = some cell ∧ P' cell) : Hp n0 h' (σ.set i (a, P')) := by
  obtain ⟨hlt, e1⟩ := List.getElem?_eq_some_iff.mp hi
  have em : (σ.set i (a, P')).map Prod.fst = σ.map Prod.fst := by
    apply List.ext_getElem?
    intro j
    by_cases q : i = j
    · subst q; simp [hlt, e1]
    · simp [List.getElem?_set_ne q]
  refine ⟨by rw [em]; exact H.1, fun q hq => ?_⟩
  obtain ⟨j, hj, e⟩ := List.getElem_of_mem hq
  rw [List.getElem_set] at e
  rw [List.length_set] at hj
  by_cases z : i = j
  · rw [if_pos z] at e; subst e; exact ⟨H.ge hi, w⟩
  · rw [if_neg z] at e
    have hj' : σ[j]? = some (q.1, q.2) := by rw [List.getElem?_eq_getElem hj, e]
    have hne : q.1 ≠ a := H.ne hj' hi (Ne.symm z)
    obtain ⟨h1, c, h2, h3⟩ := H.at hj'
    exact ⟨h1, c, by rw [ho _ hne]; exact h2, h3⟩
theorem Hp.wr {sl : Nat} {v : Value} (H : Hp n0 h σ) (hi : σ[i]? = some (a, P)) (W : Wr h h' a sl v) (hP : ∀ cell, P cell → P' (cell.setSlot sl v)) : Hp n0 h' (σ.set i (a, P')) := by
  obtain ⟨cell, h1, h2, h3, rfl⟩ := W
  obtain ⟨-, c', h4, h5⟩ := H.at hi
  cases h1.symm.trans h4
  refine H.set hi (by simp) (fun b hb => Array.getElem?_setIfInBounds_ne (Ne.symm hb)) ⟨_, Array.getElem?_setIfInBounds_self_of_lt (Array.getElem?_eq_some_iff.mp h1).1, hP _ h5⟩
theorem Hp.imp (H : Hp n0 h σ) (hi : σ[i]? = some (a, P)) (hP : ∀ cell, P cell → P' cell) : Hp n0 h (σ.set i (a, P')) := by
  obtain ⟨-, c, h1, h2⟩ := H.at hi
  exact H.set hi rfl (fun _ _ => rfl) ⟨c, h1, hP c h2⟩
/-- an object, its class, the fields that are spoken of and what they hold -/
def Ob (Z : State) (C : String) (NS : List (String × String × String)) (vs : List Value) (cell : Cell) : Prop :=
  (∃ k, Z.vm.findClass C = some cell.cls ∧ Z.vm.classes[cell.cls]? = some k ∧ cell.vm.isStatics = false ∧ (k.kind = .ordinary → cell.slots.size = k.instanceTypes.size)) ∧
  ∀ (j : Nat) (f : String × String × String) (v : Value), NS[j]? = some f → vs[j]? = some v → ∃ (cf : ClassId) (k : Class) (i : Nat) (fd : Field), Z.fieldFound? f.1 f.2.1 f.2.2 = some (cf, k, i, fd) ∧ fd.isStatic = false ∧ cell.vm ≠ .unknown ∧ Z.vm.assignable cell.cls cf = true ∧ cell.slots[fd.slot]? = some v
/-- what the sheet says of a class's fields -/
def Cf (Z : State) (a0 : Array Value) (C : String) (NS : List (String × String × String)) : Prop := (∀ f ∈ NS, Laid Z a0 C f.1 f.2.1 f.2.2) ∧ (NS.map fun f => f.2.1).Nodup ∧ ∀ f ∈ NS, ∃ t, parseFieldDescriptor f.2.2 = some t
variable {C O n ds : String} {NS : List (String × String × String)} {vs : List Value} {j : Nat} {v w : Value}
theorem Hp.exa (H : Hp n0 h σ) (hi : σ[i]? = some (a, Ob Z C NS vs)) : Exa Z h a C := by
  obtain ⟨-, cell, h1, ⟨k, h2, h3, h4, h5⟩, -⟩ := H.at hi
  exact ⟨cell, k, h1, h2, h3, h4, h5⟩
theorem Hp.fld (H : Hp n0 h σ) (hi : σ[i]? = some (a, Ob Z C NS vs)) (hj : NS[j]? = some (O, n, ds)) (hv : vs[j]? = some v) : Fld Z h a O n ds v := by
  obtain ⟨-, cell, h1, ⟨k, h2, h3, h4, h5⟩, h6⟩ := H.at hi
  obtain ⟨cf, k, i, fd, q1, q2, q3, q4, q5⟩ := h6 j _ _ hj hv
  exact ⟨cell, cf, k, i, fd, h1, q1, q2, q3, h4, q4, q5⟩
theorem Ob.set (F : Cf Z a0 C NS) (hj : NS[j]? = some (O, n, ds)) (hv : vs[j]? = some v) (w : Value) {cell : Cell} (B : Ob Z C NS vs cell) : Ob Z C NS (vs.set j w) (cell.setSlot (RoadKit.slotOf Z O n ds) w) := by
  obtain ⟨⟨k, h2, h3, h4, h5⟩, h6⟩ := B
  refine ⟨⟨k, h2, h3, h4, fun q => by rw [sz_set]; exact h5 q⟩, fun j' f v' hf hv' => ?_⟩
  obtain ⟨cf, kk, ii, fd, q1, q2, q3, q4, q5⟩ := h6 j _ _ hj hv
  have es : RoadKit.slotOf Z O n ds = fd.slot := by simp [RoadKit.slotOf, q1]
  by_cases z : j = j'
  · subst z
    cases hj.symm.trans hf
    have hl := (List.getElem?_eq_some_iff.mp hv).1
    rw [List.getElem?_set_self hl] at hv'
    cases hv'
    refine ⟨cf, kk, ii, fd, q1, q2, q3, q4, ?_⟩
    rw [es]
    exact Array.getElem?_setIfInBounds_self_of_lt (Array.getElem?_eq_some_iff.mp q5).1
  · rw [List.getElem?_set_ne z] at hv'
    obtain ⟨cf', kk', ii', fd', r1, r2, r3, r4, r5⟩ := h6 j' _ _ hf hv'
    refine ⟨cf', kk', ii', fd', r1, r2, r3, r4, ?_⟩
    have es' : RoadKit.slotOf Z f.1 f.2.1 f.2.2 = fd'.slot := by simp [RoadKit.slotOf, r1]
    have m1 := List.mem_of_getElem? hj
    have m2 := List.mem_of_getElem? hf
    have hne : n ≠ f.2.1 := by
      intro e
      exact z (nd_inj F.2.1 (x := n) (by simp [hj]) (by simp [hf, e]))
    obtain ⟨t1, p1⟩ := F.2.2 _ m1
    obtain ⟨t2, p2⟩ := F.2.2 _ m2
    have := RoadKit.slot_ne (F.1 _ m1) (F.1 _ m2) hne p1 p2
    rw [es'] at this
    show (Array.setIfInBounds _ _ _)[_]? = _
    rw [Array.getElem?_setIfInBounds_ne this]
    exact r5
theorem G.getF (K : Ok k Z n0 own R bytes maxL ret nm) {idx : Nat} {host : String} (w : (Cond.fieldLink own idx O n ds).before a0 Z = true ∨ (Cond.fieldLinkNest own idx O n ds host).before a0 Z = true) (H : Hp n0 h σ) (hi : σ[i]? = some (a, Ob Z C NS vs)) (hj : NS[j]? = some (O, n, ds)) (hv : vs[j]? = some v)
    (d : Dc bytes pc (.getfield idx) 3 pc') (g : G k n0 Q h cells slots pc' Ls (v :: St)) : G k n0 Q h cells slots pc Ls (.ref a :: St) := by
  obtain ⟨p, l, e, R', s, m, args, below, meth, c⟩ := k
  obtain ⟨hx, hZ, hown, rfl, rfl, rfl, rfl, hlk, rfl, hn0⟩ := K
  obtain ⟨d, rfl⟩ := d
  exact G.moved (fun T locs X eT => RoadKit.getF X hx hZ hown w Via.refl eT (H.fld hi hj hv) (g := mkF m pc ⟨Ls⟩ (.ref a :: St)) rfl rfl d) g
theorem G.putF (K : Ok k Z n0 own R bytes maxL ret nm) {idx kk : Nat} {host : String} {ty : FieldType} (w : (Cond.fieldLink own idx O n ds).before a0 Z = true ∨ (Cond.fieldLinkNest own idx O n ds host).before a0 Z = true) (F : Cf Z a0 C NS) (wl : (Cond.lays C O n ds).before a0 Z = true ∨ ((Cond.laysFinal C O n ds).before a0 Z = true ∧ own = O ∧ nm = "<init>")) (wi : (Cond.instantiable C kk).before a0 Z = true)
    (H : Hp n0 h σ) (hi : σ[i]? = some (a, Ob Z C NS vs)) (hj : NS[j]? = some (O, n, ds)) {old : Value} (hv : vs[j]? = some old) (hty : parseFieldDescriptor ds = some ty) (hn : narrow ty v = v) (hf : fits ty v = true)
    (d : Dc bytes pc (.putfield idx) 3 pc') (g : ∀ h', Hp n0 h' (σ.set i (a, Ob Z C NS (vs.set j v))) → G k n0 Q h' cells slots pc' Ls St) : G k n0 Q h cells slots pc Ls (v :: .ref a :: St) := by
  obtain ⟨p, l, e, R', s, m, args, below, meth, c⟩ := k
  obtain ⟨hx, hZ, hown, rfl, rfl, rfl, rfl, hlk, rfl, hn0⟩ := K
  obtain ⟨d, rfl⟩ := d
  intro hc hs T locs X eT N
  obtain ⟨T', h', X', eT', W, st⟩ := RoadKit.putF X hx hZ hown w Via.refl eT (H.fld hi hj hv) (H.exa hi) wl wi hty hn hf (g := mkF m pc ⟨Ls⟩ (v :: .ref a :: St)) rfl rfl d
  obtain ⟨s₂, o, h1, r⟩ := g h' (H.wr hi W fun cell B => Ob.set F hj hv v B) hc hs T' _ X' eT' (Fr.snoc X' N (H.ge hi))
  exact ⟨s₂, o, st s₂ h1, r⟩
theorem G.putFN (K : Ok k Z n0 own R bytes maxL ret nm) {idx kk : Nat} {ty : FieldType} (w : (Cond.fieldLink own idx O n ds).before a0 Z = true) (F : Cf Z a0 C NS) (wl : (Cond.lays C O n ds).before a0 Z = true ∨ ((Cond.laysFinal C O n ds).before a0 Z = true ∧ own = O ∧ nm = "<init>")) (wi : (Cond.instantiable C kk).before a0 Z = true)
    (H : Hp n0 h σ) (hi : σ[i]? = some (a, Ob Z C NS vs)) (hj : NS[j]? = some (O, n, ds)) {old v' : Value} (hv : vs[j]? = some old) (hty : parseFieldDescriptor ds = some ty) (hn : narrow ty v = v') (hf : fits ty v' = true)
    (d : Dc bytes pc (.putfield idx) 3 pc') (g : ∀ h', Hp n0 h' (σ.set i (a, Ob Z C NS (vs.set j v'))) → G k n0 Q h' cells slots pc' Ls St) : G k n0 Q h cells slots pc Ls (v :: .ref a :: St) := by
  obtain ⟨p, l, e, R', s, m, args, below, meth, c⟩ := k
  obtain ⟨hx, hZ, hown, rfl, rfl, rfl, rfl, hlk, rfl, hn0⟩ := K
  obtain ⟨d, rfl⟩ := d
  intro hc hs T locs X eT N
  obtain ⟨T', h', X', eT', W, st⟩ := RoadKit.putFN X hx hZ hown w Via.refl eT (H.fld hi hj hv) (H.exa hi) wl wi hty hn hf (g := mkF m pc ⟨Ls⟩ (v :: .ref a :: St)) rfl rfl d
  obtain ⟨s₂, o, h1, r⟩ := g h' (H.wr hi W fun cell B => Ob.set F hj hv v' B) hc hs T' _ X' eT' (Fr.snoc X' N (H.ge hi))
  exact ⟨s₂, o, st s₂ h1, r⟩
theorem size_ok {p : Program} {l : Launch} {e : Env} {R : Room} {s : State} {m : MethodId} {args : Array Value} {below : List Frame} {meth : Method} {c : Code} {T : State} {locs : List Loc} (X : Stand p l e R s m args below meth c T locs cells slots) (eT : T.heap = h) (hn : n0 ≤ s.heap.size) : n0 ≤ h.size := by
  have := X.same.2.1
  subst eT
  exact Nat.le_trans hn this
theorem G.new (K : Ok k Z n0 own R bytes maxL ret nm) {idx kk : Nat} (w : (Cond.classLink own idx C).before a0 Z = true) (wi : (Cond.instantiable C kk).before a0 Z = true) (wz : (Cond.initialized C).before a0 Z = true) (F : Cf Z a0 C NS)
    (hd : NS.map (fun f => (parseFieldDescriptor f.2.2).map defaultValue) = vs.map some) (H : Hp n0 h σ) (hc : cells + 1 ≤ R.cells) (hl : slots + kk ≤ R.slots) (d : Dc bytes pc (.new idx) 3 pc')
    (g : ∀ a h', Hp n0 h' ((a, Ob Z C NS vs) :: σ) → G k n0 Q h' (cells + 1) (slots + kk) pc' Ls (.ref a :: St)) : G k n0 Q h cells slots pc Ls St := by
  obtain ⟨p, l, e, R', s, m, args, below, meth, c⟩ := k
  obtain ⟨hx, hZ, hown, rfl, rfl, rfl, rfl, hlk, rfl, hn0⟩ := K
  obtain ⟨d, rfl⟩ := d
  intro _ _ T locs X eT N
  obtain ⟨T', h', X', eT', E, A, D, ⟨cell, hc1, hc2, -⟩, st⟩ := RoadKit.newO X hx hZ hown w wi wz eT (g := mkF m pc ⟨Ls⟩ St) rfl d hc hl
  have B : Ob Z C NS vs cell := by
    obtain ⟨c', k, q1, q2, q3, q4, q5⟩ := A
    cases hc1.symm.trans q1
    refine ⟨⟨k, q2, q3, q4, q5⟩, fun j f v hf hv => ?_⟩
    have e1 : (NS.map (fun f => (parseFieldDescriptor f.2.2).map defaultValue))[j]? = some ((parseFieldDescriptor f.2.2).map defaultValue) := by simp [hf]
    rw [hd] at e1
    simp only [List.getElem?_map, hv, Option.map_some, Option.some.injEq] at e1
    obtain ⟨t, ht⟩ := F.2.2 _ (List.mem_of_getElem? hf)
    rw [ht, Option.map_some, Option.some.injEq] at e1
    obtain ⟨c'', cf, k', i', fd, r1, r2, r3, r4, r5, r6, r7⟩ := D (F.1 _ (List.mem_of_getElem? hf)) ht
    cases hc1.symm.trans r1
    exact ⟨cf, k', i', fd, r2, r3, r4, r6, by rw [e1]; exact r7⟩
  obtain ⟨s₂, o, h1, r⟩ := g h.size h' (H.cons E (size_ok X eT hn0) ⟨cell, hc1, B⟩) hc hl T' _ X' eT' N
  exact ⟨s₂, o, st s₂ h1, r⟩
/-! ### arrays -/
def Aa (Z : State) (ty : FieldType) (vs : List Value) (cell : Cell) : Prop := Z.isArrayOf cell ty ∧ cell.vm ≠ .unknown ∧ cell.slots = vs.toArray ∧ vs.length < 2 ^ 31
abbrev Ia (Z : State) (xs : List Int32) : Cell → Prop := Aa Z .int (xs.map Value.int)
abbrev La (Z : State) (xs : List Int64) : Cell → Prop := Aa Z .long (xs.map Value.long)
variable {ty : FieldType} {xs : List Int32} {ys : List Int64} {x z : Int32} {y : Int64}
theorem inb (hn : ¬ z < 0) (hv : vs[z.toNatClampNeg]? = some v) {cell : Cell} (e : cell.slots = vs.toArray) : ¬ (z < 0 ∨ cell.slots.size ≤ z.toNatClampNeg) := by
  intro q
  have := (List.getElem?_eq_some_iff.mp hv).1
  rcases q with q | q
  · exact hn q
  · rw [e] at q; simp at q; omega
theorem G.alen (K : Ok k Z n0 own R bytes maxL ret nm) (H : Hp n0 h σ) (hi : σ[i]? = some (a, Aa Z ty vs)) (d : Dc bytes pc .arraylength 1 pc') (z : Int32) (hz : Int32.ofNat vs.length = z) (g : G k n0 Q h cells slots pc' Ls (.int z :: St)) : G k n0 Q h cells slots pc Ls (.ref a :: St) := by
  obtain ⟨p, l, e, R', s, m, args, below, meth, c⟩ := k
  obtain ⟨hx, hZ, hown, rfl, rfl, rfl, rfl, hlk, rfl, hn0⟩ := K
  obtain ⟨d, rfl⟩ := d
  obtain ⟨-, cell, h1, h2, h3, h4, h5⟩ := H.at hi
  refine G.moved (fun T locs X eT => ⟨T, X, eT, fun t q => ?_⟩) g
  refine X.arraylength hx (by rw [eT]; exact h1) (State.isArrayOf_alike hZ.alike h2) (g := mkF m pc ⟨Ls⟩ (.ref a :: St)) rfl rfl d t ?_
  have : cell.slots.size.toInt32 = z := by rw [h4, ← hz]; simp [Nat.toInt32]
  rw [this]; exact q
theorem G.aload_i (K : Ok k Z n0 own R bytes maxL ret nm) (H : Hp n0 h σ) (hi : σ[i]? = some (a, Ia Z xs)) (hn : ¬ z < 0) (hv : xs[z.toNatClampNeg]? = some x) (d : Dc bytes pc .iaload 1 pc') (g : G k n0 Q h cells slots pc' Ls (.int x :: St)) : G k n0 Q h cells slots pc Ls (.int z :: .ref a :: St) := by
  obtain ⟨p, l, e, R', s, m, args, below, meth, c⟩ := k
  obtain ⟨hx, hZ, hown, rfl, rfl, rfl, rfl, hlk, rfl, hn0⟩ := K
  obtain ⟨d, rfl⟩ := d
  obtain ⟨-, cell, h1, h2, h3, h4, h5⟩ := H.at hi
  have hv' : (xs.map Value.int)[z.toNatClampNeg]? = some (.int x) := by simp [hv]
  exact G.moved (fun T locs X eT => ⟨T, X, eT, fun t q => X.iaload hx (by rw [eT]; exact h1) (State.isArrayOf_alike hZ.alike h2) h3 (inb hn hv' h4) (v := .int x) (by rw [h4]; simpa using hv') (g := mkF m pc ⟨Ls⟩ (.int z :: .ref a :: St)) rfl rfl d t q⟩) g
theorem G.aload_l (K : Ok k Z n0 own R bytes maxL ret nm) (H : Hp n0 h σ) (hi : σ[i]? = some (a, La Z ys)) (hn : ¬ z < 0) (hv : ys[z.toNatClampNeg]? = some y) (d : Dc bytes pc .laload 1 pc') (g : G k n0 Q h cells slots pc' Ls (.long y :: St)) : G k n0 Q h cells slots pc Ls (.int z :: .ref a :: St) := by
  obtain ⟨p, l, e, R', s, m, args, below, meth, c⟩ := k
  obtain ⟨hx, hZ, hown, rfl, rfl, rfl, rfl, hlk, rfl, hn0⟩ := K
  obtain ⟨d, rfl⟩ := d
  obtain ⟨-, cell, h1, h2, h3, h4, h5⟩ := H.at hi
  have hv' : (ys.map Value.long)[z.toNatClampNeg]? = some (.long y) := by simp [hv]
  exact G.moved (fun T locs X eT => ⟨T, X, eT, fun t q => X.laload hx (by rw [eT]; exact h1) (State.isArrayOf_alike hZ.alike h2) h3 (inb hn hv' h4) (v := .long y) (by rw [h4]; simpa using hv') (g := mkF m pc ⟨Ls⟩ (.int z :: .ref a :: St)) rfl rfl d t q⟩) g
theorem Aa.set {i : Nat} {v : Value} {cell : Cell} (A : Aa Z ty vs cell) : Aa Z ty (vs.set i v) (cell.setSlot i v) := by
  obtain ⟨h2, h3, h4, h5⟩ := A
  exact ⟨h2, h3, by simp [Cell.setSlot, h4], by simpa using h5⟩
theorem G.astore_i (K : Ok k Z n0 own R bytes maxL ret nm) (H : Hp n0 h σ) (hi : σ[i]? = some (a, Ia Z xs)) (hn : ¬ z < 0) (hv : z.toNatClampNeg < xs.length) (d : Dc bytes pc .iastore 1 pc') (g : ∀ h', Hp n0 h' (σ.set i (a, Ia Z (xs.set z.toNatClampNeg x))) → G k n0 Q h' cells slots pc' Ls St) : G k n0 Q h cells slots pc Ls (.int x :: .int z :: .ref a :: St) := by
  obtain ⟨p, l, e, R', s, m, args, below, meth, c⟩ := k
  obtain ⟨hx, hZ, hown, rfl, rfl, rfl, rfl, hlk, rfl, hn0⟩ := K
  obtain ⟨d, rfl⟩ := d
  obtain ⟨ge, cell, h1, h2, h3, h4, h5⟩ := H.at hi
  have hv' : (xs.map Value.int)[z.toNatClampNeg]? = some (.int xs[z.toNatClampNeg]) := by simp [hv]
  intro hc hs T locs X eT N
  obtain ⟨T', h', X', eT', W, st⟩ := RoadKit.stI X hx hZ eT ⟨h1, h2, h3⟩ (inb hn hv' h4) (g := mkF m pc ⟨Ls⟩ (.int x :: .int z :: .ref a :: St)) rfl rfl d
  have H' : Hp n0 h' (σ.set i (a, Ia Z (xs.set z.toNatClampNeg x))) := H.wr hi W fun cell B => by
    have := Aa.set (i := z.toNatClampNeg) (v := .int x) B
    rw [← List.map_set] at this; exact this
  obtain ⟨s₂, o, q1, r⟩ := g h' H' hc hs T' _ X' eT' (Fr.snoc X' N ge)
  exact ⟨s₂, o, st s₂ q1, r⟩
theorem G.astore_l (K : Ok k Z n0 own R bytes maxL ret nm) (H : Hp n0 h σ) (hi : σ[i]? = some (a, La Z ys)) (hn : ¬ z < 0) (hv : z.toNatClampNeg < ys.length) (d : Dc bytes pc .lastore 1 pc') (g : ∀ h', Hp n0 h' (σ.set i (a, La Z (ys.set z.toNatClampNeg y))) → G k n0 Q h' cells slots pc' Ls St) : G k n0 Q h cells slots pc Ls (.long y :: .int z :: .ref a :: St) := by
  obtain ⟨p, l, e, R', s, m, args, below, meth, c⟩ := k
  obtain ⟨hx, hZ, hown, rfl, rfl, rfl, rfl, hlk, rfl, hn0⟩ := K
  obtain ⟨d, rfl⟩ := d
  obtain ⟨ge, cell, h1, h2, h3, h4, h5⟩ := H.at hi
  have hv' : (ys.map Value.long)[z.toNatClampNeg]? = some (.long ys[z.toNatClampNeg]) := by simp [hv]
  intro hc hs T locs X eT N
  obtain ⟨T', h', X', eT', W, st⟩ := RoadKit.stJ X hx hZ eT ⟨h1, h2, h3⟩ (inb hn hv' h4) (g := mkF m pc ⟨Ls⟩ (.long y :: .int z :: .ref a :: St)) rfl rfl d
  have H' : Hp n0 h' (σ.set i (a, La Z (ys.set z.toNatClampNeg y))) := H.wr hi W fun cell B => by
    have := Aa.set (i := z.toNatClampNeg) (v := .long y) B
    rw [← List.map_set] at this; exact this
  obtain ⟨s₂, o, q1, r⟩ := g h' H' hc hs T' _ X' eT' (Fr.snoc X' N ge)
  exact ⟨s₂, o, st s₂ q1, r⟩
theorem G.newarr (K : Ok k Z n0 own R bytes maxL ret nm) {aty : ArrayType} (w : (Cond.arrayClass (newarray.typeOf aty)).before a0 Z = true) (H : Hp n0 h σ) (hn : ¬ z < 0) (cap : Nat) (hcap : z.toNatClampNeg ≤ cap) (hb : cap * 8 ≤ 536870912) (hc : cells + 1 ≤ R.cells) (hl : slots + cap ≤ R.slots) (d : Dc bytes pc (.newarray aty) 2 pc')
    (g : ∀ a h', Hp n0 h' ((a, Aa Z (newarray.typeOf aty) (List.replicate z.toNatClampNeg (defaultValue (newarray.typeOf aty)))) :: σ) → G k n0 Q h' (cells + 1) (slots + cap) pc' Ls (.ref a :: St)) : G k n0 Q h cells slots pc Ls (.int z :: St) := by
  obtain ⟨p, l, e, R', s, m, args, below, meth, c⟩ := k
  obtain ⟨hx, hZ, hown, rfl, rfl, rfl, rfl, hlk, rfl, hn0⟩ := K
  obtain ⟨d, rfl⟩ := d
  intro _ _ T locs X eT N
  obtain ⟨T', h', cA, X', eT', E, A, st⟩ := RoadKit.newP X hx hZ w eT (g := mkF m pc ⟨Ls⟩ (.int z :: St)) rfl d rfl hn hcap hb hc hl
  have B : Aa Z (newarray.typeOf aty) (List.replicate z.toNatClampNeg (defaultValue (newarray.typeOf aty))) (newA cA (newarray.typeOf aty) z) :=
    ⟨A.2.1, A.2.2, by simp [newA], by rw [List.length_replicate]; exact (back32 hn).2⟩
  obtain ⟨s₂, o, h1, r⟩ := g h.size h' (H.cons E (size_ok X eT hn0) ⟨_, A.1, B⟩) hc hl T' _ X' eT' N
  exact ⟨s₂, o, st s₂ h1, r⟩
theorem G.newarr_i (K : Ok k Z n0 own R bytes maxL ret nm) (w : (Cond.arrayClass .int).before a0 Z = true) (H : Hp n0 h σ) (hn : ¬ z < 0) (cap : Nat) (hcap : z.toNatClampNeg ≤ cap) (hb : cap * 8 ≤ 536870912) (hc : cells + 1 ≤ R.cells) (hl : slots + cap ≤ R.slots) (d : Dc bytes pc (.newarray .int) 2 pc')
    (g : ∀ a h', Hp n0 h' ((a, Ia Z (List.replicate z.toNatClampNeg 0)) :: σ) → G k n0 Q h' (cells + 1) (slots + cap) pc' Ls (.ref a :: St)) : G k n0 Q h cells slots pc Ls (.int z :: St) :=
  G.newarr K (aty := .int) w H hn cap hcap hb hc hl d fun a h' H' => g a h' (by show Hp n0 h' ((a, Aa Z .int ((List.replicate z.toNatClampNeg (0 : Int32)).map Value.int)) :: σ); rw [List.map_replicate]; exact H')
theorem G.newarr_l (K : Ok k Z n0 own R bytes maxL ret nm) (w : (Cond.arrayClass .long).before a0 Z = true) (H : Hp n0 h σ) (hn : ¬ z < 0) (cap : Nat) (hcap : z.toNatClampNeg ≤ cap) (hb : cap * 8 ≤ 536870912) (hc : cells + 1 ≤ R.cells) (hl : slots + cap ≤ R.slots) (d : Dc bytes pc (.newarray .long) 2 pc')
    (g : ∀ a h', Hp n0 h' ((a, La Z (List.replicate z.toNatClampNeg 0)) :: σ) → G k n0 Q h' (cells + 1) (slots + cap) pc' Ls (.ref a :: St)) : G k n0 Q h cells slots pc Ls (.int z :: St) :=
  G.newarr K (aty := .long) w H hn cap hcap hb hc hl d fun a h' H' => g a h' (by show Hp n0 h' ((a, Aa Z .long ((List.replicate z.toNatClampNeg (0 : Int64)).map Value.long)) :: σ); rw [List.map_replicate]; exact H')
/-! ### calls -/
/-- a body's contract: called on these arguments at this heap it returns, and Q holds -/
def Ct (l : Launch) (Z : State) (n0 : Nat) (yy : MethodName) (bytes : ByteArray) (maxL : Nat) (ret : Option FieldType) (rm : Room) (as : List Value) (h : Heap) (Q : Option Value → Heap → Prop) : Prop :=
  n0 ≤ h.size → ∀ ws, MetFree l yy (head1 (Cond.code yy bytes maxL ret :: ws) rm) (fun a U => a = as.toArray ∧ Z.Warmed39 U.vm ∧ U.heap = h) (fun _ _ _ _ _ => True)
    (fun _ U o U' => ∃ v L, o = .returned v ∧ (Q v U'.heap ∧ Fr n0 L) ∧ FrameEnd U o U' L rm.cells rm.slots)
variable {l : Launch} {yy : MethodName} {rm : Room} {as : List Value}
theorem Ct.post {Q' : Option Value → Heap → Prop} (c : Ct l Z n0 yy bytes maxL ret rm as h Q) (q : ∀ v h', Q v h' → Q' v h') : Ct l Z n0 yy bytes maxL ret rm as h Q' := by
  intro hn ws p e a1 a2 a3 s m args below a4 a5 a6 a7
  obtain ⟨n, o, h1, h2, h3, v, L, h4, ⟨h5, h6⟩, h7⟩ := c hn ws p e a1 a2 a3 s m args below a4 a5 a6 a7
  exact ⟨n, o, h1, h2, h3, v, L, h4, ⟨q _ _ h5, h6⟩, h7⟩
theorem Ct.intro (hp : plainFor yy = true) (Ls : List Slot) (hE : ∀ m, entryFrame m as.toArray maxL = mkF m 0 ⟨Ls⟩ [])
    (body : ∀ k : Cx, k.2.1 = l → Ok k Z n0 yy.cls rm bytes maxL ret yy.name → G k n0 Q h 0 0 0 Ls []) : Ct l Z n0 yy bytes maxL ret rm as h Q := by
  intro hn0 ws
  refine MetFree.of_bodySF hp hisR ?_
  intro p e s m args below meth c s₁ Bd hml0 hP hK
  obtain ⟨rfl, hZ, hh⟩ := hP
  have X0 : Stand p l e rm s m as.toArray below meth c s₁ [] 0 0 := Stand.of_body Bd
  have e0 : s₁.heap = h := by rw [← hh, Bd.state]; rfl
  have g := body (p, l, e, rm, s, m, as.toArray, below, meth, c) rfl ⟨Bd.exec, hZ, findClass_of_methodNamed Bd.named, rfl, Bd.bytes, hml0, Bd.returns, Bd.notSynchronized, (name_of_methodNamed Bd.named Bd.method).1, by show n0 ≤ s.heap.size; rw [hh]; exact hn0⟩ (Nat.zero_le _) (Nat.zero_le _) s₁ [] X0 e0 (Fr.nil n0)
  obtain ⟨s₂, o, h1, r⟩ := g
  exact ⟨s₂, o, castTop (hE m) h1, r⟩
theorem G.callS (K : Ok k Z n0 own R bytes maxL ret nm) (hl : k.2.1 = l) {idx : Nat} {by' : ByteArray} {ml : Nat} {rt : Option FieldType} {ps : List FieldType} {Q' : Option Value → Heap → Prop}
    (w1 : (Cond.methodLink own idx yy).before a0 Z = true) (w2 : (Cond.static yy).before a0 Z = true) (w3 : (Cond.initialized yy.cls).before a0 Z = true) (w4 : (Cond.code yy by' ml rt).before a0 Z = true)
    (hy : yy.cls ≠ "java/lang/invoke/MethodHandle" ∧ yy.cls ≠ "java/lang/invoke/VarHandle") (pd : parseMethodDescriptor yy.desc = some ⟨ps, rt⟩) (c : Ct l Z n0 yy by' ml rt rm as h Q') (W : Nat) (hW : (St.map fun v => v.category).sum = W)
    (hfr : rm.frames + 1 ≤ R.frames) (hlo : W + (ml + 11) + rm.locals ≤ R.locals) (hce : cells + rm.cells ≤ R.cells) (hsl : slots + rm.slots ≤ R.slots) (hps : as.length = ps.length) (hsz : Ls.length = maxL) (ar : List Value) (har : as.reverse = ar) (d : Dc bytes pc (.invokestatic idx) 3 pc')
    (g : ∀ v h', Q' v h' → G k n0 Q h' (cells + rm.cells) (slots + rm.slots) pc' Ls (v.toList ++ St)) : G k n0 Q h cells slots pc Ls (ar ++ St) := by
  obtain ⟨p, l, e, R', s, m, args, below, meth, c⟩ := k
  obtain ⟨hx, hZ, hown, rfl, rfl, rfl, rfl, hlk, rfl, hn0⟩ := K
  obtain ⟨d, rfl⟩ := d
  subst hl
  subst har
  intro _ _ T locs X eT N
  have hn1 : n0 ≤ h.size := size_ok X eT hn0
  obtain ⟨v, _, ⟨T', L', k', n'⟩, -, X', ⟨Lc, ⟨hQ, hF⟩, e1, e2, e3⟩, st⟩ := Jvm.LawKit.callS X hx (y := yy) hown (mvT hZ w1) (mvT hZ w2) (mvT hZ w3) (mvT hZ w4) hy (backOf (W := W) (Q := fun v h' L => Q' v h' ∧ Fr n0 L) (c hn1 []) hZ w4 w3 hfr hlo) (g := mkF m pc ⟨Ls⟩ (as.reverse ++ St)) rfl (by simpa using hsz) (argsL := as) (rest := St) (lenOf pd hps) rfl (by show 2 * 0 + _ ≤ _; omega) d (fun _ _ => ⟨rfl, eT, hce, hsl⟩)
  dsimp only [Pt.U, Pt.locs, Pt.cells, Pt.slots] at X' e1 e2 e3 st hQ
  subst e1 e2 e3
  obtain ⟨s₂, o, h1, r⟩ := g v T'.heap hQ hce hsl T' _ X' rfl (Fr.app N hF)
  exact ⟨s₂, o, st _ h1, r⟩
theorem G.callI (K : Ok k Z n0 own R bytes maxL ret nm) (hl : k.2.1 = l) {idx : Nat} {by' : ByteArray} {ml : Nat} {ps : List FieldType} {Q' : Option Value → Heap → Prop} (hi : yy.name = "<init>")
    (w1 : (Cond.methodLink own idx yy).before a0 Z = true) (w2 : (Cond.instanceMethod yy).before a0 Z = true) (w3 : (Cond.initialized yy.cls).before a0 Z = true) (w4 : (Cond.code yy by' ml none).before a0 Z = true)
    (hy : yy.cls ≠ "java/lang/invoke/MethodHandle" ∧ yy.cls ≠ "java/lang/invoke/VarHandle") (pd : parseMethodDescriptor yy.desc = some ⟨ps, none⟩) {a : Addr} (c : Ct l Z n0 yy by' ml none rm (.ref a :: as) h Q') (W : Nat) (hW : (St.map fun v => v.category).sum = W)
    (hfr : rm.frames + 1 ≤ R.frames) (hlo : W + (ml + 11) + rm.locals ≤ R.locals) (hce : cells + rm.cells ≤ R.cells) (hsl : slots + rm.slots ≤ R.slots) (hps : as.length = ps.length) (hsz : Ls.length = maxL) (ar : List Value) (har : as.reverse = ar) (d : Dc bytes pc (.invokespecial idx) 3 pc')
    (g : ∀ v h', Q' v h' → G k n0 Q h' (cells + rm.cells) (slots + rm.slots) pc' Ls (v.toList ++ St)) : G k n0 Q h cells slots pc Ls (ar ++ .ref a :: St) := by
  obtain ⟨p, l, e, R', s, m, args, below, meth, c⟩ := k
  obtain ⟨hx, hZ, hown, rfl, rfl, rfl, rfl, hlk, rfl, hn0⟩ := K
  obtain ⟨d, rfl⟩ := d
  subst hl
  subst har
  intro _ _ T locs X eT N
  have hn1 : n0 ≤ h.size := size_ok X eT hn0
  obtain ⟨v, _, ⟨T', L', k', n'⟩, -, X', ⟨Lc, ⟨hQ, hF⟩, e1, e2, e3⟩, st⟩ := X.specialBack hx (y := yy) hi hown (mvT hZ w1) (mvT hZ w2) (mvT hZ w4) hy (backOf (W := W) (Q := fun v h' L => Q' v h' ∧ Fr n0 L) (c hn1 []) hZ w4 w3 hfr hlo) (g := mkF m pc ⟨Ls⟩ (as.reverse ++ .ref a :: St)) rfl (by simpa using hsz) (Steps.refl _) (a := a) (argsL := as) (rest := St) (lenOf pd hps) rfl (by show 2 * 0 + _ ≤ _; omega) d (fun _ _ => ⟨rfl, eT, hce, hsl⟩)
  dsimp only [Pt.U, Pt.locs, Pt.cells, Pt.slots] at X' e1 e2 e3 st hQ
  subst e1 e2 e3
  obtain ⟨s₂, o, h1, r⟩ := g v T'.heap hQ hce hsl T' _ X' rfl (Fr.app N hF)
  exact ⟨s₂, o, st.trans h1, r⟩
theorem G.callV (K : Ok k Z n0 own R bytes maxL ret nm) (hl : k.2.1 = l) {idx : Nat} {by' : ByteArray} {ml : Nat} {rt : Option FieldType} {ps : List FieldType} {Q' : Option Value → Heap → Prop} {C : String}
    (w1 : (Cond.methodLink own idx yy).before a0 Z = true) (wd : (Cond.declares yy).before a0 Z = true) (ws : (Cond.selects C yy yy).before a0 Z = true) (w2 : (Cond.instanceMethod yy).before a0 Z = true) (w3 : (Cond.initialized yy.cls).before a0 Z = true) (w4 : (Cond.code yy by' ml rt).before a0 Z = true)
    (hy : yy.cls ≠ "java/lang/invoke/MethodHandle" ∧ yy.cls ≠ "java/lang/invoke/VarHandle") (pd : parseMethodDescriptor yy.desc = some ⟨ps, rt⟩) {a : Addr} (E : Exa Z h a C) (c : Ct l Z n0 yy by' ml rt rm (.ref a :: as) h Q') (W : Nat) (hW : (St.map fun v => v.category).sum = W)
    (hfr : rm.frames + 1 ≤ R.frames) (hlo : W + (ml + 11) + rm.locals ≤ R.locals) (hce : cells + rm.cells ≤ R.cells) (hsl : slots + rm.slots ≤ R.slots) (hps : as.length = ps.length) (hsz : Ls.length = maxL) (ar : List Value) (har : as.reverse = ar) (d : Dc bytes pc (.invokevirtual idx) 3 pc')
    (g : ∀ v h', Q' v h' → G k n0 Q h' (cells + rm.cells) (slots + rm.slots) pc' Ls (v.toList ++ St)) : G k n0 Q h cells slots pc Ls (ar ++ .ref a :: St) := by
  obtain ⟨p, l, e, R', s, m, args, below, meth, c⟩ := k
  obtain ⟨hx, hZ, hown, rfl, rfl, rfl, rfl, hlk, rfl, hn0⟩ := K
  obtain ⟨d, rfl⟩ := d
  subst hl
  subst har
  intro _ _ T locs X eT N
  have hn1 : n0 ≤ h.size := size_ok X eT hn0
  obtain ⟨cq, kq, qa, qb, qc⟩ := isOf hZ eT E
  obtain ⟨v, _, ⟨T', L', k', n'⟩, -, X', ⟨Lc, ⟨hQ, hF⟩, e1, e2, e3⟩, st⟩ := X.virtualBack hx (y := yy) (z := yy) hown (mvT hZ w1) (mvT hZ wd) (notFace_of_selects (args := #[]) (mvT hZ ws)) (mvT hZ ws) (mvT hZ w2) hy (backOf (W := W) (Q := fun v h' L => Q' v h' ∧ Fr n0 L) (c hn1 []) hZ w4 w3 hfr hlo) qa qc (g := mkF m pc ⟨Ls⟩ (as.reverse ++ .ref a :: St)) rfl (by simpa using hsz) (Steps.refl _) (argsL := as) (rest := St) (lenOf pd hps) rfl (by show 2 * 0 + _ ≤ _; omega) d (fun _ _ => ⟨rfl, eT, hce, hsl⟩)
  dsimp only [Pt.U, Pt.locs, Pt.cells, Pt.slots] at X' e1 e2 e3 st hQ
  subst e1 e2 e3
  obtain ⟨s₂, o, h1, r⟩ := g v T'.heap hQ hce hsl T' _ X' rfl (Fr.app N hF)
  exact ⟨s₂, o, st.trans h1, r⟩
theorem G.callP (K : Ok k Z n0 own R bytes maxL ret nm) (hl : k.2.1 = l) {idx kk : Nat} {by' : ByteArray} {ml : Nat} {rt : Option FieldType} {ps : List FieldType} {Q' : Option Value → Heap → Prop}
    (w1 : (Cond.methodLink own idx yy).before a0 Z = true) (wp : (Cond.privateMethod yy).before a0 Z = true) (wi : (Cond.instantiable yy.cls kk).before a0 Z = true) (w2 : (Cond.instanceMethod yy).before a0 Z = true) (w3 : (Cond.initialized yy.cls).before a0 Z = true) (w4 : (Cond.code yy by' ml rt).before a0 Z = true)
    (hy : yy.cls ≠ "java/lang/invoke/MethodHandle" ∧ yy.cls ≠ "java/lang/invoke/VarHandle") (pd : parseMethodDescriptor yy.desc = some ⟨ps, rt⟩) {a : Addr} {C : String} (E : Exa Z h a C) (c : Ct l Z n0 yy by' ml rt rm (.ref a :: as) h Q') (W : Nat) (hW : (St.map fun v => v.category).sum = W)
    (hfr : rm.frames + 1 ≤ R.frames) (hlo : W + (ml + 11) + rm.locals ≤ R.locals) (hce : cells + rm.cells ≤ R.cells) (hsl : slots + rm.slots ≤ R.slots) (hps : as.length = ps.length) (hsz : Ls.length = maxL) (ar : List Value) (har : as.reverse = ar) (d : Dc bytes pc (.invokevirtual idx) 3 pc')
    (g : ∀ v h', Q' v h' → G k n0 Q h' (cells + rm.cells) (slots + rm.slots) pc' Ls (v.toList ++ St)) : G k n0 Q h cells slots pc Ls (ar ++ .ref a :: St) := by
  obtain ⟨p, l, e, R', s, m, args, below, meth, c⟩ := k
  obtain ⟨hx, hZ, hown, rfl, rfl, rfl, rfl, hlk, rfl, hn0⟩ := K
  obtain ⟨d, rfl⟩ := d
  subst hl
  subst har
  intro _ _ T locs X eT N
  have hn1 : n0 ≤ h.size := size_ok X eT hn0
  obtain ⟨cq, q, q'⟩ := E.cell
  have hpriv : s.PrivateAt yy := Cond.privateMethod_at (mvP hZ wp (args := #[]))
  obtain ⟨c2, k2, i1, i2, -, i4, -⟩ := Cond.instantiable_spec (mvT hZ wi (args := args))
  have hsel : (Cond.selects yy.cls yy yy).before args s = true := selects_self_of_private i1 i2 (by cases hh : k2.isInterface <;> simp_all) hpriv (mvT hZ w2) hy
  obtain ⟨v, _, ⟨T', L', k', n'⟩, -, X', ⟨Lc, ⟨hQ, hF⟩, e1, e2, e3⟩, st⟩ := X.privateBack hx (y := yy) hown (mvT hZ w1) (mvT hZ w2) hsel hpriv (mvT hZ w4) hy (backOf (W := W) (Q := fun v h' L => Q' v h' ∧ Fr n0 L) (c hn1 []) hZ w4 w3 hfr hlo) (g := mkF m pc ⟨Ls⟩ (as.reverse ++ .ref a :: St)) rfl (by simpa using hsz) (Steps.refl _) (a := a) (by rw [eT]; exact q) q' (argsL := as) (rest := St) (lenOf pd hps) rfl (by show 2 * 0 + _ ≤ _; omega) d (fun _ _ => ⟨rfl, eT, hce, hsl⟩)
  dsimp only [Pt.U, Pt.locs, Pt.cells, Pt.slots] at X' e1 e2 e3 st hQ
  subst e1 e2 e3
  obtain ⟨s₂, o, h1, r⟩ := g v T'.heap hQ hce hsl T' _ X' rfl (Fr.app N hF)
  exact ⟨s₂, o, st.trans h1, r⟩
theorem G.initO (K : Ok k Z n0 own R bytes maxL ret nm) {idx : Nat} (w1 : (Cond.methodLink own idx Lib.objectInit).before a0 Z = true) (w2 : (Cond.instanceMethod Lib.objectInit).before a0 Z = true) (w3 : (Cond.code Lib.objectInit ⟨#[0xb1]⟩ 1 none).before a0 Z = true) {a : Addr}
    (hsz : Ls.length = maxL) (W : Nat) (hW : (St.map fun v => v.category).sum = W) (hfr : 1 ≤ R.frames) (hlo : W + 12 ≤ R.locals) (d : Dc bytes pc (.invokespecial idx) 3 pc') (g : G k n0 Q h cells slots pc' Ls St) : G k n0 Q h cells slots pc Ls (.ref a :: St) := by
  obtain ⟨p, l, e, R', s, m, args, below, meth, c⟩ := k
  obtain ⟨hx, hZ, hown, rfl, rfl, rfl, rfl, hlk, rfl, hn0⟩ := K
  obtain ⟨d, rfl⟩ := d
  exact G.moved (fun T locs X eT => RoadKit.initO X hx hZ hown w1 w2 w3 eT (g := mkF m pc ⟨Ls⟩ (.ref a :: St)) rfl (by simpa using hsz) rfl d hfr (W := W) (by show 2 * 0 + _ ≤ _; omega) hlo) g
end Jvm.OwnKit
namespace Jvm.Pilot.@@N@@
open Jvm Jvm.ClassFile Sem Op Lib Jvm.Free Jvm.Stand Jvm.LawKit Jvm.RoadKit Bundle Jvm.OwnKit Jvm.Pilot.@@N@@.Jvm.D
theorem wd {Z : State} {a0 : Array Value} (hw : ∀ d ∈ tables_1, d.before a0 Z = true) (i : Nat) {d : Jvm.Cond} (h : tables_1[i]? = some d) : d.before a0 Z = true := hw _ (List.mem_of_getElem? h)
theorem own_nint {i : Nat} (h : i < 2147483648) : (Int32.ofNat i).toInt = i := Int32.toInt_ofNat_of_lt (by omega)
theorem own_nlt {i n : Nat} (h : i < 2147483648) (h' : n < 2147483648) : (Int32.ofNat i < Int32.ofNat n) ↔ i < n := by
  rw [Int32.lt_iff_toInt_lt, own_nint h, own_nint h']; omega
theorem own_nle {i n : Nat} (h : i < 2147483648) (h' : n < 2147483648) : (Int32.ofNat i ≤ Int32.ofNat n) ↔ i ≤ n := by
  rw [Int32.le_iff_toInt_le, own_nint h, own_nint h']; omega
theorem own_neq {i n : Nat} (h : i < 2147483648) (h' : n < 2147483648) : (Int32.ofNat i = Int32.ofNat n) ↔ i = n := by
  rw [← Int32.toInt_inj, own_nint h, own_nint h']; omega
theorem own_nadd (i j : Nat) : Int32.ofNat i + Int32.ofNat j = Int32.ofNat (i + j) := (Int32.ofNat_add i j).symm
theorem own_nsucc (i : Nat) : Int32.ofNat i + 1 = Int32.ofNat (i + 1) := own_nadd i 1
theorem own_nidx {i : Nat} (h : i < 2147483648) : (Int32.ofNat i).toNatClampNeg = i := by
  show (Int32.ofNat i).toInt.toNat = i
  rw [own_nint h]; rfl
theorem own_nneg {i : Nat} (h : i < 2147483648) : ¬ Int32.ofNat i < 0 := by
  rw [Int32.lt_iff_toInt_lt, own_nint h]; show ¬ (i : Int) < 0; omega
theorem own_nsub {i j : Nat} (h : j ≤ i) : Int32.ofNat i - Int32.ofNat j = Int32.ofNat (i - j) := by
  have := own_nadd (i - j) j
  rw [Nat.sub_add_cancel h] at this
  rw [← this, Int32.add_sub_cancel]
theorem own_nmul (i j : Nat) : Int32.ofNat i * Int32.ofNat j = Int32.ofNat (i * j) := (Int32.ofNat_mul i j).symm
/-- a non-negative int is a natural -/
theorem own_nat (x : Int32) (h : ¬ x < 0) : ∃ n : Nat, n < 2147483648 ∧ x = Int32.ofNat n := by
  have h2 : 0 ≤ x.toInt := by rw [Int32.lt_iff_toInt_lt] at h; have : (0 : Int32).toInt = 0 := rfl; omega
  have h3 := Int32.toInt_lt x
  refine ⟨x.toInt.toNat, by omega, ?_⟩
  apply Int32.toInt_inj.mp
  rw [own_nint (by omega)]; omega
theorem own_msk (x : Int32) : ∃ n : Nat, n < 2147483648 ∧ x &&& 2147483647 = Int32.ofNat n := by
  apply own_nat
  rw [Int32.lt_iff_toInt_lt]
  have h : (x &&& 2147483647).toBitVec = x.toBitVec &&& 2147483647#32 := rfl
  have hn : (x.toBitVec &&& 2147483647#32).toNat < 2147483648 := by
    rw [BitVec.toNat_and]; exact Nat.lt_of_le_of_lt Nat.and_le_right (by decide)
  have : (x &&& 2147483647).toInt = ((x.toBitVec &&& 2147483647#32).toNat : Int) := by
    show (x &&& 2147483647).toBitVec.toInt = _
    rw [h, BitVec.toInt_eq_toNat_of_lt (by omega)]
  rw [this]; show ¬ ((_ : Nat) : Int) < 0; omega
theorem own_nmod {i n : Nat} (h : i < 2147483648) (hn : n < 2147483648) : Int32.ofNat i % Int32.ofNat n = Int32.ofNat (i % n) := by
  apply Int32.toInt_inj.mp
  have hl : i % n ≤ i := Nat.mod_le i n
  rw [Int32.toInt_mod, own_nint h, own_nint hn, own_nint (by omega)]
  exact (Int.ofNat_tmod i n).symm ▸ rfl
/-- small mask: x & (2^k - 1) -/
theorem own_and_lt (x : Int32) (m : Nat) (hm : m < 2147483648) : ∃ n : Nat, n ≤ m ∧ x &&& Int32.ofNat m = Int32.ofNat n := by
  have h : (x &&& Int32.ofNat m).toBitVec = x.toBitVec &&& BitVec.ofNat 32 m := rfl
  refine ⟨(x.toBitVec &&& BitVec.ofNat 32 m).toNat, ?_, ?_⟩
  · rw [BitVec.toNat_and]; exact Nat.le_trans Nat.and_le_right (by rw [BitVec.toNat_ofNat]; exact Nat.mod_le _ _)
  · apply Int32.toBitVec_inj.mp
    rw [h]
    show _ = BitVec.ofNat 32 _
    rw [BitVec.ofNat_toNat, BitVec.setWidth_eq]
theorem pd_0 : parseMethodDescriptor "(I)I" = some ⟨[.int], some .int⟩ := by decide +kernel
theorem pd_1 : parseMethodDescriptor "(II)I" = some ⟨[.int, .int], some .int⟩ := by decide +kernel
theorem pd_2 : parseMethodDescriptor "(IIZ)I" = some ⟨[.int, .int, .boolean], some .int⟩ := by decide +kernel
theorem pd_3 : parseMethodDescriptor "(I)V" = some ⟨[.int], none⟩ := by decide +kernel
theorem pd_4 : parseMethodDescriptor "(IIIIII)I" = some ⟨[.int, .int, .int, .int, .int, .int], some .int⟩ := by decide +kernel
def NSM : List (String × String × String) := [("org/sqcap/reasoner/IntMap", "keys", "[I"), ("org/sqcap/reasoner/IntMap", "values", "[I"), ("org/sqcap/reasoner/IntMap", "size", "I")]
theorem cf_NSM {Z : State} {a0 : Array Value} (hw : ∀ d ∈ tables_1, d.before a0 Z = true) : Cf Z a0 "org/sqcap/reasoner/IntMap" NSM := by
  refine ⟨fun f hf => ?_, by decide +kernel, fun f hf => ?_⟩
  · simp only [NSM, List.mem_cons, List.not_mem_nil, or_false] at hf
    rcases hf with rfl | rfl | rfl
    · exact Or.inl (wd hw 25 rfl)
    · exact Or.inl (wd hw 27 rfl)
    · exact Or.inl (wd hw 42 rfl)
  · simp only [NSM, List.mem_cons, List.not_mem_nil, or_false] at hf
    rcases hf with rfl | rfl | rfl
    · exact ⟨(.array .int), by decide +kernel⟩
    · exact ⟨(.array .int), by decide +kernel⟩
    · exact ⟨.int, by decide +kernel⟩
/-! open addressing, plain -/
def dist (c a b : Nat) : Nat := if a ≤ b then b - a else b + c - a
def pos (c s d : Nat) : Nat := if s + d < c then s + d else s + d - c
theorem dist_spec (c a b : Nat) : (a ≤ b ∧ dist c a b = b - a) ∨ (b < a ∧ dist c a b = b + c - a) := by
  unfold dist; split <;> omega
theorem pos_spec (c s d : Nat) : (s + d < c ∧ pos c s d = s + d) ∨ (c ≤ s + d ∧ pos c s d = s + d - c) := by
  unfold pos; split <;> omega
theorem pos_lt {c s d : Nat} (hs : s < c) (hd : d < c) : pos c s d < c := by have := pos_spec c s d; omega
theorem dist_lt {c a b : Nat} (ha : a < c) (hb : b < c) : dist c a b < c := by have := dist_spec c a b; omega
theorem pos_dist {c a b : Nat} (ha : a < c) (hb : b < c) : pos c a (dist c a b) = b := by
  have := dist_spec c a b; have := pos_spec c a (dist c a b); omega
theorem dist_pos {c a d : Nat} (ha : a < c) (hd : d < c) : dist c a (pos c a d) = d := by
  have := pos_spec c a d; have := dist_spec c a (pos c a d); omega
section
variable (hm : Int32 → Nat)   -- the home of a key, below c
/-- the entry at i can be reached from its home -/
def Reach (c : Nat) (ks : List Int32) (x : Int32) (i : Nat) : Prop := ∀ d, d ≤ dist c (hm (x - 1)) i → ks[pos c (hm (x - 1)) d]? ≠ some 0
def Tab (c : Nat) (ks vs : List Int32) (M : Int32 → Option Int32) : Prop :=
  ks.length = c ∧ vs.length = c ∧ (∀ y, hm y < c) ∧
  (∀ (i : Nat) (x : Int32), ks[i]? = some x → x ≠ 0 → (∃ v, vs[i]? = some v ∧ M (x - 1) = some v) ∧ Reach hm c ks x i) ∧
  (∀ key v, M key = some v → key + 1 ≠ 0 ∧ ∃ i : Nat, ks[i]? = some (key + 1)) ∧
  (∀ (i j : Nat) (x : Int32), ks[i]? = some x → ks[j]? = some x → x ≠ 0 → i = j)
variable {hm} {c : Nat} {ks vs : List Int32} {M : Int32 → Option Int32}
theorem add_sub1 (x : Int32) : x + 1 - 1 = x := Int32.add_sub_cancel x 1
theorem sub_add1 (x : Int32) : x - 1 + 1 = x := Int32.sub_add_cancel x 1
/-- what probing finds -/
theorem probe_hit (H : Tab hm c ks vs M) {key : Int32} {d : Nat} (h : ks[pos c (hm key) d]? = some (key + 1)) (h0 : key + 1 ≠ 0) : ∃ v, vs[pos c (hm key) d]? = some v ∧ M key = some v := by
  obtain ⟨-, -, -, A, -, -⟩ := H
  obtain ⟨⟨v, h1, h2⟩, -⟩ := A _ _ h h0
  rw [add_sub1] at h2
  exact ⟨v, h1, h2⟩
theorem probe_miss (H : Tab hm c ks vs M) {key : Int32} {d : Nat} (hd : d < c) (h : ks[pos c (hm key) d]? = some 0) (hb : ∀ d', d' < d → ks[pos c (hm key) d']? ≠ some (key + 1)) : M key = none := by
  obtain ⟨l1, l2, hl, A, B, C⟩ := H
  cases hM : M key with
  | none => rfl
  | some v =>
    exfalso
    obtain ⟨h0, i, hi⟩ := B key v hM
    have hic : i < c := by rw [← l1]; exact (List.getElem?_eq_some_iff.mp hi).1
    obtain ⟨-, R⟩ := A _ _ hi h0
    unfold Reach at R
    rw [add_sub1] at R
    by_cases q : dist c (hm key) i < d
    · exact hb _ q (by rw [pos_dist (hl key) hic]; exact hi)
    · exact R d (by omega) h
/-- there is a place where probing ends -/
theorem probe_ends (H : Tab hm c ks vs M) (hz : ∃ z : Nat, ks[z]? = some 0) (key : Int32) : ∃ D x, D < c ∧ ks[pos c (hm key) D]? = some x ∧ (x = key + 1 ∨ x = 0) ∧ ∀ d, d < D → ∃ y, ks[pos c (hm key) d]? = some y ∧ y ≠ key + 1 ∧ y ≠ 0 := by
  obtain ⟨l1, l2, hl, -⟩ := H
  obtain ⟨z, hz⟩ := hz
  have hzc : z < c := by rw [← l1]; exact (List.getElem?_eq_some_iff.mp hz).1
  have key2 : ∀ n, n ≤ c → (∀ d, d < n → ∃ y, ks[pos c (hm key) d]? = some y ∧ y ≠ key + 1 ∧ y ≠ 0) ∨ ∃ D x, D < n ∧ ks[pos c (hm key) D]? = some x ∧ (x = key + 1 ∨ x = 0) ∧ ∀ d, d < D → ∃ y, ks[pos c (hm key) d]? = some y ∧ y ≠ key + 1 ∧ y ≠ 0 := by
    intro n
    induction n with
    | zero => intro _; left; intro d hd; omega
    | succ n ih =>
      intro hn
      rcases ih (by omega) with ih | ⟨D, x, h1, h2, h3, h4⟩
      · have hp : pos c (hm key) n < ks.length := by rw [l1]; exact pos_lt (hl key) (by omega)
        have e := List.getElem?_eq_getElem hp
        by_cases q : ks[pos c (hm key) n] = key + 1 ∨ ks[pos c (hm key) n] = 0
        · right; exact ⟨n, _, by omega, e, q, ih⟩
        · left; intro d hd
          by_cases hdn : d = n
          · subst hdn; exact ⟨_, e, fun z => q (Or.inl z), fun z => q (Or.inr z)⟩
          · exact ih d (by omega)
      · right; exact ⟨D, x, by omega, h2, h3, h4⟩
  rcases key2 c (Nat.le_refl _) with h | ⟨D, x, h1, h2, h3, h4⟩
  · exfalso
    obtain ⟨y, h1, -, h2⟩ := h (dist c (hm key) z) (dist_lt (hl key) hzc)
    rw [pos_dist (hl key) hzc, hz] at h1
    exact h2 (Option.some.inj h1).symm
  · exact ⟨D, x, h1, h2, h3, h4⟩
def upd (M : Int32 → Option Int32) (k v : Int32) : Int32 → Option Int32 := fun y => if y = k then some v else M y
def del (M : Int32 → Option Int32) (k : Int32) : Int32 → Option Int32 := fun y => if y = k then none else M y
theorem sub1_inj {x y : Int32} (h : x - 1 = y - 1) : x = y := by have := congrArg (· + 1) h; simpa [sub_add1] using this
theorem add1_inj {x y : Int32} (h : x + 1 = y + 1) : x = y := by have := congrArg (· - 1) h; simpa [add_sub1] using this
/-- a value replaced -/
theorem Tab.replace (H : Tab hm c ks vs M) {key w : Int32} {i : Nat} (hi : ks[i]? = some (key + 1)) (h0 : key + 1 ≠ 0) : Tab hm c ks (vs.set i w) (upd M key w) := by
  obtain ⟨l1, l2, hl, A, B, C⟩ := H
  have hic : i < c := by rw [← l1]; exact (List.getElem?_eq_some_iff.mp hi).1
  refine ⟨l1, by rw [List.length_set]; exact l2, hl, fun j x hx hx0 => ?_, fun k v hk => ?_, C⟩
  · obtain ⟨⟨v, h1, h2⟩, R⟩ := A j x hx hx0
    refine ⟨?_, R⟩
    by_cases q : i = j
    · subst q
      cases hi.symm.trans hx
      exact ⟨w, by rw [List.getElem?_set_self (by omega)], by simp [upd, add_sub1]⟩
    · refine ⟨v, by rw [List.getElem?_set_ne q]; exact h1, ?_⟩
      have : x - 1 ≠ key := fun e => q (C i j x (by rw [hi, ← e, sub_add1]) hx hx0)
      simp [upd, this, h2]
  · by_cases q : k = key
    · subst q; exact ⟨h0, i, hi⟩
    · simp only [upd, q, if_false] at hk; exact B k v hk
/-- a new entry -/
theorem Tab.insert (H : Tab hm c ks vs M) {key w : Int32} {d : Nat} (hd : d < c) (h : ks[pos c (hm key) d]? = some 0) (hb : ∀ d', d' < d → ∃ y, ks[pos c (hm key) d']? = some y ∧ y ≠ key + 1 ∧ y ≠ 0) (h0 : key + 1 ≠ 0) :
    Tab hm c (ks.set (pos c (hm key) d) (key + 1)) (vs.set (pos c (hm key) d) w) (upd M key w) := by
  have hnone := probe_miss H hd h (fun d' hd' e => by obtain ⟨y, h1, h2, -⟩ := hb d' hd'; exact h2 (Option.some.inj (h1.symm.trans e)))
  obtain ⟨l1, l2, hl, A, B, C⟩ := H
  have hpc : pos c (hm key) d < c := pos_lt (hl key) hd
  generalize hp : pos c (hm key) d = p at *
  have hset : ∀ j, (ks.set p (key + 1))[j]? ≠ some 0 ∨ ((ks.set p (key + 1))[j]? = ks[j]? ∧ j ≠ p) := by
    intro j
    by_cases q : p = j
    · subst q; left; rw [List.getElem?_set_self (by omega)]; intro e; exact h0 (Option.some.inj e)
    · right; exact ⟨List.getElem?_set_ne q, fun e => q e.symm⟩
  refine ⟨by rw [List.length_set]; exact l1, by rw [List.length_set]; exact l2, hl, fun j x hx hx0 => ?_, fun k v hk => ?_, fun i j x hi hj hx0 => ?_⟩
  · by_cases q : p = j
    · subst q
      rw [List.getElem?_set_self (by omega)] at hx
      cases Option.some.inj hx
      refine ⟨⟨w, by rw [List.getElem?_set_self (by omega)], by simp [upd, add_sub1]⟩, fun d' hd' => ?_⟩
      rw [add_sub1] at hd' ⊢
      rw [← hp, dist_pos (hl key) hd] at hd'
      rcases hset (pos c (hm key) d') with z | ⟨z, z2⟩
      · exact z
      · rw [z]
        have : d' ≠ d := fun e => z2 (by rw [e, hp])
        obtain ⟨y, h1, -, h3⟩ := hb d' (by omega)
        rw [h1]; intro e; exact h3 (Option.some.inj e)
    · rw [List.getElem?_set_ne q] at hx
      obtain ⟨⟨v, h1, h2⟩, R⟩ := A j x hx hx0
      refine ⟨⟨v, by rw [List.getElem?_set_ne q]; exact h1, ?_⟩, fun d' hd' => ?_⟩
      · have : x - 1 ≠ key := fun e => by rw [e, hnone] at h2; cases h2
        simp [upd, this, h2]
      · rcases hset (pos c (hm (x - 1)) d') with z | ⟨z, -⟩
        · exact z
        · rw [z]; exact R d' hd'
  · by_cases q : k = key
    · subst q; exact ⟨h0, p, by rw [List.getElem?_set_self (by omega)]⟩
    · simp only [upd, q, if_false] at hk
      obtain ⟨h1, i, hi⟩ := B k v hk
      refine ⟨h1, i, ?_⟩
      rw [List.getElem?_set_ne]
      · exact hi
      · intro e; subst e; rw [h] at hi; exact h1 (Option.some.inj hi).symm
  · by_cases q : p = i
    · subst q
      rw [List.getElem?_set_self (by omega)] at hi
      cases Option.some.inj hi
      by_cases q2 : p = j
      · exact q2
      · rw [List.getElem?_set_ne q2] at hj
        obtain ⟨⟨v, h1, h2⟩, -⟩ := A j _ hj hx0
        rw [add_sub1, hnone] at h2; cases h2
    · rw [List.getElem?_set_ne q] at hi
      by_cases q2 : p = j
      · subst q2
        rw [List.getElem?_set_self (by omega)] at hj
        cases Option.some.inj hj
        obtain ⟨⟨v, h1, h2⟩, -⟩ := A i _ hi hx0
        rw [add_sub1, hnone] at h2; cases h2
      · rw [List.getElem?_set_ne q2] at hj
        exact C i j x hi hj hx0
/-- the empty table -/
theorem Tab.empty (hl : ∀ y, hm y < c) : Tab hm c (List.replicate c 0) (List.replicate c 0) (fun _ => none) := by
  refine ⟨by simp, by simp, hl, fun i x hx hx0 => ?_, fun k v hk => (nomatch hk), fun i j x hi hj hx0 => ?_⟩
  · rw [List.getElem?_replicate] at hx; split at hx
    · exact absurd (Option.some.inj hx).symm hx0
    · cases hx
  · rw [List.getElem?_replicate] at hi; split at hi
    · exact absurd (Option.some.inj hi).symm hx0
    · cases hi
/-! how many places are taken -/
def taken (ks : List Int32) : Nat := ks.countP (fun x => x != 0)
theorem taken_zero (n : Nat) : taken (List.replicate n 0) = 0 := by simp [taken, List.countP_replicate]
theorem taken_set : ∀ {ks : List Int32} {i : Nat} {x : Int32}, ks[i]? = some 0 → x ≠ 0 → taken (ks.set i x) = taken ks + 1
  | y :: ks, 0, x, h, hx => by
    have : y = 0 := Option.some.inj h
    subst this
    simp [taken, List.set, List.countP_cons, hx]
  | y :: ks, i + 1, x, h, hx => by
    have := taken_set (ks := ks) (i := i) (x := x) (by simpa using h) hx
    simp only [taken, List.set, List.countP_cons] at this ⊢
    omega
theorem has_zero : ∀ {ks : List Int32}, taken ks < ks.length → ∃ z : Nat, ks[z]? = some 0
  | [], h => absurd h (by simp [taken])
  | y :: ks, h => by
    by_cases q : y = 0
    · exact ⟨0, by simp [q]⟩
    · have : taken (y :: ks) = taken ks + 1 := by simp [taken, List.countP_cons, q]
      obtain ⟨z, hz⟩ := has_zero (ks := ks) (by simp only [List.length_cons] at h; omega)
      exact ⟨z + 1, by simpa using hz⟩

/-! removal: a hole at f, the places up to e behind it looked at -/
def Hol (hm : Int32 → Nat) (c : Nat) (ks vs : List Int32) (M : Int32 → Option Int32) (f e : Nat) : Prop :=
  ks.length = c ∧ vs.length = c ∧ (∀ y, hm y < c) ∧ f < c ∧ 1 ≤ e ∧ e < c ∧
  (∀ (i : Nat) (x : Int32), i ≠ f → ks[i]? = some x → x ≠ 0 → (∃ v, vs[i]? = some v ∧ M (x - 1) = some v) ∧ Reach hm c ks x i) ∧
  (∀ key v, M key = some v → key + 1 ≠ 0 ∧ ∃ i : Nat, i ≠ f ∧ ks[i]? = some (key + 1)) ∧
  (∀ (i j : Nat) (x : Int32), i ≠ f → j ≠ f → ks[i]? = some x → ks[j]? = some x → x ≠ 0 → i = j) ∧
  (∀ (d : Nat) (x : Int32), 0 < d → d < e → ks[pos c f d]? = some x → x ≠ 0 → dist c (hm (x - 1)) (pos c f d) < d) ∧
  (∀ d : Nat, d < e → ks[pos c f d]? ≠ some 0)
theorem pos_zero {c f : Nat} (h : f < c) : pos c f 0 = f := by have := pos_spec c f 0; omega
theorem Tab.hole (H : Tab hm c ks vs M) (hc : 1 < c) {key : Int32} {p : Nat} (hp : ks[p]? = some (key + 1)) (h0 : key + 1 ≠ 0) : Hol hm c ks vs (del M key) p 1 := by
  obtain ⟨l1, l2, hl, A, B, C⟩ := H
  have hpc : p < c := by rw [← l1]; exact (List.getElem?_eq_some_iff.mp hp).1
  refine ⟨l1, l2, hl, hpc, Nat.le_refl _, hc, fun i x hi hx hx0 => ?_, fun k v hk => ?_, fun i j x _ _ h1 h2 h3 => C i j x h1 h2 h3, fun d x h1 h2 => by omega, fun d hd e => ?_⟩
  · obtain ⟨⟨v, h1, h2⟩, R⟩ := A i x hx hx0
    refine ⟨⟨v, h1, ?_⟩, R⟩
    have : x - 1 ≠ key := fun e => hi (C i p x hx (by rw [hp, ← e, sub_add1]) hx0)
    simp [del, this, h2]
  · by_cases q : k = key
    · simp [del, q] at hk
    · simp only [del, q, if_false] at hk
      obtain ⟨h1, i, hi⟩ := B k v hk
      refine ⟨h1, i, fun e => ?_, hi⟩
      subst e; exact q (add1_inj (Option.some.inj (hi.symm.trans hp)))
  · have : d = 0 := by omega
    subst this
    rw [pos_zero hpc, hp] at e
    exact h0 (Option.some.inj e)
variable {f e : Nat}
theorem Hol.more (H : Hol hm c ks vs M f e) {z : Nat} (hz : ks[z]? = some 0) {x : Int32} (hx : ks[pos c f e]? = some x) (hx0 : x ≠ 0) : e + 1 < c := by
  obtain ⟨l1, l2, hl, hf, he, hec, A, B, C, D, E⟩ := H
  have hzc : z < c := by rw [← l1]; exact (List.getElem?_eq_some_iff.mp hz).1
  have h1 := dist_lt hf hzc
  have h2 := pos_dist hf hzc
  have h3 : e ≤ dist c f z := by
    apply Nat.le_of_not_lt; intro q
    exact E _ q (by rw [h2]; exact hz)
  have h4 : e ≠ dist c f z := fun q => by
    rw [q, h2, hz] at hx; exact hx0 (Option.some.inj hx).symm
  omega
theorem Hol.skip (H : Hol hm c ks vs M f e) (hc : e + 1 < c) {x : Int32} (hx : ks[pos c f e]? = some x) (hx0 : x ≠ 0) (hd : dist c (hm (x - 1)) (pos c f e) < e) : Hol hm c ks vs M f (e + 1) := by
  obtain ⟨l1, l2, hl, hf, he, hec, A, B, C, D, E⟩ := H
  refine ⟨l1, l2, hl, hf, by omega, hc, A, B, C, fun d y h1 h2 h3 h4 => ?_, fun d h1 h2 => ?_⟩
  · by_cases q : d = e
    · subst q; cases hx.symm.trans h3; exact hd
    · exact D d y h1 (by omega) h3 h4
  · by_cases q : d = e
    · subst q; exact hx0 (Option.some.inj (hx.symm.trans h2))
    · exact E d (by omega) h2
theorem Hol.move (H : Hol hm c ks vs M f e) {x w : Int32} (hx : ks[pos c f e]? = some x) (hx0 : x ≠ 0) (hw : vs[pos c f e]? = some w) (hd : ¬ dist c (hm (x - 1)) (pos c f e) < e) : Hol hm c (ks.set f x) (vs.set f w) M (pos c f e) 1 := by
  obtain ⟨l1, l2, hl, hf, he, hec, A, B, C, D, E⟩ := H
  have hpc := pos_lt hf hec
  have hne : pos c f e ≠ f := by have := pos_spec c f e; omega
  have hset : ∀ j : Nat, (ks.set f x)[j]? ≠ some 0 ∨ (ks.set f x)[j]? = ks[j]? := by
    intro j
    by_cases q : f = j
    · subst q; left; rw [List.getElem?_set_self (by omega)]; intro e; exact hx0 (Option.some.inj e)
    · right; exact List.getElem?_set_ne q
  have hres : ∀ (y : Int32) (i d : Nat), Reach hm c ks y i → d ≤ dist c (hm (y - 1)) i → (ks.set f x)[pos c (hm (y - 1)) d]? ≠ some 0 := by
    intro y i d R h
    rcases hset (pos c (hm (y - 1)) d) with z | z
    · exact z
    · rw [z]; exact R d h
  obtain ⟨⟨w', hw', hMx⟩, Rx⟩ := A _ x hne hx hx0
  cases hw.symm.trans hw'
  refine ⟨by rw [List.length_set]; exact l1, by rw [List.length_set]; exact l2, hl, hpc, Nat.le_refl _, by omega, fun i y hi hy hy0 => ?_, fun k v hk => ?_, fun i j y hi hj h1 h2 h3 => ?_, fun d y h1 h2 => by omega, fun d hd' h2 => ?_⟩
  · by_cases q : f = i
    · subst q
      rw [List.getElem?_set_self (by omega)] at hy
      cases Option.some.inj hy
      refine ⟨⟨w, by rw [List.getElem?_set_self (by omega)], hMx⟩, fun d' hd' => hres x (pos c f e) d' Rx ?_⟩
      have e1 := dist_spec c (hm (x - 1)) f
      have e2 := dist_spec c (hm (x - 1)) (pos c f e)
      have e3 := pos_spec c f e
      have := hl (x - 1)
      omega
    · rw [List.getElem?_set_ne q] at hy
      obtain ⟨⟨v, h1, h2⟩, R⟩ := A i y (fun z => q z.symm) hy hy0
      exact ⟨⟨v, by rw [List.getElem?_set_ne q]; exact h1, h2⟩, fun d' hd' => hres y i d' R hd'⟩
  · obtain ⟨h1, i, h2, h3⟩ := B k v hk
    refine ⟨h1, ?_⟩
    by_cases q : i = pos c f e
    · refine ⟨f, fun z => hne z.symm, ?_⟩
      rw [List.getElem?_set_self (by omega)]
      rw [q, hx] at h3; exact h3
    · exact ⟨i, q, by rw [List.getElem?_set_ne (fun z => h2 z.symm)]; exact h3⟩
  · by_cases q : f = i
    · subst q
      rw [List.getElem?_set_self (by omega)] at h1
      cases Option.some.inj h1
      by_cases q2 : f = j
      · exact q2
      · rw [List.getElem?_set_ne q2] at h2
        exact absurd (C j _ x (fun z => q2 z.symm) hne h2 hx h3) hj
    · rw [List.getElem?_set_ne q] at h1
      by_cases q2 : f = j
      · subst q2
        rw [List.getElem?_set_self (by omega)] at h2
        cases Option.some.inj h2
        exact absurd (C i _ x (fun z => q z.symm) hne h1 hx h3) hi
      · rw [List.getElem?_set_ne q2] at h2
        exact C i j y (fun z => q z.symm) (fun z => q2 z.symm) h1 h2 h3
  · have : d = 0 := by omega
    subst this
    rw [pos_zero hpc, List.getElem?_set_ne (fun z => hne z.symm), hx] at h2
    exact hx0 (Option.some.inj h2)
theorem Hol.done (H : Hol hm c ks vs M f e) (hx : ks[pos c f e]? = some 0) : Tab hm c (ks.set f 0) vs M := by
  obtain ⟨l1, l2, hl, hf, he, hec, A, B, C, D, E⟩ := H
  refine ⟨by rw [List.length_set]; exact l1, l2, hl, fun i y hy hy0 => ?_, fun k v hk => ?_, fun i j y h1 h2 h3 => ?_⟩
  · have hi : f ≠ i := fun z => by subst z; rw [List.getElem?_set_self (by omega)] at hy; exact hy0 (Option.some.inj hy).symm
    rw [List.getElem?_set_ne hi] at hy
    obtain ⟨h1, R⟩ := A i y (fun z => hi z.symm) hy hy0
    refine ⟨h1, fun d hd => ?_⟩
    by_cases q : f = pos c (hm (y - 1)) d
    · exfalso
      have hic : i < c := by rw [← l1]; exact (List.getElem?_eq_some_iff.mp hy).1
      have e1 := dist_spec c (hm (y - 1)) i
      have e2 := pos_spec c (hm (y - 1)) d
      have e3 := dist_spec c f i
      have e4 := dist_lt (hl (y - 1)) hic
      have e5 := hl (y - 1)
      have hg : dist c (hm (y - 1)) i = d + dist c f i := by omega
      have hg0 : 0 < dist c f i := by omega
      have hge : dist c f i < e := by
        apply Nat.lt_of_not_le; intro z
        have := R (d + e) (by omega)
        have p1 := pos_spec c (hm (y - 1)) (d + e)
        have p2 := pos_spec c f e
        rw [show pos c (hm (y - 1)) (d + e) = pos c f e by omega] at this
        exact this hx
      have := D (dist c f i) y hg0 hge (by rw [pos_dist hf hic]; exact hy) hy0
      rw [pos_dist hf hic] at this
      omega
    · rw [List.getElem?_set_ne q]; exact R d hd
  · obtain ⟨h1, i, h2, h3⟩ := B k v hk
    exact ⟨h1, i, by rw [List.getElem?_set_ne (fun z => h2 z.symm)]; exact h3⟩
  · have hi : f ≠ i := fun z => by subst z; rw [List.getElem?_set_self (by omega)] at h1; exact h3 (Option.some.inj h1).symm
    have hj : f ≠ j := fun z => by subst z; rw [List.getElem?_set_self (by omega)] at h2; exact h3 (Option.some.inj h2).symm
    rw [List.getElem?_set_ne hi] at h1
    rw [List.getElem?_set_ne hj] at h2
    exact C i j y (fun z => hi z.symm) (fun z => hj z.symm) h1 h2 h3
end
theorem own_mask {m : Nat} (hm : m ≤ 30) (x : Int32) : x &&& Int32.ofNat (2 ^ m - 1) = Int32.ofNat (x.toBitVec.toNat % 2 ^ m) := by
  apply Int32.toBitVec_inj.mp
  apply BitVec.eq_of_toNat_eq
  have hp : 2 ^ m ≤ 2 ^ 30 := Nat.pow_le_pow_right (by decide) hm
  show (x.toBitVec &&& BitVec.ofNat 32 (2 ^ m - 1)).toNat = (BitVec.ofNat 32 (x.toBitVec.toNat % 2 ^ m)).toNat
  have h1 : x.toBitVec.toNat % 2 ^ m < 2 ^ m := Nat.mod_lt _ (Nat.two_pow_pos m)
  rw [BitVec.toNat_and, BitVec.toNat_ofNat, BitVec.toNat_ofNat, Nat.mod_eq_of_lt (by omega), Nat.and_two_pow_sub_one_eq_mod, Nat.mod_eq_of_lt (a := x.toBitVec.toNat % 2 ^ m) (by omega)]
theorem own_mask1 {m s : Nat} (hm : m ≤ 30) (hs : s < 2 ^ m) : (Int32.ofNat s + 1) &&& Int32.ofNat (2 ^ m - 1) = Int32.ofNat (pos (2 ^ m) s 1) := by
  have hp : 2 ^ m ≤ 2 ^ 30 := Nat.pow_le_pow_right (by decide) hm
  rw [own_nsucc, own_mask hm]
  congr 1
  show (BitVec.ofNat 32 (s + 1)).toNat % 2 ^ m = _
  rw [BitVec.toNat_ofNat, Nat.mod_eq_of_lt (a := s + 1) (by omega)]
  rcases pos_spec (2 ^ m) s 1 with ⟨h1, h2⟩ | ⟨h1, h2⟩
  · rw [h2, Nat.mod_eq_of_lt h1]
  · rw [h2, show s + 1 = 2 ^ m by omega, Nat.mod_self]; omega
theorem own_mask2 {m a b : Nat} (hm : m ≤ 30) (ha : a < 2 ^ m) (hb : b < 2 ^ m) : (Int32.ofNat a - Int32.ofNat b) &&& Int32.ofNat (2 ^ m - 1) = Int32.ofNat (dist (2 ^ m) b a) := by
  have hp : 2 ^ m ≤ 2 ^ 30 := Nat.pow_le_pow_right (by decide) hm
  rcases dist_spec (2 ^ m) b a with ⟨h1, h2⟩ | ⟨h1, h2⟩
  · rw [own_nsub h1, own_mask hm, h2]
    congr 1
    show (BitVec.ofNat 32 (a - b)).toNat % 2 ^ m = _
    rw [BitVec.toNat_ofNat, Nat.mod_eq_of_lt (a := a - b) (by omega), Nat.mod_eq_of_lt (by omega)]
  · rw [own_mask hm, h2]
    congr 1
    show (BitVec.ofNat 32 a - BitVec.ofNat 32 b).toNat % 2 ^ m = _
    rw [BitVec.toNat_sub, BitVec.toNat_ofNat, BitVec.toNat_ofNat, Nat.mod_eq_of_lt (a := a) (by omega), Nat.mod_eq_of_lt (a := b) (by omega)]
    have e1 : (2 : Nat) ^ 32 = 2 ^ m * 2 ^ (32 - m) := by rw [← Nat.pow_add]; congr 1; omega
    rw [Nat.mod_eq_of_lt (a := 2 ^ 32 - b + a) (by omega)]
    have e2 : 2 ^ 32 - b + a = (a + 2 ^ m - b) + 2 ^ m * (2 ^ (32 - m) - 1) := by
      rw [Nat.mul_sub, ← e1]; omega
    rw [e2, Nat.add_mul_mod_self_left, Nat.mod_eq_of_lt (by omega)]
def slotF (key mask : Int32) : Int32 := (key * (-1640531527) ^^^ XT.ushr (key * (-1640531527)) 16) &&& mask
def homeF (m : Nat) (key : Int32) : Nat := (key * (-1640531527) ^^^ XT.ushr (key * (-1640531527)) 16).toBitVec.toNat % 2 ^ m
theorem own_home {m : Nat} (hm : m ≤ 30) (key : Int32) : slotF key (Int32.ofNat (2 ^ m - 1)) = Int32.ofNat (homeF m key) := own_mask hm _
theorem own_home_lt (m : Nat) (key : Int32) : homeF m key < 2 ^ m := Nat.mod_lt _ (Nat.two_pow_pos m)
theorem own_pow {m : Nat} (h : m ≤ 30) : 2 ^ m ≤ 1073741824 := Nat.pow_le_pow_right (by decide) h
theorem own_ncap {m : Nat} : Int32.ofNat (2 ^ m) - 1 = Int32.ofNat (2 ^ m - 1) := own_nsub (i := 2 ^ m) (j := 1) (Nat.two_pow_pos m)
theorem own_k1 (x : Int32) : (x &&& 2147483647) + 1 ≠ 0 := by
  obtain ⟨n, h1, h2⟩ := own_msk x
  rw [h2, own_nsucc]
  intro e
  have e2 : (BitVec.ofNat 32 (n + 1)).toNat = 0 := congrArg (fun z : Int32 => z.toBitVec.toNat) e
  rw [BitVec.toNat_ofNat, Nat.mod_eq_of_lt (by omega)] at e2
  omega
theorem own_half {m : Nat} (h : m ≤ 30) (h1 : 1 ≤ m) : Int32.ofNat (2 ^ m) / 2 = Int32.ofNat (2 ^ (m - 1)) := by
  have hp := own_pow h
  have e : 2 ^ m = 2 ^ (m - 1) * 2 := by rw [← Nat.pow_succ]; congr 1; omega
  apply Int32.toInt_inj.mp
  rw [Int32.toInt_div, own_nint (by omega), own_nint (by omega)]
  have : (2 : Int32).toInt = 2 := by decide
  rw [this, e, Int.natCast_mul, show ((2 : Nat) : Int) = 2 from rfl, Int.mul_tdiv_cancel _ (by decide)]
  exact Int.bmod_eq_of_le (by omega) (by omega)
theorem pos_succ {c s i : Nat} (hs : s < c) (hi : i + 1 < c) : pos c (pos c s i) 1 = pos c s (i + 1) := by
  have := pos_spec c s i; have := pos_spec c (pos c s i) 1; have := pos_spec c s (i + 1); omega
theorem pos_nlt {m s i : Nat} (hm : m ≤ 30) (hs : s < 2 ^ m) (hi : i < 2 ^ m) : pos (2 ^ m) s i < 2147483648 := by
  have := own_pow hm; have := pos_lt hs hi; omega
theorem dist_next {c a z : Nat} (ha : a < c) (hz : z < c) {n : Nat} (h : dist c a z = n + 1) : dist c (pos c a 1) z = n := by
  have := dist_spec c a z; have := pos_spec c a 1; have := dist_spec c (pos c a 1) z; omega
theorem dist_none {c a z : Nat} (ha : a < c) (hz : z < c) (h : dist c a z = 0) : a = z := by
  have := dist_spec c a z; omega
def f73 (x n : Int32) : Int32 := n - XT.ushr x 1
def f61 (x n : Int32) : Int32 := if x < 4 then f73 x n else f73 (XT.ushr x 2) (n + (-2))
def f48 (x n : Int32) : Int32 := if x < 16 then f61 x n else f61 (XT.ushr x 4) (n + (-4))
def f33 (x n : Int32) : Int32 := if x < 256 then f48 x n else f48 (XT.ushr x 8) (n + (-8))
def f18 (x n : Int32) : Int32 := if x < 65536 then f33 x n else f33 (XT.ushr x 16) (n + (-16))
def nlzF (x : Int32) : Int32 := if 0 < x then f18 x 31 else if x = 0 then 32 else 0
def hobF (x : Int32) : Int32 := x &&& XT.ushr (-2147483648) (nlzF x)
def capF (e : Int32) : Int32 := hobF ((if 4 < e then e else 4) * 2 - 1) * 2
theorem D33_47_0 : Dc jdk_33_method_47_code 0 (.iload_n 0) 1 1 := dc (by decide +kernel) rfl
theorem D33_47_1 : Db jdk_33_method_47_code 1 (.ifCond .gt) 4 15 := db (14) (by decide +kernel) rfl (by decide) (by decide)
theorem D33_47_4 : Dc jdk_33_method_47_code 4 (.iload_n 0) 1 5 := dc (by decide +kernel) rfl
theorem D33_47_5 : Db jdk_33_method_47_code 5 (.ifCond .ne) 8 13 := db (8) (by decide +kernel) rfl (by decide) (by decide)
theorem D33_47_8 : Dc jdk_33_method_47_code 8 (.bipush 32) 2 10 := dc (by decide +kernel) rfl
theorem D33_47_10 : Db jdk_33_method_47_code 10 (.goto) 13 14 := db (4) (by decide +kernel) rfl (by decide) (by decide)
theorem D33_47_13 : Dc jdk_33_method_47_code 13 (.iconst 0) 1 14 := dc (by decide +kernel) rfl
theorem D33_47_14 : Dc jdk_33_method_47_code 14 (.ireturn) 1 15 := dc (by decide +kernel) rfl
theorem D33_47_15 : Dc jdk_33_method_47_code 15 (.bipush 31) 2 17 := dc (by decide +kernel) rfl
theorem D33_47_17 : Dc jdk_33_method_47_code 17 (.istore_n 1) 1 18 := dc (by decide +kernel) rfl
theorem D33_47_18 : Dc jdk_33_method_47_code 18 (.iload_n 0) 1 19 := dc (by decide +kernel) rfl
theorem D33_47_19 : Dc jdk_33_method_47_code 19 (.ldc_w 264) 3 22 := dc (by decide +kernel) rfl
theorem D33_47_22 : Db jdk_33_method_47_code 22 (.if_icmp .lt) 25 33 := db (11) (by decide +kernel) rfl (by decide) (by decide)
theorem D33_47_25 : Dc jdk_33_method_47_code 25 (.iinc 1 (-16)) 3 28 := dc (by decide +kernel) rfl
theorem D33_47_28 : Dc jdk_33_method_47_code 28 (.iload_n 0) 1 29 := dc (by decide +kernel) rfl
theorem D33_47_29 : Dc jdk_33_method_47_code 29 (.bipush 16) 2 31 := dc (by decide +kernel) rfl
theorem D33_47_31 : Dc jdk_33_method_47_code 31 (.iushr) 1 32 := dc (by decide +kernel) rfl
theorem D33_47_32 : Dc jdk_33_method_47_code 32 (.istore_n 0) 1 33 := dc (by decide +kernel) rfl
theorem D33_47_33 : Dc jdk_33_method_47_code 33 (.iload_n 0) 1 34 := dc (by decide +kernel) rfl
theorem D33_47_34 : Dc jdk_33_method_47_code 34 (.sipush 256) 3 37 := dc (by decide +kernel) rfl
theorem D33_47_37 : Db jdk_33_method_47_code 37 (.if_icmp .lt) 40 48 := db (11) (by decide +kernel) rfl (by decide) (by decide)
theorem D33_47_40 : Dc jdk_33_method_47_code 40 (.iinc 1 (-8)) 3 43 := dc (by decide +kernel) rfl
theorem D33_47_43 : Dc jdk_33_method_47_code 43 (.iload_n 0) 1 44 := dc (by decide +kernel) rfl
theorem D33_47_44 : Dc jdk_33_method_47_code 44 (.bipush 8) 2 46 := dc (by decide +kernel) rfl
theorem D33_47_46 : Dc jdk_33_method_47_code 46 (.iushr) 1 47 := dc (by decide +kernel) rfl
theorem D33_47_47 : Dc jdk_33_method_47_code 47 (.istore_n 0) 1 48 := dc (by decide +kernel) rfl
theorem D33_47_48 : Dc jdk_33_method_47_code 48 (.iload_n 0) 1 49 := dc (by decide +kernel) rfl
theorem D33_47_49 : Dc jdk_33_method_47_code 49 (.bipush 16) 2 51 := dc (by decide +kernel) rfl
theorem D33_47_51 : Db jdk_33_method_47_code 51 (.if_icmp .lt) 54 61 := db (10) (by decide +kernel) rfl (by decide) (by decide)
theorem D33_47_54 : Dc jdk_33_method_47_code 54 (.iinc 1 (-4)) 3 57 := dc (by decide +kernel) rfl
theorem D33_47_57 : Dc jdk_33_method_47_code 57 (.iload_n 0) 1 58 := dc (by decide +kernel) rfl
theorem D33_47_58 : Dc jdk_33_method_47_code 58 (.iconst 4) 1 59 := dc (by decide +kernel) rfl
theorem D33_47_59 : Dc jdk_33_method_47_code 59 (.iushr) 1 60 := dc (by decide +kernel) rfl
theorem D33_47_60 : Dc jdk_33_method_47_code 60 (.istore_n 0) 1 61 := dc (by decide +kernel) rfl
theorem D33_47_61 : Dc jdk_33_method_47_code 61 (.iload_n 0) 1 62 := dc (by decide +kernel) rfl
theorem D33_47_62 : Dc jdk_33_method_47_code 62 (.iconst 4) 1 63 := dc (by decide +kernel) rfl
theorem D33_47_63 : Db jdk_33_method_47_code 63 (.if_icmp .lt) 66 73 := db (10) (by decide +kernel) rfl (by decide) (by decide)
theorem D33_47_66 : Dc jdk_33_method_47_code 66 (.iinc 1 (-2)) 3 69 := dc (by decide +kernel) rfl
theorem D33_47_69 : Dc jdk_33_method_47_code 69 (.iload_n 0) 1 70 := dc (by decide +kernel) rfl
theorem D33_47_70 : Dc jdk_33_method_47_code 70 (.iconst 2) 1 71 := dc (by decide +kernel) rfl
theorem D33_47_71 : Dc jdk_33_method_47_code 71 (.iushr) 1 72 := dc (by decide +kernel) rfl
theorem D33_47_72 : Dc jdk_33_method_47_code 72 (.istore_n 0) 1 73 := dc (by decide +kernel) rfl
theorem D33_47_73 : Dc jdk_33_method_47_code 73 (.iload_n 1) 1 74 := dc (by decide +kernel) rfl
theorem D33_47_74 : Dc jdk_33_method_47_code 74 (.iload_n 0) 1 75 := dc (by decide +kernel) rfl
theorem D33_47_75 : Dc jdk_33_method_47_code 75 (.iconst 1) 1 76 := dc (by decide +kernel) rfl
theorem D33_47_76 : Dc jdk_33_method_47_code 76 (.iushr) 1 77 := dc (by decide +kernel) rfl
theorem D33_47_77 : Dc jdk_33_method_47_code 77 (.isub) 1 78 := dc (by decide +kernel) rfl
theorem D33_47_78 : Dc jdk_33_method_47_code 78 (.ireturn) 1 79 := dc (by decide +kernel) rfl
theorem pf_nlz : plainFor (⟨"java/lang/Integer", "numberOfLeadingZeros", "(I)I"⟩ : MethodName) = true := by decide +kernel
set_option maxRecDepth 65536 in
set_option maxHeartbeats 40000000 in
theorem ct_nlz (l : Launch) (Z : State) (a0 : Array Value) (hw : ∀ d ∈ tables_1, d.before a0 Z = true) (n0 : Nat) (h : Heap) (y : Int32) :
    Ct l Z n0 (⟨"java/lang/Integer", "numberOfLeadingZeros", "(I)I"⟩ : MethodName) jdk_33_method_47_code 2 (some .int) ({ frames := 0, cells := 0, slots := 0, locals := 0 } : Room) [.int y] h (fun v h' => v = some (.int (nlzF y)) ∧ h = h') := by
  refine Ct.intro pf_nlz [.val (.int y), .unset] (fun m => by first | (simp [entryFrame, mkF, argsToLocals, Value.category]; done) | (simp [entryFrame, mkF, argsToLocals, Value.category, maxLocals]; done) | rfl) ?_
  intro k hl K
  replace K : Ok k Z n0 "java/lang/Integer" ({ frames := 0, cells := 0, slots := 0, locals := 0 } : Room) jdk_33_method_47_code 2 (some .int) "numberOfLeadingZeros" := K
  have j73 : ∀ x n : Int32, f73 x n = nlzF y → G k n0 (fun v h' => v = some (.int (nlzF y)) ∧ h = h') h 0 0 73 [.val (.int x), .val (.int n)] [] := by
    intro x n hx
    refine G.iloadN K D33_47_73 rfl ?_
    refine G.iloadN K D33_47_74 rfl ?_
    refine G.iconst K D33_47_75 1 rfl ?_
    refine G.iushr K D33_47_76 ?_
    refine G.isub K D33_47_77 ?_
    refine G.ret_int K D33_47_78 ?_
    exact ⟨by rw [← hx, f73], rfl⟩
  have j61 : ∀ x n : Int32, f61 x n = nlzF y → G k n0 (fun v h' => v = some (.int (nlzF y)) ∧ h = h') h 0 0 61 [.val (.int x), .val (.int n)] [] := by
    intro x n hx
    refine G.iloadN K D33_47_61 rfl ?_
    refine G.iconst K D33_47_62 4 rfl ?_
    refine G.icmp_lt K D33_47_63 (fun q1 => ?_) (fun q1 => ?_)
    · exact j73 _ _ (by rw [← hx, f61, if_pos q1])
    · refine G.iinc K D33_47_66 (-2) rfl rfl ([.val (.int x), .val (.int (n + (-2)))]) rfl ?_
      refine G.iloadN K D33_47_69 rfl ?_
      refine G.iconst K D33_47_70 2 rfl ?_
      refine G.iushr K D33_47_71 ?_
      refine G.istoreN K D33_47_72 ([.val (.int (XT.ushr x 2)), .val (.int (n + (-2)))]) rfl ?_
      exact j73 _ _ (by rw [← hx, f61, if_neg q1])
  have j48 : ∀ x n : Int32, f48 x n = nlzF y → G k n0 (fun v h' => v = some (.int (nlzF y)) ∧ h = h') h 0 0 48 [.val (.int x), .val (.int n)] [] := by
    intro x n hx
    refine G.iloadN K D33_47_48 rfl ?_
    refine G.bipush K D33_47_49 16 rfl ?_
    refine G.icmp_lt K D33_47_51 (fun q2 => ?_) (fun q2 => ?_)
    · exact j61 _ _ (by rw [← hx, f48, if_pos q2])
    · refine G.iinc K D33_47_54 (-4) rfl rfl ([.val (.int x), .val (.int (n + (-4)))]) rfl ?_
      refine G.iloadN K D33_47_57 rfl ?_
      refine G.iconst K D33_47_58 4 rfl ?_
      refine G.iushr K D33_47_59 ?_
      refine G.istoreN K D33_47_60 ([.val (.int (XT.ushr x 4)), .val (.int (n + (-4)))]) rfl ?_
      exact j61 _ _ (by rw [← hx, f48, if_neg q2])
  have j33 : ∀ x n : Int32, f33 x n = nlzF y → G k n0 (fun v h' => v = some (.int (nlzF y)) ∧ h = h') h 0 0 33 [.val (.int x), .val (.int n)] [] := by
    intro x n hx
    refine G.iloadN K D33_47_33 rfl ?_
    refine G.sipush K D33_47_34 256 rfl ?_
    refine G.icmp_lt K D33_47_37 (fun q3 => ?_) (fun q3 => ?_)
    · exact j48 _ _ (by rw [← hx, f33, if_pos q3])
    · refine G.iinc K D33_47_40 (-8) rfl rfl ([.val (.int x), .val (.int (n + (-8)))]) rfl ?_
      refine G.iloadN K D33_47_43 rfl ?_
      refine G.bipush K D33_47_44 8 rfl ?_
      refine G.iushr K D33_47_46 ?_
      refine G.istoreN K D33_47_47 ([.val (.int (XT.ushr x 8)), .val (.int (n + (-8)))]) rfl ?_
      exact j48 _ _ (by rw [← hx, f33, if_neg q3])
  have j18 : ∀ x n : Int32, f18 x n = nlzF y → G k n0 (fun v h' => v = some (.int (nlzF y)) ∧ h = h') h 0 0 18 [.val (.int x), .val (.int n)] [] := by
    intro x n hx
    refine G.iloadN K D33_47_18 rfl ?_
    refine G.ldcWI K D33_47_19 (wd hw 22 rfl) ?_
    refine G.icmp_lt K D33_47_22 (fun q4 => ?_) (fun q4 => ?_)
    · exact j33 _ _ (by rw [← hx, f18, if_pos q4])
    · refine G.iinc K D33_47_25 (-16) rfl rfl ([.val (.int x), .val (.int (n + (-16)))]) rfl ?_
      refine G.iloadN K D33_47_28 rfl ?_
      refine G.bipush K D33_47_29 16 rfl ?_
      refine G.iushr K D33_47_31 ?_
      refine G.istoreN K D33_47_32 ([.val (.int (XT.ushr x 16)), .val (.int (n + (-16)))]) rfl ?_
      exact j33 _ _ (by rw [← hx, f18, if_neg q4])
  refine G.iloadN K D33_47_0 rfl ?_
  refine G.if_gt K D33_47_1 (fun q5 => ?_) (fun q5 => ?_)
  · refine G.bipush K D33_47_15 31 rfl ?_
    refine G.istoreN K D33_47_17 ([.val (.int y), .val (.int 31)]) rfl ?_
    exact j18 _ _ (by rw [nlzF, if_pos q5])
  · refine G.iloadN K D33_47_4 rfl ?_
    refine G.if_ne K D33_47_5 (fun q6 => ?_) (fun q6 => ?_)
    · refine G.iconst K D33_47_13 0 rfl ?_
      refine G.ret_int K D33_47_14 ?_
      exact ⟨by simp [nlzF, q5, q6], rfl⟩
    · refine G.bipush K D33_47_8 32 rfl ?_
      refine G.goto K D33_47_10 ?_
      refine G.ret_int K D33_47_14 ?_
      exact ⟨by simp [nlzF, q5, q6], rfl⟩
theorem D33_45_0 : Dc jdk_33_method_45_code 0 (.iload_n 0) 1 1 := dc (by decide +kernel) rfl
theorem D33_45_1 : Dc jdk_33_method_45_code 1 (.ldc 127) 2 3 := dc (by decide +kernel) rfl
theorem D33_45_3 : Dc jdk_33_method_45_code 3 (.iload_n 0) 1 4 := dc (by decide +kernel) rfl
theorem D33_45_4 : Dc jdk_33_method_45_code 4 (.invokestatic 51) 3 7 := dc (by decide +kernel) rfl
theorem D33_45_7 : Dc jdk_33_method_45_code 7 (.iushr) 1 8 := dc (by decide +kernel) rfl
theorem D33_45_8 : Dc jdk_33_method_45_code 8 (.iand) 1 9 := dc (by decide +kernel) rfl
theorem D33_45_9 : Dc jdk_33_method_45_code 9 (.ireturn) 1 10 := dc (by decide +kernel) rfl
theorem pf_hob : plainFor (⟨"java/lang/Integer", "highestOneBit", "(I)I"⟩ : MethodName) = true := by decide +kernel
set_option maxRecDepth 65536 in
set_option maxHeartbeats 40000000 in
theorem ct_hob (l : Launch) (Z : State) (a0 : Array Value) (hw : ∀ d ∈ tables_1, d.before a0 Z = true) (n0 : Nat) (h : Heap) (y : Int32) :
    Ct l Z n0 (⟨"java/lang/Integer", "highestOneBit", "(I)I"⟩ : MethodName) jdk_33_method_45_code 1 (some .int) ({ frames := 1, cells := 0, slots := 0, locals := 15 } : Room) [.int y] h (fun v h' => v = some (.int (hobF y)) ∧ h = h') := by
  refine Ct.intro pf_hob [.val (.int y)] (fun m => by first | (simp [entryFrame, mkF, argsToLocals, Value.category]; done) | (simp [entryFrame, mkF, argsToLocals, Value.category, maxLocals]; done) | rfl) ?_
  intro k hl K
  replace K : Ok k Z n0 "java/lang/Integer" ({ frames := 1, cells := 0, slots := 0, locals := 15 } : Room) jdk_33_method_45_code 1 (some .int) "highestOneBit" := K
  refine G.iloadN K D33_45_0 rfl ?_
  refine G.ldcI K D33_45_1 (wd hw 18 rfl) ?_
  refine G.iloadN K D33_45_3 rfl ?_
  refine G.callS K hl (wd hw 19 rfl) (wd hw 20 rfl) (wd hw 16 rfl) (wd hw 21 rfl) (by decide) pd_0 (ct_nlz l Z a0 hw n0 _ y) 2 rfl (by decide) (by decide) (by decide) (by decide) rfl rfl [.int y] rfl D33_45_4 ?_
  rintro _ _ ⟨rfl, rfl⟩
  change G k n0 _ h _ _ 7 [.val (.int y)] [.int (nlzF y), .int (-2147483648), .int y]
  refine G.iushr K D33_45_7 ?_
  refine G.iand K D33_45_8 ?_
  refine G.ret_int K D33_45_9 ?_
  exact ⟨rfl, rfl⟩
theorem D29_65_0 : Dc jdk_29_method_65_code 0 (.iload_n 0) 1 1 := dc (by decide +kernel) rfl
theorem D29_65_1 : Dc jdk_29_method_65_code 1 (.iload_n 1) 1 2 := dc (by decide +kernel) rfl
theorem D29_65_2 : Db jdk_29_method_65_code 2 (.if_icmp .lt) 5 9 := db (7) (by decide +kernel) rfl (by decide) (by decide)
theorem D29_65_5 : Dc jdk_29_method_65_code 5 (.iload_n 0) 1 6 := dc (by decide +kernel) rfl
theorem D29_65_6 : Db jdk_29_method_65_code 6 (.goto) 9 10 := db (4) (by decide +kernel) rfl (by decide) (by decide)
theorem D29_65_9 : Dc jdk_29_method_65_code 9 (.iload_n 1) 1 10 := dc (by decide +kernel) rfl
theorem D29_65_10 : Dc jdk_29_method_65_code 10 (.ireturn) 1 11 := dc (by decide +kernel) rfl
set_option maxRecDepth 65536 in
set_option maxHeartbeats 40000000 in
theorem ct_max (l : Launch) (Z : State) (a0 : Array Value) (hw : ∀ d ∈ tables_1, d.before a0 Z = true) (n0 : Nat) (h : Heap) (y z : Int32) :
    Ct l Z n0 (⟨"java/lang/Math", "max", "(II)I"⟩ : MethodName) jdk_29_method_65_code 2 (some .int) ({ frames := 0, cells := 0, slots := 0, locals := 0 } : Room) [.int y, .int z] h (fun v h' => v = some (.int (if y < z then z else y)) ∧ h = h') := by
  refine Ct.intro (Jvm.Free.JP.mathPlain rfl (by decide +kernel)) [.val (.int y), .val (.int z)] (fun m => by first | (simp [entryFrame, mkF, argsToLocals, Value.category]; done) | (simp [entryFrame, mkF, argsToLocals, Value.category, maxLocals]; done) | rfl) ?_
  intro k hl K
  replace K : Ok k Z n0 "java/lang/Math" ({ frames := 0, cells := 0, slots := 0, locals := 0 } : Room) jdk_29_method_65_code 2 (some .int) "max" := K
  refine G.iloadN K D29_65_0 rfl ?_
  refine G.iloadN K D29_65_1 rfl ?_
  refine G.icmp_lt K D29_65_2 (fun q7 => ?_) (fun q7 => ?_)
  · refine G.iloadN K D29_65_9 rfl ?_
    refine G.ret_int K D29_65_10 ?_
    exact ⟨by simp [q7], rfl⟩
  · refine G.iloadN K D29_65_5 rfl ?_
    refine G.goto K D29_65_6 ?_
    refine G.ret_int K D29_65_10 ?_
    exact ⟨by simp [q7], rfl⟩
theorem D54_1_0 : Dc prog_54_method_1_code 0 (.aload_n 0) 1 1 := dc (by decide +kernel) rfl
theorem D54_1_1 : Dc prog_54_method_1_code 1 (.invokespecial 1) 3 4 := dc (by decide +kernel) rfl
theorem D54_1_4 : Dc prog_54_method_1_code 4 (.iconst 4) 1 5 := dc (by decide +kernel) rfl
theorem D54_1_5 : Dc prog_54_method_1_code 5 (.iload_n 1) 1 6 := dc (by decide +kernel) rfl
theorem D54_1_6 : Dc prog_54_method_1_code 6 (.invokestatic 7) 3 9 := dc (by decide +kernel) rfl
theorem D54_1_9 : Dc prog_54_method_1_code 9 (.iconst 2) 1 10 := dc (by decide +kernel) rfl
theorem D54_1_10 : Dc prog_54_method_1_code 10 (.imul) 1 11 := dc (by decide +kernel) rfl
theorem D54_1_11 : Dc prog_54_method_1_code 11 (.iconst 1) 1 12 := dc (by decide +kernel) rfl
theorem D54_1_12 : Dc prog_54_method_1_code 12 (.isub) 1 13 := dc (by decide +kernel) rfl
theorem D54_1_13 : Dc prog_54_method_1_code 13 (.invokestatic 13) 3 16 := dc (by decide +kernel) rfl
theorem D54_1_16 : Dc prog_54_method_1_code 16 (.iconst 2) 1 17 := dc (by decide +kernel) rfl
theorem D54_1_17 : Dc prog_54_method_1_code 17 (.imul) 1 18 := dc (by decide +kernel) rfl
theorem D54_1_18 : Dc prog_54_method_1_code 18 (.istore_n 2) 1 19 := dc (by decide +kernel) rfl
theorem D54_1_19 : Dc prog_54_method_1_code 19 (.aload_n 0) 1 20 := dc (by decide +kernel) rfl
theorem D54_1_20 : Dc prog_54_method_1_code 20 (.iload_n 2) 1 21 := dc (by decide +kernel) rfl
theorem D54_1_21 : Dc prog_54_method_1_code 21 (.newarray .int) 2 23 := dc (by decide +kernel) rfl
theorem D54_1_23 : Dc prog_54_method_1_code 23 (.putfield 19) 3 26 := dc (by decide +kernel) rfl
theorem D54_1_26 : Dc prog_54_method_1_code 26 (.aload_n 0) 1 27 := dc (by decide +kernel) rfl
theorem D54_1_27 : Dc prog_54_method_1_code 27 (.iload_n 2) 1 28 := dc (by decide +kernel) rfl
theorem D54_1_28 : Dc prog_54_method_1_code 28 (.newarray .int) 2 30 := dc (by decide +kernel) rfl
theorem D54_1_30 : Dc prog_54_method_1_code 30 (.putfield 25) 3 33 := dc (by decide +kernel) rfl
theorem D54_1_33 : Dc prog_54_method_1_code 33 (.return_) 1 34 := dc (by decide +kernel) rfl
theorem pn_0 : plainName "org/sqcap/reasoner/IntMap" = true := by first | (simp [plainName, overriddenIn]; done) | decide +kernel
set_option maxRecDepth 65536 in
set_option maxHeartbeats 40000000 in
theorem ct_init (l : Launch) (Z : State) (a0 : Array Value) (hw : ∀ d ∈ tables_1, d.before a0 Z = true) (n0 : Nat) (h : Heap) (a : Addr) (e : Int32) (m : Nat) (σ : List Ch) (hm : 2 ^ m ≤ 8) (he : capF e = Int32.ofNat (2 ^ m)) (H : Hp n0 h ((a, Ob Z "org/sqcap/reasoner/IntMap" NSM [.null, .null, .int 0]) :: σ)) :
    Ct l Z n0 (⟨"org/sqcap/reasoner/IntMap", "<init>", "(I)V"⟩ : MethodName) prog_54_method_1_code 3 none ({ frames := 2, cells := 2, slots := 16, locals := 40 } : Room) [.ref a, .int e] h (fun v h' => v = none ∧ ∃ ka va : Addr, Hp n0 h' ((a, Ob Z "org/sqcap/reasoner/IntMap" NSM [.ref ka, .ref va, .int 0]) :: (ka, Ia Z (List.replicate (2 ^ m) 0)) :: (va, Ia Z (List.replicate (2 ^ m) 0)) :: σ)) := by
  refine Ct.intro (plainFor_of_name pn_0) [.val (.ref a), .val (.int e), .unset] (fun m => by first | (simp [entryFrame, mkF, argsToLocals, Value.category]; done) | (simp [entryFrame, mkF, argsToLocals, Value.category, maxLocals]; done) | rfl) ?_
  intro k hl K
  replace K : Ok k Z n0 "org/sqcap/reasoner/IntMap" ({ frames := 2, cells := 2, slots := 16, locals := 40 } : Room) prog_54_method_1_code 3 none "<init>" := K
  refine G.aloadN K D54_1_0 rfl rfl ?_
  refine G.initO K (wd hw 7 rfl) (wd hw 8 rfl) (wd hw 9 rfl) rfl 0 rfl (by decide) (by decide) D54_1_1 ?_
  refine G.iconst K D54_1_4 4 rfl ?_
  refine G.iloadN K D54_1_5 rfl ?_
  refine G.callS K hl (wd hw 10 rfl) (wd hw 11 rfl) (wd hw 12 rfl) (wd hw 13 rfl) (by decide) pd_1 (ct_max l Z a0 hw n0 _ 4 e) 0 rfl (by decide) (by decide) (by decide) (by decide) rfl rfl [.int e, .int 4] rfl D54_1_6 ?_
  rintro _ _ ⟨rfl, rfl⟩
  change G k n0 _ h _ _ 9 [.val (.ref a), .val (.int e), .unset] [.int (if 4 < e then e else 4)]
  refine G.iconst K D54_1_9 2 rfl ?_
  refine G.imul K D54_1_10 ?_
  refine G.iconst K D54_1_11 1 rfl ?_
  refine G.isub K D54_1_12 ?_
  refine G.callS K hl (wd hw 14 rfl) (wd hw 15 rfl) (wd hw 16 rfl) (wd hw 17 rfl) (by decide) pd_0 (ct_hob l Z a0 hw n0 _ (((if 4 < e then e else 4) * 2) - 1)) 0 rfl (by decide) (by decide) (by decide) (by decide) rfl rfl [.int (((if 4 < e then e else 4) * 2) - 1)] rfl D54_1_13 ?_
  rintro _ _ ⟨rfl, rfl⟩
  change G k n0 _ h _ _ 16 [.val (.ref a), .val (.int e), .unset] [.int (hobF (((if 4 < e then e else 4) * 2) - 1))]
  refine G.iconst K D54_1_16 2 rfl ?_
  refine G.imul K D54_1_17 ?_
  rw [show hobF ((if 4 < e then e else 4) * 2 - 1) * 2 = Int32.ofNat (2 ^ m) from he]
  refine G.istoreN K D54_1_18 ([.val (.ref a), .val (.int e), .val (.int (Int32.ofNat (2 ^ m)))]) rfl ?_
  refine G.aloadN K D54_1_19 rfl rfl ?_
  refine G.iloadN K D54_1_20 rfl ?_
  refine G.newarr_i K (wd hw 23 rfl) H (own_nneg (by omega)) 8 (by rw [own_nidx (by omega)]; omega) (by decide) (by decide) (by decide) D54_1_21 ?_
  intro a8 h9 H9
  rw [own_nidx (by omega)] at H9
  change Hp n0 h9 ((a8, Ia Z (List.replicate (2 ^ m) 0)) :: (a, Ob Z "org/sqcap/reasoner/IntMap" NSM [.null, .null, .int 0]) :: σ) at H9
  refine G.putF K (host := "") (Or.inl (wd hw 24 rfl)) (cf_NSM hw) (Or.inl (wd hw 25 rfl)) (wd hw 2 rfl) H9 (i := 1) rfl (j := 0) rfl rfl (ty := (.array .int)) (by decide) rfl rfl D54_1_23 ?_
  intro h10 H10
  change Hp n0 h10 ((a8, Ia Z (List.replicate (2 ^ m) 0)) :: (a, Ob Z "org/sqcap/reasoner/IntMap" NSM [.ref a8, .null, .int 0]) :: σ) at H10
  refine G.aloadN K D54_1_26 rfl rfl ?_
  refine G.iloadN K D54_1_27 rfl ?_
  refine G.newarr_i K (wd hw 23 rfl) H10 (own_nneg (by omega)) 8 (by rw [own_nidx (by omega)]; omega) (by decide) (by decide) (by decide) D54_1_28 ?_
  intro a11 h12 H12
  rw [own_nidx (by omega)] at H12
  change Hp n0 h12 ((a11, Ia Z (List.replicate (2 ^ m) 0)) :: (a8, Ia Z (List.replicate (2 ^ m) 0)) :: (a, Ob Z "org/sqcap/reasoner/IntMap" NSM [.ref a8, .null, .int 0]) :: σ) at H12
  refine G.putF K (host := "") (Or.inl (wd hw 26 rfl)) (cf_NSM hw) (Or.inl (wd hw 27 rfl)) (wd hw 2 rfl) H12 (i := 2) rfl (j := 1) rfl rfl (ty := (.array .int)) (by decide) rfl rfl D54_1_30 ?_
  intro h13 H13
  change Hp n0 h13 ((a11, Ia Z (List.replicate (2 ^ m) 0)) :: (a8, Ia Z (List.replicate (2 ^ m) 0)) :: (a, Ob Z "org/sqcap/reasoner/IntMap" NSM [.ref a8, .ref a11, .int 0]) :: σ) at H13
  refine G.ret_void K D54_1_33 ?_
  have H14 : Hp n0 h13 ((a8, Ia Z (List.replicate (2 ^ m) 0)) :: (a11, Ia Z (List.replicate (2 ^ m) 0)) :: (a, Ob Z "org/sqcap/reasoner/IntMap" NSM [.ref a8, .ref a11, .int 0]) :: σ) := H13.pull 1 rfl
  have H15 : Hp n0 h13 ((a, Ob Z "org/sqcap/reasoner/IntMap" NSM [.ref a8, .ref a11, .int 0]) :: (a8, Ia Z (List.replicate (2 ^ m) 0)) :: (a11, Ia Z (List.replicate (2 ^ m) 0)) :: σ) := H14.pull 2 rfl
  exact ⟨rfl, _, _, H15⟩
theorem D54_10_0 : Dc prog_54_method_10_code 0 (.iload_n 0) 1 1 := dc (by decide +kernel) rfl
theorem D54_10_1 : Dc prog_54_method_10_code 1 (.ldc 54) 2 3 := dc (by decide +kernel) rfl
theorem D54_10_3 : Dc prog_54_method_10_code 3 (.imul) 1 4 := dc (by decide +kernel) rfl
theorem D54_10_4 : Dc prog_54_method_10_code 4 (.istore_n 2) 1 5 := dc (by decide +kernel) rfl
theorem D54_10_5 : Dc prog_54_method_10_code 5 (.iload_n 2) 1 6 := dc (by decide +kernel) rfl
theorem D54_10_6 : Dc prog_54_method_10_code 6 (.iload_n 2) 1 7 := dc (by decide +kernel) rfl
theorem D54_10_7 : Dc prog_54_method_10_code 7 (.bipush 16) 2 9 := dc (by decide +kernel) rfl
theorem D54_10_9 : Dc prog_54_method_10_code 9 (.iushr) 1 10 := dc (by decide +kernel) rfl
theorem D54_10_10 : Dc prog_54_method_10_code 10 (.ixor) 1 11 := dc (by decide +kernel) rfl
theorem D54_10_11 : Dc prog_54_method_10_code 11 (.iload_n 1) 1 12 := dc (by decide +kernel) rfl
theorem D54_10_12 : Dc prog_54_method_10_code 12 (.iand) 1 13 := dc (by decide +kernel) rfl
theorem D54_10_13 : Dc prog_54_method_10_code 13 (.ireturn) 1 14 := dc (by decide +kernel) rfl
set_option maxRecDepth 65536 in
set_option maxHeartbeats 40000000 in
theorem ct_slot (l : Launch) (Z : State) (a0 : Array Value) (hw : ∀ d ∈ tables_1, d.before a0 Z = true) (n0 : Nat) (h : Heap) (y z : Int32) :
    Ct l Z n0 (⟨"org/sqcap/reasoner/IntMap", "slot", "(II)I"⟩ : MethodName) prog_54_method_10_code 3 (some .int) ({ frames := 0, cells := 0, slots := 0, locals := 0 } : Room) [.int y, .int z] h (fun v h' => v = some (.int (slotF y z)) ∧ h = h') := by
  refine Ct.intro (plainFor_of_name pn_0) [.val (.int y), .val (.int z), .unset] (fun m => by first | (simp [entryFrame, mkF, argsToLocals, Value.category]; done) | (simp [entryFrame, mkF, argsToLocals, Value.category, maxLocals]; done) | rfl) ?_
  intro k hl K
  replace K : Ok k Z n0 "org/sqcap/reasoner/IntMap" ({ frames := 0, cells := 0, slots := 0, locals := 0 } : Room) prog_54_method_10_code 3 (some .int) "slot" := K
  refine G.iloadN K D54_10_0 rfl ?_
  refine G.ldcI K D54_10_1 (wd hw 40 rfl) ?_
  refine G.imul K D54_10_3 ?_
  refine G.istoreN K D54_10_4 ([.val (.int y), .val (.int z), .val (.int (y * (-1640531527)))]) rfl ?_
  refine G.iloadN K D54_10_5 rfl ?_
  refine G.iloadN K D54_10_6 rfl ?_
  refine G.bipush K D54_10_7 16 rfl ?_
  refine G.iushr K D54_10_9 ?_
  refine G.ixor K D54_10_10 ?_
  refine G.iloadN K D54_10_11 rfl ?_
  refine G.iand K D54_10_12 ?_
  refine G.ret_int K D54_10_13 ?_
  exact ⟨rfl, rfl⟩
theorem D54_2_0 : Dc prog_54_method_2_code 0 (.aload_n 0) 1 1 := dc (by decide +kernel) rfl
theorem D54_2_1 : Dc prog_54_method_2_code 1 (.getfield 19) 3 4 := dc (by decide +kernel) rfl
theorem D54_2_4 : Dc prog_54_method_2_code 4 (.arraylength) 1 5 := dc (by decide +kernel) rfl
theorem D54_2_5 : Dc prog_54_method_2_code 5 (.iconst 1) 1 6 := dc (by decide +kernel) rfl
theorem D54_2_6 : Dc prog_54_method_2_code 6 (.isub) 1 7 := dc (by decide +kernel) rfl
theorem D54_2_7 : Dc prog_54_method_2_code 7 (.istore_n 2) 1 8 := dc (by decide +kernel) rfl
theorem D54_2_8 : Dc prog_54_method_2_code 8 (.iload_n 1) 1 9 := dc (by decide +kernel) rfl
theorem D54_2_9 : Dc prog_54_method_2_code 9 (.iconst 1) 1 10 := dc (by decide +kernel) rfl
theorem D54_2_10 : Dc prog_54_method_2_code 10 (.iadd) 1 11 := dc (by decide +kernel) rfl
theorem D54_2_11 : Dc prog_54_method_2_code 11 (.istore_n 3) 1 12 := dc (by decide +kernel) rfl
theorem D54_2_12 : Dc prog_54_method_2_code 12 (.iload_n 1) 1 13 := dc (by decide +kernel) rfl
theorem D54_2_13 : Dc prog_54_method_2_code 13 (.iload_n 2) 1 14 := dc (by decide +kernel) rfl
theorem D54_2_14 : Dc prog_54_method_2_code 14 (.invokestatic 28) 3 17 := dc (by decide +kernel) rfl
theorem D54_2_17 : Dc prog_54_method_2_code 17 (.istore 4) 2 19 := dc (by decide +kernel) rfl
theorem D54_2_19 : Dc prog_54_method_2_code 19 (.aload_n 0) 1 20 := dc (by decide +kernel) rfl
theorem D54_2_20 : Dc prog_54_method_2_code 20 (.getfield 19) 3 23 := dc (by decide +kernel) rfl
theorem D54_2_23 : Dc prog_54_method_2_code 23 (.iload 4) 2 25 := dc (by decide +kernel) rfl
theorem D54_2_25 : Dc prog_54_method_2_code 25 (.iaload) 1 26 := dc (by decide +kernel) rfl
theorem D54_2_26 : Dc prog_54_method_2_code 26 (.istore 5) 2 28 := dc (by decide +kernel) rfl
theorem D54_2_28 : Dc prog_54_method_2_code 28 (.iload 5) 2 30 := dc (by decide +kernel) rfl
theorem D54_2_30 : Dc prog_54_method_2_code 30 (.iload_n 3) 1 31 := dc (by decide +kernel) rfl
theorem D54_2_31 : Db prog_54_method_2_code 31 (.if_icmp .ne) 34 42 := db (11) (by decide +kernel) rfl (by decide) (by decide)
theorem D54_2_34 : Dc prog_54_method_2_code 34 (.aload_n 0) 1 35 := dc (by decide +kernel) rfl
theorem D54_2_35 : Dc prog_54_method_2_code 35 (.getfield 25) 3 38 := dc (by decide +kernel) rfl
theorem D54_2_38 : Dc prog_54_method_2_code 38 (.iload 4) 2 40 := dc (by decide +kernel) rfl
theorem D54_2_40 : Dc prog_54_method_2_code 40 (.iaload) 1 41 := dc (by decide +kernel) rfl
theorem D54_2_41 : Dc prog_54_method_2_code 41 (.ireturn) 1 42 := dc (by decide +kernel) rfl
theorem D54_2_42 : Dc prog_54_method_2_code 42 (.iload 5) 2 44 := dc (by decide +kernel) rfl
theorem D54_2_44 : Db prog_54_method_2_code 44 (.ifCond .ne) 47 49 := db (5) (by decide +kernel) rfl (by decide) (by decide)
theorem D54_2_47 : Dc prog_54_method_2_code 47 (.iconst (-1)) 1 48 := dc (by decide +kernel) rfl
theorem D54_2_48 : Dc prog_54_method_2_code 48 (.ireturn) 1 49 := dc (by decide +kernel) rfl
theorem D54_2_49 : Dc prog_54_method_2_code 49 (.iload 4) 2 51 := dc (by decide +kernel) rfl
theorem D54_2_51 : Dc prog_54_method_2_code 51 (.iconst 1) 1 52 := dc (by decide +kernel) rfl
theorem D54_2_52 : Dc prog_54_method_2_code 52 (.iadd) 1 53 := dc (by decide +kernel) rfl
theorem D54_2_53 : Dc prog_54_method_2_code 53 (.iload_n 2) 1 54 := dc (by decide +kernel) rfl
theorem D54_2_54 : Dc prog_54_method_2_code 54 (.iand) 1 55 := dc (by decide +kernel) rfl
theorem D54_2_55 : Dc prog_54_method_2_code 55 (.istore 4) 2 57 := dc (by decide +kernel) rfl
theorem D54_2_57 : Db prog_54_method_2_code 57 (.goto) 60 19 := db (-38) (by decide +kernel) rfl (by decide) (by decide)
set_option maxRecDepth 65536 in
set_option maxHeartbeats 40000000 in
theorem ct_get0 (l : Launch) (Z : State) (a0 : Array Value) (hw : ∀ d ∈ tables_1, d.before a0 Z = true) (n0 : Nat) (h : Heap) (a ka va : Addr) (ks vs : List Int32) (sz : Int32) (m : Nat) (key : Int32) (D : Nat) (xD r : Int32) (σ : List Ch) (hm : m ≤ 30) (hk : ks.length = 2 ^ m) (hD : D < 2 ^ m) (hx : ks[pos (2 ^ m) (homeF m key) D]? = some xD) (hr : (xD = key + 1 ∧ vs[pos (2 ^ m) (homeF m key) D]? = some r) ∨ (¬ xD = key + 1 ∧ xD = 0 ∧ r = -1)) (hb : ∀ d, d < D → ∃ y, ks[pos (2 ^ m) (homeF m key) d]? = some y ∧ y ≠ key + 1 ∧ y ≠ 0) (H : Hp n0 h ((a, Ob Z "org/sqcap/reasoner/IntMap" NSM [.ref ka, .ref va, .int sz]) :: (ka, Ia Z ks) :: (va, Ia Z vs) :: σ)) :
    Ct l Z n0 (⟨"org/sqcap/reasoner/IntMap", "get", "(I)I"⟩ : MethodName) prog_54_method_2_code 6 (some .int) ({ frames := 1, cells := 0, slots := 0, locals := 14 } : Room) [.ref a, .int key] h (fun v h' => v = some (.int r) ∧ Hp n0 h' ((a, Ob Z "org/sqcap/reasoner/IntMap" NSM [.ref ka, .ref va, .int sz]) :: (ka, Ia Z ks) :: (va, Ia Z vs) :: σ)) := by
  refine Ct.intro (plainFor_of_name pn_0) [.val (.ref a), .val (.int key), .unset, .unset, .unset, .unset] (fun m => by first | (simp [entryFrame, mkF, argsToLocals, Value.category]; done) | (simp [entryFrame, mkF, argsToLocals, Value.category, maxLocals]; done) | rfl) ?_
  intro k hl K
  replace K : Ok k Z n0 "org/sqcap/reasoner/IntMap" ({ frames := 1, cells := 0, slots := 0, locals := 14 } : Room) prog_54_method_2_code 6 (some .int) "get" := K
  refine G.aloadN K D54_2_0 rfl rfl ?_
  refine G.getF K (host := "") (Or.inl (wd hw 24 rfl)) H (i := 0) rfl (j := 0) rfl rfl D54_2_1 ?_
  refine G.alen K H (i := 1) rfl D54_2_4 (Int32.ofNat (2 ^ m)) (by rw [List.length_map, hk]) ?_
  refine G.iconst K D54_2_5 1 rfl ?_
  refine G.isub K D54_2_6 ?_
  rw [own_ncap]
  refine G.istoreN K D54_2_7 ([.val (.ref a), .val (.int key), .val (.int (Int32.ofNat (2 ^ m - 1))), .unset, .unset, .unset]) rfl ?_
  refine G.iloadN K D54_2_8 rfl ?_
  refine G.iconst K D54_2_9 1 rfl ?_
  refine G.iadd K D54_2_10 ?_
  refine G.istoreN K D54_2_11 ([.val (.ref a), .val (.int key), .val (.int (Int32.ofNat (2 ^ m - 1))), .val (.int (key + 1)), .unset, .unset]) rfl ?_
  refine G.iloadN K D54_2_12 rfl ?_
  refine G.iloadN K D54_2_13 rfl ?_
  refine G.callS K hl (wd hw 37 rfl) (wd hw 38 rfl) (wd hw 3 rfl) (wd hw 39 rfl) (by decide) pd_1 (ct_slot l Z a0 hw n0 _ key (Int32.ofNat (2 ^ m - 1))) 0 rfl (by decide) (by decide) (by decide) (by decide) rfl rfl [.int (Int32.ofNat (2 ^ m - 1)), .int key] rfl D54_2_14 ?_
  rintro _ _ ⟨rfl, rfl⟩
  rw [own_home hm]
  change G k n0 _ h _ _ 17 [.val (.ref a), .val (.int key), .val (.int (Int32.ofNat (2 ^ m - 1))), .val (.int (key + 1)), .unset, .unset] [.int (Int32.ofNat (homeF m key))]
  refine G.istore K D54_2_17 ([.val (.ref a), .val (.int key), .val (.int (Int32.ofNat (2 ^ m - 1))), .val (.int (key + 1)), .val (.int (Int32.ofNat (homeF m key))), .unset]) rfl ?_
  have hh := own_home_lt m key
  have hc := own_pow hm
  rw [← pos_zero hh]
  have loop : ∀ (j i : Nat) (s5 : Slot), i + j = D → (s5 = .unset ∨ ∃ w5, s5 = .val (.int w5)) → G k n0 (fun v h' => v = some (.int r) ∧ Hp n0 h' ((a, Ob Z "org/sqcap/reasoner/IntMap" NSM [.ref ka, .ref va, .int sz]) :: (ka, Ia Z ks) :: (va, Ia Z vs) :: σ)) h 0 0 19 [.val (.ref a), .val (.int key), .val (.int (Int32.ofNat (2 ^ m - 1))), .val (.int (key + 1)), .val (.int (Int32.ofNat (pos (2 ^ m) (homeF m key) i))), s5] [] := by
    intro j
    induction j with
    | zero =>
      intro i s5 hi hs5
      obtain rfl : i = D := by omega
      have hp := pos_nlt hm hh hD
      rcases hr with ⟨hr1, hr2⟩ | ⟨hr1, hr2, hr3⟩
      · refine G.aloadN K D54_2_19 rfl rfl ?_
        refine G.getF K (host := "") (Or.inl (wd hw 24 rfl)) H (i := 0) rfl (j := 0) rfl rfl D54_2_20 ?_
        refine G.iload K D54_2_23 rfl ?_
        refine G.aload_i K H (i := 1) rfl (own_nneg hp) (by rw [own_nidx hp]; exact hx) D54_2_25 ?_
        refine G.istore K D54_2_26 ([.val (.ref a), .val (.int key), .val (.int (Int32.ofNat (2 ^ m - 1))), .val (.int (key + 1)), .val (.int (Int32.ofNat (pos (2 ^ m) (homeF m key) i))), .val (.int xD)]) (by rcases hs5 with rfl | ⟨_, rfl⟩ <;> rfl) ?_
        refine G.iload K D54_2_28 rfl ?_
        refine G.iloadN K D54_2_30 rfl ?_
        refine G.icmp_ne K D54_2_31 (fun q => absurd hr1 q) (fun q16 => ?_)
        refine G.aloadN K D54_2_34 rfl rfl ?_
        refine G.getF K (host := "") (Or.inl (wd hw 26 rfl)) H (i := 0) rfl (j := 1) rfl rfl D54_2_35 ?_
        refine G.iload K D54_2_38 rfl ?_
        refine G.aload_i K H (i := 2) rfl (own_nneg hp) (by rw [own_nidx hp]; exact hr2) D54_2_40 ?_
        refine G.ret_int K D54_2_41 ?_
        exact ⟨rfl, H⟩
      · refine G.aloadN K D54_2_19 rfl rfl ?_
        refine G.getF K (host := "") (Or.inl (wd hw 24 rfl)) H (i := 0) rfl (j := 0) rfl rfl D54_2_20 ?_
        refine G.iload K D54_2_23 rfl ?_
        refine G.aload_i K H (i := 1) rfl (own_nneg hp) (by rw [own_nidx hp]; exact hx) D54_2_25 ?_
        refine G.istore K D54_2_26 ([.val (.ref a), .val (.int key), .val (.int (Int32.ofNat (2 ^ m - 1))), .val (.int (key + 1)), .val (.int (Int32.ofNat (pos (2 ^ m) (homeF m key) i))), .val (.int xD)]) (by rcases hs5 with rfl | ⟨_, rfl⟩ <;> rfl) ?_
        refine G.iload K D54_2_28 rfl ?_
        refine G.iloadN K D54_2_30 rfl ?_
        refine G.icmp_ne K D54_2_31 (fun q17 => ?_) (fun q => absurd q hr1)
        refine G.iload K D54_2_42 rfl ?_
        refine G.if_ne K D54_2_44 (fun q => absurd hr2 q) (fun q18 => ?_)
        refine G.iconst K D54_2_47 (-1) rfl ?_
        refine G.ret_int K D54_2_48 ?_
        exact ⟨by rw [hr3], H⟩
    | succ j ih =>
      intro i s5 hi hs5
      obtain ⟨y, hy, hy1, hy0⟩ := hb i (by omega)
      have hp := pos_nlt hm hh (i := i) (by omega)
      refine G.aloadN K D54_2_19 rfl rfl ?_
      refine G.getF K (host := "") (Or.inl (wd hw 24 rfl)) H (i := 0) rfl (j := 0) rfl rfl D54_2_20 ?_
      refine G.iload K D54_2_23 rfl ?_
      refine G.aload_i K H (i := 1) rfl (own_nneg hp) (by rw [own_nidx hp]; exact hy) D54_2_25 ?_
      refine G.istore K D54_2_26 ([.val (.ref a), .val (.int key), .val (.int (Int32.ofNat (2 ^ m - 1))), .val (.int (key + 1)), .val (.int (Int32.ofNat (pos (2 ^ m) (homeF m key) i))), .val (.int y)]) (by rcases hs5 with rfl | ⟨_, rfl⟩ <;> rfl) ?_
      refine G.iload K D54_2_28 rfl ?_
      refine G.iloadN K D54_2_30 rfl ?_
      refine G.icmp_ne K D54_2_31 (fun q19 => ?_) (fun q => absurd q hy1)
      refine G.iload K D54_2_42 rfl ?_
      refine G.if_ne K D54_2_44 (fun q20 => ?_) (fun q => absurd q hy0)
      refine G.iload K D54_2_49 rfl ?_
      refine G.iconst K D54_2_51 1 rfl ?_
      refine G.iadd K D54_2_52 ?_
      refine G.iloadN K D54_2_53 rfl ?_
      refine G.iand K D54_2_54 ?_
      refine G.istore K D54_2_55 ([.val (.ref a), .val (.int key), .val (.int (Int32.ofNat (2 ^ m - 1))), .val (.int (key + 1)), .val (.int (((Int32.ofNat (pos (2 ^ m) (homeF m key) i)) + 1) &&& (Int32.ofNat (2 ^ m - 1)))), .val (.int y)]) rfl ?_
      refine G.goto K D54_2_57 ?_
      rw [own_mask1 hm (pos_lt hh (by omega)), pos_succ hh (by omega)]
      exact ih (i + 1) _ (by omega) (Or.inr ⟨_, rfl⟩)
  exact loop D 0 _ (by omega) (Or.inl rfl)
theorem ct_get (l : Launch) (Z : State) (a0 : Array Value) (hw : ∀ d ∈ tables_1, d.before a0 Z = true) (n0 : Nat) (h : Heap) (a ka va : Addr) (ks vs : List Int32) (sz : Int32) (m : Nat) (M : Int32 → Option Int32) (key : Int32) (hm : m ≤ 30) (T : Tab (homeF m) (2 ^ m) ks vs M) (hz : ∃ z : Nat, ks[z]? = some 0) (h0 : key + 1 ≠ 0) (σ : List Ch) (H : Hp n0 h ((a, Ob Z "org/sqcap/reasoner/IntMap" NSM [.ref ka, .ref va, .int sz]) :: (ka, Ia Z ks) :: (va, Ia Z vs) :: σ)) :
    Ct l Z n0 (⟨"org/sqcap/reasoner/IntMap", "get", "(I)I"⟩ : MethodName) prog_54_method_2_code 6 (some .int) ({ frames := 1, cells := 0, slots := 0, locals := 14 } : Room) [.ref a, .int key] h (fun v h' => v = some (.int ((M key).getD (-1))) ∧ Hp n0 h' ((a, Ob Z "org/sqcap/reasoner/IntMap" NSM [.ref ka, .ref va, .int sz]) :: (ka, Ia Z ks) :: (va, Ia Z vs) :: σ)) := by
  obtain ⟨D, x, hD, hx, hxx, hb⟩ := probe_ends T hz key
  by_cases q : x = key + 1
  · subst q
    obtain ⟨v, h1, h2⟩ := probe_hit T hx h0
    rw [h2]
    exact ct_get0 l Z a0 hw n0 h a ka va ks vs sz m key D _ v σ hm T.1 hD hx (Or.inl ⟨rfl, h1⟩) hb H
  · have q0 : x = 0 := hxx.resolve_left q
    subst q0
    rw [probe_miss T hD hx fun d hd e => by obtain ⟨y, e1, e2, -⟩ := hb d hd; exact e2 (Option.some.inj (e1.symm.trans e))]
    exact ct_get0 l Z a0 hw n0 h a ka va ks vs sz m key D _ (-1) σ hm T.1 hD hx (Or.inr ⟨q, rfl, rfl⟩) hb H
theorem D54_6_0 : Dc prog_54_method_6_code 0 (.aload_n 0) 1 1 := dc (by decide +kernel) rfl
theorem D54_6_1 : Dc prog_54_method_6_code 1 (.getfield 19) 3 4 := dc (by decide +kernel) rfl
theorem D54_6_4 : Dc prog_54_method_6_code 4 (.arraylength) 1 5 := dc (by decide +kernel) rfl
theorem D54_6_5 : Dc prog_54_method_6_code 5 (.iconst 1) 1 6 := dc (by decide +kernel) rfl
theorem D54_6_6 : Dc prog_54_method_6_code 6 (.isub) 1 7 := dc (by decide +kernel) rfl
theorem D54_6_7 : Dc prog_54_method_6_code 7 (.istore 4) 2 9 := dc (by decide +kernel) rfl
theorem D54_6_9 : Dc prog_54_method_6_code 9 (.iload_n 1) 1 10 := dc (by decide +kernel) rfl
theorem D54_6_10 : Dc prog_54_method_6_code 10 (.iconst 1) 1 11 := dc (by decide +kernel) rfl
theorem D54_6_11 : Dc prog_54_method_6_code 11 (.iadd) 1 12 := dc (by decide +kernel) rfl
theorem D54_6_12 : Dc prog_54_method_6_code 12 (.istore 5) 2 14 := dc (by decide +kernel) rfl
theorem D54_6_14 : Dc prog_54_method_6_code 14 (.iload_n 1) 1 15 := dc (by decide +kernel) rfl
theorem D54_6_15 : Dc prog_54_method_6_code 15 (.iload 4) 2 17 := dc (by decide +kernel) rfl
theorem D54_6_17 : Dc prog_54_method_6_code 17 (.invokestatic 28) 3 20 := dc (by decide +kernel) rfl
theorem D54_6_20 : Dc prog_54_method_6_code 20 (.istore 6) 2 22 := dc (by decide +kernel) rfl
theorem D54_6_22 : Dc prog_54_method_6_code 22 (.aload_n 0) 1 23 := dc (by decide +kernel) rfl
theorem D54_6_23 : Dc prog_54_method_6_code 23 (.getfield 19) 3 26 := dc (by decide +kernel) rfl
theorem D54_6_26 : Dc prog_54_method_6_code 26 (.iload 6) 2 28 := dc (by decide +kernel) rfl
theorem D54_6_28 : Dc prog_54_method_6_code 28 (.iaload) 1 29 := dc (by decide +kernel) rfl
theorem D54_6_29 : Db prog_54_method_6_code 29 (.ifCond .eq) 32 80 := db (51) (by decide +kernel) rfl (by decide) (by decide)
theorem D54_6_32 : Dc prog_54_method_6_code 32 (.aload_n 0) 1 33 := dc (by decide +kernel) rfl
theorem D54_6_33 : Dc prog_54_method_6_code 33 (.getfield 19) 3 36 := dc (by decide +kernel) rfl
theorem D54_6_36 : Dc prog_54_method_6_code 36 (.iload 6) 2 38 := dc (by decide +kernel) rfl
theorem D54_6_38 : Dc prog_54_method_6_code 38 (.iaload) 1 39 := dc (by decide +kernel) rfl
theorem D54_6_39 : Dc prog_54_method_6_code 39 (.iload 5) 2 41 := dc (by decide +kernel) rfl
theorem D54_6_41 : Db prog_54_method_6_code 41 (.if_icmp .ne) 44 68 := db (27) (by decide +kernel) rfl (by decide) (by decide)
theorem D54_6_44 : Dc prog_54_method_6_code 44 (.aload_n 0) 1 45 := dc (by decide +kernel) rfl
theorem D54_6_45 : Dc prog_54_method_6_code 45 (.getfield 25) 3 48 := dc (by decide +kernel) rfl
theorem D54_6_48 : Dc prog_54_method_6_code 48 (.iload 6) 2 50 := dc (by decide +kernel) rfl
theorem D54_6_50 : Dc prog_54_method_6_code 50 (.iaload) 1 51 := dc (by decide +kernel) rfl
theorem D54_6_51 : Dc prog_54_method_6_code 51 (.istore 7) 2 53 := dc (by decide +kernel) rfl
theorem D54_6_53 : Dc prog_54_method_6_code 53 (.iload_n 3) 1 54 := dc (by decide +kernel) rfl
theorem D54_6_54 : Db prog_54_method_6_code 54 (.ifCond .eq) 57 65 := db (11) (by decide +kernel) rfl (by decide) (by decide)
theorem D54_6_57 : Dc prog_54_method_6_code 57 (.aload_n 0) 1 58 := dc (by decide +kernel) rfl
theorem D54_6_58 : Dc prog_54_method_6_code 58 (.getfield 25) 3 61 := dc (by decide +kernel) rfl
theorem D54_6_61 : Dc prog_54_method_6_code 61 (.iload 6) 2 63 := dc (by decide +kernel) rfl
theorem D54_6_63 : Dc prog_54_method_6_code 63 (.iload_n 2) 1 64 := dc (by decide +kernel) rfl
theorem D54_6_64 : Dc prog_54_method_6_code 64 (.iastore) 1 65 := dc (by decide +kernel) rfl
theorem D54_6_65 : Dc prog_54_method_6_code 65 (.iload 7) 2 67 := dc (by decide +kernel) rfl
theorem D54_6_67 : Dc prog_54_method_6_code 67 (.ireturn) 1 68 := dc (by decide +kernel) rfl
theorem D54_6_68 : Dc prog_54_method_6_code 68 (.iload 6) 2 70 := dc (by decide +kernel) rfl
theorem D54_6_70 : Dc prog_54_method_6_code 70 (.iconst 1) 1 71 := dc (by decide +kernel) rfl
theorem D54_6_71 : Dc prog_54_method_6_code 71 (.iadd) 1 72 := dc (by decide +kernel) rfl
theorem D54_6_72 : Dc prog_54_method_6_code 72 (.iload 4) 2 74 := dc (by decide +kernel) rfl
theorem D54_6_74 : Dc prog_54_method_6_code 74 (.iand) 1 75 := dc (by decide +kernel) rfl
theorem D54_6_75 : Dc prog_54_method_6_code 75 (.istore 6) 2 77 := dc (by decide +kernel) rfl
theorem D54_6_77 : Db prog_54_method_6_code 77 (.goto) 80 22 := db (-55) (by decide +kernel) rfl (by decide) (by decide)
theorem D54_6_80 : Dc prog_54_method_6_code 80 (.aload_n 0) 1 81 := dc (by decide +kernel) rfl
theorem D54_6_81 : Dc prog_54_method_6_code 81 (.getfield 19) 3 84 := dc (by decide +kernel) rfl
theorem D54_6_84 : Dc prog_54_method_6_code 84 (.iload 6) 2 86 := dc (by decide +kernel) rfl
theorem D54_6_86 : Dc prog_54_method_6_code 86 (.iload 5) 2 88 := dc (by decide +kernel) rfl
theorem D54_6_88 : Dc prog_54_method_6_code 88 (.iastore) 1 89 := dc (by decide +kernel) rfl
theorem D54_6_89 : Dc prog_54_method_6_code 89 (.aload_n 0) 1 90 := dc (by decide +kernel) rfl
theorem D54_6_90 : Dc prog_54_method_6_code 90 (.getfield 25) 3 93 := dc (by decide +kernel) rfl
theorem D54_6_93 : Dc prog_54_method_6_code 93 (.iload 6) 2 95 := dc (by decide +kernel) rfl
theorem D54_6_95 : Dc prog_54_method_6_code 95 (.iload_n 2) 1 96 := dc (by decide +kernel) rfl
theorem D54_6_96 : Dc prog_54_method_6_code 96 (.iastore) 1 97 := dc (by decide +kernel) rfl
theorem D54_6_97 : Dc prog_54_method_6_code 97 (.aload_n 0) 1 98 := dc (by decide +kernel) rfl
theorem D54_6_98 : Dc prog_54_method_6_code 98 (.dup) 1 99 := dc (by decide +kernel) rfl
theorem D54_6_99 : Dc prog_54_method_6_code 99 (.getfield 38) 3 102 := dc (by decide +kernel) rfl
theorem D54_6_102 : Dc prog_54_method_6_code 102 (.iconst 1) 1 103 := dc (by decide +kernel) rfl
theorem D54_6_103 : Dc prog_54_method_6_code 103 (.iadd) 1 104 := dc (by decide +kernel) rfl
theorem D54_6_104 : Dc prog_54_method_6_code 104 (.dup_x1) 1 105 := dc (by decide +kernel) rfl
theorem D54_6_105 : Dc prog_54_method_6_code 105 (.putfield 38) 3 108 := dc (by decide +kernel) rfl
theorem D54_6_108 : Dc prog_54_method_6_code 108 (.aload_n 0) 1 109 := dc (by decide +kernel) rfl
theorem D54_6_109 : Dc prog_54_method_6_code 109 (.getfield 19) 3 112 := dc (by decide +kernel) rfl
theorem D54_6_112 : Dc prog_54_method_6_code 112 (.arraylength) 1 113 := dc (by decide +kernel) rfl
theorem D54_6_113 : Dc prog_54_method_6_code 113 (.iconst 2) 1 114 := dc (by decide +kernel) rfl
theorem D54_6_114 : Dc prog_54_method_6_code 114 (.idiv) 1 115 := dc (by decide +kernel) rfl
theorem D54_6_115 : Db prog_54_method_6_code 115 (.if_icmp .le) 118 122 := db (7) (by decide +kernel) rfl (by decide) (by decide)
theorem D54_6_118 : Dc prog_54_method_6_code 118 (.aload_n 0) 1 119 := dc (by decide +kernel) rfl
theorem D54_6_119 : Dc prog_54_method_6_code 119 (.invokevirtual 42) 3 122 := dc (by decide +kernel) rfl
theorem D54_6_122 : Dc prog_54_method_6_code 122 (.iconst (-1)) 1 123 := dc (by decide +kernel) rfl
theorem D54_6_123 : Dc prog_54_method_6_code 123 (.ireturn) 1 124 := dc (by decide +kernel) rfl
set_option maxRecDepth 65536 in
set_option maxHeartbeats 40000000 in
theorem ct_store (l : Launch) (Z : State) (a0 : Array Value) (hw : ∀ d ∈ tables_1, d.before a0 Z = true) (n0 : Nat) (h : Heap) (a ka va : Addr) (ks vs : List Int32) (m : Nat) (M : Int32 → Option Int32) (key val : Int32) (σ : List Ch) (hm : m ≤ 30) (hm1 : 1 ≤ m) (T : Tab (homeF m) (2 ^ m) ks vs M) (ht : taken ks + 1 ≤ 2 ^ (m - 1)) (h0 : key + 1 ≠ 0) (H : Hp n0 h ((a, Ob Z "org/sqcap/reasoner/IntMap" NSM [.ref ka, .ref va, .int (Int32.ofNat (taken ks))]) :: (ka, Ia Z ks) :: (va, Ia Z vs) :: σ)) :
    Ct l Z n0 (⟨"org/sqcap/reasoner/IntMap", "store", "(IIZ)I"⟩ : MethodName) prog_54_method_6_code 8 (some .int) ({ frames := 1, cells := 0, slots := 0, locals := 14 } : Room) [.ref a, .int key, .int val, .int 1] h (fun v h' => ∃ (r : Int32) (ks' vs' : List Int32), v = some (.int r) ∧ Tab (homeF m) (2 ^ m) ks' vs' (upd M key val) ∧ taken ks' ≤ taken ks + 1 ∧ Hp n0 h' ((a, Ob Z "org/sqcap/reasoner/IntMap" NSM [.ref ka, .ref va, .int (Int32.ofNat (taken ks'))]) :: (ka, Ia Z ks') :: (va, Ia Z vs') :: σ)) := by
  refine Ct.intro (plainFor_of_name pn_0) [.val (.ref a), .val (.int key), .val (.int val), .val (.int 1), .unset, .unset, .unset, .unset] (fun m => by first | (simp [entryFrame, mkF, argsToLocals, Value.category]; done) | (simp [entryFrame, mkF, argsToLocals, Value.category, maxLocals]; done) | rfl) ?_
  intro k hl K
  replace K : Ok k Z n0 "org/sqcap/reasoner/IntMap" ({ frames := 1, cells := 0, slots := 0, locals := 14 } : Room) prog_54_method_6_code 8 (some .int) "store" := K
  have hk := T.1
  refine G.aloadN K D54_6_0 rfl rfl ?_
  refine G.getF K (host := "") (Or.inl (wd hw 24 rfl)) H (i := 0) rfl (j := 0) rfl rfl D54_6_1 ?_
  refine G.alen K H (i := 1) rfl D54_6_4 (Int32.ofNat (2 ^ m)) (by rw [List.length_map, hk]) ?_
  refine G.iconst K D54_6_5 1 rfl ?_
  refine G.isub K D54_6_6 ?_
  rw [own_ncap]
  refine G.istore K D54_6_7 ([.val (.ref a), .val (.int key), .val (.int val), .val (.int 1), .val (.int (Int32.ofNat (2 ^ m - 1))), .unset, .unset, .unset]) rfl ?_
  refine G.iloadN K D54_6_9 rfl ?_
  refine G.iconst K D54_6_10 1 rfl ?_
  refine G.iadd K D54_6_11 ?_
  refine G.istore K D54_6_12 ([.val (.ref a), .val (.int key), .val (.int val), .val (.int 1), .val (.int (Int32.ofNat (2 ^ m - 1))), .val (.int (key + 1)), .unset, .unset]) rfl ?_
  refine G.iloadN K D54_6_14 rfl ?_
  refine G.iload K D54_6_15 rfl ?_
  refine G.callS K hl (wd hw 37 rfl) (wd hw 38 rfl) (wd hw 3 rfl) (wd hw 39 rfl) (by decide) pd_1 (ct_slot l Z a0 hw n0 _ key (Int32.ofNat (2 ^ m - 1))) 0 rfl (by decide) (by decide) (by decide) (by decide) rfl rfl [.int (Int32.ofNat (2 ^ m - 1)), .int key] rfl D54_6_17 ?_
  rintro _ _ ⟨rfl, rfl⟩
  rw [own_home hm]
  change G k n0 _ h _ _ 20 [.val (.ref a), .val (.int key), .val (.int val), .val (.int 1), .val (.int (Int32.ofNat (2 ^ m - 1))), .val (.int (key + 1)), .unset, .unset] [.int (Int32.ofNat (homeF m key))]
  refine G.istore K D54_6_20 ([.val (.ref a), .val (.int key), .val (.int val), .val (.int 1), .val (.int (Int32.ofNat (2 ^ m - 1))), .val (.int (key + 1)), .val (.int (Int32.ofNat (homeF m key))), .unset]) rfl ?_
  have hh := own_home_lt m key
  have hc := own_pow hm
  have hk := T.1
  have hv := T.2.1
  have hpw : 2 ^ m = 2 * 2 ^ (m - 1) := by rw [Nat.mul_comm, ← Nat.pow_succ]; congr 1; omega
  obtain ⟨D, xD, hD, hx, hxx, hb⟩ := probe_ends T (has_zero (by omega)) key
  rw [← pos_zero hh]
  have loop : ∀ (j i : Nat), i + j = D → G k n0 (fun v h' => ∃ (r : Int32) (ks' vs' : List Int32), v = some (.int r) ∧ Tab (homeF m) (2 ^ m) ks' vs' (upd M key val) ∧ taken ks' ≤ taken ks + 1 ∧ Hp n0 h' ((a, Ob Z "org/sqcap/reasoner/IntMap" NSM [.ref ka, .ref va, .int (Int32.ofNat (taken ks'))]) :: (ka, Ia Z ks') :: (va, Ia Z vs') :: σ)) h 0 0 22 [.val (.ref a), .val (.int key), .val (.int val), .val (.int 1), .val (.int (Int32.ofNat (2 ^ m - 1))), .val (.int (key + 1)), .val (.int (Int32.ofNat (pos (2 ^ m) (homeF m key) i))), .unset] [] := by
    intro j
    induction j with
    | zero =>
      intro i hi
      obtain rfl : i = D := by omega
      have hp := pos_nlt hm hh hD
      have hpc := pos_lt hh hD
      by_cases hxk : xD = key + 1
      · subst hxk
        obtain ⟨old, ho1, ho2⟩ := probe_hit T hx h0
        refine G.aloadN K D54_6_22 rfl rfl ?_
        refine G.getF K (host := "") (Or.inl (wd hw 24 rfl)) H (i := 0) rfl (j := 0) rfl rfl D54_6_23 ?_
        refine G.iload K D54_6_26 rfl ?_
        refine G.aload_i K H (i := 1) rfl (own_nneg hp) (by rw [own_nidx hp]; exact hx) D54_6_28 ?_
        refine G.if_eq K D54_6_29 (fun q => absurd q h0) (fun q21 => ?_)
        refine G.aloadN K D54_6_32 rfl rfl ?_
        refine G.getF K (host := "") (Or.inl (wd hw 24 rfl)) H (i := 0) rfl (j := 0) rfl rfl D54_6_33 ?_
        refine G.iload K D54_6_36 rfl ?_
        refine G.aload_i K H (i := 1) rfl (own_nneg hp) (by rw [own_nidx hp]; exact hx) D54_6_38 ?_
        refine G.iload K D54_6_39 rfl ?_
        refine G.icmp_ne K D54_6_41 (fun q => absurd rfl q) (fun q22 => ?_)
        refine G.aloadN K D54_6_44 rfl rfl ?_
        refine G.getF K (host := "") (Or.inl (wd hw 26 rfl)) H (i := 0) rfl (j := 1) rfl rfl D54_6_45 ?_
        refine G.iload K D54_6_48 rfl ?_
        refine G.aload_i K H (i := 2) rfl (own_nneg hp) (by rw [own_nidx hp]; exact ho1) D54_6_50 ?_
        refine G.istore K D54_6_51 ([.val (.ref a), .val (.int key), .val (.int val), .val (.int 1), .val (.int (Int32.ofNat (2 ^ m - 1))), .val (.int (key + 1)), .val (.int (Int32.ofNat (pos (2 ^ m) (homeF m key) i))), .val (.int old)]) rfl ?_
        refine G.iloadN K D54_6_53 rfl ?_
        refine G.if_eq K D54_6_54 (fun q => absurd q (by decide)) (fun _ => ?_)
        refine G.aloadN K D54_6_57 rfl rfl ?_
        refine G.getF K (host := "") (Or.inl (wd hw 26 rfl)) H (i := 0) rfl (j := 1) rfl rfl D54_6_58 ?_
        refine G.iload K D54_6_61 rfl ?_
        refine G.iloadN K D54_6_63 rfl ?_
        refine G.astore_i K H (i := 2) rfl (own_nneg hp) (by rw [own_nidx hp]; omega) D54_6_64 ?_
        intro h24 H24
        rw [own_nidx hp] at H24
        change Hp n0 h24 ((a, Ob Z "org/sqcap/reasoner/IntMap" NSM [.ref ka, .ref va, .int (Int32.ofNat (taken ks))]) :: (ka, Ia Z ks) :: (va, Ia Z (vs.set (pos (2 ^ m) (homeF m key) i) val)) :: σ) at H24
        refine G.iload K D54_6_65 rfl ?_
        refine G.ret_int K D54_6_67 ?_
        exact ⟨_, _, _, rfl, T.replace hx h0, by omega, H24⟩
      · obtain rfl : xD = 0 := hxx.resolve_left hxk
        have htk := taken_set hx h0
        refine G.aloadN K D54_6_22 rfl rfl ?_
        refine G.getF K (host := "") (Or.inl (wd hw 24 rfl)) H (i := 0) rfl (j := 0) rfl rfl D54_6_23 ?_
        refine G.iload K D54_6_26 rfl ?_
        refine G.aload_i K H (i := 1) rfl (own_nneg hp) (by rw [own_nidx hp]; exact hx) D54_6_28 ?_
        refine G.if_eq K D54_6_29 (fun _ => ?_) (fun q => absurd q (by decide))
        refine G.aloadN K D54_6_80 rfl rfl ?_
        refine G.getF K (host := "") (Or.inl (wd hw 24 rfl)) H (i := 0) rfl (j := 0) rfl rfl D54_6_81 ?_
        refine G.iload K D54_6_84 rfl ?_
        refine G.iload K D54_6_86 rfl ?_
        refine G.astore_i K H (i := 1) rfl (own_nneg hp) (by rw [own_nidx hp]; omega) D54_6_88 ?_
        intro h26 H26
        rw [own_nidx hp] at H26
        change Hp n0 h26 ((a, Ob Z "org/sqcap/reasoner/IntMap" NSM [.ref ka, .ref va, .int (Int32.ofNat (taken ks))]) :: (ka, Ia Z (ks.set (pos (2 ^ m) (homeF m key) i) (key + 1))) :: (va, Ia Z vs) :: σ) at H26
        refine G.aloadN K D54_6_89 rfl rfl ?_
        refine G.getF K (host := "") (Or.inl (wd hw 26 rfl)) H26 (i := 0) rfl (j := 1) rfl rfl D54_6_90 ?_
        refine G.iload K D54_6_93 rfl ?_
        refine G.iloadN K D54_6_95 rfl ?_
        refine G.astore_i K H26 (i := 2) rfl (own_nneg hp) (by rw [own_nidx hp]; omega) D54_6_96 ?_
        intro h27 H27
        rw [own_nidx hp] at H27
        change Hp n0 h27 ((a, Ob Z "org/sqcap/reasoner/IntMap" NSM [.ref ka, .ref va, .int (Int32.ofNat (taken ks))]) :: (ka, Ia Z (ks.set (pos (2 ^ m) (homeF m key) i) (key + 1))) :: (va, Ia Z (vs.set (pos (2 ^ m) (homeF m key) i) val)) :: σ) at H27
        refine G.aloadN K D54_6_97 rfl rfl ?_
        refine G.dup K D54_6_98 rfl ?_
        refine G.getF K (host := "") (Or.inl (wd hw 41 rfl)) H27 (i := 0) rfl (j := 2) rfl rfl D54_6_99 ?_
        refine G.iconst K D54_6_102 1 rfl ?_
        refine G.iadd K D54_6_103 ?_
        rw [own_nsucc]
        refine G.dup_x1 K D54_6_104 rfl rfl ?_
        refine G.putF K (host := "") (Or.inl (wd hw 41 rfl)) (cf_NSM hw) (Or.inl (wd hw 42 rfl)) (wd hw 2 rfl) H27 (i := 0) rfl (j := 2) rfl rfl (ty := .int) (by decide) rfl rfl D54_6_105 ?_
        intro h28 H28
        change Hp n0 h28 ((a, Ob Z "org/sqcap/reasoner/IntMap" NSM [.ref ka, .ref va, .int (Int32.ofNat (taken ks + 1))]) :: (ka, Ia Z (ks.set (pos (2 ^ m) (homeF m key) i) (key + 1))) :: (va, Ia Z (vs.set (pos (2 ^ m) (homeF m key) i) val)) :: σ) at H28
        refine G.aloadN K D54_6_108 rfl rfl ?_
        refine G.getF K (host := "") (Or.inl (wd hw 24 rfl)) H28 (i := 0) rfl (j := 0) rfl rfl D54_6_109 ?_
        refine G.alen K H28 (i := 1) rfl D54_6_112 (Int32.ofNat (2 ^ m)) (by rw [List.length_map, List.length_set, hk]) ?_
        refine G.iconst K D54_6_113 2 rfl ?_
        refine G.idiv K D54_6_114 (by decide) ?_
        rw [own_half hm hm1]
        refine G.icmp_le K D54_6_115 (fun q29 => ?_) (fun q => absurd ((own_nlt (by omega) (by omega)).mp q) (by omega))
        refine G.iconst K D54_6_122 (-1) rfl ?_
        refine G.ret_int K D54_6_123 ?_
        exact ⟨_, _, _, rfl, T.insert hD hx hb h0, by omega, by rw [htk]; exact H28⟩
    | succ j ih =>
      intro i hi
      obtain ⟨y, hy, hy1, hy0⟩ := hb i (by omega)
      have hp := pos_nlt hm hh (i := i) (by omega)
      refine G.aloadN K D54_6_22 rfl rfl ?_
      refine G.getF K (host := "") (Or.inl (wd hw 24 rfl)) H (i := 0) rfl (j := 0) rfl rfl D54_6_23 ?_
      refine G.iload K D54_6_26 rfl ?_
      refine G.aload_i K H (i := 1) rfl (own_nneg hp) (by rw [own_nidx hp]; exact hy) D54_6_28 ?_
      refine G.if_eq K D54_6_29 (fun q => absurd q hy0) (fun q30 => ?_)
      refine G.aloadN K D54_6_32 rfl rfl ?_
      refine G.getF K (host := "") (Or.inl (wd hw 24 rfl)) H (i := 0) rfl (j := 0) rfl rfl D54_6_33 ?_
      refine G.iload K D54_6_36 rfl ?_
      refine G.aload_i K H (i := 1) rfl (own_nneg hp) (by rw [own_nidx hp]; exact hy) D54_6_38 ?_
      refine G.iload K D54_6_39 rfl ?_
      refine G.icmp_ne K D54_6_41 (fun q31 => ?_) (fun q => absurd q hy1)
      refine G.iload K D54_6_68 rfl ?_
      refine G.iconst K D54_6_70 1 rfl ?_
      refine G.iadd K D54_6_71 ?_
      refine G.iload K D54_6_72 rfl ?_
      refine G.iand K D54_6_74 ?_
      refine G.istore K D54_6_75 ([.val (.ref a), .val (.int key), .val (.int val), .val (.int 1), .val (.int (Int32.ofNat (2 ^ m - 1))), .val (.int (key + 1)), .val (.int (((Int32.ofNat (pos (2 ^ m) (homeF m key) i)) + 1) &&& (Int32.ofNat (2 ^ m - 1)))), .unset]) rfl ?_
      refine G.goto K D54_6_77 ?_
      rw [own_mask1 hm (pos_lt hh (by omega)), pos_succ hh (by omega)]
      exact ih (i + 1) (by omega)
  exact loop D 0 (by omega)
theorem D54_4_0 : Dc prog_54_method_4_code 0 (.aload_n 0) 1 1 := dc (by decide +kernel) rfl
theorem D54_4_1 : Dc prog_54_method_4_code 1 (.iload_n 1) 1 2 := dc (by decide +kernel) rfl
theorem D54_4_2 : Dc prog_54_method_4_code 2 (.iload_n 2) 1 3 := dc (by decide +kernel) rfl
theorem D54_4_3 : Dc prog_54_method_4_code 3 (.iconst 1) 1 4 := dc (by decide +kernel) rfl
theorem D54_4_4 : Dc prog_54_method_4_code 4 (.invokevirtual 34) 3 7 := dc (by decide +kernel) rfl
theorem D54_4_7 : Dc prog_54_method_4_code 7 (.ireturn) 1 8 := dc (by decide +kernel) rfl
set_option maxRecDepth 65536 in
set_option maxHeartbeats 40000000 in
theorem ct_put (l : Launch) (Z : State) (a0 : Array Value) (hw : ∀ d ∈ tables_1, d.before a0 Z = true) (n0 : Nat) (h : Heap) (a ka va : Addr) (ks vs : List Int32) (m : Nat) (M : Int32 → Option Int32) (key val : Int32) (σ : List Ch) (hm : m ≤ 30) (hm1 : 1 ≤ m) (T : Tab (homeF m) (2 ^ m) ks vs M) (ht : taken ks + 1 ≤ 2 ^ (m - 1)) (h0 : key + 1 ≠ 0) (H : Hp n0 h ((a, Ob Z "org/sqcap/reasoner/IntMap" NSM [.ref ka, .ref va, .int (Int32.ofNat (taken ks))]) :: (ka, Ia Z ks) :: (va, Ia Z vs) :: σ)) :
    Ct l Z n0 (⟨"org/sqcap/reasoner/IntMap", "put", "(II)I"⟩ : MethodName) prog_54_method_4_code 3 (some .int) ({ frames := 2, cells := 0, slots := 0, locals := 40 } : Room) [.ref a, .int key, .int val] h (fun v h' => ∃ (r : Int32) (ks' vs' : List Int32), v = some (.int r) ∧ Tab (homeF m) (2 ^ m) ks' vs' (upd M key val) ∧ taken ks' ≤ taken ks + 1 ∧ Hp n0 h' ((a, Ob Z "org/sqcap/reasoner/IntMap" NSM [.ref ka, .ref va, .int (Int32.ofNat (taken ks'))]) :: (ka, Ia Z ks') :: (va, Ia Z vs') :: σ)) := by
  refine Ct.intro (plainFor_of_name pn_0) [.val (.ref a), .val (.int key), .val (.int val)] (fun m => by first | (simp [entryFrame, mkF, argsToLocals, Value.category]; done) | (simp [entryFrame, mkF, argsToLocals, Value.category, maxLocals]; done) | rfl) ?_
  intro k hl K
  replace K : Ok k Z n0 "org/sqcap/reasoner/IntMap" ({ frames := 2, cells := 0, slots := 0, locals := 40 } : Room) prog_54_method_4_code 3 (some .int) "put" := K
  refine G.aloadN K D54_4_0 rfl rfl ?_
  refine G.iloadN K D54_4_1 rfl ?_
  refine G.iloadN K D54_4_2 rfl ?_
  refine G.iconst K D54_4_3 1 rfl ?_
  refine G.callP K hl (wd hw 33 rfl) (wd hw 35 rfl) (wd hw 2 rfl) (wd hw 34 rfl) (wd hw 3 rfl) (wd hw 36 rfl) (by decide) pd_2 (H.exa (i := 0) rfl) (ct_store l Z a0 hw n0 h a ka va ks vs m M key val σ hm hm1 T ht h0 H) 0 rfl (by decide) (by decide) (by decide) (by decide) rfl rfl [.int 1, .int val, .int key] rfl D54_4_4 ?_
  rintro _ h1 ⟨r1, ks1, vs1, rfl, T1, ht1, H1⟩
  change G k n0 _ h1 _ _ 7 [.val (.ref a), .val (.int key), .val (.int val)] [.int r1]
  refine G.ret_int K D54_4_7 ?_
  exact ⟨_, _, _, rfl, T1, ht1, H1⟩
theorem D54_8_0 : Dc prog_54_method_8_code 0 (.aload_n 0) 1 1 := dc (by decide +kernel) rfl
theorem D54_8_1 : Dc prog_54_method_8_code 1 (.getfield 19) 3 4 := dc (by decide +kernel) rfl
theorem D54_8_4 : Dc prog_54_method_8_code 4 (.arraylength) 1 5 := dc (by decide +kernel) rfl
theorem D54_8_5 : Dc prog_54_method_8_code 5 (.iconst 1) 1 6 := dc (by decide +kernel) rfl
theorem D54_8_6 : Dc prog_54_method_8_code 6 (.isub) 1 7 := dc (by decide +kernel) rfl
theorem D54_8_7 : Dc prog_54_method_8_code 7 (.istore_n 2) 1 8 := dc (by decide +kernel) rfl
theorem D54_8_8 : Dc prog_54_method_8_code 8 (.iload_n 1) 1 9 := dc (by decide +kernel) rfl
theorem D54_8_9 : Dc prog_54_method_8_code 9 (.iconst 1) 1 10 := dc (by decide +kernel) rfl
theorem D54_8_10 : Dc prog_54_method_8_code 10 (.iadd) 1 11 := dc (by decide +kernel) rfl
theorem D54_8_11 : Dc prog_54_method_8_code 11 (.istore_n 3) 1 12 := dc (by decide +kernel) rfl
theorem D54_8_12 : Dc prog_54_method_8_code 12 (.iload_n 1) 1 13 := dc (by decide +kernel) rfl
theorem D54_8_13 : Dc prog_54_method_8_code 13 (.iload_n 2) 1 14 := dc (by decide +kernel) rfl
theorem D54_8_14 : Dc prog_54_method_8_code 14 (.invokestatic 28) 3 17 := dc (by decide +kernel) rfl
theorem D54_8_17 : Dc prog_54_method_8_code 17 (.istore 4) 2 19 := dc (by decide +kernel) rfl
theorem D54_8_19 : Dc prog_54_method_8_code 19 (.aload_n 0) 1 20 := dc (by decide +kernel) rfl
theorem D54_8_20 : Dc prog_54_method_8_code 20 (.getfield 19) 3 23 := dc (by decide +kernel) rfl
theorem D54_8_23 : Dc prog_54_method_8_code 23 (.iload 4) 2 25 := dc (by decide +kernel) rfl
theorem D54_8_25 : Dc prog_54_method_8_code 25 (.iaload) 1 26 := dc (by decide +kernel) rfl
theorem D54_8_26 : Dc prog_54_method_8_code 26 (.iload_n 3) 1 27 := dc (by decide +kernel) rfl
theorem D54_8_27 : Db prog_54_method_8_code 27 (.if_icmp .eq) 30 52 := db (25) (by decide +kernel) rfl (by decide) (by decide)
theorem D54_8_30 : Dc prog_54_method_8_code 30 (.aload_n 0) 1 31 := dc (by decide +kernel) rfl
theorem D54_8_31 : Dc prog_54_method_8_code 31 (.getfield 19) 3 34 := dc (by decide +kernel) rfl
theorem D54_8_34 : Dc prog_54_method_8_code 34 (.iload 4) 2 36 := dc (by decide +kernel) rfl
theorem D54_8_36 : Dc prog_54_method_8_code 36 (.iaload) 1 37 := dc (by decide +kernel) rfl
theorem D54_8_37 : Db prog_54_method_8_code 37 (.ifCond .ne) 40 41 := db (4) (by decide +kernel) rfl (by decide) (by decide)
theorem D54_8_40 : Dc prog_54_method_8_code 40 (.return_) 1 41 := dc (by decide +kernel) rfl
theorem D54_8_41 : Dc prog_54_method_8_code 41 (.iload 4) 2 43 := dc (by decide +kernel) rfl
theorem D54_8_43 : Dc prog_54_method_8_code 43 (.iconst 1) 1 44 := dc (by decide +kernel) rfl
theorem D54_8_44 : Dc prog_54_method_8_code 44 (.iadd) 1 45 := dc (by decide +kernel) rfl
theorem D54_8_45 : Dc prog_54_method_8_code 45 (.iload_n 2) 1 46 := dc (by decide +kernel) rfl
theorem D54_8_46 : Dc prog_54_method_8_code 46 (.iand) 1 47 := dc (by decide +kernel) rfl
theorem D54_8_47 : Dc prog_54_method_8_code 47 (.istore 4) 2 49 := dc (by decide +kernel) rfl
theorem D54_8_49 : Db prog_54_method_8_code 49 (.goto) 52 19 := db (-30) (by decide +kernel) rfl (by decide) (by decide)
theorem D54_8_52 : Dc prog_54_method_8_code 52 (.aload_n 0) 1 53 := dc (by decide +kernel) rfl
theorem D54_8_53 : Dc prog_54_method_8_code 53 (.dup) 1 54 := dc (by decide +kernel) rfl
theorem D54_8_54 : Dc prog_54_method_8_code 54 (.getfield 38) 3 57 := dc (by decide +kernel) rfl
theorem D54_8_57 : Dc prog_54_method_8_code 57 (.iconst 1) 1 58 := dc (by decide +kernel) rfl
theorem D54_8_58 : Dc prog_54_method_8_code 58 (.isub) 1 59 := dc (by decide +kernel) rfl
theorem D54_8_59 : Dc prog_54_method_8_code 59 (.putfield 38) 3 62 := dc (by decide +kernel) rfl
theorem D54_8_62 : Dc prog_54_method_8_code 62 (.iload 4) 2 64 := dc (by decide +kernel) rfl
theorem D54_8_64 : Dc prog_54_method_8_code 64 (.istore 5) 2 66 := dc (by decide +kernel) rfl
theorem D54_8_66 : Dc prog_54_method_8_code 66 (.iload 5) 2 68 := dc (by decide +kernel) rfl
theorem D54_8_68 : Dc prog_54_method_8_code 68 (.iconst 1) 1 69 := dc (by decide +kernel) rfl
theorem D54_8_69 : Dc prog_54_method_8_code 69 (.iadd) 1 70 := dc (by decide +kernel) rfl
theorem D54_8_70 : Dc prog_54_method_8_code 70 (.iload_n 2) 1 71 := dc (by decide +kernel) rfl
theorem D54_8_71 : Dc prog_54_method_8_code 71 (.iand) 1 72 := dc (by decide +kernel) rfl
theorem D54_8_72 : Dc prog_54_method_8_code 72 (.istore 6) 2 74 := dc (by decide +kernel) rfl
theorem D54_8_74 : Dc prog_54_method_8_code 74 (.aload_n 0) 1 75 := dc (by decide +kernel) rfl
theorem D54_8_75 : Dc prog_54_method_8_code 75 (.getfield 19) 3 78 := dc (by decide +kernel) rfl
theorem D54_8_78 : Dc prog_54_method_8_code 78 (.iload 6) 2 80 := dc (by decide +kernel) rfl
theorem D54_8_80 : Dc prog_54_method_8_code 80 (.iaload) 1 81 := dc (by decide +kernel) rfl
theorem D54_8_81 : Db prog_54_method_8_code 81 (.ifCond .eq) 84 159 := db (78) (by decide +kernel) rfl (by decide) (by decide)
theorem D54_8_84 : Dc prog_54_method_8_code 84 (.aload_n 0) 1 85 := dc (by decide +kernel) rfl
theorem D54_8_85 : Dc prog_54_method_8_code 85 (.getfield 19) 3 88 := dc (by decide +kernel) rfl
theorem D54_8_88 : Dc prog_54_method_8_code 88 (.iload 6) 2 90 := dc (by decide +kernel) rfl
theorem D54_8_90 : Dc prog_54_method_8_code 90 (.iaload) 1 91 := dc (by decide +kernel) rfl
theorem D54_8_91 : Dc prog_54_method_8_code 91 (.iconst 1) 1 92 := dc (by decide +kernel) rfl
theorem D54_8_92 : Dc prog_54_method_8_code 92 (.isub) 1 93 := dc (by decide +kernel) rfl
theorem D54_8_93 : Dc prog_54_method_8_code 93 (.iload_n 2) 1 94 := dc (by decide +kernel) rfl
theorem D54_8_94 : Dc prog_54_method_8_code 94 (.invokestatic 28) 3 97 := dc (by decide +kernel) rfl
theorem D54_8_97 : Dc prog_54_method_8_code 97 (.istore 7) 2 99 := dc (by decide +kernel) rfl
theorem D54_8_99 : Dc prog_54_method_8_code 99 (.iload 6) 2 101 := dc (by decide +kernel) rfl
theorem D54_8_101 : Dc prog_54_method_8_code 101 (.iload 7) 2 103 := dc (by decide +kernel) rfl
theorem D54_8_103 : Dc prog_54_method_8_code 103 (.isub) 1 104 := dc (by decide +kernel) rfl
theorem D54_8_104 : Dc prog_54_method_8_code 104 (.iload_n 2) 1 105 := dc (by decide +kernel) rfl
theorem D54_8_105 : Dc prog_54_method_8_code 105 (.iand) 1 106 := dc (by decide +kernel) rfl
theorem D54_8_106 : Dc prog_54_method_8_code 106 (.iload 6) 2 108 := dc (by decide +kernel) rfl
theorem D54_8_108 : Dc prog_54_method_8_code 108 (.iload 5) 2 110 := dc (by decide +kernel) rfl
theorem D54_8_110 : Dc prog_54_method_8_code 110 (.isub) 1 111 := dc (by decide +kernel) rfl
theorem D54_8_111 : Dc prog_54_method_8_code 111 (.iload_n 2) 1 112 := dc (by decide +kernel) rfl
theorem D54_8_112 : Dc prog_54_method_8_code 112 (.iand) 1 113 := dc (by decide +kernel) rfl
theorem D54_8_113 : Db prog_54_method_8_code 113 (.if_icmp .lt) 116 148 := db (35) (by decide +kernel) rfl (by decide) (by decide)
theorem D54_8_116 : Dc prog_54_method_8_code 116 (.aload_n 0) 1 117 := dc (by decide +kernel) rfl
theorem D54_8_117 : Dc prog_54_method_8_code 117 (.getfield 19) 3 120 := dc (by decide +kernel) rfl
theorem D54_8_120 : Dc prog_54_method_8_code 120 (.iload 5) 2 122 := dc (by decide +kernel) rfl
theorem D54_8_122 : Dc prog_54_method_8_code 122 (.aload_n 0) 1 123 := dc (by decide +kernel) rfl
theorem D54_8_123 : Dc prog_54_method_8_code 123 (.getfield 19) 3 126 := dc (by decide +kernel) rfl
theorem D54_8_126 : Dc prog_54_method_8_code 126 (.iload 6) 2 128 := dc (by decide +kernel) rfl
theorem D54_8_128 : Dc prog_54_method_8_code 128 (.iaload) 1 129 := dc (by decide +kernel) rfl
theorem D54_8_129 : Dc prog_54_method_8_code 129 (.iastore) 1 130 := dc (by decide +kernel) rfl
theorem D54_8_130 : Dc prog_54_method_8_code 130 (.aload_n 0) 1 131 := dc (by decide +kernel) rfl
theorem D54_8_131 : Dc prog_54_method_8_code 131 (.getfield 25) 3 134 := dc (by decide +kernel) rfl
theorem D54_8_134 : Dc prog_54_method_8_code 134 (.iload 5) 2 136 := dc (by decide +kernel) rfl
theorem D54_8_136 : Dc prog_54_method_8_code 136 (.aload_n 0) 1 137 := dc (by decide +kernel) rfl
theorem D54_8_137 : Dc prog_54_method_8_code 137 (.getfield 25) 3 140 := dc (by decide +kernel) rfl
theorem D54_8_140 : Dc prog_54_method_8_code 140 (.iload 6) 2 142 := dc (by decide +kernel) rfl
theorem D54_8_142 : Dc prog_54_method_8_code 142 (.iaload) 1 143 := dc (by decide +kernel) rfl
theorem D54_8_143 : Dc prog_54_method_8_code 143 (.iastore) 1 144 := dc (by decide +kernel) rfl
theorem D54_8_144 : Dc prog_54_method_8_code 144 (.iload 6) 2 146 := dc (by decide +kernel) rfl
theorem D54_8_146 : Dc prog_54_method_8_code 146 (.istore 5) 2 148 := dc (by decide +kernel) rfl
theorem D54_8_148 : Dc prog_54_method_8_code 148 (.iload 6) 2 150 := dc (by decide +kernel) rfl
theorem D54_8_150 : Dc prog_54_method_8_code 150 (.iconst 1) 1 151 := dc (by decide +kernel) rfl
theorem D54_8_151 : Dc prog_54_method_8_code 151 (.iadd) 1 152 := dc (by decide +kernel) rfl
theorem D54_8_152 : Dc prog_54_method_8_code 152 (.iload_n 2) 1 153 := dc (by decide +kernel) rfl
theorem D54_8_153 : Dc prog_54_method_8_code 153 (.iand) 1 154 := dc (by decide +kernel) rfl
theorem D54_8_154 : Dc prog_54_method_8_code 154 (.istore 6) 2 156 := dc (by decide +kernel) rfl
theorem D54_8_156 : Db prog_54_method_8_code 156 (.goto) 159 74 := db (-82) (by decide +kernel) rfl (by decide) (by decide)
theorem D54_8_159 : Dc prog_54_method_8_code 159 (.aload_n 0) 1 160 := dc (by decide +kernel) rfl
theorem D54_8_160 : Dc prog_54_method_8_code 160 (.getfield 19) 3 163 := dc (by decide +kernel) rfl
theorem D54_8_163 : Dc prog_54_method_8_code 163 (.iload 5) 2 165 := dc (by decide +kernel) rfl
theorem D54_8_165 : Dc prog_54_method_8_code 165 (.iconst 0) 1 166 := dc (by decide +kernel) rfl
theorem D54_8_166 : Dc prog_54_method_8_code 166 (.iastore) 1 167 := dc (by decide +kernel) rfl
theorem D54_8_167 : Dc prog_54_method_8_code 167 (.return_) 1 168 := dc (by decide +kernel) rfl
theorem own_del {M : Int32 → Option Int32} {k : Int32} (h : M k = none) : del M k = M := by
  funext y; unfold del; split
  · rename_i q; rw [q, h]
  · rfl
set_option maxRecDepth 65536 in
set_option maxHeartbeats 40000000 in
theorem ct_remove (l : Launch) (Z : State) (a0 : Array Value) (hw : ∀ d ∈ tables_1, d.before a0 Z = true) (n0 : Nat) (h : Heap) (a ka va : Addr) (ks vs : List Int32) (sz : Int32) (m : Nat) (M : Int32 → Option Int32) (key : Int32) (σ : List Ch) (hm : m ≤ 30) (hm1 : 1 ≤ m) (T : Tab (homeF m) (2 ^ m) ks vs M) (hz : ∃ z : Nat, ks[z]? = some 0) (h0 : key + 1 ≠ 0) (H : Hp n0 h ((a, Ob Z "org/sqcap/reasoner/IntMap" NSM [.ref ka, .ref va, .int sz]) :: (ka, Ia Z ks) :: (va, Ia Z vs) :: σ)) :
    Ct l Z n0 (⟨"org/sqcap/reasoner/IntMap", "remove", "(I)V"⟩ : MethodName) prog_54_method_8_code 8 none ({ frames := 1, cells := 0, slots := 0, locals := 14 } : Room) [.ref a, .int key] h (fun v h' => v = none ∧ ∃ (sz' : Int32) (ks' vs' : List Int32), Tab (homeF m) (2 ^ m) ks' vs' (del M key) ∧ (∃ z : Nat, ks'[z]? = some 0) ∧ Hp n0 h' ((a, Ob Z "org/sqcap/reasoner/IntMap" NSM [.ref ka, .ref va, .int sz']) :: (ka, Ia Z ks') :: (va, Ia Z vs') :: σ)) := by
  refine Ct.intro (plainFor_of_name pn_0) [.val (.ref a), .val (.int key), .unset, .unset, .unset, .unset, .unset, .unset] (fun m => by first | (simp [entryFrame, mkF, argsToLocals, Value.category]; done) | (simp [entryFrame, mkF, argsToLocals, Value.category, maxLocals]; done) | rfl) ?_
  intro k hl K
  replace K : Ok k Z n0 "org/sqcap/reasoner/IntMap" ({ frames := 1, cells := 0, slots := 0, locals := 14 } : Room) prog_54_method_8_code 8 none "remove" := K
  have hk := T.1
  refine G.aloadN K D54_8_0 rfl rfl ?_
  refine G.getF K (host := "") (Or.inl (wd hw 24 rfl)) H (i := 0) rfl (j := 0) rfl rfl D54_8_1 ?_
  refine G.alen K H (i := 1) rfl D54_8_4 (Int32.ofNat (2 ^ m)) (by rw [List.length_map, hk]) ?_
  refine G.iconst K D54_8_5 1 rfl ?_
  refine G.isub K D54_8_6 ?_
  rw [own_ncap]
  refine G.istoreN K D54_8_7 ([.val (.ref a), .val (.int key), .val (.int (Int32.ofNat (2 ^ m - 1))), .unset, .unset, .unset, .unset, .unset]) rfl ?_
  refine G.iloadN K D54_8_8 rfl ?_
  refine G.iconst K D54_8_9 1 rfl ?_
  refine G.iadd K D54_8_10 ?_
  refine G.istoreN K D54_8_11 ([.val (.ref a), .val (.int key), .val (.int (Int32.ofNat (2 ^ m - 1))), .val (.int (key + 1)), .unset, .unset, .unset, .unset]) rfl ?_
  refine G.iloadN K D54_8_12 rfl ?_
  refine G.iloadN K D54_8_13 rfl ?_
  refine G.callS K hl (wd hw 37 rfl) (wd hw 38 rfl) (wd hw 3 rfl) (wd hw 39 rfl) (by decide) pd_1 (ct_slot l Z a0 hw n0 _ key (Int32.ofNat (2 ^ m - 1))) 0 rfl (by decide) (by decide) (by decide) (by decide) rfl rfl [.int (Int32.ofNat (2 ^ m - 1)), .int key] rfl D54_8_14 ?_
  rintro _ _ ⟨rfl, rfl⟩
  rw [own_home hm]
  change G k n0 _ h _ _ 17 [.val (.ref a), .val (.int key), .val (.int (Int32.ofNat (2 ^ m - 1))), .val (.int (key + 1)), .unset, .unset, .unset, .unset] [.int (Int32.ofNat (homeF m key))]
  refine G.istore K D54_8_17 ([.val (.ref a), .val (.int key), .val (.int (Int32.ofNat (2 ^ m - 1))), .val (.int (key + 1)), .val (.int (Int32.ofNat (homeF m key))), .unset, .unset, .unset]) rfl ?_
  have hh := own_home_lt m key
  have hc := own_pow hm
  have hv := T.2.1
  obtain ⟨z, hz⟩ := hz
  have hzc : z < 2 ^ m := by rw [← hk]; exact (List.getElem?_eq_some_iff.mp hz).1
  have shift : ∀ (n : Nat) (h2 : Heap) (ks2 vs2 : List Int32) (sz2 y4 : Int32) (f e : Nat) (s7 : Slot), Hol (homeF m) (2 ^ m) ks2 vs2 (del M key) f e → ks2[z]? = some 0 → dist (2 ^ m) (pos (2 ^ m) f e) z = n → (s7 = .unset ∨ ∃ w7, s7 = .val (.int w7)) → Hp n0 h2 ((a, Ob Z "org/sqcap/reasoner/IntMap" NSM [.ref ka, .ref va, .int sz2]) :: (ka, Ia Z ks2) :: (va, Ia Z vs2) :: σ) → G k n0 (fun v h' => v = none ∧ ∃ (sz' : Int32) (ks' vs' : List Int32), Tab (homeF m) (2 ^ m) ks' vs' (del M key) ∧ (∃ z : Nat, ks'[z]? = some 0) ∧ Hp n0 h' ((a, Ob Z "org/sqcap/reasoner/IntMap" NSM [.ref ka, .ref va, .int sz']) :: (ka, Ia Z ks') :: (va, Ia Z vs') :: σ)) h2 0 0 74 [.val (.ref a), .val (.int key), .val (.int (Int32.ofNat (2 ^ m - 1))), .val (.int (key + 1)), .val (.int y4), .val (.int (Int32.ofNat f)), .val (.int (Int32.ofNat (pos (2 ^ m) f e))), s7] [] := by
    intro n
    induction n with
    | zero =>
      intro h2 ks2 vs2 sz2 y4 f e s7 J hz2 hn hs7 H2
      have hf : f < 2 ^ m := J.2.2.2.1
      have he : e < 2 ^ m := J.2.2.2.2.2.1
      have hp := pos_nlt hm hf he
      have hpc := pos_lt hf he
      have hk2 := J.1
      have hv2 := J.2.1
      have hfn : f < 2147483648 := by omega
      have hx0 : ks2[pos (2 ^ m) f e]? = some 0 := by rw [dist_none hpc hzc hn]; exact hz2
      refine G.aloadN K D54_8_74 rfl rfl ?_
      refine G.getF K (host := "") (Or.inl (wd hw 24 rfl)) H2 (i := 0) rfl (j := 0) rfl rfl D54_8_75 ?_
      refine G.iload K D54_8_78 rfl ?_
      refine G.aload_i K H2 (i := 1) rfl (own_nneg hp) (by rw [own_nidx hp]; exact hx0) D54_8_80 ?_
      refine G.if_eq K D54_8_81 (fun _ => ?_) (fun q => absurd q (by decide))
      refine G.aloadN K D54_8_159 rfl rfl ?_
      refine G.getF K (host := "") (Or.inl (wd hw 24 rfl)) H2 (i := 0) rfl (j := 0) rfl rfl D54_8_160 ?_
      refine G.iload K D54_8_163 rfl ?_
      refine G.iconst K D54_8_165 0 rfl ?_
      refine G.astore_i K H2 (i := 1) rfl (own_nneg hfn) (by rw [own_nidx hfn]; omega) D54_8_166 ?_
      intro h33 H33
      rw [own_nidx hfn] at H33
      change Hp n0 h33 ((a, Ob Z "org/sqcap/reasoner/IntMap" NSM [.ref ka, .ref va, .int sz2]) :: (ka, Ia Z (ks2.set f 0)) :: (va, Ia Z vs2) :: σ) at H33
      refine G.ret_void K D54_8_167 ?_
      exact ⟨rfl, _, _, _, J.done hx0, ⟨f, by rw [List.getElem?_set_self (by omega)]⟩, H33⟩
    | succ n ih =>
      intro h2 ks2 vs2 sz2 y4 f e s7 J hz2 hn hs7 H2
      have hf : f < 2 ^ m := J.2.2.2.1
      have he : e < 2 ^ m := J.2.2.2.2.2.1
      have hp := pos_nlt hm hf he
      have hpc := pos_lt hf he
      have hk2 := J.1
      have hv2 := J.2.1
      have hfn : f < 2147483648 := by omega
      obtain ⟨x, hx⟩ : ∃ x, ks2[pos (2 ^ m) f e]? = some x := ⟨_, List.getElem?_eq_getElem (by omega)⟩
      by_cases hx0 : x = 0
      · subst hx0
        refine G.aloadN K D54_8_74 rfl rfl ?_
        refine G.getF K (host := "") (Or.inl (wd hw 24 rfl)) H2 (i := 0) rfl (j := 0) rfl rfl D54_8_75 ?_
        refine G.iload K D54_8_78 rfl ?_
        refine G.aload_i K H2 (i := 1) rfl (own_nneg hp) (by rw [own_nidx hp]; exact hx) D54_8_80 ?_
        refine G.if_eq K D54_8_81 (fun _ => ?_) (fun q => absurd q (by decide))
        refine G.aloadN K D54_8_159 rfl rfl ?_
        refine G.getF K (host := "") (Or.inl (wd hw 24 rfl)) H2 (i := 0) rfl (j := 0) rfl rfl D54_8_160 ?_
        refine G.iload K D54_8_163 rfl ?_
        refine G.iconst K D54_8_165 0 rfl ?_
        refine G.astore_i K H2 (i := 1) rfl (own_nneg hfn) (by rw [own_nidx hfn]; omega) D54_8_166 ?_
        intro h35 H35
        rw [own_nidx hfn] at H35
        change Hp n0 h35 ((a, Ob Z "org/sqcap/reasoner/IntMap" NSM [.ref ka, .ref va, .int sz2]) :: (ka, Ia Z (ks2.set f 0)) :: (va, Ia Z vs2) :: σ) at H35
        refine G.ret_void K D54_8_167 ?_
        exact ⟨rfl, _, _, _, J.done hx, ⟨f, by rw [List.getElem?_set_self (by omega)]⟩, H35⟩
      · have hmore := J.more hz2 hx hx0
        have hfne : f ≠ z := fun q => by have := J.2.2.2.2.2.2.2.2.2.2 0 J.2.2.2.2.1; rw [pos_zero hf, q] at this; exact this hz2
        obtain ⟨v2, hv2x⟩ : ∃ v2, vs2[pos (2 ^ m) f e]? = some v2 := ⟨_, List.getElem?_eq_getElem (by omega)⟩
        refine G.aloadN K D54_8_74 rfl rfl ?_
        refine G.getF K (host := "") (Or.inl (wd hw 24 rfl)) H2 (i := 0) rfl (j := 0) rfl rfl D54_8_75 ?_
        refine G.iload K D54_8_78 rfl ?_
        refine G.aload_i K H2 (i := 1) rfl (own_nneg hp) (by rw [own_nidx hp]; exact hx) D54_8_80 ?_
        refine G.if_eq K D54_8_81 (fun q => absurd q hx0) (fun q36 => ?_)
        refine G.aloadN K D54_8_84 rfl rfl ?_
        refine G.getF K (host := "") (Or.inl (wd hw 24 rfl)) H2 (i := 0) rfl (j := 0) rfl rfl D54_8_85 ?_
        refine G.iload K D54_8_88 rfl ?_
        refine G.aload_i K H2 (i := 1) rfl (own_nneg hp) (by rw [own_nidx hp]; exact hx) D54_8_90 ?_
        refine G.iconst K D54_8_91 1 rfl ?_
        refine G.isub K D54_8_92 ?_
        refine G.iloadN K D54_8_93 rfl ?_
        refine G.callS K hl (wd hw 37 rfl) (wd hw 38 rfl) (wd hw 3 rfl) (wd hw 39 rfl) (by decide) pd_1 (ct_slot l Z a0 hw n0 _ (x - 1) (Int32.ofNat (2 ^ m - 1))) 0 rfl (by decide) (by decide) (by decide) (by decide) rfl rfl [.int (Int32.ofNat (2 ^ m - 1)), .int (x - 1)] rfl D54_8_94 ?_
        rintro _ _ ⟨rfl, rfl⟩
        rw [own_home hm]
        change G k n0 _ h2 _ _ 97 [.val (.ref a), .val (.int key), .val (.int (Int32.ofNat (2 ^ m - 1))), .val (.int (key + 1)), .val (.int y4), .val (.int (Int32.ofNat f)), .val (.int (Int32.ofNat (pos (2 ^ m) f e))), s7] [.int (Int32.ofNat (homeF m (x - 1)))]
        refine G.istore K D54_8_97 ([.val (.ref a), .val (.int key), .val (.int (Int32.ofNat (2 ^ m - 1))), .val (.int (key + 1)), .val (.int y4), .val (.int (Int32.ofNat f)), .val (.int (Int32.ofNat (pos (2 ^ m) f e))), .val (.int (Int32.ofNat (homeF m (x - 1))))]) (by rcases hs7 with rfl | ⟨_, rfl⟩ <;> rfl) ?_
        refine G.iload K D54_8_99 rfl ?_
        refine G.iload K D54_8_101 rfl ?_
        refine G.isub K D54_8_103 ?_
        refine G.iloadN K D54_8_104 rfl ?_
        refine G.iand K D54_8_105 ?_
        refine G.iload K D54_8_106 rfl ?_
        refine G.iload K D54_8_108 rfl ?_
        refine G.isub K D54_8_110 ?_
        refine G.iloadN K D54_8_111 rfl ?_
        refine G.iand K D54_8_112 ?_
        rw [own_mask2 hm hpc (own_home_lt m _), own_mask2 hm hpc hf, dist_pos hf he]
        have hdl := dist_lt (own_home_lt m (x - 1)) hpc
        refine G.icmp_lt K D54_8_113 (fun q37 => ?_) (fun q37 => ?_)
        · rw [own_nlt (by omega) (by omega)] at q37
          refine G.iload K D54_8_148 rfl ?_
          refine G.iconst K D54_8_150 1 rfl ?_
          refine G.iadd K D54_8_151 ?_
          refine G.iloadN K D54_8_152 rfl ?_
          refine G.iand K D54_8_153 ?_
          refine G.istore K D54_8_154 ([.val (.ref a), .val (.int key), .val (.int (Int32.ofNat (2 ^ m - 1))), .val (.int (key + 1)), .val (.int y4), .val (.int (Int32.ofNat f)), .val (.int (((Int32.ofNat (pos (2 ^ m) f e)) + 1) &&& (Int32.ofNat (2 ^ m - 1)))), .val (.int (Int32.ofNat (homeF m (x - 1))))]) rfl ?_
          refine G.goto K D54_8_156 ?_
          rw [own_mask1 hm hpc]
          rw [pos_succ hf hmore]
          exact ih _ _ _ _ _ _ (e + 1) _ (J.skip hmore hx hx0 (by omega)) hz2 (by rw [← pos_succ hf hmore]; exact dist_next hpc hzc hn) (Or.inr ⟨_, rfl⟩) H2
        · rw [own_nlt (by omega) (by omega)] at q37
          refine G.aloadN K D54_8_116 rfl rfl ?_
          refine G.getF K (host := "") (Or.inl (wd hw 24 rfl)) H2 (i := 0) rfl (j := 0) rfl rfl D54_8_117 ?_
          refine G.iload K D54_8_120 rfl ?_
          refine G.aloadN K D54_8_122 rfl rfl ?_
          refine G.getF K (host := "") (Or.inl (wd hw 24 rfl)) H2 (i := 0) rfl (j := 0) rfl rfl D54_8_123 ?_
          refine G.iload K D54_8_126 rfl ?_
          refine G.aload_i K H2 (i := 1) rfl (own_nneg hp) (by rw [own_nidx hp]; exact hx) D54_8_128 ?_
          refine G.astore_i K H2 (i := 1) rfl (own_nneg hfn) (by rw [own_nidx hfn]; omega) D54_8_129 ?_
          intro h38 H38
          rw [own_nidx hfn] at H38
          change Hp n0 h38 ((a, Ob Z "org/sqcap/reasoner/IntMap" NSM [.ref ka, .ref va, .int sz2]) :: (ka, Ia Z (ks2.set f x)) :: (va, Ia Z vs2) :: σ) at H38
          refine G.aloadN K D54_8_130 rfl rfl ?_
          refine G.getF K (host := "") (Or.inl (wd hw 26 rfl)) H38 (i := 0) rfl (j := 1) rfl rfl D54_8_131 ?_
          refine G.iload K D54_8_134 rfl ?_
          refine G.aloadN K D54_8_136 rfl rfl ?_
          refine G.getF K (host := "") (Or.inl (wd hw 26 rfl)) H38 (i := 0) rfl (j := 1) rfl rfl D54_8_137 ?_
          refine G.iload K D54_8_140 rfl ?_
          refine G.aload_i K H38 (i := 2) rfl (own_nneg hp) (by rw [own_nidx hp]; exact hv2x) D54_8_142 ?_
          refine G.astore_i K H38 (i := 2) rfl (own_nneg hfn) (by rw [own_nidx hfn]; omega) D54_8_143 ?_
          intro h39 H39
          rw [own_nidx hfn] at H39
          change Hp n0 h39 ((a, Ob Z "org/sqcap/reasoner/IntMap" NSM [.ref ka, .ref va, .int sz2]) :: (ka, Ia Z (ks2.set f x)) :: (va, Ia Z (vs2.set f v2)) :: σ) at H39
          refine G.iload K D54_8_144 rfl ?_
          refine G.istore K D54_8_146 ([.val (.ref a), .val (.int key), .val (.int (Int32.ofNat (2 ^ m - 1))), .val (.int (key + 1)), .val (.int y4), .val (.int (Int32.ofNat (pos (2 ^ m) f e))), .val (.int (Int32.ofNat (pos (2 ^ m) f e))), .val (.int (Int32.ofNat (homeF m (x - 1))))]) rfl ?_
          refine G.iload K D54_8_148 rfl ?_
          refine G.iconst K D54_8_150 1 rfl ?_
          refine G.iadd K D54_8_151 ?_
          refine G.iloadN K D54_8_152 rfl ?_
          refine G.iand K D54_8_153 ?_
          refine G.istore K D54_8_154 ([.val (.ref a), .val (.int key), .val (.int (Int32.ofNat (2 ^ m - 1))), .val (.int (key + 1)), .val (.int y4), .val (.int (Int32.ofNat (pos (2 ^ m) f e))), .val (.int (((Int32.ofNat (pos (2 ^ m) f e)) + 1) &&& (Int32.ofNat (2 ^ m - 1)))), .val (.int (Int32.ofNat (homeF m (x - 1))))]) rfl ?_
          refine G.goto K D54_8_156 ?_
          rw [own_mask1 hm hpc]
          exact ih _ _ _ _ _ _ 1 _ (J.move hx hx0 hv2x (by omega)) (by rw [List.getElem?_set_ne hfne]; exact hz2) (dist_next hpc hzc hn) (Or.inr ⟨_, rfl⟩) H39
  obtain ⟨D, xD, hD, hx, hxx, hb⟩ := probe_ends T ⟨z, hz⟩ key
  rw [← pos_zero hh]
  have loop : ∀ (j i : Nat), i + j = D → G k n0 (fun v h' => v = none ∧ ∃ (sz' : Int32) (ks' vs' : List Int32), Tab (homeF m) (2 ^ m) ks' vs' (del M key) ∧ (∃ z : Nat, ks'[z]? = some 0) ∧ Hp n0 h' ((a, Ob Z "org/sqcap/reasoner/IntMap" NSM [.ref ka, .ref va, .int sz']) :: (ka, Ia Z ks') :: (va, Ia Z vs') :: σ)) h 0 0 19 [.val (.ref a), .val (.int key), .val (.int (Int32.ofNat (2 ^ m - 1))), .val (.int (key + 1)), .val (.int (Int32.ofNat (pos (2 ^ m) (homeF m key) i))), .unset, .unset, .unset] [] := by
    intro j
    induction j with
    | zero =>
      intro i hi
      obtain rfl : i = D := by omega
      have hp := pos_nlt hm hh hD
      have hpc := pos_lt hh hD
      by_cases hxk : xD = key + 1
      · subst hxk
        refine G.aloadN K D54_8_19 rfl rfl ?_
        refine G.getF K (host := "") (Or.inl (wd hw 24 rfl)) H (i := 0) rfl (j := 0) rfl rfl D54_8_20 ?_
        refine G.iload K D54_8_23 rfl ?_
        refine G.aload_i K H (i := 1) rfl (own_nneg hp) (by rw [own_nidx hp]; exact hx) D54_8_25 ?_
        refine G.iloadN K D54_8_26 rfl ?_
        refine G.icmp_eq K D54_8_27 (fun q40 => ?_) (fun q => absurd rfl q)
        refine G.aloadN K D54_8_52 rfl rfl ?_
        refine G.dup K D54_8_53 rfl ?_
        refine G.getF K (host := "") (Or.inl (wd hw 41 rfl)) H (i := 0) rfl (j := 2) rfl rfl D54_8_54 ?_
        refine G.iconst K D54_8_57 1 rfl ?_
        refine G.isub K D54_8_58 ?_
        refine G.putF K (host := "") (Or.inl (wd hw 41 rfl)) (cf_NSM hw) (Or.inl (wd hw 42 rfl)) (wd hw 2 rfl) H (i := 0) rfl (j := 2) rfl rfl (ty := .int) (by decide) rfl rfl D54_8_59 ?_
        intro h41 H41
        change Hp n0 h41 ((a, Ob Z "org/sqcap/reasoner/IntMap" NSM [.ref ka, .ref va, .int (sz - 1)]) :: (ka, Ia Z ks) :: (va, Ia Z vs) :: σ) at H41
        refine G.iload K D54_8_62 rfl ?_
        refine G.istore K D54_8_64 ([.val (.ref a), .val (.int key), .val (.int (Int32.ofNat (2 ^ m - 1))), .val (.int (key + 1)), .val (.int (Int32.ofNat (pos (2 ^ m) (homeF m key) i))), .val (.int (Int32.ofNat (pos (2 ^ m) (homeF m key) i))), .unset, .unset]) rfl ?_
        refine G.iload K D54_8_66 rfl ?_
        refine G.iconst K D54_8_68 1 rfl ?_
        refine G.iadd K D54_8_69 ?_
        refine G.iloadN K D54_8_70 rfl ?_
        refine G.iand K D54_8_71 ?_
        refine G.istore K D54_8_72 ([.val (.ref a), .val (.int key), .val (.int (Int32.ofNat (2 ^ m - 1))), .val (.int (key + 1)), .val (.int (Int32.ofNat (pos (2 ^ m) (homeF m key) i))), .val (.int (Int32.ofNat (pos (2 ^ m) (homeF m key) i))), .val (.int (((Int32.ofNat (pos (2 ^ m) (homeF m key) i)) + 1) &&& (Int32.ofNat (2 ^ m - 1)))), .unset]) rfl ?_
        rw [own_mask1 hm hpc]
        exact shift _ _ _ _ _ _ _ 1 _ (T.hole (by have := Nat.pow_le_pow_right (n := 2) (by decide) hm1; omega) hx h0) hz rfl (Or.inl rfl) H41
      · obtain rfl : xD = 0 := hxx.resolve_left hxk
        refine G.aloadN K D54_8_19 rfl rfl ?_
        refine G.getF K (host := "") (Or.inl (wd hw 24 rfl)) H (i := 0) rfl (j := 0) rfl rfl D54_8_20 ?_
        refine G.iload K D54_8_23 rfl ?_
        refine G.aload_i K H (i := 1) rfl (own_nneg hp) (by rw [own_nidx hp]; exact hx) D54_8_25 ?_
        refine G.iloadN K D54_8_26 rfl ?_
        refine G.icmp_eq K D54_8_27 (fun q => absurd q hxk) (fun q42 => ?_)
        refine G.aloadN K D54_8_30 rfl rfl ?_
        refine G.getF K (host := "") (Or.inl (wd hw 24 rfl)) H (i := 0) rfl (j := 0) rfl rfl D54_8_31 ?_
        refine G.iload K D54_8_34 rfl ?_
        refine G.aload_i K H (i := 1) rfl (own_nneg hp) (by rw [own_nidx hp]; exact hx) D54_8_36 ?_
        refine G.if_ne K D54_8_37 (fun q => absurd q (by decide)) (fun _ => ?_)
        refine G.ret_void K D54_8_40 ?_
        exact ⟨rfl, _, _, _, by rw [own_del (probe_miss T hD hx fun d hd e => by obtain ⟨y, e1, e2, -⟩ := hb d hd; exact e2 (Option.some.inj (e1.symm.trans e)))]; exact T, ⟨z, hz⟩, H⟩
    | succ j ih =>
      intro i hi
      obtain ⟨y, hy, hy1, hy0⟩ := hb i (by omega)
      have hp := pos_nlt hm hh (i := i) (by omega)
      refine G.aloadN K D54_8_19 rfl rfl ?_
      refine G.getF K (host := "") (Or.inl (wd hw 24 rfl)) H (i := 0) rfl (j := 0) rfl rfl D54_8_20 ?_
      refine G.iload K D54_8_23 rfl ?_
      refine G.aload_i K H (i := 1) rfl (own_nneg hp) (by rw [own_nidx hp]; exact hy) D54_8_25 ?_
      refine G.iloadN K D54_8_26 rfl ?_
      refine G.icmp_eq K D54_8_27 (fun q => absurd q hy1) (fun q44 => ?_)
      refine G.aloadN K D54_8_30 rfl rfl ?_
      refine G.getF K (host := "") (Or.inl (wd hw 24 rfl)) H (i := 0) rfl (j := 0) rfl rfl D54_8_31 ?_
      refine G.iload K D54_8_34 rfl ?_
      refine G.aload_i K H (i := 1) rfl (own_nneg hp) (by rw [own_nidx hp]; exact hy) D54_8_36 ?_
      refine G.if_ne K D54_8_37 (fun q45 => ?_) (fun q => absurd q hy0)
      refine G.iload K D54_8_41 rfl ?_
      refine G.iconst K D54_8_43 1 rfl ?_
      refine G.iadd K D54_8_44 ?_
      refine G.iloadN K D54_8_45 rfl ?_
      refine G.iand K D54_8_46 ?_
      refine G.istore K D54_8_47 ([.val (.ref a), .val (.int key), .val (.int (Int32.ofNat (2 ^ m - 1))), .val (.int (key + 1)), .val (.int (((Int32.ofNat (pos (2 ^ m) (homeF m key) i)) + 1) &&& (Int32.ofNat (2 ^ m - 1)))), .unset, .unset, .unset]) rfl ?_
      refine G.goto K D54_8_49 ?_
      rw [own_mask1 hm (pos_lt hh (by omega)), pos_succ hh (by omega)]
      exact ih (i + 1) (by omega)
  exact loop D 0 (by omega)
theorem D2_0 : Dc method_2_code 0 (.iload_n 0) 1 1 := dc (by decide +kernel) rfl
theorem D2_1 : Dc method_2_code 1 (.iload_n 1) 1 2 := dc (by decide +kernel) rfl
theorem D2_2 : Db method_2_code 2 (.if_icmp .ne) 5 7 := db (5) (by decide +kernel) rfl (by decide) (by decide)
theorem D2_5 : Dc method_2_code 5 (.iconst (-1)) 1 6 := dc (by decide +kernel) rfl
theorem D2_6 : Dc method_2_code 6 (.ireturn) 1 7 := dc (by decide +kernel) rfl
theorem D2_7 : Dc method_2_code 7 (.iload_n 0) 1 8 := dc (by decide +kernel) rfl
theorem D2_8 : Dc method_2_code 8 (.iload 5) 2 10 := dc (by decide +kernel) rfl
theorem D2_10 : Db method_2_code 10 (.if_icmp .ne) 13 17 := db (7) (by decide +kernel) rfl (by decide) (by decide)
theorem D2_13 : Dc method_2_code 13 (.sipush 400) 3 16 := dc (by decide +kernel) rfl
theorem D2_16 : Dc method_2_code 16 (.ireturn) 1 17 := dc (by decide +kernel) rfl
theorem D2_17 : Dc method_2_code 17 (.iload_n 0) 1 18 := dc (by decide +kernel) rfl
theorem D2_18 : Dc method_2_code 18 (.iload 4) 2 20 := dc (by decide +kernel) rfl
theorem D2_20 : Db method_2_code 20 (.if_icmp .ne) 23 27 := db (7) (by decide +kernel) rfl (by decide) (by decide)
theorem D2_23 : Dc method_2_code 23 (.sipush 300) 3 26 := dc (by decide +kernel) rfl
theorem D2_26 : Dc method_2_code 26 (.ireturn) 1 27 := dc (by decide +kernel) rfl
theorem D2_27 : Dc method_2_code 27 (.iload_n 0) 1 28 := dc (by decide +kernel) rfl
theorem D2_28 : Dc method_2_code 28 (.iload_n 3) 1 29 := dc (by decide +kernel) rfl
theorem D2_29 : Db method_2_code 29 (.if_icmp .ne) 32 36 := db (7) (by decide +kernel) rfl (by decide) (by decide)
theorem D2_32 : Dc method_2_code 32 (.sipush 200) 3 35 := dc (by decide +kernel) rfl
theorem D2_35 : Dc method_2_code 35 (.ireturn) 1 36 := dc (by decide +kernel) rfl
theorem D2_36 : Dc method_2_code 36 (.iload_n 0) 1 37 := dc (by decide +kernel) rfl
theorem D2_37 : Dc method_2_code 37 (.iload_n 2) 1 38 := dc (by decide +kernel) rfl
theorem D2_38 : Db method_2_code 38 (.if_icmp .ne) 41 44 := db (6) (by decide +kernel) rfl (by decide) (by decide)
theorem D2_41 : Dc method_2_code 41 (.bipush 100) 2 43 := dc (by decide +kernel) rfl
theorem D2_43 : Dc method_2_code 43 (.ireturn) 1 44 := dc (by decide +kernel) rfl
theorem D2_44 : Dc method_2_code 44 (.iconst (-1)) 1 45 := dc (by decide +kernel) rfl
theorem D2_45 : Dc method_2_code 45 (.ireturn) 1 46 := dc (by decide +kernel) rfl
def aftF (x r k1 k2 k3 k4 : Int32) : Int32 := if x = r then -1 else if x = k4 then 400 else if x = k3 then 300 else if x = k2 then 200 else if x = k1 then 100 else -1
theorem pn_1 : plainName "org/sqcap/reasoner/IntMapRemovePinLaw" = true := by first | (simp [plainName, overriddenIn]; done) | decide +kernel
set_option maxRecDepth 65536 in
set_option maxHeartbeats 40000000 in
theorem ct_after (l : Launch) (Z : State) (a0 : Array Value) (hw : ∀ d ∈ tables_1, d.before a0 Z = true) (n0 : Nat) (h : Heap) (y r k1 k2 k3 k4 : Int32) :
    Ct l Z n0 (⟨"org/sqcap/reasoner/IntMapRemovePinLaw", "after", "(IIIIII)I"⟩ : MethodName) method_2_code 6 (some .int) ({ frames := 0, cells := 0, slots := 0, locals := 0 } : Room) [.int y, .int r, .int k1, .int k2, .int k3, .int k4] h (fun v h' => v = some (.int (aftF y r k1 k2 k3 k4)) ∧ h = h') := by
  refine Ct.intro (plainFor_of_name pn_1) [.val (.int y), .val (.int r), .val (.int k1), .val (.int k2), .val (.int k3), .val (.int k4)] (fun m => by first | (simp [entryFrame, mkF, argsToLocals, Value.category]; done) | (simp [entryFrame, mkF, argsToLocals, Value.category, maxLocals]; done) | rfl) ?_
  intro k hl K
  replace K : Ok k Z n0 "org/sqcap/reasoner/IntMapRemovePinLaw" ({ frames := 0, cells := 0, slots := 0, locals := 0 } : Room) method_2_code 6 (some .int) "after" := K
  refine G.iloadN K D2_0 rfl ?_
  refine G.iloadN K D2_1 rfl ?_
  refine G.icmp_ne K D2_2 (fun q46 => ?_) (fun q46 => ?_)
  · refine G.iloadN K D2_7 rfl ?_
    refine G.iload K D2_8 rfl ?_
    refine G.icmp_ne K D2_10 (fun q47 => ?_) (fun q47 => ?_)
    · refine G.iloadN K D2_17 rfl ?_
      refine G.iload K D2_18 rfl ?_
      refine G.icmp_ne K D2_20 (fun q48 => ?_) (fun q48 => ?_)
      · refine G.iloadN K D2_27 rfl ?_
        refine G.iloadN K D2_28 rfl ?_
        refine G.icmp_ne K D2_29 (fun q49 => ?_) (fun q49 => ?_)
        · refine G.iloadN K D2_36 rfl ?_
          refine G.iloadN K D2_37 rfl ?_
          refine G.icmp_ne K D2_38 (fun q50 => ?_) (fun q50 => ?_)
          · refine G.iconst K D2_44 (-1) rfl ?_
            refine G.ret_int K D2_45 ?_
            exact ⟨by rw [aftF, if_neg q46, if_neg q47, if_neg q48, if_neg q49, if_neg q50], rfl⟩
          · refine G.bipush K D2_41 100 rfl ?_
            refine G.ret_int K D2_43 ?_
            exact ⟨by rw [aftF, if_neg q46, if_neg q47, if_neg q48, if_neg q49, if_pos q50], rfl⟩
        · refine G.sipush K D2_32 200 rfl ?_
          refine G.ret_int K D2_35 ?_
          exact ⟨by rw [aftF, if_neg q46, if_neg q47, if_neg q48, if_pos q49], rfl⟩
      · refine G.sipush K D2_23 300 rfl ?_
        refine G.ret_int K D2_26 ?_
        exact ⟨by rw [aftF, if_neg q46, if_neg q47, if_pos q48], rfl⟩
    · refine G.sipush K D2_13 400 rfl ?_
      refine G.ret_int K D2_16 ?_
      exact ⟨by rw [aftF, if_neg q46, if_pos q47], rfl⟩
  · refine G.iconst K D2_5 (-1) rfl ?_
    refine G.ret_int K D2_6 ?_
    exact ⟨by rw [aftF, if_pos q46], rfl⟩
theorem Dx_0 : Dc code 0 (.iload_n 0) 1 1 := dc at_0 rfl
theorem Dx_1 : Dc code 1 (.ldc 9) 2 3 := dc at_1 rfl
theorem Dx_3 : Dc code 3 (.iand) 1 4 := dc at_3 rfl
theorem Dx_4 : Dc code 4 (.istore 6) 2 6 := dc at_4 rfl
theorem Dx_6 : Dc code 6 (.iload_n 1) 1 7 := dc at_6 rfl
theorem Dx_7 : Dc code 7 (.ldc 9) 2 9 := dc at_7 rfl
theorem Dx_9 : Dc code 9 (.iand) 1 10 := dc at_9 rfl
theorem Dx_10 : Dc code 10 (.istore 7) 2 12 := dc at_10 rfl
theorem Dx_12 : Dc code 12 (.iload_n 2) 1 13 := dc at_12 rfl
theorem Dx_13 : Dc code 13 (.ldc 9) 2 15 := dc at_13 rfl
theorem Dx_15 : Dc code 15 (.iand) 1 16 := dc at_15 rfl
theorem Dx_16 : Dc code 16 (.istore 8) 2 18 := dc at_16 rfl
theorem Dx_18 : Dc code 18 (.iload_n 3) 1 19 := dc at_18 rfl
theorem Dx_19 : Dc code 19 (.ldc 9) 2 21 := dc at_19 rfl
theorem Dx_21 : Dc code 21 (.iand) 1 22 := dc at_21 rfl
theorem Dx_22 : Dc code 22 (.istore 9) 2 24 := dc at_22 rfl
theorem Dx_24 : Dc code 24 (.iload 4) 2 26 := dc at_24 rfl
theorem Dx_26 : Dc code 26 (.ldc 9) 2 28 := dc at_26 rfl
theorem Dx_28 : Dc code 28 (.iand) 1 29 := dc at_28 rfl
theorem Dx_29 : Dc code 29 (.istore 10) 2 31 := dc at_29 rfl
theorem Dx_31 : Dc code 31 (.iload 5) 2 33 := dc at_31 rfl
theorem Dx_33 : Dc code 33 (.bipush 7) 2 35 := dc at_33 rfl
theorem Dx_35 : Dc code 35 (.iand) 1 36 := dc at_35 rfl
theorem Dx_36 : Dc code 36 (.istore 11) 2 38 := dc at_36 rfl
theorem Dx_38 : Dc code 38 (.iload 11) 2 40 := dc at_38 rfl
theorem Dx_40 : Db code 40 (.ifCond .ne) 43 50 := db (10) at_40 rfl (by decide) (by decide)
theorem Dx_43 : Dc code 43 (.iload 6) 2 45 := dc at_43 rfl
theorem Dx_45 : Dc code 45 (.istore 12) 2 47 := dc at_45 rfl
theorem Dx_47 : Db code 47 (.goto) 50 93 := db (46) at_47 rfl (by decide) (by decide)
theorem Dx_50 : Dc code 50 (.iload 11) 2 52 := dc at_50 rfl
theorem Dx_52 : Dc code 52 (.iconst 1) 1 53 := dc at_52 rfl
theorem Dx_53 : Db code 53 (.if_icmp .ne) 56 63 := db (10) at_53 rfl (by decide) (by decide)
theorem Dx_56 : Dc code 56 (.iload 7) 2 58 := dc at_56 rfl
theorem Dx_58 : Dc code 58 (.istore 12) 2 60 := dc at_58 rfl
theorem Dx_60 : Db code 60 (.goto) 63 93 := db (33) at_60 rfl (by decide) (by decide)
theorem Dx_63 : Dc code 63 (.iload 11) 2 65 := dc at_63 rfl
theorem Dx_65 : Dc code 65 (.iconst 2) 1 66 := dc at_65 rfl
theorem Dx_66 : Db code 66 (.if_icmp .ne) 69 76 := db (10) at_66 rfl (by decide) (by decide)
theorem Dx_69 : Dc code 69 (.iload 8) 2 71 := dc at_69 rfl
theorem Dx_71 : Dc code 71 (.istore 12) 2 73 := dc at_71 rfl
theorem Dx_73 : Db code 73 (.goto) 76 93 := db (20) at_73 rfl (by decide) (by decide)
theorem Dx_76 : Dc code 76 (.iload 11) 2 78 := dc at_76 rfl
theorem Dx_78 : Dc code 78 (.iconst 3) 1 79 := dc at_78 rfl
theorem Dx_79 : Db code 79 (.if_icmp .ne) 82 89 := db (10) at_79 rfl (by decide) (by decide)
theorem Dx_82 : Dc code 82 (.iload 9) 2 84 := dc at_82 rfl
theorem Dx_84 : Dc code 84 (.istore 12) 2 86 := dc at_84 rfl
theorem Dx_86 : Db code 86 (.goto) 89 93 := db (7) at_86 rfl (by decide) (by decide)
theorem Dx_89 : Dc code 89 (.iload 10) 2 91 := dc at_89 rfl
theorem Dx_91 : Dc code 91 (.istore 12) 2 93 := dc at_91 rfl
theorem Dx_93 : Dc code 93 (.new 7) 3 96 := dc at_93 rfl
theorem Dx_96 : Dc code 96 (.dup) 1 97 := dc at_96 rfl
theorem Dx_97 : Dc code 97 (.iconst 4) 1 98 := dc at_97 rfl
theorem Dx_98 : Dc code 98 (.invokespecial 10) 3 101 := dc at_98 rfl
theorem Dx_101 : Dc code 101 (.astore 13) 2 103 := dc at_101 rfl
theorem Dx_103 : Dc code 103 (.aload 13) 2 105 := dc at_103 rfl
theorem Dx_105 : Dc code 105 (.iload 6) 2 107 := dc at_105 rfl
theorem Dx_107 : Dc code 107 (.bipush 100) 2 109 := dc at_107 rfl
theorem Dx_109 : Dc code 109 (.invokevirtual 13) 3 112 := dc at_109 rfl
theorem Dx_112 : Dc code 112 (.pop) 1 113 := dc at_112 rfl
theorem Dx_113 : Dc code 113 (.aload 13) 2 115 := dc at_113 rfl
theorem Dx_115 : Dc code 115 (.iload 7) 2 117 := dc at_115 rfl
theorem Dx_117 : Dc code 117 (.sipush 200) 3 120 := dc at_117 rfl
theorem Dx_120 : Dc code 120 (.invokevirtual 13) 3 123 := dc at_120 rfl
theorem Dx_123 : Dc code 123 (.pop) 1 124 := dc at_123 rfl
theorem Dx_124 : Dc code 124 (.aload 13) 2 126 := dc at_124 rfl
theorem Dx_126 : Dc code 126 (.iload 8) 2 128 := dc at_126 rfl
theorem Dx_128 : Dc code 128 (.sipush 300) 3 131 := dc at_128 rfl
theorem Dx_131 : Dc code 131 (.invokevirtual 13) 3 134 := dc at_131 rfl
theorem Dx_134 : Dc code 134 (.pop) 1 135 := dc at_134 rfl
theorem Dx_135 : Dc code 135 (.aload 13) 2 137 := dc at_135 rfl
theorem Dx_137 : Dc code 137 (.iload 9) 2 139 := dc at_137 rfl
theorem Dx_139 : Dc code 139 (.sipush 400) 3 142 := dc at_139 rfl
theorem Dx_142 : Dc code 142 (.invokevirtual 13) 3 145 := dc at_142 rfl
theorem Dx_145 : Dc code 145 (.pop) 1 146 := dc at_145 rfl
theorem Dx_146 : Dc code 146 (.aload 13) 2 148 := dc at_146 rfl
theorem Dx_148 : Dc code 148 (.iload 12) 2 150 := dc at_148 rfl
theorem Dx_150 : Dc code 150 (.invokevirtual 17) 3 153 := dc at_150 rfl
theorem Dx_153 : Dc code 153 (.aload 13) 2 155 := dc at_153 rfl
theorem Dx_155 : Dc code 155 (.iload 6) 2 157 := dc at_155 rfl
theorem Dx_157 : Dc code 157 (.invokevirtual 20) 3 160 := dc at_157 rfl
theorem Dx_160 : Dc code 160 (.iload 6) 2 162 := dc at_160 rfl
theorem Dx_162 : Dc code 162 (.iload 12) 2 164 := dc at_162 rfl
theorem Dx_164 : Dc code 164 (.iload 6) 2 166 := dc at_164 rfl
theorem Dx_166 : Dc code 166 (.iload 7) 2 168 := dc at_166 rfl
theorem Dx_168 : Dc code 168 (.iload 8) 2 170 := dc at_168 rfl
theorem Dx_170 : Dc code 170 (.iload 9) 2 172 := dc at_170 rfl
theorem Dx_172 : Dc code 172 (.invokestatic 24) 3 175 := dc at_172 rfl
theorem Dx_175 : Db code 175 (.if_icmp .ne) 178 182 := db (7) at_175 rfl (by decide) (by decide)
theorem Dx_178 : Dc code 178 (.iconst 1) 1 179 := dc at_178 rfl
theorem Dx_179 : Db code 179 (.goto) 182 183 := db (4) at_179 rfl (by decide) (by decide)
theorem Dx_182 : Dc code 182 (.iconst 0) 1 183 := dc at_182 rfl
theorem Dx_183 : Dc code 183 (.istore 14) 2 185 := dc at_183 rfl
theorem Dx_185 : Dc code 185 (.aload 13) 2 187 := dc at_185 rfl
theorem Dx_187 : Dc code 187 (.iload 7) 2 189 := dc at_187 rfl
theorem Dx_189 : Dc code 189 (.invokevirtual 20) 3 192 := dc at_189 rfl
theorem Dx_192 : Dc code 192 (.iload 7) 2 194 := dc at_192 rfl
theorem Dx_194 : Dc code 194 (.iload 12) 2 196 := dc at_194 rfl
theorem Dx_196 : Dc code 196 (.iload 6) 2 198 := dc at_196 rfl
theorem Dx_198 : Dc code 198 (.iload 7) 2 200 := dc at_198 rfl
theorem Dx_200 : Dc code 200 (.iload 8) 2 202 := dc at_200 rfl
theorem Dx_202 : Dc code 202 (.iload 9) 2 204 := dc at_202 rfl
theorem Dx_204 : Dc code 204 (.invokestatic 24) 3 207 := dc at_204 rfl
theorem Dx_207 : Db code 207 (.if_icmp .ne) 210 214 := db (7) at_207 rfl (by decide) (by decide)
theorem Dx_210 : Dc code 210 (.iconst 1) 1 211 := dc at_210 rfl
theorem Dx_211 : Db code 211 (.goto) 214 215 := db (4) at_211 rfl (by decide) (by decide)
theorem Dx_214 : Dc code 214 (.iconst 0) 1 215 := dc at_214 rfl
theorem Dx_215 : Dc code 215 (.istore 15) 2 217 := dc at_215 rfl
theorem Dx_217 : Dc code 217 (.aload 13) 2 219 := dc at_217 rfl
theorem Dx_219 : Dc code 219 (.iload 8) 2 221 := dc at_219 rfl
theorem Dx_221 : Dc code 221 (.invokevirtual 20) 3 224 := dc at_221 rfl
theorem Dx_224 : Dc code 224 (.iload 8) 2 226 := dc at_224 rfl
theorem Dx_226 : Dc code 226 (.iload 12) 2 228 := dc at_226 rfl
theorem Dx_228 : Dc code 228 (.iload 6) 2 230 := dc at_228 rfl
theorem Dx_230 : Dc code 230 (.iload 7) 2 232 := dc at_230 rfl
theorem Dx_232 : Dc code 232 (.iload 8) 2 234 := dc at_232 rfl
theorem Dx_234 : Dc code 234 (.iload 9) 2 236 := dc at_234 rfl
theorem Dx_236 : Dc code 236 (.invokestatic 24) 3 239 := dc at_236 rfl
theorem Dx_239 : Db code 239 (.if_icmp .ne) 242 246 := db (7) at_239 rfl (by decide) (by decide)
theorem Dx_242 : Dc code 242 (.iconst 1) 1 243 := dc at_242 rfl
theorem Dx_243 : Db code 243 (.goto) 246 247 := db (4) at_243 rfl (by decide) (by decide)
theorem Dx_246 : Dc code 246 (.iconst 0) 1 247 := dc at_246 rfl
theorem Dx_247 : Dc code 247 (.istore 16) 2 249 := dc at_247 rfl
theorem Dx_249 : Dc code 249 (.aload 13) 2 251 := dc at_249 rfl
theorem Dx_251 : Dc code 251 (.iload 9) 2 253 := dc at_251 rfl
theorem Dx_253 : Dc code 253 (.invokevirtual 20) 3 256 := dc at_253 rfl
theorem Dx_256 : Dc code 256 (.iload 9) 2 258 := dc at_256 rfl
theorem Dx_258 : Dc code 258 (.iload 12) 2 260 := dc at_258 rfl
theorem Dx_260 : Dc code 260 (.iload 6) 2 262 := dc at_260 rfl
theorem Dx_262 : Dc code 262 (.iload 7) 2 264 := dc at_262 rfl
theorem Dx_264 : Dc code 264 (.iload 8) 2 266 := dc at_264 rfl
theorem Dx_266 : Dc code 266 (.iload 9) 2 268 := dc at_266 rfl
theorem Dx_268 : Dc code 268 (.invokestatic 24) 3 271 := dc at_268 rfl
theorem Dx_271 : Db code 271 (.if_icmp .ne) 274 278 := db (7) at_271 rfl (by decide) (by decide)
theorem Dx_274 : Dc code 274 (.iconst 1) 1 275 := dc at_274 rfl
theorem Dx_275 : Db code 275 (.goto) 278 279 := db (4) at_275 rfl (by decide) (by decide)
theorem Dx_278 : Dc code 278 (.iconst 0) 1 279 := dc at_278 rfl
theorem Dx_279 : Dc code 279 (.istore 17) 2 281 := dc at_279 rfl
theorem Dx_281 : Dc code 281 (.aload 13) 2 283 := dc at_281 rfl
theorem Dx_283 : Dc code 283 (.iload 12) 2 285 := dc at_283 rfl
theorem Dx_285 : Dc code 285 (.invokevirtual 20) 3 288 := dc at_285 rfl
theorem Dx_288 : Dc code 288 (.iconst (-1)) 1 289 := dc at_288 rfl
theorem Dx_289 : Db code 289 (.if_icmp .ne) 292 296 := db (7) at_289 rfl (by decide) (by decide)
theorem Dx_292 : Dc code 292 (.iconst 1) 1 293 := dc at_292 rfl
theorem Dx_293 : Db code 293 (.goto) 296 297 := db (4) at_293 rfl (by decide) (by decide)
theorem Dx_296 : Dc code 296 (.iconst 0) 1 297 := dc at_296 rfl
theorem Dx_297 : Dc code 297 (.istore 18) 2 299 := dc at_297 rfl
theorem Dx_299 : Dc code 299 (.iload 14) 2 301 := dc at_299 rfl
theorem Dx_301 : Db code 301 (.ifCond .eq) 304 328 := db (27) at_301 rfl (by decide) (by decide)
theorem Dx_304 : Dc code 304 (.iload 15) 2 306 := dc at_304 rfl
theorem Dx_306 : Db code 306 (.ifCond .eq) 309 328 := db (22) at_306 rfl (by decide) (by decide)
theorem Dx_309 : Dc code 309 (.iload 16) 2 311 := dc at_309 rfl
theorem Dx_311 : Db code 311 (.ifCond .eq) 314 328 := db (17) at_311 rfl (by decide) (by decide)
theorem Dx_314 : Dc code 314 (.iload 17) 2 316 := dc at_314 rfl
theorem Dx_316 : Db code 316 (.ifCond .eq) 319 328 := db (12) at_316 rfl (by decide) (by decide)
theorem Dx_319 : Dc code 319 (.iload 18) 2 321 := dc at_319 rfl
theorem Dx_321 : Db code 321 (.ifCond .eq) 324 328 := db (7) at_321 rfl (by decide) (by decide)
theorem Dx_324 : Dc code 324 (.iconst 1) 1 325 := dc at_324 rfl
theorem Dx_325 : Db code 325 (.goto) 328 329 := db (4) at_325 rfl (by decide) (by decide)
theorem Dx_328 : Dc code 328 (.iconst 0) 1 329 := dc at_328 rfl
theorem Dx_329 : Dc code 329 (.ireturn) 1 330 := dc at_329 rfl
set_option maxRecDepth 65536 in
set_option maxHeartbeats 40000000 in
theorem ct_law (l : Launch) (Z : State) (a0 : Array Value) (hw : ∀ d ∈ tables_1, d.before a0 Z = true) (n0 : Nat) (h : Heap) (p0 p1 p2 p3 p4 p5 : Int32) :
    Ct l Z n0 x code maxLocals ret room_1 [.int p0, .int p1, .int p2, .int p3, .int p4, .int p5] h (fun v h' => v = some (.int 1)) := by
  refine Ct.intro (plainFor_of_name pn_1) [.val (.int p0), .val (.int p1), .val (.int p2), .val (.int p3), .val (.int p4), .val (.int p5), .unset, .unset, .unset, .unset, .unset, .unset, .unset, .unset, .unset, .unset, .unset, .unset, .unset] (fun m => by first | (simp [entryFrame, mkF, argsToLocals, Value.category]; done) | (simp [entryFrame, mkF, argsToLocals, Value.category, maxLocals]; done) | rfl) ?_
  intro k hl K
  replace K : Ok k Z n0 "org/sqcap/reasoner/IntMapRemovePinLaw" room_1 code 19 (some .boolean) "law" := K
  refine G.iloadN K Dx_0 rfl ?_
  refine G.ldcI K Dx_1 (wd hw 0 rfl) ?_
  refine G.iand K Dx_3 ?_
  refine G.istore K Dx_4 ([.val (.int p0), .val (.int p1), .val (.int p2), .val (.int p3), .val (.int p4), .val (.int p5), .val (.int (p0 &&& 2147483647)), .unset, .unset, .unset, .unset, .unset, .unset, .unset, .unset, .unset, .unset, .unset, .unset]) rfl ?_
  refine G.iloadN K Dx_6 rfl ?_
  refine G.ldcI K Dx_7 (wd hw 0 rfl) ?_
  refine G.iand K Dx_9 ?_
  refine G.istore K Dx_10 ([.val (.int p0), .val (.int p1), .val (.int p2), .val (.int p3), .val (.int p4), .val (.int p5), .val (.int (p0 &&& 2147483647)), .val (.int (p1 &&& 2147483647)), .unset, .unset, .unset, .unset, .unset, .unset, .unset, .unset, .unset, .unset, .unset]) rfl ?_
  refine G.iloadN K Dx_12 rfl ?_
  refine G.ldcI K Dx_13 (wd hw 0 rfl) ?_
  refine G.iand K Dx_15 ?_
  refine G.istore K Dx_16 ([.val (.int p0), .val (.int p1), .val (.int p2), .val (.int p3), .val (.int p4), .val (.int p5), .val (.int (p0 &&& 2147483647)), .val (.int (p1 &&& 2147483647)), .val (.int (p2 &&& 2147483647)), .unset, .unset, .unset, .unset, .unset, .unset, .unset, .unset, .unset, .unset]) rfl ?_
  refine G.iloadN K Dx_18 rfl ?_
  refine G.ldcI K Dx_19 (wd hw 0 rfl) ?_
  refine G.iand K Dx_21 ?_
  refine G.istore K Dx_22 ([.val (.int p0), .val (.int p1), .val (.int p2), .val (.int p3), .val (.int p4), .val (.int p5), .val (.int (p0 &&& 2147483647)), .val (.int (p1 &&& 2147483647)), .val (.int (p2 &&& 2147483647)), .val (.int (p3 &&& 2147483647)), .unset, .unset, .unset, .unset, .unset, .unset, .unset, .unset, .unset]) rfl ?_
  refine G.iload K Dx_24 rfl ?_
  refine G.ldcI K Dx_26 (wd hw 0 rfl) ?_
  refine G.iand K Dx_28 ?_
  refine G.istore K Dx_29 ([.val (.int p0), .val (.int p1), .val (.int p2), .val (.int p3), .val (.int p4), .val (.int p5), .val (.int (p0 &&& 2147483647)), .val (.int (p1 &&& 2147483647)), .val (.int (p2 &&& 2147483647)), .val (.int (p3 &&& 2147483647)), .val (.int (p4 &&& 2147483647)), .unset, .unset, .unset, .unset, .unset, .unset, .unset, .unset]) rfl ?_
  refine G.iload K Dx_31 rfl ?_
  refine G.bipush K Dx_33 7 rfl ?_
  refine G.iand K Dx_35 ?_
  refine G.istore K Dx_36 ([.val (.int p0), .val (.int p1), .val (.int p2), .val (.int p3), .val (.int p4), .val (.int p5), .val (.int (p0 &&& 2147483647)), .val (.int (p1 &&& 2147483647)), .val (.int (p2 &&& 2147483647)), .val (.int (p3 &&& 2147483647)), .val (.int (p4 &&& 2147483647)), .val (.int (p5 &&& 7)), .unset, .unset, .unset, .unset, .unset, .unset, .unset]) rfl ?_
  have tail : ∀ r : Int32, r + 1 ≠ 0 → G k n0 (fun v h' => v = some (.int 1)) h 0 0 93 [.val (.int p0), .val (.int p1), .val (.int p2), .val (.int p3), .val (.int p4), .val (.int p5), .val (.int (p0 &&& 2147483647)), .val (.int (p1 &&& 2147483647)), .val (.int (p2 &&& 2147483647)), .val (.int (p3 &&& 2147483647)), .val (.int (p4 &&& 2147483647)), .val (.int (p5 &&& 7)), .val (.int r), .unset, .unset, .unset, .unset, .unset, .unset] [] := by
    intro r hr
    refine G.new K (wd hw 1 rfl) (wd hw 2 rfl) (wd hw 3 rfl) (cf_NSM hw) (vs := [.null, .null, .int 0]) (by rfl) (Hp.nil (n0 := n0) (h := h)) (by decide) (by decide) Dx_93 ?_
    intro a51 h52 H52
    change Hp n0 h52 [(a51, Ob Z "org/sqcap/reasoner/IntMap" NSM [.null, .null, .int 0])] at H52
    refine G.dup K Dx_96 rfl ?_
    refine G.iconst K Dx_97 4 rfl ?_
    refine G.callI K hl rfl (wd hw 4 rfl) (wd hw 5 rfl) (wd hw 3 rfl) (wd hw 6 rfl) (by decide) pd_3 (ct_init l Z a0 hw n0 h52 a51 4 3 [] (by decide) (by decide +kernel) H52) 1 rfl (by decide) (by decide) (by decide) (by decide) rfl rfl [.int 4] rfl Dx_98 ?_
    rintro _ h53 ⟨rfl, ka53, va53, H53⟩
    have T53 := Tab.empty (c := 2 ^ 3) (own_home_lt 3)
    have t53 : taken (List.replicate (2 ^ 3) 0) ≤ 0 := by rw [taken_zero]; exact Nat.le_refl _
    replace H53 : Hp n0 h53 [(a51, Ob Z "org/sqcap/reasoner/IntMap" NSM [.ref ka53, .ref va53, .int (Int32.ofNat (taken (List.replicate (2 ^ 3) 0)))]), (ka53, Ia Z (List.replicate (2 ^ 3) 0)), (va53, Ia Z (List.replicate (2 ^ 3) 0))] := by rw [taken_zero]; exact H53
    change G k n0 _ h53 _ _ 101 [.val (.int p0), .val (.int p1), .val (.int p2), .val (.int p3), .val (.int p4), .val (.int p5), .val (.int (p0 &&& 2147483647)), .val (.int (p1 &&& 2147483647)), .val (.int (p2 &&& 2147483647)), .val (.int (p3 &&& 2147483647)), .val (.int (p4 &&& 2147483647)), .val (.int (p5 &&& 7)), .val (.int r), .unset, .unset, .unset, .unset, .unset, .unset] [.ref a51]
    refine G.astore K Dx_101 rfl ([.val (.int p0), .val (.int p1), .val (.int p2), .val (.int p3), .val (.int p4), .val (.int p5), .val (.int (p0 &&& 2147483647)), .val (.int (p1 &&& 2147483647)), .val (.int (p2 &&& 2147483647)), .val (.int (p3 &&& 2147483647)), .val (.int (p4 &&& 2147483647)), .val (.int (p5 &&& 7)), .val (.int r), .val (.ref a51), .unset, .unset, .unset, .unset, .unset]) rfl ?_
    refine G.aload K Dx_103 rfl rfl ?_
    refine G.iload K Dx_105 rfl ?_
    refine G.bipush K Dx_107 100 rfl ?_
    have H54 : Hp n0 h53 [(va53, Ia Z (List.replicate (2 ^ 3) 0)), (a51, Ob Z "org/sqcap/reasoner/IntMap" NSM [.ref ka53, .ref va53, .int (Int32.ofNat (taken (List.replicate (2 ^ 3) 0)))]), (ka53, Ia Z (List.replicate (2 ^ 3) 0))] := H53.pull 2 rfl
    have H55 : Hp n0 h53 [(ka53, Ia Z (List.replicate (2 ^ 3) 0)), (va53, Ia Z (List.replicate (2 ^ 3) 0)), (a51, Ob Z "org/sqcap/reasoner/IntMap" NSM [.ref ka53, .ref va53, .int (Int32.ofNat (taken (List.replicate (2 ^ 3) 0)))])] := H54.pull 2 rfl
    have H56 : Hp n0 h53 [(a51, Ob Z "org/sqcap/reasoner/IntMap" NSM [.ref ka53, .ref va53, .int (Int32.ofNat (taken (List.replicate (2 ^ 3) 0)))]), (ka53, Ia Z (List.replicate (2 ^ 3) 0)), (va53, Ia Z (List.replicate (2 ^ 3) 0))] := H55.pull 2 rfl
    refine G.callV K hl (wd hw 28 rfl) (wd hw 29 rfl) (wd hw 31 rfl) (wd hw 30 rfl) (wd hw 3 rfl) (wd hw 32 rfl) (by decide) pd_1 (H56.exa (i := 0) rfl) (ct_put l Z a0 hw n0 h53 a51 ka53 va53 (List.replicate (2 ^ 3) 0) (List.replicate (2 ^ 3) 0) 3 (fun _ => none) (p0 &&& 2147483647) 100 [] (by decide) (by decide) T53 (by have := t53; omega) (own_k1 _) H56) 0 rfl (by decide) (by decide) (by decide) (by decide) rfl rfl [.int 100, .int (p0 &&& 2147483647)] rfl Dx_109 ?_
    rintro _ h57 ⟨r57, ks57, vs57, rfl, T57, u57, H57⟩
    have t57 : taken ks57 ≤ 1 := by omega
    change G k n0 _ h57 _ _ 112 [.val (.int p0), .val (.int p1), .val (.int p2), .val (.int p3), .val (.int p4), .val (.int p5), .val (.int (p0 &&& 2147483647)), .val (.int (p1 &&& 2147483647)), .val (.int (p2 &&& 2147483647)), .val (.int (p3 &&& 2147483647)), .val (.int (p4 &&& 2147483647)), .val (.int (p5 &&& 7)), .val (.int r), .val (.ref a51), .unset, .unset, .unset, .unset, .unset] [.int r57]
    refine G.pop K Dx_112 rfl ?_
    refine G.aload K Dx_113 rfl rfl ?_
    refine G.iload K Dx_115 rfl ?_
    refine G.sipush K Dx_117 200 rfl ?_
    have H58 : Hp n0 h57 [(va53, Ia Z vs57), (a51, Ob Z "org/sqcap/reasoner/IntMap" NSM [.ref ka53, .ref va53, .int (Int32.ofNat (taken ks57))]), (ka53, Ia Z ks57)] := H57.pull 2 rfl
    have H59 : Hp n0 h57 [(ka53, Ia Z ks57), (va53, Ia Z vs57), (a51, Ob Z "org/sqcap/reasoner/IntMap" NSM [.ref ka53, .ref va53, .int (Int32.ofNat (taken ks57))])] := H58.pull 2 rfl
    have H60 : Hp n0 h57 [(a51, Ob Z "org/sqcap/reasoner/IntMap" NSM [.ref ka53, .ref va53, .int (Int32.ofNat (taken ks57))]), (ka53, Ia Z ks57), (va53, Ia Z vs57)] := H59.pull 2 rfl
    refine G.callV K hl (wd hw 28 rfl) (wd hw 29 rfl) (wd hw 31 rfl) (wd hw 30 rfl) (wd hw 3 rfl) (wd hw 32 rfl) (by decide) pd_1 (H60.exa (i := 0) rfl) (ct_put l Z a0 hw n0 h57 a51 ka53 va53 ks57 vs57 3 (upd (fun _ => none) (p0 &&& 2147483647) 100) (p1 &&& 2147483647) 200 [] (by decide) (by decide) T57 (by have := t57; omega) (own_k1 _) H60) 0 rfl (by decide) (by decide) (by decide) (by decide) rfl rfl [.int 200, .int (p1 &&& 2147483647)] rfl Dx_120 ?_
    rintro _ h61 ⟨r61, ks61, vs61, rfl, T61, u61, H61⟩
    have t61 : taken ks61 ≤ 2 := by omega
    change G k n0 _ h61 _ _ 123 [.val (.int p0), .val (.int p1), .val (.int p2), .val (.int p3), .val (.int p4), .val (.int p5), .val (.int (p0 &&& 2147483647)), .val (.int (p1 &&& 2147483647)), .val (.int (p2 &&& 2147483647)), .val (.int (p3 &&& 2147483647)), .val (.int (p4 &&& 2147483647)), .val (.int (p5 &&& 7)), .val (.int r), .val (.ref a51), .unset, .unset, .unset, .unset, .unset] [.int r61]
    refine G.pop K Dx_123 rfl ?_
    refine G.aload K Dx_124 rfl rfl ?_
    refine G.iload K Dx_126 rfl ?_
    refine G.sipush K Dx_128 300 rfl ?_
    have H62 : Hp n0 h61 [(va53, Ia Z vs61), (a51, Ob Z "org/sqcap/reasoner/IntMap" NSM [.ref ka53, .ref va53, .int (Int32.ofNat (taken ks61))]), (ka53, Ia Z ks61)] := H61.pull 2 rfl
    have H63 : Hp n0 h61 [(ka53, Ia Z ks61), (va53, Ia Z vs61), (a51, Ob Z "org/sqcap/reasoner/IntMap" NSM [.ref ka53, .ref va53, .int (Int32.ofNat (taken ks61))])] := H62.pull 2 rfl
    have H64 : Hp n0 h61 [(a51, Ob Z "org/sqcap/reasoner/IntMap" NSM [.ref ka53, .ref va53, .int (Int32.ofNat (taken ks61))]), (ka53, Ia Z ks61), (va53, Ia Z vs61)] := H63.pull 2 rfl
    refine G.callV K hl (wd hw 28 rfl) (wd hw 29 rfl) (wd hw 31 rfl) (wd hw 30 rfl) (wd hw 3 rfl) (wd hw 32 rfl) (by decide) pd_1 (H64.exa (i := 0) rfl) (ct_put l Z a0 hw n0 h61 a51 ka53 va53 ks61 vs61 3 (upd (upd (fun _ => none) (p0 &&& 2147483647) 100) (p1 &&& 2147483647) 200) (p2 &&& 2147483647) 300 [] (by decide) (by decide) T61 (by have := t61; omega) (own_k1 _) H64) 0 rfl (by decide) (by decide) (by decide) (by decide) rfl rfl [.int 300, .int (p2 &&& 2147483647)] rfl Dx_131 ?_
    rintro _ h65 ⟨r65, ks65, vs65, rfl, T65, u65, H65⟩
    have t65 : taken ks65 ≤ 3 := by omega
    change G k n0 _ h65 _ _ 134 [.val (.int p0), .val (.int p1), .val (.int p2), .val (.int p3), .val (.int p4), .val (.int p5), .val (.int (p0 &&& 2147483647)), .val (.int (p1 &&& 2147483647)), .val (.int (p2 &&& 2147483647)), .val (.int (p3 &&& 2147483647)), .val (.int (p4 &&& 2147483647)), .val (.int (p5 &&& 7)), .val (.int r), .val (.ref a51), .unset, .unset, .unset, .unset, .unset] [.int r65]
    refine G.pop K Dx_134 rfl ?_
    refine G.aload K Dx_135 rfl rfl ?_
    refine G.iload K Dx_137 rfl ?_
    refine G.sipush K Dx_139 400 rfl ?_
    have H66 : Hp n0 h65 [(va53, Ia Z vs65), (a51, Ob Z "org/sqcap/reasoner/IntMap" NSM [.ref ka53, .ref va53, .int (Int32.ofNat (taken ks65))]), (ka53, Ia Z ks65)] := H65.pull 2 rfl
    have H67 : Hp n0 h65 [(ka53, Ia Z ks65), (va53, Ia Z vs65), (a51, Ob Z "org/sqcap/reasoner/IntMap" NSM [.ref ka53, .ref va53, .int (Int32.ofNat (taken ks65))])] := H66.pull 2 rfl
    have H68 : Hp n0 h65 [(a51, Ob Z "org/sqcap/reasoner/IntMap" NSM [.ref ka53, .ref va53, .int (Int32.ofNat (taken ks65))]), (ka53, Ia Z ks65), (va53, Ia Z vs65)] := H67.pull 2 rfl
    refine G.callV K hl (wd hw 28 rfl) (wd hw 29 rfl) (wd hw 31 rfl) (wd hw 30 rfl) (wd hw 3 rfl) (wd hw 32 rfl) (by decide) pd_1 (H68.exa (i := 0) rfl) (ct_put l Z a0 hw n0 h65 a51 ka53 va53 ks65 vs65 3 (upd (upd (upd (fun _ => none) (p0 &&& 2147483647) 100) (p1 &&& 2147483647) 200) (p2 &&& 2147483647) 300) (p3 &&& 2147483647) 400 [] (by decide) (by decide) T65 (by have := t65; omega) (own_k1 _) H68) 0 rfl (by decide) (by decide) (by decide) (by decide) rfl rfl [.int 400, .int (p3 &&& 2147483647)] rfl Dx_142 ?_
    rintro _ h69 ⟨r69, ks69, vs69, rfl, T69, u69, H69⟩
    have t69 : taken ks69 ≤ 4 := by omega
    change G k n0 _ h69 _ _ 145 [.val (.int p0), .val (.int p1), .val (.int p2), .val (.int p3), .val (.int p4), .val (.int p5), .val (.int (p0 &&& 2147483647)), .val (.int (p1 &&& 2147483647)), .val (.int (p2 &&& 2147483647)), .val (.int (p3 &&& 2147483647)), .val (.int (p4 &&& 2147483647)), .val (.int (p5 &&& 7)), .val (.int r), .val (.ref a51), .unset, .unset, .unset, .unset, .unset] [.int r69]
    refine G.pop K Dx_145 rfl ?_
    refine G.aload K Dx_146 rfl rfl ?_
    refine G.iload K Dx_148 rfl ?_
    have H70 : Hp n0 h69 [(va53, Ia Z vs69), (a51, Ob Z "org/sqcap/reasoner/IntMap" NSM [.ref ka53, .ref va53, .int (Int32.ofNat (taken ks69))]), (ka53, Ia Z ks69)] := H69.pull 2 rfl
    have H71 : Hp n0 h69 [(ka53, Ia Z ks69), (va53, Ia Z vs69), (a51, Ob Z "org/sqcap/reasoner/IntMap" NSM [.ref ka53, .ref va53, .int (Int32.ofNat (taken ks69))])] := H70.pull 2 rfl
    have H72 : Hp n0 h69 [(a51, Ob Z "org/sqcap/reasoner/IntMap" NSM [.ref ka53, .ref va53, .int (Int32.ofNat (taken ks69))]), (ka53, Ia Z ks69), (va53, Ia Z vs69)] := H71.pull 2 rfl
    refine G.callV K hl (wd hw 43 rfl) (wd hw 44 rfl) (wd hw 46 rfl) (wd hw 45 rfl) (wd hw 3 rfl) (wd hw 47 rfl) (by decide) pd_3 (H72.exa (i := 0) rfl) (ct_remove l Z a0 hw n0 h69 a51 ka53 va53 ks69 vs69 (Int32.ofNat (taken ks69)) 3 (upd (upd (upd (upd (fun _ => none) (p0 &&& 2147483647) 100) (p1 &&& 2147483647) 200) (p2 &&& 2147483647) 300) (p3 &&& 2147483647) 400) r [] (by decide) (by decide) T69 (has_zero (by rw [T69.1]; have := (rfl : (2 : Nat) ^ 3 = 8); omega)) hr H72) 0 rfl (by decide) (by decide) (by decide) (by decide) rfl rfl [.int r] rfl Dx_150 ?_
    rintro _ h73 ⟨rfl, sz73, ks73, vs73, T73, z73, H73⟩
    change G k n0 _ h73 _ _ 153 [.val (.int p0), .val (.int p1), .val (.int p2), .val (.int p3), .val (.int p4), .val (.int p5), .val (.int (p0 &&& 2147483647)), .val (.int (p1 &&& 2147483647)), .val (.int (p2 &&& 2147483647)), .val (.int (p3 &&& 2147483647)), .val (.int (p4 &&& 2147483647)), .val (.int (p5 &&& 7)), .val (.int r), .val (.ref a51), .unset, .unset, .unset, .unset, .unset] []
    refine G.aload K Dx_153 rfl rfl ?_
    refine G.iload K Dx_155 rfl ?_
    have H74 : Hp n0 h73 [(va53, Ia Z vs73), (a51, Ob Z "org/sqcap/reasoner/IntMap" NSM [.ref ka53, .ref va53, .int sz73]), (ka53, Ia Z ks73)] := H73.pull 2 rfl
    have H75 : Hp n0 h73 [(ka53, Ia Z ks73), (va53, Ia Z vs73), (a51, Ob Z "org/sqcap/reasoner/IntMap" NSM [.ref ka53, .ref va53, .int sz73])] := H74.pull 2 rfl
    have H76 : Hp n0 h73 [(a51, Ob Z "org/sqcap/reasoner/IntMap" NSM [.ref ka53, .ref va53, .int sz73]), (ka53, Ia Z ks73), (va53, Ia Z vs73)] := H75.pull 2 rfl
    refine G.callV K hl (wd hw 48 rfl) (wd hw 49 rfl) (wd hw 51 rfl) (wd hw 50 rfl) (wd hw 3 rfl) (wd hw 52 rfl) (by decide) pd_0 (H76.exa (i := 0) rfl) (ct_get l Z a0 hw n0 h73 a51 ka53 va53 ks73 vs73 sz73 3 (del (upd (upd (upd (upd (fun _ => none) (p0 &&& 2147483647) 100) (p1 &&& 2147483647) 200) (p2 &&& 2147483647) 300) (p3 &&& 2147483647) 400) r) (p0 &&& 2147483647) (by decide) T73 z73 (own_k1 _) [] H76) 0 rfl (by decide) (by decide) (by decide) (by decide) rfl rfl [.int (p0 &&& 2147483647)] rfl Dx_157 ?_
    rintro _ h77 ⟨rfl, H77⟩
    change G k n0 _ h77 _ _ 160 [.val (.int p0), .val (.int p1), .val (.int p2), .val (.int p3), .val (.int p4), .val (.int p5), .val (.int (p0 &&& 2147483647)), .val (.int (p1 &&& 2147483647)), .val (.int (p2 &&& 2147483647)), .val (.int (p3 &&& 2147483647)), .val (.int (p4 &&& 2147483647)), .val (.int (p5 &&& 7)), .val (.int r), .val (.ref a51), .unset, .unset, .unset, .unset, .unset] [.int (((del (upd (upd (upd (upd (fun _ => none) (p0 &&& 2147483647) 100) (p1 &&& 2147483647) 200) (p2 &&& 2147483647) 300) (p3 &&& 2147483647) 400) r) (p0 &&& 2147483647)).getD (-1))]
    refine G.iload K Dx_160 rfl ?_
    refine G.iload K Dx_162 rfl ?_
    refine G.iload K Dx_164 rfl ?_
    refine G.iload K Dx_166 rfl ?_
    refine G.iload K Dx_168 rfl ?_
    refine G.iload K Dx_170 rfl ?_
    refine G.callS K hl (wd hw 53 rfl) (wd hw 54 rfl) (wd hw 55 rfl) (wd hw 56 rfl) (by decide) pd_4 (ct_after l Z a0 hw n0 _ (p0 &&& 2147483647) r (p0 &&& 2147483647) (p1 &&& 2147483647) (p2 &&& 2147483647) (p3 &&& 2147483647)) 1 rfl (by decide) (by decide) (by decide) (by decide) rfl rfl [.int (p3 &&& 2147483647), .int (p2 &&& 2147483647), .int (p1 &&& 2147483647), .int (p0 &&& 2147483647), .int r, .int (p0 &&& 2147483647)] rfl Dx_172 ?_
    rintro _ _ ⟨rfl, rfl⟩
    change G k n0 _ h77 _ _ 175 [.val (.int p0), .val (.int p1), .val (.int p2), .val (.int p3), .val (.int p4), .val (.int p5), .val (.int (p0 &&& 2147483647)), .val (.int (p1 &&& 2147483647)), .val (.int (p2 &&& 2147483647)), .val (.int (p3 &&& 2147483647)), .val (.int (p4 &&& 2147483647)), .val (.int (p5 &&& 7)), .val (.int r), .val (.ref a51), .unset, .unset, .unset, .unset, .unset] [.int (aftF (p0 &&& 2147483647) r (p0 &&& 2147483647) (p1 &&& 2147483647) (p2 &&& 2147483647) (p3 &&& 2147483647)), .int (((del (upd (upd (upd (upd (fun _ => none) (p0 &&& 2147483647) 100) (p1 &&& 2147483647) 200) (p2 &&& 2147483647) 300) (p3 &&& 2147483647) 400) r) (p0 &&& 2147483647)).getD (-1))]
    refine G.icmp_ne K Dx_175 (fun q => absurd (by simp only [aftF, del, upd]; (repeat' split) <;> simp_all) q) (fun q78 => ?_)
    refine G.iconst K Dx_178 1 rfl ?_
    refine G.goto K Dx_179 ?_
    refine G.istore K Dx_183 ([.val (.int p0), .val (.int p1), .val (.int p2), .val (.int p3), .val (.int p4), .val (.int p5), .val (.int (p0 &&& 2147483647)), .val (.int (p1 &&& 2147483647)), .val (.int (p2 &&& 2147483647)), .val (.int (p3 &&& 2147483647)), .val (.int (p4 &&& 2147483647)), .val (.int (p5 &&& 7)), .val (.int r), .val (.ref a51), .val (.int 1), .unset, .unset, .unset, .unset]) rfl ?_
    refine G.aload K Dx_185 rfl rfl ?_
    refine G.iload K Dx_187 rfl ?_
    have H79 : Hp n0 h77 [(va53, Ia Z vs73), (a51, Ob Z "org/sqcap/reasoner/IntMap" NSM [.ref ka53, .ref va53, .int sz73]), (ka53, Ia Z ks73)] := H77.pull 2 rfl
    have H80 : Hp n0 h77 [(ka53, Ia Z ks73), (va53, Ia Z vs73), (a51, Ob Z "org/sqcap/reasoner/IntMap" NSM [.ref ka53, .ref va53, .int sz73])] := H79.pull 2 rfl
    have H81 : Hp n0 h77 [(a51, Ob Z "org/sqcap/reasoner/IntMap" NSM [.ref ka53, .ref va53, .int sz73]), (ka53, Ia Z ks73), (va53, Ia Z vs73)] := H80.pull 2 rfl
    refine G.callV K hl (wd hw 48 rfl) (wd hw 49 rfl) (wd hw 51 rfl) (wd hw 50 rfl) (wd hw 3 rfl) (wd hw 52 rfl) (by decide) pd_0 (H81.exa (i := 0) rfl) (ct_get l Z a0 hw n0 h77 a51 ka53 va53 ks73 vs73 sz73 3 (del (upd (upd (upd (upd (fun _ => none) (p0 &&& 2147483647) 100) (p1 &&& 2147483647) 200) (p2 &&& 2147483647) 300) (p3 &&& 2147483647) 400) r) (p1 &&& 2147483647) (by decide) T73 z73 (own_k1 _) [] H81) 0 rfl (by decide) (by decide) (by decide) (by decide) rfl rfl [.int (p1 &&& 2147483647)] rfl Dx_189 ?_
    rintro _ h82 ⟨rfl, H82⟩
    change G k n0 _ h82 _ _ 192 [.val (.int p0), .val (.int p1), .val (.int p2), .val (.int p3), .val (.int p4), .val (.int p5), .val (.int (p0 &&& 2147483647)), .val (.int (p1 &&& 2147483647)), .val (.int (p2 &&& 2147483647)), .val (.int (p3 &&& 2147483647)), .val (.int (p4 &&& 2147483647)), .val (.int (p5 &&& 7)), .val (.int r), .val (.ref a51), .val (.int 1), .unset, .unset, .unset, .unset] [.int (((del (upd (upd (upd (upd (fun _ => none) (p0 &&& 2147483647) 100) (p1 &&& 2147483647) 200) (p2 &&& 2147483647) 300) (p3 &&& 2147483647) 400) r) (p1 &&& 2147483647)).getD (-1))]
    refine G.iload K Dx_192 rfl ?_
    refine G.iload K Dx_194 rfl ?_
    refine G.iload K Dx_196 rfl ?_
    refine G.iload K Dx_198 rfl ?_
    refine G.iload K Dx_200 rfl ?_
    refine G.iload K Dx_202 rfl ?_
    refine G.callS K hl (wd hw 53 rfl) (wd hw 54 rfl) (wd hw 55 rfl) (wd hw 56 rfl) (by decide) pd_4 (ct_after l Z a0 hw n0 _ (p1 &&& 2147483647) r (p0 &&& 2147483647) (p1 &&& 2147483647) (p2 &&& 2147483647) (p3 &&& 2147483647)) 1 rfl (by decide) (by decide) (by decide) (by decide) rfl rfl [.int (p3 &&& 2147483647), .int (p2 &&& 2147483647), .int (p1 &&& 2147483647), .int (p0 &&& 2147483647), .int r, .int (p1 &&& 2147483647)] rfl Dx_204 ?_
    rintro _ _ ⟨rfl, rfl⟩
    change G k n0 _ h82 _ _ 207 [.val (.int p0), .val (.int p1), .val (.int p2), .val (.int p3), .val (.int p4), .val (.int p5), .val (.int (p0 &&& 2147483647)), .val (.int (p1 &&& 2147483647)), .val (.int (p2 &&& 2147483647)), .val (.int (p3 &&& 2147483647)), .val (.int (p4 &&& 2147483647)), .val (.int (p5 &&& 7)), .val (.int r), .val (.ref a51), .val (.int 1), .unset, .unset, .unset, .unset] [.int (aftF (p1 &&& 2147483647) r (p0 &&& 2147483647) (p1 &&& 2147483647) (p2 &&& 2147483647) (p3 &&& 2147483647)), .int (((del (upd (upd (upd (upd (fun _ => none) (p0 &&& 2147483647) 100) (p1 &&& 2147483647) 200) (p2 &&& 2147483647) 300) (p3 &&& 2147483647) 400) r) (p1 &&& 2147483647)).getD (-1))]
    refine G.icmp_ne K Dx_207 (fun q => absurd (by simp only [aftF, del, upd]; (repeat' split) <;> simp_all) q) (fun q83 => ?_)
    refine G.iconst K Dx_210 1 rfl ?_
    refine G.goto K Dx_211 ?_
    refine G.istore K Dx_215 ([.val (.int p0), .val (.int p1), .val (.int p2), .val (.int p3), .val (.int p4), .val (.int p5), .val (.int (p0 &&& 2147483647)), .val (.int (p1 &&& 2147483647)), .val (.int (p2 &&& 2147483647)), .val (.int (p3 &&& 2147483647)), .val (.int (p4 &&& 2147483647)), .val (.int (p5 &&& 7)), .val (.int r), .val (.ref a51), .val (.int 1), .val (.int 1), .unset, .unset, .unset]) rfl ?_
    refine G.aload K Dx_217 rfl rfl ?_
    refine G.iload K Dx_219 rfl ?_
    have H84 : Hp n0 h82 [(va53, Ia Z vs73), (a51, Ob Z "org/sqcap/reasoner/IntMap" NSM [.ref ka53, .ref va53, .int sz73]), (ka53, Ia Z ks73)] := H82.pull 2 rfl
    have H85 : Hp n0 h82 [(ka53, Ia Z ks73), (va53, Ia Z vs73), (a51, Ob Z "org/sqcap/reasoner/IntMap" NSM [.ref ka53, .ref va53, .int sz73])] := H84.pull 2 rfl
    have H86 : Hp n0 h82 [(a51, Ob Z "org/sqcap/reasoner/IntMap" NSM [.ref ka53, .ref va53, .int sz73]), (ka53, Ia Z ks73), (va53, Ia Z vs73)] := H85.pull 2 rfl
    refine G.callV K hl (wd hw 48 rfl) (wd hw 49 rfl) (wd hw 51 rfl) (wd hw 50 rfl) (wd hw 3 rfl) (wd hw 52 rfl) (by decide) pd_0 (H86.exa (i := 0) rfl) (ct_get l Z a0 hw n0 h82 a51 ka53 va53 ks73 vs73 sz73 3 (del (upd (upd (upd (upd (fun _ => none) (p0 &&& 2147483647) 100) (p1 &&& 2147483647) 200) (p2 &&& 2147483647) 300) (p3 &&& 2147483647) 400) r) (p2 &&& 2147483647) (by decide) T73 z73 (own_k1 _) [] H86) 0 rfl (by decide) (by decide) (by decide) (by decide) rfl rfl [.int (p2 &&& 2147483647)] rfl Dx_221 ?_
    rintro _ h87 ⟨rfl, H87⟩
    change G k n0 _ h87 _ _ 224 [.val (.int p0), .val (.int p1), .val (.int p2), .val (.int p3), .val (.int p4), .val (.int p5), .val (.int (p0 &&& 2147483647)), .val (.int (p1 &&& 2147483647)), .val (.int (p2 &&& 2147483647)), .val (.int (p3 &&& 2147483647)), .val (.int (p4 &&& 2147483647)), .val (.int (p5 &&& 7)), .val (.int r), .val (.ref a51), .val (.int 1), .val (.int 1), .unset, .unset, .unset] [.int (((del (upd (upd (upd (upd (fun _ => none) (p0 &&& 2147483647) 100) (p1 &&& 2147483647) 200) (p2 &&& 2147483647) 300) (p3 &&& 2147483647) 400) r) (p2 &&& 2147483647)).getD (-1))]
    refine G.iload K Dx_224 rfl ?_
    refine G.iload K Dx_226 rfl ?_
    refine G.iload K Dx_228 rfl ?_
    refine G.iload K Dx_230 rfl ?_
    refine G.iload K Dx_232 rfl ?_
    refine G.iload K Dx_234 rfl ?_
    refine G.callS K hl (wd hw 53 rfl) (wd hw 54 rfl) (wd hw 55 rfl) (wd hw 56 rfl) (by decide) pd_4 (ct_after l Z a0 hw n0 _ (p2 &&& 2147483647) r (p0 &&& 2147483647) (p1 &&& 2147483647) (p2 &&& 2147483647) (p3 &&& 2147483647)) 1 rfl (by decide) (by decide) (by decide) (by decide) rfl rfl [.int (p3 &&& 2147483647), .int (p2 &&& 2147483647), .int (p1 &&& 2147483647), .int (p0 &&& 2147483647), .int r, .int (p2 &&& 2147483647)] rfl Dx_236 ?_
    rintro _ _ ⟨rfl, rfl⟩
    change G k n0 _ h87 _ _ 239 [.val (.int p0), .val (.int p1), .val (.int p2), .val (.int p3), .val (.int p4), .val (.int p5), .val (.int (p0 &&& 2147483647)), .val (.int (p1 &&& 2147483647)), .val (.int (p2 &&& 2147483647)), .val (.int (p3 &&& 2147483647)), .val (.int (p4 &&& 2147483647)), .val (.int (p5 &&& 7)), .val (.int r), .val (.ref a51), .val (.int 1), .val (.int 1), .unset, .unset, .unset] [.int (aftF (p2 &&& 2147483647) r (p0 &&& 2147483647) (p1 &&& 2147483647) (p2 &&& 2147483647) (p3 &&& 2147483647)), .int (((del (upd (upd (upd (upd (fun _ => none) (p0 &&& 2147483647) 100) (p1 &&& 2147483647) 200) (p2 &&& 2147483647) 300) (p3 &&& 2147483647) 400) r) (p2 &&& 2147483647)).getD (-1))]
    refine G.icmp_ne K Dx_239 (fun q => absurd (by simp only [aftF, del, upd]; (repeat' split) <;> simp_all) q) (fun q88 => ?_)
    refine G.iconst K Dx_242 1 rfl ?_
    refine G.goto K Dx_243 ?_
    refine G.istore K Dx_247 ([.val (.int p0), .val (.int p1), .val (.int p2), .val (.int p3), .val (.int p4), .val (.int p5), .val (.int (p0 &&& 2147483647)), .val (.int (p1 &&& 2147483647)), .val (.int (p2 &&& 2147483647)), .val (.int (p3 &&& 2147483647)), .val (.int (p4 &&& 2147483647)), .val (.int (p5 &&& 7)), .val (.int r), .val (.ref a51), .val (.int 1), .val (.int 1), .val (.int 1), .unset, .unset]) rfl ?_
    refine G.aload K Dx_249 rfl rfl ?_
    refine G.iload K Dx_251 rfl ?_
    have H89 : Hp n0 h87 [(va53, Ia Z vs73), (a51, Ob Z "org/sqcap/reasoner/IntMap" NSM [.ref ka53, .ref va53, .int sz73]), (ka53, Ia Z ks73)] := H87.pull 2 rfl
    have H90 : Hp n0 h87 [(ka53, Ia Z ks73), (va53, Ia Z vs73), (a51, Ob Z "org/sqcap/reasoner/IntMap" NSM [.ref ka53, .ref va53, .int sz73])] := H89.pull 2 rfl
    have H91 : Hp n0 h87 [(a51, Ob Z "org/sqcap/reasoner/IntMap" NSM [.ref ka53, .ref va53, .int sz73]), (ka53, Ia Z ks73), (va53, Ia Z vs73)] := H90.pull 2 rfl
    refine G.callV K hl (wd hw 48 rfl) (wd hw 49 rfl) (wd hw 51 rfl) (wd hw 50 rfl) (wd hw 3 rfl) (wd hw 52 rfl) (by decide) pd_0 (H91.exa (i := 0) rfl) (ct_get l Z a0 hw n0 h87 a51 ka53 va53 ks73 vs73 sz73 3 (del (upd (upd (upd (upd (fun _ => none) (p0 &&& 2147483647) 100) (p1 &&& 2147483647) 200) (p2 &&& 2147483647) 300) (p3 &&& 2147483647) 400) r) (p3 &&& 2147483647) (by decide) T73 z73 (own_k1 _) [] H91) 0 rfl (by decide) (by decide) (by decide) (by decide) rfl rfl [.int (p3 &&& 2147483647)] rfl Dx_253 ?_
    rintro _ h92 ⟨rfl, H92⟩
    change G k n0 _ h92 _ _ 256 [.val (.int p0), .val (.int p1), .val (.int p2), .val (.int p3), .val (.int p4), .val (.int p5), .val (.int (p0 &&& 2147483647)), .val (.int (p1 &&& 2147483647)), .val (.int (p2 &&& 2147483647)), .val (.int (p3 &&& 2147483647)), .val (.int (p4 &&& 2147483647)), .val (.int (p5 &&& 7)), .val (.int r), .val (.ref a51), .val (.int 1), .val (.int 1), .val (.int 1), .unset, .unset] [.int (((del (upd (upd (upd (upd (fun _ => none) (p0 &&& 2147483647) 100) (p1 &&& 2147483647) 200) (p2 &&& 2147483647) 300) (p3 &&& 2147483647) 400) r) (p3 &&& 2147483647)).getD (-1))]
    refine G.iload K Dx_256 rfl ?_
    refine G.iload K Dx_258 rfl ?_
    refine G.iload K Dx_260 rfl ?_
    refine G.iload K Dx_262 rfl ?_
    refine G.iload K Dx_264 rfl ?_
    refine G.iload K Dx_266 rfl ?_
    refine G.callS K hl (wd hw 53 rfl) (wd hw 54 rfl) (wd hw 55 rfl) (wd hw 56 rfl) (by decide) pd_4 (ct_after l Z a0 hw n0 _ (p3 &&& 2147483647) r (p0 &&& 2147483647) (p1 &&& 2147483647) (p2 &&& 2147483647) (p3 &&& 2147483647)) 1 rfl (by decide) (by decide) (by decide) (by decide) rfl rfl [.int (p3 &&& 2147483647), .int (p2 &&& 2147483647), .int (p1 &&& 2147483647), .int (p0 &&& 2147483647), .int r, .int (p3 &&& 2147483647)] rfl Dx_268 ?_
    rintro _ _ ⟨rfl, rfl⟩
    change G k n0 _ h92 _ _ 271 [.val (.int p0), .val (.int p1), .val (.int p2), .val (.int p3), .val (.int p4), .val (.int p5), .val (.int (p0 &&& 2147483647)), .val (.int (p1 &&& 2147483647)), .val (.int (p2 &&& 2147483647)), .val (.int (p3 &&& 2147483647)), .val (.int (p4 &&& 2147483647)), .val (.int (p5 &&& 7)), .val (.int r), .val (.ref a51), .val (.int 1), .val (.int 1), .val (.int 1), .unset, .unset] [.int (aftF (p3 &&& 2147483647) r (p0 &&& 2147483647) (p1 &&& 2147483647) (p2 &&& 2147483647) (p3 &&& 2147483647)), .int (((del (upd (upd (upd (upd (fun _ => none) (p0 &&& 2147483647) 100) (p1 &&& 2147483647) 200) (p2 &&& 2147483647) 300) (p3 &&& 2147483647) 400) r) (p3 &&& 2147483647)).getD (-1))]
    refine G.icmp_ne K Dx_271 (fun q => absurd (by simp only [aftF, del, upd]; (repeat' split) <;> simp_all) q) (fun q93 => ?_)
    refine G.iconst K Dx_274 1 rfl ?_
    refine G.goto K Dx_275 ?_
    refine G.istore K Dx_279 ([.val (.int p0), .val (.int p1), .val (.int p2), .val (.int p3), .val (.int p4), .val (.int p5), .val (.int (p0 &&& 2147483647)), .val (.int (p1 &&& 2147483647)), .val (.int (p2 &&& 2147483647)), .val (.int (p3 &&& 2147483647)), .val (.int (p4 &&& 2147483647)), .val (.int (p5 &&& 7)), .val (.int r), .val (.ref a51), .val (.int 1), .val (.int 1), .val (.int 1), .val (.int 1), .unset]) rfl ?_
    refine G.aload K Dx_281 rfl rfl ?_
    refine G.iload K Dx_283 rfl ?_
    have H94 : Hp n0 h92 [(va53, Ia Z vs73), (a51, Ob Z "org/sqcap/reasoner/IntMap" NSM [.ref ka53, .ref va53, .int sz73]), (ka53, Ia Z ks73)] := H92.pull 2 rfl
    have H95 : Hp n0 h92 [(ka53, Ia Z ks73), (va53, Ia Z vs73), (a51, Ob Z "org/sqcap/reasoner/IntMap" NSM [.ref ka53, .ref va53, .int sz73])] := H94.pull 2 rfl
    have H96 : Hp n0 h92 [(a51, Ob Z "org/sqcap/reasoner/IntMap" NSM [.ref ka53, .ref va53, .int sz73]), (ka53, Ia Z ks73), (va53, Ia Z vs73)] := H95.pull 2 rfl
    refine G.callV K hl (wd hw 48 rfl) (wd hw 49 rfl) (wd hw 51 rfl) (wd hw 50 rfl) (wd hw 3 rfl) (wd hw 52 rfl) (by decide) pd_0 (H96.exa (i := 0) rfl) (ct_get l Z a0 hw n0 h92 a51 ka53 va53 ks73 vs73 sz73 3 (del (upd (upd (upd (upd (fun _ => none) (p0 &&& 2147483647) 100) (p1 &&& 2147483647) 200) (p2 &&& 2147483647) 300) (p3 &&& 2147483647) 400) r) r (by decide) T73 z73 hr [] H96) 0 rfl (by decide) (by decide) (by decide) (by decide) rfl rfl [.int r] rfl Dx_285 ?_
    rintro _ h97 ⟨rfl, H97⟩
    change G k n0 _ h97 _ _ 288 [.val (.int p0), .val (.int p1), .val (.int p2), .val (.int p3), .val (.int p4), .val (.int p5), .val (.int (p0 &&& 2147483647)), .val (.int (p1 &&& 2147483647)), .val (.int (p2 &&& 2147483647)), .val (.int (p3 &&& 2147483647)), .val (.int (p4 &&& 2147483647)), .val (.int (p5 &&& 7)), .val (.int r), .val (.ref a51), .val (.int 1), .val (.int 1), .val (.int 1), .val (.int 1), .unset] [.int (((del (upd (upd (upd (upd (fun _ => none) (p0 &&& 2147483647) 100) (p1 &&& 2147483647) 200) (p2 &&& 2147483647) 300) (p3 &&& 2147483647) 400) r) r).getD (-1))]
    refine G.iconst K Dx_288 (-1) rfl ?_
    refine G.icmp_ne K Dx_289 (fun q => absurd (by simp [del]) q) (fun q98 => ?_)
    refine G.iconst K Dx_292 1 rfl ?_
    refine G.goto K Dx_293 ?_
    refine G.istore K Dx_297 ([.val (.int p0), .val (.int p1), .val (.int p2), .val (.int p3), .val (.int p4), .val (.int p5), .val (.int (p0 &&& 2147483647)), .val (.int (p1 &&& 2147483647)), .val (.int (p2 &&& 2147483647)), .val (.int (p3 &&& 2147483647)), .val (.int (p4 &&& 2147483647)), .val (.int (p5 &&& 7)), .val (.int r), .val (.ref a51), .val (.int 1), .val (.int 1), .val (.int 1), .val (.int 1), .val (.int 1)]) rfl ?_
    refine G.iload K Dx_299 rfl ?_
    refine G.if_eq K Dx_301 (fun q => absurd q (by decide)) (fun _ => ?_)
    refine G.iload K Dx_304 rfl ?_
    refine G.if_eq K Dx_306 (fun q => absurd q (by decide)) (fun _ => ?_)
    refine G.iload K Dx_309 rfl ?_
    refine G.if_eq K Dx_311 (fun q => absurd q (by decide)) (fun _ => ?_)
    refine G.iload K Dx_314 rfl ?_
    refine G.if_eq K Dx_316 (fun q => absurd q (by decide)) (fun _ => ?_)
    refine G.iload K Dx_319 rfl ?_
    refine G.if_eq K Dx_321 (fun q => absurd q (by decide)) (fun _ => ?_)
    refine G.iconst K Dx_324 1 rfl ?_
    refine G.goto K Dx_325 ?_
    refine G.ret_bool K Dx_329 ?_
    exact rfl
  refine G.iload K Dx_38 rfl ?_
  refine G.if_ne K Dx_40 (fun q104 => ?_) (fun q104 => ?_)
  · refine G.iload K Dx_50 rfl ?_
    refine G.iconst K Dx_52 1 rfl ?_
    refine G.icmp_ne K Dx_53 (fun q105 => ?_) (fun q105 => ?_)
    · refine G.iload K Dx_63 rfl ?_
      refine G.iconst K Dx_65 2 rfl ?_
      refine G.icmp_ne K Dx_66 (fun q106 => ?_) (fun q106 => ?_)
      · refine G.iload K Dx_76 rfl ?_
        refine G.iconst K Dx_78 3 rfl ?_
        refine G.icmp_ne K Dx_79 (fun q107 => ?_) (fun q107 => ?_)
        · refine G.iload K Dx_89 rfl ?_
          refine G.istore K Dx_91 ([.val (.int p0), .val (.int p1), .val (.int p2), .val (.int p3), .val (.int p4), .val (.int p5), .val (.int (p0 &&& 2147483647)), .val (.int (p1 &&& 2147483647)), .val (.int (p2 &&& 2147483647)), .val (.int (p3 &&& 2147483647)), .val (.int (p4 &&& 2147483647)), .val (.int (p5 &&& 7)), .val (.int (p4 &&& 2147483647)), .unset, .unset, .unset, .unset, .unset, .unset]) rfl ?_
          exact tail _ (own_k1 _)
        · refine G.iload K Dx_82 rfl ?_
          refine G.istore K Dx_84 ([.val (.int p0), .val (.int p1), .val (.int p2), .val (.int p3), .val (.int p4), .val (.int p5), .val (.int (p0 &&& 2147483647)), .val (.int (p1 &&& 2147483647)), .val (.int (p2 &&& 2147483647)), .val (.int (p3 &&& 2147483647)), .val (.int (p4 &&& 2147483647)), .val (.int (p5 &&& 7)), .val (.int (p3 &&& 2147483647)), .unset, .unset, .unset, .unset, .unset, .unset]) rfl ?_
          refine G.goto K Dx_86 ?_
          exact tail _ (own_k1 _)
      · refine G.iload K Dx_69 rfl ?_
        refine G.istore K Dx_71 ([.val (.int p0), .val (.int p1), .val (.int p2), .val (.int p3), .val (.int p4), .val (.int p5), .val (.int (p0 &&& 2147483647)), .val (.int (p1 &&& 2147483647)), .val (.int (p2 &&& 2147483647)), .val (.int (p3 &&& 2147483647)), .val (.int (p4 &&& 2147483647)), .val (.int (p5 &&& 7)), .val (.int (p2 &&& 2147483647)), .unset, .unset, .unset, .unset, .unset, .unset]) rfl ?_
        refine G.goto K Dx_73 ?_
        exact tail _ (own_k1 _)
    · refine G.iload K Dx_56 rfl ?_
      refine G.istore K Dx_58 ([.val (.int p0), .val (.int p1), .val (.int p2), .val (.int p3), .val (.int p4), .val (.int p5), .val (.int (p0 &&& 2147483647)), .val (.int (p1 &&& 2147483647)), .val (.int (p2 &&& 2147483647)), .val (.int (p3 &&& 2147483647)), .val (.int (p4 &&& 2147483647)), .val (.int (p5 &&& 7)), .val (.int (p1 &&& 2147483647)), .unset, .unset, .unset, .unset, .unset, .unset]) rfl ?_
      refine G.goto K Dx_60 ?_
      exact tail _ (own_k1 _)
  · refine G.iload K Dx_43 rfl ?_
    refine G.istore K Dx_45 ([.val (.int p0), .val (.int p1), .val (.int p2), .val (.int p3), .val (.int p4), .val (.int p5), .val (.int (p0 &&& 2147483647)), .val (.int (p1 &&& 2147483647)), .val (.int (p2 &&& 2147483647)), .val (.int (p3 &&& 2147483647)), .val (.int (p4 &&& 2147483647)), .val (.int (p5 &&& 7)), .val (.int (p0 &&& 2147483647)), .unset, .unset, .unset, .unset, .unset, .unset]) rfl ?_
    refine G.goto K Dx_47 ?_
    exact tail _ (own_k1 _)
set_option maxRecDepth 65536 in
set_option maxHeartbeats 40000000 in
theorem comes_1 {Post : Tables → Env → Array Value → State → Outcome → State → Prop} (hpost : ∀ tb e args s v u, (limb_1_1.after args s (.returned v) u = true ∧ limb_1_2.after args s (.returned v) u = true ∧ True) → FrameEnd s (.returned v) u (Jvm.fieldLocs frame_1_writes args s ++ Jvm.arrayLocs frame_1_arrays args s ++ Jvm.staticLocs frame_1_statics s) 16 128 → Post tb e args s (.returned v) u) :
    ArmFor flags0 classFile x code maxLocals ret World_1 tables_1 room_1 Calls_1 rest_1 Pre_1 Post := by
  intro l hfl _ _ p e ha hc hk s m args below hf hA hF happ hP
  obtain ⟨hcalls, hrest, hpre⟩ := hP
  obtain ⟨-, -, -, hnamed, -, -, -, hat⟩ := (Spec.applies_iff hf).mp happ
  obtain ⟨hg, hn⟩ := and_e (Cond.before_iff.mp (show (Jvm.Cond.and given_1 narrow_1).before args s = true from hpre))
  obtain ⟨g0, g1⟩ := and_e hg
  obtain ⟨u0, v0⟩ := and_e g1
  obtain ⟨u1, v1⟩ := and_e v0
  obtain ⟨u2, v2⟩ := and_e v1
  obtain ⟨u3, v3⟩ := and_e v2
  obtain ⟨u4, v4⟩ := and_e v3
  obtain ⟨w0, w1, w2, w3, w4, w5, rfl⟩ : ∃ w0 w1 w2 w3 w4 w5 : Value, args = #[w0, w1, w2, w3, w4, w5] := by
    have hs : args.size = 6 := by simpa [Cond.value, given_1] using g0
    obtain ⟨L⟩ := args
    match L, hs with
    | [w0, w1, w2, w3, w4, w5], _ => exact ⟨w0, w1, w2, w3, w4, w5, rfl⟩
  have hw := fun d (hd : d ∈ tables_1) => atoms_spec (ws := Jvm.Cond.code x code maxLocals ret :: tables_1) hat d (List.mem_cons_of_mem _ hd)
  obtain ⟨i0, ei0⟩ := is_v u0
  obtain rfl : w0 = (.int i0) := Option.some.inj ei0
  obtain ⟨i1, ei1⟩ := is_v u1
  obtain rfl : w1 = (.int i1) := Option.some.inj ei1
  obtain ⟨i2, ei2⟩ := is_v u2
  obtain rfl : w2 = (.int i2) := Option.some.inj ei2
  obtain ⟨i3, ei3⟩ := is_v u3
  obtain rfl : w3 = (.int i3) := Option.some.inj ei3
  obtain ⟨i4, ei4⟩ := is_v u4
  obtain rfl : w4 = (.int i4) := Option.some.inj ei4
  obtain ⟨i5, ei5⟩ := is_v v4
  obtain rfl : w5 = (.int i5) := Option.some.inj ei5
  obtain ⟨n, o, h1, h2, h3, _, L, rfl, ⟨rfl, N⟩, hq⟩ := ct_law l s _ hw s.heap.size s.heap i0 i1 i2 i3 i4 i5 (Nat.le_refl _) tables_1 p e ha hc hk s m _ below hf ((Spec.applies_iff_loose hf).mp happ).1 ⟨rfl, State.Warmed39.refl s, rfl⟩ trivial
  refine ⟨n, _, h1, h2, h3, hpost _ _ _ _ _ _ ⟨Cond.after_iff.mpr rfl, Cond.after_iff.mpr (eq_i res_at (Term.int_eval (1)) rfl), trivial⟩ ⟨hq.1, hq.2.1, (hq.2.2.sift fun y hy => Or.inr (N y hy)).mono (by decide) (by decide)⟩⟩
theorem main_1_1 : Claimed_1_1 := comes_1 fun _ _ _ _ _ _ h hF => ⟨h.1, hF⟩
theorem main_1_2 : Claimed_1_2 := comes_1 fun _ _ _ _ _ _ h hF => ⟨h.2.1, hF⟩
end Jvm.Pilot.@@N@@
namespace Jvm.Pilot.@@N@@
open Jvm Jvm.ClassFile Sem Op Lib Jvm.Free Jvm.Stand Jvm.Pilot.@@N@@.Jvm.D
/-! MADE BY PROGRAM (witnessworld.py) out of the Statement's table words and the real class files: 15 classes; the members and pool entries that the words name. The judged class is class 1, her method 2. -/
namespace start1
open Jvm.ClassFile
def u (s : String) : CpInfo := .utf8 (stringToUtf16 s)
/-- a pool by its gaps: so many unusable entries, then the entry; so many at the end -/
def gap : Nat → List CpInfo → List CpInfo
  | 0, r => r
  | n + 1, r => .unusable :: gap n r
def poolList (es : List (Nat × CpInfo)) (last : Nat) : List CpInfo := es.foldr (fun e r => gap e.1 (e.2 :: r)) (gap last [])
def pool (es : List (Nat × CpInfo)) (last : Nat) : Array CpInfo := ⟨poolList es last⟩
def fileOf (pool : Array CpInfo) (this : Nat) (attrs : Array Attribute := #[]) (ms : Array MethodInfo := #[]) (fl : Nat := 33) (sup : Nat := 0) (ifs : Array Nat := #[]) (fds : Array FieldInfo := #[]) : ClassFile where
  minorVersion := 0
  majorVersion := 65
  constantPool := pool
  accessFlags := fl
  thisClass := this
  superClass := sup
  interfaces := ifs
  fields := fds
  methods := ms
  attributes := attrs
def plain (name : String) (sup : Option ClassId) : Class where
  name := name
  kind := .ordinary
  loader := none
  accessFlags := 33
  super := sup
  interfaces := #[]
  cf := none
  fields := #[]
  methods := #[]
  instanceTypes := #[]
  staticTypes := #[]
  resolved := #[]
  callSites := []
  init := .initialized
  statics := none
  mirror := none

def pool0 : Array CpInfo := pool [(5, u "<init>"), (0, u "()V"), (1, .class_ 10), (1, u "java/lang/Object")] 113

def k0c0 : Code := { maxStack := 0, maxLocals := 1, code := object_method_1_code, exceptionTable := #[], attributes := #[] }
def k0m0 : Method := { name := "<init>", desc := "()V", sig := { parameters := [], returnType := none }, accessFlags := 1, code := some k0c0 }
/-- java/lang/Object -/
def k0 : Class := { plain "java/lang/Object" none with
  accessFlags := 33
  interfaces := #[]
  cf := some (fileOf pool0 8 #[] #[{ accessFlags := 1, nameIndex := 5, descriptorIndex := 6, attributes := #[] }] 33 0 #[] #[])
  fields := #[]
  methods := #[k0m0]
  instanceTypes := #[]
  staticTypes := #[]
  resolved := Array.replicate 124 none
  statics := none }

def pool1 : Array CpInfo := pool [(2, .class_ 4), (1, u "java/lang/Object"), (0, u "<init>"), (0, u "()V"), (0, .class_ 8), (0, u "org/sqcap/reasoner/IntMap"), (0, .integer 2147483647), (0, .methodref 7 11), (0, .nameAndType 5 12), (0, u "(I)V"), (0, .methodref 7 14), (0, .nameAndType 15 16), (0, u "put"), (0, u "(II)I"), (0, .methodref 7 18), (0, .nameAndType 19 12), (0, u "remove"), (0, .methodref 7 21), (0, .nameAndType 22 23), (0, u "get"), (0, u "(I)I"), (0, .methodref 25 26), (0, .class_ 27), (0, .nameAndType 28 29), (0, u "org/sqcap/reasoner/IntMapRemovePinLaw"), (0, u "after"), (0, u "(IIIIII)I"), (3, u "law"), (0, u "(IIIIII)Z")] 2

def k1m0 : Method := { name := "<init>", desc := "()V", sig := { parameters := [], returnType := none }, accessFlags := 1, code := none }
def k1c1 : Code := { maxStack := 2, maxLocals := 6, code := method_2_code, exceptionTable := #[], attributes := #[] }
def k1m1 : Method := { name := "after", desc := "(IIIIII)I", sig := { parameters := [.int, .int, .int, .int, .int, .int], returnType := some .int }, accessFlags := 10, code := some k1c1 }
def k1c2 : Code := { maxStack := 7, maxLocals := 19, code := code, exceptionTable := #[], attributes := #[] }
def k1m2 : Method := { name := "law", desc := "(IIIIII)Z", sig := { parameters := [.int, .int, .int, .int, .int, .int], returnType := some .boolean }, accessFlags := 9, code := some k1c2 }
/-- org/sqcap/reasoner/IntMapRemovePinLaw -/
def k1 : Class := { plain "org/sqcap/reasoner/IntMapRemovePinLaw" (some 0) with
  accessFlags := 49
  interfaces := #[]
  cf := some (fileOf pool1 25 #[] #[{ accessFlags := 1, nameIndex := 5, descriptorIndex := 6, attributes := #[] }, { accessFlags := 10, nameIndex := 28, descriptorIndex := 29, attributes := #[] }, { accessFlags := 9, nameIndex := 33, descriptorIndex := 34, attributes := #[] }] 49 2 #[] #[])
  fields := #[]
  methods := #[k1m0, k1m1, k1m2]
  instanceTypes := #[]
  staticTypes := #[]
  resolved := Array.replicate 37 none
  statics := none }

def pool2 : Array CpInfo := pool [(1, .methodref 2 3), (0, .class_ 4), (0, .nameAndType 5 6), (0, u "java/lang/Object"), (0, u "<init>"), (0, u "()V"), (0, .methodref 8 9), (0, .class_ 10), (0, .nameAndType 11 12), (0, u "java/lang/Math"), (0, u "max"), (0, u "(II)I"), (0, .methodref 14 15), (0, .class_ 16), (0, .nameAndType 17 18), (0, u "java/lang/Integer"), (0, u "highestOneBit"), (0, u "(I)I"), (0, .fieldref 20 21), (0, .class_ 22), (0, .nameAndType 23 24), (0, u "org/sqcap/reasoner/IntMap"), (0, u "keys"), (0, u "[I"), (0, .fieldref 20 26), (0, .nameAndType 27 24), (0, u "values"), (0, .methodref 20 29), (0, .nameAndType 30 12), (0, u "slot"), (2, u "get"), (0, .methodref 20 35), (0, .nameAndType 36 37), (0, u "store"), (0, u "(IIZ)I"), (0, .fieldref 20 39), (0, .nameAndType 40 41), (0, u "size"), (0, u "I"), (11, u "put"), (0, .integer 2654435769), (0, u "ABSENT"), (2, u "(I)V"), (7, u "remove")] 3

def k2c0 : Code := { maxStack := 2, maxLocals := 3, code := prog_54_method_1_code, exceptionTable := #[], attributes := #[] }
def k2m0 : Method := { name := "<init>", desc := "(I)V", sig := { parameters := [.int], returnType := none }, accessFlags := 0, code := some k2c0 }
def k2c1 : Code := { maxStack := 2, maxLocals := 6, code := prog_54_method_2_code, exceptionTable := #[], attributes := #[] }
def k2m1 : Method := { name := "get", desc := "(I)I", sig := { parameters := [.int], returnType := some .int }, accessFlags := 0, code := some k2c1 }
def k2c2 : Code := { maxStack := 4, maxLocals := 3, code := prog_54_method_4_code, exceptionTable := #[], attributes := #[] }
def k2m2 : Method := { name := "put", desc := "(II)I", sig := { parameters := [.int, .int], returnType := some .int }, accessFlags := 0, code := some k2c2 }
def k2c3 : Code := { maxStack := 3, maxLocals := 8, code := prog_54_method_6_code, exceptionTable := #[], attributes := #[] }
def k2m3 : Method := { name := "store", desc := "(IIZ)I", sig := { parameters := [.int, .int, .boolean], returnType := some .int }, accessFlags := 2, code := some k2c3 }
def k2c4 : Code := { maxStack := 4, maxLocals := 8, code := prog_54_method_8_code, exceptionTable := #[], attributes := #[] }
def k2m4 : Method := { name := "remove", desc := "(I)V", sig := { parameters := [.int], returnType := none }, accessFlags := 0, code := some k2c4 }
def k2c5 : Code := { maxStack := 3, maxLocals := 3, code := prog_54_method_10_code, exceptionTable := #[], attributes := #[] }
def k2m5 : Method := { name := "slot", desc := "(II)I", sig := { parameters := [.int, .int], returnType := some .int }, accessFlags := 10, code := some k2c5 }
/-- org/sqcap/reasoner/IntMap -/
def k2 : Class := { plain "org/sqcap/reasoner/IntMap" (some 0) with
  accessFlags := 48
  interfaces := #[]
  cf := some (fileOf pool2 20 #[] #[{ accessFlags := 0, nameIndex := 5, descriptorIndex := 58, attributes := #[] }, { accessFlags := 0, nameIndex := 33, descriptorIndex := 18, attributes := #[] }, { accessFlags := 0, nameIndex := 53, descriptorIndex := 12, attributes := #[] }, { accessFlags := 2, nameIndex := 36, descriptorIndex := 37, attributes := #[] }, { accessFlags := 0, nameIndex := 66, descriptorIndex := 58, attributes := #[] }, { accessFlags := 10, nameIndex := 30, descriptorIndex := 12, attributes := #[] }] 48 2 #[] #[{ accessFlags := 24, nameIndex := 55, descriptorIndex := 41, attributes := #[] }, { accessFlags := 2, nameIndex := 23, descriptorIndex := 24, attributes := #[] }, { accessFlags := 2, nameIndex := 27, descriptorIndex := 24, attributes := #[] }, { accessFlags := 2, nameIndex := 40, descriptorIndex := 41, attributes := #[] }])
  fields := #[{ name := "ABSENT", type := .int, accessFlags := 24, slot := 0, constantValue := 0 }, { name := "keys", type := (.array .int), accessFlags := 2, slot := 0, constantValue := 0 }, { name := "values", type := (.array .int), accessFlags := 2, slot := 1, constantValue := 0 }, { name := "size", type := .int, accessFlags := 2, slot := 2, constantValue := 0 }]
  methods := #[k2m0, k2m1, k2m2, k2m3, k2m4, k2m5]
  instanceTypes := #[(.array .int), (.array .int), .int]
  staticTypes := #[.int]
  resolved := Array.replicate 70 none
  statics := none }

def pool3 : Array CpInfo := pool [(1, .class_ 2), (0, u "java/lang/Math"), (1, .class_ 6), (1, u "java/lang/Object"), (0, u "<init>"), (0, u "()V"), (89, .class_ 100), (1, u "java/lang/Math$RandomNumberGeneratorHolder"), (71, u "negativeZeroFloatBits"), (0, u "J"), (2, u "negativeZeroDoubleBits"), (21, u "max"), (46, u "$assertionsDisabled"), (0, u "Z"), (88, u "(II)I"), (2, u "twoToTheDoubleScaleDown"), (0, u "D"), (4, u "twoToTheDoubleScaleUp"), (9, u "E"), (3, u "PI"), (2, u "TAU"), (2, u "DEGREES_TO_RADIANS"), (0, u "RADIANS_TO_DEGREES")] 94

def k3m0 : Method := { name := "<init>", desc := "()V", sig := { parameters := [], returnType := none }, accessFlags := 2, code := none }
def k3c1 : Code := { maxStack := 2, maxLocals := 2, code := jdk_29_method_65_code, exceptionTable := #[], attributes := #[] }
def k3m1 : Method := { name := "max", desc := "(II)I", sig := { parameters := [.int, .int], returnType := some .int }, accessFlags := 9, code := some k3c1 }
/-- java/lang/Math -/
def k3 : Class := { plain "java/lang/Math" (some 0) with
  accessFlags := 49
  interfaces := #[]
  cf := some (fileOf pool3 1 #[.nestMembers #[98]] #[{ accessFlags := 2, nameIndex := 7, descriptorIndex := 8, attributes := #[] }, { accessFlags := 9, nameIndex := 198, descriptorIndex := 335, attributes := #[] }] 49 4 #[] #[{ accessFlags := 25, nameIndex := 354, descriptorIndex := 339, attributes := #[] }, { accessFlags := 25, nameIndex := 358, descriptorIndex := 339, attributes := #[] }, { accessFlags := 25, nameIndex := 361, descriptorIndex := 339, attributes := #[] }, { accessFlags := 26, nameIndex := 364, descriptorIndex := 339, attributes := #[] }, { accessFlags := 26, nameIndex := 365, descriptorIndex := 339, attributes := #[] }, { accessFlags := 26, nameIndex := 172, descriptorIndex := 173, attributes := #[] }, { accessFlags := 26, nameIndex := 176, descriptorIndex := 173, attributes := #[] }, { accessFlags := 8, nameIndex := 344, descriptorIndex := 339, attributes := #[] }, { accessFlags := 8, nameIndex := 338, descriptorIndex := 339, attributes := #[] }, { accessFlags := 4120, nameIndex := 245, descriptorIndex := 246, attributes := #[] }])
  fields := #[{ name := "E", type := .double, accessFlags := 25, slot := 0, constantValue := 0 }, { name := "PI", type := .double, accessFlags := 25, slot := 1, constantValue := 0 }, { name := "TAU", type := .double, accessFlags := 25, slot := 2, constantValue := 0 }, { name := "DEGREES_TO_RADIANS", type := .double, accessFlags := 26, slot := 3, constantValue := 0 }, { name := "RADIANS_TO_DEGREES", type := .double, accessFlags := 26, slot := 4, constantValue := 0 }, { name := "negativeZeroFloatBits", type := .long, accessFlags := 26, slot := 5, constantValue := 0 }, { name := "negativeZeroDoubleBits", type := .long, accessFlags := 26, slot := 6, constantValue := 0 }, { name := "twoToTheDoubleScaleUp", type := .double, accessFlags := 8, slot := 7, constantValue := 0 }, { name := "twoToTheDoubleScaleDown", type := .double, accessFlags := 8, slot := 8, constantValue := 0 }, { name := "$assertionsDisabled", type := .boolean, accessFlags := 4120, slot := 9, constantValue := 0 }]
  methods := #[k3m0, k3m1]
  instanceTypes := #[]
  staticTypes := #[.double, .double, .double, .double, .double, .long, .long, .double, .double, .boolean]
  resolved := Array.replicate 460 none
  statics := none }

def pool4 : Array CpInfo := pool [(1, .class_ 2), (0, u "java/io/Serializable"), (0, .class_ 4), (0, u "java/lang/Object")] 2

/-- java/io/Serializable -/
def k4 : Class := { plain "java/io/Serializable" (some 0) with
  accessFlags := 1537
  interfaces := #[]
  cf := some (fileOf pool4 1 #[] #[] 1537 3 #[] #[])
  fields := #[]
  methods := #[]
  instanceTypes := #[]
  staticTypes := #[]
  resolved := Array.replicate 7 none
  statics := none }

def pool5 : Array CpInfo := pool [(2, .class_ 4), (1, u "java/lang/Object"), (0, u "<init>"), (0, u "()V"), (1, .class_ 10), (1, u "java/lang/Number"), (2, .class_ 14), (0, u "java/io/Serializable"), (0, u "serialVersionUID"), (0, u "J")] 20

def k5m0 : Method := { name := "<init>", desc := "()V", sig := { parameters := [], returnType := none }, accessFlags := 1, code := none }
/-- java/lang/Number -/
def k5 : Class := { plain "java/lang/Number" (some 0) with
  accessFlags := 1057
  interfaces := #[4]
  cf := some (fileOf pool5 8 #[] #[{ accessFlags := 1, nameIndex := 5, descriptorIndex := 6, attributes := #[] }] 1057 2 #[13] #[{ accessFlags := 26, nameIndex := 15, descriptorIndex := 16, attributes := #[] }])
  fields := #[{ name := "serialVersionUID", type := .long, accessFlags := 26, slot := 0, constantValue := 0 }]
  methods := #[k5m0]
  instanceTypes := #[]
  staticTypes := #[.long]
  resolved := Array.replicate 37 none
  statics := none }

def pool6 : Array CpInfo := pool [(1, .class_ 2), (0, u "java/lang/Comparable"), (0, .class_ 4), (0, u "java/lang/Object")] 7

/-- java/lang/Comparable -/
def k6 : Class := { plain "java/lang/Comparable" (some 0) with
  accessFlags := 1537
  interfaces := #[]
  cf := some (fileOf pool6 1 #[] #[] 1537 3 #[] #[])
  fields := #[]
  methods := #[]
  instanceTypes := #[]
  staticTypes := #[]
  resolved := Array.replicate 12 none
  statics := none }

def pool7 : Array CpInfo := pool [(1, .class_ 2), (0, u "java/lang/constant/Constable"), (0, .class_ 4), (0, u "java/lang/Object")] 6

/-- java/lang/constant/Constable -/
def k7 : Class := { plain "java/lang/constant/Constable" (some 0) with
  accessFlags := 1537
  interfaces := #[]
  cf := some (fileOf pool7 1 #[] #[] 1537 3 #[] #[])
  fields := #[]
  methods := #[]
  instanceTypes := #[]
  staticTypes := #[]
  resolved := Array.replicate 11 none
  statics := none }

def pool8 : Array CpInfo := pool [(1, .class_ 2), (0, u "java/lang/constant/ConstantDesc"), (0, .class_ 4), (0, u "java/lang/Object")] 32

/-- java/lang/constant/ConstantDesc -/
def k8 : Class := { plain "java/lang/constant/ConstantDesc" (some 0) with
  accessFlags := 1537
  interfaces := #[]
  cf := some (fileOf pool8 1 #[] #[] 1537 3 #[] #[])
  fields := #[]
  methods := #[]
  instanceTypes := #[]
  staticTypes := #[]
  resolved := Array.replicate 37 none
  statics := none }

def pool9 : Array CpInfo := pool [(1, .class_ 2), (0, u "java/lang/Integer"), (16, u "digits"), (0, u "[C"), (30, .methodref 1 52), (0, .nameAndType 53 54), (0, u "numberOfLeadingZeros"), (0, u "(I)I"), (30, u "DigitOnes"), (0, u "[B"), (2, u "DigitTens"), (37, .integer 2147483648), (61, .class_ 190), (0, u "java/lang/Integer$IntegerCache"), (3, u "I"), (8, .class_ 204), (0, u "java/lang/Number"), (2, u "value"), (56, .integer 65536), (37, u "TYPE"), (0, u "Ljava/lang/Class;"), (0, .class_ 305), (0, u "java/lang/Comparable"), (0, .class_ 307), (0, u "java/lang/constant/Constable"), (0, .class_ 309), (0, u "java/lang/constant/ConstantDesc"), (0, u "MIN_VALUE"), (1, u "MAX_VALUE"), (3, u "SIZE"), (1, u "BYTES"), (1, u "serialVersionUID"), (0, u "J"), (81, u "highestOneBit")] 49

def k9c0 : Code := { maxStack := 3, maxLocals := 1, code := jdk_33_method_45_code, exceptionTable := #[], attributes := #[] }
def k9m0 : Method := { name := "highestOneBit", desc := "(I)I", sig := { parameters := [.int], returnType := some .int }, accessFlags := 9, code := some k9c0 }
def k9c1 : Code := { maxStack := 3, maxLocals := 2, code := jdk_33_method_47_code, exceptionTable := #[], attributes := #[] }
def k9m1 : Method := { name := "numberOfLeadingZeros", desc := "(I)I", sig := { parameters := [.int], returnType := some .int }, accessFlags := 9, code := some k9c1 }
/-- java/lang/Integer -/
def k9 : Class := { plain "java/lang/Integer" (some 5) with
  accessFlags := 49
  interfaces := #[6, 7, 8]
  cf := some (fileOf pool9 1 #[.nestMembers #[189]] #[{ accessFlags := 9, nameIndex := 403, descriptorIndex := 54, attributes := #[] }, { accessFlags := 9, nameIndex := 53, descriptorIndex := 54, attributes := #[] }] 49 203 #[304, 306, 308] #[{ accessFlags := 25, nameIndex := 310, descriptorIndex := 194, attributes := #[] }, { accessFlags := 25, nameIndex := 312, descriptorIndex := 194, attributes := #[] }, { accessFlags := 25, nameIndex := 302, descriptorIndex := 303, attributes := #[] }, { accessFlags := 24, nameIndex := 19, descriptorIndex := 20, attributes := #[] }, { accessFlags := 24, nameIndex := 89, descriptorIndex := 86, attributes := #[] }, { accessFlags := 24, nameIndex := 85, descriptorIndex := 86, attributes := #[] }, { accessFlags := 18, nameIndex := 207, descriptorIndex := 194, attributes := #[] }, { accessFlags := 25, nameIndex := 316, descriptorIndex := 194, attributes := #[] }, { accessFlags := 25, nameIndex := 318, descriptorIndex := 194, attributes := #[] }, { accessFlags := 26, nameIndex := 320, descriptorIndex := 321, attributes := #[] }])
  fields := #[{ name := "MIN_VALUE", type := .int, accessFlags := 25, slot := 0, constantValue := 0 }, { name := "MAX_VALUE", type := .int, accessFlags := 25, slot := 1, constantValue := 0 }, { name := "TYPE", type := (.object "java/lang/Class"), accessFlags := 25, slot := 2, constantValue := 0 }, { name := "digits", type := (.array .char), accessFlags := 24, slot := 3, constantValue := 0 }, { name := "DigitTens", type := (.array .byte), accessFlags := 24, slot := 4, constantValue := 0 }, { name := "DigitOnes", type := (.array .byte), accessFlags := 24, slot := 5, constantValue := 0 }, { name := "value", type := .int, accessFlags := 18, slot := 0, constantValue := 0 }, { name := "SIZE", type := .int, accessFlags := 25, slot := 6, constantValue := 0 }, { name := "BYTES", type := .int, accessFlags := 25, slot := 7, constantValue := 0 }, { name := "serialVersionUID", type := .long, accessFlags := 26, slot := 8, constantValue := 0 }]
  methods := #[k9m0, k9m1]
  instanceTypes := #[.int]
  staticTypes := #[.int, .int, (.object "java/lang/Class"), (.array .char), (.array .byte), (.array .byte), .int, .int, .long]
  resolved := Array.replicate 453 none
  statics := none }

def pool10 : Array CpInfo := pool [(1, u "java/lang/Cloneable"), (0, .class_ 1), (0, u "java/lang/Object"), (0, .class_ 3)] 3

/-- java/lang/Cloneable -/
def k10 : Class := { plain "java/lang/Cloneable" (some 0) with
  accessFlags := 1537
  interfaces := #[]
  cf := some (fileOf pool10 2 #[] #[] 1537 4 #[] #[])
  fields := #[]
  methods := #[]
  instanceTypes := #[]
  staticTypes := #[]
  resolved := Array.replicate 8 none
  statics := none }

/-- the primitive byte -/
def k11 : Class := { plain "byte" none with kind := .primitive 'B', accessFlags := 0x411 }
/-- [B -/
def k12 : Class := { plain "[B" (some 0) with kind := .array 11 .byte, interfaces := #[10, 4], accessFlags := 1041 }

/-- the primitive int -/
def k13 : Class := { plain "int" none with kind := .primitive 'I', accessFlags := 0x411 }
/-- [I -/
def k14 : Class := { plain "[I" (some 0) with kind := .array 13 .int, interfaces := #[10, 4], accessFlags := 1041 }

def heap : Heap := #[]
def classes : Array Class := #[k0, k1, k2, k3, k4, k5, k6, k7, k8, k9, k10, k11, k12, k13, k14]
def interned : List (Array UInt16 × Addr) := []
def slotsUsed : Nat := 0
def theMethod : MethodId := ⟨1, 2⟩
def args0 : Array Value := #[.int 5, .int 6, .int 7, .int 8, .int 9, .int 1]
def aboutOver (below : List Frame) : State where
  vm := { classes := classes, interned := interned.toArray }
  heap := heap
  slotsUsed := slotsUsed
  threads := #[{ frames := .invoking theMethod args0 :: below }]
def below0 : List Frame := [.native { method := ⟨0, 0⟩, args := #[] }]
def about1 : State := aboutOver below0
def p0 : Program := .bare "" "" ""
def e0 : Env := launch0.env 0 0 0
theorem w_frames : about1.frames = Frame.invoking theMethod args0 :: below0 := rfl
set_option maxRecDepth 65536 in
theorem w_args : argsFit about1.vm theMethod args0 = true := by decide +kernel
set_option maxRecDepth 65536 in
theorem w_heap : heapFits about1 = true := by decide +kernel
set_option maxRecDepth 65536 in
theorem w_runnable : about1.curStatus? = some .runnable := by decide +kernel
set_option maxRecDepth 65536 in
theorem w_alone : about1.alone = true := by decide +kernel
set_option maxRecDepth 65536 in
theorem w_named : about1.methodNamed? x = some theMethod := by decide +kernel
set_option maxRecDepth 65536 in
theorem w_hears : about1.hears theMethod below0 = true := by decide +kernel
set_option maxRecDepth 65536 in
theorem w_ripe : about1.ripe theMethod args0 below0 = true := by decide +kernel
theorem w_running : about1.status = .running := rfl
set_option maxRecDepth 65536 in
theorem w_room : about1.hasRoom e0.platform room_1 = true :=
  launch0.hasRoom_least _ room_1 (by decide +kernel) (by decide +kernel) (by decide +kernel) (by decide +kernel) (by decide +kernel) (by decide +kernel)
theorem allAtoms_all (ts : List Jvm.Cond) (a : Array Jvm.Value) (st : Jvm.State) : (allAtoms ts).before a st = ts.all (fun c => c.before a st) := by
  induction ts with
  | nil => rfl
  | cons c t ih =>
    show (Jvm.Cond.and c (allAtoms t)).before a st = _
    rw [Jvm.Cond.before_and, ih, List.all_cons]
def words1 : List Jvm.Cond := Jvm.Cond.code x code maxLocals ret :: tables_1
/-- a 'code' word, met by the world's own term for the bytes: nothing is compared byte by byte -/
theorem code_word {y : MethodName} {bytes : ByteArray} {mx : Nat} {rt : Option FieldType} {a : Array Value} {s : State} {m : MethodId} {meth : Method} {c : Code} (h1 : s.methodNamed? y = some m) (h2 : s.vm.method? m = some meth) (h3 : meth.code = some c) (h4 : c.code = bytes)
    (h5 : (c.maxLocals == mx && c.exceptionTable.isEmpty && decide (c.maxStack ≤ mostOperands) && decide (meth.sig.returnType = rt) && !meth.locks && decide (parseMethodDescriptor y.desc = some meth.sig)) = true) : (Jvm.Cond.code y bytes mx rt).before a s = true := by
  simp only [Bool.and_eq_true, beq_iff_eq, Bool.not_eq_true', decide_eq_true_eq] at h5
  obtain ⟨⟨⟨⟨⟨g1, g2⟩, g3⟩, g4⟩, g5⟩, g6⟩ := h5
  simp [Cond.before, Cond.holds, Cond.value, h1, h2, h3, h4, g1, g2, g3, g4, g5, g6]
def isCode : Jvm.Cond → Bool
  | .code _ _ _ _ => true
  | _ => false
theorem all_split {L : List Jvm.Cond} {P : Jvm.Cond → Bool} (h1 : L.all (fun c => isCode c || P c) = true) (h2 : ∀ c ∈ L.filter isCode, P c = true) : L.all P = true := by
  refine List.all_eq_true.mpr fun c hc => ?_
  have h := List.all_eq_true.mp h1 c hc
  rcases Bool.eq_false_or_eq_true (isCode c) with hi | hi
  · exact h2 c (List.mem_filter.mpr ⟨hc, hi⟩)
  · simpa [hi] using h
set_option maxRecDepth 65536 in
theorem w_c0 : (Jvm.Cond.code x code maxLocals ret).before args0 about1 = true := code_word (m := ⟨1, 2⟩) (meth := k1m2) (c := k1c2) (by decide +kernel) rfl rfl rfl (by decide +kernel)
set_option maxRecDepth 65536 in
theorem w_c1 : (Jvm.Cond.code ({ cls := "org/sqcap/reasoner/IntMap", name := "<init>", desc := "(I)V" } : Jvm.MethodName) prog_54_method_1_code (3 : Nat) (Option.none : Option Jvm.ClassFile.FieldType)).before args0 about1 = true := code_word (m := ⟨2, 0⟩) (meth := k2m0) (c := k2c0) (by decide +kernel) rfl rfl rfl (by decide +kernel)
set_option maxRecDepth 65536 in
theorem w_c2 : (Jvm.Cond.code ({ cls := "java/lang/Object", name := "<init>", desc := "()V" } : Jvm.MethodName) object_method_1_code (1 : Nat) (Option.none : Option Jvm.ClassFile.FieldType)).before args0 about1 = true := code_word (m := ⟨0, 0⟩) (meth := k0m0) (c := k0c0) (by decide +kernel) rfl rfl rfl (by decide +kernel)
set_option maxRecDepth 65536 in
theorem w_c3 : (Jvm.Cond.code ({ cls := "java/lang/Math", name := "max", desc := "(II)I" } : Jvm.MethodName) jdk_29_method_65_code (2 : Nat) (Option.some Jvm.ClassFile.FieldType.int)).before args0 about1 = true := code_word (m := ⟨3, 1⟩) (meth := k3m1) (c := k3c1) (by decide +kernel) rfl rfl rfl (by decide +kernel)
set_option maxRecDepth 65536 in
theorem w_c4 : (Jvm.Cond.code ({ cls := "java/lang/Integer", name := "highestOneBit", desc := "(I)I" } : Jvm.MethodName) jdk_33_method_45_code (1 : Nat) (Option.some Jvm.ClassFile.FieldType.int)).before args0 about1 = true := code_word (m := ⟨9, 0⟩) (meth := k9m0) (c := k9c0) (by decide +kernel) rfl rfl rfl (by decide +kernel)
set_option maxRecDepth 65536 in
theorem w_c5 : (Jvm.Cond.code ({ cls := "java/lang/Integer", name := "numberOfLeadingZeros", desc := "(I)I" } : Jvm.MethodName) jdk_33_method_47_code (2 : Nat) (Option.some Jvm.ClassFile.FieldType.int)).before args0 about1 = true := code_word (m := ⟨9, 1⟩) (meth := k9m1) (c := k9c1) (by decide +kernel) rfl rfl rfl (by decide +kernel)
set_option maxRecDepth 65536 in
theorem w_c6 : (Jvm.Cond.code ({ cls := "org/sqcap/reasoner/IntMap", name := "put", desc := "(II)I" } : Jvm.MethodName) prog_54_method_4_code (3 : Nat) (Option.some Jvm.ClassFile.FieldType.int)).before args0 about1 = true := code_word (m := ⟨2, 2⟩) (meth := k2m2) (c := k2c2) (by decide +kernel) rfl rfl rfl (by decide +kernel)
set_option maxRecDepth 65536 in
theorem w_c7 : (Jvm.Cond.code ({ cls := "org/sqcap/reasoner/IntMap", name := "store", desc := "(IIZ)I" } : Jvm.MethodName) prog_54_method_6_code (8 : Nat) (Option.some Jvm.ClassFile.FieldType.int)).before args0 about1 = true := code_word (m := ⟨2, 3⟩) (meth := k2m3) (c := k2c3) (by decide +kernel) rfl rfl rfl (by decide +kernel)
set_option maxRecDepth 65536 in
theorem w_c8 : (Jvm.Cond.code ({ cls := "org/sqcap/reasoner/IntMap", name := "slot", desc := "(II)I" } : Jvm.MethodName) prog_54_method_10_code (3 : Nat) (Option.some Jvm.ClassFile.FieldType.int)).before args0 about1 = true := code_word (m := ⟨2, 5⟩) (meth := k2m5) (c := k2c5) (by decide +kernel) rfl rfl rfl (by decide +kernel)
set_option maxRecDepth 65536 in
theorem w_c9 : (Jvm.Cond.code ({ cls := "org/sqcap/reasoner/IntMap", name := "remove", desc := "(I)V" } : Jvm.MethodName) prog_54_method_8_code (8 : Nat) (Option.none : Option Jvm.ClassFile.FieldType)).before args0 about1 = true := code_word (m := ⟨2, 4⟩) (meth := k2m4) (c := k2c4) (by decide +kernel) rfl rfl rfl (by decide +kernel)
set_option maxRecDepth 65536 in
theorem w_c10 : (Jvm.Cond.code ({ cls := "org/sqcap/reasoner/IntMap", name := "get", desc := "(I)I" } : Jvm.MethodName) prog_54_method_2_code (6 : Nat) (Option.some Jvm.ClassFile.FieldType.int)).before args0 about1 = true := code_word (m := ⟨2, 1⟩) (meth := k2m1) (c := k2c1) (by decide +kernel) rfl rfl rfl (by decide +kernel)
set_option maxRecDepth 65536 in
theorem w_c11 : (Jvm.Cond.code ({ cls := "org/sqcap/reasoner/IntMapRemovePinLaw", name := "after", desc := "(IIIIII)I" } : Jvm.MethodName) method_2_code (6 : Nat) (Option.some Jvm.ClassFile.FieldType.int)).before args0 about1 = true := code_word (m := ⟨1, 1⟩) (meth := k1m1) (c := k1c1) (by decide +kernel) rfl rfl rfl (by decide +kernel)
def codes1 : List Jvm.Cond := [Jvm.Cond.code x code maxLocals ret, Jvm.Cond.code ({ cls := "org/sqcap/reasoner/IntMap", name := "<init>", desc := "(I)V" } : Jvm.MethodName) prog_54_method_1_code (3 : Nat) (Option.none : Option Jvm.ClassFile.FieldType), Jvm.Cond.code ({ cls := "java/lang/Object", name := "<init>", desc := "()V" } : Jvm.MethodName) object_method_1_code (1 : Nat) (Option.none : Option Jvm.ClassFile.FieldType), Jvm.Cond.code ({ cls := "java/lang/Math", name := "max", desc := "(II)I" } : Jvm.MethodName) jdk_29_method_65_code (2 : Nat) (Option.some Jvm.ClassFile.FieldType.int), Jvm.Cond.code ({ cls := "java/lang/Integer", name := "highestOneBit", desc := "(I)I" } : Jvm.MethodName) jdk_33_method_45_code (1 : Nat) (Option.some Jvm.ClassFile.FieldType.int), Jvm.Cond.code ({ cls := "java/lang/Integer", name := "numberOfLeadingZeros", desc := "(I)I" } : Jvm.MethodName) jdk_33_method_47_code (2 : Nat) (Option.some Jvm.ClassFile.FieldType.int), Jvm.Cond.code ({ cls := "org/sqcap/reasoner/IntMap", name := "put", desc := "(II)I" } : Jvm.MethodName) prog_54_method_4_code (3 : Nat) (Option.some Jvm.ClassFile.FieldType.int), Jvm.Cond.code ({ cls := "org/sqcap/reasoner/IntMap", name := "store", desc := "(IIZ)I" } : Jvm.MethodName) prog_54_method_6_code (8 : Nat) (Option.some Jvm.ClassFile.FieldType.int), Jvm.Cond.code ({ cls := "org/sqcap/reasoner/IntMap", name := "slot", desc := "(II)I" } : Jvm.MethodName) prog_54_method_10_code (3 : Nat) (Option.some Jvm.ClassFile.FieldType.int), Jvm.Cond.code ({ cls := "org/sqcap/reasoner/IntMap", name := "remove", desc := "(I)V" } : Jvm.MethodName) prog_54_method_8_code (8 : Nat) (Option.none : Option Jvm.ClassFile.FieldType), Jvm.Cond.code ({ cls := "org/sqcap/reasoner/IntMap", name := "get", desc := "(I)I" } : Jvm.MethodName) prog_54_method_2_code (6 : Nat) (Option.some Jvm.ClassFile.FieldType.int), Jvm.Cond.code ({ cls := "org/sqcap/reasoner/IntMapRemovePinLaw", name := "after", desc := "(IIIIII)I" } : Jvm.MethodName) method_2_code (6 : Nat) (Option.some Jvm.ClassFile.FieldType.int)]
set_option maxRecDepth 65536 in
theorem codes_eq : words1.filter isCode = codes1 := rfl
theorem w_codes : ∀ c ∈ words1.filter isCode, c.before args0 about1 = true := by
  rw [codes_eq]
  intro c hc
  simp only [codes1, List.mem_cons, List.not_mem_nil, or_false] at hc
  rcases hc with rfl | rfl | rfl | rfl | rfl | rfl | rfl | rfl | rfl | rfl | rfl | rfl
  · exact w_c0
  · exact w_c1
  · exact w_c2
  · exact w_c3
  · exact w_c4
  · exact w_c5
  · exact w_c6
  · exact w_c7
  · exact w_c8
  · exact w_c9
  · exact w_c10
  · exact w_c11
set_option maxRecDepth 65536 in
theorem w_t1 : (words1.take 24).all (fun c => isCode c || c.before args0 about1) = true := by decide +kernel
set_option maxRecDepth 65536 in
theorem w_t2 : ((words1.drop 24).take 24).all (fun c => isCode c || c.before args0 about1) = true := by decide +kernel
set_option maxRecDepth 65536 in
theorem w_t3 : ((words1.drop 24).drop 24).all (fun c => isCode c || c.before args0 about1) = true := by decide +kernel
theorem w_tables : (allAtoms (Jvm.Cond.code x code maxLocals ret :: tables_1)).before args0 about1 = true := by
  rw [allAtoms_all]
  show words1.all (fun c => c.before args0 about1) = true
  refine all_split ?_ w_codes
  rw [← List.take_append_drop 24 words1, List.all_append, w_t1, ← List.take_append_drop 24 (words1.drop 24), List.all_append, w_t2, w_t3]
  rfl
set_option maxRecDepth 65536 in
theorem w_case : (Jvm.Cond.and given_1 narrow_1).before args0 about1 = true := by decide +kernel
theorem w_applies : (headSpec (Jvm.Cond.code x code maxLocals ret :: tables_1) room_1).applies x e0.platform about1 = true :=
  (Spec.applies_iff w_frames).mpr ⟨w_running, w_runnable, w_alone, w_named, w_hears, w_ripe, w_room, w_tables⟩
theorem atStart : AtStart classFile x code maxLocals ret World_1 tables_1 room_1 Calls_1 rest_1 Pre_1 launch0 p0 e0 about1 theMethod args0 below0 :=
  ⟨lists_1, trivial, launch0.admits_env _ _ _, launch0.least_env, fairChoices_fair.cas, fairChoices_fair.clock, w_frames, w_args, w_heap, w_applies, trivial, trivial, w_case⟩
end start1
theorem witness_1 : WitnessClaimed_1 := ⟨start1.p0, start1.e0, start1.about1, start1.theMethod, start1.args0, start1.below0, start1.atStart⟩
end Jvm.Pilot.@@N@@
