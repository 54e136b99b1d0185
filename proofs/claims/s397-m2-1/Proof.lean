import JvmDerived
import JvmDerived.Pilot.@@N@@Statement
import JvmDerived.Pilot.@@N@@Code
set_option linter.unusedVariables false
set_option linter.unusedSimpArgs false
namespace Jvm.OwnKit
open Sem ClassFile Op Lib Jvm.Stand Jvm.Free Jvm.LawKit Jvm.RoadKit
/-- what stays the same in one body: program, launch, environment, room, first state, method, arguments, frames below, method record, code -/
abbrev Cx := Program × Launch × Env × Room × State × MethodId × Array Value × List Frame × Method × Code
/-- from here the body runs to its end, and Q holds of what it returns and of the heap then -/
def G (k : Cx) (n0 : Nat) (Q : Option Value → Heap → Prop) (h : Heap) (cells slots pc : Nat) (Ls : List Slot) (St : List Value) : Prop :=
  cells ≤ k.2.2.2.1.cells → slots ≤ k.2.2.2.1.slots → ∀ (T : State) (locs : List Loc),
  Stand k.1 k.2.1 k.2.2.1 k.2.2.2.1 k.2.2.2.2.1 k.2.2.2.2.2.1 k.2.2.2.2.2.2.1 k.2.2.2.2.2.2.2.1 k.2.2.2.2.2.2.2.2.1 k.2.2.2.2.2.2.2.2.2 T locs cells slots → T.heap = h → Fr n0 locs →
  ∃ s₂ o, Steps k.1.tables k.2.2.1 k.2.2.2.2.2.2.2.1 (T.setTop (mkF k.2.2.2.2.2.1 pc ⟨Ls⟩ St)) s₂ ∧ s₂.status = .running ∧ Ended s₂ k.2.2.2.2.2.2.2.1 o ∧
    ∃ v L, o = .returned v ∧ (Q v s₂.heap ∧ Fr n0 L) ∧ FrameEnd k.2.2.2.2.1 o s₂ L k.2.2.2.1.cells k.2.2.2.1.slots
/-- what is known of the body all along -/
def Ok (k : Cx) (Z : State) (n0 : Nat) (own : String) (R : Room) (bytes : ByteArray) (maxL : Nat) (ret : Option FieldType) (nm : String) : Prop :=
  k.1.tables.exec = Jvm.exec ∧ Z.Warmed39 k.2.2.2.2.1.vm ∧ k.2.2.2.2.1.vm.findClass own = some k.2.2.2.2.2.1.cls ∧ k.2.2.2.1 = R ∧ k.2.2.2.2.2.2.2.2.2.code = bytes ∧
  k.2.2.2.2.2.2.2.2.2.maxLocals = maxL ∧ k.2.2.2.2.2.2.2.2.1.sig.returnType = ret ∧ k.2.2.2.2.2.2.2.2.1.locks = false ∧ k.2.2.2.2.2.2.2.2.1.name = nm ∧ n0 ≤ k.2.2.2.2.1.heap.size
def Dc (bytes : ByteArray) (pc : Nat) (i : Instr) (len pc' : Nat) : Prop := decode bytes pc = .ok (i, len) ∧ pc' = pc + len
def Db (bytes : ByteArray) (pc : Nat) (f : Int → Instr) (nx tg : Nat) : Prop := ∃ o : Int, decode bytes pc = .ok (f o, 3) ∧ nx = pc + 3 ∧ 0 ≤ (pc : Int) + o ∧ ((pc : Int) + o).toNat = tg
theorem dc {bytes : ByteArray} {pc : Nat} {i : Instr} {len : Nat} (h : decode bytes pc = .ok (i, len)) {pc' : Nat} (e : pc' = pc + len) : Dc bytes pc i len pc' := ⟨h, e⟩
theorem db {bytes : ByteArray} {pc : Nat} {f : Int → Instr} (o : Int) (h : decode bytes pc = .ok (f o, 3)) {nx tg : Nat} (e : nx = pc + 3) (e2 : 0 ≤ (pc : Int) + o) (e3 : ((pc : Int) + o).toNat = tg) : Db bytes pc f nx tg := ⟨o, h, e, e2, e3⟩
variable {k : Cx} {Z : State} {n0 : Nat} {own : String} {R : Room} {bytes : ByteArray} {maxL : Nat} {ret : Option FieldType} {nm : String} {Q : Option Value → Heap → Prop} {h : Heap} {cells slots pc pc' nx tg : Nat} {Ls Ls' : List Slot} {St St' : List Value} {a0 : Array Value}
/-- one step that moves neither heap nor tables -/
theorem G.plain {p : Program} {l : Launch} {e : Env} {R : Room} {s : State} {m : MethodId} {args : Array Value} {below : List Frame} {meth : Method} {c : Code}
    (st : ∀ T locs target, Stand p l e R s m args below meth c T locs cells slots → Steps p.tables e below (T.setTop (mkF m pc' ⟨Ls'⟩ St')) target → Steps p.tables e below (T.setTop (mkF m pc ⟨Ls⟩ St)) target)
    (g : G (p, l, e, R, s, m, args, below, meth, c) n0 Q h cells slots pc' Ls' St') : G (p, l, e, R, s, m, args, below, meth, c) n0 Q h cells slots pc Ls St := by
  intro hc hs T locs X eT N
  obtain ⟨s₂, o, h1, r⟩ := g hc hs T locs X eT N
  exact ⟨s₂, o, st T locs s₂ X h1, r⟩
/-- one step that leaves the heap as it is -/
theorem G.moved {p : Program} {l : Launch} {e : Env} {R : Room} {s : State} {m : MethodId} {args : Array Value} {below : List Frame} {meth : Method} {c : Code}
    (st : ∀ T locs, Stand p l e R s m args below meth c T locs cells slots → T.heap = h → ∃ T', Stand p l e R s m args below meth c T' locs cells slots ∧ T'.heap = h ∧ ∀ target, Steps p.tables e below (T'.setTop (mkF m pc' ⟨Ls'⟩ St')) target → Steps p.tables e below (T.setTop (mkF m pc ⟨Ls⟩ St)) target)
    (g : G (p, l, e, R, s, m, args, below, meth, c) n0 Q h cells slots pc' Ls' St') : G (p, l, e, R, s, m, args, below, meth, c) n0 Q h cells slots pc Ls St := by
  intro hc hs T locs X eT N
  obtain ⟨T', X', eT', st⟩ := st T locs X eT
  obtain ⟨s₂, o, h1, r⟩ := g hc hs T' locs X' eT' N
  exact ⟨s₂, o, st s₂ h1, r⟩
theorem G.more {cells' slots' : Nat} (K : Ok k Z n0 own R bytes maxL ret nm) (g : G k n0 Q h cells' slots' pc Ls St) (hc : cells ≤ cells') (hs : slots ≤ slots') (hc' : cells' ≤ R.cells) (hs' : slots' ≤ R.slots) : G k n0 Q h cells slots pc Ls St := by
  obtain ⟨-, -, -, rfl, -⟩ := K
  intro _ _ T locs X eT N
  exact g hc' hs' T locs (X.more hc hs) eT N
theorem G.post {Q' : Option Value → Heap → Prop} (g : G k n0 Q' h cells slots pc Ls St) (q : ∀ v h, Q' v h → Q v h) : G k n0 Q h cells slots pc Ls St := by
  intro hc hs T locs X eT N
  obtain ⟨s₂, o, h1, h2, h3, v, L, h4, ⟨h5, h6⟩, h7⟩ := g hc hs T locs X eT N
  exact ⟨s₂, o, h1, h2, h3, v, L, h4, ⟨q _ _ h5, h6⟩, h7⟩
theorem G.iadd (K : Ok k Z n0 own R bytes maxL ret nm) {x y : Int32} (d : Dc bytes pc .iadd 1 pc') (g : G k n0 Q h cells slots pc' Ls (.int (x + y) :: St)) : G k n0 Q h cells slots pc Ls (.int y :: .int x :: St) := by
  obtain ⟨p, l, e, R', s, m, args, below, meth, c⟩ := k
  obtain ⟨hx, hZ, hown, rfl, rfl, rfl, rfl, hlk, rfl, hn0⟩ := K
  obtain ⟨d, rfl⟩ := d
  exact G.plain (fun T locs t X q => XS.iadd X.here hx rfl d rfl q) g
theorem G.isub (K : Ok k Z n0 own R bytes maxL ret nm) {x y : Int32} (d : Dc bytes pc .isub 1 pc') (g : G k n0 Q h cells slots pc' Ls (.int (x - y) :: St)) : G k n0 Q h cells slots pc Ls (.int y :: .int x :: St) := by
  obtain ⟨p, l, e, R', s, m, args, below, meth, c⟩ := k
  obtain ⟨hx, hZ, hown, rfl, rfl, rfl, rfl, hlk, rfl, hn0⟩ := K
  obtain ⟨d, rfl⟩ := d
  exact G.plain (fun T locs t X q => XS.isub X.here hx rfl d rfl q) g
theorem G.imul (K : Ok k Z n0 own R bytes maxL ret nm) {x y : Int32} (d : Dc bytes pc .imul 1 pc') (g : G k n0 Q h cells slots pc' Ls (.int (x * y) :: St)) : G k n0 Q h cells slots pc Ls (.int y :: .int x :: St) := by
  obtain ⟨p, l, e, R', s, m, args, below, meth, c⟩ := k
  obtain ⟨hx, hZ, hown, rfl, rfl, rfl, rfl, hlk, rfl, hn0⟩ := K
  obtain ⟨d, rfl⟩ := d
  exact G.plain (fun T locs t X q => XS.imul X.here hx rfl d rfl q) g
theorem G.iand (K : Ok k Z n0 own R bytes maxL ret nm) {x y : Int32} (d : Dc bytes pc .iand 1 pc') (g : G k n0 Q h cells slots pc' Ls (.int (x &&& y) :: St)) : G k n0 Q h cells slots pc Ls (.int y :: .int x :: St) := by
  obtain ⟨p, l, e, R', s, m, args, below, meth, c⟩ := k
  obtain ⟨hx, hZ, hown, rfl, rfl, rfl, rfl, hlk, rfl, hn0⟩ := K
  obtain ⟨d, rfl⟩ := d
  exact G.plain (fun T locs t X q => XS.iand X.here hx rfl d rfl q) g
theorem G.ior (K : Ok k Z n0 own R bytes maxL ret nm) {x y : Int32} (d : Dc bytes pc .ior 1 pc') (g : G k n0 Q h cells slots pc' Ls (.int (x ||| y) :: St)) : G k n0 Q h cells slots pc Ls (.int y :: .int x :: St) := by
  obtain ⟨p, l, e, R', s, m, args, below, meth, c⟩ := k
  obtain ⟨hx, hZ, hown, rfl, rfl, rfl, rfl, hlk, rfl, hn0⟩ := K
  obtain ⟨d, rfl⟩ := d
  exact G.plain (fun T locs t X q => XT.ior X.here hx rfl d rfl q) g
theorem G.ixor (K : Ok k Z n0 own R bytes maxL ret nm) {x y : Int32} (d : Dc bytes pc .ixor 1 pc') (g : G k n0 Q h cells slots pc' Ls (.int (x ^^^ y) :: St)) : G k n0 Q h cells slots pc Ls (.int y :: .int x :: St) := by
  obtain ⟨p, l, e, R', s, m, args, below, meth, c⟩ := k
  obtain ⟨hx, hZ, hown, rfl, rfl, rfl, rfl, hlk, rfl, hn0⟩ := K
  obtain ⟨d, rfl⟩ := d
  exact G.plain (fun T locs t X q => XT.ixor X.here hx rfl d rfl q) g
theorem G.ishl (K : Ok k Z n0 own R bytes maxL ret nm) {x y : Int32} (d : Dc bytes pc .ishl 1 pc') (g : G k n0 Q h cells slots pc' Ls (.int (x <<< (y &&& 31)) :: St)) : G k n0 Q h cells slots pc Ls (.int y :: .int x :: St) := by
  obtain ⟨p, l, e, R', s, m, args, below, meth, c⟩ := k
  obtain ⟨hx, hZ, hown, rfl, rfl, rfl, rfl, hlk, rfl, hn0⟩ := K
  obtain ⟨d, rfl⟩ := d
  exact G.plain (fun T locs t X q => XT.ishl X.here hx rfl d rfl q) g
theorem G.ishr (K : Ok k Z n0 own R bytes maxL ret nm) {x y : Int32} (d : Dc bytes pc .ishr 1 pc') (g : G k n0 Q h cells slots pc' Ls (.int (x >>> (y &&& 31)) :: St)) : G k n0 Q h cells slots pc Ls (.int y :: .int x :: St) := by
  obtain ⟨p, l, e, R', s, m, args, below, meth, c⟩ := k
  obtain ⟨hx, hZ, hown, rfl, rfl, rfl, rfl, hlk, rfl, hn0⟩ := K
  obtain ⟨d, rfl⟩ := d
  exact G.plain (fun T locs t X q => XT.ishr X.here hx rfl d rfl q) g
theorem G.iushr (K : Ok k Z n0 own R bytes maxL ret nm) {x y : Int32} (d : Dc bytes pc .iushr 1 pc') (g : G k n0 Q h cells slots pc' Ls (.int (XT.ushr x y) :: St)) : G k n0 Q h cells slots pc Ls (.int y :: .int x :: St) := by
  obtain ⟨p, l, e, R', s, m, args, below, meth, c⟩ := k
  obtain ⟨hx, hZ, hown, rfl, rfl, rfl, rfl, hlk, rfl, hn0⟩ := K
  obtain ⟨d, rfl⟩ := d
  exact G.plain (fun T locs t X q => XT.iushr X.here hx rfl d rfl q) g
theorem G.ladd (K : Ok k Z n0 own R bytes maxL ret nm) {x y : Int64} (d : Dc bytes pc .ladd 1 pc') (g : G k n0 Q h cells slots pc' Ls (.long (x + y) :: St)) : G k n0 Q h cells slots pc Ls (.long y :: .long x :: St) := by
  obtain ⟨p, l, e, R', s, m, args, below, meth, c⟩ := k
  obtain ⟨hx, hZ, hown, rfl, rfl, rfl, rfl, hlk, rfl, hn0⟩ := K
  obtain ⟨d, rfl⟩ := d
  exact G.plain (fun T locs t X q => XT.ladd X.here hx rfl d rfl q) g
theorem G.lsub (K : Ok k Z n0 own R bytes maxL ret nm) {x y : Int64} (d : Dc bytes pc .lsub 1 pc') (g : G k n0 Q h cells slots pc' Ls (.long (x - y) :: St)) : G k n0 Q h cells slots pc Ls (.long y :: .long x :: St) := by
  obtain ⟨p, l, e, R', s, m, args, below, meth, c⟩ := k
  obtain ⟨hx, hZ, hown, rfl, rfl, rfl, rfl, hlk, rfl, hn0⟩ := K
  obtain ⟨d, rfl⟩ := d
  exact G.plain (fun T locs t X q => XT.lsub X.here hx rfl d rfl q) g
theorem G.lmul (K : Ok k Z n0 own R bytes maxL ret nm) {x y : Int64} (d : Dc bytes pc .lmul 1 pc') (g : G k n0 Q h cells slots pc' Ls (.long (x * y) :: St)) : G k n0 Q h cells slots pc Ls (.long y :: .long x :: St) := by
  obtain ⟨p, l, e, R', s, m, args, below, meth, c⟩ := k
  obtain ⟨hx, hZ, hown, rfl, rfl, rfl, rfl, hlk, rfl, hn0⟩ := K
  obtain ⟨d, rfl⟩ := d
  exact G.plain (fun T locs t X q => XT.lmul X.here hx rfl d rfl q) g
theorem G.land (K : Ok k Z n0 own R bytes maxL ret nm) {x y : Int64} (d : Dc bytes pc .land 1 pc') (g : G k n0 Q h cells slots pc' Ls (.long (x &&& y) :: St)) : G k n0 Q h cells slots pc Ls (.long y :: .long x :: St) := by
  obtain ⟨p, l, e, R', s, m, args, below, meth, c⟩ := k
  obtain ⟨hx, hZ, hown, rfl, rfl, rfl, rfl, hlk, rfl, hn0⟩ := K
  obtain ⟨d, rfl⟩ := d
  exact G.plain (fun T locs t X q => XT.land X.here hx rfl d rfl q) g
theorem G.lor (K : Ok k Z n0 own R bytes maxL ret nm) {x y : Int64} (d : Dc bytes pc .lor 1 pc') (g : G k n0 Q h cells slots pc' Ls (.long (x ||| y) :: St)) : G k n0 Q h cells slots pc Ls (.long y :: .long x :: St) := by
  obtain ⟨p, l, e, R', s, m, args, below, meth, c⟩ := k
  obtain ⟨hx, hZ, hown, rfl, rfl, rfl, rfl, hlk, rfl, hn0⟩ := K
  obtain ⟨d, rfl⟩ := d
  exact G.plain (fun T locs t X q => XT.lor X.here hx rfl d rfl q) g
theorem G.lxor (K : Ok k Z n0 own R bytes maxL ret nm) {x y : Int64} (d : Dc bytes pc .lxor 1 pc') (g : G k n0 Q h cells slots pc' Ls (.long (x ^^^ y) :: St)) : G k n0 Q h cells slots pc Ls (.long y :: .long x :: St) := by
  obtain ⟨p, l, e, R', s, m, args, below, meth, c⟩ := k
  obtain ⟨hx, hZ, hown, rfl, rfl, rfl, rfl, hlk, rfl, hn0⟩ := K
  obtain ⟨d, rfl⟩ := d
  exact G.plain (fun T locs t X q => XT.lxor X.here hx rfl d rfl q) g
theorem G.lshl (K : Ok k Z n0 own R bytes maxL ret nm) {x : Int64} {y : Int32} (d : Dc bytes pc .lshl 1 pc') (g : G k n0 Q h cells slots pc' Ls (.long (x <<< (y.toInt64 &&& 63)) :: St)) : G k n0 Q h cells slots pc Ls (.int y :: .long x :: St) := by
  obtain ⟨p, l, e, R', s, m, args, below, meth, c⟩ := k
  obtain ⟨hx, hZ, hown, rfl, rfl, rfl, rfl, hlk, rfl, hn0⟩ := K
  obtain ⟨d, rfl⟩ := d
  exact G.plain (fun T locs t X q => XT.lshl X.here hx rfl d rfl q) g
theorem G.lshr (K : Ok k Z n0 own R bytes maxL ret nm) {x : Int64} {y : Int32} (d : Dc bytes pc .lshr 1 pc') (g : G k n0 Q h cells slots pc' Ls (.long (x >>> (y.toInt64 &&& 63)) :: St)) : G k n0 Q h cells slots pc Ls (.int y :: .long x :: St) := by
  obtain ⟨p, l, e, R', s, m, args, below, meth, c⟩ := k
  obtain ⟨hx, hZ, hown, rfl, rfl, rfl, rfl, hlk, rfl, hn0⟩ := K
  obtain ⟨d, rfl⟩ := d
  exact G.plain (fun T locs t X q => XT.lshr X.here hx rfl d rfl q) g
theorem G.lushr (K : Ok k Z n0 own R bytes maxL ret nm) {x : Int64} {y : Int32} (d : Dc bytes pc .lushr 1 pc') (g : G k n0 Q h cells slots pc' Ls (.long (XT.ushrL x y) :: St)) : G k n0 Q h cells slots pc Ls (.int y :: .long x :: St) := by
  obtain ⟨p, l, e, R', s, m, args, below, meth, c⟩ := k
  obtain ⟨hx, hZ, hown, rfl, rfl, rfl, rfl, hlk, rfl, hn0⟩ := K
  obtain ⟨d, rfl⟩ := d
  exact G.plain (fun T locs t X q => XT.lushr X.here hx rfl d rfl q) g
theorem G.irem (K : Ok k Z n0 own R bytes maxL ret nm) {x y : Int32} (d : Dc bytes pc .irem 1 pc') (hy : y ≠ 0) (g : G k n0 Q h cells slots pc' Ls (.int (x % y) :: St)) : G k n0 Q h cells slots pc Ls (.int y :: .int x :: St) := by
  obtain ⟨p, l, e, R', s, m, args, below, meth, c⟩ := k
  obtain ⟨hx, hZ, hown, rfl, rfl, rfl, rfl, hlk, rfl, hn0⟩ := K
  obtain ⟨d, rfl⟩ := d
  exact G.plain (fun T locs t X q => iremM X hx rfl d rfl hy q) g
theorem G.idiv (K : Ok k Z n0 own R bytes maxL ret nm) {x y : Int32} (d : Dc bytes pc .idiv 1 pc') (hy : y ≠ 0) (g : G k n0 Q h cells slots pc' Ls (.int (x / y) :: St)) : G k n0 Q h cells slots pc Ls (.int y :: .int x :: St) := by
  obtain ⟨p, l, e, R', s, m, args, below, meth, c⟩ := k
  obtain ⟨hx, hZ, hown, rfl, rfl, rfl, rfl, hlk, rfl, hn0⟩ := K
  obtain ⟨d, rfl⟩ := d
  exact G.plain (fun T locs t X q => XS.idiv X.here hx rfl d rfl hy q) g
theorem G.ldiv (K : Ok k Z n0 own R bytes maxL ret nm) {x y : Int64} (d : Dc bytes pc .ldiv 1 pc') (hy : y ≠ 0) (g : G k n0 Q h cells slots pc' Ls (.long (x / y) :: St)) : G k n0 Q h cells slots pc Ls (.long y :: .long x :: St) := by
  obtain ⟨p, l, e, R', s, m, args, below, meth, c⟩ := k
  obtain ⟨hx, hZ, hown, rfl, rfl, rfl, rfl, hlk, rfl, hn0⟩ := K
  obtain ⟨d, rfl⟩ := d
  exact G.plain (fun T locs t X q => XT.ldiv X.here hx rfl d rfl hy q) g
theorem G.ineg (K : Ok k Z n0 own R bytes maxL ret nm) {x : Int32} (d : Dc bytes pc .ineg 1 pc') (g : G k n0 Q h cells slots pc' Ls (.int (-x) :: St)) : G k n0 Q h cells slots pc Ls (.int x :: St) := by
  obtain ⟨p, l, e, R', s, m, args, below, meth, c⟩ := k
  obtain ⟨hx, hZ, hown, rfl, rfl, rfl, rfl, hlk, rfl, hn0⟩ := K
  obtain ⟨d, rfl⟩ := d
  exact G.plain (fun T locs t X q => XS.ineg X.here hx rfl d rfl q) g
theorem G.lneg (K : Ok k Z n0 own R bytes maxL ret nm) {x : Int64} (d : Dc bytes pc .lneg 1 pc') (g : G k n0 Q h cells slots pc' Ls (.long (-x) :: St)) : G k n0 Q h cells slots pc Ls (.long x :: St) := by
  obtain ⟨p, l, e, R', s, m, args, below, meth, c⟩ := k
  obtain ⟨hx, hZ, hown, rfl, rfl, rfl, rfl, hlk, rfl, hn0⟩ := K
  obtain ⟨d, rfl⟩ := d
  exact G.plain (fun T locs t X q => XT.lneg X.here hx rfl d rfl q) g
theorem G.i2l (K : Ok k Z n0 own R bytes maxL ret nm) {x : Int32} (d : Dc bytes pc .i2l 1 pc') (g : G k n0 Q h cells slots pc' Ls (.long x.toInt64 :: St)) : G k n0 Q h cells slots pc Ls (.int x :: St) := by
  obtain ⟨p, l, e, R', s, m, args, below, meth, c⟩ := k
  obtain ⟨hx, hZ, hown, rfl, rfl, rfl, rfl, hlk, rfl, hn0⟩ := K
  obtain ⟨d, rfl⟩ := d
  exact G.plain (fun T locs t X q => XT.i2l X.here hx rfl d rfl q) g
theorem G.l2i (K : Ok k Z n0 own R bytes maxL ret nm) {x : Int64} (d : Dc bytes pc .l2i 1 pc') (g : G k n0 Q h cells slots pc' Ls (.int x.toInt32 :: St)) : G k n0 Q h cells slots pc Ls (.long x :: St) := by
  obtain ⟨p, l, e, R', s, m, args, below, meth, c⟩ := k
  obtain ⟨hx, hZ, hown, rfl, rfl, rfl, rfl, hlk, rfl, hn0⟩ := K
  obtain ⟨d, rfl⟩ := d
  exact G.plain (fun T locs t X q => XT.l2i X.here hx rfl d rfl q) g
theorem G.i2b (K : Ok k Z n0 own R bytes maxL ret nm) {x : Int32} (d : Dc bytes pc .i2b 1 pc') (g : G k n0 Q h cells slots pc' Ls (.int x.toInt8.toInt32 :: St)) : G k n0 Q h cells slots pc Ls (.int x :: St) := by
  obtain ⟨p, l, e, R', s, m, args, below, meth, c⟩ := k
  obtain ⟨hx, hZ, hown, rfl, rfl, rfl, rfl, hlk, rfl, hn0⟩ := K
  obtain ⟨d, rfl⟩ := d
  exact G.plain (fun T locs t X q => XT.i2b X.here hx rfl d rfl q) g
theorem G.i2s (K : Ok k Z n0 own R bytes maxL ret nm) {x : Int32} (d : Dc bytes pc .i2s 1 pc') (g : G k n0 Q h cells slots pc' Ls (.int x.toInt16.toInt32 :: St)) : G k n0 Q h cells slots pc Ls (.int x :: St) := by
  obtain ⟨p, l, e, R', s, m, args, below, meth, c⟩ := k
  obtain ⟨hx, hZ, hown, rfl, rfl, rfl, rfl, hlk, rfl, hn0⟩ := K
  obtain ⟨d, rfl⟩ := d
  exact G.plain (fun T locs t X q => XT.i2s X.here hx rfl d rfl q) g
theorem G.i2c (K : Ok k Z n0 own R bytes maxL ret nm) {x : Int32} (d : Dc bytes pc .i2c 1 pc') (g : G k n0 Q h cells slots pc' Ls (.int x.toUInt32.toUInt16.toUInt32.toInt32 :: St)) : G k n0 Q h cells slots pc Ls (.int x :: St) := by
  obtain ⟨p, l, e, R', s, m, args, below, meth, c⟩ := k
  obtain ⟨hx, hZ, hown, rfl, rfl, rfl, rfl, hlk, rfl, hn0⟩ := K
  obtain ⟨d, rfl⟩ := d
  exact G.plain (fun T locs t X q => XT.i2c X.here hx rfl d rfl q) g
theorem G.iloadN (K : Ok k Z n0 own R bytes maxL ret nm) {v : Int32} {i : Fin 4} (d : Dc bytes pc (.iload_n i) 1 pc') (hl : Ls[i.val]? = some (.val (.int v))) (g : G k n0 Q h cells slots pc' Ls (.int v :: St)) : G k n0 Q h cells slots pc Ls (St) := by
  obtain ⟨p, l, e, R', s, m, args, below, meth, c⟩ := k
  obtain ⟨hx, hZ, hown, rfl, rfl, rfl, rfl, hlk, rfl, hn0⟩ := K
  obtain ⟨d, rfl⟩ := d
  exact G.plain (fun T locs t X q => XS.iloadN X.here hx rfl d (by simpa using hl) q) g
theorem G.iload (K : Ok k Z n0 own R bytes maxL ret nm) {v : Int32} {i : Nat} (d : Dc bytes pc (.iload i) 2 pc') (hl : Ls[i]? = some (.val (.int v))) (g : G k n0 Q h cells slots pc' Ls (.int v :: St)) : G k n0 Q h cells slots pc Ls (St) := by
  obtain ⟨p, l, e, R', s, m, args, below, meth, c⟩ := k
  obtain ⟨hx, hZ, hown, rfl, rfl, rfl, rfl, hlk, rfl, hn0⟩ := K
  obtain ⟨d, rfl⟩ := d
  exact G.plain (fun T locs t X q => XS.iload X.here hx rfl d (by simpa using hl) q) g
theorem G.lloadN (K : Ok k Z n0 own R bytes maxL ret nm) {v : Int64} {i : Fin 4} (d : Dc bytes pc (.lload_n i) 1 pc') (hl : Ls[i.val]? = some (.val (.long v))) (g : G k n0 Q h cells slots pc' Ls (.long v :: St)) : G k n0 Q h cells slots pc Ls (St) := by
  obtain ⟨p, l, e, R', s, m, args, below, meth, c⟩ := k
  obtain ⟨hx, hZ, hown, rfl, rfl, rfl, rfl, hlk, rfl, hn0⟩ := K
  obtain ⟨d, rfl⟩ := d
  exact G.plain (fun T locs t X q => XT.lloadN X.here hx rfl d (by simpa using hl) q) g
theorem G.lload (K : Ok k Z n0 own R bytes maxL ret nm) {v : Int64} {i : Nat} (d : Dc bytes pc (.lload i) 2 pc') (hl : Ls[i]? = some (.val (.long v))) (g : G k n0 Q h cells slots pc' Ls (.long v :: St)) : G k n0 Q h cells slots pc Ls (St) := by
  obtain ⟨p, l, e, R', s, m, args, below, meth, c⟩ := k
  obtain ⟨hx, hZ, hown, rfl, rfl, rfl, rfl, hlk, rfl, hn0⟩ := K
  obtain ⟨d, rfl⟩ := d
  exact G.plain (fun T locs t X q => XT.lload X.here hx rfl d (by simpa using hl) q) g
theorem G.aloadN (K : Ok k Z n0 own R bytes maxL ret nm) {v : Value} {i : Fin 4} (d : Dc bytes pc (.aload_n i) 1 pc') (hl : Ls[i.val]? = some (.val (v))) (hv : v.isRef = true) (g : G k n0 Q h cells slots pc' Ls (v :: St)) : G k n0 Q h cells slots pc Ls (St) := by
  obtain ⟨p, l, e, R', s, m, args, below, meth, c⟩ := k
  obtain ⟨hx, hZ, hown, rfl, rfl, rfl, rfl, hlk, rfl, hn0⟩ := K
  obtain ⟨d, rfl⟩ := d
  exact G.plain (fun T locs t X q => XS.aloadN X.here hx rfl d (by simpa using hl) hv q) g
theorem G.aload (K : Ok k Z n0 own R bytes maxL ret nm) {v : Value} {i : Nat} (d : Dc bytes pc (.aload i) 2 pc') (hl : Ls[i]? = some (.val (v))) (hv : v.isRef = true) (g : G k n0 Q h cells slots pc' Ls (v :: St)) : G k n0 Q h cells slots pc Ls (St) := by
  obtain ⟨p, l, e, R', s, m, args, below, meth, c⟩ := k
  obtain ⟨hx, hZ, hown, rfl, rfl, rfl, rfl, hlk, rfl, hn0⟩ := K
  obtain ⟨d, rfl⟩ := d
  exact G.plain (fun T locs t X q => XS.aload X.here hx rfl d (by simpa using hl) hv q) g
theorem G.istoreN (K : Ok k Z n0 own R bytes maxL ret nm) {v : Int32} {i : Fin 4} (d : Dc bytes pc (.istore_n i) 1 pc') (Ls' : List Slot) (hl : storeLocals ⟨Ls⟩ i.val (.int v) = some ⟨Ls'⟩) (g : G k n0 Q h cells slots pc' Ls' (St)) : G k n0 Q h cells slots pc Ls (.int v :: St) := by
  obtain ⟨p, l, e, R', s, m, args, below, meth, c⟩ := k
  obtain ⟨hx, hZ, hown, rfl, rfl, rfl, rfl, hlk, rfl, hn0⟩ := K
  obtain ⟨d, rfl⟩ := d
  exact G.plain (fun T locs t X q => XS.istoreN X.here hx rfl d rfl hl q) g
theorem G.istore (K : Ok k Z n0 own R bytes maxL ret nm) {v : Int32} {i : Nat} (d : Dc bytes pc (.istore i) 2 pc') (Ls' : List Slot) (hl : storeLocals ⟨Ls⟩ i (.int v) = some ⟨Ls'⟩) (g : G k n0 Q h cells slots pc' Ls' (St)) : G k n0 Q h cells slots pc Ls (.int v :: St) := by
  obtain ⟨p, l, e, R', s, m, args, below, meth, c⟩ := k
  obtain ⟨hx, hZ, hown, rfl, rfl, rfl, rfl, hlk, rfl, hn0⟩ := K
  obtain ⟨d, rfl⟩ := d
  exact G.plain (fun T locs t X q => XS.istore X.here hx rfl d rfl hl q) g
theorem G.lstoreN (K : Ok k Z n0 own R bytes maxL ret nm) {v : Int64} {i : Fin 4} (d : Dc bytes pc (.lstore_n i) 1 pc') (Ls' : List Slot) (hl : storeLocals ⟨Ls⟩ i.val (.long v) = some ⟨Ls'⟩) (g : G k n0 Q h cells slots pc' Ls' (St)) : G k n0 Q h cells slots pc Ls (.long v :: St) := by
  obtain ⟨p, l, e, R', s, m, args, below, meth, c⟩ := k
  obtain ⟨hx, hZ, hown, rfl, rfl, rfl, rfl, hlk, rfl, hn0⟩ := K
  obtain ⟨d, rfl⟩ := d
  exact G.plain (fun T locs t X q => XT.lstoreN X.here hx rfl d rfl hl q) g
theorem G.lstore (K : Ok k Z n0 own R bytes maxL ret nm) {v : Int64} {i : Nat} (d : Dc bytes pc (.lstore i) 2 pc') (Ls' : List Slot) (hl : storeLocals ⟨Ls⟩ i (.long v) = some ⟨Ls'⟩) (g : G k n0 Q h cells slots pc' Ls' (St)) : G k n0 Q h cells slots pc Ls (.long v :: St) := by
  obtain ⟨p, l, e, R', s, m, args, below, meth, c⟩ := k
  obtain ⟨hx, hZ, hown, rfl, rfl, rfl, rfl, hlk, rfl, hn0⟩ := K
  obtain ⟨d, rfl⟩ := d
  exact G.plain (fun T locs t X q => XT.lstore X.here hx rfl d rfl hl q) g
theorem G.astoreN (K : Ok k Z n0 own R bytes maxL ret nm) {v : Value} {i : Fin 4} (d : Dc bytes pc (.astore_n i) 1 pc') (hv : v.isRef = true) (Ls' : List Slot) (hl : storeLocals ⟨Ls⟩ i.val (v) = some ⟨Ls'⟩) (g : G k n0 Q h cells slots pc' Ls' (St)) : G k n0 Q h cells slots pc Ls (v :: St) := by
  obtain ⟨p, l, e, R', s, m, args, below, meth, c⟩ := k
  obtain ⟨hx, hZ, hown, rfl, rfl, rfl, rfl, hlk, rfl, hn0⟩ := K
  obtain ⟨d, rfl⟩ := d
  exact G.plain (fun T locs t X q => XS.astoreN X.here hx rfl d rfl hv hl q) g
theorem G.astore (K : Ok k Z n0 own R bytes maxL ret nm) {v : Value} {i : Nat} (d : Dc bytes pc (.astore i) 2 pc') (hv : v.isRef = true) (Ls' : List Slot) (hl : storeLocals ⟨Ls⟩ i (v) = some ⟨Ls'⟩) (g : G k n0 Q h cells slots pc' Ls' (St)) : G k n0 Q h cells slots pc Ls (v :: St) := by
  obtain ⟨p, l, e, R', s, m, args, below, meth, c⟩ := k
  obtain ⟨hx, hZ, hown, rfl, rfl, rfl, rfl, hlk, rfl, hn0⟩ := K
  obtain ⟨d, rfl⟩ := d
  exact G.plain (fun T locs t X q => XS.astore X.here hx rfl d rfl hv hl q) g
theorem G.iinc (K : Ok k Z n0 own R bytes maxL ret nm) {x : Int32} {i : Nat} {cst : Int} (d : Dc bytes pc (.iinc i cst) 3 pc') (v : Int32) (hv : Int32.ofInt cst = v) (hl0 : Ls[i]? = some (.val (.int x))) (Ls' : List Slot) (hl : storeLocals ⟨Ls⟩ i (.int (x + v)) = some ⟨Ls'⟩) (g : G k n0 Q h cells slots pc' Ls' (St)) : G k n0 Q h cells slots pc Ls (St) := by
  obtain ⟨p, l, e, R', s, m, args, below, meth, c⟩ := k
  obtain ⟨hx, hZ, hown, rfl, rfl, rfl, rfl, hlk, rfl, hn0⟩ := K
  obtain ⟨d, rfl⟩ := d
  exact G.plain (fun T locs t X q => XT.iincV X.here hx rfl v d hv (by simpa using hl0) hl q) g
theorem G.iconst (K : Ok k Z n0 own R bytes maxL ret nm) {i : Int} (d : Dc bytes pc (.iconst i) 1 pc') (v : Int32) (hv : Int32.ofInt i = v) (g : G k n0 Q h cells slots pc' Ls (.int v :: St)) : G k n0 Q h cells slots pc Ls (St) := by
  obtain ⟨p, l, e, R', s, m, args, below, meth, c⟩ := k
  obtain ⟨hx, hZ, hown, rfl, rfl, rfl, rfl, hlk, rfl, hn0⟩ := K
  obtain ⟨d, rfl⟩ := d
  exact G.plain (fun T locs t X q => XT.iconstV X.here hx rfl v d hv q) g
theorem G.bipush (K : Ok k Z n0 own R bytes maxL ret nm) {i : Int} (d : Dc bytes pc (.bipush i) 2 pc') (v : Int32) (hv : (Int8.ofInt i).toInt32 = v) (g : G k n0 Q h cells slots pc' Ls (.int v :: St)) : G k n0 Q h cells slots pc Ls (St) := by
  obtain ⟨p, l, e, R', s, m, args, below, meth, c⟩ := k
  obtain ⟨hx, hZ, hown, rfl, rfl, rfl, rfl, hlk, rfl, hn0⟩ := K
  obtain ⟨d, rfl⟩ := d
  exact G.plain (fun T locs t X q => XT.bipushV X.here hx rfl v d hv q) g
theorem G.sipush (K : Ok k Z n0 own R bytes maxL ret nm) {i : Int} (d : Dc bytes pc (.sipush i) 3 pc') (v : Int32) (hv : (Int16.ofInt i).toInt32 = v) (g : G k n0 Q h cells slots pc' Ls (.int v :: St)) : G k n0 Q h cells slots pc Ls (St) := by
  obtain ⟨p, l, e, R', s, m, args, below, meth, c⟩ := k
  obtain ⟨hx, hZ, hown, rfl, rfl, rfl, rfl, hlk, rfl, hn0⟩ := K
  obtain ⟨d, rfl⟩ := d
  exact G.plain (fun T locs t X q => XT.sipushV X.here hx rfl v d hv q) g
theorem G.lconst (K : Ok k Z n0 own R bytes maxL ret nm) {i : Fin 2} (d : Dc bytes pc (.lconst i) 1 pc') (v : Int64) (hv : Int64.ofNat i = v) (g : G k n0 Q h cells slots pc' Ls (.long v :: St)) : G k n0 Q h cells slots pc Ls (St) := by
  obtain ⟨p, l, e, R', s, m, args, below, meth, c⟩ := k
  obtain ⟨hx, hZ, hown, rfl, rfl, rfl, rfl, hlk, rfl, hn0⟩ := K
  obtain ⟨d, rfl⟩ := d
  exact G.plain (fun T locs t X q => XT.lconstV X.here hx rfl v d hv q) g
theorem G.aconst_null (K : Ok k Z n0 own R bytes maxL ret nm)  (d : Dc bytes pc .aconst_null 1 pc') (g : G k n0 Q h cells slots pc' Ls (.null :: St)) : G k n0 Q h cells slots pc Ls (St) := by
  obtain ⟨p, l, e, R', s, m, args, below, meth, c⟩ := k
  obtain ⟨hx, hZ, hown, rfl, rfl, rfl, rfl, hlk, rfl, hn0⟩ := K
  obtain ⟨d, rfl⟩ := d
  exact G.plain (fun T locs t X q => XS.aconstNull X.here hx rfl d q) g
theorem G.ldcI (K : Ok k Z n0 own R bytes maxL ret nm) {v : Int32} {i : Nat} (d : Dc bytes pc (.ldc i) 2 pc') (w : (Cond.constant own i v).before a0 Z = true) (g : G k n0 Q h cells slots pc' Ls (.int v :: St)) : G k n0 Q h cells slots pc Ls (St) := by
  obtain ⟨p, l, e, R', s, m, args, below, meth, c⟩ := k
  obtain ⟨hx, hZ, hown, rfl, rfl, rfl, rfl, hlk, rfl, hn0⟩ := K
  obtain ⟨d, rfl⟩ := d
  exact G.plain (fun T locs t X q => X.ldcI hx hown (mvT hZ w) rfl d q) g
theorem G.ldcWI (K : Ok k Z n0 own R bytes maxL ret nm) {v : Int32} {i : Nat} (d : Dc bytes pc (.ldc_w i) 3 pc') (w : (Cond.constant own i v).before a0 Z = true) (g : G k n0 Q h cells slots pc' Ls (.int v :: St)) : G k n0 Q h cells slots pc Ls (St) := by
  obtain ⟨p, l, e, R', s, m, args, below, meth, c⟩ := k
  obtain ⟨hx, hZ, hown, rfl, rfl, rfl, rfl, hlk, rfl, hn0⟩ := K
  obtain ⟨d, rfl⟩ := d
  exact G.plain (fun T locs t X q => X.ldcWI hx hown (mvT hZ w) rfl d q) g
theorem G.ldc2J (K : Ok k Z n0 own R bytes maxL ret nm) {v : Int64} {i : Nat} (d : Dc bytes pc (.ldc2_w i) 3 pc') (w : (Cond.constantLong own i v).before a0 Z = true) (g : G k n0 Q h cells slots pc' Ls (.long v :: St)) : G k n0 Q h cells slots pc Ls (St) := by
  obtain ⟨p, l, e, R', s, m, args, below, meth, c⟩ := k
  obtain ⟨hx, hZ, hown, rfl, rfl, rfl, rfl, hlk, rfl, hn0⟩ := K
  obtain ⟨d, rfl⟩ := d
  exact G.plain (fun T locs t X q => X.ldc2J hx hown (mvT hZ w) rfl d q) g
theorem G.dup (K : Ok k Z n0 own R bytes maxL ret nm) {x : Value} (d : Dc bytes pc .dup 1 pc') (hv : x.category = 1) (g : G k n0 Q h cells slots pc' Ls (x :: x :: St)) : G k n0 Q h cells slots pc Ls (x :: St) := by
  obtain ⟨p, l, e, R', s, m, args, below, meth, c⟩ := k
  obtain ⟨hx, hZ, hown, rfl, rfl, rfl, rfl, hlk, rfl, hn0⟩ := K
  obtain ⟨d, rfl⟩ := d
  exact G.plain (fun T locs t X q => XS.dup X.here hx rfl d rfl hv q) g
theorem G.pop (K : Ok k Z n0 own R bytes maxL ret nm) {x : Value} (d : Dc bytes pc .pop 1 pc') (hv : x.category = 1) (g : G k n0 Q h cells slots pc' Ls (St)) : G k n0 Q h cells slots pc Ls (x :: St) := by
  obtain ⟨p, l, e, R', s, m, args, below, meth, c⟩ := k
  obtain ⟨hx, hZ, hown, rfl, rfl, rfl, rfl, hlk, rfl, hn0⟩ := K
  obtain ⟨d, rfl⟩ := d
  exact G.plain (fun T locs t X q => XT.pop X.here hx rfl d rfl hv q) g
theorem G.dup_x1 (K : Ok k Z n0 own R bytes maxL ret nm) {x y : Value} (d : Dc bytes pc .dup_x1 1 pc') (hv : x.category = 1) (hv' : y.category = 1) (g : G k n0 Q h cells slots pc' Ls (x :: y :: x :: St)) : G k n0 Q h cells slots pc Ls (x :: y :: St) := by
  obtain ⟨p, l, e, R', s, m, args, below, meth, c⟩ := k
  obtain ⟨hx, hZ, hown, rfl, rfl, rfl, rfl, hlk, rfl, hn0⟩ := K
  obtain ⟨d, rfl⟩ := d
  exact G.plain (fun T locs t X q => XT.dupX1 X.here hx rfl d rfl hv hv' q) g
theorem G.dup2 (K : Ok k Z n0 own R bytes maxL ret nm) {x y : Value} (d : Dc bytes pc .dup2 1 pc') (hv : x.category = 1) (hv' : y.category = 1) (g : G k n0 Q h cells slots pc' Ls (x :: y :: x :: y :: St)) : G k n0 Q h cells slots pc Ls (x :: y :: St) := by
  obtain ⟨p, l, e, R', s, m, args, below, meth, c⟩ := k
  obtain ⟨hx, hZ, hown, rfl, rfl, rfl, rfl, hlk, rfl, hn0⟩ := K
  obtain ⟨d, rfl⟩ := d
  exact G.plain (fun T locs t X q => XT.dup2 X.here hx rfl d rfl hv hv' q) g
theorem G.dup2L (K : Ok k Z n0 own R bytes maxL ret nm) {x : Int64} (d : Dc bytes pc .dup2 1 pc') (g : G k n0 Q h cells slots pc' Ls (.long x :: .long x :: St)) : G k n0 Q h cells slots pc Ls (.long x :: St) := by
  obtain ⟨p, l, e, R', s, m, args, below, meth, c⟩ := k
  obtain ⟨hx, hZ, hown, rfl, rfl, rfl, rfl, hlk, rfl, hn0⟩ := K
  obtain ⟨d, rfl⟩ := d
  exact G.plain (fun T locs t X q => XT.dup2L X.here hx rfl d rfl q) g
theorem G.goto (K : Ok k Z n0 own R bytes maxL ret nm) (d : Db bytes pc .goto nx tg) (g : G k n0 Q h cells slots tg Ls St) : G k n0 Q h cells slots pc Ls St := by
  obtain ⟨p, l, e, R', s, m, args, below, meth, c⟩ := k
  obtain ⟨hx, hZ, hown, rfl, rfl, rfl, rfl, hlk, rfl, hn0⟩ := K
  obtain ⟨o, d, rfl, d1, d2⟩ := d
  exact G.plain (fun T locs t X q => XS.goto X.here hx rfl rfl d d1 d2 q) g
theorem G.icmp_eq (K : Ok k Z n0 own R bytes maxL ret nm) {x y : Int32} (d : Db bytes pc (.if_icmp .eq) nx tg) (gy : x = y → G k n0 Q h cells slots tg Ls St) (gn : ¬ (x = y) → G k n0 Q h cells slots nx Ls St) : G k n0 Q h cells slots pc Ls (.int y :: .int x :: St) := by
  obtain ⟨p, l, e, R', s, m, args, below, meth, c⟩ := k
  obtain ⟨hx, hZ, hown, rfl, rfl, rfl, rfl, hlk, rfl, hn0⟩ := K
  obtain ⟨o, d, rfl, d1, d2⟩ := d
  by_cases q : x = y
  · exact G.plain (fun T locs t X z => XS.icmpYes X.here hx rfl rfl d rfl (XT.ii_eq_t q) d1 d2 z) (gy q)
  · exact G.plain (fun T locs t X z => XS.icmpNo X.here hx rfl d rfl (XT.ii_eq_f q) z) (gn q)
theorem G.if_eq (K : Ok k Z n0 own R bytes maxL ret nm) {x : Int32} (d : Db bytes pc (.ifCond .eq) nx tg) (gy : x = 0 → G k n0 Q h cells slots tg Ls St) (gn : ¬ (x = 0) → G k n0 Q h cells slots nx Ls St) : G k n0 Q h cells slots pc Ls (.int x :: St) := by
  obtain ⟨p, l, e, R', s, m, args, below, meth, c⟩ := k
  obtain ⟨hx, hZ, hown, rfl, rfl, rfl, rfl, hlk, rfl, hn0⟩ := K
  obtain ⟨o, d, rfl, d1, d2⟩ := d
  by_cases q : x = 0
  · exact G.plain (fun T locs t X z => XS.ifYes X.here hx rfl rfl d rfl (XT.i0_eq_t q) d1 d2 z) (gy q)
  · exact G.plain (fun T locs t X z => XS.ifNo X.here hx rfl d rfl (XT.i0_eq_f q) z) (gn q)
theorem G.lcmp_eq (K : Ok k Z n0 own R bytes maxL ret nm) {x y : Int64} {pd : Nat} (dl : Dc bytes pc .lcmp 1 pd) (d : Db bytes pd (.ifCond .eq) nx tg) (gy : x = y → G k n0 Q h cells slots tg Ls St) (gn : ¬ (x = y) → G k n0 Q h cells slots nx Ls St) : G k n0 Q h cells slots pc Ls (.long y :: .long x :: St) := by
  obtain ⟨p, l, e, R', s, m, args, below, meth, c⟩ := k
  obtain ⟨hx, hZ, hown, rfl, rfl, rfl, rfl, hlk, rfl, hn0⟩ := K
  obtain ⟨dl, rfl⟩ := dl
  obtain ⟨o, d, rfl, d1, d2⟩ := d
  by_cases q : x = y
  · exact G.plain (fun T locs t X z => XT.lcmp X.here hx rfl dl rfl (XS.ifYes X.here hx rfl rfl d rfl (XT.ll_eq_t q) d1 d2 z)) (gy q)
  · exact G.plain (fun T locs t X z => XT.lcmp X.here hx rfl dl rfl (XS.ifNo X.here hx rfl d rfl (XT.ll_eq_f q) z)) (gn q)
theorem G.icmp_ne (K : Ok k Z n0 own R bytes maxL ret nm) {x y : Int32} (d : Db bytes pc (.if_icmp .ne) nx tg) (gy : ¬ (x = y) → G k n0 Q h cells slots tg Ls St) (gn : x = y → G k n0 Q h cells slots nx Ls St) : G k n0 Q h cells slots pc Ls (.int y :: .int x :: St) := by
  obtain ⟨p, l, e, R', s, m, args, below, meth, c⟩ := k
  obtain ⟨hx, hZ, hown, rfl, rfl, rfl, rfl, hlk, rfl, hn0⟩ := K
  obtain ⟨o, d, rfl, d1, d2⟩ := d
  by_cases q : x = y
  · exact G.plain (fun T locs t X z => XS.icmpNo X.here hx rfl d rfl (XT.ii_ne_f q) z) (gn q)
  · exact G.plain (fun T locs t X z => XS.icmpYes X.here hx rfl rfl d rfl (XT.ii_ne_t q) d1 d2 z) (gy q)
theorem G.if_ne (K : Ok k Z n0 own R bytes maxL ret nm) {x : Int32} (d : Db bytes pc (.ifCond .ne) nx tg) (gy : ¬ (x = 0) → G k n0 Q h cells slots tg Ls St) (gn : x = 0 → G k n0 Q h cells slots nx Ls St) : G k n0 Q h cells slots pc Ls (.int x :: St) := by
  obtain ⟨p, l, e, R', s, m, args, below, meth, c⟩ := k
  obtain ⟨hx, hZ, hown, rfl, rfl, rfl, rfl, hlk, rfl, hn0⟩ := K
  obtain ⟨o, d, rfl, d1, d2⟩ := d
  by_cases q : x = 0
  · exact G.plain (fun T locs t X z => XS.ifNo X.here hx rfl d rfl (XT.i0_ne_f q) z) (gn q)
  · exact G.plain (fun T locs t X z => XS.ifYes X.here hx rfl rfl d rfl (XT.i0_ne_t q) d1 d2 z) (gy q)
theorem G.lcmp_ne (K : Ok k Z n0 own R bytes maxL ret nm) {x y : Int64} {pd : Nat} (dl : Dc bytes pc .lcmp 1 pd) (d : Db bytes pd (.ifCond .ne) nx tg) (gy : ¬ (x = y) → G k n0 Q h cells slots tg Ls St) (gn : x = y → G k n0 Q h cells slots nx Ls St) : G k n0 Q h cells slots pc Ls (.long y :: .long x :: St) := by
  obtain ⟨p, l, e, R', s, m, args, below, meth, c⟩ := k
  obtain ⟨hx, hZ, hown, rfl, rfl, rfl, rfl, hlk, rfl, hn0⟩ := K
  obtain ⟨dl, rfl⟩ := dl
  obtain ⟨o, d, rfl, d1, d2⟩ := d
  by_cases q : x = y
  · exact G.plain (fun T locs t X z => XT.lcmp X.here hx rfl dl rfl (XS.ifNo X.here hx rfl d rfl (XT.ll_ne_f q) z)) (gn q)
  · exact G.plain (fun T locs t X z => XT.lcmp X.here hx rfl dl rfl (XS.ifYes X.here hx rfl rfl d rfl (XT.ll_ne_t q) d1 d2 z)) (gy q)
theorem G.icmp_lt (K : Ok k Z n0 own R bytes maxL ret nm) {x y : Int32} (d : Db bytes pc (.if_icmp .lt) nx tg) (gy : x < y → G k n0 Q h cells slots tg Ls St) (gn : ¬ (x < y) → G k n0 Q h cells slots nx Ls St) : G k n0 Q h cells slots pc Ls (.int y :: .int x :: St) := by
  obtain ⟨p, l, e, R', s, m, args, below, meth, c⟩ := k
  obtain ⟨hx, hZ, hown, rfl, rfl, rfl, rfl, hlk, rfl, hn0⟩ := K
  obtain ⟨o, d, rfl, d1, d2⟩ := d
  by_cases q : x < y
  · exact G.plain (fun T locs t X z => XS.icmpYes X.here hx rfl rfl d rfl (XT.ii_lt_t q) d1 d2 z) (gy q)
  · exact G.plain (fun T locs t X z => XS.icmpNo X.here hx rfl d rfl (XT.ii_lt_f q) z) (gn q)
theorem G.if_lt (K : Ok k Z n0 own R bytes maxL ret nm) {x : Int32} (d : Db bytes pc (.ifCond .lt) nx tg) (gy : x < 0 → G k n0 Q h cells slots tg Ls St) (gn : ¬ (x < 0) → G k n0 Q h cells slots nx Ls St) : G k n0 Q h cells slots pc Ls (.int x :: St) := by
  obtain ⟨p, l, e, R', s, m, args, below, meth, c⟩ := k
  obtain ⟨hx, hZ, hown, rfl, rfl, rfl, rfl, hlk, rfl, hn0⟩ := K
  obtain ⟨o, d, rfl, d1, d2⟩ := d
  by_cases q : x < 0
  · exact G.plain (fun T locs t X z => XS.ifYes X.here hx rfl rfl d rfl (XT.i0_lt_t q) d1 d2 z) (gy q)
  · exact G.plain (fun T locs t X z => XS.ifNo X.here hx rfl d rfl (XT.i0_lt_f q) z) (gn q)
theorem G.lcmp_lt (K : Ok k Z n0 own R bytes maxL ret nm) {x y : Int64} {pd : Nat} (dl : Dc bytes pc .lcmp 1 pd) (d : Db bytes pd (.ifCond .lt) nx tg) (gy : x < y → G k n0 Q h cells slots tg Ls St) (gn : ¬ (x < y) → G k n0 Q h cells slots nx Ls St) : G k n0 Q h cells slots pc Ls (.long y :: .long x :: St) := by
  obtain ⟨p, l, e, R', s, m, args, below, meth, c⟩ := k
  obtain ⟨hx, hZ, hown, rfl, rfl, rfl, rfl, hlk, rfl, hn0⟩ := K
  obtain ⟨dl, rfl⟩ := dl
  obtain ⟨o, d, rfl, d1, d2⟩ := d
  by_cases q : x < y
  · exact G.plain (fun T locs t X z => XT.lcmp X.here hx rfl dl rfl (XS.ifYes X.here hx rfl rfl d rfl (XT.ll_lt_t q) d1 d2 z)) (gy q)
  · exact G.plain (fun T locs t X z => XT.lcmp X.here hx rfl dl rfl (XS.ifNo X.here hx rfl d rfl (XT.ll_lt_f q) z)) (gn q)
theorem G.icmp_ge (K : Ok k Z n0 own R bytes maxL ret nm) {x y : Int32} (d : Db bytes pc (.if_icmp .ge) nx tg) (gy : ¬ (x < y) → G k n0 Q h cells slots tg Ls St) (gn : x < y → G k n0 Q h cells slots nx Ls St) : G k n0 Q h cells slots pc Ls (.int y :: .int x :: St) := by
  obtain ⟨p, l, e, R', s, m, args, below, meth, c⟩ := k
  obtain ⟨hx, hZ, hown, rfl, rfl, rfl, rfl, hlk, rfl, hn0⟩ := K
  obtain ⟨o, d, rfl, d1, d2⟩ := d
  by_cases q : x < y
  · exact G.plain (fun T locs t X z => XS.icmpNo X.here hx rfl d rfl (XT.ii_ge_f q) z) (gn q)
  · exact G.plain (fun T locs t X z => XS.icmpYes X.here hx rfl rfl d rfl (XT.ii_ge_t q) d1 d2 z) (gy q)
theorem G.if_ge (K : Ok k Z n0 own R bytes maxL ret nm) {x : Int32} (d : Db bytes pc (.ifCond .ge) nx tg) (gy : ¬ (x < 0) → G k n0 Q h cells slots tg Ls St) (gn : x < 0 → G k n0 Q h cells slots nx Ls St) : G k n0 Q h cells slots pc Ls (.int x :: St) := by
  obtain ⟨p, l, e, R', s, m, args, below, meth, c⟩ := k
  obtain ⟨hx, hZ, hown, rfl, rfl, rfl, rfl, hlk, rfl, hn0⟩ := K
  obtain ⟨o, d, rfl, d1, d2⟩ := d
  by_cases q : x < 0
  · exact G.plain (fun T locs t X z => XS.ifNo X.here hx rfl d rfl (XT.i0_ge_f q) z) (gn q)
  · exact G.plain (fun T locs t X z => XS.ifYes X.here hx rfl rfl d rfl (XT.i0_ge_t q) d1 d2 z) (gy q)
theorem G.lcmp_ge (K : Ok k Z n0 own R bytes maxL ret nm) {x y : Int64} {pd : Nat} (dl : Dc bytes pc .lcmp 1 pd) (d : Db bytes pd (.ifCond .ge) nx tg) (gy : ¬ (x < y) → G k n0 Q h cells slots tg Ls St) (gn : x < y → G k n0 Q h cells slots nx Ls St) : G k n0 Q h cells slots pc Ls (.long y :: .long x :: St) := by
  obtain ⟨p, l, e, R', s, m, args, below, meth, c⟩ := k
  obtain ⟨hx, hZ, hown, rfl, rfl, rfl, rfl, hlk, rfl, hn0⟩ := K
  obtain ⟨dl, rfl⟩ := dl
  obtain ⟨o, d, rfl, d1, d2⟩ := d
  by_cases q : x < y
  · exact G.plain (fun T locs t X z => XT.lcmp X.here hx rfl dl rfl (XS.ifNo X.here hx rfl d rfl (XT.ll_ge_f q) z)) (gn q)
  · exact G.plain (fun T locs t X z => XT.lcmp X.here hx rfl dl rfl (XS.ifYes X.here hx rfl rfl d rfl (XT.ll_ge_t q) d1 d2 z)) (gy q)
theorem G.icmp_gt (K : Ok k Z n0 own R bytes maxL ret nm) {x y : Int32} (d : Db bytes pc (.if_icmp .gt) nx tg) (gy : y < x → G k n0 Q h cells slots tg Ls St) (gn : ¬ (y < x) → G k n0 Q h cells slots nx Ls St) : G k n0 Q h cells slots pc Ls (.int y :: .int x :: St) := by
  obtain ⟨p, l, e, R', s, m, args, below, meth, c⟩ := k
  obtain ⟨hx, hZ, hown, rfl, rfl, rfl, rfl, hlk, rfl, hn0⟩ := K
  obtain ⟨o, d, rfl, d1, d2⟩ := d
  by_cases q : y < x
  · exact G.plain (fun T locs t X z => XS.icmpYes X.here hx rfl rfl d rfl (XT.ii_gt_t q) d1 d2 z) (gy q)
  · exact G.plain (fun T locs t X z => XS.icmpNo X.here hx rfl d rfl (XT.ii_gt_f q) z) (gn q)
theorem G.if_gt (K : Ok k Z n0 own R bytes maxL ret nm) {x : Int32} (d : Db bytes pc (.ifCond .gt) nx tg) (gy : 0 < x → G k n0 Q h cells slots tg Ls St) (gn : ¬ (0 < x) → G k n0 Q h cells slots nx Ls St) : G k n0 Q h cells slots pc Ls (.int x :: St) := by
  obtain ⟨p, l, e, R', s, m, args, below, meth, c⟩ := k
  obtain ⟨hx, hZ, hown, rfl, rfl, rfl, rfl, hlk, rfl, hn0⟩ := K
  obtain ⟨o, d, rfl, d1, d2⟩ := d
  by_cases q : 0 < x
  · exact G.plain (fun T locs t X z => XS.ifYes X.here hx rfl rfl d rfl (XT.i0_gt_t q) d1 d2 z) (gy q)
  · exact G.plain (fun T locs t X z => XS.ifNo X.here hx rfl d rfl (XT.i0_gt_f q) z) (gn q)
theorem G.lcmp_gt (K : Ok k Z n0 own R bytes maxL ret nm) {x y : Int64} {pd : Nat} (dl : Dc bytes pc .lcmp 1 pd) (d : Db bytes pd (.ifCond .gt) nx tg) (gy : y < x → G k n0 Q h cells slots tg Ls St) (gn : ¬ (y < x) → G k n0 Q h cells slots nx Ls St) : G k n0 Q h cells slots pc Ls (.long y :: .long x :: St) := by
  obtain ⟨p, l, e, R', s, m, args, below, meth, c⟩ := k
  obtain ⟨hx, hZ, hown, rfl, rfl, rfl, rfl, hlk, rfl, hn0⟩ := K
  obtain ⟨dl, rfl⟩ := dl
  obtain ⟨o, d, rfl, d1, d2⟩ := d
  by_cases q : y < x
  · exact G.plain (fun T locs t X z => XT.lcmp X.here hx rfl dl rfl (XS.ifYes X.here hx rfl rfl d rfl (XT.ll_gt_t q) d1 d2 z)) (gy q)
  · exact G.plain (fun T locs t X z => XT.lcmp X.here hx rfl dl rfl (XS.ifNo X.here hx rfl d rfl (XT.ll_gt_f q) z)) (gn q)
theorem G.icmp_le (K : Ok k Z n0 own R bytes maxL ret nm) {x y : Int32} (d : Db bytes pc (.if_icmp .le) nx tg) (gy : ¬ (y < x) → G k n0 Q h cells slots tg Ls St) (gn : y < x → G k n0 Q h cells slots nx Ls St) : G k n0 Q h cells slots pc Ls (.int y :: .int x :: St) := by
  obtain ⟨p, l, e, R', s, m, args, below, meth, c⟩ := k
  obtain ⟨hx, hZ, hown, rfl, rfl, rfl, rfl, hlk, rfl, hn0⟩ := K
  obtain ⟨o, d, rfl, d1, d2⟩ := d
  by_cases q : y < x
  · exact G.plain (fun T locs t X z => XS.icmpNo X.here hx rfl d rfl (XT.ii_le_f q) z) (gn q)
  · exact G.plain (fun T locs t X z => XS.icmpYes X.here hx rfl rfl d rfl (XT.ii_le_t q) d1 d2 z) (gy q)
theorem G.if_le (K : Ok k Z n0 own R bytes maxL ret nm) {x : Int32} (d : Db bytes pc (.ifCond .le) nx tg) (gy : ¬ (0 < x) → G k n0 Q h cells slots tg Ls St) (gn : 0 < x → G k n0 Q h cells slots nx Ls St) : G k n0 Q h cells slots pc Ls (.int x :: St) := by
  obtain ⟨p, l, e, R', s, m, args, below, meth, c⟩ := k
  obtain ⟨hx, hZ, hown, rfl, rfl, rfl, rfl, hlk, rfl, hn0⟩ := K
  obtain ⟨o, d, rfl, d1, d2⟩ := d
  by_cases q : 0 < x
  · exact G.plain (fun T locs t X z => XS.ifNo X.here hx rfl d rfl (XT.i0_le_f q) z) (gn q)
  · exact G.plain (fun T locs t X z => XS.ifYes X.here hx rfl rfl d rfl (XT.i0_le_t q) d1 d2 z) (gy q)
theorem G.lcmp_le (K : Ok k Z n0 own R bytes maxL ret nm) {x y : Int64} {pd : Nat} (dl : Dc bytes pc .lcmp 1 pd) (d : Db bytes pd (.ifCond .le) nx tg) (gy : ¬ (y < x) → G k n0 Q h cells slots tg Ls St) (gn : y < x → G k n0 Q h cells slots nx Ls St) : G k n0 Q h cells slots pc Ls (.long y :: .long x :: St) := by
  obtain ⟨p, l, e, R', s, m, args, below, meth, c⟩ := k
  obtain ⟨hx, hZ, hown, rfl, rfl, rfl, rfl, hlk, rfl, hn0⟩ := K
  obtain ⟨dl, rfl⟩ := dl
  obtain ⟨o, d, rfl, d1, d2⟩ := d
  by_cases q : y < x
  · exact G.plain (fun T locs t X z => XT.lcmp X.here hx rfl dl rfl (XS.ifNo X.here hx rfl d rfl (XT.ll_le_f q) z)) (gn q)
  · exact G.plain (fun T locs t X z => XT.lcmp X.here hx rfl dl rfl (XS.ifYes X.here hx rfl rfl d rfl (XT.ll_le_t q) d1 d2 z)) (gy q)
theorem G.ifnull_ref (K : Ok k Z n0 own R bytes maxL ret nm) {a : Addr} (d : Db bytes pc .ifnull nx tg) (g : G k n0 Q h cells slots nx Ls St) : G k n0 Q h cells slots pc Ls (.ref a :: St) := by
  obtain ⟨p, l, e, R', s, m, args, below, meth, c⟩ := k
  obtain ⟨hx, hZ, hown, rfl, rfl, rfl, rfl, hlk, rfl, hn0⟩ := K
  obtain ⟨o, d, rfl, d1, d2⟩ := d
  exact G.plain (fun T locs t X q => XS.ifnullNo X.here hx rfl d rfl q) g
theorem G.ifnonnull_ref (K : Ok k Z n0 own R bytes maxL ret nm) {a : Addr} (d : Db bytes pc .ifnonnull nx tg) (g : G k n0 Q h cells slots tg Ls St) : G k n0 Q h cells slots pc Ls (.ref a :: St) := by
  obtain ⟨p, l, e, R', s, m, args, below, meth, c⟩ := k
  obtain ⟨hx, hZ, hown, rfl, rfl, rfl, rfl, hlk, rfl, hn0⟩ := K
  obtain ⟨o, d, rfl, d1, d2⟩ := d
  exact G.plain (fun T locs t X q => XT.ifnonnullYes X.here hx rfl rfl d rfl d1 d2 q) g
theorem G.acmp_ne (K : Ok k Z n0 own R bytes maxL ret nm) {x y : Value} (hx' : x.isRef = true) (hy' : y.isRef = true) (d : Db bytes pc (.if_acmp .ne) nx tg) (gy : ¬ x = y → G k n0 Q h cells slots tg Ls St) (gn : x = y → G k n0 Q h cells slots nx Ls St) : G k n0 Q h cells slots pc Ls (y :: x :: St) := by
  obtain ⟨p, l, e, R', s, m, args, below, meth, c⟩ := k
  obtain ⟨hx, hZ, hown, rfl, rfl, rfl, rfl, hlk, rfl, hn0⟩ := K
  obtain ⟨o, d, rfl, d1, d2⟩ := d
  by_cases q : x = y
  · exact G.plain (fun T locs t X z => XT.acmpNo X.here hx rfl d rfl hx' hy' (XT.aa_ne_f q) z) (gn q)
  · exact G.plain (fun T locs t X z => XT.acmpYes X.here hx rfl rfl d rfl hx' hy' (XT.aa_ne_t q) d1 d2 z) (gy q)
/-- the end -/
theorem G.leave {p : Program} {l : Launch} {e : Env} {R : Room} {s : State} {m : MethodId} {args : Array Value} {below : List Frame} {meth : Method} {c : Code} (hlk : meth.locks = false) (v : Option Value) (hv : meth.sig.returnType = none → v = none) (hq : Q v h)
    (st : ∀ T locs fs, Stand p l e R s m args below meth c T locs cells slots → (∀ (f : JFrame) (acts : List Action), f.method = m → f.locked = none → f.entered = [] → (doReturn e (T.setTop f) acts v).1 = T.setFrames fs) → Steps p.tables e below (T.setTop (mkF m pc ⟨Ls⟩ St)) (T.setFrames fs)) :
    G (p, l, e, R, s, m, args, below, meth, c) n0 Q h cells slots pc Ls St := by
  intro hc hs T locs X eT N
  obtain ⟨fs, hr, hrun, hended, hW, hsame⟩ := X.leave (v := v) hv hlk
  exact ⟨_, _, st T locs fs X hr, hrun, hended, v, locs, rfl, ⟨by show Q v T.heap; rw [eT]; exact hq, N⟩, ⟨_, rfl⟩, hW, hsame.mono hc hs⟩
theorem G.ret_int (K : Ok k Z n0 own R bytes maxL (some .int) nm) {x : Int32} (d : Dc bytes pc .ireturn 1 pc') (hq : Q (some (.int x)) h) : G k n0 Q h cells slots pc Ls (.int x :: St) := by
  obtain ⟨p, l, e, R', s, m, args, below, meth, c⟩ := k
  obtain ⟨hx, hZ, hown, rfl, rfl, rfl, hr0, hlk, rfl, hn0⟩ := K
  obtain ⟨d, rfl⟩ := d
  exact G.leave hlk (some (.int x)) (fun q => by rw [hr0] at q; cases q) hq (fun T locs fs X hr => retOut X hx hr0 rfl (Or.inl ⟨rfl, Or.inl rfl, x, rfl⟩) d hr)
theorem G.ret_bool (K : Ok k Z n0 own R bytes maxL (some .boolean) nm) {x : Int32} (d : Dc bytes pc .ireturn 1 pc') (hq : Q (some (.int (x &&& 1))) h) : G k n0 Q h cells slots pc Ls (.int x :: St) := by
  obtain ⟨p, l, e, R', s, m, args, below, meth, c⟩ := k
  obtain ⟨hx, hZ, hown, rfl, rfl, rfl, hr0, hlk, rfl, hn0⟩ := K
  obtain ⟨d, rfl⟩ := d
  exact G.leave hlk (some (.int (x &&& 1))) (fun q => by rw [hr0] at q; cases q) hq (fun T locs fs X hr => retN X hx (t := .boolean) hr0 (by simp) d hr)
theorem G.ret_long (K : Ok k Z n0 own R bytes maxL (some .long) nm) {x : Int64} (d : Dc bytes pc .lreturn 1 pc') (hq : Q (some (.long x)) h) : G k n0 Q h cells slots pc Ls (.long x :: St) := by
  obtain ⟨p, l, e, R', s, m, args, below, meth, c⟩ := k
  obtain ⟨hx, hZ, hown, rfl, rfl, rfl, hr0, hlk, rfl, hn0⟩ := K
  obtain ⟨d, rfl⟩ := d
  exact G.leave hlk (some (.long x)) (fun q => by rw [hr0] at q; cases q) hq (fun T locs fs X hr => retOut X hx hr0 rfl (Or.inr (Or.inl ⟨rfl, rfl, x, rfl⟩)) d hr)
theorem G.ret_ref {t : FieldType} (K : Ok k Z n0 own R bytes maxL (some t) nm) (ht : t.isReference = true) {x : Value} (hv : x.isRef = true) (d : Dc bytes pc .areturn 1 pc') (hq : Q (some x) h) : G k n0 Q h cells slots pc Ls (x :: St) := by
  obtain ⟨p, l, e, R', s, m, args, below, meth, c⟩ := k
  obtain ⟨hx, hZ, hown, rfl, rfl, rfl, hr0, hlk, rfl, hn0⟩ := K
  obtain ⟨d, rfl⟩ := d
  have hn : narrow t x = x := by rcases ref_cases hv with rfl | ⟨a, rfl⟩ <;> cases t <;> rfl
  exact G.leave hlk (some x) (fun q => by rw [hr0] at q; cases q) hq (fun T locs fs X hr => retOut X hx hr0 hn (Or.inr (Or.inr (Or.inr (Or.inr ⟨rfl, ht, hv⟩)))) d hr)
theorem G.ret_void (K : Ok k Z n0 own R bytes maxL none nm) (d : Dc bytes pc .return_ 1 pc') (hq : Q none h) : G k n0 Q h cells slots pc Ls [] := by
  obtain ⟨p, l, e, R', s, m, args, below, meth, c⟩ := k
  obtain ⟨hx, hZ, hown, rfl, rfl, rfl, hr0, hlk, rfl, hn0⟩ := K
  obtain ⟨d, rfl⟩ := d
  exact G.leave hlk none (fun q => rfl) hq (fun T locs fs X hr => X.returnOut hx hr0 d hr)
/-! ### what is known of the heap: one word a cell that the law has made -/
theorem nd_inj {α : Type} {L : List α} (H : L.Nodup) {i j : Nat} {x : α} (hi : L[i]? = some x) (hj : L[j]? = some x) : i = j := by
  obtain ⟨h1, e1⟩ := List.getElem?_eq_some_iff.mp hi
  obtain ⟨h2, e2⟩ := List.getElem?_eq_some_iff.mp hj
  have w := List.pairwise_iff_getElem.mp H
  rcases Nat.lt_trichotomy i j with q | q | q
  · exact absurd (e1.trans e2.symm) (w i j h1 h2 q)
  · exact q
  · exact absurd (e2.trans e1.symm) (w j i h2 h1 q)
abbrev Ch := Addr × (Cell → Prop)
def Hp (n0 : Nat) (h : Heap) (σ : List Ch) : Prop := (σ.map Prod.fst).Nodup ∧ ∀ q ∈ σ, n0 ≤ q.1 ∧ ∃ cell, h[q.1]? = some cell ∧ q.2 cell
variable {σ : List Ch} {a : Addr} {P P' : Cell → Prop} {i : Nat} {h' : Heap}
theorem Hp.nil : Hp n0 h [] := ⟨List.nodup_nil, fun _ q => nomatch q⟩
theorem Hp.at (H : Hp n0 h σ) (hi : σ[i]? = some (a, P)) : n0 ≤ a ∧ ∃ cell, h[a]? = some cell ∧ P cell := H.2 _ (List.mem_of_getElem? hi)
theorem Hp.ge (H : Hp n0 h σ) (hi : σ[i]? = some (a, P)) : n0 ≤ a := (H.at hi).1
theorem Hp.lt (H : Hp n0 h σ) (q : Ch) (hq : q ∈ σ) : q.1 < h.size := by
  obtain ⟨-, cell, h1, -⟩ := H.2 _ hq
  exact (Array.getElem?_eq_some_iff.mp h1).1
theorem Hp.ne (H : Hp n0 h σ) {j : Nat} {b : Addr} {P' : Cell → Prop} (hi : σ[i]? = some (a, P)) (hj : σ[j]? = some (b, P')) (q : i ≠ j) : a ≠ b := by
  intro e
  subst e
  exact q (nd_inj H.1 (x := a) (by simp [hi]) (by simp [hj]))
theorem Hp.ext (H : Hp n0 h σ) (E : Ext h h') : Hp n0 h' σ := ⟨H.1, fun q hq => by obtain ⟨h1, c, h2, h3⟩ := H.2 q hq; exact ⟨h1, c, E.2 _ _ h2, h3⟩⟩
theorem Hp.cons (H : Hp n0 h σ) (E : Ext h h') (hn : n0 ≤ h.size) (w : ∃ cell, h'[h.size]? = some cell ∧ P cell) : Hp n0 h' ((h.size, P) :: σ) := by
  refine ⟨?_, fun q hq => ?_⟩
  · rw [List.map_cons, List.nodup_cons]
    refine ⟨fun q => ?_, H.1⟩
    obtain ⟨x, hx, e⟩ := List.mem_map.mp q
    have := H.lt x hx
    rw [e] at this
    exact absurd this (Nat.lt_irrefl _)
  · rcases List.mem_cons.mp hq with rfl | hq
    · exact ⟨hn, w⟩
    · exact (H.ext E).2 q hq
theorem Hp.drop {x : Ch} (H : Hp n0 h (x :: σ)) : Hp n0 h σ := ⟨(List.nodup_cons.mp H.1).2, fun q hq => H.2 q (List.mem_cons_of_mem _ hq)⟩
theorem Hp.sub {σ' : List Ch} (H : Hp n0 h σ) (q : σ'.Sublist σ) : Hp n0 h σ' := ⟨List.Nodup.sublist (q.map _) H.1, fun x hx => H.2 x (q.subset hx)⟩
theorem Hp.perm {σ' : List Ch} (H : Hp n0 h σ) (q : σ'.Perm σ) : Hp n0 h σ' := ⟨(List.Perm.nodup_iff (q.map Prod.fst)).mpr H.1, fun x hx => H.2 x (q.mem_iff.mp hx)⟩
theorem perm_pull : ∀ {i : Nat} {σ : List Ch} {x : Ch}, σ[i]? = some x → (x :: σ.eraseIdx i).Perm σ
  | 0, y :: σ, x, e => by cases Option.some.inj e; exact List.Perm.refl _
  | i + 1, y :: σ, x, e => ((List.Perm.swap y x _).trans ((perm_pull (i := i) (σ := σ) e).cons y))
theorem Hp.pull (H : Hp n0 h σ) (i : Nat) {x : Ch} (hi : σ[i]? = some x) : Hp n0 h (x :: σ.eraseIdx i) := H.perm (perm_pull hi)
theorem Hp.set (H : Hp n0 h σ) (hi : σ[i]? = some (a, P)) (hs : h'.size = h.size) (ho : ∀ b, b ≠ a → h'[b]? = h[b]?) (w : ∃ cell, h'[a]? = some cell ∧ P' cell) : Hp n0 h' (σ.set i (a, P')) := by
  obtain ⟨hlt, e1⟩ := List.getElem?_eq_some_iff.mp hi
  have em : (σ.set i (a, P')).map Prod.fst = σ.map Prod.fst := by
    apply List.ext_getElem?
    intro j
    by_cases q : i = j
    · subst q; simp [hlt, e1]
    · simp [List.getElem?_set_ne q]
  refine ⟨by rw [em]; exact H.1, fun q hq => ?_⟩
  obtain ⟨j, hj, e⟩ := List.getElem_of_mem hq
  rw [List.getElem_set] at e
  rw [List.length_set] at hj
  by_cases z : i = j
  · rw [if_pos z] at e; subst e; exact ⟨H.ge hi, w⟩
  · rw [if_neg z] at e
    have hj' : σ[j]? = some (q.1, q.2) := by rw [List.getElem?_eq_getElem hj, e]
    have hne : q.1 ≠ a := H.ne hj' hi (Ne.symm z)
    obtain ⟨h1, c, h2, h3⟩ := H.at hj'
    exact ⟨h1, c, by rw [ho _ hne]; exact h2, h3⟩
theorem Hp.wr {sl : Nat} {v : Value} (H : Hp n0 h σ) (hi : σ[i]? = some (a, P)) (W : Wr h h' a sl v) (hP : ∀ cell, P cell → P' (cell.setSlot sl v)) : Hp n0 h' (σ.set i (a, P')) := by
  obtain ⟨cell, h1, h2, h3, rfl⟩ := W
  obtain ⟨-, c', h4, h5⟩ := H.at hi
  cases h1.symm.trans h4
  refine H.set hi (by simp) (fun b hb => Array.getElem?_setIfInBounds_ne (Ne.symm hb)) ⟨_, Array.getElem?_setIfInBounds_self_of_lt (Array.getElem?_eq_some_iff.mp h1).1, hP _ h5⟩
theorem Hp.imp (H : Hp n0 h σ) (hi : σ[i]? = some (a, P)) (hP : ∀ cell, P cell → P' cell) : Hp n0 h (σ.set i (a, P')) := by
  obtain ⟨-, c, h1, h2⟩ := H.at hi
  exact H.set hi rfl (fun _ _ => rfl) ⟨c, h1, hP c h2⟩
/-- an object, its class, the fields that are spoken of and what they hold -/
def Ob (Z : State) (C : String) (NS : List (String × String × String)) (vs : List Value) (cell : Cell) : Prop :=
  (∃ k, Z.vm.findClass C = some cell.cls ∧ Z.vm.classes[cell.cls]? = some k ∧ cell.vm.isStatics = false ∧ (k.kind = .ordinary → cell.slots.size = k.instanceTypes.size)) ∧
  ∀ (j : Nat) (f : String × String × String) (v : Value), NS[j]? = some f → vs[j]? = some v → ∃ (cf : ClassId) (k : Class) (i : Nat) (fd : Field), Z.fieldFound? f.1 f.2.1 f.2.2 = some (cf, k, i, fd) ∧ fd.isStatic = false ∧ cell.vm ≠ .unknown ∧ Z.vm.assignable cell.cls cf = true ∧ cell.slots[fd.slot]? = some v
/-- what the sheet says of a class's fields -/
def Cf (Z : State) (a0 : Array Value) (C : String) (NS : List (String × String × String)) : Prop := (∀ f ∈ NS, Laid Z a0 C f.1 f.2.1 f.2.2) ∧ (NS.map fun f => f.2.1).Nodup ∧ ∀ f ∈ NS, ∃ t, parseFieldDescriptor f.2.2 = some t
variable {C O n ds : String} {NS : List (String × String × String)} {vs : List Value} {j : Nat} {v w : Value}
theorem Hp.exa (H : Hp n0 h σ) (hi : σ[i]? = some (a, Ob Z C NS vs)) : Exa Z h a C := by
  obtain ⟨-, cell, h1, ⟨k, h2, h3, h4, h5⟩, -⟩ := H.at hi
  exact ⟨cell, k, h1, h2, h3, h4, h5⟩
theorem Hp.fld (H : Hp n0 h σ) (hi : σ[i]? = some (a, Ob Z C NS vs)) (hj : NS[j]? = some (O, n, ds)) (hv : vs[j]? = some v) : Fld Z h a O n ds v := by
  obtain ⟨-, cell, h1, ⟨k, h2, h3, h4, h5⟩, h6⟩ := H.at hi
  obtain ⟨cf, k, i, fd, q1, q2, q3, q4, q5⟩ := h6 j _ _ hj hv
  exact ⟨cell, cf, k, i, fd, h1, q1, q2, q3, h4, q4, q5⟩
theorem Ob.set (F : Cf Z a0 C NS) (hj : NS[j]? = some (O, n, ds)) (hv : vs[j]? = some v) (w : Value) {cell : Cell} (B : Ob Z C NS vs cell) : Ob Z C NS (vs.set j w) (cell.setSlot (RoadKit.slotOf Z O n ds) w) := by
  obtain ⟨⟨k, h2, h3, h4, h5⟩, h6⟩ := B
  refine ⟨⟨k, h2, h3, h4, fun q => by rw [sz_set]; exact h5 q⟩, fun j' f v' hf hv' => ?_⟩
  obtain ⟨cf, kk, ii, fd, q1, q2, q3, q4, q5⟩ := h6 j _ _ hj hv
  have es : RoadKit.slotOf Z O n ds = fd.slot := by simp [RoadKit.slotOf, q1]
  by_cases z : j = j'
  · subst z
    cases hj.symm.trans hf
    have hl := (List.getElem?_eq_some_iff.mp hv).1
    rw [List.getElem?_set_self hl] at hv'
    cases hv'
    refine ⟨cf, kk, ii, fd, q1, q2, q3, q4, ?_⟩
    rw [es]
    exact Array.getElem?_setIfInBounds_self_of_lt (Array.getElem?_eq_some_iff.mp q5).1
  · rw [List.getElem?_set_ne z] at hv'
    obtain ⟨cf', kk', ii', fd', r1, r2, r3, r4, r5⟩ := h6 j' _ _ hf hv'
    refine ⟨cf', kk', ii', fd', r1, r2, r3, r4, ?_⟩
    have es' : RoadKit.slotOf Z f.1 f.2.1 f.2.2 = fd'.slot := by simp [RoadKit.slotOf, r1]
    have m1 := List.mem_of_getElem? hj
    have m2 := List.mem_of_getElem? hf
    have hne : n ≠ f.2.1 := by
      intro e
      exact z (nd_inj F.2.1 (x := n) (by simp [hj]) (by simp [hf, e]))
    obtain ⟨t1, p1⟩ := F.2.2 _ m1
    obtain ⟨t2, p2⟩ := F.2.2 _ m2
    have := RoadKit.slot_ne (F.1 _ m1) (F.1 _ m2) hne p1 p2
    rw [es'] at this
    show (Array.setIfInBounds _ _ _)[_]? = _
    rw [Array.getElem?_setIfInBounds_ne this]
    exact r5
theorem G.getF (K : Ok k Z n0 own R bytes maxL ret nm) {idx : Nat} {host : String} (w : (Cond.fieldLink own idx O n ds).before a0 Z = true ∨ (Cond.fieldLinkNest own idx O n ds host).before a0 Z = true) (H : Hp n0 h σ) (hi : σ[i]? = some (a, Ob Z C NS vs)) (hj : NS[j]? = some (O, n, ds)) (hv : vs[j]? = some v)
    (d : Dc bytes pc (.getfield idx) 3 pc') (g : G k n0 Q h cells slots pc' Ls (v :: St)) : G k n0 Q h cells slots pc Ls (.ref a :: St) := by
  obtain ⟨p, l, e, R', s, m, args, below, meth, c⟩ := k
  obtain ⟨hx, hZ, hown, rfl, rfl, rfl, rfl, hlk, rfl, hn0⟩ := K
  obtain ⟨d, rfl⟩ := d
  exact G.moved (fun T locs X eT => RoadKit.getF X hx hZ hown w Via.refl eT (H.fld hi hj hv) (g := mkF m pc ⟨Ls⟩ (.ref a :: St)) rfl rfl d) g
theorem G.putF (K : Ok k Z n0 own R bytes maxL ret nm) {idx kk : Nat} {host : String} {ty : FieldType} (w : (Cond.fieldLink own idx O n ds).before a0 Z = true ∨ (Cond.fieldLinkNest own idx O n ds host).before a0 Z = true) (F : Cf Z a0 C NS) (wl : (Cond.lays C O n ds).before a0 Z = true ∨ ((Cond.laysFinal C O n ds).before a0 Z = true ∧ own = O ∧ nm = "<init>")) (wi : (Cond.instantiable C kk).before a0 Z = true)
    (H : Hp n0 h σ) (hi : σ[i]? = some (a, Ob Z C NS vs)) (hj : NS[j]? = some (O, n, ds)) {old : Value} (hv : vs[j]? = some old) (hty : parseFieldDescriptor ds = some ty) (hn : narrow ty v = v) (hf : fits ty v = true)
    (d : Dc bytes pc (.putfield idx) 3 pc') (g : ∀ h', Hp n0 h' (σ.set i (a, Ob Z C NS (vs.set j v))) → G k n0 Q h' cells slots pc' Ls St) : G k n0 Q h cells slots pc Ls (v :: .ref a :: St) := by
  obtain ⟨p, l, e, R', s, m, args, below, meth, c⟩ := k
  obtain ⟨hx, hZ, hown, rfl, rfl, rfl, rfl, hlk, rfl, hn0⟩ := K
  obtain ⟨d, rfl⟩ := d
  intro hc hs T locs X eT N
  obtain ⟨T', h', X', eT', W, st⟩ := RoadKit.putF X hx hZ hown w Via.refl eT (H.fld hi hj hv) (H.exa hi) wl wi hty hn hf (g := mkF m pc ⟨Ls⟩ (v :: .ref a :: St)) rfl rfl d
  obtain ⟨s₂, o, h1, r⟩ := g h' (H.wr hi W fun cell B => Ob.set F hj hv v B) hc hs T' _ X' eT' (Fr.snoc X' N (H.ge hi))
  exact ⟨s₂, o, st s₂ h1, r⟩
theorem G.putFN (K : Ok k Z n0 own R bytes maxL ret nm) {idx kk : Nat} {ty : FieldType} (w : (Cond.fieldLink own idx O n ds).before a0 Z = true) (F : Cf Z a0 C NS) (wl : (Cond.lays C O n ds).before a0 Z = true ∨ ((Cond.laysFinal C O n ds).before a0 Z = true ∧ own = O ∧ nm = "<init>")) (wi : (Cond.instantiable C kk).before a0 Z = true)
    (H : Hp n0 h σ) (hi : σ[i]? = some (a, Ob Z C NS vs)) (hj : NS[j]? = some (O, n, ds)) {old v' : Value} (hv : vs[j]? = some old) (hty : parseFieldDescriptor ds = some ty) (hn : narrow ty v = v') (hf : fits ty v' = true)
    (d : Dc bytes pc (.putfield idx) 3 pc') (g : ∀ h', Hp n0 h' (σ.set i (a, Ob Z C NS (vs.set j v'))) → G k n0 Q h' cells slots pc' Ls St) : G k n0 Q h cells slots pc Ls (v :: .ref a :: St) := by
  obtain ⟨p, l, e, R', s, m, args, below, meth, c⟩ := k
  obtain ⟨hx, hZ, hown, rfl, rfl, rfl, rfl, hlk, rfl, hn0⟩ := K
  obtain ⟨d, rfl⟩ := d
  intro hc hs T locs X eT N
  obtain ⟨T', h', X', eT', W, st⟩ := RoadKit.putFN X hx hZ hown w Via.refl eT (H.fld hi hj hv) (H.exa hi) wl wi hty hn hf (g := mkF m pc ⟨Ls⟩ (v :: .ref a :: St)) rfl rfl d
  obtain ⟨s₂, o, h1, r⟩ := g h' (H.wr hi W fun cell B => Ob.set F hj hv v' B) hc hs T' _ X' eT' (Fr.snoc X' N (H.ge hi))
  exact ⟨s₂, o, st s₂ h1, r⟩
theorem size_ok {p : Program} {l : Launch} {e : Env} {R : Room} {s : State} {m : MethodId} {args : Array Value} {below : List Frame} {meth : Method} {c : Code} {T : State} {locs : List Loc} (X : Stand p l e R s m args below meth c T locs cells slots) (eT : T.heap = h) (hn : n0 ≤ s.heap.size) : n0 ≤ h.size := by
  have := X.same.2.1
  subst eT
  exact Nat.le_trans hn this
theorem G.new (K : Ok k Z n0 own R bytes maxL ret nm) {idx kk : Nat} (w : (Cond.classLink own idx C).before a0 Z = true) (wi : (Cond.instantiable C kk).before a0 Z = true) (wz : (Cond.initialized C).before a0 Z = true) (F : Cf Z a0 C NS)
    (hd : NS.map (fun f => (parseFieldDescriptor f.2.2).map defaultValue) = vs.map some) (H : Hp n0 h σ) (hc : cells + 1 ≤ R.cells) (hl : slots + kk ≤ R.slots) (d : Dc bytes pc (.new idx) 3 pc')
    (g : ∀ a h', Hp n0 h' ((a, Ob Z C NS vs) :: σ) → G k n0 Q h' (cells + 1) (slots + kk) pc' Ls (.ref a :: St)) : G k n0 Q h cells slots pc Ls St := by
  obtain ⟨p, l, e, R', s, m, args, below, meth, c⟩ := k
  obtain ⟨hx, hZ, hown, rfl, rfl, rfl, rfl, hlk, rfl, hn0⟩ := K
  obtain ⟨d, rfl⟩ := d
  intro _ _ T locs X eT N
  obtain ⟨T', h', X', eT', E, A, D, ⟨cell, hc1, hc2, -⟩, st⟩ := RoadKit.newO X hx hZ hown w wi wz eT (g := mkF m pc ⟨Ls⟩ St) rfl d hc hl
  have B : Ob Z C NS vs cell := by
    obtain ⟨c', k, q1, q2, q3, q4, q5⟩ := A
    cases hc1.symm.trans q1
    refine ⟨⟨k, q2, q3, q4, q5⟩, fun j f v hf hv => ?_⟩
    have e1 : (NS.map (fun f => (parseFieldDescriptor f.2.2).map defaultValue))[j]? = some ((parseFieldDescriptor f.2.2).map defaultValue) := by simp [hf]
    rw [hd] at e1
    simp only [List.getElem?_map, hv, Option.map_some, Option.some.injEq] at e1
    obtain ⟨t, ht⟩ := F.2.2 _ (List.mem_of_getElem? hf)
    rw [ht, Option.map_some, Option.some.injEq] at e1
    obtain ⟨c'', cf, k', i', fd, r1, r2, r3, r4, r5, r6, r7⟩ := D (F.1 _ (List.mem_of_getElem? hf)) ht
    cases hc1.symm.trans r1
    exact ⟨cf, k', i', fd, r2, r3, r4, r6, by rw [e1]; exact r7⟩
  obtain ⟨s₂, o, h1, r⟩ := g h.size h' (H.cons E (size_ok X eT hn0) ⟨cell, hc1, B⟩) hc hl T' _ X' eT' N
  exact ⟨s₂, o, st s₂ h1, r⟩
/-! ### arrays -/
def Aa (Z : State) (ty : FieldType) (vs : List Value) (cell : Cell) : Prop := Z.isArrayOf cell ty ∧ cell.vm ≠ .unknown ∧ cell.slots = vs.toArray ∧ vs.length < 2 ^ 31
abbrev Ia (Z : State) (xs : List Int32) : Cell → Prop := Aa Z .int (xs.map Value.int)
abbrev La (Z : State) (xs : List Int64) : Cell → Prop := Aa Z .long (xs.map Value.long)
variable {ty : FieldType} {xs : List Int32} {ys : List Int64} {x z : Int32} {y : Int64}
theorem inb (hn : ¬ z < 0) (hv : vs[z.toNatClampNeg]? = some v) {cell : Cell} (e : cell.slots = vs.toArray) : ¬ (z < 0 ∨ cell.slots.size ≤ z.toNatClampNeg) := by
  intro q
  have := (List.getElem?_eq_some_iff.mp hv).1
  rcases q with q | q
  · exact hn q
  · rw [e] at q; simp at q; omega
theorem G.alen (K : Ok k Z n0 own R bytes maxL ret nm) (H : Hp n0 h σ) (hi : σ[i]? = some (a, Aa Z ty vs)) (d : Dc bytes pc .arraylength 1 pc') (z : Int32) (hz : Int32.ofNat vs.length = z) (g : G k n0 Q h cells slots pc' Ls (.int z :: St)) : G k n0 Q h cells slots pc Ls (.ref a :: St) := by
  obtain ⟨p, l, e, R', s, m, args, below, meth, c⟩ := k
  obtain ⟨hx, hZ, hown, rfl, rfl, rfl, rfl, hlk, rfl, hn0⟩ := K
  obtain ⟨d, rfl⟩ := d
  obtain ⟨-, cell, h1, h2, h3, h4, h5⟩ := H.at hi
  refine G.moved (fun T locs X eT => ⟨T, X, eT, fun t q => ?_⟩) g
  refine X.arraylength hx (by rw [eT]; exact h1) (State.isArrayOf_alike hZ.alike h2) (g := mkF m pc ⟨Ls⟩ (.ref a :: St)) rfl rfl d t ?_
  have : cell.slots.size.toInt32 = z := by rw [h4, ← hz]; simp [Nat.toInt32]
  rw [this]; exact q
theorem G.aload_i (K : Ok k Z n0 own R bytes maxL ret nm) (H : Hp n0 h σ) (hi : σ[i]? = some (a, Ia Z xs)) (hn : ¬ z < 0) (hv : xs[z.toNatClampNeg]? = some x) (d : Dc bytes pc .iaload 1 pc') (g : G k n0 Q h cells slots pc' Ls (.int x :: St)) : G k n0 Q h cells slots pc Ls (.int z :: .ref a :: St) := by
  obtain ⟨p, l, e, R', s, m, args, below, meth, c⟩ := k
  obtain ⟨hx, hZ, hown, rfl, rfl, rfl, rfl, hlk, rfl, hn0⟩ := K
  obtain ⟨d, rfl⟩ := d
  obtain ⟨-, cell, h1, h2, h3, h4, h5⟩ := H.at hi
  have hv' : (xs.map Value.int)[z.toNatClampNeg]? = some (.int x) := by simp [hv]
  exact G.moved (fun T locs X eT => ⟨T, X, eT, fun t q => X.iaload hx (by rw [eT]; exact h1) (State.isArrayOf_alike hZ.alike h2) h3 (inb hn hv' h4) (v := .int x) (by rw [h4]; simpa using hv') (g := mkF m pc ⟨Ls⟩ (.int z :: .ref a :: St)) rfl rfl d t q⟩) g
theorem G.aload_l (K : Ok k Z n0 own R bytes maxL ret nm) (H : Hp n0 h σ) (hi : σ[i]? = some (a, La Z ys)) (hn : ¬ z < 0) (hv : ys[z.toNatClampNeg]? = some y) (d : Dc bytes pc .laload 1 pc') (g : G k n0 Q h cells slots pc' Ls (.long y :: St)) : G k n0 Q h cells slots pc Ls (.int z :: .ref a :: St) := by
  obtain ⟨p, l, e, R', s, m, args, below, meth, c⟩ := k
  obtain ⟨hx, hZ, hown, rfl, rfl, rfl, rfl, hlk, rfl, hn0⟩ := K
  obtain ⟨d, rfl⟩ := d
  obtain ⟨-, cell, h1, h2, h3, h4, h5⟩ := H.at hi
  have hv' : (ys.map Value.long)[z.toNatClampNeg]? = some (.long y) := by simp [hv]
  exact G.moved (fun T locs X eT => ⟨T, X, eT, fun t q => X.laload hx (by rw [eT]; exact h1) (State.isArrayOf_alike hZ.alike h2) h3 (inb hn hv' h4) (v := .long y) (by rw [h4]; simpa using hv') (g := mkF m pc ⟨Ls⟩ (.int z :: .ref a :: St)) rfl rfl d t q⟩) g
theorem Aa.set {i : Nat} {v : Value} {cell : Cell} (A : Aa Z ty vs cell) : Aa Z ty (vs.set i v) (cell.setSlot i v) := by
  obtain ⟨h2, h3, h4, h5⟩ := A
  exact ⟨h2, h3, by simp [Cell.setSlot, h4], by simpa using h5⟩
theorem G.astore_i (K : Ok k Z n0 own R bytes maxL ret nm) (H : Hp n0 h σ) (hi : σ[i]? = some (a, Ia Z xs)) (hn : ¬ z < 0) (hv : z.toNatClampNeg < xs.length) (d : Dc bytes pc .iastore 1 pc') (g : ∀ h', Hp n0 h' (σ.set i (a, Ia Z (xs.set z.toNatClampNeg x))) → G k n0 Q h' cells slots pc' Ls St) : G k n0 Q h cells slots pc Ls (.int x :: .int z :: .ref a :: St) := by
  obtain ⟨p, l, e, R', s, m, args, below, meth, c⟩ := k
  obtain ⟨hx, hZ, hown, rfl, rfl, rfl, rfl, hlk, rfl, hn0⟩ := K
  obtain ⟨d, rfl⟩ := d
  obtain ⟨ge, cell, h1, h2, h3, h4, h5⟩ := H.at hi
  have hv' : (xs.map Value.int)[z.toNatClampNeg]? = some (.int xs[z.toNatClampNeg]) := by simp [hv]
  intro hc hs T locs X eT N
  obtain ⟨T', h', X', eT', W, st⟩ := RoadKit.stI X hx hZ eT ⟨h1, h2, h3⟩ (inb hn hv' h4) (g := mkF m pc ⟨Ls⟩ (.int x :: .int z :: .ref a :: St)) rfl rfl d
  have H' : Hp n0 h' (σ.set i (a, Ia Z (xs.set z.toNatClampNeg x))) := H.wr hi W fun cell B => by
    have := Aa.set (i := z.toNatClampNeg) (v := .int x) B
    rw [← List.map_set] at this; exact this
  obtain ⟨s₂, o, q1, r⟩ := g h' H' hc hs T' _ X' eT' (Fr.snoc X' N ge)
  exact ⟨s₂, o, st s₂ q1, r⟩
theorem G.astore_l (K : Ok k Z n0 own R bytes maxL ret nm) (H : Hp n0 h σ) (hi : σ[i]? = some (a, La Z ys)) (hn : ¬ z < 0) (hv : z.toNatClampNeg < ys.length) (d : Dc bytes pc .lastore 1 pc') (g : ∀ h', Hp n0 h' (σ.set i (a, La Z (ys.set z.toNatClampNeg y))) → G k n0 Q h' cells slots pc' Ls St) : G k n0 Q h cells slots pc Ls (.long y :: .int z :: .ref a :: St) := by
  obtain ⟨p, l, e, R', s, m, args, below, meth, c⟩ := k
  obtain ⟨hx, hZ, hown, rfl, rfl, rfl, rfl, hlk, rfl, hn0⟩ := K
  obtain ⟨d, rfl⟩ := d
  obtain ⟨ge, cell, h1, h2, h3, h4, h5⟩ := H.at hi
  have hv' : (ys.map Value.long)[z.toNatClampNeg]? = some (.long ys[z.toNatClampNeg]) := by simp [hv]
  intro hc hs T locs X eT N
  obtain ⟨T', h', X', eT', W, st⟩ := RoadKit.stJ X hx hZ eT ⟨h1, h2, h3⟩ (inb hn hv' h4) (g := mkF m pc ⟨Ls⟩ (.long y :: .int z :: .ref a :: St)) rfl rfl d
  have H' : Hp n0 h' (σ.set i (a, La Z (ys.set z.toNatClampNeg y))) := H.wr hi W fun cell B => by
    have := Aa.set (i := z.toNatClampNeg) (v := .long y) B
    rw [← List.map_set] at this; exact this
  obtain ⟨s₂, o, q1, r⟩ := g h' H' hc hs T' _ X' eT' (Fr.snoc X' N ge)
  exact ⟨s₂, o, st s₂ q1, r⟩
theorem G.newarr (K : Ok k Z n0 own R bytes maxL ret nm) {aty : ArrayType} (w : (Cond.arrayClass (newarray.typeOf aty)).before a0 Z = true) (H : Hp n0 h σ) (hn : ¬ z < 0) (cap : Nat) (hcap : z.toNatClampNeg ≤ cap) (hb : cap * 8 ≤ 536870912) (hc : cells + 1 ≤ R.cells) (hl : slots + cap ≤ R.slots) (d : Dc bytes pc (.newarray aty) 2 pc')
    (g : ∀ a h', Hp n0 h' ((a, Aa Z (newarray.typeOf aty) (List.replicate z.toNatClampNeg (defaultValue (newarray.typeOf aty)))) :: σ) → G k n0 Q h' (cells + 1) (slots + cap) pc' Ls (.ref a :: St)) : G k n0 Q h cells slots pc Ls (.int z :: St) := by
  obtain ⟨p, l, e, R', s, m, args, below, meth, c⟩ := k
  obtain ⟨hx, hZ, hown, rfl, rfl, rfl, rfl, hlk, rfl, hn0⟩ := K
  obtain ⟨d, rfl⟩ := d
  intro _ _ T locs X eT N
  obtain ⟨T', h', cA, X', eT', E, A, st⟩ := RoadKit.newP X hx hZ w eT (g := mkF m pc ⟨Ls⟩ (.int z :: St)) rfl d rfl hn hcap hb hc hl
  have B : Aa Z (newarray.typeOf aty) (List.replicate z.toNatClampNeg (defaultValue (newarray.typeOf aty))) (newA cA (newarray.typeOf aty) z) :=
    ⟨A.2.1, A.2.2, by simp [newA], by rw [List.length_replicate]; exact (back32 hn).2⟩
  obtain ⟨s₂, o, h1, r⟩ := g h.size h' (H.cons E (size_ok X eT hn0) ⟨_, A.1, B⟩) hc hl T' _ X' eT' N
  exact ⟨s₂, o, st s₂ h1, r⟩
theorem G.newarr_i (K : Ok k Z n0 own R bytes maxL ret nm) (w : (Cond.arrayClass .int).before a0 Z = true) (H : Hp n0 h σ) (hn : ¬ z < 0) (cap : Nat) (hcap : z.toNatClampNeg ≤ cap) (hb : cap * 8 ≤ 536870912) (hc : cells + 1 ≤ R.cells) (hl : slots + cap ≤ R.slots) (d : Dc bytes pc (.newarray .int) 2 pc')
    (g : ∀ a h', Hp n0 h' ((a, Ia Z (List.replicate z.toNatClampNeg 0)) :: σ) → G k n0 Q h' (cells + 1) (slots + cap) pc' Ls (.ref a :: St)) : G k n0 Q h cells slots pc Ls (.int z :: St) :=
  G.newarr K (aty := .int) w H hn cap hcap hb hc hl d fun a h' H' => g a h' (by show Hp n0 h' ((a, Aa Z .int ((List.replicate z.toNatClampNeg (0 : Int32)).map Value.int)) :: σ); rw [List.map_replicate]; exact H')
theorem G.newarr_l (K : Ok k Z n0 own R bytes maxL ret nm) (w : (Cond.arrayClass .long).before a0 Z = true) (H : Hp n0 h σ) (hn : ¬ z < 0) (cap : Nat) (hcap : z.toNatClampNeg ≤ cap) (hb : cap * 8 ≤ 536870912) (hc : cells + 1 ≤ R.cells) (hl : slots + cap ≤ R.slots) (d : Dc bytes pc (.newarray .long) 2 pc')
    (g : ∀ a h', Hp n0 h' ((a, La Z (List.replicate z.toNatClampNeg 0)) :: σ) → G k n0 Q h' (cells + 1) (slots + cap) pc' Ls (.ref a :: St)) : G k n0 Q h cells slots pc Ls (.int z :: St) :=
  G.newarr K (aty := .long) w H hn cap hcap hb hc hl d fun a h' H' => g a h' (by show Hp n0 h' ((a, Aa Z .long ((List.replicate z.toNatClampNeg (0 : Int64)).map Value.long)) :: σ); rw [List.map_replicate]; exact H')
/-! ### calls -/
/-- a body's contract: called on these arguments at this heap it returns, and Q holds -/
def Ct (l : Launch) (Z : State) (n0 : Nat) (yy : MethodName) (bytes : ByteArray) (maxL : Nat) (ret : Option FieldType) (rm : Room) (as : List Value) (h : Heap) (Q : Option Value → Heap → Prop) : Prop :=
  n0 ≤ h.size → ∀ ws, MetFree l yy (head1 (Cond.code yy bytes maxL ret :: ws) rm) (fun a U => a = as.toArray ∧ Z.Warmed39 U.vm ∧ U.heap = h) (fun _ _ _ _ _ => True)
    (fun _ U o U' => ∃ v L, o = .returned v ∧ (Q v U'.heap ∧ Fr n0 L) ∧ FrameEnd U o U' L rm.cells rm.slots)
variable {l : Launch} {yy : MethodName} {rm : Room} {as : List Value}
theorem Ct.post {Q' : Option Value → Heap → Prop} (c : Ct l Z n0 yy bytes maxL ret rm as h Q) (q : ∀ v h', Q v h' → Q' v h') : Ct l Z n0 yy bytes maxL ret rm as h Q' := by
  intro hn ws p e a1 a2 a3 s m args below a4 a5 a6 a7
  obtain ⟨n, o, h1, h2, h3, v, L, h4, ⟨h5, h6⟩, h7⟩ := c hn ws p e a1 a2 a3 s m args below a4 a5 a6 a7
  exact ⟨n, o, h1, h2, h3, v, L, h4, ⟨q _ _ h5, h6⟩, h7⟩
theorem Ct.intro (hp : plainFor yy = true) (Ls : List Slot) (hE : ∀ m, entryFrame m as.toArray maxL = mkF m 0 ⟨Ls⟩ [])
    (body : ∀ k : Cx, k.2.1 = l → Ok k Z n0 yy.cls rm bytes maxL ret yy.name → G k n0 Q h 0 0 0 Ls []) : Ct l Z n0 yy bytes maxL ret rm as h Q := by
  intro hn0 ws
  refine MetFree.of_bodySF hp hisR ?_
  intro p e s m args below meth c s₁ Bd hml0 hP hK
  obtain ⟨rfl, hZ, hh⟩ := hP
  have X0 : Stand p l e rm s m as.toArray below meth c s₁ [] 0 0 := Stand.of_body Bd
  have e0 : s₁.heap = h := by rw [← hh, Bd.state]; rfl
  have g := body (p, l, e, rm, s, m, as.toArray, below, meth, c) rfl ⟨Bd.exec, hZ, findClass_of_methodNamed Bd.named, rfl, Bd.bytes, hml0, Bd.returns, Bd.notSynchronized, (name_of_methodNamed Bd.named Bd.method).1, by show n0 ≤ s.heap.size; rw [hh]; exact hn0⟩ (Nat.zero_le _) (Nat.zero_le _) s₁ [] X0 e0 (Fr.nil n0)
  obtain ⟨s₂, o, h1, r⟩ := g
  exact ⟨s₂, o, castTop (hE m) h1, r⟩
theorem G.callS (K : Ok k Z n0 own R bytes maxL ret nm) (hl : k.2.1 = l) {idx : Nat} {by' : ByteArray} {ml : Nat} {rt : Option FieldType} {ps : List FieldType} {Q' : Option Value → Heap → Prop}
    (w1 : (Cond.methodLink own idx yy).before a0 Z = true) (w2 : (Cond.static yy).before a0 Z = true) (w3 : (Cond.initialized yy.cls).before a0 Z = true) (w4 : (Cond.code yy by' ml rt).before a0 Z = true)
    (hy : yy.cls ≠ "java/lang/invoke/MethodHandle" ∧ yy.cls ≠ "java/lang/invoke/VarHandle") (pd : parseMethodDescriptor yy.desc = some ⟨ps, rt⟩) (c : Ct l Z n0 yy by' ml rt rm as h Q') (W : Nat) (hW : (St.map fun v => v.category).sum = W)
    (hfr : rm.frames + 1 ≤ R.frames) (hlo : W + (ml + 11) + rm.locals ≤ R.locals) (hce : cells + rm.cells ≤ R.cells) (hsl : slots + rm.slots ≤ R.slots) (hps : as.length = ps.length) (hsz : Ls.length = maxL) (ar : List Value) (har : as.reverse = ar) (d : Dc bytes pc (.invokestatic idx) 3 pc')
    (g : ∀ v h', Q' v h' → G k n0 Q h' (cells + rm.cells) (slots + rm.slots) pc' Ls (v.toList ++ St)) : G k n0 Q h cells slots pc Ls (ar ++ St) := by
  obtain ⟨p, l, e, R', s, m, args, below, meth, c⟩ := k
  obtain ⟨hx, hZ, hown, rfl, rfl, rfl, rfl, hlk, rfl, hn0⟩ := K
  obtain ⟨d, rfl⟩ := d
  subst hl
  subst har
  intro _ _ T locs X eT N
  have hn1 : n0 ≤ h.size := size_ok X eT hn0
  obtain ⟨v, _, ⟨T', L', k', n'⟩, -, X', ⟨Lc, ⟨hQ, hF⟩, e1, e2, e3⟩, st⟩ := Jvm.LawKit.callS X hx (y := yy) hown (mvT hZ w1) (mvT hZ w2) (mvT hZ w3) (mvT hZ w4) hy (backOf (W := W) (Q := fun v h' L => Q' v h' ∧ Fr n0 L) (c hn1 []) hZ w4 w3 hfr hlo) (g := mkF m pc ⟨Ls⟩ (as.reverse ++ St)) rfl (by simpa using hsz) (argsL := as) (rest := St) (lenOf pd hps) rfl (by show 2 * 0 + _ ≤ _; omega) d (fun _ _ => ⟨rfl, eT, hce, hsl⟩)
  dsimp only [Pt.U, Pt.locs, Pt.cells, Pt.slots] at X' e1 e2 e3 st hQ
  subst e1 e2 e3
  obtain ⟨s₂, o, h1, r⟩ := g v T'.heap hQ hce hsl T' _ X' rfl (Fr.app N hF)
  exact ⟨s₂, o, st _ h1, r⟩
theorem G.callI (K : Ok k Z n0 own R bytes maxL ret nm) (hl : k.2.1 = l) {idx : Nat} {by' : ByteArray} {ml : Nat} {ps : List FieldType} {Q' : Option Value → Heap → Prop} (hi : yy.name = "<init>")
    (w1 : (Cond.methodLink own idx yy).before a0 Z = true) (w2 : (Cond.instanceMethod yy).before a0 Z = true) (w3 : (Cond.initialized yy.cls).before a0 Z = true) (w4 : (Cond.code yy by' ml none).before a0 Z = true)
    (hy : yy.cls ≠ "java/lang/invoke/MethodHandle" ∧ yy.cls ≠ "java/lang/invoke/VarHandle") (pd : parseMethodDescriptor yy.desc = some ⟨ps, none⟩) {a : Addr} (c : Ct l Z n0 yy by' ml none rm (.ref a :: as) h Q') (W : Nat) (hW : (St.map fun v => v.category).sum = W)
    (hfr : rm.frames + 1 ≤ R.frames) (hlo : W + (ml + 11) + rm.locals ≤ R.locals) (hce : cells + rm.cells ≤ R.cells) (hsl : slots + rm.slots ≤ R.slots) (hps : as.length = ps.length) (hsz : Ls.length = maxL) (ar : List Value) (har : as.reverse = ar) (d : Dc bytes pc (.invokespecial idx) 3 pc')
    (g : ∀ v h', Q' v h' → G k n0 Q h' (cells + rm.cells) (slots + rm.slots) pc' Ls (v.toList ++ St)) : G k n0 Q h cells slots pc Ls (ar ++ .ref a :: St) := by
  obtain ⟨p, l, e, R', s, m, args, below, meth, c⟩ := k
  obtain ⟨hx, hZ, hown, rfl, rfl, rfl, rfl, hlk, rfl, hn0⟩ := K
  obtain ⟨d, rfl⟩ := d
  subst hl
  subst har
  intro _ _ T locs X eT N
  have hn1 : n0 ≤ h.size := size_ok X eT hn0
  obtain ⟨v, _, ⟨T', L', k', n'⟩, -, X', ⟨Lc, ⟨hQ, hF⟩, e1, e2, e3⟩, st⟩ := X.specialBack hx (y := yy) hi hown (mvT hZ w1) (mvT hZ w2) (mvT hZ w4) hy (backOf (W := W) (Q := fun v h' L => Q' v h' ∧ Fr n0 L) (c hn1 []) hZ w4 w3 hfr hlo) (g := mkF m pc ⟨Ls⟩ (as.reverse ++ .ref a :: St)) rfl (by simpa using hsz) (Steps.refl _) (a := a) (argsL := as) (rest := St) (lenOf pd hps) rfl (by show 2 * 0 + _ ≤ _; omega) d (fun _ _ => ⟨rfl, eT, hce, hsl⟩)
  dsimp only [Pt.U, Pt.locs, Pt.cells, Pt.slots] at X' e1 e2 e3 st hQ
  subst e1 e2 e3
  obtain ⟨s₂, o, h1, r⟩ := g v T'.heap hQ hce hsl T' _ X' rfl (Fr.app N hF)
  exact ⟨s₂, o, st.trans h1, r⟩
theorem G.callV (K : Ok k Z n0 own R bytes maxL ret nm) (hl : k.2.1 = l) {idx : Nat} {by' : ByteArray} {ml : Nat} {rt : Option FieldType} {ps : List FieldType} {Q' : Option Value → Heap → Prop} {C : String}
    (w1 : (Cond.methodLink own idx yy).before a0 Z = true) (wd : (Cond.declares yy).before a0 Z = true) (ws : (Cond.selects C yy yy).before a0 Z = true) (w2 : (Cond.instanceMethod yy).before a0 Z = true) (w3 : (Cond.initialized yy.cls).before a0 Z = true) (w4 : (Cond.code yy by' ml rt).before a0 Z = true)
    (hy : yy.cls ≠ "java/lang/invoke/MethodHandle" ∧ yy.cls ≠ "java/lang/invoke/VarHandle") (pd : parseMethodDescriptor yy.desc = some ⟨ps, rt⟩) {a : Addr} (E : Exa Z h a C) (c : Ct l Z n0 yy by' ml rt rm (.ref a :: as) h Q') (W : Nat) (hW : (St.map fun v => v.category).sum = W)
    (hfr : rm.frames + 1 ≤ R.frames) (hlo : W + (ml + 11) + rm.locals ≤ R.locals) (hce : cells + rm.cells ≤ R.cells) (hsl : slots + rm.slots ≤ R.slots) (hps : as.length = ps.length) (hsz : Ls.length = maxL) (ar : List Value) (har : as.reverse = ar) (d : Dc bytes pc (.invokevirtual idx) 3 pc')
    (g : ∀ v h', Q' v h' → G k n0 Q h' (cells + rm.cells) (slots + rm.slots) pc' Ls (v.toList ++ St)) : G k n0 Q h cells slots pc Ls (ar ++ .ref a :: St) := by
  obtain ⟨p, l, e, R', s, m, args, below, meth, c⟩ := k
  obtain ⟨hx, hZ, hown, rfl, rfl, rfl, rfl, hlk, rfl, hn0⟩ := K
  obtain ⟨d, rfl⟩ := d
  subst hl
  subst har
  intro _ _ T locs X eT N
  have hn1 : n0 ≤ h.size := size_ok X eT hn0
  obtain ⟨cq, kq, qa, qb, qc⟩ := isOf hZ eT E
  obtain ⟨v, _, ⟨T', L', k', n'⟩, -, X', ⟨Lc, ⟨hQ, hF⟩, e1, e2, e3⟩, st⟩ := X.virtualBack hx (y := yy) (z := yy) hown (mvT hZ w1) (mvT hZ wd) (notFace_of_selects (args := #[]) (mvT hZ ws)) (mvT hZ ws) (mvT hZ w2) hy (backOf (W := W) (Q := fun v h' L => Q' v h' ∧ Fr n0 L) (c hn1 []) hZ w4 w3 hfr hlo) qa qc (g := mkF m pc ⟨Ls⟩ (as.reverse ++ .ref a :: St)) rfl (by simpa using hsz) (Steps.refl _) (argsL := as) (rest := St) (lenOf pd hps) rfl (by show 2 * 0 + _ ≤ _; omega) d (fun _ _ => ⟨rfl, eT, hce, hsl⟩)
  dsimp only [Pt.U, Pt.locs, Pt.cells, Pt.slots] at X' e1 e2 e3 st hQ
  subst e1 e2 e3
  obtain ⟨s₂, o, h1, r⟩ := g v T'.heap hQ hce hsl T' _ X' rfl (Fr.app N hF)
  exact ⟨s₂, o, st.trans h1, r⟩
theorem G.callP (K : Ok k Z n0 own R bytes maxL ret nm) (hl : k.2.1 = l) {idx kk : Nat} {by' : ByteArray} {ml : Nat} {rt : Option FieldType} {ps : List FieldType} {Q' : Option Value → Heap → Prop}
    (w1 : (Cond.methodLink own idx yy).before a0 Z = true) (wp : (Cond.privateMethod yy).before a0 Z = true) (wi : (Cond.instantiable yy.cls kk).before a0 Z = true) (w2 : (Cond.instanceMethod yy).before a0 Z = true) (w3 : (Cond.initialized yy.cls).before a0 Z = true) (w4 : (Cond.code yy by' ml rt).before a0 Z = true)
    (hy : yy.cls ≠ "java/lang/invoke/MethodHandle" ∧ yy.cls ≠ "java/lang/invoke/VarHandle") (pd : parseMethodDescriptor yy.desc = some ⟨ps, rt⟩) {a : Addr} {C : String} (E : Exa Z h a C) (c : Ct l Z n0 yy by' ml rt rm (.ref a :: as) h Q') (W : Nat) (hW : (St.map fun v => v.category).sum = W)
    (hfr : rm.frames + 1 ≤ R.frames) (hlo : W + (ml + 11) + rm.locals ≤ R.locals) (hce : cells + rm.cells ≤ R.cells) (hsl : slots + rm.slots ≤ R.slots) (hps : as.length = ps.length) (hsz : Ls.length = maxL) (ar : List Value) (har : as.reverse = ar) (d : Dc bytes pc (.invokevirtual idx) 3 pc')
    (g : ∀ v h', Q' v h' → G k n0 Q h' (cells + rm.cells) (slots + rm.slots) pc' Ls (v.toList ++ St)) : G k n0 Q h cells slots pc Ls (ar ++ .ref a :: St) := by
  obtain ⟨p, l, e, R', s, m, args, below, meth, c⟩ := k
  obtain ⟨hx, hZ, hown, rfl, rfl, rfl, rfl, hlk, rfl, hn0⟩ := K
  obtain ⟨d, rfl⟩ := d
  subst hl
  subst har
  intro _ _ T locs X eT N
  have hn1 : n0 ≤ h.size := size_ok X eT hn0
  obtain ⟨cq, q, q'⟩ := E.cell
  have hpriv : s.PrivateAt yy := Cond.privateMethod_at (mvP hZ wp (args := #[]))
  obtain ⟨c2, k2, i1, i2, -, i4, -⟩ := Cond.instantiable_spec (mvT hZ wi (args := args))
  have hsel : (Cond.selects yy.cls yy yy).before args s = true := selects_self_of_private i1 i2 (by cases hh : k2.isInterface <;> simp_all) hpriv (mvT hZ w2) hy
  obtain ⟨v, _, ⟨T', L', k', n'⟩, -, X', ⟨Lc, ⟨hQ, hF⟩, e1, e2, e3⟩, st⟩ := X.privateBack hx (y := yy) hown (mvT hZ w1) (mvT hZ w2) hsel hpriv (mvT hZ w4) hy (backOf (W := W) (Q := fun v h' L => Q' v h' ∧ Fr n0 L) (c hn1 []) hZ w4 w3 hfr hlo) (g := mkF m pc ⟨Ls⟩ (as.reverse ++ .ref a :: St)) rfl (by simpa using hsz) (Steps.refl _) (a := a) (by rw [eT]; exact q) q' (argsL := as) (rest := St) (lenOf pd hps) rfl (by show 2 * 0 + _ ≤ _; omega) d (fun _ _ => ⟨rfl, eT, hce, hsl⟩)
  dsimp only [Pt.U, Pt.locs, Pt.cells, Pt.slots] at X' e1 e2 e3 st hQ
  subst e1 e2 e3
  obtain ⟨s₂, o, h1, r⟩ := g v T'.heap hQ hce hsl T' _ X' rfl (Fr.app N hF)
  exact ⟨s₂, o, st.trans h1, r⟩
theorem G.initO (K : Ok k Z n0 own R bytes maxL ret nm) {idx : Nat} (w1 : (Cond.methodLink own idx Lib.objectInit).before a0 Z = true) (w2 : (Cond.instanceMethod Lib.objectInit).before a0 Z = true) (w3 : (Cond.code Lib.objectInit ⟨#[0xb1]⟩ 1 none).before a0 Z = true) {a : Addr}
    (hsz : Ls.length = maxL) (W : Nat) (hW : (St.map fun v => v.category).sum = W) (hfr : 1 ≤ R.frames) (hlo : W + 12 ≤ R.locals) (d : Dc bytes pc (.invokespecial idx) 3 pc') (g : G k n0 Q h cells slots pc' Ls St) : G k n0 Q h cells slots pc Ls (.ref a :: St) := by
  obtain ⟨p, l, e, R', s, m, args, below, meth, c⟩ := k
  obtain ⟨hx, hZ, hown, rfl, rfl, rfl, rfl, hlk, rfl, hn0⟩ := K
  obtain ⟨d, rfl⟩ := d
  exact G.moved (fun T locs X eT => RoadKit.initO X hx hZ hown w1 w2 w3 eT (g := mkF m pc ⟨Ls⟩ (.ref a :: St)) rfl (by simpa using hsz) rfl d hfr (W := W) (by show 2 * 0 + _ ≤ _; omega) hlo) g
end Jvm.OwnKit
namespace Jvm.Pilot.@@N@@
open Jvm Jvm.ClassFile Sem Op Lib Jvm.Free Jvm.Stand Jvm.LawKit Jvm.RoadKit Bundle Jvm.OwnKit Jvm.Pilot.@@N@@.Jvm.D
theorem wd {Z : State} {a0 : Array Value} (hw : ∀ d ∈ tables_1, d.before a0 Z = true) (i : Nat) {d : Jvm.Cond} (h : tables_1[i]? = some d) : d.before a0 Z = true := hw _ (List.mem_of_getElem? h)
theorem own_nint {i : Nat} (h : i < 2147483648) : (Int32.ofNat i).toInt = i := Int32.toInt_ofNat_of_lt (by omega)
theorem own_nlt {i n : Nat} (h : i < 2147483648) (h' : n < 2147483648) : (Int32.ofNat i < Int32.ofNat n) ↔ i < n := by
  rw [Int32.lt_iff_toInt_lt, own_nint h, own_nint h']; omega
theorem own_nle {i n : Nat} (h : i < 2147483648) (h' : n < 2147483648) : (Int32.ofNat i ≤ Int32.ofNat n) ↔ i ≤ n := by
  rw [Int32.le_iff_toInt_le, own_nint h, own_nint h']; omega
theorem own_neq {i n : Nat} (h : i < 2147483648) (h' : n < 2147483648) : (Int32.ofNat i = Int32.ofNat n) ↔ i = n := by
  rw [← Int32.toInt_inj, own_nint h, own_nint h']; omega
theorem own_nadd (i j : Nat) : Int32.ofNat i + Int32.ofNat j = Int32.ofNat (i + j) := (Int32.ofNat_add i j).symm
theorem own_nsucc (i : Nat) : Int32.ofNat i + 1 = Int32.ofNat (i + 1) := own_nadd i 1
theorem own_nidx {i : Nat} (h : i < 2147483648) : (Int32.ofNat i).toNatClampNeg = i := by
  show (Int32.ofNat i).toInt.toNat = i
  rw [own_nint h]; rfl
theorem own_nneg {i : Nat} (h : i < 2147483648) : ¬ Int32.ofNat i < 0 := by
  rw [Int32.lt_iff_toInt_lt, own_nint h]; show ¬ (i : Int) < 0; omega
theorem own_nsub {i j : Nat} (h : j ≤ i) : Int32.ofNat i - Int32.ofNat j = Int32.ofNat (i - j) := by
  have := own_nadd (i - j) j
  rw [Nat.sub_add_cancel h] at this
  rw [← this, Int32.add_sub_cancel]
theorem own_nmul (i j : Nat) : Int32.ofNat i * Int32.ofNat j = Int32.ofNat (i * j) := (Int32.ofNat_mul i j).symm
/-- a non-negative int is a natural -/
theorem own_nat (x : Int32) (h : ¬ x < 0) : ∃ n : Nat, n < 2147483648 ∧ x = Int32.ofNat n := by
  have h2 : 0 ≤ x.toInt := by rw [Int32.lt_iff_toInt_lt] at h; have : (0 : Int32).toInt = 0 := rfl; omega
  have h3 := Int32.toInt_lt x
  refine ⟨x.toInt.toNat, by omega, ?_⟩
  apply Int32.toInt_inj.mp
  rw [own_nint (by omega)]; omega
theorem own_msk (x : Int32) : ∃ n : Nat, n < 2147483648 ∧ x &&& 2147483647 = Int32.ofNat n := by
  apply own_nat
  rw [Int32.lt_iff_toInt_lt]
  have h : (x &&& 2147483647).toBitVec = x.toBitVec &&& 2147483647#32 := rfl
  have hn : (x.toBitVec &&& 2147483647#32).toNat < 2147483648 := by
    rw [BitVec.toNat_and]; exact Nat.lt_of_le_of_lt Nat.and_le_right (by decide)
  have : (x &&& 2147483647).toInt = ((x.toBitVec &&& 2147483647#32).toNat : Int) := by
    show (x &&& 2147483647).toBitVec.toInt = _
    rw [h, BitVec.toInt_eq_toNat_of_lt (by omega)]
  rw [this]; show ¬ ((_ : Nat) : Int) < 0; omega
theorem own_nmod {i n : Nat} (h : i < 2147483648) (hn : n < 2147483648) : Int32.ofNat i % Int32.ofNat n = Int32.ofNat (i % n) := by
  apply Int32.toInt_inj.mp
  have hl : i % n ≤ i := Nat.mod_le i n
  rw [Int32.toInt_mod, own_nint h, own_nint hn, own_nint (by omega)]
  exact (Int.ofNat_tmod i n).symm ▸ rfl
/-- small mask: x & (2^k - 1) -/
theorem own_and_lt (x : Int32) (m : Nat) (hm : m < 2147483648) : ∃ n : Nat, n ≤ m ∧ x &&& Int32.ofNat m = Int32.ofNat n := by
  have h : (x &&& Int32.ofNat m).toBitVec = x.toBitVec &&& BitVec.ofNat 32 m := rfl
  refine ⟨(x.toBitVec &&& BitVec.ofNat 32 m).toNat, ?_, ?_⟩
  · rw [BitVec.toNat_and]; exact Nat.le_trans Nat.and_le_right (by rw [BitVec.toNat_ofNat]; exact Nat.mod_le _ _)
  · apply Int32.toBitVec_inj.mp
    rw [h]
    show _ = BitVec.ofNat 32 _
    rw [BitVec.ofNat_toNat, BitVec.setWidth_eq]
theorem pd_0 : parseMethodDescriptor "(I)I" = some ⟨[.int], some .int⟩ := by decide +kernel
theorem pd_1 : parseMethodDescriptor "(II)I" = some ⟨[.int, .int], some .int⟩ := by decide +kernel
theorem pd_2 : parseMethodDescriptor "(IIZ)I" = some ⟨[.int, .int, .boolean], some .int⟩ := by decide +kernel
theorem pd_3 : parseMethodDescriptor "()V" = some ⟨[], none⟩ := by decide +kernel
theorem pd_4 : parseMethodDescriptor "(JZ)I" = some ⟨[.long, .boolean], some .int⟩ := by decide +kernel
theorem pd_5 : parseMethodDescriptor "(J)I" = some ⟨[.long], some .int⟩ := by decide +kernel
theorem pd_6 : parseMethodDescriptor "(I)V" = some ⟨[.int], none⟩ := by decide +kernel
def NSM : List (String × String × String) := [("org/sqcap/reasoner/IntMap", "keys", "[I"), ("org/sqcap/reasoner/IntMap", "values", "[I"), ("org/sqcap/reasoner/IntMap", "size", "I")]
theorem cf_NSM {Z : State} {a0 : Array Value} (hw : ∀ d ∈ tables_1, d.before a0 Z = true) : Cf Z a0 "org/sqcap/reasoner/IntMap" NSM := by
  refine ⟨fun f hf => ?_, by decide +kernel, fun f hf => ?_⟩
  · simp only [NSM, List.mem_cons, List.not_mem_nil, or_false] at hf
    rcases hf with rfl | rfl | rfl
    · exact Or.inl (wd hw 32 rfl)
    · exact Or.inl (wd hw 34 rfl)
    · exact Or.inl (wd hw 49 rfl)
  · simp only [NSM, List.mem_cons, List.not_mem_nil, or_false] at hf
    rcases hf with rfl | rfl | rfl
    · exact ⟨(.array .int), by decide +kernel⟩
    · exact ⟨(.array .int), by decide +kernel⟩
    · exact ⟨.int, by decide +kernel⟩
/-! open addressing, plain -/
def dist (c a b : Nat) : Nat := if a ≤ b then b - a else b + c - a
def pos (c s d : Nat) : Nat := if s + d < c then s + d else s + d - c
theorem dist_spec (c a b : Nat) : (a ≤ b ∧ dist c a b = b - a) ∨ (b < a ∧ dist c a b = b + c - a) := by
  unfold dist; split <;> omega
theorem pos_spec (c s d : Nat) : (s + d < c ∧ pos c s d = s + d) ∨ (c ≤ s + d ∧ pos c s d = s + d - c) := by
  unfold pos; split <;> omega
theorem pos_lt {c s d : Nat} (hs : s < c) (hd : d < c) : pos c s d < c := by have := pos_spec c s d; omega
theorem dist_lt {c a b : Nat} (ha : a < c) (hb : b < c) : dist c a b < c := by have := dist_spec c a b; omega
theorem pos_dist {c a b : Nat} (ha : a < c) (hb : b < c) : pos c a (dist c a b) = b := by
  have := dist_spec c a b; have := pos_spec c a (dist c a b); omega
theorem dist_pos {c a d : Nat} (ha : a < c) (hd : d < c) : dist c a (pos c a d) = d := by
  have := pos_spec c a d; have := dist_spec c a (pos c a d); omega
section
variable (hm : Int32 → Nat)   -- the home of a key, below c
/-- the entry at i can be reached from its home -/
def Reach (c : Nat) (ks : List Int32) (x : Int32) (i : Nat) : Prop := ∀ d, d ≤ dist c (hm (x - 1)) i → ks[pos c (hm (x - 1)) d]? ≠ some 0
def Tab (c : Nat) (ks vs : List Int32) (M : Int32 → Option Int32) : Prop :=
  ks.length = c ∧ vs.length = c ∧ (∀ y, hm y < c) ∧
  (∀ (i : Nat) (x : Int32), ks[i]? = some x → x ≠ 0 → (∃ v, vs[i]? = some v ∧ M (x - 1) = some v) ∧ Reach hm c ks x i) ∧
  (∀ key v, M key = some v → key + 1 ≠ 0 ∧ ∃ i : Nat, ks[i]? = some (key + 1)) ∧
  (∀ (i j : Nat) (x : Int32), ks[i]? = some x → ks[j]? = some x → x ≠ 0 → i = j)
variable {hm} {c : Nat} {ks vs : List Int32} {M : Int32 → Option Int32}
theorem add_sub1 (x : Int32) : x + 1 - 1 = x := Int32.add_sub_cancel x 1
theorem sub_add1 (x : Int32) : x - 1 + 1 = x := Int32.sub_add_cancel x 1
/-- what probing finds -/
theorem probe_hit (H : Tab hm c ks vs M) {key : Int32} {d : Nat} (h : ks[pos c (hm key) d]? = some (key + 1)) (h0 : key + 1 ≠ 0) : ∃ v, vs[pos c (hm key) d]? = some v ∧ M key = some v := by
  obtain ⟨-, -, -, A, -, -⟩ := H
  obtain ⟨⟨v, h1, h2⟩, -⟩ := A _ _ h h0
  rw [add_sub1] at h2
  exact ⟨v, h1, h2⟩
theorem probe_miss (H : Tab hm c ks vs M) {key : Int32} {d : Nat} (hd : d < c) (h : ks[pos c (hm key) d]? = some 0) (hb : ∀ d', d' < d → ks[pos c (hm key) d']? ≠ some (key + 1)) : M key = none := by
  obtain ⟨l1, l2, hl, A, B, C⟩ := H
  cases hM : M key with
  | none => rfl
  | some v =>
    exfalso
    obtain ⟨h0, i, hi⟩ := B key v hM
    have hic : i < c := by rw [← l1]; exact (List.getElem?_eq_some_iff.mp hi).1
    obtain ⟨-, R⟩ := A _ _ hi h0
    unfold Reach at R
    rw [add_sub1] at R
    by_cases q : dist c (hm key) i < d
    · exact hb _ q (by rw [pos_dist (hl key) hic]; exact hi)
    · exact R d (by omega) h
/-- there is a place where probing ends -/
theorem probe_ends (H : Tab hm c ks vs M) (hz : ∃ z : Nat, ks[z]? = some 0) (key : Int32) : ∃ D x, D < c ∧ ks[pos c (hm key) D]? = some x ∧ (x = key + 1 ∨ x = 0) ∧ ∀ d, d < D → ∃ y, ks[pos c (hm key) d]? = some y ∧ y ≠ key + 1 ∧ y ≠ 0 := by
  obtain ⟨l1, l2, hl, -⟩ := H
  obtain ⟨z, hz⟩ := hz
  have hzc : z < c := by rw [← l1]; exact (List.getElem?_eq_some_iff.mp hz).1
  have key2 : ∀ n, n ≤ c → (∀ d, d < n → ∃ y, ks[pos c (hm key) d]? = some y ∧ y ≠ key + 1 ∧ y ≠ 0) ∨ ∃ D x, D < n ∧ ks[pos c (hm key) D]? = some x ∧ (x = key + 1 ∨ x = 0) ∧ ∀ d, d < D → ∃ y, ks[pos c (hm key) d]? = some y ∧ y ≠ key + 1 ∧ y ≠ 0 := by
    intro n
    induction n with
    | zero => intro _; left; intro d hd; omega
    | succ n ih =>
      intro hn
      rcases ih (by omega) with ih | ⟨D, x, h1, h2, h3, h4⟩
      · have hp : pos c (hm key) n < ks.length := by rw [l1]; exact pos_lt (hl key) (by omega)
        have e := List.getElem?_eq_getElem hp
        by_cases q : ks[pos c (hm key) n] = key + 1 ∨ ks[pos c (hm key) n] = 0
        · right; exact ⟨n, _, by omega, e, q, ih⟩
        · left; intro d hd
          by_cases hdn : d = n
          · subst hdn; exact ⟨_, e, fun z => q (Or.inl z), fun z => q (Or.inr z)⟩
          · exact ih d (by omega)
      · right; exact ⟨D, x, by omega, h2, h3, h4⟩
  rcases key2 c (Nat.le_refl _) with h | ⟨D, x, h1, h2, h3, h4⟩
  · exfalso
    obtain ⟨y, h1, -, h2⟩ := h (dist c (hm key) z) (dist_lt (hl key) hzc)
    rw [pos_dist (hl key) hzc, hz] at h1
    exact h2 (Option.some.inj h1).symm
  · exact ⟨D, x, h1, h2, h3, h4⟩
def upd (M : Int32 → Option Int32) (k v : Int32) : Int32 → Option Int32 := fun y => if y = k then some v else M y
def del (M : Int32 → Option Int32) (k : Int32) : Int32 → Option Int32 := fun y => if y = k then none else M y
theorem sub1_inj {x y : Int32} (h : x - 1 = y - 1) : x = y := by have := congrArg (· + 1) h; simpa [sub_add1] using this
theorem add1_inj {x y : Int32} (h : x + 1 = y + 1) : x = y := by have := congrArg (· - 1) h; simpa [add_sub1] using this
/-- a value replaced -/
theorem Tab.replace (H : Tab hm c ks vs M) {key w : Int32} {i : Nat} (hi : ks[i]? = some (key + 1)) (h0 : key + 1 ≠ 0) : Tab hm c ks (vs.set i w) (upd M key w) := by
  obtain ⟨l1, l2, hl, A, B, C⟩ := H
  have hic : i < c := by rw [← l1]; exact (List.getElem?_eq_some_iff.mp hi).1
  refine ⟨l1, by rw [List.length_set]; exact l2, hl, fun j x hx hx0 => ?_, fun k v hk => ?_, C⟩
  · obtain ⟨⟨v, h1, h2⟩, R⟩ := A j x hx hx0
    refine ⟨?_, R⟩
    by_cases q : i = j
    · subst q
      cases hi.symm.trans hx
      exact ⟨w, by rw [List.getElem?_set_self (by omega)], by simp [upd, add_sub1]⟩
    · refine ⟨v, by rw [List.getElem?_set_ne q]; exact h1, ?_⟩
      have : x - 1 ≠ key := fun e => q (C i j x (by rw [hi, ← e, sub_add1]) hx hx0)
      simp [upd, this, h2]
  · by_cases q : k = key
    · subst q; exact ⟨h0, i, hi⟩
    · simp only [upd, q, if_false] at hk; exact B k v hk
/-- a new entry -/
theorem Tab.insert (H : Tab hm c ks vs M) {key w : Int32} {d : Nat} (hd : d < c) (h : ks[pos c (hm key) d]? = some 0) (hb : ∀ d', d' < d → ∃ y, ks[pos c (hm key) d']? = some y ∧ y ≠ key + 1 ∧ y ≠ 0) (h0 : key + 1 ≠ 0) :
    Tab hm c (ks.set (pos c (hm key) d) (key + 1)) (vs.set (pos c (hm key) d) w) (upd M key w) := by
  have hnone := probe_miss H hd h (fun d' hd' e => by obtain ⟨y, h1, h2, -⟩ := hb d' hd'; exact h2 (Option.some.inj (h1.symm.trans e)))
  obtain ⟨l1, l2, hl, A, B, C⟩ := H
  have hpc : pos c (hm key) d < c := pos_lt (hl key) hd
  generalize hp : pos c (hm key) d = p at *
  have hset : ∀ j, (ks.set p (key + 1))[j]? ≠ some 0 ∨ ((ks.set p (key + 1))[j]? = ks[j]? ∧ j ≠ p) := by
    intro j
    by_cases q : p = j
    · subst q; left; rw [List.getElem?_set_self (by omega)]; intro e; exact h0 (Option.some.inj e)
    · right; exact ⟨List.getElem?_set_ne q, fun e => q e.symm⟩
  refine ⟨by rw [List.length_set]; exact l1, by rw [List.length_set]; exact l2, hl, fun j x hx hx0 => ?_, fun k v hk => ?_, fun i j x hi hj hx0 => ?_⟩
  · by_cases q : p = j
    · subst q
      rw [List.getElem?_set_self (by omega)] at hx
      cases Option.some.inj hx
      refine ⟨⟨w, by rw [List.getElem?_set_self (by omega)], by simp [upd, add_sub1]⟩, fun d' hd' => ?_⟩
      rw [add_sub1] at hd' ⊢
      rw [← hp, dist_pos (hl key) hd] at hd'
      rcases hset (pos c (hm key) d') with z | ⟨z, z2⟩
      · exact z
      · rw [z]
        have : d' ≠ d := fun e => z2 (by rw [e, hp])
        obtain ⟨y, h1, -, h3⟩ := hb d' (by omega)
        rw [h1]; intro e; exact h3 (Option.some.inj e)
    · rw [List.getElem?_set_ne q] at hx
      obtain ⟨⟨v, h1, h2⟩, R⟩ := A j x hx hx0
      refine ⟨⟨v, by rw [List.getElem?_set_ne q]; exact h1, ?_⟩, fun d' hd' => ?_⟩
      · have : x - 1 ≠ key := fun e => by rw [e, hnone] at h2; cases h2
        simp [upd, this, h2]
      · rcases hset (pos c (hm (x - 1)) d') with z | ⟨z, -⟩
        · exact z
        · rw [z]; exact R d' hd'
  · by_cases q : k = key
    · subst q; exact ⟨h0, p, by rw [List.getElem?_set_self (by omega)]⟩
    · simp only [upd, q, if_false] at hk
      obtain ⟨h1, i, hi⟩ := B k v hk
      refine ⟨h1, i, ?_⟩
      rw [List.getElem?_set_ne]
      · exact hi
      · intro e; subst e; rw [h] at hi; exact h1 (Option.some.inj hi).symm
  · by_cases q : p = i
    · subst q
      rw [List.getElem?_set_self (by omega)] at hi
      cases Option.some.inj hi
      by_cases q2 : p = j
      · exact q2
      · rw [List.getElem?_set_ne q2] at hj
        obtain ⟨⟨v, h1, h2⟩, -⟩ := A j _ hj hx0
        rw [add_sub1, hnone] at h2; cases h2
    · rw [List.getElem?_set_ne q] at hi
      by_cases q2 : p = j
      · subst q2
        rw [List.getElem?_set_self (by omega)] at hj
        cases Option.some.inj hj
        obtain ⟨⟨v, h1, h2⟩, -⟩ := A i _ hi hx0
        rw [add_sub1, hnone] at h2; cases h2
      · rw [List.getElem?_set_ne q2] at hj
        exact C i j x hi hj hx0
/-- the empty table -/
theorem Tab.empty (hl : ∀ y, hm y < c) : Tab hm c (List.replicate c 0) (List.replicate c 0) (fun _ => none) := by
  refine ⟨by simp, by simp, hl, fun i x hx hx0 => ?_, fun k v hk => (nomatch hk), fun i j x hi hj hx0 => ?_⟩
  · rw [List.getElem?_replicate] at hx; split at hx
    · exact absurd (Option.some.inj hx).symm hx0
    · cases hx
  · rw [List.getElem?_replicate] at hi; split at hi
    · exact absurd (Option.some.inj hi).symm hx0
    · cases hi
/-! how many places are taken -/
def taken (ks : List Int32) : Nat := ks.countP (fun x => x != 0)
theorem taken_zero (n : Nat) : taken (List.replicate n 0) = 0 := by simp [taken, List.countP_replicate]
theorem taken_set : ∀ {ks : List Int32} {i : Nat} {x : Int32}, ks[i]? = some 0 → x ≠ 0 → taken (ks.set i x) = taken ks + 1
  | y :: ks, 0, x, h, hx => by
    have : y = 0 := Option.some.inj h
    subst this
    simp [taken, List.set, List.countP_cons, hx]
  | y :: ks, i + 1, x, h, hx => by
    have := taken_set (ks := ks) (i := i) (x := x) (by simpa using h) hx
    simp only [taken, List.set, List.countP_cons] at this ⊢
    omega
theorem has_zero : ∀ {ks : List Int32}, taken ks < ks.length → ∃ z : Nat, ks[z]? = some 0
  | [], h => absurd h (by simp [taken])
  | y :: ks, h => by
    by_cases q : y = 0
    · exact ⟨0, by simp [q]⟩
    · have : taken (y :: ks) = taken ks + 1 := by simp [taken, List.countP_cons, q]
      obtain ⟨z, hz⟩ := has_zero (ks := ks) (by simp only [List.length_cons] at h; omega)
      exact ⟨z + 1, by simpa using hz⟩

/-! removal: a hole at f, the places up to e behind it looked at -/
def Hol (hm : Int32 → Nat) (c : Nat) (ks vs : List Int32) (M : Int32 → Option Int32) (f e : Nat) : Prop :=
  ks.length = c ∧ vs.length = c ∧ (∀ y, hm y < c) ∧ f < c ∧ 1 ≤ e ∧ e < c ∧
  (∀ (i : Nat) (x : Int32), i ≠ f → ks[i]? = some x → x ≠ 0 → (∃ v, vs[i]? = some v ∧ M (x - 1) = some v) ∧ Reach hm c ks x i) ∧
  (∀ key v, M key = some v → key + 1 ≠ 0 ∧ ∃ i : Nat, i ≠ f ∧ ks[i]? = some (key + 1)) ∧
  (∀ (i j : Nat) (x : Int32), i ≠ f → j ≠ f → ks[i]? = some x → ks[j]? = some x → x ≠ 0 → i = j) ∧
  (∀ (d : Nat) (x : Int32), 0 < d → d < e → ks[pos c f d]? = some x → x ≠ 0 → dist c (hm (x - 1)) (pos c f d) < d) ∧
  (∀ d : Nat, d < e → ks[pos c f d]? ≠ some 0)
theorem pos_zero {c f : Nat} (h : f < c) : pos c f 0 = f := by have := pos_spec c f 0; omega
theorem Tab.hole (H : Tab hm c ks vs M) (hc : 1 < c) {key : Int32} {p : Nat} (hp : ks[p]? = some (key + 1)) (h0 : key + 1 ≠ 0) : Hol hm c ks vs (del M key) p 1 := by
  obtain ⟨l1, l2, hl, A, B, C⟩ := H
  have hpc : p < c := by rw [← l1]; exact (List.getElem?_eq_some_iff.mp hp).1
  refine ⟨l1, l2, hl, hpc, Nat.le_refl _, hc, fun i x hi hx hx0 => ?_, fun k v hk => ?_, fun i j x _ _ h1 h2 h3 => C i j x h1 h2 h3, fun d x h1 h2 => by omega, fun d hd e => ?_⟩
  · obtain ⟨⟨v, h1, h2⟩, R⟩ := A i x hx hx0
    refine ⟨⟨v, h1, ?_⟩, R⟩
    have : x - 1 ≠ key := fun e => hi (C i p x hx (by rw [hp, ← e, sub_add1]) hx0)
    simp [del, this, h2]
  · by_cases q : k = key
    · simp [del, q] at hk
    · simp only [del, q, if_false] at hk
      obtain ⟨h1, i, hi⟩ := B k v hk
      refine ⟨h1, i, fun e => ?_, hi⟩
      subst e; exact q (add1_inj (Option.some.inj (hi.symm.trans hp)))
  · have : d = 0 := by omega
    subst this
    rw [pos_zero hpc, hp] at e
    exact h0 (Option.some.inj e)
variable {f e : Nat}
theorem Hol.more (H : Hol hm c ks vs M f e) {z : Nat} (hz : ks[z]? = some 0) {x : Int32} (hx : ks[pos c f e]? = some x) (hx0 : x ≠ 0) : e + 1 < c := by
  obtain ⟨l1, l2, hl, hf, he, hec, A, B, C, D, E⟩ := H
  have hzc : z < c := by rw [← l1]; exact (List.getElem?_eq_some_iff.mp hz).1
  have h1 := dist_lt hf hzc
  have h2 := pos_dist hf hzc
  have h3 : e ≤ dist c f z := by
    apply Nat.le_of_not_lt; intro q
    exact E _ q (by rw [h2]; exact hz)
  have h4 : e ≠ dist c f z := fun q => by
    rw [q, h2, hz] at hx; exact hx0 (Option.some.inj hx).symm
  omega
theorem Hol.skip (H : Hol hm c ks vs M f e) (hc : e + 1 < c) {x : Int32} (hx : ks[pos c f e]? = some x) (hx0 : x ≠ 0) (hd : dist c (hm (x - 1)) (pos c f e) < e) : Hol hm c ks vs M f (e + 1) := by
  obtain ⟨l1, l2, hl, hf, he, hec, A, B, C, D, E⟩ := H
  refine ⟨l1, l2, hl, hf, by omega, hc, A, B, C, fun d y h1 h2 h3 h4 => ?_, fun d h1 h2 => ?_⟩
  · by_cases q : d = e
    · subst q; cases hx.symm.trans h3; exact hd
    · exact D d y h1 (by omega) h3 h4
  · by_cases q : d = e
    · subst q; exact hx0 (Option.some.inj (hx.symm.trans h2))
    · exact E d (by omega) h2
theorem Hol.move (H : Hol hm c ks vs M f e) {x w : Int32} (hx : ks[pos c f e]? = some x) (hx0 : x ≠ 0) (hw : vs[pos c f e]? = some w) (hd : ¬ dist c (hm (x - 1)) (pos c f e) < e) : Hol hm c (ks.set f x) (vs.set f w) M (pos c f e) 1 := by
  obtain ⟨l1, l2, hl, hf, he, hec, A, B, C, D, E⟩ := H
  have hpc := pos_lt hf hec
  have hne : pos c f e ≠ f := by have := pos_spec c f e; omega
  have hset : ∀ j : Nat, (ks.set f x)[j]? ≠ some 0 ∨ (ks.set f x)[j]? = ks[j]? := by
    intro j
    by_cases q : f = j
    · subst q; left; rw [List.getElem?_set_self (by omega)]; intro e; exact hx0 (Option.some.inj e)
    · right; exact List.getElem?_set_ne q
  have hres : ∀ (y : Int32) (i d : Nat), Reach hm c ks y i → d ≤ dist c (hm (y - 1)) i → (ks.set f x)[pos c (hm (y - 1)) d]? ≠ some 0 := by
    intro y i d R h
    rcases hset (pos c (hm (y - 1)) d) with z | z
    · exact z
    · rw [z]; exact R d h
  obtain ⟨⟨w', hw', hMx⟩, Rx⟩ := A _ x hne hx hx0
  cases hw.symm.trans hw'
  refine ⟨by rw [List.length_set]; exact l1, by rw [List.length_set]; exact l2, hl, hpc, Nat.le_refl _, by omega, fun i y hi hy hy0 => ?_, fun k v hk => ?_, fun i j y hi hj h1 h2 h3 => ?_, fun d y h1 h2 => by omega, fun d hd' h2 => ?_⟩
  · by_cases q : f = i
    · subst q
      rw [List.getElem?_set_self (by omega)] at hy
      cases Option.some.inj hy
      refine ⟨⟨w, by rw [List.getElem?_set_self (by omega)], hMx⟩, fun d' hd' => hres x (pos c f e) d' Rx ?_⟩
      have e1 := dist_spec c (hm (x - 1)) f
      have e2 := dist_spec c (hm (x - 1)) (pos c f e)
      have e3 := pos_spec c f e
      have := hl (x - 1)
      omega
    · rw [List.getElem?_set_ne q] at hy
      obtain ⟨⟨v, h1, h2⟩, R⟩ := A i y (fun z => q z.symm) hy hy0
      exact ⟨⟨v, by rw [List.getElem?_set_ne q]; exact h1, h2⟩, fun d' hd' => hres y i d' R hd'⟩
  · obtain ⟨h1, i, h2, h3⟩ := B k v hk
    refine ⟨h1, ?_⟩
    by_cases q : i = pos c f e
    · refine ⟨f, fun z => hne z.symm, ?_⟩
      rw [List.getElem?_set_self (by omega)]
      rw [q, hx] at h3; exact h3
    · exact ⟨i, q, by rw [List.getElem?_set_ne (fun z => h2 z.symm)]; exact h3⟩
  · by_cases q : f = i
    · subst q
      rw [List.getElem?_set_self (by omega)] at h1
      cases Option.some.inj h1
      by_cases q2 : f = j
      · exact q2
      · rw [List.getElem?_set_ne q2] at h2
        exact absurd (C j _ x (fun z => q2 z.symm) hne h2 hx h3) hj
    · rw [List.getElem?_set_ne q] at h1
      by_cases q2 : f = j
      · subst q2
        rw [List.getElem?_set_self (by omega)] at h2
        cases Option.some.inj h2
        exact absurd (C i _ x (fun z => q z.symm) hne h1 hx h3) hi
      · rw [List.getElem?_set_ne q2] at h2
        exact C i j y (fun z => q z.symm) (fun z => q2 z.symm) h1 h2 h3
  · have : d = 0 := by omega
    subst this
    rw [pos_zero hpc, List.getElem?_set_ne (fun z => hne z.symm), hx] at h2
    exact hx0 (Option.some.inj h2)
theorem Hol.done (H : Hol hm c ks vs M f e) (hx : ks[pos c f e]? = some 0) : Tab hm c (ks.set f 0) vs M := by
  obtain ⟨l1, l2, hl, hf, he, hec, A, B, C, D, E⟩ := H
  refine ⟨by rw [List.length_set]; exact l1, l2, hl, fun i y hy hy0 => ?_, fun k v hk => ?_, fun i j y h1 h2 h3 => ?_⟩
  · have hi : f ≠ i := fun z => by subst z; rw [List.getElem?_set_self (by omega)] at hy; exact hy0 (Option.some.inj hy).symm
    rw [List.getElem?_set_ne hi] at hy
    obtain ⟨h1, R⟩ := A i y (fun z => hi z.symm) hy hy0
    refine ⟨h1, fun d hd => ?_⟩
    by_cases q : f = pos c (hm (y - 1)) d
    · exfalso
      have hic : i < c := by rw [← l1]; exact (List.getElem?_eq_some_iff.mp hy).1
      have e1 := dist_spec c (hm (y - 1)) i
      have e2 := pos_spec c (hm (y - 1)) d
      have e3 := dist_spec c f i
      have e4 := dist_lt (hl (y - 1)) hic
      have e5 := hl (y - 1)
      have hg : dist c (hm (y - 1)) i = d + dist c f i := by omega
      have hg0 : 0 < dist c f i := by omega
      have hge : dist c f i < e := by
        apply Nat.lt_of_not_le; intro z
        have := R (d + e) (by omega)
        have p1 := pos_spec c (hm (y - 1)) (d + e)
        have p2 := pos_spec c f e
        rw [show pos c (hm (y - 1)) (d + e) = pos c f e by omega] at this
        exact this hx
      have := D (dist c f i) y hg0 hge (by rw [pos_dist hf hic]; exact hy) hy0
      rw [pos_dist hf hic] at this
      omega
    · rw [List.getElem?_set_ne q]; exact R d hd
  · obtain ⟨h1, i, h2, h3⟩ := B k v hk
    exact ⟨h1, i, by rw [List.getElem?_set_ne (fun z => h2 z.symm)]; exact h3⟩
  · have hi : f ≠ i := fun z => by subst z; rw [List.getElem?_set_self (by omega)] at h1; exact h3 (Option.some.inj h1).symm
    have hj : f ≠ j := fun z => by subst z; rw [List.getElem?_set_self (by omega)] at h2; exact h3 (Option.some.inj h2).symm
    rw [List.getElem?_set_ne hi] at h1
    rw [List.getElem?_set_ne hj] at h2
    exact C i j y (fun z => hi z.symm) (fun z => hj z.symm) h1 h2 h3
end
theorem own_mask {m : Nat} (hm : m ≤ 30) (x : Int32) : x &&& Int32.ofNat (2 ^ m - 1) = Int32.ofNat (x.toBitVec.toNat % 2 ^ m) := by
  apply Int32.toBitVec_inj.mp
  apply BitVec.eq_of_toNat_eq
  have hp : 2 ^ m ≤ 2 ^ 30 := Nat.pow_le_pow_right (by decide) hm
  show (x.toBitVec &&& BitVec.ofNat 32 (2 ^ m - 1)).toNat = (BitVec.ofNat 32 (x.toBitVec.toNat % 2 ^ m)).toNat
  have h1 : x.toBitVec.toNat % 2 ^ m < 2 ^ m := Nat.mod_lt _ (Nat.two_pow_pos m)
  rw [BitVec.toNat_and, BitVec.toNat_ofNat, BitVec.toNat_ofNat, Nat.mod_eq_of_lt (by omega), Nat.and_two_pow_sub_one_eq_mod, Nat.mod_eq_of_lt (a := x.toBitVec.toNat % 2 ^ m) (by omega)]
theorem own_mask1 {m s : Nat} (hm : m ≤ 30) (hs : s < 2 ^ m) : (Int32.ofNat s + 1) &&& Int32.ofNat (2 ^ m - 1) = Int32.ofNat (pos (2 ^ m) s 1) := by
  have hp : 2 ^ m ≤ 2 ^ 30 := Nat.pow_le_pow_right (by decide) hm
  rw [own_nsucc, own_mask hm]
  congr 1
  show (BitVec.ofNat 32 (s + 1)).toNat % 2 ^ m = _
  rw [BitVec.toNat_ofNat, Nat.mod_eq_of_lt (a := s + 1) (by omega)]
  rcases pos_spec (2 ^ m) s 1 with ⟨h1, h2⟩ | ⟨h1, h2⟩
  · rw [h2, Nat.mod_eq_of_lt h1]
  · rw [h2, show s + 1 = 2 ^ m by omega, Nat.mod_self]; omega
theorem own_mask2 {m a b : Nat} (hm : m ≤ 30) (ha : a < 2 ^ m) (hb : b < 2 ^ m) : (Int32.ofNat a - Int32.ofNat b) &&& Int32.ofNat (2 ^ m - 1) = Int32.ofNat (dist (2 ^ m) b a) := by
  have hp : 2 ^ m ≤ 2 ^ 30 := Nat.pow_le_pow_right (by decide) hm
  rcases dist_spec (2 ^ m) b a with ⟨h1, h2⟩ | ⟨h1, h2⟩
  · rw [own_nsub h1, own_mask hm, h2]
    congr 1
    show (BitVec.ofNat 32 (a - b)).toNat % 2 ^ m = _
    rw [BitVec.toNat_ofNat, Nat.mod_eq_of_lt (a := a - b) (by omega), Nat.mod_eq_of_lt (by omega)]
  · rw [own_mask hm, h2]
    congr 1
    show (BitVec.ofNat 32 a - BitVec.ofNat 32 b).toNat % 2 ^ m = _
    rw [BitVec.toNat_sub, BitVec.toNat_ofNat, BitVec.toNat_ofNat, Nat.mod_eq_of_lt (a := a) (by omega), Nat.mod_eq_of_lt (a := b) (by omega)]
    have e1 : (2 : Nat) ^ 32 = 2 ^ m * 2 ^ (32 - m) := by rw [← Nat.pow_add]; congr 1; omega
    rw [Nat.mod_eq_of_lt (a := 2 ^ 32 - b + a) (by omega)]
    have e2 : 2 ^ 32 - b + a = (a + 2 ^ m - b) + 2 ^ m * (2 ^ (32 - m) - 1) := by
      rw [Nat.mul_sub, ← e1]; omega
    rw [e2, Nat.add_mul_mod_self_left, Nat.mod_eq_of_lt (by omega)]
def slotF (key mask : Int32) : Int32 := (key * (-1640531527) ^^^ XT.ushr (key * (-1640531527)) 16) &&& mask
def homeF (m : Nat) (key : Int32) : Nat := (key * (-1640531527) ^^^ XT.ushr (key * (-1640531527)) 16).toBitVec.toNat % 2 ^ m
theorem own_home {m : Nat} (hm : m ≤ 30) (key : Int32) : slotF key (Int32.ofNat (2 ^ m - 1)) = Int32.ofNat (homeF m key) := own_mask hm _
theorem own_home_lt (m : Nat) (key : Int32) : homeF m key < 2 ^ m := Nat.mod_lt _ (Nat.two_pow_pos m)
theorem own_pow {m : Nat} (h : m ≤ 30) : 2 ^ m ≤ 1073741824 := Nat.pow_le_pow_right (by decide) h
theorem own_ncap {m : Nat} : Int32.ofNat (2 ^ m) - 1 = Int32.ofNat (2 ^ m - 1) := own_nsub (i := 2 ^ m) (j := 1) (Nat.two_pow_pos m)
theorem own_k1 (x : Int32) : (x &&& 2147483647) + 1 ≠ 0 := by
  obtain ⟨n, h1, h2⟩ := own_msk x
  rw [h2, own_nsucc]
  intro e
  have e2 : (BitVec.ofNat 32 (n + 1)).toNat = 0 := congrArg (fun z : Int32 => z.toBitVec.toNat) e
  rw [BitVec.toNat_ofNat, Nat.mod_eq_of_lt (by omega)] at e2
  omega
theorem own_half {m : Nat} (h : m ≤ 30) (h1 : 1 ≤ m) : Int32.ofNat (2 ^ m) / 2 = Int32.ofNat (2 ^ (m - 1)) := by
  have hp := own_pow h
  have e : 2 ^ m = 2 ^ (m - 1) * 2 := by rw [← Nat.pow_succ]; congr 1; omega
  apply Int32.toInt_inj.mp
  rw [Int32.toInt_div, own_nint (by omega), own_nint (by omega)]
  have : (2 : Int32).toInt = 2 := by decide
  rw [this, e, Int.natCast_mul, show ((2 : Nat) : Int) = 2 from rfl, Int.mul_tdiv_cancel _ (by decide)]
  exact Int.bmod_eq_of_le (by omega) (by omega)
theorem pos_succ {c s i : Nat} (hs : s < c) (hi : i + 1 < c) : pos c (pos c s i) 1 = pos c s (i + 1) := by
  have := pos_spec c s i; have := pos_spec c (pos c s i) 1; have := pos_spec c s (i + 1); omega
theorem pos_nlt {m s i : Nat} (hm : m ≤ 30) (hs : s < 2 ^ m) (hi : i < 2 ^ m) : pos (2 ^ m) s i < 2147483648 := by
  have := own_pow hm; have := pos_lt hs hi; omega
theorem dist_next {c a z : Nat} (ha : a < c) (hz : z < c) {n : Nat} (h : dist c a z = n + 1) : dist c (pos c a 1) z = n := by
  have := dist_spec c a z; have := pos_spec c a 1; have := dist_spec c (pos c a 1) z; omega
theorem dist_none {c a z : Nat} (ha : a < c) (hz : z < c) (h : dist c a z = 0) : a = z := by
  have := dist_spec c a z; omega
def f73 (x n : Int32) : Int32 := n - XT.ushr x 1
def f61 (x n : Int32) : Int32 := if x < 4 then f73 x n else f73 (XT.ushr x 2) (n + (-2))
def f48 (x n : Int32) : Int32 := if x < 16 then f61 x n else f61 (XT.ushr x 4) (n + (-4))
def f33 (x n : Int32) : Int32 := if x < 256 then f48 x n else f48 (XT.ushr x 8) (n + (-8))
def f18 (x n : Int32) : Int32 := if x < 65536 then f33 x n else f33 (XT.ushr x 16) (n + (-16))
def nlzF (x : Int32) : Int32 := if 0 < x then f18 x 31 else if x = 0 then 32 else 0
def hobF (x : Int32) : Int32 := x &&& XT.ushr (-2147483648) (nlzF x)
def capF (e : Int32) : Int32 := hobF ((if 4 < e then e else 4) * 2 - 1) * 2
theorem D33_47_0 : Dc jdk_33_method_47_code 0 (.iload_n 0) 1 1 := dc (by decide +kernel) rfl
theorem D33_47_1 : Db jdk_33_method_47_code 1 (.ifCond .gt) 4 15 := db (14) (by decide +kernel) rfl (by decide) (by decide)
theorem D33_47_4 : Dc jdk_33_method_47_code 4 (.iload_n 0) 1 5 := dc (by decide +kernel) rfl
theorem D33_47_5 : Db jdk_33_method_47_code 5 (.ifCond .ne) 8 13 := db (8) (by decide +kernel) rfl (by decide) (by decide)
theorem D33_47_8 : Dc jdk_33_method_47_code 8 (.bipush 32) 2 10 := dc (by decide +kernel) rfl
theorem D33_47_10 : Db jdk_33_method_47_code 10 (.goto) 13 14 := db (4) (by decide +kernel) rfl (by decide) (by decide)
theorem D33_47_13 : Dc jdk_33_method_47_code 13 (.iconst 0) 1 14 := dc (by decide +kernel) rfl
theorem D33_47_14 : Dc jdk_33_method_47_code 14 (.ireturn) 1 15 := dc (by decide +kernel) rfl
theorem D33_47_15 : Dc jdk_33_method_47_code 15 (.bipush 31) 2 17 := dc (by decide +kernel) rfl
theorem D33_47_17 : Dc jdk_33_method_47_code 17 (.istore_n 1) 1 18 := dc (by decide +kernel) rfl
theorem D33_47_18 : Dc jdk_33_method_47_code 18 (.iload_n 0) 1 19 := dc (by decide +kernel) rfl
theorem D33_47_19 : Dc jdk_33_method_47_code 19 (.ldc_w 264) 3 22 := dc (by decide +kernel) rfl
theorem D33_47_22 : Db jdk_33_method_47_code 22 (.if_icmp .lt) 25 33 := db (11) (by decide +kernel) rfl (by decide) (by decide)
theorem D33_47_25 : Dc jdk_33_method_47_code 25 (.iinc 1 (-16)) 3 28 := dc (by decide +kernel) rfl
theorem D33_47_28 : Dc jdk_33_method_47_code 28 (.iload_n 0) 1 29 := dc (by decide +kernel) rfl
theorem D33_47_29 : Dc jdk_33_method_47_code 29 (.bipush 16) 2 31 := dc (by decide +kernel) rfl
theorem D33_47_31 : Dc jdk_33_method_47_code 31 (.iushr) 1 32 := dc (by decide +kernel) rfl
theorem D33_47_32 : Dc jdk_33_method_47_code 32 (.istore_n 0) 1 33 := dc (by decide +kernel) rfl
theorem D33_47_33 : Dc jdk_33_method_47_code 33 (.iload_n 0) 1 34 := dc (by decide +kernel) rfl
theorem D33_47_34 : Dc jdk_33_method_47_code 34 (.sipush 256) 3 37 := dc (by decide +kernel) rfl
theorem D33_47_37 : Db jdk_33_method_47_code 37 (.if_icmp .lt) 40 48 := db (11) (by decide +kernel) rfl (by decide) (by decide)
theorem D33_47_40 : Dc jdk_33_method_47_code 40 (.iinc 1 (-8)) 3 43 := dc (by decide +kernel) rfl
theorem D33_47_43 : Dc jdk_33_method_47_code 43 (.iload_n 0) 1 44 := dc (by decide +kernel) rfl
theorem D33_47_44 : Dc jdk_33_method_47_code 44 (.bipush 8) 2 46 := dc (by decide +kernel) rfl
theorem D33_47_46 : Dc jdk_33_method_47_code 46 (.iushr) 1 47 := dc (by decide +kernel) rfl
theorem D33_47_47 : Dc jdk_33_method_47_code 47 (.istore_n 0) 1 48 := dc (by decide +kernel) rfl
theorem D33_47_48 : Dc jdk_33_method_47_code 48 (.iload_n 0) 1 49 := dc (by decide +kernel) rfl
theorem D33_47_49 : Dc jdk_33_method_47_code 49 (.bipush 16) 2 51 := dc (by decide +kernel) rfl
theorem D33_47_51 : Db jdk_33_method_47_code 51 (.if_icmp .lt) 54 61 := db (10) (by decide +kernel) rfl (by decide) (by decide)
theorem D33_47_54 : Dc jdk_33_method_47_code 54 (.iinc 1 (-4)) 3 57 := dc (by decide +kernel) rfl
theorem D33_47_57 : Dc jdk_33_method_47_code 57 (.iload_n 0) 1 58 := dc (by decide +kernel) rfl
theorem D33_47_58 : Dc jdk_33_method_47_code 58 (.iconst 4) 1 59 := dc (by decide +kernel) rfl
theorem D33_47_59 : Dc jdk_33_method_47_code 59 (.iushr) 1 60 := dc (by decide +kernel) rfl
theorem D33_47_60 : Dc jdk_33_method_47_code 60 (.istore_n 0) 1 61 := dc (by decide +kernel) rfl
theorem D33_47_61 : Dc jdk_33_method_47_code 61 (.iload_n 0) 1 62 := dc (by decide +kernel) rfl
theorem D33_47_62 : Dc jdk_33_method_47_code 62 (.iconst 4) 1 63 := dc (by decide +kernel) rfl
theorem D33_47_63 : Db jdk_33_method_47_code 63 (.if_icmp .lt) 66 73 := db (10) (by decide +kernel) rfl (by decide) (by decide)
theorem D33_47_66 : Dc jdk_33_method_47_code 66 (.iinc 1 (-2)) 3 69 := dc (by decide +kernel) rfl
theorem D33_47_69 : Dc jdk_33_method_47_code 69 (.iload_n 0) 1 70 := dc (by decide +kernel) rfl
theorem D33_47_70 : Dc jdk_33_method_47_code 70 (.iconst 2) 1 71 := dc (by decide +kernel) rfl
theorem D33_47_71 : Dc jdk_33_method_47_code 71 (.iushr) 1 72 := dc (by decide +kernel) rfl
theorem D33_47_72 : Dc jdk_33_method_47_code 72 (.istore_n 0) 1 73 := dc (by decide +kernel) rfl
theorem D33_47_73 : Dc jdk_33_method_47_code 73 (.iload_n 1) 1 74 := dc (by decide +kernel) rfl
theorem D33_47_74 : Dc jdk_33_method_47_code 74 (.iload_n 0) 1 75 := dc (by decide +kernel) rfl
theorem D33_47_75 : Dc jdk_33_method_47_code 75 (.iconst 1) 1 76 := dc (by decide +kernel) rfl
theorem D33_47_76 : Dc jdk_33_method_47_code 76 (.iushr) 1 77 := dc (by decide +kernel) rfl
theorem D33_47_77 : Dc jdk_33_method_47_code 77 (.isub) 1 78 := dc (by decide +kernel) rfl
theorem D33_47_78 : Dc jdk_33_method_47_code 78 (.ireturn) 1 79 := dc (by decide +kernel) rfl
theorem pf_nlz : plainFor (⟨"java/lang/Integer", "numberOfLeadingZeros", "(I)I"⟩ : MethodName) = true := by decide +kernel
set_option maxRecDepth 65536 in
set_option maxHeartbeats 40000000 in
theorem ct_nlz (l : Launch) (Z : State) (a0 : Array Value) (hw : ∀ d ∈ tables_1, d.before a0 Z = true) (n0 : Nat) (h : Heap) (y : Int32) :
    Ct l Z n0 (⟨"java/lang/Integer", "numberOfLeadingZeros", "(I)I"⟩ : MethodName) jdk_33_method_47_code 2 (some .int) ({ frames := 0, cells := 0, slots := 0, locals := 0 } : Room) [.int y] h (fun v h' => v = some (.int (nlzF y)) ∧ h = h') := by
  refine Ct.intro pf_nlz [.val (.int y), .unset] (fun m => by first | (simp [entryFrame, mkF, argsToLocals, Value.category]; done) | (simp [entryFrame, mkF, argsToLocals, Value.category, maxLocals]; done) | rfl) ?_
  intro k hl K
  replace K : Ok k Z n0 "java/lang/Integer" ({ frames := 0, cells := 0, slots := 0, locals := 0 } : Room) jdk_33_method_47_code 2 (some .int) "numberOfLeadingZeros" := K
  have j73 : ∀ x n : Int32, f73 x n = nlzF y → G k n0 (fun v h' => v = some (.int (nlzF y)) ∧ h = h') h 0 0 73 [.val (.int x), .val (.int n)] [] := by
    intro x n hx
    refine G.iloadN K D33_47_73 rfl ?_
    refine G.iloadN K D33_47_74 rfl ?_
    refine G.iconst K D33_47_75 1 rfl ?_
    refine G.iushr K D33_47_76 ?_
    refine G.isub K D33_47_77 ?_
    refine G.ret_int K D33_47_78 ?_
    exact ⟨by rw [← hx, f73], rfl⟩
  have j61 : ∀ x n : Int32, f61 x n = nlzF y → G k n0 (fun v h' => v = some (.int (nlzF y)) ∧ h = h') h 0 0 61 [.val (.int x), .val (.int n)] [] := by
    intro x n hx
    refine G.iloadN K D33_47_61 rfl ?_
    refine G.iconst K D33_47_62 4 rfl ?_
    refine G.icmp_lt K D33_47_63 (fun q1 => ?_) (fun q1 => ?_)
    · exact j73 _ _ (by rw [← hx, f61, if_pos q1])
    · refine G.iinc K D33_47_66 (-2) rfl rfl ([.val (.int x), .val (.int (n + (-2)))]) rfl ?_
      refine G.iloadN K D33_47_69 rfl ?_
      refine G.iconst K D33_47_70 2 rfl ?_
      refine G.iushr K D33_47_71 ?_
      refine G.istoreN K D33_47_72 ([.val (.int (XT.ushr x 2)), .val (.int (n + (-2)))]) rfl ?_
      exact j73 _ _ (by rw [← hx, f61, if_neg q1])
  have j48 : ∀ x n : Int32, f48 x n = nlzF y → G k n0 (fun v h' => v = some (.int (nlzF y)) ∧ h = h') h 0 0 48 [.val (.int x), .val (.int n)] [] := by
    intro x n hx
    refine G.iloadN K D33_47_48 rfl ?_
    refine G.bipush K D33_47_49 16 rfl ?_
    refine G.icmp_lt K D33_47_51 (fun q2 => ?_) (fun q2 => ?_)
    · exact j61 _ _ (by rw [← hx, f48, if_pos q2])
    · refine G.iinc K D33_47_54 (-4) rfl rfl ([.val (.int x), .val (.int (n + (-4)))]) rfl ?_
      refine G.iloadN K D33_47_57 rfl ?_
      refine G.iconst K D33_47_58 4 rfl ?_
      refine G.iushr K D33_47_59 ?_
      refine G.istoreN K D33_47_60 ([.val (.int (XT.ushr x 4)), .val (.int (n + (-4)))]) rfl ?_
      exact j61 _ _ (by rw [← hx, f48, if_neg q2])
  have j33 : ∀ x n : Int32, f33 x n = nlzF y → G k n0 (fun v h' => v = some (.int (nlzF y)) ∧ h = h') h 0 0 33 [.val (.int x), .val (.int n)] [] := by
    intro x n hx
    refine G.iloadN K D33_47_33 rfl ?_
    refine G.sipush K D33_47_34 256 rfl ?_
    refine G.icmp_lt K D33_47_37 (fun q3 => ?_) (fun q3 => ?_)
    · exact j48 _ _ (by rw [← hx, f33, if_pos q3])
    · refine G.iinc K D33_47_40 (-8) rfl rfl ([.val (.int x), .val (.int (n + (-8)))]) rfl ?_
      refine G.iloadN K D33_47_43 rfl ?_
      refine G.bipush K D33_47_44 8 rfl ?_
      refine G.iushr K D33_47_46 ?_
      refine G.istoreN K D33_47_47 ([.val (.int (XT.ushr x 8)), .val (.int (n + (-8)))]) rfl ?_
      exact j48 _ _ (by rw [← hx, f33, if_neg q3])
  have j18 : ∀ x n : Int32, f18 x n = nlzF y → G k n0 (fun v h' => v = some (.int (nlzF y)) ∧ h = h') h 0 0 18 [.val (.int x), .val (.int n)] [] := by
    intro x n hx
    refine G.iloadN K D33_47_18 rfl ?_
    refine G.ldcWI K D33_47_19 (wd hw 29 rfl) ?_
    refine G.icmp_lt K D33_47_22 (fun q4 => ?_) (fun q4 => ?_)
    · exact j33 _ _ (by rw [← hx, f18, if_pos q4])
    · refine G.iinc K D33_47_25 (-16) rfl rfl ([.val (.int x), .val (.int (n + (-16)))]) rfl ?_
      refine G.iloadN K D33_47_28 rfl ?_
      refine G.bipush K D33_47_29 16 rfl ?_
      refine G.iushr K D33_47_31 ?_
      refine G.istoreN K D33_47_32 ([.val (.int (XT.ushr x 16)), .val (.int (n + (-16)))]) rfl ?_
      exact j33 _ _ (by rw [← hx, f18, if_neg q4])
  refine G.iloadN K D33_47_0 rfl ?_
  refine G.if_gt K D33_47_1 (fun q5 => ?_) (fun q5 => ?_)
  · refine G.bipush K D33_47_15 31 rfl ?_
    refine G.istoreN K D33_47_17 ([.val (.int y), .val (.int 31)]) rfl ?_
    exact j18 _ _ (by rw [nlzF, if_pos q5])
  · refine G.iloadN K D33_47_4 rfl ?_
    refine G.if_ne K D33_47_5 (fun q6 => ?_) (fun q6 => ?_)
    · refine G.iconst K D33_47_13 0 rfl ?_
      refine G.ret_int K D33_47_14 ?_
      exact ⟨by simp [nlzF, q5, q6], rfl⟩
    · refine G.bipush K D33_47_8 32 rfl ?_
      refine G.goto K D33_47_10 ?_
      refine G.ret_int K D33_47_14 ?_
      exact ⟨by simp [nlzF, q5, q6], rfl⟩
theorem D33_45_0 : Dc jdk_33_method_45_code 0 (.iload_n 0) 1 1 := dc (by decide +kernel) rfl
theorem D33_45_1 : Dc jdk_33_method_45_code 1 (.ldc 127) 2 3 := dc (by decide +kernel) rfl
theorem D33_45_3 : Dc jdk_33_method_45_code 3 (.iload_n 0) 1 4 := dc (by decide +kernel) rfl
theorem D33_45_4 : Dc jdk_33_method_45_code 4 (.invokestatic 51) 3 7 := dc (by decide +kernel) rfl
theorem D33_45_7 : Dc jdk_33_method_45_code 7 (.iushr) 1 8 := dc (by decide +kernel) rfl
theorem D33_45_8 : Dc jdk_33_method_45_code 8 (.iand) 1 9 := dc (by decide +kernel) rfl
theorem D33_45_9 : Dc jdk_33_method_45_code 9 (.ireturn) 1 10 := dc (by decide +kernel) rfl
theorem pf_hob : plainFor (⟨"java/lang/Integer", "highestOneBit", "(I)I"⟩ : MethodName) = true := by decide +kernel
set_option maxRecDepth 65536 in
set_option maxHeartbeats 40000000 in
theorem ct_hob (l : Launch) (Z : State) (a0 : Array Value) (hw : ∀ d ∈ tables_1, d.before a0 Z = true) (n0 : Nat) (h : Heap) (y : Int32) :
    Ct l Z n0 (⟨"java/lang/Integer", "highestOneBit", "(I)I"⟩ : MethodName) jdk_33_method_45_code 1 (some .int) ({ frames := 1, cells := 0, slots := 0, locals := 15 } : Room) [.int y] h (fun v h' => v = some (.int (hobF y)) ∧ h = h') := by
  refine Ct.intro pf_hob [.val (.int y)] (fun m => by first | (simp [entryFrame, mkF, argsToLocals, Value.category]; done) | (simp [entryFrame, mkF, argsToLocals, Value.category, maxLocals]; done) | rfl) ?_
  intro k hl K
  replace K : Ok k Z n0 "java/lang/Integer" ({ frames := 1, cells := 0, slots := 0, locals := 15 } : Room) jdk_33_method_45_code 1 (some .int) "highestOneBit" := K
  refine G.iloadN K D33_45_0 rfl ?_
  refine G.ldcI K D33_45_1 (wd hw 25 rfl) ?_
  refine G.iloadN K D33_45_3 rfl ?_
  refine G.callS K hl (wd hw 26 rfl) (wd hw 27 rfl) (wd hw 23 rfl) (wd hw 28 rfl) (by decide) pd_0 (ct_nlz l Z a0 hw n0 _ y) 2 rfl (by decide) (by decide) (by decide) (by decide) rfl rfl [.int y] rfl D33_45_4 ?_
  rintro _ _ ⟨rfl, rfl⟩
  change G k n0 _ h _ _ 7 [.val (.int y)] [.int (nlzF y), .int (-2147483648), .int y]
  refine G.iushr K D33_45_7 ?_
  refine G.iand K D33_45_8 ?_
  refine G.ret_int K D33_45_9 ?_
  exact ⟨rfl, rfl⟩
theorem D29_65_0 : Dc jdk_29_method_65_code 0 (.iload_n 0) 1 1 := dc (by decide +kernel) rfl
theorem D29_65_1 : Dc jdk_29_method_65_code 1 (.iload_n 1) 1 2 := dc (by decide +kernel) rfl
theorem D29_65_2 : Db jdk_29_method_65_code 2 (.if_icmp .lt) 5 9 := db (7) (by decide +kernel) rfl (by decide) (by decide)
theorem D29_65_5 : Dc jdk_29_method_65_code 5 (.iload_n 0) 1 6 := dc (by decide +kernel) rfl
theorem D29_65_6 : Db jdk_29_method_65_code 6 (.goto) 9 10 := db (4) (by decide +kernel) rfl (by decide) (by decide)
theorem D29_65_9 : Dc jdk_29_method_65_code 9 (.iload_n 1) 1 10 := dc (by decide +kernel) rfl
theorem D29_65_10 : Dc jdk_29_method_65_code 10 (.ireturn) 1 11 := dc (by decide +kernel) rfl
set_option maxRecDepth 65536 in
set_option maxHeartbeats 40000000 in
theorem ct_max (l : Launch) (Z : State) (a0 : Array Value) (hw : ∀ d ∈ tables_1, d.before a0 Z = true) (n0 : Nat) (h : Heap) (y z : Int32) :
    Ct l Z n0 (⟨"java/lang/Math", "max", "(II)I"⟩ : MethodName) jdk_29_method_65_code 2 (some .int) ({ frames := 0, cells := 0, slots := 0, locals := 0 } : Room) [.int y, .int z] h (fun v h' => v = some (.int (if y < z then z else y)) ∧ h = h') := by
  refine Ct.intro (Jvm.Free.JP.mathPlain rfl (by decide +kernel)) [.val (.int y), .val (.int z)] (fun m => by first | (simp [entryFrame, mkF, argsToLocals, Value.category]; done) | (simp [entryFrame, mkF, argsToLocals, Value.category, maxLocals]; done) | rfl) ?_
  intro k hl K
  replace K : Ok k Z n0 "java/lang/Math" ({ frames := 0, cells := 0, slots := 0, locals := 0 } : Room) jdk_29_method_65_code 2 (some .int) "max" := K
  refine G.iloadN K D29_65_0 rfl ?_
  refine G.iloadN K D29_65_1 rfl ?_
  refine G.icmp_lt K D29_65_2 (fun q7 => ?_) (fun q7 => ?_)
  · refine G.iloadN K D29_65_9 rfl ?_
    refine G.ret_int K D29_65_10 ?_
    exact ⟨by simp [q7], rfl⟩
  · refine G.iloadN K D29_65_5 rfl ?_
    refine G.goto K D29_65_6 ?_
    refine G.ret_int K D29_65_10 ?_
    exact ⟨by simp [q7], rfl⟩
/-- the map of the entries that stand in the first i places -/
def MiP (ks : List Int32) (i : Nat) (y : Int32) : Bool := (List.range i).any fun j => decide (ks[j]? = some (y + 1) ∧ y + 1 ≠ 0)
def Mi (ks : List Int32) (M : Int32 → Option Int32) (i : Nat) : Int32 → Option Int32 := fun y => if MiP ks i y = true then M y else none
theorem MiP_iff (ks : List Int32) (i : Nat) (y : Int32) : MiP ks i y = true ↔ ∃ j : Nat, j < i ∧ ks[j]? = some (y + 1) ∧ y + 1 ≠ 0 := by
  unfold MiP
  rw [List.any_eq_true]
  constructor
  · rintro ⟨j, h1, h2⟩; exact ⟨j, List.mem_range.mp h1, of_decide_eq_true h2⟩
  · rintro ⟨j, h1, h2⟩; exact ⟨j, List.mem_range.mpr h1, decide_eq_true h2⟩
theorem Mi_zero (ks : List Int32) (M : Int32 → Option Int32) : Mi ks M 0 = fun _ => none := by funext y; simp [Mi, MiP]
theorem Mi_full {hm : Int32 → Nat} {c : Nat} {ks vs : List Int32} {M : Int32 → Option Int32} (T : Tab hm c ks vs M) : Mi ks M c = M := by
  funext y
  unfold Mi
  split
  · rfl
  · rename_i q
    cases h : M y with
    | none => rfl
    | some v =>
      exfalso; apply q
      obtain ⟨h0, i, hi⟩ := T.2.2.2.2.1 y v h
      exact (MiP_iff ks c y).mpr ⟨i, by rw [← T.1]; exact (List.getElem?_eq_some_iff.mp hi).1, hi, h0⟩
theorem Mi_skip {ks : List Int32} {M : Int32 → Option Int32} {i : Nat} (h : ks[i]? = some 0) : Mi ks M (i + 1) = Mi ks M i := by
  funext y
  unfold Mi
  have : MiP ks (i + 1) y = MiP ks i y := by
    rw [Bool.eq_iff_iff, MiP_iff, MiP_iff]
    constructor
    · rintro ⟨j, h1, h2, h3⟩
      refine ⟨j, ?_, h2, h3⟩
      by_cases q : j = i
      · subst q; exact absurd (Option.some.inj (h2.symm.trans h)) h3
      · omega
    · rintro ⟨j, h1, h2⟩; exact ⟨j, by omega, h2⟩
  rw [this]
theorem Mi_put {ks : List Int32} {M : Int32 → Option Int32} {i : Nat} {x v : Int32} (h : ks[i]? = some x) (hx : x ≠ 0) (hM : M (x - 1) = some v) : Mi ks M (i + 1) = upd (Mi ks M i) (x - 1) v := by
  funext y
  unfold upd
  by_cases q : y = x - 1
  · subst q
    rw [if_pos rfl]
    unfold Mi
    rw [if_pos ((MiP_iff _ _ _).mpr ⟨i, by omega, by rw [sub_add1]; exact h, by rw [sub_add1]; exact hx⟩), hM]
  · rw [if_neg q]
    unfold Mi
    have : MiP ks (i + 1) y = MiP ks i y := by
      rw [Bool.eq_iff_iff, MiP_iff, MiP_iff]
      constructor
      · rintro ⟨j, h1, h2, h3⟩
        refine ⟨j, ?_, h2, h3⟩
        by_cases z : j = i
        · subst z
          have := Option.some.inj (h2.symm.trans h)
          exact absurd (by rw [← this, add_sub1]) q
        · omega
      · rintro ⟨j, h1, h2⟩; exact ⟨j, by omega, h2⟩
    rw [this]
theorem own_lt8 {i : Nat} (h : i < 2147483648) : (Int32.ofNat i < 8) ↔ i < 8 := own_nlt (n := 8) h (by decide)
theorem D54_1_0 : Dc prog_54_method_1_code 0 (.aload_n 0) 1 1 := dc (by decide +kernel) rfl
theorem D54_1_1 : Dc prog_54_method_1_code 1 (.invokespecial 1) 3 4 := dc (by decide +kernel) rfl
theorem D54_1_4 : Dc prog_54_method_1_code 4 (.iconst 4) 1 5 := dc (by decide +kernel) rfl
theorem D54_1_5 : Dc prog_54_method_1_code 5 (.iload_n 1) 1 6 := dc (by decide +kernel) rfl
theorem D54_1_6 : Dc prog_54_method_1_code 6 (.invokestatic 7) 3 9 := dc (by decide +kernel) rfl
theorem D54_1_9 : Dc prog_54_method_1_code 9 (.iconst 2) 1 10 := dc (by decide +kernel) rfl
theorem D54_1_10 : Dc prog_54_method_1_code 10 (.imul) 1 11 := dc (by decide +kernel) rfl
theorem D54_1_11 : Dc prog_54_method_1_code 11 (.iconst 1) 1 12 := dc (by decide +kernel) rfl
theorem D54_1_12 : Dc prog_54_method_1_code 12 (.isub) 1 13 := dc (by decide +kernel) rfl
theorem D54_1_13 : Dc prog_54_method_1_code 13 (.invokestatic 13) 3 16 := dc (by decide +kernel) rfl
theorem D54_1_16 : Dc prog_54_method_1_code 16 (.iconst 2) 1 17 := dc (by decide +kernel) rfl
theorem D54_1_17 : Dc prog_54_method_1_code 17 (.imul) 1 18 := dc (by decide +kernel) rfl
theorem D54_1_18 : Dc prog_54_method_1_code 18 (.istore_n 2) 1 19 := dc (by decide +kernel) rfl
theorem D54_1_19 : Dc prog_54_method_1_code 19 (.aload_n 0) 1 20 := dc (by decide +kernel) rfl
theorem D54_1_20 : Dc prog_54_method_1_code 20 (.iload_n 2) 1 21 := dc (by decide +kernel) rfl
theorem D54_1_21 : Dc prog_54_method_1_code 21 (.newarray .int) 2 23 := dc (by decide +kernel) rfl
theorem D54_1_23 : Dc prog_54_method_1_code 23 (.putfield 19) 3 26 := dc (by decide +kernel) rfl
theorem D54_1_26 : Dc prog_54_method_1_code 26 (.aload_n 0) 1 27 := dc (by decide +kernel) rfl
theorem D54_1_27 : Dc prog_54_method_1_code 27 (.iload_n 2) 1 28 := dc (by decide +kernel) rfl
theorem D54_1_28 : Dc prog_54_method_1_code 28 (.newarray .int) 2 30 := dc (by decide +kernel) rfl
theorem D54_1_30 : Dc prog_54_method_1_code 30 (.putfield 25) 3 33 := dc (by decide +kernel) rfl
theorem D54_1_33 : Dc prog_54_method_1_code 33 (.return_) 1 34 := dc (by decide +kernel) rfl
theorem pn_0 : plainName "org/sqcap/reasoner/IntMap" = true := by first | (simp [plainName, overriddenIn]; done) | decide +kernel
set_option maxRecDepth 65536 in
set_option maxHeartbeats 40000000 in
theorem ct_init (l : Launch) (Z : State) (a0 : Array Value) (hw : ∀ d ∈ tables_1, d.before a0 Z = true) (n0 : Nat) (h : Heap) (a : Addr) (e : Int32) (m : Nat) (σ : List Ch) (hm : 2 ^ m ≤ 64) (he : capF e = Int32.ofNat (2 ^ m)) (H : Hp n0 h ((a, Ob Z "org/sqcap/reasoner/IntMap" NSM [.null, .null, .int 0]) :: σ)) :
    Ct l Z n0 (⟨"org/sqcap/reasoner/IntMap", "<init>", "(I)V"⟩ : MethodName) prog_54_method_1_code 3 none ({ frames := 2, cells := 2, slots := 128, locals := 40 } : Room) [.ref a, .int e] h (fun v h' => v = none ∧ ∃ ka va : Addr, Hp n0 h' ((a, Ob Z "org/sqcap/reasoner/IntMap" NSM [.ref ka, .ref va, .int 0]) :: (ka, Ia Z (List.replicate (2 ^ m) 0)) :: (va, Ia Z (List.replicate (2 ^ m) 0)) :: σ)) := by
  refine Ct.intro (plainFor_of_name pn_0) [.val (.ref a), .val (.int e), .unset] (fun m => by first | (simp [entryFrame, mkF, argsToLocals, Value.category]; done) | (simp [entryFrame, mkF, argsToLocals, Value.category, maxLocals]; done) | rfl) ?_
  intro k hl K
  replace K : Ok k Z n0 "org/sqcap/reasoner/IntMap" ({ frames := 2, cells := 2, slots := 128, locals := 40 } : Room) prog_54_method_1_code 3 none "<init>" := K
  refine G.aloadN K D54_1_0 rfl rfl ?_
  refine G.initO K (wd hw 14 rfl) (wd hw 15 rfl) (wd hw 16 rfl) rfl 0 rfl (by decide) (by decide) D54_1_1 ?_
  refine G.iconst K D54_1_4 4 rfl ?_
  refine G.iloadN K D54_1_5 rfl ?_
  refine G.callS K hl (wd hw 17 rfl) (wd hw 18 rfl) (wd hw 19 rfl) (wd hw 20 rfl) (by decide) pd_1 (ct_max l Z a0 hw n0 _ 4 e) 0 rfl (by decide) (by decide) (by decide) (by decide) rfl rfl [.int e, .int 4] rfl D54_1_6 ?_
  rintro _ _ ⟨rfl, rfl⟩
  change G k n0 _ h _ _ 9 [.val (.ref a), .val (.int e), .unset] [.int (if 4 < e then e else 4)]
  refine G.iconst K D54_1_9 2 rfl ?_
  refine G.imul K D54_1_10 ?_
  refine G.iconst K D54_1_11 1 rfl ?_
  refine G.isub K D54_1_12 ?_
  refine G.callS K hl (wd hw 21 rfl) (wd hw 22 rfl) (wd hw 23 rfl) (wd hw 24 rfl) (by decide) pd_0 (ct_hob l Z a0 hw n0 _ (((if 4 < e then e else 4) * 2) - 1)) 0 rfl (by decide) (by decide) (by decide) (by decide) rfl rfl [.int (((if 4 < e then e else 4) * 2) - 1)] rfl D54_1_13 ?_
  rintro _ _ ⟨rfl, rfl⟩
  change G k n0 _ h _ _ 16 [.val (.ref a), .val (.int e), .unset] [.int (hobF (((if 4 < e then e else 4) * 2) - 1))]
  refine G.iconst K D54_1_16 2 rfl ?_
  refine G.imul K D54_1_17 ?_
  rw [show hobF ((if 4 < e then e else 4) * 2 - 1) * 2 = Int32.ofNat (2 ^ m) from he]
  refine G.istoreN K D54_1_18 ([.val (.ref a), .val (.int e), .val (.int (Int32.ofNat (2 ^ m)))]) rfl ?_
  refine G.aloadN K D54_1_19 rfl rfl ?_
  refine G.iloadN K D54_1_20 rfl ?_
  refine G.newarr_i K (wd hw 30 rfl) H (own_nneg (by omega)) 64 (by rw [own_nidx (by omega)]; omega) (by decide) (by decide) (by decide) D54_1_21 ?_
  intro a8 h9 H9
  rw [own_nidx (by omega)] at H9
  change Hp n0 h9 ((a8, Ia Z (List.replicate (2 ^ m) 0)) :: (a, Ob Z "org/sqcap/reasoner/IntMap" NSM [.null, .null, .int 0]) :: σ) at H9
  refine G.putF K (host := "") (Or.inl (wd hw 31 rfl)) (cf_NSM hw) (Or.inl (wd hw 32 rfl)) (wd hw 9 rfl) H9 (i := 1) rfl (j := 0) rfl rfl (ty := (.array .int)) (by decide) rfl rfl D54_1_23 ?_
  intro h10 H10
  change Hp n0 h10 ((a8, Ia Z (List.replicate (2 ^ m) 0)) :: (a, Ob Z "org/sqcap/reasoner/IntMap" NSM [.ref a8, .null, .int 0]) :: σ) at H10
  refine G.aloadN K D54_1_26 rfl rfl ?_
  refine G.iloadN K D54_1_27 rfl ?_
  refine G.newarr_i K (wd hw 30 rfl) H10 (own_nneg (by omega)) 64 (by rw [own_nidx (by omega)]; omega) (by decide) (by decide) (by decide) D54_1_28 ?_
  intro a11 h12 H12
  rw [own_nidx (by omega)] at H12
  change Hp n0 h12 ((a11, Ia Z (List.replicate (2 ^ m) 0)) :: (a8, Ia Z (List.replicate (2 ^ m) 0)) :: (a, Ob Z "org/sqcap/reasoner/IntMap" NSM [.ref a8, .null, .int 0]) :: σ) at H12
  refine G.putF K (host := "") (Or.inl (wd hw 33 rfl)) (cf_NSM hw) (Or.inl (wd hw 34 rfl)) (wd hw 9 rfl) H12 (i := 2) rfl (j := 1) rfl rfl (ty := (.array .int)) (by decide) rfl rfl D54_1_30 ?_
  intro h13 H13
  change Hp n0 h13 ((a11, Ia Z (List.replicate (2 ^ m) 0)) :: (a8, Ia Z (List.replicate (2 ^ m) 0)) :: (a, Ob Z "org/sqcap/reasoner/IntMap" NSM [.ref a8, .ref a11, .int 0]) :: σ) at H13
  refine G.ret_void K D54_1_33 ?_
  have H14 : Hp n0 h13 ((a8, Ia Z (List.replicate (2 ^ m) 0)) :: (a11, Ia Z (List.replicate (2 ^ m) 0)) :: (a, Ob Z "org/sqcap/reasoner/IntMap" NSM [.ref a8, .ref a11, .int 0]) :: σ) := H13.pull 1 rfl
  have H15 : Hp n0 h13 ((a, Ob Z "org/sqcap/reasoner/IntMap" NSM [.ref a8, .ref a11, .int 0]) :: (a8, Ia Z (List.replicate (2 ^ m) 0)) :: (a11, Ia Z (List.replicate (2 ^ m) 0)) :: σ) := H14.pull 2 rfl
  exact ⟨rfl, _, _, H15⟩
theorem D54_10_0 : Dc prog_54_method_10_code 0 (.iload_n 0) 1 1 := dc (by decide +kernel) rfl
theorem D54_10_1 : Dc prog_54_method_10_code 1 (.ldc 54) 2 3 := dc (by decide +kernel) rfl
theorem D54_10_3 : Dc prog_54_method_10_code 3 (.imul) 1 4 := dc (by decide +kernel) rfl
theorem D54_10_4 : Dc prog_54_method_10_code 4 (.istore_n 2) 1 5 := dc (by decide +kernel) rfl
theorem D54_10_5 : Dc prog_54_method_10_code 5 (.iload_n 2) 1 6 := dc (by decide +kernel) rfl
theorem D54_10_6 : Dc prog_54_method_10_code 6 (.iload_n 2) 1 7 := dc (by decide +kernel) rfl
theorem D54_10_7 : Dc prog_54_method_10_code 7 (.bipush 16) 2 9 := dc (by decide +kernel) rfl
theorem D54_10_9 : Dc prog_54_method_10_code 9 (.iushr) 1 10 := dc (by decide +kernel) rfl
theorem D54_10_10 : Dc prog_54_method_10_code 10 (.ixor) 1 11 := dc (by decide +kernel) rfl
theorem D54_10_11 : Dc prog_54_method_10_code 11 (.iload_n 1) 1 12 := dc (by decide +kernel) rfl
theorem D54_10_12 : Dc prog_54_method_10_code 12 (.iand) 1 13 := dc (by decide +kernel) rfl
theorem D54_10_13 : Dc prog_54_method_10_code 13 (.ireturn) 1 14 := dc (by decide +kernel) rfl
set_option maxRecDepth 65536 in
set_option maxHeartbeats 40000000 in
theorem ct_slot (l : Launch) (Z : State) (a0 : Array Value) (hw : ∀ d ∈ tables_1, d.before a0 Z = true) (n0 : Nat) (h : Heap) (y z : Int32) :
    Ct l Z n0 (⟨"org/sqcap/reasoner/IntMap", "slot", "(II)I"⟩ : MethodName) prog_54_method_10_code 3 (some .int) ({ frames := 0, cells := 0, slots := 0, locals := 0 } : Room) [.int y, .int z] h (fun v h' => v = some (.int (slotF y z)) ∧ h = h') := by
  refine Ct.intro (plainFor_of_name pn_0) [.val (.int y), .val (.int z), .unset] (fun m => by first | (simp [entryFrame, mkF, argsToLocals, Value.category]; done) | (simp [entryFrame, mkF, argsToLocals, Value.category, maxLocals]; done) | rfl) ?_
  intro k hl K
  replace K : Ok k Z n0 "org/sqcap/reasoner/IntMap" ({ frames := 0, cells := 0, slots := 0, locals := 0 } : Room) prog_54_method_10_code 3 (some .int) "slot" := K
  refine G.iloadN K D54_10_0 rfl ?_
  refine G.ldcI K D54_10_1 (wd hw 47 rfl) ?_
  refine G.imul K D54_10_3 ?_
  refine G.istoreN K D54_10_4 ([.val (.int y), .val (.int z), .val (.int (y * (-1640531527)))]) rfl ?_
  refine G.iloadN K D54_10_5 rfl ?_
  refine G.iloadN K D54_10_6 rfl ?_
  refine G.bipush K D54_10_7 16 rfl ?_
  refine G.iushr K D54_10_9 ?_
  refine G.ixor K D54_10_10 ?_
  refine G.iloadN K D54_10_11 rfl ?_
  refine G.iand K D54_10_12 ?_
  refine G.ret_int K D54_10_13 ?_
  exact ⟨rfl, rfl⟩
theorem D54_2_0 : Dc prog_54_method_2_code 0 (.aload_n 0) 1 1 := dc (by decide +kernel) rfl
theorem D54_2_1 : Dc prog_54_method_2_code 1 (.getfield 19) 3 4 := dc (by decide +kernel) rfl
theorem D54_2_4 : Dc prog_54_method_2_code 4 (.arraylength) 1 5 := dc (by decide +kernel) rfl
theorem D54_2_5 : Dc prog_54_method_2_code 5 (.iconst 1) 1 6 := dc (by decide +kernel) rfl
theorem D54_2_6 : Dc prog_54_method_2_code 6 (.isub) 1 7 := dc (by decide +kernel) rfl
theorem D54_2_7 : Dc prog_54_method_2_code 7 (.istore_n 2) 1 8 := dc (by decide +kernel) rfl
theorem D54_2_8 : Dc prog_54_method_2_code 8 (.iload_n 1) 1 9 := dc (by decide +kernel) rfl
theorem D54_2_9 : Dc prog_54_method_2_code 9 (.iconst 1) 1 10 := dc (by decide +kernel) rfl
theorem D54_2_10 : Dc prog_54_method_2_code 10 (.iadd) 1 11 := dc (by decide +kernel) rfl
theorem D54_2_11 : Dc prog_54_method_2_code 11 (.istore_n 3) 1 12 := dc (by decide +kernel) rfl
theorem D54_2_12 : Dc prog_54_method_2_code 12 (.iload_n 1) 1 13 := dc (by decide +kernel) rfl
theorem D54_2_13 : Dc prog_54_method_2_code 13 (.iload_n 2) 1 14 := dc (by decide +kernel) rfl
theorem D54_2_14 : Dc prog_54_method_2_code 14 (.invokestatic 28) 3 17 := dc (by decide +kernel) rfl
theorem D54_2_17 : Dc prog_54_method_2_code 17 (.istore 4) 2 19 := dc (by decide +kernel) rfl
theorem D54_2_19 : Dc prog_54_method_2_code 19 (.aload_n 0) 1 20 := dc (by decide +kernel) rfl
theorem D54_2_20 : Dc prog_54_method_2_code 20 (.getfield 19) 3 23 := dc (by decide +kernel) rfl
theorem D54_2_23 : Dc prog_54_method_2_code 23 (.iload 4) 2 25 := dc (by decide +kernel) rfl
theorem D54_2_25 : Dc prog_54_method_2_code 25 (.iaload) 1 26 := dc (by decide +kernel) rfl
theorem D54_2_26 : Dc prog_54_method_2_code 26 (.istore 5) 2 28 := dc (by decide +kernel) rfl
theorem D54_2_28 : Dc prog_54_method_2_code 28 (.iload 5) 2 30 := dc (by decide +kernel) rfl
theorem D54_2_30 : Dc prog_54_method_2_code 30 (.iload_n 3) 1 31 := dc (by decide +kernel) rfl
theorem D54_2_31 : Db prog_54_method_2_code 31 (.if_icmp .ne) 34 42 := db (11) (by decide +kernel) rfl (by decide) (by decide)
theorem D54_2_34 : Dc prog_54_method_2_code 34 (.aload_n 0) 1 35 := dc (by decide +kernel) rfl
theorem D54_2_35 : Dc prog_54_method_2_code 35 (.getfield 25) 3 38 := dc (by decide +kernel) rfl
theorem D54_2_38 : Dc prog_54_method_2_code 38 (.iload 4) 2 40 := dc (by decide +kernel) rfl
theorem D54_2_40 : Dc prog_54_method_2_code 40 (.iaload) 1 41 := dc (by decide +kernel) rfl
theorem D54_2_41 : Dc prog_54_method_2_code 41 (.ireturn) 1 42 := dc (by decide +kernel) rfl
theorem D54_2_42 : Dc prog_54_method_2_code 42 (.iload 5) 2 44 := dc (by decide +kernel) rfl
theorem D54_2_44 : Db prog_54_method_2_code 44 (.ifCond .ne) 47 49 := db (5) (by decide +kernel) rfl (by decide) (by decide)
theorem D54_2_47 : Dc prog_54_method_2_code 47 (.iconst (-1)) 1 48 := dc (by decide +kernel) rfl
theorem D54_2_48 : Dc prog_54_method_2_code 48 (.ireturn) 1 49 := dc (by decide +kernel) rfl
theorem D54_2_49 : Dc prog_54_method_2_code 49 (.iload 4) 2 51 := dc (by decide +kernel) rfl
theorem D54_2_51 : Dc prog_54_method_2_code 51 (.iconst 1) 1 52 := dc (by decide +kernel) rfl
theorem D54_2_52 : Dc prog_54_method_2_code 52 (.iadd) 1 53 := dc (by decide +kernel) rfl
theorem D54_2_53 : Dc prog_54_method_2_code 53 (.iload_n 2) 1 54 := dc (by decide +kernel) rfl
theorem D54_2_54 : Dc prog_54_method_2_code 54 (.iand) 1 55 := dc (by decide +kernel) rfl
theorem D54_2_55 : Dc prog_54_method_2_code 55 (.istore 4) 2 57 := dc (by decide +kernel) rfl
theorem D54_2_57 : Db prog_54_method_2_code 57 (.goto) 60 19 := db (-38) (by decide +kernel) rfl (by decide) (by decide)
set_option maxRecDepth 65536 in
set_option maxHeartbeats 40000000 in
theorem ct_get0 (l : Launch) (Z : State) (a0 : Array Value) (hw : ∀ d ∈ tables_1, d.before a0 Z = true) (n0 : Nat) (h : Heap) (a ka va : Addr) (ks vs : List Int32) (sz : Int32) (m : Nat) (key : Int32) (D : Nat) (xD r : Int32) (σ : List Ch) (hm : m ≤ 30) (hk : ks.length = 2 ^ m) (hD : D < 2 ^ m) (hx : ks[pos (2 ^ m) (homeF m key) D]? = some xD) (hr : (xD = key + 1 ∧ vs[pos (2 ^ m) (homeF m key) D]? = some r) ∨ (¬ xD = key + 1 ∧ xD = 0 ∧ r = -1)) (hb : ∀ d, d < D → ∃ y, ks[pos (2 ^ m) (homeF m key) d]? = some y ∧ y ≠ key + 1 ∧ y ≠ 0) (H : Hp n0 h ((a, Ob Z "org/sqcap/reasoner/IntMap" NSM [.ref ka, .ref va, .int sz]) :: (ka, Ia Z ks) :: (va, Ia Z vs) :: σ)) :
    Ct l Z n0 (⟨"org/sqcap/reasoner/IntMap", "get", "(I)I"⟩ : MethodName) prog_54_method_2_code 6 (some .int) ({ frames := 1, cells := 0, slots := 0, locals := 14 } : Room) [.ref a, .int key] h (fun v h' => v = some (.int r) ∧ Hp n0 h' ((a, Ob Z "org/sqcap/reasoner/IntMap" NSM [.ref ka, .ref va, .int sz]) :: (ka, Ia Z ks) :: (va, Ia Z vs) :: σ)) := by
  refine Ct.intro (plainFor_of_name pn_0) [.val (.ref a), .val (.int key), .unset, .unset, .unset, .unset] (fun m => by first | (simp [entryFrame, mkF, argsToLocals, Value.category]; done) | (simp [entryFrame, mkF, argsToLocals, Value.category, maxLocals]; done) | rfl) ?_
  intro k hl K
  replace K : Ok k Z n0 "org/sqcap/reasoner/IntMap" ({ frames := 1, cells := 0, slots := 0, locals := 14 } : Room) prog_54_method_2_code 6 (some .int) "get" := K
  refine G.aloadN K D54_2_0 rfl rfl ?_
  refine G.getF K (host := "") (Or.inl (wd hw 31 rfl)) H (i := 0) rfl (j := 0) rfl rfl D54_2_1 ?_
  refine G.alen K H (i := 1) rfl D54_2_4 (Int32.ofNat (2 ^ m)) (by rw [List.length_map, hk]) ?_
  refine G.iconst K D54_2_5 1 rfl ?_
  refine G.isub K D54_2_6 ?_
  rw [own_ncap]
  refine G.istoreN K D54_2_7 ([.val (.ref a), .val (.int key), .val (.int (Int32.ofNat (2 ^ m - 1))), .unset, .unset, .unset]) rfl ?_
  refine G.iloadN K D54_2_8 rfl ?_
  refine G.iconst K D54_2_9 1 rfl ?_
  refine G.iadd K D54_2_10 ?_
  refine G.istoreN K D54_2_11 ([.val (.ref a), .val (.int key), .val (.int (Int32.ofNat (2 ^ m - 1))), .val (.int (key + 1)), .unset, .unset]) rfl ?_
  refine G.iloadN K D54_2_12 rfl ?_
  refine G.iloadN K D54_2_13 rfl ?_
  refine G.callS K hl (wd hw 44 rfl) (wd hw 45 rfl) (wd hw 10 rfl) (wd hw 46 rfl) (by decide) pd_1 (ct_slot l Z a0 hw n0 _ key (Int32.ofNat (2 ^ m - 1))) 0 rfl (by decide) (by decide) (by decide) (by decide) rfl rfl [.int (Int32.ofNat (2 ^ m - 1)), .int key] rfl D54_2_14 ?_
  rintro _ _ ⟨rfl, rfl⟩
  rw [own_home hm]
  change G k n0 _ h _ _ 17 [.val (.ref a), .val (.int key), .val (.int (Int32.ofNat (2 ^ m - 1))), .val (.int (key + 1)), .unset, .unset] [.int (Int32.ofNat (homeF m key))]
  refine G.istore K D54_2_17 ([.val (.ref a), .val (.int key), .val (.int (Int32.ofNat (2 ^ m - 1))), .val (.int (key + 1)), .val (.int (Int32.ofNat (homeF m key))), .unset]) rfl ?_
  have hh := own_home_lt m key
  have hc := own_pow hm
  rw [← pos_zero hh]
  have loop : ∀ (j i : Nat) (s5 : Slot), i + j = D → (s5 = .unset ∨ ∃ w5, s5 = .val (.int w5)) → G k n0 (fun v h' => v = some (.int r) ∧ Hp n0 h' ((a, Ob Z "org/sqcap/reasoner/IntMap" NSM [.ref ka, .ref va, .int sz]) :: (ka, Ia Z ks) :: (va, Ia Z vs) :: σ)) h 0 0 19 [.val (.ref a), .val (.int key), .val (.int (Int32.ofNat (2 ^ m - 1))), .val (.int (key + 1)), .val (.int (Int32.ofNat (pos (2 ^ m) (homeF m key) i))), s5] [] := by
    intro j
    induction j with
    | zero =>
      intro i s5 hi hs5
      obtain rfl : i = D := by omega
      have hp := pos_nlt hm hh hD
      rcases hr with ⟨hr1, hr2⟩ | ⟨hr1, hr2, hr3⟩
      · refine G.aloadN K D54_2_19 rfl rfl ?_
        refine G.getF K (host := "") (Or.inl (wd hw 31 rfl)) H (i := 0) rfl (j := 0) rfl rfl D54_2_20 ?_
        refine G.iload K D54_2_23 rfl ?_
        refine G.aload_i K H (i := 1) rfl (own_nneg hp) (by rw [own_nidx hp]; exact hx) D54_2_25 ?_
        refine G.istore K D54_2_26 ([.val (.ref a), .val (.int key), .val (.int (Int32.ofNat (2 ^ m - 1))), .val (.int (key + 1)), .val (.int (Int32.ofNat (pos (2 ^ m) (homeF m key) i))), .val (.int xD)]) (by rcases hs5 with rfl | ⟨_, rfl⟩ <;> rfl) ?_
        refine G.iload K D54_2_28 rfl ?_
        refine G.iloadN K D54_2_30 rfl ?_
        refine G.icmp_ne K D54_2_31 (fun q => absurd hr1 q) (fun q16 => ?_)
        refine G.aloadN K D54_2_34 rfl rfl ?_
        refine G.getF K (host := "") (Or.inl (wd hw 33 rfl)) H (i := 0) rfl (j := 1) rfl rfl D54_2_35 ?_
        refine G.iload K D54_2_38 rfl ?_
        refine G.aload_i K H (i := 2) rfl (own_nneg hp) (by rw [own_nidx hp]; exact hr2) D54_2_40 ?_
        refine G.ret_int K D54_2_41 ?_
        exact ⟨rfl, H⟩
      · refine G.aloadN K D54_2_19 rfl rfl ?_
        refine G.getF K (host := "") (Or.inl (wd hw 31 rfl)) H (i := 0) rfl (j := 0) rfl rfl D54_2_20 ?_
        refine G.iload K D54_2_23 rfl ?_
        refine G.aload_i K H (i := 1) rfl (own_nneg hp) (by rw [own_nidx hp]; exact hx) D54_2_25 ?_
        refine G.istore K D54_2_26 ([.val (.ref a), .val (.int key), .val (.int (Int32.ofNat (2 ^ m - 1))), .val (.int (key + 1)), .val (.int (Int32.ofNat (pos (2 ^ m) (homeF m key) i))), .val (.int xD)]) (by rcases hs5 with rfl | ⟨_, rfl⟩ <;> rfl) ?_
        refine G.iload K D54_2_28 rfl ?_
        refine G.iloadN K D54_2_30 rfl ?_
        refine G.icmp_ne K D54_2_31 (fun q17 => ?_) (fun q => absurd q hr1)
        refine G.iload K D54_2_42 rfl ?_
        refine G.if_ne K D54_2_44 (fun q => absurd hr2 q) (fun q18 => ?_)
        refine G.iconst K D54_2_47 (-1) rfl ?_
        refine G.ret_int K D54_2_48 ?_
        exact ⟨by rw [hr3], H⟩
    | succ j ih =>
      intro i s5 hi hs5
      obtain ⟨y, hy, hy1, hy0⟩ := hb i (by omega)
      have hp := pos_nlt hm hh (i := i) (by omega)
      refine G.aloadN K D54_2_19 rfl rfl ?_
      refine G.getF K (host := "") (Or.inl (wd hw 31 rfl)) H (i := 0) rfl (j := 0) rfl rfl D54_2_20 ?_
      refine G.iload K D54_2_23 rfl ?_
      refine G.aload_i K H (i := 1) rfl (own_nneg hp) (by rw [own_nidx hp]; exact hy) D54_2_25 ?_
      refine G.istore K D54_2_26 ([.val (.ref a), .val (.int key), .val (.int (Int32.ofNat (2 ^ m - 1))), .val (.int (key + 1)), .val (.int (Int32.ofNat (pos (2 ^ m) (homeF m key) i))), .val (.int y)]) (by rcases hs5 with rfl | ⟨_, rfl⟩ <;> rfl) ?_
      refine G.iload K D54_2_28 rfl ?_
      refine G.iloadN K D54_2_30 rfl ?_
      refine G.icmp_ne K D54_2_31 (fun q19 => ?_) (fun q => absurd q hy1)
      refine G.iload K D54_2_42 rfl ?_
      refine G.if_ne K D54_2_44 (fun q20 => ?_) (fun q => absurd q hy0)
      refine G.iload K D54_2_49 rfl ?_
      refine G.iconst K D54_2_51 1 rfl ?_
      refine G.iadd K D54_2_52 ?_
      refine G.iloadN K D54_2_53 rfl ?_
      refine G.iand K D54_2_54 ?_
      refine G.istore K D54_2_55 ([.val (.ref a), .val (.int key), .val (.int (Int32.ofNat (2 ^ m - 1))), .val (.int (key + 1)), .val (.int (((Int32.ofNat (pos (2 ^ m) (homeF m key) i)) + 1) &&& (Int32.ofNat (2 ^ m - 1)))), .val (.int y)]) rfl ?_
      refine G.goto K D54_2_57 ?_
      rw [own_mask1 hm (pos_lt hh (by omega)), pos_succ hh (by omega)]
      exact ih (i + 1) _ (by omega) (Or.inr ⟨_, rfl⟩)
  exact loop D 0 _ (by omega) (Or.inl rfl)
theorem ct_get (l : Launch) (Z : State) (a0 : Array Value) (hw : ∀ d ∈ tables_1, d.before a0 Z = true) (n0 : Nat) (h : Heap) (a ka va : Addr) (ks vs : List Int32) (sz : Int32) (m : Nat) (M : Int32 → Option Int32) (key : Int32) (hm : m ≤ 30) (T : Tab (homeF m) (2 ^ m) ks vs M) (hz : ∃ z : Nat, ks[z]? = some 0) (h0 : key + 1 ≠ 0) (σ : List Ch) (H : Hp n0 h ((a, Ob Z "org/sqcap/reasoner/IntMap" NSM [.ref ka, .ref va, .int sz]) :: (ka, Ia Z ks) :: (va, Ia Z vs) :: σ)) :
    Ct l Z n0 (⟨"org/sqcap/reasoner/IntMap", "get", "(I)I"⟩ : MethodName) prog_54_method_2_code 6 (some .int) ({ frames := 1, cells := 0, slots := 0, locals := 14 } : Room) [.ref a, .int key] h (fun v h' => v = some (.int ((M key).getD (-1))) ∧ Hp n0 h' ((a, Ob Z "org/sqcap/reasoner/IntMap" NSM [.ref ka, .ref va, .int sz]) :: (ka, Ia Z ks) :: (va, Ia Z vs) :: σ)) := by
  obtain ⟨D, x, hD, hx, hxx, hb⟩ := probe_ends T hz key
  by_cases q : x = key + 1
  · subst q
    obtain ⟨v, h1, h2⟩ := probe_hit T hx h0
    rw [h2]
    exact ct_get0 l Z a0 hw n0 h a ka va ks vs sz m key D _ v σ hm T.1 hD hx (Or.inl ⟨rfl, h1⟩) hb H
  · have q0 : x = 0 := hxx.resolve_left q
    subst q0
    rw [probe_miss T hD hx fun d hd e => by obtain ⟨y, e1, e2, -⟩ := hb d hd; exact e2 (Option.some.inj (e1.symm.trans e))]
    exact ct_get0 l Z a0 hw n0 h a ka va ks vs sz m key D _ (-1) σ hm T.1 hD hx (Or.inr ⟨q, rfl, rfl⟩) hb H
theorem D54_6_0 : Dc prog_54_method_6_code 0 (.aload_n 0) 1 1 := dc (by decide +kernel) rfl
theorem D54_6_1 : Dc prog_54_method_6_code 1 (.getfield 19) 3 4 := dc (by decide +kernel) rfl
theorem D54_6_4 : Dc prog_54_method_6_code 4 (.arraylength) 1 5 := dc (by decide +kernel) rfl
theorem D54_6_5 : Dc prog_54_method_6_code 5 (.iconst 1) 1 6 := dc (by decide +kernel) rfl
theorem D54_6_6 : Dc prog_54_method_6_code 6 (.isub) 1 7 := dc (by decide +kernel) rfl
theorem D54_6_7 : Dc prog_54_method_6_code 7 (.istore 4) 2 9 := dc (by decide +kernel) rfl
theorem D54_6_9 : Dc prog_54_method_6_code 9 (.iload_n 1) 1 10 := dc (by decide +kernel) rfl
theorem D54_6_10 : Dc prog_54_method_6_code 10 (.iconst 1) 1 11 := dc (by decide +kernel) rfl
theorem D54_6_11 : Dc prog_54_method_6_code 11 (.iadd) 1 12 := dc (by decide +kernel) rfl
theorem D54_6_12 : Dc prog_54_method_6_code 12 (.istore 5) 2 14 := dc (by decide +kernel) rfl
theorem D54_6_14 : Dc prog_54_method_6_code 14 (.iload_n 1) 1 15 := dc (by decide +kernel) rfl
theorem D54_6_15 : Dc prog_54_method_6_code 15 (.iload 4) 2 17 := dc (by decide +kernel) rfl
theorem D54_6_17 : Dc prog_54_method_6_code 17 (.invokestatic 28) 3 20 := dc (by decide +kernel) rfl
theorem D54_6_20 : Dc prog_54_method_6_code 20 (.istore 6) 2 22 := dc (by decide +kernel) rfl
theorem D54_6_22 : Dc prog_54_method_6_code 22 (.aload_n 0) 1 23 := dc (by decide +kernel) rfl
theorem D54_6_23 : Dc prog_54_method_6_code 23 (.getfield 19) 3 26 := dc (by decide +kernel) rfl
theorem D54_6_26 : Dc prog_54_method_6_code 26 (.iload 6) 2 28 := dc (by decide +kernel) rfl
theorem D54_6_28 : Dc prog_54_method_6_code 28 (.iaload) 1 29 := dc (by decide +kernel) rfl
theorem D54_6_29 : Db prog_54_method_6_code 29 (.ifCond .eq) 32 80 := db (51) (by decide +kernel) rfl (by decide) (by decide)
theorem D54_6_32 : Dc prog_54_method_6_code 32 (.aload_n 0) 1 33 := dc (by decide +kernel) rfl
theorem D54_6_33 : Dc prog_54_method_6_code 33 (.getfield 19) 3 36 := dc (by decide +kernel) rfl
theorem D54_6_36 : Dc prog_54_method_6_code 36 (.iload 6) 2 38 := dc (by decide +kernel) rfl
theorem D54_6_38 : Dc prog_54_method_6_code 38 (.iaload) 1 39 := dc (by decide +kernel) rfl
theorem D54_6_39 : Dc prog_54_method_6_code 39 (.iload 5) 2 41 := dc (by decide +kernel) rfl
theorem D54_6_41 : Db prog_54_method_6_code 41 (.if_icmp .ne) 44 68 := db (27) (by decide +kernel) rfl (by decide) (by decide)
theorem D54_6_44 : Dc prog_54_method_6_code 44 (.aload_n 0) 1 45 := dc (by decide +kernel) rfl
theorem D54_6_45 : Dc prog_54_method_6_code 45 (.getfield 25) 3 48 := dc (by decide +kernel) rfl
theorem D54_6_48 : Dc prog_54_method_6_code 48 (.iload 6) 2 50 := dc (by decide +kernel) rfl
theorem D54_6_50 : Dc prog_54_method_6_code 50 (.iaload) 1 51 := dc (by decide +kernel) rfl
theorem D54_6_51 : Dc prog_54_method_6_code 51 (.istore 7) 2 53 := dc (by decide +kernel) rfl
theorem D54_6_53 : Dc prog_54_method_6_code 53 (.iload_n 3) 1 54 := dc (by decide +kernel) rfl
theorem D54_6_54 : Db prog_54_method_6_code 54 (.ifCond .eq) 57 65 := db (11) (by decide +kernel) rfl (by decide) (by decide)
theorem D54_6_57 : Dc prog_54_method_6_code 57 (.aload_n 0) 1 58 := dc (by decide +kernel) rfl
theorem D54_6_58 : Dc prog_54_method_6_code 58 (.getfield 25) 3 61 := dc (by decide +kernel) rfl
theorem D54_6_61 : Dc prog_54_method_6_code 61 (.iload 6) 2 63 := dc (by decide +kernel) rfl
theorem D54_6_63 : Dc prog_54_method_6_code 63 (.iload_n 2) 1 64 := dc (by decide +kernel) rfl
theorem D54_6_64 : Dc prog_54_method_6_code 64 (.iastore) 1 65 := dc (by decide +kernel) rfl
theorem D54_6_65 : Dc prog_54_method_6_code 65 (.iload 7) 2 67 := dc (by decide +kernel) rfl
theorem D54_6_67 : Dc prog_54_method_6_code 67 (.ireturn) 1 68 := dc (by decide +kernel) rfl
theorem D54_6_68 : Dc prog_54_method_6_code 68 (.iload 6) 2 70 := dc (by decide +kernel) rfl
theorem D54_6_70 : Dc prog_54_method_6_code 70 (.iconst 1) 1 71 := dc (by decide +kernel) rfl
theorem D54_6_71 : Dc prog_54_method_6_code 71 (.iadd) 1 72 := dc (by decide +kernel) rfl
theorem D54_6_72 : Dc prog_54_method_6_code 72 (.iload 4) 2 74 := dc (by decide +kernel) rfl
theorem D54_6_74 : Dc prog_54_method_6_code 74 (.iand) 1 75 := dc (by decide +kernel) rfl
theorem D54_6_75 : Dc prog_54_method_6_code 75 (.istore 6) 2 77 := dc (by decide +kernel) rfl
theorem D54_6_77 : Db prog_54_method_6_code 77 (.goto) 80 22 := db (-55) (by decide +kernel) rfl (by decide) (by decide)
theorem D54_6_80 : Dc prog_54_method_6_code 80 (.aload_n 0) 1 81 := dc (by decide +kernel) rfl
theorem D54_6_81 : Dc prog_54_method_6_code 81 (.getfield 19) 3 84 := dc (by decide +kernel) rfl
theorem D54_6_84 : Dc prog_54_method_6_code 84 (.iload 6) 2 86 := dc (by decide +kernel) rfl
theorem D54_6_86 : Dc prog_54_method_6_code 86 (.iload 5) 2 88 := dc (by decide +kernel) rfl
theorem D54_6_88 : Dc prog_54_method_6_code 88 (.iastore) 1 89 := dc (by decide +kernel) rfl
theorem D54_6_89 : Dc prog_54_method_6_code 89 (.aload_n 0) 1 90 := dc (by decide +kernel) rfl
theorem D54_6_90 : Dc prog_54_method_6_code 90 (.getfield 25) 3 93 := dc (by decide +kernel) rfl
theorem D54_6_93 : Dc prog_54_method_6_code 93 (.iload 6) 2 95 := dc (by decide +kernel) rfl
theorem D54_6_95 : Dc prog_54_method_6_code 95 (.iload_n 2) 1 96 := dc (by decide +kernel) rfl
theorem D54_6_96 : Dc prog_54_method_6_code 96 (.iastore) 1 97 := dc (by decide +kernel) rfl
theorem D54_6_97 : Dc prog_54_method_6_code 97 (.aload_n 0) 1 98 := dc (by decide +kernel) rfl
theorem D54_6_98 : Dc prog_54_method_6_code 98 (.dup) 1 99 := dc (by decide +kernel) rfl
theorem D54_6_99 : Dc prog_54_method_6_code 99 (.getfield 38) 3 102 := dc (by decide +kernel) rfl
theorem D54_6_102 : Dc prog_54_method_6_code 102 (.iconst 1) 1 103 := dc (by decide +kernel) rfl
theorem D54_6_103 : Dc prog_54_method_6_code 103 (.iadd) 1 104 := dc (by decide +kernel) rfl
theorem D54_6_104 : Dc prog_54_method_6_code 104 (.dup_x1) 1 105 := dc (by decide +kernel) rfl
theorem D54_6_105 : Dc prog_54_method_6_code 105 (.putfield 38) 3 108 := dc (by decide +kernel) rfl
theorem D54_6_108 : Dc prog_54_method_6_code 108 (.aload_n 0) 1 109 := dc (by decide +kernel) rfl
theorem D54_6_109 : Dc prog_54_method_6_code 109 (.getfield 19) 3 112 := dc (by decide +kernel) rfl
theorem D54_6_112 : Dc prog_54_method_6_code 112 (.arraylength) 1 113 := dc (by decide +kernel) rfl
theorem D54_6_113 : Dc prog_54_method_6_code 113 (.iconst 2) 1 114 := dc (by decide +kernel) rfl
theorem D54_6_114 : Dc prog_54_method_6_code 114 (.idiv) 1 115 := dc (by decide +kernel) rfl
theorem D54_6_115 : Db prog_54_method_6_code 115 (.if_icmp .le) 118 122 := db (7) (by decide +kernel) rfl (by decide) (by decide)
theorem D54_6_118 : Dc prog_54_method_6_code 118 (.aload_n 0) 1 119 := dc (by decide +kernel) rfl
theorem D54_6_119 : Dc prog_54_method_6_code 119 (.invokevirtual 42) 3 122 := dc (by decide +kernel) rfl
theorem D54_6_122 : Dc prog_54_method_6_code 122 (.iconst (-1)) 1 123 := dc (by decide +kernel) rfl
theorem D54_6_123 : Dc prog_54_method_6_code 123 (.ireturn) 1 124 := dc (by decide +kernel) rfl
set_option maxRecDepth 65536 in
set_option maxHeartbeats 40000000 in
theorem ct_store (l : Launch) (Z : State) (a0 : Array Value) (hw : ∀ d ∈ tables_1, d.before a0 Z = true) (n0 : Nat) (h : Heap) (a ka va : Addr) (ks vs : List Int32) (m : Nat) (M : Int32 → Option Int32) (key val : Int32) (σ : List Ch) (hm : m ≤ 30) (hm1 : 1 ≤ m) (T : Tab (homeF m) (2 ^ m) ks vs M) (ht : taken ks + 1 ≤ 2 ^ (m - 1)) (h0 : key + 1 ≠ 0) (H : Hp n0 h ((a, Ob Z "org/sqcap/reasoner/IntMap" NSM [.ref ka, .ref va, .int (Int32.ofNat (taken ks))]) :: (ka, Ia Z ks) :: (va, Ia Z vs) :: σ)) :
    Ct l Z n0 (⟨"org/sqcap/reasoner/IntMap", "store", "(IIZ)I"⟩ : MethodName) prog_54_method_6_code 8 (some .int) ({ frames := 1, cells := 0, slots := 0, locals := 14 } : Room) [.ref a, .int key, .int val, .int 1] h (fun v h' => ∃ (r : Int32) (ks' vs' : List Int32), v = some (.int r) ∧ Tab (homeF m) (2 ^ m) ks' vs' (upd M key val) ∧ taken ks' ≤ taken ks + 1 ∧ Hp n0 h' ((a, Ob Z "org/sqcap/reasoner/IntMap" NSM [.ref ka, .ref va, .int (Int32.ofNat (taken ks'))]) :: (ka, Ia Z ks') :: (va, Ia Z vs') :: σ)) := by
  refine Ct.intro (plainFor_of_name pn_0) [.val (.ref a), .val (.int key), .val (.int val), .val (.int 1), .unset, .unset, .unset, .unset] (fun m => by first | (simp [entryFrame, mkF, argsToLocals, Value.category]; done) | (simp [entryFrame, mkF, argsToLocals, Value.category, maxLocals]; done) | rfl) ?_
  intro k hl K
  replace K : Ok k Z n0 "org/sqcap/reasoner/IntMap" ({ frames := 1, cells := 0, slots := 0, locals := 14 } : Room) prog_54_method_6_code 8 (some .int) "store" := K
  have hk := T.1
  refine G.aloadN K D54_6_0 rfl rfl ?_
  refine G.getF K (host := "") (Or.inl (wd hw 31 rfl)) H (i := 0) rfl (j := 0) rfl rfl D54_6_1 ?_
  refine G.alen K H (i := 1) rfl D54_6_4 (Int32.ofNat (2 ^ m)) (by rw [List.length_map, hk]) ?_
  refine G.iconst K D54_6_5 1 rfl ?_
  refine G.isub K D54_6_6 ?_
  rw [own_ncap]
  refine G.istore K D54_6_7 ([.val (.ref a), .val (.int key), .val (.int val), .val (.int 1), .val (.int (Int32.ofNat (2 ^ m - 1))), .unset, .unset, .unset]) rfl ?_
  refine G.iloadN K D54_6_9 rfl ?_
  refine G.iconst K D54_6_10 1 rfl ?_
  refine G.iadd K D54_6_11 ?_
  refine G.istore K D54_6_12 ([.val (.ref a), .val (.int key), .val (.int val), .val (.int 1), .val (.int (Int32.ofNat (2 ^ m - 1))), .val (.int (key + 1)), .unset, .unset]) rfl ?_
  refine G.iloadN K D54_6_14 rfl ?_
  refine G.iload K D54_6_15 rfl ?_
  refine G.callS K hl (wd hw 44 rfl) (wd hw 45 rfl) (wd hw 10 rfl) (wd hw 46 rfl) (by decide) pd_1 (ct_slot l Z a0 hw n0 _ key (Int32.ofNat (2 ^ m - 1))) 0 rfl (by decide) (by decide) (by decide) (by decide) rfl rfl [.int (Int32.ofNat (2 ^ m - 1)), .int key] rfl D54_6_17 ?_
  rintro _ _ ⟨rfl, rfl⟩
  rw [own_home hm]
  change G k n0 _ h _ _ 20 [.val (.ref a), .val (.int key), .val (.int val), .val (.int 1), .val (.int (Int32.ofNat (2 ^ m - 1))), .val (.int (key + 1)), .unset, .unset] [.int (Int32.ofNat (homeF m key))]
  refine G.istore K D54_6_20 ([.val (.ref a), .val (.int key), .val (.int val), .val (.int 1), .val (.int (Int32.ofNat (2 ^ m - 1))), .val (.int (key + 1)), .val (.int (Int32.ofNat (homeF m key))), .unset]) rfl ?_
  have hh := own_home_lt m key
  have hc := own_pow hm
  have hk := T.1
  have hv := T.2.1
  have hpw : 2 ^ m = 2 * 2 ^ (m - 1) := by rw [Nat.mul_comm, ← Nat.pow_succ]; congr 1; omega
  obtain ⟨D, xD, hD, hx, hxx, hb⟩ := probe_ends T (has_zero (by omega)) key
  rw [← pos_zero hh]
  have loop : ∀ (j i : Nat), i + j = D → G k n0 (fun v h' => ∃ (r : Int32) (ks' vs' : List Int32), v = some (.int r) ∧ Tab (homeF m) (2 ^ m) ks' vs' (upd M key val) ∧ taken ks' ≤ taken ks + 1 ∧ Hp n0 h' ((a, Ob Z "org/sqcap/reasoner/IntMap" NSM [.ref ka, .ref va, .int (Int32.ofNat (taken ks'))]) :: (ka, Ia Z ks') :: (va, Ia Z vs') :: σ)) h 0 0 22 [.val (.ref a), .val (.int key), .val (.int val), .val (.int 1), .val (.int (Int32.ofNat (2 ^ m - 1))), .val (.int (key + 1)), .val (.int (Int32.ofNat (pos (2 ^ m) (homeF m key) i))), .unset] [] := by
    intro j
    induction j with
    | zero =>
      intro i hi
      obtain rfl : i = D := by omega
      have hp := pos_nlt hm hh hD
      have hpc := pos_lt hh hD
      by_cases hxk : xD = key + 1
      · subst hxk
        obtain ⟨old, ho1, ho2⟩ := probe_hit T hx h0
        refine G.aloadN K D54_6_22 rfl rfl ?_
        refine G.getF K (host := "") (Or.inl (wd hw 31 rfl)) H (i := 0) rfl (j := 0) rfl rfl D54_6_23 ?_
        refine G.iload K D54_6_26 rfl ?_
        refine G.aload_i K H (i := 1) rfl (own_nneg hp) (by rw [own_nidx hp]; exact hx) D54_6_28 ?_
        refine G.if_eq K D54_6_29 (fun q => absurd q h0) (fun q21 => ?_)
        refine G.aloadN K D54_6_32 rfl rfl ?_
        refine G.getF K (host := "") (Or.inl (wd hw 31 rfl)) H (i := 0) rfl (j := 0) rfl rfl D54_6_33 ?_
        refine G.iload K D54_6_36 rfl ?_
        refine G.aload_i K H (i := 1) rfl (own_nneg hp) (by rw [own_nidx hp]; exact hx) D54_6_38 ?_
        refine G.iload K D54_6_39 rfl ?_
        refine G.icmp_ne K D54_6_41 (fun q => absurd rfl q) (fun q22 => ?_)
        refine G.aloadN K D54_6_44 rfl rfl ?_
        refine G.getF K (host := "") (Or.inl (wd hw 33 rfl)) H (i := 0) rfl (j := 1) rfl rfl D54_6_45 ?_
        refine G.iload K D54_6_48 rfl ?_
        refine G.aload_i K H (i := 2) rfl (own_nneg hp) (by rw [own_nidx hp]; exact ho1) D54_6_50 ?_
        refine G.istore K D54_6_51 ([.val (.ref a), .val (.int key), .val (.int val), .val (.int 1), .val (.int (Int32.ofNat (2 ^ m - 1))), .val (.int (key + 1)), .val (.int (Int32.ofNat (pos (2 ^ m) (homeF m key) i))), .val (.int old)]) rfl ?_
        refine G.iloadN K D54_6_53 rfl ?_
        refine G.if_eq K D54_6_54 (fun q => absurd q (by decide)) (fun _ => ?_)
        refine G.aloadN K D54_6_57 rfl rfl ?_
        refine G.getF K (host := "") (Or.inl (wd hw 33 rfl)) H (i := 0) rfl (j := 1) rfl rfl D54_6_58 ?_
        refine G.iload K D54_6_61 rfl ?_
        refine G.iloadN K D54_6_63 rfl ?_
        refine G.astore_i K H (i := 2) rfl (own_nneg hp) (by rw [own_nidx hp]; omega) D54_6_64 ?_
        intro h24 H24
        rw [own_nidx hp] at H24
        change Hp n0 h24 ((a, Ob Z "org/sqcap/reasoner/IntMap" NSM [.ref ka, .ref va, .int (Int32.ofNat (taken ks))]) :: (ka, Ia Z ks) :: (va, Ia Z (vs.set (pos (2 ^ m) (homeF m key) i) val)) :: σ) at H24
        refine G.iload K D54_6_65 rfl ?_
        refine G.ret_int K D54_6_67 ?_
        exact ⟨_, _, _, rfl, T.replace hx h0, by omega, H24⟩
      · obtain rfl : xD = 0 := hxx.resolve_left hxk
        have htk := taken_set hx h0
        refine G.aloadN K D54_6_22 rfl rfl ?_
        refine G.getF K (host := "") (Or.inl (wd hw 31 rfl)) H (i := 0) rfl (j := 0) rfl rfl D54_6_23 ?_
        refine G.iload K D54_6_26 rfl ?_
        refine G.aload_i K H (i := 1) rfl (own_nneg hp) (by rw [own_nidx hp]; exact hx) D54_6_28 ?_
        refine G.if_eq K D54_6_29 (fun _ => ?_) (fun q => absurd q (by decide))
        refine G.aloadN K D54_6_80 rfl rfl ?_
        refine G.getF K (host := "") (Or.inl (wd hw 31 rfl)) H (i := 0) rfl (j := 0) rfl rfl D54_6_81 ?_
        refine G.iload K D54_6_84 rfl ?_
        refine G.iload K D54_6_86 rfl ?_
        refine G.astore_i K H (i := 1) rfl (own_nneg hp) (by rw [own_nidx hp]; omega) D54_6_88 ?_
        intro h26 H26
        rw [own_nidx hp] at H26
        change Hp n0 h26 ((a, Ob Z "org/sqcap/reasoner/IntMap" NSM [.ref ka, .ref va, .int (Int32.ofNat (taken ks))]) :: (ka, Ia Z (ks.set (pos (2 ^ m) (homeF m key) i) (key + 1))) :: (va, Ia Z vs) :: σ) at H26
        refine G.aloadN K D54_6_89 rfl rfl ?_
        refine G.getF K (host := "") (Or.inl (wd hw 33 rfl)) H26 (i := 0) rfl (j := 1) rfl rfl D54_6_90 ?_
        refine G.iload K D54_6_93 rfl ?_
        refine G.iloadN K D54_6_95 rfl ?_
        refine G.astore_i K H26 (i := 2) rfl (own_nneg hp) (by rw [own_nidx hp]; omega) D54_6_96 ?_
        intro h27 H27
        rw [own_nidx hp] at H27
        change Hp n0 h27 ((a, Ob Z "org/sqcap/reasoner/IntMap" NSM [.ref ka, .ref va, .int (Int32.ofNat (taken ks))]) :: (ka, Ia Z (ks.set (pos (2 ^ m) (homeF m key) i) (key + 1))) :: (va, Ia Z (vs.set (pos (2 ^ m) (homeF m key) i) val)) :: σ) at H27
        refine G.aloadN K D54_6_97 rfl rfl ?_
        refine G.dup K D54_6_98 rfl ?_
        refine G.getF K (host := "") (Or.inl (wd hw 48 rfl)) H27 (i := 0) rfl (j := 2) rfl rfl D54_6_99 ?_
        refine G.iconst K D54_6_102 1 rfl ?_
        refine G.iadd K D54_6_103 ?_
        rw [own_nsucc]
        refine G.dup_x1 K D54_6_104 rfl rfl ?_
        refine G.putF K (host := "") (Or.inl (wd hw 48 rfl)) (cf_NSM hw) (Or.inl (wd hw 49 rfl)) (wd hw 9 rfl) H27 (i := 0) rfl (j := 2) rfl rfl (ty := .int) (by decide) rfl rfl D54_6_105 ?_
        intro h28 H28
        change Hp n0 h28 ((a, Ob Z "org/sqcap/reasoner/IntMap" NSM [.ref ka, .ref va, .int (Int32.ofNat (taken ks + 1))]) :: (ka, Ia Z (ks.set (pos (2 ^ m) (homeF m key) i) (key + 1))) :: (va, Ia Z (vs.set (pos (2 ^ m) (homeF m key) i) val)) :: σ) at H28
        refine G.aloadN K D54_6_108 rfl rfl ?_
        refine G.getF K (host := "") (Or.inl (wd hw 31 rfl)) H28 (i := 0) rfl (j := 0) rfl rfl D54_6_109 ?_
        refine G.alen K H28 (i := 1) rfl D54_6_112 (Int32.ofNat (2 ^ m)) (by rw [List.length_map, List.length_set, hk]) ?_
        refine G.iconst K D54_6_113 2 rfl ?_
        refine G.idiv K D54_6_114 (by decide) ?_
        rw [own_half hm hm1]
        refine G.icmp_le K D54_6_115 (fun q29 => ?_) (fun q => absurd ((own_nlt (by omega) (by omega)).mp q) (by omega))
        refine G.iconst K D54_6_122 (-1) rfl ?_
        refine G.ret_int K D54_6_123 ?_
        exact ⟨_, _, _, rfl, T.insert hD hx hb h0, by omega, by rw [htk]; exact H28⟩
    | succ j ih =>
      intro i hi
      obtain ⟨y, hy, hy1, hy0⟩ := hb i (by omega)
      have hp := pos_nlt hm hh (i := i) (by omega)
      refine G.aloadN K D54_6_22 rfl rfl ?_
      refine G.getF K (host := "") (Or.inl (wd hw 31 rfl)) H (i := 0) rfl (j := 0) rfl rfl D54_6_23 ?_
      refine G.iload K D54_6_26 rfl ?_
      refine G.aload_i K H (i := 1) rfl (own_nneg hp) (by rw [own_nidx hp]; exact hy) D54_6_28 ?_
      refine G.if_eq K D54_6_29 (fun q => absurd q hy0) (fun q30 => ?_)
      refine G.aloadN K D54_6_32 rfl rfl ?_
      refine G.getF K (host := "") (Or.inl (wd hw 31 rfl)) H (i := 0) rfl (j := 0) rfl rfl D54_6_33 ?_
      refine G.iload K D54_6_36 rfl ?_
      refine G.aload_i K H (i := 1) rfl (own_nneg hp) (by rw [own_nidx hp]; exact hy) D54_6_38 ?_
      refine G.iload K D54_6_39 rfl ?_
      refine G.icmp_ne K D54_6_41 (fun q31 => ?_) (fun q => absurd q hy1)
      refine G.iload K D54_6_68 rfl ?_
      refine G.iconst K D54_6_70 1 rfl ?_
      refine G.iadd K D54_6_71 ?_
      refine G.iload K D54_6_72 rfl ?_
      refine G.iand K D54_6_74 ?_
      refine G.istore K D54_6_75 ([.val (.ref a), .val (.int key), .val (.int val), .val (.int 1), .val (.int (Int32.ofNat (2 ^ m - 1))), .val (.int (key + 1)), .val (.int (((Int32.ofNat (pos (2 ^ m) (homeF m key) i)) + 1) &&& (Int32.ofNat (2 ^ m - 1)))), .unset]) rfl ?_
      refine G.goto K D54_6_77 ?_
      rw [own_mask1 hm (pos_lt hh (by omega)), pos_succ hh (by omega)]
      exact ih (i + 1) (by omega)
  exact loop D 0 (by omega)
theorem D54_4_0 : Dc prog_54_method_4_code 0 (.aload_n 0) 1 1 := dc (by decide +kernel) rfl
theorem D54_4_1 : Dc prog_54_method_4_code 1 (.iload_n 1) 1 2 := dc (by decide +kernel) rfl
theorem D54_4_2 : Dc prog_54_method_4_code 2 (.iload_n 2) 1 3 := dc (by decide +kernel) rfl
theorem D54_4_3 : Dc prog_54_method_4_code 3 (.iconst 1) 1 4 := dc (by decide +kernel) rfl
theorem D54_4_4 : Dc prog_54_method_4_code 4 (.invokevirtual 34) 3 7 := dc (by decide +kernel) rfl
theorem D54_4_7 : Dc prog_54_method_4_code 7 (.ireturn) 1 8 := dc (by decide +kernel) rfl
set_option maxRecDepth 65536 in
set_option maxHeartbeats 40000000 in
theorem ct_put (l : Launch) (Z : State) (a0 : Array Value) (hw : ∀ d ∈ tables_1, d.before a0 Z = true) (n0 : Nat) (h : Heap) (a ka va : Addr) (ks vs : List Int32) (m : Nat) (M : Int32 → Option Int32) (key val : Int32) (σ : List Ch) (hm : m ≤ 30) (hm1 : 1 ≤ m) (T : Tab (homeF m) (2 ^ m) ks vs M) (ht : taken ks + 1 ≤ 2 ^ (m - 1)) (h0 : key + 1 ≠ 0) (H : Hp n0 h ((a, Ob Z "org/sqcap/reasoner/IntMap" NSM [.ref ka, .ref va, .int (Int32.ofNat (taken ks))]) :: (ka, Ia Z ks) :: (va, Ia Z vs) :: σ)) :
    Ct l Z n0 (⟨"org/sqcap/reasoner/IntMap", "put", "(II)I"⟩ : MethodName) prog_54_method_4_code 3 (some .int) ({ frames := 2, cells := 0, slots := 0, locals := 40 } : Room) [.ref a, .int key, .int val] h (fun v h' => ∃ (r : Int32) (ks' vs' : List Int32), v = some (.int r) ∧ Tab (homeF m) (2 ^ m) ks' vs' (upd M key val) ∧ taken ks' ≤ taken ks + 1 ∧ Hp n0 h' ((a, Ob Z "org/sqcap/reasoner/IntMap" NSM [.ref ka, .ref va, .int (Int32.ofNat (taken ks'))]) :: (ka, Ia Z ks') :: (va, Ia Z vs') :: σ)) := by
  refine Ct.intro (plainFor_of_name pn_0) [.val (.ref a), .val (.int key), .val (.int val)] (fun m => by first | (simp [entryFrame, mkF, argsToLocals, Value.category]; done) | (simp [entryFrame, mkF, argsToLocals, Value.category, maxLocals]; done) | rfl) ?_
  intro k hl K
  replace K : Ok k Z n0 "org/sqcap/reasoner/IntMap" ({ frames := 2, cells := 0, slots := 0, locals := 40 } : Room) prog_54_method_4_code 3 (some .int) "put" := K
  refine G.aloadN K D54_4_0 rfl rfl ?_
  refine G.iloadN K D54_4_1 rfl ?_
  refine G.iloadN K D54_4_2 rfl ?_
  refine G.iconst K D54_4_3 1 rfl ?_
  refine G.callP K hl (wd hw 40 rfl) (wd hw 42 rfl) (wd hw 9 rfl) (wd hw 41 rfl) (wd hw 10 rfl) (wd hw 43 rfl) (by decide) pd_2 (H.exa (i := 0) rfl) (ct_store l Z a0 hw n0 h a ka va ks vs m M key val σ hm hm1 T ht h0 H) 0 rfl (by decide) (by decide) (by decide) (by decide) rfl rfl [.int 1, .int val, .int key] rfl D54_4_4 ?_
  rintro _ h1 ⟨r1, ks1, vs1, rfl, T1, ht1, H1⟩
  change G k n0 _ h1 _ _ 7 [.val (.ref a), .val (.int key), .val (.int val)] [.int r1]
  refine G.ret_int K D54_4_7 ?_
  exact ⟨_, _, _, rfl, T1, ht1, H1⟩
theorem D54_9_0 : Dc prog_54_method_9_code 0 (.aload_n 0) 1 1 := dc (by decide +kernel) rfl
theorem D54_9_1 : Dc prog_54_method_9_code 1 (.getfield 19) 3 4 := dc (by decide +kernel) rfl
theorem D54_9_4 : Dc prog_54_method_9_code 4 (.astore_n 1) 1 5 := dc (by decide +kernel) rfl
theorem D54_9_5 : Dc prog_54_method_9_code 5 (.aload_n 0) 1 6 := dc (by decide +kernel) rfl
theorem D54_9_6 : Dc prog_54_method_9_code 6 (.getfield 25) 3 9 := dc (by decide +kernel) rfl
theorem D54_9_9 : Dc prog_54_method_9_code 9 (.astore_n 2) 1 10 := dc (by decide +kernel) rfl
theorem D54_9_10 : Dc prog_54_method_9_code 10 (.aload_n 0) 1 11 := dc (by decide +kernel) rfl
theorem D54_9_11 : Dc prog_54_method_9_code 11 (.iconst 2) 1 12 := dc (by decide +kernel) rfl
theorem D54_9_12 : Dc prog_54_method_9_code 12 (.aload_n 1) 1 13 := dc (by decide +kernel) rfl
theorem D54_9_13 : Dc prog_54_method_9_code 13 (.arraylength) 1 14 := dc (by decide +kernel) rfl
theorem D54_9_14 : Dc prog_54_method_9_code 14 (.imul) 1 15 := dc (by decide +kernel) rfl
theorem D54_9_15 : Dc prog_54_method_9_code 15 (.newarray .int) 2 17 := dc (by decide +kernel) rfl
theorem D54_9_17 : Dc prog_54_method_9_code 17 (.putfield 19) 3 20 := dc (by decide +kernel) rfl
theorem D54_9_20 : Dc prog_54_method_9_code 20 (.aload_n 0) 1 21 := dc (by decide +kernel) rfl
theorem D54_9_21 : Dc prog_54_method_9_code 21 (.aload_n 0) 1 22 := dc (by decide +kernel) rfl
theorem D54_9_22 : Dc prog_54_method_9_code 22 (.getfield 19) 3 25 := dc (by decide +kernel) rfl
theorem D54_9_25 : Dc prog_54_method_9_code 25 (.arraylength) 1 26 := dc (by decide +kernel) rfl
theorem D54_9_26 : Dc prog_54_method_9_code 26 (.newarray .int) 2 28 := dc (by decide +kernel) rfl
theorem D54_9_28 : Dc prog_54_method_9_code 28 (.putfield 25) 3 31 := dc (by decide +kernel) rfl
theorem D54_9_31 : Dc prog_54_method_9_code 31 (.aload_n 0) 1 32 := dc (by decide +kernel) rfl
theorem D54_9_32 : Dc prog_54_method_9_code 32 (.iconst 0) 1 33 := dc (by decide +kernel) rfl
theorem D54_9_33 : Dc prog_54_method_9_code 33 (.putfield 38) 3 36 := dc (by decide +kernel) rfl
theorem D54_9_36 : Dc prog_54_method_9_code 36 (.iconst 0) 1 37 := dc (by decide +kernel) rfl
theorem D54_9_37 : Dc prog_54_method_9_code 37 (.istore_n 3) 1 38 := dc (by decide +kernel) rfl
theorem D54_9_38 : Dc prog_54_method_9_code 38 (.iload_n 3) 1 39 := dc (by decide +kernel) rfl
theorem D54_9_39 : Dc prog_54_method_9_code 39 (.aload_n 1) 1 40 := dc (by decide +kernel) rfl
theorem D54_9_40 : Dc prog_54_method_9_code 40 (.arraylength) 1 41 := dc (by decide +kernel) rfl
theorem D54_9_41 : Db prog_54_method_9_code 41 (.if_icmp .ge) 44 69 := db (28) (by decide +kernel) rfl (by decide) (by decide)
theorem D54_9_44 : Dc prog_54_method_9_code 44 (.aload_n 1) 1 45 := dc (by decide +kernel) rfl
theorem D54_9_45 : Dc prog_54_method_9_code 45 (.iload_n 3) 1 46 := dc (by decide +kernel) rfl
theorem D54_9_46 : Dc prog_54_method_9_code 46 (.iaload) 1 47 := dc (by decide +kernel) rfl
theorem D54_9_47 : Db prog_54_method_9_code 47 (.ifCond .eq) 50 63 := db (16) (by decide +kernel) rfl (by decide) (by decide)
theorem D54_9_50 : Dc prog_54_method_9_code 50 (.aload_n 0) 1 51 := dc (by decide +kernel) rfl
theorem D54_9_51 : Dc prog_54_method_9_code 51 (.aload_n 1) 1 52 := dc (by decide +kernel) rfl
theorem D54_9_52 : Dc prog_54_method_9_code 52 (.iload_n 3) 1 53 := dc (by decide +kernel) rfl
theorem D54_9_53 : Dc prog_54_method_9_code 53 (.iaload) 1 54 := dc (by decide +kernel) rfl
theorem D54_9_54 : Dc prog_54_method_9_code 54 (.iconst 1) 1 55 := dc (by decide +kernel) rfl
theorem D54_9_55 : Dc prog_54_method_9_code 55 (.isub) 1 56 := dc (by decide +kernel) rfl
theorem D54_9_56 : Dc prog_54_method_9_code 56 (.aload_n 2) 1 57 := dc (by decide +kernel) rfl
theorem D54_9_57 : Dc prog_54_method_9_code 57 (.iload_n 3) 1 58 := dc (by decide +kernel) rfl
theorem D54_9_58 : Dc prog_54_method_9_code 58 (.iaload) 1 59 := dc (by decide +kernel) rfl
theorem D54_9_59 : Dc prog_54_method_9_code 59 (.invokevirtual 51) 3 62 := dc (by decide +kernel) rfl
theorem D54_9_62 : Dc prog_54_method_9_code 62 (.pop) 1 63 := dc (by decide +kernel) rfl
theorem D54_9_63 : Dc prog_54_method_9_code 63 (.iinc 3 1) 3 66 := dc (by decide +kernel) rfl
theorem D54_9_66 : Db prog_54_method_9_code 66 (.goto) 69 38 := db (-28) (by decide +kernel) rfl (by decide) (by decide)
theorem D54_9_69 : Dc prog_54_method_9_code 69 (.return_) 1 70 := dc (by decide +kernel) rfl
set_option maxRecDepth 65536 in
set_option maxHeartbeats 40000000 in
theorem ct_grow (l : Launch) (Z : State) (a0 : Array Value) (hw : ∀ d ∈ tables_1, d.before a0 Z = true) (n0 : Nat) (h : Heap) (a ka va : Addr) (ks vs : List Int32) (sz : Int32) (M : Int32 → Option Int32) (σ : List Ch) (T : Tab (homeF 3) (2 ^ 3) ks vs M) (H : Hp n0 h ((a, Ob Z "org/sqcap/reasoner/IntMap" NSM [.ref ka, .ref va, .int sz]) :: (ka, Ia Z ks) :: (va, Ia Z vs) :: σ)) :
    Ct l Z n0 (⟨"org/sqcap/reasoner/IntMap", "grow", "()V"⟩ : MethodName) prog_54_method_9_code 4 none ({ frames := 3, cells := 2, slots := 32, locals := 60 } : Room) [.ref a] h (fun v h' => v = none ∧ ∃ (kb vb : Addr) (ks' vs' : List Int32), Tab (homeF 4) (2 ^ 4) ks' vs' M ∧ taken ks' ≤ 8 ∧ Hp n0 h' ((a, Ob Z "org/sqcap/reasoner/IntMap" NSM [.ref kb, .ref vb, .int (Int32.ofNat (taken ks'))]) :: (kb, Ia Z ks') :: (vb, Ia Z vs') :: σ)) := by
  refine Ct.intro (plainFor_of_name pn_0) [.val (.ref a), .unset, .unset, .unset] (fun m => by first | (simp [entryFrame, mkF, argsToLocals, Value.category]; done) | (simp [entryFrame, mkF, argsToLocals, Value.category, maxLocals]; done) | rfl) ?_
  intro k hl K
  replace K : Ok k Z n0 "org/sqcap/reasoner/IntMap" ({ frames := 3, cells := 2, slots := 32, locals := 60 } : Room) prog_54_method_9_code 4 none "grow" := K
  have hk : ks.length = 8 := T.1
  have hv : vs.length = 8 := T.2.1
  refine G.aloadN K D54_9_0 rfl rfl ?_
  refine G.getF K (host := "") (Or.inl (wd hw 31 rfl)) H (i := 0) rfl (j := 0) rfl rfl D54_9_1 ?_
  refine G.astoreN K D54_9_4 rfl ([.val (.ref a), .val (.ref ka), .unset, .unset]) rfl ?_
  refine G.aloadN K D54_9_5 rfl rfl ?_
  refine G.getF K (host := "") (Or.inl (wd hw 33 rfl)) H (i := 0) rfl (j := 1) rfl rfl D54_9_6 ?_
  refine G.astoreN K D54_9_9 rfl ([.val (.ref a), .val (.ref ka), .val (.ref va), .unset]) rfl ?_
  refine G.aloadN K D54_9_10 rfl rfl ?_
  refine G.iconst K D54_9_11 2 rfl ?_
  refine G.aloadN K D54_9_12 rfl rfl ?_
  refine G.alen K H (i := 1) rfl D54_9_13 8 (by rw [List.length_map, hk]; rfl) ?_
  refine G.imul K D54_9_14 ?_
  change G k n0 _ h _ _ 15 [.val (.ref a), .val (.ref ka), .val (.ref va), .unset] [.int 16, .ref a]
  refine G.newarr_i K (wd hw 30 rfl) H (by decide) 16 (by decide) (by decide) (by decide) (by decide) D54_9_15 ?_
  intro a32 h33 H33
  change Hp n0 h33 ((a32, Ia Z [0, 0, 0, 0, 0, 0, 0, 0, 0, 0, 0, 0, 0, 0, 0, 0]) :: (a, Ob Z "org/sqcap/reasoner/IntMap" NSM [.ref ka, .ref va, .int sz]) :: (ka, Ia Z ks) :: (va, Ia Z vs) :: σ) at H33
  refine G.putF K (host := "") (Or.inl (wd hw 31 rfl)) (cf_NSM hw) (Or.inl (wd hw 32 rfl)) (wd hw 9 rfl) H33 (i := 1) rfl (j := 0) rfl rfl (ty := (.array .int)) (by decide) rfl rfl D54_9_17 ?_
  intro h34 H34
  change Hp n0 h34 ((a32, Ia Z [0, 0, 0, 0, 0, 0, 0, 0, 0, 0, 0, 0, 0, 0, 0, 0]) :: (a, Ob Z "org/sqcap/reasoner/IntMap" NSM [.ref a32, .ref va, .int sz]) :: (ka, Ia Z ks) :: (va, Ia Z vs) :: σ) at H34
  refine G.aloadN K D54_9_20 rfl rfl ?_
  refine G.aloadN K D54_9_21 rfl rfl ?_
  refine G.getF K (host := "") (Or.inl (wd hw 31 rfl)) H34 (i := 1) rfl (j := 0) rfl rfl D54_9_22 ?_
  refine G.alen K H34 (i := 0) rfl D54_9_25 16 rfl ?_
  refine G.newarr_i K (wd hw 30 rfl) H34 (by decide) 16 (by decide) (by decide) (by decide) (by decide) D54_9_26 ?_
  intro a35 h36 H36
  change Hp n0 h36 ((a35, Ia Z [0, 0, 0, 0, 0, 0, 0, 0, 0, 0, 0, 0, 0, 0, 0, 0]) :: (a32, Ia Z [0, 0, 0, 0, 0, 0, 0, 0, 0, 0, 0, 0, 0, 0, 0, 0]) :: (a, Ob Z "org/sqcap/reasoner/IntMap" NSM [.ref a32, .ref va, .int sz]) :: (ka, Ia Z ks) :: (va, Ia Z vs) :: σ) at H36
  refine G.putF K (host := "") (Or.inl (wd hw 33 rfl)) (cf_NSM hw) (Or.inl (wd hw 34 rfl)) (wd hw 9 rfl) H36 (i := 2) rfl (j := 1) rfl rfl (ty := (.array .int)) (by decide) rfl rfl D54_9_28 ?_
  intro h37 H37
  change Hp n0 h37 ((a35, Ia Z [0, 0, 0, 0, 0, 0, 0, 0, 0, 0, 0, 0, 0, 0, 0, 0]) :: (a32, Ia Z [0, 0, 0, 0, 0, 0, 0, 0, 0, 0, 0, 0, 0, 0, 0, 0]) :: (a, Ob Z "org/sqcap/reasoner/IntMap" NSM [.ref a32, .ref a35, .int sz]) :: (ka, Ia Z ks) :: (va, Ia Z vs) :: σ) at H37
  refine G.aloadN K D54_9_31 rfl rfl ?_
  refine G.iconst K D54_9_32 0 rfl ?_
  refine G.putF K (host := "") (Or.inl (wd hw 48 rfl)) (cf_NSM hw) (Or.inl (wd hw 49 rfl)) (wd hw 9 rfl) H37 (i := 2) rfl (j := 2) rfl rfl (ty := .int) (by decide) rfl rfl D54_9_33 ?_
  intro h38 H38
  change Hp n0 h38 ((a35, Ia Z [0, 0, 0, 0, 0, 0, 0, 0, 0, 0, 0, 0, 0, 0, 0, 0]) :: (a32, Ia Z [0, 0, 0, 0, 0, 0, 0, 0, 0, 0, 0, 0, 0, 0, 0, 0]) :: (a, Ob Z "org/sqcap/reasoner/IntMap" NSM [.ref a32, .ref a35, .int 0]) :: (ka, Ia Z ks) :: (va, Ia Z vs) :: σ) at H38
  refine G.iconst K D54_9_36 0 rfl ?_
  refine G.istoreN K D54_9_37 ([.val (.ref a), .val (.ref ka), .val (.ref va), .val (.int 0)]) rfl ?_
  have H39 : Hp n0 h38 ((va, Ia Z vs) :: (a35, Ia Z [0, 0, 0, 0, 0, 0, 0, 0, 0, 0, 0, 0, 0, 0, 0, 0]) :: (a32, Ia Z [0, 0, 0, 0, 0, 0, 0, 0, 0, 0, 0, 0, 0, 0, 0, 0]) :: (a, Ob Z "org/sqcap/reasoner/IntMap" NSM [.ref a32, .ref a35, .int 0]) :: (ka, Ia Z ks) :: σ) := H38.pull 4 rfl
  have H40 : Hp n0 h38 ((ka, Ia Z ks) :: (va, Ia Z vs) :: (a35, Ia Z [0, 0, 0, 0, 0, 0, 0, 0, 0, 0, 0, 0, 0, 0, 0, 0]) :: (a32, Ia Z [0, 0, 0, 0, 0, 0, 0, 0, 0, 0, 0, 0, 0, 0, 0, 0]) :: (a, Ob Z "org/sqcap/reasoner/IntMap" NSM [.ref a32, .ref a35, .int 0]) :: σ) := H39.pull 4 rfl
  have H41 : Hp n0 h38 ((a35, Ia Z [0, 0, 0, 0, 0, 0, 0, 0, 0, 0, 0, 0, 0, 0, 0, 0]) :: (ka, Ia Z ks) :: (va, Ia Z vs) :: (a32, Ia Z [0, 0, 0, 0, 0, 0, 0, 0, 0, 0, 0, 0, 0, 0, 0, 0]) :: (a, Ob Z "org/sqcap/reasoner/IntMap" NSM [.ref a32, .ref a35, .int 0]) :: σ) := H40.pull 2 rfl
  have H42 : Hp n0 h38 ((a32, Ia Z [0, 0, 0, 0, 0, 0, 0, 0, 0, 0, 0, 0, 0, 0, 0, 0]) :: (a35, Ia Z [0, 0, 0, 0, 0, 0, 0, 0, 0, 0, 0, 0, 0, 0, 0, 0]) :: (ka, Ia Z ks) :: (va, Ia Z vs) :: (a, Ob Z "org/sqcap/reasoner/IntMap" NSM [.ref a32, .ref a35, .int 0]) :: σ) := H41.pull 3 rfl
  have H43 : Hp n0 h38 ((a, Ob Z "org/sqcap/reasoner/IntMap" NSM [.ref a32, .ref a35, .int 0]) :: (a32, Ia Z [0, 0, 0, 0, 0, 0, 0, 0, 0, 0, 0, 0, 0, 0, 0, 0]) :: (a35, Ia Z [0, 0, 0, 0, 0, 0, 0, 0, 0, 0, 0, 0, 0, 0, 0, 0]) :: (ka, Ia Z ks) :: (va, Ia Z vs) :: σ) := H42.pull 4 rfl
  have loop : ∀ (j i : Nat) (h2 : Heap) (ks2 vs2 : List Int32), i + j = 8 → Tab (homeF 4) (2 ^ 4) ks2 vs2 (Mi ks M i) → taken ks2 ≤ i → Hp n0 h2 ((a, Ob Z "org/sqcap/reasoner/IntMap" NSM [.ref a32, .ref a35, .int (Int32.ofNat (taken ks2))]) :: (a32, Ia Z ks2) :: (a35, Ia Z vs2) :: (ka, Ia Z ks) :: (va, Ia Z vs) :: σ) → G k n0 (fun v h' => v = none ∧ ∃ (kb vb : Addr) (ks' vs' : List Int32), Tab (homeF 4) (2 ^ 4) ks' vs' M ∧ taken ks' ≤ 8 ∧ Hp n0 h' ((a, Ob Z "org/sqcap/reasoner/IntMap" NSM [.ref kb, .ref vb, .int (Int32.ofNat (taken ks'))]) :: (kb, Ia Z ks') :: (vb, Ia Z vs') :: σ)) h2 2 32 38 [.val (.ref a), .val (.ref ka), .val (.ref va), .val (.int (Int32.ofNat i))] [] := by
    intro j
    induction j with
    | zero =>
      intro i h2 ks2 vs2 hi T2 ht2 H2
      obtain rfl : i = 8 := by omega
      refine G.iloadN K D54_9_38 rfl ?_
      refine G.aloadN K D54_9_39 rfl rfl ?_
      refine G.alen K H2 (i := 3) rfl D54_9_40 8 (by rw [List.length_map, hk]; rfl) ?_
      refine G.icmp_ge K D54_9_41 (fun q44 => ?_) (fun q => absurd ((own_lt8 (by decide)).mp q) (by decide))
      refine G.ret_void K D54_9_69 ?_
      rw [show Mi ks M 8 = M from Mi_full T] at T2
      have H45 : Hp n0 h2 ((a, Ob Z "org/sqcap/reasoner/IntMap" NSM [.ref a32, .ref a35, .int (Int32.ofNat (taken ks2))]) :: (a32, Ia Z ks2) :: (a35, Ia Z vs2) :: σ) := H2.sub (List.Sublist.cons_cons _ (List.Sublist.cons_cons _ (List.Sublist.cons_cons _ (List.Sublist.cons _ (List.Sublist.cons _ (List.Sublist.refl _))))))
      exact ⟨rfl, a32, a35, ks2, vs2, T2, by omega, H45⟩
    | succ j ih =>
      intro i h2 ks2 vs2 hi T2 ht2 H2
      have hp : i < 2147483648 := by omega
      obtain ⟨x, hx⟩ : ∃ x, ks[i]? = some x := ⟨_, List.getElem?_eq_getElem (by omega)⟩
      by_cases hx0 : x = 0
      · have hx : ks[i]? = some 0 := by rw [hx, hx0]
        refine G.iloadN K D54_9_38 rfl ?_
        refine G.aloadN K D54_9_39 rfl rfl ?_
        refine G.alen K H2 (i := 3) rfl D54_9_40 8 (by rw [List.length_map, hk]; rfl) ?_
        refine G.icmp_ge K D54_9_41 (fun q => absurd ((own_lt8 hp).mpr (by omega)) q) (fun q46 => ?_)
        refine G.aloadN K D54_9_44 rfl rfl ?_
        refine G.iloadN K D54_9_45 rfl ?_
        refine G.aload_i K H2 (i := 3) rfl (own_nneg hp) (by rw [own_nidx hp]; exact hx) D54_9_46 ?_
        refine G.if_eq K D54_9_47 (fun _ => ?_) (fun q => absurd q (by decide))
        refine G.iinc K D54_9_63 1 rfl rfl ([.val (.ref a), .val (.ref ka), .val (.ref va), .val (.int ((Int32.ofNat i) + 1))]) rfl ?_
        refine G.goto K D54_9_66 ?_
        rw [own_nsucc i]
        exact ih (i + 1) _ _ _ (by omega) (by rw [Mi_skip hx]; exact T2) (by omega) H2
      · obtain ⟨⟨v, hv1, hv2⟩, -⟩ := T.2.2.2.1 i x hx hx0
        refine G.iloadN K D54_9_38 rfl ?_
        refine G.aloadN K D54_9_39 rfl rfl ?_
        refine G.alen K H2 (i := 3) rfl D54_9_40 8 (by rw [List.length_map, hk]; rfl) ?_
        refine G.icmp_ge K D54_9_41 (fun q => absurd ((own_lt8 hp).mpr (by omega)) q) (fun q48 => ?_)
        refine G.aloadN K D54_9_44 rfl rfl ?_
        refine G.iloadN K D54_9_45 rfl ?_
        refine G.aload_i K H2 (i := 3) rfl (own_nneg hp) (by rw [own_nidx hp]; exact hx) D54_9_46 ?_
        refine G.if_eq K D54_9_47 (fun q => absurd q hx0) (fun q49 => ?_)
        refine G.aloadN K D54_9_50 rfl rfl ?_
        refine G.aloadN K D54_9_51 rfl rfl ?_
        refine G.iloadN K D54_9_52 rfl ?_
        refine G.aload_i K H2 (i := 3) rfl (own_nneg hp) (by rw [own_nidx hp]; exact hx) D54_9_53 ?_
        refine G.iconst K D54_9_54 1 rfl ?_
        refine G.isub K D54_9_55 ?_
        refine G.aloadN K D54_9_56 rfl rfl ?_
        refine G.iloadN K D54_9_57 rfl ?_
        refine G.aload_i K H2 (i := 4) rfl (own_nneg hp) (by rw [own_nidx hp]; exact hv1) D54_9_58 ?_
        have H50 : Hp n0 h2 ((va, Ia Z vs) :: (a, Ob Z "org/sqcap/reasoner/IntMap" NSM [.ref a32, .ref a35, .int (Int32.ofNat (taken ks2))]) :: (a32, Ia Z ks2) :: (a35, Ia Z vs2) :: (ka, Ia Z ks) :: σ) := H2.pull 4 rfl
        have H51 : Hp n0 h2 ((ka, Ia Z ks) :: (va, Ia Z vs) :: (a, Ob Z "org/sqcap/reasoner/IntMap" NSM [.ref a32, .ref a35, .int (Int32.ofNat (taken ks2))]) :: (a32, Ia Z ks2) :: (a35, Ia Z vs2) :: σ) := H50.pull 4 rfl
        have H52 : Hp n0 h2 ((a35, Ia Z vs2) :: (ka, Ia Z ks) :: (va, Ia Z vs) :: (a, Ob Z "org/sqcap/reasoner/IntMap" NSM [.ref a32, .ref a35, .int (Int32.ofNat (taken ks2))]) :: (a32, Ia Z ks2) :: σ) := H51.pull 4 rfl
        have H53 : Hp n0 h2 ((a32, Ia Z ks2) :: (a35, Ia Z vs2) :: (ka, Ia Z ks) :: (va, Ia Z vs) :: (a, Ob Z "org/sqcap/reasoner/IntMap" NSM [.ref a32, .ref a35, .int (Int32.ofNat (taken ks2))]) :: σ) := H52.pull 4 rfl
        have H54 : Hp n0 h2 ((a, Ob Z "org/sqcap/reasoner/IntMap" NSM [.ref a32, .ref a35, .int (Int32.ofNat (taken ks2))]) :: (a32, Ia Z ks2) :: (a35, Ia Z vs2) :: (ka, Ia Z ks) :: (va, Ia Z vs) :: σ) := H53.pull 4 rfl
        refine G.callV K hl (wd hw 59 rfl) (wd hw 36 rfl) (wd hw 38 rfl) (wd hw 37 rfl) (wd hw 10 rfl) (wd hw 39 rfl) (by decide) pd_1 (H54.exa (i := 0) rfl) (ct_put l Z a0 hw n0 h2 a a32 a35 ks2 vs2 4 (Mi ks M i) (x - 1) v ((ka, Ia Z ks) :: (va, Ia Z vs) :: σ) (by decide) (by decide) T2 (by show taken ks2 + 1 ≤ 8; omega) (by rw [sub_add1]; exact hx0) H54) 0 rfl (by decide) (by decide) (by decide) (by decide) rfl rfl [.int v, .int (x - 1)] rfl D54_9_59 ?_
        rintro _ h3 ⟨r3, ks3, vs3, rfl, T3, ht3, H3⟩
        change G k n0 _ h3 _ _ 62 [.val (.ref a), .val (.ref ka), .val (.ref va), .val (.int (Int32.ofNat i))] [.int r3]
        refine G.pop K D54_9_62 rfl ?_
        refine G.iinc K D54_9_63 1 rfl rfl ([.val (.ref a), .val (.ref ka), .val (.ref va), .val (.int ((Int32.ofNat i) + 1))]) rfl ?_
        refine G.goto K D54_9_66 ?_
        have H55 : Hp n0 h3 ((va, Ia Z vs) :: (a, Ob Z "org/sqcap/reasoner/IntMap" NSM [.ref a32, .ref a35, .int (Int32.ofNat (taken ks3))]) :: (a32, Ia Z ks3) :: (a35, Ia Z vs3) :: (ka, Ia Z ks) :: σ) := H3.pull 4 rfl
        have H56 : Hp n0 h3 ((ka, Ia Z ks) :: (va, Ia Z vs) :: (a, Ob Z "org/sqcap/reasoner/IntMap" NSM [.ref a32, .ref a35, .int (Int32.ofNat (taken ks3))]) :: (a32, Ia Z ks3) :: (a35, Ia Z vs3) :: σ) := H55.pull 4 rfl
        have H57 : Hp n0 h3 ((a35, Ia Z vs3) :: (ka, Ia Z ks) :: (va, Ia Z vs) :: (a, Ob Z "org/sqcap/reasoner/IntMap" NSM [.ref a32, .ref a35, .int (Int32.ofNat (taken ks3))]) :: (a32, Ia Z ks3) :: σ) := H56.pull 4 rfl
        have H58 : Hp n0 h3 ((a32, Ia Z ks3) :: (a35, Ia Z vs3) :: (ka, Ia Z ks) :: (va, Ia Z vs) :: (a, Ob Z "org/sqcap/reasoner/IntMap" NSM [.ref a32, .ref a35, .int (Int32.ofNat (taken ks3))]) :: σ) := H57.pull 4 rfl
        have H59 : Hp n0 h3 ((a, Ob Z "org/sqcap/reasoner/IntMap" NSM [.ref a32, .ref a35, .int (Int32.ofNat (taken ks3))]) :: (a32, Ia Z ks3) :: (a35, Ia Z vs3) :: (ka, Ia Z ks) :: (va, Ia Z vs) :: σ) := H58.pull 4 rfl
        rw [own_nsucc i]
        exact ih (i + 1) _ _ _ (by omega) (by rw [Mi_put hx hx0 hv2]; exact T3) (by omega) H59
  exact loop 8 0 _ _ _ (by decide) (by rw [Mi_zero]; exact Tab.empty (c := 2 ^ 4) (own_home_lt 4)) (by decide) H43
set_option maxRecDepth 65536 in
set_option maxHeartbeats 40000000 in
theorem ct_storeG (l : Launch) (Z : State) (a0 : Array Value) (hw : ∀ d ∈ tables_1, d.before a0 Z = true) (n0 : Nat) (h : Heap) (a ka va : Addr) (ks vs : List Int32) (m : Nat) (M : Int32 → Option Int32) (key val : Int32) (σ : List Ch) (hm3 : 3 ≤ m) (hm6 : m ≤ 6) (T : Tab (homeF m) (2 ^ m) ks vs M) (ht : taken ks ≤ 4) (h0 : key + 1 ≠ 0) (H : Hp n0 h ((a, Ob Z "org/sqcap/reasoner/IntMap" NSM [.ref ka, .ref va, .int (Int32.ofNat (taken ks))]) :: (ka, Ia Z ks) :: (va, Ia Z vs) :: σ)) :
    Ct l Z n0 (⟨"org/sqcap/reasoner/IntMap", "store", "(IIZ)I"⟩ : MethodName) prog_54_method_6_code 8 (some .int) ({ frames := 4, cells := 2, slots := 32, locals := 80 } : Room) [.ref a, .int key, .int val, .int 1] h (fun v h' => ∃ (r sz' : Int32) (m' : Nat) (kb vb : Addr) (ks' vs' : List Int32), v = some (.int r) ∧ m' ≤ 30 ∧ Tab (homeF m') (2 ^ m') ks' vs' (upd M key val) ∧ (∃ z : Nat, ks'[z]? = some 0) ∧ Hp n0 h' ((a, Ob Z "org/sqcap/reasoner/IntMap" NSM [.ref kb, .ref vb, .int sz']) :: (kb, Ia Z ks') :: (vb, Ia Z vs') :: σ)) := by
  refine Ct.intro (plainFor_of_name pn_0) [.val (.ref a), .val (.int key), .val (.int val), .val (.int 1), .unset, .unset, .unset, .unset] (fun m => by first | (simp [entryFrame, mkF, argsToLocals, Value.category]; done) | (simp [entryFrame, mkF, argsToLocals, Value.category, maxLocals]; done) | rfl) ?_
  intro k hl K
  replace K : Ok k Z n0 "org/sqcap/reasoner/IntMap" ({ frames := 4, cells := 2, slots := 32, locals := 80 } : Room) prog_54_method_6_code 8 (some .int) "store" := K
  have hk := T.1
  have hpa : 2 ^ 3 ≤ 2 ^ m := Nat.pow_le_pow_right (by decide) hm3
  have hm : m ≤ 30 := by omega
  have hm1 : 1 ≤ m := by omega
  refine G.aloadN K D54_6_0 rfl rfl ?_
  refine G.getF K (host := "") (Or.inl (wd hw 31 rfl)) H (i := 0) rfl (j := 0) rfl rfl D54_6_1 ?_
  refine G.alen K H (i := 1) rfl D54_6_4 (Int32.ofNat (2 ^ m)) (by rw [List.length_map, hk]) ?_
  refine G.iconst K D54_6_5 1 rfl ?_
  refine G.isub K D54_6_6 ?_
  rw [own_ncap]
  refine G.istore K D54_6_7 ([.val (.ref a), .val (.int key), .val (.int val), .val (.int 1), .val (.int (Int32.ofNat (2 ^ m - 1))), .unset, .unset, .unset]) rfl ?_
  refine G.iloadN K D54_6_9 rfl ?_
  refine G.iconst K D54_6_10 1 rfl ?_
  refine G.iadd K D54_6_11 ?_
  refine G.istore K D54_6_12 ([.val (.ref a), .val (.int key), .val (.int val), .val (.int 1), .val (.int (Int32.ofNat (2 ^ m - 1))), .val (.int (key + 1)), .unset, .unset]) rfl ?_
  refine G.iloadN K D54_6_14 rfl ?_
  refine G.iload K D54_6_15 rfl ?_
  refine G.callS K hl (wd hw 44 rfl) (wd hw 45 rfl) (wd hw 10 rfl) (wd hw 46 rfl) (by decide) pd_1 (ct_slot l Z a0 hw n0 _ key (Int32.ofNat (2 ^ m - 1))) 0 rfl (by decide) (by decide) (by decide) (by decide) rfl rfl [.int (Int32.ofNat (2 ^ m - 1)), .int key] rfl D54_6_17 ?_
  rintro _ _ ⟨rfl, rfl⟩
  rw [own_home hm]
  change G k n0 _ h _ _ 20 [.val (.ref a), .val (.int key), .val (.int val), .val (.int 1), .val (.int (Int32.ofNat (2 ^ m - 1))), .val (.int (key + 1)), .unset, .unset] [.int (Int32.ofNat (homeF m key))]
  refine G.istore K D54_6_20 ([.val (.ref a), .val (.int key), .val (.int val), .val (.int 1), .val (.int (Int32.ofNat (2 ^ m - 1))), .val (.int (key + 1)), .val (.int (Int32.ofNat (homeF m key))), .unset]) rfl ?_
  have hh := own_home_lt m key
  have hc := own_pow hm
  have hv := T.2.1
  obtain ⟨D, xD, hD, hx, hxx, hb⟩ := probe_ends T (has_zero (by omega)) key
  rw [← pos_zero hh]
  have loop : ∀ (j i : Nat), i + j = D → G k n0 (fun v h' => ∃ (r sz' : Int32) (m' : Nat) (kb vb : Addr) (ks' vs' : List Int32), v = some (.int r) ∧ m' ≤ 30 ∧ Tab (homeF m') (2 ^ m') ks' vs' (upd M key val) ∧ (∃ z : Nat, ks'[z]? = some 0) ∧ Hp n0 h' ((a, Ob Z "org/sqcap/reasoner/IntMap" NSM [.ref kb, .ref vb, .int sz']) :: (kb, Ia Z ks') :: (vb, Ia Z vs') :: σ)) h 0 0 22 [.val (.ref a), .val (.int key), .val (.int val), .val (.int 1), .val (.int (Int32.ofNat (2 ^ m - 1))), .val (.int (key + 1)), .val (.int (Int32.ofNat (pos (2 ^ m) (homeF m key) i))), .unset] [] := by
    intro j
    induction j with
    | zero =>
      intro i hi
      obtain rfl : i = D := by omega
      have hp := pos_nlt hm hh hD
      have hpc := pos_lt hh hD
      by_cases hxk : xD = key + 1
      · subst hxk
        obtain ⟨old, ho1, ho2⟩ := probe_hit T hx h0
        refine G.aloadN K D54_6_22 rfl rfl ?_
        refine G.getF K (host := "") (Or.inl (wd hw 31 rfl)) H (i := 0) rfl (j := 0) rfl rfl D54_6_23 ?_
        refine G.iload K D54_6_26 rfl ?_
        refine G.aload_i K H (i := 1) rfl (own_nneg hp) (by rw [own_nidx hp]; exact hx) D54_6_28 ?_
        refine G.if_eq K D54_6_29 (fun q => absurd q h0) (fun q60 => ?_)
        refine G.aloadN K D54_6_32 rfl rfl ?_
        refine G.getF K (host := "") (Or.inl (wd hw 31 rfl)) H (i := 0) rfl (j := 0) rfl rfl D54_6_33 ?_
        refine G.iload K D54_6_36 rfl ?_
        refine G.aload_i K H (i := 1) rfl (own_nneg hp) (by rw [own_nidx hp]; exact hx) D54_6_38 ?_
        refine G.iload K D54_6_39 rfl ?_
        refine G.icmp_ne K D54_6_41 (fun q => absurd rfl q) (fun q61 => ?_)
        refine G.aloadN K D54_6_44 rfl rfl ?_
        refine G.getF K (host := "") (Or.inl (wd hw 33 rfl)) H (i := 0) rfl (j := 1) rfl rfl D54_6_45 ?_
        refine G.iload K D54_6_48 rfl ?_
        refine G.aload_i K H (i := 2) rfl (own_nneg hp) (by rw [own_nidx hp]; exact ho1) D54_6_50 ?_
        refine G.istore K D54_6_51 ([.val (.ref a), .val (.int key), .val (.int val), .val (.int 1), .val (.int (Int32.ofNat (2 ^ m - 1))), .val (.int (key + 1)), .val (.int (Int32.ofNat (pos (2 ^ m) (homeF m key) i))), .val (.int old)]) rfl ?_
        refine G.iloadN K D54_6_53 rfl ?_
        refine G.if_eq K D54_6_54 (fun q => absurd q (by decide)) (fun _ => ?_)
        refine G.aloadN K D54_6_57 rfl rfl ?_
        refine G.getF K (host := "") (Or.inl (wd hw 33 rfl)) H (i := 0) rfl (j := 1) rfl rfl D54_6_58 ?_
        refine G.iload K D54_6_61 rfl ?_
        refine G.iloadN K D54_6_63 rfl ?_
        refine G.astore_i K H (i := 2) rfl (own_nneg hp) (by rw [own_nidx hp]; omega) D54_6_64 ?_
        intro h63 H63
        rw [own_nidx hp] at H63
        change Hp n0 h63 ((a, Ob Z "org/sqcap/reasoner/IntMap" NSM [.ref ka, .ref va, .int (Int32.ofNat (taken ks))]) :: (ka, Ia Z ks) :: (va, Ia Z (vs.set (pos (2 ^ m) (homeF m key) i) val)) :: σ) at H63
        refine G.iload K D54_6_65 rfl ?_
        refine G.ret_int K D54_6_67 ?_
        exact ⟨_, _, m, ka, va, _, _, rfl, hm, T.replace hx h0, has_zero (by omega), H63⟩
      · obtain rfl : xD = 0 := hxx.resolve_left hxk
        have htk := taken_set hx h0
        have TI := T.insert (w := val) hD hx hb h0
        refine G.aloadN K D54_6_22 rfl rfl ?_
        refine G.getF K (host := "") (Or.inl (wd hw 31 rfl)) H (i := 0) rfl (j := 0) rfl rfl D54_6_23 ?_
        refine G.iload K D54_6_26 rfl ?_
        refine G.aload_i K H (i := 1) rfl (own_nneg hp) (by rw [own_nidx hp]; exact hx) D54_6_28 ?_
        refine G.if_eq K D54_6_29 (fun _ => ?_) (fun q => absurd q (by decide))
        refine G.aloadN K D54_6_80 rfl rfl ?_
        refine G.getF K (host := "") (Or.inl (wd hw 31 rfl)) H (i := 0) rfl (j := 0) rfl rfl D54_6_81 ?_
        refine G.iload K D54_6_84 rfl ?_
        refine G.iload K D54_6_86 rfl ?_
        refine G.astore_i K H (i := 1) rfl (own_nneg hp) (by rw [own_nidx hp]; omega) D54_6_88 ?_
        intro h65 H65
        rw [own_nidx hp] at H65
        change Hp n0 h65 ((a, Ob Z "org/sqcap/reasoner/IntMap" NSM [.ref ka, .ref va, .int (Int32.ofNat (taken ks))]) :: (ka, Ia Z (ks.set (pos (2 ^ m) (homeF m key) i) (key + 1))) :: (va, Ia Z vs) :: σ) at H65
        refine G.aloadN K D54_6_89 rfl rfl ?_
        refine G.getF K (host := "") (Or.inl (wd hw 33 rfl)) H65 (i := 0) rfl (j := 1) rfl rfl D54_6_90 ?_
        refine G.iload K D54_6_93 rfl ?_
        refine G.iloadN K D54_6_95 rfl ?_
        refine G.astore_i K H65 (i := 2) rfl (own_nneg hp) (by rw [own_nidx hp]; omega) D54_6_96 ?_
        intro h66 H66
        rw [own_nidx hp] at H66
        change Hp n0 h66 ((a, Ob Z "org/sqcap/reasoner/IntMap" NSM [.ref ka, .ref va, .int (Int32.ofNat (taken ks))]) :: (ka, Ia Z (ks.set (pos (2 ^ m) (homeF m key) i) (key + 1))) :: (va, Ia Z (vs.set (pos (2 ^ m) (homeF m key) i) val)) :: σ) at H66
        refine G.aloadN K D54_6_97 rfl rfl ?_
        refine G.dup K D54_6_98 rfl ?_
        refine G.getF K (host := "") (Or.inl (wd hw 48 rfl)) H66 (i := 0) rfl (j := 2) rfl rfl D54_6_99 ?_
        refine G.iconst K D54_6_102 1 rfl ?_
        refine G.iadd K D54_6_103 ?_
        rw [own_nsucc]
        refine G.dup_x1 K D54_6_104 rfl rfl ?_
        refine G.putF K (host := "") (Or.inl (wd hw 48 rfl)) (cf_NSM hw) (Or.inl (wd hw 49 rfl)) (wd hw 9 rfl) H66 (i := 0) rfl (j := 2) rfl rfl (ty := .int) (by decide) rfl rfl D54_6_105 ?_
        intro h67 H67
        change Hp n0 h67 ((a, Ob Z "org/sqcap/reasoner/IntMap" NSM [.ref ka, .ref va, .int (Int32.ofNat (taken ks + 1))]) :: (ka, Ia Z (ks.set (pos (2 ^ m) (homeF m key) i) (key + 1))) :: (va, Ia Z (vs.set (pos (2 ^ m) (homeF m key) i) val)) :: σ) at H67
        refine G.aloadN K D54_6_108 rfl rfl ?_
        refine G.getF K (host := "") (Or.inl (wd hw 31 rfl)) H67 (i := 0) rfl (j := 0) rfl rfl D54_6_109 ?_
        refine G.alen K H67 (i := 1) rfl D54_6_112 (Int32.ofNat (2 ^ m)) (by rw [List.length_map, List.length_set, hk]) ?_
        refine G.iconst K D54_6_113 2 rfl ?_
        refine G.idiv K D54_6_114 (by decide) ?_
        rw [own_half hm hm1]
        have hpw : 2 ^ (m - 1) ≤ 2 ^ 29 := Nat.pow_le_pow_right (by decide) (by omega)
        refine G.icmp_le K D54_6_115 (fun q68 => ?_) (fun q68 => ?_)
        · refine G.iconst K D54_6_122 (-1) rfl ?_
          refine G.ret_int K D54_6_123 ?_
          exact ⟨_, _, m, ka, va, _, _, rfl, hm, TI, has_zero (by rw [List.length_set]; omega), H67⟩
        · have hq := (own_nlt (by omega) (by omega)).mp q68
          obtain rfl : m = 3 := by
            rcases (by omega : m = 3 ∨ 4 ≤ m) with h | h
            · exact h
            · have := Nat.pow_le_pow_right (n := 2) (by decide) (show 3 ≤ m - 1 by omega); omega
          refine G.aloadN K D54_6_118 rfl rfl ?_
          refine G.callP K hl (wd hw 55 rfl) (wd hw 57 rfl) (wd hw 9 rfl) (wd hw 56 rfl) (wd hw 10 rfl) (wd hw 58 rfl) (by decide) pd_3 (H67.exa (i := 0) rfl) (ct_grow l Z a0 hw n0 h67 a ka va (ks.set (pos (2 ^ 3) (homeF 3 key) i) (key + 1)) (vs.set (pos (2 ^ 3) (homeF 3 key) i) val) (Int32.ofNat (taken ks + 1)) (upd M key val) σ TI H67) 0 rfl (by decide) (by decide) (by decide) (by decide) rfl rfl [] rfl D54_6_119 ?_
          rintro _ h9 ⟨rfl, kb, vb, ks9, vs9, T9, ht9, H9⟩
          change G k n0 _ h9 _ _ 122 [.val (.ref a), .val (.int key), .val (.int val), .val (.int 1), .val (.int (Int32.ofNat (2 ^ 3 - 1))), .val (.int (key + 1)), .val (.int (Int32.ofNat (pos (2 ^ 3) (homeF 3 key) i))), .unset] []
          refine G.iconst K D54_6_122 (-1) rfl ?_
          refine G.ret_int K D54_6_123 ?_
          exact ⟨_, _, 4, kb, vb, _, _, rfl, by decide, T9, has_zero (by rw [T9.1]; omega), H9⟩
    | succ j ih =>
      intro i hi
      obtain ⟨y, hy, hy1, hy0⟩ := hb i (by omega)
      have hp := pos_nlt hm hh (i := i) (by omega)
      refine G.aloadN K D54_6_22 rfl rfl ?_
      refine G.getF K (host := "") (Or.inl (wd hw 31 rfl)) H (i := 0) rfl (j := 0) rfl rfl D54_6_23 ?_
      refine G.iload K D54_6_26 rfl ?_
      refine G.aload_i K H (i := 1) rfl (own_nneg hp) (by rw [own_nidx hp]; exact hy) D54_6_28 ?_
      refine G.if_eq K D54_6_29 (fun q => absurd q hy0) (fun q69 => ?_)
      refine G.aloadN K D54_6_32 rfl rfl ?_
      refine G.getF K (host := "") (Or.inl (wd hw 31 rfl)) H (i := 0) rfl (j := 0) rfl rfl D54_6_33 ?_
      refine G.iload K D54_6_36 rfl ?_
      refine G.aload_i K H (i := 1) rfl (own_nneg hp) (by rw [own_nidx hp]; exact hy) D54_6_38 ?_
      refine G.iload K D54_6_39 rfl ?_
      refine G.icmp_ne K D54_6_41 (fun q70 => ?_) (fun q => absurd q hy1)
      refine G.iload K D54_6_68 rfl ?_
      refine G.iconst K D54_6_70 1 rfl ?_
      refine G.iadd K D54_6_71 ?_
      refine G.iload K D54_6_72 rfl ?_
      refine G.iand K D54_6_74 ?_
      refine G.istore K D54_6_75 ([.val (.ref a), .val (.int key), .val (.int val), .val (.int 1), .val (.int (Int32.ofNat (2 ^ m - 1))), .val (.int (key + 1)), .val (.int (((Int32.ofNat (pos (2 ^ m) (homeF m key) i)) + 1) &&& (Int32.ofNat (2 ^ m - 1)))), .unset]) rfl ?_
      refine G.goto K D54_6_77 ?_
      rw [own_mask1 (by omega) (pos_lt hh (by omega)), pos_succ hh (by omega)]
      exact ih (i + 1) (by omega)
  exact loop D 0 (by omega)
set_option maxRecDepth 65536 in
set_option maxHeartbeats 40000000 in
theorem ct_putG (l : Launch) (Z : State) (a0 : Array Value) (hw : ∀ d ∈ tables_1, d.before a0 Z = true) (n0 : Nat) (h : Heap) (a ka va : Addr) (ks vs : List Int32) (m : Nat) (M : Int32 → Option Int32) (key val : Int32) (σ : List Ch) (hm3 : 3 ≤ m) (hm6 : m ≤ 6) (T : Tab (homeF m) (2 ^ m) ks vs M) (ht : taken ks ≤ 4) (h0 : key + 1 ≠ 0) (H : Hp n0 h ((a, Ob Z "org/sqcap/reasoner/IntMap" NSM [.ref ka, .ref va, .int (Int32.ofNat (taken ks))]) :: (ka, Ia Z ks) :: (va, Ia Z vs) :: σ)) :
    Ct l Z n0 (⟨"org/sqcap/reasoner/IntMap", "put", "(II)I"⟩ : MethodName) prog_54_method_4_code 3 (some .int) ({ frames := 5, cells := 2, slots := 32, locals := 100 } : Room) [.ref a, .int key, .int val] h (fun v h' => ∃ (r sz' : Int32) (m' : Nat) (kb vb : Addr) (ks' vs' : List Int32), v = some (.int r) ∧ m' ≤ 30 ∧ Tab (homeF m') (2 ^ m') ks' vs' (upd M key val) ∧ (∃ z : Nat, ks'[z]? = some 0) ∧ Hp n0 h' ((a, Ob Z "org/sqcap/reasoner/IntMap" NSM [.ref kb, .ref vb, .int sz']) :: (kb, Ia Z ks') :: (vb, Ia Z vs') :: σ)) := by
  refine Ct.intro (plainFor_of_name pn_0) [.val (.ref a), .val (.int key), .val (.int val)] (fun m => by first | (simp [entryFrame, mkF, argsToLocals, Value.category]; done) | (simp [entryFrame, mkF, argsToLocals, Value.category, maxLocals]; done) | rfl) ?_
  intro k hl K
  replace K : Ok k Z n0 "org/sqcap/reasoner/IntMap" ({ frames := 5, cells := 2, slots := 32, locals := 100 } : Room) prog_54_method_4_code 3 (some .int) "put" := K
  refine G.aloadN K D54_4_0 rfl rfl ?_
  refine G.iloadN K D54_4_1 rfl ?_
  refine G.iloadN K D54_4_2 rfl ?_
  refine G.iconst K D54_4_3 1 rfl ?_
  refine G.callP K hl (wd hw 40 rfl) (wd hw 42 rfl) (wd hw 9 rfl) (wd hw 41 rfl) (wd hw 10 rfl) (wd hw 43 rfl) (by decide) pd_2 (H.exa (i := 0) rfl) (ct_storeG l Z a0 hw n0 h a ka va ks vs m M key val σ hm3 hm6 T ht h0 H) 0 rfl (by decide) (by decide) (by decide) (by decide) rfl rfl [.int 1, .int val, .int key] rfl D54_4_4 ?_
  rintro _ h1 ⟨r1, sz1, m1, kb, vb, ks1, vs1, rfl, hm1, T1, hz1, H1⟩
  change G k n0 _ h1 _ _ 7 [.val (.ref a), .val (.int key), .val (.int val)] [.int r1]
  refine G.ret_int K D54_4_7 ?_
  exact ⟨_, _, _, _, _, _, _, rfl, hm1, T1, hz1, H1⟩
theorem D3_0 : Dc method_3_code 0 (.lload_n 0) 1 1 := dc (by decide +kernel) rfl
theorem D3_1 : Dc method_3_code 1 (.bipush 32) 2 3 := dc (by decide +kernel) rfl
theorem D3_3 : Dc method_3_code 3 (.lushr) 1 4 := dc (by decide +kernel) rfl
theorem D3_4 : Dc method_3_code 4 (.l2i) 1 5 := dc (by decide +kernel) rfl
theorem D3_5 : Dc method_3_code 5 (.ldc 30) 2 7 := dc (by decide +kernel) rfl
theorem D3_7 : Dc method_3_code 7 (.iand) 1 8 := dc (by decide +kernel) rfl
theorem D3_8 : Dc method_3_code 8 (.istore_n 3) 1 9 := dc (by decide +kernel) rfl
theorem D3_9 : Dc method_3_code 9 (.iload_n 2) 1 10 := dc (by decide +kernel) rfl
theorem D3_10 : Db method_3_code 10 (.ifCond .eq) 13 18 := db (8) (by decide +kernel) rfl (by decide) (by decide)
theorem D3_13 : Dc method_3_code 13 (.iload_n 3) 1 14 := dc (by decide +kernel) rfl
theorem D3_14 : Dc method_3_code 14 (.bipush 15) 2 16 := dc (by decide +kernel) rfl
theorem D3_16 : Dc method_3_code 16 (.iand) 1 17 := dc (by decide +kernel) rfl
theorem D3_17 : Dc method_3_code 17 (.ireturn) 1 18 := dc (by decide +kernel) rfl
theorem D3_18 : Dc method_3_code 18 (.iload_n 3) 1 19 := dc (by decide +kernel) rfl
theorem D3_19 : Dc method_3_code 19 (.ireturn) 1 20 := dc (by decide +kernel) rfl
theorem D4_0 : Dc method_4_code 0 (.lload_n 0) 1 1 := dc (by decide +kernel) rfl
theorem D4_1 : Dc method_4_code 1 (.l2i) 1 2 := dc (by decide +kernel) rfl
theorem D4_2 : Dc method_4_code 2 (.ldc 30) 2 4 := dc (by decide +kernel) rfl
theorem D4_4 : Dc method_4_code 4 (.iand) 1 5 := dc (by decide +kernel) rfl
theorem D4_5 : Dc method_4_code 5 (.ireturn) 1 6 := dc (by decide +kernel) rfl
def keyF (x : Int64) (s : Int32) : Int32 := if s = 0 then (XT.ushrL x 32).toInt32 &&& 2147483647 else ((XT.ushrL x 32).toInt32 &&& 2147483647) &&& 15
def valF (x : Int64) : Int32 := x.toInt32 &&& 2147483647
theorem own_key1 (x : Int64) (s : Int32) : keyF x s + 1 ≠ 0 := by
  unfold keyF; split
  · exact own_k1 _
  · obtain ⟨n, h1, h2⟩ := own_and_lt ((XT.ushrL x 32).toInt32 &&& 2147483647) 15 (by decide)
    rw [show ((XT.ushrL x 32).toInt32 &&& 2147483647) &&& 15 = Int32.ofNat n from h2, own_nsucc]
    intro e; have := (own_neq (i := n + 1) (n := 0) (by omega) (by decide)).mp e; omega
theorem own_cap31_ : ∀ i : Fin 32, ∃ m : Fin 4, capF (Int32.ofNat i.val) = Int32.ofNat (2 ^ (m.val + 3)) := by decide +kernel
theorem own_cap31 (x : Int32) : ∃ m : Nat, 3 ≤ m ∧ m ≤ 6 ∧ capF (x &&& 31) = Int32.ofNat (2 ^ m) := by
  obtain ⟨n, h1, h2⟩ := own_and_lt x 31 (by decide)
  obtain ⟨m, hm⟩ := own_cap31_ ⟨n, by omega⟩
  refine ⟨m.val + 3, by omega, by have := m.isLt; omega, ?_⟩
  rw [show x &&& 31 = Int32.ofNat n from h2]; exact hm
theorem pn_1 : plainName "org/sqcap/reasoner/IntMapGetPinLaw" = true := by first | (simp [plainName, overriddenIn]; done) | decide +kernel
set_option maxRecDepth 65536 in
set_option maxHeartbeats 40000000 in
theorem ct_key (l : Launch) (Z : State) (a0 : Array Value) (hw : ∀ d ∈ tables_1, d.before a0 Z = true) (n0 : Nat) (h : Heap) (y : Int64) (z : Int32) :
    Ct l Z n0 (⟨"org/sqcap/reasoner/IntMapGetPinLaw", "key", "(JZ)I"⟩ : MethodName) method_3_code 4 (some .int) ({ frames := 0, cells := 0, slots := 0, locals := 0 } : Room) [.long y, .int z] h (fun v h' => v = some (.int (keyF y z)) ∧ h = h') := by
  refine Ct.intro (plainFor_of_name pn_1) [.val (.long y), .second, .val (.int z), .unset] (fun m => by first | (simp [entryFrame, mkF, argsToLocals, Value.category]; done) | (simp [entryFrame, mkF, argsToLocals, Value.category, maxLocals]; done) | rfl) ?_
  intro k hl K
  replace K : Ok k Z n0 "org/sqcap/reasoner/IntMapGetPinLaw" ({ frames := 0, cells := 0, slots := 0, locals := 0 } : Room) method_3_code 4 (some .int) "key" := K
  refine G.lloadN K D3_0 rfl ?_
  refine G.bipush K D3_1 32 rfl ?_
  refine G.lushr K D3_3 ?_
  refine G.l2i K D3_4 ?_
  refine G.ldcI K D3_5 (wd hw 4 rfl) ?_
  refine G.iand K D3_7 ?_
  refine G.istoreN K D3_8 ([.val (.long y), .second, .val (.int z), .val (.int (((XT.ushrL y 32).toInt32) &&& 2147483647))]) rfl ?_
  refine G.iloadN K D3_9 rfl ?_
  refine G.if_eq K D3_10 (fun q71 => ?_) (fun q71 => ?_)
  · refine G.iloadN K D3_18 rfl ?_
    refine G.ret_int K D3_19 ?_
    exact ⟨by rw [keyF, if_pos q71], rfl⟩
  · refine G.iloadN K D3_13 rfl ?_
    refine G.bipush K D3_14 15 rfl ?_
    refine G.iand K D3_16 ?_
    refine G.ret_int K D3_17 ?_
    exact ⟨by rw [keyF, if_neg q71], rfl⟩
set_option maxRecDepth 65536 in
set_option maxHeartbeats 40000000 in
theorem ct_val (l : Launch) (Z : State) (a0 : Array Value) (hw : ∀ d ∈ tables_1, d.before a0 Z = true) (n0 : Nat) (h : Heap) (y : Int64) :
    Ct l Z n0 (⟨"org/sqcap/reasoner/IntMapGetPinLaw", "val", "(J)I"⟩ : MethodName) method_4_code 2 (some .int) ({ frames := 0, cells := 0, slots := 0, locals := 0 } : Room) [.long y] h (fun v h' => v = some (.int (valF y)) ∧ h = h') := by
  refine Ct.intro (plainFor_of_name pn_1) [.val (.long y), .second] (fun m => by first | (simp [entryFrame, mkF, argsToLocals, Value.category]; done) | (simp [entryFrame, mkF, argsToLocals, Value.category, maxLocals]; done) | rfl) ?_
  intro k hl K
  replace K : Ok k Z n0 "org/sqcap/reasoner/IntMapGetPinLaw" ({ frames := 0, cells := 0, slots := 0, locals := 0 } : Room) method_4_code 2 (some .int) "val" := K
  refine G.lloadN K D4_0 rfl ?_
  refine G.l2i K D4_1 ?_
  refine G.ldcI K D4_2 (wd hw 4 rfl) ?_
  refine G.iand K D4_4 ?_
  refine G.ret_int K D4_5 ?_
  exact ⟨rfl, rfl⟩
theorem Dx_0 : Dc code 0 (.iload 10) 2 2 := dc at_0 rfl
theorem Dx_2 : Dc code 2 (.iconst 1) 1 3 := dc at_2 rfl
theorem Dx_3 : Dc code 3 (.iand) 1 4 := dc at_3 rfl
theorem Dx_4 : Db code 4 (.ifCond .eq) 7 11 := db (7) at_4 rfl (by decide) (by decide)
theorem Dx_7 : Dc code 7 (.iconst 1) 1 8 := dc at_7 rfl
theorem Dx_8 : Db code 8 (.goto) 11 12 := db (4) at_8 rfl (by decide) (by decide)
theorem Dx_11 : Dc code 11 (.iconst 0) 1 12 := dc at_11 rfl
theorem Dx_12 : Dc code 12 (.istore 11) 2 14 := dc at_12 rfl
theorem Dx_14 : Dc code 14 (.iload 10) 2 16 := dc at_14 rfl
theorem Dx_16 : Dc code 16 (.bipush 16) 2 18 := dc at_16 rfl
theorem Dx_18 : Dc code 18 (.iand) 1 19 := dc at_18 rfl
theorem Dx_19 : Db code 19 (.ifCond .eq) 22 26 := db (7) at_19 rfl (by decide) (by decide)
theorem Dx_22 : Dc code 22 (.iconst 1) 1 23 := dc at_22 rfl
theorem Dx_23 : Db code 23 (.goto) 26 27 := db (4) at_23 rfl (by decide) (by decide)
theorem Dx_26 : Dc code 26 (.iconst 0) 1 27 := dc at_26 rfl
theorem Dx_27 : Dc code 27 (.istore 12) 2 29 := dc at_27 rfl
theorem Dx_29 : Dc code 29 (.lload_n 0) 1 30 := dc at_29 rfl
theorem Dx_30 : Dc code 30 (.iload 12) 2 32 := dc at_30 rfl
theorem Dx_32 : Dc code 32 (.invokestatic 7) 3 35 := dc at_32 rfl
theorem Dx_35 : Dc code 35 (.istore 13) 2 37 := dc at_35 rfl
theorem Dx_37 : Dc code 37 (.lload_n 2) 1 38 := dc at_37 rfl
theorem Dx_38 : Dc code 38 (.iload 12) 2 40 := dc at_38 rfl
theorem Dx_40 : Dc code 40 (.invokestatic 7) 3 43 := dc at_40 rfl
theorem Dx_43 : Dc code 43 (.istore 14) 2 45 := dc at_43 rfl
theorem Dx_45 : Dc code 45 (.lload 4) 2 47 := dc at_45 rfl
theorem Dx_47 : Dc code 47 (.iload 12) 2 49 := dc at_47 rfl
theorem Dx_49 : Dc code 49 (.invokestatic 7) 3 52 := dc at_49 rfl
theorem Dx_52 : Dc code 52 (.istore 15) 2 54 := dc at_52 rfl
theorem Dx_54 : Dc code 54 (.lload 6) 2 56 := dc at_54 rfl
theorem Dx_56 : Dc code 56 (.iload 12) 2 58 := dc at_56 rfl
theorem Dx_58 : Dc code 58 (.invokestatic 7) 3 61 := dc at_58 rfl
theorem Dx_61 : Dc code 61 (.istore 16) 2 63 := dc at_61 rfl
theorem Dx_63 : Dc code 63 (.lload 8) 2 65 := dc at_63 rfl
theorem Dx_65 : Dc code 65 (.iload 12) 2 67 := dc at_65 rfl
theorem Dx_67 : Dc code 67 (.invokestatic 7) 3 70 := dc at_67 rfl
theorem Dx_70 : Dc code 70 (.istore 17) 2 72 := dc at_70 rfl
theorem Dx_72 : Dc code 72 (.lload_n 0) 1 73 := dc at_72 rfl
theorem Dx_73 : Dc code 73 (.invokestatic 13) 3 76 := dc at_73 rfl
theorem Dx_76 : Dc code 76 (.istore 18) 2 78 := dc at_76 rfl
theorem Dx_78 : Dc code 78 (.lload_n 2) 1 79 := dc at_78 rfl
theorem Dx_79 : Dc code 79 (.invokestatic 13) 3 82 := dc at_79 rfl
theorem Dx_82 : Dc code 82 (.istore 19) 2 84 := dc at_82 rfl
theorem Dx_84 : Dc code 84 (.lload 4) 2 86 := dc at_84 rfl
theorem Dx_86 : Dc code 86 (.invokestatic 13) 3 89 := dc at_86 rfl
theorem Dx_89 : Dc code 89 (.istore 20) 2 91 := dc at_89 rfl
theorem Dx_91 : Dc code 91 (.lload 6) 2 93 := dc at_91 rfl
theorem Dx_93 : Dc code 93 (.invokestatic 13) 3 96 := dc at_93 rfl
theorem Dx_96 : Dc code 96 (.istore 21) 2 98 := dc at_96 rfl
theorem Dx_98 : Dc code 98 (.lload 8) 2 100 := dc at_98 rfl
theorem Dx_100 : Dc code 100 (.invokestatic 13) 3 103 := dc at_100 rfl
theorem Dx_103 : Dc code 103 (.istore 22) 2 105 := dc at_103 rfl
theorem Dx_105 : Dc code 105 (.iload 10) 2 107 := dc at_105 rfl
theorem Dx_107 : Dc code 107 (.iconst 5) 1 108 := dc at_107 rfl
theorem Dx_108 : Dc code 108 (.iushr) 1 109 := dc at_108 rfl
theorem Dx_109 : Dc code 109 (.bipush 31) 2 111 := dc at_109 rfl
theorem Dx_111 : Dc code 111 (.iand) 1 112 := dc at_111 rfl
theorem Dx_112 : Dc code 112 (.istore 23) 2 114 := dc at_112 rfl
theorem Dx_114 : Dc code 114 (.iload 10) 2 116 := dc at_114 rfl
theorem Dx_116 : Dc code 116 (.iconst 1) 1 117 := dc at_116 rfl
theorem Dx_117 : Dc code 117 (.iushr) 1 118 := dc at_117 rfl
theorem Dx_118 : Dc code 118 (.bipush 7) 2 120 := dc at_118 rfl
theorem Dx_120 : Dc code 120 (.iand) 1 121 := dc at_120 rfl
theorem Dx_121 : Dc code 121 (.iconst 5) 1 122 := dc at_121 rfl
theorem Dx_122 : Dc code 122 (.irem) 1 123 := dc at_122 rfl
theorem Dx_123 : Dc code 123 (.istore 24) 2 125 := dc at_123 rfl
theorem Dx_125 : Dc code 125 (.iload 24) 2 127 := dc at_125 rfl
theorem Dx_127 : Db code 127 (.ifCond .ne) 130 137 := db (10) at_127 rfl (by decide) (by decide)
theorem Dx_130 : Dc code 130 (.iload 13) 2 132 := dc at_130 rfl
theorem Dx_132 : Dc code 132 (.istore 25) 2 134 := dc at_132 rfl
theorem Dx_134 : Db code 134 (.goto) 137 180 := db (46) at_134 rfl (by decide) (by decide)
theorem Dx_137 : Dc code 137 (.iload 24) 2 139 := dc at_137 rfl
theorem Dx_139 : Dc code 139 (.iconst 1) 1 140 := dc at_139 rfl
theorem Dx_140 : Db code 140 (.if_icmp .ne) 143 150 := db (10) at_140 rfl (by decide) (by decide)
theorem Dx_143 : Dc code 143 (.iload 14) 2 145 := dc at_143 rfl
theorem Dx_145 : Dc code 145 (.istore 25) 2 147 := dc at_145 rfl
theorem Dx_147 : Db code 147 (.goto) 150 180 := db (33) at_147 rfl (by decide) (by decide)
theorem Dx_150 : Dc code 150 (.iload 24) 2 152 := dc at_150 rfl
theorem Dx_152 : Dc code 152 (.iconst 2) 1 153 := dc at_152 rfl
theorem Dx_153 : Db code 153 (.if_icmp .ne) 156 163 := db (10) at_153 rfl (by decide) (by decide)
theorem Dx_156 : Dc code 156 (.iload 15) 2 158 := dc at_156 rfl
theorem Dx_158 : Dc code 158 (.istore 25) 2 160 := dc at_158 rfl
theorem Dx_160 : Db code 160 (.goto) 163 180 := db (20) at_160 rfl (by decide) (by decide)
theorem Dx_163 : Dc code 163 (.iload 24) 2 165 := dc at_163 rfl
theorem Dx_165 : Dc code 165 (.iconst 3) 1 166 := dc at_165 rfl
theorem Dx_166 : Db code 166 (.if_icmp .ne) 169 176 := db (10) at_166 rfl (by decide) (by decide)
theorem Dx_169 : Dc code 169 (.iload 16) 2 171 := dc at_169 rfl
theorem Dx_171 : Dc code 171 (.istore 25) 2 173 := dc at_171 rfl
theorem Dx_173 : Db code 173 (.goto) 176 180 := db (7) at_173 rfl (by decide) (by decide)
theorem Dx_176 : Dc code 176 (.iload 17) 2 178 := dc at_176 rfl
theorem Dx_178 : Dc code 178 (.istore 25) 2 180 := dc at_178 rfl
theorem Dx_180 : Dc code 180 (.iload 11) 2 182 := dc at_180 rfl
theorem Dx_182 : Db code 182 (.ifCond .eq) 185 199 := db (17) at_182 rfl (by decide) (by decide)
theorem Dx_185 : Dc code 185 (.iload 25) 2 187 := dc at_185 rfl
theorem Dx_187 : Dc code 187 (.iload 17) 2 189 := dc at_187 rfl
theorem Dx_189 : Db code 189 (.if_icmp .ne) 192 199 := db (10) at_189 rfl (by decide) (by decide)
theorem Dx_192 : Dc code 192 (.iload 22) 2 194 := dc at_192 rfl
theorem Dx_194 : Dc code 194 (.istore 26) 2 196 := dc at_194 rfl
theorem Dx_196 : Db code 196 (.goto) 199 258 := db (62) at_196 rfl (by decide) (by decide)
theorem Dx_199 : Dc code 199 (.iload 25) 2 201 := dc at_199 rfl
theorem Dx_201 : Dc code 201 (.iload 16) 2 203 := dc at_201 rfl
theorem Dx_203 : Db code 203 (.if_icmp .ne) 206 213 := db (10) at_203 rfl (by decide) (by decide)
theorem Dx_206 : Dc code 206 (.iload 21) 2 208 := dc at_206 rfl
theorem Dx_208 : Dc code 208 (.istore 26) 2 210 := dc at_208 rfl
theorem Dx_210 : Db code 210 (.goto) 213 258 := db (48) at_210 rfl (by decide) (by decide)
theorem Dx_213 : Dc code 213 (.iload 25) 2 215 := dc at_213 rfl
theorem Dx_215 : Dc code 215 (.iload 15) 2 217 := dc at_215 rfl
theorem Dx_217 : Db code 217 (.if_icmp .ne) 220 227 := db (10) at_217 rfl (by decide) (by decide)
theorem Dx_220 : Dc code 220 (.iload 20) 2 222 := dc at_220 rfl
theorem Dx_222 : Dc code 222 (.istore 26) 2 224 := dc at_222 rfl
theorem Dx_224 : Db code 224 (.goto) 227 258 := db (34) at_224 rfl (by decide) (by decide)
theorem Dx_227 : Dc code 227 (.iload 25) 2 229 := dc at_227 rfl
theorem Dx_229 : Dc code 229 (.iload 14) 2 231 := dc at_229 rfl
theorem Dx_231 : Db code 231 (.if_icmp .ne) 234 241 := db (10) at_231 rfl (by decide) (by decide)
theorem Dx_234 : Dc code 234 (.iload 19) 2 236 := dc at_234 rfl
theorem Dx_236 : Dc code 236 (.istore 26) 2 238 := dc at_236 rfl
theorem Dx_238 : Db code 238 (.goto) 241 258 := db (20) at_238 rfl (by decide) (by decide)
theorem Dx_241 : Dc code 241 (.iload 25) 2 243 := dc at_241 rfl
theorem Dx_243 : Dc code 243 (.iload 13) 2 245 := dc at_243 rfl
theorem Dx_245 : Db code 245 (.if_icmp .ne) 248 255 := db (10) at_245 rfl (by decide) (by decide)
theorem Dx_248 : Dc code 248 (.iload 18) 2 250 := dc at_248 rfl
theorem Dx_250 : Dc code 250 (.istore 26) 2 252 := dc at_250 rfl
theorem Dx_252 : Db code 252 (.goto) 255 258 := db (6) at_252 rfl (by decide) (by decide)
theorem Dx_255 : Dc code 255 (.iconst (-1)) 1 256 := dc at_255 rfl
theorem Dx_256 : Dc code 256 (.istore 26) 2 258 := dc at_256 rfl
theorem Dx_258 : Dc code 258 (.new 17) 3 261 := dc at_258 rfl
theorem Dx_261 : Dc code 261 (.dup) 1 262 := dc at_261 rfl
theorem Dx_262 : Dc code 262 (.iload 23) 2 264 := dc at_262 rfl
theorem Dx_264 : Dc code 264 (.invokespecial 19) 3 267 := dc at_264 rfl
theorem Dx_267 : Dc code 267 (.astore 27) 2 269 := dc at_267 rfl
theorem Dx_269 : Dc code 269 (.aload 27) 2 271 := dc at_269 rfl
theorem Dx_271 : Dc code 271 (.iload 13) 2 273 := dc at_271 rfl
theorem Dx_273 : Dc code 273 (.iload 18) 2 275 := dc at_273 rfl
theorem Dx_275 : Dc code 275 (.invokevirtual 22) 3 278 := dc at_275 rfl
theorem Dx_278 : Dc code 278 (.pop) 1 279 := dc at_278 rfl
theorem Dx_279 : Dc code 279 (.aload 27) 2 281 := dc at_279 rfl
theorem Dx_281 : Dc code 281 (.iload 14) 2 283 := dc at_281 rfl
theorem Dx_283 : Dc code 283 (.iload 19) 2 285 := dc at_283 rfl
theorem Dx_285 : Dc code 285 (.invokevirtual 22) 3 288 := dc at_285 rfl
theorem Dx_288 : Dc code 288 (.pop) 1 289 := dc at_288 rfl
theorem Dx_289 : Dc code 289 (.aload 27) 2 291 := dc at_289 rfl
theorem Dx_291 : Dc code 291 (.iload 15) 2 293 := dc at_291 rfl
theorem Dx_293 : Dc code 293 (.iload 20) 2 295 := dc at_293 rfl
theorem Dx_295 : Dc code 295 (.invokevirtual 22) 3 298 := dc at_295 rfl
theorem Dx_298 : Dc code 298 (.pop) 1 299 := dc at_298 rfl
theorem Dx_299 : Dc code 299 (.aload 27) 2 301 := dc at_299 rfl
theorem Dx_301 : Dc code 301 (.iload 16) 2 303 := dc at_301 rfl
theorem Dx_303 : Dc code 303 (.iload 21) 2 305 := dc at_303 rfl
theorem Dx_305 : Dc code 305 (.invokevirtual 22) 3 308 := dc at_305 rfl
theorem Dx_308 : Dc code 308 (.pop) 1 309 := dc at_308 rfl
theorem Dx_309 : Dc code 309 (.iload 11) 2 311 := dc at_309 rfl
theorem Dx_311 : Db code 311 (.ifCond .eq) 314 324 := db (13) at_311 rfl (by decide) (by decide)
theorem Dx_314 : Dc code 314 (.aload 27) 2 316 := dc at_314 rfl
theorem Dx_316 : Dc code 316 (.iload 17) 2 318 := dc at_316 rfl
theorem Dx_318 : Dc code 318 (.iload 22) 2 320 := dc at_318 rfl
theorem Dx_320 : Dc code 320 (.invokevirtual 22) 3 323 := dc at_320 rfl
theorem Dx_323 : Dc code 323 (.pop) 1 324 := dc at_323 rfl
theorem Dx_324 : Dc code 324 (.aload 27) 2 326 := dc at_324 rfl
theorem Dx_326 : Dc code 326 (.iload 25) 2 328 := dc at_326 rfl
theorem Dx_328 : Dc code 328 (.invokevirtual 26) 3 331 := dc at_328 rfl
theorem Dx_331 : Dc code 331 (.iload 26) 2 333 := dc at_331 rfl
theorem Dx_333 : Db code 333 (.if_icmp .ne) 336 340 := db (7) at_333 rfl (by decide) (by decide)
theorem Dx_336 : Dc code 336 (.iconst 1) 1 337 := dc at_336 rfl
theorem Dx_337 : Db code 337 (.goto) 340 341 := db (4) at_337 rfl (by decide) (by decide)
theorem Dx_340 : Dc code 340 (.iconst 0) 1 341 := dc at_340 rfl
theorem Dx_341 : Dc code 341 (.ireturn) 1 342 := dc at_341 rfl
set_option maxRecDepth 65536 in
set_option maxHeartbeats 40000000 in
theorem ct_law (l : Launch) (Z : State) (a0 : Array Value) (hw : ∀ d ∈ tables_1, d.before a0 Z = true) (n0 : Nat) (h : Heap) (p0 p1 p2 p3 p4 : Int64) (p5 : Int32) :
    Ct l Z n0 x code maxLocals ret room_1 [.long p0, .long p1, .long p2, .long p3, .long p4, .int p5] h (fun v h' => v = some (.int 1)) := by
  refine Ct.intro (plainFor_of_name pn_1) [.val (.long p0), .second, .val (.long p1), .second, .val (.long p2), .second, .val (.long p3), .second, .val (.long p4), .second, .val (.int p5), .unset, .unset, .unset, .unset, .unset, .unset, .unset, .unset, .unset, .unset, .unset, .unset, .unset, .unset, .unset, .unset, .unset] (fun m => by first | (simp [entryFrame, mkF, argsToLocals, Value.category]; done) | (simp [entryFrame, mkF, argsToLocals, Value.category, maxLocals]; done) | rfl) ?_
  intro k hl K
  replace K : Ok k Z n0 "org/sqcap/reasoner/IntMapGetPinLaw" room_1 code 28 (some .boolean) "law" := K
  have T29 : ∀ we sm : Int32, G k n0 (fun v h' => v = some (.int 1)) h 0 0 29 [.val (.long p0), .second, .val (.long p1), .second, .val (.long p2), .second, .val (.long p3), .second, .val (.long p4), .second, .val (.int p5), .val (.int we), .val (.int sm), .unset, .unset, .unset, .unset, .unset, .unset, .unset, .unset, .unset, .unset, .unset, .unset, .unset, .unset, .unset] [] := by
    intro we sm
    refine G.lloadN K Dx_29 rfl ?_
    refine G.iload K Dx_30 rfl ?_
    refine G.callS K hl (wd hw 0 rfl) (wd hw 1 rfl) (wd hw 2 rfl) (wd hw 3 rfl) (by decide) pd_4 (ct_key l Z a0 hw n0 _ p0 sm) 0 rfl (by decide) (by decide) (by decide) (by decide) rfl rfl [.int sm, .long p0] rfl Dx_32 ?_
    rintro _ _ ⟨rfl, rfl⟩
    change G k n0 _ h _ _ 35 [.val (.long p0), .second, .val (.long p1), .second, .val (.long p2), .second, .val (.long p3), .second, .val (.long p4), .second, .val (.int p5), .val (.int we), .val (.int sm), .unset, .unset, .unset, .unset, .unset, .unset, .unset, .unset, .unset, .unset, .unset, .unset, .unset, .unset, .unset] [.int (keyF p0 sm)]
    refine G.istore K Dx_35 ([.val (.long p0), .second, .val (.long p1), .second, .val (.long p2), .second, .val (.long p3), .second, .val (.long p4), .second, .val (.int p5), .val (.int we), .val (.int sm), .val (.int (keyF p0 sm)), .unset, .unset, .unset, .unset, .unset, .unset, .unset, .unset, .unset, .unset, .unset, .unset, .unset, .unset]) rfl ?_
    refine G.lloadN K Dx_37 rfl ?_
    refine G.iload K Dx_38 rfl ?_
    refine G.callS K hl (wd hw 0 rfl) (wd hw 1 rfl) (wd hw 2 rfl) (wd hw 3 rfl) (by decide) pd_4 (ct_key l Z a0 hw n0 _ p1 sm) 0 rfl (by decide) (by decide) (by decide) (by decide) rfl rfl [.int sm, .long p1] rfl Dx_40 ?_
    rintro _ _ ⟨rfl, rfl⟩
    change G k n0 _ h _ _ 43 [.val (.long p0), .second, .val (.long p1), .second, .val (.long p2), .second, .val (.long p3), .second, .val (.long p4), .second, .val (.int p5), .val (.int we), .val (.int sm), .val (.int (keyF p0 sm)), .unset, .unset, .unset, .unset, .unset, .unset, .unset, .unset, .unset, .unset, .unset, .unset, .unset, .unset] [.int (keyF p1 sm)]
    refine G.istore K Dx_43 ([.val (.long p0), .second, .val (.long p1), .second, .val (.long p2), .second, .val (.long p3), .second, .val (.long p4), .second, .val (.int p5), .val (.int we), .val (.int sm), .val (.int (keyF p0 sm)), .val (.int (keyF p1 sm)), .unset, .unset, .unset, .unset, .unset, .unset, .unset, .unset, .unset, .unset, .unset, .unset, .unset]) rfl ?_
    refine G.lload K Dx_45 rfl ?_
    refine G.iload K Dx_47 rfl ?_
    refine G.callS K hl (wd hw 0 rfl) (wd hw 1 rfl) (wd hw 2 rfl) (wd hw 3 rfl) (by decide) pd_4 (ct_key l Z a0 hw n0 _ p2 sm) 0 rfl (by decide) (by decide) (by decide) (by decide) rfl rfl [.int sm, .long p2] rfl Dx_49 ?_
    rintro _ _ ⟨rfl, rfl⟩
    change G k n0 _ h _ _ 52 [.val (.long p0), .second, .val (.long p1), .second, .val (.long p2), .second, .val (.long p3), .second, .val (.long p4), .second, .val (.int p5), .val (.int we), .val (.int sm), .val (.int (keyF p0 sm)), .val (.int (keyF p1 sm)), .unset, .unset, .unset, .unset, .unset, .unset, .unset, .unset, .unset, .unset, .unset, .unset, .unset] [.int (keyF p2 sm)]
    refine G.istore K Dx_52 ([.val (.long p0), .second, .val (.long p1), .second, .val (.long p2), .second, .val (.long p3), .second, .val (.long p4), .second, .val (.int p5), .val (.int we), .val (.int sm), .val (.int (keyF p0 sm)), .val (.int (keyF p1 sm)), .val (.int (keyF p2 sm)), .unset, .unset, .unset, .unset, .unset, .unset, .unset, .unset, .unset, .unset, .unset, .unset]) rfl ?_
    refine G.lload K Dx_54 rfl ?_
    refine G.iload K Dx_56 rfl ?_
    refine G.callS K hl (wd hw 0 rfl) (wd hw 1 rfl) (wd hw 2 rfl) (wd hw 3 rfl) (by decide) pd_4 (ct_key l Z a0 hw n0 _ p3 sm) 0 rfl (by decide) (by decide) (by decide) (by decide) rfl rfl [.int sm, .long p3] rfl Dx_58 ?_
    rintro _ _ ⟨rfl, rfl⟩
    change G k n0 _ h _ _ 61 [.val (.long p0), .second, .val (.long p1), .second, .val (.long p2), .second, .val (.long p3), .second, .val (.long p4), .second, .val (.int p5), .val (.int we), .val (.int sm), .val (.int (keyF p0 sm)), .val (.int (keyF p1 sm)), .val (.int (keyF p2 sm)), .unset, .unset, .unset, .unset, .unset, .unset, .unset, .unset, .unset, .unset, .unset, .unset] [.int (keyF p3 sm)]
    refine G.istore K Dx_61 ([.val (.long p0), .second, .val (.long p1), .second, .val (.long p2), .second, .val (.long p3), .second, .val (.long p4), .second, .val (.int p5), .val (.int we), .val (.int sm), .val (.int (keyF p0 sm)), .val (.int (keyF p1 sm)), .val (.int (keyF p2 sm)), .val (.int (keyF p3 sm)), .unset, .unset, .unset, .unset, .unset, .unset, .unset, .unset, .unset, .unset, .unset]) rfl ?_
    refine G.lload K Dx_63 rfl ?_
    refine G.iload K Dx_65 rfl ?_
    refine G.callS K hl (wd hw 0 rfl) (wd hw 1 rfl) (wd hw 2 rfl) (wd hw 3 rfl) (by decide) pd_4 (ct_key l Z a0 hw n0 _ p4 sm) 0 rfl (by decide) (by decide) (by decide) (by decide) rfl rfl [.int sm, .long p4] rfl Dx_67 ?_
    rintro _ _ ⟨rfl, rfl⟩
    change G k n0 _ h _ _ 70 [.val (.long p0), .second, .val (.long p1), .second, .val (.long p2), .second, .val (.long p3), .second, .val (.long p4), .second, .val (.int p5), .val (.int we), .val (.int sm), .val (.int (keyF p0 sm)), .val (.int (keyF p1 sm)), .val (.int (keyF p2 sm)), .val (.int (keyF p3 sm)), .unset, .unset, .unset, .unset, .unset, .unset, .unset, .unset, .unset, .unset, .unset] [.int (keyF p4 sm)]
    refine G.istore K Dx_70 ([.val (.long p0), .second, .val (.long p1), .second, .val (.long p2), .second, .val (.long p3), .second, .val (.long p4), .second, .val (.int p5), .val (.int we), .val (.int sm), .val (.int (keyF p0 sm)), .val (.int (keyF p1 sm)), .val (.int (keyF p2 sm)), .val (.int (keyF p3 sm)), .val (.int (keyF p4 sm)), .unset, .unset, .unset, .unset, .unset, .unset, .unset, .unset, .unset, .unset]) rfl ?_
    refine G.lloadN K Dx_72 rfl ?_
    refine G.callS K hl (wd hw 5 rfl) (wd hw 6 rfl) (wd hw 2 rfl) (wd hw 7 rfl) (by decide) pd_5 (ct_val l Z a0 hw n0 _ p0) 0 rfl (by decide) (by decide) (by decide) (by decide) rfl rfl [.long p0] rfl Dx_73 ?_
    rintro _ _ ⟨rfl, rfl⟩
    change G k n0 _ h _ _ 76 [.val (.long p0), .second, .val (.long p1), .second, .val (.long p2), .second, .val (.long p3), .second, .val (.long p4), .second, .val (.int p5), .val (.int we), .val (.int sm), .val (.int (keyF p0 sm)), .val (.int (keyF p1 sm)), .val (.int (keyF p2 sm)), .val (.int (keyF p3 sm)), .val (.int (keyF p4 sm)), .unset, .unset, .unset, .unset, .unset, .unset, .unset, .unset, .unset, .unset] [.int (valF p0)]
    refine G.istore K Dx_76 ([.val (.long p0), .second, .val (.long p1), .second, .val (.long p2), .second, .val (.long p3), .second, .val (.long p4), .second, .val (.int p5), .val (.int we), .val (.int sm), .val (.int (keyF p0 sm)), .val (.int (keyF p1 sm)), .val (.int (keyF p2 sm)), .val (.int (keyF p3 sm)), .val (.int (keyF p4 sm)), .val (.int (valF p0)), .unset, .unset, .unset, .unset, .unset, .unset, .unset, .unset, .unset]) rfl ?_
    refine G.lloadN K Dx_78 rfl ?_
    refine G.callS K hl (wd hw 5 rfl) (wd hw 6 rfl) (wd hw 2 rfl) (wd hw 7 rfl) (by decide) pd_5 (ct_val l Z a0 hw n0 _ p1) 0 rfl (by decide) (by decide) (by decide) (by decide) rfl rfl [.long p1] rfl Dx_79 ?_
    rintro _ _ ⟨rfl, rfl⟩
    change G k n0 _ h _ _ 82 [.val (.long p0), .second, .val (.long p1), .second, .val (.long p2), .second, .val (.long p3), .second, .val (.long p4), .second, .val (.int p5), .val (.int we), .val (.int sm), .val (.int (keyF p0 sm)), .val (.int (keyF p1 sm)), .val (.int (keyF p2 sm)), .val (.int (keyF p3 sm)), .val (.int (keyF p4 sm)), .val (.int (valF p0)), .unset, .unset, .unset, .unset, .unset, .unset, .unset, .unset, .unset] [.int (valF p1)]
    refine G.istore K Dx_82 ([.val (.long p0), .second, .val (.long p1), .second, .val (.long p2), .second, .val (.long p3), .second, .val (.long p4), .second, .val (.int p5), .val (.int we), .val (.int sm), .val (.int (keyF p0 sm)), .val (.int (keyF p1 sm)), .val (.int (keyF p2 sm)), .val (.int (keyF p3 sm)), .val (.int (keyF p4 sm)), .val (.int (valF p0)), .val (.int (valF p1)), .unset, .unset, .unset, .unset, .unset, .unset, .unset, .unset]) rfl ?_
    refine G.lload K Dx_84 rfl ?_
    refine G.callS K hl (wd hw 5 rfl) (wd hw 6 rfl) (wd hw 2 rfl) (wd hw 7 rfl) (by decide) pd_5 (ct_val l Z a0 hw n0 _ p2) 0 rfl (by decide) (by decide) (by decide) (by decide) rfl rfl [.long p2] rfl Dx_86 ?_
    rintro _ _ ⟨rfl, rfl⟩
    change G k n0 _ h _ _ 89 [.val (.long p0), .second, .val (.long p1), .second, .val (.long p2), .second, .val (.long p3), .second, .val (.long p4), .second, .val (.int p5), .val (.int we), .val (.int sm), .val (.int (keyF p0 sm)), .val (.int (keyF p1 sm)), .val (.int (keyF p2 sm)), .val (.int (keyF p3 sm)), .val (.int (keyF p4 sm)), .val (.int (valF p0)), .val (.int (valF p1)), .unset, .unset, .unset, .unset, .unset, .unset, .unset, .unset] [.int (valF p2)]
    refine G.istore K Dx_89 ([.val (.long p0), .second, .val (.long p1), .second, .val (.long p2), .second, .val (.long p3), .second, .val (.long p4), .second, .val (.int p5), .val (.int we), .val (.int sm), .val (.int (keyF p0 sm)), .val (.int (keyF p1 sm)), .val (.int (keyF p2 sm)), .val (.int (keyF p3 sm)), .val (.int (keyF p4 sm)), .val (.int (valF p0)), .val (.int (valF p1)), .val (.int (valF p2)), .unset, .unset, .unset, .unset, .unset, .unset, .unset]) rfl ?_
    refine G.lload K Dx_91 rfl ?_
    refine G.callS K hl (wd hw 5 rfl) (wd hw 6 rfl) (wd hw 2 rfl) (wd hw 7 rfl) (by decide) pd_5 (ct_val l Z a0 hw n0 _ p3) 0 rfl (by decide) (by decide) (by decide) (by decide) rfl rfl [.long p3] rfl Dx_93 ?_
    rintro _ _ ⟨rfl, rfl⟩
    change G k n0 _ h _ _ 96 [.val (.long p0), .second, .val (.long p1), .second, .val (.long p2), .second, .val (.long p3), .second, .val (.long p4), .second, .val (.int p5), .val (.int we), .val (.int sm), .val (.int (keyF p0 sm)), .val (.int (keyF p1 sm)), .val (.int (keyF p2 sm)), .val (.int (keyF p3 sm)), .val (.int (keyF p4 sm)), .val (.int (valF p0)), .val (.int (valF p1)), .val (.int (valF p2)), .unset, .unset, .unset, .unset, .unset, .unset, .unset] [.int (valF p3)]
    refine G.istore K Dx_96 ([.val (.long p0), .second, .val (.long p1), .second, .val (.long p2), .second, .val (.long p3), .second, .val (.long p4), .second, .val (.int p5), .val (.int we), .val (.int sm), .val (.int (keyF p0 sm)), .val (.int (keyF p1 sm)), .val (.int (keyF p2 sm)), .val (.int (keyF p3 sm)), .val (.int (keyF p4 sm)), .val (.int (valF p0)), .val (.int (valF p1)), .val (.int (valF p2)), .val (.int (valF p3)), .unset, .unset, .unset, .unset, .unset, .unset]) rfl ?_
    refine G.lload K Dx_98 rfl ?_
    refine G.callS K hl (wd hw 5 rfl) (wd hw 6 rfl) (wd hw 2 rfl) (wd hw 7 rfl) (by decide) pd_5 (ct_val l Z a0 hw n0 _ p4) 0 rfl (by decide) (by decide) (by decide) (by decide) rfl rfl [.long p4] rfl Dx_100 ?_
    rintro _ _ ⟨rfl, rfl⟩
    change G k n0 _ h _ _ 103 [.val (.long p0), .second, .val (.long p1), .second, .val (.long p2), .second, .val (.long p3), .second, .val (.long p4), .second, .val (.int p5), .val (.int we), .val (.int sm), .val (.int (keyF p0 sm)), .val (.int (keyF p1 sm)), .val (.int (keyF p2 sm)), .val (.int (keyF p3 sm)), .val (.int (keyF p4 sm)), .val (.int (valF p0)), .val (.int (valF p1)), .val (.int (valF p2)), .val (.int (valF p3)), .unset, .unset, .unset, .unset, .unset, .unset] [.int (valF p4)]
    refine G.istore K Dx_103 ([.val (.long p0), .second, .val (.long p1), .second, .val (.long p2), .second, .val (.long p3), .second, .val (.long p4), .second, .val (.int p5), .val (.int we), .val (.int sm), .val (.int (keyF p0 sm)), .val (.int (keyF p1 sm)), .val (.int (keyF p2 sm)), .val (.int (keyF p3 sm)), .val (.int (keyF p4 sm)), .val (.int (valF p0)), .val (.int (valF p1)), .val (.int (valF p2)), .val (.int (valF p3)), .val (.int (valF p4)), .unset, .unset, .unset, .unset, .unset]) rfl ?_
    refine G.iload K Dx_105 rfl ?_
    refine G.iconst K Dx_107 5 rfl ?_
    refine G.iushr K Dx_108 ?_
    refine G.bipush K Dx_109 31 rfl ?_
    refine G.iand K Dx_111 ?_
    refine G.istore K Dx_112 ([.val (.long p0), .second, .val (.long p1), .second, .val (.long p2), .second, .val (.long p3), .second, .val (.long p4), .second, .val (.int p5), .val (.int we), .val (.int sm), .val (.int (keyF p0 sm)), .val (.int (keyF p1 sm)), .val (.int (keyF p2 sm)), .val (.int (keyF p3 sm)), .val (.int (keyF p4 sm)), .val (.int (valF p0)), .val (.int (valF p1)), .val (.int (valF p2)), .val (.int (valF p3)), .val (.int (valF p4)), .val (.int ((XT.ushr p5 5) &&& 31)), .unset, .unset, .unset, .unset]) rfl ?_
    refine G.iload K Dx_114 rfl ?_
    refine G.iconst K Dx_116 1 rfl ?_
    refine G.iushr K Dx_117 ?_
    refine G.bipush K Dx_118 7 rfl ?_
    refine G.iand K Dx_120 ?_
    refine G.iconst K Dx_121 5 rfl ?_
    refine G.irem K Dx_122 (by decide) ?_
    refine G.istore K Dx_123 ([.val (.long p0), .second, .val (.long p1), .second, .val (.long p2), .second, .val (.long p3), .second, .val (.long p4), .second, .val (.int p5), .val (.int we), .val (.int sm), .val (.int (keyF p0 sm)), .val (.int (keyF p1 sm)), .val (.int (keyF p2 sm)), .val (.int (keyF p3 sm)), .val (.int (keyF p4 sm)), .val (.int (valF p0)), .val (.int (valF p1)), .val (.int (valF p2)), .val (.int (valF p3)), .val (.int (valF p4)), .val (.int ((XT.ushr p5 5) &&& 31)), .val (.int (((XT.ushr p5 1) &&& 7) % 5)), .unset, .unset, .unset]) rfl ?_
    obtain ⟨m, hm3, hm6, he⟩ := own_cap31 (XT.ushr p5 5)
    have hpa : 2 ^ 3 ≤ 2 ^ m := Nat.pow_le_pow_right (by decide) hm3
    have hpb : 2 ^ m ≤ 2 ^ 6 := Nat.pow_le_pow_right (by decide) hm6
    have hpc : 2 ^ 2 ≤ 2 ^ (m - 1) := Nat.pow_le_pow_right (by decide) (by omega)
    have T180 : ∀ qk : Int32, qk + 1 ≠ 0 → G k n0 (fun v h' => v = some (.int 1)) h 0 0 180 [.val (.long p0), .second, .val (.long p1), .second, .val (.long p2), .second, .val (.long p3), .second, .val (.long p4), .second, .val (.int p5), .val (.int we), .val (.int sm), .val (.int (keyF p0 sm)), .val (.int (keyF p1 sm)), .val (.int (keyF p2 sm)), .val (.int (keyF p3 sm)), .val (.int (keyF p4 sm)), .val (.int (valF p0)), .val (.int (valF p1)), .val (.int (valF p2)), .val (.int (valF p3)), .val (.int (valF p4)), .val (.int ((XT.ushr p5 5) &&& 31)), .val (.int (((XT.ushr p5 1) &&& 7) % 5)), .val (.int qk), .unset, .unset] [] := by
      intro qk hqk
      have T258 : ∀ want : Int32, (if we = 0 then (upd (upd (upd (upd (fun _ => none) (keyF p0 sm) (valF p0)) (keyF p1 sm) (valF p1)) (keyF p2 sm) (valF p2)) (keyF p3 sm) (valF p3)) qk else (upd (upd (upd (upd (upd (fun _ => none) (keyF p0 sm) (valF p0)) (keyF p1 sm) (valF p1)) (keyF p2 sm) (valF p2)) (keyF p3 sm) (valF p3)) (keyF p4 sm) (valF p4)) qk).getD (-1) = want → G k n0 (fun v h' => v = some (.int 1)) h 0 0 258 [.val (.long p0), .second, .val (.long p1), .second, .val (.long p2), .second, .val (.long p3), .second, .val (.long p4), .second, .val (.int p5), .val (.int we), .val (.int sm), .val (.int (keyF p0 sm)), .val (.int (keyF p1 sm)), .val (.int (keyF p2 sm)), .val (.int (keyF p3 sm)), .val (.int (keyF p4 sm)), .val (.int (valF p0)), .val (.int (valF p1)), .val (.int (valF p2)), .val (.int (valF p3)), .val (.int (valF p4)), .val (.int ((XT.ushr p5 5) &&& 31)), .val (.int (((XT.ushr p5 1) &&& 7) % 5)), .val (.int qk), .val (.int want), .unset] [] := by
        intro want hwant
        refine G.new K (wd hw 8 rfl) (wd hw 9 rfl) (wd hw 10 rfl) (cf_NSM hw) (vs := [.null, .null, .int 0]) (by rfl) (Hp.nil (n0 := n0) (h := h)) (by decide) (by decide) Dx_258 ?_
        intro a72 h73 H73
        change Hp n0 h73 [(a72, Ob Z "org/sqcap/reasoner/IntMap" NSM [.null, .null, .int 0])] at H73
        refine G.dup K Dx_261 rfl ?_
        refine G.iload K Dx_262 rfl ?_
        refine G.callI K hl rfl (wd hw 11 rfl) (wd hw 12 rfl) (wd hw 10 rfl) (wd hw 13 rfl) (by decide) pd_6 (ct_init l Z a0 hw n0 h73 a72 ((XT.ushr p5 5) &&& 31) m [] (by omega) he H73) 1 rfl (by decide) (by decide) (by decide) (by decide) rfl rfl [.int ((XT.ushr p5 5) &&& 31)] rfl Dx_264 ?_
        rintro _ h74 ⟨rfl, ka74, va74, H74⟩
        have T74 := Tab.empty (c := 2 ^ m) (own_home_lt m)
        have t74 : taken (List.replicate (2 ^ m) 0) ≤ 0 := by rw [taken_zero]; exact Nat.le_refl _
        replace H74 : Hp n0 h74 [(a72, Ob Z "org/sqcap/reasoner/IntMap" NSM [.ref ka74, .ref va74, .int (Int32.ofNat (taken (List.replicate (2 ^ m) 0)))]), (ka74, Ia Z (List.replicate (2 ^ m) 0)), (va74, Ia Z (List.replicate (2 ^ m) 0))] := by rw [taken_zero]; exact H74
        change G k n0 _ h74 _ _ 267 [.val (.long p0), .second, .val (.long p1), .second, .val (.long p2), .second, .val (.long p3), .second, .val (.long p4), .second, .val (.int p5), .val (.int we), .val (.int sm), .val (.int (keyF p0 sm)), .val (.int (keyF p1 sm)), .val (.int (keyF p2 sm)), .val (.int (keyF p3 sm)), .val (.int (keyF p4 sm)), .val (.int (valF p0)), .val (.int (valF p1)), .val (.int (valF p2)), .val (.int (valF p3)), .val (.int (valF p4)), .val (.int ((XT.ushr p5 5) &&& 31)), .val (.int (((XT.ushr p5 1) &&& 7) % 5)), .val (.int qk), .val (.int want), .unset] [.ref a72]
        refine G.astore K Dx_267 rfl ([.val (.long p0), .second, .val (.long p1), .second, .val (.long p2), .second, .val (.long p3), .second, .val (.long p4), .second, .val (.int p5), .val (.int we), .val (.int sm), .val (.int (keyF p0 sm)), .val (.int (keyF p1 sm)), .val (.int (keyF p2 sm)), .val (.int (keyF p3 sm)), .val (.int (keyF p4 sm)), .val (.int (valF p0)), .val (.int (valF p1)), .val (.int (valF p2)), .val (.int (valF p3)), .val (.int (valF p4)), .val (.int ((XT.ushr p5 5) &&& 31)), .val (.int (((XT.ushr p5 1) &&& 7) % 5)), .val (.int qk), .val (.int want), .val (.ref a72)]) rfl ?_
        refine G.aload K Dx_269 rfl rfl ?_
        refine G.iload K Dx_271 rfl ?_
        refine G.iload K Dx_273 rfl ?_
        have H75 : Hp n0 h74 [(va74, Ia Z (List.replicate (2 ^ m) 0)), (a72, Ob Z "org/sqcap/reasoner/IntMap" NSM [.ref ka74, .ref va74, .int (Int32.ofNat (taken (List.replicate (2 ^ m) 0)))]), (ka74, Ia Z (List.replicate (2 ^ m) 0))] := H74.pull 2 rfl
        have H76 : Hp n0 h74 [(ka74, Ia Z (List.replicate (2 ^ m) 0)), (va74, Ia Z (List.replicate (2 ^ m) 0)), (a72, Ob Z "org/sqcap/reasoner/IntMap" NSM [.ref ka74, .ref va74, .int (Int32.ofNat (taken (List.replicate (2 ^ m) 0)))])] := H75.pull 2 rfl
        have H77 : Hp n0 h74 [(a72, Ob Z "org/sqcap/reasoner/IntMap" NSM [.ref ka74, .ref va74, .int (Int32.ofNat (taken (List.replicate (2 ^ m) 0)))]), (ka74, Ia Z (List.replicate (2 ^ m) 0)), (va74, Ia Z (List.replicate (2 ^ m) 0))] := H76.pull 2 rfl
        refine G.callV K hl (wd hw 35 rfl) (wd hw 36 rfl) (wd hw 38 rfl) (wd hw 37 rfl) (wd hw 10 rfl) (wd hw 39 rfl) (by decide) pd_1 (H77.exa (i := 0) rfl) (ct_put l Z a0 hw n0 h74 a72 ka74 va74 (List.replicate (2 ^ m) 0) (List.replicate (2 ^ m) 0) m (fun _ => none) (keyF p0 sm) (valF p0) [] (by omega) (by omega) T74 (by have := t74; omega) (own_key1 _ _) H77) 0 rfl (by decide) (by decide) (by decide) (by decide) rfl rfl [.int (valF p0), .int (keyF p0 sm)] rfl Dx_275 ?_
        rintro _ h78 ⟨r78, ks78, vs78, rfl, T78, u78, H78⟩
        have t78 : taken ks78 ≤ 1 := by omega
        change G k n0 _ h78 _ _ 278 [.val (.long p0), .second, .val (.long p1), .second, .val (.long p2), .second, .val (.long p3), .second, .val (.long p4), .second, .val (.int p5), .val (.int we), .val (.int sm), .val (.int (keyF p0 sm)), .val (.int (keyF p1 sm)), .val (.int (keyF p2 sm)), .val (.int (keyF p3 sm)), .val (.int (keyF p4 sm)), .val (.int (valF p0)), .val (.int (valF p1)), .val (.int (valF p2)), .val (.int (valF p3)), .val (.int (valF p4)), .val (.int ((XT.ushr p5 5) &&& 31)), .val (.int (((XT.ushr p5 1) &&& 7) % 5)), .val (.int qk), .val (.int want), .val (.ref a72)] [.int r78]
        refine G.pop K Dx_278 rfl ?_
        refine G.aload K Dx_279 rfl rfl ?_
        refine G.iload K Dx_281 rfl ?_
        refine G.iload K Dx_283 rfl ?_
        have H79 : Hp n0 h78 [(va74, Ia Z vs78), (a72, Ob Z "org/sqcap/reasoner/IntMap" NSM [.ref ka74, .ref va74, .int (Int32.ofNat (taken ks78))]), (ka74, Ia Z ks78)] := H78.pull 2 rfl
        have H80 : Hp n0 h78 [(ka74, Ia Z ks78), (va74, Ia Z vs78), (a72, Ob Z "org/sqcap/reasoner/IntMap" NSM [.ref ka74, .ref va74, .int (Int32.ofNat (taken ks78))])] := H79.pull 2 rfl
        have H81 : Hp n0 h78 [(a72, Ob Z "org/sqcap/reasoner/IntMap" NSM [.ref ka74, .ref va74, .int (Int32.ofNat (taken ks78))]), (ka74, Ia Z ks78), (va74, Ia Z vs78)] := H80.pull 2 rfl
        refine G.callV K hl (wd hw 35 rfl) (wd hw 36 rfl) (wd hw 38 rfl) (wd hw 37 rfl) (wd hw 10 rfl) (wd hw 39 rfl) (by decide) pd_1 (H81.exa (i := 0) rfl) (ct_put l Z a0 hw n0 h78 a72 ka74 va74 ks78 vs78 m (upd (fun _ => none) (keyF p0 sm) (valF p0)) (keyF p1 sm) (valF p1) [] (by omega) (by omega) T78 (by have := t78; omega) (own_key1 _ _) H81) 0 rfl (by decide) (by decide) (by decide) (by decide) rfl rfl [.int (valF p1), .int (keyF p1 sm)] rfl Dx_285 ?_
        rintro _ h82 ⟨r82, ks82, vs82, rfl, T82, u82, H82⟩
        have t82 : taken ks82 ≤ 2 := by omega
        change G k n0 _ h82 _ _ 288 [.val (.long p0), .second, .val (.long p1), .second, .val (.long p2), .second, .val (.long p3), .second, .val (.long p4), .second, .val (.int p5), .val (.int we), .val (.int sm), .val (.int (keyF p0 sm)), .val (.int (keyF p1 sm)), .val (.int (keyF p2 sm)), .val (.int (keyF p3 sm)), .val (.int (keyF p4 sm)), .val (.int (valF p0)), .val (.int (valF p1)), .val (.int (valF p2)), .val (.int (valF p3)), .val (.int (valF p4)), .val (.int ((XT.ushr p5 5) &&& 31)), .val (.int (((XT.ushr p5 1) &&& 7) % 5)), .val (.int qk), .val (.int want), .val (.ref a72)] [.int r82]
        refine G.pop K Dx_288 rfl ?_
        refine G.aload K Dx_289 rfl rfl ?_
        refine G.iload K Dx_291 rfl ?_
        refine G.iload K Dx_293 rfl ?_
        have H83 : Hp n0 h82 [(va74, Ia Z vs82), (a72, Ob Z "org/sqcap/reasoner/IntMap" NSM [.ref ka74, .ref va74, .int (Int32.ofNat (taken ks82))]), (ka74, Ia Z ks82)] := H82.pull 2 rfl
        have H84 : Hp n0 h82 [(ka74, Ia Z ks82), (va74, Ia Z vs82), (a72, Ob Z "org/sqcap/reasoner/IntMap" NSM [.ref ka74, .ref va74, .int (Int32.ofNat (taken ks82))])] := H83.pull 2 rfl
        have H85 : Hp n0 h82 [(a72, Ob Z "org/sqcap/reasoner/IntMap" NSM [.ref ka74, .ref va74, .int (Int32.ofNat (taken ks82))]), (ka74, Ia Z ks82), (va74, Ia Z vs82)] := H84.pull 2 rfl
        refine G.callV K hl (wd hw 35 rfl) (wd hw 36 rfl) (wd hw 38 rfl) (wd hw 37 rfl) (wd hw 10 rfl) (wd hw 39 rfl) (by decide) pd_1 (H85.exa (i := 0) rfl) (ct_put l Z a0 hw n0 h82 a72 ka74 va74 ks82 vs82 m (upd (upd (fun _ => none) (keyF p0 sm) (valF p0)) (keyF p1 sm) (valF p1)) (keyF p2 sm) (valF p2) [] (by omega) (by omega) T82 (by have := t82; omega) (own_key1 _ _) H85) 0 rfl (by decide) (by decide) (by decide) (by decide) rfl rfl [.int (valF p2), .int (keyF p2 sm)] rfl Dx_295 ?_
        rintro _ h86 ⟨r86, ks86, vs86, rfl, T86, u86, H86⟩
        have t86 : taken ks86 ≤ 3 := by omega
        change G k n0 _ h86 _ _ 298 [.val (.long p0), .second, .val (.long p1), .second, .val (.long p2), .second, .val (.long p3), .second, .val (.long p4), .second, .val (.int p5), .val (.int we), .val (.int sm), .val (.int (keyF p0 sm)), .val (.int (keyF p1 sm)), .val (.int (keyF p2 sm)), .val (.int (keyF p3 sm)), .val (.int (keyF p4 sm)), .val (.int (valF p0)), .val (.int (valF p1)), .val (.int (valF p2)), .val (.int (valF p3)), .val (.int (valF p4)), .val (.int ((XT.ushr p5 5) &&& 31)), .val (.int (((XT.ushr p5 1) &&& 7) % 5)), .val (.int qk), .val (.int want), .val (.ref a72)] [.int r86]
        refine G.pop K Dx_298 rfl ?_
        refine G.aload K Dx_299 rfl rfl ?_
        refine G.iload K Dx_301 rfl ?_
        refine G.iload K Dx_303 rfl ?_
        have H87 : Hp n0 h86 [(va74, Ia Z vs86), (a72, Ob Z "org/sqcap/reasoner/IntMap" NSM [.ref ka74, .ref va74, .int (Int32.ofNat (taken ks86))]), (ka74, Ia Z ks86)] := H86.pull 2 rfl
        have H88 : Hp n0 h86 [(ka74, Ia Z ks86), (va74, Ia Z vs86), (a72, Ob Z "org/sqcap/reasoner/IntMap" NSM [.ref ka74, .ref va74, .int (Int32.ofNat (taken ks86))])] := H87.pull 2 rfl
        have H89 : Hp n0 h86 [(a72, Ob Z "org/sqcap/reasoner/IntMap" NSM [.ref ka74, .ref va74, .int (Int32.ofNat (taken ks86))]), (ka74, Ia Z ks86), (va74, Ia Z vs86)] := H88.pull 2 rfl
        refine G.callV K hl (wd hw 35 rfl) (wd hw 36 rfl) (wd hw 38 rfl) (wd hw 37 rfl) (wd hw 10 rfl) (wd hw 39 rfl) (by decide) pd_1 (H89.exa (i := 0) rfl) (ct_put l Z a0 hw n0 h86 a72 ka74 va74 ks86 vs86 m (upd (upd (upd (fun _ => none) (keyF p0 sm) (valF p0)) (keyF p1 sm) (valF p1)) (keyF p2 sm) (valF p2)) (keyF p3 sm) (valF p3) [] (by omega) (by omega) T86 (by have := t86; omega) (own_key1 _ _) H89) 0 rfl (by decide) (by decide) (by decide) (by decide) rfl rfl [.int (valF p3), .int (keyF p3 sm)] rfl Dx_305 ?_
        rintro _ h90 ⟨r90, ks90, vs90, rfl, T90, u90, H90⟩
        have t90 : taken ks90 ≤ 4 := by omega
        change G k n0 _ h90 _ _ 308 [.val (.long p0), .second, .val (.long p1), .second, .val (.long p2), .second, .val (.long p3), .second, .val (.long p4), .second, .val (.int p5), .val (.int we), .val (.int sm), .val (.int (keyF p0 sm)), .val (.int (keyF p1 sm)), .val (.int (keyF p2 sm)), .val (.int (keyF p3 sm)), .val (.int (keyF p4 sm)), .val (.int (valF p0)), .val (.int (valF p1)), .val (.int (valF p2)), .val (.int (valF p3)), .val (.int (valF p4)), .val (.int ((XT.ushr p5 5) &&& 31)), .val (.int (((XT.ushr p5 1) &&& 7) % 5)), .val (.int qk), .val (.int want), .val (.ref a72)] [.int r90]
        refine G.pop K Dx_308 rfl ?_
        refine G.iload K Dx_309 rfl ?_
        refine G.if_eq K Dx_311 (fun q91 => ?_) (fun q91 => ?_)
        · refine G.aload K Dx_324 rfl rfl ?_
          refine G.iload K Dx_326 rfl ?_
          have H92 : Hp n0 h90 [(va74, Ia Z vs90), (a72, Ob Z "org/sqcap/reasoner/IntMap" NSM [.ref ka74, .ref va74, .int (Int32.ofNat (taken ks90))]), (ka74, Ia Z ks90)] := H90.pull 2 rfl
          have H93 : Hp n0 h90 [(ka74, Ia Z ks90), (va74, Ia Z vs90), (a72, Ob Z "org/sqcap/reasoner/IntMap" NSM [.ref ka74, .ref va74, .int (Int32.ofNat (taken ks90))])] := H92.pull 2 rfl
          have H94 : Hp n0 h90 [(a72, Ob Z "org/sqcap/reasoner/IntMap" NSM [.ref ka74, .ref va74, .int (Int32.ofNat (taken ks90))]), (ka74, Ia Z ks90), (va74, Ia Z vs90)] := H93.pull 2 rfl
          refine G.callV K hl (wd hw 50 rfl) (wd hw 51 rfl) (wd hw 53 rfl) (wd hw 52 rfl) (wd hw 10 rfl) (wd hw 54 rfl) (by decide) pd_0 (H94.exa (i := 0) rfl) (ct_get l Z a0 hw n0 h90 a72 ka74 va74 ks90 vs90 (Int32.ofNat (taken ks90)) m (upd (upd (upd (upd (fun _ => none) (keyF p0 sm) (valF p0)) (keyF p1 sm) (valF p1)) (keyF p2 sm) (valF p2)) (keyF p3 sm) (valF p3)) qk (by omega) T90 (has_zero (by rw [T90.1]; have := hpa; omega)) hqk [] H94) 0 rfl (by decide) (by decide) (by decide) (by decide) rfl rfl [.int qk] rfl Dx_328 ?_
          rintro _ h95 ⟨rfl, H95⟩
          change G k n0 _ h95 _ _ 331 [.val (.long p0), .second, .val (.long p1), .second, .val (.long p2), .second, .val (.long p3), .second, .val (.long p4), .second, .val (.int p5), .val (.int we), .val (.int sm), .val (.int (keyF p0 sm)), .val (.int (keyF p1 sm)), .val (.int (keyF p2 sm)), .val (.int (keyF p3 sm)), .val (.int (keyF p4 sm)), .val (.int (valF p0)), .val (.int (valF p1)), .val (.int (valF p2)), .val (.int (valF p3)), .val (.int (valF p4)), .val (.int ((XT.ushr p5 5) &&& 31)), .val (.int (((XT.ushr p5 1) &&& 7) % 5)), .val (.int qk), .val (.int want), .val (.ref a72)] [.int (((upd (upd (upd (upd (fun _ => none) (keyF p0 sm) (valF p0)) (keyF p1 sm) (valF p1)) (keyF p2 sm) (valF p2)) (keyF p3 sm) (valF p3)) qk).getD (-1))]
          refine G.iload K Dx_331 rfl ?_
          refine G.icmp_ne K Dx_333 (fun q => absurd (by rw [if_pos q91] at hwant; exact hwant) q) (fun q96 => ?_)
          refine G.iconst K Dx_336 1 rfl ?_
          refine G.goto K Dx_337 ?_
          refine G.ret_bool K Dx_341 ?_
          exact rfl
        · refine G.aload K Dx_314 rfl rfl ?_
          refine G.iload K Dx_316 rfl ?_
          refine G.iload K Dx_318 rfl ?_
          have H97 : Hp n0 h90 [(va74, Ia Z vs90), (a72, Ob Z "org/sqcap/reasoner/IntMap" NSM [.ref ka74, .ref va74, .int (Int32.ofNat (taken ks90))]), (ka74, Ia Z ks90)] := H90.pull 2 rfl
          have H98 : Hp n0 h90 [(ka74, Ia Z ks90), (va74, Ia Z vs90), (a72, Ob Z "org/sqcap/reasoner/IntMap" NSM [.ref ka74, .ref va74, .int (Int32.ofNat (taken ks90))])] := H97.pull 2 rfl
          have H99 : Hp n0 h90 [(a72, Ob Z "org/sqcap/reasoner/IntMap" NSM [.ref ka74, .ref va74, .int (Int32.ofNat (taken ks90))]), (ka74, Ia Z ks90), (va74, Ia Z vs90)] := H98.pull 2 rfl
          refine G.callV K hl (wd hw 35 rfl) (wd hw 36 rfl) (wd hw 38 rfl) (wd hw 37 rfl) (wd hw 10 rfl) (wd hw 39 rfl) (by decide) pd_1 (H99.exa (i := 0) rfl) (ct_putG l Z a0 hw n0 h90 a72 ka74 va74 ks90 vs90 m (upd (upd (upd (upd (fun _ => none) (keyF p0 sm) (valF p0)) (keyF p1 sm) (valF p1)) (keyF p2 sm) (valF p2)) (keyF p3 sm) (valF p3)) (keyF p4 sm) (valF p4) [] hm3 hm6 T90 t90 (own_key1 _ _) H99) 0 rfl (by decide) (by decide) (by decide) (by decide) rfl rfl [.int (valF p4), .int (keyF p4 sm)] rfl Dx_320 ?_
          rintro _ h100 ⟨r100, sz100, m100, kb100, vb100, ks100, vs100, rfl, hm100, T100, z100, H100⟩
          change G k n0 _ h100 _ _ 323 [.val (.long p0), .second, .val (.long p1), .second, .val (.long p2), .second, .val (.long p3), .second, .val (.long p4), .second, .val (.int p5), .val (.int we), .val (.int sm), .val (.int (keyF p0 sm)), .val (.int (keyF p1 sm)), .val (.int (keyF p2 sm)), .val (.int (keyF p3 sm)), .val (.int (keyF p4 sm)), .val (.int (valF p0)), .val (.int (valF p1)), .val (.int (valF p2)), .val (.int (valF p3)), .val (.int (valF p4)), .val (.int ((XT.ushr p5 5) &&& 31)), .val (.int (((XT.ushr p5 1) &&& 7) % 5)), .val (.int qk), .val (.int want), .val (.ref a72)] [.int r100]
          refine G.pop K Dx_323 rfl ?_
          refine G.aload K Dx_324 rfl rfl ?_
          refine G.iload K Dx_326 rfl ?_
          have H101 : Hp n0 h100 [(vb100, Ia Z vs100), (a72, Ob Z "org/sqcap/reasoner/IntMap" NSM [.ref kb100, .ref vb100, .int sz100]), (kb100, Ia Z ks100)] := H100.pull 2 rfl
          have H102 : Hp n0 h100 [(kb100, Ia Z ks100), (vb100, Ia Z vs100), (a72, Ob Z "org/sqcap/reasoner/IntMap" NSM [.ref kb100, .ref vb100, .int sz100])] := H101.pull 2 rfl
          have H103 : Hp n0 h100 [(a72, Ob Z "org/sqcap/reasoner/IntMap" NSM [.ref kb100, .ref vb100, .int sz100]), (kb100, Ia Z ks100), (vb100, Ia Z vs100)] := H102.pull 2 rfl
          refine G.callV K hl (wd hw 50 rfl) (wd hw 51 rfl) (wd hw 53 rfl) (wd hw 52 rfl) (wd hw 10 rfl) (wd hw 54 rfl) (by decide) pd_0 (H103.exa (i := 0) rfl) (ct_get l Z a0 hw n0 h100 a72 kb100 vb100 ks100 vs100 sz100 m100 (upd (upd (upd (upd (upd (fun _ => none) (keyF p0 sm) (valF p0)) (keyF p1 sm) (valF p1)) (keyF p2 sm) (valF p2)) (keyF p3 sm) (valF p3)) (keyF p4 sm) (valF p4)) qk hm100 T100 z100 hqk [] H103) 0 rfl (by decide) (by decide) (by decide) (by decide) rfl rfl [.int qk] rfl Dx_328 ?_
          rintro _ h104 ⟨rfl, H104⟩
          change G k n0 _ h104 _ _ 331 [.val (.long p0), .second, .val (.long p1), .second, .val (.long p2), .second, .val (.long p3), .second, .val (.long p4), .second, .val (.int p5), .val (.int we), .val (.int sm), .val (.int (keyF p0 sm)), .val (.int (keyF p1 sm)), .val (.int (keyF p2 sm)), .val (.int (keyF p3 sm)), .val (.int (keyF p4 sm)), .val (.int (valF p0)), .val (.int (valF p1)), .val (.int (valF p2)), .val (.int (valF p3)), .val (.int (valF p4)), .val (.int ((XT.ushr p5 5) &&& 31)), .val (.int (((XT.ushr p5 1) &&& 7) % 5)), .val (.int qk), .val (.int want), .val (.ref a72)] [.int (((upd (upd (upd (upd (upd (fun _ => none) (keyF p0 sm) (valF p0)) (keyF p1 sm) (valF p1)) (keyF p2 sm) (valF p2)) (keyF p3 sm) (valF p3)) (keyF p4 sm) (valF p4)) qk).getD (-1))]
          refine G.iload K Dx_331 rfl ?_
          refine G.icmp_ne K Dx_333 (fun q => absurd (by rw [if_neg q91] at hwant; exact hwant) q) (fun q105 => ?_)
          refine G.iconst K Dx_336 1 rfl ?_
          refine G.goto K Dx_337 ?_
          refine G.ret_bool K Dx_341 ?_
          exact rfl
      refine G.iload K Dx_180 rfl ?_
      refine G.if_eq K Dx_182 (fun q106 => ?_) (fun q106 => ?_)
      · refine G.iload K Dx_199 rfl ?_
        refine G.iload K Dx_201 rfl ?_
        refine G.icmp_ne K Dx_203 (fun q107 => ?_) (fun q107 => ?_)
        · refine G.iload K Dx_213 rfl ?_
          refine G.iload K Dx_215 rfl ?_
          refine G.icmp_ne K Dx_217 (fun q108 => ?_) (fun q108 => ?_)
          · refine G.iload K Dx_227 rfl ?_
            refine G.iload K Dx_229 rfl ?_
            refine G.icmp_ne K Dx_231 (fun q109 => ?_) (fun q109 => ?_)
            · refine G.iload K Dx_241 rfl ?_
              refine G.iload K Dx_243 rfl ?_
              refine G.icmp_ne K Dx_245 (fun q110 => ?_) (fun q110 => ?_)
              · refine G.iconst K Dx_255 (-1) rfl ?_
                refine G.istore K Dx_256 ([.val (.long p0), .second, .val (.long p1), .second, .val (.long p2), .second, .val (.long p3), .second, .val (.long p4), .second, .val (.int p5), .val (.int we), .val (.int sm), .val (.int (keyF p0 sm)), .val (.int (keyF p1 sm)), .val (.int (keyF p2 sm)), .val (.int (keyF p3 sm)), .val (.int (keyF p4 sm)), .val (.int (valF p0)), .val (.int (valF p1)), .val (.int (valF p2)), .val (.int (valF p3)), .val (.int (valF p4)), .val (.int ((XT.ushr p5 5) &&& 31)), .val (.int (((XT.ushr p5 1) &&& 7) % 5)), .val (.int qk), .val (.int (-1)), .unset]) rfl ?_
                exact T258 _ (by rw [if_pos q106]; simp only [upd]; rw [if_neg q107, if_neg q108, if_neg q109, if_neg q110] <;> rfl)
              · refine G.iload K Dx_248 rfl ?_
                refine G.istore K Dx_250 ([.val (.long p0), .second, .val (.long p1), .second, .val (.long p2), .second, .val (.long p3), .second, .val (.long p4), .second, .val (.int p5), .val (.int we), .val (.int sm), .val (.int (keyF p0 sm)), .val (.int (keyF p1 sm)), .val (.int (keyF p2 sm)), .val (.int (keyF p3 sm)), .val (.int (keyF p4 sm)), .val (.int (valF p0)), .val (.int (valF p1)), .val (.int (valF p2)), .val (.int (valF p3)), .val (.int (valF p4)), .val (.int ((XT.ushr p5 5) &&& 31)), .val (.int (((XT.ushr p5 1) &&& 7) % 5)), .val (.int qk), .val (.int (valF p0)), .unset]) rfl ?_
                refine G.goto K Dx_252 ?_
                exact T258 _ (by rw [if_pos q106]; simp only [upd]; rw [if_neg q107, if_neg q108, if_neg q109, if_pos q110] <;> rfl)
            · refine G.iload K Dx_234 rfl ?_
              refine G.istore K Dx_236 ([.val (.long p0), .second, .val (.long p1), .second, .val (.long p2), .second, .val (.long p3), .second, .val (.long p4), .second, .val (.int p5), .val (.int we), .val (.int sm), .val (.int (keyF p0 sm)), .val (.int (keyF p1 sm)), .val (.int (keyF p2 sm)), .val (.int (keyF p3 sm)), .val (.int (keyF p4 sm)), .val (.int (valF p0)), .val (.int (valF p1)), .val (.int (valF p2)), .val (.int (valF p3)), .val (.int (valF p4)), .val (.int ((XT.ushr p5 5) &&& 31)), .val (.int (((XT.ushr p5 1) &&& 7) % 5)), .val (.int qk), .val (.int (valF p1)), .unset]) rfl ?_
              refine G.goto K Dx_238 ?_
              exact T258 _ (by rw [if_pos q106]; simp only [upd]; rw [if_neg q107, if_neg q108, if_pos q109] <;> rfl)
          · refine G.iload K Dx_220 rfl ?_
            refine G.istore K Dx_222 ([.val (.long p0), .second, .val (.long p1), .second, .val (.long p2), .second, .val (.long p3), .second, .val (.long p4), .second, .val (.int p5), .val (.int we), .val (.int sm), .val (.int (keyF p0 sm)), .val (.int (keyF p1 sm)), .val (.int (keyF p2 sm)), .val (.int (keyF p3 sm)), .val (.int (keyF p4 sm)), .val (.int (valF p0)), .val (.int (valF p1)), .val (.int (valF p2)), .val (.int (valF p3)), .val (.int (valF p4)), .val (.int ((XT.ushr p5 5) &&& 31)), .val (.int (((XT.ushr p5 1) &&& 7) % 5)), .val (.int qk), .val (.int (valF p2)), .unset]) rfl ?_
            refine G.goto K Dx_224 ?_
            exact T258 _ (by rw [if_pos q106]; simp only [upd]; rw [if_neg q107, if_pos q108] <;> rfl)
        · refine G.iload K Dx_206 rfl ?_
          refine G.istore K Dx_208 ([.val (.long p0), .second, .val (.long p1), .second, .val (.long p2), .second, .val (.long p3), .second, .val (.long p4), .second, .val (.int p5), .val (.int we), .val (.int sm), .val (.int (keyF p0 sm)), .val (.int (keyF p1 sm)), .val (.int (keyF p2 sm)), .val (.int (keyF p3 sm)), .val (.int (keyF p4 sm)), .val (.int (valF p0)), .val (.int (valF p1)), .val (.int (valF p2)), .val (.int (valF p3)), .val (.int (valF p4)), .val (.int ((XT.ushr p5 5) &&& 31)), .val (.int (((XT.ushr p5 1) &&& 7) % 5)), .val (.int qk), .val (.int (valF p3)), .unset]) rfl ?_
          refine G.goto K Dx_210 ?_
          exact T258 _ (by rw [if_pos q106]; simp only [upd]; rw [if_pos q107] <;> rfl)
      · refine G.iload K Dx_185 rfl ?_
        refine G.iload K Dx_187 rfl ?_
        refine G.icmp_ne K Dx_189 (fun q111 => ?_) (fun q111 => ?_)
        · refine G.iload K Dx_199 rfl ?_
          refine G.iload K Dx_201 rfl ?_
          refine G.icmp_ne K Dx_203 (fun q112 => ?_) (fun q112 => ?_)
          · refine G.iload K Dx_213 rfl ?_
            refine G.iload K Dx_215 rfl ?_
            refine G.icmp_ne K Dx_217 (fun q113 => ?_) (fun q113 => ?_)
            · refine G.iload K Dx_227 rfl ?_
              refine G.iload K Dx_229 rfl ?_
              refine G.icmp_ne K Dx_231 (fun q114 => ?_) (fun q114 => ?_)
              · refine G.iload K Dx_241 rfl ?_
                refine G.iload K Dx_243 rfl ?_
                refine G.icmp_ne K Dx_245 (fun q115 => ?_) (fun q115 => ?_)
                · refine G.iconst K Dx_255 (-1) rfl ?_
                  refine G.istore K Dx_256 ([.val (.long p0), .second, .val (.long p1), .second, .val (.long p2), .second, .val (.long p3), .second, .val (.long p4), .second, .val (.int p5), .val (.int we), .val (.int sm), .val (.int (keyF p0 sm)), .val (.int (keyF p1 sm)), .val (.int (keyF p2 sm)), .val (.int (keyF p3 sm)), .val (.int (keyF p4 sm)), .val (.int (valF p0)), .val (.int (valF p1)), .val (.int (valF p2)), .val (.int (valF p3)), .val (.int (valF p4)), .val (.int ((XT.ushr p5 5) &&& 31)), .val (.int (((XT.ushr p5 1) &&& 7) % 5)), .val (.int qk), .val (.int (-1)), .unset]) rfl ?_
                  exact T258 _ (by rw [if_neg q106]; simp only [upd]; rw [if_neg q111, if_neg q112, if_neg q113, if_neg q114, if_neg q115] <;> rfl)
                · refine G.iload K Dx_248 rfl ?_
                  refine G.istore K Dx_250 ([.val (.long p0), .second, .val (.long p1), .second, .val (.long p2), .second, .val (.long p3), .second, .val (.long p4), .second, .val (.int p5), .val (.int we), .val (.int sm), .val (.int (keyF p0 sm)), .val (.int (keyF p1 sm)), .val (.int (keyF p2 sm)), .val (.int (keyF p3 sm)), .val (.int (keyF p4 sm)), .val (.int (valF p0)), .val (.int (valF p1)), .val (.int (valF p2)), .val (.int (valF p3)), .val (.int (valF p4)), .val (.int ((XT.ushr p5 5) &&& 31)), .val (.int (((XT.ushr p5 1) &&& 7) % 5)), .val (.int qk), .val (.int (valF p0)), .unset]) rfl ?_
                  refine G.goto K Dx_252 ?_
                  exact T258 _ (by rw [if_neg q106]; simp only [upd]; rw [if_neg q111, if_neg q112, if_neg q113, if_neg q114, if_pos q115] <;> rfl)
              · refine G.iload K Dx_234 rfl ?_
                refine G.istore K Dx_236 ([.val (.long p0), .second, .val (.long p1), .second, .val (.long p2), .second, .val (.long p3), .second, .val (.long p4), .second, .val (.int p5), .val (.int we), .val (.int sm), .val (.int (keyF p0 sm)), .val (.int (keyF p1 sm)), .val (.int (keyF p2 sm)), .val (.int (keyF p3 sm)), .val (.int (keyF p4 sm)), .val (.int (valF p0)), .val (.int (valF p1)), .val (.int (valF p2)), .val (.int (valF p3)), .val (.int (valF p4)), .val (.int ((XT.ushr p5 5) &&& 31)), .val (.int (((XT.ushr p5 1) &&& 7) % 5)), .val (.int qk), .val (.int (valF p1)), .unset]) rfl ?_
                refine G.goto K Dx_238 ?_
                exact T258 _ (by rw [if_neg q106]; simp only [upd]; rw [if_neg q111, if_neg q112, if_neg q113, if_pos q114] <;> rfl)
            · refine G.iload K Dx_220 rfl ?_
              refine G.istore K Dx_222 ([.val (.long p0), .second, .val (.long p1), .second, .val (.long p2), .second, .val (.long p3), .second, .val (.long p4), .second, .val (.int p5), .val (.int we), .val (.int sm), .val (.int (keyF p0 sm)), .val (.int (keyF p1 sm)), .val (.int (keyF p2 sm)), .val (.int (keyF p3 sm)), .val (.int (keyF p4 sm)), .val (.int (valF p0)), .val (.int (valF p1)), .val (.int (valF p2)), .val (.int (valF p3)), .val (.int (valF p4)), .val (.int ((XT.ushr p5 5) &&& 31)), .val (.int (((XT.ushr p5 1) &&& 7) % 5)), .val (.int qk), .val (.int (valF p2)), .unset]) rfl ?_
              refine G.goto K Dx_224 ?_
              exact T258 _ (by rw [if_neg q106]; simp only [upd]; rw [if_neg q111, if_neg q112, if_pos q113] <;> rfl)
          · refine G.iload K Dx_206 rfl ?_
            refine G.istore K Dx_208 ([.val (.long p0), .second, .val (.long p1), .second, .val (.long p2), .second, .val (.long p3), .second, .val (.long p4), .second, .val (.int p5), .val (.int we), .val (.int sm), .val (.int (keyF p0 sm)), .val (.int (keyF p1 sm)), .val (.int (keyF p2 sm)), .val (.int (keyF p3 sm)), .val (.int (keyF p4 sm)), .val (.int (valF p0)), .val (.int (valF p1)), .val (.int (valF p2)), .val (.int (valF p3)), .val (.int (valF p4)), .val (.int ((XT.ushr p5 5) &&& 31)), .val (.int (((XT.ushr p5 1) &&& 7) % 5)), .val (.int qk), .val (.int (valF p3)), .unset]) rfl ?_
            refine G.goto K Dx_210 ?_
            exact T258 _ (by rw [if_neg q106]; simp only [upd]; rw [if_neg q111, if_pos q112] <;> rfl)
        · refine G.iload K Dx_192 rfl ?_
          refine G.istore K Dx_194 ([.val (.long p0), .second, .val (.long p1), .second, .val (.long p2), .second, .val (.long p3), .second, .val (.long p4), .second, .val (.int p5), .val (.int we), .val (.int sm), .val (.int (keyF p0 sm)), .val (.int (keyF p1 sm)), .val (.int (keyF p2 sm)), .val (.int (keyF p3 sm)), .val (.int (keyF p4 sm)), .val (.int (valF p0)), .val (.int (valF p1)), .val (.int (valF p2)), .val (.int (valF p3)), .val (.int (valF p4)), .val (.int ((XT.ushr p5 5) &&& 31)), .val (.int (((XT.ushr p5 1) &&& 7) % 5)), .val (.int qk), .val (.int (valF p4)), .unset]) rfl ?_
          refine G.goto K Dx_196 ?_
          exact T258 _ (by rw [if_neg q106]; simp only [upd]; rw [if_pos q111] <;> rfl)
    refine G.iload K Dx_125 rfl ?_
    refine G.if_ne K Dx_127 (fun q116 => ?_) (fun q116 => ?_)
    · refine G.iload K Dx_137 rfl ?_
      refine G.iconst K Dx_139 1 rfl ?_
      refine G.icmp_ne K Dx_140 (fun q117 => ?_) (fun q117 => ?_)
      · refine G.iload K Dx_150 rfl ?_
        refine G.iconst K Dx_152 2 rfl ?_
        refine G.icmp_ne K Dx_153 (fun q118 => ?_) (fun q118 => ?_)
        · refine G.iload K Dx_163 rfl ?_
          refine G.iconst K Dx_165 3 rfl ?_
          refine G.icmp_ne K Dx_166 (fun q119 => ?_) (fun q119 => ?_)
          · refine G.iload K Dx_176 rfl ?_
            refine G.istore K Dx_178 ([.val (.long p0), .second, .val (.long p1), .second, .val (.long p2), .second, .val (.long p3), .second, .val (.long p4), .second, .val (.int p5), .val (.int we), .val (.int sm), .val (.int (keyF p0 sm)), .val (.int (keyF p1 sm)), .val (.int (keyF p2 sm)), .val (.int (keyF p3 sm)), .val (.int (keyF p4 sm)), .val (.int (valF p0)), .val (.int (valF p1)), .val (.int (valF p2)), .val (.int (valF p3)), .val (.int (valF p4)), .val (.int ((XT.ushr p5 5) &&& 31)), .val (.int (((XT.ushr p5 1) &&& 7) % 5)), .val (.int (keyF p4 sm)), .unset, .unset]) rfl ?_
            exact T180 _ (own_key1 _ _)
          · refine G.iload K Dx_169 rfl ?_
            refine G.istore K Dx_171 ([.val (.long p0), .second, .val (.long p1), .second, .val (.long p2), .second, .val (.long p3), .second, .val (.long p4), .second, .val (.int p5), .val (.int we), .val (.int sm), .val (.int (keyF p0 sm)), .val (.int (keyF p1 sm)), .val (.int (keyF p2 sm)), .val (.int (keyF p3 sm)), .val (.int (keyF p4 sm)), .val (.int (valF p0)), .val (.int (valF p1)), .val (.int (valF p2)), .val (.int (valF p3)), .val (.int (valF p4)), .val (.int ((XT.ushr p5 5) &&& 31)), .val (.int (((XT.ushr p5 1) &&& 7) % 5)), .val (.int (keyF p3 sm)), .unset, .unset]) rfl ?_
            refine G.goto K Dx_173 ?_
            exact T180 _ (own_key1 _ _)
        · refine G.iload K Dx_156 rfl ?_
          refine G.istore K Dx_158 ([.val (.long p0), .second, .val (.long p1), .second, .val (.long p2), .second, .val (.long p3), .second, .val (.long p4), .second, .val (.int p5), .val (.int we), .val (.int sm), .val (.int (keyF p0 sm)), .val (.int (keyF p1 sm)), .val (.int (keyF p2 sm)), .val (.int (keyF p3 sm)), .val (.int (keyF p4 sm)), .val (.int (valF p0)), .val (.int (valF p1)), .val (.int (valF p2)), .val (.int (valF p3)), .val (.int (valF p4)), .val (.int ((XT.ushr p5 5) &&& 31)), .val (.int (((XT.ushr p5 1) &&& 7) % 5)), .val (.int (keyF p2 sm)), .unset, .unset]) rfl ?_
          refine G.goto K Dx_160 ?_
          exact T180 _ (own_key1 _ _)
      · refine G.iload K Dx_143 rfl ?_
        refine G.istore K Dx_145 ([.val (.long p0), .second, .val (.long p1), .second, .val (.long p2), .second, .val (.long p3), .second, .val (.long p4), .second, .val (.int p5), .val (.int we), .val (.int sm), .val (.int (keyF p0 sm)), .val (.int (keyF p1 sm)), .val (.int (keyF p2 sm)), .val (.int (keyF p3 sm)), .val (.int (keyF p4 sm)), .val (.int (valF p0)), .val (.int (valF p1)), .val (.int (valF p2)), .val (.int (valF p3)), .val (.int (valF p4)), .val (.int ((XT.ushr p5 5) &&& 31)), .val (.int (((XT.ushr p5 1) &&& 7) % 5)), .val (.int (keyF p1 sm)), .unset, .unset]) rfl ?_
        refine G.goto K Dx_147 ?_
        exact T180 _ (own_key1 _ _)
    · refine G.iload K Dx_130 rfl ?_
      refine G.istore K Dx_132 ([.val (.long p0), .second, .val (.long p1), .second, .val (.long p2), .second, .val (.long p3), .second, .val (.long p4), .second, .val (.int p5), .val (.int we), .val (.int sm), .val (.int (keyF p0 sm)), .val (.int (keyF p1 sm)), .val (.int (keyF p2 sm)), .val (.int (keyF p3 sm)), .val (.int (keyF p4 sm)), .val (.int (valF p0)), .val (.int (valF p1)), .val (.int (valF p2)), .val (.int (valF p3)), .val (.int (valF p4)), .val (.int ((XT.ushr p5 5) &&& 31)), .val (.int (((XT.ushr p5 1) &&& 7) % 5)), .val (.int (keyF p0 sm)), .unset, .unset]) rfl ?_
      refine G.goto K Dx_134 ?_
      exact T180 _ (own_key1 _ _)
  have T14 : ∀ we : Int32, G k n0 (fun v h' => v = some (.int 1)) h 0 0 14 [.val (.long p0), .second, .val (.long p1), .second, .val (.long p2), .second, .val (.long p3), .second, .val (.long p4), .second, .val (.int p5), .val (.int we), .unset, .unset, .unset, .unset, .unset, .unset, .unset, .unset, .unset, .unset, .unset, .unset, .unset, .unset, .unset, .unset] [] := by
    intro we
    refine G.iload K Dx_14 rfl ?_
    refine G.bipush K Dx_16 16 rfl ?_
    refine G.iand K Dx_18 ?_
    refine G.if_eq K Dx_19 (fun q120 => ?_) (fun q120 => ?_)
    · refine G.iconst K Dx_26 0 rfl ?_
      refine G.istore K Dx_27 ([.val (.long p0), .second, .val (.long p1), .second, .val (.long p2), .second, .val (.long p3), .second, .val (.long p4), .second, .val (.int p5), .val (.int we), .val (.int 0), .unset, .unset, .unset, .unset, .unset, .unset, .unset, .unset, .unset, .unset, .unset, .unset, .unset, .unset, .unset]) rfl ?_
      exact T29 _ _
    · refine G.iconst K Dx_22 1 rfl ?_
      refine G.goto K Dx_23 ?_
      refine G.istore K Dx_27 ([.val (.long p0), .second, .val (.long p1), .second, .val (.long p2), .second, .val (.long p3), .second, .val (.long p4), .second, .val (.int p5), .val (.int we), .val (.int 1), .unset, .unset, .unset, .unset, .unset, .unset, .unset, .unset, .unset, .unset, .unset, .unset, .unset, .unset, .unset]) rfl ?_
      exact T29 _ _
  refine G.iload K Dx_0 rfl ?_
  refine G.iconst K Dx_2 1 rfl ?_
  refine G.iand K Dx_3 ?_
  refine G.if_eq K Dx_4 (fun q121 => ?_) (fun q121 => ?_)
  · refine G.iconst K Dx_11 0 rfl ?_
    refine G.istore K Dx_12 ([.val (.long p0), .second, .val (.long p1), .second, .val (.long p2), .second, .val (.long p3), .second, .val (.long p4), .second, .val (.int p5), .val (.int 0), .unset, .unset, .unset, .unset, .unset, .unset, .unset, .unset, .unset, .unset, .unset, .unset, .unset, .unset, .unset, .unset]) rfl ?_
    exact T14 _
  · refine G.iconst K Dx_7 1 rfl ?_
    refine G.goto K Dx_8 ?_
    refine G.istore K Dx_12 ([.val (.long p0), .second, .val (.long p1), .second, .val (.long p2), .second, .val (.long p3), .second, .val (.long p4), .second, .val (.int p5), .val (.int 1), .unset, .unset, .unset, .unset, .unset, .unset, .unset, .unset, .unset, .unset, .unset, .unset, .unset, .unset, .unset, .unset]) rfl ?_
    exact T14 _
set_option maxRecDepth 65536 in
set_option maxHeartbeats 40000000 in
theorem comes_1 {Post : Tables → Env → Array Value → State → Outcome → State → Prop} (hpost : ∀ tb e args s v u, (limb_1_1.after args s (.returned v) u = true ∧ limb_1_2.after args s (.returned v) u = true ∧ True) → FrameEnd s (.returned v) u (Jvm.fieldLocs frame_1_writes args s ++ Jvm.arrayLocs frame_1_arrays args s ++ Jvm.staticLocs frame_1_statics s) 24 384 → Post tb e args s (.returned v) u) :
    ArmFor flags0 classFile x code maxLocals ret World_1 tables_1 room_1 Calls_1 rest_1 Pre_1 Post := by
  intro l hfl _ _ p e ha hc hk s m args below hf hA hF happ hP
  obtain ⟨hcalls, hrest, hpre⟩ := hP
  obtain ⟨-, -, -, hnamed, -, -, -, hat⟩ := (Spec.applies_iff hf).mp happ
  obtain ⟨hg, hn⟩ := and_e (Cond.before_iff.mp (show (Jvm.Cond.and given_1 narrow_1).before args s = true from hpre))
  obtain ⟨g0, g1⟩ := and_e hg
  obtain ⟨u0, v0⟩ := and_e g1
  obtain ⟨u1, v1⟩ := and_e v0
  obtain ⟨u2, v2⟩ := and_e v1
  obtain ⟨u3, v3⟩ := and_e v2
  obtain ⟨u4, v4⟩ := and_e v3
  obtain ⟨w0, w1, w2, w3, w4, w5, rfl⟩ : ∃ w0 w1 w2 w3 w4 w5 : Value, args = #[w0, w1, w2, w3, w4, w5] := by
    have hs : args.size = 6 := by simpa [Cond.value, given_1] using g0
    obtain ⟨L⟩ := args
    match L, hs with
    | [w0, w1, w2, w3, w4, w5], _ => exact ⟨w0, w1, w2, w3, w4, w5, rfl⟩
  have hw := fun d (hd : d ∈ tables_1) => atoms_spec (ws := Jvm.Cond.code x code maxLocals ret :: tables_1) hat d (List.mem_cons_of_mem _ hd)
  obtain ⟨i0, ei0⟩ := isL_v u0
  obtain rfl : w0 = (.long i0) := Option.some.inj ei0
  obtain ⟨i1, ei1⟩ := isL_v u1
  obtain rfl : w1 = (.long i1) := Option.some.inj ei1
  obtain ⟨i2, ei2⟩ := isL_v u2
  obtain rfl : w2 = (.long i2) := Option.some.inj ei2
  obtain ⟨i3, ei3⟩ := isL_v u3
  obtain rfl : w3 = (.long i3) := Option.some.inj ei3
  obtain ⟨i4, ei4⟩ := isL_v u4
  obtain rfl : w4 = (.long i4) := Option.some.inj ei4
  obtain ⟨i5, ei5⟩ := is_v v4
  obtain rfl : w5 = (.int i5) := Option.some.inj ei5
  obtain ⟨n, o, h1, h2, h3, _, L, rfl, ⟨rfl, N⟩, hq⟩ := ct_law l s _ hw s.heap.size s.heap i0 i1 i2 i3 i4 i5 (Nat.le_refl _) tables_1 p e ha hc hk s m _ below hf ((Spec.applies_iff_loose hf).mp happ).1 ⟨rfl, State.Warmed39.refl s, rfl⟩ trivial
  refine ⟨n, _, h1, h2, h3, hpost _ _ _ _ _ _ ⟨Cond.after_iff.mpr rfl, Cond.after_iff.mpr (eq_i res_at (Term.int_eval (1)) rfl), trivial⟩ ⟨hq.1, hq.2.1, (hq.2.2.sift fun y hy => Or.inr (N y hy)).mono (by decide) (by decide)⟩⟩
theorem main_1_1 : Claimed_1_1 := comes_1 fun _ _ _ _ _ _ h hF => ⟨h.1, hF⟩
theorem main_1_2 : Claimed_1_2 := comes_1 fun _ _ _ _ _ _ h hF => ⟨h.2.1, hF⟩
end Jvm.Pilot.@@N@@
namespace Jvm.Pilot.@@N@@
open Jvm Jvm.ClassFile Sem Op Lib Jvm.Free Jvm.Stand Jvm.Pilot.@@N@@.Jvm.D
/-! MADE BY PROGRAM (witnessworld.py) out of the Statement's table words and the real class files: 15 classes; the members and pool entries that the words name. The judged class is class 1, her method 1. -/
namespace start1
open Jvm.ClassFile
def u (s : String) : CpInfo := .utf8 (stringToUtf16 s)
/-- a pool by its gaps: so many unusable entries, then the entry; so many at the end -/
def gap : Nat → List CpInfo → List CpInfo
  | 0, r => r
  | n + 1, r => .unusable :: gap n r
def poolList (es : List (Nat × CpInfo)) (last : Nat) : List CpInfo := es.foldr (fun e r => gap e.1 (e.2 :: r)) (gap last [])
def pool (es : List (Nat × CpInfo)) (last : Nat) : Array CpInfo := ⟨poolList es last⟩
def fileOf (pool : Array CpInfo) (this : Nat) (attrs : Array Attribute := #[]) (ms : Array MethodInfo := #[]) (fl : Nat := 33) (sup : Nat := 0) (ifs : Array Nat := #[]) (fds : Array FieldInfo := #[]) : ClassFile where
  minorVersion := 0
  majorVersion := 65
  constantPool := pool
  accessFlags := fl
  thisClass := this
  superClass := sup
  interfaces := ifs
  fields := fds
  methods := ms
  attributes := attrs
def plain (name : String) (sup : Option ClassId) : Class where
  name := name
  kind := .ordinary
  loader := none
  accessFlags := 33
  super := sup
  interfaces := #[]
  cf := none
  fields := #[]
  methods := #[]
  instanceTypes := #[]
  staticTypes := #[]
  resolved := #[]
  callSites := []
  init := .initialized
  statics := none
  mirror := none

def pool0 : Array CpInfo := pool [(5, u "<init>"), (0, u "()V"), (1, .class_ 10), (1, u "java/lang/Object")] 113

def k0c0 : Code := { maxStack := 0, maxLocals := 1, code := object_method_1_code, exceptionTable := #[], attributes := #[] }
def k0m0 : Method := { name := "<init>", desc := "()V", sig := { parameters := [], returnType := none }, accessFlags := 1, code := some k0c0 }
/-- java/lang/Object -/
def k0 : Class := { plain "java/lang/Object" none with
  accessFlags := 33
  interfaces := #[]
  cf := some (fileOf pool0 8 #[] #[{ accessFlags := 1, nameIndex := 5, descriptorIndex := 6, attributes := #[] }] 33 0 #[] #[])
  fields := #[]
  methods := #[k0m0]
  instanceTypes := #[]
  staticTypes := #[]
  resolved := Array.replicate 124 none
  statics := none }

def pool1 : Array CpInfo := pool [(2, .class_ 4), (1, u "java/lang/Object"), (0, u "<init>"), (0, u "()V"), (0, .methodref 8 9), (0, .class_ 10), (0, .nameAndType 11 12), (0, u "org/sqcap/reasoner/IntMapGetPinLaw"), (0, u "key"), (0, u "(JZ)I"), (0, .methodref 8 14), (0, .nameAndType 15 16), (0, u "val"), (0, u "(J)I"), (0, .class_ 18), (0, u "org/sqcap/reasoner/IntMap"), (0, .methodref 17 20), (0, .nameAndType 5 21), (0, u "(I)V"), (0, .methodref 17 23), (0, .nameAndType 24 25), (0, u "put"), (0, u "(II)I"), (0, .methodref 17 27), (0, .nameAndType 28 29), (0, u "get"), (0, u "(I)I"), (0, .integer 2147483647), (2, u "law"), (0, u "(JJJJJI)Z")] 3

def k1m0 : Method := { name := "<init>", desc := "()V", sig := { parameters := [], returnType := none }, accessFlags := 1, code := none }
def k1c1 : Code := { maxStack := 3, maxLocals := 28, code := code, exceptionTable := #[], attributes := #[] }
def k1m1 : Method := { name := "law", desc := "(JJJJJI)Z", sig := { parameters := [.long, .long, .long, .long, .long, .int], returnType := some .boolean }, accessFlags := 9, code := some k1c1 }
def k1c2 : Code := { maxStack := 3, maxLocals := 4, code := method_3_code, exceptionTable := #[], attributes := #[] }
def k1m2 : Method := { name := "key", desc := "(JZ)I", sig := { parameters := [.long, .boolean], returnType := some .int }, accessFlags := 10, code := some k1c2 }
def k1c3 : Code := { maxStack := 2, maxLocals := 2, code := method_4_code, exceptionTable := #[], attributes := #[] }
def k1m3 : Method := { name := "val", desc := "(J)I", sig := { parameters := [.long], returnType := some .int }, accessFlags := 10, code := some k1c3 }
/-- org/sqcap/reasoner/IntMapGetPinLaw -/
def k1 : Class := { plain "org/sqcap/reasoner/IntMapGetPinLaw" (some 0) with
  accessFlags := 49
  interfaces := #[]
  cf := some (fileOf pool1 8 #[] #[{ accessFlags := 1, nameIndex := 5, descriptorIndex := 6, attributes := #[] }, { accessFlags := 9, nameIndex := 33, descriptorIndex := 34, attributes := #[] }, { accessFlags := 10, nameIndex := 11, descriptorIndex := 12, attributes := #[] }, { accessFlags := 10, nameIndex := 15, descriptorIndex := 16, attributes := #[] }] 49 2 #[] #[])
  fields := #[]
  methods := #[k1m0, k1m1, k1m2, k1m3]
  instanceTypes := #[]
  staticTypes := #[]
  resolved := Array.replicate 38 none
  statics := none }

def pool2 : Array CpInfo := pool [(1, .methodref 2 3), (0, .class_ 4), (0, .nameAndType 5 6), (0, u "java/lang/Object"), (0, u "<init>"), (0, u "()V"), (0, .methodref 8 9), (0, .class_ 10), (0, .nameAndType 11 12), (0, u "java/lang/Math"), (0, u "max"), (0, u "(II)I"), (0, .methodref 14 15), (0, .class_ 16), (0, .nameAndType 17 18), (0, u "java/lang/Integer"), (0, u "highestOneBit"), (0, u "(I)I"), (0, .fieldref 20 21), (0, .class_ 22), (0, .nameAndType 23 24), (0, u "org/sqcap/reasoner/IntMap"), (0, u "keys"), (0, u "[I"), (0, .fieldref 20 26), (0, .nameAndType 27 24), (0, u "values"), (0, .methodref 20 29), (0, .nameAndType 30 12), (0, u "slot"), (2, u "get"), (0, .methodref 20 35), (0, .nameAndType 36 37), (0, u "store"), (0, u "(IIZ)I"), (0, .fieldref 20 39), (0, .nameAndType 40 41), (0, u "size"), (0, u "I"), (0, .methodref 20 43), (0, .nameAndType 44 6), (0, u "grow"), (6, .methodref 20 52), (0, .nameAndType 53 12), (0, u "put"), (0, .integer 2654435769), (0, u "ABSENT"), (2, u "(I)V")] 11

def k2c0 : Code := { maxStack := 2, maxLocals := 3, code := prog_54_method_1_code, exceptionTable := #[], attributes := #[] }
def k2m0 : Method := { name := "<init>", desc := "(I)V", sig := { parameters := [.int], returnType := none }, accessFlags := 0, code := some k2c0 }
def k2c1 : Code := { maxStack := 2, maxLocals := 6, code := prog_54_method_2_code, exceptionTable := #[], attributes := #[] }
def k2m1 : Method := { name := "get", desc := "(I)I", sig := { parameters := [.int], returnType := some .int }, accessFlags := 0, code := some k2c1 }
def k2c2 : Code := { maxStack := 4, maxLocals := 3, code := prog_54_method_4_code, exceptionTable := #[], attributes := #[] }
def k2m2 : Method := { name := "put", desc := "(II)I", sig := { parameters := [.int, .int], returnType := some .int }, accessFlags := 0, code := some k2c2 }
def k2c3 : Code := { maxStack := 3, maxLocals := 8, code := prog_54_method_6_code, exceptionTable := #[], attributes := #[] }
def k2m3 : Method := { name := "store", desc := "(IIZ)I", sig := { parameters := [.int, .int, .boolean], returnType := some .int }, accessFlags := 2, code := some k2c3 }
def k2c4 : Code := { maxStack := 4, maxLocals := 4, code := prog_54_method_9_code, exceptionTable := #[], attributes := #[] }
def k2m4 : Method := { name := "grow", desc := "()V", sig := { parameters := [], returnType := none }, accessFlags := 2, code := some k2c4 }
def k2c5 : Code := { maxStack := 3, maxLocals := 3, code := prog_54_method_10_code, exceptionTable := #[], attributes := #[] }
def k2m5 : Method := { name := "slot", desc := "(II)I", sig := { parameters := [.int, .int], returnType := some .int }, accessFlags := 10, code := some k2c5 }
/-- org/sqcap/reasoner/IntMap -/
def k2 : Class := { plain "org/sqcap/reasoner/IntMap" (some 0) with
  accessFlags := 48
  interfaces := #[]
  cf := some (fileOf pool2 20 #[] #[{ accessFlags := 0, nameIndex := 5, descriptorIndex := 58, attributes := #[] }, { accessFlags := 0, nameIndex := 33, descriptorIndex := 18, attributes := #[] }, { accessFlags := 0, nameIndex := 53, descriptorIndex := 12, attributes := #[] }, { accessFlags := 2, nameIndex := 36, descriptorIndex := 37, attributes := #[] }, { accessFlags := 2, nameIndex := 44, descriptorIndex := 6, attributes := #[] }, { accessFlags := 10, nameIndex := 30, descriptorIndex := 12, attributes := #[] }] 48 2 #[] #[{ accessFlags := 24, nameIndex := 55, descriptorIndex := 41, attributes := #[] }, { accessFlags := 2, nameIndex := 23, descriptorIndex := 24, attributes := #[] }, { accessFlags := 2, nameIndex := 27, descriptorIndex := 24, attributes := #[] }, { accessFlags := 2, nameIndex := 40, descriptorIndex := 41, attributes := #[] }])
  fields := #[{ name := "ABSENT", type := .int, accessFlags := 24, slot := 0, constantValue := 0 }, { name := "keys", type := (.array .int), accessFlags := 2, slot := 0, constantValue := 0 }, { name := "values", type := (.array .int), accessFlags := 2, slot := 1, constantValue := 0 }, { name := "size", type := .int, accessFlags := 2, slot := 2, constantValue := 0 }]
  methods := #[k2m0, k2m1, k2m2, k2m3, k2m4, k2m5]
  instanceTypes := #[(.array .int), (.array .int), .int]
  staticTypes := #[.int]
  resolved := Array.replicate 70 none
  statics := none }

def pool3 : Array CpInfo := pool [(1, .class_ 2), (0, u "java/lang/Math"), (1, .class_ 6), (1, u "java/lang/Object"), (0, u "<init>"), (0, u "()V"), (89, .class_ 100), (1, u "java/lang/Math$RandomNumberGeneratorHolder"), (71, u "negativeZeroFloatBits"), (0, u "J"), (2, u "negativeZeroDoubleBits"), (21, u "max"), (46, u "$assertionsDisabled"), (0, u "Z"), (88, u "(II)I"), (2, u "twoToTheDoubleScaleDown"), (0, u "D"), (4, u "twoToTheDoubleScaleUp"), (9, u "E"), (3, u "PI"), (2, u "TAU"), (2, u "DEGREES_TO_RADIANS"), (0, u "RADIANS_TO_DEGREES")] 94

def k3m0 : Method := { name := "<init>", desc := "()V", sig := { parameters := [], returnType := none }, accessFlags := 2, code := none }
def k3c1 : Code := { maxStack := 2, maxLocals := 2, code := jdk_29_method_65_code, exceptionTable := #[], attributes := #[] }
def k3m1 : Method := { name := "max", desc := "(II)I", sig := { parameters := [.int, .int], returnType := some .int }, accessFlags := 9, code := some k3c1 }
/-- java/lang/Math -/
def k3 : Class := { plain "java/lang/Math" (some 0) with
  accessFlags := 49
  interfaces := #[]
  cf := some (fileOf pool3 1 #[.nestMembers #[98]] #[{ accessFlags := 2, nameIndex := 7, descriptorIndex := 8, attributes := #[] }, { accessFlags := 9, nameIndex := 198, descriptorIndex := 335, attributes := #[] }] 49 4 #[] #[{ accessFlags := 25, nameIndex := 354, descriptorIndex := 339, attributes := #[] }, { accessFlags := 25, nameIndex := 358, descriptorIndex := 339, attributes := #[] }, { accessFlags := 25, nameIndex := 361, descriptorIndex := 339, attributes := #[] }, { accessFlags := 26, nameIndex := 364, descriptorIndex := 339, attributes := #[] }, { accessFlags := 26, nameIndex := 365, descriptorIndex := 339, attributes := #[] }, { accessFlags := 26, nameIndex := 172, descriptorIndex := 173, attributes := #[] }, { accessFlags := 26, nameIndex := 176, descriptorIndex := 173, attributes := #[] }, { accessFlags := 8, nameIndex := 344, descriptorIndex := 339, attributes := #[] }, { accessFlags := 8, nameIndex := 338, descriptorIndex := 339, attributes := #[] }, { accessFlags := 4120, nameIndex := 245, descriptorIndex := 246, attributes := #[] }])
  fields := #[{ name := "E", type := .double, accessFlags := 25, slot := 0, constantValue := 0 }, { name := "PI", type := .double, accessFlags := 25, slot := 1, constantValue := 0 }, { name := "TAU", type := .double, accessFlags := 25, slot := 2, constantValue := 0 }, { name := "DEGREES_TO_RADIANS", type := .double, accessFlags := 26, slot := 3, constantValue := 0 }, { name := "RADIANS_TO_DEGREES", type := .double, accessFlags := 26, slot := 4, constantValue := 0 }, { name := "negativeZeroFloatBits", type := .long, accessFlags := 26, slot := 5, constantValue := 0 }, { name := "negativeZeroDoubleBits", type := .long, accessFlags := 26, slot := 6, constantValue := 0 }, { name := "twoToTheDoubleScaleUp", type := .double, accessFlags := 8, slot := 7, constantValue := 0 }, { name := "twoToTheDoubleScaleDown", type := .double, accessFlags := 8, slot := 8, constantValue := 0 }, { name := "$assertionsDisabled", type := .boolean, accessFlags := 4120, slot := 9, constantValue := 0 }]
  methods := #[k3m0, k3m1]
  instanceTypes := #[]
  staticTypes := #[.double, .double, .double, .double, .double, .long, .long, .double, .double, .boolean]
  resolved := Array.replicate 460 none
  statics := none }

def pool4 : Array CpInfo := pool [(1, .class_ 2), (0, u "java/io/Serializable"), (0, .class_ 4), (0, u "java/lang/Object")] 2

/-- java/io/Serializable -/
def k4 : Class := { plain "java/io/Serializable" (some 0) with
  accessFlags := 1537
  interfaces := #[]
  cf := some (fileOf pool4 1 #[] #[] 1537 3 #[] #[])
  fields := #[]
  methods := #[]
  instanceTypes := #[]
  staticTypes := #[]
  resolved := Array.replicate 7 none
  statics := none }

def pool5 : Array CpInfo := pool [(2, .class_ 4), (1, u "java/lang/Object"), (0, u "<init>"), (0, u "()V"), (1, .class_ 10), (1, u "java/lang/Number"), (2, .class_ 14), (0, u "java/io/Serializable"), (0, u "serialVersionUID"), (0, u "J")] 20

def k5m0 : Method := { name := "<init>", desc := "()V", sig := { parameters := [], returnType := none }, accessFlags := 1, code := none }
/-- java/lang/Number -/
def k5 : Class := { plain "java/lang/Number" (some 0) with
  accessFlags := 1057
  interfaces := #[4]
  cf := some (fileOf pool5 8 #[] #[{ accessFlags := 1, nameIndex := 5, descriptorIndex := 6, attributes := #[] }] 1057 2 #[13] #[{ accessFlags := 26, nameIndex := 15, descriptorIndex := 16, attributes := #[] }])
  fields := #[{ name := "serialVersionUID", type := .long, accessFlags := 26, slot := 0, constantValue := 0 }]
  methods := #[k5m0]
  instanceTypes := #[]
  staticTypes := #[.long]
  resolved := Array.replicate 37 none
  statics := none }

def pool6 : Array CpInfo := pool [(1, .class_ 2), (0, u "java/lang/Comparable"), (0, .class_ 4), (0, u "java/lang/Object")] 7

/-- java/lang/Comparable -/
def k6 : Class := { plain "java/lang/Comparable" (some 0) with
  accessFlags := 1537
  interfaces := #[]
  cf := some (fileOf pool6 1 #[] #[] 1537 3 #[] #[])
  fields := #[]
  methods := #[]
  instanceTypes := #[]
  staticTypes := #[]
  resolved := Array.replicate 12 none
  statics := none }

def pool7 : Array CpInfo := pool [(1, .class_ 2), (0, u "java/lang/constant/Constable"), (0, .class_ 4), (0, u "java/lang/Object")] 6

/-- java/lang/constant/Constable -/
def k7 : Class := { plain "java/lang/constant/Constable" (some 0) with
  accessFlags := 1537
  interfaces := #[]
  cf := some (fileOf pool7 1 #[] #[] 1537 3 #[] #[])
  fields := #[]
  methods := #[]
  instanceTypes := #[]
  staticTypes := #[]
  resolved := Array.replicate 11 none
  statics := none }

def pool8 : Array CpInfo := pool [(1, .class_ 2), (0, u "java/lang/constant/ConstantDesc"), (0, .class_ 4), (0, u "java/lang/Object")] 32

/-- java/lang/constant/ConstantDesc -/
def k8 : Class := { plain "java/lang/constant/ConstantDesc" (some 0) with
  accessFlags := 1537
  interfaces := #[]
  cf := some (fileOf pool8 1 #[] #[] 1537 3 #[] #[])
  fields := #[]
  methods := #[]
  instanceTypes := #[]
  staticTypes := #[]
  resolved := Array.replicate 37 none
  statics := none }

def pool9 : Array CpInfo := pool [(1, .class_ 2), (0, u "java/lang/Integer"), (16, u "digits"), (0, u "[C"), (30, .methodref 1 52), (0, .nameAndType 53 54), (0, u "numberOfLeadingZeros"), (0, u "(I)I"), (30, u "DigitOnes"), (0, u "[B"), (2, u "DigitTens"), (37, .integer 2147483648), (61, .class_ 190), (0, u "java/lang/Integer$IntegerCache"), (3, u "I"), (8, .class_ 204), (0, u "java/lang/Number"), (2, u "value"), (56, .integer 65536), (37, u "TYPE"), (0, u "Ljava/lang/Class;"), (0, .class_ 305), (0, u "java/lang/Comparable"), (0, .class_ 307), (0, u "java/lang/constant/Constable"), (0, .class_ 309), (0, u "java/lang/constant/ConstantDesc"), (0, u "MIN_VALUE"), (1, u "MAX_VALUE"), (3, u "SIZE"), (1, u "BYTES"), (1, u "serialVersionUID"), (0, u "J"), (81, u "highestOneBit")] 49

def k9c0 : Code := { maxStack := 3, maxLocals := 1, code := jdk_33_method_45_code, exceptionTable := #[], attributes := #[] }
def k9m0 : Method := { name := "highestOneBit", desc := "(I)I", sig := { parameters := [.int], returnType := some .int }, accessFlags := 9, code := some k9c0 }
def k9c1 : Code := { maxStack := 3, maxLocals := 2, code := jdk_33_method_47_code, exceptionTable := #[], attributes := #[] }
def k9m1 : Method := { name := "numberOfLeadingZeros", desc := "(I)I", sig := { parameters := [.int], returnType := some .int }, accessFlags := 9, code := some k9c1 }
/-- java/lang/Integer -/
def k9 : Class := { plain "java/lang/Integer" (some 5) with
  accessFlags := 49
  interfaces := #[6, 7, 8]
  cf := some (fileOf pool9 1 #[.nestMembers #[189]] #[{ accessFlags := 9, nameIndex := 403, descriptorIndex := 54, attributes := #[] }, { accessFlags := 9, nameIndex := 53, descriptorIndex := 54, attributes := #[] }] 49 203 #[304, 306, 308] #[{ accessFlags := 25, nameIndex := 310, descriptorIndex := 194, attributes := #[] }, { accessFlags := 25, nameIndex := 312, descriptorIndex := 194, attributes := #[] }, { accessFlags := 25, nameIndex := 302, descriptorIndex := 303, attributes := #[] }, { accessFlags := 24, nameIndex := 19, descriptorIndex := 20, attributes := #[] }, { accessFlags := 24, nameIndex := 89, descriptorIndex := 86, attributes := #[] }, { accessFlags := 24, nameIndex := 85, descriptorIndex := 86, attributes := #[] }, { accessFlags := 18, nameIndex := 207, descriptorIndex := 194, attributes := #[] }, { accessFlags := 25, nameIndex := 316, descriptorIndex := 194, attributes := #[] }, { accessFlags := 25, nameIndex := 318, descriptorIndex := 194, attributes := #[] }, { accessFlags := 26, nameIndex := 320, descriptorIndex := 321, attributes := #[] }])
  fields := #[{ name := "MIN_VALUE", type := .int, accessFlags := 25, slot := 0, constantValue := 0 }, { name := "MAX_VALUE", type := .int, accessFlags := 25, slot := 1, constantValue := 0 }, { name := "TYPE", type := (.object "java/lang/Class"), accessFlags := 25, slot := 2, constantValue := 0 }, { name := "digits", type := (.array .char), accessFlags := 24, slot := 3, constantValue := 0 }, { name := "DigitTens", type := (.array .byte), accessFlags := 24, slot := 4, constantValue := 0 }, { name := "DigitOnes", type := (.array .byte), accessFlags := 24, slot := 5, constantValue := 0 }, { name := "value", type := .int, accessFlags := 18, slot := 0, constantValue := 0 }, { name := "SIZE", type := .int, accessFlags := 25, slot := 6, constantValue := 0 }, { name := "BYTES", type := .int, accessFlags := 25, slot := 7, constantValue := 0 }, { name := "serialVersionUID", type := .long, accessFlags := 26, slot := 8, constantValue := 0 }]
  methods := #[k9m0, k9m1]
  instanceTypes := #[.int]
  staticTypes := #[.int, .int, (.object "java/lang/Class"), (.array .char), (.array .byte), (.array .byte), .int, .int, .long]
  resolved := Array.replicate 453 none
  statics := none }

def pool10 : Array CpInfo := pool [(1, u "java/lang/Cloneable"), (0, .class_ 1), (0, u "java/lang/Object"), (0, .class_ 3)] 3

/-- java/lang/Cloneable -/
def k10 : Class := { plain "java/lang/Cloneable" (some 0) with
  accessFlags := 1537
  interfaces := #[]
  cf := some (fileOf pool10 2 #[] #[] 1537 4 #[] #[])
  fields := #[]
  methods := #[]
  instanceTypes := #[]
  staticTypes := #[]
  resolved := Array.replicate 8 none
  statics := none }

/-- the primitive byte -/
def k11 : Class := { plain "byte" none with kind := .primitive 'B', accessFlags := 0x411 }
/-- [B -/
def k12 : Class := { plain "[B" (some 0) with kind := .array 11 .byte, interfaces := #[10, 4], accessFlags := 1041 }

/-- the primitive int -/
def k13 : Class := { plain "int" none with kind := .primitive 'I', accessFlags := 0x411 }
/-- [I -/
def k14 : Class := { plain "[I" (some 0) with kind := .array 13 .int, interfaces := #[10, 4], accessFlags := 1041 }

def heap : Heap := #[]
def classes : Array Class := #[k0, k1, k2, k3, k4, k5, k6, k7, k8, k9, k10, k11, k12, k13, k14]
def interned : List (Array UInt16 × Addr) := []
def slotsUsed : Nat := 0
def theMethod : MethodId := ⟨1, 1⟩
def args0 : Array Value := #[.long 5, .long 6, .long 7, .long 8, .long 9, .int 1]
def aboutOver (below : List Frame) : State where
  vm := { classes := classes, interned := interned.toArray }
  heap := heap
  slotsUsed := slotsUsed
  threads := #[{ frames := .invoking theMethod args0 :: below }]
def below0 : List Frame := [.native { method := ⟨0, 0⟩, args := #[] }]
def about1 : State := aboutOver below0
def p0 : Program := .bare "" "" ""
def e0 : Env := launch0.env 0 0 0
theorem w_frames : about1.frames = Frame.invoking theMethod args0 :: below0 := rfl
set_option maxRecDepth 65536 in
theorem w_args : argsFit about1.vm theMethod args0 = true := by decide +kernel
set_option maxRecDepth 65536 in
theorem w_heap : heapFits about1 = true := by decide +kernel
set_option maxRecDepth 65536 in
theorem w_runnable : about1.curStatus? = some .runnable := by decide +kernel
set_option maxRecDepth 65536 in
theorem w_alone : about1.alone = true := by decide +kernel
set_option maxRecDepth 65536 in
theorem w_named : about1.methodNamed? x = some theMethod := by decide +kernel
set_option maxRecDepth 65536 in
theorem w_hears : about1.hears theMethod below0 = true := by decide +kernel
set_option maxRecDepth 65536 in
theorem w_ripe : about1.ripe theMethod args0 below0 = true := by decide +kernel
theorem w_running : about1.status = .running := rfl
set_option maxRecDepth 65536 in
theorem w_room : about1.hasRoom e0.platform room_1 = true :=
  launch0.hasRoom_least _ room_1 (by decide +kernel) (by decide +kernel) (by decide +kernel) (by decide +kernel) (by decide +kernel) (by decide +kernel)
theorem allAtoms_all (ts : List Jvm.Cond) (a : Array Jvm.Value) (st : Jvm.State) : (allAtoms ts).before a st = ts.all (fun c => c.before a st) := by
  induction ts with
  | nil => rfl
  | cons c t ih =>
    show (Jvm.Cond.and c (allAtoms t)).before a st = _
    rw [Jvm.Cond.before_and, ih, List.all_cons]
def words1 : List Jvm.Cond := Jvm.Cond.code x code maxLocals ret :: tables_1
/-- a 'code' word, met by the world's own term for the bytes: nothing is compared byte by byte -/
theorem code_word {y : MethodName} {bytes : ByteArray} {mx : Nat} {rt : Option FieldType} {a : Array Value} {s : State} {m : MethodId} {meth : Method} {c : Code} (h1 : s.methodNamed? y = some m) (h2 : s.vm.method? m = some meth) (h3 : meth.code = some c) (h4 : c.code = bytes)
    (h5 : (c.maxLocals == mx && c.exceptionTable.isEmpty && decide (c.maxStack ≤ mostOperands) && decide (meth.sig.returnType = rt) && !meth.locks && decide (parseMethodDescriptor y.desc = some meth.sig)) = true) : (Jvm.Cond.code y bytes mx rt).before a s = true := by
  simp only [Bool.and_eq_true, beq_iff_eq, Bool.not_eq_true', decide_eq_true_eq] at h5
  obtain ⟨⟨⟨⟨⟨g1, g2⟩, g3⟩, g4⟩, g5⟩, g6⟩ := h5
  simp [Cond.before, Cond.holds, Cond.value, h1, h2, h3, h4, g1, g2, g3, g4, g5, g6]
def isCode : Jvm.Cond → Bool
  | .code _ _ _ _ => true
  | _ => false
theorem all_split {L : List Jvm.Cond} {P : Jvm.Cond → Bool} (h1 : L.all (fun c => isCode c || P c) = true) (h2 : ∀ c ∈ L.filter isCode, P c = true) : L.all P = true := by
  refine List.all_eq_true.mpr fun c hc => ?_
  have h := List.all_eq_true.mp h1 c hc
  rcases Bool.eq_false_or_eq_true (isCode c) with hi | hi
  · exact h2 c (List.mem_filter.mpr ⟨hc, hi⟩)
  · simpa [hi] using h
set_option maxRecDepth 65536 in
theorem w_c0 : (Jvm.Cond.code x code maxLocals ret).before args0 about1 = true := code_word (m := ⟨1, 1⟩) (meth := k1m1) (c := k1c1) (by decide +kernel) rfl rfl rfl (by decide +kernel)
set_option maxRecDepth 65536 in
theorem w_c1 : (Jvm.Cond.code ({ cls := "org/sqcap/reasoner/IntMapGetPinLaw", name := "key", desc := "(JZ)I" } : Jvm.MethodName) method_3_code (4 : Nat) (Option.some Jvm.ClassFile.FieldType.int)).before args0 about1 = true := code_word (m := ⟨1, 2⟩) (meth := k1m2) (c := k1c2) (by decide +kernel) rfl rfl rfl (by decide +kernel)
set_option maxRecDepth 65536 in
theorem w_c2 : (Jvm.Cond.code ({ cls := "org/sqcap/reasoner/IntMapGetPinLaw", name := "val", desc := "(J)I" } : Jvm.MethodName) method_4_code (2 : Nat) (Option.some Jvm.ClassFile.FieldType.int)).before args0 about1 = true := code_word (m := ⟨1, 3⟩) (meth := k1m3) (c := k1c3) (by decide +kernel) rfl rfl rfl (by decide +kernel)
set_option maxRecDepth 65536 in
theorem w_c3 : (Jvm.Cond.code ({ cls := "org/sqcap/reasoner/IntMap", name := "<init>", desc := "(I)V" } : Jvm.MethodName) prog_54_method_1_code (3 : Nat) (Option.none : Option Jvm.ClassFile.FieldType)).before args0 about1 = true := code_word (m := ⟨2, 0⟩) (meth := k2m0) (c := k2c0) (by decide +kernel) rfl rfl rfl (by decide +kernel)
set_option maxRecDepth 65536 in
theorem w_c4 : (Jvm.Cond.code ({ cls := "java/lang/Object", name := "<init>", desc := "()V" } : Jvm.MethodName) object_method_1_code (1 : Nat) (Option.none : Option Jvm.ClassFile.FieldType)).before args0 about1 = true := code_word (m := ⟨0, 0⟩) (meth := k0m0) (c := k0c0) (by decide +kernel) rfl rfl rfl (by decide +kernel)
set_option maxRecDepth 65536 in
theorem w_c5 : (Jvm.Cond.code ({ cls := "java/lang/Math", name := "max", desc := "(II)I" } : Jvm.MethodName) jdk_29_method_65_code (2 : Nat) (Option.some Jvm.ClassFile.FieldType.int)).before args0 about1 = true := code_word (m := ⟨3, 1⟩) (meth := k3m1) (c := k3c1) (by decide +kernel) rfl rfl rfl (by decide +kernel)
set_option maxRecDepth 65536 in
theorem w_c6 : (Jvm.Cond.code ({ cls := "java/lang/Integer", name := "highestOneBit", desc := "(I)I" } : Jvm.MethodName) jdk_33_method_45_code (1 : Nat) (Option.some Jvm.ClassFile.FieldType.int)).before args0 about1 = true := code_word (m := ⟨9, 0⟩) (meth := k9m0) (c := k9c0) (by decide +kernel) rfl rfl rfl (by decide +kernel)
set_option maxRecDepth 65536 in
theorem w_c7 : (Jvm.Cond.code ({ cls := "java/lang/Integer", name := "numberOfLeadingZeros", desc := "(I)I" } : Jvm.MethodName) jdk_33_method_47_code (2 : Nat) (Option.some Jvm.ClassFile.FieldType.int)).before args0 about1 = true := code_word (m := ⟨9, 1⟩) (meth := k9m1) (c := k9c1) (by decide +kernel) rfl rfl rfl (by decide +kernel)
set_option maxRecDepth 65536 in
theorem w_c8 : (Jvm.Cond.code ({ cls := "org/sqcap/reasoner/IntMap", name := "put", desc := "(II)I" } : Jvm.MethodName) prog_54_method_4_code (3 : Nat) (Option.some Jvm.ClassFile.FieldType.int)).before args0 about1 = true := code_word (m := ⟨2, 2⟩) (meth := k2m2) (c := k2c2) (by decide +kernel) rfl rfl rfl (by decide +kernel)
set_option maxRecDepth 65536 in
theorem w_c9 : (Jvm.Cond.code ({ cls := "org/sqcap/reasoner/IntMap", name := "store", desc := "(IIZ)I" } : Jvm.MethodName) prog_54_method_6_code (8 : Nat) (Option.some Jvm.ClassFile.FieldType.int)).before args0 about1 = true := code_word (m := ⟨2, 3⟩) (meth := k2m3) (c := k2c3) (by decide +kernel) rfl rfl rfl (by decide +kernel)
set_option maxRecDepth 65536 in
theorem w_c10 : (Jvm.Cond.code ({ cls := "org/sqcap/reasoner/IntMap", name := "slot", desc := "(II)I" } : Jvm.MethodName) prog_54_method_10_code (3 : Nat) (Option.some Jvm.ClassFile.FieldType.int)).before args0 about1 = true := code_word (m := ⟨2, 5⟩) (meth := k2m5) (c := k2c5) (by decide +kernel) rfl rfl rfl (by decide +kernel)
set_option maxRecDepth 65536 in
theorem w_c11 : (Jvm.Cond.code ({ cls := "org/sqcap/reasoner/IntMap", name := "get", desc := "(I)I" } : Jvm.MethodName) prog_54_method_2_code (6 : Nat) (Option.some Jvm.ClassFile.FieldType.int)).before args0 about1 = true := code_word (m := ⟨2, 1⟩) (meth := k2m1) (c := k2c1) (by decide +kernel) rfl rfl rfl (by decide +kernel)
set_option maxRecDepth 65536 in
theorem w_c12 : (Jvm.Cond.code ({ cls := "org/sqcap/reasoner/IntMap", name := "grow", desc := "()V" } : Jvm.MethodName) prog_54_method_9_code (4 : Nat) (Option.none : Option Jvm.ClassFile.FieldType)).before args0 about1 = true := code_word (m := ⟨2, 4⟩) (meth := k2m4) (c := k2c4) (by decide +kernel) rfl rfl rfl (by decide +kernel)
def codes1 : List Jvm.Cond := [Jvm.Cond.code x code maxLocals ret, Jvm.Cond.code ({ cls := "org/sqcap/reasoner/IntMapGetPinLaw", name := "key", desc := "(JZ)I" } : Jvm.MethodName) method_3_code (4 : Nat) (Option.some Jvm.ClassFile.FieldType.int), Jvm.Cond.code ({ cls := "org/sqcap/reasoner/IntMapGetPinLaw", name := "val", desc := "(J)I" } : Jvm.MethodName) method_4_code (2 : Nat) (Option.some Jvm.ClassFile.FieldType.int), Jvm.Cond.code ({ cls := "org/sqcap/reasoner/IntMap", name := "<init>", desc := "(I)V" } : Jvm.MethodName) prog_54_method_1_code (3 : Nat) (Option.none : Option Jvm.ClassFile.FieldType), Jvm.Cond.code ({ cls := "java/lang/Object", name := "<init>", desc := "()V" } : Jvm.MethodName) object_method_1_code (1 : Nat) (Option.none : Option Jvm.ClassFile.FieldType), Jvm.Cond.code ({ cls := "java/lang/Math", name := "max", desc := "(II)I" } : Jvm.MethodName) jdk_29_method_65_code (2 : Nat) (Option.some Jvm.ClassFile.FieldType.int), Jvm.Cond.code ({ cls := "java/lang/Integer", name := "highestOneBit", desc := "(I)I" } : Jvm.MethodName) jdk_33_method_45_code (1 : Nat) (Option.some Jvm.ClassFile.FieldType.int), Jvm.Cond.code ({ cls := "java/lang/Integer", name := "numberOfLeadingZeros", desc := "(I)I" } : Jvm.MethodName) jdk_33_method_47_code (2 : Nat) (Option.some Jvm.ClassFile.FieldType.int), Jvm.Cond.code ({ cls := "org/sqcap/reasoner/IntMap", name := "put", desc := "(II)I" } : Jvm.MethodName) prog_54_method_4_code (3 : Nat) (Option.some Jvm.ClassFile.FieldType.int), Jvm.Cond.code ({ cls := "org/sqcap/reasoner/IntMap", name := "store", desc := "(IIZ)I" } : Jvm.MethodName) prog_54_method_6_code (8 : Nat) (Option.some Jvm.ClassFile.FieldType.int), Jvm.Cond.code ({ cls := "org/sqcap/reasoner/IntMap", name := "slot", desc := "(II)I" } : Jvm.MethodName) prog_54_method_10_code (3 : Nat) (Option.some Jvm.ClassFile.FieldType.int), Jvm.Cond.code ({ cls := "org/sqcap/reasoner/IntMap", name := "get", desc := "(I)I" } : Jvm.MethodName) prog_54_method_2_code (6 : Nat) (Option.some Jvm.ClassFile.FieldType.int), Jvm.Cond.code ({ cls := "org/sqcap/reasoner/IntMap", name := "grow", desc := "()V" } : Jvm.MethodName) prog_54_method_9_code (4 : Nat) (Option.none : Option Jvm.ClassFile.FieldType)]
set_option maxRecDepth 65536 in
theorem codes_eq : words1.filter isCode = codes1 := rfl
theorem w_codes : ∀ c ∈ words1.filter isCode, c.before args0 about1 = true := by
  rw [codes_eq]
  intro c hc
  simp only [codes1, List.mem_cons, List.not_mem_nil, or_false] at hc
  rcases hc with rfl | rfl | rfl | rfl | rfl | rfl | rfl | rfl | rfl | rfl | rfl | rfl | rfl
  · exact w_c0
  · exact w_c1
  · exact w_c2
  · exact w_c3
  · exact w_c4
  · exact w_c5
  · exact w_c6
  · exact w_c7
  · exact w_c8
  · exact w_c9
  · exact w_c10
  · exact w_c11
  · exact w_c12
set_option maxRecDepth 65536 in
theorem w_t1 : (words1.take 24).all (fun c => isCode c || c.before args0 about1) = true := by decide +kernel
set_option maxRecDepth 65536 in
theorem w_t2 : ((words1.drop 24).take 24).all (fun c => isCode c || c.before args0 about1) = true := by decide +kernel
set_option maxRecDepth 65536 in
theorem w_t3 : ((words1.drop 24).drop 24).all (fun c => isCode c || c.before args0 about1) = true := by decide +kernel
theorem w_tables : (allAtoms (Jvm.Cond.code x code maxLocals ret :: tables_1)).before args0 about1 = true := by
  rw [allAtoms_all]
  show words1.all (fun c => c.before args0 about1) = true
  refine all_split ?_ w_codes
  rw [← List.take_append_drop 24 words1, List.all_append, w_t1, ← List.take_append_drop 24 (words1.drop 24), List.all_append, w_t2, w_t3]
  rfl
set_option maxRecDepth 65536 in
theorem w_case : (Jvm.Cond.and given_1 narrow_1).before args0 about1 = true := by decide +kernel
theorem w_applies : (headSpec (Jvm.Cond.code x code maxLocals ret :: tables_1) room_1).applies x e0.platform about1 = true :=
  (Spec.applies_iff w_frames).mpr ⟨w_running, w_runnable, w_alone, w_named, w_hears, w_ripe, w_room, w_tables⟩
theorem atStart : AtStart classFile x code maxLocals ret World_1 tables_1 room_1 Calls_1 rest_1 Pre_1 launch0 p0 e0 about1 theMethod args0 below0 :=
  ⟨lists_1, trivial, launch0.admits_env _ _ _, launch0.least_env, fairChoices_fair.cas, fairChoices_fair.clock, w_frames, w_args, w_heap, w_applies, trivial, trivial, w_case⟩
end start1
theorem witness_1 : WitnessClaimed_1 := ⟨start1.p0, start1.e0, start1.about1, start1.theMethod, start1.args0, start1.below0, start1.atStart⟩
end Jvm.Pilot.@@N@@
