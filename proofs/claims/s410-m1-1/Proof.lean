import JvmDerived
import JvmDerived.Pilot.@@N@@Statement
import JvmDerived.Pilot.@@N@@Code
set_option linter.unusedVariables false
set_option linter.unusedSimpArgs false
namespace Jvm.OwnKit
open Sem ClassFile Op Lib Jvm.Stand Jvm.Free Jvm.LawKit Jvm.RoadKit
/-- what stays the same in one body: program, launch, environment, room, first state, method, arguments, frames below, method record, code -/
abbrev Cx := Program × Launch × Env × Room × State × MethodId × Array Value × List Frame × Method × Code
/-- from here the body runs to its end, and Q holds of what it returns and of the heap then -/
def G (k : Cx) (n0 : Nat) (Q : Option Value → Heap → Prop) (h : Heap) (cells slots pc : Nat) (Ls : List Slot) (St : List Value) : Prop :=
  cells ≤ k.2.2.2.1.cells → slots ≤ k.2.2.2.1.slots → ∀ (T : State) (locs : List Loc),
  Stand k.1 k.2.1 k.2.2.1 k.2.2.2.1 k.2.2.2.2.1 k.2.2.2.2.2.1 k.2.2.2.2.2.2.1 k.2.2.2.2.2.2.2.1 k.2.2.2.2.2.2.2.2.1 k.2.2.2.2.2.2.2.2.2 T locs cells slots → T.heap = h → Fr n0 locs →
  ∃ s₂ o, Steps k.1.tables k.2.2.1 k.2.2.2.2.2.2.2.1 (T.setTop (mkF k.2.2.2.2.2.1 pc ⟨Ls⟩ St)) s₂ ∧ s₂.status = .running ∧ Ended s₂ k.2.2.2.2.2.2.2.1 o ∧
    ∃ v L, o = .returned v ∧ (Q v s₂.heap ∧ Fr n0 L) ∧ FrameEnd k.2.2.2.2.1 o s₂ L k.2.2.2.1.cells k.2.2.2.1.slots
/-- what is known of the body all along -/
def Ok (k : Cx) (Z : State) (n0 : Nat) (own : String) (R : Room) (bytes : ByteArray) (maxL : Nat) (ret : Option FieldType) (nm : String) : Prop :=
  k.1.tables.exec = Jvm.exec ∧ Z.Warmed39 k.2.2.2.2.1.vm ∧ k.2.2.2.2.1.vm.findClass own = some k.2.2.2.2.2.1.cls ∧ k.2.2.2.1 = R ∧ k.2.2.2.2.2.2.2.2.2.code = bytes ∧
  k.2.2.2.2.2.2.2.2.2.maxLocals = maxL ∧ k.2.2.2.2.2.2.2.2.1.sig.returnType = ret ∧ k.2.2.2.2.2.2.2.2.1.locks = false ∧ k.2.2.2.2.2.2.2.2.1.name = nm ∧ n0 ≤ k.2.2.2.2.1.heap.size
def Dc (bytes : ByteArray) (pc : Nat) (i : Instr) (len pc' : Nat) : Prop := decode bytes pc = .ok (i, len) ∧ pc' = pc + len
def Db (bytes : ByteArray) (pc : Nat) (f : Int → Instr) (nx tg : Nat) : Prop := ∃ o : Int, decode bytes pc = .ok (f o, 3) ∧ nx = pc + 3 ∧ 0 ≤ (pc : Int) + o ∧ ((pc : Int) + o).toNat = tg
theorem dc {bytes : ByteArray} {pc : Nat} {i : Instr} {len : Nat} (h : decode bytes pc = .ok (i, len)) {pc' : Nat} (e : pc' = pc + len) : Dc bytes pc i len pc' := ⟨h, e⟩
theorem db {bytes : ByteArray} {pc : Nat} {f : Int → Instr} (o : Int) (h : decode bytes pc = .ok (f o, 3)) {nx tg : Nat} (e : nx = pc + 3) (e2 : 0 ≤ (pc : Int) + o) (e3 : ((pc : Int) + o).toNat = tg) : Db bytes pc f nx tg := ⟨o, h, e, e2, e3⟩
variable {k : Cx} {Z : State} {n0 : Nat} {own : String} {R : Room} {bytes : ByteArray} {maxL : Nat} {ret : Option FieldType} {nm : String} {Q : Option Value → Heap → Prop} {h : Heap} {cells slots pc pc' nx tg : Nat} {Ls Ls' : List Slot} {St St' : List Value} {a0 : Array Value}
/-- one step that moves neither heap nor tables -/
theorem G.plain {p : Program} {l : Launch} {e : Env} {R : Room} {s : State} {m : MethodId} {args : Array Value} {below : List Frame} {meth : Method} {c : Code}
    (st : ∀ T locs target, Stand p l e R s m args below meth c T locs cells slots → Steps p.tables e below (T.setTop (mkF m pc' ⟨Ls'⟩ St')) target → Steps p.tables e below (T.setTop (mkF m pc ⟨Ls⟩ St)) target)
    (g : G (p, l, e, R, s, m, args, below, meth, c) n0 Q h cells slots pc' Ls' St') : G (p, l, e, R, s, m, args, below, meth, c) n0 Q h cells slots pc Ls St := by
  intro hc hs T locs X eT N
  obtain ⟨s₂, o, h1, r⟩ := g hc hs T locs X eT N
  exact ⟨s₂, o, st T locs s₂ X h1, r⟩
/-- one step that leaves the heap as it is -/
theorem G.moved {p : Program} {l : Launch} {e : Env} {R : Room} {s : State} {m : MethodId} {args : Array Value} {below : List Frame} {meth : Method} {c : Code}
    (st : ∀ T locs, Stand p l e R s m args below meth c T locs cells slots → T.heap = h → ∃ T', Stand p l e R s m args below meth c T' locs cells slots ∧ T'.heap = h ∧ ∀ target, Steps p.tables e below (T'.setTop (mkF m pc' ⟨Ls'⟩ St')) target → Steps p.tables e below (T.setTop (mkF m pc ⟨Ls⟩ St)) target)
    (g : G (p, l, e, R, s, m, args, below, meth, c) n0 Q h cells slots pc' Ls' St') : G (p, l, e, R, s, m, args, below, meth, c) n0 Q h cells slots pc Ls St := by
  intro hc hs T locs X eT N
  obtain ⟨T', X', eT', st⟩ := st T locs X eT
  obtain ⟨s₂, o, h1, r⟩ := g hc hs T' locs X' eT' N
  exact ⟨s₂, o, st s₂ h1, r⟩
theorem G.more {cells' slots' : Nat} (K : Ok k Z n0 own R bytes maxL ret nm) (g : G k n0 Q h cells' slots' pc Ls St) (hc : cells ≤ cells') (hs : slots ≤ slots') (hc' : cells' ≤ R.cells) (hs' : slots' ≤ R.slots) : G k n0 Q h cells slots pc Ls St := by
  obtain ⟨-, -, -, rfl, -⟩ := K
  intro _ _ T locs X eT N
  exact g hc' hs' T locs (X.more hc hs) eT N
theorem G.post {Q' : Option Value → Heap → Prop} (g : G k n0 Q' h cells slots pc Ls St) (q : ∀ v h, Q' v h → Q v h) : G k n0 Q h cells slots pc Ls St := by
  intro hc hs T locs X eT N
  obtain ⟨s₂, o, h1, h2, h3, v, L, h4, ⟨h5, h6⟩, h7⟩ := g hc hs T locs X eT N
  exact ⟨s₂, o, h1, h2, h3, v, L, h4, ⟨q _ _ h5, h6⟩, h7⟩
theorem G.iadd (K : Ok k Z n0 own R bytes maxL ret nm) {x y : Int32} (d : Dc bytes pc .iadd 1 pc') (g : G k n0 Q h cells slots pc' Ls (.int (x + y) :: St)) : G k n0 Q h cells slots pc Ls (.int y :: .int x :: St) := by
  obtain ⟨p, l, e, R', s, m, args, below, meth, c⟩ := k
  obtain ⟨hx, hZ, hown, rfl, rfl, rfl, rfl, hlk, rfl, hn0⟩ := K
  obtain ⟨d, rfl⟩ := d
  exact G.plain (fun T locs t X q => XS.iadd X.here hx rfl d rfl q) g
theorem G.isub (K : Ok k Z n0 own R bytes maxL ret nm) {x y : Int32} (d : Dc bytes pc .isub 1 pc') (g : G k n0 Q h cells slots pc' Ls (.int (x - y) :: St)) : G k n0 Q h cells slots pc Ls (.int y :: .int x :: St) := by
  obtain ⟨p, l, e, R', s, m, args, below, meth, c⟩ := k
  obtain ⟨hx, hZ, hown, rfl, rfl, rfl, rfl, hlk, rfl, hn0⟩ := K
  obtain ⟨d, rfl⟩ := d
  exact G.plain (fun T locs t X q => XS.isub X.here hx rfl d rfl q) g
theorem G.imul (K : Ok k Z n0 own R bytes maxL ret nm) {x y : Int32} (d : Dc bytes pc .imul 1 pc') (g : G k n0 Q h cells slots pc' Ls (.int (x * y) :: St)) : G k n0 Q h cells slots pc Ls (.int y :: .int x :: St) := by
  obtain ⟨p, l, e, R', s, m, args, below, meth, c⟩ := k
  obtain ⟨hx, hZ, hown, rfl, rfl, rfl, rfl, hlk, rfl, hn0⟩ := K
  obtain ⟨d, rfl⟩ := d
  exact G.plain (fun T locs t X q => XS.imul X.here hx rfl d rfl q) g
theorem G.iand (K : Ok k Z n0 own R bytes maxL ret nm) {x y : Int32} (d : Dc bytes pc .iand 1 pc') (g : G k n0 Q h cells slots pc' Ls (.int (x &&& y) :: St)) : G k n0 Q h cells slots pc Ls (.int y :: .int x :: St) := by
  obtain ⟨p, l, e, R', s, m, args, below, meth, c⟩ := k
  obtain ⟨hx, hZ, hown, rfl, rfl, rfl, rfl, hlk, rfl, hn0⟩ := K
  obtain ⟨d, rfl⟩ := d
  exact G.plain (fun T locs t X q => XS.iand X.here hx rfl d rfl q) g
theorem G.ior (K : Ok k Z n0 own R bytes maxL ret nm) {x y : Int32} (d : Dc bytes pc .ior 1 pc') (g : G k n0 Q h cells slots pc' Ls (.int (x ||| y) :: St)) : G k n0 Q h cells slots pc Ls (.int y :: .int x :: St) := by
  obtain ⟨p, l, e, R', s, m, args, below, meth, c⟩ := k
  obtain ⟨hx, hZ, hown, rfl, rfl, rfl, rfl, hlk, rfl, hn0⟩ := K
  obtain ⟨d, rfl⟩ := d
  exact G.plain (fun T locs t X q => XT.ior X.here hx rfl d rfl q) g
theorem G.ixor (K : Ok k Z n0 own R bytes maxL ret nm) {x y : Int32} (d : Dc bytes pc .ixor 1 pc') (g : G k n0 Q h cells slots pc' Ls (.int (x ^^^ y) :: St)) : G k n0 Q h cells slots pc Ls (.int y :: .int x :: St) := by
  obtain ⟨p, l, e, R', s, m, args, below, meth, c⟩ := k
  obtain ⟨hx, hZ, hown, rfl, rfl, rfl, rfl, hlk, rfl, hn0⟩ := K
  obtain ⟨d, rfl⟩ := d
  exact G.plain (fun T locs t X q => XT.ixor X.here hx rfl d rfl q) g
theorem G.ishl (K : Ok k Z n0 own R bytes maxL ret nm) {x y : Int32} (d : Dc bytes pc .ishl 1 pc') (g : G k n0 Q h cells slots pc' Ls (.int (x <<< (y &&& 31)) :: St)) : G k n0 Q h cells slots pc Ls (.int y :: .int x :: St) := by
  obtain ⟨p, l, e, R', s, m, args, below, meth, c⟩ := k
  obtain ⟨hx, hZ, hown, rfl, rfl, rfl, rfl, hlk, rfl, hn0⟩ := K
  obtain ⟨d, rfl⟩ := d
  exact G.plain (fun T locs t X q => XT.ishl X.here hx rfl d rfl q) g
theorem G.ishr (K : Ok k Z n0 own R bytes maxL ret nm) {x y : Int32} (d : Dc bytes pc .ishr 1 pc') (g : G k n0 Q h cells slots pc' Ls (.int (x >>> (y &&& 31)) :: St)) : G k n0 Q h cells slots pc Ls (.int y :: .int x :: St) := by
  obtain ⟨p, l, e, R', s, m, args, below, meth, c⟩ := k
  obtain ⟨hx, hZ, hown, rfl, rfl, rfl, rfl, hlk, rfl, hn0⟩ := K
  obtain ⟨d, rfl⟩ := d
  exact G.plain (fun T locs t X q => XT.ishr X.here hx rfl d rfl q) g
theorem G.iushr (K : Ok k Z n0 own R bytes maxL ret nm) {x y : Int32} (d : Dc bytes pc .iushr 1 pc') (g : G k n0 Q h cells slots pc' Ls (.int (XT.ushr x y) :: St)) : G k n0 Q h cells slots pc Ls (.int y :: .int x :: St) := by
  obtain ⟨p, l, e, R', s, m, args, below, meth, c⟩ := k
  obtain ⟨hx, hZ, hown, rfl, rfl, rfl, rfl, hlk, rfl, hn0⟩ := K
  obtain ⟨d, rfl⟩ := d
  exact G.plain (fun T locs t X q => XT.iushr X.here hx rfl d rfl q) g
theorem G.ladd (K : Ok k Z n0 own R bytes maxL ret nm) {x y : Int64} (d : Dc bytes pc .ladd 1 pc') (g : G k n0 Q h cells slots pc' Ls (.long (x + y) :: St)) : G k n0 Q h cells slots pc Ls (.long y :: .long x :: St) := by
  obtain ⟨p, l, e, R', s, m, args, below, meth, c⟩ := k
  obtain ⟨hx, hZ, hown, rfl, rfl, rfl, rfl, hlk, rfl, hn0⟩ := K
  obtain ⟨d, rfl⟩ := d
  exact G.plain (fun T locs t X q => XT.ladd X.here hx rfl d rfl q) g
theorem G.lsub (K : Ok k Z n0 own R bytes maxL ret nm) {x y : Int64} (d : Dc bytes pc .lsub 1 pc') (g : G k n0 Q h cells slots pc' Ls (.long (x - y) :: St)) : G k n0 Q h cells slots pc Ls (.long y :: .long x :: St) := by
  obtain ⟨p, l, e, R', s, m, args, below, meth, c⟩ := k
  obtain ⟨hx, hZ, hown, rfl, rfl, rfl, rfl, hlk, rfl, hn0⟩ := K
  obtain ⟨d, rfl⟩ := d
  exact G.plain (fun T locs t X q => XT.lsub X.here hx rfl d rfl q) g
theorem G.lmul (K : Ok k Z n0 own R bytes maxL ret nm) {x y : Int64} (d : Dc bytes pc .lmul 1 pc') (g : G k n0 Q h cells slots pc' Ls (.long (x * y) :: St)) : G k n0 Q h cells slots pc Ls (.long y :: .long x :: St) := by
  obtain ⟨p, l, e, R', s, m, args, below, meth, c⟩ := k
  obtain ⟨hx, hZ, hown, rfl, rfl, rfl, rfl, hlk, rfl, hn0⟩ := K
  obtain ⟨d, rfl⟩ := d
  exact G.plain (fun T locs t X q => XT.lmul X.here hx rfl d rfl q) g
theorem G.land (K : Ok k Z n0 own R bytes maxL ret nm) {x y : Int64} (d : Dc bytes pc .land 1 pc') (g : G k n0 Q h cells slots pc' Ls (.long (x &&& y) :: St)) : G k n0 Q h cells slots pc Ls (.long y :: .long x :: St) := by
  obtain ⟨p, l, e, R', s, m, args, below, meth, c⟩ := k
  obtain ⟨hx, hZ, hown, rfl, rfl, rfl, rfl, hlk, rfl, hn0⟩ := K
  obtain ⟨d, rfl⟩ := d
  exact G.plain (fun T locs t X q => XT.land X.here hx rfl d rfl q) g
theorem G.lor (K : Ok k Z n0 own R bytes maxL ret nm) {x y : Int64} (d : Dc bytes pc .lor 1 pc') (g : G k n0 Q h cells slots pc' Ls (.long (x ||| y) :: St)) : G k n0 Q h cells slots pc Ls (.long y :: .long x :: St) := by
  obtain ⟨p, l, e, R', s, m, args, below, meth, c⟩ := k
  obtain ⟨hx, hZ, hown, rfl, rfl, rfl, rfl, hlk, rfl, hn0⟩ := K
  obtain ⟨d, rfl⟩ := d
  exact G.plain (fun T locs t X q => XT.lor X.here hx rfl d rfl q) g
theorem G.lxor (K : Ok k Z n0 own R bytes maxL ret nm) {x y : Int64} (d : Dc bytes pc .lxor 1 pc') (g : G k n0 Q h cells slots pc' Ls (.long (x ^^^ y) :: St)) : G k n0 Q h cells slots pc Ls (.long y :: .long x :: St) := by
  obtain ⟨p, l, e, R', s, m, args, below, meth, c⟩ := k
  obtain ⟨hx, hZ, hown, rfl, rfl, rfl, rfl, hlk, rfl, hn0⟩ := K
  obtain ⟨d, rfl⟩ := d
  exact G.plain (fun T locs t X q => XT.lxor X.here hx rfl d rfl q) g
theorem G.lshl (K : Ok k Z n0 own R bytes maxL ret nm) {x : Int64} {y : Int32} (d : Dc bytes pc .lshl 1 pc') (g : G k n0 Q h cells slots pc' Ls (.long (x <<< (y.toInt64 &&& 63)) :: St)) : G k n0 Q h cells slots pc Ls (.int y :: .long x :: St) := by
  obtain ⟨p, l, e, R', s, m, args, below, meth, c⟩ := k
  obtain ⟨hx, hZ, hown, rfl, rfl, rfl, rfl, hlk, rfl, hn0⟩ := K
  obtain ⟨d, rfl⟩ := d
  exact G.plain (fun T locs t X q => XT.lshl X.here hx rfl d rfl q) g
theorem G.lshr (K : Ok k Z n0 own R bytes maxL ret nm) {x : Int64} {y : Int32} (d : Dc bytes pc .lshr 1 pc') (g : G k n0 Q h cells slots pc' Ls (.long (x >>> (y.toInt64 &&& 63)) :: St)) : G k n0 Q h cells slots pc Ls (.int y :: .long x :: St) := by
  obtain ⟨p, l, e, R', s, m, args, below, meth, c⟩ := k
  obtain ⟨hx, hZ, hown, rfl, rfl, rfl, rfl, hlk, rfl, hn0⟩ := K
  obtain ⟨d, rfl⟩ := d
  exact G.plain (fun T locs t X q => XT.lshr X.here hx rfl d rfl q) g
theorem G.lushr (K : Ok k Z n0 own R bytes maxL ret nm) {x : Int64} {y : Int32} (d : Dc bytes pc .lushr 1 pc') (g : G k n0 Q h cells slots pc' Ls (.long (XT.ushrL x y) :: St)) : G k n0 Q h cells slots pc Ls (.int y :: .long x :: St) := by
  obtain ⟨p, l, e, R', s, m, args, below, meth, c⟩ := k
  obtain ⟨hx, hZ, hown, rfl, rfl, rfl, rfl, hlk, rfl, hn0⟩ := K
  obtain ⟨d, rfl⟩ := d
  exact G.plain (fun T locs t X q => XT.lushr X.here hx rfl d rfl q) g
theorem G.irem (K : Ok k Z n0 own R bytes maxL ret nm) {x y : Int32} (d : Dc bytes pc .irem 1 pc') (hy : y ≠ 0) (g : G k n0 Q h cells slots pc' Ls (.int (x % y) :: St)) : G k n0 Q h cells slots pc Ls (.int y :: .int x :: St) := by
  obtain ⟨p, l, e, R', s, m, args, below, meth, c⟩ := k
  obtain ⟨hx, hZ, hown, rfl, rfl, rfl, rfl, hlk, rfl, hn0⟩ := K
  obtain ⟨d, rfl⟩ := d
  exact G.plain (fun T locs t X q => iremM X hx rfl d rfl hy q) g
theorem G.idiv (K : Ok k Z n0 own R bytes maxL ret nm) {x y : Int32} (d : Dc bytes pc .idiv 1 pc') (hy : y ≠ 0) (g : G k n0 Q h cells slots pc' Ls (.int (x / y) :: St)) : G k n0 Q h cells slots pc Ls (.int y :: .int x :: St) := by
  obtain ⟨p, l, e, R', s, m, args, below, meth, c⟩ := k
  obtain ⟨hx, hZ, hown, rfl, rfl, rfl, rfl, hlk, rfl, hn0⟩ := K
  obtain ⟨d, rfl⟩ := d
  exact G.plain (fun T locs t X q => XS.idiv X.here hx rfl d rfl hy q) g
theorem G.ldiv (K : Ok k Z n0 own R bytes maxL ret nm) {x y : Int64} (d : Dc bytes pc .ldiv 1 pc') (hy : y ≠ 0) (g : G k n0 Q h cells slots pc' Ls (.long (x / y) :: St)) : G k n0 Q h cells slots pc Ls (.long y :: .long x :: St) := by
  obtain ⟨p, l, e, R', s, m, args, below, meth, c⟩ := k
  obtain ⟨hx, hZ, hown, rfl, rfl, rfl, rfl, hlk, rfl, hn0⟩ := K
  obtain ⟨d, rfl⟩ := d
  exact G.plain (fun T locs t X q => XT.ldiv X.here hx rfl d rfl hy q) g
theorem G.ineg (K : Ok k Z n0 own R bytes maxL ret nm) {x : Int32} (d : Dc bytes pc .ineg 1 pc') (g : G k n0 Q h cells slots pc' Ls (.int (-x) :: St)) : G k n0 Q h cells slots pc Ls (.int x :: St) := by
  obtain ⟨p, l, e, R', s, m, args, below, meth, c⟩ := k
  obtain ⟨hx, hZ, hown, rfl, rfl, rfl, rfl, hlk, rfl, hn0⟩ := K
  obtain ⟨d, rfl⟩ := d
  exact G.plain (fun T locs t X q => XS.ineg X.here hx rfl d rfl q) g
theorem G.lneg (K : Ok k Z n0 own R bytes maxL ret nm) {x : Int64} (d : Dc bytes pc .lneg 1 pc') (g : G k n0 Q h cells slots pc' Ls (.long (-x) :: St)) : G k n0 Q h cells slots pc Ls (.long x :: St) := by
  obtain ⟨p, l, e, R', s, m, args, below, meth, c⟩ := k
  obtain ⟨hx, hZ, hown, rfl, rfl, rfl, rfl, hlk, rfl, hn0⟩ := K
  obtain ⟨d, rfl⟩ := d
  exact G.plain (fun T locs t X q => XT.lneg X.here hx rfl d rfl q) g
theorem G.i2l (K : Ok k Z n0 own R bytes maxL ret nm) {x : Int32} (d : Dc bytes pc .i2l 1 pc') (g : G k n0 Q h cells slots pc' Ls (.long x.toInt64 :: St)) : G k n0 Q h cells slots pc Ls (.int x :: St) := by
  obtain ⟨p, l, e, R', s, m, args, below, meth, c⟩ := k
  obtain ⟨hx, hZ, hown, rfl, rfl, rfl, rfl, hlk, rfl, hn0⟩ := K
  obtain ⟨d, rfl⟩ := d
  exact G.plain (fun T locs t X q => XT.i2l X.here hx rfl d rfl q) g
theorem G.l2i (K : Ok k Z n0 own R bytes maxL ret nm) {x : Int64} (d : Dc bytes pc .l2i 1 pc') (g : G k n0 Q h cells slots pc' Ls (.int x.toInt32 :: St)) : G k n0 Q h cells slots pc Ls (.long x :: St) := by
  obtain ⟨p, l, e, R', s, m, args, below, meth, c⟩ := k
  obtain ⟨hx, hZ, hown, rfl, rfl, rfl, rfl, hlk, rfl, hn0⟩ := K
  obtain ⟨d, rfl⟩ := d
  exact G.plain (fun T locs t X q => XT.l2i X.here hx rfl d rfl q) g
theorem G.i2b (K : Ok k Z n0 own R bytes maxL ret nm) {x : Int32} (d : Dc bytes pc .i2b 1 pc') (g : G k n0 Q h cells slots pc' Ls (.int x.toInt8.toInt32 :: St)) : G k n0 Q h cells slots pc Ls (.int x :: St) := by
  obtain ⟨p, l, e, R', s, m, args, below, meth, c⟩ := k
  obtain ⟨hx, hZ, hown, rfl, rfl, rfl, rfl, hlk, rfl, hn0⟩ := K
  obtain ⟨d, rfl⟩ := d
  exact G.plain (fun T locs t X q => XT.i2b X.here hx rfl d rfl q) g
theorem G.i2s (K : Ok k Z n0 own R bytes maxL ret nm) {x : Int32} (d : Dc bytes pc .i2s 1 pc') (g : G k n0 Q h cells slots pc' Ls (.int x.toInt16.toInt32 :: St)) : G k n0 Q h cells slots pc Ls (.int x :: St) := by
  obtain ⟨p, l, e, R', s, m, args, below, meth, c⟩ := k
  obtain ⟨hx, hZ, hown, rfl, rfl, rfl, rfl, hlk, rfl, hn0⟩ := K
  obtain ⟨d, rfl⟩ := d
  exact G.plain (fun T locs t X q => XT.i2s X.here hx rfl d rfl q) g
theorem G.i2c (K : Ok k Z n0 own R bytes maxL ret nm) {x : Int32} (d : Dc bytes pc .i2c 1 pc') (g : G k n0 Q h cells slots pc' Ls (.int x.toUInt32.toUInt16.toUInt32.toInt32 :: St)) : G k n0 Q h cells slots pc Ls (.int x :: St) := by
  obtain ⟨p, l, e, R', s, m, args, below, meth, c⟩ := k
  obtain ⟨hx, hZ, hown, rfl, rfl, rfl, rfl, hlk, rfl, hn0⟩ := K
  obtain ⟨d, rfl⟩ := d
  exact G.plain (fun T locs t X q => XT.i2c X.here hx rfl d rfl q) g
theorem G.iloadN (K : Ok k Z n0 own R bytes maxL ret nm) {v : Int32} {i : Fin 4} (d : Dc bytes pc (.iload_n i) 1 pc') (hl : Ls[i.val]? = some (.val (.int v))) (g : G k n0 Q h cells slots pc' Ls (.int v :: St)) : G k n0 Q h cells slots pc Ls (St) := by
  obtain ⟨p, l, e, R', s, m, args, below, meth, c⟩ := k
  obtain ⟨hx, hZ, hown, rfl, rfl, rfl, rfl, hlk, rfl, hn0⟩ := K
  obtain ⟨d, rfl⟩ := d
  exact G.plain (fun T locs t X q => XS.iloadN X.here hx rfl d (by simpa using hl) q) g
theorem G.iload (K : Ok k Z n0 own R bytes maxL ret nm) {v : Int32} {i : Nat} (d : Dc bytes pc (.iload i) 2 pc') (hl : Ls[i]? = some (.val (.int v))) (g : G k n0 Q h cells slots pc' Ls (.int v :: St)) : G k n0 Q h cells slots pc Ls (St) := by
  obtain ⟨p, l, e, R', s, m, args, below, meth, c⟩ := k
  obtain ⟨hx, hZ, hown, rfl, rfl, rfl, rfl, hlk, rfl, hn0⟩ := K
  obtain ⟨d, rfl⟩ := d
  exact G.plain (fun T locs t X q => XS.iload X.here hx rfl d (by simpa using hl) q) g
theorem G.lloadN (K : Ok k Z n0 own R bytes maxL ret nm) {v : Int64} {i : Fin 4} (d : Dc bytes pc (.lload_n i) 1 pc') (hl : Ls[i.val]? = some (.val (.long v))) (g : G k n0 Q h cells slots pc' Ls (.long v :: St)) : G k n0 Q h cells slots pc Ls (St) := by
  obtain ⟨p, l, e, R', s, m, args, below, meth, c⟩ := k
  obtain ⟨hx, hZ, hown, rfl, rfl, rfl, rfl, hlk, rfl, hn0⟩ := K
  obtain ⟨d, rfl⟩ := d
  exact G.plain (fun T locs t X q => XT.lloadN X.here hx rfl d (by simpa using hl) q) g
theorem G.lload (K : Ok k Z n0 own R bytes maxL ret nm) {v : Int64} {i : Nat} (d : Dc bytes pc (.lload i) 2 pc') (hl : Ls[i]? = some (.val (.long v))) (g : G k n0 Q h cells slots pc' Ls (.long v :: St)) : G k n0 Q h cells slots pc Ls (St) := by
  obtain ⟨p, l, e, R', s, m, args, below, meth, c⟩ := k
  obtain ⟨hx, hZ, hown, rfl, rfl, rfl, rfl, hlk, rfl, hn0⟩ := K
  obtain ⟨d, rfl⟩ := d
  exact G.plain (fun T locs t X q => XT.lload X.here hx rfl d (by simpa using hl) q) g
theorem G.aloadN (K : Ok k Z n0 own R bytes maxL ret nm) {v : Value} {i : Fin 4} (d : Dc bytes pc (.aload_n i) 1 pc') (hl : Ls[i.val]? = some (.val (v))) (hv : v.isRef = true) (g : G k n0 Q h cells slots pc' Ls (v :: St)) : G k n0 Q h cells slots pc Ls (St) := by
  obtain ⟨p, l, e, R', s, m, args, below, meth, c⟩ := k
  obtain ⟨hx, hZ, hown, rfl, rfl, rfl, rfl, hlk, rfl, hn0⟩ := K
  obtain ⟨d, rfl⟩ := d
  exact G.plain (fun T locs t X q => XS.aloadN X.here hx rfl d (by simpa using hl) hv q) g
theorem G.aload (K : Ok k Z n0 own R bytes maxL ret nm) {v : Value} {i : Nat} (d : Dc bytes pc (.aload i) 2 pc') (hl : Ls[i]? = some (.val (v))) (hv : v.isRef = true) (g : G k n0 Q h cells slots pc' Ls (v :: St)) : G k n0 Q h cells slots pc Ls (St) := by
  obtain ⟨p, l, e, R', s, m, args, below, meth, c⟩ := k
  obtain ⟨hx, hZ, hown, rfl, rfl, rfl, rfl, hlk, rfl, hn0⟩ := K
  obtain ⟨d, rfl⟩ := d
  exact G.plain (fun T locs t X q => XS.aload X.here hx rfl d (by simpa using hl) hv q) g
theorem G.istoreN (K : Ok k Z n0 own R bytes maxL ret nm) {v : Int32} {i : Fin 4} (d : Dc bytes pc (.istore_n i) 1 pc') (Ls' : List Slot) (hl : storeLocals ⟨Ls⟩ i.val (.int v) = some ⟨Ls'⟩) (g : G k n0 Q h cells slots pc' Ls' (St)) : G k n0 Q h cells slots pc Ls (.int v :: St) := by
  obtain ⟨p, l, e, R', s, m, args, below, meth, c⟩ := k
  obtain ⟨hx, hZ, hown, rfl, rfl, rfl, rfl, hlk, rfl, hn0⟩ := K
  obtain ⟨d, rfl⟩ := d
  exact G.plain (fun T locs t X q => XS.istoreN X.here hx rfl d rfl hl q) g
theorem G.istore (K : Ok k Z n0 own R bytes maxL ret nm) {v : Int32} {i : Nat} (d : Dc bytes pc (.istore i) 2 pc') (Ls' : List Slot) (hl : storeLocals ⟨Ls⟩ i (.int v) = some ⟨Ls'⟩) (g : G k n0 Q h cells slots pc' Ls' (St)) : G k n0 Q h cells slots pc Ls (.int v :: St) := by
  obtain ⟨p, l, e, R', s, m, args, below, meth, c⟩ := k
  obtain ⟨hx, hZ, hown, rfl, rfl, rfl, rfl, hlk, rfl, hn0⟩ := K
  obtain ⟨d, rfl⟩ := d
  exact G.plain (fun T locs t X q => XS.istore X.here hx rfl d rfl hl q) g
theorem G.lstoreN (K : Ok k Z n0 own R bytes maxL ret nm) {v : Int64} {i : Fin 4} (d : Dc bytes pc (.lstore_n i) 1 pc') (Ls' : List Slot) (hl : storeLocals ⟨Ls⟩ i.val (.long v) = some ⟨Ls'⟩) (g : G k n0 Q h cells slots pc' Ls' (St)) : G k n0 Q h cells slots pc Ls (.long v :: St) := by
  obtain ⟨p, l, e, R', s, m, args, below, meth, c⟩ := k
  obtain ⟨hx, hZ, hown, rfl, rfl, rfl, rfl, hlk, rfl, hn0⟩ := K
  obtain ⟨d, rfl⟩ := d
  exact G.plain (fun T locs t X q => XT.lstoreN X.here hx rfl d rfl hl q) g
theorem G.lstore (K : Ok k Z n0 own R bytes maxL ret nm) {v : Int64} {i : Nat} (d : Dc bytes pc (.lstore i) 2 pc') (Ls' : List Slot) (hl : storeLocals ⟨Ls⟩ i (.long v) = some ⟨Ls'⟩) (g : G k n0 Q h cells slots pc' Ls' (St)) : G k n0 Q h cells slots pc Ls (.long v :: St) := by
  obtain ⟨p, l, e, R', s, m, args, below, meth, c⟩ := k
  obtain ⟨hx, hZ, hown, rfl, rfl, rfl, rfl, hlk, rfl, hn0⟩ := K
  obtain ⟨d, rfl⟩ := d
  exact G.plain (fun T locs t X q => XT.lstore X.here hx rfl d rfl hl q) g
theorem G.astoreN (K : Ok k Z n0 own R bytes maxL ret nm) {v : Value} {i : Fin 4} (d : Dc bytes pc (.astore_n i) 1 pc') (hv : v.isRef = true) (Ls' : List Slot) (hl : storeLocals ⟨Ls⟩ i.val (v) = some ⟨Ls'⟩) (g : G k n0 Q h cells slots pc' Ls' (St)) : G k n0 Q h cells slots pc Ls (v :: St) := by
  obtain ⟨p, l, e, R', s, m, args, below, meth, c⟩ := k
  obtain ⟨hx, hZ, hown, rfl, rfl, rfl, rfl, hlk, rfl, hn0⟩ := K
  obtain ⟨d, rfl⟩ := d
  exact G.plain (fun T locs t X q => XS.astoreN X.here hx rfl d rfl hv hl q) g
theorem G.astore (K : Ok k Z n0 own R bytes maxL ret nm) {v : Value} {i : Nat} (d : Dc bytes pc (.astore i) 2 pc') (hv : v.isRef = true) (Ls' : List Slot) (hl : storeLocals ⟨Ls⟩ i (v) = some ⟨Ls'⟩) (g : G k n0 Q h cells slots pc' Ls' (St)) : G k n0 Q h cells slots pc Ls (v :: St) := by
  obtain ⟨p, l, e, R', s, m, args, below, meth, c⟩ := k
  obtain ⟨hx, hZ, hown, rfl, rfl, rfl, rfl, hlk, rfl, hn0⟩ := K
  obtain ⟨d, rfl⟩ := d
  exact G.plain (fun T locs t X q => XS.astore X.here hx rfl d rfl hv hl q) g
theorem G.iinc (K : Ok k Z n0 own R bytes maxL ret nm) {x : Int32} {i : Nat} {cst : Int} (d : Dc bytes pc (.iinc i cst) 3 pc') (v : Int32) (hv : Int32.ofInt cst = v) (hl0 : Ls[i]? = some (.val (.int x))) (Ls' : List Slot) (hl : storeLocals ⟨Ls⟩ i (.int (x + v)) = some ⟨Ls'⟩) (g : G k n0 Q h cells slots pc' Ls' (St)) : G k n0 Q h cells slots pc Ls (St) := by
  obtain ⟨p, l, e, R', s, m, args, below, meth, c⟩ := k
  obtain ⟨hx, hZ, hown, rfl, rfl, rfl, rfl, hlk, rfl, hn0⟩ := K
  obtain ⟨d, rfl⟩ := d
  exact G.plain (fun T locs t X q => XT.iincV X.here hx rfl v d hv (by simpa using hl0) hl q) g
theorem G.iconst (K : Ok k Z n0 own R bytes maxL ret nm) {i : Int} (d : Dc bytes pc (.iconst i) 1 pc') (v : Int32) (hv : Int32.ofInt i = v) (g : G k n0 Q h cells slots pc' Ls (.int v :: St)) : G k n0 Q h cells slots pc Ls (St) := by
  obtain ⟨p, l, e, R', s, m, args, below, meth, c⟩ := k
  obtain ⟨hx, hZ, hown, rfl, rfl, rfl, rfl, hlk, rfl, hn0⟩ := K
  obtain ⟨d, rfl⟩ := d
  exact G.plain (fun T locs t X q => XT.iconstV X.here hx rfl v d hv q) g
theorem G.bipush (K : Ok k Z n0 own R bytes maxL ret nm) {i : Int} (d : Dc bytes pc (.bipush i) 2 pc') (v : Int32) (hv : (Int8.ofInt i).toInt32 = v) (g : G k n0 Q h cells slots pc' Ls (.int v :: St)) : G k n0 Q h cells slots pc Ls (St) := by
  obtain ⟨p, l, e, R', s, m, args, below, meth, c⟩ := k
  obtain ⟨hx, hZ, hown, rfl, rfl, rfl, rfl, hlk, rfl, hn0⟩ := K
  obtain ⟨d, rfl⟩ := d
  exact G.plain (fun T locs t X q => XT.bipushV X.here hx rfl v d hv q) g
theorem G.sipush (K : Ok k Z n0 own R bytes maxL ret nm) {i : Int} (d : Dc bytes pc (.sipush i) 3 pc') (v : Int32) (hv : (Int16.ofInt i).toInt32 = v) (g : G k n0 Q h cells slots pc' Ls (.int v :: St)) : G k n0 Q h cells slots pc Ls (St) := by
  obtain ⟨p, l, e, R', s, m, args, below, meth, c⟩ := k
  obtain ⟨hx, hZ, hown, rfl, rfl, rfl, rfl, hlk, rfl, hn0⟩ := K
  obtain ⟨d, rfl⟩ := d
  exact G.plain (fun T locs t X q => XT.sipushV X.here hx rfl v d hv q) g
theorem G.lconst (K : Ok k Z n0 own R bytes maxL ret nm) {i : Fin 2} (d : Dc bytes pc (.lconst i) 1 pc') (v : Int64) (hv : Int64.ofNat i = v) (g : G k n0 Q h cells slots pc' Ls (.long v :: St)) : G k n0 Q h cells slots pc Ls (St) := by
  obtain ⟨p, l, e, R', s, m, args, below, meth, c⟩ := k
  obtain ⟨hx, hZ, hown, rfl, rfl, rfl, rfl, hlk, rfl, hn0⟩ := K
  obtain ⟨d, rfl⟩ := d
  exact G.plain (fun T locs t X q => XT.lconstV X.here hx rfl v d hv q) g
theorem G.aconst_null (K : Ok k Z n0 own R bytes maxL ret nm)  (d : Dc bytes pc .aconst_null 1 pc') (g : G k n0 Q h cells slots pc' Ls (.null :: St)) : G k n0 Q h cells slots pc Ls (St) := by
  obtain ⟨p, l, e, R', s, m, args, below, meth, c⟩ := k
  obtain ⟨hx, hZ, hown, rfl, rfl, rfl, rfl, hlk, rfl, hn0⟩ := K
  obtain ⟨d, rfl⟩ := d
  exact G.plain (fun T locs t X q => XS.aconstNull X.here hx rfl d q) g
theorem G.ldcI (K : Ok k Z n0 own R bytes maxL ret nm) {v : Int32} {i : Nat} (d : Dc bytes pc (.ldc i) 2 pc') (w : (Cond.constant own i v).before a0 Z = true) (g : G k n0 Q h cells slots pc' Ls (.int v :: St)) : G k n0 Q h cells slots pc Ls (St) := by
  obtain ⟨p, l, e, R', s, m, args, below, meth, c⟩ := k
  obtain ⟨hx, hZ, hown, rfl, rfl, rfl, rfl, hlk, rfl, hn0⟩ := K
  obtain ⟨d, rfl⟩ := d
  exact G.plain (fun T locs t X q => X.ldcI hx hown (mvT hZ w) rfl d q) g
theorem G.ldcWI (K : Ok k Z n0 own R bytes maxL ret nm) {v : Int32} {i : Nat} (d : Dc bytes pc (.ldc_w i) 3 pc') (w : (Cond.constant own i v).before a0 Z = true) (g : G k n0 Q h cells slots pc' Ls (.int v :: St)) : G k n0 Q h cells slots pc Ls (St) := by
  obtain ⟨p, l, e, R', s, m, args, below, meth, c⟩ := k
  obtain ⟨hx, hZ, hown, rfl, rfl, rfl, rfl, hlk, rfl, hn0⟩ := K
  obtain ⟨d, rfl⟩ := d
  exact G.plain (fun T locs t X q => X.ldcWI hx hown (mvT hZ w) rfl d q) g
theorem G.ldc2J (K : Ok k Z n0 own R bytes maxL ret nm) {v : Int64} {i : Nat} (d : Dc bytes pc (.ldc2_w i) 3 pc') (w : (Cond.constantLong own i v).before a0 Z = true) (g : G k n0 Q h cells slots pc' Ls (.long v :: St)) : G k n0 Q h cells slots pc Ls (St) := by
  obtain ⟨p, l, e, R', s, m, args, below, meth, c⟩ := k
  obtain ⟨hx, hZ, hown, rfl, rfl, rfl, rfl, hlk, rfl, hn0⟩ := K
  obtain ⟨d, rfl⟩ := d
  exact G.plain (fun T locs t X q => X.ldc2J hx hown (mvT hZ w) rfl d q) g
theorem G.dup (K : Ok k Z n0 own R bytes maxL ret nm) {x : Value} (d : Dc bytes pc .dup 1 pc') (hv : x.category = 1) (g : G k n0 Q h cells slots pc' Ls (x :: x :: St)) : G k n0 Q h cells slots pc Ls (x :: St) := by
  obtain ⟨p, l, e, R', s, m, args, below, meth, c⟩ := k
  obtain ⟨hx, hZ, hown, rfl, rfl, rfl, rfl, hlk, rfl, hn0⟩ := K
  obtain ⟨d, rfl⟩ := d
  exact G.plain (fun T locs t X q => XS.dup X.here hx rfl d rfl hv q) g
theorem G.pop (K : Ok k Z n0 own R bytes maxL ret nm) {x : Value} (d : Dc bytes pc .pop 1 pc') (hv : x.category = 1) (g : G k n0 Q h cells slots pc' Ls (St)) : G k n0 Q h cells slots pc Ls (x :: St) := by
  obtain ⟨p, l, e, R', s, m, args, below, meth, c⟩ := k
  obtain ⟨hx, hZ, hown, rfl, rfl, rfl, rfl, hlk, rfl, hn0⟩ := K
  obtain ⟨d, rfl⟩ := d
  exact G.plain (fun T locs t X q => XT.pop X.here hx rfl d rfl hv q) g
theorem G.dup_x1 (K : Ok k Z n0 own R bytes maxL ret nm) {x y : Value} (d : Dc bytes pc .dup_x1 1 pc') (hv : x.category = 1) (hv' : y.category = 1) (g : G k n0 Q h cells slots pc' Ls (x :: y :: x :: St)) : G k n0 Q h cells slots pc Ls (x :: y :: St) := by
  obtain ⟨p, l, e, R', s, m, args, below, meth, c⟩ := k
  obtain ⟨hx, hZ, hown, rfl, rfl, rfl, rfl, hlk, rfl, hn0⟩ := K
  obtain ⟨d, rfl⟩ := d
  exact G.plain (fun T locs t X q => XT.dupX1 X.here hx rfl d rfl hv hv' q) g
theorem G.dup2 (K : Ok k Z n0 own R bytes maxL ret nm) {x y : Value} (d : Dc bytes pc .dup2 1 pc') (hv : x.category = 1) (hv' : y.category = 1) (g : G k n0 Q h cells slots pc' Ls (x :: y :: x :: y :: St)) : G k n0 Q h cells slots pc Ls (x :: y :: St) := by
  obtain ⟨p, l, e, R', s, m, args, below, meth, c⟩ := k
  obtain ⟨hx, hZ, hown, rfl, rfl, rfl, rfl, hlk, rfl, hn0⟩ := K
  obtain ⟨d, rfl⟩ := d
  exact G.plain (fun T locs t X q => XT.dup2 X.here hx rfl d rfl hv hv' q) g
theorem G.dup2L (K : Ok k Z n0 own R bytes maxL ret nm) {x : Int64} (d : Dc bytes pc .dup2 1 pc') (g : G k n0 Q h cells slots pc' Ls (.long x :: .long x :: St)) : G k n0 Q h cells slots pc Ls (.long x :: St) := by
  obtain ⟨p, l, e, R', s, m, args, below, meth, c⟩ := k
  obtain ⟨hx, hZ, hown, rfl, rfl, rfl, rfl, hlk, rfl, hn0⟩ := K
  obtain ⟨d, rfl⟩ := d
  exact G.plain (fun T locs t X q => XT.dup2L X.here hx rfl d rfl q) g
theorem G.goto (K : Ok k Z n0 own R bytes maxL ret nm) (d : Db bytes pc .goto nx tg) (g : G k n0 Q h cells slots tg Ls St) : G k n0 Q h cells slots pc Ls St := by
  obtain ⟨p, l, e, R', s, m, args, below, meth, c⟩ := k
  obtain ⟨hx, hZ, hown, rfl, rfl, rfl, rfl, hlk, rfl, hn0⟩ := K
  obtain ⟨o, d, rfl, d1, d2⟩ := d
  exact G.plain (fun T locs t X q => XS.goto X.here hx rfl rfl d d1 d2 q) g
theorem G.icmp_eq (K : Ok k Z n0 own R bytes maxL ret nm) {x y : Int32} (d : Db bytes pc (.if_icmp .eq) nx tg) (gy : x = y → G k n0 Q h cells slots tg Ls St) (gn : ¬ (x = y) → G k n0 Q h cells slots nx Ls St) : G k n0 Q h cells slots pc Ls (.int y :: .int x :: St) := by
  obtain ⟨p, l, e, R', s, m, args, below, meth, c⟩ := k
  obtain ⟨hx, hZ, hown, rfl, rfl, rfl, rfl, hlk, rfl, hn0⟩ := K
  obtain ⟨o, d, rfl, d1, d2⟩ := d
  by_cases q : x = y
  · exact G.plain (fun T locs t X z => XS.icmpYes X.here hx rfl rfl d rfl (XT.ii_eq_t q) d1 d2 z) (gy q)
  · exact G.plain (fun T locs t X z => XS.icmpNo X.here hx rfl d rfl (XT.ii_eq_f q) z) (gn q)
theorem G.if_eq (K : Ok k Z n0 own R bytes maxL ret nm) {x : Int32} (d : Db bytes pc (.ifCond .eq) nx tg) (gy : x = 0 → G k n0 Q h cells slots tg Ls St) (gn : ¬ (x = 0) → G k n0 Q h cells slots nx Ls St) : G k n0 Q h cells slots pc Ls (.int x :: St) := by
  obtain ⟨p, l, e, R', s, m, args, below, meth, c⟩ := k
  obtain ⟨hx, hZ, hown, rfl, rfl, rfl, rfl, hlk, rfl, hn0⟩ := K
  obtain ⟨o, d, rfl, d1, d2⟩ := d
  by_cases q : x = 0
  · exact G.plain (fun T locs t X z => XS.ifYes X.here hx rfl rfl d rfl (XT.i0_eq_t q) d1 d2 z) (gy q)
  · exact G.plain (fun T locs t X z => XS.ifNo X.here hx rfl d rfl (XT.i0_eq_f q) z) (gn q)
theorem G.lcmp_eq (K : Ok k Z n0 own R bytes maxL ret nm) {x y : Int64} {pd : Nat} (dl : Dc bytes pc .lcmp 1 pd) (d : Db bytes pd (.ifCond .eq) nx tg) (gy : x = y → G k n0 Q h cells slots tg Ls St) (gn : ¬ (x = y) → G k n0 Q h cells slots nx Ls St) : G k n0 Q h cells slots pc Ls (.long y :: .long x :: St) := by
  obtain ⟨p, l, e, R', s, m, args, below, meth, c⟩ := k
  obtain ⟨hx, hZ, hown, rfl, rfl, rfl, rfl, hlk, rfl, hn0⟩ := K
  obtain ⟨dl, rfl⟩ := dl
  obtain ⟨o, d, rfl, d1, d2⟩ := d
  by_cases q : x = y
  · exact G.plain (fun T locs t X z => XT.lcmp X.here hx rfl dl rfl (XS.ifYes X.here hx rfl rfl d rfl (XT.ll_eq_t q) d1 d2 z)) (gy q)
  · exact G.plain (fun T locs t X z => XT.lcmp X.here hx rfl dl rfl (XS.ifNo X.here hx rfl d rfl (XT.ll_eq_f q) z)) (gn q)
theorem G.icmp_ne (K : Ok k Z n0 own R bytes maxL ret nm) {x y : Int32} (d : Db bytes pc (.if_icmp .ne) nx tg) (gy : ¬ (x = y) → G k n0 Q h cells slots tg Ls St) (gn : x = y → G k n0 Q h cells slots nx Ls St) : G k n0 Q h cells slots pc Ls (.int y :: .int x :: St) := by
  obtain ⟨p, l, e, R', s, m, args, below, meth, c⟩ := k
  obtain ⟨hx, hZ, hown, rfl, rfl, rfl, rfl, hlk, rfl, hn0⟩ := K
  obtain ⟨o, d, rfl, d1, d2⟩ := d
  by_cases q : x = y
  · exact G.plain (fun T locs t X z => XS.icmpNo X.here hx rfl d rfl (XT.ii_ne_f q) z) (gn q)
  · exact G.plain (fun T locs t X z => XS.icmpYes X.here hx rfl rfl d rfl (XT.ii_ne_t q) d1 d2 z) (gy q)
theorem G.if_ne (K : Ok k Z n0 own R bytes maxL ret nm) {x : Int32} (d : Db bytes pc (.ifCond .ne) nx tg) (gy : ¬ (x = 0) → G k n0 Q h cells slots tg Ls St) (gn : x = 0 → G k n0 Q h cells slots nx Ls St) : G k n0 Q h cells slots pc Ls (.int x :: St) := by
  obtain ⟨p, l, e, R', s, m, args, below, meth, c⟩ := k
  obtain ⟨hx, hZ, hown, rfl, rfl, rfl, rfl, hlk, rfl, hn0⟩ := K
  obtain ⟨o, d, rfl, d1, d2⟩ := d
  by_cases q : x = 0
  · exact G.plain (fun T locs t X z => XS.ifNo X.here hx rfl d rfl (XT.i0_ne_f q) z) (gn q)
  · exact G.plain (fun T locs t X z => XS.ifYes X.here hx rfl rfl d rfl (XT.i0_ne_t q) d1 d2 z) (gy q)
theorem G.lcmp_ne (K : Ok k Z n0 own R bytes maxL ret nm) {x y : Int64} {pd : Nat} (dl : Dc bytes pc .lcmp 1 pd) (d : Db bytes pd (.ifCond .ne) nx tg) (gy : ¬ (x = y) → G k n0 Q h cells slots tg Ls St) (gn : x = y → G k n0 Q h cells slots nx Ls St) : G k n0 Q h cells slots pc Ls (.long y :: .long x :: St) := by
  obtain ⟨p, l, e, R', s, m, args, below, meth, c⟩ := k
  obtain ⟨hx, hZ, hown, rfl, rfl, rfl, rfl, hlk, rfl, hn0⟩ := K
  obtain ⟨dl, rfl⟩ := dl
  obtain ⟨o, d, rfl, d1, d2⟩ := d
  by_cases q : x = y
  · exact G.plain (fun T locs t X z => XT.lcmp X.here hx rfl dl rfl (XS.ifNo X.here hx rfl d rfl (XT.ll_ne_f q) z)) (gn q)
  · exact G.plain (fun T locs t X z => XT.lcmp X.here hx rfl dl rfl (XS.ifYes X.here hx rfl rfl d rfl (XT.ll_ne_t q) d1 d2 z)) (gy q)
theorem G.icmp_lt (K : Ok k Z n0 own R bytes maxL ret nm) {x y : Int32} (d : Db bytes pc (.if_icmp .lt) nx tg) (gy : x < y → G k n0 Q h cells slots tg Ls St) (gn : ¬ (x < y) → G k n0 Q h cells slots nx Ls St) : G k n0 Q h cells slots pc Ls (.int y :: .int x :: St) := by
  obtain ⟨p, l, e, R', s, m, args, below, meth, c⟩ := k
  obtain ⟨hx, hZ, hown, rfl, rfl, rfl, rfl, hlk, rfl, hn0⟩ := K
  obtain ⟨o, d, rfl, d1, d2⟩ := d
  by_cases q : x < y
  · exact G.plain (fun T locs t X z => XS.icmpYes X.here hx rfl rfl d rfl (XT.ii_lt_t q) d1 d2 z) (gy q)
  · exact G.plain (fun T locs t X z => XS.icmpNo X.here hx rfl d rfl (XT.ii_lt_f q) z) (gn q)
theorem G.if_lt (K : Ok k Z n0 own R bytes maxL ret nm) {x : Int32} (d : Db bytes pc (.ifCond .lt) nx tg) (gy : x < 0 → G k n0 Q h cells slots tg Ls St) (gn : ¬ (x < 0) → G k n0 Q h cells slots nx Ls St) : G k n0 Q h cells slots pc Ls (.int x :: St) := by
  obtain ⟨p, l, e, R', s, m, args, below, meth, c⟩ := k
  obtain ⟨hx, hZ, hown, rfl, rfl, rfl, rfl, hlk, rfl, hn0⟩ := K
  obtain ⟨o, d, rfl, d1, d2⟩ := d
  by_cases q : x < 0
  · exact G.plain (fun T locs t X z => XS.ifYes X.here hx rfl rfl d rfl (XT.i0_lt_t q) d1 d2 z) (gy q)
  · exact G.plain (fun T locs t X z => XS.ifNo X.here hx rfl d rfl (XT.i0_lt_f q) z) (gn q)
theorem G.lcmp_lt (K : Ok k Z n0 own R bytes maxL ret nm) {x y : Int64} {pd : Nat} (dl : Dc bytes pc .lcmp 1 pd) (d : Db bytes pd (.ifCond .lt) nx tg) (gy : x < y → G k n0 Q h cells slots tg Ls St) (gn : ¬ (x < y) → G k n0 Q h cells slots nx Ls St) : G k n0 Q h cells slots pc Ls (.long y :: .long x :: St) := by
  obtain ⟨p, l, e, R', s, m, args, below, meth, c⟩ := k
  obtain ⟨hx, hZ, hown, rfl, rfl, rfl, rfl, hlk, rfl, hn0⟩ := K
  obtain ⟨dl, rfl⟩ := dl
  obtain ⟨o, d, rfl, d1, d2⟩ := d
  by_cases q : x < y
  · exact G.plain (fun T locs t X z => XT.lcmp X.here hx rfl dl rfl (XS.ifYes X.here hx rfl rfl d rfl (XT.ll_lt_t q) d1 d2 z)) (gy q)
  · exact G.plain (fun T locs t X z => XT.lcmp X.here hx rfl dl rfl (XS.ifNo X.here hx rfl d rfl (XT.ll_lt_f q) z)) (gn q)
theorem G.icmp_ge (K : Ok k Z n0 own R bytes maxL ret nm) {x y : Int32} (d : Db bytes pc (.if_icmp .ge) nx tg) (gy : ¬ (x < y) → G k n0 Q h cells slots tg Ls St) (gn : x < y → G k n0 Q h cells slots nx Ls St) : G k n0 Q h cells slots pc Ls (.int y :: .int x :: St) := by
  obtain ⟨p, l, e, R', s, m, args, below, meth, c⟩ := k
  obtain ⟨hx, hZ, hown, rfl, rfl, rfl, rfl, hlk, rfl, hn0⟩ := K
  obtain ⟨o, d, rfl, d1, d2⟩ := d
  by_cases q : x < y
  · exact G.plain (fun T locs t X z => XS.icmpNo X.here hx rfl d rfl (XT.ii_ge_f q) z) (gn q)
  · exact G.plain (fun T locs t X z => XS.icmpYes X.here hx rfl rfl d rfl (XT.ii_ge_t q) d1 d2 z) (gy q)
theorem G.if_ge (K : Ok k Z n0 own R bytes maxL ret nm) {x : Int32} (d : Db bytes pc (.ifCond .ge) nx tg) (gy : ¬ (x < 0) → G k n0 Q h cells slots tg Ls St) (gn : x < 0 → G k n0 Q h cells slots nx Ls St) : G k n0 Q h cells slots pc Ls (.int x :: St) := by
  obtain ⟨p, l, e, R', s, m, args, below, meth, c⟩ := k
  obtain ⟨hx, hZ, hown, rfl, rfl, rfl, rfl, hlk, rfl, hn0⟩ := K
  obtain ⟨o, d, rfl, d1, d2⟩ := d
  by_cases q : x < 0
  · exact G.plain (fun T locs t X z => XS.ifNo X.here hx rfl d rfl (XT.i0_ge_f q) z) (gn q)
  · exact G.plain (fun T locs t X z => XS.ifYes X.here hx rfl rfl d rfl (XT.i0_ge_t q) d1 d2 z) (gy q)
theorem G.lcmp_ge (K : Ok k Z n0 own R bytes maxL ret nm) {x y : Int64} {pd : Nat} (dl : Dc bytes pc .lcmp 1 pd) (d : Db bytes pd (.ifCond .ge) nx tg) (gy : ¬ (x < y) → G k n0 Q h cells slots tg Ls St) (gn : x < y → G k n0 Q h cells slots nx Ls St) : G k n0 Q h cells slots pc Ls (.long y :: .long x :: St) := by
  obtain ⟨p, l, e, R', s, m, args, below, meth, c⟩ := k
  obtain ⟨hx, hZ, hown, rfl, rfl, rfl, rfl, hlk, rfl, hn0⟩ := K
  obtain ⟨dl, rfl⟩ := dl
  obtain ⟨o, d, rfl, d1, d2⟩ := d
  by_cases q : x < y
  · exact G.plain (fun T locs t X z => XT.lcmp X.here hx rfl dl rfl (XS.ifNo X.here hx rfl d rfl (XT.ll_ge_f q) z)) (gn q)
  · exact G.plain (fun T locs t X z => XT.lcmp X.here hx rfl dl rfl (XS.ifYes X.here hx rfl rfl d rfl (XT.ll_ge_t q) d1 d2 z)) (gy q)
theorem G.icmp_gt (K : Ok k Z n0 own R bytes maxL ret nm) {x y : Int32} (d : Db bytes pc (.if_icmp .gt) nx tg) (gy : y < x → G k n0 Q h cells slots tg Ls St) (gn : ¬ (y < x) → G k n0 Q h cells slots nx Ls St) : G k n0 Q h cells slots pc Ls (.int y :: .int x :: St) := by
  obtain ⟨p, l, e, R', s, m, args, below, meth, c⟩ := k
  obtain ⟨hx, hZ, hown, rfl, rfl, rfl, rfl, hlk, rfl, hn0⟩ := K
  obtain ⟨o, d, rfl, d1, d2⟩ := d
  by_cases q : y < x
  · exact G.plain (fun T locs t X z => XS.icmpYes X.here hx rfl rfl d rfl (XT.ii_gt_t q) d1 d2 z) (gy q)
  · exact G.plain (fun T locs t X z => XS.icmpNo X.here hx rfl d rfl (XT.ii_gt_f q) z) (gn q)
theorem G.if_gt (K : Ok k Z n0 own R bytes maxL ret nm) {x : Int32} (d : Db bytes pc (.ifCond .gt) nx tg) (gy : 0 < x → G k n0 Q h cells slots tg Ls St) (gn : ¬ (0 < x) → G k n0 Q h cells slots nx Ls St) : G k n0 Q h cells slots pc Ls (.int x :: St) := by
  obtain ⟨p, l, e, R', s, m, args, below, meth, c⟩ := k
  obtain ⟨hx, hZ, hown, rfl, rfl, rfl, rfl, hlk, rfl, hn0⟩ := K
  obtain ⟨o, d, rfl, d1, d2⟩ := d
  by_cases q : 0 < x
  · exact G.plain (fun T locs t X z => XS.ifYes X.here hx rfl rfl d rfl (XT.i0_gt_t q) d1 d2 z) (gy q)
  · exact G.plain (fun T locs t X z => XS.ifNo X.here hx rfl d rfl (XT.i0_gt_f q) z) (gn q)
theorem G.lcmp_gt (K : Ok k Z n0 own R bytes maxL ret nm) {x y : Int64} {pd : Nat} (dl : Dc bytes pc .lcmp 1 pd) (d : Db bytes pd (.ifCond .gt) nx tg) (gy : y < x → G k n0 Q h cells slots tg Ls St) (gn : ¬ (y < x) → G k n0 Q h cells slots nx Ls St) : G k n0 Q h cells slots pc Ls (.long y :: .long x :: St) := by
  obtain ⟨p, l, e, R', s, m, args, below, meth, c⟩ := k
  obtain ⟨hx, hZ, hown, rfl, rfl, rfl, rfl, hlk, rfl, hn0⟩ := K
  obtain ⟨dl, rfl⟩ := dl
  obtain ⟨o, d, rfl, d1, d2⟩ := d
  by_cases q : y < x
  · exact G.plain (fun T locs t X z => XT.lcmp X.here hx rfl dl rfl (XS.ifYes X.here hx rfl rfl d rfl (XT.ll_gt_t q) d1 d2 z)) (gy q)
  · exact G.plain (fun T locs t X z => XT.lcmp X.here hx rfl dl rfl (XS.ifNo X.here hx rfl d rfl (XT.ll_gt_f q) z)) (gn q)
theorem G.icmp_le (K : Ok k Z n0 own R bytes maxL ret nm) {x y : Int32} (d : Db bytes pc (.if_icmp .le) nx tg) (gy : ¬ (y < x) → G k n0 Q h cells slots tg Ls St) (gn : y < x → G k n0 Q h cells slots nx Ls St) : G k n0 Q h cells slots pc Ls (.int y :: .int x :: St) := by
  obtain ⟨p, l, e, R', s, m, args, below, meth, c⟩ := k
  obtain ⟨hx, hZ, hown, rfl, rfl, rfl, rfl, hlk, rfl, hn0⟩ := K
  obtain ⟨o, d, rfl, d1, d2⟩ := d
  by_cases q : y < x
  · exact G.plain (fun T locs t X z => XS.icmpNo X.here hx rfl d rfl (XT.ii_le_f q) z) (gn q)
  · exact G.plain (fun T locs t X z => XS.icmpYes X.here hx rfl rfl d rfl (XT.ii_le_t q) d1 d2 z) (gy q)
theorem G.if_le (K : Ok k Z n0 own R bytes maxL ret nm) {x : Int32} (d : Db bytes pc (.ifCond .le) nx tg) (gy : ¬ (0 < x) → G k n0 Q h cells slots tg Ls St) (gn : 0 < x → G k n0 Q h cells slots nx Ls St) : G k n0 Q h cells slots pc Ls (.int x :: St) := by
  obtain ⟨p, l, e, R', s, m, args, below, meth, c⟩ := k
  obtain ⟨hx, hZ, hown, rfl, rfl, rfl, rfl, hlk, rfl, hn0⟩ := K
  obtain ⟨o, d, rfl, d1, d2⟩ := d
  by_cases q : 0 < x
  · exact G.plain (fun T locs t X z => XS.ifNo X.here hx rfl d rfl (XT.i0_le_f q) z) (gn q)
  · exact G.plain (fun T locs t X z => XS.ifYes X.here hx rfl rfl d rfl (XT.i0_le_t q) d1 d2 z) (gy q)
theorem G.lcmp_le (K : Ok k Z n0 own R bytes maxL ret nm) {x y : Int64} {pd : Nat} (dl : Dc bytes pc .lcmp 1 pd) (d : Db bytes pd (.ifCond .le) nx tg) (gy : ¬ (y < x) → G k n0 Q h cells slots tg Ls St) (gn : y < x → G k n0 Q h cells slots nx Ls St) : G k n0 Q h cells slots pc Ls (.long y :: .long x :: St) := by
  obtain ⟨p, l, e, R', s, m, args, below, meth, c⟩ := k
  obtain ⟨hx, hZ, hown, rfl, rfl, rfl, rfl, hlk, rfl, hn0⟩ := K
  obtain ⟨dl, rfl⟩ := dl
  obtain ⟨o, d, rfl, d1, d2⟩ := d
  by_cases q : y < x
  · exact G.plain (fun T locs t X z => XT.lcmp X.here hx rfl dl rfl (XS.ifNo X.here hx rfl d rfl (XT.ll_le_f q) z)) (gn q)
  · exact G.plain (fun T locs t X z => XT.lcmp X.here hx rfl dl rfl (XS.ifYes X.here hx rfl rfl d rfl (XT.ll_le_t q) d1 d2 z)) (gy q)
theorem G.ifnull_ref (K : Ok k Z n0 own R bytes maxL ret nm) {a : Addr} (d : Db bytes pc .ifnull nx tg) (g : G k n0 Q h cells slots nx Ls St) : G k n0 Q h cells slots pc Ls (.ref a :: St) := by
  obtain ⟨p, l, e, R', s, m, args, below, meth, c⟩ := k
  obtain ⟨hx, hZ, hown, rfl, rfl, rfl, rfl, hlk, rfl, hn0⟩ := K
  obtain ⟨o, d, rfl, d1, d2⟩ := d
  exact G.plain (fun T locs t X q => XS.ifnullNo X.here hx rfl d rfl q) g
theorem G.ifnonnull_ref (K : Ok k Z n0 own R bytes maxL ret nm) {a : Addr} (d : Db bytes pc .ifnonnull nx tg) (g : G k n0 Q h cells slots tg Ls St) : G k n0 Q h cells slots pc Ls (.ref a :: St) := by
  obtain ⟨p, l, e, R', s, m, args, below, meth, c⟩ := k
  obtain ⟨hx, hZ, hown, rfl, rfl, rfl, rfl, hlk, rfl, hn0⟩ := K
  obtain ⟨o, d, rfl, d1, d2⟩ := d
  exact G.plain (fun T locs t X q => XT.ifnonnullYes X.here hx rfl rfl d rfl d1 d2 q) g
theorem G.acmp_ne (K : Ok k Z n0 own R bytes maxL ret nm) {x y : Value} (hx' : x.isRef = true) (hy' : y.isRef = true) (d : Db bytes pc (.if_acmp .ne) nx tg) (gy : ¬ x = y → G k n0 Q h cells slots tg Ls St) (gn : x = y → G k n0 Q h cells slots nx Ls St) : G k n0 Q h cells slots pc Ls (y :: x :: St) := by
  obtain ⟨p, l, e, R', s, m, args, below, meth, c⟩ := k
  obtain ⟨hx, hZ, hown, rfl, rfl, rfl, rfl, hlk, rfl, hn0⟩ := K
  obtain ⟨o, d, rfl, d1, d2⟩ := d
  by_cases q : x = y
  · exact G.plain (fun T locs t X z => XT.acmpNo X.here hx rfl d rfl hx' hy' (XT.aa_ne_f q) z) (gn q)
  · exact G.plain (fun T locs t X z => XT.acmpYes X.here hx rfl rfl d rfl hx' hy' (XT.aa_ne_t q) d1 d2 z) (gy q)
/-- the end -/
theorem G.leave {p : Program} {l : Launch} {e : Env} {R : Room} {s : State} {m : MethodId} {args : Array Value} {below : List Frame} {meth : Method} {c : Code} (hlk : meth.locks = false) (v : Option Value) (hv : meth.sig.returnType = none → v = none) (hq : Q v h)
    (st : ∀ T locs fs, Stand p l e R s m args below meth c T locs cells slots → (∀ (f : JFrame) (acts : List Action), f.method = m → f.locked = none → f.entered = [] → (doReturn e (T.setTop f) acts v).1 = T.setFrames fs) → Steps p.tables e below (T.setTop (mkF m pc ⟨Ls⟩ St)) (T.setFrames fs)) :
    G (p, l, e, R, s, m, args, below, meth, c) n0 Q h cells slots pc Ls St := by
  intro hc hs T locs X eT N
  obtain ⟨fs, hr, hrun, hended, hW, hsame⟩ := X.leave (v := v) hv hlk
  exact ⟨_, _, st T locs fs X hr, hrun, hended, v, locs, rfl, ⟨by show Q v T.heap; rw [eT]; exact hq, N⟩, ⟨_, rfl⟩, hW, hsame.mono hc hs⟩
theorem G.ret_int (K : Ok k Z n0 own R bytes maxL (some .int) nm) {x : Int32} (d : Dc bytes pc .ireturn 1 pc') (hq : Q (some (.int x)) h) : G k n0 Q h cells slots pc Ls (.int x :: St) := by
  obtain ⟨p, l, e, R', s, m, args, below, meth, c⟩ := k
  obtain ⟨hx, hZ, hown, rfl, rfl, rfl, hr0, hlk, rfl, hn0⟩ := K
  obtain ⟨d, rfl⟩ := d
  exact G.leave hlk (some (.int x)) (fun q => by rw [hr0] at q; cases q) hq (fun T locs fs X hr => retOut X hx hr0 rfl (Or.inl ⟨rfl, Or.inl rfl, x, rfl⟩) d hr)
theorem G.ret_bool (K : Ok k Z n0 own R bytes maxL (some .boolean) nm) {x : Int32} (d : Dc bytes pc .ireturn 1 pc') (hq : Q (some (.int (x &&& 1))) h) : G k n0 Q h cells slots pc Ls (.int x :: St) := by
  obtain ⟨p, l, e, R', s, m, args, below, meth, c⟩ := k
  obtain ⟨hx, hZ, hown, rfl, rfl, rfl, hr0, hlk, rfl, hn0⟩ := K
  obtain ⟨d, rfl⟩ := d
  exact G.leave hlk (some (.int (x &&& 1))) (fun q => by rw [hr0] at q; cases q) hq (fun T locs fs X hr => retN X hx (t := .boolean) hr0 (by simp) d hr)
theorem G.ret_long (K : Ok k Z n0 own R bytes maxL (some .long) nm) {x : Int64} (d : Dc bytes pc .lreturn 1 pc') (hq : Q (some (.long x)) h) : G k n0 Q h cells slots pc Ls (.long x :: St) := by
  obtain ⟨p, l, e, R', s, m, args, below, meth, c⟩ := k
  obtain ⟨hx, hZ, hown, rfl, rfl, rfl, hr0, hlk, rfl, hn0⟩ := K
  obtain ⟨d, rfl⟩ := d
  exact G.leave hlk (some (.long x)) (fun q => by rw [hr0] at q; cases q) hq (fun T locs fs X hr => retOut X hx hr0 rfl (Or.inr (Or.inl ⟨rfl, rfl, x, rfl⟩)) d hr)
theorem G.ret_ref {t : FieldType} (K : Ok k Z n0 own R bytes maxL (some t) nm) (ht : t.isReference = true) {x : Value} (hv : x.isRef = true) (d : Dc bytes pc .areturn 1 pc') (hq : Q (some x) h) : G k n0 Q h cells slots pc Ls (x :: St) := by
  obtain ⟨p, l, e, R', s, m, args, below, meth, c⟩ := k
  obtain ⟨hx, hZ, hown, rfl, rfl, rfl, hr0, hlk, rfl, hn0⟩ := K
  obtain ⟨d, rfl⟩ := d
  have hn : narrow t x = x := by rcases ref_cases hv with rfl | ⟨a, rfl⟩ <;> cases t <;> rfl
  exact G.leave hlk (some x) (fun q => by rw [hr0] at q; cases q) hq (fun T locs fs X hr => retOut X hx hr0 hn (Or.inr (Or.inr (Or.inr (Or.inr ⟨rfl, ht, hv⟩)))) d hr)
theorem G.ret_void (K : Ok k Z n0 own R bytes maxL none nm) (d : Dc bytes pc .return_ 1 pc') (hq : Q none h) : G k n0 Q h cells slots pc Ls [] := by
  obtain ⟨p, l, e, R', s, m, args, below, meth, c⟩ := k
  obtain ⟨hx, hZ, hown, rfl, rfl, rfl, hr0, hlk, rfl, hn0⟩ := K
  obtain ⟨d, rfl⟩ := d
  exact G.leave hlk none (fun q => rfl) hq (fun T locs fs X hr => X.returnOut hx hr0 d hr)
/-! ### what is known of the heap: one word a cell that the law has made -/
theorem nd_inj {α : Type} {L : List α} (H : L.Nodup) {i j : Nat} {x : α} (hi : L[i]? = some x) (hj : L[j]? = some x) : i = j := by
  obtain ⟨h1, e1⟩ := List.getElem?_eq_some_iff.mp hi
  obtain ⟨h2, e2⟩ := List.getElem?_eq_some_iff.mp hj
  have w := List.pairwise_iff_getElem.mp H
  rcases Nat.lt_trichotomy i j with q | q | q
  · exact absurd (e1.trans e2.symm) (w i j h1 h2 q)
  · exact q
  · exact absurd (e2.trans e1.symm) (w j i h2 h1 q)
abbrev Ch := Addr × (Cell → Prop)
def Hp (n0 : Nat) (h : Heap) (σ : List Ch) : Prop := (σ.map Prod.fst).Nodup ∧ ∀ q ∈ σ, n0 ≤ q.1 ∧ ∃ cell, h[q.1]? = some cell ∧ q.2 cell
variable {σ : List Ch} {a : Addr} {P P' : Cell → Prop} {i : Nat} {h' : Heap}
theorem Hp.nil : Hp n0 h [] := ⟨List.nodup_nil, fun _ q => nomatch q⟩
theorem Hp.at (H : Hp n0 h σ) (hi : σ[i]? = some (a, P)) : n0 ≤ a ∧ ∃ cell, h[a]? = some cell ∧ P cell := H.2 _ (List.mem_of_getElem? hi)
theorem Hp.ge (H : Hp n0 h σ) (hi : σ[i]? = some (a, P)) : n0 ≤ a := (H.at hi).1
theorem Hp.lt (H : Hp n0 h σ) (q : Ch) (hq : q ∈ σ) : q.1 < h.size := by
  obtain ⟨-, cell, h1, -⟩ := H.2 _ hq
  exact (Array.getElem?_eq_some_iff.mp h1).1
theorem Hp.ne (H : Hp n0 h σ) {j : Nat} {b : Addr} {P' : Cell → Prop} (hi : σ[i]? = some (a, P)) (hj : σ[j]? = some (b, P')) (q : i ≠ j) : a ≠ b := by
  intro e
  subst e
  exact q (nd_inj H.1 (x := a) (by simp [hi]) (by simp [hj]))
theorem Hp.ext (H : Hp n0 h σ) (E : Ext h h') : Hp n0 h' σ := ⟨H.1, fun q hq => by obtain ⟨h1, c, h2, h3⟩ := H.2 q hq; exact ⟨h1, c, E.2 _ _ h2, h3⟩⟩
theorem Hp.cons (H : Hp n0 h σ) (E : Ext h h') (hn : n0 ≤ h.size) (w : ∃ cell, h'[h.size]? = some cell ∧ P cell) : Hp n0 h' ((h.size, P) :: σ) := by
  refine ⟨?_, fun q hq => ?_⟩
  · rw [List.map_cons, List.nodup_cons]
    refine ⟨fun q => ?_, H.1⟩
    obtain ⟨x, hx, e⟩ := List.mem_map.mp q
    have := H.lt x hx
    rw [e] at this
    exact absurd this (Nat.lt_irrefl _)
  · rcases List.mem_cons.mp hq with rfl | hq
    · exact ⟨hn, w⟩
    · exact (H.ext E).2 q hq
theorem Hp.drop {x : Ch} (H : Hp n0 h (x :: σ)) : Hp n0 h σ := ⟨(List.nodup_cons.mp H.1).2, fun q hq => H.2 q (List.mem_cons_of_mem _ hq)⟩
theorem Hp.sub {σ' : List Ch} (H : Hp n0 h σ) (q : σ'.Sublist σ) : Hp n0 h σ' := ⟨List.Nodup.sublist (q.map _) H.1, fun x hx => H.2 x (q.subset hx)⟩
theorem Hp.perm {σ' : List Ch} (H : Hp n0 h σ) (q : σ'.Perm σ) : Hp n0 h σ' := ⟨(List.Perm.nodup_iff (q.map Prod.fst)).mpr H.1, fun x hx => H.2 x (q.mem_iff.mp hx)⟩
theorem perm_pull : ∀ {i : Nat} {σ : List Ch} {x : Ch}, σ[i]? = some x → (x :: σ.eraseIdx i).Perm σ
  | 0, y :: σ, x, e => by cases Option.some.inj e; exact List.Perm.refl _
  | i + 1, y :: σ, x, e => ((List.Perm.swap y x _).trans ((perm_pull (i := i) (σ := σ) e).cons y))
theorem Hp.pull (H : Hp n0 h σ) (i : Nat) {x : Ch} (hi : σ[i]? = some x) : Hp n0 h (x :: σ.eraseIdx i) := H.perm (perm_pull hi)
theorem Hp.set (H : Hp n0 h σ) (hi : σ[i]? = some (a, P)) (hs : h'.size = h.size) (ho : ∀ b, b ≠ a → h'[b]? = h[b]?) (w : ∃ cell, h'[a]? = some cell ∧ P' cell) : Hp n0 h' (σ.set i (a, P')) := by
  obtain ⟨hlt, e1⟩ := List.getElem?_eq_some_iff.mp hi
  have em : (σ.set i (a, P')).map Prod.fst = σ.map Prod.fst := by
    apply List.ext_getElem?
    intro j
    by_cases q : i = j
    · subst q; simp [hlt, e1]
    · simp [List.getElem?_set_ne q]
  refine ⟨by rw [em]; exact H.1, fun q hq => ?_⟩
  obtain ⟨j, hj, e⟩ := List.getElem_of_mem hq
  rw [List.getElem_set] at e
  rw [List.length_set] at hj
  by_cases z : i = j
  · rw [if_pos z] at e; subst e; exact ⟨H.ge hi, w⟩
  · rw [if_neg z] at e
    have hj' : σ[j]? = some (q.1, q.2) := by rw [List.getElem?_eq_getElem hj, e]
    have hne : q.1 ≠ a := H.ne hj' hi (Ne.symm z)
    obtain ⟨h1, c, h2, h3⟩ := H.at hj'
    exact ⟨h1, c, by rw [ho _ hne]; exact h2, h3⟩
theorem Hp.wr {sl : Nat} {v : Value} (H : Hp n0 h σ) (hi : σ[i]? = some (a, P)) (W : Wr h h' a sl v) (hP : ∀ cell, P cell → P' (cell.setSlot sl v)) : Hp n0 h' (σ.set i (a, P')) := by
  obtain ⟨cell, h1, h2, h3, rfl⟩ := W
  obtain ⟨-, c', h4, h5⟩ := H.at hi
  cases h1.symm.trans h4
  refine H.set hi (by simp) (fun b hb => Array.getElem?_setIfInBounds_ne (Ne.symm hb)) ⟨_, Array.getElem?_setIfInBounds_self_of_lt (Array.getElem?_eq_some_iff.mp h1).1, hP _ h5⟩
theorem Hp.imp (H : Hp n0 h σ) (hi : σ[i]? = some (a, P)) (hP : ∀ cell, P cell → P' cell) : Hp n0 h (σ.set i (a, P')) := by
  obtain ⟨-, c, h1, h2⟩ := H.at hi
  exact H.set hi rfl (fun _ _ => rfl) ⟨c, h1, hP c h2⟩
/-- an object, its class, the fields that are spoken of and what they hold -/
def Ob (Z : State) (C : String) (NS : List (String × String × String)) (vs : List Value) (cell : Cell) : Prop :=
  (∃ k, Z.vm.findClass C = some cell.cls ∧ Z.vm.classes[cell.cls]? = some k ∧ cell.vm.isStatics = false ∧ (k.kind = .ordinary → cell.slots.size = k.instanceTypes.size)) ∧
  ∀ (j : Nat) (f : String × String × String) (v : Value), NS[j]? = some f → vs[j]? = some v → ∃ (cf : ClassId) (k : Class) (i : Nat) (fd : Field), Z.fieldFound? f.1 f.2.1 f.2.2 = some (cf, k, i, fd) ∧ fd.isStatic = false ∧ cell.vm ≠ .unknown ∧ Z.vm.assignable cell.cls cf = true ∧ cell.slots[fd.slot]? = some v
/-- what the sheet says of a class's fields -/
def Cf (Z : State) (a0 : Array Value) (C : String) (NS : List (String × String × String)) : Prop := (∀ f ∈ NS, Laid Z a0 C f.1 f.2.1 f.2.2) ∧ (NS.map fun f => f.2.1).Nodup ∧ ∀ f ∈ NS, ∃ t, parseFieldDescriptor f.2.2 = some t
variable {C O n ds : String} {NS : List (String × String × String)} {vs : List Value} {j : Nat} {v w : Value}
theorem Hp.exa (H : Hp n0 h σ) (hi : σ[i]? = some (a, Ob Z C NS vs)) : Exa Z h a C := by
  obtain ⟨-, cell, h1, ⟨k, h2, h3, h4, h5⟩, -⟩ := H.at hi
  exact ⟨cell, k, h1, h2, h3, h4, h5⟩
theorem Hp.fld (H : Hp n0 h σ) (hi : σ[i]? = some (a, Ob Z C NS vs)) (hj : NS[j]? = some (O, n, ds)) (hv : vs[j]? = some v) : Fld Z h a O n ds v := by
  obtain ⟨-, cell, h1, ⟨k, h2, h3, h4, h5⟩, h6⟩ := H.at hi
  obtain ⟨cf, k, i, fd, q1, q2, q3, q4, q5⟩ := h6 j _ _ hj hv
  exact ⟨cell, cf, k, i, fd, h1, q1, q2, q3, h4, q4, q5⟩
theorem Ob.set (F : Cf Z a0 C NS) (hj : NS[j]? = some (O, n, ds)) (hv : vs[j]? = some v) (w : Value) {cell : Cell} (B : Ob Z C NS vs cell) : Ob Z C NS (vs.set j w) (cell.setSlot (RoadKit.slotOf Z O n ds) w) := by
  obtain ⟨⟨k, h2, h3, h4, h5⟩, h6⟩ := B
  refine ⟨⟨k, h2, h3, h4, fun q => by rw [sz_set]; exact h5 q⟩, fun j' f v' hf hv' => ?_⟩
  obtain ⟨cf, kk, ii, fd, q1, q2, q3, q4, q5⟩ := h6 j _ _ hj hv
  have es : RoadKit.slotOf Z O n ds = fd.slot := by simp [RoadKit.slotOf, q1]
  by_cases z : j = j'
  · subst z
    cases hj.symm.trans hf
    have hl := (List.getElem?_eq_some_iff.mp hv).1
    rw [List.getElem?_set_self hl] at hv'
    cases hv'
    refine ⟨cf, kk, ii, fd, q1, q2, q3, q4, ?_⟩
    rw [es]
    exact Array.getElem?_setIfInBounds_self_of_lt (Array.getElem?_eq_some_iff.mp q5).1
  · rw [List.getElem?_set_ne z] at hv'
    obtain ⟨cf', kk', ii', fd', r1, r2, r3, r4, r5⟩ := h6 j' _ _ hf hv'
    refine ⟨cf', kk', ii', fd', r1, r2, r3, r4, ?_⟩
    have es' : RoadKit.slotOf Z f.1 f.2.1 f.2.2 = fd'.slot := by simp [RoadKit.slotOf, r1]
    have m1 := List.mem_of_getElem? hj
    have m2 := List.mem_of_getElem? hf
    have hne : n ≠ f.2.1 := by
      intro e
      exact z (nd_inj F.2.1 (x := n) (by simp [hj]) (by simp [hf, e]))
    obtain ⟨t1, p1⟩ := F.2.2 _ m1
    obtain ⟨t2, p2⟩ := F.2.2 _ m2
    have := RoadKit.slot_ne (F.1 _ m1) (F.1 _ m2) hne p1 p2
    rw [es'] at this
    show (Array.setIfInBounds _ _ _)[_]? = _
    rw [Array.getElem?_setIfInBounds_ne this]
    exact r5
theorem G.getF (K : Ok k Z n0 own R bytes maxL ret nm) {idx : Nat} {host : String} (w : (Cond.fieldLink own idx O n ds).before a0 Z = true ∨ (Cond.fieldLinkNest own idx O n ds host).before a0 Z = true) (H : Hp n0 h σ) (hi : σ[i]? = some (a, Ob Z C NS vs)) (hj : NS[j]? = some (O, n, ds)) (hv : vs[j]? = some v)
    (d : Dc bytes pc (.getfield idx) 3 pc') (g : G k n0 Q h cells slots pc' Ls (v :: St)) : G k n0 Q h cells slots pc Ls (.ref a :: St) := by
  obtain ⟨p, l, e, R', s, m, args, below, meth, c⟩ := k
  obtain ⟨hx, hZ, hown, rfl, rfl, rfl, rfl, hlk, rfl, hn0⟩ := K
  obtain ⟨d, rfl⟩ := d
  exact G.moved (fun T locs X eT => RoadKit.getF X hx hZ hown w Via.refl eT (H.fld hi hj hv) (g := mkF m pc ⟨Ls⟩ (.ref a :: St)) rfl rfl d) g
theorem G.putF (K : Ok k Z n0 own R bytes maxL ret nm) {idx kk : Nat} {host : String} {ty : FieldType} (w : (Cond.fieldLink own idx O n ds).before a0 Z = true ∨ (Cond.fieldLinkNest own idx O n ds host).before a0 Z = true) (F : Cf Z a0 C NS) (wl : (Cond.lays C O n ds).before a0 Z = true ∨ ((Cond.laysFinal C O n ds).before a0 Z = true ∧ own = O ∧ nm = "<init>")) (wi : (Cond.instantiable C kk).before a0 Z = true)
    (H : Hp n0 h σ) (hi : σ[i]? = some (a, Ob Z C NS vs)) (hj : NS[j]? = some (O, n, ds)) {old : Value} (hv : vs[j]? = some old) (hty : parseFieldDescriptor ds = some ty) (hn : narrow ty v = v) (hf : fits ty v = true)
    (d : Dc bytes pc (.putfield idx) 3 pc') (g : ∀ h', Hp n0 h' (σ.set i (a, Ob Z C NS (vs.set j v))) → G k n0 Q h' cells slots pc' Ls St) : G k n0 Q h cells slots pc Ls (v :: .ref a :: St) := by
  obtain ⟨p, l, e, R', s, m, args, below, meth, c⟩ := k
  obtain ⟨hx, hZ, hown, rfl, rfl, rfl, rfl, hlk, rfl, hn0⟩ := K
  obtain ⟨d, rfl⟩ := d
  intro hc hs T locs X eT N
  obtain ⟨T', h', X', eT', W, st⟩ := RoadKit.putF X hx hZ hown w Via.refl eT (H.fld hi hj hv) (H.exa hi) wl wi hty hn hf (g := mkF m pc ⟨Ls⟩ (v :: .ref a :: St)) rfl rfl d
  obtain ⟨s₂, o, h1, r⟩ := g h' (H.wr hi W fun cell B => Ob.set F hj hv v B) hc hs T' _ X' eT' (Fr.snoc X' N (H.ge hi))
  exact ⟨s₂, o, st s₂ h1, r⟩
theorem G.putFN (K : Ok k Z n0 own R bytes maxL ret nm) {idx kk : Nat} {ty : FieldType} (w : (Cond.fieldLink own idx O n ds).before a0 Z = true) (F : Cf Z a0 C NS) (wl : (Cond.lays C O n ds).before a0 Z = true ∨ ((Cond.laysFinal C O n ds).before a0 Z = true ∧ own = O ∧ nm = "<init>")) (wi : (Cond.instantiable C kk).before a0 Z = true)
    (H : Hp n0 h σ) (hi : σ[i]? = some (a, Ob Z C NS vs)) (hj : NS[j]? = some (O, n, ds)) {old v' : Value} (hv : vs[j]? = some old) (hty : parseFieldDescriptor ds = some ty) (hn : narrow ty v = v') (hf : fits ty v' = true)
    (d : Dc bytes pc (.putfield idx) 3 pc') (g : ∀ h', Hp n0 h' (σ.set i (a, Ob Z C NS (vs.set j v'))) → G k n0 Q h' cells slots pc' Ls St) : G k n0 Q h cells slots pc Ls (v :: .ref a :: St) := by
  obtain ⟨p, l, e, R', s, m, args, below, meth, c⟩ := k
  obtain ⟨hx, hZ, hown, rfl, rfl, rfl, rfl, hlk, rfl, hn0⟩ := K
  obtain ⟨d, rfl⟩ := d
  intro hc hs T locs X eT N
  obtain ⟨T', h', X', eT', W, st⟩ := RoadKit.putFN X hx hZ hown w Via.refl eT (H.fld hi hj hv) (H.exa hi) wl wi hty hn hf (g := mkF m pc ⟨Ls⟩ (v :: .ref a :: St)) rfl rfl d
  obtain ⟨s₂, o, h1, r⟩ := g h' (H.wr hi W fun cell B => Ob.set F hj hv v' B) hc hs T' _ X' eT' (Fr.snoc X' N (H.ge hi))
  exact ⟨s₂, o, st s₂ h1, r⟩
theorem size_ok {p : Program} {l : Launch} {e : Env} {R : Room} {s : State} {m : MethodId} {args : Array Value} {below : List Frame} {meth : Method} {c : Code} {T : State} {locs : List Loc} (X : Stand p l e R s m args below meth c T locs cells slots) (eT : T.heap = h) (hn : n0 ≤ s.heap.size) : n0 ≤ h.size := by
  have := X.same.2.1
  subst eT
  exact Nat.le_trans hn this
theorem G.new (K : Ok k Z n0 own R bytes maxL ret nm) {idx kk : Nat} (w : (Cond.classLink own idx C).before a0 Z = true) (wi : (Cond.instantiable C kk).before a0 Z = true) (wz : (Cond.initialized C).before a0 Z = true) (F : Cf Z a0 C NS)
    (hd : NS.map (fun f => (parseFieldDescriptor f.2.2).map defaultValue) = vs.map some) (H : Hp n0 h σ) (hc : cells + 1 ≤ R.cells) (hl : slots + kk ≤ R.slots) (d : Dc bytes pc (.new idx) 3 pc')
    (g : ∀ a h', Hp n0 h' ((a, Ob Z C NS vs) :: σ) → G k n0 Q h' (cells + 1) (slots + kk) pc' Ls (.ref a :: St)) : G k n0 Q h cells slots pc Ls St := by
  obtain ⟨p, l, e, R', s, m, args, below, meth, c⟩ := k
  obtain ⟨hx, hZ, hown, rfl, rfl, rfl, rfl, hlk, rfl, hn0⟩ := K
  obtain ⟨d, rfl⟩ := d
  intro _ _ T locs X eT N
  obtain ⟨T', h', X', eT', E, A, D, ⟨cell, hc1, hc2, -⟩, st⟩ := RoadKit.newO X hx hZ hown w wi wz eT (g := mkF m pc ⟨Ls⟩ St) rfl d hc hl
  have B : Ob Z C NS vs cell := by
    obtain ⟨c', k, q1, q2, q3, q4, q5⟩ := A
    cases hc1.symm.trans q1
    refine ⟨⟨k, q2, q3, q4, q5⟩, fun j f v hf hv => ?_⟩
    have e1 : (NS.map (fun f => (parseFieldDescriptor f.2.2).map defaultValue))[j]? = some ((parseFieldDescriptor f.2.2).map defaultValue) := by simp [hf]
    rw [hd] at e1
    simp only [List.getElem?_map, hv, Option.map_some, Option.some.injEq] at e1
    obtain ⟨t, ht⟩ := F.2.2 _ (List.mem_of_getElem? hf)
    rw [ht, Option.map_some, Option.some.injEq] at e1
    obtain ⟨c'', cf, k', i', fd, r1, r2, r3, r4, r5, r6, r7⟩ := D (F.1 _ (List.mem_of_getElem? hf)) ht
    cases hc1.symm.trans r1
    exact ⟨cf, k', i', fd, r2, r3, r4, r6, by rw [e1]; exact r7⟩
  obtain ⟨s₂, o, h1, r⟩ := g h.size h' (H.cons E (size_ok X eT hn0) ⟨cell, hc1, B⟩) hc hl T' _ X' eT' N
  exact ⟨s₂, o, st s₂ h1, r⟩
/-! ### arrays -/
def Aa (Z : State) (ty : FieldType) (vs : List Value) (cell : Cell) : Prop := Z.isArrayOf cell ty ∧ cell.vm ≠ .unknown ∧ cell.slots = vs.toArray ∧ vs.length < 2 ^ 31
abbrev Ia (Z : State) (xs : List Int32) : Cell → Prop := Aa Z .int (xs.map Value.int)
abbrev La (Z : State) (xs : List Int64) : Cell → Prop := Aa Z .long (xs.map Value.long)
variable {ty : FieldType} {xs : List Int32} {ys : List Int64} {x z : Int32} {y : Int64}
theorem inb (hn : ¬ z < 0) (hv : vs[z.toNatClampNeg]? = some v) {cell : Cell} (e : cell.slots = vs.toArray) : ¬ (z < 0 ∨ cell.slots.size ≤ z.toNatClampNeg) := by
  intro q
  have := (List.getElem?_eq_some_iff.mp hv).1
  rcases q with q | q
  · exact hn q
  · rw [e] at q; simp at q; omega
theorem G.alen (K : Ok k Z n0 own R bytes maxL ret nm) (H : Hp n0 h σ) (hi : σ[i]? = some (a, Aa Z ty vs)) (d : Dc bytes pc .arraylength 1 pc') (z : Int32) (hz : Int32.ofNat vs.length = z) (g : G k n0 Q h cells slots pc' Ls (.int z :: St)) : G k n0 Q h cells slots pc Ls (.ref a :: St) := by
  obtain ⟨p, l, e, R', s, m, args, below, meth, c⟩ := k
  obtain ⟨hx, hZ, hown, rfl, rfl, rfl, rfl, hlk, rfl, hn0⟩ := K
  obtain ⟨d, rfl⟩ := d
  obtain ⟨-, cell, h1, h2, h3, h4, h5⟩ := H.at hi
  refine G.moved (fun T locs X eT => ⟨T, X, eT, fun t q => ?_⟩) g
  refine X.arraylength hx (by rw [eT]; exact h1) (State.isArrayOf_alike hZ.alike h2) (g := mkF m pc ⟨Ls⟩ (.ref a :: St)) rfl rfl d t ?_
  have : cell.slots.size.toInt32 = z := by rw [h4, ← hz]; simp [Nat.toInt32]
  rw [this]; exact q
theorem G.aload_i (K : Ok k Z n0 own R bytes maxL ret nm) (H : Hp n0 h σ) (hi : σ[i]? = some (a, Ia Z xs)) (hn : ¬ z < 0) (hv : xs[z.toNatClampNeg]? = some x) (d : Dc bytes pc .iaload 1 pc') (g : G k n0 Q h cells slots pc' Ls (.int x :: St)) : G k n0 Q h cells slots pc Ls (.int z :: .ref a :: St) := by
  obtain ⟨p, l, e, R', s, m, args, below, meth, c⟩ := k
  obtain ⟨hx, hZ, hown, rfl, rfl, rfl, rfl, hlk, rfl, hn0⟩ := K
  obtain ⟨d, rfl⟩ := d
  obtain ⟨-, cell, h1, h2, h3, h4, h5⟩ := H.at hi
  have hv' : (xs.map Value.int)[z.toNatClampNeg]? = some (.int x) := by simp [hv]
  exact G.moved (fun T locs X eT => ⟨T, X, eT, fun t q => X.iaload hx (by rw [eT]; exact h1) (State.isArrayOf_alike hZ.alike h2) h3 (inb hn hv' h4) (v := .int x) (by rw [h4]; simpa using hv') (g := mkF m pc ⟨Ls⟩ (.int z :: .ref a :: St)) rfl rfl d t q⟩) g
theorem G.aload_l (K : Ok k Z n0 own R bytes maxL ret nm) (H : Hp n0 h σ) (hi : σ[i]? = some (a, La Z ys)) (hn : ¬ z < 0) (hv : ys[z.toNatClampNeg]? = some y) (d : Dc bytes pc .laload 1 pc') (g : G k n0 Q h cells slots pc' Ls (.long y :: St)) : G k n0 Q h cells slots pc Ls (.int z :: .ref a :: St) := by
  obtain ⟨p, l, e, R', s, m, args, below, meth, c⟩ := k
  obtain ⟨hx, hZ, hown, rfl, rfl, rfl, rfl, hlk, rfl, hn0⟩ := K
  obtain ⟨d, rfl⟩ := d
  obtain ⟨-, cell, h1, h2, h3, h4, h5⟩ := H.at hi
  have hv' : (ys.map Value.long)[z.toNatClampNeg]? = some (.long y) := by simp [hv]
  exact G.moved (fun T locs X eT => ⟨T, X, eT, fun t q => X.laload hx (by rw [eT]; exact h1) (State.isArrayOf_alike hZ.alike h2) h3 (inb hn hv' h4) (v := .long y) (by rw [h4]; simpa using hv') (g := mkF m pc ⟨Ls⟩ (.int z :: .ref a :: St)) rfl rfl d t q⟩) g
theorem Aa.set {i : Nat} {v : Value} {cell : Cell} (A : Aa Z ty vs cell) : Aa Z ty (vs.set i v) (cell.setSlot i v) := by
  obtain ⟨h2, h3, h4, h5⟩ := A
  exact ⟨h2, h3, by simp [Cell.setSlot, h4], by simpa using h5⟩
theorem G.astore_i (K : Ok k Z n0 own R bytes maxL ret nm) (H : Hp n0 h σ) (hi : σ[i]? = some (a, Ia Z xs)) (hn : ¬ z < 0) (hv : z.toNatClampNeg < xs.length) (d : Dc bytes pc .iastore 1 pc') (g : ∀ h', Hp n0 h' (σ.set i (a, Ia Z (xs.set z.toNatClampNeg x))) → G k n0 Q h' cells slots pc' Ls St) : G k n0 Q h cells slots pc Ls (.int x :: .int z :: .ref a :: St) := by
  obtain ⟨p, l, e, R', s, m, args, below, meth, c⟩ := k
  obtain ⟨hx, hZ, hown, rfl, rfl, rfl, rfl, hlk, rfl, hn0⟩ := K
  obtain ⟨d, rfl⟩ := d
  obtain ⟨ge, cell, h1, h2, h3, h4, h5⟩ := H.at hi
  have hv' : (xs.map Value.int)[z.toNatClampNeg]? = some (.int xs[z.toNatClampNeg]) := by simp [hv]
  intro hc hs T locs X eT N
  obtain ⟨T', h', X', eT', W, st⟩ := RoadKit.stI X hx hZ eT ⟨h1, h2, h3⟩ (inb hn hv' h4) (g := mkF m pc ⟨Ls⟩ (.int x :: .int z :: .ref a :: St)) rfl rfl d
  have H' : Hp n0 h' (σ.set i (a, Ia Z (xs.set z.toNatClampNeg x))) := H.wr hi W fun cell B => by
    have := Aa.set (i := z.toNatClampNeg) (v := .int x) B
    rw [← List.map_set] at this; exact this
  obtain ⟨s₂, o, q1, r⟩ := g h' H' hc hs T' _ X' eT' (Fr.snoc X' N ge)
  exact ⟨s₂, o, st s₂ q1, r⟩
theorem G.astore_l (K : Ok k Z n0 own R bytes maxL ret nm) (H : Hp n0 h σ) (hi : σ[i]? = some (a, La Z ys)) (hn : ¬ z < 0) (hv : z.toNatClampNeg < ys.length) (d : Dc bytes pc .lastore 1 pc') (g : ∀ h', Hp n0 h' (σ.set i (a, La Z (ys.set z.toNatClampNeg y))) → G k n0 Q h' cells slots pc' Ls St) : G k n0 Q h cells slots pc Ls (.long y :: .int z :: .ref a :: St) := by
  obtain ⟨p, l, e, R', s, m, args, below, meth, c⟩ := k
  obtain ⟨hx, hZ, hown, rfl, rfl, rfl, rfl, hlk, rfl, hn0⟩ := K
  obtain ⟨d, rfl⟩ := d
  obtain ⟨ge, cell, h1, h2, h3, h4, h5⟩ := H.at hi
  have hv' : (ys.map Value.long)[z.toNatClampNeg]? = some (.long ys[z.toNatClampNeg]) := by simp [hv]
  intro hc hs T locs X eT N
  obtain ⟨T', h', X', eT', W, st⟩ := RoadKit.stJ X hx hZ eT ⟨h1, h2, h3⟩ (inb hn hv' h4) (g := mkF m pc ⟨Ls⟩ (.long y :: .int z :: .ref a :: St)) rfl rfl d
  have H' : Hp n0 h' (σ.set i (a, La Z (ys.set z.toNatClampNeg y))) := H.wr hi W fun cell B => by
    have := Aa.set (i := z.toNatClampNeg) (v := .long y) B
    rw [← List.map_set] at this; exact this
  obtain ⟨s₂, o, q1, r⟩ := g h' H' hc hs T' _ X' eT' (Fr.snoc X' N ge)
  exact ⟨s₂, o, st s₂ q1, r⟩
theorem G.newarr (K : Ok k Z n0 own R bytes maxL ret nm) {aty : ArrayType} (w : (Cond.arrayClass (newarray.typeOf aty)).before a0 Z = true) (H : Hp n0 h σ) (hn : ¬ z < 0) (cap : Nat) (hcap : z.toNatClampNeg ≤ cap) (hb : cap * 8 ≤ 536870912) (hc : cells + 1 ≤ R.cells) (hl : slots + cap ≤ R.slots) (d : Dc bytes pc (.newarray aty) 2 pc')
    (g : ∀ a h', Hp n0 h' ((a, Aa Z (newarray.typeOf aty) (List.replicate z.toNatClampNeg (defaultValue (newarray.typeOf aty)))) :: σ) → G k n0 Q h' (cells + 1) (slots + cap) pc' Ls (.ref a :: St)) : G k n0 Q h cells slots pc Ls (.int z :: St) := by
  obtain ⟨p, l, e, R', s, m, args, below, meth, c⟩ := k
  obtain ⟨hx, hZ, hown, rfl, rfl, rfl, rfl, hlk, rfl, hn0⟩ := K
  obtain ⟨d, rfl⟩ := d
  intro _ _ T locs X eT N
  obtain ⟨T', h', cA, X', eT', E, A, st⟩ := RoadKit.newP X hx hZ w eT (g := mkF m pc ⟨Ls⟩ (.int z :: St)) rfl d rfl hn hcap hb hc hl
  have B : Aa Z (newarray.typeOf aty) (List.replicate z.toNatClampNeg (defaultValue (newarray.typeOf aty))) (newA cA (newarray.typeOf aty) z) :=
    ⟨A.2.1, A.2.2, by simp [newA], by rw [List.length_replicate]; exact (back32 hn).2⟩
  obtain ⟨s₂, o, h1, r⟩ := g h.size h' (H.cons E (size_ok X eT hn0) ⟨_, A.1, B⟩) hc hl T' _ X' eT' N
  exact ⟨s₂, o, st s₂ h1, r⟩
theorem G.newarr_i (K : Ok k Z n0 own R bytes maxL ret nm) (w : (Cond.arrayClass .int).before a0 Z = true) (H : Hp n0 h σ) (hn : ¬ z < 0) (cap : Nat) (hcap : z.toNatClampNeg ≤ cap) (hb : cap * 8 ≤ 536870912) (hc : cells + 1 ≤ R.cells) (hl : slots + cap ≤ R.slots) (d : Dc bytes pc (.newarray .int) 2 pc')
    (g : ∀ a h', Hp n0 h' ((a, Ia Z (List.replicate z.toNatClampNeg 0)) :: σ) → G k n0 Q h' (cells + 1) (slots + cap) pc' Ls (.ref a :: St)) : G k n0 Q h cells slots pc Ls (.int z :: St) :=
  G.newarr K (aty := .int) w H hn cap hcap hb hc hl d fun a h' H' => g a h' (by show Hp n0 h' ((a, Aa Z .int ((List.replicate z.toNatClampNeg (0 : Int32)).map Value.int)) :: σ); rw [List.map_replicate]; exact H')
theorem G.newarr_l (K : Ok k Z n0 own R bytes maxL ret nm) (w : (Cond.arrayClass .long).before a0 Z = true) (H : Hp n0 h σ) (hn : ¬ z < 0) (cap : Nat) (hcap : z.toNatClampNeg ≤ cap) (hb : cap * 8 ≤ 536870912) (hc : cells + 1 ≤ R.cells) (hl : slots + cap ≤ R.slots) (d : Dc bytes pc (.newarray .long) 2 pc')
    (g : ∀ a h', Hp n0 h' ((a, La Z (List.replicate z.toNatClampNeg 0)) :: σ) → G k n0 Q h' (cells + 1) (slots + cap) pc' Ls (.ref a :: St)) : G k n0 Q h cells slots pc Ls (.int z :: St) :=
  G.newarr K (aty := .long) w H hn cap hcap hb hc hl d fun a h' H' => g a h' (by show Hp n0 h' ((a, Aa Z .long ((List.replicate z.toNatClampNeg (0 : Int64)).map Value.long)) :: σ); rw [List.map_replicate]; exact H')
/-! ### calls -/
/-- a body's contract: called on these arguments at this heap it returns, and Q holds -/
def Ct (l : Launch) (Z : State) (n0 : Nat) (yy : MethodName) (bytes : ByteArray) (maxL : Nat) (ret : Option FieldType) (rm : Room) (as : List Value) (h : Heap) (Q : Option Value → Heap → Prop) : Prop :=
  n0 ≤ h.size → ∀ ws, MetFree l yy (head1 (Cond.code yy bytes maxL ret :: ws) rm) (fun a U => a = as.toArray ∧ Z.Warmed39 U.vm ∧ U.heap = h) (fun _ _ _ _ _ => True)
    (fun _ U o U' => ∃ v L, o = .returned v ∧ (Q v U'.heap ∧ Fr n0 L) ∧ FrameEnd U o U' L rm.cells rm.slots)
variable {l : Launch} {yy : MethodName} {rm : Room} {as : List Value}
theorem Ct.post {Q' : Option Value → Heap → Prop} (c : Ct l Z n0 yy bytes maxL ret rm as h Q) (q : ∀ v h', Q v h' → Q' v h') : Ct l Z n0 yy bytes maxL ret rm as h Q' := by
  intro hn ws p e a1 a2 a3 s m args below a4 a5 a6 a7
  obtain ⟨n, o, h1, h2, h3, v, L, h4, ⟨h5, h6⟩, h7⟩ := c hn ws p e a1 a2 a3 s m args below a4 a5 a6 a7
  exact ⟨n, o, h1, h2, h3, v, L, h4, ⟨q _ _ h5, h6⟩, h7⟩
theorem Ct.intro (hp : plainFor yy = true) (Ls : List Slot) (hE : ∀ m, entryFrame m as.toArray maxL = mkF m 0 ⟨Ls⟩ [])
    (body : ∀ k : Cx, k.2.1 = l → Ok k Z n0 yy.cls rm bytes maxL ret yy.name → G k n0 Q h 0 0 0 Ls []) : Ct l Z n0 yy bytes maxL ret rm as h Q := by
  intro hn0 ws
  refine MetFree.of_bodySF hp hisR ?_
  intro p e s m args below meth c s₁ Bd hml0 hP hK
  obtain ⟨rfl, hZ, hh⟩ := hP
  have X0 : Stand p l e rm s m as.toArray below meth c s₁ [] 0 0 := Stand.of_body Bd
  have e0 : s₁.heap = h := by rw [← hh, Bd.state]; rfl
  have g := body (p, l, e, rm, s, m, as.toArray, below, meth, c) rfl ⟨Bd.exec, hZ, findClass_of_methodNamed Bd.named, rfl, Bd.bytes, hml0, Bd.returns, Bd.notSynchronized, (name_of_methodNamed Bd.named Bd.method).1, by show n0 ≤ s.heap.size; rw [hh]; exact hn0⟩ (Nat.zero_le _) (Nat.zero_le _) s₁ [] X0 e0 (Fr.nil n0)
  obtain ⟨s₂, o, h1, r⟩ := g
  exact ⟨s₂, o, castTop (hE m) h1, r⟩
theorem G.callS (K : Ok k Z n0 own R bytes maxL ret nm) (hl : k.2.1 = l) {idx : Nat} {by' : ByteArray} {ml : Nat} {rt : Option FieldType} {ps : List FieldType} {Q' : Option Value → Heap → Prop}
    (w1 : (Cond.methodLink own idx yy).before a0 Z = true) (w2 : (Cond.static yy).before a0 Z = true) (w3 : (Cond.initialized yy.cls).before a0 Z = true) (w4 : (Cond.code yy by' ml rt).before a0 Z = true)
    (hy : yy.cls ≠ "java/lang/invoke/MethodHandle" ∧ yy.cls ≠ "java/lang/invoke/VarHandle") (pd : parseMethodDescriptor yy.desc = some ⟨ps, rt⟩) (c : Ct l Z n0 yy by' ml rt rm as h Q') (W : Nat) (hW : (St.map fun v => v.category).sum = W)
    (hfr : rm.frames + 1 ≤ R.frames) (hlo : W + (ml + 11) + rm.locals ≤ R.locals) (hce : cells + rm.cells ≤ R.cells) (hsl : slots + rm.slots ≤ R.slots) (hps : as.length = ps.length) (hsz : Ls.length = maxL) (ar : List Value) (har : as.reverse = ar) (d : Dc bytes pc (.invokestatic idx) 3 pc')
    (g : ∀ v h', Q' v h' → G k n0 Q h' (cells + rm.cells) (slots + rm.slots) pc' Ls (v.toList ++ St)) : G k n0 Q h cells slots pc Ls (ar ++ St) := by
  obtain ⟨p, l, e, R', s, m, args, below, meth, c⟩ := k
  obtain ⟨hx, hZ, hown, rfl, rfl, rfl, rfl, hlk, rfl, hn0⟩ := K
  obtain ⟨d, rfl⟩ := d
  subst hl
  subst har
  intro _ _ T locs X eT N
  have hn1 : n0 ≤ h.size := size_ok X eT hn0
  obtain ⟨v, _, ⟨T', L', k', n'⟩, -, X', ⟨Lc, ⟨hQ, hF⟩, e1, e2, e3⟩, st⟩ := Jvm.LawKit.callS X hx (y := yy) hown (mvT hZ w1) (mvT hZ w2) (mvT hZ w3) (mvT hZ w4) hy (backOf (W := W) (Q := fun v h' L => Q' v h' ∧ Fr n0 L) (c hn1 []) hZ w4 w3 hfr hlo) (g := mkF m pc ⟨Ls⟩ (as.reverse ++ St)) rfl (by simpa using hsz) (argsL := as) (rest := St) (lenOf pd hps) rfl (by show 2 * 0 + _ ≤ _; omega) d (fun _ _ => ⟨rfl, eT, hce, hsl⟩)
  dsimp only [Pt.U, Pt.locs, Pt.cells, Pt.slots] at X' e1 e2 e3 st hQ
  subst e1 e2 e3
  obtain ⟨s₂, o, h1, r⟩ := g v T'.heap hQ hce hsl T' _ X' rfl (Fr.app N hF)
  exact ⟨s₂, o, st _ h1, r⟩
theorem G.callI (K : Ok k Z n0 own R bytes maxL ret nm) (hl : k.2.1 = l) {idx : Nat} {by' : ByteArray} {ml : Nat} {ps : List FieldType} {Q' : Option Value → Heap → Prop} (hi : yy.name = "<init>")
    (w1 : (Cond.methodLink own idx yy).before a0 Z = true) (w2 : (Cond.instanceMethod yy).before a0 Z = true) (w3 : (Cond.initialized yy.cls).before a0 Z = true) (w4 : (Cond.code yy by' ml none).before a0 Z = true)
    (hy : yy.cls ≠ "java/lang/invoke/MethodHandle" ∧ yy.cls ≠ "java/lang/invoke/VarHandle") (pd : parseMethodDescriptor yy.desc = some ⟨ps, none⟩) {a : Addr} (c : Ct l Z n0 yy by' ml none rm (.ref a :: as) h Q') (W : Nat) (hW : (St.map fun v => v.category).sum = W)
    (hfr : rm.frames + 1 ≤ R.frames) (hlo : W + (ml + 11) + rm.locals ≤ R.locals) (hce : cells + rm.cells ≤ R.cells) (hsl : slots + rm.slots ≤ R.slots) (hps : as.length = ps.length) (hsz : Ls.length = maxL) (ar : List Value) (har : as.reverse = ar) (d : Dc bytes pc (.invokespecial idx) 3 pc')
    (g : ∀ v h', Q' v h' → G k n0 Q h' (cells + rm.cells) (slots + rm.slots) pc' Ls (v.toList ++ St)) : G k n0 Q h cells slots pc Ls (ar ++ .ref a :: St) := by
  obtain ⟨p, l, e, R', s, m, args, below, meth, c⟩ := k
  obtain ⟨hx, hZ, hown, rfl, rfl, rfl, rfl, hlk, rfl, hn0⟩ := K
  obtain ⟨d, rfl⟩ := d
  subst hl
  subst har
  intro _ _ T locs X eT N
  have hn1 : n0 ≤ h.size := size_ok X eT hn0
  obtain ⟨v, _, ⟨T', L', k', n'⟩, -, X', ⟨Lc, ⟨hQ, hF⟩, e1, e2, e3⟩, st⟩ := X.specialBack hx (y := yy) hi hown (mvT hZ w1) (mvT hZ w2) (mvT hZ w4) hy (backOf (W := W) (Q := fun v h' L => Q' v h' ∧ Fr n0 L) (c hn1 []) hZ w4 w3 hfr hlo) (g := mkF m pc ⟨Ls⟩ (as.reverse ++ .ref a :: St)) rfl (by simpa using hsz) (Steps.refl _) (a := a) (argsL := as) (rest := St) (lenOf pd hps) rfl (by show 2 * 0 + _ ≤ _; omega) d (fun _ _ => ⟨rfl, eT, hce, hsl⟩)
  dsimp only [Pt.U, Pt.locs, Pt.cells, Pt.slots] at X' e1 e2 e3 st hQ
  subst e1 e2 e3
  obtain ⟨s₂, o, h1, r⟩ := g v T'.heap hQ hce hsl T' _ X' rfl (Fr.app N hF)
  exact ⟨s₂, o, st.trans h1, r⟩
theorem G.callV (K : Ok k Z n0 own R bytes maxL ret nm) (hl : k.2.1 = l) {idx : Nat} {by' : ByteArray} {ml : Nat} {rt : Option FieldType} {ps : List FieldType} {Q' : Option Value → Heap → Prop} {C : String}
    (w1 : (Cond.methodLink own idx yy).before a0 Z = true) (wd : (Cond.declares yy).before a0 Z = true) (ws : (Cond.selects C yy yy).before a0 Z = true) (w2 : (Cond.instanceMethod yy).before a0 Z = true) (w3 : (Cond.initialized yy.cls).before a0 Z = true) (w4 : (Cond.code yy by' ml rt).before a0 Z = true)
    (hy : yy.cls ≠ "java/lang/invoke/MethodHandle" ∧ yy.cls ≠ "java/lang/invoke/VarHandle") (pd : parseMethodDescriptor yy.desc = some ⟨ps, rt⟩) {a : Addr} (E : Exa Z h a C) (c : Ct l Z n0 yy by' ml rt rm (.ref a :: as) h Q') (W : Nat) (hW : (St.map fun v => v.category).sum = W)
    (hfr : rm.frames + 1 ≤ R.frames) (hlo : W + (ml + 11) + rm.locals ≤ R.locals) (hce : cells + rm.cells ≤ R.cells) (hsl : slots + rm.slots ≤ R.slots) (hps : as.length = ps.length) (hsz : Ls.length = maxL) (ar : List Value) (har : as.reverse = ar) (d : Dc bytes pc (.invokevirtual idx) 3 pc')
    (g : ∀ v h', Q' v h' → G k n0 Q h' (cells + rm.cells) (slots + rm.slots) pc' Ls (v.toList ++ St)) : G k n0 Q h cells slots pc Ls (ar ++ .ref a :: St) := by
  obtain ⟨p, l, e, R', s, m, args, below, meth, c⟩ := k
  obtain ⟨hx, hZ, hown, rfl, rfl, rfl, rfl, hlk, rfl, hn0⟩ := K
  obtain ⟨d, rfl⟩ := d
  subst hl
  subst har
  intro _ _ T locs X eT N
  have hn1 : n0 ≤ h.size := size_ok X eT hn0
  obtain ⟨cq, kq, qa, qb, qc⟩ := isOf hZ eT E
  obtain ⟨v, _, ⟨T', L', k', n'⟩, -, X', ⟨Lc, ⟨hQ, hF⟩, e1, e2, e3⟩, st⟩ := X.virtualBack hx (y := yy) (z := yy) hown (mvT hZ w1) (mvT hZ wd) (notFace_of_selects (args := #[]) (mvT hZ ws)) (mvT hZ ws) (mvT hZ w2) hy (backOf (W := W) (Q := fun v h' L => Q' v h' ∧ Fr n0 L) (c hn1 []) hZ w4 w3 hfr hlo) qa qc (g := mkF m pc ⟨Ls⟩ (as.reverse ++ .ref a :: St)) rfl (by simpa using hsz) (Steps.refl _) (argsL := as) (rest := St) (lenOf pd hps) rfl (by show 2 * 0 + _ ≤ _; omega) d (fun _ _ => ⟨rfl, eT, hce, hsl⟩)
  dsimp only [Pt.U, Pt.locs, Pt.cells, Pt.slots] at X' e1 e2 e3 st hQ
  subst e1 e2 e3
  obtain ⟨s₂, o, h1, r⟩ := g v T'.heap hQ hce hsl T' _ X' rfl (Fr.app N hF)
  exact ⟨s₂, o, st.trans h1, r⟩
theorem G.callP (K : Ok k Z n0 own R bytes maxL ret nm) (hl : k.2.1 = l) {idx kk : Nat} {by' : ByteArray} {ml : Nat} {rt : Option FieldType} {ps : List FieldType} {Q' : Option Value → Heap → Prop}
    (w1 : (Cond.methodLink own idx yy).before a0 Z = true) (wp : (Cond.privateMethod yy).before a0 Z = true) (wi : (Cond.instantiable yy.cls kk).before a0 Z = true) (w2 : (Cond.instanceMethod yy).before a0 Z = true) (w3 : (Cond.initialized yy.cls).before a0 Z = true) (w4 : (Cond.code yy by' ml rt).before a0 Z = true)
    (hy : yy.cls ≠ "java/lang/invoke/MethodHandle" ∧ yy.cls ≠ "java/lang/invoke/VarHandle") (pd : parseMethodDescriptor yy.desc = some ⟨ps, rt⟩) {a : Addr} {C : String} (E : Exa Z h a C) (c : Ct l Z n0 yy by' ml rt rm (.ref a :: as) h Q') (W : Nat) (hW : (St.map fun v => v.category).sum = W)
    (hfr : rm.frames + 1 ≤ R.frames) (hlo : W + (ml + 11) + rm.locals ≤ R.locals) (hce : cells + rm.cells ≤ R.cells) (hsl : slots + rm.slots ≤ R.slots) (hps : as.length = ps.length) (hsz : Ls.length = maxL) (ar : List Value) (har : as.reverse = ar) (d : Dc bytes pc (.invokevirtual idx) 3 pc')
    (g : ∀ v h', Q' v h' → G k n0 Q h' (cells + rm.cells) (slots + rm.slots) pc' Ls (v.toList ++ St)) : G k n0 Q h cells slots pc Ls (ar ++ .ref a :: St) := by
  obtain ⟨p, l, e, R', s, m, args, below, meth, c⟩ := k
  obtain ⟨hx, hZ, hown, rfl, rfl, rfl, rfl, hlk, rfl, hn0⟩ := K
  obtain ⟨d, rfl⟩ := d
  subst hl
  subst har
  intro _ _ T locs X eT N
  have hn1 : n0 ≤ h.size := size_ok X eT hn0
  obtain ⟨cq, q, q'⟩ := E.cell
  have hpriv : s.PrivateAt yy := Cond.privateMethod_at (mvP hZ wp (args := #[]))
  obtain ⟨c2, k2, i1, i2, -, i4, -⟩ := Cond.instantiable_spec (mvT hZ wi (args := args))
  have hsel : (Cond.selects yy.cls yy yy).before args s = true := selects_self_of_private i1 i2 (by cases hh : k2.isInterface <;> simp_all) hpriv (mvT hZ w2) hy
  obtain ⟨v, _, ⟨T', L', k', n'⟩, -, X', ⟨Lc, ⟨hQ, hF⟩, e1, e2, e3⟩, st⟩ := X.privateBack hx (y := yy) hown (mvT hZ w1) (mvT hZ w2) hsel hpriv (mvT hZ w4) hy (backOf (W := W) (Q := fun v h' L => Q' v h' ∧ Fr n0 L) (c hn1 []) hZ w4 w3 hfr hlo) (g := mkF m pc ⟨Ls⟩ (as.reverse ++ .ref a :: St)) rfl (by simpa using hsz) (Steps.refl _) (a := a) (by rw [eT]; exact q) q' (argsL := as) (rest := St) (lenOf pd hps) rfl (by show 2 * 0 + _ ≤ _; omega) d (fun _ _ => ⟨rfl, eT, hce, hsl⟩)
  dsimp only [Pt.U, Pt.locs, Pt.cells, Pt.slots] at X' e1 e2 e3 st hQ
  subst e1 e2 e3
  obtain ⟨s₂, o, h1, r⟩ := g v T'.heap hQ hce hsl T' _ X' rfl (Fr.app N hF)
  exact ⟨s₂, o, st.trans h1, r⟩
theorem G.initO (K : Ok k Z n0 own R bytes maxL ret nm) {idx : Nat} (w1 : (Cond.methodLink own idx Lib.objectInit).before a0 Z = true) (w2 : (Cond.instanceMethod Lib.objectInit).before a0 Z = true) (w3 : (Cond.code Lib.objectInit ⟨#[0xb1]⟩ 1 none).before a0 Z = true) {a : Addr}
    (hsz : Ls.length = maxL) (W : Nat) (hW : (St.map fun v => v.category).sum = W) (hfr : 1 ≤ R.frames) (hlo : W + 12 ≤ R.locals) (d : Dc bytes pc (.invokespecial idx) 3 pc') (g : G k n0 Q h cells slots pc' Ls St) : G k n0 Q h cells slots pc Ls (.ref a :: St) := by
  obtain ⟨p, l, e, R', s, m, args, below, meth, c⟩ := k
  obtain ⟨hx, hZ, hown, rfl, rfl, rfl, rfl, hlk, rfl, hn0⟩ := K
  obtain ⟨d, rfl⟩ := d
  exact G.moved (fun T locs X eT => RoadKit.initO X hx hZ hown w1 w2 w3 eT (g := mkF m pc ⟨Ls⟩ (.ref a :: St)) rfl (by simpa using hsz) rfl d hfr (W := W) (by show 2 * 0 + _ ≤ _; omega) hlo) g
end Jvm.OwnKit
namespace Jvm.Pilot.@@N@@
open Jvm Jvm.ClassFile Sem Op Lib Jvm.Free Jvm.Stand Jvm.LawKit Jvm.RoadKit Bundle Jvm.OwnKit Jvm.Pilot.@@N@@.Jvm.D
theorem wd {Z : State} {a0 : Array Value} (hw : ∀ d ∈ tables_1, d.before a0 Z = true) (i : Nat) {d : Jvm.Cond} (h : tables_1[i]? = some d) : d.before a0 Z = true := hw _ (List.mem_of_getElem? h)
theorem own_nint {i : Nat} (h : i < 2147483648) : (Int32.ofNat i).toInt = i := Int32.toInt_ofNat_of_lt (by omega)
theorem own_nlt {i n : Nat} (h : i < 2147483648) (h' : n < 2147483648) : (Int32.ofNat i < Int32.ofNat n) ↔ i < n := by
  rw [Int32.lt_iff_toInt_lt, own_nint h, own_nint h']; omega
theorem own_nle {i n : Nat} (h : i < 2147483648) (h' : n < 2147483648) : (Int32.ofNat i ≤ Int32.ofNat n) ↔ i ≤ n := by
  rw [Int32.le_iff_toInt_le, own_nint h, own_nint h']; omega
theorem own_neq {i n : Nat} (h : i < 2147483648) (h' : n < 2147483648) : (Int32.ofNat i = Int32.ofNat n) ↔ i = n := by
  rw [← Int32.toInt_inj, own_nint h, own_nint h']; omega
theorem own_nadd (i j : Nat) : Int32.ofNat i + Int32.ofNat j = Int32.ofNat (i + j) := (Int32.ofNat_add i j).symm
theorem own_nsucc (i : Nat) : Int32.ofNat i + 1 = Int32.ofNat (i + 1) := own_nadd i 1
theorem own_nidx {i : Nat} (h : i < 2147483648) : (Int32.ofNat i).toNatClampNeg = i := by
  show (Int32.ofNat i).toInt.toNat = i
  rw [own_nint h]; rfl
theorem own_nneg {i : Nat} (h : i < 2147483648) : ¬ Int32.ofNat i < 0 := by
  rw [Int32.lt_iff_toInt_lt, own_nint h]; show ¬ (i : Int) < 0; omega
theorem own_nsub {i j : Nat} (h : j ≤ i) : Int32.ofNat i - Int32.ofNat j = Int32.ofNat (i - j) := by
  have := own_nadd (i - j) j
  rw [Nat.sub_add_cancel h] at this
  rw [← this, Int32.add_sub_cancel]
theorem own_nmul (i j : Nat) : Int32.ofNat i * Int32.ofNat j = Int32.ofNat (i * j) := (Int32.ofNat_mul i j).symm
/-- a non-negative int is a natural -/
theorem own_nat (x : Int32) (h : ¬ x < 0) : ∃ n : Nat, n < 2147483648 ∧ x = Int32.ofNat n := by
  have h2 : 0 ≤ x.toInt := by rw [Int32.lt_iff_toInt_lt] at h; have : (0 : Int32).toInt = 0 := rfl; omega
  have h3 := Int32.toInt_lt x
  refine ⟨x.toInt.toNat, by omega, ?_⟩
  apply Int32.toInt_inj.mp
  rw [own_nint (by omega)]; omega
theorem own_msk (x : Int32) : ∃ n : Nat, n < 2147483648 ∧ x &&& 2147483647 = Int32.ofNat n := by
  apply own_nat
  rw [Int32.lt_iff_toInt_lt]
  have h : (x &&& 2147483647).toBitVec = x.toBitVec &&& 2147483647#32 := rfl
  have hn : (x.toBitVec &&& 2147483647#32).toNat < 2147483648 := by
    rw [BitVec.toNat_and]; exact Nat.lt_of_le_of_lt Nat.and_le_right (by decide)
  have : (x &&& 2147483647).toInt = ((x.toBitVec &&& 2147483647#32).toNat : Int) := by
    show (x &&& 2147483647).toBitVec.toInt = _
    rw [h, BitVec.toInt_eq_toNat_of_lt (by omega)]
  rw [this]; show ¬ ((_ : Nat) : Int) < 0; omega
theorem own_nmod {i n : Nat} (h : i < 2147483648) (hn : n < 2147483648) : Int32.ofNat i % Int32.ofNat n = Int32.ofNat (i % n) := by
  apply Int32.toInt_inj.mp
  have hl : i % n ≤ i := Nat.mod_le i n
  rw [Int32.toInt_mod, own_nint h, own_nint hn, own_nint (by omega)]
  exact (Int.ofNat_tmod i n).symm ▸ rfl
/-- small mask: x & (2^k - 1) -/
theorem own_and_lt (x : Int32) (m : Nat) (hm : m < 2147483648) : ∃ n : Nat, n ≤ m ∧ x &&& Int32.ofNat m = Int32.ofNat n := by
  have h : (x &&& Int32.ofNat m).toBitVec = x.toBitVec &&& BitVec.ofNat 32 m := rfl
  refine ⟨(x.toBitVec &&& BitVec.ofNat 32 m).toNat, ?_, ?_⟩
  · rw [BitVec.toNat_and]; exact Nat.le_trans Nat.and_le_right (by rw [BitVec.toNat_ofNat]; exact Nat.mod_le _ _)
  · apply Int32.toBitVec_inj.mp
    rw [h]
    show _ = BitVec.ofNat 32 _
    rw [BitVec.ofNat_toNat, BitVec.setWidth_eq]
theorem pd_0 : parseMethodDescriptor "()V" = some ⟨[], none⟩ := by decide +kernel
theorem pd_1 : parseMethodDescriptor "(IJ)V" = some ⟨[.int, .long], none⟩ := by decide +kernel
theorem pd_2 : parseMethodDescriptor "(I)Z" = some ⟨[.int], some .boolean⟩ := by decide +kernel
def NSK : List (String × String × String) := [("com/example/orderlink/linearizability/Keys", "base", "I"), ("com/example/orderlink/linearizability/Keys", "bits", "J")]
theorem cf_NSK {Z : State} {a0 : Array Value} (hw : ∀ d ∈ tables_1, d.before a0 Z = true) : Cf Z a0 "com/example/orderlink/linearizability/Keys" NSK := by
  refine ⟨fun f hf => ?_, by decide +kernel, fun f hf => ?_⟩
  · simp only [NSK, List.mem_cons, List.not_mem_nil, or_false] at hf
    rcases hf with rfl | rfl
    · exact Or.inr (wd hw 15 rfl)
    · exact Or.inr (wd hw 17 rfl)
  · simp only [NSK, List.mem_cons, List.not_mem_nil, or_false] at hf
    rcases hf with rfl | rfl
    · exact ⟨.int, by decide +kernel⟩
    · exact ⟨.long, by decide +kernel⟩
theorem own_smod (b : BitVec 64) : (b &&& 63#64).smod 64#64 = b &&& 63#64 := by
  have h1 : (b &&& 63#64).msb = false := by rw [BitVec.msb_and, show (63#64).msb = false from by decide, Bool.and_false]
  have h2 : (64#64).msb = false := by decide
  rw [BitVec.smod_eq, h1, h2]
  have : (b &&& 63#64).toNat < 64 := by
    rw [BitVec.toNat_and]; exact Nat.lt_of_le_of_lt (Nat.and_le_right) (by decide)
  simp only
  apply BitVec.eq_of_toNat_eq
  show (b &&& 63#64).toNat % (64#64).toNat = _
  exact Nat.mod_eq_of_lt this
theorem own_shl (t : Int64) (n : Int32) : (t <<< (n.toInt64 &&& 63)).toBitVec = t.toBitVec <<< (n.toInt64.toBitVec &&& 63#64).toNat := by
  rw [Int64.toBitVec_shiftLeft, Int64.toBitVec_and]
  show t.toBitVec <<< ((n.toInt64.toBitVec &&& 63#64).smod 64#64) = _
  rw [own_smod]; rfl
theorem own_ushr (t : Int64) (n : Int32) : (XT.ushrL t n).toBitVec = t.toBitVec >>> (n.toInt64.toBitVec &&& 63#64).toNat := by
  show (t.toUInt64 >>> (n.toInt64.toUInt64 &&& Int64.toUInt64 63)).toBitVec = _
  rw [UInt64.toBitVec_shiftRight, UInt64.toBitVec_and]
  show t.toBitVec >>> ((n.toInt64.toBitVec &&& 63#64) % 64#64) = _
  have : (n.toInt64.toBitVec &&& 63#64).toNat < 64 := by
    rw [BitVec.toNat_and]; exact Nat.lt_of_le_of_lt (Nat.and_le_right) (by decide)
  have e : (n.toInt64.toBitVec &&& 63#64) % 64#64 = (n.toInt64.toBitVec &&& 63#64) := by
    apply BitVec.eq_of_toNat_eq; rw [BitVec.toNat_umod]; exact Nat.mod_eq_of_lt this
  rw [e]; rfl
theorem own_amt (n : Int32) : (n.toInt64.toBitVec &&& 63#64).toNat < 64 := by
  rw [BitVec.toNat_and]; exact Nat.lt_of_le_of_lt (Nat.and_le_right) (by decide)
theorem own_bit0 (b : BitVec 64) (m : Nat) (hm : m < 64) : (b &&& (1#64 <<< m) = 0#64) ↔ b.getLsbD m = false := by
  constructor
  · intro h
    have := congrArg (fun z => z.getLsbD m) h
    simpa [hm] using this
  · intro h
    apply BitVec.eq_of_getLsbD_eq
    intro i hi
    by_cases e : i = m
    · subst e; simp [h]
    · simp [hi]; intro _ _; omega
theorem own_bit1 (b : BitVec 64) (m : Nat) : ((b >>> m) &&& 1#64 = 0#64) ↔ b.getLsbD m = false := by
  constructor
  · intro h
    have := congrArg (fun z => z.getLsbD 0) h
    simpa using this
  · intro h
    apply BitVec.eq_of_getLsbD_eq
    intro i hi
    by_cases e : i = 0
    · subst e; simp [h]
    · simp [hi, e]
theorem own_bits (t : Int64) (n : Int32) : (t &&& (1 <<< (n.toInt64 &&& 63)) = 0) ↔ ((XT.ushrL t n) &&& 1 = 0) := by
  rw [← Int64.toBitVec_inj, ← Int64.toBitVec_inj, Int64.toBitVec_and, Int64.toBitVec_and, own_shl, own_ushr]
  show (t.toBitVec &&& (1#64 <<< _) = 0#64) ↔ (_ &&& 1#64 = 0#64)
  rw [own_bit0 _ _ (own_amt n), own_bit1]

theorem own_i64 (x : Int32) : x.toInt64.toInt = x.toInt := Int32.toInt_toInt64 x
theorem own_lo (x : Int32) : -2147483648 ≤ x.toInt := Int32.le_toInt x
theorem own_hi (x : Int32) : x.toInt < 2147483648 := Int32.toInt_lt x
theorem own_ladd (x y : Int32) : (x.toInt64 + y.toInt64).toInt = x.toInt + y.toInt := by
  rw [Int64.toInt_add, own_i64, own_i64]
  have := own_lo x; have := own_hi x; have := own_lo y; have := own_hi y
  exact Int.bmod_eq_of_le (by omega) (by omega)
theorem own_lsub (x y : Int32) : (x.toInt64 - y.toInt64).toInt = x.toInt - y.toInt := by
  rw [Int64.toInt_sub, own_i64, own_i64]
  have := own_lo x; have := own_hi x; have := own_lo y; have := own_hi y
  exact Int.bmod_eq_of_le (by omega) (by omega)
theorem own_and63 (j : Int32) : 0 ≤ (j &&& 63).toInt ∧ (j &&& 63).toInt < 64 := by
  have h : (j &&& 63).toBitVec = j.toBitVec &&& 63#32 := rfl
  have hn : (j.toBitVec &&& 63#32).toNat < 64 := by
    rw [BitVec.toNat_and]; exact Nat.lt_of_le_of_lt Nat.and_le_right (by decide)
  have : (j &&& 63).toInt = ((j.toBitVec &&& 63#32).toNat : Int) := by
    show (j &&& 63).toBitVec.toInt = _
    rw [h, BitVec.toInt_eq_toNat_of_lt (by omega)]
  omega
theorem own_l2i (x : Int64) (h1 : -2147483648 ≤ x.toInt) (h2 : x.toInt < 2147483648) : x.toInt32.toInt = x.toInt := by
  rw [Int64.toInt_toInt32]; exact Int.bmod_eq_of_le (by omega) (by omega)
theorem own_l2iw (x : Int64) (h1 : 2147483648 ≤ x.toInt) (h2 : x.toInt < 4294967296) : x.toInt32.toInt = x.toInt - 4294967296 := by
  rw [Int64.toInt_toInt32]
  rw [Int.bmod_def]; split <;> omega
def cF (b : Int32) (t : Int64) (k : Int32) : Int32 := if k.toInt64 - b.toInt64 < 0 then 0 else if ¬ (k.toInt64 - b.toInt64 < 64) then 0 else if XT.ushrL t (k.toInt64 - b.toInt64).toInt32 &&& 1 = 0 then 0 else 1
theorem own_cF_out {b : Int32} {t : Int64} {k : Int32} (h : k.toInt < b.toInt ∨ b.toInt + 63 < k.toInt) : cF b t k = 0 := by
  have e := own_lsub k b
  unfold cF
  by_cases q : k.toInt64 - b.toInt64 < 0
  · rw [if_pos q]
  · rw [if_neg q]
    rw [Int64.lt_iff_toInt_lt, e] at q
    rw [if_pos]
    rw [Int64.lt_iff_toInt_lt, e]
    have : (64 : Int64).toInt = 64 := by decide
    have : (0 : Int64).toInt = 0 := by decide
    omega
theorem own_cF_in {b : Int32} {t : Int64} {k n : Int32} (h : k.toInt = b.toInt + n.toInt) (h0 : 0 ≤ n.toInt) (h1 : n.toInt < 64) : cF b t k = if t &&& (1 <<< (n.toInt64 &&& 63)) = 0 then 0 else 1 := by
  have e := own_lsub k b
  have e0 : (0 : Int64).toInt = 0 := by decide
  have e64 : (64 : Int64).toInt = 64 := by decide
  have q0 : ¬ k.toInt64 - b.toInt64 < 0 := by rw [Int64.lt_iff_toInt_lt, e]; omega
  have q1 : k.toInt64 - b.toInt64 < 64 := by rw [Int64.lt_iff_toInt_lt, e]; omega
  have en : (k.toInt64 - b.toInt64).toInt32 = n := by
    apply Int32.toInt_inj.mp
    rw [own_l2i _ (by omega) (by omega), e]; omega
  unfold cF
  rw [if_neg q0, if_neg (by simpa using q1), en]
  simp only [own_bits]

theorem own_max : (2147483647 : Int64).toInt = 2147483647 := by decide
theorem own_L1 {b j : Int32} {t : Int64} (q : 2147483647 < b.toInt64 + (j &&& 63).toInt64) : cF b t (b.toInt64 + (j &&& 63).toInt64).toInt32 = 0 := by
  have e := own_ladd b (j &&& 63); have := own_and63 j; have := own_hi b; have := own_lo b
  rw [Int64.lt_iff_toInt_lt, own_max, e] at q
  apply own_cF_out
  rw [own_l2iw _ (by omega) (by omega), e]; omega
theorem own_L2 {b j : Int32} {t : Int64} (q : ¬ (2147483647 < b.toInt64 + (j &&& 63).toInt64)) : cF b t (b.toInt64 + (j &&& 63).toInt64).toInt32 = if t &&& (1 <<< ((j &&& 63).toInt64 &&& 63)) = 0 then 0 else 1 := by
  have e := own_ladd b (j &&& 63); have := own_and63 j; have := own_hi b; have := own_lo b
  rw [Int64.lt_iff_toInt_lt, own_max, e] at q
  apply own_cF_in _ (by omega) (by omega)
  rw [own_l2i _ (by omega) (by omega), e]
theorem own_e63 (b : Int32) : (b.toInt64 + 63).toInt = b.toInt + 63 := by
  rw [Int64.toInt_add, own_i64, show (63 : Int64).toInt = 63 by decide]
  have := own_lo b; have := own_hi b
  exact Int.bmod_eq_of_le (by omega) (by omega)
theorem own_L3 {b k : Int32} {t : Int64} (q : k.toInt64 < b.toInt64) : cF b t k = 0 := by
  rw [Int64.lt_iff_toInt_lt, own_i64, own_i64] at q
  exact own_cF_out (Or.inl q)
theorem own_L4 {b k : Int32} {t : Int64} (q : b.toInt64 + 63 < k.toInt64) : cF b t k = 0 := by
  rw [Int64.lt_iff_toInt_lt, own_i64, own_e63] at q
  exact own_cF_out (Or.inr q)
theorem own_L5 {b k : Int32} {t : Int64} (q : ¬ k.toInt64 < b.toInt64) (q2 : ¬ b.toInt64 + 63 < k.toInt64) : cF b t k = if t &&& (1 <<< ((k.toInt64 - b.toInt64).toInt32.toInt64 &&& 63)) = 0 then 0 else 1 := by
  rw [Int64.lt_iff_toInt_lt, own_i64, own_i64] at q
  rw [Int64.lt_iff_toInt_lt, own_i64, own_e63] at q2
  have e := own_lsub k b
  have e2 : (k.toInt64 - b.toInt64).toInt32.toInt = k.toInt - b.toInt := by rw [own_l2i _ (by omega) (by omega), e]
  exact own_cF_in (by omega) (by omega) (by omega)

theorem D30_1_0 : Dc jdk_30_method_1_code 0 (.aload_n 0) 1 1 := dc (by decide +kernel) rfl
theorem D30_1_1 : Dc jdk_30_method_1_code 1 (.invokespecial 1) 3 4 := dc (by decide +kernel) rfl
theorem D30_1_4 : Dc jdk_30_method_1_code 4 (.return_) 1 5 := dc (by decide +kernel) rfl
theorem pn_0 : plainName "java/lang/Record" = true := by first | (simp [plainName, overriddenIn]; done) | decide +kernel
set_option maxRecDepth 65536 in
set_option maxHeartbeats 40000000 in
theorem ct_rec (l : Launch) (Z : State) (a0 : Array Value) (hw : ∀ d ∈ tables_1, d.before a0 Z = true) (n0 : Nat) (h : Heap) (a : Addr) :
    Ct l Z n0 (⟨"java/lang/Record", "<init>", "()V"⟩ : MethodName) jdk_30_method_1_code 1 none ({ frames := 1, cells := 0, slots := 0, locals := 12 } : Room) [.ref a] h (fun v h' => v = none ∧ h = h') := by
  refine Ct.intro (plainFor_of_name pn_0) [.val (.ref a)] (fun m => by first | (simp [entryFrame, mkF, argsToLocals, Value.category]; done) | (simp [entryFrame, mkF, argsToLocals, Value.category, maxLocals]; done) | rfl) ?_
  intro k hl K
  replace K : Ok k Z n0 "java/lang/Record" ({ frames := 1, cells := 0, slots := 0, locals := 12 } : Room) jdk_30_method_1_code 1 none "<init>" := K
  refine G.aloadN K D30_1_0 rfl rfl ?_
  refine G.initO K (wd hw 11 rfl) (wd hw 12 rfl) (wd hw 13 rfl) rfl 0 rfl (by decide) (by decide) D30_1_1 ?_
  refine G.ret_void K D30_1_4 ?_
  exact ⟨rfl, rfl⟩
theorem D9_1_0 : Dc prog_9_method_1_code 0 (.aload_n 0) 1 1 := dc (by decide +kernel) rfl
theorem D9_1_1 : Dc prog_9_method_1_code 1 (.invokespecial 1) 3 4 := dc (by decide +kernel) rfl
theorem D9_1_4 : Dc prog_9_method_1_code 4 (.aload_n 0) 1 5 := dc (by decide +kernel) rfl
theorem D9_1_5 : Dc prog_9_method_1_code 5 (.iload_n 1) 1 6 := dc (by decide +kernel) rfl
theorem D9_1_6 : Dc prog_9_method_1_code 6 (.putfield 7) 3 9 := dc (by decide +kernel) rfl
theorem D9_1_9 : Dc prog_9_method_1_code 9 (.aload_n 0) 1 10 := dc (by decide +kernel) rfl
theorem D9_1_10 : Dc prog_9_method_1_code 10 (.lload_n 2) 1 11 := dc (by decide +kernel) rfl
theorem D9_1_11 : Dc prog_9_method_1_code 11 (.putfield 13) 3 14 := dc (by decide +kernel) rfl
theorem D9_1_14 : Dc prog_9_method_1_code 14 (.return_) 1 15 := dc (by decide +kernel) rfl
theorem pn_1 : plainName "com/example/orderlink/linearizability/Keys" = true := by first | (simp [plainName, overriddenIn]; done) | decide +kernel
set_option maxRecDepth 65536 in
set_option maxHeartbeats 40000000 in
theorem ct_init (l : Launch) (Z : State) (a0 : Array Value) (hw : ∀ d ∈ tables_1, d.before a0 Z = true) (n0 : Nat) (h : Heap) (a : Addr) (b : Int32) (t : Int64) (σ : List Ch) (H : Hp n0 h ((a, Ob Z "com/example/orderlink/linearizability/Keys" NSK [.int 0, .long 0]) :: σ)) :
    Ct l Z n0 (⟨"com/example/orderlink/linearizability/Keys", "<init>", "(IJ)V"⟩ : MethodName) prog_9_method_1_code 4 none ({ frames := 2, cells := 0, slots := 0, locals := 24 } : Room) [.ref a, .int b, .long t] h (fun v h' => v = none ∧ Hp n0 h' ((a, Ob Z "com/example/orderlink/linearizability/Keys" NSK [.int b, .long t]) :: σ)) := by
  refine Ct.intro (plainFor_of_name pn_1) [.val (.ref a), .val (.int b), .val (.long t), .second] (fun m => by first | (simp [entryFrame, mkF, argsToLocals, Value.category]; done) | (simp [entryFrame, mkF, argsToLocals, Value.category, maxLocals]; done) | rfl) ?_
  intro k hl K
  replace K : Ok k Z n0 "com/example/orderlink/linearizability/Keys" ({ frames := 2, cells := 0, slots := 0, locals := 24 } : Room) prog_9_method_1_code 4 none "<init>" := K
  refine G.aloadN K D9_1_0 rfl rfl ?_
  refine G.callI K hl rfl (wd hw 6 rfl) (wd hw 7 rfl) (wd hw 9 rfl) (wd hw 10 rfl) (by decide) pd_0 (ct_rec l Z a0 hw n0 _ a) 0 rfl (by decide) (by decide) (by decide) (by decide) rfl rfl [] rfl D9_1_1 ?_
  rintro _ _ ⟨rfl, rfl⟩
  change G k n0 _ h _ _ 4 [.val (.ref a), .val (.int b), .val (.long t), .second] []
  refine G.aloadN K D9_1_4 rfl rfl ?_
  refine G.iloadN K D9_1_5 rfl ?_
  refine G.putF K (host := "") (Or.inl (wd hw 14 rfl)) (cf_NSK hw) (Or.inr ⟨(wd hw 15 rfl), rfl, rfl⟩) (wd hw 1 rfl) H (i := 0) rfl (j := 0) rfl rfl (ty := .int) (by decide) rfl rfl D9_1_6 ?_
  intro h1 H1
  change Hp n0 h1 ((a, Ob Z "com/example/orderlink/linearizability/Keys" NSK [.int b, .long 0]) :: σ) at H1
  refine G.aloadN K D9_1_9 rfl rfl ?_
  refine G.lloadN K D9_1_10 rfl ?_
  refine G.putF K (host := "") (Or.inl (wd hw 16 rfl)) (cf_NSK hw) (Or.inr ⟨(wd hw 17 rfl), rfl, rfl⟩) (wd hw 1 rfl) H1 (i := 0) rfl (j := 1) rfl rfl (ty := .long) (by decide) rfl rfl D9_1_11 ?_
  intro h2 H2
  change Hp n0 h2 ((a, Ob Z "com/example/orderlink/linearizability/Keys" NSK [.int b, .long t]) :: σ) at H2
  refine G.ret_void K D9_1_14 ?_
  exact ⟨rfl, H2⟩
theorem D9_3_0 : Dc prog_9_method_3_code 0 (.iload_n 1) 1 1 := dc (by decide +kernel) rfl
theorem D9_3_1 : Dc prog_9_method_3_code 1 (.i2l) 1 2 := dc (by decide +kernel) rfl
theorem D9_3_2 : Dc prog_9_method_3_code 2 (.aload_n 0) 1 3 := dc (by decide +kernel) rfl
theorem D9_3_3 : Dc prog_9_method_3_code 3 (.getfield 7) 3 6 := dc (by decide +kernel) rfl
theorem D9_3_6 : Dc prog_9_method_3_code 6 (.i2l) 1 7 := dc (by decide +kernel) rfl
theorem D9_3_7 : Dc prog_9_method_3_code 7 (.lsub) 1 8 := dc (by decide +kernel) rfl
theorem D9_3_8 : Dc prog_9_method_3_code 8 (.lstore_n 2) 1 9 := dc (by decide +kernel) rfl
theorem D9_3_9 : Dc prog_9_method_3_code 9 (.lload_n 2) 1 10 := dc (by decide +kernel) rfl
theorem D9_3_10 : Dc prog_9_method_3_code 10 (.lconst 0) 1 11 := dc (by decide +kernel) rfl
theorem D9_3_11 : Dc prog_9_method_3_code 11 (.lcmp) 1 12 := dc (by decide +kernel) rfl
theorem D9_3_12 : Db prog_9_method_3_code 12 (.ifCond .lt) 15 41 := db (29) (by decide +kernel) rfl (by decide) (by decide)
theorem D9_3_15 : Dc prog_9_method_3_code 15 (.lload_n 2) 1 16 := dc (by decide +kernel) rfl
theorem D9_3_16 : Dc prog_9_method_3_code 16 (.ldc2_w 50) 3 19 := dc (by decide +kernel) rfl
theorem D9_3_19 : Dc prog_9_method_3_code 19 (.lcmp) 1 20 := dc (by decide +kernel) rfl
theorem D9_3_20 : Db prog_9_method_3_code 20 (.ifCond .ge) 23 41 := db (21) (by decide +kernel) rfl (by decide) (by decide)
theorem D9_3_23 : Dc prog_9_method_3_code 23 (.aload_n 0) 1 24 := dc (by decide +kernel) rfl
theorem D9_3_24 : Dc prog_9_method_3_code 24 (.getfield 13) 3 27 := dc (by decide +kernel) rfl
theorem D9_3_27 : Dc prog_9_method_3_code 27 (.lload_n 2) 1 28 := dc (by decide +kernel) rfl
theorem D9_3_28 : Dc prog_9_method_3_code 28 (.l2i) 1 29 := dc (by decide +kernel) rfl
theorem D9_3_29 : Dc prog_9_method_3_code 29 (.lushr) 1 30 := dc (by decide +kernel) rfl
theorem D9_3_30 : Dc prog_9_method_3_code 30 (.lconst 1) 1 31 := dc (by decide +kernel) rfl
theorem D9_3_31 : Dc prog_9_method_3_code 31 (.land) 1 32 := dc (by decide +kernel) rfl
theorem D9_3_32 : Dc prog_9_method_3_code 32 (.lconst 0) 1 33 := dc (by decide +kernel) rfl
theorem D9_3_33 : Dc prog_9_method_3_code 33 (.lcmp) 1 34 := dc (by decide +kernel) rfl
theorem D9_3_34 : Db prog_9_method_3_code 34 (.ifCond .eq) 37 41 := db (7) (by decide +kernel) rfl (by decide) (by decide)
theorem D9_3_37 : Dc prog_9_method_3_code 37 (.iconst 1) 1 38 := dc (by decide +kernel) rfl
theorem D9_3_38 : Db prog_9_method_3_code 38 (.goto) 41 42 := db (4) (by decide +kernel) rfl (by decide) (by decide)
theorem D9_3_41 : Dc prog_9_method_3_code 41 (.iconst 0) 1 42 := dc (by decide +kernel) rfl
theorem D9_3_42 : Dc prog_9_method_3_code 42 (.ireturn) 1 43 := dc (by decide +kernel) rfl
set_option maxRecDepth 65536 in
set_option maxHeartbeats 40000000 in
theorem ct_contains (l : Launch) (Z : State) (a0 : Array Value) (hw : ∀ d ∈ tables_1, d.before a0 Z = true) (n0 : Nat) (h : Heap) (a : Addr) (b : Int32) (t : Int64) (y : Int32) (σ : List Ch) (H : Hp n0 h ((a, Ob Z "com/example/orderlink/linearizability/Keys" NSK [.int b, .long t]) :: σ)) :
    Ct l Z n0 (⟨"com/example/orderlink/linearizability/Keys", "contains", "(I)Z"⟩ : MethodName) prog_9_method_3_code 4 (some .boolean) ({ frames := 0, cells := 0, slots := 0, locals := 0 } : Room) [.ref a, .int y] h (fun v h' => v = some (.int (cF b t y)) ∧ Hp n0 h' ((a, Ob Z "com/example/orderlink/linearizability/Keys" NSK [.int b, .long t]) :: σ)) := by
  refine Ct.intro (plainFor_of_name pn_1) [.val (.ref a), .val (.int y), .unset, .unset] (fun m => by first | (simp [entryFrame, mkF, argsToLocals, Value.category]; done) | (simp [entryFrame, mkF, argsToLocals, Value.category, maxLocals]; done) | rfl) ?_
  intro k hl K
  replace K : Ok k Z n0 "com/example/orderlink/linearizability/Keys" ({ frames := 0, cells := 0, slots := 0, locals := 0 } : Room) prog_9_method_3_code 4 (some .boolean) "contains" := K
  refine G.iloadN K D9_3_0 rfl ?_
  refine G.i2l K D9_3_1 ?_
  refine G.aloadN K D9_3_2 rfl rfl ?_
  refine G.getF K (host := "") (Or.inl (wd hw 14 rfl)) H (i := 0) rfl (j := 0) rfl rfl D9_3_3 ?_
  refine G.i2l K D9_3_6 ?_
  refine G.lsub K D9_3_7 ?_
  refine G.lstoreN K D9_3_8 ([.val (.ref a), .val (.int y), .val (.long (y.toInt64 - b.toInt64)), .second]) rfl ?_
  refine G.lloadN K D9_3_9 rfl ?_
  refine G.lconst K D9_3_10 0 rfl ?_
  refine G.lcmp_lt K D9_3_11 D9_3_12 (fun q3 => ?_) (fun q3 => ?_)
  · refine G.iconst K D9_3_41 0 rfl ?_
    refine G.ret_bool K D9_3_42 ?_
    exact ⟨by simp only [cF, q3, if_true, if_false, not_true, not_false_eq_true] <;> rfl, H⟩
  · refine G.lloadN K D9_3_15 rfl ?_
    refine G.ldc2J K D9_3_16 (wd hw 24 rfl) ?_
    refine G.lcmp_ge K D9_3_19 D9_3_20 (fun q4 => ?_) (fun q4 => ?_)
    · refine G.iconst K D9_3_41 0 rfl ?_
      refine G.ret_bool K D9_3_42 ?_
      exact ⟨by simp only [cF, q3, q4, if_true, if_false, not_true, not_false_eq_true] <;> rfl, H⟩
    · refine G.aloadN K D9_3_23 rfl rfl ?_
      refine G.getF K (host := "") (Or.inl (wd hw 16 rfl)) H (i := 0) rfl (j := 1) rfl rfl D9_3_24 ?_
      refine G.lloadN K D9_3_27 rfl ?_
      refine G.l2i K D9_3_28 ?_
      refine G.lushr K D9_3_29 ?_
      refine G.lconst K D9_3_30 1 rfl ?_
      refine G.land K D9_3_31 ?_
      refine G.lconst K D9_3_32 0 rfl ?_
      refine G.lcmp_eq K D9_3_33 D9_3_34 (fun q5 => ?_) (fun q5 => ?_)
      · refine G.iconst K D9_3_41 0 rfl ?_
        refine G.ret_bool K D9_3_42 ?_
        exact ⟨by simp only [cF, q3, q4, q5, if_true, if_false, not_true, not_false_eq_true] <;> rfl, H⟩
      · refine G.iconst K D9_3_37 1 rfl ?_
        refine G.goto K D9_3_38 ?_
        refine G.ret_bool K D9_3_42 ?_
        exact ⟨by simp only [cF, q3, q4, q5, if_true, if_false, not_true, not_false_eq_true] <;> rfl, H⟩
theorem Dx_0 : Dc code 0 (.new 7) 3 3 := dc at_0 rfl
theorem Dx_3 : Dc code 3 (.dup) 1 4 := dc at_3 rfl
theorem Dx_4 : Dc code 4 (.iload_n 0) 1 5 := dc at_4 rfl
theorem Dx_5 : Dc code 5 (.lload_n 1) 1 6 := dc at_5 rfl
theorem Dx_6 : Dc code 6 (.invokespecial 9) 3 9 := dc at_6 rfl
theorem Dx_9 : Dc code 9 (.astore 6) 2 11 := dc at_9 rfl
theorem Dx_11 : Dc code 11 (.iload 5) 2 13 := dc at_11 rfl
theorem Dx_13 : Dc code 13 (.iconst 1) 1 14 := dc at_13 rfl
theorem Dx_14 : Dc code 14 (.iand) 1 15 := dc at_14 rfl
theorem Dx_15 : Db code 15 (.ifCond .eq) 18 74 := db (59) at_15 rfl (by decide) (by decide)
theorem Dx_18 : Dc code 18 (.iload 4) 2 20 := dc at_18 rfl
theorem Dx_20 : Dc code 20 (.bipush 63) 2 22 := dc at_20 rfl
theorem Dx_22 : Dc code 22 (.iand) 1 23 := dc at_22 rfl
theorem Dx_23 : Dc code 23 (.istore 9) 2 25 := dc at_23 rfl
theorem Dx_25 : Dc code 25 (.iload_n 0) 1 26 := dc at_25 rfl
theorem Dx_26 : Dc code 26 (.i2l) 1 27 := dc at_26 rfl
theorem Dx_27 : Dc code 27 (.iload 9) 2 29 := dc at_27 rfl
theorem Dx_29 : Dc code 29 (.i2l) 1 30 := dc at_29 rfl
theorem Dx_30 : Dc code 30 (.ladd) 1 31 := dc at_30 rfl
theorem Dx_31 : Dc code 31 (.lstore 10) 2 33 := dc at_31 rfl
theorem Dx_33 : Dc code 33 (.lload 10) 2 35 := dc at_33 rfl
theorem Dx_35 : Dc code 35 (.l2i) 1 36 := dc at_35 rfl
theorem Dx_36 : Dc code 36 (.istore 7) 2 38 := dc at_36 rfl
theorem Dx_38 : Dc code 38 (.lload 10) 2 40 := dc at_38 rfl
theorem Dx_40 : Dc code 40 (.ldc2_w 14) 3 43 := dc at_40 rfl
theorem Dx_43 : Dc code 43 (.lcmp) 1 44 := dc at_43 rfl
theorem Dx_44 : Db code 44 (.ifCond .le) 47 53 := db (9) at_44 rfl (by decide) (by decide)
theorem Dx_47 : Dc code 47 (.iconst 0) 1 48 := dc at_47 rfl
theorem Dx_48 : Dc code 48 (.istore 8) 2 50 := dc at_48 rfl
theorem Dx_50 : Db code 50 (.goto) 53 71 := db (21) at_50 rfl (by decide) (by decide)
theorem Dx_53 : Dc code 53 (.lload_n 1) 1 54 := dc at_53 rfl
theorem Dx_54 : Dc code 54 (.lconst 1) 1 55 := dc at_54 rfl
theorem Dx_55 : Dc code 55 (.iload 9) 2 57 := dc at_55 rfl
theorem Dx_57 : Dc code 57 (.lshl) 1 58 := dc at_57 rfl
theorem Dx_58 : Dc code 58 (.land) 1 59 := dc at_58 rfl
theorem Dx_59 : Dc code 59 (.lconst 0) 1 60 := dc at_59 rfl
theorem Dx_60 : Dc code 60 (.lcmp) 1 61 := dc at_60 rfl
theorem Dx_61 : Db code 61 (.ifCond .eq) 64 68 := db (7) at_61 rfl (by decide) (by decide)
theorem Dx_64 : Dc code 64 (.iconst 1) 1 65 := dc at_64 rfl
theorem Dx_65 : Db code 65 (.goto) 68 69 := db (4) at_65 rfl (by decide) (by decide)
theorem Dx_68 : Dc code 68 (.iconst 0) 1 69 := dc at_68 rfl
theorem Dx_69 : Dc code 69 (.istore 8) 2 71 := dc at_69 rfl
theorem Dx_71 : Db code 71 (.goto) 74 140 := db (69) at_71 rfl (by decide) (by decide)
theorem Dx_74 : Dc code 74 (.iload_n 3) 1 75 := dc at_74 rfl
theorem Dx_75 : Dc code 75 (.istore 7) 2 77 := dc at_75 rfl
theorem Dx_77 : Dc code 77 (.iload_n 0) 1 78 := dc at_77 rfl
theorem Dx_78 : Dc code 78 (.i2l) 1 79 := dc at_78 rfl
theorem Dx_79 : Dc code 79 (.lstore 9) 2 81 := dc at_79 rfl
theorem Dx_81 : Dc code 81 (.iload_n 0) 1 82 := dc at_81 rfl
theorem Dx_82 : Dc code 82 (.i2l) 1 83 := dc at_82 rfl
theorem Dx_83 : Dc code 83 (.ldc2_w 16) 3 86 := dc at_83 rfl
theorem Dx_86 : Dc code 86 (.ladd) 1 87 := dc at_86 rfl
theorem Dx_87 : Dc code 87 (.lstore 11) 2 89 := dc at_87 rfl
theorem Dx_89 : Dc code 89 (.iload 7) 2 91 := dc at_89 rfl
theorem Dx_91 : Dc code 91 (.i2l) 1 92 := dc at_91 rfl
theorem Dx_92 : Dc code 92 (.lload 9) 2 94 := dc at_92 rfl
theorem Dx_94 : Dc code 94 (.lcmp) 1 95 := dc at_94 rfl
theorem Dx_95 : Db code 95 (.ifCond .lt) 98 107 := db (12) at_95 rfl (by decide) (by decide)
theorem Dx_98 : Dc code 98 (.iload 7) 2 100 := dc at_98 rfl
theorem Dx_100 : Dc code 100 (.i2l) 1 101 := dc at_100 rfl
theorem Dx_101 : Dc code 101 (.lload 11) 2 103 := dc at_101 rfl
theorem Dx_103 : Dc code 103 (.lcmp) 1 104 := dc at_103 rfl
theorem Dx_104 : Db code 104 (.ifCond .le) 107 113 := db (9) at_104 rfl (by decide) (by decide)
theorem Dx_107 : Dc code 107 (.iconst 0) 1 108 := dc at_107 rfl
theorem Dx_108 : Dc code 108 (.istore 8) 2 110 := dc at_108 rfl
theorem Dx_110 : Db code 110 (.goto) 113 140 := db (30) at_110 rfl (by decide) (by decide)
theorem Dx_113 : Dc code 113 (.iload 7) 2 115 := dc at_113 rfl
theorem Dx_115 : Dc code 115 (.i2l) 1 116 := dc at_115 rfl
theorem Dx_116 : Dc code 116 (.lload 9) 2 118 := dc at_116 rfl
theorem Dx_118 : Dc code 118 (.lsub) 1 119 := dc at_118 rfl
theorem Dx_119 : Dc code 119 (.l2i) 1 120 := dc at_119 rfl
theorem Dx_120 : Dc code 120 (.istore 13) 2 122 := dc at_120 rfl
theorem Dx_122 : Dc code 122 (.lload_n 1) 1 123 := dc at_122 rfl
theorem Dx_123 : Dc code 123 (.lconst 1) 1 124 := dc at_123 rfl
theorem Dx_124 : Dc code 124 (.iload 13) 2 126 := dc at_124 rfl
theorem Dx_126 : Dc code 126 (.lshl) 1 127 := dc at_126 rfl
theorem Dx_127 : Dc code 127 (.land) 1 128 := dc at_127 rfl
theorem Dx_128 : Dc code 128 (.lconst 0) 1 129 := dc at_128 rfl
theorem Dx_129 : Dc code 129 (.lcmp) 1 130 := dc at_129 rfl
theorem Dx_130 : Db code 130 (.ifCond .eq) 133 137 := db (7) at_130 rfl (by decide) (by decide)
theorem Dx_133 : Dc code 133 (.iconst 1) 1 134 := dc at_133 rfl
theorem Dx_134 : Db code 134 (.goto) 137 138 := db (4) at_134 rfl (by decide) (by decide)
theorem Dx_137 : Dc code 137 (.iconst 0) 1 138 := dc at_137 rfl
theorem Dx_138 : Dc code 138 (.istore 8) 2 140 := dc at_138 rfl
theorem Dx_140 : Dc code 140 (.aload 6) 2 142 := dc at_140 rfl
theorem Dx_142 : Dc code 142 (.iload 7) 2 144 := dc at_142 rfl
theorem Dx_144 : Dc code 144 (.invokevirtual 18) 3 147 := dc at_144 rfl
theorem Dx_147 : Dc code 147 (.iload 8) 2 149 := dc at_147 rfl
theorem Dx_149 : Db code 149 (.if_icmp .ne) 152 156 := db (7) at_149 rfl (by decide) (by decide)
theorem Dx_152 : Dc code 152 (.iconst 1) 1 153 := dc at_152 rfl
theorem Dx_153 : Db code 153 (.goto) 156 157 := db (4) at_153 rfl (by decide) (by decide)
theorem Dx_156 : Dc code 156 (.iconst 0) 1 157 := dc at_156 rfl
theorem Dx_157 : Dc code 157 (.ireturn) 1 158 := dc at_157 rfl
theorem pn_2 : plainName "com/example/orderlink/linearizability/KeysContainsPinLaw" = true := by first | (simp [plainName, overriddenIn]; done) | decide +kernel
set_option maxRecDepth 65536 in
set_option maxHeartbeats 40000000 in
theorem ct_law (l : Launch) (Z : State) (a0 : Array Value) (hw : ∀ d ∈ tables_1, d.before a0 Z = true) (n0 : Nat) (h : Heap) (p0 : Int32) (p1 : Int64) (p2 p3 p4 : Int32) :
    Ct l Z n0 x code maxLocals ret room_1 [.int p0, .long p1, .int p2, .int p3, .int p4] h (fun v h' => v = some (.int 1)) := by
  refine Ct.intro (plainFor_of_name pn_2) [.val (.int p0), .val (.long p1), .second, .val (.int p2), .val (.int p3), .val (.int p4), .unset, .unset, .unset, .unset, .unset, .unset, .unset, .unset] (fun m => by first | (simp [entryFrame, mkF, argsToLocals, Value.category]; done) | (simp [entryFrame, mkF, argsToLocals, Value.category, maxLocals]; done) | rfl) ?_
  intro k hl K
  replace K : Ok k Z n0 "com/example/orderlink/linearizability/KeysContainsPinLaw" room_1 code 14 (some .boolean) "law" := K
  refine G.new K (wd hw 0 rfl) (wd hw 1 rfl) (wd hw 2 rfl) (cf_NSK hw) (vs := [.int 0, .long 0]) (by rfl) (Hp.nil (n0 := n0) (h := h)) (by decide) (by decide) Dx_0 ?_
  intro a6 h7 H7
  change Hp n0 h7 [(a6, Ob Z "com/example/orderlink/linearizability/Keys" NSK [.int 0, .long 0])] at H7
  refine G.dup K Dx_3 rfl ?_
  refine G.iloadN K Dx_4 rfl ?_
  refine G.lloadN K Dx_5 rfl ?_
  refine G.callI K hl rfl (wd hw 3 rfl) (wd hw 4 rfl) (wd hw 2 rfl) (wd hw 5 rfl) (by decide) pd_1 (ct_init l Z a0 hw n0 h7 a6 p0 p1 [] H7) 1 rfl (by decide) (by decide) (by decide) (by decide) rfl rfl [.long p1, .int p0] rfl Dx_6 ?_
  rintro _ h8 ⟨rfl, H8⟩
  change Hp n0 h8 [(a6, Ob Z "com/example/orderlink/linearizability/Keys" NSK [.int p0, .long p1])] at H8
  change G k n0 _ h8 _ _ 9 [.val (.int p0), .val (.long p1), .second, .val (.int p2), .val (.int p3), .val (.int p4), .unset, .unset, .unset, .unset, .unset, .unset, .unset, .unset] [.ref a6]
  refine G.astore K Dx_9 rfl ([.val (.int p0), .val (.long p1), .second, .val (.int p2), .val (.int p3), .val (.int p4), .val (.ref a6), .unset, .unset, .unset, .unset, .unset, .unset, .unset]) rfl ?_
  refine G.iload K Dx_11 rfl ?_
  refine G.iconst K Dx_13 1 rfl ?_
  refine G.iand K Dx_14 ?_
  refine G.if_eq K Dx_15 (fun q9 => ?_) (fun q9 => ?_)
  · refine G.iloadN K Dx_74 rfl ?_
    refine G.istore K Dx_75 ([.val (.int p0), .val (.long p1), .second, .val (.int p2), .val (.int p3), .val (.int p4), .val (.ref a6), .val (.int p2), .unset, .unset, .unset, .unset, .unset, .unset]) rfl ?_
    refine G.iloadN K Dx_77 rfl ?_
    refine G.i2l K Dx_78 ?_
    refine G.lstore K Dx_79 ([.val (.int p0), .val (.long p1), .second, .val (.int p2), .val (.int p3), .val (.int p4), .val (.ref a6), .val (.int p2), .unset, .val (.long p0.toInt64), .second, .unset, .unset, .unset]) rfl ?_
    refine G.iloadN K Dx_81 rfl ?_
    refine G.i2l K Dx_82 ?_
    refine G.ldc2J K Dx_83 (wd hw 25 rfl) ?_
    refine G.ladd K Dx_86 ?_
    refine G.lstore K Dx_87 ([.val (.int p0), .val (.long p1), .second, .val (.int p2), .val (.int p3), .val (.int p4), .val (.ref a6), .val (.int p2), .unset, .val (.long p0.toInt64), .second, .val (.long (p0.toInt64 + 63)), .second, .unset]) rfl ?_
    refine G.iload K Dx_89 rfl ?_
    refine G.i2l K Dx_91 ?_
    refine G.lload K Dx_92 rfl ?_
    refine G.lcmp_lt K Dx_94 Dx_95 (fun q10 => ?_) (fun q10 => ?_)
    · refine G.iconst K Dx_107 0 rfl ?_
      refine G.istore K Dx_108 ([.val (.int p0), .val (.long p1), .second, .val (.int p2), .val (.int p3), .val (.int p4), .val (.ref a6), .val (.int p2), .val (.int 0), .val (.long p0.toInt64), .second, .val (.long (p0.toInt64 + 63)), .second, .unset]) rfl ?_
      refine G.goto K Dx_110 ?_
      refine G.aload K Dx_140 rfl rfl ?_
      refine G.iload K Dx_142 rfl ?_
      refine G.callV K hl (wd hw 19 rfl) (wd hw 20 rfl) (wd hw 22 rfl) (wd hw 21 rfl) (wd hw 2 rfl) (wd hw 23 rfl) (by decide) pd_2 (H8.exa (i := 0) rfl) (ct_contains l Z a0 hw n0 h8 a6 p0 p1 p2 [] H8) 0 rfl (by decide) (by decide) (by decide) (by decide) rfl rfl [.int p2] rfl Dx_144 ?_
      rintro _ h11 ⟨rfl, H11⟩
      change Hp n0 h11 [(a6, Ob Z "com/example/orderlink/linearizability/Keys" NSK [.int p0, .long p1])] at H11
      change G k n0 _ h11 _ _ 147 [.val (.int p0), .val (.long p1), .second, .val (.int p2), .val (.int p3), .val (.int p4), .val (.ref a6), .val (.int p2), .val (.int 0), .val (.long p0.toInt64), .second, .val (.long (p0.toInt64 + 63)), .second, .unset] [.int (cF p0 p1 p2)]
      refine G.iload K Dx_147 rfl ?_
      refine G.icmp_ne K Dx_149 (fun q => absurd (own_L3 q10) q) (fun q12 => ?_)
      refine G.iconst K Dx_152 1 rfl ?_
      refine G.goto K Dx_153 ?_
      refine G.ret_bool K Dx_157 ?_
      exact rfl
    · refine G.iload K Dx_98 rfl ?_
      refine G.i2l K Dx_100 ?_
      refine G.lload K Dx_101 rfl ?_
      refine G.lcmp_le K Dx_103 Dx_104 (fun q13 => ?_) (fun q13 => ?_)
      · refine G.iload K Dx_113 rfl ?_
        refine G.i2l K Dx_115 ?_
        refine G.lload K Dx_116 rfl ?_
        refine G.lsub K Dx_118 ?_
        refine G.l2i K Dx_119 ?_
        refine G.istore K Dx_120 ([.val (.int p0), .val (.long p1), .second, .val (.int p2), .val (.int p3), .val (.int p4), .val (.ref a6), .val (.int p2), .unset, .val (.long p0.toInt64), .second, .val (.long (p0.toInt64 + 63)), .second, .val (.int ((p2.toInt64 - p0.toInt64).toInt32))]) rfl ?_
        refine G.lloadN K Dx_122 rfl ?_
        refine G.lconst K Dx_123 1 rfl ?_
        refine G.iload K Dx_124 rfl ?_
        refine G.lshl K Dx_126 ?_
        refine G.land K Dx_127 ?_
        refine G.lconst K Dx_128 0 rfl ?_
        refine G.lcmp_eq K Dx_129 Dx_130 (fun q14 => ?_) (fun q14 => ?_)
        · refine G.iconst K Dx_137 0 rfl ?_
          refine G.istore K Dx_138 ([.val (.int p0), .val (.long p1), .second, .val (.int p2), .val (.int p3), .val (.int p4), .val (.ref a6), .val (.int p2), .val (.int 0), .val (.long p0.toInt64), .second, .val (.long (p0.toInt64 + 63)), .second, .val (.int ((p2.toInt64 - p0.toInt64).toInt32))]) rfl ?_
          refine G.aload K Dx_140 rfl rfl ?_
          refine G.iload K Dx_142 rfl ?_
          refine G.callV K hl (wd hw 19 rfl) (wd hw 20 rfl) (wd hw 22 rfl) (wd hw 21 rfl) (wd hw 2 rfl) (wd hw 23 rfl) (by decide) pd_2 (H8.exa (i := 0) rfl) (ct_contains l Z a0 hw n0 h8 a6 p0 p1 p2 [] H8) 0 rfl (by decide) (by decide) (by decide) (by decide) rfl rfl [.int p2] rfl Dx_144 ?_
          rintro _ h15 ⟨rfl, H15⟩
          change Hp n0 h15 [(a6, Ob Z "com/example/orderlink/linearizability/Keys" NSK [.int p0, .long p1])] at H15
          change G k n0 _ h15 _ _ 147 [.val (.int p0), .val (.long p1), .second, .val (.int p2), .val (.int p3), .val (.int p4), .val (.ref a6), .val (.int p2), .val (.int 0), .val (.long p0.toInt64), .second, .val (.long (p0.toInt64 + 63)), .second, .val (.int ((p2.toInt64 - p0.toInt64).toInt32))] [.int (cF p0 p1 p2)]
          refine G.iload K Dx_147 rfl ?_
          refine G.icmp_ne K Dx_149 (fun q => absurd (by rw [own_L5 q10 q13, if_pos q14]) q) (fun q16 => ?_)
          refine G.iconst K Dx_152 1 rfl ?_
          refine G.goto K Dx_153 ?_
          refine G.ret_bool K Dx_157 ?_
          exact rfl
        · refine G.iconst K Dx_133 1 rfl ?_
          refine G.goto K Dx_134 ?_
          refine G.istore K Dx_138 ([.val (.int p0), .val (.long p1), .second, .val (.int p2), .val (.int p3), .val (.int p4), .val (.ref a6), .val (.int p2), .val (.int 1), .val (.long p0.toInt64), .second, .val (.long (p0.toInt64 + 63)), .second, .val (.int ((p2.toInt64 - p0.toInt64).toInt32))]) rfl ?_
          refine G.aload K Dx_140 rfl rfl ?_
          refine G.iload K Dx_142 rfl ?_
          refine G.callV K hl (wd hw 19 rfl) (wd hw 20 rfl) (wd hw 22 rfl) (wd hw 21 rfl) (wd hw 2 rfl) (wd hw 23 rfl) (by decide) pd_2 (H8.exa (i := 0) rfl) (ct_contains l Z a0 hw n0 h8 a6 p0 p1 p2 [] H8) 0 rfl (by decide) (by decide) (by decide) (by decide) rfl rfl [.int p2] rfl Dx_144 ?_
          rintro _ h17 ⟨rfl, H17⟩
          change Hp n0 h17 [(a6, Ob Z "com/example/orderlink/linearizability/Keys" NSK [.int p0, .long p1])] at H17
          change G k n0 _ h17 _ _ 147 [.val (.int p0), .val (.long p1), .second, .val (.int p2), .val (.int p3), .val (.int p4), .val (.ref a6), .val (.int p2), .val (.int 1), .val (.long p0.toInt64), .second, .val (.long (p0.toInt64 + 63)), .second, .val (.int ((p2.toInt64 - p0.toInt64).toInt32))] [.int (cF p0 p1 p2)]
          refine G.iload K Dx_147 rfl ?_
          refine G.icmp_ne K Dx_149 (fun q => absurd (by rw [own_L5 q10 q13, if_neg q14]) q) (fun q18 => ?_)
          refine G.iconst K Dx_152 1 rfl ?_
          refine G.goto K Dx_153 ?_
          refine G.ret_bool K Dx_157 ?_
          exact rfl
      · refine G.iconst K Dx_107 0 rfl ?_
        refine G.istore K Dx_108 ([.val (.int p0), .val (.long p1), .second, .val (.int p2), .val (.int p3), .val (.int p4), .val (.ref a6), .val (.int p2), .val (.int 0), .val (.long p0.toInt64), .second, .val (.long (p0.toInt64 + 63)), .second, .unset]) rfl ?_
        refine G.goto K Dx_110 ?_
        refine G.aload K Dx_140 rfl rfl ?_
        refine G.iload K Dx_142 rfl ?_
        refine G.callV K hl (wd hw 19 rfl) (wd hw 20 rfl) (wd hw 22 rfl) (wd hw 21 rfl) (wd hw 2 rfl) (wd hw 23 rfl) (by decide) pd_2 (H8.exa (i := 0) rfl) (ct_contains l Z a0 hw n0 h8 a6 p0 p1 p2 [] H8) 0 rfl (by decide) (by decide) (by decide) (by decide) rfl rfl [.int p2] rfl Dx_144 ?_
        rintro _ h19 ⟨rfl, H19⟩
        change Hp n0 h19 [(a6, Ob Z "com/example/orderlink/linearizability/Keys" NSK [.int p0, .long p1])] at H19
        change G k n0 _ h19 _ _ 147 [.val (.int p0), .val (.long p1), .second, .val (.int p2), .val (.int p3), .val (.int p4), .val (.ref a6), .val (.int p2), .val (.int 0), .val (.long p0.toInt64), .second, .val (.long (p0.toInt64 + 63)), .second, .unset] [.int (cF p0 p1 p2)]
        refine G.iload K Dx_147 rfl ?_
        refine G.icmp_ne K Dx_149 (fun q => absurd (own_L4 q13) q) (fun q20 => ?_)
        refine G.iconst K Dx_152 1 rfl ?_
        refine G.goto K Dx_153 ?_
        refine G.ret_bool K Dx_157 ?_
        exact rfl
  · refine G.iload K Dx_18 rfl ?_
    refine G.bipush K Dx_20 63 rfl ?_
    refine G.iand K Dx_22 ?_
    refine G.istore K Dx_23 ([.val (.int p0), .val (.long p1), .second, .val (.int p2), .val (.int p3), .val (.int p4), .val (.ref a6), .unset, .unset, .val (.int (p3 &&& 63)), .unset, .unset, .unset, .unset]) rfl ?_
    refine G.iloadN K Dx_25 rfl ?_
    refine G.i2l K Dx_26 ?_
    refine G.iload K Dx_27 rfl ?_
    refine G.i2l K Dx_29 ?_
    refine G.ladd K Dx_30 ?_
    refine G.lstore K Dx_31 ([.val (.int p0), .val (.long p1), .second, .val (.int p2), .val (.int p3), .val (.int p4), .val (.ref a6), .unset, .unset, .val (.int (p3 &&& 63)), .val (.long (p0.toInt64 + ((p3 &&& 63).toInt64))), .second, .unset, .unset]) rfl ?_
    refine G.lload K Dx_33 rfl ?_
    refine G.l2i K Dx_35 ?_
    refine G.istore K Dx_36 ([.val (.int p0), .val (.long p1), .second, .val (.int p2), .val (.int p3), .val (.int p4), .val (.ref a6), .val (.int ((p0.toInt64 + ((p3 &&& 63).toInt64)).toInt32)), .unset, .val (.int (p3 &&& 63)), .val (.long (p0.toInt64 + ((p3 &&& 63).toInt64))), .second, .unset, .unset]) rfl ?_
    refine G.lload K Dx_38 rfl ?_
    refine G.ldc2J K Dx_40 (wd hw 18 rfl) ?_
    refine G.lcmp_le K Dx_43 Dx_44 (fun q21 => ?_) (fun q21 => ?_)
    · refine G.lloadN K Dx_53 rfl ?_
      refine G.lconst K Dx_54 1 rfl ?_
      refine G.iload K Dx_55 rfl ?_
      refine G.lshl K Dx_57 ?_
      refine G.land K Dx_58 ?_
      refine G.lconst K Dx_59 0 rfl ?_
      refine G.lcmp_eq K Dx_60 Dx_61 (fun q22 => ?_) (fun q22 => ?_)
      · refine G.iconst K Dx_68 0 rfl ?_
        refine G.istore K Dx_69 ([.val (.int p0), .val (.long p1), .second, .val (.int p2), .val (.int p3), .val (.int p4), .val (.ref a6), .val (.int ((p0.toInt64 + ((p3 &&& 63).toInt64)).toInt32)), .val (.int 0), .val (.int (p3 &&& 63)), .val (.long (p0.toInt64 + ((p3 &&& 63).toInt64))), .second, .unset, .unset]) rfl ?_
        refine G.goto K Dx_71 ?_
        refine G.aload K Dx_140 rfl rfl ?_
        refine G.iload K Dx_142 rfl ?_
        refine G.callV K hl (wd hw 19 rfl) (wd hw 20 rfl) (wd hw 22 rfl) (wd hw 21 rfl) (wd hw 2 rfl) (wd hw 23 rfl) (by decide) pd_2 (H8.exa (i := 0) rfl) (ct_contains l Z a0 hw n0 h8 a6 p0 p1 ((p0.toInt64 + ((p3 &&& 63).toInt64)).toInt32) [] H8) 0 rfl (by decide) (by decide) (by decide) (by decide) rfl rfl [.int ((p0.toInt64 + ((p3 &&& 63).toInt64)).toInt32)] rfl Dx_144 ?_
        rintro _ h23 ⟨rfl, H23⟩
        change Hp n0 h23 [(a6, Ob Z "com/example/orderlink/linearizability/Keys" NSK [.int p0, .long p1])] at H23
        change G k n0 _ h23 _ _ 147 [.val (.int p0), .val (.long p1), .second, .val (.int p2), .val (.int p3), .val (.int p4), .val (.ref a6), .val (.int ((p0.toInt64 + ((p3 &&& 63).toInt64)).toInt32)), .val (.int 0), .val (.int (p3 &&& 63)), .val (.long (p0.toInt64 + ((p3 &&& 63).toInt64))), .second, .unset, .unset] [.int (cF p0 p1 ((p0.toInt64 + ((p3 &&& 63).toInt64)).toInt32))]
        refine G.iload K Dx_147 rfl ?_
        refine G.icmp_ne K Dx_149 (fun q => absurd (by rw [own_L2 q21, if_pos q22]) q) (fun q24 => ?_)
        refine G.iconst K Dx_152 1 rfl ?_
        refine G.goto K Dx_153 ?_
        refine G.ret_bool K Dx_157 ?_
        exact rfl
      · refine G.iconst K Dx_64 1 rfl ?_
        refine G.goto K Dx_65 ?_
        refine G.istore K Dx_69 ([.val (.int p0), .val (.long p1), .second, .val (.int p2), .val (.int p3), .val (.int p4), .val (.ref a6), .val (.int ((p0.toInt64 + ((p3 &&& 63).toInt64)).toInt32)), .val (.int 1), .val (.int (p3 &&& 63)), .val (.long (p0.toInt64 + ((p3 &&& 63).toInt64))), .second, .unset, .unset]) rfl ?_
        refine G.goto K Dx_71 ?_
        refine G.aload K Dx_140 rfl rfl ?_
        refine G.iload K Dx_142 rfl ?_
        refine G.callV K hl (wd hw 19 rfl) (wd hw 20 rfl) (wd hw 22 rfl) (wd hw 21 rfl) (wd hw 2 rfl) (wd hw 23 rfl) (by decide) pd_2 (H8.exa (i := 0) rfl) (ct_contains l Z a0 hw n0 h8 a6 p0 p1 ((p0.toInt64 + ((p3 &&& 63).toInt64)).toInt32) [] H8) 0 rfl (by decide) (by decide) (by decide) (by decide) rfl rfl [.int ((p0.toInt64 + ((p3 &&& 63).toInt64)).toInt32)] rfl Dx_144 ?_
        rintro _ h25 ⟨rfl, H25⟩
        change Hp n0 h25 [(a6, Ob Z "com/example/orderlink/linearizability/Keys" NSK [.int p0, .long p1])] at H25
        change G k n0 _ h25 _ _ 147 [.val (.int p0), .val (.long p1), .second, .val (.int p2), .val (.int p3), .val (.int p4), .val (.ref a6), .val (.int ((p0.toInt64 + ((p3 &&& 63).toInt64)).toInt32)), .val (.int 1), .val (.int (p3 &&& 63)), .val (.long (p0.toInt64 + ((p3 &&& 63).toInt64))), .second, .unset, .unset] [.int (cF p0 p1 ((p0.toInt64 + ((p3 &&& 63).toInt64)).toInt32))]
        refine G.iload K Dx_147 rfl ?_
        refine G.icmp_ne K Dx_149 (fun q => absurd (by rw [own_L2 q21, if_neg q22]) q) (fun q26 => ?_)
        refine G.iconst K Dx_152 1 rfl ?_
        refine G.goto K Dx_153 ?_
        refine G.ret_bool K Dx_157 ?_
        exact rfl
    · refine G.iconst K Dx_47 0 rfl ?_
      refine G.istore K Dx_48 ([.val (.int p0), .val (.long p1), .second, .val (.int p2), .val (.int p3), .val (.int p4), .val (.ref a6), .val (.int ((p0.toInt64 + ((p3 &&& 63).toInt64)).toInt32)), .val (.int 0), .val (.int (p3 &&& 63)), .val (.long (p0.toInt64 + ((p3 &&& 63).toInt64))), .second, .unset, .unset]) rfl ?_
      refine G.goto K Dx_50 ?_
      refine G.goto K Dx_71 ?_
      refine G.aload K Dx_140 rfl rfl ?_
      refine G.iload K Dx_142 rfl ?_
      refine G.callV K hl (wd hw 19 rfl) (wd hw 20 rfl) (wd hw 22 rfl) (wd hw 21 rfl) (wd hw 2 rfl) (wd hw 23 rfl) (by decide) pd_2 (H8.exa (i := 0) rfl) (ct_contains l Z a0 hw n0 h8 a6 p0 p1 ((p0.toInt64 + ((p3 &&& 63).toInt64)).toInt32) [] H8) 0 rfl (by decide) (by decide) (by decide) (by decide) rfl rfl [.int ((p0.toInt64 + ((p3 &&& 63).toInt64)).toInt32)] rfl Dx_144 ?_
      rintro _ h27 ⟨rfl, H27⟩
      change Hp n0 h27 [(a6, Ob Z "com/example/orderlink/linearizability/Keys" NSK [.int p0, .long p1])] at H27
      change G k n0 _ h27 _ _ 147 [.val (.int p0), .val (.long p1), .second, .val (.int p2), .val (.int p3), .val (.int p4), .val (.ref a6), .val (.int ((p0.toInt64 + ((p3 &&& 63).toInt64)).toInt32)), .val (.int 0), .val (.int (p3 &&& 63)), .val (.long (p0.toInt64 + ((p3 &&& 63).toInt64))), .second, .unset, .unset] [.int (cF p0 p1 ((p0.toInt64 + ((p3 &&& 63).toInt64)).toInt32))]
      refine G.iload K Dx_147 rfl ?_
      refine G.icmp_ne K Dx_149 (fun q => absurd (own_L1 q21) q) (fun q28 => ?_)
      refine G.iconst K Dx_152 1 rfl ?_
      refine G.goto K Dx_153 ?_
      refine G.ret_bool K Dx_157 ?_
      exact rfl
set_option maxRecDepth 65536 in
set_option maxHeartbeats 40000000 in
theorem comes_1 {Post : Tables → Env → Array Value → State → Outcome → State → Prop} (hpost : ∀ tb e args s v u, (limb_1_1.after args s (.returned v) u = true ∧ limb_1_2.after args s (.returned v) u = true ∧ True) → FrameEnd s (.returned v) u (Jvm.fieldLocs frame_1_writes args s ++ Jvm.arrayLocs frame_1_arrays args s ++ Jvm.staticLocs frame_1_statics s) 16 128 → Post tb e args s (.returned v) u) :
    ArmFor flags0 classFile x code maxLocals ret World_1 tables_1 room_1 Calls_1 rest_1 Pre_1 Post := by
  intro l hfl _ _ p e ha hc hk s m args below hf hA hF happ hP
  obtain ⟨hcalls, hrest, hpre⟩ := hP
  obtain ⟨-, -, -, hnamed, -, -, -, hat⟩ := (Spec.applies_iff hf).mp happ
  obtain ⟨hg, hn⟩ := and_e (Cond.before_iff.mp (show (Jvm.Cond.and given_1 narrow_1).before args s = true from hpre))
  obtain ⟨g0, g1⟩ := and_e hg
  obtain ⟨u0, v0⟩ := and_e g1
  obtain ⟨u1, v1⟩ := and_e v0
  obtain ⟨u2, v2⟩ := and_e v1
  obtain ⟨u3, v3⟩ := and_e v2
  obtain ⟨w0, w1, w2, w3, w4, rfl⟩ : ∃ w0 w1 w2 w3 w4 : Value, args = #[w0, w1, w2, w3, w4] := by
    have hs : args.size = 5 := by simpa [Cond.value, given_1] using g0
    obtain ⟨L⟩ := args
    match L, hs with
    | [w0, w1, w2, w3, w4], _ => exact ⟨w0, w1, w2, w3, w4, rfl⟩
  have hw := fun d (hd : d ∈ tables_1) => atoms_spec (ws := Jvm.Cond.code x code maxLocals ret :: tables_1) hat d (List.mem_cons_of_mem _ hd)
  obtain ⟨i0, ei0⟩ := is_v u0
  obtain rfl : w0 = (.int i0) := Option.some.inj ei0
  obtain ⟨i1, ei1⟩ := isL_v u1
  obtain rfl : w1 = (.long i1) := Option.some.inj ei1
  obtain ⟨i2, ei2⟩ := is_v u2
  obtain rfl : w2 = (.int i2) := Option.some.inj ei2
  obtain ⟨i3, ei3⟩ := is_v u3
  obtain rfl : w3 = (.int i3) := Option.some.inj ei3
  obtain ⟨i4, ei4⟩ := is_v v3
  obtain rfl : w4 = (.int i4) := Option.some.inj ei4
  obtain ⟨n, o, h1, h2, h3, _, L, rfl, ⟨rfl, N⟩, hq⟩ := ct_law l s _ hw s.heap.size s.heap i0 i1 i2 i3 i4 (Nat.le_refl _) tables_1 p e ha hc hk s m _ below hf ((Spec.applies_iff_loose hf).mp happ).1 ⟨rfl, State.Warmed39.refl s, rfl⟩ trivial
  refine ⟨n, _, h1, h2, h3, hpost _ _ _ _ _ _ ⟨Cond.after_iff.mpr rfl, Cond.after_iff.mpr (eq_i res_at (Term.int_eval (1)) rfl), trivial⟩ ⟨hq.1, hq.2.1, (hq.2.2.sift fun y hy => Or.inr (N y hy)).mono (by decide) (by decide)⟩⟩
theorem main_1_1 : Claimed_1_1 := comes_1 fun _ _ _ _ _ _ h hF => ⟨h.1, hF⟩
theorem main_1_2 : Claimed_1_2 := comes_1 fun _ _ _ _ _ _ h hF => ⟨h.2.1, hF⟩
end Jvm.Pilot.@@N@@
namespace Jvm.Pilot.@@N@@
open Jvm Jvm.ClassFile Sem Op Lib Jvm.Free Jvm.Stand Jvm.Pilot.@@N@@.Jvm.D
/-! MADE BY PROGRAM (witnessworld.py) out of the Statement's table words and the real class files: 10 classes; the members and pool entries that the words name. The judged class is class 1, her method 1. -/
namespace start1
open Jvm.ClassFile
def u (s : String) : CpInfo := .utf8 (stringToUtf16 s)
/-- a pool by its gaps: so many unusable entries, then the entry; so many at the end -/
def gap : Nat → List CpInfo → List CpInfo
  | 0, r => r
  | n + 1, r => .unusable :: gap n r
def poolList (es : List (Nat × CpInfo)) (last : Nat) : List CpInfo := es.foldr (fun e r => gap e.1 (e.2 :: r)) (gap last [])
def pool (es : List (Nat × CpInfo)) (last : Nat) : Array CpInfo := ⟨poolList es last⟩
def fileOf (pool : Array CpInfo) (this : Nat) (attrs : Array Attribute := #[]) (ms : Array MethodInfo := #[]) (fl : Nat := 33) (sup : Nat := 0) (ifs : Array Nat := #[]) (fds : Array FieldInfo := #[]) : ClassFile where
  minorVersion := 0
  majorVersion := 65
  constantPool := pool
  accessFlags := fl
  thisClass := this
  superClass := sup
  interfaces := ifs
  fields := fds
  methods := ms
  attributes := attrs
def plain (name : String) (sup : Option ClassId) : Class where
  name := name
  kind := .ordinary
  loader := none
  accessFlags := 33
  super := sup
  interfaces := #[]
  cf := none
  fields := #[]
  methods := #[]
  instanceTypes := #[]
  staticTypes := #[]
  resolved := #[]
  callSites := []
  init := .initialized
  statics := none
  mirror := none

def pool0 : Array CpInfo := pool [(5, u "<init>"), (0, u "()V"), (1, .class_ 10), (1, u "java/lang/Object")] 113

def k0c0 : Code := { maxStack := 0, maxLocals := 1, code := object_method_1_code, exceptionTable := #[], attributes := #[] }
def k0m0 : Method := { name := "<init>", desc := "()V", sig := { parameters := [], returnType := none }, accessFlags := 1, code := some k0c0 }
/-- java/lang/Object -/
def k0 : Class := { plain "java/lang/Object" none with
  accessFlags := 33
  interfaces := #[]
  cf := some (fileOf pool0 8 #[] #[{ accessFlags := 1, nameIndex := 5, descriptorIndex := 6, attributes := #[] }] 33 0 #[] #[])
  fields := #[]
  methods := #[k0m0]
  instanceTypes := #[]
  staticTypes := #[]
  resolved := Array.replicate 124 none
  statics := none }

def pool1 : Array CpInfo := pool [(2, .class_ 4), (1, u "java/lang/Object"), (0, u "<init>"), (0, u "()V"), (0, .class_ 8), (0, u "com/example/orderlink/linearizability/Keys"), (0, .methodref 7 10), (0, .nameAndType 5 11), (0, u "(IJ)V"), (2, .long 2147483647), (1, .long 63), (1, .methodref 7 19), (0, .nameAndType 20 21), (0, u "contains"), (0, u "(I)Z"), (0, .class_ 23), (0, u "com/example/orderlink/linearizability/KeysContainsPinLaw"), (2, u "law"), (0, u "(IJIII)Z")] 3

def k1m0 : Method := { name := "<init>", desc := "()V", sig := { parameters := [], returnType := none }, accessFlags := 1, code := none }
def k1c1 : Code := { maxStack := 5, maxLocals := 14, code := code, exceptionTable := #[], attributes := #[] }
def k1m1 : Method := { name := "law", desc := "(IJIII)Z", sig := { parameters := [.int, .long, .int, .int, .int], returnType := some .boolean }, accessFlags := 9, code := some k1c1 }
/-- com/example/orderlink/linearizability/KeysContainsPinLaw -/
def k1 : Class := { plain "com/example/orderlink/linearizability/KeysContainsPinLaw" (some 0) with
  accessFlags := 49
  interfaces := #[]
  cf := some (fileOf pool1 22 #[] #[{ accessFlags := 1, nameIndex := 5, descriptorIndex := 6, attributes := #[] }, { accessFlags := 9, nameIndex := 26, descriptorIndex := 27, attributes := #[] }] 49 2 #[] #[])
  fields := #[]
  methods := #[k1m0, k1m1]
  instanceTypes := #[]
  staticTypes := #[]
  resolved := Array.replicate 31 none
  statics := none }

def pool2 : Array CpInfo := pool [(1, .methodref 2 3), (0, .class_ 4), (0, .nameAndType 5 6), (0, u "java/lang/Object"), (0, u "<init>"), (0, u "()V"), (0, .class_ 8), (0, u "java/lang/Record")] 13

def k2c0 : Code := { maxStack := 1, maxLocals := 1, code := jdk_30_method_1_code, exceptionTable := #[], attributes := #[] }
def k2m0 : Method := { name := "<init>", desc := "()V", sig := { parameters := [], returnType := none }, accessFlags := 4, code := some k2c0 }
/-- java/lang/Record -/
def k2 : Class := { plain "java/lang/Record" (some 0) with
  accessFlags := 1057
  interfaces := #[]
  cf := some (fileOf pool2 7 #[] #[{ accessFlags := 4, nameIndex := 5, descriptorIndex := 6, attributes := #[] }] 1057 2 #[] #[])
  fields := #[]
  methods := #[k2m0]
  instanceTypes := #[]
  staticTypes := #[]
  resolved := Array.replicate 22 none
  statics := none }

def pool3 : Array CpInfo := pool [(1, .methodref 2 3), (0, .class_ 4), (0, .nameAndType 5 6), (0, u "java/lang/Record"), (0, u "<init>"), (0, u "()V"), (0, .fieldref 8 9), (0, .class_ 10), (0, .nameAndType 11 12), (0, u "com/example/orderlink/linearizability/Keys"), (0, u "base"), (0, u "I"), (0, .fieldref 8 14), (0, .nameAndType 15 16), (0, u "bits"), (0, u "J"), (33, .long 64), (12, u "(IJ)V"), (2, u "contains"), (0, u "(I)Z")] 125

def k3c0 : Code := { maxStack := 3, maxLocals := 4, code := prog_9_method_1_code, exceptionTable := #[], attributes := #[] }
def k3m0 : Method := { name := "<init>", desc := "(IJ)V", sig := { parameters := [.int, .long], returnType := none }, accessFlags := 0, code := some k3c0 }
def k3c1 : Code := { maxStack := 4, maxLocals := 4, code := prog_9_method_3_code, exceptionTable := #[], attributes := #[] }
def k3m1 : Method := { name := "contains", desc := "(I)Z", sig := { parameters := [.int], returnType := some .boolean }, accessFlags := 0, code := some k3c1 }
/-- com/example/orderlink/linearizability/Keys -/
def k3 : Class := { plain "com/example/orderlink/linearizability/Keys" (some 2) with
  accessFlags := 48
  interfaces := #[]
  cf := some (fileOf pool3 8 #[] #[{ accessFlags := 0, nameIndex := 5, descriptorIndex := 63, attributes := #[] }, { accessFlags := 0, nameIndex := 66, descriptorIndex := 67, attributes := #[] }] 48 2 #[] #[{ accessFlags := 18, nameIndex := 11, descriptorIndex := 12, attributes := #[] }, { accessFlags := 18, nameIndex := 15, descriptorIndex := 16, attributes := #[] }])
  fields := #[{ name := "base", type := .int, accessFlags := 18, slot := 0, constantValue := 0 }, { name := "bits", type := .long, accessFlags := 18, slot := 1, constantValue := 0 }]
  methods := #[k3m0, k3m1]
  instanceTypes := #[.int, .long]
  staticTypes := #[]
  resolved := Array.replicate 193 none
  statics := none }

def pool4 : Array CpInfo := pool [(1, u "java/lang/Cloneable"), (0, .class_ 1), (0, u "java/lang/Object"), (0, .class_ 3)] 3

/-- java/lang/Cloneable -/
def k4 : Class := { plain "java/lang/Cloneable" (some 0) with
  accessFlags := 1537
  interfaces := #[]
  cf := some (fileOf pool4 2 #[] #[] 1537 4 #[] #[])
  fields := #[]
  methods := #[]
  instanceTypes := #[]
  staticTypes := #[]
  resolved := Array.replicate 8 none
  statics := none }

def pool5 : Array CpInfo := pool [(1, u "java/io/Serializable"), (0, .class_ 1), (0, u "java/lang/Object"), (0, .class_ 3)] 3

/-- java/io/Serializable -/
def k5 : Class := { plain "java/io/Serializable" (some 0) with
  accessFlags := 1537
  interfaces := #[]
  cf := some (fileOf pool5 2 #[] #[] 1537 4 #[] #[])
  fields := #[]
  methods := #[]
  instanceTypes := #[]
  staticTypes := #[]
  resolved := Array.replicate 8 none
  statics := none }

/-- the primitive byte -/
def k6 : Class := { plain "byte" none with kind := .primitive 'B', accessFlags := 0x411 }
/-- [B -/
def k7 : Class := { plain "[B" (some 0) with kind := .array 6 .byte, interfaces := #[4, 5], accessFlags := 1041 }

/-- the primitive int -/
def k8 : Class := { plain "int" none with kind := .primitive 'I', accessFlags := 0x411 }
/-- [I -/
def k9 : Class := { plain "[I" (some 0) with kind := .array 8 .int, interfaces := #[4, 5], accessFlags := 1041 }

def heap : Heap := #[]
def classes : Array Class := #[k0, k1, k2, k3, k4, k5, k6, k7, k8, k9]
def interned : List (Array UInt16 × Addr) := []
def slotsUsed : Nat := 0
def theMethod : MethodId := ⟨1, 1⟩
def args0 : Array Value := #[.int 5, .long 7, .int 3, .int 2, .int 1]
def aboutOver (below : List Frame) : State where
  vm := { classes := classes, interned := interned.toArray }
  heap := heap
  slotsUsed := slotsUsed
  threads := #[{ frames := .invoking theMethod args0 :: below }]
def below0 : List Frame := [.native { method := ⟨0, 0⟩, args := #[] }]
def about1 : State := aboutOver below0
def p0 : Program := .bare "" "" ""
def e0 : Env := launch0.env 0 0 0
theorem w_frames : about1.frames = Frame.invoking theMethod args0 :: below0 := rfl
set_option maxRecDepth 65536 in
theorem w_args : argsFit about1.vm theMethod args0 = true := by decide +kernel
set_option maxRecDepth 65536 in
theorem w_heap : heapFits about1 = true := by decide +kernel
set_option maxRecDepth 65536 in
theorem w_runnable : about1.curStatus? = some .runnable := by decide +kernel
set_option maxRecDepth 65536 in
theorem w_alone : about1.alone = true := by decide +kernel
set_option maxRecDepth 65536 in
theorem w_named : about1.methodNamed? x = some theMethod := by decide +kernel
set_option maxRecDepth 65536 in
theorem w_hears : about1.hears theMethod below0 = true := by decide +kernel
set_option maxRecDepth 65536 in
theorem w_ripe : about1.ripe theMethod args0 below0 = true := by decide +kernel
theorem w_running : about1.status = .running := rfl
set_option maxRecDepth 65536 in
theorem w_room : about1.hasRoom e0.platform room_1 = true :=
  launch0.hasRoom_least _ room_1 (by decide +kernel) (by decide +kernel) (by decide +kernel) (by decide +kernel) (by decide +kernel) (by decide +kernel)
theorem allAtoms_all (ts : List Jvm.Cond) (a : Array Jvm.Value) (st : Jvm.State) : (allAtoms ts).before a st = ts.all (fun c => c.before a st) := by
  induction ts with
  | nil => rfl
  | cons c t ih =>
    show (Jvm.Cond.and c (allAtoms t)).before a st = _
    rw [Jvm.Cond.before_and, ih, List.all_cons]
def words1 : List Jvm.Cond := Jvm.Cond.code x code maxLocals ret :: tables_1
/-- a 'code' word, met by the world's own term for the bytes: nothing is compared byte by byte -/
theorem code_word {y : MethodName} {bytes : ByteArray} {mx : Nat} {rt : Option FieldType} {a : Array Value} {s : State} {m : MethodId} {meth : Method} {c : Code} (h1 : s.methodNamed? y = some m) (h2 : s.vm.method? m = some meth) (h3 : meth.code = some c) (h4 : c.code = bytes)
    (h5 : (c.maxLocals == mx && c.exceptionTable.isEmpty && decide (c.maxStack ≤ mostOperands) && decide (meth.sig.returnType = rt) && !meth.locks && decide (parseMethodDescriptor y.desc = some meth.sig)) = true) : (Jvm.Cond.code y bytes mx rt).before a s = true := by
  simp only [Bool.and_eq_true, beq_iff_eq, Bool.not_eq_true', decide_eq_true_eq] at h5
  obtain ⟨⟨⟨⟨⟨g1, g2⟩, g3⟩, g4⟩, g5⟩, g6⟩ := h5
  simp [Cond.before, Cond.holds, Cond.value, h1, h2, h3, h4, g1, g2, g3, g4, g5, g6]
def isCode : Jvm.Cond → Bool
  | .code _ _ _ _ => true
  | _ => false
theorem all_split {L : List Jvm.Cond} {P : Jvm.Cond → Bool} (h1 : L.all (fun c => isCode c || P c) = true) (h2 : ∀ c ∈ L.filter isCode, P c = true) : L.all P = true := by
  refine List.all_eq_true.mpr fun c hc => ?_
  have h := List.all_eq_true.mp h1 c hc
  rcases Bool.eq_false_or_eq_true (isCode c) with hi | hi
  · exact h2 c (List.mem_filter.mpr ⟨hc, hi⟩)
  · simpa [hi] using h
set_option maxRecDepth 65536 in
theorem w_c0 : (Jvm.Cond.code x code maxLocals ret).before args0 about1 = true := code_word (m := ⟨1, 1⟩) (meth := k1m1) (c := k1c1) (by decide +kernel) rfl rfl rfl (by decide +kernel)
set_option maxRecDepth 65536 in
theorem w_c1 : (Jvm.Cond.code ({ cls := "com/example/orderlink/linearizability/Keys", name := "<init>", desc := "(IJ)V" } : Jvm.MethodName) prog_9_method_1_code (4 : Nat) (Option.none : Option Jvm.ClassFile.FieldType)).before args0 about1 = true := code_word (m := ⟨3, 0⟩) (meth := k3m0) (c := k3c0) (by decide +kernel) rfl rfl rfl (by decide +kernel)
set_option maxRecDepth 65536 in
theorem w_c2 : (Jvm.Cond.code ({ cls := "java/lang/Record", name := "<init>", desc := "()V" } : Jvm.MethodName) jdk_30_method_1_code (1 : Nat) (Option.none : Option Jvm.ClassFile.FieldType)).before args0 about1 = true := code_word (m := ⟨2, 0⟩) (meth := k2m0) (c := k2c0) (by decide +kernel) rfl rfl rfl (by decide +kernel)
set_option maxRecDepth 65536 in
theorem w_c3 : (Jvm.Cond.code ({ cls := "java/lang/Object", name := "<init>", desc := "()V" } : Jvm.MethodName) object_method_1_code (1 : Nat) (Option.none : Option Jvm.ClassFile.FieldType)).before args0 about1 = true := code_word (m := ⟨0, 0⟩) (meth := k0m0) (c := k0c0) (by decide +kernel) rfl rfl rfl (by decide +kernel)
set_option maxRecDepth 65536 in
theorem w_c4 : (Jvm.Cond.code ({ cls := "com/example/orderlink/linearizability/Keys", name := "contains", desc := "(I)Z" } : Jvm.MethodName) prog_9_method_3_code (4 : Nat) (Option.some Jvm.ClassFile.FieldType.boolean)).before args0 about1 = true := code_word (m := ⟨3, 1⟩) (meth := k3m1) (c := k3c1) (by decide +kernel) rfl rfl rfl (by decide +kernel)
def codes1 : List Jvm.Cond := [Jvm.Cond.code x code maxLocals ret, Jvm.Cond.code ({ cls := "com/example/orderlink/linearizability/Keys", name := "<init>", desc := "(IJ)V" } : Jvm.MethodName) prog_9_method_1_code (4 : Nat) (Option.none : Option Jvm.ClassFile.FieldType), Jvm.Cond.code ({ cls := "java/lang/Record", name := "<init>", desc := "()V" } : Jvm.MethodName) jdk_30_method_1_code (1 : Nat) (Option.none : Option Jvm.ClassFile.FieldType), Jvm.Cond.code ({ cls := "java/lang/Object", name := "<init>", desc := "()V" } : Jvm.MethodName) object_method_1_code (1 : Nat) (Option.none : Option Jvm.ClassFile.FieldType), Jvm.Cond.code ({ cls := "com/example/orderlink/linearizability/Keys", name := "contains", desc := "(I)Z" } : Jvm.MethodName) prog_9_method_3_code (4 : Nat) (Option.some Jvm.ClassFile.FieldType.boolean)]
set_option maxRecDepth 65536 in
theorem codes_eq : words1.filter isCode = codes1 := rfl
theorem w_codes : ∀ c ∈ words1.filter isCode, c.before args0 about1 = true := by
  rw [codes_eq]
  intro c hc
  simp only [codes1, List.mem_cons, List.not_mem_nil, or_false] at hc
  rcases hc with rfl | rfl | rfl | rfl | rfl
  · exact w_c0
  · exact w_c1
  · exact w_c2
  · exact w_c3
  · exact w_c4
set_option maxRecDepth 65536 in
theorem w_t1 : (words1.take 24).all (fun c => isCode c || c.before args0 about1) = true := by decide +kernel
set_option maxRecDepth 65536 in
theorem w_t2 : (words1.drop 24).all (fun c => isCode c || c.before args0 about1) = true := by decide +kernel
theorem w_tables : (allAtoms (Jvm.Cond.code x code maxLocals ret :: tables_1)).before args0 about1 = true := by
  rw [allAtoms_all]
  show words1.all (fun c => c.before args0 about1) = true
  refine all_split ?_ w_codes
  rw [← List.take_append_drop 24 words1, List.all_append, w_t1, w_t2]
  rfl
set_option maxRecDepth 65536 in
theorem w_case : (Jvm.Cond.and given_1 narrow_1).before args0 about1 = true := by decide +kernel
theorem w_applies : (headSpec (Jvm.Cond.code x code maxLocals ret :: tables_1) room_1).applies x e0.platform about1 = true :=
  (Spec.applies_iff w_frames).mpr ⟨w_running, w_runnable, w_alone, w_named, w_hears, w_ripe, w_room, w_tables⟩
theorem atStart : AtStart classFile x code maxLocals ret World_1 tables_1 room_1 Calls_1 rest_1 Pre_1 launch0 p0 e0 about1 theMethod args0 below0 :=
  ⟨lists_1, trivial, launch0.admits_env _ _ _, launch0.least_env, fairChoices_fair.cas, fairChoices_fair.clock, w_frames, w_args, w_heap, w_applies, trivial, trivial, w_case⟩
end start1
theorem witness_1 : WitnessClaimed_1 := ⟨start1.p0, start1.e0, start1.about1, start1.theMethod, start1.args0, start1.below0, start1.atStart⟩
end Jvm.Pilot.@@N@@
