import JvmDerived
import JvmDerived.Pilot.@@N@@Statement
import JvmDerived.Pilot.@@N@@Code
set_option linter.unusedVariables false
set_option linter.unusedSimpArgs false
namespace Jvm.OwnKit
open Sem ClassFile Op Lib Jvm.Stand Jvm.Free Jvm.LawKit Jvm.RoadKit
/-- what stays the same in one body: program, launch, environment, room, first state, method, arguments, frames below, method record, code -/
abbrev Cx := Program × Launch × Env × Room × State × MethodId × Array Value × List Frame × Method × Code
/-- from here the body runs to its end, and Q holds of what it returns and of the heap then -/
def G (k : Cx) (n0 : Nat) (Q : Option Value → Heap → Prop) (h : Heap) (cells slots pc : Nat) (Ls : List Slot) (St : List Value) : Prop :=
  cells ≤ k.2.2.2.1.cells → slots ≤ k.2.2.2.1.slots → ∀ (T : State) (locs : List Loc),
  Stand k.1 k.2.1 k.2.2.1 k.2.2.2.1 k.2.2.2.2.1 k.2.2.2.2.2.1 k.2.2.2.2.2.2.1 k.2.2.2.2.2.2.2.1 k.2.2.2.2.2.2.2.2.1 k.2.2.2.2.2.2.2.2.2 T locs cells slots → T.heap = h → Fr n0 locs →
  ∃ s₂ o, Steps k.1.tables k.2.2.1 k.2.2.2.2.2.2.2.1 (T.setTop (mkF k.2.2.2.2.2.1 pc ⟨Ls⟩ St)) s₂ ∧ s₂.status = .running ∧ Ended s₂ k.2.2.2.2.2.2.2.1 o ∧
    ∃ v L, o = .returned v ∧ (Q v s₂.heap ∧ Fr n0 L) ∧ FrameEnd k.2.2.2.2.1 o s₂ L k.2.2.2.1.cells k.2.2.2.1.slots
/-- what is known of the body all along -/
def Ok (k : Cx) (Z : State) (n0 : Nat) (own : String) (R : Room) (bytes : ByteArray) (maxL : Nat) (ret : Option FieldType) (nm : String) : Prop :=
  k.1.tables.exec = Jvm.exec ∧ Z.Warmed39 k.2.2.2.2.1.vm ∧ k.2.2.2.2.1.vm.findClass own = some k.2.2.2.2.2.1.cls ∧ k.2.2.2.1 = R ∧ k.2.2.2.2.2.2.2.2.2.code = bytes ∧
  k.2.2.2.2.2.2.2.2.2.maxLocals = maxL ∧ k.2.2.2.2.2.2.2.2.1.sig.returnType = ret ∧ k.2.2.2.2.2.2.2.2.1.locks = false ∧ k.2.2.2.2.2.2.2.2.1.name = nm ∧ n0 ≤ k.2.2.2.2.1.heap.size
def Dc (bytes : ByteArray) (pc : Nat) (i : Instr) (len pc' : Nat) : Prop := decode bytes pc = .ok (i, len) ∧ pc' = pc + len
def Db (bytes : ByteArray) (pc : Nat) (f : Int → Instr) (nx tg : Nat) : Prop := ∃ o : Int, decode bytes pc = .ok (f o, 3) ∧ nx = pc + 3 ∧ 0 ≤ (pc : Int) + o ∧ ((pc : Int) + o).toNat = tg
theorem dc {bytes : ByteArray} {pc : Nat} {i : Instr} {len : Nat} (h : decode bytes pc = .ok (i, len)) {pc' : Nat} (e : pc' = pc + len) : Dc bytes pc i len pc' := ⟨h, e⟩
theorem db {bytes : ByteArray} {pc : Nat} {f : Int → Instr} (o : Int) (h : decode bytes pc = .ok (f o, 3)) {nx tg : Nat} (e : nx = pc + 3) (e2 : 0 ≤ (pc : Int) + o) (e3 : ((pc : Int) + o).toNat = tg) : Db bytes pc f nx tg := ⟨o, h, e, e2, e3⟩
variable {k : Cx} {Z : State} {n0 : Nat} {own : String} {R : Room} {bytes : ByteArray} {maxL : Nat} {ret : Option FieldType} {nm : String} {Q : Option Value → Heap → Prop} {h : Heap} {cells slots pc pc' nx tg : Nat} {Ls Ls' : List Slot} {St St' : List Value} {a0 : Array Value}
/-- one step that moves neither heap nor tables -/
theorem G.plain {p : Program} {l : Launch} {e : Env} {R : Room} {s : State} {m : MethodId} {args : Array Value} {below : List Frame} {meth : Method} {c : Code}
    (st : ∀ T locs target, Stand p l e R s m args below meth c T locs cells slots → Steps p.tables e below (T.setTop (mkF m pc' ⟨Ls'⟩ St')) target → Steps p.tables e below (T.setTop (mkF m pc ⟨Ls⟩ St)) target)
    (g : G (p, l, e, R, s, m, args, below, meth, c) n0 Q h cells slots pc' Ls' St') : G (p, l, e, R, s, m, args, below, meth, c) n0 Q h cells slots pc Ls St := by
  intro hc hs T locs X eT N
  obtain ⟨s₂, o, h1, r⟩ := g hc hs T locs X eT N
  exact ⟨s₂, o, st T locs s₂ X h1, r⟩
/-- one step that leaves the heap as it is -/
theorem G.moved {p : Program} {l : Launch} {e : Env} {R : Room} {s : State} {m : MethodId} {args : Array Value} {below : List Frame} {meth : Method} {c : Code}
    (st : ∀ T locs, Stand p l e R s m args below meth c T locs cells slots → T.heap = h → ∃ T', Stand p l e R s m args below meth c T' locs cells slots ∧ T'.heap = h ∧ ∀ target, Steps p.tables e below (T'.setTop (mkF m pc' ⟨Ls'⟩ St')) target → Steps p.tables e below (T.setTop (mkF m pc ⟨Ls⟩ St)) target)
    (g : G (p, l, e, R, s, m, args, below, meth, c) n0 Q h cells slots pc' Ls' St') : G (p, l, e, R, s, m, args, below, meth, c) n0 Q h cells slots pc Ls St := by
  intro hc hs T locs X eT N
  obtain ⟨T', X', eT', st⟩ := st T locs X eT
  obtain ⟨s₂, o, h1, r⟩ := g hc hs T' locs X' eT' N
  exact ⟨s₂, o, st s₂ h1, r⟩
theorem G.more {cells' slots' : Nat} (K : Ok k Z n0 own R bytes maxL ret nm) (g : G k n0 Q h cells' slots' pc Ls St) (hc : cells ≤ cells') (hs : slots ≤ slots') (hc' : cells' ≤ R.cells) (hs' : slots' ≤ R.slots) : G k n0 Q h cells slots pc Ls St := by
  obtain ⟨-, -, -, rfl, -⟩ := K
  intro _ _ T locs X eT N
  exact g hc' hs' T locs (X.more hc hs) eT N
theorem G.post {Q' : Option Value → Heap → Prop} (g : G k n0 Q' h cells slots pc Ls St) (q : ∀ v h, Q' v h → Q v h) : G k n0 Q h cells slots pc Ls St := by
  intro hc hs T locs X eT N
  obtain ⟨s₂, o, h1, h2, h3, v, L, h4, ⟨h5, h6⟩, h7⟩ := g hc hs T locs X eT N
  exact ⟨s₂, o, h1, h2, h3, v, L, h4, ⟨q _ _ h5, h6⟩, h7⟩
theorem G.iadd (K : Ok k Z n0 own R bytes maxL ret nm) {x y : Int32} (d : Dc bytes pc .iadd 1 pc') (g : G k n0 Q h cells slots pc' Ls (.int (x + y) :: St)) : G k n0 Q h cells slots pc Ls (.int y :: .int x :: St) := by
  obtain ⟨p, l, e, R', s, m, args, below, meth, c⟩ := k
  obtain ⟨hx, hZ, hown, rfl, rfl, rfl, rfl, hlk, rfl, hn0⟩ := K
  obtain ⟨d, rfl⟩ := d
  exact G.plain (fun T locs t X q => XS.iadd X.here hx rfl d rfl q) g
theorem G.isub (K : Ok k Z n0 own R bytes maxL ret nm) {x y : Int32} (d : Dc bytes pc .isub 1 pc') (g : G k n0 Q h cells slots pc' Ls (.int (x - y) :: St)) : G k n0 Q h cells slots pc Ls (.int y :: .int x :: St) := by
  obtain ⟨p, l, e, R', s, m, args, below, meth, c⟩ := k
  obtain ⟨hx, hZ, hown, rfl, rfl, rfl, rfl, hlk, rfl, hn0⟩ := K
  obtain ⟨d, rfl⟩ := d
  exact G.plain (fun T locs t X q => XS.isub X.here hx rfl d rfl q) g
theorem G.imul (K : Ok k Z n0 own R bytes maxL ret nm) {x y : Int32} (d : Dc bytes pc .imul 1 pc') (g : G k n0 Q h cells slots pc' Ls (.int (x * y) :: St)) : G k n0 Q h cells slots pc Ls (.int y :: .int x :: St) := by
  obtain ⟨p, l, e, R', s, m, args, below, meth, c⟩ := k
  obtain ⟨hx, hZ, hown, rfl, rfl, rfl, rfl, hlk, rfl, hn0⟩ := K
  obtain ⟨d, rfl⟩ := d
  exact G.plain (fun T locs t X q => XS.imul X.here hx rfl d rfl q) g
theorem G.iand (K : Ok k Z n0 own R bytes maxL ret nm) {x y : Int32} (d : Dc bytes pc .iand 1 pc') (g : G k n0 Q h cells slots pc' Ls (.int (x &&& y) :: St)) : G k n0 Q h cells slots pc Ls (.int y :: .int x :: St) := by
  obtain ⟨p, l, e, R', s, m, args, below, meth, c⟩ := k
  obtain ⟨hx, hZ, hown, rfl, rfl, rfl, rfl, hlk, rfl, hn0⟩ := K
  obtain ⟨d, rfl⟩ := d
  exact G.plain (fun T locs t X q => XS.iand X.here hx rfl d rfl q) g
theorem G.ior (K : Ok k Z n0 own R bytes maxL ret nm) {x y : Int32} (d : Dc bytes pc .ior 1 pc') (g : G k n0 Q h cells slots pc' Ls (.int (x ||| y) :: St)) : G k n0 Q h cells slots pc Ls (.int y :: .int x :: St) := by
  obtain ⟨p, l, e, R', s, m, args, below, meth, c⟩ := k
  obtain ⟨hx, hZ, hown, rfl, rfl, rfl, rfl, hlk, rfl, hn0⟩ := K
  obtain ⟨d, rfl⟩ := d
  exact G.plain (fun T locs t X q => XT.ior X.here hx rfl d rfl q) g
theorem G.ixor (K : Ok k Z n0 own R bytes maxL ret nm) {x y : Int32} (d : Dc bytes pc .ixor 1 pc') (g : G k n0 Q h cells slots pc' Ls (.int (x ^^^ y) :: St)) : G k n0 Q h cells slots pc Ls (.int y :: .int x :: St) := by
  obtain ⟨p, l, e, R', s, m, args, below, meth, c⟩ := k
  obtain ⟨hx, hZ, hown, rfl, rfl, rfl, rfl, hlk, rfl, hn0⟩ := K
  obtain ⟨d, rfl⟩ := d
  exact G.plain (fun T locs t X q => XT.ixor X.here hx rfl d rfl q) g
theorem G.ishl (K : Ok k Z n0 own R bytes maxL ret nm) {x y : Int32} (d : Dc bytes pc .ishl 1 pc') (g : G k n0 Q h cells slots pc' Ls (.int (x <<< (y &&& 31)) :: St)) : G k n0 Q h cells slots pc Ls (.int y :: .int x :: St) := by
  obtain ⟨p, l, e, R', s, m, args, below, meth, c⟩ := k
  obtain ⟨hx, hZ, hown, rfl, rfl, rfl, rfl, hlk, rfl, hn0⟩ := K
  obtain ⟨d, rfl⟩ := d
  exact G.plain (fun T locs t X q => XT.ishl X.here hx rfl d rfl q) g
theorem G.ishr (K : Ok k Z n0 own R bytes maxL ret nm) {x y : Int32} (d : Dc bytes pc .ishr 1 pc') (g : G k n0 Q h cells slots pc' Ls (.int (x >>> (y &&& 31)) :: St)) : G k n0 Q h cells slots pc Ls (.int y :: .int x :: St) := by
  obtain ⟨p, l, e, R', s, m, args, below, meth, c⟩ := k
  obtain ⟨hx, hZ, hown, rfl, rfl, rfl, rfl, hlk, rfl, hn0⟩ := K
  obtain ⟨d, rfl⟩ := d
  exact G.plain (fun T locs t X q => XT.ishr X.here hx rfl d rfl q) g
theorem G.iushr (K : Ok k Z n0 own R bytes maxL ret nm) {x y : Int32} (d : Dc bytes pc .iushr 1 pc') (g : G k n0 Q h cells slots pc' Ls (.int (XT.ushr x y) :: St)) : G k n0 Q h cells slots pc Ls (.int y :: .int x :: St) := by
  obtain ⟨p, l, e, R', s, m, args, below, meth, c⟩ := k
  obtain ⟨hx, hZ, hown, rfl, rfl, rfl, rfl, hlk, rfl, hn0⟩ := K
  obtain ⟨d, rfl⟩ := d
  exact G.plain (fun T locs t X q => XT.iushr X.here hx rfl d rfl q) g
theorem G.ladd (K : Ok k Z n0 own R bytes maxL ret nm) {x y : Int64} (d : Dc bytes pc .ladd 1 pc') (g : G k n0 Q h cells slots pc' Ls (.long (x + y) :: St)) : G k n0 Q h cells slots pc Ls (.long y :: .long x :: St) := by
  obtain ⟨p, l, e, R', s, m, args, below, meth, c⟩ := k
  obtain ⟨hx, hZ, hown, rfl, rfl, rfl, rfl, hlk, rfl, hn0⟩ := K
  obtain ⟨d, rfl⟩ := d
  exact G.plain (fun T locs t X q => XT.ladd X.here hx rfl d rfl q) g
theorem G.lsub (K : Ok k Z n0 own R bytes maxL ret nm) {x y : Int64} (d : Dc bytes pc .lsub 1 pc') (g : G k n0 Q h cells slots pc' Ls (.long (x - y) :: St)) : G k n0 Q h cells slots pc Ls (.long y :: .long x :: St) := by
  obtain ⟨p, l, e, R', s, m, args, below, meth, c⟩ := k
  obtain ⟨hx, hZ, hown, rfl, rfl, rfl, rfl, hlk, rfl, hn0⟩ := K
  obtain ⟨d, rfl⟩ := d
  exact G.plain (fun T locs t X q => XT.lsub X.here hx rfl d rfl q) g
theorem G.lmul (K : Ok k Z n0 own R bytes maxL ret nm) {x y : Int64} (d : Dc bytes pc .lmul 1 pc') (g : G k n0 Q h cells slots pc' Ls (.long (x * y) :: St)) : G k n0 Q h cells slots pc Ls (.long y :: .long x :: St) := by
  obtain ⟨p, l, e, R', s, m, args, below, meth, c⟩ := k
  obtain ⟨hx, hZ, hown, rfl, rfl, rfl, rfl, hlk, rfl, hn0⟩ := K
  obtain ⟨d, rfl⟩ := d
  exact G.plain (fun T locs t X q => XT.lmul X.here hx rfl d rfl q) g
theorem G.land (K : Ok k Z n0 own R bytes maxL ret nm) {x y : Int64} (d : Dc bytes pc .land 1 pc') (g : G k n0 Q h cells slots pc' Ls (.long (x &&& y) :: St)) : G k n0 Q h cells slots pc Ls (.long y :: .long x :: St) := by
  obtain ⟨p, l, e, R', s, m, args, below, meth, c⟩ := k
  obtain ⟨hx, hZ, hown, rfl, rfl, rfl, rfl, hlk, rfl, hn0⟩ := K
  obtain ⟨d, rfl⟩ := d
  exact G.plain (fun T locs t X q => XT.land X.here hx rfl d rfl q) g
theorem G.lor (K : Ok k Z n0 own R bytes maxL ret nm) {x y : Int64} (d : Dc bytes pc .lor 1 pc') (g : G k n0 Q h cells slots pc' Ls (.long (x ||| y) :: St)) : G k n0 Q h cells slots pc Ls (.long y :: .long x :: St) := by
  obtain ⟨p, l, e, R', s, m, args, below, meth, c⟩ := k
  obtain ⟨hx, hZ, hown, rfl, rfl, rfl, rfl, hlk, rfl, hn0⟩ := K
  obtain ⟨d, rfl⟩ := d
  exact G.plain (fun T locs t X q => XT.lor X.here hx rfl d rfl q) g
theorem G.lxor (K : Ok k Z n0 own R bytes maxL ret nm) {x y : Int64} (d : Dc bytes pc .lxor 1 pc') (g : G k n0 Q h cells slots pc' Ls (.long (x ^^^ y) :: St)) : G k n0 Q h cells slots pc Ls (.long y :: .long x :: St) := by
  obtain ⟨p, l, e, R', s, m, args, below, meth, c⟩ := k
  obtain ⟨hx, hZ, hown, rfl, rfl, rfl, rfl, hlk, rfl, hn0⟩ := K
  obtain ⟨d, rfl⟩ := d
  exact G.plain (fun T locs t X q => XT.lxor X.here hx rfl d rfl q) g
theorem G.lshl (K : Ok k Z n0 own R bytes maxL ret nm) {x : Int64} {y : Int32} (d : Dc bytes pc .lshl 1 pc') (g : G k n0 Q h cells slots pc' Ls (.long (x <<< (y.toInt64 &&& 63)) :: St)) : G k n0 Q h cells slots pc Ls (.int y :: .long x :: St) := by
  obtain ⟨p, l, e, R', s, m, args, below, meth, c⟩ := k
  obtain ⟨hx, hZ, hown, rfl, rfl, rfl, rfl, hlk, rfl, hn0⟩ := K
  obtain ⟨d, rfl⟩ := d
  exact G.plain (fun T locs t X q => XT.lshl X.here hx rfl d rfl q) g
theorem G.lshr (K : Ok k Z n0 own R bytes maxL ret nm) {x : Int64} {y : Int32} (d : Dc bytes pc .lshr 1 pc') (g : G k n0 Q h cells slots pc' Ls (.long (x >>> (y.toInt64 &&& 63)) :: St)) : G k n0 Q h cells slots pc Ls (.int y :: .long x :: St) := by
  obtain ⟨p, l, e, R', s, m, args, below, meth, c⟩ := k
  obtain ⟨hx, hZ, hown, rfl, rfl, rfl, rfl, hlk, rfl, hn0⟩ := K
  obtain ⟨d, rfl⟩ := d
  exact G.plain (fun T locs t X q => XT.lshr X.here hx rfl d rfl q) g
theorem G.lushr (K : Ok k Z n0 own R bytes maxL ret nm) {x : Int64} {y : Int32} (d : Dc bytes pc .lushr 1 pc') (g : G k n0 Q h cells slots pc' Ls (.long (XT.ushrL x y) :: St)) : G k n0 Q h cells slots pc Ls (.int y :: .long x :: St) := by
  obtain ⟨p, l, e, R', s, m, args, below, meth, c⟩ := k
  obtain ⟨hx, hZ, hown, rfl, rfl, rfl, rfl, hlk, rfl, hn0⟩ := K
  obtain ⟨d, rfl⟩ := d
  exact G.plain (fun T locs t X q => XT.lushr X.here hx rfl d rfl q) g
theorem G.irem (K : Ok k Z n0 own R bytes maxL ret nm) {x y : Int32} (d : Dc bytes pc .irem 1 pc') (hy : y ≠ 0) (g : G k n0 Q h cells slots pc' Ls (.int (x % y) :: St)) : G k n0 Q h cells slots pc Ls (.int y :: .int x :: St) := by
  obtain ⟨p, l, e, R', s, m, args, below, meth, c⟩ := k
  obtain ⟨hx, hZ, hown, rfl, rfl, rfl, rfl, hlk, rfl, hn0⟩ := K
  obtain ⟨d, rfl⟩ := d
  exact G.plain (fun T locs t X q => iremM X hx rfl d rfl hy q) g
theorem G.idiv (K : Ok k Z n0 own R bytes maxL ret nm) {x y : Int32} (d : Dc bytes pc .idiv 1 pc') (hy : y ≠ 0) (g : G k n0 Q h cells slots pc' Ls (.int (x / y) :: St)) : G k n0 Q h cells slots pc Ls (.int y :: .int x :: St) := by
  obtain ⟨p, l, e, R', s, m, args, below, meth, c⟩ := k
  obtain ⟨hx, hZ, hown, rfl, rfl, rfl, rfl, hlk, rfl, hn0⟩ := K
  obtain ⟨d, rfl⟩ := d
  exact G.plain (fun T locs t X q => XS.idiv X.here hx rfl d rfl hy q) g
theorem G.ldiv (K : Ok k Z n0 own R bytes maxL ret nm) {x y : Int64} (d : Dc bytes pc .ldiv 1 pc') (hy : y ≠ 0) (g : G k n0 Q h cells slots pc' Ls (.long (x / y) :: St)) : G k n0 Q h cells slots pc Ls (.long y :: .long x :: St) := by
  obtain ⟨p, l, e, R', s, m, args, below, meth, c⟩ := k
  obtain ⟨hx, hZ, hown, rfl, rfl, rfl, rfl, hlk, rfl, hn0⟩ := K
  obtain ⟨d, rfl⟩ := d
  exact G.plain (fun T locs t X q => XT.ldiv X.here hx rfl d rfl hy q) g
theorem G.ineg (K : Ok k Z n0 own R bytes maxL ret nm) {x : Int32} (d : Dc bytes pc .ineg 1 pc') (g : G k n0 Q h cells slots pc' Ls (.int (-x) :: St)) : G k n0 Q h cells slots pc Ls (.int x :: St) := by
  obtain ⟨p, l, e, R', s, m, args, below, meth, c⟩ := k
  obtain ⟨hx, hZ, hown, rfl, rfl, rfl, rfl, hlk, rfl, hn0⟩ := K
  obtain ⟨d, rfl⟩ := d
  exact G.plain (fun T locs t X q => XS.ineg X.here hx rfl d rfl q) g
theorem G.lneg (K : Ok k Z n0 own R bytes maxL ret nm) {x : Int64} (d : Dc bytes pc .lneg 1 pc') (g : G k n0 Q h cells slots pc' Ls (.long (-x) :: St)) : G k n0 Q h cells slots pc Ls (.long x :: St) := by
  obtain ⟨p, l, e, R', s, m, args, below, meth, c⟩ := k
  obtain ⟨hx, hZ, hown, rfl, rfl, rfl, rfl, hlk, rfl, hn0⟩ := K
  obtain ⟨d, rfl⟩ := d
  exact G.plain (fun T locs t X q => XT.lneg X.here hx rfl d rfl q) g
theorem G.i2l (K : Ok k Z n0 own R bytes maxL ret nm) {x : Int32} (d : Dc bytes pc .i2l 1 pc') (g : G k n0 Q h cells slots pc' Ls (.long x.toInt64 :: St)) : G k n0 Q h cells slots pc Ls (.int x :: St) := by
  obtain ⟨p, l, e, R', s, m, args, below, meth, c⟩ := k
  obtain ⟨hx, hZ, hown, rfl, rfl, rfl, rfl, hlk, rfl, hn0⟩ := K
  obtain ⟨d, rfl⟩ := d
  exact G.plain (fun T locs t X q => XT.i2l X.here hx rfl d rfl q) g
theorem G.l2i (K : Ok k Z n0 own R bytes maxL ret nm) {x : Int64} (d : Dc bytes pc .l2i 1 pc') (g : G k n0 Q h cells slots pc' Ls (.int x.toInt32 :: St)) : G k n0 Q h cells slots pc Ls (.long x :: St) := by
  obtain ⟨p, l, e, R', s, m, args, below, meth, c⟩ := k
  obtain ⟨hx, hZ, hown, rfl, rfl, rfl, rfl, hlk, rfl, hn0⟩ := K
  obtain ⟨d, rfl⟩ := d
  exact G.plain (fun T locs t X q => XT.l2i X.here hx rfl d rfl q) g
theorem G.i2b (K : Ok k Z n0 own R bytes maxL ret nm) {x : Int32} (d : Dc bytes pc .i2b 1 pc') (g : G k n0 Q h cells slots pc' Ls (.int x.toInt8.toInt32 :: St)) : G k n0 Q h cells slots pc Ls (.int x :: St) := by
  obtain ⟨p, l, e, R', s, m, args, below, meth, c⟩ := k
  obtain ⟨hx, hZ, hown, rfl, rfl, rfl, rfl, hlk, rfl, hn0⟩ := K
  obtain ⟨d, rfl⟩ := d
  exact G.plain (fun T locs t X q => XT.i2b X.here hx rfl d rfl q) g
theorem G.i2s (K : Ok k Z n0 own R bytes maxL ret nm) {x : Int32} (d : Dc bytes pc .i2s 1 pc') (g : G k n0 Q h cells slots pc' Ls (.int x.toInt16.toInt32 :: St)) : G k n0 Q h cells slots pc Ls (.int x :: St) := by
  obtain ⟨p, l, e, R', s, m, args, below, meth, c⟩ := k
  obtain ⟨hx, hZ, hown, rfl, rfl, rfl, rfl, hlk, rfl, hn0⟩ := K
  obtain ⟨d, rfl⟩ := d
  exact G.plain (fun T locs t X q => XT.i2s X.here hx rfl d rfl q) g
theorem G.i2c (K : Ok k Z n0 own R bytes maxL ret nm) {x : Int32} (d : Dc bytes pc .i2c 1 pc') (g : G k n0 Q h cells slots pc' Ls (.int x.toUInt32.toUInt16.toUInt32.toInt32 :: St)) : G k n0 Q h cells slots pc Ls (.int x :: St) := by
  obtain ⟨p, l, e, R', s, m, args, below, meth, c⟩ := k
  obtain ⟨hx, hZ, hown, rfl, rfl, rfl, rfl, hlk, rfl, hn0⟩ := K
  obtain ⟨d, rfl⟩ := d
  exact G.plain (fun T locs t X q => XT.i2c X.here hx rfl d rfl q) g
theorem G.iloadN (K : Ok k Z n0 own R bytes maxL ret nm) {v : Int32} {i : Fin 4} (d : Dc bytes pc (.iload_n i) 1 pc') (hl : Ls[i.val]? = some (.val (.int v))) (g : G k n0 Q h cells slots pc' Ls (.int v :: St)) : G k n0 Q h cells slots pc Ls (St) := by
  obtain ⟨p, l, e, R', s, m, args, below, meth, c⟩ := k
  obtain ⟨hx, hZ, hown, rfl, rfl, rfl, rfl, hlk, rfl, hn0⟩ := K
  obtain ⟨d, rfl⟩ := d
  exact G.plain (fun T locs t X q => XS.iloadN X.here hx rfl d (by simpa using hl) q) g
theorem G.iload (K : Ok k Z n0 own R bytes maxL ret nm) {v : Int32} {i : Nat} (d : Dc bytes pc (.iload i) 2 pc') (hl : Ls[i]? = some (.val (.int v))) (g : G k n0 Q h cells slots pc' Ls (.int v :: St)) : G k n0 Q h cells slots pc Ls (St) := by
  obtain ⟨p, l, e, R', s, m, args, below, meth, c⟩ := k
  obtain ⟨hx, hZ, hown, rfl, rfl, rfl, rfl, hlk, rfl, hn0⟩ := K
  obtain ⟨d, rfl⟩ := d
  exact G.plain (fun T locs t X q => XS.iload X.here hx rfl d (by simpa using hl) q) g
theorem G.lloadN (K : Ok k Z n0 own R bytes maxL ret nm) {v : Int64} {i : Fin 4} (d : Dc bytes pc (.lload_n i) 1 pc') (hl : Ls[i.val]? = some (.val (.long v))) (g : G k n0 Q h cells slots pc' Ls (.long v :: St)) : G k n0 Q h cells slots pc Ls (St) := by
  obtain ⟨p, l, e, R', s, m, args, below, meth, c⟩ := k
  obtain ⟨hx, hZ, hown, rfl, rfl, rfl, rfl, hlk, rfl, hn0⟩ := K
  obtain ⟨d, rfl⟩ := d
  exact G.plain (fun T locs t X q => XT.lloadN X.here hx rfl d (by simpa using hl) q) g
theorem G.lload (K : Ok k Z n0 own R bytes maxL ret nm) {v : Int64} {i : Nat} (d : Dc bytes pc (.lload i) 2 pc') (hl : Ls[i]? = some (.val (.long v))) (g : G k n0 Q h cells slots pc' Ls (.long v :: St)) : G k n0 Q h cells slots pc Ls (St) := by
  obtain ⟨p, l, e, R', s, m, args, below, meth, c⟩ := k
  obtain ⟨hx, hZ, hown, rfl, rfl, rfl, rfl, hlk, rfl, hn0⟩ := K
  obtain ⟨d, rfl⟩ := d
  exact G.plain (fun T locs t X q => XT.lload X.here hx rfl d (by simpa using hl) q) g
theorem G.aloadN (K : Ok k Z n0 own R bytes maxL ret nm) {v : Value} {i : Fin 4} (d : Dc bytes pc (.aload_n i) 1 pc') (hl : Ls[i.val]? = some (.val (v))) (hv : v.isRef = true) (g : G k n0 Q h cells slots pc' Ls (v :: St)) : G k n0 Q h cells slots pc Ls (St) := by
  obtain ⟨p, l, e, R', s, m, args, below, meth, c⟩ := k
  obtain ⟨hx, hZ, hown, rfl, rfl, rfl, rfl, hlk, rfl, hn0⟩ := K
  obtain ⟨d, rfl⟩ := d
  exact G.plain (fun T locs t X q => XS.aloadN X.here hx rfl d (by simpa using hl) hv q) g
theorem G.aload (K : Ok k Z n0 own R bytes maxL ret nm) {v : Value} {i : Nat} (d : Dc bytes pc (.aload i) 2 pc') (hl : Ls[i]? = some (.val (v))) (hv : v.isRef = true) (g : G k n0 Q h cells slots pc' Ls (v :: St)) : G k n0 Q h cells slots pc Ls (St) := by
  obtain ⟨p, l, e, R', s, m, args, below, meth, c⟩ := k
  obtain ⟨hx, hZ, hown, rfl, rfl, rfl, rfl, hlk, rfl, hn0⟩ := K
  obtain ⟨d, rfl⟩ := d
  exact G.plain (fun T locs t X q => XS.aload X.here hx rfl d (by simpa using hl) hv q) g
theorem G.istoreN (K : Ok k Z n0 own R bytes maxL ret nm) {v : Int32} {i : Fin 4} (d : Dc bytes pc (.istore_n i) 1 pc') (Ls' : List Slot) (hl : storeLocals ⟨Ls⟩ i.val (.int v) = some ⟨Ls'⟩) (g : G k n0 Q h cells slots pc' Ls' (St)) : G k n0 Q h cells slots pc Ls (.int v :: St) := by
  obtain ⟨p, l, e, R', s, m, args, below, meth, c⟩ := k
  obtain ⟨hx, hZ, hown, rfl, rfl, rfl, rfl, hlk, rfl, hn0⟩ := K
  obtain ⟨d, rfl⟩ := d
  exact G.plain (fun T locs t X q => XS.istoreN X.here hx rfl d rfl hl q) g
theorem G.istore (K : Ok k Z n0 own R bytes maxL ret nm) {v : Int32} {i : Nat} (d : Dc bytes pc (.istore i) 2 pc') (Ls' : List Slot) (hl : storeLocals ⟨Ls⟩ i (.int v) = some ⟨Ls'⟩) (g : G k n0 Q h cells slots pc' Ls' (St)) : G k n0 Q h cells slots pc Ls (.int v :: St) := by
  obtain ⟨p, l, e, R', s, m, args, below, meth, c⟩ := k
  obtain ⟨hx, hZ, hown, rfl, rfl, rfl, rfl, hlk, rfl, hn0⟩ := K
  obtain ⟨d, rfl⟩ := d
  exact G.plain (fun T locs t X q => XS.istore X.here hx rfl d rfl hl q) g
theorem G.lstoreN (K : Ok k Z n0 own R bytes maxL ret nm) {v : Int64} {i : Fin 4} (d : Dc bytes pc (.lstore_n i) 1 pc') (Ls' : List Slot) (hl : storeLocals ⟨Ls⟩ i.val (.long v) = some ⟨Ls'⟩) (g : G k n0 Q h cells slots pc' Ls' (St)) : G k n0 Q h cells slots pc Ls (.long v :: St) := by
  obtain ⟨p, l, e, R', s, m, args, below, meth, c⟩ := k
  obtain ⟨hx, hZ, hown, rfl, rfl, rfl, rfl, hlk, rfl, hn0⟩ := K
  obtain ⟨d, rfl⟩ := d
  exact G.plain (fun T locs t X q => XT.lstoreN X.here hx rfl d rfl hl q) g
theorem G.lstore (K : Ok k Z n0 own R bytes maxL ret nm) {v : Int64} {i : Nat} (d : Dc bytes pc (.lstore i) 2 pc') (Ls' : List Slot) (hl : storeLocals ⟨Ls⟩ i (.long v) = some ⟨Ls'⟩) (g : G k n0 Q h cells slots pc' Ls' (St)) : G k n0 Q h cells slots pc Ls (.long v :: St) := by
  obtain ⟨p, l, e, R', s, m, args, below, meth, c⟩ := k
  obtain ⟨hx, hZ, hown, rfl, rfl, rfl, rfl, hlk, rfl, hn0⟩ := K
  obtain ⟨d, rfl⟩ := d
  exact G.plain (fun T locs t X q => XT.lstore X.here hx rfl d rfl hl q) g
theorem G.astoreN (K : Ok k Z n0 own R bytes maxL ret nm) {v : Value} {i : Fin 4} (d : Dc bytes pc (.astore_n i) 1 pc') (hv : v.isRef = true) (Ls' : List Slot) (hl : storeLocals ⟨Ls⟩ i.val (v) = some ⟨Ls'⟩) (g : G k n0 Q h cells slots pc' Ls' (St)) : G k n0 Q h cells slots pc Ls (v :: St) := by
  obtain ⟨p, l, e, R', s, m, args, below, meth, c⟩ := k
  obtain ⟨hx, hZ, hown, rfl, rfl, rfl, rfl, hlk, rfl, hn0⟩ := K
  obtain ⟨d, rfl⟩ := d
  exact G.plain (fun T locs t X q => XS.astoreN X.here hx rfl d rfl hv hl q) g
theorem G.astore (K : Ok k Z n0 own R bytes maxL ret nm) {v : Value} {i : Nat} (d : Dc bytes pc (.astore i) 2 pc') (hv : v.isRef = true) (Ls' : List Slot) (hl : storeLocals ⟨Ls⟩ i (v) = some ⟨Ls'⟩) (g : G k n0 Q h cells slots pc' Ls' (St)) : G k n0 Q h cells slots pc Ls (v :: St) := by
  obtain ⟨p, l, e, R', s, m, args, below, meth, c⟩ := k
  obtain ⟨hx, hZ, hown, rfl, rfl, rfl, rfl, hlk, rfl, hn0⟩ := K
  obtain ⟨d, rfl⟩ := d
  exact G.plain (fun T locs t X q => XS.astore X.here hx rfl d rfl hv hl q) g
theorem G.iinc (K : Ok k Z n0 own R bytes maxL ret nm) {x : Int32} {i : Nat} {cst : Int} (d : Dc bytes pc (.iinc i cst) 3 pc') (v : Int32) (hv : Int32.ofInt cst = v) (hl0 : Ls[i]? = some (.val (.int x))) (Ls' : List Slot) (hl : storeLocals ⟨Ls⟩ i (.int (x + v)) = some ⟨Ls'⟩) (g : G k n0 Q h cells slots pc' Ls' (St)) : G k n0 Q h cells slots pc Ls (St) := by
  obtain ⟨p, l, e, R', s, m, args, below, meth, c⟩ := k
  obtain ⟨hx, hZ, hown, rfl, rfl, rfl, rfl, hlk, rfl, hn0⟩ := K
  obtain ⟨d, rfl⟩ := d
  exact G.plain (fun T locs t X q => XT.iincV X.here hx rfl v d hv (by simpa using hl0) hl q) g
theorem G.iconst (K : Ok k Z n0 own R bytes maxL ret nm) {i : Int} (d : Dc bytes pc (.iconst i) 1 pc') (v : Int32) (hv : Int32.ofInt i = v) (g : G k n0 Q h cells slots pc' Ls (.int v :: St)) : G k n0 Q h cells slots pc Ls (St) := by
  obtain ⟨p, l, e, R', s, m, args, below, meth, c⟩ := k
  obtain ⟨hx, hZ, hown, rfl, rfl, rfl, rfl, hlk, rfl, hn0⟩ := K
  obtain ⟨d, rfl⟩ := d
  exact G.plain (fun T locs t X q => XT.iconstV X.here hx rfl v d hv q) g
theorem G.bipush (K : Ok k Z n0 own R bytes maxL ret nm) {i : Int} (d : Dc bytes pc (.bipush i) 2 pc') (v : Int32) (hv : (Int8.ofInt i).toInt32 = v) (g : G k n0 Q h cells slots pc' Ls (.int v :: St)) : G k n0 Q h cells slots pc Ls (St) := by
  obtain ⟨p, l, e, R', s, m, args, below, meth, c⟩ := k
  obtain ⟨hx, hZ, hown, rfl, rfl, rfl, rfl, hlk, rfl, hn0⟩ := K
  obtain ⟨d, rfl⟩ := d
  exact G.plain (fun T locs t X q => XT.bipushV X.here hx rfl v d hv q) g
theorem G.sipush (K : Ok k Z n0 own R bytes maxL ret nm) {i : Int} (d : Dc bytes pc (.sipush i) 3 pc') (v : Int32) (hv : (Int16.ofInt i).toInt32 = v) (g : G k n0 Q h cells slots pc' Ls (.int v :: St)) : G k n0 Q h cells slots pc Ls (St) := by
  obtain ⟨p, l, e, R', s, m, args, below, meth, c⟩ := k
  obtain ⟨hx, hZ, hown, rfl, rfl, rfl, rfl, hlk, rfl, hn0⟩ := K
  obtain ⟨d, rfl⟩ := d
  exact G.plain (fun T locs t X q => XT.sipushV X.here hx rfl v d hv q) g
theorem G.lconst (K : Ok k Z n0 own R bytes maxL ret nm) {i : Fin 2} (d : Dc bytes pc (.lconst i) 1 pc') (v : Int64) (hv : Int64.ofNat i = v) (g : G k n0 Q h cells slots pc' Ls (.long v :: St)) : G k n0 Q h cells slots pc Ls (St) := by
  obtain ⟨p, l, e, R', s, m, args, below, meth, c⟩ := k
  obtain ⟨hx, hZ, hown, rfl, rfl, rfl, rfl, hlk, rfl, hn0⟩ := K
  obtain ⟨d, rfl⟩ := d
  exact G.plain (fun T locs t X q => XT.lconstV X.here hx rfl v d hv q) g
theorem G.aconst_null (K : Ok k Z n0 own R bytes maxL ret nm)  (d : Dc bytes pc .aconst_null 1 pc') (g : G k n0 Q h cells slots pc' Ls (.null :: St)) : G k n0 Q h cells slots pc Ls (St) := by
  obtain ⟨p, l, e, R', s, m, args, below, meth, c⟩ := k
  obtain ⟨hx, hZ, hown, rfl, rfl, rfl, rfl, hlk, rfl, hn0⟩ := K
  obtain ⟨d, rfl⟩ := d
  exact G.plain (fun T locs t X q => XS.aconstNull X.here hx rfl d q) g
theorem G.ldcI (K : Ok k Z n0 own R bytes maxL ret nm) {v : Int32} {i : Nat} (d : Dc bytes pc (.ldc i) 2 pc') (w : (Cond.constant own i v).before a0 Z = true) (g : G k n0 Q h cells slots pc' Ls (.int v :: St)) : G k n0 Q h cells slots pc Ls (St) := by
  obtain ⟨p, l, e, R', s, m, args, below, meth, c⟩ := k
  obtain ⟨hx, hZ, hown, rfl, rfl, rfl, rfl, hlk, rfl, hn0⟩ := K
  obtain ⟨d, rfl⟩ := d
  exact G.plain (fun T locs t X q => X.ldcI hx hown (mvT hZ w) rfl d q) g
theorem G.ldcWI (K : Ok k Z n0 own R bytes maxL ret nm) {v : Int32} {i : Nat} (d : Dc bytes pc (.ldc_w i) 3 pc') (w : (Cond.constant own i v).before a0 Z = true) (g : G k n0 Q h cells slots pc' Ls (.int v :: St)) : G k n0 Q h cells slots pc Ls (St) := by
  obtain ⟨p, l, e, R', s, m, args, below, meth, c⟩ := k
  obtain ⟨hx, hZ, hown, rfl, rfl, rfl, rfl, hlk, rfl, hn0⟩ := K
  obtain ⟨d, rfl⟩ := d
  exact G.plain (fun T locs t X q => X.ldcWI hx hown (mvT hZ w) rfl d q) g
theorem G.ldc2J (K : Ok k Z n0 own R bytes maxL ret nm) {v : Int64} {i : Nat} (d : Dc bytes pc (.ldc2_w i) 3 pc') (w : (Cond.constantLong own i v).before a0 Z = true) (g : G k n0 Q h cells slots pc' Ls (.long v :: St)) : G k n0 Q h cells slots pc Ls (St) := by
  obtain ⟨p, l, e, R', s, m, args, below, meth, c⟩ := k
  obtain ⟨hx, hZ, hown, rfl, rfl, rfl, rfl, hlk, rfl, hn0⟩ := K
  obtain ⟨d, rfl⟩ := d
  exact G.plain (fun T locs t X q => X.ldc2J hx hown (mvT hZ w) rfl d q) g
theorem G.dup (K : Ok k Z n0 own R bytes maxL ret nm) {x : Value} (d : Dc bytes pc .dup 1 pc') (hv : x.category = 1) (g : G k n0 Q h cells slots pc' Ls (x :: x :: St)) : G k n0 Q h cells slots pc Ls (x :: St) := by
  obtain ⟨p, l, e, R', s, m, args, below, meth, c⟩ := k
  obtain ⟨hx, hZ, hown, rfl, rfl, rfl, rfl, hlk, rfl, hn0⟩ := K
  obtain ⟨d, rfl⟩ := d
  exact G.plain (fun T locs t X q => XS.dup X.here hx rfl d rfl hv q) g
theorem G.pop (K : Ok k Z n0 own R bytes maxL ret nm) {x : Value} (d : Dc bytes pc .pop 1 pc') (hv : x.category = 1) (g : G k n0 Q h cells slots pc' Ls (St)) : G k n0 Q h cells slots pc Ls (x :: St) := by
  obtain ⟨p, l, e, R', s, m, args, below, meth, c⟩ := k
  obtain ⟨hx, hZ, hown, rfl, rfl, rfl, rfl, hlk, rfl, hn0⟩ := K
  obtain ⟨d, rfl⟩ := d
  exact G.plain (fun T locs t X q => XT.pop X.here hx rfl d rfl hv q) g
theorem G.dup_x1 (K : Ok k Z n0 own R bytes maxL ret nm) {x y : Value} (d : Dc bytes pc .dup_x1 1 pc') (hv : x.category = 1) (hv' : y.category = 1) (g : G k n0 Q h cells slots pc' Ls (x :: y :: x :: St)) : G k n0 Q h cells slots pc Ls (x :: y :: St) := by
  obtain ⟨p, l, e, R', s, m, args, below, meth, c⟩ := k
  obtain ⟨hx, hZ, hown, rfl, rfl, rfl, rfl, hlk, rfl, hn0⟩ := K
  obtain ⟨d, rfl⟩ := d
  exact G.plain (fun T locs t X q => XT.dupX1 X.here hx rfl d rfl hv hv' q) g
theorem G.dup2 (K : Ok k Z n0 own R bytes maxL ret nm) {x y : Value} (d : Dc bytes pc .dup2 1 pc') (hv : x.category = 1) (hv' : y.category = 1) (g : G k n0 Q h cells slots pc' Ls (x :: y :: x :: y :: St)) : G k n0 Q h cells slots pc Ls (x :: y :: St) := by
  obtain ⟨p, l, e, R', s, m, args, below, meth, c⟩ := k
  obtain ⟨hx, hZ, hown, rfl, rfl, rfl, rfl, hlk, rfl, hn0⟩ := K
  obtain ⟨d, rfl⟩ := d
  exact G.plain (fun T locs t X q => XT.dup2 X.here hx rfl d rfl hv hv' q) g
theorem G.dup2L (K : Ok k Z n0 own R bytes maxL ret nm) {x : Int64} (d : Dc bytes pc .dup2 1 pc') (g : G k n0 Q h cells slots pc' Ls (.long x :: .long x :: St)) : G k n0 Q h cells slots pc Ls (.long x :: St) := by
  obtain ⟨p, l, e, R', s, m, args, below, meth, c⟩ := k
  obtain ⟨hx, hZ, hown, rfl, rfl, rfl, rfl, hlk, rfl, hn0⟩ := K
  obtain ⟨d, rfl⟩ := d
  exact G.plain (fun T locs t X q => XT.dup2L X.here hx rfl d rfl q) g
theorem G.pop2L (K : Ok k Z n0 own R bytes maxL ret nm) {x : Int64} (d : Dc bytes pc .pop2 1 pc') (g : G k n0 Q h cells slots pc' Ls (St)) : G k n0 Q h cells slots pc Ls (.long x :: St) := by
  obtain ⟨p, l, e, R', s, m, args, below, meth, c⟩ := k
  obtain ⟨hx, hZ, hown, rfl, rfl, rfl, rfl, hlk, rfl, hn0⟩ := K
  obtain ⟨d, rfl⟩ := d
  exact G.plain (fun T locs t X q => by jvm_step X.here [X.here.top, hx, d, Value.category]; exact q) g
theorem G.goto (K : Ok k Z n0 own R bytes maxL ret nm) (d : Db bytes pc .goto nx tg) (g : G k n0 Q h cells slots tg Ls St) : G k n0 Q h cells slots pc Ls St := by
  obtain ⟨p, l, e, R', s, m, args, below, meth, c⟩ := k
  obtain ⟨hx, hZ, hown, rfl, rfl, rfl, rfl, hlk, rfl, hn0⟩ := K
  obtain ⟨o, d, rfl, d1, d2⟩ := d
  exact G.plain (fun T locs t X q => XS.goto X.here hx rfl rfl d d1 d2 q) g
theorem G.icmp_eq (K : Ok k Z n0 own R bytes maxL ret nm) {x y : Int32} (d : Db bytes pc (.if_icmp .eq) nx tg) (gy : x = y → G k n0 Q h cells slots tg Ls St) (gn : ¬ (x = y) → G k n0 Q h cells slots nx Ls St) : G k n0 Q h cells slots pc Ls (.int y :: .int x :: St) := by
  obtain ⟨p, l, e, R', s, m, args, below, meth, c⟩ := k
  obtain ⟨hx, hZ, hown, rfl, rfl, rfl, rfl, hlk, rfl, hn0⟩ := K
  obtain ⟨o, d, rfl, d1, d2⟩ := d
  by_cases q : x = y
  · exact G.plain (fun T locs t X z => XS.icmpYes X.here hx rfl rfl d rfl (XT.ii_eq_t q) d1 d2 z) (gy q)
  · exact G.plain (fun T locs t X z => XS.icmpNo X.here hx rfl d rfl (XT.ii_eq_f q) z) (gn q)
theorem G.if_eq (K : Ok k Z n0 own R bytes maxL ret nm) {x : Int32} (d : Db bytes pc (.ifCond .eq) nx tg) (gy : x = 0 → G k n0 Q h cells slots tg Ls St) (gn : ¬ (x = 0) → G k n0 Q h cells slots nx Ls St) : G k n0 Q h cells slots pc Ls (.int x :: St) := by
  obtain ⟨p, l, e, R', s, m, args, below, meth, c⟩ := k
  obtain ⟨hx, hZ, hown, rfl, rfl, rfl, rfl, hlk, rfl, hn0⟩ := K
  obtain ⟨o, d, rfl, d1, d2⟩ := d
  by_cases q : x = 0
  · exact G.plain (fun T locs t X z => XS.ifYes X.here hx rfl rfl d rfl (XT.i0_eq_t q) d1 d2 z) (gy q)
  · exact G.plain (fun T locs t X z => XS.ifNo X.here hx rfl d rfl (XT.i0_eq_f q) z) (gn q)
theorem G.lcmp_eq (K : Ok k Z n0 own R bytes maxL ret nm) {x y : Int64} {pd : Nat} (dl : Dc bytes pc .lcmp 1 pd) (d : Db bytes pd (.ifCond .eq) nx tg) (gy : x = y → G k n0 Q h cells slots tg Ls St) (gn : ¬ (x = y) → G k n0 Q h cells slots nx Ls St) : G k n0 Q h cells slots pc Ls (.long y :: .long x :: St) := by
  obtain ⟨p, l, e, R', s, m, args, below, meth, c⟩ := k
  obtain ⟨hx, hZ, hown, rfl, rfl, rfl, rfl, hlk, rfl, hn0⟩ := K
  obtain ⟨dl, rfl⟩ := dl
  obtain ⟨o, d, rfl, d1, d2⟩ := d
  by_cases q : x = y
  · exact G.plain (fun T locs t X z => XT.lcmp X.here hx rfl dl rfl (XS.ifYes X.here hx rfl rfl d rfl (XT.ll_eq_t q) d1 d2 z)) (gy q)
  · exact G.plain (fun T locs t X z => XT.lcmp X.here hx rfl dl rfl (XS.ifNo X.here hx rfl d rfl (XT.ll_eq_f q) z)) (gn q)
theorem G.icmp_ne (K : Ok k Z n0 own R bytes maxL ret nm) {x y : Int32} (d : Db bytes pc (.if_icmp .ne) nx tg) (gy : ¬ (x = y) → G k n0 Q h cells slots tg Ls St) (gn : x = y → G k n0 Q h cells slots nx Ls St) : G k n0 Q h cells slots pc Ls (.int y :: .int x :: St) := by
  obtain ⟨p, l, e, R', s, m, args, below, meth, c⟩ := k
  obtain ⟨hx, hZ, hown, rfl, rfl, rfl, rfl, hlk, rfl, hn0⟩ := K
  obtain ⟨o, d, rfl, d1, d2⟩ := d
  by_cases q : x = y
  · exact G.plain (fun T locs t X z => XS.icmpNo X.here hx rfl d rfl (XT.ii_ne_f q) z) (gn q)
  · exact G.plain (fun T locs t X z => XS.icmpYes X.here hx rfl rfl d rfl (XT.ii_ne_t q) d1 d2 z) (gy q)
theorem G.if_ne (K : Ok k Z n0 own R bytes maxL ret nm) {x : Int32} (d : Db bytes pc (.ifCond .ne) nx tg) (gy : ¬ (x = 0) → G k n0 Q h cells slots tg Ls St) (gn : x = 0 → G k n0 Q h cells slots nx Ls St) : G k n0 Q h cells slots pc Ls (.int x :: St) := by
  obtain ⟨p, l, e, R', s, m, args, below, meth, c⟩ := k
  obtain ⟨hx, hZ, hown, rfl, rfl, rfl, rfl, hlk, rfl, hn0⟩ := K
  obtain ⟨o, d, rfl, d1, d2⟩ := d
  by_cases q : x = 0
  · exact G.plain (fun T locs t X z => XS.ifNo X.here hx rfl d rfl (XT.i0_ne_f q) z) (gn q)
  · exact G.plain (fun T locs t X z => XS.ifYes X.here hx rfl rfl d rfl (XT.i0_ne_t q) d1 d2 z) (gy q)
theorem G.lcmp_ne (K : Ok k Z n0 own R bytes maxL ret nm) {x y : Int64} {pd : Nat} (dl : Dc bytes pc .lcmp 1 pd) (d : Db bytes pd (.ifCond .ne) nx tg) (gy : ¬ (x = y) → G k n0 Q h cells slots tg Ls St) (gn : x = y → G k n0 Q h cells slots nx Ls St) : G k n0 Q h cells slots pc Ls (.long y :: .long x :: St) := by
  obtain ⟨p, l, e, R', s, m, args, below, meth, c⟩ := k
  obtain ⟨hx, hZ, hown, rfl, rfl, rfl, rfl, hlk, rfl, hn0⟩ := K
  obtain ⟨dl, rfl⟩ := dl
  obtain ⟨o, d, rfl, d1, d2⟩ := d
  by_cases q : x = y
  · exact G.plain (fun T locs t X z => XT.lcmp X.here hx rfl dl rfl (XS.ifNo X.here hx rfl d rfl (XT.ll_ne_f q) z)) (gn q)
  · exact G.plain (fun T locs t X z => XT.lcmp X.here hx rfl dl rfl (XS.ifYes X.here hx rfl rfl d rfl (XT.ll_ne_t q) d1 d2 z)) (gy q)
theorem G.icmp_lt (K : Ok k Z n0 own R bytes maxL ret nm) {x y : Int32} (d : Db bytes pc (.if_icmp .lt) nx tg) (gy : x < y → G k n0 Q h cells slots tg Ls St) (gn : ¬ (x < y) → G k n0 Q h cells slots nx Ls St) : G k n0 Q h cells slots pc Ls (.int y :: .int x :: St) := by
  obtain ⟨p, l, e, R', s, m, args, below, meth, c⟩ := k
  obtain ⟨hx, hZ, hown, rfl, rfl, rfl, rfl, hlk, rfl, hn0⟩ := K
  obtain ⟨o, d, rfl, d1, d2⟩ := d
  by_cases q : x < y
  · exact G.plain (fun T locs t X z => XS.icmpYes X.here hx rfl rfl d rfl (XT.ii_lt_t q) d1 d2 z) (gy q)
  · exact G.plain (fun T locs t X z => XS.icmpNo X.here hx rfl d rfl (XT.ii_lt_f q) z) (gn q)
theorem G.if_lt (K : Ok k Z n0 own R bytes maxL ret nm) {x : Int32} (d : Db bytes pc (.ifCond .lt) nx tg) (gy : x < 0 → G k n0 Q h cells slots tg Ls St) (gn : ¬ (x < 0) → G k n0 Q h cells slots nx Ls St) : G k n0 Q h cells slots pc Ls (.int x :: St) := by
  obtain ⟨p, l, e, R', s, m, args, below, meth, c⟩ := k
  obtain ⟨hx, hZ, hown, rfl, rfl, rfl, rfl, hlk, rfl, hn0⟩ := K
  obtain ⟨o, d, rfl, d1, d2⟩ := d
  by_cases q : x < 0
  · exact G.plain (fun T locs t X z => XS.ifYes X.here hx rfl rfl d rfl (XT.i0_lt_t q) d1 d2 z) (gy q)
  · exact G.plain (fun T locs t X z => XS.ifNo X.here hx rfl d rfl (XT.i0_lt_f q) z) (gn q)
theorem G.lcmp_lt (K : Ok k Z n0 own R bytes maxL ret nm) {x y : Int64} {pd : Nat} (dl : Dc bytes pc .lcmp 1 pd) (d : Db bytes pd (.ifCond .lt) nx tg) (gy : x < y → G k n0 Q h cells slots tg Ls St) (gn : ¬ (x < y) → G k n0 Q h cells slots nx Ls St) : G k n0 Q h cells slots pc Ls (.long y :: .long x :: St) := by
  obtain ⟨p, l, e, R', s, m, args, below, meth, c⟩ := k
  obtain ⟨hx, hZ, hown, rfl, rfl, rfl, rfl, hlk, rfl, hn0⟩ := K
  obtain ⟨dl, rfl⟩ := dl
  obtain ⟨o, d, rfl, d1, d2⟩ := d
  by_cases q : x < y
  · exact G.plain (fun T locs t X z => XT.lcmp X.here hx rfl dl rfl (XS.ifYes X.here hx rfl rfl d rfl (XT.ll_lt_t q) d1 d2 z)) (gy q)
  · exact G.plain (fun T locs t X z => XT.lcmp X.here hx rfl dl rfl (XS.ifNo X.here hx rfl d rfl (XT.ll_lt_f q) z)) (gn q)
theorem G.icmp_ge (K : Ok k Z n0 own R bytes maxL ret nm) {x y : Int32} (d : Db bytes pc (.if_icmp .ge) nx tg) (gy : ¬ (x < y) → G k n0 Q h cells slots tg Ls St) (gn : x < y → G k n0 Q h cells slots nx Ls St) : G k n0 Q h cells slots pc Ls (.int y :: .int x :: St) := by
  obtain ⟨p, l, e, R', s, m, args, below, meth, c⟩ := k
  obtain ⟨hx, hZ, hown, rfl, rfl, rfl, rfl, hlk, rfl, hn0⟩ := K
  obtain ⟨o, d, rfl, d1, d2⟩ := d
  by_cases q : x < y
  · exact G.plain (fun T locs t X z => XS.icmpNo X.here hx rfl d rfl (XT.ii_ge_f q) z) (gn q)
  · exact G.plain (fun T locs t X z => XS.icmpYes X.here hx rfl rfl d rfl (XT.ii_ge_t q) d1 d2 z) (gy q)
theorem G.if_ge (K : Ok k Z n0 own R bytes maxL ret nm) {x : Int32} (d : Db bytes pc (.ifCond .ge) nx tg) (gy : ¬ (x < 0) → G k n0 Q h cells slots tg Ls St) (gn : x < 0 → G k n0 Q h cells slots nx Ls St) : G k n0 Q h cells slots pc Ls (.int x :: St) := by
  obtain ⟨p, l, e, R', s, m, args, below, meth, c⟩ := k
  obtain ⟨hx, hZ, hown, rfl, rfl, rfl, rfl, hlk, rfl, hn0⟩ := K
  obtain ⟨o, d, rfl, d1, d2⟩ := d
  by_cases q : x < 0
  · exact G.plain (fun T locs t X z => XS.ifNo X.here hx rfl d rfl (XT.i0_ge_f q) z) (gn q)
  · exact G.plain (fun T locs t X z => XS.ifYes X.here hx rfl rfl d rfl (XT.i0_ge_t q) d1 d2 z) (gy q)
theorem G.lcmp_ge (K : Ok k Z n0 own R bytes maxL ret nm) {x y : Int64} {pd : Nat} (dl : Dc bytes pc .lcmp 1 pd) (d : Db bytes pd (.ifCond .ge) nx tg) (gy : ¬ (x < y) → G k n0 Q h cells slots tg Ls St) (gn : x < y → G k n0 Q h cells slots nx Ls St) : G k n0 Q h cells slots pc Ls (.long y :: .long x :: St) := by
  obtain ⟨p, l, e, R', s, m, args, below, meth, c⟩ := k
  obtain ⟨hx, hZ, hown, rfl, rfl, rfl, rfl, hlk, rfl, hn0⟩ := K
  obtain ⟨dl, rfl⟩ := dl
  obtain ⟨o, d, rfl, d1, d2⟩ := d
  by_cases q : x < y
  · exact G.plain (fun T locs t X z => XT.lcmp X.here hx rfl dl rfl (XS.ifNo X.here hx rfl d rfl (XT.ll_ge_f q) z)) (gn q)
  · exact G.plain (fun T locs t X z => XT.lcmp X.here hx rfl dl rfl (XS.ifYes X.here hx rfl rfl d rfl (XT.ll_ge_t q) d1 d2 z)) (gy q)
theorem G.icmp_gt (K : Ok k Z n0 own R bytes maxL ret nm) {x y : Int32} (d : Db bytes pc (.if_icmp .gt) nx tg) (gy : y < x → G k n0 Q h cells slots tg Ls St) (gn : ¬ (y < x) → G k n0 Q h cells slots nx Ls St) : G k n0 Q h cells slots pc Ls (.int y :: .int x :: St) := by
  obtain ⟨p, l, e, R', s, m, args, below, meth, c⟩ := k
  obtain ⟨hx, hZ, hown, rfl, rfl, rfl, rfl, hlk, rfl, hn0⟩ := K
  obtain ⟨o, d, rfl, d1, d2⟩ := d
  by_cases q : y < x
  · exact G.plain (fun T locs t X z => XS.icmpYes X.here hx rfl rfl d rfl (XT.ii_gt_t q) d1 d2 z) (gy q)
  · exact G.plain (fun T locs t X z => XS.icmpNo X.here hx rfl d rfl (XT.ii_gt_f q) z) (gn q)
theorem G.if_gt (K : Ok k Z n0 own R bytes maxL ret nm) {x : Int32} (d : Db bytes pc (.ifCond .gt) nx tg) (gy : 0 < x → G k n0 Q h cells slots tg Ls St) (gn : ¬ (0 < x) → G k n0 Q h cells slots nx Ls St) : G k n0 Q h cells slots pc Ls (.int x :: St) := by
  obtain ⟨p, l, e, R', s, m, args, below, meth, c⟩ := k
  obtain ⟨hx, hZ, hown, rfl, rfl, rfl, rfl, hlk, rfl, hn0⟩ := K
  obtain ⟨o, d, rfl, d1, d2⟩ := d
  by_cases q : 0 < x
  · exact G.plain (fun T locs t X z => XS.ifYes X.here hx rfl rfl d rfl (XT.i0_gt_t q) d1 d2 z) (gy q)
  · exact G.plain (fun T locs t X z => XS.ifNo X.here hx rfl d rfl (XT.i0_gt_f q) z) (gn q)
theorem G.lcmp_gt (K : Ok k Z n0 own R bytes maxL ret nm) {x y : Int64} {pd : Nat} (dl : Dc bytes pc .lcmp 1 pd) (d : Db bytes pd (.ifCond .gt) nx tg) (gy : y < x → G k n0 Q h cells slots tg Ls St) (gn : ¬ (y < x) → G k n0 Q h cells slots nx Ls St) : G k n0 Q h cells slots pc Ls (.long y :: .long x :: St) := by
  obtain ⟨p, l, e, R', s, m, args, below, meth, c⟩ := k
  obtain ⟨hx, hZ, hown, rfl, rfl, rfl, rfl, hlk, rfl, hn0⟩ := K
  obtain ⟨dl, rfl⟩ := dl
  obtain ⟨o, d, rfl, d1, d2⟩ := d
  by_cases q : y < x
  · exact G.plain (fun T locs t X z => XT.lcmp X.here hx rfl dl rfl (XS.ifYes X.here hx rfl rfl d rfl (XT.ll_gt_t q) d1 d2 z)) (gy q)
  · exact G.plain (fun T locs t X z => XT.lcmp X.here hx rfl dl rfl (XS.ifNo X.here hx rfl d rfl (XT.ll_gt_f q) z)) (gn q)
theorem G.icmp_le (K : Ok k Z n0 own R bytes maxL ret nm) {x y : Int32} (d : Db bytes pc (.if_icmp .le) nx tg) (gy : ¬ (y < x) → G k n0 Q h cells slots tg Ls St) (gn : y < x → G k n0 Q h cells slots nx Ls St) : G k n0 Q h cells slots pc Ls (.int y :: .int x :: St) := by
  obtain ⟨p, l, e, R', s, m, args, below, meth, c⟩ := k
  obtain ⟨hx, hZ, hown, rfl, rfl, rfl, rfl, hlk, rfl, hn0⟩ := K
  obtain ⟨o, d, rfl, d1, d2⟩ := d
  by_cases q : y < x
  · exact G.plain (fun T locs t X z => XS.icmpNo X.here hx rfl d rfl (XT.ii_le_f q) z) (gn q)
  · exact G.plain (fun T locs t X z => XS.icmpYes X.here hx rfl rfl d rfl (XT.ii_le_t q) d1 d2 z) (gy q)
theorem G.if_le (K : Ok k Z n0 own R bytes maxL ret nm) {x : Int32} (d : Db bytes pc (.ifCond .le) nx tg) (gy : ¬ (0 < x) → G k n0 Q h cells slots tg Ls St) (gn : 0 < x → G k n0 Q h cells slots nx Ls St) : G k n0 Q h cells slots pc Ls (.int x :: St) := by
  obtain ⟨p, l, e, R', s, m, args, below, meth, c⟩ := k
  obtain ⟨hx, hZ, hown, rfl, rfl, rfl, rfl, hlk, rfl, hn0⟩ := K
  obtain ⟨o, d, rfl, d1, d2⟩ := d
  by_cases q : 0 < x
  · exact G.plain (fun T locs t X z => XS.ifNo X.here hx rfl d rfl (XT.i0_le_f q) z) (gn q)
  · exact G.plain (fun T locs t X z => XS.ifYes X.here hx rfl rfl d rfl (XT.i0_le_t q) d1 d2 z) (gy q)
theorem G.lcmp_le (K : Ok k Z n0 own R bytes maxL ret nm) {x y : Int64} {pd : Nat} (dl : Dc bytes pc .lcmp 1 pd) (d : Db bytes pd (.ifCond .le) nx tg) (gy : ¬ (y < x) → G k n0 Q h cells slots tg Ls St) (gn : y < x → G k n0 Q h cells slots nx Ls St) : G k n0 Q h cells slots pc Ls (.long y :: .long x :: St) := by
  obtain ⟨p, l, e, R', s, m, args, below, meth, c⟩ := k
  obtain ⟨hx, hZ, hown, rfl, rfl, rfl, rfl, hlk, rfl, hn0⟩ := K
  obtain ⟨dl, rfl⟩ := dl
  obtain ⟨o, d, rfl, d1, d2⟩ := d
  by_cases q : y < x
  · exact G.plain (fun T locs t X z => XT.lcmp X.here hx rfl dl rfl (XS.ifNo X.here hx rfl d rfl (XT.ll_le_f q) z)) (gn q)
  · exact G.plain (fun T locs t X z => XT.lcmp X.here hx rfl dl rfl (XS.ifYes X.here hx rfl rfl d rfl (XT.ll_le_t q) d1 d2 z)) (gy q)
theorem G.ifnull_ref (K : Ok k Z n0 own R bytes maxL ret nm) {a : Addr} (d : Db bytes pc .ifnull nx tg) (g : G k n0 Q h cells slots nx Ls St) : G k n0 Q h cells slots pc Ls (.ref a :: St) := by
  obtain ⟨p, l, e, R', s, m, args, below, meth, c⟩ := k
  obtain ⟨hx, hZ, hown, rfl, rfl, rfl, rfl, hlk, rfl, hn0⟩ := K
  obtain ⟨o, d, rfl, d1, d2⟩ := d
  exact G.plain (fun T locs t X q => XS.ifnullNo X.here hx rfl d rfl q) g
theorem G.ifnonnull_ref (K : Ok k Z n0 own R bytes maxL ret nm) {a : Addr} (d : Db bytes pc .ifnonnull nx tg) (g : G k n0 Q h cells slots tg Ls St) : G k n0 Q h cells slots pc Ls (.ref a :: St) := by
  obtain ⟨p, l, e, R', s, m, args, below, meth, c⟩ := k
  obtain ⟨hx, hZ, hown, rfl, rfl, rfl, rfl, hlk, rfl, hn0⟩ := K
  obtain ⟨o, d, rfl, d1, d2⟩ := d
  exact G.plain (fun T locs t X q => XT.ifnonnullYes X.here hx rfl rfl d rfl d1 d2 q) g
theorem G.acmp_ne (K : Ok k Z n0 own R bytes maxL ret nm) {x y : Value} (hx' : x.isRef = true) (hy' : y.isRef = true) (d : Db bytes pc (.if_acmp .ne) nx tg) (gy : ¬ x = y → G k n0 Q h cells slots tg Ls St) (gn : x = y → G k n0 Q h cells slots nx Ls St) : G k n0 Q h cells slots pc Ls (y :: x :: St) := by
  obtain ⟨p, l, e, R', s, m, args, below, meth, c⟩ := k
  obtain ⟨hx, hZ, hown, rfl, rfl, rfl, rfl, hlk, rfl, hn0⟩ := K
  obtain ⟨o, d, rfl, d1, d2⟩ := d
  by_cases q : x = y
  · exact G.plain (fun T locs t X z => XT.acmpNo X.here hx rfl d rfl hx' hy' (XT.aa_ne_f q) z) (gn q)
  · exact G.plain (fun T locs t X z => XT.acmpYes X.here hx rfl rfl d rfl hx' hy' (XT.aa_ne_t q) d1 d2 z) (gy q)
/-- the end -/
theorem G.leave {p : Program} {l : Launch} {e : Env} {R : Room} {s : State} {m : MethodId} {args : Array Value} {below : List Frame} {meth : Method} {c : Code} (hlk : meth.locks = false) (v : Option Value) (hv : meth.sig.returnType = none → v = none) (hq : Q v h)
    (st : ∀ T locs fs, Stand p l e R s m args below meth c T locs cells slots → (∀ (f : JFrame) (acts : List Action), f.method = m → f.locked = none → f.entered = [] → (doReturn e (T.setTop f) acts v).1 = T.setFrames fs) → Steps p.tables e below (T.setTop (mkF m pc ⟨Ls⟩ St)) (T.setFrames fs)) :
    G (p, l, e, R, s, m, args, below, meth, c) n0 Q h cells slots pc Ls St := by
  intro hc hs T locs X eT N
  obtain ⟨fs, hr, hrun, hended, hW, hsame⟩ := X.leave (v := v) hv hlk
  exact ⟨_, _, st T locs fs X hr, hrun, hended, v, locs, rfl, ⟨by show Q v T.heap; rw [eT]; exact hq, N⟩, ⟨_, rfl⟩, hW, hsame.mono hc hs⟩
theorem G.ret_int (K : Ok k Z n0 own R bytes maxL (some .int) nm) {x : Int32} (d : Dc bytes pc .ireturn 1 pc') (hq : Q (some (.int x)) h) : G k n0 Q h cells slots pc Ls (.int x :: St) := by
  obtain ⟨p, l, e, R', s, m, args, below, meth, c⟩ := k
  obtain ⟨hx, hZ, hown, rfl, rfl, rfl, hr0, hlk, rfl, hn0⟩ := K
  obtain ⟨d, rfl⟩ := d
  exact G.leave hlk (some (.int x)) (fun q => by rw [hr0] at q; cases q) hq (fun T locs fs X hr => retOut X hx hr0 rfl (Or.inl ⟨rfl, Or.inl rfl, x, rfl⟩) d hr)
theorem G.ret_bool (K : Ok k Z n0 own R bytes maxL (some .boolean) nm) {x : Int32} (d : Dc bytes pc .ireturn 1 pc') (hq : Q (some (.int (x &&& 1))) h) : G k n0 Q h cells slots pc Ls (.int x :: St) := by
  obtain ⟨p, l, e, R', s, m, args, below, meth, c⟩ := k
  obtain ⟨hx, hZ, hown, rfl, rfl, rfl, hr0, hlk, rfl, hn0⟩ := K
  obtain ⟨d, rfl⟩ := d
  exact G.leave hlk (some (.int (x &&& 1))) (fun q => by rw [hr0] at q; cases q) hq (fun T locs fs X hr => retN X hx (t := .boolean) hr0 (by simp) d hr)
theorem G.ret_long (K : Ok k Z n0 own R bytes maxL (some .long) nm) {x : Int64} (d : Dc bytes pc .lreturn 1 pc') (hq : Q (some (.long x)) h) : G k n0 Q h cells slots pc Ls (.long x :: St) := by
  obtain ⟨p, l, e, R', s, m, args, below, meth, c⟩ := k
  obtain ⟨hx, hZ, hown, rfl, rfl, rfl, hr0, hlk, rfl, hn0⟩ := K
  obtain ⟨d, rfl⟩ := d
  exact G.leave hlk (some (.long x)) (fun q => by rw [hr0] at q; cases q) hq (fun T locs fs X hr => retOut X hx hr0 rfl (Or.inr (Or.inl ⟨rfl, rfl, x, rfl⟩)) d hr)
theorem G.ret_ref {t : FieldType} (K : Ok k Z n0 own R bytes maxL (some t) nm) (ht : t.isReference = true) {x : Value} (hv : x.isRef = true) (d : Dc bytes pc .areturn 1 pc') (hq : Q (some x) h) : G k n0 Q h cells slots pc Ls (x :: St) := by
  obtain ⟨p, l, e, R', s, m, args, below, meth, c⟩ := k
  obtain ⟨hx, hZ, hown, rfl, rfl, rfl, hr0, hlk, rfl, hn0⟩ := K
  obtain ⟨d, rfl⟩ := d
  have hn : narrow t x = x := by rcases ref_cases hv with rfl | ⟨a, rfl⟩ <;> cases t <;> rfl
  exact G.leave hlk (some x) (fun q => by rw [hr0] at q; cases q) hq (fun T locs fs X hr => retOut X hx hr0 hn (Or.inr (Or.inr (Or.inr (Or.inr ⟨rfl, ht, hv⟩)))) d hr)
theorem G.ret_void (K : Ok k Z n0 own R bytes maxL none nm) (d : Dc bytes pc .return_ 1 pc') (hq : Q none h) : G k n0 Q h cells slots pc Ls [] := by
  obtain ⟨p, l, e, R', s, m, args, below, meth, c⟩ := k
  obtain ⟨hx, hZ, hown, rfl, rfl, rfl, hr0, hlk, rfl, hn0⟩ := K
  obtain ⟨d, rfl⟩ := d
  exact G.leave hlk none (fun q => rfl) hq (fun T locs fs X hr => X.returnOut hx hr0 d hr)
/-! ### what is known of the heap: one word a cell that the law has made -/
theorem nd_inj {α : Type} {L : List α} (H : L.Nodup) {i j : Nat} {x : α} (hi : L[i]? = some x) (hj : L[j]? = some x) : i = j := by
  obtain ⟨h1, e1⟩ := List.getElem?_eq_some_iff.mp hi
  obtain ⟨h2, e2⟩ := List.getElem?_eq_some_iff.mp hj
  have w := List.pairwise_iff_getElem.mp H
  rcases Nat.lt_trichotomy i j with q | q | q
  · exact absurd (e1.trans e2.symm) (w i j h1 h2 q)
  · exact q
  · exact absurd (e2.trans e1.symm) (w j i h2 h1 q)
abbrev Ch := Addr × (Cell → Prop)
def Hp (n0 : Nat) (h : Heap) (σ : List Ch) : Prop := (σ.map Prod.fst).Nodup ∧ ∀ q ∈ σ, n0 ≤ q.1 ∧ ∃ cell, h[q.1]? = some cell ∧ q.2 cell
variable {σ : List Ch} {a : Addr} {P P' : Cell → Prop} {i : Nat} {h' : Heap}
theorem Hp.nil : Hp n0 h [] := ⟨List.nodup_nil, fun _ q => nomatch q⟩
theorem Hp.at (H : Hp n0 h σ) (hi : σ[i]? = some (a, P)) : n0 ≤ a ∧ ∃ cell, h[a]? = some cell ∧ P cell := H.2 _ (List.mem_of_getElem? hi)
theorem Hp.ge (H : Hp n0 h σ) (hi : σ[i]? = some (a, P)) : n0 ≤ a := (H.at hi).1
theorem Hp.lt (H : Hp n0 h σ) (q : Ch) (hq : q ∈ σ) : q.1 < h.size := by
  obtain ⟨-, cell, h1, -⟩ := H.2 _ hq
  exact (Array.getElem?_eq_some_iff.mp h1).1
theorem Hp.ne (H : Hp n0 h σ) {j : Nat} {b : Addr} {P' : Cell → Prop} (hi : σ[i]? = some (a, P)) (hj : σ[j]? = some (b, P')) (q : i ≠ j) : a ≠ b := by
  intro e
  subst e
  exact q (nd_inj H.1 (x := a) (by simp [hi]) (by simp [hj]))
theorem Hp.ext (H : Hp n0 h σ) (E : Ext h h') : Hp n0 h' σ := ⟨H.1, fun q hq => by obtain ⟨h1, c, h2, h3⟩ := H.2 q hq; exact ⟨h1, c, E.2 _ _ h2, h3⟩⟩
theorem Hp.cons (H : Hp n0 h σ) (E : Ext h h') (hn : n0 ≤ h.size) (w : ∃ cell, h'[h.size]? = some cell ∧ P cell) : Hp n0 h' ((h.size, P) :: σ) := by
  refine ⟨?_, fun q hq => ?_⟩
  · rw [List.map_cons, List.nodup_cons]
    refine ⟨fun q => ?_, H.1⟩
    obtain ⟨x, hx, e⟩ := List.mem_map.mp q
    have := H.lt x hx
    rw [e] at this
    exact absurd this (Nat.lt_irrefl _)
  · rcases List.mem_cons.mp hq with rfl | hq
    · exact ⟨hn, w⟩
    · exact (H.ext E).2 q hq
theorem Hp.drop {x : Ch} (H : Hp n0 h (x :: σ)) : Hp n0 h σ := ⟨(List.nodup_cons.mp H.1).2, fun q hq => H.2 q (List.mem_cons_of_mem _ hq)⟩
theorem Hp.sub {σ' : List Ch} (H : Hp n0 h σ) (q : σ'.Sublist σ) : Hp n0 h σ' := ⟨List.Nodup.sublist (q.map _) H.1, fun x hx => H.2 x (q.subset hx)⟩
theorem Hp.perm {σ' : List Ch} (H : Hp n0 h σ) (q : σ'.Perm σ) : Hp n0 h σ' := ⟨(List.Perm.nodup_iff (q.map Prod.fst)).mpr H.1, fun x hx => H.2 x (q.mem_iff.mp hx)⟩
theorem perm_pull : ∀ {i : Nat} {σ : List Ch} {x : Ch}, σ[i]? = some x → (x :: σ.eraseIdx i).Perm σ
  | 0, y :: σ, x, e => by cases Option.some.inj e; exact List.Perm.refl _
  | i + 1, y :: σ, x, e => ((List.Perm.swap y x _).trans ((perm_pull (i := i) (σ := σ) e).cons y))
theorem Hp.pull (H : Hp n0 h σ) (i : Nat) {x : Ch} (hi : σ[i]? = some x) : Hp n0 h (x :: σ.eraseIdx i) := H.perm (perm_pull hi)
theorem Hp.set (H : Hp n0 h σ) (hi : σ[i]? = some (a, P)) (hs : h'.size = h.size) (ho : ∀ b, b ≠ a → h'[b]? = h[b]?) (w : ∃ cell, h'[a]? = some cell ∧ P' cell) : Hp n0 h' (σ.set i (a, P')) := by
  obtain ⟨hlt, e1⟩ := List.getElem?_eq_some_iff.mp hi
  have em : (σ.set i (a, P')).map Prod.fst = σ.map Prod.fst := by
    apply List.ext_getElem?
    intro j
    by_cases q : i = j
    · subst q; simp [hlt, e1]
    · simp [List.getElem?_set_ne q]
  refine ⟨by rw [em]; exact H.1, fun q hq => ?_⟩
  obtain ⟨j, hj, e⟩ := List.getElem_of_mem hq
  rw [List.getElem_set] at e
  rw [List.length_set] at hj
  by_cases z : i = j
  · rw [if_pos z] at e; subst e; exact ⟨H.ge hi, w⟩
  · rw [if_neg z] at e
    have hj' : σ[j]? = some (q.1, q.2) := by rw [List.getElem?_eq_getElem hj, e]
    have hne : q.1 ≠ a := H.ne hj' hi (Ne.symm z)
    obtain ⟨h1, c, h2, h3⟩ := H.at hj'
    exact ⟨h1, c, by rw [ho _ hne]; exact h2, h3⟩
theorem Hp.wr {sl : Nat} {v : Value} (H : Hp n0 h σ) (hi : σ[i]? = some (a, P)) (W : Wr h h' a sl v) (hP : ∀ cell, P cell → P' (cell.setSlot sl v)) : Hp n0 h' (σ.set i (a, P')) := by
  obtain ⟨cell, h1, h2, h3, rfl⟩ := W
  obtain ⟨-, c', h4, h5⟩ := H.at hi
  cases h1.symm.trans h4
  refine H.set hi (by simp) (fun b hb => Array.getElem?_setIfInBounds_ne (Ne.symm hb)) ⟨_, Array.getElem?_setIfInBounds_self_of_lt (Array.getElem?_eq_some_iff.mp h1).1, hP _ h5⟩
theorem Hp.imp (H : Hp n0 h σ) (hi : σ[i]? = some (a, P)) (hP : ∀ cell, P cell → P' cell) : Hp n0 h (σ.set i (a, P')) := by
  obtain ⟨-, c, h1, h2⟩ := H.at hi
  exact H.set hi rfl (fun _ _ => rfl) ⟨c, h1, hP c h2⟩
/-- an object, its class, the fields that are spoken of and what they hold -/
def Ob (Z : State) (C : String) (NS : List (String × String × String)) (vs : List Value) (cell : Cell) : Prop :=
  (∃ k, Z.vm.findClass C = some cell.cls ∧ Z.vm.classes[cell.cls]? = some k ∧ cell.vm.isStatics = false ∧ (k.kind = .ordinary → cell.slots.size = k.instanceTypes.size)) ∧
  ∀ (j : Nat) (f : String × String × String) (v : Value), NS[j]? = some f → vs[j]? = some v → ∃ (cf : ClassId) (k : Class) (i : Nat) (fd : Field), Z.fieldFound? f.1 f.2.1 f.2.2 = some (cf, k, i, fd) ∧ fd.isStatic = false ∧ cell.vm ≠ .unknown ∧ Z.vm.assignable cell.cls cf = true ∧ cell.slots[fd.slot]? = some v
/-- what the sheet says of a class's fields -/
def Cf (Z : State) (a0 : Array Value) (C : String) (NS : List (String × String × String)) : Prop := (∀ f ∈ NS, Laid Z a0 C f.1 f.2.1 f.2.2) ∧ (NS.map fun f => f.2.1).Nodup ∧ ∀ f ∈ NS, ∃ t, parseFieldDescriptor f.2.2 = some t
variable {C O n ds : String} {NS : List (String × String × String)} {vs : List Value} {j : Nat} {v w : Value}
theorem Hp.exa (H : Hp n0 h σ) (hi : σ[i]? = some (a, Ob Z C NS vs)) : Exa Z h a C := by
  obtain ⟨-, cell, h1, ⟨k, h2, h3, h4, h5⟩, -⟩ := H.at hi
  exact ⟨cell, k, h1, h2, h3, h4, h5⟩
theorem Hp.fld (H : Hp n0 h σ) (hi : σ[i]? = some (a, Ob Z C NS vs)) (hj : NS[j]? = some (O, n, ds)) (hv : vs[j]? = some v) : Fld Z h a O n ds v := by
  obtain ⟨-, cell, h1, ⟨k, h2, h3, h4, h5⟩, h6⟩ := H.at hi
  obtain ⟨cf, k, i, fd, q1, q2, q3, q4, q5⟩ := h6 j _ _ hj hv
  exact ⟨cell, cf, k, i, fd, h1, q1, q2, q3, h4, q4, q5⟩
theorem Ob.set (F : Cf Z a0 C NS) (hj : NS[j]? = some (O, n, ds)) (hv : vs[j]? = some v) (w : Value) {cell : Cell} (B : Ob Z C NS vs cell) : Ob Z C NS (vs.set j w) (cell.setSlot (RoadKit.slotOf Z O n ds) w) := by
  obtain ⟨⟨k, h2, h3, h4, h5⟩, h6⟩ := B
  refine ⟨⟨k, h2, h3, h4, fun q => by rw [sz_set]; exact h5 q⟩, fun j' f v' hf hv' => ?_⟩
  obtain ⟨cf, kk, ii, fd, q1, q2, q3, q4, q5⟩ := h6 j _ _ hj hv
  have es : RoadKit.slotOf Z O n ds = fd.slot := by simp [RoadKit.slotOf, q1]
  by_cases z : j = j'
  · subst z
    cases hj.symm.trans hf
    have hl := (List.getElem?_eq_some_iff.mp hv).1
    rw [List.getElem?_set_self hl] at hv'
    cases hv'
    refine ⟨cf, kk, ii, fd, q1, q2, q3, q4, ?_⟩
    rw [es]
    exact Array.getElem?_setIfInBounds_self_of_lt (Array.getElem?_eq_some_iff.mp q5).1
  · rw [List.getElem?_set_ne z] at hv'
    obtain ⟨cf', kk', ii', fd', r1, r2, r3, r4, r5⟩ := h6 j' _ _ hf hv'
    refine ⟨cf', kk', ii', fd', r1, r2, r3, r4, ?_⟩
    have es' : RoadKit.slotOf Z f.1 f.2.1 f.2.2 = fd'.slot := by simp [RoadKit.slotOf, r1]
    have m1 := List.mem_of_getElem? hj
    have m2 := List.mem_of_getElem? hf
    have hne : n ≠ f.2.1 := by
      intro e
      exact z (nd_inj F.2.1 (x := n) (by simp [hj]) (by simp [hf, e]))
    obtain ⟨t1, p1⟩ := F.2.2 _ m1
    obtain ⟨t2, p2⟩ := F.2.2 _ m2
    have := RoadKit.slot_ne (F.1 _ m1) (F.1 _ m2) hne p1 p2
    rw [es'] at this
    show (Array.setIfInBounds _ _ _)[_]? = _
    rw [Array.getElem?_setIfInBounds_ne this]
    exact r5
theorem G.getF (K : Ok k Z n0 own R bytes maxL ret nm) {idx : Nat} {host : String} (w : (Cond.fieldLink own idx O n ds).before a0 Z = true ∨ (Cond.fieldLinkNest own idx O n ds host).before a0 Z = true) (H : Hp n0 h σ) (hi : σ[i]? = some (a, Ob Z C NS vs)) (hj : NS[j]? = some (O, n, ds)) (hv : vs[j]? = some v)
    (d : Dc bytes pc (.getfield idx) 3 pc') (g : G k n0 Q h cells slots pc' Ls (v :: St)) : G k n0 Q h cells slots pc Ls (.ref a :: St) := by
  obtain ⟨p, l, e, R', s, m, args, below, meth, c⟩ := k
  obtain ⟨hx, hZ, hown, rfl, rfl, rfl, rfl, hlk, rfl, hn0⟩ := K
  obtain ⟨d, rfl⟩ := d
  exact G.moved (fun T locs X eT => RoadKit.getF X hx hZ hown w Via.refl eT (H.fld hi hj hv) (g := mkF m pc ⟨Ls⟩ (.ref a :: St)) rfl rfl d) g
theorem G.putF (K : Ok k Z n0 own R bytes maxL ret nm) {idx kk : Nat} {host : String} {ty : FieldType} (w : (Cond.fieldLink own idx O n ds).before a0 Z = true ∨ (Cond.fieldLinkNest own idx O n ds host).before a0 Z = true) (F : Cf Z a0 C NS) (wl : (Cond.lays C O n ds).before a0 Z = true ∨ ((Cond.laysFinal C O n ds).before a0 Z = true ∧ own = O ∧ nm = "<init>")) (wi : (Cond.instantiable C kk).before a0 Z = true)
    (H : Hp n0 h σ) (hi : σ[i]? = some (a, Ob Z C NS vs)) (hj : NS[j]? = some (O, n, ds)) {old : Value} (hv : vs[j]? = some old) (hty : parseFieldDescriptor ds = some ty) (hn : narrow ty v = v) (hf : fits ty v = true)
    (d : Dc bytes pc (.putfield idx) 3 pc') (g : ∀ h', Hp n0 h' (σ.set i (a, Ob Z C NS (vs.set j v))) → G k n0 Q h' cells slots pc' Ls St) : G k n0 Q h cells slots pc Ls (v :: .ref a :: St) := by
  obtain ⟨p, l, e, R', s, m, args, below, meth, c⟩ := k
  obtain ⟨hx, hZ, hown, rfl, rfl, rfl, rfl, hlk, rfl, hn0⟩ := K
  obtain ⟨d, rfl⟩ := d
  intro hc hs T locs X eT N
  obtain ⟨T', h', X', eT', W, st⟩ := RoadKit.putF X hx hZ hown w Via.refl eT (H.fld hi hj hv) (H.exa hi) wl wi hty hn hf (g := mkF m pc ⟨Ls⟩ (v :: .ref a :: St)) rfl rfl d
  obtain ⟨s₂, o, h1, r⟩ := g h' (H.wr hi W fun cell B => Ob.set F hj hv v B) hc hs T' _ X' eT' (Fr.snoc X' N (H.ge hi))
  exact ⟨s₂, o, st s₂ h1, r⟩
theorem G.putFN (K : Ok k Z n0 own R bytes maxL ret nm) {idx kk : Nat} {ty : FieldType} (w : (Cond.fieldLink own idx O n ds).before a0 Z = true) (F : Cf Z a0 C NS) (wl : (Cond.lays C O n ds).before a0 Z = true ∨ ((Cond.laysFinal C O n ds).before a0 Z = true ∧ own = O ∧ nm = "<init>")) (wi : (Cond.instantiable C kk).before a0 Z = true)
    (H : Hp n0 h σ) (hi : σ[i]? = some (a, Ob Z C NS vs)) (hj : NS[j]? = some (O, n, ds)) {old v' : Value} (hv : vs[j]? = some old) (hty : parseFieldDescriptor ds = some ty) (hn : narrow ty v = v') (hf : fits ty v' = true)
    (d : Dc bytes pc (.putfield idx) 3 pc') (g : ∀ h', Hp n0 h' (σ.set i (a, Ob Z C NS (vs.set j v'))) → G k n0 Q h' cells slots pc' Ls St) : G k n0 Q h cells slots pc Ls (v :: .ref a :: St) := by
  obtain ⟨p, l, e, R', s, m, args, below, meth, c⟩ := k
  obtain ⟨hx, hZ, hown, rfl, rfl, rfl, rfl, hlk, rfl, hn0⟩ := K
  obtain ⟨d, rfl⟩ := d
  intro hc hs T locs X eT N
  obtain ⟨T', h', X', eT', W, st⟩ := RoadKit.putFN X hx hZ hown w Via.refl eT (H.fld hi hj hv) (H.exa hi) wl wi hty hn hf (g := mkF m pc ⟨Ls⟩ (v :: .ref a :: St)) rfl rfl d
  obtain ⟨s₂, o, h1, r⟩ := g h' (H.wr hi W fun cell B => Ob.set F hj hv v' B) hc hs T' _ X' eT' (Fr.snoc X' N (H.ge hi))
  exact ⟨s₂, o, st s₂ h1, r⟩
theorem size_ok {p : Program} {l : Launch} {e : Env} {R : Room} {s : State} {m : MethodId} {args : Array Value} {below : List Frame} {meth : Method} {c : Code} {T : State} {locs : List Loc} (X : Stand p l e R s m args below meth c T locs cells slots) (eT : T.heap = h) (hn : n0 ≤ s.heap.size) : n0 ≤ h.size := by
  have := X.same.2.1
  subst eT
  exact Nat.le_trans hn this
theorem G.new (K : Ok k Z n0 own R bytes maxL ret nm) {idx kk : Nat} (w : (Cond.classLink own idx C).before a0 Z = true) (wi : (Cond.instantiable C kk).before a0 Z = true) (wz : (Cond.initialized C).before a0 Z = true) (F : Cf Z a0 C NS)
    (hd : NS.map (fun f => (parseFieldDescriptor f.2.2).map defaultValue) = vs.map some) (H : Hp n0 h σ) (hc : cells + 1 ≤ R.cells) (hl : slots + kk ≤ R.slots) (d : Dc bytes pc (.new idx) 3 pc')
    (g : ∀ a h', Hp n0 h' ((a, Ob Z C NS vs) :: σ) → G k n0 Q h' (cells + 1) (slots + kk) pc' Ls (.ref a :: St)) : G k n0 Q h cells slots pc Ls St := by
  obtain ⟨p, l, e, R', s, m, args, below, meth, c⟩ := k
  obtain ⟨hx, hZ, hown, rfl, rfl, rfl, rfl, hlk, rfl, hn0⟩ := K
  obtain ⟨d, rfl⟩ := d
  intro _ _ T locs X eT N
  obtain ⟨T', h', X', eT', E, A, D, ⟨cell, hc1, hc2, -⟩, st⟩ := RoadKit.newO X hx hZ hown w wi wz eT (g := mkF m pc ⟨Ls⟩ St) rfl d hc hl
  have B : Ob Z C NS vs cell := by
    obtain ⟨c', k, q1, q2, q3, q4, q5⟩ := A
    cases hc1.symm.trans q1
    refine ⟨⟨k, q2, q3, q4, q5⟩, fun j f v hf hv => ?_⟩
    have e1 : (NS.map (fun f => (parseFieldDescriptor f.2.2).map defaultValue))[j]? = some ((parseFieldDescriptor f.2.2).map defaultValue) := by simp [hf]
    rw [hd] at e1
    simp only [List.getElem?_map, hv, Option.map_some, Option.some.injEq] at e1
    obtain ⟨t, ht⟩ := F.2.2 _ (List.mem_of_getElem? hf)
    rw [ht, Option.map_some, Option.some.injEq] at e1
    obtain ⟨c'', cf, k', i', fd, r1, r2, r3, r4, r5, r6, r7⟩ := D (F.1 _ (List.mem_of_getElem? hf)) ht
    cases hc1.symm.trans r1
    exact ⟨cf, k', i', fd, r2, r3, r4, r6, by rw [e1]; exact r7⟩
  obtain ⟨s₂, o, h1, r⟩ := g h.size h' (H.cons E (size_ok X eT hn0) ⟨cell, hc1, B⟩) hc hl T' _ X' eT' N
  exact ⟨s₂, o, st s₂ h1, r⟩
/-! ### arrays -/
def Aa (Z : State) (ty : FieldType) (vs : List Value) (cell : Cell) : Prop := Z.isArrayOf cell ty ∧ cell.vm ≠ .unknown ∧ cell.slots = vs.toArray ∧ vs.length < 2 ^ 31
abbrev Ia (Z : State) (xs : List Int32) : Cell → Prop := Aa Z .int (xs.map Value.int)
abbrev La (Z : State) (xs : List Int64) : Cell → Prop := Aa Z .long (xs.map Value.long)
variable {ty : FieldType} {xs : List Int32} {ys : List Int64} {x z : Int32} {y : Int64}
theorem inb (hn : ¬ z < 0) (hv : vs[z.toNatClampNeg]? = some v) {cell : Cell} (e : cell.slots = vs.toArray) : ¬ (z < 0 ∨ cell.slots.size ≤ z.toNatClampNeg) := by
  intro q
  have := (List.getElem?_eq_some_iff.mp hv).1
  rcases q with q | q
  · exact hn q
  · rw [e] at q; simp at q; omega
theorem G.alen (K : Ok k Z n0 own R bytes maxL ret nm) (H : Hp n0 h σ) (hi : σ[i]? = some (a, Aa Z ty vs)) (d : Dc bytes pc .arraylength 1 pc') (z : Int32) (hz : Int32.ofNat vs.length = z) (g : G k n0 Q h cells slots pc' Ls (.int z :: St)) : G k n0 Q h cells slots pc Ls (.ref a :: St) := by
  obtain ⟨p, l, e, R', s, m, args, below, meth, c⟩ := k
  obtain ⟨hx, hZ, hown, rfl, rfl, rfl, rfl, hlk, rfl, hn0⟩ := K
  obtain ⟨d, rfl⟩ := d
  obtain ⟨-, cell, h1, h2, h3, h4, h5⟩ := H.at hi
  refine G.moved (fun T locs X eT => ⟨T, X, eT, fun t q => ?_⟩) g
  refine X.arraylength hx (by rw [eT]; exact h1) (State.isArrayOf_alike hZ.alike h2) (g := mkF m pc ⟨Ls⟩ (.ref a :: St)) rfl rfl d t ?_
  have : cell.slots.size.toInt32 = z := by rw [h4, ← hz]; simp [Nat.toInt32]
  rw [this]; exact q
theorem G.aload_i (K : Ok k Z n0 own R bytes maxL ret nm) (H : Hp n0 h σ) (hi : σ[i]? = some (a, Ia Z xs)) (hn : ¬ z < 0) (hv : xs[z.toNatClampNeg]? = some x) (d : Dc bytes pc .iaload 1 pc') (g : G k n0 Q h cells slots pc' Ls (.int x :: St)) : G k n0 Q h cells slots pc Ls (.int z :: .ref a :: St) := by
  obtain ⟨p, l, e, R', s, m, args, below, meth, c⟩ := k
  obtain ⟨hx, hZ, hown, rfl, rfl, rfl, rfl, hlk, rfl, hn0⟩ := K
  obtain ⟨d, rfl⟩ := d
  obtain ⟨-, cell, h1, h2, h3, h4, h5⟩ := H.at hi
  have hv' : (xs.map Value.int)[z.toNatClampNeg]? = some (.int x) := by simp [hv]
  exact G.moved (fun T locs X eT => ⟨T, X, eT, fun t q => X.iaload hx (by rw [eT]; exact h1) (State.isArrayOf_alike hZ.alike h2) h3 (inb hn hv' h4) (v := .int x) (by rw [h4]; simpa using hv') (g := mkF m pc ⟨Ls⟩ (.int z :: .ref a :: St)) rfl rfl d t q⟩) g
theorem G.aload_l (K : Ok k Z n0 own R bytes maxL ret nm) (H : Hp n0 h σ) (hi : σ[i]? = some (a, La Z ys)) (hn : ¬ z < 0) (hv : ys[z.toNatClampNeg]? = some y) (d : Dc bytes pc .laload 1 pc') (g : G k n0 Q h cells slots pc' Ls (.long y :: St)) : G k n0 Q h cells slots pc Ls (.int z :: .ref a :: St) := by
  obtain ⟨p, l, e, R', s, m, args, below, meth, c⟩ := k
  obtain ⟨hx, hZ, hown, rfl, rfl, rfl, rfl, hlk, rfl, hn0⟩ := K
  obtain ⟨d, rfl⟩ := d
  obtain ⟨-, cell, h1, h2, h3, h4, h5⟩ := H.at hi
  have hv' : (ys.map Value.long)[z.toNatClampNeg]? = some (.long y) := by simp [hv]
  exact G.moved (fun T locs X eT => ⟨T, X, eT, fun t q => X.laload hx (by rw [eT]; exact h1) (State.isArrayOf_alike hZ.alike h2) h3 (inb hn hv' h4) (v := .long y) (by rw [h4]; simpa using hv') (g := mkF m pc ⟨Ls⟩ (.int z :: .ref a :: St)) rfl rfl d t q⟩) g
theorem Aa.set {i : Nat} {v : Value} {cell : Cell} (A : Aa Z ty vs cell) : Aa Z ty (vs.set i v) (cell.setSlot i v) := by
  obtain ⟨h2, h3, h4, h5⟩ := A
  exact ⟨h2, h3, by simp [Cell.setSlot, h4], by simpa using h5⟩
theorem G.astore_i (K : Ok k Z n0 own R bytes maxL ret nm) (H : Hp n0 h σ) (hi : σ[i]? = some (a, Ia Z xs)) (hn : ¬ z < 0) (hv : z.toNatClampNeg < xs.length) (d : Dc bytes pc .iastore 1 pc') (g : ∀ h', Hp n0 h' (σ.set i (a, Ia Z (xs.set z.toNatClampNeg x))) → G k n0 Q h' cells slots pc' Ls St) : G k n0 Q h cells slots pc Ls (.int x :: .int z :: .ref a :: St) := by
  obtain ⟨p, l, e, R', s, m, args, below, meth, c⟩ := k
  obtain ⟨hx, hZ, hown, rfl, rfl, rfl, rfl, hlk, rfl, hn0⟩ := K
  obtain ⟨d, rfl⟩ := d
  obtain ⟨ge, cell, h1, h2, h3, h4, h5⟩ := H.at hi
  have hv' : (xs.map Value.int)[z.toNatClampNeg]? = some (.int xs[z.toNatClampNeg]) := by simp [hv]
  intro hc hs T locs X eT N
  obtain ⟨T', h', X', eT', W, st⟩ := RoadKit.stI X hx hZ eT ⟨h1, h2, h3⟩ (inb hn hv' h4) (g := mkF m pc ⟨Ls⟩ (.int x :: .int z :: .ref a :: St)) rfl rfl d
  have H' : Hp n0 h' (σ.set i (a, Ia Z (xs.set z.toNatClampNeg x))) := H.wr hi W fun cell B => by
    have := Aa.set (i := z.toNatClampNeg) (v := .int x) B
    rw [← List.map_set] at this; exact this
  obtain ⟨s₂, o, q1, r⟩ := g h' H' hc hs T' _ X' eT' (Fr.snoc X' N ge)
  exact ⟨s₂, o, st s₂ q1, r⟩
theorem G.astore_l (K : Ok k Z n0 own R bytes maxL ret nm) (H : Hp n0 h σ) (hi : σ[i]? = some (a, La Z ys)) (hn : ¬ z < 0) (hv : z.toNatClampNeg < ys.length) (d : Dc bytes pc .lastore 1 pc') (g : ∀ h', Hp n0 h' (σ.set i (a, La Z (ys.set z.toNatClampNeg y))) → G k n0 Q h' cells slots pc' Ls St) : G k n0 Q h cells slots pc Ls (.long y :: .int z :: .ref a :: St) := by
  obtain ⟨p, l, e, R', s, m, args, below, meth, c⟩ := k
  obtain ⟨hx, hZ, hown, rfl, rfl, rfl, rfl, hlk, rfl, hn0⟩ := K
  obtain ⟨d, rfl⟩ := d
  obtain ⟨ge, cell, h1, h2, h3, h4, h5⟩ := H.at hi
  have hv' : (ys.map Value.long)[z.toNatClampNeg]? = some (.long ys[z.toNatClampNeg]) := by simp [hv]
  intro hc hs T locs X eT N
  obtain ⟨T', h', X', eT', W, st⟩ := RoadKit.stJ X hx hZ eT ⟨h1, h2, h3⟩ (inb hn hv' h4) (g := mkF m pc ⟨Ls⟩ (.long y :: .int z :: .ref a :: St)) rfl rfl d
  have H' : Hp n0 h' (σ.set i (a, La Z (ys.set z.toNatClampNeg y))) := H.wr hi W fun cell B => by
    have := Aa.set (i := z.toNatClampNeg) (v := .long y) B
    rw [← List.map_set] at this; exact this
  obtain ⟨s₂, o, q1, r⟩ := g h' H' hc hs T' _ X' eT' (Fr.snoc X' N ge)
  exact ⟨s₂, o, st s₂ q1, r⟩
theorem G.newarr (K : Ok k Z n0 own R bytes maxL ret nm) {aty : ArrayType} (w : (Cond.arrayClass (newarray.typeOf aty)).before a0 Z = true) (H : Hp n0 h σ) (hn : ¬ z < 0) (cap : Nat) (hcap : z.toNatClampNeg ≤ cap) (hb : cap * 8 ≤ 536870912) (hc : cells + 1 ≤ R.cells) (hl : slots + cap ≤ R.slots) (d : Dc bytes pc (.newarray aty) 2 pc')
    (g : ∀ a h', Hp n0 h' ((a, Aa Z (newarray.typeOf aty) (List.replicate z.toNatClampNeg (defaultValue (newarray.typeOf aty)))) :: σ) → G k n0 Q h' (cells + 1) (slots + cap) pc' Ls (.ref a :: St)) : G k n0 Q h cells slots pc Ls (.int z :: St) := by
  obtain ⟨p, l, e, R', s, m, args, below, meth, c⟩ := k
  obtain ⟨hx, hZ, hown, rfl, rfl, rfl, rfl, hlk, rfl, hn0⟩ := K
  obtain ⟨d, rfl⟩ := d
  intro _ _ T locs X eT N
  obtain ⟨T', h', cA, X', eT', E, A, st⟩ := RoadKit.newP X hx hZ w eT (g := mkF m pc ⟨Ls⟩ (.int z :: St)) rfl d rfl hn hcap hb hc hl
  have B : Aa Z (newarray.typeOf aty) (List.replicate z.toNatClampNeg (defaultValue (newarray.typeOf aty))) (newA cA (newarray.typeOf aty) z) :=
    ⟨A.2.1, A.2.2, by simp [newA], by rw [List.length_replicate]; exact (back32 hn).2⟩
  obtain ⟨s₂, o, h1, r⟩ := g h.size h' (H.cons E (size_ok X eT hn0) ⟨_, A.1, B⟩) hc hl T' _ X' eT' N
  exact ⟨s₂, o, st s₂ h1, r⟩
theorem G.newarr_i (K : Ok k Z n0 own R bytes maxL ret nm) (w : (Cond.arrayClass .int).before a0 Z = true) (H : Hp n0 h σ) (hn : ¬ z < 0) (cap : Nat) (hcap : z.toNatClampNeg ≤ cap) (hb : cap * 8 ≤ 536870912) (hc : cells + 1 ≤ R.cells) (hl : slots + cap ≤ R.slots) (d : Dc bytes pc (.newarray .int) 2 pc')
    (g : ∀ a h', Hp n0 h' ((a, Ia Z (List.replicate z.toNatClampNeg 0)) :: σ) → G k n0 Q h' (cells + 1) (slots + cap) pc' Ls (.ref a :: St)) : G k n0 Q h cells slots pc Ls (.int z :: St) :=
  G.newarr K (aty := .int) w H hn cap hcap hb hc hl d fun a h' H' => g a h' (by show Hp n0 h' ((a, Aa Z .int ((List.replicate z.toNatClampNeg (0 : Int32)).map Value.int)) :: σ); rw [List.map_replicate]; exact H')
theorem G.newarr_l (K : Ok k Z n0 own R bytes maxL ret nm) (w : (Cond.arrayClass .long).before a0 Z = true) (H : Hp n0 h σ) (hn : ¬ z < 0) (cap : Nat) (hcap : z.toNatClampNeg ≤ cap) (hb : cap * 8 ≤ 536870912) (hc : cells + 1 ≤ R.cells) (hl : slots + cap ≤ R.slots) (d : Dc bytes pc (.newarray .long) 2 pc')
    (g : ∀ a h', Hp n0 h' ((a, La Z (List.replicate z.toNatClampNeg 0)) :: σ) → G k n0 Q h' (cells + 1) (slots + cap) pc' Ls (.ref a :: St)) : G k n0 Q h cells slots pc Ls (.int z :: St) :=
  G.newarr K (aty := .long) w H hn cap hcap hb hc hl d fun a h' H' => g a h' (by show Hp n0 h' ((a, Aa Z .long ((List.replicate z.toNatClampNeg (0 : Int64)).map Value.long)) :: σ); rw [List.map_replicate]; exact H')
/-! ### calls -/
/-- a body's contract: called on these arguments at this heap it returns, and Q holds -/
def Ct (l : Launch) (Z : State) (n0 : Nat) (yy : MethodName) (bytes : ByteArray) (maxL : Nat) (ret : Option FieldType) (rm : Room) (as : List Value) (h : Heap) (Q : Option Value → Heap → Prop) : Prop :=
  n0 ≤ h.size → ∀ ws, MetFree l yy (head1 (Cond.code yy bytes maxL ret :: ws) rm) (fun a U => a = as.toArray ∧ Z.Warmed39 U.vm ∧ U.heap = h) (fun _ _ _ _ _ => True)
    (fun _ U o U' => ∃ v L, o = .returned v ∧ (Q v U'.heap ∧ Fr n0 L) ∧ FrameEnd U o U' L rm.cells rm.slots)
variable {l : Launch} {yy : MethodName} {rm : Room} {as : List Value}
theorem Ct.post {Q' : Option Value → Heap → Prop} (c : Ct l Z n0 yy bytes maxL ret rm as h Q) (q : ∀ v h', Q v h' → Q' v h') : Ct l Z n0 yy bytes maxL ret rm as h Q' := by
  intro hn ws p e a1 a2 a3 s m args below a4 a5 a6 a7
  obtain ⟨n, o, h1, h2, h3, v, L, h4, ⟨h5, h6⟩, h7⟩ := c hn ws p e a1 a2 a3 s m args below a4 a5 a6 a7
  exact ⟨n, o, h1, h2, h3, v, L, h4, ⟨q _ _ h5, h6⟩, h7⟩
theorem Ct.intro (hp : plainFor yy = true) (Ls : List Slot) (hE : ∀ m, entryFrame m as.toArray maxL = mkF m 0 ⟨Ls⟩ [])
    (body : ∀ k : Cx, k.2.1 = l → Ok k Z n0 yy.cls rm bytes maxL ret yy.name → G k n0 Q h 0 0 0 Ls []) : Ct l Z n0 yy bytes maxL ret rm as h Q := by
  intro hn0 ws
  refine MetFree.of_bodySF hp hisR ?_
  intro p e s m args below meth c s₁ Bd hml0 hP hK
  obtain ⟨rfl, hZ, hh⟩ := hP
  have X0 : Stand p l e rm s m as.toArray below meth c s₁ [] 0 0 := Stand.of_body Bd
  have e0 : s₁.heap = h := by rw [← hh, Bd.state]; rfl
  have g := body (p, l, e, rm, s, m, as.toArray, below, meth, c) rfl ⟨Bd.exec, hZ, findClass_of_methodNamed Bd.named, rfl, Bd.bytes, hml0, Bd.returns, Bd.notSynchronized, (name_of_methodNamed Bd.named Bd.method).1, by show n0 ≤ s.heap.size; rw [hh]; exact hn0⟩ (Nat.zero_le _) (Nat.zero_le _) s₁ [] X0 e0 (Fr.nil n0)
  obtain ⟨s₂, o, h1, r⟩ := g
  exact ⟨s₂, o, castTop (hE m) h1, r⟩
theorem G.callS (K : Ok k Z n0 own R bytes maxL ret nm) (hl : k.2.1 = l) {idx : Nat} {by' : ByteArray} {ml : Nat} {rt : Option FieldType} {ps : List FieldType} {Q' : Option Value → Heap → Prop}
    (w1 : (Cond.methodLink own idx yy).before a0 Z = true) (w2 : (Cond.static yy).before a0 Z = true) (w3 : (Cond.initialized yy.cls).before a0 Z = true) (w4 : (Cond.code yy by' ml rt).before a0 Z = true)
    (hy : yy.cls ≠ "java/lang/invoke/MethodHandle" ∧ yy.cls ≠ "java/lang/invoke/VarHandle") (pd : parseMethodDescriptor yy.desc = some ⟨ps, rt⟩) (c : Ct l Z n0 yy by' ml rt rm as h Q') (W : Nat) (hW : (St.map fun v => v.category).sum = W)
    (hfr : rm.frames + 1 ≤ R.frames) (hlo : W + (ml + 11) + rm.locals ≤ R.locals) (hce : cells + rm.cells ≤ R.cells) (hsl : slots + rm.slots ≤ R.slots) (hps : as.length = ps.length) (hsz : Ls.length = maxL) (ar : List Value) (har : as.reverse = ar) (d : Dc bytes pc (.invokestatic idx) 3 pc')
    (g : ∀ v h', Q' v h' → G k n0 Q h' (cells + rm.cells) (slots + rm.slots) pc' Ls (v.toList ++ St)) : G k n0 Q h cells slots pc Ls (ar ++ St) := by
  obtain ⟨p, l, e, R', s, m, args, below, meth, c⟩ := k
  obtain ⟨hx, hZ, hown, rfl, rfl, rfl, rfl, hlk, rfl, hn0⟩ := K
  obtain ⟨d, rfl⟩ := d
  subst hl
  subst har
  intro _ _ T locs X eT N
  have hn1 : n0 ≤ h.size := size_ok X eT hn0
  obtain ⟨v, _, ⟨T', L', k', n'⟩, -, X', ⟨Lc, ⟨hQ, hF⟩, e1, e2, e3⟩, st⟩ := Jvm.LawKit.callS X hx (y := yy) hown (mvT hZ w1) (mvT hZ w2) (mvT hZ w3) (mvT hZ w4) hy (backOf (W := W) (Q := fun v h' L => Q' v h' ∧ Fr n0 L) (c hn1 []) hZ w4 w3 hfr hlo) (g := mkF m pc ⟨Ls⟩ (as.reverse ++ St)) rfl (by simpa using hsz) (argsL := as) (rest := St) (lenOf pd hps) rfl (by show 2 * 0 + _ ≤ _; omega) d (fun _ _ => ⟨rfl, eT, hce, hsl⟩)
  dsimp only [Pt.U, Pt.locs, Pt.cells, Pt.slots] at X' e1 e2 e3 st hQ
  subst e1 e2 e3
  obtain ⟨s₂, o, h1, r⟩ := g v T'.heap hQ hce hsl T' _ X' rfl (Fr.app N hF)
  exact ⟨s₂, o, st _ h1, r⟩
theorem G.callI (K : Ok k Z n0 own R bytes maxL ret nm) (hl : k.2.1 = l) {idx : Nat} {by' : ByteArray} {ml : Nat} {ps : List FieldType} {Q' : Option Value → Heap → Prop} (hi : yy.name = "<init>")
    (w1 : (Cond.methodLink own idx yy).before a0 Z = true) (w2 : (Cond.instanceMethod yy).before a0 Z = true) (w3 : (Cond.initialized yy.cls).before a0 Z = true) (w4 : (Cond.code yy by' ml none).before a0 Z = true)
    (hy : yy.cls ≠ "java/lang/invoke/MethodHandle" ∧ yy.cls ≠ "java/lang/invoke/VarHandle") (pd : parseMethodDescriptor yy.desc = some ⟨ps, none⟩) {a : Addr} (c : Ct l Z n0 yy by' ml none rm (.ref a :: as) h Q') (W : Nat) (hW : (St.map fun v => v.category).sum = W)
    (hfr : rm.frames + 1 ≤ R.frames) (hlo : W + (ml + 11) + rm.locals ≤ R.locals) (hce : cells + rm.cells ≤ R.cells) (hsl : slots + rm.slots ≤ R.slots) (hps : as.length = ps.length) (hsz : Ls.length = maxL) (ar : List Value) (har : as.reverse = ar) (d : Dc bytes pc (.invokespecial idx) 3 pc')
    (g : ∀ v h', Q' v h' → G k n0 Q h' (cells + rm.cells) (slots + rm.slots) pc' Ls (v.toList ++ St)) : G k n0 Q h cells slots pc Ls (ar ++ .ref a :: St) := by
  obtain ⟨p, l, e, R', s, m, args, below, meth, c⟩ := k
  obtain ⟨hx, hZ, hown, rfl, rfl, rfl, rfl, hlk, rfl, hn0⟩ := K
  obtain ⟨d, rfl⟩ := d
  subst hl
  subst har
  intro _ _ T locs X eT N
  have hn1 : n0 ≤ h.size := size_ok X eT hn0
  obtain ⟨v, _, ⟨T', L', k', n'⟩, -, X', ⟨Lc, ⟨hQ, hF⟩, e1, e2, e3⟩, st⟩ := X.specialBack hx (y := yy) hi hown (mvT hZ w1) (mvT hZ w2) (mvT hZ w4) hy (backOf (W := W) (Q := fun v h' L => Q' v h' ∧ Fr n0 L) (c hn1 []) hZ w4 w3 hfr hlo) (g := mkF m pc ⟨Ls⟩ (as.reverse ++ .ref a :: St)) rfl (by simpa using hsz) (Steps.refl _) (a := a) (argsL := as) (rest := St) (lenOf pd hps) rfl (by show 2 * 0 + _ ≤ _; omega) d (fun _ _ => ⟨rfl, eT, hce, hsl⟩)
  dsimp only [Pt.U, Pt.locs, Pt.cells, Pt.slots] at X' e1 e2 e3 st hQ
  subst e1 e2 e3
  obtain ⟨s₂, o, h1, r⟩ := g v T'.heap hQ hce hsl T' _ X' rfl (Fr.app N hF)
  exact ⟨s₂, o, st.trans h1, r⟩
theorem G.callV (K : Ok k Z n0 own R bytes maxL ret nm) (hl : k.2.1 = l) {idx : Nat} {by' : ByteArray} {ml : Nat} {rt : Option FieldType} {ps : List FieldType} {Q' : Option Value → Heap → Prop} {C : String}
    (w1 : (Cond.methodLink own idx yy).before a0 Z = true) (wd : (Cond.declares yy).before a0 Z = true) (ws : (Cond.selects C yy yy).before a0 Z = true) (w2 : (Cond.instanceMethod yy).before a0 Z = true) (w3 : (Cond.initialized yy.cls).before a0 Z = true) (w4 : (Cond.code yy by' ml rt).before a0 Z = true)
    (hy : yy.cls ≠ "java/lang/invoke/MethodHandle" ∧ yy.cls ≠ "java/lang/invoke/VarHandle") (pd : parseMethodDescriptor yy.desc = some ⟨ps, rt⟩) {a : Addr} (E : Exa Z h a C) (c : Ct l Z n0 yy by' ml rt rm (.ref a :: as) h Q') (W : Nat) (hW : (St.map fun v => v.category).sum = W)
    (hfr : rm.frames + 1 ≤ R.frames) (hlo : W + (ml + 11) + rm.locals ≤ R.locals) (hce : cells + rm.cells ≤ R.cells) (hsl : slots + rm.slots ≤ R.slots) (hps : as.length = ps.length) (hsz : Ls.length = maxL) (ar : List Value) (har : as.reverse = ar) (d : Dc bytes pc (.invokevirtual idx) 3 pc')
    (g : ∀ v h', Q' v h' → G k n0 Q h' (cells + rm.cells) (slots + rm.slots) pc' Ls (v.toList ++ St)) : G k n0 Q h cells slots pc Ls (ar ++ .ref a :: St) := by
  obtain ⟨p, l, e, R', s, m, args, below, meth, c⟩ := k
  obtain ⟨hx, hZ, hown, rfl, rfl, rfl, rfl, hlk, rfl, hn0⟩ := K
  obtain ⟨d, rfl⟩ := d
  subst hl
  subst har
  intro _ _ T locs X eT N
  have hn1 : n0 ≤ h.size := size_ok X eT hn0
  obtain ⟨cq, kq, qa, qb, qc⟩ := isOf hZ eT E
  obtain ⟨v, _, ⟨T', L', k', n'⟩, -, X', ⟨Lc, ⟨hQ, hF⟩, e1, e2, e3⟩, st⟩ := X.virtualBack hx (y := yy) (z := yy) hown (mvT hZ w1) (mvT hZ wd) (notFace_of_selects (args := #[]) (mvT hZ ws)) (mvT hZ ws) (mvT hZ w2) hy (backOf (W := W) (Q := fun v h' L => Q' v h' ∧ Fr n0 L) (c hn1 []) hZ w4 w3 hfr hlo) qa qc (g := mkF m pc ⟨Ls⟩ (as.reverse ++ .ref a :: St)) rfl (by simpa using hsz) (Steps.refl _) (argsL := as) (rest := St) (lenOf pd hps) rfl (by show 2 * 0 + _ ≤ _; omega) d (fun _ _ => ⟨rfl, eT, hce, hsl⟩)
  dsimp only [Pt.U, Pt.locs, Pt.cells, Pt.slots] at X' e1 e2 e3 st hQ
  subst e1 e2 e3
  obtain ⟨s₂, o, h1, r⟩ := g v T'.heap hQ hce hsl T' _ X' rfl (Fr.app N hF)
  exact ⟨s₂, o, st.trans h1, r⟩
theorem G.callP (K : Ok k Z n0 own R bytes maxL ret nm) (hl : k.2.1 = l) {idx kk : Nat} {by' : ByteArray} {ml : Nat} {rt : Option FieldType} {ps : List FieldType} {Q' : Option Value → Heap → Prop}
    (w1 : (Cond.methodLink own idx yy).before a0 Z = true) (wp : (Cond.privateMethod yy).before a0 Z = true) (wi : (Cond.instantiable yy.cls kk).before a0 Z = true) (w2 : (Cond.instanceMethod yy).before a0 Z = true) (w3 : (Cond.initialized yy.cls).before a0 Z = true) (w4 : (Cond.code yy by' ml rt).before a0 Z = true)
    (hy : yy.cls ≠ "java/lang/invoke/MethodHandle" ∧ yy.cls ≠ "java/lang/invoke/VarHandle") (pd : parseMethodDescriptor yy.desc = some ⟨ps, rt⟩) {a : Addr} {C : String} (E : Exa Z h a C) (c : Ct l Z n0 yy by' ml rt rm (.ref a :: as) h Q') (W : Nat) (hW : (St.map fun v => v.category).sum = W)
    (hfr : rm.frames + 1 ≤ R.frames) (hlo : W + (ml + 11) + rm.locals ≤ R.locals) (hce : cells + rm.cells ≤ R.cells) (hsl : slots + rm.slots ≤ R.slots) (hps : as.length = ps.length) (hsz : Ls.length = maxL) (ar : List Value) (har : as.reverse = ar) (d : Dc bytes pc (.invokevirtual idx) 3 pc')
    (g : ∀ v h', Q' v h' → G k n0 Q h' (cells + rm.cells) (slots + rm.slots) pc' Ls (v.toList ++ St)) : G k n0 Q h cells slots pc Ls (ar ++ .ref a :: St) := by
  obtain ⟨p, l, e, R', s, m, args, below, meth, c⟩ := k
  obtain ⟨hx, hZ, hown, rfl, rfl, rfl, rfl, hlk, rfl, hn0⟩ := K
  obtain ⟨d, rfl⟩ := d
  subst hl
  subst har
  intro _ _ T locs X eT N
  have hn1 : n0 ≤ h.size := size_ok X eT hn0
  obtain ⟨cq, q, q'⟩ := E.cell
  have hpriv : s.PrivateAt yy := Cond.privateMethod_at (mvP hZ wp (args := #[]))
  obtain ⟨c2, k2, i1, i2, -, i4, -⟩ := Cond.instantiable_spec (mvT hZ wi (args := args))
  have hsel : (Cond.selects yy.cls yy yy).before args s = true := selects_self_of_private i1 i2 (by cases hh : k2.isInterface <;> simp_all) hpriv (mvT hZ w2) hy
  obtain ⟨v, _, ⟨T', L', k', n'⟩, -, X', ⟨Lc, ⟨hQ, hF⟩, e1, e2, e3⟩, st⟩ := X.privateBack hx (y := yy) hown (mvT hZ w1) (mvT hZ w2) hsel hpriv (mvT hZ w4) hy (backOf (W := W) (Q := fun v h' L => Q' v h' ∧ Fr n0 L) (c hn1 []) hZ w4 w3 hfr hlo) (g := mkF m pc ⟨Ls⟩ (as.reverse ++ .ref a :: St)) rfl (by simpa using hsz) (Steps.refl _) (a := a) (by rw [eT]; exact q) q' (argsL := as) (rest := St) (lenOf pd hps) rfl (by show 2 * 0 + _ ≤ _; omega) d (fun _ _ => ⟨rfl, eT, hce, hsl⟩)
  dsimp only [Pt.U, Pt.locs, Pt.cells, Pt.slots] at X' e1 e2 e3 st hQ
  subst e1 e2 e3
  obtain ⟨s₂, o, h1, r⟩ := g v T'.heap hQ hce hsl T' _ X' rfl (Fr.app N hF)
  exact ⟨s₂, o, st.trans h1, r⟩
theorem G.initO (K : Ok k Z n0 own R bytes maxL ret nm) {idx : Nat} (w1 : (Cond.methodLink own idx Lib.objectInit).before a0 Z = true) (w2 : (Cond.instanceMethod Lib.objectInit).before a0 Z = true) (w3 : (Cond.code Lib.objectInit ⟨#[0xb1]⟩ 1 none).before a0 Z = true) {a : Addr}
    (hsz : Ls.length = maxL) (W : Nat) (hW : (St.map fun v => v.category).sum = W) (hfr : 1 ≤ R.frames) (hlo : W + 12 ≤ R.locals) (d : Dc bytes pc (.invokespecial idx) 3 pc') (g : G k n0 Q h cells slots pc' Ls St) : G k n0 Q h cells slots pc Ls (.ref a :: St) := by
  obtain ⟨p, l, e, R', s, m, args, below, meth, c⟩ := k
  obtain ⟨hx, hZ, hown, rfl, rfl, rfl, rfl, hlk, rfl, hn0⟩ := K
  obtain ⟨d, rfl⟩ := d
  exact G.moved (fun T locs X eT => RoadKit.initO X hx hZ hown w1 w2 w3 eT (g := mkF m pc ⟨Ls⟩ (.ref a :: St)) rfl (by simpa using hsz) rfl d hfr (W := W) (by show 2 * 0 + _ ≤ _; omega) hlo) g
end Jvm.OwnKit
namespace Jvm.Pilot.@@N@@
open Jvm Jvm.ClassFile Sem Op Lib Jvm.Free Jvm.Stand Jvm.LawKit Jvm.RoadKit Bundle Jvm.OwnKit Jvm.Pilot.@@N@@.Jvm.D
theorem wd {Z : State} {a0 : Array Value} (hw : ∀ d ∈ tables_1, d.before a0 Z = true) (i : Nat) {d : Jvm.Cond} (h : tables_1[i]? = some d) : d.before a0 Z = true := hw _ (List.mem_of_getElem? h)
theorem own_nint {i : Nat} (h : i < 2147483648) : (Int32.ofNat i).toInt = i := Int32.toInt_ofNat_of_lt (by omega)
theorem own_nlt {i n : Nat} (h : i < 2147483648) (h' : n < 2147483648) : (Int32.ofNat i < Int32.ofNat n) ↔ i < n := by
  rw [Int32.lt_iff_toInt_lt, own_nint h, own_nint h']; omega
theorem own_nle {i n : Nat} (h : i < 2147483648) (h' : n < 2147483648) : (Int32.ofNat i ≤ Int32.ofNat n) ↔ i ≤ n := by
  rw [Int32.le_iff_toInt_le, own_nint h, own_nint h']; omega
theorem own_neq {i n : Nat} (h : i < 2147483648) (h' : n < 2147483648) : (Int32.ofNat i = Int32.ofNat n) ↔ i = n := by
  rw [← Int32.toInt_inj, own_nint h, own_nint h']; omega
theorem own_nadd (i j : Nat) : Int32.ofNat i + Int32.ofNat j = Int32.ofNat (i + j) := (Int32.ofNat_add i j).symm
theorem own_nsucc (i : Nat) : Int32.ofNat i + 1 = Int32.ofNat (i + 1) := own_nadd i 1
theorem own_nidx {i : Nat} (h : i < 2147483648) : (Int32.ofNat i).toNatClampNeg = i := by
  show (Int32.ofNat i).toInt.toNat = i
  rw [own_nint h]; rfl
theorem own_nneg {i : Nat} (h : i < 2147483648) : ¬ Int32.ofNat i < 0 := by
  rw [Int32.lt_iff_toInt_lt, own_nint h]; show ¬ (i : Int) < 0; omega
theorem own_nsub {i j : Nat} (h : j ≤ i) : Int32.ofNat i - Int32.ofNat j = Int32.ofNat (i - j) := by
  have := own_nadd (i - j) j
  rw [Nat.sub_add_cancel h] at this
  rw [← this, Int32.add_sub_cancel]
theorem own_nmul (i j : Nat) : Int32.ofNat i * Int32.ofNat j = Int32.ofNat (i * j) := (Int32.ofNat_mul i j).symm
/-- a non-negative int is a natural -/
theorem own_nat (x : Int32) (h : ¬ x < 0) : ∃ n : Nat, n < 2147483648 ∧ x = Int32.ofNat n := by
  have h2 : 0 ≤ x.toInt := by rw [Int32.lt_iff_toInt_lt] at h; have : (0 : Int32).toInt = 0 := rfl; omega
  have h3 := Int32.toInt_lt x
  refine ⟨x.toInt.toNat, by omega, ?_⟩
  apply Int32.toInt_inj.mp
  rw [own_nint (by omega)]; omega
theorem own_msk (x : Int32) : ∃ n : Nat, n < 2147483648 ∧ x &&& 2147483647 = Int32.ofNat n := by
  apply own_nat
  rw [Int32.lt_iff_toInt_lt]
  have h : (x &&& 2147483647).toBitVec = x.toBitVec &&& 2147483647#32 := rfl
  have hn : (x.toBitVec &&& 2147483647#32).toNat < 2147483648 := by
    rw [BitVec.toNat_and]; exact Nat.lt_of_le_of_lt Nat.and_le_right (by decide)
  have : (x &&& 2147483647).toInt = ((x.toBitVec &&& 2147483647#32).toNat : Int) := by
    show (x &&& 2147483647).toBitVec.toInt = _
    rw [h, BitVec.toInt_eq_toNat_of_lt (by omega)]
  rw [this]; show ¬ ((_ : Nat) : Int) < 0; omega
theorem own_nmod {i n : Nat} (h : i < 2147483648) (hn : n < 2147483648) : Int32.ofNat i % Int32.ofNat n = Int32.ofNat (i % n) := by
  apply Int32.toInt_inj.mp
  have hl : i % n ≤ i := Nat.mod_le i n
  rw [Int32.toInt_mod, own_nint h, own_nint hn, own_nint (by omega)]
  exact (Int.ofNat_tmod i n).symm ▸ rfl
/-- small mask: x & (2^k - 1) -/
theorem own_and_lt (x : Int32) (m : Nat) (hm : m < 2147483648) : ∃ n : Nat, n ≤ m ∧ x &&& Int32.ofNat m = Int32.ofNat n := by
  have h : (x &&& Int32.ofNat m).toBitVec = x.toBitVec &&& BitVec.ofNat 32 m := rfl
  refine ⟨(x.toBitVec &&& BitVec.ofNat 32 m).toNat, ?_, ?_⟩
  · rw [BitVec.toNat_and]; exact Nat.le_trans Nat.and_le_right (by rw [BitVec.toNat_ofNat]; exact Nat.mod_le _ _)
  · apply Int32.toBitVec_inj.mp
    rw [h]
    show _ = BitVec.ofNat 32 _
    rw [BitVec.ofNat_toNat, BitVec.setWidth_eq]
theorem pd_0 : parseMethodDescriptor "([JJ)V" = some ⟨[(.array .long), .long], none⟩ := by decide +kernel
theorem pd_1 : parseMethodDescriptor "(II)I" = some ⟨[.int, .int], some .int⟩ := by decide +kernel
theorem pd_2 : parseMethodDescriptor "(JI)Z" = some ⟨[.long, .int], some .boolean⟩ := by decide +kernel
theorem pd_3 : parseMethodDescriptor "(IIIZ)I" = some ⟨[.int, .int, .int, .boolean], some .int⟩ := by decide +kernel
theorem pd_4 : parseMethodDescriptor "(JI)[J" = some ⟨[.long, .int], some (.array .long)⟩ := by decide +kernel
theorem pd_5 : parseMethodDescriptor "(III)V" = some ⟨[.int, .int, .int], none⟩ := by decide +kernel
theorem pd_6 : parseMethodDescriptor "()V" = some ⟨[], none⟩ := by decide +kernel
theorem pd_7 : parseMethodDescriptor "([J)J" = some ⟨[(.array .long)], some .long⟩ := by decide +kernel
theorem pd_8 : parseMethodDescriptor "([IJI)V" = some ⟨[(.array .int), .long, .int], none⟩ := by decide +kernel
theorem pd_9 : parseMethodDescriptor "(II)J" = some ⟨[.int, .int], some .long⟩ := by decide +kernel
def NSE : List (String × String × String) := [("com/example/bitstride/bitstride/search/EditDistances", "rising", "[J"), ("com/example/bitstride/bitstride/search/EditDistances", "falling", "[J"), ("com/example/bitstride/bitstride/search/EditDistances", "length", "I"), ("com/example/bitstride/bitstride/search/EditDistances", "lastBit", "I"), ("com/example/bitstride/bitstride/search/EditDistances", "maxErrors", "I"), ("com/example/bitstride/bitstride/search/EditDistances", "distance", "I")]
theorem cf_NSE {Z : State} {a0 : Array Value} (hw : ∀ d ∈ tables_1, d.before a0 Z = true) : Cf Z a0 "com/example/bitstride/bitstride/search/EditDistances" NSE := by
  refine ⟨fun f hf => ?_, by decide +kernel, fun f hf => ?_⟩
  · simp only [NSE, List.mem_cons, List.not_mem_nil, or_false] at hf
    rcases hf with rfl | rfl | rfl | rfl | rfl | rfl
    · exact Or.inr (wd hw 17 rfl)
    · exact Or.inr (wd hw 19 rfl)
    · exact Or.inr (wd hw 21 rfl)
    · exact Or.inr (wd hw 23 rfl)
    · exact Or.inr (wd hw 25 rfl)
    · exact Or.inl (wd hw 37 rfl)
  · simp only [NSE, List.mem_cons, List.not_mem_nil, or_false] at hf
    rcases hf with rfl | rfl | rfl | rfl | rfl | rfl
    · exact ⟨(.array .long), by decide +kernel⟩
    · exact ⟨(.array .long), by decide +kernel⟩
    · exact ⟨.int, by decide +kernel⟩
    · exact ⟨.int, by decide +kernel⟩
    · exact ⟨.int, by decide +kernel⟩
    · exact ⟨.int, by decide +kernel⟩
/-! the bits of a plane, a cell a bit -/
def bt (x : Int64) (q : Nat) : Bool := x.toBitVec.getLsbD q
theorem bt_and (x y : Int64) (q : Nat) : bt (x &&& y) q = (bt x q && bt y q) := by unfold bt; rw [Int64.toBitVec_and, BitVec.getLsbD_and]
theorem bt_or (x y : Int64) (q : Nat) : bt (x ||| y) q = (bt x q || bt y q) := by unfold bt; rw [Int64.toBitVec_or, BitVec.getLsbD_or]
theorem bt_xor (x y : Int64) (q : Nat) : bt (x ^^^ y) q = (bt x q ^^ bt y q) := by unfold bt; rw [Int64.toBitVec_xor, BitVec.getLsbD_xor]
theorem bt_not (x : Int64) {q : Nat} (h : q < 64) : bt (x ^^^ (-1)) q = !bt x q := by
  rw [bt_xor]
  have : bt (-1) q = true := by
    unfold bt
    rw [show (-1 : Int64).toBitVec = BitVec.allOnes 64 from by decide, BitVec.getLsbD_allOnes]; simp [h]
  rw [this]; simp
theorem bt_shl1 (x : Int64) {q : Nat} (h : q < 64) : bt (x <<< ((1 : Int32).toInt64 &&& 63)) q = if q = 0 then false else bt x (q - 1) := by
  unfold bt
  rw [Int64.toBitVec_shiftLeft]
  rw [show ((1 : Int32).toInt64 &&& 63).toBitVec.smod 64 = 1#64 from by decide]
  show (x.toBitVec <<< (1#64).toNat).getLsbD q = _
  rw [show (1#64).toNat = 1 from rfl, BitVec.getLsbD_shiftLeft]
  by_cases e : q = 0
  · subst e; simp
  · have : ¬ q < 1 := by omega
    simp [h, e, this]
theorem bt_top (x : Int64) (q : Nat) : bt (XT.ushrL x 63) q = (decide (q = 0) && bt x 63) := by
  unfold bt XT.ushrL
  show (x.toUInt64 >>> _).toBitVec.getLsbD q = _
  rw [UInt64.toBitVec_shiftRight]
  rw [show (((63 : Int32).toInt64.toUInt64 &&& Int64.toUInt64 63).toBitVec % 64) = 63#64 from by decide]
  show (x.toBitVec >>> (63#64).toNat).getLsbD q = _
  rw [show (63#64).toNat = 63 from rfl, BitVec.getLsbD_ushiftRight]
  by_cases e : q = 0
  · subst e; simp
  · rw [BitVec.getLsbD_of_ge _ _ (by omega)]; simp [e]
theorem bt_ushr (x : Int64) {k : Nat} (h : k < 64) (q : Nat) : bt (XT.ushrL x (Int32.ofNat k)) q = bt x (k + q) := by
  have e : ∀ k : Fin 64, (((Int32.ofNat k.val).toInt64.toUInt64 &&& Int64.toUInt64 63).toBitVec % 64) = BitVec.ofNat 64 k.val := by decide +kernel
  unfold bt XT.ushrL
  show (x.toUInt64 >>> _).toBitVec.getLsbD q = _
  rw [UInt64.toBitVec_shiftRight, e ⟨k, h⟩]
  show (x.toBitVec >>> (BitVec.ofNat 64 k).toNat).getLsbD q = _
  rw [BitVec.toNat_ofNat, Nat.mod_eq_of_lt (by omega), BitVec.getLsbD_ushiftRight]
theorem and1_cases (y : Int64) : (bt y 0 = true ∧ y &&& 1 = 1) ∨ (bt y 0 = false ∧ y &&& 1 = 0) := by
  have key : ∀ b : BitVec 64, (b.getLsbD 0 = true ∧ b &&& 1#64 = 1#64) ∨ (b.getLsbD 0 = false ∧ b &&& 1#64 = 0#64) := by
    intro b
    cases hb : b.getLsbD 0
    · right; refine ⟨rfl, ?_⟩
      apply BitVec.eq_of_getLsbD_eq; intro i hi
      by_cases e : i = 0
      · subst e; rw [BitVec.getLsbD_and, hb, Bool.false_and]; simp
      · simp [e]
    · left; refine ⟨rfl, ?_⟩
      apply BitVec.eq_of_getLsbD_eq; intro i hi
      by_cases e : i = 0
      · subst e; simp [hb]
      · simp [e]
  rcases key y.toBitVec with ⟨h1, h2⟩ | ⟨h1, h2⟩
  · exact Or.inl ⟨h1, Int64.toBitVec_inj.mp h2⟩
  · exact Or.inr ⟨h1, Int64.toBitVec_inj.mp h2⟩
/-! one word of the column -/
def wMC (m r fb : Int64) : Int64 := ((((m ||| fb) &&& r) + r) ^^^ r) ||| (m ||| fb)
def wRA (m r f fb : Int64) : Int64 := f ||| ((wMC m r fb ||| r) ^^^ (-1))
def wFA (m r fb : Int64) : Int64 := r &&& wMC m r fb
def wRU (m r f rb fb : Int64) : Int64 := (wRA m r f fb <<< ((1 : Int32).toInt64 &&& 63)) ||| rb
def wFU (m r fb : Int64) : Int64 := (wFA m r fb <<< ((1 : Int32).toInt64 &&& 63)) ||| fb
def wR (m r f rb fb : Int64) : Int64 := wFU m r fb ||| (((m ||| f) ||| wRU m r f rb fb) ^^^ (-1))
def wF (m r f rb fb : Int64) : Int64 := wRU m r f rb fb &&& (m ||| f)
/-- a word that holds a bit at its lowest place alone -/
def one (fb : Int64) (b : Bool) : Prop := ∀ q, q < 64 → bt fb q = (decide (q = 0) && b)
theorem one_top (x : Int64) : one (XT.ushrL x 63) (bt x 63) := fun q _ => bt_top x q
theorem one_zero : one 0 false := fun q _ => by simp [bt]
def prw (b : Bool) (X : Nat → Bool) (q : Nat) : Bool := if q = 0 then b else X (q - 1)
theorem carry_eq (m r fb : Int64) {b : Bool} (hb : one fb b) : ∀ q, q < 64 → BitVec.carry q (((m ||| fb) &&& r).toBitVec) r.toBitVec false = (decide (q ≠ 0) && prw b (bt (wFA m r fb)) q) ∧ bt (wMC m r fb) q = (bt m q || prw b (bt (wFA m r fb)) q) := by
  intro q
  induction q with
  | zero =>
    intro hq
    have e1 : BitVec.carry 0 (((m ||| fb) &&& r).toBitVec) r.toBitVec false = false := by simp
    refine ⟨by rw [e1]; simp, ?_⟩
    have h0 := hb 0 hq
    unfold wMC
    rw [bt_or, bt_xor, bt_or, h0]
    have : bt (((m ||| fb) &&& r) + r) 0 = (bt ((m ||| fb) &&& r) 0 ^^ (bt r 0 ^^ false)) := by
      unfold bt
      rw [Int64.toBitVec_add, BitVec.getLsbD_add (by omega), e1]
    rw [this, bt_and, bt_or, h0]
    unfold prw
    cases bt m 0 <;> cases bt r 0 <;> cases b <;> rfl
  | succ q ih =>
    intro hq
    obtain ⟨c1, c2⟩ := ih (by omega)
    have hsrc : bt ((m ||| fb) &&& r) q = ((bt m q || (decide (q = 0) && b)) && bt r q) := by rw [bt_and, bt_or, hb q (by omega)]
    have hfa : bt (wFA m r fb) q = (bt r q && (bt m q || prw b (bt (wFA m r fb)) q)) := by
      conv => lhs; unfold wFA
      rw [bt_and, c2]
    have e1 : BitVec.carry (q + 1) (((m ||| fb) &&& r).toBitVec) r.toBitVec false = bt (wFA m r fb) q := by
      rw [BitVec.carry_succ, c1]
      show Bool.atLeastTwo (bt ((m ||| fb) &&& r) q) (bt r q) _ = _
      rw [hsrc, hfa]
      unfold prw
      by_cases z : q = 0
      · subst z
        cases bt m 0 <;> cases bt r 0 <;> cases b <;> rfl
      · simp only [z, decide_false, ne_eq, not_false_eq_true, decide_true, if_false, Bool.false_and, Bool.or_false, Bool.true_and]
        cases bt m q <;> cases bt r q <;> cases bt (wFA m r fb) (q - 1) <;> rfl
    have hp : prw b (bt (wFA m r fb)) (q + 1) = bt (wFA m r fb) q := by simp [prw]
    refine ⟨by rw [e1, hp]; simp, ?_⟩
    rw [hp]
    have hbq := hb (q + 1) hq
    have hadd : bt (((m ||| fb) &&& r) + r) (q + 1) = (bt ((m ||| fb) &&& r) (q + 1) ^^ (bt r (q + 1) ^^ bt (wFA m r fb) q)) := by
      rw [← e1]
      unfold bt
      rw [Int64.toBitVec_add, BitVec.getLsbD_add hq]
    conv => lhs; unfold wMC
    rw [bt_or, bt_xor, hadd, bt_and, bt_or, hbq, show decide (q + 1 = 0) = false from by simp]
    cases bt m (q + 1) <;> cases bt r (q + 1) <;> cases bt (wFA m r fb) q <;> rfl
theorem wFA_bit (m r fb : Int64) {b : Bool} (hb : one fb b) {q : Nat} (hq : q < 64) : bt (wFA m r fb) q = (bt r q && (bt m q || prw b (bt (wFA m r fb)) q)) := by
  conv => lhs; unfold wFA
  rw [bt_and, (carry_eq m r fb hb q hq).2]
theorem wRA_bit (m r f fb : Int64) {b : Bool} (hb : one fb b) {q : Nat} (hq : q < 64) : bt (wRA m r f fb) q = (bt f q || !((bt m q || prw b (bt (wFA m r fb)) q) || bt r q)) := by
  unfold wRA
  rw [bt_or, bt_not _ hq, bt_or, (carry_eq m r fb hb q hq).2]
theorem wRU_bit (m r f rb fb : Int64) {b : Bool} (hb : one rb b) {q : Nat} (hq : q < 64) : bt (wRU m r f rb fb) q = prw b (bt (wRA m r f fb)) q := by
  unfold wRU prw
  rw [bt_or, bt_shl1 _ hq, hb q hq]
  by_cases z : q = 0 <;> simp [z]
theorem wFU_bit (m r fb : Int64) {b : Bool} (hb : one fb b) {q : Nat} (hq : q < 64) : bt (wFU m r fb) q = prw b (bt (wFA m r fb)) q := by
  unfold wFU prw
  rw [bt_or, bt_shl1 _ hq, hb q hq]
  by_cases z : q = 0 <;> simp [z]
theorem wR_bit (m r f rb fb : Int64) {b b' : Bool} (hb : one fb b) (hb' : one rb b') {q : Nat} (hq : q < 64) : bt (wR m r f rb fb) q = (prw b (bt (wFA m r fb)) q || !((bt m q || bt f q) || prw b' (bt (wRA m r f fb)) q)) := by
  unfold wR
  rw [bt_or, bt_not _ hq, bt_or, bt_or, wFU_bit m r fb hb hq, wRU_bit m r f rb fb hb' hq]
theorem wF_bit (m r f rb fb : Int64) {b' : Bool} (hb' : one rb b') {q : Nat} (hq : q < 64) : bt (wF m r f rb fb) q = (prw b' (bt (wRA m r f fb)) q && (bt m q || bt f q)) := by
  unfold wF
  rw [bt_and, bt_or, wRU_bit m r f rb fb hb' hq]
/-- one step of the column, a bit a cell -/
def prv (X : Nat → Bool) (p : Nat) : Bool := if p = 0 then false else X (p - 1)
def SRel (N : Nat) (M R F R' F' FA RA : Nat → Bool) : Prop := ∀ p, p < N →
  FA p = (R p && (M p || prv FA p)) ∧ RA p = (F p || !((M p || prv FA p) || R p)) ∧ R' p = (prv FA p || !((M p || F p) || prv RA p)) ∧ F' p = (prv RA p && (M p || F p))
theorem rel1 (m r f : Int64) : SRel 64 (bt m) (bt r) (bt f) (bt (wR m r f 0 0)) (bt (wF m r f 0 0)) (bt (wFA m r 0)) (bt (wRA m r f 0)) := by
  intro p hp
  exact ⟨wFA_bit m r 0 one_zero hp, wRA_bit m r f 0 one_zero hp, wR_bit m r f 0 0 one_zero one_zero hp, wF_bit m r f 0 0 one_zero hp⟩
def glu (x y : Int64) (p : Nat) : Bool := if p < 64 then bt x p else bt y (p - 64)
theorem rel2 (m0 r0 f0 m1 r1 f1 : Int64) : SRel 128 (glu m0 m1) (glu r0 r1) (glu f0 f1) (glu (wR m0 r0 f0 0 0) (wR m1 r1 f1 (XT.ushrL (wRA m0 r0 f0 0) 63) (XT.ushrL (wFA m0 r0 0) 63))) (glu (wF m0 r0 f0 0 0) (wF m1 r1 f1 (XT.ushrL (wRA m0 r0 f0 0) 63) (XT.ushrL (wFA m0 r0 0) 63)))
    (glu (wFA m0 r0 0) (wFA m1 r1 (XT.ushrL (wFA m0 r0 0) 63))) (glu (wRA m0 r0 f0 0) (wRA m1 r1 f1 (XT.ushrL (wFA m0 r0 0) 63))) := by
  intro p hp
  have hprv : ∀ x y : Int64, p < 64 → prv (glu x y) p = prw false (bt x) p := by
    intro x y h; unfold prv prw glu
    by_cases z : p = 0
    · simp [z]
    · simp [z, show p - 1 < 64 by omega]
  have hprv2 : ∀ x y : Int64, ¬ p < 64 → prv (glu x y) p = prw (bt x 63) (bt y) (p - 64) := by
    intro x y h; unfold prv prw glu
    have z : ¬ p = 0 := by omega
    by_cases e : p = 64
    · subst e; simp
    · have h1 : ¬ p - 1 < 64 := by omega
      have h2 : ¬ p - 64 = 0 := by omega
      have h3 : p - 1 - 64 = p - 64 - 1 := by omega
      simp only [z, h1, h2, h3, if_false]
  by_cases h : p < 64
  · simp only [hprv _ _ h]
    simp only [glu, h, if_true]
    exact rel1 m0 r0 f0 p h
  · simp only [hprv2 _ _ h]
    simp only [glu, h, if_false]
    have hq : p - 64 < 64 := by omega
    exact ⟨wFA_bit m1 r1 _ (one_top _) hq, wRA_bit m1 r1 f1 _ (one_top _) hq, wR_bit m1 r1 f1 _ _ (one_top _) (one_top _) hq, wF_bit m1 r1 f1 _ _ (one_top _) hq⟩
def iv (r f : Bool) : Int := r.toNat - f.toNat
/-- the cells that count: o cells that never match, then len of the table's -/
def Win (o len : Nat) (R F : Nat → Bool) (col : Nat → Nat) : Prop := col 0 = 0 ∧ (∀ p, p < o → R p = true ∧ F p = false) ∧ ∀ j, j < len → (R (o + j) && F (o + j)) = false ∧ ((col (j + 1) : Int) - col j = iv (R (o + j)) (F (o + j)))
def colS (mt : Nat → Bool) (col : Nat → Nat) : Nat → Nat
  | 0 => 0
  | j + 1 => min (min (if mt j = true then col j else col j + 1) (col (j + 1) + 1)) (colS mt col j + 1)
theorem Win.step {N o len : Nat} {M R F R' F' FA RA : Nat → Bool} {col : Nat → Nat} (S : SRel N M R F R' F' FA RA) (hN : o + len ≤ N) (W : Win o len R F col) (hM : ∀ p, p < o → M p = false) {mt : Nat → Bool} (hmt : ∀ j, j < len → M (o + j) = mt j) :
    Win o len R' F' (colS mt col) ∧ (1 ≤ len → ((colS mt col len : Int) - col len = iv (RA (o + len - 1)) (FA (o + len - 1)))) := by
  obtain ⟨W0, W1, W2⟩ := W
  have low : ∀ p, p ≤ o → prv FA p = false ∧ prv RA p = false := by
    intro p
    induction p with
    | zero => intro _; simp [prv]
    | succ p ih =>
      intro hp
      obtain ⟨i1, i2⟩ := ih (by omega)
      obtain ⟨s1, s2, -, -⟩ := S p (by omega)
      obtain ⟨w1, w2⟩ := W1 p (by omega)
      rw [hM p (by omega), i1, w1] at s1 s2
      rw [w2] at s2
      simp [prv, s1, s2]
  have hor : ∀ j, j ≤ len → (prv RA (o + j) && prv FA (o + j)) = false ∧ ((colS mt col j : Int) - col j = iv (prv RA (o + j)) (prv FA (o + j))) ∧ (∀ i, i < j → (R' (o + i) && F' (o + i)) = false ∧ ((colS mt col (i + 1) : Int) - colS mt col i = iv (R' (o + i)) (F' (o + i)))) := by
    intro j
    induction j with
    | zero =>
      intro _
      obtain ⟨l1, l2⟩ := low o (Nat.le_refl _)
      rw [Nat.add_zero, l1, l2]
      exact ⟨rfl, by simp [colS, W0, iv], fun i hi => by omega⟩
    | succ j ih =>
      intro hj
      obtain ⟨i1, i2, i3⟩ := ih (by omega)
      obtain ⟨s1, s2, s3, s4⟩ := S (o + j) (by omega)
      obtain ⟨w1, w2⟩ := W2 j (by omega)
      have e1 : prv RA (o + (j + 1)) = RA (o + j) := by simp [prv, ← Nat.add_assoc]
      have e2 : prv FA (o + (j + 1)) = FA (o + j) := by simp [prv, ← Nat.add_assoc]
      rw [hmt j (by omega)] at s1 s2 s3 s4
      have key : (RA (o + j) && FA (o + j)) = false ∧ ((colS mt col (j + 1) : Int) - col (j + 1) = iv (RA (o + j)) (FA (o + j))) ∧ (R' (o + j) && F' (o + j)) = false ∧ ((colS mt col (j + 1) : Int) - colS mt col j = iv (R' (o + j)) (F' (o + j))) := by
        rw [s1, s2, s3, s4]
        have hc : colS mt col (j + 1) = min (min (if mt j = true then col j else col j + 1) (col (j + 1) + 1)) (colS mt col j + 1) := rfl
        rw [hc]
        generalize colS mt col j = x at *
        generalize col j = y at *
        generalize col (j + 1) = z at *
        revert i1 i2 w1 w2
        generalize prv RA (o + j) = a
        generalize prv FA (o + j) = b
        generalize R (o + j) = c
        generalize F (o + j) = d
        generalize mt j = g
        cases a <;> cases b <;> cases c <;> cases d <;> cases g <;> simp [iv] <;> intros <;> omega
      obtain ⟨k1, k2, k3, k4⟩ := key
      rw [e1, e2]
      refine ⟨k1, k2, fun i hi => ?_⟩
      by_cases q : i = j
      · subst q; exact ⟨k3, k4⟩
      · exact i3 i (by omega)
  obtain ⟨h1, h2, h3⟩ := hor len (Nat.le_refl _)
  refine ⟨⟨rfl, fun p hp => ?_, h3⟩, fun hl => ?_⟩
  · obtain ⟨l1, l2⟩ := low p (by omega)
    obtain ⟨-, -, s3, s4⟩ := S p (by omega)
    obtain ⟨w1, w2⟩ := W1 p hp
    rw [l1, l2, hM p hp, w2] at s3
    rw [l2] at s4
    exact ⟨by rw [s3]; rfl, by rw [s4]; rfl⟩
  · rw [h2]
    have hz : ¬ o + len = 0 := by omega
    simp only [prv, hz, if_false]
theorem colS_le (mt : Nat → Bool) (col : Nat → Nat) : ∀ j, colS mt col j ≤ j
  | 0 => by simp [colS]
  | j + 1 => by have := colS_le mt col j; unfold colS; omega

theorem bit32 (y : Int64) {q : Nat} (hq : q < 64) : (XT.ushrL y (Int32.ofNat q) &&& 1).toInt32 = Int32.ofNat (bt y q).toNat := by
  have h := and1_cases (XT.ushrL y (Int32.ofNat q))
  rw [bt_ushr _ hq, Nat.add_zero] at h
  rcases h with ⟨h1, h2⟩ | ⟨h1, h2⟩ <;> rw [h1, h2] <;> rfl
def mk0 (x : Int64) (o : Nat) : Int64 := if Int32.ofNat o < 64 then x &&& ((-1) <<< ((Int32.ofNat o).toInt64 &&& 63)) else 0
theorem bt_shlm1 {o p : Nat} (ho : o < 64) (hp : p < 64) : bt ((-1) <<< ((Int32.ofNat o).toInt64 &&& 63)) p = decide (o ≤ p) := by
  have e : ∀ o : Fin 64, ((Int32.ofNat o.val).toInt64 &&& 63).toBitVec.smod 64 = BitVec.ofNat 64 o.val := by decide +kernel
  unfold bt
  rw [Int64.toBitVec_shiftLeft, e ⟨o, ho⟩]
  show ((-1 : Int64).toBitVec <<< (BitVec.ofNat 64 o).toNat).getLsbD p = _
  rw [BitVec.toNat_ofNat, Nat.mod_eq_of_lt (by omega), BitVec.getLsbD_shiftLeft, show (-1 : Int64).toBitVec = BitVec.allOnes 64 from by decide, BitVec.getLsbD_allOnes]
  by_cases h : o ≤ p
  · have h1 : ¬ p < o := by omega
    have h2 : p - o < 64 := by omega
    simp [h, hp, h1, h2]
  · have h1 : p < o := by omega
    simp [h, h1]
theorem bt_mk0 {x : Int64} {o p : Nat} (hp : p < 64) (ho : o ≤ 64) : bt (mk0 x o) p = (decide (o ≤ p) && bt x p) := by
  unfold mk0
  by_cases h : o < 64
  · have hlt : Int32.ofNat o < 64 := (own_nlt (n := 64) (by omega) (by decide)).mpr h
    rw [if_pos hlt, bt_and, bt_shlm1 h hp, Bool.and_comm]
  · have hlt : ¬ Int32.ofNat o < 64 := fun z => h ((own_nlt (n := 64) (by omega) (by decide)).mp z)
    rw [if_neg hlt]
    have : ¬ o ≤ p := by omega
    simp [bt, this]
def mtF (x : Int64) (o j : Nat) : Bool := bt x ((o + j) % 64)
theorem own_dist {a b : Bool} {o c c' : Nat} (h : (c' : Int) - c = iv a b) : Int32.ofNat (o + c) + (Int32.ofNat a.toNat - Int32.ofNat b.toNat) = Int32.ofNat (o + c') := by
  have e : o + c' + b.toNat = o + c + a.toNat := by unfold iv at h; omega
  have e2 := congrArg Int32.ofNat e
  rw [Int32.ofNat_add (o + c') b.toNat, Int32.ofNat_add (o + c) a.toNat] at e2
  grind
theorem ed1 {o len : Nat} {r f x : Int64} {c : Nat → Nat} (hl : 1 ≤ len) (h : o + len ≤ 64) (W : Win o len (bt r) (bt f) c) :
    Win o len (bt (wR (mk0 x o) r f 0 0)) (bt (wF (mk0 x o) r f 0 0)) (colS (mtF x o) c) ∧
    Int32.ofNat (o + c len) + ((XT.ushrL (wRA (mk0 x o) r f 0) (Int32.ofNat ((o + len - 1) % 64)) &&& 1).toInt32 - (XT.ushrL (wFA (mk0 x o) r 0) (Int32.ofNat ((o + len - 1) % 64)) &&& 1).toInt32) = Int32.ofNat (o + colS (mtF x o) c len) := by
  obtain ⟨h1, h2⟩ := W.step (rel1 (mk0 x o) r f) h (fun p hp => by rw [bt_mk0 (by omega) (by omega)]; have : ¬ o ≤ p := by omega
                                                                   simp [this]) (mt := mtF x o) (fun j hj => by
    rw [bt_mk0 (by omega) (by omega), mtF, Nat.mod_eq_of_lt (by omega)]; simp)
  refine ⟨h1, ?_⟩
  rw [Nat.mod_eq_of_lt (by omega), bit32 _ (by omega), bit32 _ (by omega)]
  exact own_dist (h2 hl)
theorem ed2 {o len : Nat} {r0 f0 r1 f1 x : Int64} {c : Nat → Nat} (hl : 1 ≤ len) (ho : o ≤ 64) (h : 64 < o + len) (h' : o + len ≤ 128) (W : Win o len (glu r0 r1) (glu f0 f1) c) :
    Win o len (glu (wR (mk0 x o) r0 f0 0 0) (wR x r1 f1 (XT.ushrL (wRA (mk0 x o) r0 f0 0) 63) (XT.ushrL (wFA (mk0 x o) r0 0) 63))) (glu (wF (mk0 x o) r0 f0 0 0) (wF x r1 f1 (XT.ushrL (wRA (mk0 x o) r0 f0 0) 63) (XT.ushrL (wFA (mk0 x o) r0 0) 63))) (colS (mtF x o) c) ∧
    Int32.ofNat (o + c len) + ((XT.ushrL (wRA x r1 f1 (XT.ushrL (wFA (mk0 x o) r0 0) 63)) (Int32.ofNat ((o + len - 1) % 64)) &&& 1).toInt32 - (XT.ushrL (wFA x r1 (XT.ushrL (wFA (mk0 x o) r0 0) 63)) (Int32.ofNat ((o + len - 1) % 64)) &&& 1).toInt32) = Int32.ofNat (o + colS (mtF x o) c len) := by
  obtain ⟨h1, h2⟩ := W.step (rel2 (mk0 x o) r0 f0 x r1 f1) h' (fun p hp => by
      have h64 : p < 64 := by omega
      have : ¬ o ≤ p := by omega
      rw [glu, if_pos h64, bt_mk0 h64 ho]; simp [this]) (mt := mtF x o) (fun j hj => by
    unfold glu mtF
    by_cases q : o + j < 64
    · rw [if_pos q, bt_mk0 q ho, Nat.mod_eq_of_lt q]; simp
    · rw [if_neg q]; congr 1; omega)
  refine ⟨h1, ?_⟩
  rw [bit32 _ (by omega), bit32 _ (by omega)]
  have h3 := h2 hl
  have e : ∀ y0 y1 : Int64, glu y0 y1 (o + len - 1) = bt y1 ((o + len - 1) % 64) := by
    intro y0 y1; unfold glu; rw [if_neg (by omega)]; congr 1; omega
  rw [e, e] at h3
  exact own_dist h3
theorem ed_start1 {o len : Nat} (h : o + len ≤ 64) : Win o len (bt (-1)) (bt 0) (fun j => j) := by
  have e1 : ∀ p, p < 64 → bt (-1) p = true := fun p hp => by
    unfold bt; rw [show (-1 : Int64).toBitVec = BitVec.allOnes 64 from by decide, BitVec.getLsbD_allOnes]; simp [hp]
  have e2 : ∀ p, bt 0 p = false := fun p => by simp [bt]
  refine ⟨rfl, fun p hp => ⟨e1 p (by omega), e2 p⟩, fun j hj => ?_⟩
  rw [e1 _ (by omega), e2]; simp [iv]; omega
theorem ed_start2 {o len : Nat} (h : o + len ≤ 128) : Win o len (glu (-1) (-1)) (glu 0 0) (fun j => j) := by
  have e1 : ∀ p, p < 128 → glu (-1) (-1) p = true := fun p hp => by
    unfold glu bt; rw [show (-1 : Int64).toBitVec = BitVec.allOnes 64 from by decide, BitVec.getLsbD_allOnes, BitVec.getLsbD_allOnes]
    split
    · rename_i q; simp [q]
    · have : p - 64 < 64 := by omega
      simp [this]
  have e2 : ∀ p, glu 0 0 p = false := fun p => by simp [glu, bt]
  refine ⟨rfl, fun p hp => ⟨e1 p (by omega), e2 p⟩, fun j hj => ?_⟩
  rw [e1 _ (by omega), e2]; simp [iv]; omega
theorem own_ret_ : ∀ o : Fin 65, ∀ c : Fin 5, ∀ d : Fin 4, (XT.ushr (Int32.ofNat (o.val + c.val) - Int32.ofNat (o.val + d.val) - 1) 31).toInt64 = if d.val < c.val then 0 else 1 := by decide +kernel
theorem own_ret {o c d : Nat} (h1 : o ≤ 64) (h2 : c ≤ 4) (h3 : d ≤ 3) : (XT.ushr (Int32.ofNat (o + c) - Int32.ofNat (o + d) - 1) 31).toInt64 = if d < c then 0 else 1 := own_ret_ ⟨o, by omega⟩ ⟨c, by omega⟩ ⟨d, by omega⟩
theorem own_and63n {n : Nat} (h : n < 2147483648) : Int32.ofNat n &&& 63 = Int32.ofNat (n % 64) := by
  apply Int32.toBitVec_inj.mp
  apply BitVec.eq_of_toNat_eq
  show (BitVec.ofNat 32 n &&& 63#32).toNat = (BitVec.ofNat 32 (n % 64)).toNat
  rw [BitVec.toNat_and, BitVec.toNat_ofNat, BitVec.toNat_ofNat, BitVec.toNat_ofNat, Nat.mod_eq_of_lt (a := n) (by omega), Nat.mod_eq_of_lt (a := n % 64) (by omega)]
  exact Nat.and_two_pow_sub_one_eq_mod n 6
theorem bitF_eq (x : Int64) {q : Nat} (hq : q < 64) : (XT.ushrL x (Int32.ofNat q) &&& 1 = 0) ↔ bt x q = false := by
  have h := and1_cases (XT.ushrL x (Int32.ofNat q))
  rw [bt_ushr _ hq, Nat.add_zero] at h
  rcases h with ⟨h1, h2⟩ | ⟨h1, h2⟩ <;> rw [h1, h2] <;> simp
def cellN (d l b : Nat) (m : Bool) : Nat := min (min (if m = true then d else d + 1) (l + 1)) (b + 1)
theorem own_nmin {a b : Nat} (ha : a < 2147483648) (hb : b < 2147483648) : (if Int32.ofNat b < Int32.ofNat a then Int32.ofNat b else Int32.ofNat a) = Int32.ofNat (min a b) := by
  by_cases q : b < a
  · rw [if_pos ((own_nlt hb ha).mpr q), Nat.min_eq_right (by omega)]
  · rw [if_neg (fun z => q ((own_nlt hb ha).mp z)), Nat.min_eq_left (by omega)]
theorem own_get5 {c : Nat → Nat} : ∀ {n : Nat}, n < 5 → ([Int32.ofNat (c 0), Int32.ofNat (c 1), Int32.ofNat (c 2), Int32.ofNat (c 3), Int32.ofNat (c 4)] : List Int32)[n]? = some (Int32.ofNat (c n))
  | 0, _ => rfl | 1, _ => rfl | 2, _ => rfl | 3, _ => rfl | 4, _ => rfl
theorem D3_0 : Dc method_3_code 0 (.iconst 2) 1 1 := dc (by decide +kernel) rfl
theorem D3_1 : Dc method_3_code 1 (.newarray .long) 2 3 := dc (by decide +kernel) rfl
theorem D3_3 : Dc method_3_code 3 (.astore_n 3) 1 4 := dc (by decide +kernel) rfl
theorem D3_4 : Dc method_3_code 4 (.aload_n 3) 1 5 := dc (by decide +kernel) rfl
theorem D3_5 : Dc method_3_code 5 (.iconst 0) 1 6 := dc (by decide +kernel) rfl
theorem D3_6 : Dc method_3_code 6 (.iload_n 2) 1 7 := dc (by decide +kernel) rfl
theorem D3_7 : Dc method_3_code 7 (.bipush 64) 2 9 := dc (by decide +kernel) rfl
theorem D3_9 : Db method_3_code 9 (.if_icmp .lt) 12 16 := db (7) (by decide +kernel) rfl (by decide) (by decide)
theorem D3_12 : Dc method_3_code 12 (.lconst 0) 1 13 := dc (by decide +kernel) rfl
theorem D3_13 : Db method_3_code 13 (.goto) 16 23 := db (10) (by decide +kernel) rfl (by decide) (by decide)
theorem D3_16 : Dc method_3_code 16 (.lload_n 0) 1 17 := dc (by decide +kernel) rfl
theorem D3_17 : Dc method_3_code 17 (.ldc2_w 33) 3 20 := dc (by decide +kernel) rfl
theorem D3_20 : Dc method_3_code 20 (.iload_n 2) 1 21 := dc (by decide +kernel) rfl
theorem D3_21 : Dc method_3_code 21 (.lshl) 1 22 := dc (by decide +kernel) rfl
theorem D3_22 : Dc method_3_code 22 (.land) 1 23 := dc (by decide +kernel) rfl
theorem D3_23 : Dc method_3_code 23 (.lastore) 1 24 := dc (by decide +kernel) rfl
theorem D3_24 : Dc method_3_code 24 (.aload_n 3) 1 25 := dc (by decide +kernel) rfl
theorem D3_25 : Dc method_3_code 25 (.iconst 1) 1 26 := dc (by decide +kernel) rfl
theorem D3_26 : Dc method_3_code 26 (.lload_n 0) 1 27 := dc (by decide +kernel) rfl
theorem D3_27 : Dc method_3_code 27 (.lastore) 1 28 := dc (by decide +kernel) rfl
theorem D3_28 : Dc method_3_code 28 (.aload_n 3) 1 29 := dc (by decide +kernel) rfl
theorem D3_29 : Dc method_3_code 29 (.areturn) 1 30 := dc (by decide +kernel) rfl
theorem pn_0 : plainName "com/example/bitstride/bitstride/search/EditDistancesStepPinLaw" = true := by first | (simp [plainName, overriddenIn]; done) | decide +kernel
set_option maxRecDepth 65536 in
set_option maxHeartbeats 40000000 in
theorem ct_mask (l : Launch) (Z : State) (a0 : Array Value) (hw : ∀ d ∈ tables_1, d.before a0 Z = true) (n0 : Nat) (h : Heap) (x : Int64) (o : Nat) (σ : List Ch) (H : Hp n0 h σ) :
    Ct l Z n0 (⟨"com/example/bitstride/bitstride/search/EditDistancesStepPinLaw", "maskOf", "(JI)[J"⟩ : MethodName) method_3_code 4 (some (.array .long)) ({ frames := 0, cells := 1, slots := 2, locals := 0 } : Room) [.long x, .int (Int32.ofNat o)] h (fun v h' => ∃ ma : Addr, v = some (.ref ma) ∧ Hp n0 h' ((ma, La Z [mk0 x o, x]) :: σ)) := by
  refine Ct.intro (plainFor_of_name pn_0) [.val (.long x), .second, .val (.int (Int32.ofNat o)), .unset] (fun m => by first | (simp [entryFrame, mkF, argsToLocals, Value.category]; done) | (simp [entryFrame, mkF, argsToLocals, Value.category, maxLocals]; done) | rfl) ?_
  intro k hl K
  replace K : Ok k Z n0 "com/example/bitstride/bitstride/search/EditDistancesStepPinLaw" ({ frames := 0, cells := 1, slots := 2, locals := 0 } : Room) method_3_code 4 (some (.array .long)) "maskOf" := K
  refine G.iconst K D3_0 2 rfl ?_
  refine G.newarr_l K (wd hw 4 rfl) H (by decide) 2 (by decide) (by decide) (by decide) (by decide) D3_1 ?_
  intro a1 h2 H2
  change Hp n0 h2 ((a1, La Z [0, 0]) :: σ) at H2
  refine G.astoreN K D3_3 rfl ([.val (.long x), .second, .val (.int (Int32.ofNat o)), .val (.ref a1)]) rfl ?_
  refine G.aloadN K D3_4 rfl rfl ?_
  refine G.iconst K D3_5 0 rfl ?_
  refine G.iloadN K D3_6 rfl ?_
  refine G.bipush K D3_7 64 rfl ?_
  refine G.icmp_lt K D3_9 (fun q3 => ?_) (fun q3 => ?_)
  · refine G.lloadN K D3_16 rfl ?_
    refine G.ldc2J K D3_17 (wd hw 5 rfl) ?_
    refine G.iloadN K D3_20 rfl ?_
    refine G.lshl K D3_21 ?_
    refine G.land K D3_22 ?_
    refine G.astore_l K H2 (i := 0) rfl (by decide) (Nat.le_of_ble_eq_true rfl) D3_23 ?_
    intro h4 H4
    change Hp n0 h4 ((a1, La Z [(x &&& (((-1) : Int64) <<< ((Int32.ofNat o).toInt64 &&& 63))), 0]) :: σ) at H4
    refine G.aloadN K D3_24 rfl rfl ?_
    refine G.iconst K D3_25 1 rfl ?_
    refine G.lloadN K D3_26 rfl ?_
    refine G.astore_l K H4 (i := 0) rfl (by decide) (Nat.le_of_ble_eq_true rfl) D3_27 ?_
    intro h5 H5
    change Hp n0 h5 ((a1, La Z [(x &&& (((-1) : Int64) <<< ((Int32.ofNat o).toInt64 &&& 63))), x]) :: σ) at H5
    refine G.aloadN K D3_28 rfl rfl ?_
    refine G.ret_ref K rfl rfl D3_29 ?_
    exact ⟨_, rfl, by rw [mk0, if_pos q3]; exact H5⟩
  · refine G.lconst K D3_12 0 rfl ?_
    refine G.goto K D3_13 ?_
    refine G.astore_l K H2 (i := 0) rfl (by decide) (Nat.le_of_ble_eq_true rfl) D3_23 ?_
    intro h6 H6
    change Hp n0 h6 ((a1, La Z [0, 0]) :: σ) at H6
    refine G.aloadN K D3_24 rfl rfl ?_
    refine G.iconst K D3_25 1 rfl ?_
    refine G.lloadN K D3_26 rfl ?_
    refine G.astore_l K H6 (i := 0) rfl (by decide) (Nat.le_of_ble_eq_true rfl) D3_27 ?_
    intro h7 H7
    change Hp n0 h7 ((a1, La Z [0, x]) :: σ) at H7
    refine G.aloadN K D3_28 rfl rfl ?_
    refine G.ret_ref K rfl rfl D3_29 ?_
    exact ⟨_, rfl, by rw [mk0, if_neg q3]; exact H7⟩
theorem D65_101_0 : Dc jdk_65_method_101_code 0 (.iconst 0) 1 1 := dc (by decide +kernel) rfl
theorem D65_101_1 : Dc jdk_65_method_101_code 1 (.istore_n 3) 1 2 := dc (by decide +kernel) rfl
theorem D65_101_2 : Dc jdk_65_method_101_code 2 (.aload_n 0) 1 3 := dc (by decide +kernel) rfl
theorem D65_101_3 : Dc jdk_65_method_101_code 3 (.arraylength) 1 4 := dc (by decide +kernel) rfl
theorem D65_101_4 : Dc jdk_65_method_101_code 4 (.istore 4) 2 6 := dc (by decide +kernel) rfl
theorem D65_101_6 : Dc jdk_65_method_101_code 6 (.iload_n 3) 1 7 := dc (by decide +kernel) rfl
theorem D65_101_7 : Dc jdk_65_method_101_code 7 (.iload 4) 2 9 := dc (by decide +kernel) rfl
theorem D65_101_9 : Db jdk_65_method_101_code 9 (.if_icmp .ge) 12 22 := db (13) (by decide +kernel) rfl (by decide) (by decide)
theorem D65_101_12 : Dc jdk_65_method_101_code 12 (.aload_n 0) 1 13 := dc (by decide +kernel) rfl
theorem D65_101_13 : Dc jdk_65_method_101_code 13 (.iload_n 3) 1 14 := dc (by decide +kernel) rfl
theorem D65_101_14 : Dc jdk_65_method_101_code 14 (.lload_n 1) 1 15 := dc (by decide +kernel) rfl
theorem D65_101_15 : Dc jdk_65_method_101_code 15 (.lastore) 1 16 := dc (by decide +kernel) rfl
theorem D65_101_16 : Dc jdk_65_method_101_code 16 (.iinc 3 1) 3 19 := dc (by decide +kernel) rfl
theorem D65_101_19 : Db jdk_65_method_101_code 19 (.goto) 22 6 := db (-13) (by decide +kernel) rfl (by decide) (by decide)
theorem D65_101_22 : Dc jdk_65_method_101_code 22 (.return_) 1 23 := dc (by decide +kernel) rfl
theorem pf_fill : plainFor (⟨"java/util/Arrays", "fill", "([JJ)V"⟩ : MethodName) = true := by decide +kernel
set_option maxRecDepth 65536 in
set_option maxHeartbeats 40000000 in
theorem ct_fill1 (l : Launch) (Z : State) (a0 : Array Value) (hw : ∀ d ∈ tables_1, d.before a0 Z = true) (n0 : Nat) (h : Heap) (b : Addr) (y z0 : Int64) (σ : List Ch) (H : Hp n0 h ((b, La Z [z0]) :: σ)) :
    Ct l Z n0 (⟨"java/util/Arrays", "fill", "([JJ)V"⟩ : MethodName) jdk_65_method_101_code 5 none ({ frames := 0, cells := 0, slots := 0, locals := 0 } : Room) [.ref b, .long y] h (fun v h' => v = none ∧ Hp n0 h' ((b, La Z [y]) :: σ)) := by
  refine Ct.intro pf_fill [.val (.ref b), .val (.long y), .second, .unset, .unset] (fun m => by first | (simp [entryFrame, mkF, argsToLocals, Value.category]; done) | (simp [entryFrame, mkF, argsToLocals, Value.category, maxLocals]; done) | rfl) ?_
  intro k hl K
  replace K : Ok k Z n0 "java/util/Arrays" ({ frames := 0, cells := 0, slots := 0, locals := 0 } : Room) jdk_65_method_101_code 5 none "fill" := K
  refine G.iconst K D65_101_0 0 rfl ?_
  refine G.istoreN K D65_101_1 ([.val (.ref b), .val (.long y), .second, .val (.int 0), .unset]) rfl ?_
  refine G.aloadN K D65_101_2 rfl rfl ?_
  refine G.alen K H (i := 0) rfl D65_101_3 1 rfl ?_
  refine G.istore K D65_101_4 ([.val (.ref b), .val (.long y), .second, .val (.int 0), .val (.int 1)]) rfl ?_
  refine G.iloadN K D65_101_6 rfl ?_
  refine G.iload K D65_101_7 rfl ?_
  refine G.icmp_ge K D65_101_9 (fun q => absurd q (by decide)) (fun _ => ?_)
  refine G.aloadN K D65_101_12 rfl rfl ?_
  refine G.iloadN K D65_101_13 rfl ?_
  refine G.lloadN K D65_101_14 rfl ?_
  refine G.astore_l K H (i := 0) rfl (by decide) (Nat.le_of_ble_eq_true rfl) D65_101_15 ?_
  intro h9 H9
  change Hp n0 h9 ((b, La Z [y]) :: σ) at H9
  refine G.iinc K D65_101_16 1 rfl rfl ([.val (.ref b), .val (.long y), .second, .val (.int (0 + 1)), .val (.int 1)]) rfl ?_
  change G k n0 _ h9 _ _ 19 [.val (.ref b), .val (.long y), .second, .val (.int 1), .val (.int 1)] []
  refine G.goto K D65_101_19 ?_
  refine G.iloadN K D65_101_6 rfl ?_
  refine G.iload K D65_101_7 rfl ?_
  refine G.icmp_ge K D65_101_9 (fun _ => ?_) (fun q => absurd q (by decide))
  refine G.ret_void K D65_101_22 ?_
  exact ⟨rfl, H9⟩
set_option maxRecDepth 65536 in
set_option maxHeartbeats 40000000 in
theorem ct_fill2 (l : Launch) (Z : State) (a0 : Array Value) (hw : ∀ d ∈ tables_1, d.before a0 Z = true) (n0 : Nat) (h : Heap) (b : Addr) (y z0 z1 : Int64) (σ : List Ch) (H : Hp n0 h ((b, La Z [z0, z1]) :: σ)) :
    Ct l Z n0 (⟨"java/util/Arrays", "fill", "([JJ)V"⟩ : MethodName) jdk_65_method_101_code 5 none ({ frames := 0, cells := 0, slots := 0, locals := 0 } : Room) [.ref b, .long y] h (fun v h' => v = none ∧ Hp n0 h' ((b, La Z [y, y]) :: σ)) := by
  refine Ct.intro pf_fill [.val (.ref b), .val (.long y), .second, .unset, .unset] (fun m => by first | (simp [entryFrame, mkF, argsToLocals, Value.category]; done) | (simp [entryFrame, mkF, argsToLocals, Value.category, maxLocals]; done) | rfl) ?_
  intro k hl K
  replace K : Ok k Z n0 "java/util/Arrays" ({ frames := 0, cells := 0, slots := 0, locals := 0 } : Room) jdk_65_method_101_code 5 none "fill" := K
  refine G.iconst K D65_101_0 0 rfl ?_
  refine G.istoreN K D65_101_1 ([.val (.ref b), .val (.long y), .second, .val (.int 0), .unset]) rfl ?_
  refine G.aloadN K D65_101_2 rfl rfl ?_
  refine G.alen K H (i := 0) rfl D65_101_3 2 rfl ?_
  refine G.istore K D65_101_4 ([.val (.ref b), .val (.long y), .second, .val (.int 0), .val (.int 2)]) rfl ?_
  refine G.iloadN K D65_101_6 rfl ?_
  refine G.iload K D65_101_7 rfl ?_
  refine G.icmp_ge K D65_101_9 (fun q => absurd q (by decide)) (fun _ => ?_)
  refine G.aloadN K D65_101_12 rfl rfl ?_
  refine G.iloadN K D65_101_13 rfl ?_
  refine G.lloadN K D65_101_14 rfl ?_
  refine G.astore_l K H (i := 0) rfl (by decide) (Nat.le_of_ble_eq_true rfl) D65_101_15 ?_
  intro h12 H12
  change Hp n0 h12 ((b, La Z [y, z1]) :: σ) at H12
  refine G.iinc K D65_101_16 1 rfl rfl ([.val (.ref b), .val (.long y), .second, .val (.int (0 + 1)), .val (.int 2)]) rfl ?_
  change G k n0 _ h12 _ _ 19 [.val (.ref b), .val (.long y), .second, .val (.int 1), .val (.int 2)] []
  refine G.goto K D65_101_19 ?_
  refine G.iloadN K D65_101_6 rfl ?_
  refine G.iload K D65_101_7 rfl ?_
  refine G.icmp_ge K D65_101_9 (fun q => absurd q (by decide)) (fun _ => ?_)
  refine G.aloadN K D65_101_12 rfl rfl ?_
  refine G.iloadN K D65_101_13 rfl ?_
  refine G.lloadN K D65_101_14 rfl ?_
  refine G.astore_l K H12 (i := 0) rfl (by decide) (Nat.le_of_ble_eq_true rfl) D65_101_15 ?_
  intro h14 H14
  change Hp n0 h14 ((b, La Z [y, y]) :: σ) at H14
  refine G.iinc K D65_101_16 1 rfl rfl ([.val (.ref b), .val (.long y), .second, .val (.int (1 + 1)), .val (.int 2)]) rfl ?_
  change G k n0 _ h14 _ _ 19 [.val (.ref b), .val (.long y), .second, .val (.int 2), .val (.int 2)] []
  refine G.goto K D65_101_19 ?_
  refine G.iloadN K D65_101_6 rfl ?_
  refine G.iload K D65_101_7 rfl ?_
  refine G.icmp_ge K D65_101_9 (fun _ => ?_) (fun q => absurd q (by decide))
  refine G.ret_void K D65_101_22 ?_
  exact ⟨rfl, H14⟩
theorem D17_1_0 : Dc prog_17_method_1_code 0 (.aload_n 0) 1 1 := dc (by decide +kernel) rfl
theorem D17_1_1 : Dc prog_17_method_1_code 1 (.invokespecial 1) 3 4 := dc (by decide +kernel) rfl
theorem D17_1_4 : Dc prog_17_method_1_code 4 (.aload_n 0) 1 5 := dc (by decide +kernel) rfl
theorem D17_1_5 : Dc prog_17_method_1_code 5 (.iload_n 1) 1 6 := dc (by decide +kernel) rfl
theorem D17_1_6 : Dc prog_17_method_1_code 6 (.newarray .long) 2 8 := dc (by decide +kernel) rfl
theorem D17_1_8 : Dc prog_17_method_1_code 8 (.putfield 7) 3 11 := dc (by decide +kernel) rfl
theorem D17_1_11 : Dc prog_17_method_1_code 11 (.aload_n 0) 1 12 := dc (by decide +kernel) rfl
theorem D17_1_12 : Dc prog_17_method_1_code 12 (.iload_n 1) 1 13 := dc (by decide +kernel) rfl
theorem D17_1_13 : Dc prog_17_method_1_code 13 (.newarray .long) 2 15 := dc (by decide +kernel) rfl
theorem D17_1_15 : Dc prog_17_method_1_code 15 (.putfield 13) 3 18 := dc (by decide +kernel) rfl
theorem D17_1_18 : Dc prog_17_method_1_code 18 (.aload_n 0) 1 19 := dc (by decide +kernel) rfl
theorem D17_1_19 : Dc prog_17_method_1_code 19 (.iload_n 2) 1 20 := dc (by decide +kernel) rfl
theorem D17_1_20 : Dc prog_17_method_1_code 20 (.putfield 16) 3 23 := dc (by decide +kernel) rfl
theorem D17_1_23 : Dc prog_17_method_1_code 23 (.aload_n 0) 1 24 := dc (by decide +kernel) rfl
theorem D17_1_24 : Dc prog_17_method_1_code 24 (.iload_n 2) 1 25 := dc (by decide +kernel) rfl
theorem D17_1_25 : Dc prog_17_method_1_code 25 (.iconst 1) 1 26 := dc (by decide +kernel) rfl
theorem D17_1_26 : Dc prog_17_method_1_code 26 (.isub) 1 27 := dc (by decide +kernel) rfl
theorem D17_1_27 : Dc prog_17_method_1_code 27 (.bipush 64) 2 29 := dc (by decide +kernel) rfl
theorem D17_1_29 : Dc prog_17_method_1_code 29 (.irem) 1 30 := dc (by decide +kernel) rfl
theorem D17_1_30 : Dc prog_17_method_1_code 30 (.putfield 22) 3 33 := dc (by decide +kernel) rfl
theorem D17_1_33 : Dc prog_17_method_1_code 33 (.aload_n 0) 1 34 := dc (by decide +kernel) rfl
theorem D17_1_34 : Dc prog_17_method_1_code 34 (.iload_n 3) 1 35 := dc (by decide +kernel) rfl
theorem D17_1_35 : Dc prog_17_method_1_code 35 (.putfield 25) 3 38 := dc (by decide +kernel) rfl
theorem D17_1_38 : Dc prog_17_method_1_code 38 (.return_) 1 39 := dc (by decide +kernel) rfl
theorem D17_2_0 : Dc prog_17_method_2_code 0 (.aload_n 0) 1 1 := dc (by decide +kernel) rfl
theorem D17_2_1 : Dc prog_17_method_2_code 1 (.getfield 7) 3 4 := dc (by decide +kernel) rfl
theorem D17_2_4 : Dc prog_17_method_2_code 4 (.ldc2_w 28) 3 7 := dc (by decide +kernel) rfl
theorem D17_2_7 : Dc prog_17_method_2_code 7 (.invokestatic 30) 3 10 := dc (by decide +kernel) rfl
theorem D17_2_10 : Dc prog_17_method_2_code 10 (.aload_n 0) 1 11 := dc (by decide +kernel) rfl
theorem D17_2_11 : Dc prog_17_method_2_code 11 (.getfield 13) 3 14 := dc (by decide +kernel) rfl
theorem D17_2_14 : Dc prog_17_method_2_code 14 (.lconst 0) 1 15 := dc (by decide +kernel) rfl
theorem D17_2_15 : Dc prog_17_method_2_code 15 (.invokestatic 30) 3 18 := dc (by decide +kernel) rfl
theorem D17_2_18 : Dc prog_17_method_2_code 18 (.aload_n 0) 1 19 := dc (by decide +kernel) rfl
theorem D17_2_19 : Dc prog_17_method_2_code 19 (.aload_n 0) 1 20 := dc (by decide +kernel) rfl
theorem D17_2_20 : Dc prog_17_method_2_code 20 (.getfield 16) 3 23 := dc (by decide +kernel) rfl
theorem D17_2_23 : Dc prog_17_method_2_code 23 (.putfield 36) 3 26 := dc (by decide +kernel) rfl
theorem D17_2_26 : Dc prog_17_method_2_code 26 (.return_) 1 27 := dc (by decide +kernel) rfl
theorem D17_3_0 : Dc prog_17_method_3_code 0 (.aload_n 0) 1 1 := dc (by decide +kernel) rfl
theorem D17_3_1 : Dc prog_17_method_3_code 1 (.getfield 7) 3 4 := dc (by decide +kernel) rfl
theorem D17_3_4 : Dc prog_17_method_3_code 4 (.astore_n 2) 1 5 := dc (by decide +kernel) rfl
theorem D17_3_5 : Dc prog_17_method_3_code 5 (.aload_n 0) 1 6 := dc (by decide +kernel) rfl
theorem D17_3_6 : Dc prog_17_method_3_code 6 (.getfield 13) 3 9 := dc (by decide +kernel) rfl
theorem D17_3_9 : Dc prog_17_method_3_code 9 (.astore_n 3) 1 10 := dc (by decide +kernel) rfl
theorem D17_3_10 : Dc prog_17_method_3_code 10 (.lconst 0) 1 11 := dc (by decide +kernel) rfl
theorem D17_3_11 : Dc prog_17_method_3_code 11 (.lstore 4) 2 13 := dc (by decide +kernel) rfl
theorem D17_3_13 : Dc prog_17_method_3_code 13 (.lconst 0) 1 14 := dc (by decide +kernel) rfl
theorem D17_3_14 : Dc prog_17_method_3_code 14 (.lstore 6) 2 16 := dc (by decide +kernel) rfl
theorem D17_3_16 : Dc prog_17_method_3_code 16 (.lconst 0) 1 17 := dc (by decide +kernel) rfl
theorem D17_3_17 : Dc prog_17_method_3_code 17 (.lstore 8) 2 19 := dc (by decide +kernel) rfl
theorem D17_3_19 : Dc prog_17_method_3_code 19 (.lconst 0) 1 20 := dc (by decide +kernel) rfl
theorem D17_3_20 : Dc prog_17_method_3_code 20 (.lstore 10) 2 22 := dc (by decide +kernel) rfl
theorem D17_3_22 : Dc prog_17_method_3_code 22 (.iconst 0) 1 23 := dc (by decide +kernel) rfl
theorem D17_3_23 : Dc prog_17_method_3_code 23 (.istore 12) 2 25 := dc (by decide +kernel) rfl
theorem D17_3_25 : Dc prog_17_method_3_code 25 (.iload 12) 2 27 := dc (by decide +kernel) rfl
theorem D17_3_27 : Dc prog_17_method_3_code 27 (.aload_n 2) 1 28 := dc (by decide +kernel) rfl
theorem D17_3_28 : Dc prog_17_method_3_code 28 (.arraylength) 1 29 := dc (by decide +kernel) rfl
theorem D17_3_29 : Db prog_17_method_3_code 29 (.if_icmp .ge) 32 164 := db (135) (by decide +kernel) rfl (by decide) (by decide)
theorem D17_3_32 : Dc prog_17_method_3_code 32 (.aload_n 1) 1 33 := dc (by decide +kernel) rfl
theorem D17_3_33 : Dc prog_17_method_3_code 33 (.iload 12) 2 35 := dc (by decide +kernel) rfl
theorem D17_3_35 : Dc prog_17_method_3_code 35 (.laload) 1 36 := dc (by decide +kernel) rfl
theorem D17_3_36 : Dc prog_17_method_3_code 36 (.lstore 13) 2 38 := dc (by decide +kernel) rfl
theorem D17_3_38 : Dc prog_17_method_3_code 38 (.aload_n 2) 1 39 := dc (by decide +kernel) rfl
theorem D17_3_39 : Dc prog_17_method_3_code 39 (.iload 12) 2 41 := dc (by decide +kernel) rfl
theorem D17_3_41 : Dc prog_17_method_3_code 41 (.laload) 1 42 := dc (by decide +kernel) rfl
theorem D17_3_42 : Dc prog_17_method_3_code 42 (.lstore 15) 2 44 := dc (by decide +kernel) rfl
theorem D17_3_44 : Dc prog_17_method_3_code 44 (.aload_n 3) 1 45 := dc (by decide +kernel) rfl
theorem D17_3_45 : Dc prog_17_method_3_code 45 (.iload 12) 2 47 := dc (by decide +kernel) rfl
theorem D17_3_47 : Dc prog_17_method_3_code 47 (.laload) 1 48 := dc (by decide +kernel) rfl
theorem D17_3_48 : Dc prog_17_method_3_code 48 (.lstore 17) 2 50 := dc (by decide +kernel) rfl
theorem D17_3_50 : Dc prog_17_method_3_code 50 (.lload 13) 2 52 := dc (by decide +kernel) rfl
theorem D17_3_52 : Dc prog_17_method_3_code 52 (.lload 17) 2 54 := dc (by decide +kernel) rfl
theorem D17_3_54 : Dc prog_17_method_3_code 54 (.lor) 1 55 := dc (by decide +kernel) rfl
theorem D17_3_55 : Dc prog_17_method_3_code 55 (.lstore 19) 2 57 := dc (by decide +kernel) rfl
theorem D17_3_57 : Dc prog_17_method_3_code 57 (.lload 13) 2 59 := dc (by decide +kernel) rfl
theorem D17_3_59 : Dc prog_17_method_3_code 59 (.lload 6) 2 61 := dc (by decide +kernel) rfl
theorem D17_3_61 : Dc prog_17_method_3_code 61 (.lor) 1 62 := dc (by decide +kernel) rfl
theorem D17_3_62 : Dc prog_17_method_3_code 62 (.lstore 21) 2 64 := dc (by decide +kernel) rfl
theorem D17_3_64 : Dc prog_17_method_3_code 64 (.lload 21) 2 66 := dc (by decide +kernel) rfl
theorem D17_3_66 : Dc prog_17_method_3_code 66 (.lload 15) 2 68 := dc (by decide +kernel) rfl
theorem D17_3_68 : Dc prog_17_method_3_code 68 (.land) 1 69 := dc (by decide +kernel) rfl
theorem D17_3_69 : Dc prog_17_method_3_code 69 (.lload 15) 2 71 := dc (by decide +kernel) rfl
theorem D17_3_71 : Dc prog_17_method_3_code 71 (.ladd) 1 72 := dc (by decide +kernel) rfl
theorem D17_3_72 : Dc prog_17_method_3_code 72 (.lload 15) 2 74 := dc (by decide +kernel) rfl
theorem D17_3_74 : Dc prog_17_method_3_code 74 (.lxor) 1 75 := dc (by decide +kernel) rfl
theorem D17_3_75 : Dc prog_17_method_3_code 75 (.lload 21) 2 77 := dc (by decide +kernel) rfl
theorem D17_3_77 : Dc prog_17_method_3_code 77 (.lor) 1 78 := dc (by decide +kernel) rfl
theorem D17_3_78 : Dc prog_17_method_3_code 78 (.lstore 23) 2 80 := dc (by decide +kernel) rfl
theorem D17_3_80 : Dc prog_17_method_3_code 80 (.lload 17) 2 82 := dc (by decide +kernel) rfl
theorem D17_3_82 : Dc prog_17_method_3_code 82 (.lload 23) 2 84 := dc (by decide +kernel) rfl
theorem D17_3_84 : Dc prog_17_method_3_code 84 (.lload 15) 2 86 := dc (by decide +kernel) rfl
theorem D17_3_86 : Dc prog_17_method_3_code 86 (.lor) 1 87 := dc (by decide +kernel) rfl
theorem D17_3_87 : Dc prog_17_method_3_code 87 (.ldc2_w 28) 3 90 := dc (by decide +kernel) rfl
theorem D17_3_90 : Dc prog_17_method_3_code 90 (.lxor) 1 91 := dc (by decide +kernel) rfl
theorem D17_3_91 : Dc prog_17_method_3_code 91 (.lor) 1 92 := dc (by decide +kernel) rfl
theorem D17_3_92 : Dc prog_17_method_3_code 92 (.lstore 8) 2 94 := dc (by decide +kernel) rfl
theorem D17_3_94 : Dc prog_17_method_3_code 94 (.lload 15) 2 96 := dc (by decide +kernel) rfl
theorem D17_3_96 : Dc prog_17_method_3_code 96 (.lload 23) 2 98 := dc (by decide +kernel) rfl
theorem D17_3_98 : Dc prog_17_method_3_code 98 (.land) 1 99 := dc (by decide +kernel) rfl
theorem D17_3_99 : Dc prog_17_method_3_code 99 (.lstore 10) 2 101 := dc (by decide +kernel) rfl
theorem D17_3_101 : Dc prog_17_method_3_code 101 (.lload 8) 2 103 := dc (by decide +kernel) rfl
theorem D17_3_103 : Dc prog_17_method_3_code 103 (.iconst 1) 1 104 := dc (by decide +kernel) rfl
theorem D17_3_104 : Dc prog_17_method_3_code 104 (.lshl) 1 105 := dc (by decide +kernel) rfl
theorem D17_3_105 : Dc prog_17_method_3_code 105 (.lload 4) 2 107 := dc (by decide +kernel) rfl
theorem D17_3_107 : Dc prog_17_method_3_code 107 (.lor) 1 108 := dc (by decide +kernel) rfl
theorem D17_3_108 : Dc prog_17_method_3_code 108 (.lstore 25) 2 110 := dc (by decide +kernel) rfl
theorem D17_3_110 : Dc prog_17_method_3_code 110 (.lload 10) 2 112 := dc (by decide +kernel) rfl
theorem D17_3_112 : Dc prog_17_method_3_code 112 (.iconst 1) 1 113 := dc (by decide +kernel) rfl
theorem D17_3_113 : Dc prog_17_method_3_code 113 (.lshl) 1 114 := dc (by decide +kernel) rfl
theorem D17_3_114 : Dc prog_17_method_3_code 114 (.lload 6) 2 116 := dc (by decide +kernel) rfl
theorem D17_3_116 : Dc prog_17_method_3_code 116 (.lor) 1 117 := dc (by decide +kernel) rfl
theorem D17_3_117 : Dc prog_17_method_3_code 117 (.lstore 27) 2 119 := dc (by decide +kernel) rfl
theorem D17_3_119 : Dc prog_17_method_3_code 119 (.lload 8) 2 121 := dc (by decide +kernel) rfl
theorem D17_3_121 : Dc prog_17_method_3_code 121 (.bipush 63) 2 123 := dc (by decide +kernel) rfl
theorem D17_3_123 : Dc prog_17_method_3_code 123 (.lushr) 1 124 := dc (by decide +kernel) rfl
theorem D17_3_124 : Dc prog_17_method_3_code 124 (.lstore 4) 2 126 := dc (by decide +kernel) rfl
theorem D17_3_126 : Dc prog_17_method_3_code 126 (.lload 10) 2 128 := dc (by decide +kernel) rfl
theorem D17_3_128 : Dc prog_17_method_3_code 128 (.bipush 63) 2 130 := dc (by decide +kernel) rfl
theorem D17_3_130 : Dc prog_17_method_3_code 130 (.lushr) 1 131 := dc (by decide +kernel) rfl
theorem D17_3_131 : Dc prog_17_method_3_code 131 (.lstore 6) 2 133 := dc (by decide +kernel) rfl
theorem D17_3_133 : Dc prog_17_method_3_code 133 (.aload_n 2) 1 134 := dc (by decide +kernel) rfl
theorem D17_3_134 : Dc prog_17_method_3_code 134 (.iload 12) 2 136 := dc (by decide +kernel) rfl
theorem D17_3_136 : Dc prog_17_method_3_code 136 (.lload 27) 2 138 := dc (by decide +kernel) rfl
theorem D17_3_138 : Dc prog_17_method_3_code 138 (.lload 19) 2 140 := dc (by decide +kernel) rfl
theorem D17_3_140 : Dc prog_17_method_3_code 140 (.lload 25) 2 142 := dc (by decide +kernel) rfl
theorem D17_3_142 : Dc prog_17_method_3_code 142 (.lor) 1 143 := dc (by decide +kernel) rfl
theorem D17_3_143 : Dc prog_17_method_3_code 143 (.ldc2_w 28) 3 146 := dc (by decide +kernel) rfl
theorem D17_3_146 : Dc prog_17_method_3_code 146 (.lxor) 1 147 := dc (by decide +kernel) rfl
theorem D17_3_147 : Dc prog_17_method_3_code 147 (.lor) 1 148 := dc (by decide +kernel) rfl
theorem D17_3_148 : Dc prog_17_method_3_code 148 (.lastore) 1 149 := dc (by decide +kernel) rfl
theorem D17_3_149 : Dc prog_17_method_3_code 149 (.aload_n 3) 1 150 := dc (by decide +kernel) rfl
theorem D17_3_150 : Dc prog_17_method_3_code 150 (.iload 12) 2 152 := dc (by decide +kernel) rfl
theorem D17_3_152 : Dc prog_17_method_3_code 152 (.lload 25) 2 154 := dc (by decide +kernel) rfl
theorem D17_3_154 : Dc prog_17_method_3_code 154 (.lload 19) 2 156 := dc (by decide +kernel) rfl
theorem D17_3_156 : Dc prog_17_method_3_code 156 (.land) 1 157 := dc (by decide +kernel) rfl
theorem D17_3_157 : Dc prog_17_method_3_code 157 (.lastore) 1 158 := dc (by decide +kernel) rfl
theorem D17_3_158 : Dc prog_17_method_3_code 158 (.iinc 12 1) 3 161 := dc (by decide +kernel) rfl
theorem D17_3_161 : Db prog_17_method_3_code 161 (.goto) 164 25 := db (-136) (by decide +kernel) rfl (by decide) (by decide)
theorem D17_3_164 : Dc prog_17_method_3_code 164 (.aload_n 0) 1 165 := dc (by decide +kernel) rfl
theorem D17_3_165 : Dc prog_17_method_3_code 165 (.dup) 1 166 := dc (by decide +kernel) rfl
theorem D17_3_166 : Dc prog_17_method_3_code 166 (.getfield 36) 3 169 := dc (by decide +kernel) rfl
theorem D17_3_169 : Dc prog_17_method_3_code 169 (.lload 8) 2 171 := dc (by decide +kernel) rfl
theorem D17_3_171 : Dc prog_17_method_3_code 171 (.aload_n 0) 1 172 := dc (by decide +kernel) rfl
theorem D17_3_172 : Dc prog_17_method_3_code 172 (.getfield 22) 3 175 := dc (by decide +kernel) rfl
theorem D17_3_175 : Dc prog_17_method_3_code 175 (.lushr) 1 176 := dc (by decide +kernel) rfl
theorem D17_3_176 : Dc prog_17_method_3_code 176 (.lconst 1) 1 177 := dc (by decide +kernel) rfl
theorem D17_3_177 : Dc prog_17_method_3_code 177 (.land) 1 178 := dc (by decide +kernel) rfl
theorem D17_3_178 : Dc prog_17_method_3_code 178 (.l2i) 1 179 := dc (by decide +kernel) rfl
theorem D17_3_179 : Dc prog_17_method_3_code 179 (.lload 10) 2 181 := dc (by decide +kernel) rfl
theorem D17_3_181 : Dc prog_17_method_3_code 181 (.aload_n 0) 1 182 := dc (by decide +kernel) rfl
theorem D17_3_182 : Dc prog_17_method_3_code 182 (.getfield 22) 3 185 := dc (by decide +kernel) rfl
theorem D17_3_185 : Dc prog_17_method_3_code 185 (.lushr) 1 186 := dc (by decide +kernel) rfl
theorem D17_3_186 : Dc prog_17_method_3_code 186 (.lconst 1) 1 187 := dc (by decide +kernel) rfl
theorem D17_3_187 : Dc prog_17_method_3_code 187 (.land) 1 188 := dc (by decide +kernel) rfl
theorem D17_3_188 : Dc prog_17_method_3_code 188 (.l2i) 1 189 := dc (by decide +kernel) rfl
theorem D17_3_189 : Dc prog_17_method_3_code 189 (.isub) 1 190 := dc (by decide +kernel) rfl
theorem D17_3_190 : Dc prog_17_method_3_code 190 (.iadd) 1 191 := dc (by decide +kernel) rfl
theorem D17_3_191 : Dc prog_17_method_3_code 191 (.putfield 36) 3 194 := dc (by decide +kernel) rfl
theorem D17_3_194 : Dc prog_17_method_3_code 194 (.aload_n 0) 1 195 := dc (by decide +kernel) rfl
theorem D17_3_195 : Dc prog_17_method_3_code 195 (.getfield 36) 3 198 := dc (by decide +kernel) rfl
theorem D17_3_198 : Dc prog_17_method_3_code 198 (.aload_n 0) 1 199 := dc (by decide +kernel) rfl
theorem D17_3_199 : Dc prog_17_method_3_code 199 (.getfield 25) 3 202 := dc (by decide +kernel) rfl
theorem D17_3_202 : Dc prog_17_method_3_code 202 (.isub) 1 203 := dc (by decide +kernel) rfl
theorem D17_3_203 : Dc prog_17_method_3_code 203 (.iconst 1) 1 204 := dc (by decide +kernel) rfl
theorem D17_3_204 : Dc prog_17_method_3_code 204 (.isub) 1 205 := dc (by decide +kernel) rfl
theorem D17_3_205 : Dc prog_17_method_3_code 205 (.bipush 31) 2 207 := dc (by decide +kernel) rfl
theorem D17_3_207 : Dc prog_17_method_3_code 207 (.iushr) 1 208 := dc (by decide +kernel) rfl
theorem D17_3_208 : Dc prog_17_method_3_code 208 (.i2l) 1 209 := dc (by decide +kernel) rfl
theorem D17_3_209 : Dc prog_17_method_3_code 209 (.lreturn) 1 210 := dc (by decide +kernel) rfl
theorem pn_1 : plainName "com/example/bitstride/bitstride/search/EditDistances" = true := by first | (simp [plainName, overriddenIn]; done) | decide +kernel
set_option maxRecDepth 65536 in
set_option maxHeartbeats 40000000 in
theorem ct_init1 (l : Launch) (Z : State) (a0 : Array Value) (hw : ∀ d ∈ tables_1, d.before a0 Z = true) (n0 : Nat) (h : Heap) (a : Addr) (n : Nat) (me : Int32) (σ : List Ch) (hn : 1 ≤ n) (hn2 : n ≤ 128) (H : Hp n0 h ((a, Ob Z "com/example/bitstride/bitstride/search/EditDistances" NSE [.null, .null, .int 0, .int 0, .int 0, .int 0]) :: σ)) :
    Ct l Z n0 (⟨"com/example/bitstride/bitstride/search/EditDistances", "<init>", "(III)V"⟩ : MethodName) prog_17_method_1_code 4 none ({ frames := 1, cells := 2, slots := 2, locals := 12 } : Room) [.ref a, .int 1, .int (Int32.ofNat n), .int me] h (fun v h' => v = none ∧ ∃ ra fa : Addr, Hp n0 h' ((a, Ob Z "com/example/bitstride/bitstride/search/EditDistances" NSE [.ref ra, .ref fa, .int (Int32.ofNat n), .int (Int32.ofNat ((n - 1) % 64)), .int me, .int 0]) :: (ra, La Z [0]) :: (fa, La Z [0]) :: σ)) := by
  refine Ct.intro (plainFor_of_name pn_1) [.val (.ref a), .val (.int 1), .val (.int (Int32.ofNat n)), .val (.int me)] (fun m => by first | (simp [entryFrame, mkF, argsToLocals, Value.category]; done) | (simp [entryFrame, mkF, argsToLocals, Value.category, maxLocals]; done) | rfl) ?_
  intro k hl K
  replace K : Ok k Z n0 "com/example/bitstride/bitstride/search/EditDistances" ({ frames := 1, cells := 2, slots := 2, locals := 12 } : Room) prog_17_method_1_code 4 none "<init>" := K
  refine G.aloadN K D17_1_0 rfl rfl ?_
  refine G.initO K (wd hw 13 rfl) (wd hw 14 rfl) (wd hw 15 rfl) rfl 0 rfl (by decide) (by decide) D17_1_1 ?_
  refine G.aloadN K D17_1_4 rfl rfl ?_
  refine G.iloadN K D17_1_5 rfl ?_
  refine G.newarr_l K (wd hw 4 rfl) H (by decide) 1 (by decide) (by decide) (by decide) (by decide) D17_1_6 ?_
  intro a16 h17 H17
  change Hp n0 h17 ((a16, La Z [0]) :: (a, Ob Z "com/example/bitstride/bitstride/search/EditDistances" NSE [.null, .null, .int 0, .int 0, .int 0, .int 0]) :: σ) at H17
  refine G.putF K (host := "") (Or.inl (wd hw 16 rfl)) (cf_NSE hw) (Or.inr ⟨(wd hw 17 rfl), rfl, rfl⟩) (wd hw 8 rfl) H17 (i := 1) rfl (j := 0) rfl rfl (ty := (.array .long)) (by decide) rfl rfl D17_1_8 ?_
  intro h18 H18
  change Hp n0 h18 ((a16, La Z [0]) :: (a, Ob Z "com/example/bitstride/bitstride/search/EditDistances" NSE [.ref a16, .null, .int 0, .int 0, .int 0, .int 0]) :: σ) at H18
  refine G.aloadN K D17_1_11 rfl rfl ?_
  refine G.iloadN K D17_1_12 rfl ?_
  refine G.newarr_l K (wd hw 4 rfl) H18 (by decide) 1 (by decide) (by decide) (by decide) (by decide) D17_1_13 ?_
  intro a19 h20 H20
  change Hp n0 h20 ((a19, La Z [0]) :: (a16, La Z [0]) :: (a, Ob Z "com/example/bitstride/bitstride/search/EditDistances" NSE [.ref a16, .null, .int 0, .int 0, .int 0, .int 0]) :: σ) at H20
  refine G.putF K (host := "") (Or.inl (wd hw 18 rfl)) (cf_NSE hw) (Or.inr ⟨(wd hw 19 rfl), rfl, rfl⟩) (wd hw 8 rfl) H20 (i := 2) rfl (j := 1) rfl rfl (ty := (.array .long)) (by decide) rfl rfl D17_1_15 ?_
  intro h21 H21
  change Hp n0 h21 ((a19, La Z [0]) :: (a16, La Z [0]) :: (a, Ob Z "com/example/bitstride/bitstride/search/EditDistances" NSE [.ref a16, .ref a19, .int 0, .int 0, .int 0, .int 0]) :: σ) at H21
  refine G.aloadN K D17_1_18 rfl rfl ?_
  refine G.iloadN K D17_1_19 rfl ?_
  refine G.putF K (host := "") (Or.inl (wd hw 20 rfl)) (cf_NSE hw) (Or.inr ⟨(wd hw 21 rfl), rfl, rfl⟩) (wd hw 8 rfl) H21 (i := 2) rfl (j := 2) rfl rfl (ty := .int) (by decide) rfl rfl D17_1_20 ?_
  intro h22 H22
  change Hp n0 h22 ((a19, La Z [0]) :: (a16, La Z [0]) :: (a, Ob Z "com/example/bitstride/bitstride/search/EditDistances" NSE [.ref a16, .ref a19, .int (Int32.ofNat n), .int 0, .int 0, .int 0]) :: σ) at H22
  refine G.aloadN K D17_1_23 rfl rfl ?_
  refine G.iloadN K D17_1_24 rfl ?_
  refine G.iconst K D17_1_25 1 rfl ?_
  refine G.isub K D17_1_26 ?_
  refine G.bipush K D17_1_27 64 rfl ?_
  refine G.irem K D17_1_29 (by decide) ?_
  rw [show Int32.ofNat n - 1 = Int32.ofNat (n - 1) from own_nsub (i := n) (j := 1) hn, show Int32.ofNat (n - 1) % 64 = Int32.ofNat ((n - 1) % 64) from own_nmod (n := 64) (by omega) (by decide)]
  refine G.putF K (host := "") (Or.inl (wd hw 22 rfl)) (cf_NSE hw) (Or.inr ⟨(wd hw 23 rfl), rfl, rfl⟩) (wd hw 8 rfl) H22 (i := 2) rfl (j := 3) rfl rfl (ty := .int) (by decide) rfl rfl D17_1_30 ?_
  intro h23 H23
  change Hp n0 h23 ((a19, La Z [0]) :: (a16, La Z [0]) :: (a, Ob Z "com/example/bitstride/bitstride/search/EditDistances" NSE [.ref a16, .ref a19, .int (Int32.ofNat n), .int (Int32.ofNat ((n - 1) % 64)), .int 0, .int 0]) :: σ) at H23
  refine G.aloadN K D17_1_33 rfl rfl ?_
  refine G.iloadN K D17_1_34 rfl ?_
  refine G.putF K (host := "") (Or.inl (wd hw 24 rfl)) (cf_NSE hw) (Or.inr ⟨(wd hw 25 rfl), rfl, rfl⟩) (wd hw 8 rfl) H23 (i := 2) rfl (j := 4) rfl rfl (ty := .int) (by decide) rfl rfl D17_1_35 ?_
  intro h24 H24
  change Hp n0 h24 ((a19, La Z [0]) :: (a16, La Z [0]) :: (a, Ob Z "com/example/bitstride/bitstride/search/EditDistances" NSE [.ref a16, .ref a19, .int (Int32.ofNat n), .int (Int32.ofNat ((n - 1) % 64)), .int me, .int 0]) :: σ) at H24
  refine G.ret_void K D17_1_38 ?_
  have H25 : Hp n0 h24 ((a16, La Z [0]) :: (a19, La Z [0]) :: (a, Ob Z "com/example/bitstride/bitstride/search/EditDistances" NSE [.ref a16, .ref a19, .int (Int32.ofNat n), .int (Int32.ofNat ((n - 1) % 64)), .int me, .int 0]) :: σ) := H24.pull 1 rfl
  have H26 : Hp n0 h24 ((a, Ob Z "com/example/bitstride/bitstride/search/EditDistances" NSE [.ref a16, .ref a19, .int (Int32.ofNat n), .int (Int32.ofNat ((n - 1) % 64)), .int me, .int 0]) :: (a16, La Z [0]) :: (a19, La Z [0]) :: σ) := H25.pull 2 rfl
  exact ⟨rfl, _, _, H26⟩
set_option maxRecDepth 65536 in
set_option maxHeartbeats 40000000 in
theorem ct_restart1 (l : Launch) (Z : State) (a0 : Array Value) (hw : ∀ d ∈ tables_1, d.before a0 Z = true) (n0 : Nat) (h : Heap) (a ra fa : Addr) (ln lb me di : Int32) (r0 f0 : Int64) (σ : List Ch) (H : Hp n0 h ((a, Ob Z "com/example/bitstride/bitstride/search/EditDistances" NSE [.ref ra, .ref fa, .int ln, .int lb, .int me, .int di]) :: (ra, La Z [r0]) :: (fa, La Z [f0]) :: σ)) :
    Ct l Z n0 (⟨"com/example/bitstride/bitstride/search/EditDistances", "restart", "()V"⟩ : MethodName) prog_17_method_2_code 1 none ({ frames := 1, cells := 0, slots := 0, locals := 17 } : Room) [.ref a] h (fun v h' => v = none ∧ Hp n0 h' ((a, Ob Z "com/example/bitstride/bitstride/search/EditDistances" NSE [.ref ra, .ref fa, .int ln, .int lb, .int me, .int ln]) :: (ra, La Z [(-1)]) :: (fa, La Z [0]) :: σ)) := by
  refine Ct.intro (plainFor_of_name pn_1) [.val (.ref a)] (fun m => by first | (simp [entryFrame, mkF, argsToLocals, Value.category]; done) | (simp [entryFrame, mkF, argsToLocals, Value.category, maxLocals]; done) | rfl) ?_
  intro k hl K
  replace K : Ok k Z n0 "com/example/bitstride/bitstride/search/EditDistances" ({ frames := 1, cells := 0, slots := 0, locals := 17 } : Room) prog_17_method_2_code 1 none "restart" := K
  refine G.aloadN K D17_2_0 rfl rfl ?_
  refine G.getF K (host := "") (Or.inl (wd hw 16 rfl)) H (i := 0) rfl (j := 0) rfl rfl D17_2_1 ?_
  refine G.ldc2J K D17_2_4 (wd hw 31 rfl) ?_
  have H27 : Hp n0 h ((ra, La Z [r0]) :: (a, Ob Z "com/example/bitstride/bitstride/search/EditDistances" NSE [.ref ra, .ref fa, .int ln, .int lb, .int me, .int di]) :: (fa, La Z [f0]) :: σ) := H.pull 1 rfl
  refine G.callS K hl (wd hw 32 rfl) (wd hw 33 rfl) (wd hw 34 rfl) (wd hw 35 rfl) (by decide) pd_0 (ct_fill1 l Z a0 hw n0 h ra (-1) r0 ((a, Ob Z "com/example/bitstride/bitstride/search/EditDistances" NSE [.ref ra, .ref fa, .int ln, .int lb, .int me, .int di]) :: (fa, La Z [f0]) :: σ) H27) 0 rfl (by decide) (by decide) (by decide) (by decide) rfl rfl [.long (-1), .ref ra] rfl D17_2_7 ?_
  rintro _ h28 ⟨rfl, H28⟩
  change G k n0 _ h28 _ _ 10 [.val (.ref a)] []
  refine G.aloadN K D17_2_10 rfl rfl ?_
  refine G.getF K (host := "") (Or.inl (wd hw 18 rfl)) H28 (i := 1) rfl (j := 1) rfl rfl D17_2_11 ?_
  refine G.lconst K D17_2_14 0 rfl ?_
  have H29 : Hp n0 h28 ((fa, La Z [f0]) :: (ra, La Z [(-1)]) :: (a, Ob Z "com/example/bitstride/bitstride/search/EditDistances" NSE [.ref ra, .ref fa, .int ln, .int lb, .int me, .int di]) :: σ) := H28.pull 2 rfl
  refine G.callS K hl (wd hw 32 rfl) (wd hw 33 rfl) (wd hw 34 rfl) (wd hw 35 rfl) (by decide) pd_0 (ct_fill1 l Z a0 hw n0 h28 fa 0 f0 ((ra, La Z [(-1)]) :: (a, Ob Z "com/example/bitstride/bitstride/search/EditDistances" NSE [.ref ra, .ref fa, .int ln, .int lb, .int me, .int di]) :: σ) H29) 0 rfl (by decide) (by decide) (by decide) (by decide) rfl rfl [.long 0, .ref fa] rfl D17_2_15 ?_
  rintro _ h30 ⟨rfl, H30⟩
  change G k n0 _ h30 _ _ 18 [.val (.ref a)] []
  refine G.aloadN K D17_2_18 rfl rfl ?_
  refine G.aloadN K D17_2_19 rfl rfl ?_
  refine G.getF K (host := "") (Or.inl (wd hw 20 rfl)) H30 (i := 2) rfl (j := 2) rfl rfl D17_2_20 ?_
  refine G.putF K (host := "") (Or.inl (wd hw 36 rfl)) (cf_NSE hw) (Or.inl (wd hw 37 rfl)) (wd hw 8 rfl) H30 (i := 2) rfl (j := 5) rfl rfl (ty := .int) (by decide) rfl rfl D17_2_23 ?_
  intro h31 H31
  change Hp n0 h31 ((fa, La Z [0]) :: (ra, La Z [(-1)]) :: (a, Ob Z "com/example/bitstride/bitstride/search/EditDistances" NSE [.ref ra, .ref fa, .int ln, .int lb, .int me, .int ln]) :: σ) at H31
  refine G.ret_void K D17_2_26 ?_
  have H32 : Hp n0 h31 ((ra, La Z [(-1)]) :: (fa, La Z [0]) :: (a, Ob Z "com/example/bitstride/bitstride/search/EditDistances" NSE [.ref ra, .ref fa, .int ln, .int lb, .int me, .int ln]) :: σ) := H31.pull 1 rfl
  have H33 : Hp n0 h31 ((a, Ob Z "com/example/bitstride/bitstride/search/EditDistances" NSE [.ref ra, .ref fa, .int ln, .int lb, .int me, .int ln]) :: (ra, La Z [(-1)]) :: (fa, La Z [0]) :: σ) := H32.pull 2 rfl
  exact ⟨rfl, H33⟩
set_option maxRecDepth 65536 in
set_option maxHeartbeats 40000000 in
theorem ct_step1 (l : Launch) (Z : State) (a0 : Array Value) (hw : ∀ d ∈ tables_1, d.before a0 Z = true) (n0 : Nat) (h : Heap) (a ra fa : Addr) (ln lb me di : Int32) (r0 f0 : Int64) (ma : Addr) (m0 m1 : Int64) (σ : List Ch) (H : Hp n0 h ((a, Ob Z "com/example/bitstride/bitstride/search/EditDistances" NSE [.ref ra, .ref fa, .int ln, .int lb, .int me, .int di]) :: (ra, La Z [r0]) :: (fa, La Z [f0]) :: (ma, La Z [m0, m1]) :: σ)) :
    Ct l Z n0 (⟨"com/example/bitstride/bitstride/search/EditDistances", "step", "([J)J"⟩ : MethodName) prog_17_method_3_code 29 (some .long) ({ frames := 0, cells := 0, slots := 0, locals := 0 } : Room) [.ref a, .ref ma] h (fun v h' => v = some (.long (XT.ushr ((di + ((XT.ushrL (wRA m0 r0 f0 0) lb &&& 1).toInt32 - (XT.ushrL (wFA m0 r0 0) lb &&& 1).toInt32)) - me - 1) 31).toInt64) ∧ Hp n0 h' ((a, Ob Z "com/example/bitstride/bitstride/search/EditDistances" NSE [.ref ra, .ref fa, .int ln, .int lb, .int me, .int (di + ((XT.ushrL (wRA m0 r0 f0 0) lb &&& 1).toInt32 - (XT.ushrL (wFA m0 r0 0) lb &&& 1).toInt32))]) :: (ra, La Z [(wR m0 r0 f0 0 0)]) :: (fa, La Z [(wF m0 r0 f0 0 0)]) :: (ma, La Z [m0, m1]) :: σ)) := by
  refine Ct.intro (plainFor_of_name pn_1) [.val (.ref a), .val (.ref ma), .unset, .unset, .unset, .unset, .unset, .unset, .unset, .unset, .unset, .unset, .unset, .unset, .unset, .unset, .unset, .unset, .unset, .unset, .unset, .unset, .unset, .unset, .unset, .unset, .unset, .unset, .unset] (fun m => by first | (simp [entryFrame, mkF, argsToLocals, Value.category]; done) | (simp [entryFrame, mkF, argsToLocals, Value.category, maxLocals]; done) | rfl) ?_
  intro k hl K
  replace K : Ok k Z n0 "com/example/bitstride/bitstride/search/EditDistances" ({ frames := 0, cells := 0, slots := 0, locals := 0 } : Room) prog_17_method_3_code 29 (some .long) "step" := K
  refine G.aloadN K D17_3_0 rfl rfl ?_
  refine G.getF K (host := "") (Or.inl (wd hw 16 rfl)) H (i := 0) rfl (j := 0) rfl rfl D17_3_1 ?_
  refine G.astoreN K D17_3_4 rfl ([.val (.ref a), .val (.ref ma), .val (.ref ra), .unset, .unset, .unset, .unset, .unset, .unset, .unset, .unset, .unset, .unset, .unset, .unset, .unset, .unset, .unset, .unset, .unset, .unset, .unset, .unset, .unset, .unset, .unset, .unset, .unset, .unset]) rfl ?_
  refine G.aloadN K D17_3_5 rfl rfl ?_
  refine G.getF K (host := "") (Or.inl (wd hw 18 rfl)) H (i := 0) rfl (j := 1) rfl rfl D17_3_6 ?_
  refine G.astoreN K D17_3_9 rfl ([.val (.ref a), .val (.ref ma), .val (.ref ra), .val (.ref fa), .unset, .unset, .unset, .unset, .unset, .unset, .unset, .unset, .unset, .unset, .unset, .unset, .unset, .unset, .unset, .unset, .unset, .unset, .unset, .unset, .unset, .unset, .unset, .unset, .unset]) rfl ?_
  refine G.lconst K D17_3_10 0 rfl ?_
  refine G.lstore K D17_3_11 ([.val (.ref a), .val (.ref ma), .val (.ref ra), .val (.ref fa), .val (.long 0), .second, .unset, .unset, .unset, .unset, .unset, .unset, .unset, .unset, .unset, .unset, .unset, .unset, .unset, .unset, .unset, .unset, .unset, .unset, .unset, .unset, .unset, .unset, .unset]) rfl ?_
  refine G.lconst K D17_3_13 0 rfl ?_
  refine G.lstore K D17_3_14 ([.val (.ref a), .val (.ref ma), .val (.ref ra), .val (.ref fa), .val (.long 0), .second, .val (.long 0), .second, .unset, .unset, .unset, .unset, .unset, .unset, .unset, .unset, .unset, .unset, .unset, .unset, .unset, .unset, .unset, .unset, .unset, .unset, .unset, .unset, .unset]) rfl ?_
  refine G.lconst K D17_3_16 0 rfl ?_
  refine G.lstore K D17_3_17 ([.val (.ref a), .val (.ref ma), .val (.ref ra), .val (.ref fa), .val (.long 0), .second, .val (.long 0), .second, .val (.long 0), .second, .unset, .unset, .unset, .unset, .unset, .unset, .unset, .unset, .unset, .unset, .unset, .unset, .unset, .unset, .unset, .unset, .unset, .unset, .unset]) rfl ?_
  refine G.lconst K D17_3_19 0 rfl ?_
  refine G.lstore K D17_3_20 ([.val (.ref a), .val (.ref ma), .val (.ref ra), .val (.ref fa), .val (.long 0), .second, .val (.long 0), .second, .val (.long 0), .second, .val (.long 0), .second, .unset, .unset, .unset, .unset, .unset, .unset, .unset, .unset, .unset, .unset, .unset, .unset, .unset, .unset, .unset, .unset, .unset]) rfl ?_
  refine G.iconst K D17_3_22 0 rfl ?_
  refine G.istore K D17_3_23 ([.val (.ref a), .val (.ref ma), .val (.ref ra), .val (.ref fa), .val (.long 0), .second, .val (.long 0), .second, .val (.long 0), .second, .val (.long 0), .second, .val (.int 0), .unset, .unset, .unset, .unset, .unset, .unset, .unset, .unset, .unset, .unset, .unset, .unset, .unset, .unset, .unset, .unset]) rfl ?_
  refine G.iload K D17_3_25 rfl ?_
  refine G.aloadN K D17_3_27 rfl rfl ?_
  refine G.alen K H (i := 1) rfl D17_3_28 1 rfl ?_
  refine G.icmp_ge K D17_3_29 (fun q => absurd q (by decide)) (fun _ => ?_)
  refine G.aloadN K D17_3_32 rfl rfl ?_
  refine G.iload K D17_3_33 rfl ?_
  refine G.aload_l K H (i := 3) rfl (by decide) rfl D17_3_35 ?_
  refine G.lstore K D17_3_36 ([.val (.ref a), .val (.ref ma), .val (.ref ra), .val (.ref fa), .val (.long 0), .second, .val (.long 0), .second, .val (.long 0), .second, .val (.long 0), .second, .val (.int 0), .val (.long m0), .second, .unset, .unset, .unset, .unset, .unset, .unset, .unset, .unset, .unset, .unset, .unset, .unset, .unset, .unset]) rfl ?_
  refine G.aloadN K D17_3_38 rfl rfl ?_
  refine G.iload K D17_3_39 rfl ?_
  refine G.aload_l K H (i := 1) rfl (by decide) rfl D17_3_41 ?_
  refine G.lstore K D17_3_42 ([.val (.ref a), .val (.ref ma), .val (.ref ra), .val (.ref fa), .val (.long 0), .second, .val (.long 0), .second, .val (.long 0), .second, .val (.long 0), .second, .val (.int 0), .val (.long m0), .second, .val (.long r0), .second, .unset, .unset, .unset, .unset, .unset, .unset, .unset, .unset, .unset, .unset, .unset, .unset]) rfl ?_
  refine G.aloadN K D17_3_44 rfl rfl ?_
  refine G.iload K D17_3_45 rfl ?_
  refine G.aload_l K H (i := 2) rfl (by decide) rfl D17_3_47 ?_
  refine G.lstore K D17_3_48 ([.val (.ref a), .val (.ref ma), .val (.ref ra), .val (.ref fa), .val (.long 0), .second, .val (.long 0), .second, .val (.long 0), .second, .val (.long 0), .second, .val (.int 0), .val (.long m0), .second, .val (.long r0), .second, .val (.long f0), .second, .unset, .unset, .unset, .unset, .unset, .unset, .unset, .unset, .unset, .unset]) rfl ?_
  refine G.lload K D17_3_50 rfl ?_
  refine G.lload K D17_3_52 rfl ?_
  refine G.lor K D17_3_54 ?_
  refine G.lstore K D17_3_55 ([.val (.ref a), .val (.ref ma), .val (.ref ra), .val (.ref fa), .val (.long 0), .second, .val (.long 0), .second, .val (.long 0), .second, .val (.long 0), .second, .val (.int 0), .val (.long m0), .second, .val (.long r0), .second, .val (.long f0), .second, .val (.long (m0 ||| f0)), .second, .unset, .unset, .unset, .unset, .unset, .unset, .unset, .unset]) rfl ?_
  refine G.lload K D17_3_57 rfl ?_
  refine G.lload K D17_3_59 rfl ?_
  refine G.lor K D17_3_61 ?_
  refine G.lstore K D17_3_62 ([.val (.ref a), .val (.ref ma), .val (.ref ra), .val (.ref fa), .val (.long 0), .second, .val (.long 0), .second, .val (.long 0), .second, .val (.long 0), .second, .val (.int 0), .val (.long m0), .second, .val (.long r0), .second, .val (.long f0), .second, .val (.long (m0 ||| f0)), .second, .val (.long (m0 ||| 0)), .second, .unset, .unset, .unset, .unset, .unset, .unset]) rfl ?_
  refine G.lload K D17_3_64 rfl ?_
  refine G.lload K D17_3_66 rfl ?_
  refine G.land K D17_3_68 ?_
  refine G.lload K D17_3_69 rfl ?_
  refine G.ladd K D17_3_71 ?_
  refine G.lload K D17_3_72 rfl ?_
  refine G.lxor K D17_3_74 ?_
  refine G.lload K D17_3_75 rfl ?_
  refine G.lor K D17_3_77 ?_
  change G k n0 _ h _ _ 78 [.val (.ref a), .val (.ref ma), .val (.ref ra), .val (.ref fa), .val (.long 0), .second, .val (.long 0), .second, .val (.long 0), .second, .val (.long 0), .second, .val (.int 0), .val (.long m0), .second, .val (.long r0), .second, .val (.long f0), .second, .val (.long (m0 ||| f0)), .second, .val (.long (m0 ||| 0)), .second, .unset, .unset, .unset, .unset, .unset, .unset] [.long (wMC m0 r0 0)]
  refine G.lstore K D17_3_78 ([.val (.ref a), .val (.ref ma), .val (.ref ra), .val (.ref fa), .val (.long 0), .second, .val (.long 0), .second, .val (.long 0), .second, .val (.long 0), .second, .val (.int 0), .val (.long m0), .second, .val (.long r0), .second, .val (.long f0), .second, .val (.long (m0 ||| f0)), .second, .val (.long (m0 ||| 0)), .second, .val (.long (wMC m0 r0 0)), .second, .unset, .unset, .unset, .unset]) rfl ?_
  refine G.lload K D17_3_80 rfl ?_
  refine G.lload K D17_3_82 rfl ?_
  refine G.lload K D17_3_84 rfl ?_
  refine G.lor K D17_3_86 ?_
  refine G.ldc2J K D17_3_87 (wd hw 31 rfl) ?_
  refine G.lxor K D17_3_90 ?_
  refine G.lor K D17_3_91 ?_
  change G k n0 _ h _ _ 92 [.val (.ref a), .val (.ref ma), .val (.ref ra), .val (.ref fa), .val (.long 0), .second, .val (.long 0), .second, .val (.long 0), .second, .val (.long 0), .second, .val (.int 0), .val (.long m0), .second, .val (.long r0), .second, .val (.long f0), .second, .val (.long (m0 ||| f0)), .second, .val (.long (m0 ||| 0)), .second, .val (.long (wMC m0 r0 0)), .second, .unset, .unset, .unset, .unset] [.long (wRA m0 r0 f0 0)]
  refine G.lstore K D17_3_92 ([.val (.ref a), .val (.ref ma), .val (.ref ra), .val (.ref fa), .val (.long 0), .second, .val (.long 0), .second, .val (.long (wRA m0 r0 f0 0)), .second, .val (.long 0), .second, .val (.int 0), .val (.long m0), .second, .val (.long r0), .second, .val (.long f0), .second, .val (.long (m0 ||| f0)), .second, .val (.long (m0 ||| 0)), .second, .val (.long (wMC m0 r0 0)), .second, .unset, .unset, .unset, .unset]) rfl ?_
  refine G.lload K D17_3_94 rfl ?_
  refine G.lload K D17_3_96 rfl ?_
  refine G.land K D17_3_98 ?_
  change G k n0 _ h _ _ 99 [.val (.ref a), .val (.ref ma), .val (.ref ra), .val (.ref fa), .val (.long 0), .second, .val (.long 0), .second, .val (.long (wRA m0 r0 f0 0)), .second, .val (.long 0), .second, .val (.int 0), .val (.long m0), .second, .val (.long r0), .second, .val (.long f0), .second, .val (.long (m0 ||| f0)), .second, .val (.long (m0 ||| 0)), .second, .val (.long (wMC m0 r0 0)), .second, .unset, .unset, .unset, .unset] [.long (wFA m0 r0 0)]
  refine G.lstore K D17_3_99 ([.val (.ref a), .val (.ref ma), .val (.ref ra), .val (.ref fa), .val (.long 0), .second, .val (.long 0), .second, .val (.long (wRA m0 r0 f0 0)), .second, .val (.long (wFA m0 r0 0)), .second, .val (.int 0), .val (.long m0), .second, .val (.long r0), .second, .val (.long f0), .second, .val (.long (m0 ||| f0)), .second, .val (.long (m0 ||| 0)), .second, .val (.long (wMC m0 r0 0)), .second, .unset, .unset, .unset, .unset]) rfl ?_
  refine G.lload K D17_3_101 rfl ?_
  refine G.iconst K D17_3_103 1 rfl ?_
  refine G.lshl K D17_3_104 ?_
  refine G.lload K D17_3_105 rfl ?_
  refine G.lor K D17_3_107 ?_
  change G k n0 _ h _ _ 108 [.val (.ref a), .val (.ref ma), .val (.ref ra), .val (.ref fa), .val (.long 0), .second, .val (.long 0), .second, .val (.long (wRA m0 r0 f0 0)), .second, .val (.long (wFA m0 r0 0)), .second, .val (.int 0), .val (.long m0), .second, .val (.long r0), .second, .val (.long f0), .second, .val (.long (m0 ||| f0)), .second, .val (.long (m0 ||| 0)), .second, .val (.long (wMC m0 r0 0)), .second, .unset, .unset, .unset, .unset] [.long (wRU m0 r0 f0 0 0)]
  refine G.lstore K D17_3_108 ([.val (.ref a), .val (.ref ma), .val (.ref ra), .val (.ref fa), .val (.long 0), .second, .val (.long 0), .second, .val (.long (wRA m0 r0 f0 0)), .second, .val (.long (wFA m0 r0 0)), .second, .val (.int 0), .val (.long m0), .second, .val (.long r0), .second, .val (.long f0), .second, .val (.long (m0 ||| f0)), .second, .val (.long (m0 ||| 0)), .second, .val (.long (wMC m0 r0 0)), .second, .val (.long (wRU m0 r0 f0 0 0)), .second, .unset, .unset]) rfl ?_
  refine G.lload K D17_3_110 rfl ?_
  refine G.iconst K D17_3_112 1 rfl ?_
  refine G.lshl K D17_3_113 ?_
  refine G.lload K D17_3_114 rfl ?_
  refine G.lor K D17_3_116 ?_
  change G k n0 _ h _ _ 117 [.val (.ref a), .val (.ref ma), .val (.ref ra), .val (.ref fa), .val (.long 0), .second, .val (.long 0), .second, .val (.long (wRA m0 r0 f0 0)), .second, .val (.long (wFA m0 r0 0)), .second, .val (.int 0), .val (.long m0), .second, .val (.long r0), .second, .val (.long f0), .second, .val (.long (m0 ||| f0)), .second, .val (.long (m0 ||| 0)), .second, .val (.long (wMC m0 r0 0)), .second, .val (.long (wRU m0 r0 f0 0 0)), .second, .unset, .unset] [.long (wFU m0 r0 0)]
  refine G.lstore K D17_3_117 ([.val (.ref a), .val (.ref ma), .val (.ref ra), .val (.ref fa), .val (.long 0), .second, .val (.long 0), .second, .val (.long (wRA m0 r0 f0 0)), .second, .val (.long (wFA m0 r0 0)), .second, .val (.int 0), .val (.long m0), .second, .val (.long r0), .second, .val (.long f0), .second, .val (.long (m0 ||| f0)), .second, .val (.long (m0 ||| 0)), .second, .val (.long (wMC m0 r0 0)), .second, .val (.long (wRU m0 r0 f0 0 0)), .second, .val (.long (wFU m0 r0 0)), .second]) rfl ?_
  refine G.lload K D17_3_119 rfl ?_
  refine G.bipush K D17_3_121 63 rfl ?_
  refine G.lushr K D17_3_123 ?_
  change G k n0 _ h _ _ 124 [.val (.ref a), .val (.ref ma), .val (.ref ra), .val (.ref fa), .val (.long 0), .second, .val (.long 0), .second, .val (.long (wRA m0 r0 f0 0)), .second, .val (.long (wFA m0 r0 0)), .second, .val (.int 0), .val (.long m0), .second, .val (.long r0), .second, .val (.long f0), .second, .val (.long (m0 ||| f0)), .second, .val (.long (m0 ||| 0)), .second, .val (.long (wMC m0 r0 0)), .second, .val (.long (wRU m0 r0 f0 0 0)), .second, .val (.long (wFU m0 r0 0)), .second] [.long (XT.ushrL (wRA m0 r0 f0 0) 63)]
  refine G.lstore K D17_3_124 ([.val (.ref a), .val (.ref ma), .val (.ref ra), .val (.ref fa), .val (.long (XT.ushrL (wRA m0 r0 f0 0) 63)), .second, .val (.long 0), .second, .val (.long (wRA m0 r0 f0 0)), .second, .val (.long (wFA m0 r0 0)), .second, .val (.int 0), .val (.long m0), .second, .val (.long r0), .second, .val (.long f0), .second, .val (.long (m0 ||| f0)), .second, .val (.long (m0 ||| 0)), .second, .val (.long (wMC m0 r0 0)), .second, .val (.long (wRU m0 r0 f0 0 0)), .second, .val (.long (wFU m0 r0 0)), .second]) rfl ?_
  refine G.lload K D17_3_126 rfl ?_
  refine G.bipush K D17_3_128 63 rfl ?_
  refine G.lushr K D17_3_130 ?_
  change G k n0 _ h _ _ 131 [.val (.ref a), .val (.ref ma), .val (.ref ra), .val (.ref fa), .val (.long (XT.ushrL (wRA m0 r0 f0 0) 63)), .second, .val (.long 0), .second, .val (.long (wRA m0 r0 f0 0)), .second, .val (.long (wFA m0 r0 0)), .second, .val (.int 0), .val (.long m0), .second, .val (.long r0), .second, .val (.long f0), .second, .val (.long (m0 ||| f0)), .second, .val (.long (m0 ||| 0)), .second, .val (.long (wMC m0 r0 0)), .second, .val (.long (wRU m0 r0 f0 0 0)), .second, .val (.long (wFU m0 r0 0)), .second] [.long (XT.ushrL (wFA m0 r0 0) 63)]
  refine G.lstore K D17_3_131 ([.val (.ref a), .val (.ref ma), .val (.ref ra), .val (.ref fa), .val (.long (XT.ushrL (wRA m0 r0 f0 0) 63)), .second, .val (.long (XT.ushrL (wFA m0 r0 0) 63)), .second, .val (.long (wRA m0 r0 f0 0)), .second, .val (.long (wFA m0 r0 0)), .second, .val (.int 0), .val (.long m0), .second, .val (.long r0), .second, .val (.long f0), .second, .val (.long (m0 ||| f0)), .second, .val (.long (m0 ||| 0)), .second, .val (.long (wMC m0 r0 0)), .second, .val (.long (wRU m0 r0 f0 0 0)), .second, .val (.long (wFU m0 r0 0)), .second]) rfl ?_
  refine G.aloadN K D17_3_133 rfl rfl ?_
  refine G.iload K D17_3_134 rfl ?_
  refine G.lload K D17_3_136 rfl ?_
  refine G.lload K D17_3_138 rfl ?_
  refine G.lload K D17_3_140 rfl ?_
  refine G.lor K D17_3_142 ?_
  refine G.ldc2J K D17_3_143 (wd hw 31 rfl) ?_
  refine G.lxor K D17_3_146 ?_
  refine G.lor K D17_3_147 ?_
  change G k n0 _ h _ _ 148 [.val (.ref a), .val (.ref ma), .val (.ref ra), .val (.ref fa), .val (.long (XT.ushrL (wRA m0 r0 f0 0) 63)), .second, .val (.long (XT.ushrL (wFA m0 r0 0) 63)), .second, .val (.long (wRA m0 r0 f0 0)), .second, .val (.long (wFA m0 r0 0)), .second, .val (.int 0), .val (.long m0), .second, .val (.long r0), .second, .val (.long f0), .second, .val (.long (m0 ||| f0)), .second, .val (.long (m0 ||| 0)), .second, .val (.long (wMC m0 r0 0)), .second, .val (.long (wRU m0 r0 f0 0 0)), .second, .val (.long (wFU m0 r0 0)), .second] [.long (wR m0 r0 f0 0 0), .int 0, .ref ra]
  refine G.astore_l K H (i := 1) rfl (by decide) (Nat.le_of_ble_eq_true rfl) D17_3_148 ?_
  intro h35 H35
  change Hp n0 h35 ((a, Ob Z "com/example/bitstride/bitstride/search/EditDistances" NSE [.ref ra, .ref fa, .int ln, .int lb, .int me, .int di]) :: (ra, La Z [(wR m0 r0 f0 0 0)]) :: (fa, La Z [f0]) :: (ma, La Z [m0, m1]) :: σ) at H35
  refine G.aloadN K D17_3_149 rfl rfl ?_
  refine G.iload K D17_3_150 rfl ?_
  refine G.lload K D17_3_152 rfl ?_
  refine G.lload K D17_3_154 rfl ?_
  refine G.land K D17_3_156 ?_
  change G k n0 _ h35 _ _ 157 [.val (.ref a), .val (.ref ma), .val (.ref ra), .val (.ref fa), .val (.long (XT.ushrL (wRA m0 r0 f0 0) 63)), .second, .val (.long (XT.ushrL (wFA m0 r0 0) 63)), .second, .val (.long (wRA m0 r0 f0 0)), .second, .val (.long (wFA m0 r0 0)), .second, .val (.int 0), .val (.long m0), .second, .val (.long r0), .second, .val (.long f0), .second, .val (.long (m0 ||| f0)), .second, .val (.long (m0 ||| 0)), .second, .val (.long (wMC m0 r0 0)), .second, .val (.long (wRU m0 r0 f0 0 0)), .second, .val (.long (wFU m0 r0 0)), .second] [.long (wF m0 r0 f0 0 0), .int 0, .ref fa]
  refine G.astore_l K H35 (i := 2) rfl (by decide) (Nat.le_of_ble_eq_true rfl) D17_3_157 ?_
  intro h36 H36
  change Hp n0 h36 ((a, Ob Z "com/example/bitstride/bitstride/search/EditDistances" NSE [.ref ra, .ref fa, .int ln, .int lb, .int me, .int di]) :: (ra, La Z [(wR m0 r0 f0 0 0)]) :: (fa, La Z [(wF m0 r0 f0 0 0)]) :: (ma, La Z [m0, m1]) :: σ) at H36
  refine G.iinc K D17_3_158 1 rfl rfl ([.val (.ref a), .val (.ref ma), .val (.ref ra), .val (.ref fa), .val (.long (XT.ushrL (wRA m0 r0 f0 0) 63)), .second, .val (.long (XT.ushrL (wFA m0 r0 0) 63)), .second, .val (.long (wRA m0 r0 f0 0)), .second, .val (.long (wFA m0 r0 0)), .second, .val (.int (0 + 1)), .val (.long m0), .second, .val (.long r0), .second, .val (.long f0), .second, .val (.long (m0 ||| f0)), .second, .val (.long (m0 ||| 0)), .second, .val (.long (wMC m0 r0 0)), .second, .val (.long (wRU m0 r0 f0 0 0)), .second, .val (.long (wFU m0 r0 0)), .second]) rfl ?_
  change G k n0 _ h36 _ _ 161 [.val (.ref a), .val (.ref ma), .val (.ref ra), .val (.ref fa), .val (.long (XT.ushrL (wRA m0 r0 f0 0) 63)), .second, .val (.long (XT.ushrL (wFA m0 r0 0) 63)), .second, .val (.long (wRA m0 r0 f0 0)), .second, .val (.long (wFA m0 r0 0)), .second, .val (.int 1), .val (.long m0), .second, .val (.long r0), .second, .val (.long f0), .second, .val (.long (m0 ||| f0)), .second, .val (.long (m0 ||| 0)), .second, .val (.long (wMC m0 r0 0)), .second, .val (.long (wRU m0 r0 f0 0 0)), .second, .val (.long (wFU m0 r0 0)), .second] []
  refine G.goto K D17_3_161 ?_
  refine G.iload K D17_3_25 rfl ?_
  refine G.aloadN K D17_3_27 rfl rfl ?_
  refine G.alen K H36 (i := 1) rfl D17_3_28 1 rfl ?_
  refine G.icmp_ge K D17_3_29 (fun _ => ?_) (fun q => absurd q (by decide))
  refine G.aloadN K D17_3_164 rfl rfl ?_
  refine G.dup K D17_3_165 rfl ?_
  refine G.getF K (host := "") (Or.inl (wd hw 36 rfl)) H36 (i := 0) rfl (j := 5) rfl rfl D17_3_166 ?_
  refine G.lload K D17_3_169 rfl ?_
  refine G.aloadN K D17_3_171 rfl rfl ?_
  refine G.getF K (host := "") (Or.inl (wd hw 22 rfl)) H36 (i := 0) rfl (j := 3) rfl rfl D17_3_172 ?_
  refine G.lushr K D17_3_175 ?_
  refine G.lconst K D17_3_176 1 rfl ?_
  refine G.land K D17_3_177 ?_
  refine G.l2i K D17_3_178 ?_
  refine G.lload K D17_3_179 rfl ?_
  refine G.aloadN K D17_3_181 rfl rfl ?_
  refine G.getF K (host := "") (Or.inl (wd hw 22 rfl)) H36 (i := 0) rfl (j := 3) rfl rfl D17_3_182 ?_
  refine G.lushr K D17_3_185 ?_
  refine G.lconst K D17_3_186 1 rfl ?_
  refine G.land K D17_3_187 ?_
  refine G.l2i K D17_3_188 ?_
  refine G.isub K D17_3_189 ?_
  refine G.iadd K D17_3_190 ?_
  refine G.putF K (host := "") (Or.inl (wd hw 36 rfl)) (cf_NSE hw) (Or.inl (wd hw 37 rfl)) (wd hw 8 rfl) H36 (i := 0) rfl (j := 5) rfl rfl (ty := .int) (by decide) rfl rfl D17_3_191 ?_
  intro h38 H38
  change Hp n0 h38 ((a, Ob Z "com/example/bitstride/bitstride/search/EditDistances" NSE [.ref ra, .ref fa, .int ln, .int lb, .int me, .int (di + ((((XT.ushrL (wRA m0 r0 f0 0) lb) &&& 1).toInt32) - (((XT.ushrL (wFA m0 r0 0) lb) &&& 1).toInt32)))]) :: (ra, La Z [(wR m0 r0 f0 0 0)]) :: (fa, La Z [(wF m0 r0 f0 0 0)]) :: (ma, La Z [m0, m1]) :: σ) at H38
  refine G.aloadN K D17_3_194 rfl rfl ?_
  refine G.getF K (host := "") (Or.inl (wd hw 36 rfl)) H38 (i := 0) rfl (j := 5) rfl rfl D17_3_195 ?_
  refine G.aloadN K D17_3_198 rfl rfl ?_
  refine G.getF K (host := "") (Or.inl (wd hw 24 rfl)) H38 (i := 0) rfl (j := 4) rfl rfl D17_3_199 ?_
  refine G.isub K D17_3_202 ?_
  refine G.iconst K D17_3_203 1 rfl ?_
  refine G.isub K D17_3_204 ?_
  refine G.bipush K D17_3_205 31 rfl ?_
  refine G.iushr K D17_3_207 ?_
  refine G.i2l K D17_3_208 ?_
  refine G.ret_long K D17_3_209 ?_
  have H39 : Hp n0 h38 ((ma, La Z [m0, m1]) :: (a, Ob Z "com/example/bitstride/bitstride/search/EditDistances" NSE [.ref ra, .ref fa, .int ln, .int lb, .int me, .int (di + ((((XT.ushrL (wRA m0 r0 f0 0) lb) &&& 1).toInt32) - (((XT.ushrL (wFA m0 r0 0) lb) &&& 1).toInt32)))]) :: (ra, La Z [(wR m0 r0 f0 0 0)]) :: (fa, La Z [(wF m0 r0 f0 0 0)]) :: σ) := H38.pull 3 rfl
  have H40 : Hp n0 h38 ((fa, La Z [(wF m0 r0 f0 0 0)]) :: (ma, La Z [m0, m1]) :: (a, Ob Z "com/example/bitstride/bitstride/search/EditDistances" NSE [.ref ra, .ref fa, .int ln, .int lb, .int me, .int (di + ((((XT.ushrL (wRA m0 r0 f0 0) lb) &&& 1).toInt32) - (((XT.ushrL (wFA m0 r0 0) lb) &&& 1).toInt32)))]) :: (ra, La Z [(wR m0 r0 f0 0 0)]) :: σ) := H39.pull 3 rfl
  have H41 : Hp n0 h38 ((ra, La Z [(wR m0 r0 f0 0 0)]) :: (fa, La Z [(wF m0 r0 f0 0 0)]) :: (ma, La Z [m0, m1]) :: (a, Ob Z "com/example/bitstride/bitstride/search/EditDistances" NSE [.ref ra, .ref fa, .int ln, .int lb, .int me, .int (di + ((((XT.ushrL (wRA m0 r0 f0 0) lb) &&& 1).toInt32) - (((XT.ushrL (wFA m0 r0 0) lb) &&& 1).toInt32)))]) :: σ) := H40.pull 3 rfl
  have H42 : Hp n0 h38 ((a, Ob Z "com/example/bitstride/bitstride/search/EditDistances" NSE [.ref ra, .ref fa, .int ln, .int lb, .int me, .int (di + ((((XT.ushrL (wRA m0 r0 f0 0) lb) &&& 1).toInt32) - (((XT.ushrL (wFA m0 r0 0) lb) &&& 1).toInt32)))]) :: (ra, La Z [(wR m0 r0 f0 0 0)]) :: (fa, La Z [(wF m0 r0 f0 0 0)]) :: (ma, La Z [m0, m1]) :: σ) := H41.pull 3 rfl
  exact ⟨rfl, H42⟩
set_option maxRecDepth 65536 in
set_option maxHeartbeats 40000000 in
theorem ct_init2 (l : Launch) (Z : State) (a0 : Array Value) (hw : ∀ d ∈ tables_1, d.before a0 Z = true) (n0 : Nat) (h : Heap) (a : Addr) (n : Nat) (me : Int32) (σ : List Ch) (hn : 1 ≤ n) (hn2 : n ≤ 128) (H : Hp n0 h ((a, Ob Z "com/example/bitstride/bitstride/search/EditDistances" NSE [.null, .null, .int 0, .int 0, .int 0, .int 0]) :: σ)) :
    Ct l Z n0 (⟨"com/example/bitstride/bitstride/search/EditDistances", "<init>", "(III)V"⟩ : MethodName) prog_17_method_1_code 4 none ({ frames := 1, cells := 2, slots := 4, locals := 12 } : Room) [.ref a, .int 2, .int (Int32.ofNat n), .int me] h (fun v h' => v = none ∧ ∃ ra fa : Addr, Hp n0 h' ((a, Ob Z "com/example/bitstride/bitstride/search/EditDistances" NSE [.ref ra, .ref fa, .int (Int32.ofNat n), .int (Int32.ofNat ((n - 1) % 64)), .int me, .int 0]) :: (ra, La Z [0, 0]) :: (fa, La Z [0, 0]) :: σ)) := by
  refine Ct.intro (plainFor_of_name pn_1) [.val (.ref a), .val (.int 2), .val (.int (Int32.ofNat n)), .val (.int me)] (fun m => by first | (simp [entryFrame, mkF, argsToLocals, Value.category]; done) | (simp [entryFrame, mkF, argsToLocals, Value.category, maxLocals]; done) | rfl) ?_
  intro k hl K
  replace K : Ok k Z n0 "com/example/bitstride/bitstride/search/EditDistances" ({ frames := 1, cells := 2, slots := 4, locals := 12 } : Room) prog_17_method_1_code 4 none "<init>" := K
  refine G.aloadN K D17_1_0 rfl rfl ?_
  refine G.initO K (wd hw 13 rfl) (wd hw 14 rfl) (wd hw 15 rfl) rfl 0 rfl (by decide) (by decide) D17_1_1 ?_
  refine G.aloadN K D17_1_4 rfl rfl ?_
  refine G.iloadN K D17_1_5 rfl ?_
  refine G.newarr_l K (wd hw 4 rfl) H (by decide) 2 (by decide) (by decide) (by decide) (by decide) D17_1_6 ?_
  intro a43 h44 H44
  change Hp n0 h44 ((a43, La Z [0, 0]) :: (a, Ob Z "com/example/bitstride/bitstride/search/EditDistances" NSE [.null, .null, .int 0, .int 0, .int 0, .int 0]) :: σ) at H44
  refine G.putF K (host := "") (Or.inl (wd hw 16 rfl)) (cf_NSE hw) (Or.inr ⟨(wd hw 17 rfl), rfl, rfl⟩) (wd hw 8 rfl) H44 (i := 1) rfl (j := 0) rfl rfl (ty := (.array .long)) (by decide) rfl rfl D17_1_8 ?_
  intro h45 H45
  change Hp n0 h45 ((a43, La Z [0, 0]) :: (a, Ob Z "com/example/bitstride/bitstride/search/EditDistances" NSE [.ref a43, .null, .int 0, .int 0, .int 0, .int 0]) :: σ) at H45
  refine G.aloadN K D17_1_11 rfl rfl ?_
  refine G.iloadN K D17_1_12 rfl ?_
  refine G.newarr_l K (wd hw 4 rfl) H45 (by decide) 2 (by decide) (by decide) (by decide) (by decide) D17_1_13 ?_
  intro a46 h47 H47
  change Hp n0 h47 ((a46, La Z [0, 0]) :: (a43, La Z [0, 0]) :: (a, Ob Z "com/example/bitstride/bitstride/search/EditDistances" NSE [.ref a43, .null, .int 0, .int 0, .int 0, .int 0]) :: σ) at H47
  refine G.putF K (host := "") (Or.inl (wd hw 18 rfl)) (cf_NSE hw) (Or.inr ⟨(wd hw 19 rfl), rfl, rfl⟩) (wd hw 8 rfl) H47 (i := 2) rfl (j := 1) rfl rfl (ty := (.array .long)) (by decide) rfl rfl D17_1_15 ?_
  intro h48 H48
  change Hp n0 h48 ((a46, La Z [0, 0]) :: (a43, La Z [0, 0]) :: (a, Ob Z "com/example/bitstride/bitstride/search/EditDistances" NSE [.ref a43, .ref a46, .int 0, .int 0, .int 0, .int 0]) :: σ) at H48
  refine G.aloadN K D17_1_18 rfl rfl ?_
  refine G.iloadN K D17_1_19 rfl ?_
  refine G.putF K (host := "") (Or.inl (wd hw 20 rfl)) (cf_NSE hw) (Or.inr ⟨(wd hw 21 rfl), rfl, rfl⟩) (wd hw 8 rfl) H48 (i := 2) rfl (j := 2) rfl rfl (ty := .int) (by decide) rfl rfl D17_1_20 ?_
  intro h49 H49
  change Hp n0 h49 ((a46, La Z [0, 0]) :: (a43, La Z [0, 0]) :: (a, Ob Z "com/example/bitstride/bitstride/search/EditDistances" NSE [.ref a43, .ref a46, .int (Int32.ofNat n), .int 0, .int 0, .int 0]) :: σ) at H49
  refine G.aloadN K D17_1_23 rfl rfl ?_
  refine G.iloadN K D17_1_24 rfl ?_
  refine G.iconst K D17_1_25 1 rfl ?_
  refine G.isub K D17_1_26 ?_
  refine G.bipush K D17_1_27 64 rfl ?_
  refine G.irem K D17_1_29 (by decide) ?_
  rw [show Int32.ofNat n - 1 = Int32.ofNat (n - 1) from own_nsub (i := n) (j := 1) hn, show Int32.ofNat (n - 1) % 64 = Int32.ofNat ((n - 1) % 64) from own_nmod (n := 64) (by omega) (by decide)]
  refine G.putF K (host := "") (Or.inl (wd hw 22 rfl)) (cf_NSE hw) (Or.inr ⟨(wd hw 23 rfl), rfl, rfl⟩) (wd hw 8 rfl) H49 (i := 2) rfl (j := 3) rfl rfl (ty := .int) (by decide) rfl rfl D17_1_30 ?_
  intro h50 H50
  change Hp n0 h50 ((a46, La Z [0, 0]) :: (a43, La Z [0, 0]) :: (a, Ob Z "com/example/bitstride/bitstride/search/EditDistances" NSE [.ref a43, .ref a46, .int (Int32.ofNat n), .int (Int32.ofNat ((n - 1) % 64)), .int 0, .int 0]) :: σ) at H50
  refine G.aloadN K D17_1_33 rfl rfl ?_
  refine G.iloadN K D17_1_34 rfl ?_
  refine G.putF K (host := "") (Or.inl (wd hw 24 rfl)) (cf_NSE hw) (Or.inr ⟨(wd hw 25 rfl), rfl, rfl⟩) (wd hw 8 rfl) H50 (i := 2) rfl (j := 4) rfl rfl (ty := .int) (by decide) rfl rfl D17_1_35 ?_
  intro h51 H51
  change Hp n0 h51 ((a46, La Z [0, 0]) :: (a43, La Z [0, 0]) :: (a, Ob Z "com/example/bitstride/bitstride/search/EditDistances" NSE [.ref a43, .ref a46, .int (Int32.ofNat n), .int (Int32.ofNat ((n - 1) % 64)), .int me, .int 0]) :: σ) at H51
  refine G.ret_void K D17_1_38 ?_
  have H52 : Hp n0 h51 ((a43, La Z [0, 0]) :: (a46, La Z [0, 0]) :: (a, Ob Z "com/example/bitstride/bitstride/search/EditDistances" NSE [.ref a43, .ref a46, .int (Int32.ofNat n), .int (Int32.ofNat ((n - 1) % 64)), .int me, .int 0]) :: σ) := H51.pull 1 rfl
  have H53 : Hp n0 h51 ((a, Ob Z "com/example/bitstride/bitstride/search/EditDistances" NSE [.ref a43, .ref a46, .int (Int32.ofNat n), .int (Int32.ofNat ((n - 1) % 64)), .int me, .int 0]) :: (a43, La Z [0, 0]) :: (a46, La Z [0, 0]) :: σ) := H52.pull 2 rfl
  exact ⟨rfl, _, _, H53⟩
set_option maxRecDepth 65536 in
set_option maxHeartbeats 40000000 in
theorem ct_restart2 (l : Launch) (Z : State) (a0 : Array Value) (hw : ∀ d ∈ tables_1, d.before a0 Z = true) (n0 : Nat) (h : Heap) (a ra fa : Addr) (ln lb me di : Int32) (r0 r1 f0 f1 : Int64) (σ : List Ch) (H : Hp n0 h ((a, Ob Z "com/example/bitstride/bitstride/search/EditDistances" NSE [.ref ra, .ref fa, .int ln, .int lb, .int me, .int di]) :: (ra, La Z [r0, r1]) :: (fa, La Z [f0, f1]) :: σ)) :
    Ct l Z n0 (⟨"com/example/bitstride/bitstride/search/EditDistances", "restart", "()V"⟩ : MethodName) prog_17_method_2_code 1 none ({ frames := 1, cells := 0, slots := 0, locals := 17 } : Room) [.ref a] h (fun v h' => v = none ∧ Hp n0 h' ((a, Ob Z "com/example/bitstride/bitstride/search/EditDistances" NSE [.ref ra, .ref fa, .int ln, .int lb, .int me, .int ln]) :: (ra, La Z [(-1), (-1)]) :: (fa, La Z [0, 0]) :: σ)) := by
  refine Ct.intro (plainFor_of_name pn_1) [.val (.ref a)] (fun m => by first | (simp [entryFrame, mkF, argsToLocals, Value.category]; done) | (simp [entryFrame, mkF, argsToLocals, Value.category, maxLocals]; done) | rfl) ?_
  intro k hl K
  replace K : Ok k Z n0 "com/example/bitstride/bitstride/search/EditDistances" ({ frames := 1, cells := 0, slots := 0, locals := 17 } : Room) prog_17_method_2_code 1 none "restart" := K
  refine G.aloadN K D17_2_0 rfl rfl ?_
  refine G.getF K (host := "") (Or.inl (wd hw 16 rfl)) H (i := 0) rfl (j := 0) rfl rfl D17_2_1 ?_
  refine G.ldc2J K D17_2_4 (wd hw 31 rfl) ?_
  have H54 : Hp n0 h ((ra, La Z [r0, r1]) :: (a, Ob Z "com/example/bitstride/bitstride/search/EditDistances" NSE [.ref ra, .ref fa, .int ln, .int lb, .int me, .int di]) :: (fa, La Z [f0, f1]) :: σ) := H.pull 1 rfl
  refine G.callS K hl (wd hw 32 rfl) (wd hw 33 rfl) (wd hw 34 rfl) (wd hw 35 rfl) (by decide) pd_0 (ct_fill2 l Z a0 hw n0 h ra (-1) r0 r1 ((a, Ob Z "com/example/bitstride/bitstride/search/EditDistances" NSE [.ref ra, .ref fa, .int ln, .int lb, .int me, .int di]) :: (fa, La Z [f0, f1]) :: σ) H54) 0 rfl (by decide) (by decide) (by decide) (by decide) rfl rfl [.long (-1), .ref ra] rfl D17_2_7 ?_
  rintro _ h55 ⟨rfl, H55⟩
  change G k n0 _ h55 _ _ 10 [.val (.ref a)] []
  refine G.aloadN K D17_2_10 rfl rfl ?_
  refine G.getF K (host := "") (Or.inl (wd hw 18 rfl)) H55 (i := 1) rfl (j := 1) rfl rfl D17_2_11 ?_
  refine G.lconst K D17_2_14 0 rfl ?_
  have H56 : Hp n0 h55 ((fa, La Z [f0, f1]) :: (ra, La Z [(-1), (-1)]) :: (a, Ob Z "com/example/bitstride/bitstride/search/EditDistances" NSE [.ref ra, .ref fa, .int ln, .int lb, .int me, .int di]) :: σ) := H55.pull 2 rfl
  refine G.callS K hl (wd hw 32 rfl) (wd hw 33 rfl) (wd hw 34 rfl) (wd hw 35 rfl) (by decide) pd_0 (ct_fill2 l Z a0 hw n0 h55 fa 0 f0 f1 ((ra, La Z [(-1), (-1)]) :: (a, Ob Z "com/example/bitstride/bitstride/search/EditDistances" NSE [.ref ra, .ref fa, .int ln, .int lb, .int me, .int di]) :: σ) H56) 0 rfl (by decide) (by decide) (by decide) (by decide) rfl rfl [.long 0, .ref fa] rfl D17_2_15 ?_
  rintro _ h57 ⟨rfl, H57⟩
  change G k n0 _ h57 _ _ 18 [.val (.ref a)] []
  refine G.aloadN K D17_2_18 rfl rfl ?_
  refine G.aloadN K D17_2_19 rfl rfl ?_
  refine G.getF K (host := "") (Or.inl (wd hw 20 rfl)) H57 (i := 2) rfl (j := 2) rfl rfl D17_2_20 ?_
  refine G.putF K (host := "") (Or.inl (wd hw 36 rfl)) (cf_NSE hw) (Or.inl (wd hw 37 rfl)) (wd hw 8 rfl) H57 (i := 2) rfl (j := 5) rfl rfl (ty := .int) (by decide) rfl rfl D17_2_23 ?_
  intro h58 H58
  change Hp n0 h58 ((fa, La Z [0, 0]) :: (ra, La Z [(-1), (-1)]) :: (a, Ob Z "com/example/bitstride/bitstride/search/EditDistances" NSE [.ref ra, .ref fa, .int ln, .int lb, .int me, .int ln]) :: σ) at H58
  refine G.ret_void K D17_2_26 ?_
  have H59 : Hp n0 h58 ((ra, La Z [(-1), (-1)]) :: (fa, La Z [0, 0]) :: (a, Ob Z "com/example/bitstride/bitstride/search/EditDistances" NSE [.ref ra, .ref fa, .int ln, .int lb, .int me, .int ln]) :: σ) := H58.pull 1 rfl
  have H60 : Hp n0 h58 ((a, Ob Z "com/example/bitstride/bitstride/search/EditDistances" NSE [.ref ra, .ref fa, .int ln, .int lb, .int me, .int ln]) :: (ra, La Z [(-1), (-1)]) :: (fa, La Z [0, 0]) :: σ) := H59.pull 2 rfl
  exact ⟨rfl, H60⟩
set_option maxRecDepth 65536 in
set_option maxHeartbeats 40000000 in
theorem ct_step2 (l : Launch) (Z : State) (a0 : Array Value) (hw : ∀ d ∈ tables_1, d.before a0 Z = true) (n0 : Nat) (h : Heap) (a ra fa : Addr) (ln lb me di : Int32) (r0 r1 f0 f1 : Int64) (ma : Addr) (m0 m1 : Int64) (σ : List Ch) (H : Hp n0 h ((a, Ob Z "com/example/bitstride/bitstride/search/EditDistances" NSE [.ref ra, .ref fa, .int ln, .int lb, .int me, .int di]) :: (ra, La Z [r0, r1]) :: (fa, La Z [f0, f1]) :: (ma, La Z [m0, m1]) :: σ)) :
    Ct l Z n0 (⟨"com/example/bitstride/bitstride/search/EditDistances", "step", "([J)J"⟩ : MethodName) prog_17_method_3_code 29 (some .long) ({ frames := 0, cells := 0, slots := 0, locals := 0 } : Room) [.ref a, .ref ma] h (fun v h' => v = some (.long (XT.ushr ((di + ((XT.ushrL (wRA m1 r1 f1 (XT.ushrL (wFA m0 r0 0) 63)) lb &&& 1).toInt32 - (XT.ushrL (wFA m1 r1 (XT.ushrL (wFA m0 r0 0) 63)) lb &&& 1).toInt32)) - me - 1) 31).toInt64) ∧ Hp n0 h' ((a, Ob Z "com/example/bitstride/bitstride/search/EditDistances" NSE [.ref ra, .ref fa, .int ln, .int lb, .int me, .int (di + ((XT.ushrL (wRA m1 r1 f1 (XT.ushrL (wFA m0 r0 0) 63)) lb &&& 1).toInt32 - (XT.ushrL (wFA m1 r1 (XT.ushrL (wFA m0 r0 0) 63)) lb &&& 1).toInt32))]) :: (ra, La Z [(wR m0 r0 f0 0 0), (wR m1 r1 f1 (XT.ushrL (wRA m0 r0 f0 0) 63) (XT.ushrL (wFA m0 r0 0) 63))]) :: (fa, La Z [(wF m0 r0 f0 0 0), (wF m1 r1 f1 (XT.ushrL (wRA m0 r0 f0 0) 63) (XT.ushrL (wFA m0 r0 0) 63))]) :: (ma, La Z [m0, m1]) :: σ)) := by
  refine Ct.intro (plainFor_of_name pn_1) [.val (.ref a), .val (.ref ma), .unset, .unset, .unset, .unset, .unset, .unset, .unset, .unset, .unset, .unset, .unset, .unset, .unset, .unset, .unset, .unset, .unset, .unset, .unset, .unset, .unset, .unset, .unset, .unset, .unset, .unset, .unset] (fun m => by first | (simp [entryFrame, mkF, argsToLocals, Value.category]; done) | (simp [entryFrame, mkF, argsToLocals, Value.category, maxLocals]; done) | rfl) ?_
  intro k hl K
  replace K : Ok k Z n0 "com/example/bitstride/bitstride/search/EditDistances" ({ frames := 0, cells := 0, slots := 0, locals := 0 } : Room) prog_17_method_3_code 29 (some .long) "step" := K
  refine G.aloadN K D17_3_0 rfl rfl ?_
  refine G.getF K (host := "") (Or.inl (wd hw 16 rfl)) H (i := 0) rfl (j := 0) rfl rfl D17_3_1 ?_
  refine G.astoreN K D17_3_4 rfl ([.val (.ref a), .val (.ref ma), .val (.ref ra), .unset, .unset, .unset, .unset, .unset, .unset, .unset, .unset, .unset, .unset, .unset, .unset, .unset, .unset, .unset, .unset, .unset, .unset, .unset, .unset, .unset, .unset, .unset, .unset, .unset, .unset]) rfl ?_
  refine G.aloadN K D17_3_5 rfl rfl ?_
  refine G.getF K (host := "") (Or.inl (wd hw 18 rfl)) H (i := 0) rfl (j := 1) rfl rfl D17_3_6 ?_
  refine G.astoreN K D17_3_9 rfl ([.val (.ref a), .val (.ref ma), .val (.ref ra), .val (.ref fa), .unset, .unset, .unset, .unset, .unset, .unset, .unset, .unset, .unset, .unset, .unset, .unset, .unset, .unset, .unset, .unset, .unset, .unset, .unset, .unset, .unset, .unset, .unset, .unset, .unset]) rfl ?_
  refine G.lconst K D17_3_10 0 rfl ?_
  refine G.lstore K D17_3_11 ([.val (.ref a), .val (.ref ma), .val (.ref ra), .val (.ref fa), .val (.long 0), .second, .unset, .unset, .unset, .unset, .unset, .unset, .unset, .unset, .unset, .unset, .unset, .unset, .unset, .unset, .unset, .unset, .unset, .unset, .unset, .unset, .unset, .unset, .unset]) rfl ?_
  refine G.lconst K D17_3_13 0 rfl ?_
  refine G.lstore K D17_3_14 ([.val (.ref a), .val (.ref ma), .val (.ref ra), .val (.ref fa), .val (.long 0), .second, .val (.long 0), .second, .unset, .unset, .unset, .unset, .unset, .unset, .unset, .unset, .unset, .unset, .unset, .unset, .unset, .unset, .unset, .unset, .unset, .unset, .unset, .unset, .unset]) rfl ?_
  refine G.lconst K D17_3_16 0 rfl ?_
  refine G.lstore K D17_3_17 ([.val (.ref a), .val (.ref ma), .val (.ref ra), .val (.ref fa), .val (.long 0), .second, .val (.long 0), .second, .val (.long 0), .second, .unset, .unset, .unset, .unset, .unset, .unset, .unset, .unset, .unset, .unset, .unset, .unset, .unset, .unset, .unset, .unset, .unset, .unset, .unset]) rfl ?_
  refine G.lconst K D17_3_19 0 rfl ?_
  refine G.lstore K D17_3_20 ([.val (.ref a), .val (.ref ma), .val (.ref ra), .val (.ref fa), .val (.long 0), .second, .val (.long 0), .second, .val (.long 0), .second, .val (.long 0), .second, .unset, .unset, .unset, .unset, .unset, .unset, .unset, .unset, .unset, .unset, .unset, .unset, .unset, .unset, .unset, .unset, .unset]) rfl ?_
  refine G.iconst K D17_3_22 0 rfl ?_
  refine G.istore K D17_3_23 ([.val (.ref a), .val (.ref ma), .val (.ref ra), .val (.ref fa), .val (.long 0), .second, .val (.long 0), .second, .val (.long 0), .second, .val (.long 0), .second, .val (.int 0), .unset, .unset, .unset, .unset, .unset, .unset, .unset, .unset, .unset, .unset, .unset, .unset, .unset, .unset, .unset, .unset]) rfl ?_
  refine G.iload K D17_3_25 rfl ?_
  refine G.aloadN K D17_3_27 rfl rfl ?_
  refine G.alen K H (i := 1) rfl D17_3_28 2 rfl ?_
  refine G.icmp_ge K D17_3_29 (fun q => absurd q (by decide)) (fun _ => ?_)
  refine G.aloadN K D17_3_32 rfl rfl ?_
  refine G.iload K D17_3_33 rfl ?_
  refine G.aload_l K H (i := 3) rfl (by decide) rfl D17_3_35 ?_
  refine G.lstore K D17_3_36 ([.val (.ref a), .val (.ref ma), .val (.ref ra), .val (.ref fa), .val (.long 0), .second, .val (.long 0), .second, .val (.long 0), .second, .val (.long 0), .second, .val (.int 0), .val (.long m0), .second, .unset, .unset, .unset, .unset, .unset, .unset, .unset, .unset, .unset, .unset, .unset, .unset, .unset, .unset]) rfl ?_
  refine G.aloadN K D17_3_38 rfl rfl ?_
  refine G.iload K D17_3_39 rfl ?_
  refine G.aload_l K H (i := 1) rfl (by decide) rfl D17_3_41 ?_
  refine G.lstore K D17_3_42 ([.val (.ref a), .val (.ref ma), .val (.ref ra), .val (.ref fa), .val (.long 0), .second, .val (.long 0), .second, .val (.long 0), .second, .val (.long 0), .second, .val (.int 0), .val (.long m0), .second, .val (.long r0), .second, .unset, .unset, .unset, .unset, .unset, .unset, .unset, .unset, .unset, .unset, .unset, .unset]) rfl ?_
  refine G.aloadN K D17_3_44 rfl rfl ?_
  refine G.iload K D17_3_45 rfl ?_
  refine G.aload_l K H (i := 2) rfl (by decide) rfl D17_3_47 ?_
  refine G.lstore K D17_3_48 ([.val (.ref a), .val (.ref ma), .val (.ref ra), .val (.ref fa), .val (.long 0), .second, .val (.long 0), .second, .val (.long 0), .second, .val (.long 0), .second, .val (.int 0), .val (.long m0), .second, .val (.long r0), .second, .val (.long f0), .second, .unset, .unset, .unset, .unset, .unset, .unset, .unset, .unset, .unset, .unset]) rfl ?_
  refine G.lload K D17_3_50 rfl ?_
  refine G.lload K D17_3_52 rfl ?_
  refine G.lor K D17_3_54 ?_
  refine G.lstore K D17_3_55 ([.val (.ref a), .val (.ref ma), .val (.ref ra), .val (.ref fa), .val (.long 0), .second, .val (.long 0), .second, .val (.long 0), .second, .val (.long 0), .second, .val (.int 0), .val (.long m0), .second, .val (.long r0), .second, .val (.long f0), .second, .val (.long (m0 ||| f0)), .second, .unset, .unset, .unset, .unset, .unset, .unset, .unset, .unset]) rfl ?_
  refine G.lload K D17_3_57 rfl ?_
  refine G.lload K D17_3_59 rfl ?_
  refine G.lor K D17_3_61 ?_
  refine G.lstore K D17_3_62 ([.val (.ref a), .val (.ref ma), .val (.ref ra), .val (.ref fa), .val (.long 0), .second, .val (.long 0), .second, .val (.long 0), .second, .val (.long 0), .second, .val (.int 0), .val (.long m0), .second, .val (.long r0), .second, .val (.long f0), .second, .val (.long (m0 ||| f0)), .second, .val (.long (m0 ||| 0)), .second, .unset, .unset, .unset, .unset, .unset, .unset]) rfl ?_
  refine G.lload K D17_3_64 rfl ?_
  refine G.lload K D17_3_66 rfl ?_
  refine G.land K D17_3_68 ?_
  refine G.lload K D17_3_69 rfl ?_
  refine G.ladd K D17_3_71 ?_
  refine G.lload K D17_3_72 rfl ?_
  refine G.lxor K D17_3_74 ?_
  refine G.lload K D17_3_75 rfl ?_
  refine G.lor K D17_3_77 ?_
  change G k n0 _ h _ _ 78 [.val (.ref a), .val (.ref ma), .val (.ref ra), .val (.ref fa), .val (.long 0), .second, .val (.long 0), .second, .val (.long 0), .second, .val (.long 0), .second, .val (.int 0), .val (.long m0), .second, .val (.long r0), .second, .val (.long f0), .second, .val (.long (m0 ||| f0)), .second, .val (.long (m0 ||| 0)), .second, .unset, .unset, .unset, .unset, .unset, .unset] [.long (wMC m0 r0 0)]
  refine G.lstore K D17_3_78 ([.val (.ref a), .val (.ref ma), .val (.ref ra), .val (.ref fa), .val (.long 0), .second, .val (.long 0), .second, .val (.long 0), .second, .val (.long 0), .second, .val (.int 0), .val (.long m0), .second, .val (.long r0), .second, .val (.long f0), .second, .val (.long (m0 ||| f0)), .second, .val (.long (m0 ||| 0)), .second, .val (.long (wMC m0 r0 0)), .second, .unset, .unset, .unset, .unset]) rfl ?_
  refine G.lload K D17_3_80 rfl ?_
  refine G.lload K D17_3_82 rfl ?_
  refine G.lload K D17_3_84 rfl ?_
  refine G.lor K D17_3_86 ?_
  refine G.ldc2J K D17_3_87 (wd hw 31 rfl) ?_
  refine G.lxor K D17_3_90 ?_
  refine G.lor K D17_3_91 ?_
  change G k n0 _ h _ _ 92 [.val (.ref a), .val (.ref ma), .val (.ref ra), .val (.ref fa), .val (.long 0), .second, .val (.long 0), .second, .val (.long 0), .second, .val (.long 0), .second, .val (.int 0), .val (.long m0), .second, .val (.long r0), .second, .val (.long f0), .second, .val (.long (m0 ||| f0)), .second, .val (.long (m0 ||| 0)), .second, .val (.long (wMC m0 r0 0)), .second, .unset, .unset, .unset, .unset] [.long (wRA m0 r0 f0 0)]
  refine G.lstore K D17_3_92 ([.val (.ref a), .val (.ref ma), .val (.ref ra), .val (.ref fa), .val (.long 0), .second, .val (.long 0), .second, .val (.long (wRA m0 r0 f0 0)), .second, .val (.long 0), .second, .val (.int 0), .val (.long m0), .second, .val (.long r0), .second, .val (.long f0), .second, .val (.long (m0 ||| f0)), .second, .val (.long (m0 ||| 0)), .second, .val (.long (wMC m0 r0 0)), .second, .unset, .unset, .unset, .unset]) rfl ?_
  refine G.lload K D17_3_94 rfl ?_
  refine G.lload K D17_3_96 rfl ?_
  refine G.land K D17_3_98 ?_
  change G k n0 _ h _ _ 99 [.val (.ref a), .val (.ref ma), .val (.ref ra), .val (.ref fa), .val (.long 0), .second, .val (.long 0), .second, .val (.long (wRA m0 r0 f0 0)), .second, .val (.long 0), .second, .val (.int 0), .val (.long m0), .second, .val (.long r0), .second, .val (.long f0), .second, .val (.long (m0 ||| f0)), .second, .val (.long (m0 ||| 0)), .second, .val (.long (wMC m0 r0 0)), .second, .unset, .unset, .unset, .unset] [.long (wFA m0 r0 0)]
  refine G.lstore K D17_3_99 ([.val (.ref a), .val (.ref ma), .val (.ref ra), .val (.ref fa), .val (.long 0), .second, .val (.long 0), .second, .val (.long (wRA m0 r0 f0 0)), .second, .val (.long (wFA m0 r0 0)), .second, .val (.int 0), .val (.long m0), .second, .val (.long r0), .second, .val (.long f0), .second, .val (.long (m0 ||| f0)), .second, .val (.long (m0 ||| 0)), .second, .val (.long (wMC m0 r0 0)), .second, .unset, .unset, .unset, .unset]) rfl ?_
  refine G.lload K D17_3_101 rfl ?_
  refine G.iconst K D17_3_103 1 rfl ?_
  refine G.lshl K D17_3_104 ?_
  refine G.lload K D17_3_105 rfl ?_
  refine G.lor K D17_3_107 ?_
  change G k n0 _ h _ _ 108 [.val (.ref a), .val (.ref ma), .val (.ref ra), .val (.ref fa), .val (.long 0), .second, .val (.long 0), .second, .val (.long (wRA m0 r0 f0 0)), .second, .val (.long (wFA m0 r0 0)), .second, .val (.int 0), .val (.long m0), .second, .val (.long r0), .second, .val (.long f0), .second, .val (.long (m0 ||| f0)), .second, .val (.long (m0 ||| 0)), .second, .val (.long (wMC m0 r0 0)), .second, .unset, .unset, .unset, .unset] [.long (wRU m0 r0 f0 0 0)]
  refine G.lstore K D17_3_108 ([.val (.ref a), .val (.ref ma), .val (.ref ra), .val (.ref fa), .val (.long 0), .second, .val (.long 0), .second, .val (.long (wRA m0 r0 f0 0)), .second, .val (.long (wFA m0 r0 0)), .second, .val (.int 0), .val (.long m0), .second, .val (.long r0), .second, .val (.long f0), .second, .val (.long (m0 ||| f0)), .second, .val (.long (m0 ||| 0)), .second, .val (.long (wMC m0 r0 0)), .second, .val (.long (wRU m0 r0 f0 0 0)), .second, .unset, .unset]) rfl ?_
  refine G.lload K D17_3_110 rfl ?_
  refine G.iconst K D17_3_112 1 rfl ?_
  refine G.lshl K D17_3_113 ?_
  refine G.lload K D17_3_114 rfl ?_
  refine G.lor K D17_3_116 ?_
  change G k n0 _ h _ _ 117 [.val (.ref a), .val (.ref ma), .val (.ref ra), .val (.ref fa), .val (.long 0), .second, .val (.long 0), .second, .val (.long (wRA m0 r0 f0 0)), .second, .val (.long (wFA m0 r0 0)), .second, .val (.int 0), .val (.long m0), .second, .val (.long r0), .second, .val (.long f0), .second, .val (.long (m0 ||| f0)), .second, .val (.long (m0 ||| 0)), .second, .val (.long (wMC m0 r0 0)), .second, .val (.long (wRU m0 r0 f0 0 0)), .second, .unset, .unset] [.long (wFU m0 r0 0)]
  refine G.lstore K D17_3_117 ([.val (.ref a), .val (.ref ma), .val (.ref ra), .val (.ref fa), .val (.long 0), .second, .val (.long 0), .second, .val (.long (wRA m0 r0 f0 0)), .second, .val (.long (wFA m0 r0 0)), .second, .val (.int 0), .val (.long m0), .second, .val (.long r0), .second, .val (.long f0), .second, .val (.long (m0 ||| f0)), .second, .val (.long (m0 ||| 0)), .second, .val (.long (wMC m0 r0 0)), .second, .val (.long (wRU m0 r0 f0 0 0)), .second, .val (.long (wFU m0 r0 0)), .second]) rfl ?_
  refine G.lload K D17_3_119 rfl ?_
  refine G.bipush K D17_3_121 63 rfl ?_
  refine G.lushr K D17_3_123 ?_
  change G k n0 _ h _ _ 124 [.val (.ref a), .val (.ref ma), .val (.ref ra), .val (.ref fa), .val (.long 0), .second, .val (.long 0), .second, .val (.long (wRA m0 r0 f0 0)), .second, .val (.long (wFA m0 r0 0)), .second, .val (.int 0), .val (.long m0), .second, .val (.long r0), .second, .val (.long f0), .second, .val (.long (m0 ||| f0)), .second, .val (.long (m0 ||| 0)), .second, .val (.long (wMC m0 r0 0)), .second, .val (.long (wRU m0 r0 f0 0 0)), .second, .val (.long (wFU m0 r0 0)), .second] [.long (XT.ushrL (wRA m0 r0 f0 0) 63)]
  refine G.lstore K D17_3_124 ([.val (.ref a), .val (.ref ma), .val (.ref ra), .val (.ref fa), .val (.long (XT.ushrL (wRA m0 r0 f0 0) 63)), .second, .val (.long 0), .second, .val (.long (wRA m0 r0 f0 0)), .second, .val (.long (wFA m0 r0 0)), .second, .val (.int 0), .val (.long m0), .second, .val (.long r0), .second, .val (.long f0), .second, .val (.long (m0 ||| f0)), .second, .val (.long (m0 ||| 0)), .second, .val (.long (wMC m0 r0 0)), .second, .val (.long (wRU m0 r0 f0 0 0)), .second, .val (.long (wFU m0 r0 0)), .second]) rfl ?_
  refine G.lload K D17_3_126 rfl ?_
  refine G.bipush K D17_3_128 63 rfl ?_
  refine G.lushr K D17_3_130 ?_
  change G k n0 _ h _ _ 131 [.val (.ref a), .val (.ref ma), .val (.ref ra), .val (.ref fa), .val (.long (XT.ushrL (wRA m0 r0 f0 0) 63)), .second, .val (.long 0), .second, .val (.long (wRA m0 r0 f0 0)), .second, .val (.long (wFA m0 r0 0)), .second, .val (.int 0), .val (.long m0), .second, .val (.long r0), .second, .val (.long f0), .second, .val (.long (m0 ||| f0)), .second, .val (.long (m0 ||| 0)), .second, .val (.long (wMC m0 r0 0)), .second, .val (.long (wRU m0 r0 f0 0 0)), .second, .val (.long (wFU m0 r0 0)), .second] [.long (XT.ushrL (wFA m0 r0 0) 63)]
  refine G.lstore K D17_3_131 ([.val (.ref a), .val (.ref ma), .val (.ref ra), .val (.ref fa), .val (.long (XT.ushrL (wRA m0 r0 f0 0) 63)), .second, .val (.long (XT.ushrL (wFA m0 r0 0) 63)), .second, .val (.long (wRA m0 r0 f0 0)), .second, .val (.long (wFA m0 r0 0)), .second, .val (.int 0), .val (.long m0), .second, .val (.long r0), .second, .val (.long f0), .second, .val (.long (m0 ||| f0)), .second, .val (.long (m0 ||| 0)), .second, .val (.long (wMC m0 r0 0)), .second, .val (.long (wRU m0 r0 f0 0 0)), .second, .val (.long (wFU m0 r0 0)), .second]) rfl ?_
  refine G.aloadN K D17_3_133 rfl rfl ?_
  refine G.iload K D17_3_134 rfl ?_
  refine G.lload K D17_3_136 rfl ?_
  refine G.lload K D17_3_138 rfl ?_
  refine G.lload K D17_3_140 rfl ?_
  refine G.lor K D17_3_142 ?_
  refine G.ldc2J K D17_3_143 (wd hw 31 rfl) ?_
  refine G.lxor K D17_3_146 ?_
  refine G.lor K D17_3_147 ?_
  change G k n0 _ h _ _ 148 [.val (.ref a), .val (.ref ma), .val (.ref ra), .val (.ref fa), .val (.long (XT.ushrL (wRA m0 r0 f0 0) 63)), .second, .val (.long (XT.ushrL (wFA m0 r0 0) 63)), .second, .val (.long (wRA m0 r0 f0 0)), .second, .val (.long (wFA m0 r0 0)), .second, .val (.int 0), .val (.long m0), .second, .val (.long r0), .second, .val (.long f0), .second, .val (.long (m0 ||| f0)), .second, .val (.long (m0 ||| 0)), .second, .val (.long (wMC m0 r0 0)), .second, .val (.long (wRU m0 r0 f0 0 0)), .second, .val (.long (wFU m0 r0 0)), .second] [.long (wR m0 r0 f0 0 0), .int 0, .ref ra]
  refine G.astore_l K H (i := 1) rfl (by decide) (Nat.le_of_ble_eq_true rfl) D17_3_148 ?_
  intro h62 H62
  change Hp n0 h62 ((a, Ob Z "com/example/bitstride/bitstride/search/EditDistances" NSE [.ref ra, .ref fa, .int ln, .int lb, .int me, .int di]) :: (ra, La Z [(wR m0 r0 f0 0 0), r1]) :: (fa, La Z [f0, f1]) :: (ma, La Z [m0, m1]) :: σ) at H62
  refine G.aloadN K D17_3_149 rfl rfl ?_
  refine G.iload K D17_3_150 rfl ?_
  refine G.lload K D17_3_152 rfl ?_
  refine G.lload K D17_3_154 rfl ?_
  refine G.land K D17_3_156 ?_
  change G k n0 _ h62 _ _ 157 [.val (.ref a), .val (.ref ma), .val (.ref ra), .val (.ref fa), .val (.long (XT.ushrL (wRA m0 r0 f0 0) 63)), .second, .val (.long (XT.ushrL (wFA m0 r0 0) 63)), .second, .val (.long (wRA m0 r0 f0 0)), .second, .val (.long (wFA m0 r0 0)), .second, .val (.int 0), .val (.long m0), .second, .val (.long r0), .second, .val (.long f0), .second, .val (.long (m0 ||| f0)), .second, .val (.long (m0 ||| 0)), .second, .val (.long (wMC m0 r0 0)), .second, .val (.long (wRU m0 r0 f0 0 0)), .second, .val (.long (wFU m0 r0 0)), .second] [.long (wF m0 r0 f0 0 0), .int 0, .ref fa]
  refine G.astore_l K H62 (i := 2) rfl (by decide) (Nat.le_of_ble_eq_true rfl) D17_3_157 ?_
  intro h63 H63
  change Hp n0 h63 ((a, Ob Z "com/example/bitstride/bitstride/search/EditDistances" NSE [.ref ra, .ref fa, .int ln, .int lb, .int me, .int di]) :: (ra, La Z [(wR m0 r0 f0 0 0), r1]) :: (fa, La Z [(wF m0 r0 f0 0 0), f1]) :: (ma, La Z [m0, m1]) :: σ) at H63
  refine G.iinc K D17_3_158 1 rfl rfl ([.val (.ref a), .val (.ref ma), .val (.ref ra), .val (.ref fa), .val (.long (XT.ushrL (wRA m0 r0 f0 0) 63)), .second, .val (.long (XT.ushrL (wFA m0 r0 0) 63)), .second, .val (.long (wRA m0 r0 f0 0)), .second, .val (.long (wFA m0 r0 0)), .second, .val (.int (0 + 1)), .val (.long m0), .second, .val (.long r0), .second, .val (.long f0), .second, .val (.long (m0 ||| f0)), .second, .val (.long (m0 ||| 0)), .second, .val (.long (wMC m0 r0 0)), .second, .val (.long (wRU m0 r0 f0 0 0)), .second, .val (.long (wFU m0 r0 0)), .second]) rfl ?_
  change G k n0 _ h63 _ _ 161 [.val (.ref a), .val (.ref ma), .val (.ref ra), .val (.ref fa), .val (.long (XT.ushrL (wRA m0 r0 f0 0) 63)), .second, .val (.long (XT.ushrL (wFA m0 r0 0) 63)), .second, .val (.long (wRA m0 r0 f0 0)), .second, .val (.long (wFA m0 r0 0)), .second, .val (.int 1), .val (.long m0), .second, .val (.long r0), .second, .val (.long f0), .second, .val (.long (m0 ||| f0)), .second, .val (.long (m0 ||| 0)), .second, .val (.long (wMC m0 r0 0)), .second, .val (.long (wRU m0 r0 f0 0 0)), .second, .val (.long (wFU m0 r0 0)), .second] []
  refine G.goto K D17_3_161 ?_
  refine G.iload K D17_3_25 rfl ?_
  refine G.aloadN K D17_3_27 rfl rfl ?_
  refine G.alen K H63 (i := 1) rfl D17_3_28 2 rfl ?_
  refine G.icmp_ge K D17_3_29 (fun q => absurd q (by decide)) (fun _ => ?_)
  refine G.aloadN K D17_3_32 rfl rfl ?_
  refine G.iload K D17_3_33 rfl ?_
  refine G.aload_l K H63 (i := 3) rfl (by decide) rfl D17_3_35 ?_
  refine G.lstore K D17_3_36 ([.val (.ref a), .val (.ref ma), .val (.ref ra), .val (.ref fa), .val (.long (XT.ushrL (wRA m0 r0 f0 0) 63)), .second, .val (.long (XT.ushrL (wFA m0 r0 0) 63)), .second, .val (.long (wRA m0 r0 f0 0)), .second, .val (.long (wFA m0 r0 0)), .second, .val (.int 1), .val (.long m1), .second, .val (.long r0), .second, .val (.long f0), .second, .val (.long (m0 ||| f0)), .second, .val (.long (m0 ||| 0)), .second, .val (.long (wMC m0 r0 0)), .second, .val (.long (wRU m0 r0 f0 0 0)), .second, .val (.long (wFU m0 r0 0)), .second]) rfl ?_
  refine G.aloadN K D17_3_38 rfl rfl ?_
  refine G.iload K D17_3_39 rfl ?_
  refine G.aload_l K H63 (i := 1) rfl (by decide) rfl D17_3_41 ?_
  refine G.lstore K D17_3_42 ([.val (.ref a), .val (.ref ma), .val (.ref ra), .val (.ref fa), .val (.long (XT.ushrL (wRA m0 r0 f0 0) 63)), .second, .val (.long (XT.ushrL (wFA m0 r0 0) 63)), .second, .val (.long (wRA m0 r0 f0 0)), .second, .val (.long (wFA m0 r0 0)), .second, .val (.int 1), .val (.long m1), .second, .val (.long r1), .second, .val (.long f0), .second, .val (.long (m0 ||| f0)), .second, .val (.long (m0 ||| 0)), .second, .val (.long (wMC m0 r0 0)), .second, .val (.long (wRU m0 r0 f0 0 0)), .second, .val (.long (wFU m0 r0 0)), .second]) rfl ?_
  refine G.aloadN K D17_3_44 rfl rfl ?_
  refine G.iload K D17_3_45 rfl ?_
  refine G.aload_l K H63 (i := 2) rfl (by decide) rfl D17_3_47 ?_
  refine G.lstore K D17_3_48 ([.val (.ref a), .val (.ref ma), .val (.ref ra), .val (.ref fa), .val (.long (XT.ushrL (wRA m0 r0 f0 0) 63)), .second, .val (.long (XT.ushrL (wFA m0 r0 0) 63)), .second, .val (.long (wRA m0 r0 f0 0)), .second, .val (.long (wFA m0 r0 0)), .second, .val (.int 1), .val (.long m1), .second, .val (.long r1), .second, .val (.long f1), .second, .val (.long (m0 ||| f0)), .second, .val (.long (m0 ||| 0)), .second, .val (.long (wMC m0 r0 0)), .second, .val (.long (wRU m0 r0 f0 0 0)), .second, .val (.long (wFU m0 r0 0)), .second]) rfl ?_
  refine G.lload K D17_3_50 rfl ?_
  refine G.lload K D17_3_52 rfl ?_
  refine G.lor K D17_3_54 ?_
  refine G.lstore K D17_3_55 ([.val (.ref a), .val (.ref ma), .val (.ref ra), .val (.ref fa), .val (.long (XT.ushrL (wRA m0 r0 f0 0) 63)), .second, .val (.long (XT.ushrL (wFA m0 r0 0) 63)), .second, .val (.long (wRA m0 r0 f0 0)), .second, .val (.long (wFA m0 r0 0)), .second, .val (.int 1), .val (.long m1), .second, .val (.long r1), .second, .val (.long f1), .second, .val (.long (m1 ||| f1)), .second, .val (.long (m0 ||| 0)), .second, .val (.long (wMC m0 r0 0)), .second, .val (.long (wRU m0 r0 f0 0 0)), .second, .val (.long (wFU m0 r0 0)), .second]) rfl ?_
  refine G.lload K D17_3_57 rfl ?_
  refine G.lload K D17_3_59 rfl ?_
  refine G.lor K D17_3_61 ?_
  refine G.lstore K D17_3_62 ([.val (.ref a), .val (.ref ma), .val (.ref ra), .val (.ref fa), .val (.long (XT.ushrL (wRA m0 r0 f0 0) 63)), .second, .val (.long (XT.ushrL (wFA m0 r0 0) 63)), .second, .val (.long (wRA m0 r0 f0 0)), .second, .val (.long (wFA m0 r0 0)), .second, .val (.int 1), .val (.long m1), .second, .val (.long r1), .second, .val (.long f1), .second, .val (.long (m1 ||| f1)), .second, .val (.long (m1 ||| (XT.ushrL (wFA m0 r0 0) 63))), .second, .val (.long (wMC m0 r0 0)), .second, .val (.long (wRU m0 r0 f0 0 0)), .second, .val (.long (wFU m0 r0 0)), .second]) rfl ?_
  refine G.lload K D17_3_64 rfl ?_
  refine G.lload K D17_3_66 rfl ?_
  refine G.land K D17_3_68 ?_
  refine G.lload K D17_3_69 rfl ?_
  refine G.ladd K D17_3_71 ?_
  refine G.lload K D17_3_72 rfl ?_
  refine G.lxor K D17_3_74 ?_
  refine G.lload K D17_3_75 rfl ?_
  refine G.lor K D17_3_77 ?_
  change G k n0 _ h63 _ _ 78 [.val (.ref a), .val (.ref ma), .val (.ref ra), .val (.ref fa), .val (.long (XT.ushrL (wRA m0 r0 f0 0) 63)), .second, .val (.long (XT.ushrL (wFA m0 r0 0) 63)), .second, .val (.long (wRA m0 r0 f0 0)), .second, .val (.long (wFA m0 r0 0)), .second, .val (.int 1), .val (.long m1), .second, .val (.long r1), .second, .val (.long f1), .second, .val (.long (m1 ||| f1)), .second, .val (.long (m1 ||| (XT.ushrL (wFA m0 r0 0) 63))), .second, .val (.long (wMC m0 r0 0)), .second, .val (.long (wRU m0 r0 f0 0 0)), .second, .val (.long (wFU m0 r0 0)), .second] [.long (wMC m1 r1 (XT.ushrL (wFA m0 r0 0) 63))]
  refine G.lstore K D17_3_78 ([.val (.ref a), .val (.ref ma), .val (.ref ra), .val (.ref fa), .val (.long (XT.ushrL (wRA m0 r0 f0 0) 63)), .second, .val (.long (XT.ushrL (wFA m0 r0 0) 63)), .second, .val (.long (wRA m0 r0 f0 0)), .second, .val (.long (wFA m0 r0 0)), .second, .val (.int 1), .val (.long m1), .second, .val (.long r1), .second, .val (.long f1), .second, .val (.long (m1 ||| f1)), .second, .val (.long (m1 ||| (XT.ushrL (wFA m0 r0 0) 63))), .second, .val (.long (wMC m1 r1 (XT.ushrL (wFA m0 r0 0) 63))), .second, .val (.long (wRU m0 r0 f0 0 0)), .second, .val (.long (wFU m0 r0 0)), .second]) rfl ?_
  refine G.lload K D17_3_80 rfl ?_
  refine G.lload K D17_3_82 rfl ?_
  refine G.lload K D17_3_84 rfl ?_
  refine G.lor K D17_3_86 ?_
  refine G.ldc2J K D17_3_87 (wd hw 31 rfl) ?_
  refine G.lxor K D17_3_90 ?_
  refine G.lor K D17_3_91 ?_
  change G k n0 _ h63 _ _ 92 [.val (.ref a), .val (.ref ma), .val (.ref ra), .val (.ref fa), .val (.long (XT.ushrL (wRA m0 r0 f0 0) 63)), .second, .val (.long (XT.ushrL (wFA m0 r0 0) 63)), .second, .val (.long (wRA m0 r0 f0 0)), .second, .val (.long (wFA m0 r0 0)), .second, .val (.int 1), .val (.long m1), .second, .val (.long r1), .second, .val (.long f1), .second, .val (.long (m1 ||| f1)), .second, .val (.long (m1 ||| (XT.ushrL (wFA m0 r0 0) 63))), .second, .val (.long (wMC m1 r1 (XT.ushrL (wFA m0 r0 0) 63))), .second, .val (.long (wRU m0 r0 f0 0 0)), .second, .val (.long (wFU m0 r0 0)), .second] [.long (wRA m1 r1 f1 (XT.ushrL (wFA m0 r0 0) 63))]
  refine G.lstore K D17_3_92 ([.val (.ref a), .val (.ref ma), .val (.ref ra), .val (.ref fa), .val (.long (XT.ushrL (wRA m0 r0 f0 0) 63)), .second, .val (.long (XT.ushrL (wFA m0 r0 0) 63)), .second, .val (.long (wRA m1 r1 f1 (XT.ushrL (wFA m0 r0 0) 63))), .second, .val (.long (wFA m0 r0 0)), .second, .val (.int 1), .val (.long m1), .second, .val (.long r1), .second, .val (.long f1), .second, .val (.long (m1 ||| f1)), .second, .val (.long (m1 ||| (XT.ushrL (wFA m0 r0 0) 63))), .second, .val (.long (wMC m1 r1 (XT.ushrL (wFA m0 r0 0) 63))), .second, .val (.long (wRU m0 r0 f0 0 0)), .second, .val (.long (wFU m0 r0 0)), .second]) rfl ?_
  refine G.lload K D17_3_94 rfl ?_
  refine G.lload K D17_3_96 rfl ?_
  refine G.land K D17_3_98 ?_
  change G k n0 _ h63 _ _ 99 [.val (.ref a), .val (.ref ma), .val (.ref ra), .val (.ref fa), .val (.long (XT.ushrL (wRA m0 r0 f0 0) 63)), .second, .val (.long (XT.ushrL (wFA m0 r0 0) 63)), .second, .val (.long (wRA m1 r1 f1 (XT.ushrL (wFA m0 r0 0) 63))), .second, .val (.long (wFA m0 r0 0)), .second, .val (.int 1), .val (.long m1), .second, .val (.long r1), .second, .val (.long f1), .second, .val (.long (m1 ||| f1)), .second, .val (.long (m1 ||| (XT.ushrL (wFA m0 r0 0) 63))), .second, .val (.long (wMC m1 r1 (XT.ushrL (wFA m0 r0 0) 63))), .second, .val (.long (wRU m0 r0 f0 0 0)), .second, .val (.long (wFU m0 r0 0)), .second] [.long (wFA m1 r1 (XT.ushrL (wFA m0 r0 0) 63))]
  refine G.lstore K D17_3_99 ([.val (.ref a), .val (.ref ma), .val (.ref ra), .val (.ref fa), .val (.long (XT.ushrL (wRA m0 r0 f0 0) 63)), .second, .val (.long (XT.ushrL (wFA m0 r0 0) 63)), .second, .val (.long (wRA m1 r1 f1 (XT.ushrL (wFA m0 r0 0) 63))), .second, .val (.long (wFA m1 r1 (XT.ushrL (wFA m0 r0 0) 63))), .second, .val (.int 1), .val (.long m1), .second, .val (.long r1), .second, .val (.long f1), .second, .val (.long (m1 ||| f1)), .second, .val (.long (m1 ||| (XT.ushrL (wFA m0 r0 0) 63))), .second, .val (.long (wMC m1 r1 (XT.ushrL (wFA m0 r0 0) 63))), .second, .val (.long (wRU m0 r0 f0 0 0)), .second, .val (.long (wFU m0 r0 0)), .second]) rfl ?_
  refine G.lload K D17_3_101 rfl ?_
  refine G.iconst K D17_3_103 1 rfl ?_
  refine G.lshl K D17_3_104 ?_
  refine G.lload K D17_3_105 rfl ?_
  refine G.lor K D17_3_107 ?_
  change G k n0 _ h63 _ _ 108 [.val (.ref a), .val (.ref ma), .val (.ref ra), .val (.ref fa), .val (.long (XT.ushrL (wRA m0 r0 f0 0) 63)), .second, .val (.long (XT.ushrL (wFA m0 r0 0) 63)), .second, .val (.long (wRA m1 r1 f1 (XT.ushrL (wFA m0 r0 0) 63))), .second, .val (.long (wFA m1 r1 (XT.ushrL (wFA m0 r0 0) 63))), .second, .val (.int 1), .val (.long m1), .second, .val (.long r1), .second, .val (.long f1), .second, .val (.long (m1 ||| f1)), .second, .val (.long (m1 ||| (XT.ushrL (wFA m0 r0 0) 63))), .second, .val (.long (wMC m1 r1 (XT.ushrL (wFA m0 r0 0) 63))), .second, .val (.long (wRU m0 r0 f0 0 0)), .second, .val (.long (wFU m0 r0 0)), .second] [.long (wRU m1 r1 f1 (XT.ushrL (wRA m0 r0 f0 0) 63) (XT.ushrL (wFA m0 r0 0) 63))]
  refine G.lstore K D17_3_108 ([.val (.ref a), .val (.ref ma), .val (.ref ra), .val (.ref fa), .val (.long (XT.ushrL (wRA m0 r0 f0 0) 63)), .second, .val (.long (XT.ushrL (wFA m0 r0 0) 63)), .second, .val (.long (wRA m1 r1 f1 (XT.ushrL (wFA m0 r0 0) 63))), .second, .val (.long (wFA m1 r1 (XT.ushrL (wFA m0 r0 0) 63))), .second, .val (.int 1), .val (.long m1), .second, .val (.long r1), .second, .val (.long f1), .second, .val (.long (m1 ||| f1)), .second, .val (.long (m1 ||| (XT.ushrL (wFA m0 r0 0) 63))), .second, .val (.long (wMC m1 r1 (XT.ushrL (wFA m0 r0 0) 63))), .second, .val (.long (wRU m1 r1 f1 (XT.ushrL (wRA m0 r0 f0 0) 63) (XT.ushrL (wFA m0 r0 0) 63))), .second, .val (.long (wFU m0 r0 0)), .second]) rfl ?_
  refine G.lload K D17_3_110 rfl ?_
  refine G.iconst K D17_3_112 1 rfl ?_
  refine G.lshl K D17_3_113 ?_
  refine G.lload K D17_3_114 rfl ?_
  refine G.lor K D17_3_116 ?_
  change G k n0 _ h63 _ _ 117 [.val (.ref a), .val (.ref ma), .val (.ref ra), .val (.ref fa), .val (.long (XT.ushrL (wRA m0 r0 f0 0) 63)), .second, .val (.long (XT.ushrL (wFA m0 r0 0) 63)), .second, .val (.long (wRA m1 r1 f1 (XT.ushrL (wFA m0 r0 0) 63))), .second, .val (.long (wFA m1 r1 (XT.ushrL (wFA m0 r0 0) 63))), .second, .val (.int 1), .val (.long m1), .second, .val (.long r1), .second, .val (.long f1), .second, .val (.long (m1 ||| f1)), .second, .val (.long (m1 ||| (XT.ushrL (wFA m0 r0 0) 63))), .second, .val (.long (wMC m1 r1 (XT.ushrL (wFA m0 r0 0) 63))), .second, .val (.long (wRU m1 r1 f1 (XT.ushrL (wRA m0 r0 f0 0) 63) (XT.ushrL (wFA m0 r0 0) 63))), .second, .val (.long (wFU m0 r0 0)), .second] [.long (wFU m1 r1 (XT.ushrL (wFA m0 r0 0) 63))]
  refine G.lstore K D17_3_117 ([.val (.ref a), .val (.ref ma), .val (.ref ra), .val (.ref fa), .val (.long (XT.ushrL (wRA m0 r0 f0 0) 63)), .second, .val (.long (XT.ushrL (wFA m0 r0 0) 63)), .second, .val (.long (wRA m1 r1 f1 (XT.ushrL (wFA m0 r0 0) 63))), .second, .val (.long (wFA m1 r1 (XT.ushrL (wFA m0 r0 0) 63))), .second, .val (.int 1), .val (.long m1), .second, .val (.long r1), .second, .val (.long f1), .second, .val (.long (m1 ||| f1)), .second, .val (.long (m1 ||| (XT.ushrL (wFA m0 r0 0) 63))), .second, .val (.long (wMC m1 r1 (XT.ushrL (wFA m0 r0 0) 63))), .second, .val (.long (wRU m1 r1 f1 (XT.ushrL (wRA m0 r0 f0 0) 63) (XT.ushrL (wFA m0 r0 0) 63))), .second, .val (.long (wFU m1 r1 (XT.ushrL (wFA m0 r0 0) 63))), .second]) rfl ?_
  refine G.lload K D17_3_119 rfl ?_
  refine G.bipush K D17_3_121 63 rfl ?_
  refine G.lushr K D17_3_123 ?_
  change G k n0 _ h63 _ _ 124 [.val (.ref a), .val (.ref ma), .val (.ref ra), .val (.ref fa), .val (.long (XT.ushrL (wRA m0 r0 f0 0) 63)), .second, .val (.long (XT.ushrL (wFA m0 r0 0) 63)), .second, .val (.long (wRA m1 r1 f1 (XT.ushrL (wFA m0 r0 0) 63))), .second, .val (.long (wFA m1 r1 (XT.ushrL (wFA m0 r0 0) 63))), .second, .val (.int 1), .val (.long m1), .second, .val (.long r1), .second, .val (.long f1), .second, .val (.long (m1 ||| f1)), .second, .val (.long (m1 ||| (XT.ushrL (wFA m0 r0 0) 63))), .second, .val (.long (wMC m1 r1 (XT.ushrL (wFA m0 r0 0) 63))), .second, .val (.long (wRU m1 r1 f1 (XT.ushrL (wRA m0 r0 f0 0) 63) (XT.ushrL (wFA m0 r0 0) 63))), .second, .val (.long (wFU m1 r1 (XT.ushrL (wFA m0 r0 0) 63))), .second] [.long (XT.ushrL (wRA m1 r1 f1 (XT.ushrL (wFA m0 r0 0) 63)) 63)]
  refine G.lstore K D17_3_124 ([.val (.ref a), .val (.ref ma), .val (.ref ra), .val (.ref fa), .val (.long (XT.ushrL (wRA m1 r1 f1 (XT.ushrL (wFA m0 r0 0) 63)) 63)), .second, .val (.long (XT.ushrL (wFA m0 r0 0) 63)), .second, .val (.long (wRA m1 r1 f1 (XT.ushrL (wFA m0 r0 0) 63))), .second, .val (.long (wFA m1 r1 (XT.ushrL (wFA m0 r0 0) 63))), .second, .val (.int 1), .val (.long m1), .second, .val (.long r1), .second, .val (.long f1), .second, .val (.long (m1 ||| f1)), .second, .val (.long (m1 ||| (XT.ushrL (wFA m0 r0 0) 63))), .second, .val (.long (wMC m1 r1 (XT.ushrL (wFA m0 r0 0) 63))), .second, .val (.long (wRU m1 r1 f1 (XT.ushrL (wRA m0 r0 f0 0) 63) (XT.ushrL (wFA m0 r0 0) 63))), .second, .val (.long (wFU m1 r1 (XT.ushrL (wFA m0 r0 0) 63))), .second]) rfl ?_
  refine G.lload K D17_3_126 rfl ?_
  refine G.bipush K D17_3_128 63 rfl ?_
  refine G.lushr K D17_3_130 ?_
  change G k n0 _ h63 _ _ 131 [.val (.ref a), .val (.ref ma), .val (.ref ra), .val (.ref fa), .val (.long (XT.ushrL (wRA m1 r1 f1 (XT.ushrL (wFA m0 r0 0) 63)) 63)), .second, .val (.long (XT.ushrL (wFA m0 r0 0) 63)), .second, .val (.long (wRA m1 r1 f1 (XT.ushrL (wFA m0 r0 0) 63))), .second, .val (.long (wFA m1 r1 (XT.ushrL (wFA m0 r0 0) 63))), .second, .val (.int 1), .val (.long m1), .second, .val (.long r1), .second, .val (.long f1), .second, .val (.long (m1 ||| f1)), .second, .val (.long (m1 ||| (XT.ushrL (wFA m0 r0 0) 63))), .second, .val (.long (wMC m1 r1 (XT.ushrL (wFA m0 r0 0) 63))), .second, .val (.long (wRU m1 r1 f1 (XT.ushrL (wRA m0 r0 f0 0) 63) (XT.ushrL (wFA m0 r0 0) 63))), .second, .val (.long (wFU m1 r1 (XT.ushrL (wFA m0 r0 0) 63))), .second] [.long (XT.ushrL (wFA m1 r1 (XT.ushrL (wFA m0 r0 0) 63)) 63)]
  refine G.lstore K D17_3_131 ([.val (.ref a), .val (.ref ma), .val (.ref ra), .val (.ref fa), .val (.long (XT.ushrL (wRA m1 r1 f1 (XT.ushrL (wFA m0 r0 0) 63)) 63)), .second, .val (.long (XT.ushrL (wFA m1 r1 (XT.ushrL (wFA m0 r0 0) 63)) 63)), .second, .val (.long (wRA m1 r1 f1 (XT.ushrL (wFA m0 r0 0) 63))), .second, .val (.long (wFA m1 r1 (XT.ushrL (wFA m0 r0 0) 63))), .second, .val (.int 1), .val (.long m1), .second, .val (.long r1), .second, .val (.long f1), .second, .val (.long (m1 ||| f1)), .second, .val (.long (m1 ||| (XT.ushrL (wFA m0 r0 0) 63))), .second, .val (.long (wMC m1 r1 (XT.ushrL (wFA m0 r0 0) 63))), .second, .val (.long (wRU m1 r1 f1 (XT.ushrL (wRA m0 r0 f0 0) 63) (XT.ushrL (wFA m0 r0 0) 63))), .second, .val (.long (wFU m1 r1 (XT.ushrL (wFA m0 r0 0) 63))), .second]) rfl ?_
  refine G.aloadN K D17_3_133 rfl rfl ?_
  refine G.iload K D17_3_134 rfl ?_
  refine G.lload K D17_3_136 rfl ?_
  refine G.lload K D17_3_138 rfl ?_
  refine G.lload K D17_3_140 rfl ?_
  refine G.lor K D17_3_142 ?_
  refine G.ldc2J K D17_3_143 (wd hw 31 rfl) ?_
  refine G.lxor K D17_3_146 ?_
  refine G.lor K D17_3_147 ?_
  change G k n0 _ h63 _ _ 148 [.val (.ref a), .val (.ref ma), .val (.ref ra), .val (.ref fa), .val (.long (XT.ushrL (wRA m1 r1 f1 (XT.ushrL (wFA m0 r0 0) 63)) 63)), .second, .val (.long (XT.ushrL (wFA m1 r1 (XT.ushrL (wFA m0 r0 0) 63)) 63)), .second, .val (.long (wRA m1 r1 f1 (XT.ushrL (wFA m0 r0 0) 63))), .second, .val (.long (wFA m1 r1 (XT.ushrL (wFA m0 r0 0) 63))), .second, .val (.int 1), .val (.long m1), .second, .val (.long r1), .second, .val (.long f1), .second, .val (.long (m1 ||| f1)), .second, .val (.long (m1 ||| (XT.ushrL (wFA m0 r0 0) 63))), .second, .val (.long (wMC m1 r1 (XT.ushrL (wFA m0 r0 0) 63))), .second, .val (.long (wRU m1 r1 f1 (XT.ushrL (wRA m0 r0 f0 0) 63) (XT.ushrL (wFA m0 r0 0) 63))), .second, .val (.long (wFU m1 r1 (XT.ushrL (wFA m0 r0 0) 63))), .second] [.long (wR m1 r1 f1 (XT.ushrL (wRA m0 r0 f0 0) 63) (XT.ushrL (wFA m0 r0 0) 63)), .int 1, .ref ra]
  refine G.astore_l K H63 (i := 1) rfl (by decide) (Nat.le_of_ble_eq_true rfl) D17_3_148 ?_
  intro h65 H65
  change Hp n0 h65 ((a, Ob Z "com/example/bitstride/bitstride/search/EditDistances" NSE [.ref ra, .ref fa, .int ln, .int lb, .int me, .int di]) :: (ra, La Z [(wR m0 r0 f0 0 0), (wR m1 r1 f1 (XT.ushrL (wRA m0 r0 f0 0) 63) (XT.ushrL (wFA m0 r0 0) 63))]) :: (fa, La Z [(wF m0 r0 f0 0 0), f1]) :: (ma, La Z [m0, m1]) :: σ) at H65
  refine G.aloadN K D17_3_149 rfl rfl ?_
  refine G.iload K D17_3_150 rfl ?_
  refine G.lload K D17_3_152 rfl ?_
  refine G.lload K D17_3_154 rfl ?_
  refine G.land K D17_3_156 ?_
  change G k n0 _ h65 _ _ 157 [.val (.ref a), .val (.ref ma), .val (.ref ra), .val (.ref fa), .val (.long (XT.ushrL (wRA m1 r1 f1 (XT.ushrL (wFA m0 r0 0) 63)) 63)), .second, .val (.long (XT.ushrL (wFA m1 r1 (XT.ushrL (wFA m0 r0 0) 63)) 63)), .second, .val (.long (wRA m1 r1 f1 (XT.ushrL (wFA m0 r0 0) 63))), .second, .val (.long (wFA m1 r1 (XT.ushrL (wFA m0 r0 0) 63))), .second, .val (.int 1), .val (.long m1), .second, .val (.long r1), .second, .val (.long f1), .second, .val (.long (m1 ||| f1)), .second, .val (.long (m1 ||| (XT.ushrL (wFA m0 r0 0) 63))), .second, .val (.long (wMC m1 r1 (XT.ushrL (wFA m0 r0 0) 63))), .second, .val (.long (wRU m1 r1 f1 (XT.ushrL (wRA m0 r0 f0 0) 63) (XT.ushrL (wFA m0 r0 0) 63))), .second, .val (.long (wFU m1 r1 (XT.ushrL (wFA m0 r0 0) 63))), .second] [.long (wF m1 r1 f1 (XT.ushrL (wRA m0 r0 f0 0) 63) (XT.ushrL (wFA m0 r0 0) 63)), .int 1, .ref fa]
  refine G.astore_l K H65 (i := 2) rfl (by decide) (Nat.le_of_ble_eq_true rfl) D17_3_157 ?_
  intro h66 H66
  change Hp n0 h66 ((a, Ob Z "com/example/bitstride/bitstride/search/EditDistances" NSE [.ref ra, .ref fa, .int ln, .int lb, .int me, .int di]) :: (ra, La Z [(wR m0 r0 f0 0 0), (wR m1 r1 f1 (XT.ushrL (wRA m0 r0 f0 0) 63) (XT.ushrL (wFA m0 r0 0) 63))]) :: (fa, La Z [(wF m0 r0 f0 0 0), (wF m1 r1 f1 (XT.ushrL (wRA m0 r0 f0 0) 63) (XT.ushrL (wFA m0 r0 0) 63))]) :: (ma, La Z [m0, m1]) :: σ) at H66
  refine G.iinc K D17_3_158 1 rfl rfl ([.val (.ref a), .val (.ref ma), .val (.ref ra), .val (.ref fa), .val (.long (XT.ushrL (wRA m1 r1 f1 (XT.ushrL (wFA m0 r0 0) 63)) 63)), .second, .val (.long (XT.ushrL (wFA m1 r1 (XT.ushrL (wFA m0 r0 0) 63)) 63)), .second, .val (.long (wRA m1 r1 f1 (XT.ushrL (wFA m0 r0 0) 63))), .second, .val (.long (wFA m1 r1 (XT.ushrL (wFA m0 r0 0) 63))), .second, .val (.int (1 + 1)), .val (.long m1), .second, .val (.long r1), .second, .val (.long f1), .second, .val (.long (m1 ||| f1)), .second, .val (.long (m1 ||| (XT.ushrL (wFA m0 r0 0) 63))), .second, .val (.long (wMC m1 r1 (XT.ushrL (wFA m0 r0 0) 63))), .second, .val (.long (wRU m1 r1 f1 (XT.ushrL (wRA m0 r0 f0 0) 63) (XT.ushrL (wFA m0 r0 0) 63))), .second, .val (.long (wFU m1 r1 (XT.ushrL (wFA m0 r0 0) 63))), .second]) rfl ?_
  change G k n0 _ h66 _ _ 161 [.val (.ref a), .val (.ref ma), .val (.ref ra), .val (.ref fa), .val (.long (XT.ushrL (wRA m1 r1 f1 (XT.ushrL (wFA m0 r0 0) 63)) 63)), .second, .val (.long (XT.ushrL (wFA m1 r1 (XT.ushrL (wFA m0 r0 0) 63)) 63)), .second, .val (.long (wRA m1 r1 f1 (XT.ushrL (wFA m0 r0 0) 63))), .second, .val (.long (wFA m1 r1 (XT.ushrL (wFA m0 r0 0) 63))), .second, .val (.int 2), .val (.long m1), .second, .val (.long r1), .second, .val (.long f1), .second, .val (.long (m1 ||| f1)), .second, .val (.long (m1 ||| (XT.ushrL (wFA m0 r0 0) 63))), .second, .val (.long (wMC m1 r1 (XT.ushrL (wFA m0 r0 0) 63))), .second, .val (.long (wRU m1 r1 f1 (XT.ushrL (wRA m0 r0 f0 0) 63) (XT.ushrL (wFA m0 r0 0) 63))), .second, .val (.long (wFU m1 r1 (XT.ushrL (wFA m0 r0 0) 63))), .second] []
  refine G.goto K D17_3_161 ?_
  refine G.iload K D17_3_25 rfl ?_
  refine G.aloadN K D17_3_27 rfl rfl ?_
  refine G.alen K H66 (i := 1) rfl D17_3_28 2 rfl ?_
  refine G.icmp_ge K D17_3_29 (fun _ => ?_) (fun q => absurd q (by decide))
  refine G.aloadN K D17_3_164 rfl rfl ?_
  refine G.dup K D17_3_165 rfl ?_
  refine G.getF K (host := "") (Or.inl (wd hw 36 rfl)) H66 (i := 0) rfl (j := 5) rfl rfl D17_3_166 ?_
  refine G.lload K D17_3_169 rfl ?_
  refine G.aloadN K D17_3_171 rfl rfl ?_
  refine G.getF K (host := "") (Or.inl (wd hw 22 rfl)) H66 (i := 0) rfl (j := 3) rfl rfl D17_3_172 ?_
  refine G.lushr K D17_3_175 ?_
  refine G.lconst K D17_3_176 1 rfl ?_
  refine G.land K D17_3_177 ?_
  refine G.l2i K D17_3_178 ?_
  refine G.lload K D17_3_179 rfl ?_
  refine G.aloadN K D17_3_181 rfl rfl ?_
  refine G.getF K (host := "") (Or.inl (wd hw 22 rfl)) H66 (i := 0) rfl (j := 3) rfl rfl D17_3_182 ?_
  refine G.lushr K D17_3_185 ?_
  refine G.lconst K D17_3_186 1 rfl ?_
  refine G.land K D17_3_187 ?_
  refine G.l2i K D17_3_188 ?_
  refine G.isub K D17_3_189 ?_
  refine G.iadd K D17_3_190 ?_
  refine G.putF K (host := "") (Or.inl (wd hw 36 rfl)) (cf_NSE hw) (Or.inl (wd hw 37 rfl)) (wd hw 8 rfl) H66 (i := 0) rfl (j := 5) rfl rfl (ty := .int) (by decide) rfl rfl D17_3_191 ?_
  intro h68 H68
  change Hp n0 h68 ((a, Ob Z "com/example/bitstride/bitstride/search/EditDistances" NSE [.ref ra, .ref fa, .int ln, .int lb, .int me, .int (di + ((((XT.ushrL (wRA m1 r1 f1 (XT.ushrL (wFA m0 r0 0) 63)) lb) &&& 1).toInt32) - (((XT.ushrL (wFA m1 r1 (XT.ushrL (wFA m0 r0 0) 63)) lb) &&& 1).toInt32)))]) :: (ra, La Z [(wR m0 r0 f0 0 0), (wR m1 r1 f1 (XT.ushrL (wRA m0 r0 f0 0) 63) (XT.ushrL (wFA m0 r0 0) 63))]) :: (fa, La Z [(wF m0 r0 f0 0 0), (wF m1 r1 f1 (XT.ushrL (wRA m0 r0 f0 0) 63) (XT.ushrL (wFA m0 r0 0) 63))]) :: (ma, La Z [m0, m1]) :: σ) at H68
  refine G.aloadN K D17_3_194 rfl rfl ?_
  refine G.getF K (host := "") (Or.inl (wd hw 36 rfl)) H68 (i := 0) rfl (j := 5) rfl rfl D17_3_195 ?_
  refine G.aloadN K D17_3_198 rfl rfl ?_
  refine G.getF K (host := "") (Or.inl (wd hw 24 rfl)) H68 (i := 0) rfl (j := 4) rfl rfl D17_3_199 ?_
  refine G.isub K D17_3_202 ?_
  refine G.iconst K D17_3_203 1 rfl ?_
  refine G.isub K D17_3_204 ?_
  refine G.bipush K D17_3_205 31 rfl ?_
  refine G.iushr K D17_3_207 ?_
  refine G.i2l K D17_3_208 ?_
  refine G.ret_long K D17_3_209 ?_
  have H69 : Hp n0 h68 ((ma, La Z [m0, m1]) :: (a, Ob Z "com/example/bitstride/bitstride/search/EditDistances" NSE [.ref ra, .ref fa, .int ln, .int lb, .int me, .int (di + ((((XT.ushrL (wRA m1 r1 f1 (XT.ushrL (wFA m0 r0 0) 63)) lb) &&& 1).toInt32) - (((XT.ushrL (wFA m1 r1 (XT.ushrL (wFA m0 r0 0) 63)) lb) &&& 1).toInt32)))]) :: (ra, La Z [(wR m0 r0 f0 0 0), (wR m1 r1 f1 (XT.ushrL (wRA m0 r0 f0 0) 63) (XT.ushrL (wFA m0 r0 0) 63))]) :: (fa, La Z [(wF m0 r0 f0 0 0), (wF m1 r1 f1 (XT.ushrL (wRA m0 r0 f0 0) 63) (XT.ushrL (wFA m0 r0 0) 63))]) :: σ) := H68.pull 3 rfl
  have H70 : Hp n0 h68 ((fa, La Z [(wF m0 r0 f0 0 0), (wF m1 r1 f1 (XT.ushrL (wRA m0 r0 f0 0) 63) (XT.ushrL (wFA m0 r0 0) 63))]) :: (ma, La Z [m0, m1]) :: (a, Ob Z "com/example/bitstride/bitstride/search/EditDistances" NSE [.ref ra, .ref fa, .int ln, .int lb, .int me, .int (di + ((((XT.ushrL (wRA m1 r1 f1 (XT.ushrL (wFA m0 r0 0) 63)) lb) &&& 1).toInt32) - (((XT.ushrL (wFA m1 r1 (XT.ushrL (wFA m0 r0 0) 63)) lb) &&& 1).toInt32)))]) :: (ra, La Z [(wR m0 r0 f0 0 0), (wR m1 r1 f1 (XT.ushrL (wRA m0 r0 f0 0) 63) (XT.ushrL (wFA m0 r0 0) 63))]) :: σ) := H69.pull 3 rfl
  have H71 : Hp n0 h68 ((ra, La Z [(wR m0 r0 f0 0 0), (wR m1 r1 f1 (XT.ushrL (wRA m0 r0 f0 0) 63) (XT.ushrL (wFA m0 r0 0) 63))]) :: (fa, La Z [(wF m0 r0 f0 0 0), (wF m1 r1 f1 (XT.ushrL (wRA m0 r0 f0 0) 63) (XT.ushrL (wFA m0 r0 0) 63))]) :: (ma, La Z [m0, m1]) :: (a, Ob Z "com/example/bitstride/bitstride/search/EditDistances" NSE [.ref ra, .ref fa, .int ln, .int lb, .int me, .int (di + ((((XT.ushrL (wRA m1 r1 f1 (XT.ushrL (wFA m0 r0 0) 63)) lb) &&& 1).toInt32) - (((XT.ushrL (wFA m1 r1 (XT.ushrL (wFA m0 r0 0) 63)) lb) &&& 1).toInt32)))]) :: σ) := H70.pull 3 rfl
  have H72 : Hp n0 h68 ((a, Ob Z "com/example/bitstride/bitstride/search/EditDistances" NSE [.ref ra, .ref fa, .int ln, .int lb, .int me, .int (di + ((((XT.ushrL (wRA m1 r1 f1 (XT.ushrL (wFA m0 r0 0) 63)) lb) &&& 1).toInt32) - (((XT.ushrL (wFA m1 r1 (XT.ushrL (wFA m0 r0 0) 63)) lb) &&& 1).toInt32)))]) :: (ra, La Z [(wR m0 r0 f0 0 0), (wR m1 r1 f1 (XT.ushrL (wRA m0 r0 f0 0) 63) (XT.ushrL (wFA m0 r0 0) 63))]) :: (fa, La Z [(wF m0 r0 f0 0 0), (wF m1 r1 f1 (XT.ushrL (wRA m0 r0 f0 0) 63) (XT.ushrL (wFA m0 r0 0) 63))]) :: (ma, La Z [m0, m1]) :: σ) := H71.pull 3 rfl
  exact ⟨rfl, H72⟩
theorem D5_0 : Dc method_5_code 0 (.lload_n 0) 1 1 := dc (by decide +kernel) rfl
theorem D5_1 : Dc method_5_code 1 (.iload_n 2) 1 2 := dc (by decide +kernel) rfl
theorem D5_2 : Dc method_5_code 2 (.bipush 63) 2 4 := dc (by decide +kernel) rfl
theorem D5_4 : Dc method_5_code 4 (.iand) 1 5 := dc (by decide +kernel) rfl
theorem D5_5 : Dc method_5_code 5 (.lushr) 1 6 := dc (by decide +kernel) rfl
theorem D5_6 : Dc method_5_code 6 (.lconst 1) 1 7 := dc (by decide +kernel) rfl
theorem D5_7 : Dc method_5_code 7 (.land) 1 8 := dc (by decide +kernel) rfl
theorem D5_8 : Dc method_5_code 8 (.lconst 0) 1 9 := dc (by decide +kernel) rfl
theorem D5_9 : Dc method_5_code 9 (.lcmp) 1 10 := dc (by decide +kernel) rfl
theorem D5_10 : Db method_5_code 10 (.ifCond .eq) 13 17 := db (7) (by decide +kernel) rfl (by decide) (by decide)
theorem D5_13 : Dc method_5_code 13 (.iconst 1) 1 14 := dc (by decide +kernel) rfl
theorem D5_14 : Db method_5_code 14 (.goto) 17 18 := db (4) (by decide +kernel) rfl (by decide) (by decide)
theorem D5_17 : Dc method_5_code 17 (.iconst 0) 1 18 := dc (by decide +kernel) rfl
theorem D5_18 : Dc method_5_code 18 (.ireturn) 1 19 := dc (by decide +kernel) rfl
set_option maxRecDepth 65536 in
set_option maxHeartbeats 40000000 in
theorem ct_bit (l : Launch) (Z : State) (a0 : Array Value) (hw : ∀ d ∈ tables_1, d.before a0 Z = true) (n0 : Nat) (h : Heap) (x : Int64) (n : Nat) (hn : n < 2147483648) :
    Ct l Z n0 (⟨"com/example/bitstride/bitstride/search/EditDistancesStepPinLaw", "bit", "(JI)Z"⟩ : MethodName) method_5_code 3 (some .boolean) ({ frames := 0, cells := 0, slots := 0, locals := 0 } : Room) [.long x, .int (Int32.ofNat n)] h (fun v h' => v = some (.int (if bt x (n % 64) = true then 1 else 0)) ∧ h = h') := by
  refine Ct.intro (plainFor_of_name pn_0) [.val (.long x), .second, .val (.int (Int32.ofNat n))] (fun m => by first | (simp [entryFrame, mkF, argsToLocals, Value.category]; done) | (simp [entryFrame, mkF, argsToLocals, Value.category, maxLocals]; done) | rfl) ?_
  intro k hl K
  replace K : Ok k Z n0 "com/example/bitstride/bitstride/search/EditDistancesStepPinLaw" ({ frames := 0, cells := 0, slots := 0, locals := 0 } : Room) method_5_code 3 (some .boolean) "bit" := K
  refine G.lloadN K D5_0 rfl ?_
  refine G.iloadN K D5_1 rfl ?_
  refine G.bipush K D5_2 63 rfl ?_
  refine G.iand K D5_4 ?_
  rw [own_and63n hn]
  refine G.lushr K D5_5 ?_
  refine G.lconst K D5_6 1 rfl ?_
  refine G.land K D5_7 ?_
  refine G.lconst K D5_8 0 rfl ?_
  refine G.lcmp_eq K D5_9 D5_10 (fun q73 => ?_) (fun q73 => ?_)
  · refine G.iconst K D5_17 0 rfl ?_
    refine G.ret_bool K D5_18 ?_
    exact ⟨by rw [(bitF_eq x (by omega)).mp q73]; rfl, rfl⟩
  · refine G.iconst K D5_13 1 rfl ?_
    refine G.goto K D5_14 ?_
    refine G.ret_bool K D5_18 ?_
    exact ⟨by rw [show bt x (n % 64) = true from (by cases hb : bt x (n % 64); exact absurd ((bitF_eq x (by omega)).mpr hb) q73; rfl)]; rfl, rfl⟩
theorem D29_69_0 : Dc jdk_29_method_69_code 0 (.iload_n 0) 1 1 := dc (by decide +kernel) rfl
theorem D29_69_1 : Dc jdk_29_method_69_code 1 (.iload_n 1) 1 2 := dc (by decide +kernel) rfl
theorem D29_69_2 : Db jdk_29_method_69_code 2 (.if_icmp .gt) 5 9 := db (7) (by decide +kernel) rfl (by decide) (by decide)
theorem D29_69_5 : Dc jdk_29_method_69_code 5 (.iload_n 0) 1 6 := dc (by decide +kernel) rfl
theorem D29_69_6 : Db jdk_29_method_69_code 6 (.goto) 9 10 := db (4) (by decide +kernel) rfl (by decide) (by decide)
theorem D29_69_9 : Dc jdk_29_method_69_code 9 (.iload_n 1) 1 10 := dc (by decide +kernel) rfl
theorem D29_69_10 : Dc jdk_29_method_69_code 10 (.ireturn) 1 11 := dc (by decide +kernel) rfl
set_option maxRecDepth 65536 in
set_option maxHeartbeats 40000000 in
theorem ct_min (l : Launch) (Z : State) (a0 : Array Value) (hw : ∀ d ∈ tables_1, d.before a0 Z = true) (n0 : Nat) (h : Heap) (y z : Int32) :
    Ct l Z n0 (⟨"java/lang/Math", "min", "(II)I"⟩ : MethodName) jdk_29_method_69_code 2 (some .int) ({ frames := 0, cells := 0, slots := 0, locals := 0 } : Room) [.int y, .int z] h (fun v h' => v = some (.int (if z < y then z else y)) ∧ h = h') := by
  refine Ct.intro (Jvm.Free.JP.mathPlain rfl (by decide +kernel)) [.val (.int y), .val (.int z)] (fun m => by first | (simp [entryFrame, mkF, argsToLocals, Value.category]; done) | (simp [entryFrame, mkF, argsToLocals, Value.category, maxLocals]; done) | rfl) ?_
  intro k hl K
  replace K : Ok k Z n0 "java/lang/Math" ({ frames := 0, cells := 0, slots := 0, locals := 0 } : Room) jdk_29_method_69_code 2 (some .int) "min" := K
  refine G.iloadN K D29_69_0 rfl ?_
  refine G.iloadN K D29_69_1 rfl ?_
  refine G.icmp_gt K D29_69_2 (fun q74 => ?_) (fun q74 => ?_)
  · refine G.iloadN K D29_69_9 rfl ?_
    refine G.ret_int K D29_69_10 ?_
    exact ⟨by simp [q74], rfl⟩
  · refine G.iloadN K D29_69_5 rfl ?_
    refine G.goto K D29_69_6 ?_
    refine G.ret_int K D29_69_10 ?_
    exact ⟨by simp [q74], rfl⟩
theorem D6_0 : Dc method_6_code 0 (.iload_n 3) 1 1 := dc (by decide +kernel) rfl
theorem D6_1 : Db method_6_code 1 (.ifCond .eq) 4 8 := db (7) (by decide +kernel) rfl (by decide) (by decide)
theorem D6_4 : Dc method_6_code 4 (.iload_n 0) 1 5 := dc (by decide +kernel) rfl
theorem D6_5 : Db method_6_code 5 (.goto) 8 11 := db (6) (by decide +kernel) rfl (by decide) (by decide)
theorem D6_8 : Dc method_6_code 8 (.iload_n 0) 1 9 := dc (by decide +kernel) rfl
theorem D6_9 : Dc method_6_code 9 (.iconst 1) 1 10 := dc (by decide +kernel) rfl
theorem D6_10 : Dc method_6_code 10 (.iadd) 1 11 := dc (by decide +kernel) rfl
theorem D6_11 : Dc method_6_code 11 (.istore 4) 2 13 := dc (by decide +kernel) rfl
theorem D6_13 : Dc method_6_code 13 (.iload 4) 2 15 := dc (by decide +kernel) rfl
theorem D6_15 : Dc method_6_code 15 (.iload_n 1) 1 16 := dc (by decide +kernel) rfl
theorem D6_16 : Dc method_6_code 16 (.iconst 1) 1 17 := dc (by decide +kernel) rfl
theorem D6_17 : Dc method_6_code 17 (.iadd) 1 18 := dc (by decide +kernel) rfl
theorem D6_18 : Dc method_6_code 18 (.invokestatic 35) 3 21 := dc (by decide +kernel) rfl
theorem D6_21 : Dc method_6_code 21 (.istore 4) 2 23 := dc (by decide +kernel) rfl
theorem D6_23 : Dc method_6_code 23 (.iload 4) 2 25 := dc (by decide +kernel) rfl
theorem D6_25 : Dc method_6_code 25 (.iload_n 2) 1 26 := dc (by decide +kernel) rfl
theorem D6_26 : Dc method_6_code 26 (.iconst 1) 1 27 := dc (by decide +kernel) rfl
theorem D6_27 : Dc method_6_code 27 (.iadd) 1 28 := dc (by decide +kernel) rfl
theorem D6_28 : Dc method_6_code 28 (.invokestatic 35) 3 31 := dc (by decide +kernel) rfl
theorem D6_31 : Dc method_6_code 31 (.istore 4) 2 33 := dc (by decide +kernel) rfl
theorem D6_33 : Dc method_6_code 33 (.iload 4) 2 35 := dc (by decide +kernel) rfl
theorem D6_35 : Dc method_6_code 35 (.ireturn) 1 36 := dc (by decide +kernel) rfl
set_option maxRecDepth 65536 in
set_option maxHeartbeats 40000000 in
theorem ct_cell (l : Launch) (Z : State) (a0 : Array Value) (hw : ∀ d ∈ tables_1, d.before a0 Z = true) (n0 : Nat) (h : Heap) (d r b : Nat) (m : Bool) (hd : d ≤ 100) (hr : r ≤ 100) (hb : b ≤ 100) :
    Ct l Z n0 (⟨"com/example/bitstride/bitstride/search/EditDistancesStepPinLaw", "cell", "(IIIZ)I"⟩ : MethodName) method_6_code 5 (some .int) ({ frames := 1, cells := 0, slots := 0, locals := 13 } : Room) [.int (Int32.ofNat d), .int (Int32.ofNat r), .int (Int32.ofNat b), .int (if m = true then 1 else 0)] h (fun v h' => v = some (.int (Int32.ofNat (cellN d r b m))) ∧ h = h') := by
  refine Ct.intro (plainFor_of_name pn_0) [.val (.int (Int32.ofNat d)), .val (.int (Int32.ofNat r)), .val (.int (Int32.ofNat b)), .val (.int (if m = true then 1 else 0)), .unset] (fun m => by first | (simp [entryFrame, mkF, argsToLocals, Value.category]; done) | (simp [entryFrame, mkF, argsToLocals, Value.category, maxLocals]; done) | rfl) ?_
  intro k hl K
  replace K : Ok k Z n0 "com/example/bitstride/bitstride/search/EditDistancesStepPinLaw" ({ frames := 1, cells := 0, slots := 0, locals := 13 } : Room) method_6_code 5 (some .int) "cell" := K
  cases m
  · change G k n0 _ h _ _ 0 [.val (.int (Int32.ofNat d)), .val (.int (Int32.ofNat r)), .val (.int (Int32.ofNat b)), .val (.int 0), .unset] []
    refine G.iloadN K D6_0 rfl ?_
    refine G.if_eq K D6_1 (fun _ => ?_) (fun q => absurd q (by decide))
    refine G.iloadN K D6_8 rfl ?_
    refine G.iconst K D6_9 1 rfl ?_
    refine G.iadd K D6_10 ?_
    rw [own_nsucc]
    refine G.istore K D6_11 ([.val (.int (Int32.ofNat d)), .val (.int (Int32.ofNat r)), .val (.int (Int32.ofNat b)), .val (.int 0), .val (.int (Int32.ofNat (d + 1)))]) rfl ?_
    refine G.iload K D6_13 rfl ?_
    refine G.iloadN K D6_15 rfl ?_
    refine G.iconst K D6_16 1 rfl ?_
    refine G.iadd K D6_17 ?_
    rw [own_nsucc r]
    refine G.callS K hl (wd hw 52 rfl) (wd hw 53 rfl) (wd hw 54 rfl) (wd hw 55 rfl) (by decide) pd_1 (ct_min l Z a0 hw n0 _ (Int32.ofNat (d + 1)) (Int32.ofNat (r + 1))) 0 rfl (by decide) (by decide) (by decide) (by decide) rfl rfl [.int (Int32.ofNat (r + 1)), .int (Int32.ofNat (d + 1))] rfl D6_18 ?_
    rintro _ _ ⟨rfl, rfl⟩
    rw [own_nmin (by omega) (by omega)]
    change G k n0 _ h _ _ 21 [.val (.int (Int32.ofNat d)), .val (.int (Int32.ofNat r)), .val (.int (Int32.ofNat b)), .val (.int 0), .val (.int (Int32.ofNat (d + 1)))] [.int (Int32.ofNat (min (d + 1) (r + 1)))]
    refine G.istore K D6_21 ([.val (.int (Int32.ofNat d)), .val (.int (Int32.ofNat r)), .val (.int (Int32.ofNat b)), .val (.int 0), .val (.int (Int32.ofNat (min (d + 1) (r + 1))))]) rfl ?_
    refine G.iload K D6_23 rfl ?_
    refine G.iloadN K D6_25 rfl ?_
    refine G.iconst K D6_26 1 rfl ?_
    refine G.iadd K D6_27 ?_
    rw [own_nsucc b]
    refine G.callS K hl (wd hw 52 rfl) (wd hw 53 rfl) (wd hw 54 rfl) (wd hw 55 rfl) (by decide) pd_1 (ct_min l Z a0 hw n0 _ (Int32.ofNat (min (d + 1) (r + 1))) (Int32.ofNat (b + 1))) 0 rfl (by decide) (by decide) (by decide) (by decide) rfl rfl [.int (Int32.ofNat (b + 1)), .int (Int32.ofNat (min (d + 1) (r + 1)))] rfl D6_28 ?_
    rintro _ _ ⟨rfl, rfl⟩
    rw [own_nmin (by omega) (by omega)]
    change G k n0 _ h _ _ 31 [.val (.int (Int32.ofNat d)), .val (.int (Int32.ofNat r)), .val (.int (Int32.ofNat b)), .val (.int 0), .val (.int (Int32.ofNat (min (d + 1) (r + 1))))] [.int (Int32.ofNat (min (min (d + 1) (r + 1)) (b + 1)))]
    refine G.istore K D6_31 ([.val (.int (Int32.ofNat d)), .val (.int (Int32.ofNat r)), .val (.int (Int32.ofNat b)), .val (.int 0), .val (.int (Int32.ofNat (min (min (d + 1) (r + 1)) (b + 1))))]) rfl ?_
    refine G.iload K D6_33 rfl ?_
    refine G.ret_int K D6_35 ?_
    exact ⟨rfl, rfl⟩
  · change G k n0 _ h _ _ 0 [.val (.int (Int32.ofNat d)), .val (.int (Int32.ofNat r)), .val (.int (Int32.ofNat b)), .val (.int 1), .unset] []
    refine G.iloadN K D6_0 rfl ?_
    refine G.if_eq K D6_1 (fun q => absurd q (by decide)) (fun _ => ?_)
    refine G.iloadN K D6_4 rfl ?_
    refine G.goto K D6_5 ?_
    refine G.istore K D6_11 ([.val (.int (Int32.ofNat d)), .val (.int (Int32.ofNat r)), .val (.int (Int32.ofNat b)), .val (.int 1), .val (.int (Int32.ofNat d))]) rfl ?_
    refine G.iload K D6_13 rfl ?_
    refine G.iloadN K D6_15 rfl ?_
    refine G.iconst K D6_16 1 rfl ?_
    refine G.iadd K D6_17 ?_
    rw [own_nsucc r]
    refine G.callS K hl (wd hw 52 rfl) (wd hw 53 rfl) (wd hw 54 rfl) (wd hw 55 rfl) (by decide) pd_1 (ct_min l Z a0 hw n0 _ (Int32.ofNat d) (Int32.ofNat (r + 1))) 0 rfl (by decide) (by decide) (by decide) (by decide) rfl rfl [.int (Int32.ofNat (r + 1)), .int (Int32.ofNat d)] rfl D6_18 ?_
    rintro _ _ ⟨rfl, rfl⟩
    rw [own_nmin (by omega) (by omega)]
    change G k n0 _ h _ _ 21 [.val (.int (Int32.ofNat d)), .val (.int (Int32.ofNat r)), .val (.int (Int32.ofNat b)), .val (.int 1), .val (.int (Int32.ofNat d))] [.int (Int32.ofNat (min d (r + 1)))]
    refine G.istore K D6_21 ([.val (.int (Int32.ofNat d)), .val (.int (Int32.ofNat r)), .val (.int (Int32.ofNat b)), .val (.int 1), .val (.int (Int32.ofNat (min d (r + 1))))]) rfl ?_
    refine G.iload K D6_23 rfl ?_
    refine G.iloadN K D6_25 rfl ?_
    refine G.iconst K D6_26 1 rfl ?_
    refine G.iadd K D6_27 ?_
    rw [own_nsucc b]
    refine G.callS K hl (wd hw 52 rfl) (wd hw 53 rfl) (wd hw 54 rfl) (wd hw 55 rfl) (by decide) pd_1 (ct_min l Z a0 hw n0 _ (Int32.ofNat (min d (r + 1))) (Int32.ofNat (b + 1))) 0 rfl (by decide) (by decide) (by decide) (by decide) rfl rfl [.int (Int32.ofNat (b + 1)), .int (Int32.ofNat (min d (r + 1)))] rfl D6_28 ?_
    rintro _ _ ⟨rfl, rfl⟩
    rw [own_nmin (by omega) (by omega)]
    change G k n0 _ h _ _ 31 [.val (.int (Int32.ofNat d)), .val (.int (Int32.ofNat r)), .val (.int (Int32.ofNat b)), .val (.int 1), .val (.int (Int32.ofNat (min d (r + 1))))] [.int (Int32.ofNat (min (min d (r + 1)) (b + 1)))]
    refine G.istore K D6_31 ([.val (.int (Int32.ofNat d)), .val (.int (Int32.ofNat r)), .val (.int (Int32.ofNat b)), .val (.int 1), .val (.int (Int32.ofNat (min (min d (r + 1)) (b + 1))))]) rfl ?_
    refine G.iload K D6_33 rfl ?_
    refine G.ret_int K D6_35 ?_
    exact ⟨rfl, rfl⟩
theorem D7_0 : Dc method_7_code 0 (.aload_n 0) 1 1 := dc (by decide +kernel) rfl
theorem D7_1 : Dc method_7_code 1 (.iconst 0) 1 2 := dc (by decide +kernel) rfl
theorem D7_2 : Dc method_7_code 2 (.iaload) 1 3 := dc (by decide +kernel) rfl
theorem D7_3 : Dc method_7_code 3 (.aload_n 0) 1 4 := dc (by decide +kernel) rfl
theorem D7_4 : Dc method_7_code 4 (.iconst 1) 1 5 := dc (by decide +kernel) rfl
theorem D7_5 : Dc method_7_code 5 (.iaload) 1 6 := dc (by decide +kernel) rfl
theorem D7_6 : Dc method_7_code 6 (.iconst 0) 1 7 := dc (by decide +kernel) rfl
theorem D7_7 : Dc method_7_code 7 (.lload_n 1) 1 8 := dc (by decide +kernel) rfl
theorem D7_8 : Dc method_7_code 8 (.iload_n 3) 1 9 := dc (by decide +kernel) rfl
theorem D7_9 : Dc method_7_code 9 (.invokestatic 41) 3 12 := dc (by decide +kernel) rfl
theorem D7_12 : Dc method_7_code 12 (.invokestatic 45) 3 15 := dc (by decide +kernel) rfl
theorem D7_15 : Dc method_7_code 15 (.istore 4) 2 17 := dc (by decide +kernel) rfl
theorem D7_17 : Dc method_7_code 17 (.aload_n 0) 1 18 := dc (by decide +kernel) rfl
theorem D7_18 : Dc method_7_code 18 (.iconst 1) 1 19 := dc (by decide +kernel) rfl
theorem D7_19 : Dc method_7_code 19 (.iaload) 1 20 := dc (by decide +kernel) rfl
theorem D7_20 : Dc method_7_code 20 (.aload_n 0) 1 21 := dc (by decide +kernel) rfl
theorem D7_21 : Dc method_7_code 21 (.iconst 2) 1 22 := dc (by decide +kernel) rfl
theorem D7_22 : Dc method_7_code 22 (.iaload) 1 23 := dc (by decide +kernel) rfl
theorem D7_23 : Dc method_7_code 23 (.iload 4) 2 25 := dc (by decide +kernel) rfl
theorem D7_25 : Dc method_7_code 25 (.lload_n 1) 1 26 := dc (by decide +kernel) rfl
theorem D7_26 : Dc method_7_code 26 (.iload_n 3) 1 27 := dc (by decide +kernel) rfl
theorem D7_27 : Dc method_7_code 27 (.iconst 1) 1 28 := dc (by decide +kernel) rfl
theorem D7_28 : Dc method_7_code 28 (.iadd) 1 29 := dc (by decide +kernel) rfl
theorem D7_29 : Dc method_7_code 29 (.invokestatic 41) 3 32 := dc (by decide +kernel) rfl
theorem D7_32 : Dc method_7_code 32 (.invokestatic 45) 3 35 := dc (by decide +kernel) rfl
theorem D7_35 : Dc method_7_code 35 (.istore 5) 2 37 := dc (by decide +kernel) rfl
theorem D7_37 : Dc method_7_code 37 (.aload_n 0) 1 38 := dc (by decide +kernel) rfl
theorem D7_38 : Dc method_7_code 38 (.iconst 2) 1 39 := dc (by decide +kernel) rfl
theorem D7_39 : Dc method_7_code 39 (.iaload) 1 40 := dc (by decide +kernel) rfl
theorem D7_40 : Dc method_7_code 40 (.aload_n 0) 1 41 := dc (by decide +kernel) rfl
theorem D7_41 : Dc method_7_code 41 (.iconst 3) 1 42 := dc (by decide +kernel) rfl
theorem D7_42 : Dc method_7_code 42 (.iaload) 1 43 := dc (by decide +kernel) rfl
theorem D7_43 : Dc method_7_code 43 (.iload 5) 2 45 := dc (by decide +kernel) rfl
theorem D7_45 : Dc method_7_code 45 (.lload_n 1) 1 46 := dc (by decide +kernel) rfl
theorem D7_46 : Dc method_7_code 46 (.iload_n 3) 1 47 := dc (by decide +kernel) rfl
theorem D7_47 : Dc method_7_code 47 (.iconst 2) 1 48 := dc (by decide +kernel) rfl
theorem D7_48 : Dc method_7_code 48 (.iadd) 1 49 := dc (by decide +kernel) rfl
theorem D7_49 : Dc method_7_code 49 (.invokestatic 41) 3 52 := dc (by decide +kernel) rfl
theorem D7_52 : Dc method_7_code 52 (.invokestatic 45) 3 55 := dc (by decide +kernel) rfl
theorem D7_55 : Dc method_7_code 55 (.istore 6) 2 57 := dc (by decide +kernel) rfl
theorem D7_57 : Dc method_7_code 57 (.aload_n 0) 1 58 := dc (by decide +kernel) rfl
theorem D7_58 : Dc method_7_code 58 (.iconst 3) 1 59 := dc (by decide +kernel) rfl
theorem D7_59 : Dc method_7_code 59 (.iaload) 1 60 := dc (by decide +kernel) rfl
theorem D7_60 : Dc method_7_code 60 (.aload_n 0) 1 61 := dc (by decide +kernel) rfl
theorem D7_61 : Dc method_7_code 61 (.iconst 4) 1 62 := dc (by decide +kernel) rfl
theorem D7_62 : Dc method_7_code 62 (.iaload) 1 63 := dc (by decide +kernel) rfl
theorem D7_63 : Dc method_7_code 63 (.iload 6) 2 65 := dc (by decide +kernel) rfl
theorem D7_65 : Dc method_7_code 65 (.lload_n 1) 1 66 := dc (by decide +kernel) rfl
theorem D7_66 : Dc method_7_code 66 (.iload_n 3) 1 67 := dc (by decide +kernel) rfl
theorem D7_67 : Dc method_7_code 67 (.iconst 3) 1 68 := dc (by decide +kernel) rfl
theorem D7_68 : Dc method_7_code 68 (.iadd) 1 69 := dc (by decide +kernel) rfl
theorem D7_69 : Dc method_7_code 69 (.invokestatic 41) 3 72 := dc (by decide +kernel) rfl
theorem D7_72 : Dc method_7_code 72 (.invokestatic 45) 3 75 := dc (by decide +kernel) rfl
theorem D7_75 : Dc method_7_code 75 (.istore 7) 2 77 := dc (by decide +kernel) rfl
theorem D7_77 : Dc method_7_code 77 (.aload_n 0) 1 78 := dc (by decide +kernel) rfl
theorem D7_78 : Dc method_7_code 78 (.iconst 1) 1 79 := dc (by decide +kernel) rfl
theorem D7_79 : Dc method_7_code 79 (.iload 4) 2 81 := dc (by decide +kernel) rfl
theorem D7_81 : Dc method_7_code 81 (.iastore) 1 82 := dc (by decide +kernel) rfl
theorem D7_82 : Dc method_7_code 82 (.aload_n 0) 1 83 := dc (by decide +kernel) rfl
theorem D7_83 : Dc method_7_code 83 (.iconst 2) 1 84 := dc (by decide +kernel) rfl
theorem D7_84 : Dc method_7_code 84 (.iload 5) 2 86 := dc (by decide +kernel) rfl
theorem D7_86 : Dc method_7_code 86 (.iastore) 1 87 := dc (by decide +kernel) rfl
theorem D7_87 : Dc method_7_code 87 (.aload_n 0) 1 88 := dc (by decide +kernel) rfl
theorem D7_88 : Dc method_7_code 88 (.iconst 3) 1 89 := dc (by decide +kernel) rfl
theorem D7_89 : Dc method_7_code 89 (.iload 6) 2 91 := dc (by decide +kernel) rfl
theorem D7_91 : Dc method_7_code 91 (.iastore) 1 92 := dc (by decide +kernel) rfl
theorem D7_92 : Dc method_7_code 92 (.aload_n 0) 1 93 := dc (by decide +kernel) rfl
theorem D7_93 : Dc method_7_code 93 (.iconst 4) 1 94 := dc (by decide +kernel) rfl
theorem D7_94 : Dc method_7_code 94 (.iload 7) 2 96 := dc (by decide +kernel) rfl
theorem D7_96 : Dc method_7_code 96 (.iastore) 1 97 := dc (by decide +kernel) rfl
theorem D7_97 : Dc method_7_code 97 (.return_) 1 98 := dc (by decide +kernel) rfl
set_option maxRecDepth 65536 in
set_option maxHeartbeats 40000000 in
theorem ct_advance (l : Launch) (Z : State) (a0 : Array Value) (hw : ∀ d ∈ tables_1, d.before a0 Z = true) (n0 : Nat) (h : Heap) (ca : Addr) (x : Int64) (o : Nat) (c : Nat → Nat) (σ : List Ch) (ho : o ≤ 64) (hc0 : c 0 = 0) (hc : ∀ j, c j ≤ j) (H : Hp n0 h ((ca, Ia Z [(Int32.ofNat (c 0)), (Int32.ofNat (c 1)), (Int32.ofNat (c 2)), (Int32.ofNat (c 3)), (Int32.ofNat (c 4))]) :: σ)) :
    Ct l Z n0 (⟨"com/example/bitstride/bitstride/search/EditDistancesStepPinLaw", "advance", "([IJI)V"⟩ : MethodName) method_7_code 8 none ({ frames := 2, cells := 0, slots := 0, locals := 40 } : Room) [.ref ca, .long x, .int (Int32.ofNat o)] h (fun v h' => v = none ∧ Hp n0 h' ((ca, Ia Z [(Int32.ofNat ((colS (mtF x o) c) 0)), (Int32.ofNat ((colS (mtF x o) c) 1)), (Int32.ofNat ((colS (mtF x o) c) 2)), (Int32.ofNat ((colS (mtF x o) c) 3)), (Int32.ofNat ((colS (mtF x o) c) 4))]) :: σ)) := by
  refine Ct.intro (plainFor_of_name pn_0) [.val (.ref ca), .val (.long x), .second, .val (.int (Int32.ofNat o)), .unset, .unset, .unset, .unset] (fun m => by first | (simp [entryFrame, mkF, argsToLocals, Value.category]; done) | (simp [entryFrame, mkF, argsToLocals, Value.category, maxLocals]; done) | rfl) ?_
  intro k hl K
  replace K : Ok k Z n0 "com/example/bitstride/bitstride/search/EditDistancesStepPinLaw" ({ frames := 2, cells := 0, slots := 0, locals := 40 } : Room) method_7_code 8 none "advance" := K
  refine G.aloadN K D7_0 rfl rfl ?_
  refine G.iconst K D7_1 0 rfl ?_
  refine G.aload_i K H (i := 0) rfl (by decide) rfl D7_2 ?_
  refine G.aloadN K D7_3 rfl rfl ?_
  refine G.iconst K D7_4 1 rfl ?_
  refine G.aload_i K H (i := 0) rfl (by decide) rfl D7_5 ?_
  refine G.iconst K D7_6 0 rfl ?_
  refine G.lloadN K D7_7 rfl ?_
  refine G.iloadN K D7_8 rfl ?_
  refine G.callS K hl (wd hw 46 rfl) (wd hw 47 rfl) (wd hw 2 rfl) (wd hw 48 rfl) (by decide) pd_2 (ct_bit l Z a0 hw n0 _ x o (by omega)) 3 rfl (by decide) (by decide) (by decide) (by decide) rfl rfl [.int (Int32.ofNat o), .long x] rfl D7_9 ?_
  rintro _ _ ⟨rfl, rfl⟩
  change G k n0 _ h _ _ 12 [.val (.ref ca), .val (.long x), .second, .val (.int (Int32.ofNat o)), .unset, .unset, .unset, .unset] [.int (if mtF x o 0 = true then 1 else 0), .int 0, .int (Int32.ofNat (c 1)), .int (Int32.ofNat (c 0))]
  refine G.callS K hl (wd hw 49 rfl) (wd hw 50 rfl) (wd hw 2 rfl) (wd hw 51 rfl) (by decide) pd_3 (ct_cell l Z a0 hw n0 _ (c 0) (c 1) (0) (mtF x o 0) (by have := hc 0; omega) (by have := hc 1; omega) (by have := colS_le (mtF x o) c 0; omega)) 0 rfl (by decide) (by decide) (by decide) (by decide) rfl rfl [.int (if mtF x o 0 = true then 1 else 0), .int 0, .int (Int32.ofNat (c 1)), .int (Int32.ofNat (c 0))] rfl D7_12 ?_
  rintro _ _ ⟨rfl, rfl⟩
  change G k n0 _ h _ _ 15 [.val (.ref ca), .val (.long x), .second, .val (.int (Int32.ofNat o)), .unset, .unset, .unset, .unset] [.int (Int32.ofNat (colS (mtF x o) c 1))]
  refine G.istore K D7_15 ([.val (.ref ca), .val (.long x), .second, .val (.int (Int32.ofNat o)), .val (.int (Int32.ofNat (colS (mtF x o) c 1))), .unset, .unset, .unset]) rfl ?_
  refine G.aloadN K D7_17 rfl rfl ?_
  refine G.iconst K D7_18 1 rfl ?_
  refine G.aload_i K H (i := 0) rfl (by decide) rfl D7_19 ?_
  refine G.aloadN K D7_20 rfl rfl ?_
  refine G.iconst K D7_21 2 rfl ?_
  refine G.aload_i K H (i := 0) rfl (by decide) rfl D7_22 ?_
  refine G.iload K D7_23 rfl ?_
  refine G.lloadN K D7_25 rfl ?_
  refine G.iloadN K D7_26 rfl ?_
  refine G.iconst K D7_27 1 rfl ?_
  refine G.iadd K D7_28 ?_
  rw [show Int32.ofNat o + 1 = Int32.ofNat (o + 1) from own_nadd o 1]
  refine G.callS K hl (wd hw 46 rfl) (wd hw 47 rfl) (wd hw 2 rfl) (wd hw 48 rfl) (by decide) pd_2 (ct_bit l Z a0 hw n0 _ x (o + 1) (by omega)) 3 rfl (by decide) (by decide) (by decide) (by decide) rfl rfl [.int (Int32.ofNat (o + 1)), .long x] rfl D7_29 ?_
  rintro _ _ ⟨rfl, rfl⟩
  change G k n0 _ h _ _ 32 [.val (.ref ca), .val (.long x), .second, .val (.int (Int32.ofNat o)), .val (.int (Int32.ofNat (colS (mtF x o) c 1))), .unset, .unset, .unset] [.int (if mtF x o 1 = true then 1 else 0), .int (Int32.ofNat (colS (mtF x o) c 1)), .int (Int32.ofNat (c 2)), .int (Int32.ofNat (c 1))]
  refine G.callS K hl (wd hw 49 rfl) (wd hw 50 rfl) (wd hw 2 rfl) (wd hw 51 rfl) (by decide) pd_3 (ct_cell l Z a0 hw n0 _ (c 1) (c 2) (colS (mtF x o) c 1) (mtF x o 1) (by have := hc 1; omega) (by have := hc 2; omega) (by have := colS_le (mtF x o) c 1; omega)) 0 rfl (by decide) (by decide) (by decide) (by decide) rfl rfl [.int (if mtF x o 1 = true then 1 else 0), .int (Int32.ofNat (colS (mtF x o) c 1)), .int (Int32.ofNat (c 2)), .int (Int32.ofNat (c 1))] rfl D7_32 ?_
  rintro _ _ ⟨rfl, rfl⟩
  change G k n0 _ h _ _ 35 [.val (.ref ca), .val (.long x), .second, .val (.int (Int32.ofNat o)), .val (.int (Int32.ofNat (colS (mtF x o) c 1))), .unset, .unset, .unset] [.int (Int32.ofNat (colS (mtF x o) c 2))]
  refine G.istore K D7_35 ([.val (.ref ca), .val (.long x), .second, .val (.int (Int32.ofNat o)), .val (.int (Int32.ofNat (colS (mtF x o) c 1))), .val (.int (Int32.ofNat (colS (mtF x o) c 2))), .unset, .unset]) rfl ?_
  refine G.aloadN K D7_37 rfl rfl ?_
  refine G.iconst K D7_38 2 rfl ?_
  refine G.aload_i K H (i := 0) rfl (by decide) rfl D7_39 ?_
  refine G.aloadN K D7_40 rfl rfl ?_
  refine G.iconst K D7_41 3 rfl ?_
  refine G.aload_i K H (i := 0) rfl (by decide) rfl D7_42 ?_
  refine G.iload K D7_43 rfl ?_
  refine G.lloadN K D7_45 rfl ?_
  refine G.iloadN K D7_46 rfl ?_
  refine G.iconst K D7_47 2 rfl ?_
  refine G.iadd K D7_48 ?_
  rw [show Int32.ofNat o + 2 = Int32.ofNat (o + 2) from own_nadd o 2]
  refine G.callS K hl (wd hw 46 rfl) (wd hw 47 rfl) (wd hw 2 rfl) (wd hw 48 rfl) (by decide) pd_2 (ct_bit l Z a0 hw n0 _ x (o + 2) (by omega)) 3 rfl (by decide) (by decide) (by decide) (by decide) rfl rfl [.int (Int32.ofNat (o + 2)), .long x] rfl D7_49 ?_
  rintro _ _ ⟨rfl, rfl⟩
  change G k n0 _ h _ _ 52 [.val (.ref ca), .val (.long x), .second, .val (.int (Int32.ofNat o)), .val (.int (Int32.ofNat (colS (mtF x o) c 1))), .val (.int (Int32.ofNat (colS (mtF x o) c 2))), .unset, .unset] [.int (if mtF x o 2 = true then 1 else 0), .int (Int32.ofNat (colS (mtF x o) c 2)), .int (Int32.ofNat (c 3)), .int (Int32.ofNat (c 2))]
  refine G.callS K hl (wd hw 49 rfl) (wd hw 50 rfl) (wd hw 2 rfl) (wd hw 51 rfl) (by decide) pd_3 (ct_cell l Z a0 hw n0 _ (c 2) (c 3) (colS (mtF x o) c 2) (mtF x o 2) (by have := hc 2; omega) (by have := hc 3; omega) (by have := colS_le (mtF x o) c 2; omega)) 0 rfl (by decide) (by decide) (by decide) (by decide) rfl rfl [.int (if mtF x o 2 = true then 1 else 0), .int (Int32.ofNat (colS (mtF x o) c 2)), .int (Int32.ofNat (c 3)), .int (Int32.ofNat (c 2))] rfl D7_52 ?_
  rintro _ _ ⟨rfl, rfl⟩
  change G k n0 _ h _ _ 55 [.val (.ref ca), .val (.long x), .second, .val (.int (Int32.ofNat o)), .val (.int (Int32.ofNat (colS (mtF x o) c 1))), .val (.int (Int32.ofNat (colS (mtF x o) c 2))), .unset, .unset] [.int (Int32.ofNat (colS (mtF x o) c 3))]
  refine G.istore K D7_55 ([.val (.ref ca), .val (.long x), .second, .val (.int (Int32.ofNat o)), .val (.int (Int32.ofNat (colS (mtF x o) c 1))), .val (.int (Int32.ofNat (colS (mtF x o) c 2))), .val (.int (Int32.ofNat (colS (mtF x o) c 3))), .unset]) rfl ?_
  refine G.aloadN K D7_57 rfl rfl ?_
  refine G.iconst K D7_58 3 rfl ?_
  refine G.aload_i K H (i := 0) rfl (by decide) rfl D7_59 ?_
  refine G.aloadN K D7_60 rfl rfl ?_
  refine G.iconst K D7_61 4 rfl ?_
  refine G.aload_i K H (i := 0) rfl (by decide) rfl D7_62 ?_
  refine G.iload K D7_63 rfl ?_
  refine G.lloadN K D7_65 rfl ?_
  refine G.iloadN K D7_66 rfl ?_
  refine G.iconst K D7_67 3 rfl ?_
  refine G.iadd K D7_68 ?_
  rw [show Int32.ofNat o + 3 = Int32.ofNat (o + 3) from own_nadd o 3]
  refine G.callS K hl (wd hw 46 rfl) (wd hw 47 rfl) (wd hw 2 rfl) (wd hw 48 rfl) (by decide) pd_2 (ct_bit l Z a0 hw n0 _ x (o + 3) (by omega)) 3 rfl (by decide) (by decide) (by decide) (by decide) rfl rfl [.int (Int32.ofNat (o + 3)), .long x] rfl D7_69 ?_
  rintro _ _ ⟨rfl, rfl⟩
  change G k n0 _ h _ _ 72 [.val (.ref ca), .val (.long x), .second, .val (.int (Int32.ofNat o)), .val (.int (Int32.ofNat (colS (mtF x o) c 1))), .val (.int (Int32.ofNat (colS (mtF x o) c 2))), .val (.int (Int32.ofNat (colS (mtF x o) c 3))), .unset] [.int (if mtF x o 3 = true then 1 else 0), .int (Int32.ofNat (colS (mtF x o) c 3)), .int (Int32.ofNat (c 4)), .int (Int32.ofNat (c 3))]
  refine G.callS K hl (wd hw 49 rfl) (wd hw 50 rfl) (wd hw 2 rfl) (wd hw 51 rfl) (by decide) pd_3 (ct_cell l Z a0 hw n0 _ (c 3) (c 4) (colS (mtF x o) c 3) (mtF x o 3) (by have := hc 3; omega) (by have := hc 4; omega) (by have := colS_le (mtF x o) c 3; omega)) 0 rfl (by decide) (by decide) (by decide) (by decide) rfl rfl [.int (if mtF x o 3 = true then 1 else 0), .int (Int32.ofNat (colS (mtF x o) c 3)), .int (Int32.ofNat (c 4)), .int (Int32.ofNat (c 3))] rfl D7_72 ?_
  rintro _ _ ⟨rfl, rfl⟩
  change G k n0 _ h _ _ 75 [.val (.ref ca), .val (.long x), .second, .val (.int (Int32.ofNat o)), .val (.int (Int32.ofNat (colS (mtF x o) c 1))), .val (.int (Int32.ofNat (colS (mtF x o) c 2))), .val (.int (Int32.ofNat (colS (mtF x o) c 3))), .unset] [.int (Int32.ofNat (colS (mtF x o) c 4))]
  refine G.istore K D7_75 ([.val (.ref ca), .val (.long x), .second, .val (.int (Int32.ofNat o)), .val (.int (Int32.ofNat (colS (mtF x o) c 1))), .val (.int (Int32.ofNat (colS (mtF x o) c 2))), .val (.int (Int32.ofNat (colS (mtF x o) c 3))), .val (.int (Int32.ofNat (colS (mtF x o) c 4)))]) rfl ?_
  refine G.aloadN K D7_77 rfl rfl ?_
  refine G.iconst K D7_78 1 rfl ?_
  refine G.iload K D7_79 rfl ?_
  refine G.astore_i K H (i := 0) rfl (by decide) (Nat.le_of_ble_eq_true rfl) D7_81 ?_
  intro h77 H77
  change Hp n0 h77 ((ca, Ia Z [(Int32.ofNat (c 0)), (Int32.ofNat (colS (mtF x o) c 1)), (Int32.ofNat (c 2)), (Int32.ofNat (c 3)), (Int32.ofNat (c 4))]) :: σ) at H77
  refine G.aloadN K D7_82 rfl rfl ?_
  refine G.iconst K D7_83 2 rfl ?_
  refine G.iload K D7_84 rfl ?_
  refine G.astore_i K H77 (i := 0) rfl (by decide) (Nat.le_of_ble_eq_true rfl) D7_86 ?_
  intro h78 H78
  change Hp n0 h78 ((ca, Ia Z [(Int32.ofNat (c 0)), (Int32.ofNat (colS (mtF x o) c 1)), (Int32.ofNat (colS (mtF x o) c 2)), (Int32.ofNat (c 3)), (Int32.ofNat (c 4))]) :: σ) at H78
  refine G.aloadN K D7_87 rfl rfl ?_
  refine G.iconst K D7_88 3 rfl ?_
  refine G.iload K D7_89 rfl ?_
  refine G.astore_i K H78 (i := 0) rfl (by decide) (Nat.le_of_ble_eq_true rfl) D7_91 ?_
  intro h79 H79
  change Hp n0 h79 ((ca, Ia Z [(Int32.ofNat (c 0)), (Int32.ofNat (colS (mtF x o) c 1)), (Int32.ofNat (colS (mtF x o) c 2)), (Int32.ofNat (colS (mtF x o) c 3)), (Int32.ofNat (c 4))]) :: σ) at H79
  refine G.aloadN K D7_92 rfl rfl ?_
  refine G.iconst K D7_93 4 rfl ?_
  refine G.iload K D7_94 rfl ?_
  refine G.astore_i K H79 (i := 0) rfl (by decide) (Nat.le_of_ble_eq_true rfl) D7_96 ?_
  intro h80 H80
  change Hp n0 h80 ((ca, Ia Z [(Int32.ofNat (c 0)), (Int32.ofNat (colS (mtF x o) c 1)), (Int32.ofNat (colS (mtF x o) c 2)), (Int32.ofNat (colS (mtF x o) c 3)), (Int32.ofNat (colS (mtF x o) c 4))]) :: σ) at H80
  refine G.ret_void K D7_97 ?_
  have H81 : Hp n0 h80 ((ca, Ia Z [(Int32.ofNat ((colS (mtF x o) c) 0)), (Int32.ofNat ((colS (mtF x o) c) 1)), (Int32.ofNat ((colS (mtF x o) c) 2)), (Int32.ofNat ((colS (mtF x o) c) 3)), (Int32.ofNat ((colS (mtF x o) c) 4))]) :: σ) := by rw [show colS (mtF x o) c 0 = c 0 from hc0.symm]; exact H80
  exact ⟨rfl, H81⟩
theorem D4_0 : Dc method_4_code 0 (.iload_n 0) 1 1 := dc (by decide +kernel) rfl
theorem D4_1 : Dc method_4_code 1 (.iload_n 1) 1 2 := dc (by decide +kernel) rfl
theorem D4_2 : Db method_4_code 2 (.if_icmp .gt) 5 9 := db (7) (by decide +kernel) rfl (by decide) (by decide)
theorem D4_5 : Dc method_4_code 5 (.lconst 1) 1 6 := dc (by decide +kernel) rfl
theorem D4_6 : Db method_4_code 6 (.goto) 9 10 := db (4) (by decide +kernel) rfl (by decide) (by decide)
theorem D4_9 : Dc method_4_code 9 (.lconst 0) 1 10 := dc (by decide +kernel) rfl
theorem D4_10 : Dc method_4_code 10 (.lreturn) 1 11 := dc (by decide +kernel) rfl
set_option maxRecDepth 65536 in
set_option maxHeartbeats 40000000 in
theorem ct_expected (l : Launch) (Z : State) (a0 : Array Value) (hw : ∀ d ∈ tables_1, d.before a0 Z = true) (n0 : Nat) (h : Heap) (y d : Nat) (hy : y ≤ 100) (hd : d ≤ 100) :
    Ct l Z n0 (⟨"com/example/bitstride/bitstride/search/EditDistancesStepPinLaw", "expected", "(II)J"⟩ : MethodName) method_4_code 2 (some .long) ({ frames := 0, cells := 0, slots := 0, locals := 0 } : Room) [.int (Int32.ofNat y), .int (Int32.ofNat d)] h (fun v h' => v = some (.long (if d < y then 0 else 1)) ∧ h = h') := by
  refine Ct.intro (plainFor_of_name pn_0) [.val (.int (Int32.ofNat y)), .val (.int (Int32.ofNat d))] (fun m => by first | (simp [entryFrame, mkF, argsToLocals, Value.category]; done) | (simp [entryFrame, mkF, argsToLocals, Value.category, maxLocals]; done) | rfl) ?_
  intro k hl K
  replace K : Ok k Z n0 "com/example/bitstride/bitstride/search/EditDistancesStepPinLaw" ({ frames := 0, cells := 0, slots := 0, locals := 0 } : Room) method_4_code 2 (some .long) "expected" := K
  refine G.iloadN K D4_0 rfl ?_
  refine G.iloadN K D4_1 rfl ?_
  refine G.icmp_gt K D4_2 (fun q82 => ?_) (fun q82 => ?_)
  · refine G.lconst K D4_9 0 rfl ?_
    refine G.ret_long K D4_10 ?_
    exact ⟨by rw [if_pos ((own_nlt (by omega) (by omega)).mp q82)], rfl⟩
  · refine G.lconst K D4_5 1 rfl ?_
    refine G.goto K D4_6 ?_
    refine G.ret_long K D4_10 ?_
    exact ⟨by rw [if_neg (fun z => q82 ((own_nlt (by omega) (by omega)).mpr z))], rfl⟩
theorem Dx_0 : Dc code 0 (.iload_n 0) 1 1 := dc at_0 rfl
theorem Dx_1 : Dc code 1 (.bipush 127) 2 3 := dc at_1 rfl
theorem Dx_3 : Dc code 3 (.iand) 1 4 := dc at_3 rfl
theorem Dx_4 : Dc code 4 (.bipush 65) 2 6 := dc at_4 rfl
theorem Dx_6 : Dc code 6 (.irem) 1 7 := dc at_6 rfl
theorem Dx_7 : Dc code 7 (.istore 9) 2 9 := dc at_7 rfl
theorem Dx_9 : Dc code 9 (.iload_n 0) 1 10 := dc at_9 rfl
theorem Dx_10 : Dc code 10 (.bipush 7) 2 12 := dc at_10 rfl
theorem Dx_12 : Dc code 12 (.iushr) 1 13 := dc at_12 rfl
theorem Dx_13 : Dc code 13 (.iconst 3) 1 14 := dc at_13 rfl
theorem Dx_14 : Dc code 14 (.iand) 1 15 := dc at_14 rfl
theorem Dx_15 : Dc code 15 (.iconst 1) 1 16 := dc at_15 rfl
theorem Dx_16 : Dc code 16 (.iadd) 1 17 := dc at_16 rfl
theorem Dx_17 : Dc code 17 (.istore 10) 2 19 := dc at_17 rfl
theorem Dx_19 : Dc code 19 (.iload_n 0) 1 20 := dc at_19 rfl
theorem Dx_20 : Dc code 20 (.bipush 9) 2 22 := dc at_20 rfl
theorem Dx_22 : Dc code 22 (.iushr) 1 23 := dc at_22 rfl
theorem Dx_23 : Dc code 23 (.iconst 3) 1 24 := dc at_23 rfl
theorem Dx_24 : Dc code 24 (.iand) 1 25 := dc at_24 rfl
theorem Dx_25 : Dc code 25 (.istore 11) 2 27 := dc at_25 rfl
theorem Dx_27 : Dc code 27 (.iload 9) 2 29 := dc at_27 rfl
theorem Dx_29 : Dc code 29 (.iload 10) 2 31 := dc at_29 rfl
theorem Dx_31 : Dc code 31 (.iadd) 1 32 := dc at_31 rfl
theorem Dx_32 : Dc code 32 (.istore 12) 2 34 := dc at_32 rfl
theorem Dx_34 : Dc code 34 (.iload 12) 2 36 := dc at_34 rfl
theorem Dx_36 : Dc code 36 (.bipush 64) 2 38 := dc at_36 rfl
theorem Dx_38 : Db code 38 (.if_icmp .le) 41 45 := db (7) at_38 rfl (by decide) (by decide)
theorem Dx_41 : Dc code 41 (.iconst 2) 1 42 := dc at_41 rfl
theorem Dx_42 : Db code 42 (.goto) 45 46 := db (4) at_42 rfl (by decide) (by decide)
theorem Dx_45 : Dc code 45 (.iconst 1) 1 46 := dc at_45 rfl
theorem Dx_46 : Dc code 46 (.istore 13) 2 48 := dc at_46 rfl
theorem Dx_48 : Dc code 48 (.lload_n 1) 1 49 := dc at_48 rfl
theorem Dx_49 : Dc code 49 (.iload 9) 2 51 := dc at_49 rfl
theorem Dx_51 : Dc code 51 (.invokestatic 7) 3 54 := dc at_51 rfl
theorem Dx_54 : Dc code 54 (.astore 14) 2 56 := dc at_54 rfl
theorem Dx_56 : Dc code 56 (.lload_n 3) 1 57 := dc at_56 rfl
theorem Dx_57 : Dc code 57 (.iload 9) 2 59 := dc at_57 rfl
theorem Dx_59 : Dc code 59 (.invokestatic 7) 3 62 := dc at_59 rfl
theorem Dx_62 : Dc code 62 (.astore 15) 2 64 := dc at_62 rfl
theorem Dx_64 : Dc code 64 (.lload 5) 2 66 := dc at_64 rfl
theorem Dx_66 : Dc code 66 (.iload 9) 2 68 := dc at_66 rfl
theorem Dx_68 : Dc code 68 (.invokestatic 7) 3 71 := dc at_68 rfl
theorem Dx_71 : Dc code 71 (.astore 16) 2 73 := dc at_71 rfl
theorem Dx_73 : Dc code 73 (.lload 7) 2 75 := dc at_73 rfl
theorem Dx_75 : Dc code 75 (.iload 9) 2 77 := dc at_75 rfl
theorem Dx_77 : Dc code 77 (.invokestatic 7) 3 80 := dc at_77 rfl
theorem Dx_80 : Dc code 80 (.astore 17) 2 82 := dc at_80 rfl
theorem Dx_82 : Dc code 82 (.iconst 5) 1 83 := dc at_82 rfl
theorem Dx_83 : Dc code 83 (.newarray .int) 2 85 := dc at_83 rfl
theorem Dx_85 : Dc code 85 (.astore 18) 2 87 := dc at_85 rfl
theorem Dx_87 : Dc code 87 (.aload 18) 2 89 := dc at_87 rfl
theorem Dx_89 : Dc code 89 (.iconst 0) 1 90 := dc at_89 rfl
theorem Dx_90 : Dc code 90 (.iconst 0) 1 91 := dc at_90 rfl
theorem Dx_91 : Dc code 91 (.iastore) 1 92 := dc at_91 rfl
theorem Dx_92 : Dc code 92 (.aload 18) 2 94 := dc at_92 rfl
theorem Dx_94 : Dc code 94 (.iconst 1) 1 95 := dc at_94 rfl
theorem Dx_95 : Dc code 95 (.iconst 1) 1 96 := dc at_95 rfl
theorem Dx_96 : Dc code 96 (.iastore) 1 97 := dc at_96 rfl
theorem Dx_97 : Dc code 97 (.aload 18) 2 99 := dc at_97 rfl
theorem Dx_99 : Dc code 99 (.iconst 2) 1 100 := dc at_99 rfl
theorem Dx_100 : Dc code 100 (.iconst 2) 1 101 := dc at_100 rfl
theorem Dx_101 : Dc code 101 (.iastore) 1 102 := dc at_101 rfl
theorem Dx_102 : Dc code 102 (.aload 18) 2 104 := dc at_102 rfl
theorem Dx_104 : Dc code 104 (.iconst 3) 1 105 := dc at_104 rfl
theorem Dx_105 : Dc code 105 (.iconst 3) 1 106 := dc at_105 rfl
theorem Dx_106 : Dc code 106 (.iastore) 1 107 := dc at_106 rfl
theorem Dx_107 : Dc code 107 (.aload 18) 2 109 := dc at_107 rfl
theorem Dx_109 : Dc code 109 (.iconst 4) 1 110 := dc at_109 rfl
theorem Dx_110 : Dc code 110 (.iconst 4) 1 111 := dc at_110 rfl
theorem Dx_111 : Dc code 111 (.iastore) 1 112 := dc at_111 rfl
theorem Dx_112 : Dc code 112 (.new 13) 3 115 := dc at_112 rfl
theorem Dx_115 : Dc code 115 (.dup) 1 116 := dc at_115 rfl
theorem Dx_116 : Dc code 116 (.iload 13) 2 118 := dc at_116 rfl
theorem Dx_118 : Dc code 118 (.iload 12) 2 120 := dc at_118 rfl
theorem Dx_120 : Dc code 120 (.iload 9) 2 122 := dc at_120 rfl
theorem Dx_122 : Dc code 122 (.iload 11) 2 124 := dc at_122 rfl
theorem Dx_124 : Dc code 124 (.iadd) 1 125 := dc at_124 rfl
theorem Dx_125 : Dc code 125 (.invokespecial 15) 3 128 := dc at_125 rfl
theorem Dx_128 : Dc code 128 (.astore 19) 2 130 := dc at_128 rfl
theorem Dx_130 : Dc code 130 (.aload 19) 2 132 := dc at_130 rfl
theorem Dx_132 : Dc code 132 (.invokevirtual 18) 3 135 := dc at_132 rfl
theorem Dx_135 : Dc code 135 (.aload 19) 2 137 := dc at_135 rfl
theorem Dx_137 : Dc code 137 (.aload 14) 2 139 := dc at_137 rfl
theorem Dx_139 : Dc code 139 (.invokevirtual 21) 3 142 := dc at_139 rfl
theorem Dx_142 : Dc code 142 (.lstore 20) 2 144 := dc at_142 rfl
theorem Dx_144 : Dc code 144 (.aload 18) 2 146 := dc at_144 rfl
theorem Dx_146 : Dc code 146 (.lload_n 1) 1 147 := dc at_146 rfl
theorem Dx_147 : Dc code 147 (.iload 9) 2 149 := dc at_147 rfl
theorem Dx_149 : Dc code 149 (.invokestatic 25) 3 152 := dc at_149 rfl
theorem Dx_152 : Dc code 152 (.lload 20) 2 154 := dc at_152 rfl
theorem Dx_154 : Dc code 154 (.aload 18) 2 156 := dc at_154 rfl
theorem Dx_156 : Dc code 156 (.iload 10) 2 158 := dc at_156 rfl
theorem Dx_158 : Dc code 158 (.iaload) 1 159 := dc at_158 rfl
theorem Dx_159 : Dc code 159 (.iload 11) 2 161 := dc at_159 rfl
theorem Dx_161 : Dc code 161 (.invokestatic 29) 3 164 := dc at_161 rfl
theorem Dx_164 : Dc code 164 (.lcmp) 1 165 := dc at_164 rfl
theorem Dx_165 : Db code 165 (.ifCond .ne) 168 172 := db (7) at_165 rfl (by decide) (by decide)
theorem Dx_168 : Dc code 168 (.iconst 1) 1 169 := dc at_168 rfl
theorem Dx_169 : Db code 169 (.goto) 172 173 := db (4) at_169 rfl (by decide) (by decide)
theorem Dx_172 : Dc code 172 (.iconst 0) 1 173 := dc at_172 rfl
theorem Dx_173 : Dc code 173 (.istore 22) 2 175 := dc at_173 rfl
theorem Dx_175 : Dc code 175 (.aload 19) 2 177 := dc at_175 rfl
theorem Dx_177 : Dc code 177 (.aload 15) 2 179 := dc at_177 rfl
theorem Dx_179 : Dc code 179 (.invokevirtual 21) 3 182 := dc at_179 rfl
theorem Dx_182 : Dc code 182 (.lstore 23) 2 184 := dc at_182 rfl
theorem Dx_184 : Dc code 184 (.aload 18) 2 186 := dc at_184 rfl
theorem Dx_186 : Dc code 186 (.lload_n 3) 1 187 := dc at_186 rfl
theorem Dx_187 : Dc code 187 (.iload 9) 2 189 := dc at_187 rfl
theorem Dx_189 : Dc code 189 (.invokestatic 25) 3 192 := dc at_189 rfl
theorem Dx_192 : Dc code 192 (.lload 23) 2 194 := dc at_192 rfl
theorem Dx_194 : Dc code 194 (.aload 18) 2 196 := dc at_194 rfl
theorem Dx_196 : Dc code 196 (.iload 10) 2 198 := dc at_196 rfl
theorem Dx_198 : Dc code 198 (.iaload) 1 199 := dc at_198 rfl
theorem Dx_199 : Dc code 199 (.iload 11) 2 201 := dc at_199 rfl
theorem Dx_201 : Dc code 201 (.invokestatic 29) 3 204 := dc at_201 rfl
theorem Dx_204 : Dc code 204 (.lcmp) 1 205 := dc at_204 rfl
theorem Dx_205 : Db code 205 (.ifCond .ne) 208 212 := db (7) at_205 rfl (by decide) (by decide)
theorem Dx_208 : Dc code 208 (.iconst 1) 1 209 := dc at_208 rfl
theorem Dx_209 : Db code 209 (.goto) 212 213 := db (4) at_209 rfl (by decide) (by decide)
theorem Dx_212 : Dc code 212 (.iconst 0) 1 213 := dc at_212 rfl
theorem Dx_213 : Dc code 213 (.istore 25) 2 215 := dc at_213 rfl
theorem Dx_215 : Dc code 215 (.aload 19) 2 217 := dc at_215 rfl
theorem Dx_217 : Dc code 217 (.aload 16) 2 219 := dc at_217 rfl
theorem Dx_219 : Dc code 219 (.invokevirtual 21) 3 222 := dc at_219 rfl
theorem Dx_222 : Dc code 222 (.lstore 26) 2 224 := dc at_222 rfl
theorem Dx_224 : Dc code 224 (.aload 18) 2 226 := dc at_224 rfl
theorem Dx_226 : Dc code 226 (.lload 5) 2 228 := dc at_226 rfl
theorem Dx_228 : Dc code 228 (.iload 9) 2 230 := dc at_228 rfl
theorem Dx_230 : Dc code 230 (.invokestatic 25) 3 233 := dc at_230 rfl
theorem Dx_233 : Dc code 233 (.lload 26) 2 235 := dc at_233 rfl
theorem Dx_235 : Dc code 235 (.aload 18) 2 237 := dc at_235 rfl
theorem Dx_237 : Dc code 237 (.iload 10) 2 239 := dc at_237 rfl
theorem Dx_239 : Dc code 239 (.iaload) 1 240 := dc at_239 rfl
theorem Dx_240 : Dc code 240 (.iload 11) 2 242 := dc at_240 rfl
theorem Dx_242 : Dc code 242 (.invokestatic 29) 3 245 := dc at_242 rfl
theorem Dx_245 : Dc code 245 (.lcmp) 1 246 := dc at_245 rfl
theorem Dx_246 : Db code 246 (.ifCond .ne) 249 253 := db (7) at_246 rfl (by decide) (by decide)
theorem Dx_249 : Dc code 249 (.iconst 1) 1 250 := dc at_249 rfl
theorem Dx_250 : Db code 250 (.goto) 253 254 := db (4) at_250 rfl (by decide) (by decide)
theorem Dx_253 : Dc code 253 (.iconst 0) 1 254 := dc at_253 rfl
theorem Dx_254 : Dc code 254 (.istore 28) 2 256 := dc at_254 rfl
theorem Dx_256 : Dc code 256 (.aload 19) 2 258 := dc at_256 rfl
theorem Dx_258 : Dc code 258 (.aload 17) 2 260 := dc at_258 rfl
theorem Dx_260 : Dc code 260 (.invokevirtual 21) 3 263 := dc at_260 rfl
theorem Dx_263 : Dc code 263 (.lstore 29) 2 265 := dc at_263 rfl
theorem Dx_265 : Dc code 265 (.aload 18) 2 267 := dc at_265 rfl
theorem Dx_267 : Dc code 267 (.lload 7) 2 269 := dc at_267 rfl
theorem Dx_269 : Dc code 269 (.iload 9) 2 271 := dc at_269 rfl
theorem Dx_271 : Dc code 271 (.invokestatic 25) 3 274 := dc at_271 rfl
theorem Dx_274 : Dc code 274 (.lload 29) 2 276 := dc at_274 rfl
theorem Dx_276 : Dc code 276 (.aload 18) 2 278 := dc at_276 rfl
theorem Dx_278 : Dc code 278 (.iload 10) 2 280 := dc at_278 rfl
theorem Dx_280 : Dc code 280 (.iaload) 1 281 := dc at_280 rfl
theorem Dx_281 : Dc code 281 (.iload 11) 2 283 := dc at_281 rfl
theorem Dx_283 : Dc code 283 (.invokestatic 29) 3 286 := dc at_283 rfl
theorem Dx_286 : Dc code 286 (.lcmp) 1 287 := dc at_286 rfl
theorem Dx_287 : Db code 287 (.ifCond .ne) 290 294 := db (7) at_287 rfl (by decide) (by decide)
theorem Dx_290 : Dc code 290 (.iconst 1) 1 291 := dc at_290 rfl
theorem Dx_291 : Db code 291 (.goto) 294 295 := db (4) at_291 rfl (by decide) (by decide)
theorem Dx_294 : Dc code 294 (.iconst 0) 1 295 := dc at_294 rfl
theorem Dx_295 : Dc code 295 (.istore 31) 2 297 := dc at_295 rfl
theorem Dx_297 : Dc code 297 (.iload 22) 2 299 := dc at_297 rfl
theorem Dx_299 : Db code 299 (.ifCond .eq) 302 321 := db (22) at_299 rfl (by decide) (by decide)
theorem Dx_302 : Dc code 302 (.iload 25) 2 304 := dc at_302 rfl
theorem Dx_304 : Db code 304 (.ifCond .eq) 307 321 := db (17) at_304 rfl (by decide) (by decide)
theorem Dx_307 : Dc code 307 (.iload 28) 2 309 := dc at_307 rfl
theorem Dx_309 : Db code 309 (.ifCond .eq) 312 321 := db (12) at_309 rfl (by decide) (by decide)
theorem Dx_312 : Dc code 312 (.iload 31) 2 314 := dc at_312 rfl
theorem Dx_314 : Db code 314 (.ifCond .eq) 317 321 := db (7) at_314 rfl (by decide) (by decide)
theorem Dx_317 : Dc code 317 (.iconst 1) 1 318 := dc at_317 rfl
theorem Dx_318 : Db code 318 (.goto) 321 322 := db (4) at_318 rfl (by decide) (by decide)
theorem Dx_321 : Dc code 321 (.iconst 0) 1 322 := dc at_321 rfl
theorem Dx_322 : Dc code 322 (.ireturn) 1 323 := dc at_322 rfl
set_option maxRecDepth 65536 in
set_option maxHeartbeats 40000000 in
theorem ct_law (l : Launch) (Z : State) (a0 : Array Value) (hw : ∀ d ∈ tables_1, d.before a0 Z = true) (n0 : Nat) (h : Heap) (p0 : Int32) (p1 p2 p3 p4 : Int64) :
    Ct l Z n0 x code maxLocals ret room_1 [.int p0, .long p1, .long p2, .long p3, .long p4] h (fun v h' => v = some (.int 1)) := by
  refine Ct.intro (plainFor_of_name pn_0) [.val (.int p0), .val (.long p1), .second, .val (.long p2), .second, .val (.long p3), .second, .val (.long p4), .second, .unset, .unset, .unset, .unset, .unset, .unset, .unset, .unset, .unset, .unset, .unset, .unset, .unset, .unset, .unset, .unset, .unset, .unset, .unset, .unset, .unset, .unset, .unset] (fun m => by first | (simp [entryFrame, mkF, argsToLocals, Value.category]; done) | (simp [entryFrame, mkF, argsToLocals, Value.category, maxLocals]; done) | rfl) ?_
  intro k hl K
  replace K : Ok k Z n0 "com/example/bitstride/bitstride/search/EditDistancesStepPinLaw" room_1 code 32 (some .boolean) "law" := K
  refine G.iloadN K Dx_0 rfl ?_
  refine G.bipush K Dx_1 127 rfl ?_
  refine G.iand K Dx_3 ?_
  obtain ⟨s, hs, es⟩ := own_and_lt p0 127 (by decide)
  rw [show p0 &&& 127 = Int32.ofNat s from es]
  refine G.bipush K Dx_4 65 rfl ?_
  refine G.irem K Dx_6 (by decide) ?_
  rw [show Int32.ofNat s % 65 = Int32.ofNat (s % 65) from own_nmod (n := 65) (by omega) (by decide)]
  obtain ⟨o, eo⟩ : ∃ o, o = s % 65 := ⟨_, rfl⟩
  rw [← eo]
  have ho : o ≤ 64 := by omega
  refine G.istore K Dx_7 ([.val (.int p0), .val (.long p1), .second, .val (.long p2), .second, .val (.long p3), .second, .val (.long p4), .second, .val (.int (Int32.ofNat o)), .unset, .unset, .unset, .unset, .unset, .unset, .unset, .unset, .unset, .unset, .unset, .unset, .unset, .unset, .unset, .unset, .unset, .unset, .unset, .unset, .unset, .unset]) rfl ?_
  refine G.iloadN K Dx_9 rfl ?_
  refine G.bipush K Dx_10 7 rfl ?_
  refine G.iushr K Dx_12 ?_
  refine G.iconst K Dx_13 3 rfl ?_
  refine G.iand K Dx_14 ?_
  obtain ⟨s2, hs2, es2⟩ := own_and_lt (XT.ushr p0 7) 3 (by decide)
  rw [show XT.ushr p0 7 &&& 3 = Int32.ofNat s2 from es2]
  refine G.iconst K Dx_15 1 rfl ?_
  refine G.iadd K Dx_16 ?_
  rw [own_nsucc]
  obtain ⟨len, elen⟩ : ∃ b, b = s2 + 1 := ⟨_, rfl⟩
  rw [← elen]
  have hl1 : 1 ≤ len := by omega
  have hl4 : len ≤ 4 := by omega
  refine G.istore K Dx_17 ([.val (.int p0), .val (.long p1), .second, .val (.long p2), .second, .val (.long p3), .second, .val (.long p4), .second, .val (.int (Int32.ofNat o)), .val (.int (Int32.ofNat len)), .unset, .unset, .unset, .unset, .unset, .unset, .unset, .unset, .unset, .unset, .unset, .unset, .unset, .unset, .unset, .unset, .unset, .unset, .unset, .unset, .unset]) rfl ?_
  refine G.iloadN K Dx_19 rfl ?_
  refine G.bipush K Dx_20 9 rfl ?_
  refine G.iushr K Dx_22 ?_
  refine G.iconst K Dx_23 3 rfl ?_
  refine G.iand K Dx_24 ?_
  obtain ⟨d, hd, ed⟩ := own_and_lt (XT.ushr p0 9) 3 (by decide)
  rw [show XT.ushr p0 9 &&& 3 = Int32.ofNat d from ed]
  refine G.istore K Dx_25 ([.val (.int p0), .val (.long p1), .second, .val (.long p2), .second, .val (.long p3), .second, .val (.long p4), .second, .val (.int (Int32.ofNat o)), .val (.int (Int32.ofNat len)), .val (.int (Int32.ofNat d)), .unset, .unset, .unset, .unset, .unset, .unset, .unset, .unset, .unset, .unset, .unset, .unset, .unset, .unset, .unset, .unset, .unset, .unset, .unset, .unset]) rfl ?_
  refine G.iload K Dx_27 rfl ?_
  refine G.iload K Dx_29 rfl ?_
  refine G.iadd K Dx_31 ?_
  rw [own_nadd]
  refine G.istore K Dx_32 ([.val (.int p0), .val (.long p1), .second, .val (.long p2), .second, .val (.long p3), .second, .val (.long p4), .second, .val (.int (Int32.ofNat o)), .val (.int (Int32.ofNat len)), .val (.int (Int32.ofNat d)), .val (.int (Int32.ofNat (o + len))), .unset, .unset, .unset, .unset, .unset, .unset, .unset, .unset, .unset, .unset, .unset, .unset, .unset, .unset, .unset, .unset, .unset, .unset, .unset]) rfl ?_
  refine G.iload K Dx_34 rfl ?_
  refine G.bipush K Dx_36 64 rfl ?_
  refine G.icmp_le K Dx_38 (fun q83 => ?_) (fun q83 => ?_)
  · have hW : o + len ≤ 64 := Nat.le_of_not_lt fun z => q83 ((own_nlt (i := 64) (by decide) (by omega)).mpr z)
    refine G.iconst K Dx_45 1 rfl ?_
    refine G.istore K Dx_46 ([.val (.int p0), .val (.long p1), .second, .val (.long p2), .second, .val (.long p3), .second, .val (.long p4), .second, .val (.int (Int32.ofNat o)), .val (.int (Int32.ofNat len)), .val (.int (Int32.ofNat d)), .val (.int (Int32.ofNat (o + len))), .val (.int 1), .unset, .unset, .unset, .unset, .unset, .unset, .unset, .unset, .unset, .unset, .unset, .unset, .unset, .unset, .unset, .unset, .unset, .unset]) rfl ?_
    refine G.lloadN K Dx_48 rfl ?_
    refine G.iload K Dx_49 rfl ?_
    refine G.callS K hl (wd hw 0 rfl) (wd hw 1 rfl) (wd hw 2 rfl) (wd hw 3 rfl) (by decide) pd_4 (ct_mask l Z a0 hw n0 h p1 o [] (Hp.nil (n0 := n0) (h := h))) 0 rfl (by decide) (by decide) (by decide) (by decide) rfl rfl [.int (Int32.ofNat o), .long p1] rfl Dx_51 ?_
    rintro _ h84 ⟨ma84, rfl, H84⟩
    change Hp n0 h84 [(ma84, La Z [(mk0 p1 o), p1])] at H84
    change G k n0 _ h84 _ _ 54 [.val (.int p0), .val (.long p1), .second, .val (.long p2), .second, .val (.long p3), .second, .val (.long p4), .second, .val (.int (Int32.ofNat o)), .val (.int (Int32.ofNat len)), .val (.int (Int32.ofNat d)), .val (.int (Int32.ofNat (o + len))), .val (.int 1), .unset, .unset, .unset, .unset, .unset, .unset, .unset, .unset, .unset, .unset, .unset, .unset, .unset, .unset, .unset, .unset, .unset, .unset] [.ref ma84]
    refine G.astore K Dx_54 rfl ([.val (.int p0), .val (.long p1), .second, .val (.long p2), .second, .val (.long p3), .second, .val (.long p4), .second, .val (.int (Int32.ofNat o)), .val (.int (Int32.ofNat len)), .val (.int (Int32.ofNat d)), .val (.int (Int32.ofNat (o + len))), .val (.int 1), .val (.ref ma84), .unset, .unset, .unset, .unset, .unset, .unset, .unset, .unset, .unset, .unset, .unset, .unset, .unset, .unset, .unset, .unset, .unset]) rfl ?_
    refine G.lloadN K Dx_56 rfl ?_
    refine G.iload K Dx_57 rfl ?_
    refine G.callS K hl (wd hw 0 rfl) (wd hw 1 rfl) (wd hw 2 rfl) (wd hw 3 rfl) (by decide) pd_4 (ct_mask l Z a0 hw n0 h84 p2 o [(ma84, La Z [(mk0 p1 o), p1])] H84) 0 rfl (by decide) (by decide) (by decide) (by decide) rfl rfl [.int (Int32.ofNat o), .long p2] rfl Dx_59 ?_
    rintro _ h85 ⟨ma85, rfl, H85⟩
    change Hp n0 h85 [(ma85, La Z [(mk0 p2 o), p2]), (ma84, La Z [(mk0 p1 o), p1])] at H85
    change G k n0 _ h85 _ _ 62 [.val (.int p0), .val (.long p1), .second, .val (.long p2), .second, .val (.long p3), .second, .val (.long p4), .second, .val (.int (Int32.ofNat o)), .val (.int (Int32.ofNat len)), .val (.int (Int32.ofNat d)), .val (.int (Int32.ofNat (o + len))), .val (.int 1), .val (.ref ma84), .unset, .unset, .unset, .unset, .unset, .unset, .unset, .unset, .unset, .unset, .unset, .unset, .unset, .unset, .unset, .unset, .unset] [.ref ma85]
    refine G.astore K Dx_62 rfl ([.val (.int p0), .val (.long p1), .second, .val (.long p2), .second, .val (.long p3), .second, .val (.long p4), .second, .val (.int (Int32.ofNat o)), .val (.int (Int32.ofNat len)), .val (.int (Int32.ofNat d)), .val (.int (Int32.ofNat (o + len))), .val (.int 1), .val (.ref ma84), .val (.ref ma85), .unset, .unset, .unset, .unset, .unset, .unset, .unset, .unset, .unset, .unset, .unset, .unset, .unset, .unset, .unset, .unset]) rfl ?_
    refine G.lload K Dx_64 rfl ?_
    refine G.iload K Dx_66 rfl ?_
    refine G.callS K hl (wd hw 0 rfl) (wd hw 1 rfl) (wd hw 2 rfl) (wd hw 3 rfl) (by decide) pd_4 (ct_mask l Z a0 hw n0 h85 p3 o [(ma85, La Z [(mk0 p2 o), p2]), (ma84, La Z [(mk0 p1 o), p1])] H85) 0 rfl (by decide) (by decide) (by decide) (by decide) rfl rfl [.int (Int32.ofNat o), .long p3] rfl Dx_68 ?_
    rintro _ h86 ⟨ma86, rfl, H86⟩
    change Hp n0 h86 [(ma86, La Z [(mk0 p3 o), p3]), (ma85, La Z [(mk0 p2 o), p2]), (ma84, La Z [(mk0 p1 o), p1])] at H86
    change G k n0 _ h86 _ _ 71 [.val (.int p0), .val (.long p1), .second, .val (.long p2), .second, .val (.long p3), .second, .val (.long p4), .second, .val (.int (Int32.ofNat o)), .val (.int (Int32.ofNat len)), .val (.int (Int32.ofNat d)), .val (.int (Int32.ofNat (o + len))), .val (.int 1), .val (.ref ma84), .val (.ref ma85), .unset, .unset, .unset, .unset, .unset, .unset, .unset, .unset, .unset, .unset, .unset, .unset, .unset, .unset, .unset, .unset] [.ref ma86]
    refine G.astore K Dx_71 rfl ([.val (.int p0), .val (.long p1), .second, .val (.long p2), .second, .val (.long p3), .second, .val (.long p4), .second, .val (.int (Int32.ofNat o)), .val (.int (Int32.ofNat len)), .val (.int (Int32.ofNat d)), .val (.int (Int32.ofNat (o + len))), .val (.int 1), .val (.ref ma84), .val (.ref ma85), .val (.ref ma86), .unset, .unset, .unset, .unset, .unset, .unset, .unset, .unset, .unset, .unset, .unset, .unset, .unset, .unset, .unset]) rfl ?_
    refine G.lload K Dx_73 rfl ?_
    refine G.iload K Dx_75 rfl ?_
    refine G.callS K hl (wd hw 0 rfl) (wd hw 1 rfl) (wd hw 2 rfl) (wd hw 3 rfl) (by decide) pd_4 (ct_mask l Z a0 hw n0 h86 p4 o [(ma86, La Z [(mk0 p3 o), p3]), (ma85, La Z [(mk0 p2 o), p2]), (ma84, La Z [(mk0 p1 o), p1])] H86) 0 rfl (by decide) (by decide) (by decide) (by decide) rfl rfl [.int (Int32.ofNat o), .long p4] rfl Dx_77 ?_
    rintro _ h87 ⟨ma87, rfl, H87⟩
    change Hp n0 h87 [(ma87, La Z [(mk0 p4 o), p4]), (ma86, La Z [(mk0 p3 o), p3]), (ma85, La Z [(mk0 p2 o), p2]), (ma84, La Z [(mk0 p1 o), p1])] at H87
    change G k n0 _ h87 _ _ 80 [.val (.int p0), .val (.long p1), .second, .val (.long p2), .second, .val (.long p3), .second, .val (.long p4), .second, .val (.int (Int32.ofNat o)), .val (.int (Int32.ofNat len)), .val (.int (Int32.ofNat d)), .val (.int (Int32.ofNat (o + len))), .val (.int 1), .val (.ref ma84), .val (.ref ma85), .val (.ref ma86), .unset, .unset, .unset, .unset, .unset, .unset, .unset, .unset, .unset, .unset, .unset, .unset, .unset, .unset, .unset] [.ref ma87]
    refine G.astore K Dx_80 rfl ([.val (.int p0), .val (.long p1), .second, .val (.long p2), .second, .val (.long p3), .second, .val (.long p4), .second, .val (.int (Int32.ofNat o)), .val (.int (Int32.ofNat len)), .val (.int (Int32.ofNat d)), .val (.int (Int32.ofNat (o + len))), .val (.int 1), .val (.ref ma84), .val (.ref ma85), .val (.ref ma86), .val (.ref ma87), .unset, .unset, .unset, .unset, .unset, .unset, .unset, .unset, .unset, .unset, .unset, .unset, .unset, .unset]) rfl ?_
    refine G.iconst K Dx_82 5 rfl ?_
    refine G.newarr_i K (wd hw 6 rfl) H87 (by decide) 5 (by decide) (by decide) (by decide) (by decide) Dx_83 ?_
    intro a88 h89 H89
    change Hp n0 h89 [(a88, Ia Z [0, 0, 0, 0, 0]), (ma87, La Z [(mk0 p4 o), p4]), (ma86, La Z [(mk0 p3 o), p3]), (ma85, La Z [(mk0 p2 o), p2]), (ma84, La Z [(mk0 p1 o), p1])] at H89
    refine G.astore K Dx_85 rfl ([.val (.int p0), .val (.long p1), .second, .val (.long p2), .second, .val (.long p3), .second, .val (.long p4), .second, .val (.int (Int32.ofNat o)), .val (.int (Int32.ofNat len)), .val (.int (Int32.ofNat d)), .val (.int (Int32.ofNat (o + len))), .val (.int 1), .val (.ref ma84), .val (.ref ma85), .val (.ref ma86), .val (.ref ma87), .val (.ref a88), .unset, .unset, .unset, .unset, .unset, .unset, .unset, .unset, .unset, .unset, .unset, .unset, .unset]) rfl ?_
    refine G.aload K Dx_87 rfl rfl ?_
    refine G.iconst K Dx_89 0 rfl ?_
    refine G.iconst K Dx_90 0 rfl ?_
    refine G.astore_i K H89 (i := 0) rfl (by decide) (Nat.le_of_ble_eq_true rfl) Dx_91 ?_
    intro h90 H90
    change Hp n0 h90 [(a88, Ia Z [0, 0, 0, 0, 0]), (ma87, La Z [(mk0 p4 o), p4]), (ma86, La Z [(mk0 p3 o), p3]), (ma85, La Z [(mk0 p2 o), p2]), (ma84, La Z [(mk0 p1 o), p1])] at H90
    refine G.aload K Dx_92 rfl rfl ?_
    refine G.iconst K Dx_94 1 rfl ?_
    refine G.iconst K Dx_95 1 rfl ?_
    refine G.astore_i K H90 (i := 0) rfl (by decide) (Nat.le_of_ble_eq_true rfl) Dx_96 ?_
    intro h91 H91
    change Hp n0 h91 [(a88, Ia Z [0, 1, 0, 0, 0]), (ma87, La Z [(mk0 p4 o), p4]), (ma86, La Z [(mk0 p3 o), p3]), (ma85, La Z [(mk0 p2 o), p2]), (ma84, La Z [(mk0 p1 o), p1])] at H91
    refine G.aload K Dx_97 rfl rfl ?_
    refine G.iconst K Dx_99 2 rfl ?_
    refine G.iconst K Dx_100 2 rfl ?_
    refine G.astore_i K H91 (i := 0) rfl (by decide) (Nat.le_of_ble_eq_true rfl) Dx_101 ?_
    intro h92 H92
    change Hp n0 h92 [(a88, Ia Z [0, 1, 2, 0, 0]), (ma87, La Z [(mk0 p4 o), p4]), (ma86, La Z [(mk0 p3 o), p3]), (ma85, La Z [(mk0 p2 o), p2]), (ma84, La Z [(mk0 p1 o), p1])] at H92
    refine G.aload K Dx_102 rfl rfl ?_
    refine G.iconst K Dx_104 3 rfl ?_
    refine G.iconst K Dx_105 3 rfl ?_
    refine G.astore_i K H92 (i := 0) rfl (by decide) (Nat.le_of_ble_eq_true rfl) Dx_106 ?_
    intro h93 H93
    change Hp n0 h93 [(a88, Ia Z [0, 1, 2, 3, 0]), (ma87, La Z [(mk0 p4 o), p4]), (ma86, La Z [(mk0 p3 o), p3]), (ma85, La Z [(mk0 p2 o), p2]), (ma84, La Z [(mk0 p1 o), p1])] at H93
    refine G.aload K Dx_107 rfl rfl ?_
    refine G.iconst K Dx_109 4 rfl ?_
    refine G.iconst K Dx_110 4 rfl ?_
    refine G.astore_i K H93 (i := 0) rfl (by decide) (Nat.le_of_ble_eq_true rfl) Dx_111 ?_
    intro h94 H94
    change Hp n0 h94 [(a88, Ia Z [0, 1, 2, 3, 4]), (ma87, La Z [(mk0 p4 o), p4]), (ma86, La Z [(mk0 p3 o), p3]), (ma85, La Z [(mk0 p2 o), p2]), (ma84, La Z [(mk0 p1 o), p1])] at H94
    obtain ⟨c0, ec0⟩ : ∃ c : Nat → Nat, c = fun j => j := ⟨_, rfl⟩
    have H95 : Hp n0 h94 [(a88, Ia Z [(Int32.ofNat (c0 0)), (Int32.ofNat (c0 1)), (Int32.ofNat (c0 2)), (Int32.ofNat (c0 3)), (Int32.ofNat (c0 4))]), (ma87, La Z [(mk0 p4 o), p4]), (ma86, La Z [(mk0 p3 o), p3]), (ma85, La Z [(mk0 p2 o), p2]), (ma84, La Z [(mk0 p1 o), p1])] := by rw [ec0]; exact H94
    refine G.new K (wd hw 7 rfl) (wd hw 8 rfl) (wd hw 9 rfl) (cf_NSE hw) (vs := [.null, .null, .int 0, .int 0, .int 0, .int 0]) (by rfl) H95 (by decide) (by decide) Dx_112 ?_
    intro a96 h97 H97
    change Hp n0 h97 [(a96, Ob Z "com/example/bitstride/bitstride/search/EditDistances" NSE [.null, .null, .int 0, .int 0, .int 0, .int 0]), (a88, Ia Z [(Int32.ofNat (c0 0)), (Int32.ofNat (c0 1)), (Int32.ofNat (c0 2)), (Int32.ofNat (c0 3)), (Int32.ofNat (c0 4))]), (ma87, La Z [(mk0 p4 o), p4]), (ma86, La Z [(mk0 p3 o), p3]), (ma85, La Z [(mk0 p2 o), p2]), (ma84, La Z [(mk0 p1 o), p1])] at H97
    refine G.dup K Dx_115 rfl ?_
    refine G.iload K Dx_116 rfl ?_
    refine G.iload K Dx_118 rfl ?_
    refine G.iload K Dx_120 rfl ?_
    refine G.iload K Dx_122 rfl ?_
    refine G.iadd K Dx_124 ?_
    rw [own_nadd]
    refine G.callI K hl rfl (wd hw 10 rfl) (wd hw 11 rfl) (wd hw 9 rfl) (wd hw 12 rfl) (by decide) pd_5 (ct_init1 l Z a0 hw n0 h97 a96 (o + len) (Int32.ofNat (o + d)) [(a88, Ia Z [(Int32.ofNat (c0 0)), (Int32.ofNat (c0 1)), (Int32.ofNat (c0 2)), (Int32.ofNat (c0 3)), (Int32.ofNat (c0 4))]), (ma87, La Z [(mk0 p4 o), p4]), (ma86, La Z [(mk0 p3 o), p3]), (ma85, La Z [(mk0 p2 o), p2]), (ma84, La Z [(mk0 p1 o), p1])] (by omega) (by omega) H97) 1 rfl (by decide) (by decide) (by decide) (by decide) rfl rfl [.int (Int32.ofNat (o + d)), .int (Int32.ofNat (o + len)), .int 1] rfl Dx_125 ?_
    rintro _ h98 ⟨rfl, ra98, fa98, H98⟩
    change G k n0 _ h98 _ _ 128 [.val (.int p0), .val (.long p1), .second, .val (.long p2), .second, .val (.long p3), .second, .val (.long p4), .second, .val (.int (Int32.ofNat o)), .val (.int (Int32.ofNat len)), .val (.int (Int32.ofNat d)), .val (.int (Int32.ofNat (o + len))), .val (.int 1), .val (.ref ma84), .val (.ref ma85), .val (.ref ma86), .val (.ref ma87), .val (.ref a88), .unset, .unset, .unset, .unset, .unset, .unset, .unset, .unset, .unset, .unset, .unset, .unset, .unset] [.ref a96]
    refine G.astore K Dx_128 rfl ([.val (.int p0), .val (.long p1), .second, .val (.long p2), .second, .val (.long p3), .second, .val (.long p4), .second, .val (.int (Int32.ofNat o)), .val (.int (Int32.ofNat len)), .val (.int (Int32.ofNat d)), .val (.int (Int32.ofNat (o + len))), .val (.int 1), .val (.ref ma84), .val (.ref ma85), .val (.ref ma86), .val (.ref ma87), .val (.ref a88), .val (.ref a96), .unset, .unset, .unset, .unset, .unset, .unset, .unset, .unset, .unset, .unset, .unset, .unset]) rfl ?_
    refine G.aload K Dx_130 rfl rfl ?_
    have H99 : Hp n0 h98 [(fa98, La Z [0]), (a96, Ob Z "com/example/bitstride/bitstride/search/EditDistances" NSE [.ref ra98, .ref fa98, .int (Int32.ofNat (o + len)), .int (Int32.ofNat ((o + len - 1) % 64)), .int (Int32.ofNat (o + d)), .int 0]), (ra98, La Z [0]), (a88, Ia Z [(Int32.ofNat (c0 0)), (Int32.ofNat (c0 1)), (Int32.ofNat (c0 2)), (Int32.ofNat (c0 3)), (Int32.ofNat (c0 4))]), (ma87, La Z [(mk0 p4 o), p4]), (ma86, La Z [(mk0 p3 o), p3]), (ma85, La Z [(mk0 p2 o), p2]), (ma84, La Z [(mk0 p1 o), p1])] := H98.pull 2 rfl
    have H100 : Hp n0 h98 [(ra98, La Z [0]), (fa98, La Z [0]), (a96, Ob Z "com/example/bitstride/bitstride/search/EditDistances" NSE [.ref ra98, .ref fa98, .int (Int32.ofNat (o + len)), .int (Int32.ofNat ((o + len - 1) % 64)), .int (Int32.ofNat (o + d)), .int 0]), (a88, Ia Z [(Int32.ofNat (c0 0)), (Int32.ofNat (c0 1)), (Int32.ofNat (c0 2)), (Int32.ofNat (c0 3)), (Int32.ofNat (c0 4))]), (ma87, La Z [(mk0 p4 o), p4]), (ma86, La Z [(mk0 p3 o), p3]), (ma85, La Z [(mk0 p2 o), p2]), (ma84, La Z [(mk0 p1 o), p1])] := H99.pull 2 rfl
    have H101 : Hp n0 h98 [(a96, Ob Z "com/example/bitstride/bitstride/search/EditDistances" NSE [.ref ra98, .ref fa98, .int (Int32.ofNat (o + len)), .int (Int32.ofNat ((o + len - 1) % 64)), .int (Int32.ofNat (o + d)), .int 0]), (ra98, La Z [0]), (fa98, La Z [0]), (a88, Ia Z [(Int32.ofNat (c0 0)), (Int32.ofNat (c0 1)), (Int32.ofNat (c0 2)), (Int32.ofNat (c0 3)), (Int32.ofNat (c0 4))]), (ma87, La Z [(mk0 p4 o), p4]), (ma86, La Z [(mk0 p3 o), p3]), (ma85, La Z [(mk0 p2 o), p2]), (ma84, La Z [(mk0 p1 o), p1])] := H100.pull 2 rfl
    refine G.callV K hl (wd hw 26 rfl) (wd hw 27 rfl) (wd hw 29 rfl) (wd hw 28 rfl) (wd hw 9 rfl) (wd hw 30 rfl) (by decide) pd_6 (H101.exa (i := 0) rfl) (ct_restart1 l Z a0 hw n0 h98 a96 ra98 fa98 (Int32.ofNat (o + len)) (Int32.ofNat ((o + len - 1) % 64)) (Int32.ofNat (o + d))  0 0 0 [(a88, Ia Z [(Int32.ofNat (c0 0)), (Int32.ofNat (c0 1)), (Int32.ofNat (c0 2)), (Int32.ofNat (c0 3)), (Int32.ofNat (c0 4))]), (ma87, La Z [(mk0 p4 o), p4]), (ma86, La Z [(mk0 p3 o), p3]), (ma85, La Z [(mk0 p2 o), p2]), (ma84, La Z [(mk0 p1 o), p1])] H101) 0 rfl (by decide) (by decide) (by decide) (by decide) rfl rfl [] rfl Dx_132 ?_
    rintro _ h102 ⟨rfl, H102⟩
    have w102 : Win o len (bt (-1)) (bt 0) c0 := by rw [ec0]; exact ed_start1 (by omega)
    replace H102 : Hp n0 h102 [(a96, Ob Z "com/example/bitstride/bitstride/search/EditDistances" NSE [.ref ra98, .ref fa98, .int (Int32.ofNat (o + len)), .int (Int32.ofNat ((o + len - 1) % 64)), .int (Int32.ofNat (o + d)), .int (Int32.ofNat (o + c0 len))]), (ra98, La Z [(-1)]), (fa98, La Z [0]), (a88, Ia Z [(Int32.ofNat (c0 0)), (Int32.ofNat (c0 1)), (Int32.ofNat (c0 2)), (Int32.ofNat (c0 3)), (Int32.ofNat (c0 4))]), (ma87, La Z [(mk0 p4 o), p4]), (ma86, La Z [(mk0 p3 o), p3]), (ma85, La Z [(mk0 p2 o), p2]), (ma84, La Z [(mk0 p1 o), p1])] := by rw [show c0 len = len from by rw [ec0]]; exact H102
    have l102 : ∀ j, c0 j ≤ j := fun j => by rw [ec0]; exact Nat.le_refl _
    change G k n0 _ h102 _ _ 135 [.val (.int p0), .val (.long p1), .second, .val (.long p2), .second, .val (.long p3), .second, .val (.long p4), .second, .val (.int (Int32.ofNat o)), .val (.int (Int32.ofNat len)), .val (.int (Int32.ofNat d)), .val (.int (Int32.ofNat (o + len))), .val (.int 1), .val (.ref ma84), .val (.ref ma85), .val (.ref ma86), .val (.ref ma87), .val (.ref a88), .val (.ref a96), .unset, .unset, .unset, .unset, .unset, .unset, .unset, .unset, .unset, .unset, .unset, .unset] []
    refine G.aload K Dx_135 rfl rfl ?_
    refine G.aload K Dx_137 rfl rfl ?_
    have H103 : Hp n0 h102 [(ma84, La Z [(mk0 p1 o), p1]), (a96, Ob Z "com/example/bitstride/bitstride/search/EditDistances" NSE [.ref ra98, .ref fa98, .int (Int32.ofNat (o + len)), .int (Int32.ofNat ((o + len - 1) % 64)), .int (Int32.ofNat (o + d)), .int (Int32.ofNat (o + c0 len))]), (ra98, La Z [(-1)]), (fa98, La Z [0]), (a88, Ia Z [(Int32.ofNat (c0 0)), (Int32.ofNat (c0 1)), (Int32.ofNat (c0 2)), (Int32.ofNat (c0 3)), (Int32.ofNat (c0 4))]), (ma87, La Z [(mk0 p4 o), p4]), (ma86, La Z [(mk0 p3 o), p3]), (ma85, La Z [(mk0 p2 o), p2])] := H102.pull 7 rfl
    have H104 : Hp n0 h102 [(fa98, La Z [0]), (ma84, La Z [(mk0 p1 o), p1]), (a96, Ob Z "com/example/bitstride/bitstride/search/EditDistances" NSE [.ref ra98, .ref fa98, .int (Int32.ofNat (o + len)), .int (Int32.ofNat ((o + len - 1) % 64)), .int (Int32.ofNat (o + d)), .int (Int32.ofNat (o + c0 len))]), (ra98, La Z [(-1)]), (a88, Ia Z [(Int32.ofNat (c0 0)), (Int32.ofNat (c0 1)), (Int32.ofNat (c0 2)), (Int32.ofNat (c0 3)), (Int32.ofNat (c0 4))]), (ma87, La Z [(mk0 p4 o), p4]), (ma86, La Z [(mk0 p3 o), p3]), (ma85, La Z [(mk0 p2 o), p2])] := H103.pull 3 rfl
    have H105 : Hp n0 h102 [(ra98, La Z [(-1)]), (fa98, La Z [0]), (ma84, La Z [(mk0 p1 o), p1]), (a96, Ob Z "com/example/bitstride/bitstride/search/EditDistances" NSE [.ref ra98, .ref fa98, .int (Int32.ofNat (o + len)), .int (Int32.ofNat ((o + len - 1) % 64)), .int (Int32.ofNat (o + d)), .int (Int32.ofNat (o + c0 len))]), (a88, Ia Z [(Int32.ofNat (c0 0)), (Int32.ofNat (c0 1)), (Int32.ofNat (c0 2)), (Int32.ofNat (c0 3)), (Int32.ofNat (c0 4))]), (ma87, La Z [(mk0 p4 o), p4]), (ma86, La Z [(mk0 p3 o), p3]), (ma85, La Z [(mk0 p2 o), p2])] := H104.pull 3 rfl
    have H106 : Hp n0 h102 [(a96, Ob Z "com/example/bitstride/bitstride/search/EditDistances" NSE [.ref ra98, .ref fa98, .int (Int32.ofNat (o + len)), .int (Int32.ofNat ((o + len - 1) % 64)), .int (Int32.ofNat (o + d)), .int (Int32.ofNat (o + c0 len))]), (ra98, La Z [(-1)]), (fa98, La Z [0]), (ma84, La Z [(mk0 p1 o), p1]), (a88, Ia Z [(Int32.ofNat (c0 0)), (Int32.ofNat (c0 1)), (Int32.ofNat (c0 2)), (Int32.ofNat (c0 3)), (Int32.ofNat (c0 4))]), (ma87, La Z [(mk0 p4 o), p4]), (ma86, La Z [(mk0 p3 o), p3]), (ma85, La Z [(mk0 p2 o), p2])] := H105.pull 3 rfl
    refine G.callV K hl (wd hw 38 rfl) (wd hw 39 rfl) (wd hw 41 rfl) (wd hw 40 rfl) (wd hw 9 rfl) (wd hw 42 rfl) (by decide) pd_7 (H106.exa (i := 0) rfl) (ct_step1 l Z a0 hw n0 h102 a96 ra98 fa98 (Int32.ofNat (o + len)) (Int32.ofNat ((o + len - 1) % 64)) (Int32.ofNat (o + d)) (Int32.ofNat (o + c0 len)) (-1) 0 ma84 (mk0 p1 o) p1 [(a88, Ia Z [(Int32.ofNat (c0 0)), (Int32.ofNat (c0 1)), (Int32.ofNat (c0 2)), (Int32.ofNat (c0 3)), (Int32.ofNat (c0 4))]), (ma87, La Z [(mk0 p4 o), p4]), (ma86, La Z [(mk0 p3 o), p3]), (ma85, La Z [(mk0 p2 o), p2])] H106) 0 rfl (by decide) (by decide) (by decide) (by decide) rfl rfl [.ref ma84] rfl Dx_139 ?_
    rintro _ h107 ⟨rfl, H107⟩
    obtain ⟨w107, d107⟩ := ed1 (x := p1) hl1 (by omega) w102
    rw [d107] at H107 ⊢
    have b107 := colS_le (mtF p1 o) c0 len
    rw [own_ret ho (by omega) (by omega)]
    obtain ⟨c107, ec107⟩ : ∃ g, g = colS (mtF p1 o) c0 := ⟨_, rfl⟩
    obtain ⟨r107_0, er107_0⟩ : ∃ g, g = wR (mk0 p1 o) (-1) 0 0 0 := ⟨_, rfl⟩
    obtain ⟨f107_0, ef107_0⟩ : ∃ g, g = wF (mk0 p1 o) (-1) 0 0 0 := ⟨_, rfl⟩
    rw [← er107_0, ← ef107_0, ← ec107] at w107
    rw [← er107_0, ← ef107_0, ← ec107] at H107
    rw [← ec107]
    rw [← ec107] at b107
    have l107 : ∀ j, c107 j ≤ j := fun j => by rw [ec107]; exact colS_le _ _ _
    change G k n0 _ h107 _ _ 142 [.val (.int p0), .val (.long p1), .second, .val (.long p2), .second, .val (.long p3), .second, .val (.long p4), .second, .val (.int (Int32.ofNat o)), .val (.int (Int32.ofNat len)), .val (.int (Int32.ofNat d)), .val (.int (Int32.ofNat (o + len))), .val (.int 1), .val (.ref ma84), .val (.ref ma85), .val (.ref ma86), .val (.ref ma87), .val (.ref a88), .val (.ref a96), .unset, .unset, .unset, .unset, .unset, .unset, .unset, .unset, .unset, .unset, .unset, .unset] [.long (if d < c107 len then 0 else 1)]
    refine G.lstore K Dx_142 ([.val (.int p0), .val (.long p1), .second, .val (.long p2), .second, .val (.long p3), .second, .val (.long p4), .second, .val (.int (Int32.ofNat o)), .val (.int (Int32.ofNat len)), .val (.int (Int32.ofNat d)), .val (.int (Int32.ofNat (o + len))), .val (.int 1), .val (.ref ma84), .val (.ref ma85), .val (.ref ma86), .val (.ref ma87), .val (.ref a88), .val (.ref a96), .val (.long (if d < c107 len then 0 else 1)), .second, .unset, .unset, .unset, .unset, .unset, .unset, .unset, .unset, .unset, .unset]) rfl ?_
    refine G.aload K Dx_144 rfl rfl ?_
    refine G.lloadN K Dx_146 rfl ?_
    refine G.iload K Dx_147 rfl ?_
    have H108 : Hp n0 h107 [(a88, Ia Z [(Int32.ofNat (c0 0)), (Int32.ofNat (c0 1)), (Int32.ofNat (c0 2)), (Int32.ofNat (c0 3)), (Int32.ofNat (c0 4))]), (a96, Ob Z "com/example/bitstride/bitstride/search/EditDistances" NSE [.ref ra98, .ref fa98, .int (Int32.ofNat (o + len)), .int (Int32.ofNat ((o + len - 1) % 64)), .int (Int32.ofNat (o + d)), .int (Int32.ofNat (o + c107 len))]), (ra98, La Z [r107_0]), (fa98, La Z [f107_0]), (ma84, La Z [(mk0 p1 o), p1]), (ma87, La Z [(mk0 p4 o), p4]), (ma86, La Z [(mk0 p3 o), p3]), (ma85, La Z [(mk0 p2 o), p2])] := H107.pull 4 rfl
    refine G.callS K hl (wd hw 43 rfl) (wd hw 44 rfl) (wd hw 2 rfl) (wd hw 45 rfl) (by decide) pd_8 (ct_advance l Z a0 hw n0 h107 a88 p1 o c0 [(a96, Ob Z "com/example/bitstride/bitstride/search/EditDistances" NSE [.ref ra98, .ref fa98, .int (Int32.ofNat (o + len)), .int (Int32.ofNat ((o + len - 1) % 64)), .int (Int32.ofNat (o + d)), .int (Int32.ofNat (o + c107 len))]), (ra98, La Z [r107_0]), (fa98, La Z [f107_0]), (ma84, La Z [(mk0 p1 o), p1]), (ma87, La Z [(mk0 p4 o), p4]), (ma86, La Z [(mk0 p3 o), p3]), (ma85, La Z [(mk0 p2 o), p2])] ho w102.1 l102 H108) 0 rfl (by decide) (by decide) (by decide) (by decide) rfl rfl [.int (Int32.ofNat o), .long p1, .ref a88] rfl Dx_149 ?_
    rintro _ h109 ⟨rfl, H109⟩
    rw [← ec107] at H109
    change G k n0 _ h109 _ _ 152 [.val (.int p0), .val (.long p1), .second, .val (.long p2), .second, .val (.long p3), .second, .val (.long p4), .second, .val (.int (Int32.ofNat o)), .val (.int (Int32.ofNat len)), .val (.int (Int32.ofNat d)), .val (.int (Int32.ofNat (o + len))), .val (.int 1), .val (.ref ma84), .val (.ref ma85), .val (.ref ma86), .val (.ref ma87), .val (.ref a88), .val (.ref a96), .val (.long (if d < c107 len then 0 else 1)), .second, .unset, .unset, .unset, .unset, .unset, .unset, .unset, .unset, .unset, .unset] []
    refine G.lload K Dx_152 rfl ?_
    refine G.aload K Dx_154 rfl rfl ?_
    refine G.iload K Dx_156 rfl ?_
    refine G.aload_i K H109 (i := 0) rfl (own_nneg (by omega)) (by rw [own_nidx (by omega)]; exact own_get5 (by omega)) Dx_158 ?_
    refine G.iload K Dx_159 rfl ?_
    refine G.callS K hl (wd hw 56 rfl) (wd hw 57 rfl) (wd hw 2 rfl) (wd hw 58 rfl) (by decide) pd_9 (ct_expected l Z a0 hw n0 _ (c107 len) d (by have := l107 len; omega) (by omega)) 2 rfl (by decide) (by decide) (by decide) (by decide) rfl rfl [.int (Int32.ofNat d), .int (Int32.ofNat (c107 len))] rfl Dx_161 ?_
    rintro _ _ ⟨rfl, rfl⟩
    change G k n0 _ h109 _ _ 164 [.val (.int p0), .val (.long p1), .second, .val (.long p2), .second, .val (.long p3), .second, .val (.long p4), .second, .val (.int (Int32.ofNat o)), .val (.int (Int32.ofNat len)), .val (.int (Int32.ofNat d)), .val (.int (Int32.ofNat (o + len))), .val (.int 1), .val (.ref ma84), .val (.ref ma85), .val (.ref ma86), .val (.ref ma87), .val (.ref a88), .val (.ref a96), .val (.long (if d < c107 len then 0 else 1)), .second, .unset, .unset, .unset, .unset, .unset, .unset, .unset, .unset, .unset, .unset] [.long (if d < c107 len then 0 else 1), .long (if d < c107 len then 0 else 1)]
    refine G.lcmp_ne K Dx_164 Dx_165 (fun q => absurd rfl q) (fun q110 => ?_)
    refine G.iconst K Dx_168 1 rfl ?_
    refine G.goto K Dx_169 ?_
    refine G.istore K Dx_173 ([.val (.int p0), .val (.long p1), .second, .val (.long p2), .second, .val (.long p3), .second, .val (.long p4), .second, .val (.int (Int32.ofNat o)), .val (.int (Int32.ofNat len)), .val (.int (Int32.ofNat d)), .val (.int (Int32.ofNat (o + len))), .val (.int 1), .val (.ref ma84), .val (.ref ma85), .val (.ref ma86), .val (.ref ma87), .val (.ref a88), .val (.ref a96), .val (.long (if d < c107 len then 0 else 1)), .second, .val (.int 1), .unset, .unset, .unset, .unset, .unset, .unset, .unset, .unset, .unset]) rfl ?_
    refine G.aload K Dx_175 rfl rfl ?_
    refine G.aload K Dx_177 rfl rfl ?_
    have H111 : Hp n0 h109 [(ma85, La Z [(mk0 p2 o), p2]), (a88, Ia Z [(Int32.ofNat (c107 0)), (Int32.ofNat (c107 1)), (Int32.ofNat (c107 2)), (Int32.ofNat (c107 3)), (Int32.ofNat (c107 4))]), (a96, Ob Z "com/example/bitstride/bitstride/search/EditDistances" NSE [.ref ra98, .ref fa98, .int (Int32.ofNat (o + len)), .int (Int32.ofNat ((o + len - 1) % 64)), .int (Int32.ofNat (o + d)), .int (Int32.ofNat (o + c107 len))]), (ra98, La Z [r107_0]), (fa98, La Z [f107_0]), (ma84, La Z [(mk0 p1 o), p1]), (ma87, La Z [(mk0 p4 o), p4]), (ma86, La Z [(mk0 p3 o), p3])] := H109.pull 7 rfl
    have H112 : Hp n0 h109 [(fa98, La Z [f107_0]), (ma85, La Z [(mk0 p2 o), p2]), (a88, Ia Z [(Int32.ofNat (c107 0)), (Int32.ofNat (c107 1)), (Int32.ofNat (c107 2)), (Int32.ofNat (c107 3)), (Int32.ofNat (c107 4))]), (a96, Ob Z "com/example/bitstride/bitstride/search/EditDistances" NSE [.ref ra98, .ref fa98, .int (Int32.ofNat (o + len)), .int (Int32.ofNat ((o + len - 1) % 64)), .int (Int32.ofNat (o + d)), .int (Int32.ofNat (o + c107 len))]), (ra98, La Z [r107_0]), (ma84, La Z [(mk0 p1 o), p1]), (ma87, La Z [(mk0 p4 o), p4]), (ma86, La Z [(mk0 p3 o), p3])] := H111.pull 4 rfl
    have H113 : Hp n0 h109 [(ra98, La Z [r107_0]), (fa98, La Z [f107_0]), (ma85, La Z [(mk0 p2 o), p2]), (a88, Ia Z [(Int32.ofNat (c107 0)), (Int32.ofNat (c107 1)), (Int32.ofNat (c107 2)), (Int32.ofNat (c107 3)), (Int32.ofNat (c107 4))]), (a96, Ob Z "com/example/bitstride/bitstride/search/EditDistances" NSE [.ref ra98, .ref fa98, .int (Int32.ofNat (o + len)), .int (Int32.ofNat ((o + len - 1) % 64)), .int (Int32.ofNat (o + d)), .int (Int32.ofNat (o + c107 len))]), (ma84, La Z [(mk0 p1 o), p1]), (ma87, La Z [(mk0 p4 o), p4]), (ma86, La Z [(mk0 p3 o), p3])] := H112.pull 4 rfl
    have H114 : Hp n0 h109 [(a96, Ob Z "com/example/bitstride/bitstride/search/EditDistances" NSE [.ref ra98, .ref fa98, .int (Int32.ofNat (o + len)), .int (Int32.ofNat ((o + len - 1) % 64)), .int (Int32.ofNat (o + d)), .int (Int32.ofNat (o + c107 len))]), (ra98, La Z [r107_0]), (fa98, La Z [f107_0]), (ma85, La Z [(mk0 p2 o), p2]), (a88, Ia Z [(Int32.ofNat (c107 0)), (Int32.ofNat (c107 1)), (Int32.ofNat (c107 2)), (Int32.ofNat (c107 3)), (Int32.ofNat (c107 4))]), (ma84, La Z [(mk0 p1 o), p1]), (ma87, La Z [(mk0 p4 o), p4]), (ma86, La Z [(mk0 p3 o), p3])] := H113.pull 4 rfl
    refine G.callV K hl (wd hw 38 rfl) (wd hw 39 rfl) (wd hw 41 rfl) (wd hw 40 rfl) (wd hw 9 rfl) (wd hw 42 rfl) (by decide) pd_7 (H114.exa (i := 0) rfl) (ct_step1 l Z a0 hw n0 h109 a96 ra98 fa98 (Int32.ofNat (o + len)) (Int32.ofNat ((o + len - 1) % 64)) (Int32.ofNat (o + d)) (Int32.ofNat (o + c107 len)) r107_0 f107_0 ma85 (mk0 p2 o) p2 [(a88, Ia Z [(Int32.ofNat (c107 0)), (Int32.ofNat (c107 1)), (Int32.ofNat (c107 2)), (Int32.ofNat (c107 3)), (Int32.ofNat (c107 4))]), (ma84, La Z [(mk0 p1 o), p1]), (ma87, La Z [(mk0 p4 o), p4]), (ma86, La Z [(mk0 p3 o), p3])] H114) 0 rfl (by decide) (by decide) (by decide) (by decide) rfl rfl [.ref ma85] rfl Dx_179 ?_
    rintro _ h115 ⟨rfl, H115⟩
    obtain ⟨w115, d115⟩ := ed1 (x := p2) hl1 (by omega) w107
    rw [d115] at H115 ⊢
    have b115 := colS_le (mtF p2 o) c107 len
    rw [own_ret ho (by omega) (by omega)]
    obtain ⟨c115, ec115⟩ : ∃ g, g = colS (mtF p2 o) c107 := ⟨_, rfl⟩
    obtain ⟨r115_0, er115_0⟩ : ∃ g, g = wR (mk0 p2 o) r107_0 f107_0 0 0 := ⟨_, rfl⟩
    obtain ⟨f115_0, ef115_0⟩ : ∃ g, g = wF (mk0 p2 o) r107_0 f107_0 0 0 := ⟨_, rfl⟩
    rw [← er115_0, ← ef115_0, ← ec115] at w115
    rw [← er115_0, ← ef115_0, ← ec115] at H115
    rw [← ec115]
    rw [← ec115] at b115
    have l115 : ∀ j, c115 j ≤ j := fun j => by rw [ec115]; exact colS_le _ _ _
    change G k n0 _ h115 _ _ 182 [.val (.int p0), .val (.long p1), .second, .val (.long p2), .second, .val (.long p3), .second, .val (.long p4), .second, .val (.int (Int32.ofNat o)), .val (.int (Int32.ofNat len)), .val (.int (Int32.ofNat d)), .val (.int (Int32.ofNat (o + len))), .val (.int 1), .val (.ref ma84), .val (.ref ma85), .val (.ref ma86), .val (.ref ma87), .val (.ref a88), .val (.ref a96), .val (.long (if d < c107 len then 0 else 1)), .second, .val (.int 1), .unset, .unset, .unset, .unset, .unset, .unset, .unset, .unset, .unset] [.long (if d < c115 len then 0 else 1)]
    refine G.lstore K Dx_182 ([.val (.int p0), .val (.long p1), .second, .val (.long p2), .second, .val (.long p3), .second, .val (.long p4), .second, .val (.int (Int32.ofNat o)), .val (.int (Int32.ofNat len)), .val (.int (Int32.ofNat d)), .val (.int (Int32.ofNat (o + len))), .val (.int 1), .val (.ref ma84), .val (.ref ma85), .val (.ref ma86), .val (.ref ma87), .val (.ref a88), .val (.ref a96), .val (.long (if d < c107 len then 0 else 1)), .second, .val (.int 1), .val (.long (if d < c115 len then 0 else 1)), .second, .unset, .unset, .unset, .unset, .unset, .unset, .unset]) rfl ?_
    refine G.aload K Dx_184 rfl rfl ?_
    refine G.lloadN K Dx_186 rfl ?_
    refine G.iload K Dx_187 rfl ?_
    have H116 : Hp n0 h115 [(a88, Ia Z [(Int32.ofNat (c107 0)), (Int32.ofNat (c107 1)), (Int32.ofNat (c107 2)), (Int32.ofNat (c107 3)), (Int32.ofNat (c107 4))]), (a96, Ob Z "com/example/bitstride/bitstride/search/EditDistances" NSE [.ref ra98, .ref fa98, .int (Int32.ofNat (o + len)), .int (Int32.ofNat ((o + len - 1) % 64)), .int (Int32.ofNat (o + d)), .int (Int32.ofNat (o + c115 len))]), (ra98, La Z [r115_0]), (fa98, La Z [f115_0]), (ma85, La Z [(mk0 p2 o), p2]), (ma84, La Z [(mk0 p1 o), p1]), (ma87, La Z [(mk0 p4 o), p4]), (ma86, La Z [(mk0 p3 o), p3])] := H115.pull 4 rfl
    refine G.callS K hl (wd hw 43 rfl) (wd hw 44 rfl) (wd hw 2 rfl) (wd hw 45 rfl) (by decide) pd_8 (ct_advance l Z a0 hw n0 h115 a88 p2 o c107 [(a96, Ob Z "com/example/bitstride/bitstride/search/EditDistances" NSE [.ref ra98, .ref fa98, .int (Int32.ofNat (o + len)), .int (Int32.ofNat ((o + len - 1) % 64)), .int (Int32.ofNat (o + d)), .int (Int32.ofNat (o + c115 len))]), (ra98, La Z [r115_0]), (fa98, La Z [f115_0]), (ma85, La Z [(mk0 p2 o), p2]), (ma84, La Z [(mk0 p1 o), p1]), (ma87, La Z [(mk0 p4 o), p4]), (ma86, La Z [(mk0 p3 o), p3])] ho w107.1 l107 H116) 0 rfl (by decide) (by decide) (by decide) (by decide) rfl rfl [.int (Int32.ofNat o), .long p2, .ref a88] rfl Dx_189 ?_
    rintro _ h117 ⟨rfl, H117⟩
    rw [← ec115] at H117
    change G k n0 _ h117 _ _ 192 [.val (.int p0), .val (.long p1), .second, .val (.long p2), .second, .val (.long p3), .second, .val (.long p4), .second, .val (.int (Int32.ofNat o)), .val (.int (Int32.ofNat len)), .val (.int (Int32.ofNat d)), .val (.int (Int32.ofNat (o + len))), .val (.int 1), .val (.ref ma84), .val (.ref ma85), .val (.ref ma86), .val (.ref ma87), .val (.ref a88), .val (.ref a96), .val (.long (if d < c107 len then 0 else 1)), .second, .val (.int 1), .val (.long (if d < c115 len then 0 else 1)), .second, .unset, .unset, .unset, .unset, .unset, .unset, .unset] []
    refine G.lload K Dx_192 rfl ?_
    refine G.aload K Dx_194 rfl rfl ?_
    refine G.iload K Dx_196 rfl ?_
    refine G.aload_i K H117 (i := 0) rfl (own_nneg (by omega)) (by rw [own_nidx (by omega)]; exact own_get5 (by omega)) Dx_198 ?_
    refine G.iload K Dx_199 rfl ?_
    refine G.callS K hl (wd hw 56 rfl) (wd hw 57 rfl) (wd hw 2 rfl) (wd hw 58 rfl) (by decide) pd_9 (ct_expected l Z a0 hw n0 _ (c115 len) d (by have := l115 len; omega) (by omega)) 2 rfl (by decide) (by decide) (by decide) (by decide) rfl rfl [.int (Int32.ofNat d), .int (Int32.ofNat (c115 len))] rfl Dx_201 ?_
    rintro _ _ ⟨rfl, rfl⟩
    change G k n0 _ h117 _ _ 204 [.val (.int p0), .val (.long p1), .second, .val (.long p2), .second, .val (.long p3), .second, .val (.long p4), .second, .val (.int (Int32.ofNat o)), .val (.int (Int32.ofNat len)), .val (.int (Int32.ofNat d)), .val (.int (Int32.ofNat (o + len))), .val (.int 1), .val (.ref ma84), .val (.ref ma85), .val (.ref ma86), .val (.ref ma87), .val (.ref a88), .val (.ref a96), .val (.long (if d < c107 len then 0 else 1)), .second, .val (.int 1), .val (.long (if d < c115 len then 0 else 1)), .second, .unset, .unset, .unset, .unset, .unset, .unset, .unset] [.long (if d < c115 len then 0 else 1), .long (if d < c115 len then 0 else 1)]
    refine G.lcmp_ne K Dx_204 Dx_205 (fun q => absurd rfl q) (fun q118 => ?_)
    refine G.iconst K Dx_208 1 rfl ?_
    refine G.goto K Dx_209 ?_
    refine G.istore K Dx_213 ([.val (.int p0), .val (.long p1), .second, .val (.long p2), .second, .val (.long p3), .second, .val (.long p4), .second, .val (.int (Int32.ofNat o)), .val (.int (Int32.ofNat len)), .val (.int (Int32.ofNat d)), .val (.int (Int32.ofNat (o + len))), .val (.int 1), .val (.ref ma84), .val (.ref ma85), .val (.ref ma86), .val (.ref ma87), .val (.ref a88), .val (.ref a96), .val (.long (if d < c107 len then 0 else 1)), .second, .val (.int 1), .val (.long (if d < c115 len then 0 else 1)), .second, .val (.int 1), .unset, .unset, .unset, .unset, .unset, .unset]) rfl ?_
    refine G.aload K Dx_215 rfl rfl ?_
    refine G.aload K Dx_217 rfl rfl ?_
    have H119 : Hp n0 h117 [(ma86, La Z [(mk0 p3 o), p3]), (a88, Ia Z [(Int32.ofNat (c115 0)), (Int32.ofNat (c115 1)), (Int32.ofNat (c115 2)), (Int32.ofNat (c115 3)), (Int32.ofNat (c115 4))]), (a96, Ob Z "com/example/bitstride/bitstride/search/EditDistances" NSE [.ref ra98, .ref fa98, .int (Int32.ofNat (o + len)), .int (Int32.ofNat ((o + len - 1) % 64)), .int (Int32.ofNat (o + d)), .int (Int32.ofNat (o + c115 len))]), (ra98, La Z [r115_0]), (fa98, La Z [f115_0]), (ma85, La Z [(mk0 p2 o), p2]), (ma84, La Z [(mk0 p1 o), p1]), (ma87, La Z [(mk0 p4 o), p4])] := H117.pull 7 rfl
    have H120 : Hp n0 h117 [(fa98, La Z [f115_0]), (ma86, La Z [(mk0 p3 o), p3]), (a88, Ia Z [(Int32.ofNat (c115 0)), (Int32.ofNat (c115 1)), (Int32.ofNat (c115 2)), (Int32.ofNat (c115 3)), (Int32.ofNat (c115 4))]), (a96, Ob Z "com/example/bitstride/bitstride/search/EditDistances" NSE [.ref ra98, .ref fa98, .int (Int32.ofNat (o + len)), .int (Int32.ofNat ((o + len - 1) % 64)), .int (Int32.ofNat (o + d)), .int (Int32.ofNat (o + c115 len))]), (ra98, La Z [r115_0]), (ma85, La Z [(mk0 p2 o), p2]), (ma84, La Z [(mk0 p1 o), p1]), (ma87, La Z [(mk0 p4 o), p4])] := H119.pull 4 rfl
    have H121 : Hp n0 h117 [(ra98, La Z [r115_0]), (fa98, La Z [f115_0]), (ma86, La Z [(mk0 p3 o), p3]), (a88, Ia Z [(Int32.ofNat (c115 0)), (Int32.ofNat (c115 1)), (Int32.ofNat (c115 2)), (Int32.ofNat (c115 3)), (Int32.ofNat (c115 4))]), (a96, Ob Z "com/example/bitstride/bitstride/search/EditDistances" NSE [.ref ra98, .ref fa98, .int (Int32.ofNat (o + len)), .int (Int32.ofNat ((o + len - 1) % 64)), .int (Int32.ofNat (o + d)), .int (Int32.ofNat (o + c115 len))]), (ma85, La Z [(mk0 p2 o), p2]), (ma84, La Z [(mk0 p1 o), p1]), (ma87, La Z [(mk0 p4 o), p4])] := H120.pull 4 rfl
    have H122 : Hp n0 h117 [(a96, Ob Z "com/example/bitstride/bitstride/search/EditDistances" NSE [.ref ra98, .ref fa98, .int (Int32.ofNat (o + len)), .int (Int32.ofNat ((o + len - 1) % 64)), .int (Int32.ofNat (o + d)), .int (Int32.ofNat (o + c115 len))]), (ra98, La Z [r115_0]), (fa98, La Z [f115_0]), (ma86, La Z [(mk0 p3 o), p3]), (a88, Ia Z [(Int32.ofNat (c115 0)), (Int32.ofNat (c115 1)), (Int32.ofNat (c115 2)), (Int32.ofNat (c115 3)), (Int32.ofNat (c115 4))]), (ma85, La Z [(mk0 p2 o), p2]), (ma84, La Z [(mk0 p1 o), p1]), (ma87, La Z [(mk0 p4 o), p4])] := H121.pull 4 rfl
    refine G.callV K hl (wd hw 38 rfl) (wd hw 39 rfl) (wd hw 41 rfl) (wd hw 40 rfl) (wd hw 9 rfl) (wd hw 42 rfl) (by decide) pd_7 (H122.exa (i := 0) rfl) (ct_step1 l Z a0 hw n0 h117 a96 ra98 fa98 (Int32.ofNat (o + len)) (Int32.ofNat ((o + len - 1) % 64)) (Int32.ofNat (o + d)) (Int32.ofNat (o + c115 len)) r115_0 f115_0 ma86 (mk0 p3 o) p3 [(a88, Ia Z [(Int32.ofNat (c115 0)), (Int32.ofNat (c115 1)), (Int32.ofNat (c115 2)), (Int32.ofNat (c115 3)), (Int32.ofNat (c115 4))]), (ma85, La Z [(mk0 p2 o), p2]), (ma84, La Z [(mk0 p1 o), p1]), (ma87, La Z [(mk0 p4 o), p4])] H122) 0 rfl (by decide) (by decide) (by decide) (by decide) rfl rfl [.ref ma86] rfl Dx_219 ?_
    rintro _ h123 ⟨rfl, H123⟩
    obtain ⟨w123, d123⟩ := ed1 (x := p3) hl1 (by omega) w115
    rw [d123] at H123 ⊢
    have b123 := colS_le (mtF p3 o) c115 len
    rw [own_ret ho (by omega) (by omega)]
    obtain ⟨c123, ec123⟩ : ∃ g, g = colS (mtF p3 o) c115 := ⟨_, rfl⟩
    obtain ⟨r123_0, er123_0⟩ : ∃ g, g = wR (mk0 p3 o) r115_0 f115_0 0 0 := ⟨_, rfl⟩
    obtain ⟨f123_0, ef123_0⟩ : ∃ g, g = wF (mk0 p3 o) r115_0 f115_0 0 0 := ⟨_, rfl⟩
    rw [← er123_0, ← ef123_0, ← ec123] at w123
    rw [← er123_0, ← ef123_0, ← ec123] at H123
    rw [← ec123]
    rw [← ec123] at b123
    have l123 : ∀ j, c123 j ≤ j := fun j => by rw [ec123]; exact colS_le _ _ _
    change G k n0 _ h123 _ _ 222 [.val (.int p0), .val (.long p1), .second, .val (.long p2), .second, .val (.long p3), .second, .val (.long p4), .second, .val (.int (Int32.ofNat o)), .val (.int (Int32.ofNat len)), .val (.int (Int32.ofNat d)), .val (.int (Int32.ofNat (o + len))), .val (.int 1), .val (.ref ma84), .val (.ref ma85), .val (.ref ma86), .val (.ref ma87), .val (.ref a88), .val (.ref a96), .val (.long (if d < c107 len then 0 else 1)), .second, .val (.int 1), .val (.long (if d < c115 len then 0 else 1)), .second, .val (.int 1), .unset, .unset, .unset, .unset, .unset, .unset] [.long (if d < c123 len then 0 else 1)]
    refine G.lstore K Dx_222 ([.val (.int p0), .val (.long p1), .second, .val (.long p2), .second, .val (.long p3), .second, .val (.long p4), .second, .val (.int (Int32.ofNat o)), .val (.int (Int32.ofNat len)), .val (.int (Int32.ofNat d)), .val (.int (Int32.ofNat (o + len))), .val (.int 1), .val (.ref ma84), .val (.ref ma85), .val (.ref ma86), .val (.ref ma87), .val (.ref a88), .val (.ref a96), .val (.long (if d < c107 len then 0 else 1)), .second, .val (.int 1), .val (.long (if d < c115 len then 0 else 1)), .second, .val (.int 1), .val (.long (if d < c123 len then 0 else 1)), .second, .unset, .unset, .unset, .unset]) rfl ?_
    refine G.aload K Dx_224 rfl rfl ?_
    refine G.lload K Dx_226 rfl ?_
    refine G.iload K Dx_228 rfl ?_
    have H124 : Hp n0 h123 [(a88, Ia Z [(Int32.ofNat (c115 0)), (Int32.ofNat (c115 1)), (Int32.ofNat (c115 2)), (Int32.ofNat (c115 3)), (Int32.ofNat (c115 4))]), (a96, Ob Z "com/example/bitstride/bitstride/search/EditDistances" NSE [.ref ra98, .ref fa98, .int (Int32.ofNat (o + len)), .int (Int32.ofNat ((o + len - 1) % 64)), .int (Int32.ofNat (o + d)), .int (Int32.ofNat (o + c123 len))]), (ra98, La Z [r123_0]), (fa98, La Z [f123_0]), (ma86, La Z [(mk0 p3 o), p3]), (ma85, La Z [(mk0 p2 o), p2]), (ma84, La Z [(mk0 p1 o), p1]), (ma87, La Z [(mk0 p4 o), p4])] := H123.pull 4 rfl
    refine G.callS K hl (wd hw 43 rfl) (wd hw 44 rfl) (wd hw 2 rfl) (wd hw 45 rfl) (by decide) pd_8 (ct_advance l Z a0 hw n0 h123 a88 p3 o c115 [(a96, Ob Z "com/example/bitstride/bitstride/search/EditDistances" NSE [.ref ra98, .ref fa98, .int (Int32.ofNat (o + len)), .int (Int32.ofNat ((o + len - 1) % 64)), .int (Int32.ofNat (o + d)), .int (Int32.ofNat (o + c123 len))]), (ra98, La Z [r123_0]), (fa98, La Z [f123_0]), (ma86, La Z [(mk0 p3 o), p3]), (ma85, La Z [(mk0 p2 o), p2]), (ma84, La Z [(mk0 p1 o), p1]), (ma87, La Z [(mk0 p4 o), p4])] ho w115.1 l115 H124) 0 rfl (by decide) (by decide) (by decide) (by decide) rfl rfl [.int (Int32.ofNat o), .long p3, .ref a88] rfl Dx_230 ?_
    rintro _ h125 ⟨rfl, H125⟩
    rw [← ec123] at H125
    change G k n0 _ h125 _ _ 233 [.val (.int p0), .val (.long p1), .second, .val (.long p2), .second, .val (.long p3), .second, .val (.long p4), .second, .val (.int (Int32.ofNat o)), .val (.int (Int32.ofNat len)), .val (.int (Int32.ofNat d)), .val (.int (Int32.ofNat (o + len))), .val (.int 1), .val (.ref ma84), .val (.ref ma85), .val (.ref ma86), .val (.ref ma87), .val (.ref a88), .val (.ref a96), .val (.long (if d < c107 len then 0 else 1)), .second, .val (.int 1), .val (.long (if d < c115 len then 0 else 1)), .second, .val (.int 1), .val (.long (if d < c123 len then 0 else 1)), .second, .unset, .unset, .unset, .unset] []
    refine G.lload K Dx_233 rfl ?_
    refine G.aload K Dx_235 rfl rfl ?_
    refine G.iload K Dx_237 rfl ?_
    refine G.aload_i K H125 (i := 0) rfl (own_nneg (by omega)) (by rw [own_nidx (by omega)]; exact own_get5 (by omega)) Dx_239 ?_
    refine G.iload K Dx_240 rfl ?_
    refine G.callS K hl (wd hw 56 rfl) (wd hw 57 rfl) (wd hw 2 rfl) (wd hw 58 rfl) (by decide) pd_9 (ct_expected l Z a0 hw n0 _ (c123 len) d (by have := l123 len; omega) (by omega)) 2 rfl (by decide) (by decide) (by decide) (by decide) rfl rfl [.int (Int32.ofNat d), .int (Int32.ofNat (c123 len))] rfl Dx_242 ?_
    rintro _ _ ⟨rfl, rfl⟩
    change G k n0 _ h125 _ _ 245 [.val (.int p0), .val (.long p1), .second, .val (.long p2), .second, .val (.long p3), .second, .val (.long p4), .second, .val (.int (Int32.ofNat o)), .val (.int (Int32.ofNat len)), .val (.int (Int32.ofNat d)), .val (.int (Int32.ofNat (o + len))), .val (.int 1), .val (.ref ma84), .val (.ref ma85), .val (.ref ma86), .val (.ref ma87), .val (.ref a88), .val (.ref a96), .val (.long (if d < c107 len then 0 else 1)), .second, .val (.int 1), .val (.long (if d < c115 len then 0 else 1)), .second, .val (.int 1), .val (.long (if d < c123 len then 0 else 1)), .second, .unset, .unset, .unset, .unset] [.long (if d < c123 len then 0 else 1), .long (if d < c123 len then 0 else 1)]
    refine G.lcmp_ne K Dx_245 Dx_246 (fun q => absurd rfl q) (fun q126 => ?_)
    refine G.iconst K Dx_249 1 rfl ?_
    refine G.goto K Dx_250 ?_
    refine G.istore K Dx_254 ([.val (.int p0), .val (.long p1), .second, .val (.long p2), .second, .val (.long p3), .second, .val (.long p4), .second, .val (.int (Int32.ofNat o)), .val (.int (Int32.ofNat len)), .val (.int (Int32.ofNat d)), .val (.int (Int32.ofNat (o + len))), .val (.int 1), .val (.ref ma84), .val (.ref ma85), .val (.ref ma86), .val (.ref ma87), .val (.ref a88), .val (.ref a96), .val (.long (if d < c107 len then 0 else 1)), .second, .val (.int 1), .val (.long (if d < c115 len then 0 else 1)), .second, .val (.int 1), .val (.long (if d < c123 len then 0 else 1)), .second, .val (.int 1), .unset, .unset, .unset]) rfl ?_
    refine G.aload K Dx_256 rfl rfl ?_
    refine G.aload K Dx_258 rfl rfl ?_
    have H127 : Hp n0 h125 [(ma87, La Z [(mk0 p4 o), p4]), (a88, Ia Z [(Int32.ofNat (c123 0)), (Int32.ofNat (c123 1)), (Int32.ofNat (c123 2)), (Int32.ofNat (c123 3)), (Int32.ofNat (c123 4))]), (a96, Ob Z "com/example/bitstride/bitstride/search/EditDistances" NSE [.ref ra98, .ref fa98, .int (Int32.ofNat (o + len)), .int (Int32.ofNat ((o + len - 1) % 64)), .int (Int32.ofNat (o + d)), .int (Int32.ofNat (o + c123 len))]), (ra98, La Z [r123_0]), (fa98, La Z [f123_0]), (ma86, La Z [(mk0 p3 o), p3]), (ma85, La Z [(mk0 p2 o), p2]), (ma84, La Z [(mk0 p1 o), p1])] := H125.pull 7 rfl
    have H128 : Hp n0 h125 [(fa98, La Z [f123_0]), (ma87, La Z [(mk0 p4 o), p4]), (a88, Ia Z [(Int32.ofNat (c123 0)), (Int32.ofNat (c123 1)), (Int32.ofNat (c123 2)), (Int32.ofNat (c123 3)), (Int32.ofNat (c123 4))]), (a96, Ob Z "com/example/bitstride/bitstride/search/EditDistances" NSE [.ref ra98, .ref fa98, .int (Int32.ofNat (o + len)), .int (Int32.ofNat ((o + len - 1) % 64)), .int (Int32.ofNat (o + d)), .int (Int32.ofNat (o + c123 len))]), (ra98, La Z [r123_0]), (ma86, La Z [(mk0 p3 o), p3]), (ma85, La Z [(mk0 p2 o), p2]), (ma84, La Z [(mk0 p1 o), p1])] := H127.pull 4 rfl
    have H129 : Hp n0 h125 [(ra98, La Z [r123_0]), (fa98, La Z [f123_0]), (ma87, La Z [(mk0 p4 o), p4]), (a88, Ia Z [(Int32.ofNat (c123 0)), (Int32.ofNat (c123 1)), (Int32.ofNat (c123 2)), (Int32.ofNat (c123 3)), (Int32.ofNat (c123 4))]), (a96, Ob Z "com/example/bitstride/bitstride/search/EditDistances" NSE [.ref ra98, .ref fa98, .int (Int32.ofNat (o + len)), .int (Int32.ofNat ((o + len - 1) % 64)), .int (Int32.ofNat (o + d)), .int (Int32.ofNat (o + c123 len))]), (ma86, La Z [(mk0 p3 o), p3]), (ma85, La Z [(mk0 p2 o), p2]), (ma84, La Z [(mk0 p1 o), p1])] := H128.pull 4 rfl
    have H130 : Hp n0 h125 [(a96, Ob Z "com/example/bitstride/bitstride/search/EditDistances" NSE [.ref ra98, .ref fa98, .int (Int32.ofNat (o + len)), .int (Int32.ofNat ((o + len - 1) % 64)), .int (Int32.ofNat (o + d)), .int (Int32.ofNat (o + c123 len))]), (ra98, La Z [r123_0]), (fa98, La Z [f123_0]), (ma87, La Z [(mk0 p4 o), p4]), (a88, Ia Z [(Int32.ofNat (c123 0)), (Int32.ofNat (c123 1)), (Int32.ofNat (c123 2)), (Int32.ofNat (c123 3)), (Int32.ofNat (c123 4))]), (ma86, La Z [(mk0 p3 o), p3]), (ma85, La Z [(mk0 p2 o), p2]), (ma84, La Z [(mk0 p1 o), p1])] := H129.pull 4 rfl
    refine G.callV K hl (wd hw 38 rfl) (wd hw 39 rfl) (wd hw 41 rfl) (wd hw 40 rfl) (wd hw 9 rfl) (wd hw 42 rfl) (by decide) pd_7 (H130.exa (i := 0) rfl) (ct_step1 l Z a0 hw n0 h125 a96 ra98 fa98 (Int32.ofNat (o + len)) (Int32.ofNat ((o + len - 1) % 64)) (Int32.ofNat (o + d)) (Int32.ofNat (o + c123 len)) r123_0 f123_0 ma87 (mk0 p4 o) p4 [(a88, Ia Z [(Int32.ofNat (c123 0)), (Int32.ofNat (c123 1)), (Int32.ofNat (c123 2)), (Int32.ofNat (c123 3)), (Int32.ofNat (c123 4))]), (ma86, La Z [(mk0 p3 o), p3]), (ma85, La Z [(mk0 p2 o), p2]), (ma84, La Z [(mk0 p1 o), p1])] H130) 0 rfl (by decide) (by decide) (by decide) (by decide) rfl rfl [.ref ma87] rfl Dx_260 ?_
    rintro _ h131 ⟨rfl, H131⟩
    obtain ⟨w131, d131⟩ := ed1 (x := p4) hl1 (by omega) w123
    rw [d131] at H131 ⊢
    have b131 := colS_le (mtF p4 o) c123 len
    rw [own_ret ho (by omega) (by omega)]
    obtain ⟨c131, ec131⟩ : ∃ g, g = colS (mtF p4 o) c123 := ⟨_, rfl⟩
    obtain ⟨r131_0, er131_0⟩ : ∃ g, g = wR (mk0 p4 o) r123_0 f123_0 0 0 := ⟨_, rfl⟩
    obtain ⟨f131_0, ef131_0⟩ : ∃ g, g = wF (mk0 p4 o) r123_0 f123_0 0 0 := ⟨_, rfl⟩
    rw [← er131_0, ← ef131_0, ← ec131] at w131
    rw [← er131_0, ← ef131_0, ← ec131] at H131
    rw [← ec131]
    rw [← ec131] at b131
    have l131 : ∀ j, c131 j ≤ j := fun j => by rw [ec131]; exact colS_le _ _ _
    change G k n0 _ h131 _ _ 263 [.val (.int p0), .val (.long p1), .second, .val (.long p2), .second, .val (.long p3), .second, .val (.long p4), .second, .val (.int (Int32.ofNat o)), .val (.int (Int32.ofNat len)), .val (.int (Int32.ofNat d)), .val (.int (Int32.ofNat (o + len))), .val (.int 1), .val (.ref ma84), .val (.ref ma85), .val (.ref ma86), .val (.ref ma87), .val (.ref a88), .val (.ref a96), .val (.long (if d < c107 len then 0 else 1)), .second, .val (.int 1), .val (.long (if d < c115 len then 0 else 1)), .second, .val (.int 1), .val (.long (if d < c123 len then 0 else 1)), .second, .val (.int 1), .unset, .unset, .unset] [.long (if d < c131 len then 0 else 1)]
    refine G.lstore K Dx_263 ([.val (.int p0), .val (.long p1), .second, .val (.long p2), .second, .val (.long p3), .second, .val (.long p4), .second, .val (.int (Int32.ofNat o)), .val (.int (Int32.ofNat len)), .val (.int (Int32.ofNat d)), .val (.int (Int32.ofNat (o + len))), .val (.int 1), .val (.ref ma84), .val (.ref ma85), .val (.ref ma86), .val (.ref ma87), .val (.ref a88), .val (.ref a96), .val (.long (if d < c107 len then 0 else 1)), .second, .val (.int 1), .val (.long (if d < c115 len then 0 else 1)), .second, .val (.int 1), .val (.long (if d < c123 len then 0 else 1)), .second, .val (.int 1), .val (.long (if d < c131 len then 0 else 1)), .second, .unset]) rfl ?_
    refine G.aload K Dx_265 rfl rfl ?_
    refine G.lload K Dx_267 rfl ?_
    refine G.iload K Dx_269 rfl ?_
    have H132 : Hp n0 h131 [(a88, Ia Z [(Int32.ofNat (c123 0)), (Int32.ofNat (c123 1)), (Int32.ofNat (c123 2)), (Int32.ofNat (c123 3)), (Int32.ofNat (c123 4))]), (a96, Ob Z "com/example/bitstride/bitstride/search/EditDistances" NSE [.ref ra98, .ref fa98, .int (Int32.ofNat (o + len)), .int (Int32.ofNat ((o + len - 1) % 64)), .int (Int32.ofNat (o + d)), .int (Int32.ofNat (o + c131 len))]), (ra98, La Z [r131_0]), (fa98, La Z [f131_0]), (ma87, La Z [(mk0 p4 o), p4]), (ma86, La Z [(mk0 p3 o), p3]), (ma85, La Z [(mk0 p2 o), p2]), (ma84, La Z [(mk0 p1 o), p1])] := H131.pull 4 rfl
    refine G.callS K hl (wd hw 43 rfl) (wd hw 44 rfl) (wd hw 2 rfl) (wd hw 45 rfl) (by decide) pd_8 (ct_advance l Z a0 hw n0 h131 a88 p4 o c123 [(a96, Ob Z "com/example/bitstride/bitstride/search/EditDistances" NSE [.ref ra98, .ref fa98, .int (Int32.ofNat (o + len)), .int (Int32.ofNat ((o + len - 1) % 64)), .int (Int32.ofNat (o + d)), .int (Int32.ofNat (o + c131 len))]), (ra98, La Z [r131_0]), (fa98, La Z [f131_0]), (ma87, La Z [(mk0 p4 o), p4]), (ma86, La Z [(mk0 p3 o), p3]), (ma85, La Z [(mk0 p2 o), p2]), (ma84, La Z [(mk0 p1 o), p1])] ho w123.1 l123 H132) 0 rfl (by decide) (by decide) (by decide) (by decide) rfl rfl [.int (Int32.ofNat o), .long p4, .ref a88] rfl Dx_271 ?_
    rintro _ h133 ⟨rfl, H133⟩
    rw [← ec131] at H133
    change G k n0 _ h133 _ _ 274 [.val (.int p0), .val (.long p1), .second, .val (.long p2), .second, .val (.long p3), .second, .val (.long p4), .second, .val (.int (Int32.ofNat o)), .val (.int (Int32.ofNat len)), .val (.int (Int32.ofNat d)), .val (.int (Int32.ofNat (o + len))), .val (.int 1), .val (.ref ma84), .val (.ref ma85), .val (.ref ma86), .val (.ref ma87), .val (.ref a88), .val (.ref a96), .val (.long (if d < c107 len then 0 else 1)), .second, .val (.int 1), .val (.long (if d < c115 len then 0 else 1)), .second, .val (.int 1), .val (.long (if d < c123 len then 0 else 1)), .second, .val (.int 1), .val (.long (if d < c131 len then 0 else 1)), .second, .unset] []
    refine G.lload K Dx_274 rfl ?_
    refine G.aload K Dx_276 rfl rfl ?_
    refine G.iload K Dx_278 rfl ?_
    refine G.aload_i K H133 (i := 0) rfl (own_nneg (by omega)) (by rw [own_nidx (by omega)]; exact own_get5 (by omega)) Dx_280 ?_
    refine G.iload K Dx_281 rfl ?_
    refine G.callS K hl (wd hw 56 rfl) (wd hw 57 rfl) (wd hw 2 rfl) (wd hw 58 rfl) (by decide) pd_9 (ct_expected l Z a0 hw n0 _ (c131 len) d (by have := l131 len; omega) (by omega)) 2 rfl (by decide) (by decide) (by decide) (by decide) rfl rfl [.int (Int32.ofNat d), .int (Int32.ofNat (c131 len))] rfl Dx_283 ?_
    rintro _ _ ⟨rfl, rfl⟩
    change G k n0 _ h133 _ _ 286 [.val (.int p0), .val (.long p1), .second, .val (.long p2), .second, .val (.long p3), .second, .val (.long p4), .second, .val (.int (Int32.ofNat o)), .val (.int (Int32.ofNat len)), .val (.int (Int32.ofNat d)), .val (.int (Int32.ofNat (o + len))), .val (.int 1), .val (.ref ma84), .val (.ref ma85), .val (.ref ma86), .val (.ref ma87), .val (.ref a88), .val (.ref a96), .val (.long (if d < c107 len then 0 else 1)), .second, .val (.int 1), .val (.long (if d < c115 len then 0 else 1)), .second, .val (.int 1), .val (.long (if d < c123 len then 0 else 1)), .second, .val (.int 1), .val (.long (if d < c131 len then 0 else 1)), .second, .unset] [.long (if d < c131 len then 0 else 1), .long (if d < c131 len then 0 else 1)]
    refine G.lcmp_ne K Dx_286 Dx_287 (fun q => absurd rfl q) (fun q134 => ?_)
    refine G.iconst K Dx_290 1 rfl ?_
    refine G.goto K Dx_291 ?_
    refine G.istore K Dx_295 ([.val (.int p0), .val (.long p1), .second, .val (.long p2), .second, .val (.long p3), .second, .val (.long p4), .second, .val (.int (Int32.ofNat o)), .val (.int (Int32.ofNat len)), .val (.int (Int32.ofNat d)), .val (.int (Int32.ofNat (o + len))), .val (.int 1), .val (.ref ma84), .val (.ref ma85), .val (.ref ma86), .val (.ref ma87), .val (.ref a88), .val (.ref a96), .val (.long (if d < c107 len then 0 else 1)), .second, .val (.int 1), .val (.long (if d < c115 len then 0 else 1)), .second, .val (.int 1), .val (.long (if d < c123 len then 0 else 1)), .second, .val (.int 1), .val (.long (if d < c131 len then 0 else 1)), .second, .val (.int 1)]) rfl ?_
    refine G.iload K Dx_297 rfl ?_
    refine G.if_eq K Dx_299 (fun q => absurd q (by decide)) (fun _ => ?_)
    refine G.iload K Dx_302 rfl ?_
    refine G.if_eq K Dx_304 (fun q => absurd q (by decide)) (fun _ => ?_)
    refine G.iload K Dx_307 rfl ?_
    refine G.if_eq K Dx_309 (fun q => absurd q (by decide)) (fun _ => ?_)
    refine G.iload K Dx_312 rfl ?_
    refine G.if_eq K Dx_314 (fun q => absurd q (by decide)) (fun _ => ?_)
    refine G.iconst K Dx_317 1 rfl ?_
    refine G.goto K Dx_318 ?_
    refine G.ret_bool K Dx_322 ?_
    exact rfl
  · have hW : 64 < o + len := (own_nlt (i := 64) (by decide) (by omega)).mp q83
    refine G.iconst K Dx_41 2 rfl ?_
    refine G.goto K Dx_42 ?_
    refine G.istore K Dx_46 ([.val (.int p0), .val (.long p1), .second, .val (.long p2), .second, .val (.long p3), .second, .val (.long p4), .second, .val (.int (Int32.ofNat o)), .val (.int (Int32.ofNat len)), .val (.int (Int32.ofNat d)), .val (.int (Int32.ofNat (o + len))), .val (.int 2), .unset, .unset, .unset, .unset, .unset, .unset, .unset, .unset, .unset, .unset, .unset, .unset, .unset, .unset, .unset, .unset, .unset, .unset]) rfl ?_
    refine G.lloadN K Dx_48 rfl ?_
    refine G.iload K Dx_49 rfl ?_
    refine G.callS K hl (wd hw 0 rfl) (wd hw 1 rfl) (wd hw 2 rfl) (wd hw 3 rfl) (by decide) pd_4 (ct_mask l Z a0 hw n0 h p1 o [] (Hp.nil (n0 := n0) (h := h))) 0 rfl (by decide) (by decide) (by decide) (by decide) rfl rfl [.int (Int32.ofNat o), .long p1] rfl Dx_51 ?_
    rintro _ h139 ⟨ma139, rfl, H139⟩
    change Hp n0 h139 [(ma139, La Z [(mk0 p1 o), p1])] at H139
    change G k n0 _ h139 _ _ 54 [.val (.int p0), .val (.long p1), .second, .val (.long p2), .second, .val (.long p3), .second, .val (.long p4), .second, .val (.int (Int32.ofNat o)), .val (.int (Int32.ofNat len)), .val (.int (Int32.ofNat d)), .val (.int (Int32.ofNat (o + len))), .val (.int 2), .unset, .unset, .unset, .unset, .unset, .unset, .unset, .unset, .unset, .unset, .unset, .unset, .unset, .unset, .unset, .unset, .unset, .unset] [.ref ma139]
    refine G.astore K Dx_54 rfl ([.val (.int p0), .val (.long p1), .second, .val (.long p2), .second, .val (.long p3), .second, .val (.long p4), .second, .val (.int (Int32.ofNat o)), .val (.int (Int32.ofNat len)), .val (.int (Int32.ofNat d)), .val (.int (Int32.ofNat (o + len))), .val (.int 2), .val (.ref ma139), .unset, .unset, .unset, .unset, .unset, .unset, .unset, .unset, .unset, .unset, .unset, .unset, .unset, .unset, .unset, .unset, .unset]) rfl ?_
    refine G.lloadN K Dx_56 rfl ?_
    refine G.iload K Dx_57 rfl ?_
    refine G.callS K hl (wd hw 0 rfl) (wd hw 1 rfl) (wd hw 2 rfl) (wd hw 3 rfl) (by decide) pd_4 (ct_mask l Z a0 hw n0 h139 p2 o [(ma139, La Z [(mk0 p1 o), p1])] H139) 0 rfl (by decide) (by decide) (by decide) (by decide) rfl rfl [.int (Int32.ofNat o), .long p2] rfl Dx_59 ?_
    rintro _ h140 ⟨ma140, rfl, H140⟩
    change Hp n0 h140 [(ma140, La Z [(mk0 p2 o), p2]), (ma139, La Z [(mk0 p1 o), p1])] at H140
    change G k n0 _ h140 _ _ 62 [.val (.int p0), .val (.long p1), .second, .val (.long p2), .second, .val (.long p3), .second, .val (.long p4), .second, .val (.int (Int32.ofNat o)), .val (.int (Int32.ofNat len)), .val (.int (Int32.ofNat d)), .val (.int (Int32.ofNat (o + len))), .val (.int 2), .val (.ref ma139), .unset, .unset, .unset, .unset, .unset, .unset, .unset, .unset, .unset, .unset, .unset, .unset, .unset, .unset, .unset, .unset, .unset] [.ref ma140]
    refine G.astore K Dx_62 rfl ([.val (.int p0), .val (.long p1), .second, .val (.long p2), .second, .val (.long p3), .second, .val (.long p4), .second, .val (.int (Int32.ofNat o)), .val (.int (Int32.ofNat len)), .val (.int (Int32.ofNat d)), .val (.int (Int32.ofNat (o + len))), .val (.int 2), .val (.ref ma139), .val (.ref ma140), .unset, .unset, .unset, .unset, .unset, .unset, .unset, .unset, .unset, .unset, .unset, .unset, .unset, .unset, .unset, .unset]) rfl ?_
    refine G.lload K Dx_64 rfl ?_
    refine G.iload K Dx_66 rfl ?_
    refine G.callS K hl (wd hw 0 rfl) (wd hw 1 rfl) (wd hw 2 rfl) (wd hw 3 rfl) (by decide) pd_4 (ct_mask l Z a0 hw n0 h140 p3 o [(ma140, La Z [(mk0 p2 o), p2]), (ma139, La Z [(mk0 p1 o), p1])] H140) 0 rfl (by decide) (by decide) (by decide) (by decide) rfl rfl [.int (Int32.ofNat o), .long p3] rfl Dx_68 ?_
    rintro _ h141 ⟨ma141, rfl, H141⟩
    change Hp n0 h141 [(ma141, La Z [(mk0 p3 o), p3]), (ma140, La Z [(mk0 p2 o), p2]), (ma139, La Z [(mk0 p1 o), p1])] at H141
    change G k n0 _ h141 _ _ 71 [.val (.int p0), .val (.long p1), .second, .val (.long p2), .second, .val (.long p3), .second, .val (.long p4), .second, .val (.int (Int32.ofNat o)), .val (.int (Int32.ofNat len)), .val (.int (Int32.ofNat d)), .val (.int (Int32.ofNat (o + len))), .val (.int 2), .val (.ref ma139), .val (.ref ma140), .unset, .unset, .unset, .unset, .unset, .unset, .unset, .unset, .unset, .unset, .unset, .unset, .unset, .unset, .unset, .unset] [.ref ma141]
    refine G.astore K Dx_71 rfl ([.val (.int p0), .val (.long p1), .second, .val (.long p2), .second, .val (.long p3), .second, .val (.long p4), .second, .val (.int (Int32.ofNat o)), .val (.int (Int32.ofNat len)), .val (.int (Int32.ofNat d)), .val (.int (Int32.ofNat (o + len))), .val (.int 2), .val (.ref ma139), .val (.ref ma140), .val (.ref ma141), .unset, .unset, .unset, .unset, .unset, .unset, .unset, .unset, .unset, .unset, .unset, .unset, .unset, .unset, .unset]) rfl ?_
    refine G.lload K Dx_73 rfl ?_
    refine G.iload K Dx_75 rfl ?_
    refine G.callS K hl (wd hw 0 rfl) (wd hw 1 rfl) (wd hw 2 rfl) (wd hw 3 rfl) (by decide) pd_4 (ct_mask l Z a0 hw n0 h141 p4 o [(ma141, La Z [(mk0 p3 o), p3]), (ma140, La Z [(mk0 p2 o), p2]), (ma139, La Z [(mk0 p1 o), p1])] H141) 0 rfl (by decide) (by decide) (by decide) (by decide) rfl rfl [.int (Int32.ofNat o), .long p4] rfl Dx_77 ?_
    rintro _ h142 ⟨ma142, rfl, H142⟩
    change Hp n0 h142 [(ma142, La Z [(mk0 p4 o), p4]), (ma141, La Z [(mk0 p3 o), p3]), (ma140, La Z [(mk0 p2 o), p2]), (ma139, La Z [(mk0 p1 o), p1])] at H142
    change G k n0 _ h142 _ _ 80 [.val (.int p0), .val (.long p1), .second, .val (.long p2), .second, .val (.long p3), .second, .val (.long p4), .second, .val (.int (Int32.ofNat o)), .val (.int (Int32.ofNat len)), .val (.int (Int32.ofNat d)), .val (.int (Int32.ofNat (o + len))), .val (.int 2), .val (.ref ma139), .val (.ref ma140), .val (.ref ma141), .unset, .unset, .unset, .unset, .unset, .unset, .unset, .unset, .unset, .unset, .unset, .unset, .unset, .unset, .unset] [.ref ma142]
    refine G.astore K Dx_80 rfl ([.val (.int p0), .val (.long p1), .second, .val (.long p2), .second, .val (.long p3), .second, .val (.long p4), .second, .val (.int (Int32.ofNat o)), .val (.int (Int32.ofNat len)), .val (.int (Int32.ofNat d)), .val (.int (Int32.ofNat (o + len))), .val (.int 2), .val (.ref ma139), .val (.ref ma140), .val (.ref ma141), .val (.ref ma142), .unset, .unset, .unset, .unset, .unset, .unset, .unset, .unset, .unset, .unset, .unset, .unset, .unset, .unset]) rfl ?_
    refine G.iconst K Dx_82 5 rfl ?_
    refine G.newarr_i K (wd hw 6 rfl) H142 (by decide) 5 (by decide) (by decide) (by decide) (by decide) Dx_83 ?_
    intro a143 h144 H144
    change Hp n0 h144 [(a143, Ia Z [0, 0, 0, 0, 0]), (ma142, La Z [(mk0 p4 o), p4]), (ma141, La Z [(mk0 p3 o), p3]), (ma140, La Z [(mk0 p2 o), p2]), (ma139, La Z [(mk0 p1 o), p1])] at H144
    refine G.astore K Dx_85 rfl ([.val (.int p0), .val (.long p1), .second, .val (.long p2), .second, .val (.long p3), .second, .val (.long p4), .second, .val (.int (Int32.ofNat o)), .val (.int (Int32.ofNat len)), .val (.int (Int32.ofNat d)), .val (.int (Int32.ofNat (o + len))), .val (.int 2), .val (.ref ma139), .val (.ref ma140), .val (.ref ma141), .val (.ref ma142), .val (.ref a143), .unset, .unset, .unset, .unset, .unset, .unset, .unset, .unset, .unset, .unset, .unset, .unset, .unset]) rfl ?_
    refine G.aload K Dx_87 rfl rfl ?_
    refine G.iconst K Dx_89 0 rfl ?_
    refine G.iconst K Dx_90 0 rfl ?_
    refine G.astore_i K H144 (i := 0) rfl (by decide) (Nat.le_of_ble_eq_true rfl) Dx_91 ?_
    intro h145 H145
    change Hp n0 h145 [(a143, Ia Z [0, 0, 0, 0, 0]), (ma142, La Z [(mk0 p4 o), p4]), (ma141, La Z [(mk0 p3 o), p3]), (ma140, La Z [(mk0 p2 o), p2]), (ma139, La Z [(mk0 p1 o), p1])] at H145
    refine G.aload K Dx_92 rfl rfl ?_
    refine G.iconst K Dx_94 1 rfl ?_
    refine G.iconst K Dx_95 1 rfl ?_
    refine G.astore_i K H145 (i := 0) rfl (by decide) (Nat.le_of_ble_eq_true rfl) Dx_96 ?_
    intro h146 H146
    change Hp n0 h146 [(a143, Ia Z [0, 1, 0, 0, 0]), (ma142, La Z [(mk0 p4 o), p4]), (ma141, La Z [(mk0 p3 o), p3]), (ma140, La Z [(mk0 p2 o), p2]), (ma139, La Z [(mk0 p1 o), p1])] at H146
    refine G.aload K Dx_97 rfl rfl ?_
    refine G.iconst K Dx_99 2 rfl ?_
    refine G.iconst K Dx_100 2 rfl ?_
    refine G.astore_i K H146 (i := 0) rfl (by decide) (Nat.le_of_ble_eq_true rfl) Dx_101 ?_
    intro h147 H147
    change Hp n0 h147 [(a143, Ia Z [0, 1, 2, 0, 0]), (ma142, La Z [(mk0 p4 o), p4]), (ma141, La Z [(mk0 p3 o), p3]), (ma140, La Z [(mk0 p2 o), p2]), (ma139, La Z [(mk0 p1 o), p1])] at H147
    refine G.aload K Dx_102 rfl rfl ?_
    refine G.iconst K Dx_104 3 rfl ?_
    refine G.iconst K Dx_105 3 rfl ?_
    refine G.astore_i K H147 (i := 0) rfl (by decide) (Nat.le_of_ble_eq_true rfl) Dx_106 ?_
    intro h148 H148
    change Hp n0 h148 [(a143, Ia Z [0, 1, 2, 3, 0]), (ma142, La Z [(mk0 p4 o), p4]), (ma141, La Z [(mk0 p3 o), p3]), (ma140, La Z [(mk0 p2 o), p2]), (ma139, La Z [(mk0 p1 o), p1])] at H148
    refine G.aload K Dx_107 rfl rfl ?_
    refine G.iconst K Dx_109 4 rfl ?_
    refine G.iconst K Dx_110 4 rfl ?_
    refine G.astore_i K H148 (i := 0) rfl (by decide) (Nat.le_of_ble_eq_true rfl) Dx_111 ?_
    intro h149 H149
    change Hp n0 h149 [(a143, Ia Z [0, 1, 2, 3, 4]), (ma142, La Z [(mk0 p4 o), p4]), (ma141, La Z [(mk0 p3 o), p3]), (ma140, La Z [(mk0 p2 o), p2]), (ma139, La Z [(mk0 p1 o), p1])] at H149
    obtain ⟨c0, ec0⟩ : ∃ c : Nat → Nat, c = fun j => j := ⟨_, rfl⟩
    have H150 : Hp n0 h149 [(a143, Ia Z [(Int32.ofNat (c0 0)), (Int32.ofNat (c0 1)), (Int32.ofNat (c0 2)), (Int32.ofNat (c0 3)), (Int32.ofNat (c0 4))]), (ma142, La Z [(mk0 p4 o), p4]), (ma141, La Z [(mk0 p3 o), p3]), (ma140, La Z [(mk0 p2 o), p2]), (ma139, La Z [(mk0 p1 o), p1])] := by rw [ec0]; exact H149
    refine G.new K (wd hw 7 rfl) (wd hw 8 rfl) (wd hw 9 rfl) (cf_NSE hw) (vs := [.null, .null, .int 0, .int 0, .int 0, .int 0]) (by rfl) H150 (by decide) (by decide) Dx_112 ?_
    intro a151 h152 H152
    change Hp n0 h152 [(a151, Ob Z "com/example/bitstride/bitstride/search/EditDistances" NSE [.null, .null, .int 0, .int 0, .int 0, .int 0]), (a143, Ia Z [(Int32.ofNat (c0 0)), (Int32.ofNat (c0 1)), (Int32.ofNat (c0 2)), (Int32.ofNat (c0 3)), (Int32.ofNat (c0 4))]), (ma142, La Z [(mk0 p4 o), p4]), (ma141, La Z [(mk0 p3 o), p3]), (ma140, La Z [(mk0 p2 o), p2]), (ma139, La Z [(mk0 p1 o), p1])] at H152
    refine G.dup K Dx_115 rfl ?_
    refine G.iload K Dx_116 rfl ?_
    refine G.iload K Dx_118 rfl ?_
    refine G.iload K Dx_120 rfl ?_
    refine G.iload K Dx_122 rfl ?_
    refine G.iadd K Dx_124 ?_
    rw [own_nadd]
    refine G.callI K hl rfl (wd hw 10 rfl) (wd hw 11 rfl) (wd hw 9 rfl) (wd hw 12 rfl) (by decide) pd_5 (ct_init2 l Z a0 hw n0 h152 a151 (o + len) (Int32.ofNat (o + d)) [(a143, Ia Z [(Int32.ofNat (c0 0)), (Int32.ofNat (c0 1)), (Int32.ofNat (c0 2)), (Int32.ofNat (c0 3)), (Int32.ofNat (c0 4))]), (ma142, La Z [(mk0 p4 o), p4]), (ma141, La Z [(mk0 p3 o), p3]), (ma140, La Z [(mk0 p2 o), p2]), (ma139, La Z [(mk0 p1 o), p1])] (by omega) (by omega) H152) 1 rfl (by decide) (by decide) (by decide) (by decide) rfl rfl [.int (Int32.ofNat (o + d)), .int (Int32.ofNat (o + len)), .int 2] rfl Dx_125 ?_
    rintro _ h153 ⟨rfl, ra153, fa153, H153⟩
    change G k n0 _ h153 _ _ 128 [.val (.int p0), .val (.long p1), .second, .val (.long p2), .second, .val (.long p3), .second, .val (.long p4), .second, .val (.int (Int32.ofNat o)), .val (.int (Int32.ofNat len)), .val (.int (Int32.ofNat d)), .val (.int (Int32.ofNat (o + len))), .val (.int 2), .val (.ref ma139), .val (.ref ma140), .val (.ref ma141), .val (.ref ma142), .val (.ref a143), .unset, .unset, .unset, .unset, .unset, .unset, .unset, .unset, .unset, .unset, .unset, .unset, .unset] [.ref a151]
    refine G.astore K Dx_128 rfl ([.val (.int p0), .val (.long p1), .second, .val (.long p2), .second, .val (.long p3), .second, .val (.long p4), .second, .val (.int (Int32.ofNat o)), .val (.int (Int32.ofNat len)), .val (.int (Int32.ofNat d)), .val (.int (Int32.ofNat (o + len))), .val (.int 2), .val (.ref ma139), .val (.ref ma140), .val (.ref ma141), .val (.ref ma142), .val (.ref a143), .val (.ref a151), .unset, .unset, .unset, .unset, .unset, .unset, .unset, .unset, .unset, .unset, .unset, .unset]) rfl ?_
    refine G.aload K Dx_130 rfl rfl ?_
    have H154 : Hp n0 h153 [(fa153, La Z [0, 0]), (a151, Ob Z "com/example/bitstride/bitstride/search/EditDistances" NSE [.ref ra153, .ref fa153, .int (Int32.ofNat (o + len)), .int (Int32.ofNat ((o + len - 1) % 64)), .int (Int32.ofNat (o + d)), .int 0]), (ra153, La Z [0, 0]), (a143, Ia Z [(Int32.ofNat (c0 0)), (Int32.ofNat (c0 1)), (Int32.ofNat (c0 2)), (Int32.ofNat (c0 3)), (Int32.ofNat (c0 4))]), (ma142, La Z [(mk0 p4 o), p4]), (ma141, La Z [(mk0 p3 o), p3]), (ma140, La Z [(mk0 p2 o), p2]), (ma139, La Z [(mk0 p1 o), p1])] := H153.pull 2 rfl
    have H155 : Hp n0 h153 [(ra153, La Z [0, 0]), (fa153, La Z [0, 0]), (a151, Ob Z "com/example/bitstride/bitstride/search/EditDistances" NSE [.ref ra153, .ref fa153, .int (Int32.ofNat (o + len)), .int (Int32.ofNat ((o + len - 1) % 64)), .int (Int32.ofNat (o + d)), .int 0]), (a143, Ia Z [(Int32.ofNat (c0 0)), (Int32.ofNat (c0 1)), (Int32.ofNat (c0 2)), (Int32.ofNat (c0 3)), (Int32.ofNat (c0 4))]), (ma142, La Z [(mk0 p4 o), p4]), (ma141, La Z [(mk0 p3 o), p3]), (ma140, La Z [(mk0 p2 o), p2]), (ma139, La Z [(mk0 p1 o), p1])] := H154.pull 2 rfl
    have H156 : Hp n0 h153 [(a151, Ob Z "com/example/bitstride/bitstride/search/EditDistances" NSE [.ref ra153, .ref fa153, .int (Int32.ofNat (o + len)), .int (Int32.ofNat ((o + len - 1) % 64)), .int (Int32.ofNat (o + d)), .int 0]), (ra153, La Z [0, 0]), (fa153, La Z [0, 0]), (a143, Ia Z [(Int32.ofNat (c0 0)), (Int32.ofNat (c0 1)), (Int32.ofNat (c0 2)), (Int32.ofNat (c0 3)), (Int32.ofNat (c0 4))]), (ma142, La Z [(mk0 p4 o), p4]), (ma141, La Z [(mk0 p3 o), p3]), (ma140, La Z [(mk0 p2 o), p2]), (ma139, La Z [(mk0 p1 o), p1])] := H155.pull 2 rfl
    refine G.callV K hl (wd hw 26 rfl) (wd hw 27 rfl) (wd hw 29 rfl) (wd hw 28 rfl) (wd hw 9 rfl) (wd hw 30 rfl) (by decide) pd_6 (H156.exa (i := 0) rfl) (ct_restart2 l Z a0 hw n0 h153 a151 ra153 fa153 (Int32.ofNat (o + len)) (Int32.ofNat ((o + len - 1) % 64)) (Int32.ofNat (o + d))  0 0 0 0 0 [(a143, Ia Z [(Int32.ofNat (c0 0)), (Int32.ofNat (c0 1)), (Int32.ofNat (c0 2)), (Int32.ofNat (c0 3)), (Int32.ofNat (c0 4))]), (ma142, La Z [(mk0 p4 o), p4]), (ma141, La Z [(mk0 p3 o), p3]), (ma140, La Z [(mk0 p2 o), p2]), (ma139, La Z [(mk0 p1 o), p1])] H156) 0 rfl (by decide) (by decide) (by decide) (by decide) rfl rfl [] rfl Dx_132 ?_
    rintro _ h157 ⟨rfl, H157⟩
    have w157 : Win o len (glu (-1) (-1)) (glu 0 0) c0 := by rw [ec0]; exact ed_start2 (by omega)
    replace H157 : Hp n0 h157 [(a151, Ob Z "com/example/bitstride/bitstride/search/EditDistances" NSE [.ref ra153, .ref fa153, .int (Int32.ofNat (o + len)), .int (Int32.ofNat ((o + len - 1) % 64)), .int (Int32.ofNat (o + d)), .int (Int32.ofNat (o + c0 len))]), (ra153, La Z [(-1), (-1)]), (fa153, La Z [0, 0]), (a143, Ia Z [(Int32.ofNat (c0 0)), (Int32.ofNat (c0 1)), (Int32.ofNat (c0 2)), (Int32.ofNat (c0 3)), (Int32.ofNat (c0 4))]), (ma142, La Z [(mk0 p4 o), p4]), (ma141, La Z [(mk0 p3 o), p3]), (ma140, La Z [(mk0 p2 o), p2]), (ma139, La Z [(mk0 p1 o), p1])] := by rw [show c0 len = len from by rw [ec0]]; exact H157
    have l157 : ∀ j, c0 j ≤ j := fun j => by rw [ec0]; exact Nat.le_refl _
    change G k n0 _ h157 _ _ 135 [.val (.int p0), .val (.long p1), .second, .val (.long p2), .second, .val (.long p3), .second, .val (.long p4), .second, .val (.int (Int32.ofNat o)), .val (.int (Int32.ofNat len)), .val (.int (Int32.ofNat d)), .val (.int (Int32.ofNat (o + len))), .val (.int 2), .val (.ref ma139), .val (.ref ma140), .val (.ref ma141), .val (.ref ma142), .val (.ref a143), .val (.ref a151), .unset, .unset, .unset, .unset, .unset, .unset, .unset, .unset, .unset, .unset, .unset, .unset] []
    refine G.aload K Dx_135 rfl rfl ?_
    refine G.aload K Dx_137 rfl rfl ?_
    have H158 : Hp n0 h157 [(ma139, La Z [(mk0 p1 o), p1]), (a151, Ob Z "com/example/bitstride/bitstride/search/EditDistances" NSE [.ref ra153, .ref fa153, .int (Int32.ofNat (o + len)), .int (Int32.ofNat ((o + len - 1) % 64)), .int (Int32.ofNat (o + d)), .int (Int32.ofNat (o + c0 len))]), (ra153, La Z [(-1), (-1)]), (fa153, La Z [0, 0]), (a143, Ia Z [(Int32.ofNat (c0 0)), (Int32.ofNat (c0 1)), (Int32.ofNat (c0 2)), (Int32.ofNat (c0 3)), (Int32.ofNat (c0 4))]), (ma142, La Z [(mk0 p4 o), p4]), (ma141, La Z [(mk0 p3 o), p3]), (ma140, La Z [(mk0 p2 o), p2])] := H157.pull 7 rfl
    have H159 : Hp n0 h157 [(fa153, La Z [0, 0]), (ma139, La Z [(mk0 p1 o), p1]), (a151, Ob Z "com/example/bitstride/bitstride/search/EditDistances" NSE [.ref ra153, .ref fa153, .int (Int32.ofNat (o + len)), .int (Int32.ofNat ((o + len - 1) % 64)), .int (Int32.ofNat (o + d)), .int (Int32.ofNat (o + c0 len))]), (ra153, La Z [(-1), (-1)]), (a143, Ia Z [(Int32.ofNat (c0 0)), (Int32.ofNat (c0 1)), (Int32.ofNat (c0 2)), (Int32.ofNat (c0 3)), (Int32.ofNat (c0 4))]), (ma142, La Z [(mk0 p4 o), p4]), (ma141, La Z [(mk0 p3 o), p3]), (ma140, La Z [(mk0 p2 o), p2])] := H158.pull 3 rfl
    have H160 : Hp n0 h157 [(ra153, La Z [(-1), (-1)]), (fa153, La Z [0, 0]), (ma139, La Z [(mk0 p1 o), p1]), (a151, Ob Z "com/example/bitstride/bitstride/search/EditDistances" NSE [.ref ra153, .ref fa153, .int (Int32.ofNat (o + len)), .int (Int32.ofNat ((o + len - 1) % 64)), .int (Int32.ofNat (o + d)), .int (Int32.ofNat (o + c0 len))]), (a143, Ia Z [(Int32.ofNat (c0 0)), (Int32.ofNat (c0 1)), (Int32.ofNat (c0 2)), (Int32.ofNat (c0 3)), (Int32.ofNat (c0 4))]), (ma142, La Z [(mk0 p4 o), p4]), (ma141, La Z [(mk0 p3 o), p3]), (ma140, La Z [(mk0 p2 o), p2])] := H159.pull 3 rfl
    have H161 : Hp n0 h157 [(a151, Ob Z "com/example/bitstride/bitstride/search/EditDistances" NSE [.ref ra153, .ref fa153, .int (Int32.ofNat (o + len)), .int (Int32.ofNat ((o + len - 1) % 64)), .int (Int32.ofNat (o + d)), .int (Int32.ofNat (o + c0 len))]), (ra153, La Z [(-1), (-1)]), (fa153, La Z [0, 0]), (ma139, La Z [(mk0 p1 o), p1]), (a143, Ia Z [(Int32.ofNat (c0 0)), (Int32.ofNat (c0 1)), (Int32.ofNat (c0 2)), (Int32.ofNat (c0 3)), (Int32.ofNat (c0 4))]), (ma142, La Z [(mk0 p4 o), p4]), (ma141, La Z [(mk0 p3 o), p3]), (ma140, La Z [(mk0 p2 o), p2])] := H160.pull 3 rfl
    refine G.callV K hl (wd hw 38 rfl) (wd hw 39 rfl) (wd hw 41 rfl) (wd hw 40 rfl) (wd hw 9 rfl) (wd hw 42 rfl) (by decide) pd_7 (H161.exa (i := 0) rfl) (ct_step2 l Z a0 hw n0 h157 a151 ra153 fa153 (Int32.ofNat (o + len)) (Int32.ofNat ((o + len - 1) % 64)) (Int32.ofNat (o + d)) (Int32.ofNat (o + c0 len)) (-1) (-1) 0 0 ma139 (mk0 p1 o) p1 [(a143, Ia Z [(Int32.ofNat (c0 0)), (Int32.ofNat (c0 1)), (Int32.ofNat (c0 2)), (Int32.ofNat (c0 3)), (Int32.ofNat (c0 4))]), (ma142, La Z [(mk0 p4 o), p4]), (ma141, La Z [(mk0 p3 o), p3]), (ma140, La Z [(mk0 p2 o), p2])] H161) 0 rfl (by decide) (by decide) (by decide) (by decide) rfl rfl [.ref ma139] rfl Dx_139 ?_
    rintro _ h162 ⟨rfl, H162⟩
    obtain ⟨w162, d162⟩ := ed2 (x := p1) hl1 ho (by omega) (by omega) w157
    rw [d162] at H162 ⊢
    have b162 := colS_le (mtF p1 o) c0 len
    rw [own_ret ho (by omega) (by omega)]
    obtain ⟨c162, ec162⟩ : ∃ g, g = colS (mtF p1 o) c0 := ⟨_, rfl⟩
    obtain ⟨r162_0, er162_0⟩ : ∃ g, g = wR (mk0 p1 o) (-1) 0 0 0 := ⟨_, rfl⟩
    obtain ⟨f162_0, ef162_0⟩ : ∃ g, g = wF (mk0 p1 o) (-1) 0 0 0 := ⟨_, rfl⟩
    obtain ⟨r162_1, er162_1⟩ : ∃ g, g = wR p1 (-1) 0 (XT.ushrL (wRA (mk0 p1 o) (-1) 0 0) 63) (XT.ushrL (wFA (mk0 p1 o) (-1) 0) 63) := ⟨_, rfl⟩
    obtain ⟨f162_1, ef162_1⟩ : ∃ g, g = wF p1 (-1) 0 (XT.ushrL (wRA (mk0 p1 o) (-1) 0 0) 63) (XT.ushrL (wFA (mk0 p1 o) (-1) 0) 63) := ⟨_, rfl⟩
    rw [← er162_0, ← ef162_0, ← er162_1, ← ef162_1, ← ec162] at w162
    rw [← er162_0, ← ef162_0, ← er162_1, ← ef162_1, ← ec162] at H162
    rw [← ec162]
    rw [← ec162] at b162
    have l162 : ∀ j, c162 j ≤ j := fun j => by rw [ec162]; exact colS_le _ _ _
    change G k n0 _ h162 _ _ 142 [.val (.int p0), .val (.long p1), .second, .val (.long p2), .second, .val (.long p3), .second, .val (.long p4), .second, .val (.int (Int32.ofNat o)), .val (.int (Int32.ofNat len)), .val (.int (Int32.ofNat d)), .val (.int (Int32.ofNat (o + len))), .val (.int 2), .val (.ref ma139), .val (.ref ma140), .val (.ref ma141), .val (.ref ma142), .val (.ref a143), .val (.ref a151), .unset, .unset, .unset, .unset, .unset, .unset, .unset, .unset, .unset, .unset, .unset, .unset] [.long (if d < c162 len then 0 else 1)]
    refine G.lstore K Dx_142 ([.val (.int p0), .val (.long p1), .second, .val (.long p2), .second, .val (.long p3), .second, .val (.long p4), .second, .val (.int (Int32.ofNat o)), .val (.int (Int32.ofNat len)), .val (.int (Int32.ofNat d)), .val (.int (Int32.ofNat (o + len))), .val (.int 2), .val (.ref ma139), .val (.ref ma140), .val (.ref ma141), .val (.ref ma142), .val (.ref a143), .val (.ref a151), .val (.long (if d < c162 len then 0 else 1)), .second, .unset, .unset, .unset, .unset, .unset, .unset, .unset, .unset, .unset, .unset]) rfl ?_
    refine G.aload K Dx_144 rfl rfl ?_
    refine G.lloadN K Dx_146 rfl ?_
    refine G.iload K Dx_147 rfl ?_
    have H163 : Hp n0 h162 [(a143, Ia Z [(Int32.ofNat (c0 0)), (Int32.ofNat (c0 1)), (Int32.ofNat (c0 2)), (Int32.ofNat (c0 3)), (Int32.ofNat (c0 4))]), (a151, Ob Z "com/example/bitstride/bitstride/search/EditDistances" NSE [.ref ra153, .ref fa153, .int (Int32.ofNat (o + len)), .int (Int32.ofNat ((o + len - 1) % 64)), .int (Int32.ofNat (o + d)), .int (Int32.ofNat (o + c162 len))]), (ra153, La Z [r162_0, r162_1]), (fa153, La Z [f162_0, f162_1]), (ma139, La Z [(mk0 p1 o), p1]), (ma142, La Z [(mk0 p4 o), p4]), (ma141, La Z [(mk0 p3 o), p3]), (ma140, La Z [(mk0 p2 o), p2])] := H162.pull 4 rfl
    refine G.callS K hl (wd hw 43 rfl) (wd hw 44 rfl) (wd hw 2 rfl) (wd hw 45 rfl) (by decide) pd_8 (ct_advance l Z a0 hw n0 h162 a143 p1 o c0 [(a151, Ob Z "com/example/bitstride/bitstride/search/EditDistances" NSE [.ref ra153, .ref fa153, .int (Int32.ofNat (o + len)), .int (Int32.ofNat ((o + len - 1) % 64)), .int (Int32.ofNat (o + d)), .int (Int32.ofNat (o + c162 len))]), (ra153, La Z [r162_0, r162_1]), (fa153, La Z [f162_0, f162_1]), (ma139, La Z [(mk0 p1 o), p1]), (ma142, La Z [(mk0 p4 o), p4]), (ma141, La Z [(mk0 p3 o), p3]), (ma140, La Z [(mk0 p2 o), p2])] ho w157.1 l157 H163) 0 rfl (by decide) (by decide) (by decide) (by decide) rfl rfl [.int (Int32.ofNat o), .long p1, .ref a143] rfl Dx_149 ?_
    rintro _ h164 ⟨rfl, H164⟩
    rw [← ec162] at H164
    change G k n0 _ h164 _ _ 152 [.val (.int p0), .val (.long p1), .second, .val (.long p2), .second, .val (.long p3), .second, .val (.long p4), .second, .val (.int (Int32.ofNat o)), .val (.int (Int32.ofNat len)), .val (.int (Int32.ofNat d)), .val (.int (Int32.ofNat (o + len))), .val (.int 2), .val (.ref ma139), .val (.ref ma140), .val (.ref ma141), .val (.ref ma142), .val (.ref a143), .val (.ref a151), .val (.long (if d < c162 len then 0 else 1)), .second, .unset, .unset, .unset, .unset, .unset, .unset, .unset, .unset, .unset, .unset] []
    refine G.lload K Dx_152 rfl ?_
    refine G.aload K Dx_154 rfl rfl ?_
    refine G.iload K Dx_156 rfl ?_
    refine G.aload_i K H164 (i := 0) rfl (own_nneg (by omega)) (by rw [own_nidx (by omega)]; exact own_get5 (by omega)) Dx_158 ?_
    refine G.iload K Dx_159 rfl ?_
    refine G.callS K hl (wd hw 56 rfl) (wd hw 57 rfl) (wd hw 2 rfl) (wd hw 58 rfl) (by decide) pd_9 (ct_expected l Z a0 hw n0 _ (c162 len) d (by have := l162 len; omega) (by omega)) 2 rfl (by decide) (by decide) (by decide) (by decide) rfl rfl [.int (Int32.ofNat d), .int (Int32.ofNat (c162 len))] rfl Dx_161 ?_
    rintro _ _ ⟨rfl, rfl⟩
    change G k n0 _ h164 _ _ 164 [.val (.int p0), .val (.long p1), .second, .val (.long p2), .second, .val (.long p3), .second, .val (.long p4), .second, .val (.int (Int32.ofNat o)), .val (.int (Int32.ofNat len)), .val (.int (Int32.ofNat d)), .val (.int (Int32.ofNat (o + len))), .val (.int 2), .val (.ref ma139), .val (.ref ma140), .val (.ref ma141), .val (.ref ma142), .val (.ref a143), .val (.ref a151), .val (.long (if d < c162 len then 0 else 1)), .second, .unset, .unset, .unset, .unset, .unset, .unset, .unset, .unset, .unset, .unset] [.long (if d < c162 len then 0 else 1), .long (if d < c162 len then 0 else 1)]
    refine G.lcmp_ne K Dx_164 Dx_165 (fun q => absurd rfl q) (fun q165 => ?_)
    refine G.iconst K Dx_168 1 rfl ?_
    refine G.goto K Dx_169 ?_
    refine G.istore K Dx_173 ([.val (.int p0), .val (.long p1), .second, .val (.long p2), .second, .val (.long p3), .second, .val (.long p4), .second, .val (.int (Int32.ofNat o)), .val (.int (Int32.ofNat len)), .val (.int (Int32.ofNat d)), .val (.int (Int32.ofNat (o + len))), .val (.int 2), .val (.ref ma139), .val (.ref ma140), .val (.ref ma141), .val (.ref ma142), .val (.ref a143), .val (.ref a151), .val (.long (if d < c162 len then 0 else 1)), .second, .val (.int 1), .unset, .unset, .unset, .unset, .unset, .unset, .unset, .unset, .unset]) rfl ?_
    refine G.aload K Dx_175 rfl rfl ?_
    refine G.aload K Dx_177 rfl rfl ?_
    have H166 : Hp n0 h164 [(ma140, La Z [(mk0 p2 o), p2]), (a143, Ia Z [(Int32.ofNat (c162 0)), (Int32.ofNat (c162 1)), (Int32.ofNat (c162 2)), (Int32.ofNat (c162 3)), (Int32.ofNat (c162 4))]), (a151, Ob Z "com/example/bitstride/bitstride/search/EditDistances" NSE [.ref ra153, .ref fa153, .int (Int32.ofNat (o + len)), .int (Int32.ofNat ((o + len - 1) % 64)), .int (Int32.ofNat (o + d)), .int (Int32.ofNat (o + c162 len))]), (ra153, La Z [r162_0, r162_1]), (fa153, La Z [f162_0, f162_1]), (ma139, La Z [(mk0 p1 o), p1]), (ma142, La Z [(mk0 p4 o), p4]), (ma141, La Z [(mk0 p3 o), p3])] := H164.pull 7 rfl
    have H167 : Hp n0 h164 [(fa153, La Z [f162_0, f162_1]), (ma140, La Z [(mk0 p2 o), p2]), (a143, Ia Z [(Int32.ofNat (c162 0)), (Int32.ofNat (c162 1)), (Int32.ofNat (c162 2)), (Int32.ofNat (c162 3)), (Int32.ofNat (c162 4))]), (a151, Ob Z "com/example/bitstride/bitstride/search/EditDistances" NSE [.ref ra153, .ref fa153, .int (Int32.ofNat (o + len)), .int (Int32.ofNat ((o + len - 1) % 64)), .int (Int32.ofNat (o + d)), .int (Int32.ofNat (o + c162 len))]), (ra153, La Z [r162_0, r162_1]), (ma139, La Z [(mk0 p1 o), p1]), (ma142, La Z [(mk0 p4 o), p4]), (ma141, La Z [(mk0 p3 o), p3])] := H166.pull 4 rfl
    have H168 : Hp n0 h164 [(ra153, La Z [r162_0, r162_1]), (fa153, La Z [f162_0, f162_1]), (ma140, La Z [(mk0 p2 o), p2]), (a143, Ia Z [(Int32.ofNat (c162 0)), (Int32.ofNat (c162 1)), (Int32.ofNat (c162 2)), (Int32.ofNat (c162 3)), (Int32.ofNat (c162 4))]), (a151, Ob Z "com/example/bitstride/bitstride/search/EditDistances" NSE [.ref ra153, .ref fa153, .int (Int32.ofNat (o + len)), .int (Int32.ofNat ((o + len - 1) % 64)), .int (Int32.ofNat (o + d)), .int (Int32.ofNat (o + c162 len))]), (ma139, La Z [(mk0 p1 o), p1]), (ma142, La Z [(mk0 p4 o), p4]), (ma141, La Z [(mk0 p3 o), p3])] := H167.pull 4 rfl
    have H169 : Hp n0 h164 [(a151, Ob Z "com/example/bitstride/bitstride/search/EditDistances" NSE [.ref ra153, .ref fa153, .int (Int32.ofNat (o + len)), .int (Int32.ofNat ((o + len - 1) % 64)), .int (Int32.ofNat (o + d)), .int (Int32.ofNat (o + c162 len))]), (ra153, La Z [r162_0, r162_1]), (fa153, La Z [f162_0, f162_1]), (ma140, La Z [(mk0 p2 o), p2]), (a143, Ia Z [(Int32.ofNat (c162 0)), (Int32.ofNat (c162 1)), (Int32.ofNat (c162 2)), (Int32.ofNat (c162 3)), (Int32.ofNat (c162 4))]), (ma139, La Z [(mk0 p1 o), p1]), (ma142, La Z [(mk0 p4 o), p4]), (ma141, La Z [(mk0 p3 o), p3])] := H168.pull 4 rfl
    refine G.callV K hl (wd hw 38 rfl) (wd hw 39 rfl) (wd hw 41 rfl) (wd hw 40 rfl) (wd hw 9 rfl) (wd hw 42 rfl) (by decide) pd_7 (H169.exa (i := 0) rfl) (ct_step2 l Z a0 hw n0 h164 a151 ra153 fa153 (Int32.ofNat (o + len)) (Int32.ofNat ((o + len - 1) % 64)) (Int32.ofNat (o + d)) (Int32.ofNat (o + c162 len)) r162_0 r162_1 f162_0 f162_1 ma140 (mk0 p2 o) p2 [(a143, Ia Z [(Int32.ofNat (c162 0)), (Int32.ofNat (c162 1)), (Int32.ofNat (c162 2)), (Int32.ofNat (c162 3)), (Int32.ofNat (c162 4))]), (ma139, La Z [(mk0 p1 o), p1]), (ma142, La Z [(mk0 p4 o), p4]), (ma141, La Z [(mk0 p3 o), p3])] H169) 0 rfl (by decide) (by decide) (by decide) (by decide) rfl rfl [.ref ma140] rfl Dx_179 ?_
    rintro _ h170 ⟨rfl, H170⟩
    obtain ⟨w170, d170⟩ := ed2 (x := p2) hl1 ho (by omega) (by omega) w162
    rw [d170] at H170 ⊢
    have b170 := colS_le (mtF p2 o) c162 len
    rw [own_ret ho (by omega) (by omega)]
    obtain ⟨c170, ec170⟩ : ∃ g, g = colS (mtF p2 o) c162 := ⟨_, rfl⟩
    obtain ⟨r170_0, er170_0⟩ : ∃ g, g = wR (mk0 p2 o) r162_0 f162_0 0 0 := ⟨_, rfl⟩
    obtain ⟨f170_0, ef170_0⟩ : ∃ g, g = wF (mk0 p2 o) r162_0 f162_0 0 0 := ⟨_, rfl⟩
    obtain ⟨r170_1, er170_1⟩ : ∃ g, g = wR p2 r162_1 f162_1 (XT.ushrL (wRA (mk0 p2 o) r162_0 f162_0 0) 63) (XT.ushrL (wFA (mk0 p2 o) r162_0 0) 63) := ⟨_, rfl⟩
    obtain ⟨f170_1, ef170_1⟩ : ∃ g, g = wF p2 r162_1 f162_1 (XT.ushrL (wRA (mk0 p2 o) r162_0 f162_0 0) 63) (XT.ushrL (wFA (mk0 p2 o) r162_0 0) 63) := ⟨_, rfl⟩
    rw [← er170_0, ← ef170_0, ← er170_1, ← ef170_1, ← ec170] at w170
    rw [← er170_0, ← ef170_0, ← er170_1, ← ef170_1, ← ec170] at H170
    rw [← ec170]
    rw [← ec170] at b170
    have l170 : ∀ j, c170 j ≤ j := fun j => by rw [ec170]; exact colS_le _ _ _
    change G k n0 _ h170 _ _ 182 [.val (.int p0), .val (.long p1), .second, .val (.long p2), .second, .val (.long p3), .second, .val (.long p4), .second, .val (.int (Int32.ofNat o)), .val (.int (Int32.ofNat len)), .val (.int (Int32.ofNat d)), .val (.int (Int32.ofNat (o + len))), .val (.int 2), .val (.ref ma139), .val (.ref ma140), .val (.ref ma141), .val (.ref ma142), .val (.ref a143), .val (.ref a151), .val (.long (if d < c162 len then 0 else 1)), .second, .val (.int 1), .unset, .unset, .unset, .unset, .unset, .unset, .unset, .unset, .unset] [.long (if d < c170 len then 0 else 1)]
    refine G.lstore K Dx_182 ([.val (.int p0), .val (.long p1), .second, .val (.long p2), .second, .val (.long p3), .second, .val (.long p4), .second, .val (.int (Int32.ofNat o)), .val (.int (Int32.ofNat len)), .val (.int (Int32.ofNat d)), .val (.int (Int32.ofNat (o + len))), .val (.int 2), .val (.ref ma139), .val (.ref ma140), .val (.ref ma141), .val (.ref ma142), .val (.ref a143), .val (.ref a151), .val (.long (if d < c162 len then 0 else 1)), .second, .val (.int 1), .val (.long (if d < c170 len then 0 else 1)), .second, .unset, .unset, .unset, .unset, .unset, .unset, .unset]) rfl ?_
    refine G.aload K Dx_184 rfl rfl ?_
    refine G.lloadN K Dx_186 rfl ?_
    refine G.iload K Dx_187 rfl ?_
    have H171 : Hp n0 h170 [(a143, Ia Z [(Int32.ofNat (c162 0)), (Int32.ofNat (c162 1)), (Int32.ofNat (c162 2)), (Int32.ofNat (c162 3)), (Int32.ofNat (c162 4))]), (a151, Ob Z "com/example/bitstride/bitstride/search/EditDistances" NSE [.ref ra153, .ref fa153, .int (Int32.ofNat (o + len)), .int (Int32.ofNat ((o + len - 1) % 64)), .int (Int32.ofNat (o + d)), .int (Int32.ofNat (o + c170 len))]), (ra153, La Z [r170_0, r170_1]), (fa153, La Z [f170_0, f170_1]), (ma140, La Z [(mk0 p2 o), p2]), (ma139, La Z [(mk0 p1 o), p1]), (ma142, La Z [(mk0 p4 o), p4]), (ma141, La Z [(mk0 p3 o), p3])] := H170.pull 4 rfl
    refine G.callS K hl (wd hw 43 rfl) (wd hw 44 rfl) (wd hw 2 rfl) (wd hw 45 rfl) (by decide) pd_8 (ct_advance l Z a0 hw n0 h170 a143 p2 o c162 [(a151, Ob Z "com/example/bitstride/bitstride/search/EditDistances" NSE [.ref ra153, .ref fa153, .int (Int32.ofNat (o + len)), .int (Int32.ofNat ((o + len - 1) % 64)), .int (Int32.ofNat (o + d)), .int (Int32.ofNat (o + c170 len))]), (ra153, La Z [r170_0, r170_1]), (fa153, La Z [f170_0, f170_1]), (ma140, La Z [(mk0 p2 o), p2]), (ma139, La Z [(mk0 p1 o), p1]), (ma142, La Z [(mk0 p4 o), p4]), (ma141, La Z [(mk0 p3 o), p3])] ho w162.1 l162 H171) 0 rfl (by decide) (by decide) (by decide) (by decide) rfl rfl [.int (Int32.ofNat o), .long p2, .ref a143] rfl Dx_189 ?_
    rintro _ h172 ⟨rfl, H172⟩
    rw [← ec170] at H172
    change G k n0 _ h172 _ _ 192 [.val (.int p0), .val (.long p1), .second, .val (.long p2), .second, .val (.long p3), .second, .val (.long p4), .second, .val (.int (Int32.ofNat o)), .val (.int (Int32.ofNat len)), .val (.int (Int32.ofNat d)), .val (.int (Int32.ofNat (o + len))), .val (.int 2), .val (.ref ma139), .val (.ref ma140), .val (.ref ma141), .val (.ref ma142), .val (.ref a143), .val (.ref a151), .val (.long (if d < c162 len then 0 else 1)), .second, .val (.int 1), .val (.long (if d < c170 len then 0 else 1)), .second, .unset, .unset, .unset, .unset, .unset, .unset, .unset] []
    refine G.lload K Dx_192 rfl ?_
    refine G.aload K Dx_194 rfl rfl ?_
    refine G.iload K Dx_196 rfl ?_
    refine G.aload_i K H172 (i := 0) rfl (own_nneg (by omega)) (by rw [own_nidx (by omega)]; exact own_get5 (by omega)) Dx_198 ?_
    refine G.iload K Dx_199 rfl ?_
    refine G.callS K hl (wd hw 56 rfl) (wd hw 57 rfl) (wd hw 2 rfl) (wd hw 58 rfl) (by decide) pd_9 (ct_expected l Z a0 hw n0 _ (c170 len) d (by have := l170 len; omega) (by omega)) 2 rfl (by decide) (by decide) (by decide) (by decide) rfl rfl [.int (Int32.ofNat d), .int (Int32.ofNat (c170 len))] rfl Dx_201 ?_
    rintro _ _ ⟨rfl, rfl⟩
    change G k n0 _ h172 _ _ 204 [.val (.int p0), .val (.long p1), .second, .val (.long p2), .second, .val (.long p3), .second, .val (.long p4), .second, .val (.int (Int32.ofNat o)), .val (.int (Int32.ofNat len)), .val (.int (Int32.ofNat d)), .val (.int (Int32.ofNat (o + len))), .val (.int 2), .val (.ref ma139), .val (.ref ma140), .val (.ref ma141), .val (.ref ma142), .val (.ref a143), .val (.ref a151), .val (.long (if d < c162 len then 0 else 1)), .second, .val (.int 1), .val (.long (if d < c170 len then 0 else 1)), .second, .unset, .unset, .unset, .unset, .unset, .unset, .unset] [.long (if d < c170 len then 0 else 1), .long (if d < c170 len then 0 else 1)]
    refine G.lcmp_ne K Dx_204 Dx_205 (fun q => absurd rfl q) (fun q173 => ?_)
    refine G.iconst K Dx_208 1 rfl ?_
    refine G.goto K Dx_209 ?_
    refine G.istore K Dx_213 ([.val (.int p0), .val (.long p1), .second, .val (.long p2), .second, .val (.long p3), .second, .val (.long p4), .second, .val (.int (Int32.ofNat o)), .val (.int (Int32.ofNat len)), .val (.int (Int32.ofNat d)), .val (.int (Int32.ofNat (o + len))), .val (.int 2), .val (.ref ma139), .val (.ref ma140), .val (.ref ma141), .val (.ref ma142), .val (.ref a143), .val (.ref a151), .val (.long (if d < c162 len then 0 else 1)), .second, .val (.int 1), .val (.long (if d < c170 len then 0 else 1)), .second, .val (.int 1), .unset, .unset, .unset, .unset, .unset, .unset]) rfl ?_
    refine G.aload K Dx_215 rfl rfl ?_
    refine G.aload K Dx_217 rfl rfl ?_
    have H174 : Hp n0 h172 [(ma141, La Z [(mk0 p3 o), p3]), (a143, Ia Z [(Int32.ofNat (c170 0)), (Int32.ofNat (c170 1)), (Int32.ofNat (c170 2)), (Int32.ofNat (c170 3)), (Int32.ofNat (c170 4))]), (a151, Ob Z "com/example/bitstride/bitstride/search/EditDistances" NSE [.ref ra153, .ref fa153, .int (Int32.ofNat (o + len)), .int (Int32.ofNat ((o + len - 1) % 64)), .int (Int32.ofNat (o + d)), .int (Int32.ofNat (o + c170 len))]), (ra153, La Z [r170_0, r170_1]), (fa153, La Z [f170_0, f170_1]), (ma140, La Z [(mk0 p2 o), p2]), (ma139, La Z [(mk0 p1 o), p1]), (ma142, La Z [(mk0 p4 o), p4])] := H172.pull 7 rfl
    have H175 : Hp n0 h172 [(fa153, La Z [f170_0, f170_1]), (ma141, La Z [(mk0 p3 o), p3]), (a143, Ia Z [(Int32.ofNat (c170 0)), (Int32.ofNat (c170 1)), (Int32.ofNat (c170 2)), (Int32.ofNat (c170 3)), (Int32.ofNat (c170 4))]), (a151, Ob Z "com/example/bitstride/bitstride/search/EditDistances" NSE [.ref ra153, .ref fa153, .int (Int32.ofNat (o + len)), .int (Int32.ofNat ((o + len - 1) % 64)), .int (Int32.ofNat (o + d)), .int (Int32.ofNat (o + c170 len))]), (ra153, La Z [r170_0, r170_1]), (ma140, La Z [(mk0 p2 o), p2]), (ma139, La Z [(mk0 p1 o), p1]), (ma142, La Z [(mk0 p4 o), p4])] := H174.pull 4 rfl
    have H176 : Hp n0 h172 [(ra153, La Z [r170_0, r170_1]), (fa153, La Z [f170_0, f170_1]), (ma141, La Z [(mk0 p3 o), p3]), (a143, Ia Z [(Int32.ofNat (c170 0)), (Int32.ofNat (c170 1)), (Int32.ofNat (c170 2)), (Int32.ofNat (c170 3)), (Int32.ofNat (c170 4))]), (a151, Ob Z "com/example/bitstride/bitstride/search/EditDistances" NSE [.ref ra153, .ref fa153, .int (Int32.ofNat (o + len)), .int (Int32.ofNat ((o + len - 1) % 64)), .int (Int32.ofNat (o + d)), .int (Int32.ofNat (o + c170 len))]), (ma140, La Z [(mk0 p2 o), p2]), (ma139, La Z [(mk0 p1 o), p1]), (ma142, La Z [(mk0 p4 o), p4])] := H175.pull 4 rfl
    have H177 : Hp n0 h172 [(a151, Ob Z "com/example/bitstride/bitstride/search/EditDistances" NSE [.ref ra153, .ref fa153, .int (Int32.ofNat (o + len)), .int (Int32.ofNat ((o + len - 1) % 64)), .int (Int32.ofNat (o + d)), .int (Int32.ofNat (o + c170 len))]), (ra153, La Z [r170_0, r170_1]), (fa153, La Z [f170_0, f170_1]), (ma141, La Z [(mk0 p3 o), p3]), (a143, Ia Z [(Int32.ofNat (c170 0)), (Int32.ofNat (c170 1)), (Int32.ofNat (c170 2)), (Int32.ofNat (c170 3)), (Int32.ofNat (c170 4))]), (ma140, La Z [(mk0 p2 o), p2]), (ma139, La Z [(mk0 p1 o), p1]), (ma142, La Z [(mk0 p4 o), p4])] := H176.pull 4 rfl
    refine G.callV K hl (wd hw 38 rfl) (wd hw 39 rfl) (wd hw 41 rfl) (wd hw 40 rfl) (wd hw 9 rfl) (wd hw 42 rfl) (by decide) pd_7 (H177.exa (i := 0) rfl) (ct_step2 l Z a0 hw n0 h172 a151 ra153 fa153 (Int32.ofNat (o + len)) (Int32.ofNat ((o + len - 1) % 64)) (Int32.ofNat (o + d)) (Int32.ofNat (o + c170 len)) r170_0 r170_1 f170_0 f170_1 ma141 (mk0 p3 o) p3 [(a143, Ia Z [(Int32.ofNat (c170 0)), (Int32.ofNat (c170 1)), (Int32.ofNat (c170 2)), (Int32.ofNat (c170 3)), (Int32.ofNat (c170 4))]), (ma140, La Z [(mk0 p2 o), p2]), (ma139, La Z [(mk0 p1 o), p1]), (ma142, La Z [(mk0 p4 o), p4])] H177) 0 rfl (by decide) (by decide) (by decide) (by decide) rfl rfl [.ref ma141] rfl Dx_219 ?_
    rintro _ h178 ⟨rfl, H178⟩
    obtain ⟨w178, d178⟩ := ed2 (x := p3) hl1 ho (by omega) (by omega) w170
    rw [d178] at H178 ⊢
    have b178 := colS_le (mtF p3 o) c170 len
    rw [own_ret ho (by omega) (by omega)]
    obtain ⟨c178, ec178⟩ : ∃ g, g = colS (mtF p3 o) c170 := ⟨_, rfl⟩
    obtain ⟨r178_0, er178_0⟩ : ∃ g, g = wR (mk0 p3 o) r170_0 f170_0 0 0 := ⟨_, rfl⟩
    obtain ⟨f178_0, ef178_0⟩ : ∃ g, g = wF (mk0 p3 o) r170_0 f170_0 0 0 := ⟨_, rfl⟩
    obtain ⟨r178_1, er178_1⟩ : ∃ g, g = wR p3 r170_1 f170_1 (XT.ushrL (wRA (mk0 p3 o) r170_0 f170_0 0) 63) (XT.ushrL (wFA (mk0 p3 o) r170_0 0) 63) := ⟨_, rfl⟩
    obtain ⟨f178_1, ef178_1⟩ : ∃ g, g = wF p3 r170_1 f170_1 (XT.ushrL (wRA (mk0 p3 o) r170_0 f170_0 0) 63) (XT.ushrL (wFA (mk0 p3 o) r170_0 0) 63) := ⟨_, rfl⟩
    rw [← er178_0, ← ef178_0, ← er178_1, ← ef178_1, ← ec178] at w178
    rw [← er178_0, ← ef178_0, ← er178_1, ← ef178_1, ← ec178] at H178
    rw [← ec178]
    rw [← ec178] at b178
    have l178 : ∀ j, c178 j ≤ j := fun j => by rw [ec178]; exact colS_le _ _ _
    change G k n0 _ h178 _ _ 222 [.val (.int p0), .val (.long p1), .second, .val (.long p2), .second, .val (.long p3), .second, .val (.long p4), .second, .val (.int (Int32.ofNat o)), .val (.int (Int32.ofNat len)), .val (.int (Int32.ofNat d)), .val (.int (Int32.ofNat (o + len))), .val (.int 2), .val (.ref ma139), .val (.ref ma140), .val (.ref ma141), .val (.ref ma142), .val (.ref a143), .val (.ref a151), .val (.long (if d < c162 len then 0 else 1)), .second, .val (.int 1), .val (.long (if d < c170 len then 0 else 1)), .second, .val (.int 1), .unset, .unset, .unset, .unset, .unset, .unset] [.long (if d < c178 len then 0 else 1)]
    refine G.lstore K Dx_222 ([.val (.int p0), .val (.long p1), .second, .val (.long p2), .second, .val (.long p3), .second, .val (.long p4), .second, .val (.int (Int32.ofNat o)), .val (.int (Int32.ofNat len)), .val (.int (Int32.ofNat d)), .val (.int (Int32.ofNat (o + len))), .val (.int 2), .val (.ref ma139), .val (.ref ma140), .val (.ref ma141), .val (.ref ma142), .val (.ref a143), .val (.ref a151), .val (.long (if d < c162 len then 0 else 1)), .second, .val (.int 1), .val (.long (if d < c170 len then 0 else 1)), .second, .val (.int 1), .val (.long (if d < c178 len then 0 else 1)), .second, .unset, .unset, .unset, .unset]) rfl ?_
    refine G.aload K Dx_224 rfl rfl ?_
    refine G.lload K Dx_226 rfl ?_
    refine G.iload K Dx_228 rfl ?_
    have H179 : Hp n0 h178 [(a143, Ia Z [(Int32.ofNat (c170 0)), (Int32.ofNat (c170 1)), (Int32.ofNat (c170 2)), (Int32.ofNat (c170 3)), (Int32.ofNat (c170 4))]), (a151, Ob Z "com/example/bitstride/bitstride/search/EditDistances" NSE [.ref ra153, .ref fa153, .int (Int32.ofNat (o + len)), .int (Int32.ofNat ((o + len - 1) % 64)), .int (Int32.ofNat (o + d)), .int (Int32.ofNat (o + c178 len))]), (ra153, La Z [r178_0, r178_1]), (fa153, La Z [f178_0, f178_1]), (ma141, La Z [(mk0 p3 o), p3]), (ma140, La Z [(mk0 p2 o), p2]), (ma139, La Z [(mk0 p1 o), p1]), (ma142, La Z [(mk0 p4 o), p4])] := H178.pull 4 rfl
    refine G.callS K hl (wd hw 43 rfl) (wd hw 44 rfl) (wd hw 2 rfl) (wd hw 45 rfl) (by decide) pd_8 (ct_advance l Z a0 hw n0 h178 a143 p3 o c170 [(a151, Ob Z "com/example/bitstride/bitstride/search/EditDistances" NSE [.ref ra153, .ref fa153, .int (Int32.ofNat (o + len)), .int (Int32.ofNat ((o + len - 1) % 64)), .int (Int32.ofNat (o + d)), .int (Int32.ofNat (o + c178 len))]), (ra153, La Z [r178_0, r178_1]), (fa153, La Z [f178_0, f178_1]), (ma141, La Z [(mk0 p3 o), p3]), (ma140, La Z [(mk0 p2 o), p2]), (ma139, La Z [(mk0 p1 o), p1]), (ma142, La Z [(mk0 p4 o), p4])] ho w170.1 l170 H179) 0 rfl (by decide) (by decide) (by decide) (by decide) rfl rfl [.int (Int32.ofNat o), .long p3, .ref a143] rfl Dx_230 ?_
    rintro _ h180 ⟨rfl, H180⟩
    rw [← ec178] at H180
    change G k n0 _ h180 _ _ 233 [.val (.int p0), .val (.long p1), .second, .val (.long p2), .second, .val (.long p3), .second, .val (.long p4), .second, .val (.int (Int32.ofNat o)), .val (.int (Int32.ofNat len)), .val (.int (Int32.ofNat d)), .val (.int (Int32.ofNat (o + len))), .val (.int 2), .val (.ref ma139), .val (.ref ma140), .val (.ref ma141), .val (.ref ma142), .val (.ref a143), .val (.ref a151), .val (.long (if d < c162 len then 0 else 1)), .second, .val (.int 1), .val (.long (if d < c170 len then 0 else 1)), .second, .val (.int 1), .val (.long (if d < c178 len then 0 else 1)), .second, .unset, .unset, .unset, .unset] []
    refine G.lload K Dx_233 rfl ?_
    refine G.aload K Dx_235 rfl rfl ?_
    refine G.iload K Dx_237 rfl ?_
    refine G.aload_i K H180 (i := 0) rfl (own_nneg (by omega)) (by rw [own_nidx (by omega)]; exact own_get5 (by omega)) Dx_239 ?_
    refine G.iload K Dx_240 rfl ?_
    refine G.callS K hl (wd hw 56 rfl) (wd hw 57 rfl) (wd hw 2 rfl) (wd hw 58 rfl) (by decide) pd_9 (ct_expected l Z a0 hw n0 _ (c178 len) d (by have := l178 len; omega) (by omega)) 2 rfl (by decide) (by decide) (by decide) (by decide) rfl rfl [.int (Int32.ofNat d), .int (Int32.ofNat (c178 len))] rfl Dx_242 ?_
    rintro _ _ ⟨rfl, rfl⟩
    change G k n0 _ h180 _ _ 245 [.val (.int p0), .val (.long p1), .second, .val (.long p2), .second, .val (.long p3), .second, .val (.long p4), .second, .val (.int (Int32.ofNat o)), .val (.int (Int32.ofNat len)), .val (.int (Int32.ofNat d)), .val (.int (Int32.ofNat (o + len))), .val (.int 2), .val (.ref ma139), .val (.ref ma140), .val (.ref ma141), .val (.ref ma142), .val (.ref a143), .val (.ref a151), .val (.long (if d < c162 len then 0 else 1)), .second, .val (.int 1), .val (.long (if d < c170 len then 0 else 1)), .second, .val (.int 1), .val (.long (if d < c178 len then 0 else 1)), .second, .unset, .unset, .unset, .unset] [.long (if d < c178 len then 0 else 1), .long (if d < c178 len then 0 else 1)]
    refine G.lcmp_ne K Dx_245 Dx_246 (fun q => absurd rfl q) (fun q181 => ?_)
    refine G.iconst K Dx_249 1 rfl ?_
    refine G.goto K Dx_250 ?_
    refine G.istore K Dx_254 ([.val (.int p0), .val (.long p1), .second, .val (.long p2), .second, .val (.long p3), .second, .val (.long p4), .second, .val (.int (Int32.ofNat o)), .val (.int (Int32.ofNat len)), .val (.int (Int32.ofNat d)), .val (.int (Int32.ofNat (o + len))), .val (.int 2), .val (.ref ma139), .val (.ref ma140), .val (.ref ma141), .val (.ref ma142), .val (.ref a143), .val (.ref a151), .val (.long (if d < c162 len then 0 else 1)), .second, .val (.int 1), .val (.long (if d < c170 len then 0 else 1)), .second, .val (.int 1), .val (.long (if d < c178 len then 0 else 1)), .second, .val (.int 1), .unset, .unset, .unset]) rfl ?_
    refine G.aload K Dx_256 rfl rfl ?_
    refine G.aload K Dx_258 rfl rfl ?_
    have H182 : Hp n0 h180 [(ma142, La Z [(mk0 p4 o), p4]), (a143, Ia Z [(Int32.ofNat (c178 0)), (Int32.ofNat (c178 1)), (Int32.ofNat (c178 2)), (Int32.ofNat (c178 3)), (Int32.ofNat (c178 4))]), (a151, Ob Z "com/example/bitstride/bitstride/search/EditDistances" NSE [.ref ra153, .ref fa153, .int (Int32.ofNat (o + len)), .int (Int32.ofNat ((o + len - 1) % 64)), .int (Int32.ofNat (o + d)), .int (Int32.ofNat (o + c178 len))]), (ra153, La Z [r178_0, r178_1]), (fa153, La Z [f178_0, f178_1]), (ma141, La Z [(mk0 p3 o), p3]), (ma140, La Z [(mk0 p2 o), p2]), (ma139, La Z [(mk0 p1 o), p1])] := H180.pull 7 rfl
    have H183 : Hp n0 h180 [(fa153, La Z [f178_0, f178_1]), (ma142, La Z [(mk0 p4 o), p4]), (a143, Ia Z [(Int32.ofNat (c178 0)), (Int32.ofNat (c178 1)), (Int32.ofNat (c178 2)), (Int32.ofNat (c178 3)), (Int32.ofNat (c178 4))]), (a151, Ob Z "com/example/bitstride/bitstride/search/EditDistances" NSE [.ref ra153, .ref fa153, .int (Int32.ofNat (o + len)), .int (Int32.ofNat ((o + len - 1) % 64)), .int (Int32.ofNat (o + d)), .int (Int32.ofNat (o + c178 len))]), (ra153, La Z [r178_0, r178_1]), (ma141, La Z [(mk0 p3 o), p3]), (ma140, La Z [(mk0 p2 o), p2]), (ma139, La Z [(mk0 p1 o), p1])] := H182.pull 4 rfl
    have H184 : Hp n0 h180 [(ra153, La Z [r178_0, r178_1]), (fa153, La Z [f178_0, f178_1]), (ma142, La Z [(mk0 p4 o), p4]), (a143, Ia Z [(Int32.ofNat (c178 0)), (Int32.ofNat (c178 1)), (Int32.ofNat (c178 2)), (Int32.ofNat (c178 3)), (Int32.ofNat (c178 4))]), (a151, Ob Z "com/example/bitstride/bitstride/search/EditDistances" NSE [.ref ra153, .ref fa153, .int (Int32.ofNat (o + len)), .int (Int32.ofNat ((o + len - 1) % 64)), .int (Int32.ofNat (o + d)), .int (Int32.ofNat (o + c178 len))]), (ma141, La Z [(mk0 p3 o), p3]), (ma140, La Z [(mk0 p2 o), p2]), (ma139, La Z [(mk0 p1 o), p1])] := H183.pull 4 rfl
    have H185 : Hp n0 h180 [(a151, Ob Z "com/example/bitstride/bitstride/search/EditDistances" NSE [.ref ra153, .ref fa153, .int (Int32.ofNat (o + len)), .int (Int32.ofNat ((o + len - 1) % 64)), .int (Int32.ofNat (o + d)), .int (Int32.ofNat (o + c178 len))]), (ra153, La Z [r178_0, r178_1]), (fa153, La Z [f178_0, f178_1]), (ma142, La Z [(mk0 p4 o), p4]), (a143, Ia Z [(Int32.ofNat (c178 0)), (Int32.ofNat (c178 1)), (Int32.ofNat (c178 2)), (Int32.ofNat (c178 3)), (Int32.ofNat (c178 4))]), (ma141, La Z [(mk0 p3 o), p3]), (ma140, La Z [(mk0 p2 o), p2]), (ma139, La Z [(mk0 p1 o), p1])] := H184.pull 4 rfl
    refine G.callV K hl (wd hw 38 rfl) (wd hw 39 rfl) (wd hw 41 rfl) (wd hw 40 rfl) (wd hw 9 rfl) (wd hw 42 rfl) (by decide) pd_7 (H185.exa (i := 0) rfl) (ct_step2 l Z a0 hw n0 h180 a151 ra153 fa153 (Int32.ofNat (o + len)) (Int32.ofNat ((o + len - 1) % 64)) (Int32.ofNat (o + d)) (Int32.ofNat (o + c178 len)) r178_0 r178_1 f178_0 f178_1 ma142 (mk0 p4 o) p4 [(a143, Ia Z [(Int32.ofNat (c178 0)), (Int32.ofNat (c178 1)), (Int32.ofNat (c178 2)), (Int32.ofNat (c178 3)), (Int32.ofNat (c178 4))]), (ma141, La Z [(mk0 p3 o), p3]), (ma140, La Z [(mk0 p2 o), p2]), (ma139, La Z [(mk0 p1 o), p1])] H185) 0 rfl (by decide) (by decide) (by decide) (by decide) rfl rfl [.ref ma142] rfl Dx_260 ?_
    rintro _ h186 ⟨rfl, H186⟩
    obtain ⟨w186, d186⟩ := ed2 (x := p4) hl1 ho (by omega) (by omega) w178
    rw [d186] at H186 ⊢
    have b186 := colS_le (mtF p4 o) c178 len
    rw [own_ret ho (by omega) (by omega)]
    obtain ⟨c186, ec186⟩ : ∃ g, g = colS (mtF p4 o) c178 := ⟨_, rfl⟩
    obtain ⟨r186_0, er186_0⟩ : ∃ g, g = wR (mk0 p4 o) r178_0 f178_0 0 0 := ⟨_, rfl⟩
    obtain ⟨f186_0, ef186_0⟩ : ∃ g, g = wF (mk0 p4 o) r178_0 f178_0 0 0 := ⟨_, rfl⟩
    obtain ⟨r186_1, er186_1⟩ : ∃ g, g = wR p4 r178_1 f178_1 (XT.ushrL (wRA (mk0 p4 o) r178_0 f178_0 0) 63) (XT.ushrL (wFA (mk0 p4 o) r178_0 0) 63) := ⟨_, rfl⟩
    obtain ⟨f186_1, ef186_1⟩ : ∃ g, g = wF p4 r178_1 f178_1 (XT.ushrL (wRA (mk0 p4 o) r178_0 f178_0 0) 63) (XT.ushrL (wFA (mk0 p4 o) r178_0 0) 63) := ⟨_, rfl⟩
    rw [← er186_0, ← ef186_0, ← er186_1, ← ef186_1, ← ec186] at w186
    rw [← er186_0, ← ef186_0, ← er186_1, ← ef186_1, ← ec186] at H186
    rw [← ec186]
    rw [← ec186] at b186
    have l186 : ∀ j, c186 j ≤ j := fun j => by rw [ec186]; exact colS_le _ _ _
    change G k n0 _ h186 _ _ 263 [.val (.int p0), .val (.long p1), .second, .val (.long p2), .second, .val (.long p3), .second, .val (.long p4), .second, .val (.int (Int32.ofNat o)), .val (.int (Int32.ofNat len)), .val (.int (Int32.ofNat d)), .val (.int (Int32.ofNat (o + len))), .val (.int 2), .val (.ref ma139), .val (.ref ma140), .val (.ref ma141), .val (.ref ma142), .val (.ref a143), .val (.ref a151), .val (.long (if d < c162 len then 0 else 1)), .second, .val (.int 1), .val (.long (if d < c170 len then 0 else 1)), .second, .val (.int 1), .val (.long (if d < c178 len then 0 else 1)), .second, .val (.int 1), .unset, .unset, .unset] [.long (if d < c186 len then 0 else 1)]
    refine G.lstore K Dx_263 ([.val (.int p0), .val (.long p1), .second, .val (.long p2), .second, .val (.long p3), .second, .val (.long p4), .second, .val (.int (Int32.ofNat o)), .val (.int (Int32.ofNat len)), .val (.int (Int32.ofNat d)), .val (.int (Int32.ofNat (o + len))), .val (.int 2), .val (.ref ma139), .val (.ref ma140), .val (.ref ma141), .val (.ref ma142), .val (.ref a143), .val (.ref a151), .val (.long (if d < c162 len then 0 else 1)), .second, .val (.int 1), .val (.long (if d < c170 len then 0 else 1)), .second, .val (.int 1), .val (.long (if d < c178 len then 0 else 1)), .second, .val (.int 1), .val (.long (if d < c186 len then 0 else 1)), .second, .unset]) rfl ?_
    refine G.aload K Dx_265 rfl rfl ?_
    refine G.lload K Dx_267 rfl ?_
    refine G.iload K Dx_269 rfl ?_
    have H187 : Hp n0 h186 [(a143, Ia Z [(Int32.ofNat (c178 0)), (Int32.ofNat (c178 1)), (Int32.ofNat (c178 2)), (Int32.ofNat (c178 3)), (Int32.ofNat (c178 4))]), (a151, Ob Z "com/example/bitstride/bitstride/search/EditDistances" NSE [.ref ra153, .ref fa153, .int (Int32.ofNat (o + len)), .int (Int32.ofNat ((o + len - 1) % 64)), .int (Int32.ofNat (o + d)), .int (Int32.ofNat (o + c186 len))]), (ra153, La Z [r186_0, r186_1]), (fa153, La Z [f186_0, f186_1]), (ma142, La Z [(mk0 p4 o), p4]), (ma141, La Z [(mk0 p3 o), p3]), (ma140, La Z [(mk0 p2 o), p2]), (ma139, La Z [(mk0 p1 o), p1])] := H186.pull 4 rfl
    refine G.callS K hl (wd hw 43 rfl) (wd hw 44 rfl) (wd hw 2 rfl) (wd hw 45 rfl) (by decide) pd_8 (ct_advance l Z a0 hw n0 h186 a143 p4 o c178 [(a151, Ob Z "com/example/bitstride/bitstride/search/EditDistances" NSE [.ref ra153, .ref fa153, .int (Int32.ofNat (o + len)), .int (Int32.ofNat ((o + len - 1) % 64)), .int (Int32.ofNat (o + d)), .int (Int32.ofNat (o + c186 len))]), (ra153, La Z [r186_0, r186_1]), (fa153, La Z [f186_0, f186_1]), (ma142, La Z [(mk0 p4 o), p4]), (ma141, La Z [(mk0 p3 o), p3]), (ma140, La Z [(mk0 p2 o), p2]), (ma139, La Z [(mk0 p1 o), p1])] ho w178.1 l178 H187) 0 rfl (by decide) (by decide) (by decide) (by decide) rfl rfl [.int (Int32.ofNat o), .long p4, .ref a143] rfl Dx_271 ?_
    rintro _ h188 ⟨rfl, H188⟩
    rw [← ec186] at H188
    change G k n0 _ h188 _ _ 274 [.val (.int p0), .val (.long p1), .second, .val (.long p2), .second, .val (.long p3), .second, .val (.long p4), .second, .val (.int (Int32.ofNat o)), .val (.int (Int32.ofNat len)), .val (.int (Int32.ofNat d)), .val (.int (Int32.ofNat (o + len))), .val (.int 2), .val (.ref ma139), .val (.ref ma140), .val (.ref ma141), .val (.ref ma142), .val (.ref a143), .val (.ref a151), .val (.long (if d < c162 len then 0 else 1)), .second, .val (.int 1), .val (.long (if d < c170 len then 0 else 1)), .second, .val (.int 1), .val (.long (if d < c178 len then 0 else 1)), .second, .val (.int 1), .val (.long (if d < c186 len then 0 else 1)), .second, .unset] []
    refine G.lload K Dx_274 rfl ?_
    refine G.aload K Dx_276 rfl rfl ?_
    refine G.iload K Dx_278 rfl ?_
    refine G.aload_i K H188 (i := 0) rfl (own_nneg (by omega)) (by rw [own_nidx (by omega)]; exact own_get5 (by omega)) Dx_280 ?_
    refine G.iload K Dx_281 rfl ?_
    refine G.callS K hl (wd hw 56 rfl) (wd hw 57 rfl) (wd hw 2 rfl) (wd hw 58 rfl) (by decide) pd_9 (ct_expected l Z a0 hw n0 _ (c186 len) d (by have := l186 len; omega) (by omega)) 2 rfl (by decide) (by decide) (by decide) (by decide) rfl rfl [.int (Int32.ofNat d), .int (Int32.ofNat (c186 len))] rfl Dx_283 ?_
    rintro _ _ ⟨rfl, rfl⟩
    change G k n0 _ h188 _ _ 286 [.val (.int p0), .val (.long p1), .second, .val (.long p2), .second, .val (.long p3), .second, .val (.long p4), .second, .val (.int (Int32.ofNat o)), .val (.int (Int32.ofNat len)), .val (.int (Int32.ofNat d)), .val (.int (Int32.ofNat (o + len))), .val (.int 2), .val (.ref ma139), .val (.ref ma140), .val (.ref ma141), .val (.ref ma142), .val (.ref a143), .val (.ref a151), .val (.long (if d < c162 len then 0 else 1)), .second, .val (.int 1), .val (.long (if d < c170 len then 0 else 1)), .second, .val (.int 1), .val (.long (if d < c178 len then 0 else 1)), .second, .val (.int 1), .val (.long (if d < c186 len then 0 else 1)), .second, .unset] [.long (if d < c186 len then 0 else 1), .long (if d < c186 len then 0 else 1)]
    refine G.lcmp_ne K Dx_286 Dx_287 (fun q => absurd rfl q) (fun q189 => ?_)
    refine G.iconst K Dx_290 1 rfl ?_
    refine G.goto K Dx_291 ?_
    refine G.istore K Dx_295 ([.val (.int p0), .val (.long p1), .second, .val (.long p2), .second, .val (.long p3), .second, .val (.long p4), .second, .val (.int (Int32.ofNat o)), .val (.int (Int32.ofNat len)), .val (.int (Int32.ofNat d)), .val (.int (Int32.ofNat (o + len))), .val (.int 2), .val (.ref ma139), .val (.ref ma140), .val (.ref ma141), .val (.ref ma142), .val (.ref a143), .val (.ref a151), .val (.long (if d < c162 len then 0 else 1)), .second, .val (.int 1), .val (.long (if d < c170 len then 0 else 1)), .second, .val (.int 1), .val (.long (if d < c178 len then 0 else 1)), .second, .val (.int 1), .val (.long (if d < c186 len then 0 else 1)), .second, .val (.int 1)]) rfl ?_
    refine G.iload K Dx_297 rfl ?_
    refine G.if_eq K Dx_299 (fun q => absurd q (by decide)) (fun _ => ?_)
    refine G.iload K Dx_302 rfl ?_
    refine G.if_eq K Dx_304 (fun q => absurd q (by decide)) (fun _ => ?_)
    refine G.iload K Dx_307 rfl ?_
    refine G.if_eq K Dx_309 (fun q => absurd q (by decide)) (fun _ => ?_)
    refine G.iload K Dx_312 rfl ?_
    refine G.if_eq K Dx_314 (fun q => absurd q (by decide)) (fun _ => ?_)
    refine G.iconst K Dx_317 1 rfl ?_
    refine G.goto K Dx_318 ?_
    refine G.ret_bool K Dx_322 ?_
    exact rfl
set_option maxRecDepth 65536 in
set_option maxHeartbeats 40000000 in
theorem comes_1 {Post : Tables → Env → Array Value → State → Outcome → State → Prop} (hpost : ∀ tb e args s v u, (limb_1_1.after args s (.returned v) u = true ∧ limb_1_2.after args s (.returned v) u = true ∧ True) → FrameEnd s (.returned v) u (Jvm.fieldLocs frame_1_writes args s ++ Jvm.arrayLocs frame_1_arrays args s ++ Jvm.staticLocs frame_1_statics s) 24 128 → Post tb e args s (.returned v) u) :
    ArmFor flags0 classFile x code maxLocals ret World_1 tables_1 room_1 Calls_1 rest_1 Pre_1 Post := by
  intro l hfl _ _ p e ha hc hk s m args below hf hA hF happ hP
  obtain ⟨hcalls, hrest, hpre⟩ := hP
  obtain ⟨-, -, -, hnamed, -, -, -, hat⟩ := (Spec.applies_iff hf).mp happ
  obtain ⟨hg, hn⟩ := and_e (Cond.before_iff.mp (show (Jvm.Cond.and given_1 narrow_1).before args s = true from hpre))
  obtain ⟨g0, g1⟩ := and_e hg
  obtain ⟨u0, v0⟩ := and_e g1
  obtain ⟨u1, v1⟩ := and_e v0
  obtain ⟨u2, v2⟩ := and_e v1
  obtain ⟨u3, v3⟩ := and_e v2
  obtain ⟨w0, w1, w2, w3, w4, rfl⟩ : ∃ w0 w1 w2 w3 w4 : Value, args = #[w0, w1, w2, w3, w4] := by
    have hs : args.size = 5 := by simpa [Cond.value, given_1] using g0
    obtain ⟨L⟩ := args
    match L, hs with
    | [w0, w1, w2, w3, w4], _ => exact ⟨w0, w1, w2, w3, w4, rfl⟩
  have hw := fun d (hd : d ∈ tables_1) => atoms_spec (ws := Jvm.Cond.code x code maxLocals ret :: tables_1) hat d (List.mem_cons_of_mem _ hd)
  obtain ⟨i0, ei0⟩ := is_v u0
  obtain rfl : w0 = (.int i0) := Option.some.inj ei0
  obtain ⟨i1, ei1⟩ := isL_v u1
  obtain rfl : w1 = (.long i1) := Option.some.inj ei1
  obtain ⟨i2, ei2⟩ := isL_v u2
  obtain rfl : w2 = (.long i2) := Option.some.inj ei2
  obtain ⟨i3, ei3⟩ := isL_v u3
  obtain rfl : w3 = (.long i3) := Option.some.inj ei3
  obtain ⟨i4, ei4⟩ := isL_v v3
  obtain rfl : w4 = (.long i4) := Option.some.inj ei4
  obtain ⟨n, o, h1, h2, h3, _, L, rfl, ⟨rfl, N⟩, hq⟩ := ct_law l s _ hw s.heap.size s.heap i0 i1 i2 i3 i4 (Nat.le_refl _) tables_1 p e ha hc hk s m _ below hf ((Spec.applies_iff_loose hf).mp happ).1 ⟨rfl, State.Warmed39.refl s, rfl⟩ trivial
  refine ⟨n, _, h1, h2, h3, hpost _ _ _ _ _ _ ⟨Cond.after_iff.mpr rfl, Cond.after_iff.mpr (eq_i res_at (Term.int_eval (1)) rfl), trivial⟩ ⟨hq.1, hq.2.1, (hq.2.2.sift fun y hy => Or.inr (N y hy)).mono (by decide) (by decide)⟩⟩
theorem main_1_1 : Claimed_1_1 := comes_1 fun _ _ _ _ _ _ h hF => ⟨h.1, hF⟩
theorem main_1_2 : Claimed_1_2 := comes_1 fun _ _ _ _ _ _ h hF => ⟨h.2.1, hF⟩
end Jvm.Pilot.@@N@@
namespace Jvm.Pilot.@@N@@
open Jvm Jvm.ClassFile Sem Op Lib Jvm.Free Jvm.Stand Jvm.Pilot.@@N@@.Jvm.D
/-! MADE BY PROGRAM (witnessworld.py) out of the Statement's table words and the real class files: 14 classes; the members and pool entries that the words name. The judged class is class 1, her method 1. -/
namespace start1
open Jvm.ClassFile
def u (s : String) : CpInfo := .utf8 (stringToUtf16 s)
/-- a pool by its gaps: so many unusable entries, then the entry; so many at the end -/
def gap : Nat → List CpInfo → List CpInfo
  | 0, r => r
  | n + 1, r => .unusable :: gap n r
def poolList (es : List (Nat × CpInfo)) (last : Nat) : List CpInfo := es.foldr (fun e r => gap e.1 (e.2 :: r)) (gap last [])
def pool (es : List (Nat × CpInfo)) (last : Nat) : Array CpInfo := ⟨poolList es last⟩
def fileOf (pool : Array CpInfo) (this : Nat) (attrs : Array Attribute := #[]) (ms : Array MethodInfo := #[]) (fl : Nat := 33) (sup : Nat := 0) (ifs : Array Nat := #[]) (fds : Array FieldInfo := #[]) : ClassFile where
  minorVersion := 0
  majorVersion := 65
  constantPool := pool
  accessFlags := fl
  thisClass := this
  superClass := sup
  interfaces := ifs
  fields := fds
  methods := ms
  attributes := attrs
def plain (name : String) (sup : Option ClassId) : Class where
  name := name
  kind := .ordinary
  loader := none
  accessFlags := 33
  super := sup
  interfaces := #[]
  cf := none
  fields := #[]
  methods := #[]
  instanceTypes := #[]
  staticTypes := #[]
  resolved := #[]
  callSites := []
  init := .initialized
  statics := none
  mirror := none

def pool0 : Array CpInfo := pool [(5, u "<init>"), (0, u "()V"), (1, .class_ 10), (1, u "java/lang/Object")] 113

def k0c0 : Code := { maxStack := 0, maxLocals := 1, code := object_method_1_code, exceptionTable := #[], attributes := #[] }
def k0m0 : Method := { name := "<init>", desc := "()V", sig := { parameters := [], returnType := none }, accessFlags := 1, code := some k0c0 }
/-- java/lang/Object -/
def k0 : Class := { plain "java/lang/Object" none with
  accessFlags := 33
  interfaces := #[]
  cf := some (fileOf pool0 8 #[] #[{ accessFlags := 1, nameIndex := 5, descriptorIndex := 6, attributes := #[] }] 33 0 #[] #[])
  fields := #[]
  methods := #[k0m0]
  instanceTypes := #[]
  staticTypes := #[]
  resolved := Array.replicate 124 none
  statics := none }

def pool1 : Array CpInfo := pool [(2, .class_ 4), (1, u "java/lang/Object"), (0, u "<init>"), (0, u "()V"), (0, .methodref 8 9), (0, .class_ 10), (0, .nameAndType 11 12), (0, u "com/example/bitstride/bitstride/search/EditDistancesStepPinLaw"), (0, u "maskOf"), (0, u "(JI)[J"), (0, .class_ 14), (0, u "com/example/bitstride/bitstride/search/EditDistances"), (0, .methodref 13 16), (0, .nameAndType 5 17), (0, u "(III)V"), (0, .methodref 13 19), (0, .nameAndType 20 6), (0, u "restart"), (0, .methodref 13 22), (0, .nameAndType 23 24), (0, u "step"), (0, u "([J)J"), (0, .methodref 8 26), (0, .nameAndType 27 28), (0, u "advance"), (0, u "([IJI)V"), (0, .methodref 8 30), (0, .nameAndType 31 32), (0, u "expected"), (0, u "(II)J"), (0, .long 18446744073709551615), (1, .methodref 36 37), (0, .class_ 38), (0, .nameAndType 39 40), (0, u "java/lang/Math"), (0, u "min"), (0, u "(II)I"), (0, .methodref 8 42), (0, .nameAndType 43 44), (0, u "bit"), (0, u "(JI)Z"), (0, .methodref 8 46), (0, .nameAndType 47 48), (0, u "cell"), (0, u "(IIIZ)I"), (2, u "law"), (0, u "(IJJJJ)Z")] 7

def k1m0 : Method := { name := "<init>", desc := "()V", sig := { parameters := [], returnType := none }, accessFlags := 1, code := none }
def k1c1 : Code := { maxStack := 6, maxLocals := 32, code := code, exceptionTable := #[], attributes := #[] }
def k1m1 : Method := { name := "law", desc := "(IJJJJ)Z", sig := { parameters := [.int, .long, .long, .long, .long], returnType := some .boolean }, accessFlags := 9, code := some k1c1 }
def k1c2 : Code := { maxStack := 7, maxLocals := 4, code := method_3_code, exceptionTable := #[], attributes := #[] }
def k1m2 : Method := { name := "maskOf", desc := "(JI)[J", sig := { parameters := [.long, .int], returnType := some (.array .long) }, accessFlags := 10, code := some k1c2 }
def k1c3 : Code := { maxStack := 2, maxLocals := 2, code := method_4_code, exceptionTable := #[], attributes := #[] }
def k1m3 : Method := { name := "expected", desc := "(II)J", sig := { parameters := [.int, .int], returnType := some .long }, accessFlags := 10, code := some k1c3 }
def k1c4 : Code := { maxStack := 4, maxLocals := 3, code := method_5_code, exceptionTable := #[], attributes := #[] }
def k1m4 : Method := { name := "bit", desc := "(JI)Z", sig := { parameters := [.long, .int], returnType := some .boolean }, accessFlags := 10, code := some k1c4 }
def k1c5 : Code := { maxStack := 3, maxLocals := 5, code := method_6_code, exceptionTable := #[], attributes := #[] }
def k1m5 : Method := { name := "cell", desc := "(IIIZ)I", sig := { parameters := [.int, .int, .int, .boolean], returnType := some .int }, accessFlags := 10, code := some k1c5 }
def k1c6 : Code := { maxStack := 7, maxLocals := 8, code := method_7_code, exceptionTable := #[], attributes := #[] }
def k1m6 : Method := { name := "advance", desc := "([IJI)V", sig := { parameters := [(.array .int), .long, .int], returnType := none }, accessFlags := 10, code := some k1c6 }
/-- com/example/bitstride/bitstride/search/EditDistancesStepPinLaw -/
def k1 : Class := { plain "com/example/bitstride/bitstride/search/EditDistancesStepPinLaw" (some 0) with
  accessFlags := 49
  interfaces := #[]
  cf := some (fileOf pool1 8 #[] #[{ accessFlags := 1, nameIndex := 5, descriptorIndex := 6, attributes := #[] }, { accessFlags := 9, nameIndex := 51, descriptorIndex := 52, attributes := #[] }, { accessFlags := 10, nameIndex := 11, descriptorIndex := 12, attributes := #[] }, { accessFlags := 10, nameIndex := 31, descriptorIndex := 32, attributes := #[] }, { accessFlags := 10, nameIndex := 43, descriptorIndex := 44, attributes := #[] }, { accessFlags := 10, nameIndex := 47, descriptorIndex := 48, attributes := #[] }, { accessFlags := 10, nameIndex := 27, descriptorIndex := 28, attributes := #[] }] 49 2 #[] #[])
  fields := #[]
  methods := #[k1m0, k1m1, k1m2, k1m3, k1m4, k1m5, k1m6]
  instanceTypes := #[]
  staticTypes := #[]
  resolved := Array.replicate 60 none
  statics := none }

def pool2 : Array CpInfo := pool [(1, .class_ 2), (0, u "com/example/bitstride/bitstride/search/Recurrence"), (0, .class_ 4), (0, u "java/lang/Object")] 6

/-- com/example/bitstride/bitstride/search/Recurrence -/
def k2 : Class := { plain "com/example/bitstride/bitstride/search/Recurrence" (some 0) with
  accessFlags := 1536
  interfaces := #[]
  cf := some (fileOf pool2 1 #[] #[] 1536 3 #[] #[])
  fields := #[]
  methods := #[]
  instanceTypes := #[]
  staticTypes := #[]
  resolved := Array.replicate 11 none
  statics := none }

def pool3 : Array CpInfo := pool [(1, .methodref 2 3), (0, .class_ 4), (0, .nameAndType 5 6), (0, u "java/lang/Object"), (0, u "<init>"), (0, u "()V"), (0, .fieldref 8 9), (0, .class_ 10), (0, .nameAndType 11 12), (0, u "com/example/bitstride/bitstride/search/EditDistances"), (0, u "rising"), (0, u "[J"), (0, .fieldref 8 14), (0, .nameAndType 15 12), (0, u "falling"), (0, .fieldref 8 17), (0, .nameAndType 18 19), (0, u "length"), (0, u "I"), (2, .fieldref 8 23), (0, .nameAndType 24 19), (0, u "lastBit"), (0, .fieldref 8 26), (0, .nameAndType 27 19), (0, u "maxErrors"), (0, .long 18446744073709551615), (1, .methodref 31 32), (0, .class_ 33), (0, .nameAndType 34 35), (0, u "java/util/Arrays"), (0, u "fill"), (0, u "([JJ)V"), (0, .fieldref 8 37), (0, .nameAndType 38 19), (0, u "distance"), (0, .class_ 40), (0, u "com/example/bitstride/bitstride/search/Recurrence"), (0, u "(III)V"), (2, u "restart"), (0, u "step"), (0, u "([J)J")] 4

def k3c0 : Code := { maxStack := 3, maxLocals := 4, code := prog_17_method_1_code, exceptionTable := #[], attributes := #[] }
def k3m0 : Method := { name := "<init>", desc := "(III)V", sig := { parameters := [.int, .int, .int], returnType := none }, accessFlags := 0, code := some k3c0 }
def k3c1 : Code := { maxStack := 3, maxLocals := 1, code := prog_17_method_2_code, exceptionTable := #[], attributes := #[] }
def k3m1 : Method := { name := "restart", desc := "()V", sig := { parameters := [], returnType := none }, accessFlags := 1, code := some k3c1 }
def k3c2 : Code := { maxStack := 8, maxLocals := 29, code := prog_17_method_3_code, exceptionTable := #[], attributes := #[] }
def k3m2 : Method := { name := "step", desc := "([J)J", sig := { parameters := [(.array .long)], returnType := some .long }, accessFlags := 1, code := some k3c2 }
/-- com/example/bitstride/bitstride/search/EditDistances -/
def k3 : Class := { plain "com/example/bitstride/bitstride/search/EditDistances" (some 0) with
  accessFlags := 48
  interfaces := #[2]
  cf := some (fileOf pool3 8 #[] #[{ accessFlags := 0, nameIndex := 5, descriptorIndex := 41, attributes := #[] }, { accessFlags := 1, nameIndex := 44, descriptorIndex := 6, attributes := #[] }, { accessFlags := 1, nameIndex := 45, descriptorIndex := 46, attributes := #[] }] 48 2 #[39] #[{ accessFlags := 18, nameIndex := 11, descriptorIndex := 12, attributes := #[] }, { accessFlags := 18, nameIndex := 15, descriptorIndex := 12, attributes := #[] }, { accessFlags := 18, nameIndex := 18, descriptorIndex := 19, attributes := #[] }, { accessFlags := 18, nameIndex := 24, descriptorIndex := 19, attributes := #[] }, { accessFlags := 18, nameIndex := 27, descriptorIndex := 19, attributes := #[] }, { accessFlags := 2, nameIndex := 38, descriptorIndex := 19, attributes := #[] }])
  fields := #[{ name := "rising", type := (.array .long), accessFlags := 18, slot := 0, constantValue := 0 }, { name := "falling", type := (.array .long), accessFlags := 18, slot := 1, constantValue := 0 }, { name := "length", type := .int, accessFlags := 18, slot := 2, constantValue := 0 }, { name := "lastBit", type := .int, accessFlags := 18, slot := 3, constantValue := 0 }, { name := "maxErrors", type := .int, accessFlags := 18, slot := 4, constantValue := 0 }, { name := "distance", type := .int, accessFlags := 2, slot := 5, constantValue := 0 }]
  methods := #[k3m0, k3m1, k3m2]
  instanceTypes := #[(.array .long), (.array .long), .int, .int, .int, .int]
  staticTypes := #[]
  resolved := Array.replicate 51 none
  statics := none }

def pool4 : Array CpInfo := pool [(2, .class_ 4), (1, u "java/lang/Object"), (0, u "<init>"), (0, u "()V"), (7, .class_ 16), (1, u "java/util/Arrays"), (57, .class_ 76), (1, u "java/util/Arrays$NaturalOrder"), (36, .class_ 115), (1, u "java/util/Arrays$LegacyMergeSort"), (1, u "Z"), (257, .class_ 376), (0, u "java/util/Arrays$ArrayList"), (68, u "$assertionsDisabled"), (269, u "MIN_ARRAY_SORT_GRAN"), (0, u "I"), (2, u "INSERTIONSORT_THRESHOLD"), (120, u "fill"), (0, u "([JJ)V"), (133, .class_ 976), (0, u "java/util/Arrays$ArrayItr")] 52

def k4m0 : Method := { name := "<init>", desc := "()V", sig := { parameters := [], returnType := none }, accessFlags := 2, code := none }
def k4c1 : Code := { maxStack := 4, maxLocals := 5, code := jdk_65_method_101_code, exceptionTable := #[], attributes := #[] }
def k4m1 : Method := { name := "fill", desc := "([JJ)V", sig := { parameters := [(.array .long), .long], returnType := none }, accessFlags := 9, code := some k4c1 }
/-- java/util/Arrays -/
def k4 : Class := { plain "java/util/Arrays" (some 0) with
  accessFlags := 49
  interfaces := #[]
  cf := some (fileOf pool4 14 #[.nestMembers #[975, 375, 113, 74]] #[{ accessFlags := 2, nameIndex := 5, descriptorIndex := 6, attributes := #[] }, { accessFlags := 9, nameIndex := 840, descriptorIndex := 841, attributes := #[] }] 49 2 #[] #[{ accessFlags := 26, nameIndex := 715, descriptorIndex := 716, attributes := #[] }, { accessFlags := 26, nameIndex := 719, descriptorIndex := 716, attributes := #[] }, { accessFlags := 4120, nameIndex := 445, descriptorIndex := 117, attributes := #[] }])
  fields := #[{ name := "MIN_ARRAY_SORT_GRAN", type := .int, accessFlags := 26, slot := 0, constantValue := 0 }, { name := "INSERTIONSORT_THRESHOLD", type := .int, accessFlags := 26, slot := 1, constantValue := 0 }, { name := "$assertionsDisabled", type := .boolean, accessFlags := 4120, slot := 2, constantValue := 0 }]
  methods := #[k4m0, k4m1]
  instanceTypes := #[]
  staticTypes := #[.int, .int, .boolean]
  resolved := Array.replicate 1029 none
  statics := none }

def pool5 : Array CpInfo := pool [(1, .class_ 2), (0, u "java/lang/Math"), (1, .class_ 6), (1, u "java/lang/Object"), (0, u "<init>"), (0, u "()V"), (89, .class_ 100), (1, u "java/lang/Math$RandomNumberGeneratorHolder"), (71, u "negativeZeroFloatBits"), (0, u "J"), (2, u "negativeZeroDoubleBits"), (24, u "min"), (43, u "$assertionsDisabled"), (0, u "Z"), (88, u "(II)I"), (2, u "twoToTheDoubleScaleDown"), (0, u "D"), (4, u "twoToTheDoubleScaleUp"), (9, u "E"), (3, u "PI"), (2, u "TAU"), (2, u "DEGREES_TO_RADIANS"), (0, u "RADIANS_TO_DEGREES")] 94

def k5m0 : Method := { name := "<init>", desc := "()V", sig := { parameters := [], returnType := none }, accessFlags := 2, code := none }
def k5c1 : Code := { maxStack := 2, maxLocals := 2, code := jdk_29_method_69_code, exceptionTable := #[], attributes := #[] }
def k5m1 : Method := { name := "min", desc := "(II)I", sig := { parameters := [.int, .int], returnType := some .int }, accessFlags := 9, code := some k5c1 }
/-- java/lang/Math -/
def k5 : Class := { plain "java/lang/Math" (some 0) with
  accessFlags := 49
  interfaces := #[]
  cf := some (fileOf pool5 1 #[.nestMembers #[98]] #[{ accessFlags := 2, nameIndex := 7, descriptorIndex := 8, attributes := #[] }, { accessFlags := 9, nameIndex := 201, descriptorIndex := 335, attributes := #[] }] 49 4 #[] #[{ accessFlags := 25, nameIndex := 354, descriptorIndex := 339, attributes := #[] }, { accessFlags := 25, nameIndex := 358, descriptorIndex := 339, attributes := #[] }, { accessFlags := 25, nameIndex := 361, descriptorIndex := 339, attributes := #[] }, { accessFlags := 26, nameIndex := 364, descriptorIndex := 339, attributes := #[] }, { accessFlags := 26, nameIndex := 365, descriptorIndex := 339, attributes := #[] }, { accessFlags := 26, nameIndex := 172, descriptorIndex := 173, attributes := #[] }, { accessFlags := 26, nameIndex := 176, descriptorIndex := 173, attributes := #[] }, { accessFlags := 8, nameIndex := 344, descriptorIndex := 339, attributes := #[] }, { accessFlags := 8, nameIndex := 338, descriptorIndex := 339, attributes := #[] }, { accessFlags := 4120, nameIndex := 245, descriptorIndex := 246, attributes := #[] }])
  fields := #[{ name := "E", type := .double, accessFlags := 25, slot := 0, constantValue := 0 }, { name := "PI", type := .double, accessFlags := 25, slot := 1, constantValue := 0 }, { name := "TAU", type := .double, accessFlags := 25, slot := 2, constantValue := 0 }, { name := "DEGREES_TO_RADIANS", type := .double, accessFlags := 26, slot := 3, constantValue := 0 }, { name := "RADIANS_TO_DEGREES", type := .double, accessFlags := 26, slot := 4, constantValue := 0 }, { name := "negativeZeroFloatBits", type := .long, accessFlags := 26, slot := 5, constantValue := 0 }, { name := "negativeZeroDoubleBits", type := .long, accessFlags := 26, slot := 6, constantValue := 0 }, { name := "twoToTheDoubleScaleUp", type := .double, accessFlags := 8, slot := 7, constantValue := 0 }, { name := "twoToTheDoubleScaleDown", type := .double, accessFlags := 8, slot := 8, constantValue := 0 }, { name := "$assertionsDisabled", type := .boolean, accessFlags := 4120, slot := 9, constantValue := 0 }]
  methods := #[k5m0, k5m1]
  instanceTypes := #[]
  staticTypes := #[.double, .double, .double, .double, .double, .long, .long, .double, .double, .boolean]
  resolved := Array.replicate 460 none
  statics := none }

def pool6 : Array CpInfo := pool [(1, u "java/lang/Cloneable"), (0, .class_ 1), (0, u "java/lang/Object"), (0, .class_ 3)] 3

/-- java/lang/Cloneable -/
def k6 : Class := { plain "java/lang/Cloneable" (some 0) with
  accessFlags := 1537
  interfaces := #[]
  cf := some (fileOf pool6 2 #[] #[] 1537 4 #[] #[])
  fields := #[]
  methods := #[]
  instanceTypes := #[]
  staticTypes := #[]
  resolved := Array.replicate 8 none
  statics := none }

def pool7 : Array CpInfo := pool [(1, u "java/io/Serializable"), (0, .class_ 1), (0, u "java/lang/Object"), (0, .class_ 3)] 3

/-- java/io/Serializable -/
def k7 : Class := { plain "java/io/Serializable" (some 0) with
  accessFlags := 1537
  interfaces := #[]
  cf := some (fileOf pool7 2 #[] #[] 1537 4 #[] #[])
  fields := #[]
  methods := #[]
  instanceTypes := #[]
  staticTypes := #[]
  resolved := Array.replicate 8 none
  statics := none }

/-- the primitive byte -/
def k8 : Class := { plain "byte" none with kind := .primitive 'B', accessFlags := 0x411 }
/-- [B -/
def k9 : Class := { plain "[B" (some 0) with kind := .array 8 .byte, interfaces := #[6, 7], accessFlags := 1041 }

/-- the primitive int -/
def k10 : Class := { plain "int" none with kind := .primitive 'I', accessFlags := 0x411 }
/-- [I -/
def k11 : Class := { plain "[I" (some 0) with kind := .array 10 .int, interfaces := #[6, 7], accessFlags := 1041 }

/-- the primitive long -/
def k12 : Class := { plain "long" none with kind := .primitive 'J', accessFlags := 0x411 }
/-- [J -/
def k13 : Class := { plain "[J" (some 0) with kind := .array 12 .long, interfaces := #[6, 7], accessFlags := 1041 }

def heap : Heap := #[]
def classes : Array Class := #[k0, k1, k2, k3, k4, k5, k6, k7, k8, k9, k10, k11, k12, k13]
def interned : List (Array UInt16 × Addr) := []
def slotsUsed : Nat := 0
def theMethod : MethodId := ⟨1, 1⟩
def args0 : Array Value := #[.int 5, .long 6, .long 7, .long 8, .long 9]
def aboutOver (below : List Frame) : State where
  vm := { classes := classes, interned := interned.toArray }
  heap := heap
  slotsUsed := slotsUsed
  threads := #[{ frames := .invoking theMethod args0 :: below }]
def below0 : List Frame := [.native { method := ⟨0, 0⟩, args := #[] }]
def about1 : State := aboutOver below0
def p0 : Program := .bare "" "" ""
def e0 : Env := launch0.env 0 0 0
theorem w_frames : about1.frames = Frame.invoking theMethod args0 :: below0 := rfl
set_option maxRecDepth 65536 in
theorem w_args : argsFit about1.vm theMethod args0 = true := by decide +kernel
set_option maxRecDepth 65536 in
theorem w_heap : heapFits about1 = true := by decide +kernel
set_option maxRecDepth 65536 in
theorem w_runnable : about1.curStatus? = some .runnable := by decide +kernel
set_option maxRecDepth 65536 in
theorem w_alone : about1.alone = true := by decide +kernel
set_option maxRecDepth 65536 in
theorem w_named : about1.methodNamed? x = some theMethod := by decide +kernel
set_option maxRecDepth 65536 in
theorem w_hears : about1.hears theMethod below0 = true := by decide +kernel
set_option maxRecDepth 65536 in
theorem w_ripe : about1.ripe theMethod args0 below0 = true := by decide +kernel
theorem w_running : about1.status = .running := rfl
set_option maxRecDepth 65536 in
theorem w_room : about1.hasRoom e0.platform room_1 = true :=
  launch0.hasRoom_least _ room_1 (by decide +kernel) (by decide +kernel) (by decide +kernel) (by decide +kernel) (by decide +kernel) (by decide +kernel)
theorem allAtoms_all (ts : List Jvm.Cond) (a : Array Jvm.Value) (st : Jvm.State) : (allAtoms ts).before a st = ts.all (fun c => c.before a st) := by
  induction ts with
  | nil => rfl
  | cons c t ih =>
    show (Jvm.Cond.and c (allAtoms t)).before a st = _
    rw [Jvm.Cond.before_and, ih, List.all_cons]
def words1 : List Jvm.Cond := Jvm.Cond.code x code maxLocals ret :: tables_1
/-- a 'code' word, met by the world's own term for the bytes: nothing is compared byte by byte -/
theorem code_word {y : MethodName} {bytes : ByteArray} {mx : Nat} {rt : Option FieldType} {a : Array Value} {s : State} {m : MethodId} {meth : Method} {c : Code} (h1 : s.methodNamed? y = some m) (h2 : s.vm.method? m = some meth) (h3 : meth.code = some c) (h4 : c.code = bytes)
    (h5 : (c.maxLocals == mx && c.exceptionTable.isEmpty && decide (c.maxStack ≤ mostOperands) && decide (meth.sig.returnType = rt) && !meth.locks && decide (parseMethodDescriptor y.desc = some meth.sig)) = true) : (Jvm.Cond.code y bytes mx rt).before a s = true := by
  simp only [Bool.and_eq_true, beq_iff_eq, Bool.not_eq_true', decide_eq_true_eq] at h5
  obtain ⟨⟨⟨⟨⟨g1, g2⟩, g3⟩, g4⟩, g5⟩, g6⟩ := h5
  simp [Cond.before, Cond.holds, Cond.value, h1, h2, h3, h4, g1, g2, g3, g4, g5, g6]
def isCode : Jvm.Cond → Bool
  | .code _ _ _ _ => true
  | _ => false
theorem all_split {L : List Jvm.Cond} {P : Jvm.Cond → Bool} (h1 : L.all (fun c => isCode c || P c) = true) (h2 : ∀ c ∈ L.filter isCode, P c = true) : L.all P = true := by
  refine List.all_eq_true.mpr fun c hc => ?_
  have h := List.all_eq_true.mp h1 c hc
  rcases Bool.eq_false_or_eq_true (isCode c) with hi | hi
  · exact h2 c (List.mem_filter.mpr ⟨hc, hi⟩)
  · simpa [hi] using h
set_option maxRecDepth 65536 in
theorem w_c0 : (Jvm.Cond.code x code maxLocals ret).before args0 about1 = true := code_word (m := ⟨1, 1⟩) (meth := k1m1) (c := k1c1) (by decide +kernel) rfl rfl rfl (by decide +kernel)
set_option maxRecDepth 65536 in
theorem w_c1 : (Jvm.Cond.code ({ cls := "com/example/bitstride/bitstride/search/EditDistancesStepPinLaw", name := "maskOf", desc := "(JI)[J" } : Jvm.MethodName) method_3_code (4 : Nat) (Option.some (Jvm.ClassFile.FieldType.array Jvm.ClassFile.FieldType.long))).before args0 about1 = true := code_word (m := ⟨1, 2⟩) (meth := k1m2) (c := k1c2) (by decide +kernel) rfl rfl rfl (by decide +kernel)
set_option maxRecDepth 65536 in
theorem w_c2 : (Jvm.Cond.code ({ cls := "com/example/bitstride/bitstride/search/EditDistances", name := "<init>", desc := "(III)V" } : Jvm.MethodName) prog_17_method_1_code (4 : Nat) (Option.none : Option Jvm.ClassFile.FieldType)).before args0 about1 = true := code_word (m := ⟨3, 0⟩) (meth := k3m0) (c := k3c0) (by decide +kernel) rfl rfl rfl (by decide +kernel)
set_option maxRecDepth 65536 in
theorem w_c3 : (Jvm.Cond.code ({ cls := "java/lang/Object", name := "<init>", desc := "()V" } : Jvm.MethodName) object_method_1_code (1 : Nat) (Option.none : Option Jvm.ClassFile.FieldType)).before args0 about1 = true := code_word (m := ⟨0, 0⟩) (meth := k0m0) (c := k0c0) (by decide +kernel) rfl rfl rfl (by decide +kernel)
set_option maxRecDepth 65536 in
theorem w_c4 : (Jvm.Cond.code ({ cls := "com/example/bitstride/bitstride/search/EditDistances", name := "restart", desc := "()V" } : Jvm.MethodName) prog_17_method_2_code (1 : Nat) (Option.none : Option Jvm.ClassFile.FieldType)).before args0 about1 = true := code_word (m := ⟨3, 1⟩) (meth := k3m1) (c := k3c1) (by decide +kernel) rfl rfl rfl (by decide +kernel)
set_option maxRecDepth 65536 in
theorem w_c5 : (Jvm.Cond.code ({ cls := "java/util/Arrays", name := "fill", desc := "([JJ)V" } : Jvm.MethodName) jdk_65_method_101_code (5 : Nat) (Option.none : Option Jvm.ClassFile.FieldType)).before args0 about1 = true := code_word (m := ⟨4, 1⟩) (meth := k4m1) (c := k4c1) (by decide +kernel) rfl rfl rfl (by decide +kernel)
set_option maxRecDepth 65536 in
theorem w_c6 : (Jvm.Cond.code ({ cls := "com/example/bitstride/bitstride/search/EditDistances", name := "step", desc := "([J)J" } : Jvm.MethodName) prog_17_method_3_code (29 : Nat) (Option.some Jvm.ClassFile.FieldType.long)).before args0 about1 = true := code_word (m := ⟨3, 2⟩) (meth := k3m2) (c := k3c2) (by decide +kernel) rfl rfl rfl (by decide +kernel)
set_option maxRecDepth 65536 in
theorem w_c7 : (Jvm.Cond.code ({ cls := "com/example/bitstride/bitstride/search/EditDistancesStepPinLaw", name := "advance", desc := "([IJI)V" } : Jvm.MethodName) method_7_code (8 : Nat) (Option.none : Option Jvm.ClassFile.FieldType)).before args0 about1 = true := code_word (m := ⟨1, 6⟩) (meth := k1m6) (c := k1c6) (by decide +kernel) rfl rfl rfl (by decide +kernel)
set_option maxRecDepth 65536 in
theorem w_c8 : (Jvm.Cond.code ({ cls := "com/example/bitstride/bitstride/search/EditDistancesStepPinLaw", name := "bit", desc := "(JI)Z" } : Jvm.MethodName) method_5_code (3 : Nat) (Option.some Jvm.ClassFile.FieldType.boolean)).before args0 about1 = true := code_word (m := ⟨1, 4⟩) (meth := k1m4) (c := k1c4) (by decide +kernel) rfl rfl rfl (by decide +kernel)
set_option maxRecDepth 65536 in
theorem w_c9 : (Jvm.Cond.code ({ cls := "com/example/bitstride/bitstride/search/EditDistancesStepPinLaw", name := "cell", desc := "(IIIZ)I" } : Jvm.MethodName) method_6_code (5 : Nat) (Option.some Jvm.ClassFile.FieldType.int)).before args0 about1 = true := code_word (m := ⟨1, 5⟩) (meth := k1m5) (c := k1c5) (by decide +kernel) rfl rfl rfl (by decide +kernel)
set_option maxRecDepth 65536 in
theorem w_c10 : (Jvm.Cond.code ({ cls := "java/lang/Math", name := "min", desc := "(II)I" } : Jvm.MethodName) jdk_29_method_69_code (2 : Nat) (Option.some Jvm.ClassFile.FieldType.int)).before args0 about1 = true := code_word (m := ⟨5, 1⟩) (meth := k5m1) (c := k5c1) (by decide +kernel) rfl rfl rfl (by decide +kernel)
set_option maxRecDepth 65536 in
theorem w_c11 : (Jvm.Cond.code ({ cls := "com/example/bitstride/bitstride/search/EditDistancesStepPinLaw", name := "expected", desc := "(II)J" } : Jvm.MethodName) method_4_code (2 : Nat) (Option.some Jvm.ClassFile.FieldType.long)).before args0 about1 = true := code_word (m := ⟨1, 3⟩) (meth := k1m3) (c := k1c3) (by decide +kernel) rfl rfl rfl (by decide +kernel)
def codes1 : List Jvm.Cond := [Jvm.Cond.code x code maxLocals ret, Jvm.Cond.code ({ cls := "com/example/bitstride/bitstride/search/EditDistancesStepPinLaw", name := "maskOf", desc := "(JI)[J" } : Jvm.MethodName) method_3_code (4 : Nat) (Option.some (Jvm.ClassFile.FieldType.array Jvm.ClassFile.FieldType.long)), Jvm.Cond.code ({ cls := "com/example/bitstride/bitstride/search/EditDistances", name := "<init>", desc := "(III)V" } : Jvm.MethodName) prog_17_method_1_code (4 : Nat) (Option.none : Option Jvm.ClassFile.FieldType), Jvm.Cond.code ({ cls := "java/lang/Object", name := "<init>", desc := "()V" } : Jvm.MethodName) object_method_1_code (1 : Nat) (Option.none : Option Jvm.ClassFile.FieldType), Jvm.Cond.code ({ cls := "com/example/bitstride/bitstride/search/EditDistances", name := "restart", desc := "()V" } : Jvm.MethodName) prog_17_method_2_code (1 : Nat) (Option.none : Option Jvm.ClassFile.FieldType), Jvm.Cond.code ({ cls := "java/util/Arrays", name := "fill", desc := "([JJ)V" } : Jvm.MethodName) jdk_65_method_101_code (5 : Nat) (Option.none : Option Jvm.ClassFile.FieldType), Jvm.Cond.code ({ cls := "com/example/bitstride/bitstride/search/EditDistances", name := "step", desc := "([J)J" } : Jvm.MethodName) prog_17_method_3_code (29 : Nat) (Option.some Jvm.ClassFile.FieldType.long), Jvm.Cond.code ({ cls := "com/example/bitstride/bitstride/search/EditDistancesStepPinLaw", name := "advance", desc := "([IJI)V" } : Jvm.MethodName) method_7_code (8 : Nat) (Option.none : Option Jvm.ClassFile.FieldType), Jvm.Cond.code ({ cls := "com/example/bitstride/bitstride/search/EditDistancesStepPinLaw", name := "bit", desc := "(JI)Z" } : Jvm.MethodName) method_5_code (3 : Nat) (Option.some Jvm.ClassFile.FieldType.boolean), Jvm.Cond.code ({ cls := "com/example/bitstride/bitstride/search/EditDistancesStepPinLaw", name := "cell", desc := "(IIIZ)I" } : Jvm.MethodName) method_6_code (5 : Nat) (Option.some Jvm.ClassFile.FieldType.int), Jvm.Cond.code ({ cls := "java/lang/Math", name := "min", desc := "(II)I" } : Jvm.MethodName) jdk_29_method_69_code (2 : Nat) (Option.some Jvm.ClassFile.FieldType.int), Jvm.Cond.code ({ cls := "com/example/bitstride/bitstride/search/EditDistancesStepPinLaw", name := "expected", desc := "(II)J" } : Jvm.MethodName) method_4_code (2 : Nat) (Option.some Jvm.ClassFile.FieldType.long)]
set_option maxRecDepth 65536 in
theorem codes_eq : words1.filter isCode = codes1 := rfl
theorem w_codes : ∀ c ∈ words1.filter isCode, c.before args0 about1 = true := by
  rw [codes_eq]
  intro c hc
  simp only [codes1, List.mem_cons, List.not_mem_nil, or_false] at hc
  rcases hc with rfl | rfl | rfl | rfl | rfl | rfl | rfl | rfl | rfl | rfl | rfl | rfl
  · exact w_c0
  · exact w_c1
  · exact w_c2
  · exact w_c3
  · exact w_c4
  · exact w_c5
  · exact w_c6
  · exact w_c7
  · exact w_c8
  · exact w_c9
  · exact w_c10
  · exact w_c11
set_option maxRecDepth 65536 in
theorem w_t1 : (words1.take 24).all (fun c => isCode c || c.before args0 about1) = true := by decide +kernel
set_option maxRecDepth 65536 in
theorem w_t2 : ((words1.drop 24).take 24).all (fun c => isCode c || c.before args0 about1) = true := by decide +kernel
set_option maxRecDepth 65536 in
theorem w_t3 : ((words1.drop 24).drop 24).all (fun c => isCode c || c.before args0 about1) = true := by decide +kernel
theorem w_tables : (allAtoms (Jvm.Cond.code x code maxLocals ret :: tables_1)).before args0 about1 = true := by
  rw [allAtoms_all]
  show words1.all (fun c => c.before args0 about1) = true
  refine all_split ?_ w_codes
  rw [← List.take_append_drop 24 words1, List.all_append, w_t1, ← List.take_append_drop 24 (words1.drop 24), List.all_append, w_t2, w_t3]
  rfl
set_option maxRecDepth 65536 in
theorem w_case : (Jvm.Cond.and given_1 narrow_1).before args0 about1 = true := by decide +kernel
theorem w_applies : (headSpec (Jvm.Cond.code x code maxLocals ret :: tables_1) room_1).applies x e0.platform about1 = true :=
  (Spec.applies_iff w_frames).mpr ⟨w_running, w_runnable, w_alone, w_named, w_hears, w_ripe, w_room, w_tables⟩
theorem atStart : AtStart classFile x code maxLocals ret World_1 tables_1 room_1 Calls_1 rest_1 Pre_1 launch0 p0 e0 about1 theMethod args0 below0 :=
  ⟨lists_1, trivial, launch0.admits_env _ _ _, launch0.least_env, fairChoices_fair.cas, fairChoices_fair.clock, w_frames, w_args, w_heap, w_applies, trivial, trivial, w_case⟩
end start1
theorem witness_1 : WitnessClaimed_1 := ⟨start1.p0, start1.e0, start1.about1, start1.theMethod, start1.args0, start1.below0, start1.atStart⟩
end Jvm.Pilot.@@N@@
