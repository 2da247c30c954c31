import JvmDerived
import JvmDerived.Pilot.@@N@@Statement
import JvmDerived.Pilot.@@N@@Code
set_option linter.unusedVariables false
set_option linter.unusedSimpArgs false
namespace Jvm.RoadKit
open Sem ClassFile Op Lib Jvm.Stand Jvm.Free Jvm.LawKit
section New
variable {p : Program} {l : Launch} {e : Env} {R : Room} {s : State} {m : MethodId} {args : Array Value} {below : List Frame} {meth : Method} {c : Code} {T : State} {locs : List Loc} {cells slots : Nat}
theorem retI (X : Stand p l e R s m args below meth c T locs cells slots) (hx : p.tables.exec = Jvm.exec) {pc : Nat} {Ls : Array Slot} {z : Int32} {rest : List Value} (hret : meth.sig.returnType = some .int) (hd : decode c.code pc = .ok (.ireturn, 1)) {fs : List Frame}
    (hl : ∀ (f : JFrame) (acts : List Action), f.method = m → f.locked = none → f.entered = [] → (doReturn e (T.setTop f) acts (some (.int z))).1 = T.setFrames fs) : Steps p.tables e below (T.setTop (mkF m pc Ls (.int z :: rest))) (T.setFrames fs) := by
  have hm' : T.vm.method? m = some meth := X.method'
  have hn : narrow .int (.int z) = .int z := rfl
  show Steps p.tables e below (T.setTop { method := m, pc := pc, locals := Ls, stack := _ :: rest, locked := none }) _
  jvm_step X.here [X.here.top, hx, hd, hm', hret, hn]
  first | (intro acts; rw [hl _ acts rfl rfl rfl]) | rw [hl _ _ rfl rfl rfl]
  exact Steps.refl _
end New
end Jvm.RoadKit
namespace Jvm.Pilot.@@N@@
open Jvm Jvm.ClassFile Sem Op Lib Jvm.Free Jvm.Stand Jvm.LawKit Jvm.RoadKit Bundle Jvm.Pilot.@@N@@.Jvm.D
section OwnKit
variable {Z : State} {a0 : Array Value} {n0 : Nat} {p : Program} {l : Launch} {e : Env} {R : Room} {s : State} {m : MethodId} {args : Array Value} {below : List Frame} {meth : Method} {c : Code} {code : ByteArray} {ml : Nat} {ret : Option FieldType} {y : MethodName} {T : State} {h h' : Heap} {k j : Nat} {Q : Option Value → Heap → Prop} {pc nx tgt : Nat} {Ls : Array Slot} {S : List Value}
/-- Java's shifts -/
abbrev jshl (x q : Int32) : Int32 := x <<< (q &&& 31)
abbrev jshr (x q : Int32) : Int32 := x >>> (q &&& 31)
abbrev jushr (x q : Int32) : Int32 := (x.toUInt32 >>> (q &&& 31).toUInt32).toInt32
abbrev jshlL (x : Int64) (q : Int32) : Int64 := x <<< (q &&& 0x3f).toInt64
abbrev jshrL (x : Int64) (q : Int32) : Int64 := x >>> (q &&& 0x3f).toInt64
abbrev jushrL (x : Int64) (q : Int32) : Int64 := (x.toUInt64 >>> (q &&& 0x3f).toInt64.toUInt64).toInt64
abbrev jbyte (x : Int32) : Int32 := x.toInt8.toInt32
/-- the instruction at pc, and the pc behind it -/
def Dec (code : ByteArray) (pc : Nat) (i : Instr) (len nx : Nat) : Prop := decode code pc = .ok (i, len) ∧ nx = pc + len
/-- a jump at pc: the pc behind it, and where it goes -/
def Jmp (code : ByteArray) (pc : Nat) (i : Instr) (o : Int) (nx tgt : Nat) : Prop := decode code pc = .ok (i, 3) ∧ nx = pc + 3 ∧ 0 ≤ (pc : Int) + o ∧ ((pc : Int) + o).toNat = tgt
/-- where a body's run stands: the heap, the cells and slots made; nothing older than n0 was written -/
def Pos (Z : State) (a0 : Array Value) (n0 : Nat) (p : Program) (l : Launch) (e : Env) (R : Room) (s : State) (m : MethodId) (args : Array Value) (below : List Frame) (meth : Method) (c : Code) (code : ByteArray) (ml : Nat) (ret : Option FieldType) (y : MethodName) (T : State) (h : Heap) (k j : Nat) : Prop :=
  p.tables.exec = Jvm.exec ∧ Z.Warmed39 s.vm ∧ c.code = code ∧ c.maxLocals = ml ∧ meth.sig.returnType = ret ∧ s.vm.findClass y.cls = some m.cls ∧ meth.name = y.name ∧ meth.locks = false ∧ T.heap = h ∧ n0 ≤ h.size ∧ (∀ d ∈ tables_1, d.before a0 Z = true) ∧ ∃ locs, Fr n0 locs ∧ Stand p l e R s m args below meth c T locs k j
/-- from the frame f over T the body comes to its end, and Q says with what -/
def Wp (n0 : Nat) (p : Program) (e : Env) (R : Room) (s : State) (below : List Frame) (Q : Option Value → Heap → Prop) (T : State) (f : JFrame) : Prop :=
  ∃ t o, Steps p.tables e below (T.setTop f) t ∧ t.status = .running ∧ Ended t below o ∧ ∃ v L, o = .returned v ∧ (Fr n0 L ∧ n0 ≤ t.heap.size ∧ Q v t.heap) ∧ FrameEnd s o t L R.cells R.slots
/-- a body's contract at one array of arguments and one heap -/
def Ctr (l : Launch) (Z : State) (n0 : Nat) (y : MethodName) (code : ByteArray) (ml : Nat) (ret : Option FieldType) (R : Room) (ws : List Jvm.Cond) (as : Array Value) (h : Heap) (Q : Option Value → Heap → Prop) : Prop :=
  MetFree l y (head1 (Jvm.Cond.code y code ml ret :: ws) R) (fun a U => a = as ∧ Z.Warmed39 U.vm ∧ U.heap = h) (fun _ _ _ _ _ => True) (fun _ U o U' => ∃ v L, o = .returned v ∧ (Fr n0 L ∧ n0 ≤ U'.heap.size ∧ Q v U'.heap) ∧ FrameEnd U o U' L R.cells R.slots)
/-- an array of n places: place i holds g i; it is no older than n0 -/
def Ba (Z : State) (n0 : Nat) (h : Heap) (a : Addr) (ty : FieldType) (n : Nat) (g : Nat → Value) : Prop :=
  n0 ≤ a ∧ n < 2147483648 ∧ ∃ c : Cell, Arr Z h a c ty ∧ c.slots.size = n ∧ ∀ i, i < n → c.slots[i]? = some (g i)
def bI (b : Nat → Int32) : Nat → Value := fun i => .int (b i)
def bJ (b : Nat → Int64) : Nat → Value := fun i => .long (b i)
def upd {α : Type} (b : Nat → α) (i : Nat) (v : α) : Nat → α := fun q => if q = i then v else b q
theorem upd_at {α : Type} (b : Nat → α) (i : Nat) (v : α) : upd b i v i = v := if_pos rfl
theorem upd_ne {α : Type} (b : Nat → α) {i q : Nat} (v : α) (h : q ≠ i) : upd b i v q = b q := if_neg h
theorem Ba.lt {a : Addr} {ty : FieldType} {n : Nat} {g : Nat → Value} (B : Ba Z n0 h a ty n g) : a < h.size := by obtain ⟨-, -, c, A, -⟩ := B; exact A.lt
theorem Ba.ext {a : Addr} {ty : FieldType} {n : Nat} {g : Nat → Value} (B : Ba Z n0 h a ty n g) (E : Ext h h') : Ba Z n0 h' a ty n g := by obtain ⟨q1, q2, c, A, r⟩ := B; exact ⟨q1, q2, c, A.ext E, r⟩
theorem Ba.keep {a : Addr} {ty : FieldType} {n : Nat} {g : Nat → Value} {ws : List Addr} (B : Ba Z n0 h a ty n g) (K : Keep h h' ws) (q : a ∉ ws) : Ba Z n0 h' a ty n g := by obtain ⟨q1, q2, c, A, r⟩ := B; exact ⟨q1, q2, c, ⟨K.2.1 a c A.1 q, A.2⟩, r⟩
theorem Ba.congr {a : Addr} {ty : FieldType} {n : Nat} {g g' : Nat → Value} (B : Ba Z n0 h a ty n g) (q : ∀ i, i < n → g i = g' i) : Ba Z n0 h a ty n g' := by obtain ⟨q1, q2, c, A, r1, r2⟩ := B; exact ⟨q1, q2, c, A, r1, fun i hi => by rw [r2 i hi, q i hi]⟩
theorem ofNat_toInt {n : Nat} (h : n < 2147483648) : (Int32.ofNat n).toInt = n := Int32.toInt_ofNat_of_lt (by omega)
theorem ofNat_clamp {n : Nat} (h : n < 2147483648) : (Int32.ofNat n).toNatClampNeg = n := by rw [Int32.toNatClampNeg, ofNat_toInt h]; rfl
theorem ofNat_nn {n : Nat} (h : n < 2147483648) : ¬ Int32.ofNat n < 0 := by rw [Int32.lt_iff_toInt_lt, ofNat_toInt h, show (0 : Int32).toInt = 0 from rfl]; omega
theorem ofNat_lt {a b : Nat} (ha : a < 2147483648) (hb : b < 2147483648) : Int32.ofNat a < Int32.ofNat b ↔ a < b := by rw [Int32.lt_iff_toInt_lt, ofNat_toInt ha, ofNat_toInt hb]; omega
theorem eq_ofNat {x : Int32} {n : Nat} (hn : n < 2147483648) (h : x.toInt = n) : x = Int32.ofNat n := Int32.toInt_inj.mp (by rw [h, ofNat_toInt hn])
theorem inb {c : Cell} {n i : Nat} (hn : n < 2147483648) (hc : c.slots.size = n) (hi : i < n) : ¬ (Int32.ofNat i < 0 ∨ c.slots.size ≤ (Int32.ofNat i).toNatClampNeg) := by
  rw [hc, ofNat_clamp (by omega)]
  exact fun q => q.elim (ofNat_nn (by omega)) (fun q => by omega)
theorem Pos.sz (X : Pos Z a0 n0 p l e R s m args below meth c code ml ret y T h k j) : n0 ≤ h.size := X.2.2.2.2.2.2.2.2.2.1
theorem Wp.go {T' : State} {f f' : JFrame} (st : ∀ target, Steps p.tables e below (T'.setTop f') target → Steps p.tables e below (T.setTop f) target) (q : Wp n0 p e R s below Q T' f') : Wp n0 p e R s below Q T f := by
  obtain ⟨t, o, h1, r⟩ := q; exact ⟨t, o, st t h1, r⟩
theorem Wp.cast {f f' : JFrame} (q : f = f') (w : Wp n0 p e R s below Q T f') : Wp n0 p e R s below Q T f := q ▸ w
theorem ctr_of {ws : List Jvm.Cond} {as : Array Value} (hp : plainFor y = true) (hw : ∀ d ∈ tables_1, d.before a0 Z = true) (hn : n0 ≤ h.size)
    (body : ∀ p e s m below meth c T, Pos Z a0 n0 p l e R s m as below meth c code ml ret y T h 0 0 → Wp n0 p e R s below Q T (entryFrame m as ml)) : Ctr l Z n0 y code ml ret R ws as h Q := by
  refine MetFree.of_bodySF hp hisR ?_
  intro p e s m args below meth c s₁ Bd hml0 hP hK
  obtain ⟨rfl, hZ, hh⟩ := hP
  exact body p e s m below meth c s₁ ⟨Bd.exec, hZ, Bd.bytes, hml0, Bd.returns, findClass_of_methodNamed Bd.named, (name_of_methodNamed Bd.named Bd.method).1, Bd.notSynchronized, by rw [← hh, Bd.state]; rfl, hn, hw, [], Fr.nil _, Stand.of_body Bd⟩
theorem w_iadd (X : Pos Z a0 n0 p l e R s m args below meth c code ml ret y T h k j) {x z : Int32} (hd : Dec code pc .iadd 1 nx) (q : Wp n0 p e R s below Q T (mkF m nx Ls (.int (x + z) :: S))) : Wp n0 p e R s below Q T (mkF m pc Ls (.int z :: .int x :: S)) := by
  obtain ⟨hx, hZ, hby, hml, hret, hown, hnm, hlk, eT, hn0, hw, locs, N, Y⟩ := X
  obtain ⟨hd, rfl⟩ := hd
  exact Wp.go (fun _ q => XS.iadd Y.here hx rfl (hb hby hd) rfl q) q
theorem w_isub (X : Pos Z a0 n0 p l e R s m args below meth c code ml ret y T h k j) {x z : Int32} (hd : Dec code pc .isub 1 nx) (q : Wp n0 p e R s below Q T (mkF m nx Ls (.int (x - z) :: S))) : Wp n0 p e R s below Q T (mkF m pc Ls (.int z :: .int x :: S)) := by
  obtain ⟨hx, hZ, hby, hml, hret, hown, hnm, hlk, eT, hn0, hw, locs, N, Y⟩ := X
  obtain ⟨hd, rfl⟩ := hd
  exact Wp.go (fun _ q => XS.isub Y.here hx rfl (hb hby hd) rfl q) q
theorem w_imul (X : Pos Z a0 n0 p l e R s m args below meth c code ml ret y T h k j) {x z : Int32} (hd : Dec code pc .imul 1 nx) (q : Wp n0 p e R s below Q T (mkF m nx Ls (.int (x * z) :: S))) : Wp n0 p e R s below Q T (mkF m pc Ls (.int z :: .int x :: S)) := by
  obtain ⟨hx, hZ, hby, hml, hret, hown, hnm, hlk, eT, hn0, hw, locs, N, Y⟩ := X
  obtain ⟨hd, rfl⟩ := hd
  exact Wp.go (fun _ q => XS.imul Y.here hx rfl (hb hby hd) rfl q) q
theorem w_iand (X : Pos Z a0 n0 p l e R s m args below meth c code ml ret y T h k j) {x z : Int32} (hd : Dec code pc .iand 1 nx) (q : Wp n0 p e R s below Q T (mkF m nx Ls (.int (x &&& z) :: S))) : Wp n0 p e R s below Q T (mkF m pc Ls (.int z :: .int x :: S)) := by
  obtain ⟨hx, hZ, hby, hml, hret, hown, hnm, hlk, eT, hn0, hw, locs, N, Y⟩ := X
  obtain ⟨hd, rfl⟩ := hd
  exact Wp.go (fun _ q => XS.iand Y.here hx rfl (hb hby hd) rfl q) q
theorem w_ior (X : Pos Z a0 n0 p l e R s m args below meth c code ml ret y T h k j) {x z : Int32} (hd : Dec code pc .ior 1 nx) (q : Wp n0 p e R s below Q T (mkF m nx Ls (.int (x ||| z) :: S))) : Wp n0 p e R s below Q T (mkF m pc Ls (.int z :: .int x :: S)) := by
  obtain ⟨hx, hZ, hby, hml, hret, hown, hnm, hlk, eT, hn0, hw, locs, N, Y⟩ := X
  obtain ⟨hd, rfl⟩ := hd
  exact Wp.go (fun _ q => XS.ior Y.here hx rfl (hb hby hd) rfl q) q
theorem w_ixor (X : Pos Z a0 n0 p l e R s m args below meth c code ml ret y T h k j) {x z : Int32} (hd : Dec code pc .ixor 1 nx) (q : Wp n0 p e R s below Q T (mkF m nx Ls (.int (x ^^^ z) :: S))) : Wp n0 p e R s below Q T (mkF m pc Ls (.int z :: .int x :: S)) := by
  obtain ⟨hx, hZ, hby, hml, hret, hown, hnm, hlk, eT, hn0, hw, locs, N, Y⟩ := X
  obtain ⟨hd, rfl⟩ := hd
  exact Wp.go (fun _ q => XS.ixor Y.here hx rfl (hb hby hd) rfl q) q
theorem w_ishl (X : Pos Z a0 n0 p l e R s m args below meth c code ml ret y T h k j) {x z : Int32} (hd : Dec code pc .ishl 1 nx) (q : Wp n0 p e R s below Q T (mkF m nx Ls (.int (jshl x z) :: S))) : Wp n0 p e R s below Q T (mkF m pc Ls (.int z :: .int x :: S)) := by
  obtain ⟨hx, hZ, hby, hml, hret, hown, hnm, hlk, eT, hn0, hw, locs, N, Y⟩ := X
  obtain ⟨hd, rfl⟩ := hd
  exact Wp.go (fun _ q => XS.ishl Y.here hx rfl (hb hby hd) rfl q) q
theorem w_ishr (X : Pos Z a0 n0 p l e R s m args below meth c code ml ret y T h k j) {x z : Int32} (hd : Dec code pc .ishr 1 nx) (q : Wp n0 p e R s below Q T (mkF m nx Ls (.int (jshr x z) :: S))) : Wp n0 p e R s below Q T (mkF m pc Ls (.int z :: .int x :: S)) := by
  obtain ⟨hx, hZ, hby, hml, hret, hown, hnm, hlk, eT, hn0, hw, locs, N, Y⟩ := X
  obtain ⟨hd, rfl⟩ := hd
  exact Wp.go (fun _ q => XS.ishr Y.here hx rfl (hb hby hd) rfl q) q
theorem w_iushr (X : Pos Z a0 n0 p l e R s m args below meth c code ml ret y T h k j) {x z : Int32} (hd : Dec code pc .iushr 1 nx) (q : Wp n0 p e R s below Q T (mkF m nx Ls (.int (jushr x z) :: S))) : Wp n0 p e R s below Q T (mkF m pc Ls (.int z :: .int x :: S)) := by
  obtain ⟨hx, hZ, hby, hml, hret, hown, hnm, hlk, eT, hn0, hw, locs, N, Y⟩ := X
  obtain ⟨hd, rfl⟩ := hd
  exact Wp.go (fun _ q => XS.iushr Y.here hx rfl (hb hby hd) rfl q) q
theorem w_ladd (X : Pos Z a0 n0 p l e R s m args below meth c code ml ret y T h k j) {x z : Int64} (hd : Dec code pc .ladd 1 nx) (q : Wp n0 p e R s below Q T (mkF m nx Ls (.long (x + z) :: S))) : Wp n0 p e R s below Q T (mkF m pc Ls (.long z :: .long x :: S)) := by
  obtain ⟨hx, hZ, hby, hml, hret, hown, hnm, hlk, eT, hn0, hw, locs, N, Y⟩ := X
  obtain ⟨hd, rfl⟩ := hd
  exact Wp.go (fun _ q => XS.ladd Y.here hx rfl (hb hby hd) rfl q) q
theorem w_lsub (X : Pos Z a0 n0 p l e R s m args below meth c code ml ret y T h k j) {x z : Int64} (hd : Dec code pc .lsub 1 nx) (q : Wp n0 p e R s below Q T (mkF m nx Ls (.long (x - z) :: S))) : Wp n0 p e R s below Q T (mkF m pc Ls (.long z :: .long x :: S)) := by
  obtain ⟨hx, hZ, hby, hml, hret, hown, hnm, hlk, eT, hn0, hw, locs, N, Y⟩ := X
  obtain ⟨hd, rfl⟩ := hd
  exact Wp.go (fun _ q => XS.lsub Y.here hx rfl (hb hby hd) rfl q) q
theorem w_lmul (X : Pos Z a0 n0 p l e R s m args below meth c code ml ret y T h k j) {x z : Int64} (hd : Dec code pc .lmul 1 nx) (q : Wp n0 p e R s below Q T (mkF m nx Ls (.long (x * z) :: S))) : Wp n0 p e R s below Q T (mkF m pc Ls (.long z :: .long x :: S)) := by
  obtain ⟨hx, hZ, hby, hml, hret, hown, hnm, hlk, eT, hn0, hw, locs, N, Y⟩ := X
  obtain ⟨hd, rfl⟩ := hd
  exact Wp.go (fun _ q => XS.lmul Y.here hx rfl (hb hby hd) rfl q) q
theorem w_land (X : Pos Z a0 n0 p l e R s m args below meth c code ml ret y T h k j) {x z : Int64} (hd : Dec code pc .land 1 nx) (q : Wp n0 p e R s below Q T (mkF m nx Ls (.long (x &&& z) :: S))) : Wp n0 p e R s below Q T (mkF m pc Ls (.long z :: .long x :: S)) := by
  obtain ⟨hx, hZ, hby, hml, hret, hown, hnm, hlk, eT, hn0, hw, locs, N, Y⟩ := X
  obtain ⟨hd, rfl⟩ := hd
  exact Wp.go (fun _ q => XS.land Y.here hx rfl (hb hby hd) rfl q) q
theorem w_lor (X : Pos Z a0 n0 p l e R s m args below meth c code ml ret y T h k j) {x z : Int64} (hd : Dec code pc .lor 1 nx) (q : Wp n0 p e R s below Q T (mkF m nx Ls (.long (x ||| z) :: S))) : Wp n0 p e R s below Q T (mkF m pc Ls (.long z :: .long x :: S)) := by
  obtain ⟨hx, hZ, hby, hml, hret, hown, hnm, hlk, eT, hn0, hw, locs, N, Y⟩ := X
  obtain ⟨hd, rfl⟩ := hd
  exact Wp.go (fun _ q => XS.lor Y.here hx rfl (hb hby hd) rfl q) q
theorem w_lxor (X : Pos Z a0 n0 p l e R s m args below meth c code ml ret y T h k j) {x z : Int64} (hd : Dec code pc .lxor 1 nx) (q : Wp n0 p e R s below Q T (mkF m nx Ls (.long (x ^^^ z) :: S))) : Wp n0 p e R s below Q T (mkF m pc Ls (.long z :: .long x :: S)) := by
  obtain ⟨hx, hZ, hby, hml, hret, hown, hnm, hlk, eT, hn0, hw, locs, N, Y⟩ := X
  obtain ⟨hd, rfl⟩ := hd
  exact Wp.go (fun _ q => XS.lxor Y.here hx rfl (hb hby hd) rfl q) q
theorem w_lshl (X : Pos Z a0 n0 p l e R s m args below meth c code ml ret y T h k j) {x : Int64} {z : Int32} (hd : Dec code pc .lshl 1 nx) (q : Wp n0 p e R s below Q T (mkF m nx Ls (.long (jshlL x z) :: S))) : Wp n0 p e R s below Q T (mkF m pc Ls (.int z :: .long x :: S)) := by
  obtain ⟨hx, hZ, hby, hml, hret, hown, hnm, hlk, eT, hn0, hw, locs, N, Y⟩ := X
  obtain ⟨hd, rfl⟩ := hd
  exact Wp.go (fun _ q => XS.lshl Y.here hx rfl (hb hby hd) rfl q) q
theorem w_lshr (X : Pos Z a0 n0 p l e R s m args below meth c code ml ret y T h k j) {x : Int64} {z : Int32} (hd : Dec code pc .lshr 1 nx) (q : Wp n0 p e R s below Q T (mkF m nx Ls (.long (jshrL x z) :: S))) : Wp n0 p e R s below Q T (mkF m pc Ls (.int z :: .long x :: S)) := by
  obtain ⟨hx, hZ, hby, hml, hret, hown, hnm, hlk, eT, hn0, hw, locs, N, Y⟩ := X
  obtain ⟨hd, rfl⟩ := hd
  exact Wp.go (fun _ q => XS.lshr Y.here hx rfl (hb hby hd) rfl q) q
theorem w_lushr (X : Pos Z a0 n0 p l e R s m args below meth c code ml ret y T h k j) {x : Int64} {z : Int32} (hd : Dec code pc .lushr 1 nx) (q : Wp n0 p e R s below Q T (mkF m nx Ls (.long (jushrL x z) :: S))) : Wp n0 p e R s below Q T (mkF m pc Ls (.int z :: .long x :: S)) := by
  obtain ⟨hx, hZ, hby, hml, hret, hown, hnm, hlk, eT, hn0, hw, locs, N, Y⟩ := X
  obtain ⟨hd, rfl⟩ := hd
  exact Wp.go (fun _ q => XS.lushr Y.here hx rfl (hb hby hd) rfl q) q
theorem w_idiv (X : Pos Z a0 n0 p l e R s m args below meth c code ml ret y T h k j) {x z : Int32} (hd : Dec code pc .idiv 1 nx) (hz : z ≠ 0) (q : Wp n0 p e R s below Q T (mkF m nx Ls (.int (x / z) :: S))) : Wp n0 p e R s below Q T (mkF m pc Ls (.int z :: .int x :: S)) := by
  obtain ⟨hx, hZ, hby, hml, hret, hown, hnm, hlk, eT, hn0, hw, locs, N, Y⟩ := X
  obtain ⟨hd, rfl⟩ := hd
  exact Wp.go (fun _ q => XS.idiv Y.here hx rfl (hb hby hd) rfl hz q) q
theorem w_irem (X : Pos Z a0 n0 p l e R s m args below meth c code ml ret y T h k j) {x z : Int32} (hd : Dec code pc .irem 1 nx) (hz : z ≠ 0) (q : Wp n0 p e R s below Q T (mkF m nx Ls (.int (x % z) :: S))) : Wp n0 p e R s below Q T (mkF m pc Ls (.int z :: .int x :: S)) := by
  obtain ⟨hx, hZ, hby, hml, hret, hown, hnm, hlk, eT, hn0, hw, locs, N, Y⟩ := X
  obtain ⟨hd, rfl⟩ := hd
  exact Wp.go (fun _ q => iremM Y hx rfl (hb hby hd) rfl hz q) q
theorem w_ldiv (X : Pos Z a0 n0 p l e R s m args below meth c code ml ret y T h k j) {x z : Int64} (hd : Dec code pc .ldiv 1 nx) (hz : z ≠ 0) (q : Wp n0 p e R s below Q T (mkF m nx Ls (.long (x / z) :: S))) : Wp n0 p e R s below Q T (mkF m pc Ls (.long z :: .long x :: S)) := by
  obtain ⟨hx, hZ, hby, hml, hret, hown, hnm, hlk, eT, hn0, hw, locs, N, Y⟩ := X
  obtain ⟨hd, rfl⟩ := hd
  exact Wp.go (fun _ q => XS.ldiv Y.here hx rfl (hb hby hd) rfl hz q) q
theorem w_lrem (X : Pos Z a0 n0 p l e R s m args below meth c code ml ret y T h k j) {x z : Int64} (hd : Dec code pc .lrem 1 nx) (hz : z ≠ 0) (q : Wp n0 p e R s below Q T (mkF m nx Ls (.long (x - (x / z) * z) :: S))) : Wp n0 p e R s below Q T (mkF m pc Ls (.long z :: .long x :: S)) := by
  obtain ⟨hx, hZ, hby, hml, hret, hown, hnm, hlk, eT, hn0, hw, locs, N, Y⟩ := X
  obtain ⟨hd, rfl⟩ := hd
  exact Wp.go (fun _ q => XS.lrem Y.here hx rfl (hb hby hd) rfl hz q) q
theorem w_ineg (X : Pos Z a0 n0 p l e R s m args below meth c code ml ret y T h k j) {x : Int32} (hd : Dec code pc .ineg 1 nx) (q : Wp n0 p e R s below Q T (mkF m nx Ls (.int (-x) :: S))) : Wp n0 p e R s below Q T (mkF m pc Ls (.int x :: S)) := by
  obtain ⟨hx, hZ, hby, hml, hret, hown, hnm, hlk, eT, hn0, hw, locs, N, Y⟩ := X
  obtain ⟨hd, rfl⟩ := hd
  exact Wp.go (fun _ q => XS.ineg Y.here hx rfl (hb hby hd) rfl q) q
theorem w_lneg (X : Pos Z a0 n0 p l e R s m args below meth c code ml ret y T h k j) {x : Int64} (hd : Dec code pc .lneg 1 nx) (q : Wp n0 p e R s below Q T (mkF m nx Ls (.long (-x) :: S))) : Wp n0 p e R s below Q T (mkF m pc Ls (.long x :: S)) := by
  obtain ⟨hx, hZ, hby, hml, hret, hown, hnm, hlk, eT, hn0, hw, locs, N, Y⟩ := X
  obtain ⟨hd, rfl⟩ := hd
  exact Wp.go (fun _ q => XS.lneg Y.here hx rfl (hb hby hd) rfl q) q
theorem w_i2l (X : Pos Z a0 n0 p l e R s m args below meth c code ml ret y T h k j) {x : Int32} (hd : Dec code pc .i2l 1 nx) (q : Wp n0 p e R s below Q T (mkF m nx Ls (.long (x.toInt64) :: S))) : Wp n0 p e R s below Q T (mkF m pc Ls (.int x :: S)) := by
  obtain ⟨hx, hZ, hby, hml, hret, hown, hnm, hlk, eT, hn0, hw, locs, N, Y⟩ := X
  obtain ⟨hd, rfl⟩ := hd
  exact Wp.go (fun _ q => XS.i2l Y.here hx rfl (hb hby hd) rfl q) q
theorem w_l2i (X : Pos Z a0 n0 p l e R s m args below meth c code ml ret y T h k j) {x : Int64} (hd : Dec code pc .l2i 1 nx) (q : Wp n0 p e R s below Q T (mkF m nx Ls (.int (x.toInt32) :: S))) : Wp n0 p e R s below Q T (mkF m pc Ls (.long x :: S)) := by
  obtain ⟨hx, hZ, hby, hml, hret, hown, hnm, hlk, eT, hn0, hw, locs, N, Y⟩ := X
  obtain ⟨hd, rfl⟩ := hd
  exact Wp.go (fun _ q => XS.l2i Y.here hx rfl (hb hby hd) rfl q) q
theorem w_i2b (X : Pos Z a0 n0 p l e R s m args below meth c code ml ret y T h k j) {x : Int32} (hd : Dec code pc .i2b 1 nx) (q : Wp n0 p e R s below Q T (mkF m nx Ls (.int (jbyte x) :: S))) : Wp n0 p e R s below Q T (mkF m pc Ls (.int x :: S)) := by
  obtain ⟨hx, hZ, hby, hml, hret, hown, hnm, hlk, eT, hn0, hw, locs, N, Y⟩ := X
  obtain ⟨hd, rfl⟩ := hd
  exact Wp.go (fun _ q => XS.i2b Y.here hx rfl (hb hby hd) rfl q) q
theorem w_iconst (X : Pos Z a0 n0 p l e R s m args below meth c code ml ret y T h k j) {i : Int} {v : Int32} (hd : Dec code pc (.iconst i) 1 nx) (hv : Int32.ofInt i = v) (q : Wp n0 p e R s below Q T (mkF m nx Ls (.int v :: S))) : Wp n0 p e R s below Q T (mkF m pc Ls S) := by
  obtain ⟨hx, hZ, hby, hml, hret, hown, hnm, hlk, eT, hn0, hw, locs, N, Y⟩ := X
  obtain ⟨hd, rfl⟩ := hd
  subst hv
  exact Wp.go (fun _ q => XS.iconst Y.here hx rfl (hb hby hd) q) q
theorem w_bipush (X : Pos Z a0 n0 p l e R s m args below meth c code ml ret y T h k j) {i : Int} {v : Int32} (hd : Dec code pc (.bipush i) 2 nx) (hv : (Int8.ofInt i).toInt32 = v) (q : Wp n0 p e R s below Q T (mkF m nx Ls (.int v :: S))) : Wp n0 p e R s below Q T (mkF m pc Ls S) := by
  obtain ⟨hx, hZ, hby, hml, hret, hown, hnm, hlk, eT, hn0, hw, locs, N, Y⟩ := X
  obtain ⟨hd, rfl⟩ := hd
  subst hv
  exact Wp.go (fun _ q => XS.bipush Y.here hx rfl (hb hby hd) q) q
theorem w_sipush (X : Pos Z a0 n0 p l e R s m args below meth c code ml ret y T h k j) {i : Int} {v : Int32} (hd : Dec code pc (.sipush i) 3 nx) (hv : (Int16.ofInt i).toInt32 = v) (q : Wp n0 p e R s below Q T (mkF m nx Ls (.int v :: S))) : Wp n0 p e R s below Q T (mkF m pc Ls S) := by
  obtain ⟨hx, hZ, hby, hml, hret, hown, hnm, hlk, eT, hn0, hw, locs, N, Y⟩ := X
  obtain ⟨hd, rfl⟩ := hd
  subst hv
  exact Wp.go (fun _ q => XS.sipush Y.here hx rfl (hb hby hd) q) q
theorem w_lconst0 (X : Pos Z a0 n0 p l e R s m args below meth c code ml ret y T h k j) (hd : Dec code pc (.lconst 0) 1 nx) (q : Wp n0 p e R s below Q T (mkF m nx Ls (.long 0 :: S))) : Wp n0 p e R s below Q T (mkF m pc Ls S) := by
  obtain ⟨hx, hZ, hby, hml, hret, hown, hnm, hlk, eT, hn0, hw, locs, N, Y⟩ := X
  obtain ⟨hd, rfl⟩ := hd
  exact Wp.go (fun _ q => XS.lconst Y.here hx rfl (hb hby hd) q) q
theorem w_lconst1 (X : Pos Z a0 n0 p l e R s m args below meth c code ml ret y T h k j) (hd : Dec code pc (.lconst 1) 1 nx) (q : Wp n0 p e R s below Q T (mkF m nx Ls (.long 1 :: S))) : Wp n0 p e R s below Q T (mkF m pc Ls S) := by
  obtain ⟨hx, hZ, hby, hml, hret, hown, hnm, hlk, eT, hn0, hw, locs, N, Y⟩ := X
  obtain ⟨hd, rfl⟩ := hd
  exact Wp.go (fun _ q => XS.lconst Y.here hx rfl (hb hby hd) q) q
theorem w_null (X : Pos Z a0 n0 p l e R s m args below meth c code ml ret y T h k j) (hd : Dec code pc .aconst_null 1 nx) (q : Wp n0 p e R s below Q T (mkF m nx Ls (.null :: S))) : Wp n0 p e R s below Q T (mkF m pc Ls S) := by
  obtain ⟨hx, hZ, hby, hml, hret, hown, hnm, hlk, eT, hn0, hw, locs, N, Y⟩ := X
  obtain ⟨hd, rfl⟩ := hd
  exact Wp.go (fun _ q => XS.aconstNull Y.here hx rfl (hb hby hd) q) q
theorem w_iloadN (X : Pos Z a0 n0 p l e R s m args below meth c code ml ret y T h k j) {w : Fin 4} {v : Int32} (hd : Dec code pc (.iload_n w) 1 nx) (hl : Ls[w.val]? = some (.val (.int v))) (q : Wp n0 p e R s below Q T (mkF m nx Ls (.int v :: S))) : Wp n0 p e R s below Q T (mkF m pc Ls S) := by
  obtain ⟨hx, hZ, hby, hml, hret, hown, hnm, hlk, eT, hn0, hw, locs, N, Y⟩ := X
  obtain ⟨hd, rfl⟩ := hd
  exact Wp.go (fun _ q => XS.iloadN Y.here hx rfl (hb hby hd) hl q) q
theorem w_iload (X : Pos Z a0 n0 p l e R s m args below meth c code ml ret y T h k j) {w : Nat} {v : Int32} (hd : Dec code pc (.iload w) 2 nx) (hl : Ls[w]? = some (.val (.int v))) (q : Wp n0 p e R s below Q T (mkF m nx Ls (.int v :: S))) : Wp n0 p e R s below Q T (mkF m pc Ls S) := by
  obtain ⟨hx, hZ, hby, hml, hret, hown, hnm, hlk, eT, hn0, hw, locs, N, Y⟩ := X
  obtain ⟨hd, rfl⟩ := hd
  exact Wp.go (fun _ q => XS.iload Y.here hx rfl (hb hby hd) hl q) q
theorem w_lloadN (X : Pos Z a0 n0 p l e R s m args below meth c code ml ret y T h k j) {w : Fin 4} {v : Int64} (hd : Dec code pc (.lload_n w) 1 nx) (hl : Ls[w.val]? = some (.val (.long v))) (q : Wp n0 p e R s below Q T (mkF m nx Ls (.long v :: S))) : Wp n0 p e R s below Q T (mkF m pc Ls S) := by
  obtain ⟨hx, hZ, hby, hml, hret, hown, hnm, hlk, eT, hn0, hw, locs, N, Y⟩ := X
  obtain ⟨hd, rfl⟩ := hd
  exact Wp.go (fun _ q => XS.lloadN Y.here hx rfl (hb hby hd) hl q) q
theorem w_lload (X : Pos Z a0 n0 p l e R s m args below meth c code ml ret y T h k j) {w : Nat} {v : Int64} (hd : Dec code pc (.lload w) 2 nx) (hl : Ls[w]? = some (.val (.long v))) (q : Wp n0 p e R s below Q T (mkF m nx Ls (.long v :: S))) : Wp n0 p e R s below Q T (mkF m pc Ls S) := by
  obtain ⟨hx, hZ, hby, hml, hret, hown, hnm, hlk, eT, hn0, hw, locs, N, Y⟩ := X
  obtain ⟨hd, rfl⟩ := hd
  exact Wp.go (fun _ q => XS.lload Y.here hx rfl (hb hby hd) hl q) q
theorem w_aloadN (X : Pos Z a0 n0 p l e R s m args below meth c code ml ret y T h k j) {w : Fin 4} {v : Value} (hd : Dec code pc (.aload_n w) 1 nx) (hl : Ls[w.val]? = some (.val v)) (hv : v.isRef = true) (q : Wp n0 p e R s below Q T (mkF m nx Ls (v :: S))) : Wp n0 p e R s below Q T (mkF m pc Ls S) := by
  obtain ⟨hx, hZ, hby, hml, hret, hown, hnm, hlk, eT, hn0, hw, locs, N, Y⟩ := X
  obtain ⟨hd, rfl⟩ := hd
  exact Wp.go (fun _ q => XS.aloadN Y.here hx rfl (hb hby hd) hl hv q) q
theorem w_astoreN (X : Pos Z a0 n0 p l e R s m args below meth c code ml ret y T h k j) {w : Fin 4} {v : Value} {l' : Array Slot} (hd : Dec code pc (.astore_n w) 1 nx) (hv : v.isRef = true) (hl : storeLocals Ls w.val v = some l') (q : Wp n0 p e R s below Q T (mkF m nx l' S)) : Wp n0 p e R s below Q T (mkF m pc Ls (v :: S)) := by
  obtain ⟨hx, hZ, hby, hml, hret, hown, hnm, hlk, eT, hn0, hw, locs, N, Y⟩ := X
  obtain ⟨hd, rfl⟩ := hd
  exact Wp.go (fun _ q => XS.astoreN Y.here hx rfl (hb hby hd) rfl hv hl q) q
theorem w_istoreN (X : Pos Z a0 n0 p l e R s m args below meth c code ml ret y T h k j) {w : Fin 4} {v : Int32} {l' : Array Slot} (hd : Dec code pc (.istore_n w) 1 nx) (hl : storeLocals Ls w.val (.int v) = some l') (q : Wp n0 p e R s below Q T (mkF m nx l' S)) : Wp n0 p e R s below Q T (mkF m pc Ls (.int v :: S)) := by
  obtain ⟨hx, hZ, hby, hml, hret, hown, hnm, hlk, eT, hn0, hw, locs, N, Y⟩ := X
  obtain ⟨hd, rfl⟩ := hd
  exact Wp.go (fun _ q => XS.istoreN Y.here hx rfl (hb hby hd) rfl hl q) q
theorem w_istoreNE (X : Pos Z a0 n0 p l e R s m args below meth c code ml ret y T h k j) {w : Fin 4} {v : Int32} {l' : Int32 → Array Slot} (hd : Dec code pc (.istore_n w) 1 nx) (hl : ∀ z, storeLocals Ls w.val (.int z) = some (l' z)) (q : ∀ z, z = v → Wp n0 p e R s below Q T (mkF m nx (l' z) S)) : Wp n0 p e R s below Q T (mkF m pc Ls (.int v :: S)) := w_istoreN X hd (hl v) (q v rfl)
theorem w_lstoreN (X : Pos Z a0 n0 p l e R s m args below meth c code ml ret y T h k j) {w : Fin 4} {v : Int64} {l' : Array Slot} (hd : Dec code pc (.lstore_n w) 1 nx) (hl : storeLocals Ls w.val (.long v) = some l') (q : Wp n0 p e R s below Q T (mkF m nx l' S)) : Wp n0 p e R s below Q T (mkF m pc Ls (.long v :: S)) := by
  obtain ⟨hx, hZ, hby, hml, hret, hown, hnm, hlk, eT, hn0, hw, locs, N, Y⟩ := X
  obtain ⟨hd, rfl⟩ := hd
  exact Wp.go (fun _ q => XS.lstoreN Y.here hx rfl (hb hby hd) rfl hl q) q
theorem w_lstoreNE (X : Pos Z a0 n0 p l e R s m args below meth c code ml ret y T h k j) {w : Fin 4} {v : Int64} {l' : Int64 → Array Slot} (hd : Dec code pc (.lstore_n w) 1 nx) (hl : ∀ z, storeLocals Ls w.val (.long z) = some (l' z)) (q : ∀ z, z = v → Wp n0 p e R s below Q T (mkF m nx (l' z) S)) : Wp n0 p e R s below Q T (mkF m pc Ls (.long v :: S)) := w_lstoreN X hd (hl v) (q v rfl)
theorem w_aload (X : Pos Z a0 n0 p l e R s m args below meth c code ml ret y T h k j) {w : Nat} {v : Value} (hd : Dec code pc (.aload w) 2 nx) (hl : Ls[w]? = some (.val v)) (hv : v.isRef = true) (q : Wp n0 p e R s below Q T (mkF m nx Ls (v :: S))) : Wp n0 p e R s below Q T (mkF m pc Ls S) := by
  obtain ⟨hx, hZ, hby, hml, hret, hown, hnm, hlk, eT, hn0, hw, locs, N, Y⟩ := X
  obtain ⟨hd, rfl⟩ := hd
  exact Wp.go (fun _ q => XS.aload Y.here hx rfl (hb hby hd) hl hv q) q
theorem w_astore (X : Pos Z a0 n0 p l e R s m args below meth c code ml ret y T h k j) {w : Nat} {v : Value} {l' : Array Slot} (hd : Dec code pc (.astore w) 2 nx) (hv : v.isRef = true) (hl : storeLocals Ls w v = some l') (q : Wp n0 p e R s below Q T (mkF m nx l' S)) : Wp n0 p e R s below Q T (mkF m pc Ls (v :: S)) := by
  obtain ⟨hx, hZ, hby, hml, hret, hown, hnm, hlk, eT, hn0, hw, locs, N, Y⟩ := X
  obtain ⟨hd, rfl⟩ := hd
  exact Wp.go (fun _ q => XS.astore Y.here hx rfl (hb hby hd) rfl hv hl q) q
theorem w_istore (X : Pos Z a0 n0 p l e R s m args below meth c code ml ret y T h k j) {w : Nat} {v : Int32} {l' : Array Slot} (hd : Dec code pc (.istore w) 2 nx) (hl : storeLocals Ls w (.int v) = some l') (q : Wp n0 p e R s below Q T (mkF m nx l' S)) : Wp n0 p e R s below Q T (mkF m pc Ls (.int v :: S)) := by
  obtain ⟨hx, hZ, hby, hml, hret, hown, hnm, hlk, eT, hn0, hw, locs, N, Y⟩ := X
  obtain ⟨hd, rfl⟩ := hd
  exact Wp.go (fun _ q => XS.istore Y.here hx rfl (hb hby hd) rfl hl q) q
theorem w_istoreE (X : Pos Z a0 n0 p l e R s m args below meth c code ml ret y T h k j) {w : Nat} {v : Int32} {l' : Int32 → Array Slot} (hd : Dec code pc (.istore w) 2 nx) (hl : ∀ z, storeLocals Ls w (.int z) = some (l' z)) (q : ∀ z, z = v → Wp n0 p e R s below Q T (mkF m nx (l' z) S)) : Wp n0 p e R s below Q T (mkF m pc Ls (.int v :: S)) := w_istore X hd (hl v) (q v rfl)
theorem w_lstore (X : Pos Z a0 n0 p l e R s m args below meth c code ml ret y T h k j) {w : Nat} {v : Int64} {l' : Array Slot} (hd : Dec code pc (.lstore w) 2 nx) (hl : storeLocals Ls w (.long v) = some l') (q : Wp n0 p e R s below Q T (mkF m nx l' S)) : Wp n0 p e R s below Q T (mkF m pc Ls (.long v :: S)) := by
  obtain ⟨hx, hZ, hby, hml, hret, hown, hnm, hlk, eT, hn0, hw, locs, N, Y⟩ := X
  obtain ⟨hd, rfl⟩ := hd
  exact Wp.go (fun _ q => XS.lstore Y.here hx rfl (hb hby hd) rfl hl q) q
theorem w_lstoreE (X : Pos Z a0 n0 p l e R s m args below meth c code ml ret y T h k j) {w : Nat} {v : Int64} {l' : Int64 → Array Slot} (hd : Dec code pc (.lstore w) 2 nx) (hl : ∀ z, storeLocals Ls w (.long z) = some (l' z)) (q : ∀ z, z = v → Wp n0 p e R s below Q T (mkF m nx (l' z) S)) : Wp n0 p e R s below Q T (mkF m pc Ls (.long v :: S)) := w_lstore X hd (hl v) (q v rfl)
theorem w_istoreNS (X : Pos Z a0 n0 p l e R s m args below meth c code ml ret y T h k j) {w : Fin 4} {v : Int32} {l' : Array Slot} {o : Slot} (hd : Dec code pc (.istore_n w) 1 nx) (hold : Ls[w.val]? = some o) (ho : One o) (hl : Ls.setIfInBounds w.val (.val (.int v)) = l') (q : Wp n0 p e R s below Q T (mkF m nx l' S)) : Wp n0 p e R s below Q T (mkF m pc Ls (.int v :: S)) := w_istoreN X hd ((XS.store1 hold ho rfl).trans (congrArg some hl)) q
theorem w_istoreS (X : Pos Z a0 n0 p l e R s m args below meth c code ml ret y T h k j) {w : Nat} {v : Int32} {l' : Array Slot} {o : Slot} (hd : Dec code pc (.istore w) 2 nx) (hold : Ls[w]? = some o) (ho : One o) (hl : Ls.setIfInBounds w (.val (.int v)) = l') (q : Wp n0 p e R s below Q T (mkF m nx l' S)) : Wp n0 p e R s below Q T (mkF m pc Ls (.int v :: S)) := w_istore X hd ((XS.store1 hold ho rfl).trans (congrArg some hl)) q
theorem w_iinc (X : Pos Z a0 n0 p l e R s m args below meth c code ml ret y T h k j) {w : Nat} {i : Int} {d v r : Int32} {l' : Array Slot} (hd : Dec code pc (.iinc w i) 3 nx) (hl : Ls[w]? = some (.val (.int v))) (hi : Int32.ofInt i = d) (hr : v + d = r) (hl' : storeLocals Ls w (.int r) = some l') (q : Wp n0 p e R s below Q T (mkF m nx l' S)) : Wp n0 p e R s below Q T (mkF m pc Ls S) := by
  obtain ⟨hx, hZ, hby, hml, hret, hown, hnm, hlk, eT, hn0, hw, locs, N, Y⟩ := X
  obtain ⟨hd, rfl⟩ := hd
  subst hi hr
  exact Wp.go (fun _ q => XS.iinc Y.here hx rfl (hb hby hd) hl hl' q) q
theorem w_dup (X : Pos Z a0 n0 p l e R s m args below meth c code ml ret y T h k j) {v : Value} (hd : Dec code pc .dup 1 nx) (hv : v.category = 1) (q : Wp n0 p e R s below Q T (mkF m nx Ls (v :: v :: S))) : Wp n0 p e R s below Q T (mkF m pc Ls (v :: S)) := by
  obtain ⟨hx, hZ, hby, hml, hret, hown, hnm, hlk, eT, hn0, hw, locs, N, Y⟩ := X
  obtain ⟨hd, rfl⟩ := hd
  exact Wp.go (fun _ q => XS.dup Y.here hx rfl (hb hby hd) rfl hv q) q
theorem w_pop (X : Pos Z a0 n0 p l e R s m args below meth c code ml ret y T h k j) {v : Value} (hd : Dec code pc .pop 1 nx) (hv : v.category = 1) (q : Wp n0 p e R s below Q T (mkF m nx Ls S)) : Wp n0 p e R s below Q T (mkF m pc Ls (v :: S)) := by
  obtain ⟨hx, hZ, hby, hml, hret, hown, hnm, hlk, eT, hn0, hw, locs, N, Y⟩ := X
  obtain ⟨hd, rfl⟩ := hd
  exact Wp.go (fun _ q => XS.pop Y.here hx rfl (hb hby hd) rfl hv q) q
theorem w_dupX1 (X : Pos Z a0 n0 p l e R s m args below meth c code ml ret y T h k j) {v w : Value} (hd : Dec code pc .dup_x1 1 nx) (hv : v.category = 1) (hw' : w.category = 1) (q : Wp n0 p e R s below Q T (mkF m nx Ls (v :: w :: v :: S))) : Wp n0 p e R s below Q T (mkF m pc Ls (v :: w :: S)) := by
  obtain ⟨hx, hZ, hby, hml, hret, hown, hnm, hlk, eT, hn0, hw, locs, N, Y⟩ := X
  obtain ⟨hd, rfl⟩ := hd
  exact Wp.go (fun _ q => XS.dupX1 Y.here hx rfl (hb hby hd) rfl hv hw' q) q
theorem w_dup2 (X : Pos Z a0 n0 p l e R s m args below meth c code ml ret y T h k j) {v w : Value} (hd : Dec code pc .dup2 1 nx) (hv : v.category = 1) (hw' : w.category = 1) (q : Wp n0 p e R s below Q T (mkF m nx Ls (v :: w :: v :: w :: S))) : Wp n0 p e R s below Q T (mkF m pc Ls (v :: w :: S)) := by
  obtain ⟨hx, hZ, hby, hml, hret, hown, hnm, hlk, eT, hn0, hw, locs, N, Y⟩ := X
  obtain ⟨hd, rfl⟩ := hd
  exact Wp.go (fun _ q => Jvm.Free.XT.dup2 Y.here hx rfl (hb hby hd) rfl hv hw' q) q
theorem w_goto (X : Pos Z a0 n0 p l e R s m args below meth c code ml ret y T h k j) {o : Int} (hd : Jmp code pc (.goto o) o nx tgt) (q : Wp n0 p e R s below Q T (mkF m tgt Ls S)) : Wp n0 p e R s below Q T (mkF m pc Ls S) := by
  obtain ⟨hx, hZ, hby, hml, hret, hown, hnm, hlk, eT, hn0, hw, locs, N, Y⟩ := X
  obtain ⟨hd, -, ho, hp⟩ := hd
  exact Wp.go (fun _ q => XS.goto Y.here hx rfl (pc0 := pc) (pc' := tgt) rfl (hb hby hd) ho hp q) q
theorem w_icmpeq (X : Pos Z a0 n0 p l e R s m args below meth c code ml ret y T h k j) {x z : Int32} {o : Int} (hd : Jmp code pc (.if_icmp .eq o) o nx tgt) (qt : x = z → Wp n0 p e R s below Q T (mkF m tgt Ls S)) (qf : ¬ x = z → Wp n0 p e R s below Q T (mkF m nx Ls S)) : Wp n0 p e R s below Q T (mkF m pc Ls (.int z :: .int x :: S)) := by
  obtain ⟨hx, hZ, hby, hml, hret, hown, hnm, hlk, eT, hn0, hw, locs, N, Y⟩ := X
  obtain ⟨hd, rfl, ho, hp⟩ := hd
  by_cases hc : x = z
  · exact Wp.go (fun _ q => XS.icmpYes Y.here hx rfl (pc0 := pc) (pc' := tgt) rfl (hb hby hd) rfl (Jvm.Free.XT.ii_eq_t hc) ho hp q) (qt hc)
  · exact Wp.go (fun _ q => XS.icmpNo Y.here hx rfl (hb hby hd) rfl (Jvm.Free.XT.ii_eq_f hc) q) (qf hc)
theorem w_ifeq (X : Pos Z a0 n0 p l e R s m args below meth c code ml ret y T h k j) {x : Int32} {o : Int} (hd : Jmp code pc (.ifCond .eq o) o nx tgt) (qt : x = 0 → Wp n0 p e R s below Q T (mkF m tgt Ls S)) (qf : ¬ x = 0 → Wp n0 p e R s below Q T (mkF m nx Ls S)) : Wp n0 p e R s below Q T (mkF m pc Ls (.int x :: S)) := by
  obtain ⟨hx, hZ, hby, hml, hret, hown, hnm, hlk, eT, hn0, hw, locs, N, Y⟩ := X
  obtain ⟨hd, rfl, ho, hp⟩ := hd
  by_cases hc : x = 0
  · exact Wp.go (fun _ q => XS.ifYes Y.here hx rfl (pc0 := pc) (pc' := tgt) rfl (hb hby hd) rfl (Jvm.Free.XT.i0_eq_t hc) ho hp q) (qt hc)
  · exact Wp.go (fun _ q => XS.ifNo Y.here hx rfl (hb hby hd) rfl (Jvm.Free.XT.i0_eq_f hc) q) (qf hc)
theorem w_lcmpeq (X : Pos Z a0 n0 p l e R s m args below meth c code ml ret y T h k j) {x z : Int64} {o : Int} {mid : Nat} (hd0 : Dec code pc .lcmp 1 mid) (hd : Jmp code mid (.ifCond .eq o) o nx tgt) (qt : x = z → Wp n0 p e R s below Q T (mkF m tgt Ls S)) (qf : ¬ x = z → Wp n0 p e R s below Q T (mkF m nx Ls S)) : Wp n0 p e R s below Q T (mkF m pc Ls (.long z :: .long x :: S)) := by
  obtain ⟨hx, hZ, hby, hml, hret, hown, hnm, hlk, eT, hn0, hw, locs, N, Y⟩ := X
  obtain ⟨hd0, rfl⟩ := hd0
  obtain ⟨hd, rfl, ho, hp⟩ := hd
  refine Wp.go (fun _ q => Jvm.Free.XT.lcmp Y.here hx rfl (hb hby hd0) rfl q) ?_
  by_cases hc : x = z
  · exact Wp.go (fun _ q => XS.ifYes Y.here hx rfl (pc0 := pc + 1) (pc' := tgt) rfl (hb hby hd) rfl (Jvm.Free.XT.ll_eq_t hc) ho hp q) (qt hc)
  · exact Wp.go (fun _ q => XS.ifNo Y.here hx rfl (hb hby hd) rfl (Jvm.Free.XT.ll_eq_f hc) q) (qf hc)
theorem w_icmpne (X : Pos Z a0 n0 p l e R s m args below meth c code ml ret y T h k j) {x z : Int32} {o : Int} (hd : Jmp code pc (.if_icmp .ne o) o nx tgt) (qt : ¬ x = z → Wp n0 p e R s below Q T (mkF m tgt Ls S)) (qf : x = z → Wp n0 p e R s below Q T (mkF m nx Ls S)) : Wp n0 p e R s below Q T (mkF m pc Ls (.int z :: .int x :: S)) := by
  obtain ⟨hx, hZ, hby, hml, hret, hown, hnm, hlk, eT, hn0, hw, locs, N, Y⟩ := X
  obtain ⟨hd, rfl, ho, hp⟩ := hd
  by_cases hc : x = z
  · exact Wp.go (fun _ q => XS.icmpNo Y.here hx rfl (hb hby hd) rfl (Jvm.Free.XT.ii_ne_f hc) q) (qf hc)
  · exact Wp.go (fun _ q => XS.icmpYes Y.here hx rfl (pc0 := pc) (pc' := tgt) rfl (hb hby hd) rfl (Jvm.Free.XT.ii_ne_t hc) ho hp q) (qt hc)
theorem w_ifne (X : Pos Z a0 n0 p l e R s m args below meth c code ml ret y T h k j) {x : Int32} {o : Int} (hd : Jmp code pc (.ifCond .ne o) o nx tgt) (qt : ¬ x = 0 → Wp n0 p e R s below Q T (mkF m tgt Ls S)) (qf : x = 0 → Wp n0 p e R s below Q T (mkF m nx Ls S)) : Wp n0 p e R s below Q T (mkF m pc Ls (.int x :: S)) := by
  obtain ⟨hx, hZ, hby, hml, hret, hown, hnm, hlk, eT, hn0, hw, locs, N, Y⟩ := X
  obtain ⟨hd, rfl, ho, hp⟩ := hd
  by_cases hc : x = 0
  · exact Wp.go (fun _ q => XS.ifNo Y.here hx rfl (hb hby hd) rfl (Jvm.Free.XT.i0_ne_f hc) q) (qf hc)
  · exact Wp.go (fun _ q => XS.ifYes Y.here hx rfl (pc0 := pc) (pc' := tgt) rfl (hb hby hd) rfl (Jvm.Free.XT.i0_ne_t hc) ho hp q) (qt hc)
theorem w_lcmpne (X : Pos Z a0 n0 p l e R s m args below meth c code ml ret y T h k j) {x z : Int64} {o : Int} {mid : Nat} (hd0 : Dec code pc .lcmp 1 mid) (hd : Jmp code mid (.ifCond .ne o) o nx tgt) (qt : ¬ x = z → Wp n0 p e R s below Q T (mkF m tgt Ls S)) (qf : x = z → Wp n0 p e R s below Q T (mkF m nx Ls S)) : Wp n0 p e R s below Q T (mkF m pc Ls (.long z :: .long x :: S)) := by
  obtain ⟨hx, hZ, hby, hml, hret, hown, hnm, hlk, eT, hn0, hw, locs, N, Y⟩ := X
  obtain ⟨hd0, rfl⟩ := hd0
  obtain ⟨hd, rfl, ho, hp⟩ := hd
  refine Wp.go (fun _ q => Jvm.Free.XT.lcmp Y.here hx rfl (hb hby hd0) rfl q) ?_
  by_cases hc : x = z
  · exact Wp.go (fun _ q => XS.ifNo Y.here hx rfl (hb hby hd) rfl (Jvm.Free.XT.ll_ne_f hc) q) (qf hc)
  · exact Wp.go (fun _ q => XS.ifYes Y.here hx rfl (pc0 := pc + 1) (pc' := tgt) rfl (hb hby hd) rfl (Jvm.Free.XT.ll_ne_t hc) ho hp q) (qt hc)
theorem w_icmplt (X : Pos Z a0 n0 p l e R s m args below meth c code ml ret y T h k j) {x z : Int32} {o : Int} (hd : Jmp code pc (.if_icmp .lt o) o nx tgt) (qt : x < z → Wp n0 p e R s below Q T (mkF m tgt Ls S)) (qf : ¬ x < z → Wp n0 p e R s below Q T (mkF m nx Ls S)) : Wp n0 p e R s below Q T (mkF m pc Ls (.int z :: .int x :: S)) := by
  obtain ⟨hx, hZ, hby, hml, hret, hown, hnm, hlk, eT, hn0, hw, locs, N, Y⟩ := X
  obtain ⟨hd, rfl, ho, hp⟩ := hd
  by_cases hc : x < z
  · exact Wp.go (fun _ q => XS.icmpYes Y.here hx rfl (pc0 := pc) (pc' := tgt) rfl (hb hby hd) rfl (Jvm.Free.XT.ii_lt_t hc) ho hp q) (qt hc)
  · exact Wp.go (fun _ q => XS.icmpNo Y.here hx rfl (hb hby hd) rfl (Jvm.Free.XT.ii_lt_f hc) q) (qf hc)
theorem w_iflt (X : Pos Z a0 n0 p l e R s m args below meth c code ml ret y T h k j) {x : Int32} {o : Int} (hd : Jmp code pc (.ifCond .lt o) o nx tgt) (qt : x < 0 → Wp n0 p e R s below Q T (mkF m tgt Ls S)) (qf : ¬ x < 0 → Wp n0 p e R s below Q T (mkF m nx Ls S)) : Wp n0 p e R s below Q T (mkF m pc Ls (.int x :: S)) := by
  obtain ⟨hx, hZ, hby, hml, hret, hown, hnm, hlk, eT, hn0, hw, locs, N, Y⟩ := X
  obtain ⟨hd, rfl, ho, hp⟩ := hd
  by_cases hc : x < 0
  · exact Wp.go (fun _ q => XS.ifYes Y.here hx rfl (pc0 := pc) (pc' := tgt) rfl (hb hby hd) rfl (Jvm.Free.XT.i0_lt_t hc) ho hp q) (qt hc)
  · exact Wp.go (fun _ q => XS.ifNo Y.here hx rfl (hb hby hd) rfl (Jvm.Free.XT.i0_lt_f hc) q) (qf hc)
theorem w_lcmplt (X : Pos Z a0 n0 p l e R s m args below meth c code ml ret y T h k j) {x z : Int64} {o : Int} {mid : Nat} (hd0 : Dec code pc .lcmp 1 mid) (hd : Jmp code mid (.ifCond .lt o) o nx tgt) (qt : x < z → Wp n0 p e R s below Q T (mkF m tgt Ls S)) (qf : ¬ x < z → Wp n0 p e R s below Q T (mkF m nx Ls S)) : Wp n0 p e R s below Q T (mkF m pc Ls (.long z :: .long x :: S)) := by
  obtain ⟨hx, hZ, hby, hml, hret, hown, hnm, hlk, eT, hn0, hw, locs, N, Y⟩ := X
  obtain ⟨hd0, rfl⟩ := hd0
  obtain ⟨hd, rfl, ho, hp⟩ := hd
  refine Wp.go (fun _ q => Jvm.Free.XT.lcmp Y.here hx rfl (hb hby hd0) rfl q) ?_
  by_cases hc : x < z
  · exact Wp.go (fun _ q => XS.ifYes Y.here hx rfl (pc0 := pc + 1) (pc' := tgt) rfl (hb hby hd) rfl (Jvm.Free.XT.ll_lt_t hc) ho hp q) (qt hc)
  · exact Wp.go (fun _ q => XS.ifNo Y.here hx rfl (hb hby hd) rfl (Jvm.Free.XT.ll_lt_f hc) q) (qf hc)
theorem w_icmpge (X : Pos Z a0 n0 p l e R s m args below meth c code ml ret y T h k j) {x z : Int32} {o : Int} (hd : Jmp code pc (.if_icmp .ge o) o nx tgt) (qt : ¬ x < z → Wp n0 p e R s below Q T (mkF m tgt Ls S)) (qf : x < z → Wp n0 p e R s below Q T (mkF m nx Ls S)) : Wp n0 p e R s below Q T (mkF m pc Ls (.int z :: .int x :: S)) := by
  obtain ⟨hx, hZ, hby, hml, hret, hown, hnm, hlk, eT, hn0, hw, locs, N, Y⟩ := X
  obtain ⟨hd, rfl, ho, hp⟩ := hd
  by_cases hc : x < z
  · exact Wp.go (fun _ q => XS.icmpNo Y.here hx rfl (hb hby hd) rfl (Jvm.Free.XT.ii_ge_f hc) q) (qf hc)
  · exact Wp.go (fun _ q => XS.icmpYes Y.here hx rfl (pc0 := pc) (pc' := tgt) rfl (hb hby hd) rfl (Jvm.Free.XT.ii_ge_t hc) ho hp q) (qt hc)
theorem w_ifge (X : Pos Z a0 n0 p l e R s m args below meth c code ml ret y T h k j) {x : Int32} {o : Int} (hd : Jmp code pc (.ifCond .ge o) o nx tgt) (qt : ¬ x < 0 → Wp n0 p e R s below Q T (mkF m tgt Ls S)) (qf : x < 0 → Wp n0 p e R s below Q T (mkF m nx Ls S)) : Wp n0 p e R s below Q T (mkF m pc Ls (.int x :: S)) := by
  obtain ⟨hx, hZ, hby, hml, hret, hown, hnm, hlk, eT, hn0, hw, locs, N, Y⟩ := X
  obtain ⟨hd, rfl, ho, hp⟩ := hd
  by_cases hc : x < 0
  · exact Wp.go (fun _ q => XS.ifNo Y.here hx rfl (hb hby hd) rfl (Jvm.Free.XT.i0_ge_f hc) q) (qf hc)
  · exact Wp.go (fun _ q => XS.ifYes Y.here hx rfl (pc0 := pc) (pc' := tgt) rfl (hb hby hd) rfl (Jvm.Free.XT.i0_ge_t hc) ho hp q) (qt hc)
theorem w_lcmpge (X : Pos Z a0 n0 p l e R s m args below meth c code ml ret y T h k j) {x z : Int64} {o : Int} {mid : Nat} (hd0 : Dec code pc .lcmp 1 mid) (hd : Jmp code mid (.ifCond .ge o) o nx tgt) (qt : ¬ x < z → Wp n0 p e R s below Q T (mkF m tgt Ls S)) (qf : x < z → Wp n0 p e R s below Q T (mkF m nx Ls S)) : Wp n0 p e R s below Q T (mkF m pc Ls (.long z :: .long x :: S)) := by
  obtain ⟨hx, hZ, hby, hml, hret, hown, hnm, hlk, eT, hn0, hw, locs, N, Y⟩ := X
  obtain ⟨hd0, rfl⟩ := hd0
  obtain ⟨hd, rfl, ho, hp⟩ := hd
  refine Wp.go (fun _ q => Jvm.Free.XT.lcmp Y.here hx rfl (hb hby hd0) rfl q) ?_
  by_cases hc : x < z
  · exact Wp.go (fun _ q => XS.ifNo Y.here hx rfl (hb hby hd) rfl (Jvm.Free.XT.ll_ge_f hc) q) (qf hc)
  · exact Wp.go (fun _ q => XS.ifYes Y.here hx rfl (pc0 := pc + 1) (pc' := tgt) rfl (hb hby hd) rfl (Jvm.Free.XT.ll_ge_t hc) ho hp q) (qt hc)
theorem w_icmpgt (X : Pos Z a0 n0 p l e R s m args below meth c code ml ret y T h k j) {x z : Int32} {o : Int} (hd : Jmp code pc (.if_icmp .gt o) o nx tgt) (qt : z < x → Wp n0 p e R s below Q T (mkF m tgt Ls S)) (qf : ¬ z < x → Wp n0 p e R s below Q T (mkF m nx Ls S)) : Wp n0 p e R s below Q T (mkF m pc Ls (.int z :: .int x :: S)) := by
  obtain ⟨hx, hZ, hby, hml, hret, hown, hnm, hlk, eT, hn0, hw, locs, N, Y⟩ := X
  obtain ⟨hd, rfl, ho, hp⟩ := hd
  by_cases hc : z < x
  · exact Wp.go (fun _ q => XS.icmpYes Y.here hx rfl (pc0 := pc) (pc' := tgt) rfl (hb hby hd) rfl (Jvm.Free.XT.ii_gt_t hc) ho hp q) (qt hc)
  · exact Wp.go (fun _ q => XS.icmpNo Y.here hx rfl (hb hby hd) rfl (Jvm.Free.XT.ii_gt_f hc) q) (qf hc)
theorem w_ifgt (X : Pos Z a0 n0 p l e R s m args below meth c code ml ret y T h k j) {x : Int32} {o : Int} (hd : Jmp code pc (.ifCond .gt o) o nx tgt) (qt : 0 < x → Wp n0 p e R s below Q T (mkF m tgt Ls S)) (qf : ¬ 0 < x → Wp n0 p e R s below Q T (mkF m nx Ls S)) : Wp n0 p e R s below Q T (mkF m pc Ls (.int x :: S)) := by
  obtain ⟨hx, hZ, hby, hml, hret, hown, hnm, hlk, eT, hn0, hw, locs, N, Y⟩ := X
  obtain ⟨hd, rfl, ho, hp⟩ := hd
  by_cases hc : 0 < x
  · exact Wp.go (fun _ q => XS.ifYes Y.here hx rfl (pc0 := pc) (pc' := tgt) rfl (hb hby hd) rfl (Jvm.Free.XT.i0_gt_t hc) ho hp q) (qt hc)
  · exact Wp.go (fun _ q => XS.ifNo Y.here hx rfl (hb hby hd) rfl (Jvm.Free.XT.i0_gt_f hc) q) (qf hc)
theorem w_lcmpgt (X : Pos Z a0 n0 p l e R s m args below meth c code ml ret y T h k j) {x z : Int64} {o : Int} {mid : Nat} (hd0 : Dec code pc .lcmp 1 mid) (hd : Jmp code mid (.ifCond .gt o) o nx tgt) (qt : z < x → Wp n0 p e R s below Q T (mkF m tgt Ls S)) (qf : ¬ z < x → Wp n0 p e R s below Q T (mkF m nx Ls S)) : Wp n0 p e R s below Q T (mkF m pc Ls (.long z :: .long x :: S)) := by
  obtain ⟨hx, hZ, hby, hml, hret, hown, hnm, hlk, eT, hn0, hw, locs, N, Y⟩ := X
  obtain ⟨hd0, rfl⟩ := hd0
  obtain ⟨hd, rfl, ho, hp⟩ := hd
  refine Wp.go (fun _ q => Jvm.Free.XT.lcmp Y.here hx rfl (hb hby hd0) rfl q) ?_
  by_cases hc : z < x
  · exact Wp.go (fun _ q => XS.ifYes Y.here hx rfl (pc0 := pc + 1) (pc' := tgt) rfl (hb hby hd) rfl (Jvm.Free.XT.ll_gt_t hc) ho hp q) (qt hc)
  · exact Wp.go (fun _ q => XS.ifNo Y.here hx rfl (hb hby hd) rfl (Jvm.Free.XT.ll_gt_f hc) q) (qf hc)
theorem w_icmple (X : Pos Z a0 n0 p l e R s m args below meth c code ml ret y T h k j) {x z : Int32} {o : Int} (hd : Jmp code pc (.if_icmp .le o) o nx tgt) (qt : ¬ z < x → Wp n0 p e R s below Q T (mkF m tgt Ls S)) (qf : z < x → Wp n0 p e R s below Q T (mkF m nx Ls S)) : Wp n0 p e R s below Q T (mkF m pc Ls (.int z :: .int x :: S)) := by
  obtain ⟨hx, hZ, hby, hml, hret, hown, hnm, hlk, eT, hn0, hw, locs, N, Y⟩ := X
  obtain ⟨hd, rfl, ho, hp⟩ := hd
  by_cases hc : z < x
  · exact Wp.go (fun _ q => XS.icmpNo Y.here hx rfl (hb hby hd) rfl (Jvm.Free.XT.ii_le_f hc) q) (qf hc)
  · exact Wp.go (fun _ q => XS.icmpYes Y.here hx rfl (pc0 := pc) (pc' := tgt) rfl (hb hby hd) rfl (Jvm.Free.XT.ii_le_t hc) ho hp q) (qt hc)
theorem w_ifle (X : Pos Z a0 n0 p l e R s m args below meth c code ml ret y T h k j) {x : Int32} {o : Int} (hd : Jmp code pc (.ifCond .le o) o nx tgt) (qt : ¬ 0 < x → Wp n0 p e R s below Q T (mkF m tgt Ls S)) (qf : 0 < x → Wp n0 p e R s below Q T (mkF m nx Ls S)) : Wp n0 p e R s below Q T (mkF m pc Ls (.int x :: S)) := by
  obtain ⟨hx, hZ, hby, hml, hret, hown, hnm, hlk, eT, hn0, hw, locs, N, Y⟩ := X
  obtain ⟨hd, rfl, ho, hp⟩ := hd
  by_cases hc : 0 < x
  · exact Wp.go (fun _ q => XS.ifNo Y.here hx rfl (hb hby hd) rfl (Jvm.Free.XT.i0_le_f hc) q) (qf hc)
  · exact Wp.go (fun _ q => XS.ifYes Y.here hx rfl (pc0 := pc) (pc' := tgt) rfl (hb hby hd) rfl (Jvm.Free.XT.i0_le_t hc) ho hp q) (qt hc)
theorem w_lcmple (X : Pos Z a0 n0 p l e R s m args below meth c code ml ret y T h k j) {x z : Int64} {o : Int} {mid : Nat} (hd0 : Dec code pc .lcmp 1 mid) (hd : Jmp code mid (.ifCond .le o) o nx tgt) (qt : ¬ z < x → Wp n0 p e R s below Q T (mkF m tgt Ls S)) (qf : z < x → Wp n0 p e R s below Q T (mkF m nx Ls S)) : Wp n0 p e R s below Q T (mkF m pc Ls (.long z :: .long x :: S)) := by
  obtain ⟨hx, hZ, hby, hml, hret, hown, hnm, hlk, eT, hn0, hw, locs, N, Y⟩ := X
  obtain ⟨hd0, rfl⟩ := hd0
  obtain ⟨hd, rfl, ho, hp⟩ := hd
  refine Wp.go (fun _ q => Jvm.Free.XT.lcmp Y.here hx rfl (hb hby hd0) rfl q) ?_
  by_cases hc : z < x
  · exact Wp.go (fun _ q => XS.ifNo Y.here hx rfl (hb hby hd) rfl (Jvm.Free.XT.ll_le_f hc) q) (qf hc)
  · exact Wp.go (fun _ q => XS.ifYes Y.here hx rfl (pc0 := pc + 1) (pc' := tgt) rfl (hb hby hd) rfl (Jvm.Free.XT.ll_le_t hc) ho hp q) (qt hc)
theorem w_ldc (X : Pos Z a0 n0 p l e R s m args below meth c code ml ret y T h k j) {i : Nat} {v : Int32} (hd : Dec code pc (.ldc i) 2 nx) (wc : (Jvm.Cond.constant y.cls i v).before a0 Z = true) (q : Wp n0 p e R s below Q T (mkF m nx Ls (.int v :: S))) : Wp n0 p e R s below Q T (mkF m pc Ls S) := by
  obtain ⟨hx, hZ, hby, hml, hret, hown, hnm, hlk, eT, hn0, hw, locs, N, Y⟩ := X
  obtain ⟨hd, rfl⟩ := hd
  exact Wp.go (Y.ldcInt hx hown (mvT hZ wc) rfl (hb hby hd)) q
theorem w_ldc2 (X : Pos Z a0 n0 p l e R s m args below meth c code ml ret y T h k j) {i : Nat} {v : Int64} (hd : Dec code pc (.ldc2_w i) 3 nx) (wc : (Jvm.Cond.constantLong y.cls i v).before a0 Z = true) (q : Wp n0 p e R s below Q T (mkF m nx Ls (.long v :: S))) : Wp n0 p e R s below Q T (mkF m pc Ls S) := by
  obtain ⟨hx, hZ, hby, hml, hret, hown, hnm, hlk, eT, hn0, hw, locs, N, Y⟩ := X
  obtain ⟨hd, rfl⟩ := hd
  exact Wp.go (Y.ldc2Long hx hown (mvT hZ wc) rfl (hb hby hd)) q
theorem w_ldcw (X : Pos Z a0 n0 p l e R s m args below meth c code ml ret y T h k j) {i : Nat} {v : Int32} (hd : Dec code pc (.ldc_w i) 3 nx) (wc : (Jvm.Cond.constant y.cls i v).before a0 Z = true) (q : Wp n0 p e R s below Q T (mkF m nx Ls (.int v :: S))) : Wp n0 p e R s below Q T (mkF m pc Ls S) := by
  obtain ⟨hx, hZ, hby, hml, hret, hown, hnm, hlk, eT, hn0, hw, locs, N, Y⟩ := X
  obtain ⟨hd, rfl⟩ := hd
  exact Wp.go (Y.ldcwInt hx hown (mvT hZ wc) rfl (hb hby hd)) q
theorem w_wiinc (X : Pos Z a0 n0 p l e R s m args below meth c code ml ret y T h k j) {w : Nat} {i : Int} {d v r : Int32} {l' : Array Slot} (hd : Dec code pc (.iinc w i) 6 nx) (hl : Ls[w]? = some (.val (.int v))) (hi : Int32.ofInt i = d) (hr : v + d = r) (hl' : storeLocals Ls w (.int r) = some l') (q : Wp n0 p e R s below Q T (mkF m nx l' S)) : Wp n0 p e R s below Q T (mkF m pc Ls S) := by
  obtain ⟨hx, hZ, hby, hml, hret, hown, hnm, hlk, eT, hn0, hw, locs, N, Y⟩ := X
  obtain ⟨hd, rfl⟩ := hd
  subst hi hr
  refine Wp.go (fun _ q => ?_) q
  have hd' := hb hby hd
  have h := Y.here
  jvm_step h [h.top, hx, hd', hl, hl']
  exact q
theorem w_ireturn (X : Pos Z a0 n0 p l e R s m args below meth c code ml (some .int) y T h k j) {z : Int32} (hd : Dec code pc .ireturn 1 nx) (hk : k ≤ R.cells) (hj : j ≤ R.slots) (hq : Q (some (.int z)) h) : Wp n0 p e R s below Q T (mkF m pc Ls (.int z :: S)) := by
  obtain ⟨hx, hZ, hby, hml, hret, hown, hnm, hlk, eT, hn0, hw, locs, N, Y⟩ := X
  obtain ⟨hd, -⟩ := hd
  obtain ⟨fs, hr, hrun, hended, hW, hsame⟩ := Y.leave (v := (some (.int z))) (fun h => by rw [hret] at h; cases h) hlk
  exact ⟨_, _, retI Y hx hret (hb hby hd) hr, hrun, hended, _, _, rfl, ⟨N, by show n0 ≤ T.heap.size; rw [eT]; exact hn0, by show Q _ T.heap; rw [eT]; exact hq⟩, ⟨_, rfl⟩, hW, hsame.mono hk hj⟩
theorem w_breturn (X : Pos Z a0 n0 p l e R s m args below meth c code ml (some .byte) y T h k j) {z : Int32} (hd : Dec code pc .ireturn 1 nx) (hk : k ≤ R.cells) (hj : j ≤ R.slots) (hq : Q (some (.int (nar .byte z))) h) : Wp n0 p e R s below Q T (mkF m pc Ls (.int z :: S)) := by
  obtain ⟨hx, hZ, hby, hml, hret, hown, hnm, hlk, eT, hn0, hw, locs, N, Y⟩ := X
  obtain ⟨hd, -⟩ := hd
  obtain ⟨fs, hr, hrun, hended, hW, hsame⟩ := Y.leave (v := (some (.int (nar .byte z)))) (fun h => by rw [hret] at h; cases h) hlk
  exact ⟨_, _, retN Y hx (t := .byte) hret (by simp) (hb hby hd) hr, hrun, hended, _, _, rfl, ⟨N, by show n0 ≤ T.heap.size; rw [eT]; exact hn0, by show Q _ T.heap; rw [eT]; exact hq⟩, ⟨_, rfl⟩, hW, hsame.mono hk hj⟩
theorem w_zreturn (X : Pos Z a0 n0 p l e R s m args below meth c code ml (some .boolean) y T h k j) {z : Int32} (hd : Dec code pc .ireturn 1 nx) (hk : k ≤ R.cells) (hj : j ≤ R.slots) (hq : Q (some (.int (nar .boolean z))) h) : Wp n0 p e R s below Q T (mkF m pc Ls (.int z :: S)) := by
  obtain ⟨hx, hZ, hby, hml, hret, hown, hnm, hlk, eT, hn0, hw, locs, N, Y⟩ := X
  obtain ⟨hd, -⟩ := hd
  obtain ⟨fs, hr, hrun, hended, hW, hsame⟩ := Y.leave (v := (some (.int (nar .boolean z)))) (fun h => by rw [hret] at h; cases h) hlk
  exact ⟨_, _, retN Y hx (t := .boolean) hret (by simp) (hb hby hd) hr, hrun, hended, _, _, rfl, ⟨N, by show n0 ≤ T.heap.size; rw [eT]; exact hn0, by show Q _ T.heap; rw [eT]; exact hq⟩, ⟨_, rfl⟩, hW, hsame.mono hk hj⟩
theorem w_lreturn (X : Pos Z a0 n0 p l e R s m args below meth c code ml (some .long) y T h k j) {z : Int64} (hd : Dec code pc .lreturn 1 nx) (hk : k ≤ R.cells) (hj : j ≤ R.slots) (hq : Q (some (.long z)) h) : Wp n0 p e R s below Q T (mkF m pc Ls [.long z]) := by
  obtain ⟨hx, hZ, hby, hml, hret, hown, hnm, hlk, eT, hn0, hw, locs, N, Y⟩ := X
  obtain ⟨hd, -⟩ := hd
  obtain ⟨fs, hr, hrun, hended, hW, hsame⟩ := Y.leave (v := (some (.long z))) (fun h => by rw [hret] at h; cases h) hlk
  exact ⟨_, _, Y.lreturnOut hx hret (hb hby hd) hr, hrun, hended, _, _, rfl, ⟨N, by show n0 ≤ T.heap.size; rw [eT]; exact hn0, by show Q _ T.heap; rw [eT]; exact hq⟩, ⟨_, rfl⟩, hW, hsame.mono hk hj⟩
theorem w_return (X : Pos Z a0 n0 p l e R s m args below meth c code ml none y T h k j)  (hd : Dec code pc .return_ 1 nx) (hk : k ≤ R.cells) (hj : j ≤ R.slots) (hq : Q none h) : Wp n0 p e R s below Q T (mkF m pc Ls []) := by
  obtain ⟨hx, hZ, hby, hml, hret, hown, hnm, hlk, eT, hn0, hw, locs, N, Y⟩ := X
  obtain ⟨hd, -⟩ := hd
  obtain ⟨fs, hr, hrun, hended, hW, hsame⟩ := Y.leave (v := none) (fun _ => rfl) hlk
  exact ⟨_, _, Y.returnOut hx hret (hb hby hd) hr, hrun, hended, _, _, rfl, ⟨N, by show n0 ≤ T.heap.size; rw [eT]; exact hn0, by show Q _ T.heap; rw [eT]; exact hq⟩, ⟨_, rfl⟩, hW, hsame.mono hk hj⟩
theorem w_arraylength (X : Pos Z a0 n0 p l e R s m args below meth c code ml ret y T h k j) {a : Addr} {ty : FieldType} {n : Nat} {g : Nat → Value} (hd : Dec code pc .arraylength 1 nx) (B : Ba Z n0 h a ty n g) (q : Wp n0 p e R s below Q T (mkF m nx Ls (.int (Int32.ofNat n) :: S))) : Wp n0 p e R s below Q T (mkF m pc Ls (.ref a :: S)) := by
  obtain ⟨hx, hZ, hby, hml, hret, hown, hnm, hlk, eT, hn0, hw, locs, N, Y⟩ := X
  obtain ⟨hd, rfl⟩ := hd
  obtain ⟨-, hn, cl, A, hs, -⟩ := B
  subst hs
  exact Wp.go (fun _ q => Y.arraylength hx (g := mkF m pc Ls (.ref a :: S)) (cell := cl) (by rw [eT]; exact A.1) (State.isArrayOf_alike hZ.alike A.2.1) rfl rfl (hb hby hd) _ q) q
theorem w_baload (X : Pos Z a0 n0 p l e R s m args below meth c code ml ret y T h k j) {a : Addr} {n : Nat} {b : Nat → Int32} {x : Int32} (hd : Dec code pc .baload 1 nx) (B : Ba Z n0 h a .byte n (bI b)) (i : Nat) (hi : x = Int32.ofNat i) (hlt : i < n) (q : Wp n0 p e R s below Q T (mkF m nx Ls (.int (b i) :: S))) : Wp n0 p e R s below Q T (mkF m pc Ls (.int x :: .ref a :: S)) := by
  obtain ⟨hx, hZ, hby, hml, hret, hown, hnm, hlk, eT, hn0, hw, locs, N, Y⟩ := X
  obtain ⟨hd, rfl⟩ := hd
  obtain ⟨-, hn, cl, A, hs, hv⟩ := B
  subst hi
  exact Wp.go (fun _ q => Y.baloadBytes hx (g := mkF m pc Ls (.int (Int32.ofNat i) :: .ref a :: S)) (j := Int32.ofNat i) (v := .int (b i)) (by rw [eT]; exact A.1) (State.isArrayOf_alike hZ.alike A.2.1) A.2.2 (inb hn hs hlt) (by rw [ofNat_clamp (by omega)]; exact hv i hlt) rfl rfl (hb hby hd) _ q) q
theorem w_iaload (X : Pos Z a0 n0 p l e R s m args below meth c code ml ret y T h k j) {a : Addr} {n : Nat} {b : Nat → Int32} {x : Int32} (hd : Dec code pc .iaload 1 nx) (B : Ba Z n0 h a .int n (bI b)) (i : Nat) (hi : x = Int32.ofNat i) (hlt : i < n) (q : Wp n0 p e R s below Q T (mkF m nx Ls (.int (b i) :: S))) : Wp n0 p e R s below Q T (mkF m pc Ls (.int x :: .ref a :: S)) := by
  obtain ⟨hx, hZ, hby, hml, hret, hown, hnm, hlk, eT, hn0, hw, locs, N, Y⟩ := X
  obtain ⟨hd, rfl⟩ := hd
  obtain ⟨-, hn, cl, A, hs, hv⟩ := B
  subst hi
  exact Wp.go (fun _ q => Y.iaload hx (g := mkF m pc Ls (.int (Int32.ofNat i) :: .ref a :: S)) (j := Int32.ofNat i) (v := .int (b i)) (by rw [eT]; exact A.1) (State.isArrayOf_alike hZ.alike A.2.1) A.2.2 (inb hn hs hlt) (by rw [ofNat_clamp (by omega)]; exact hv i hlt) rfl rfl (hb hby hd) _ q) q
theorem w_laload (X : Pos Z a0 n0 p l e R s m args below meth c code ml ret y T h k j) {a : Addr} {n : Nat} {b : Nat → Int64} {x : Int32} (hd : Dec code pc .laload 1 nx) (B : Ba Z n0 h a .long n (bJ b)) (i : Nat) (hi : x = Int32.ofNat i) (hlt : i < n) (q : Wp n0 p e R s below Q T (mkF m nx Ls (.long (b i) :: S))) : Wp n0 p e R s below Q T (mkF m pc Ls (.int x :: .ref a :: S)) := by
  obtain ⟨hx, hZ, hby, hml, hret, hown, hnm, hlk, eT, hn0, hw, locs, N, Y⟩ := X
  obtain ⟨hd, rfl⟩ := hd
  obtain ⟨-, hn, cl, A, hs, hv⟩ := B
  subst hi
  exact Wp.go (fun _ q => Y.laload hx (g := mkF m pc Ls (.int (Int32.ofNat i) :: .ref a :: S)) (j := Int32.ofNat i) (v := .long (b i)) (by rw [eT]; exact A.1) (State.isArrayOf_alike hZ.alike A.2.1) A.2.2 (inb hn hs hlt) (by rw [ofNat_clamp (by omega)]; exact hv i hlt) rfl rfl (hb hby hd) _ q) q
theorem w_bastore (X : Pos Z a0 n0 p l e R s m args below meth c code ml ret y T h k j) {a : Addr} {n : Nat} {b : Nat → Int32} {x : Int32} {v : Int32} (hd : Dec code pc .bastore 1 nx) (B : Ba Z n0 h a .byte n (bI b)) (i : Nat) (hi : x = Int32.ofNat i) (hlt : i < n)
    (q : ∀ T' h', Pos Z a0 n0 p l e R s m args below meth c code ml ret y T' h' k j → Keep h h' [a] → Ba Z n0 h' a .byte n (bI (upd b i (jbyte v))) → Wp n0 p e R s below Q T' (mkF m nx Ls S)) : Wp n0 p e R s below Q T (mkF m pc Ls (.int v :: .int x :: .ref a :: S)) := by
  obtain ⟨hx, hZ, hby, hml, hret, hown, hnm, hlk, eT, hn0, hw, locs, N, Y⟩ := X
  obtain ⟨hd, rfl⟩ := hd
  obtain ⟨hna, hn, cl, A, hs, hv⟩ := B
  subst hi
  obtain ⟨T', h', Y', e', W', st⟩ := stB Y hx hZ eT A (j := Int32.ofNat i) (inb hn hs hlt) (g := mkF m pc Ls (.int v :: .int (Int32.ofNat i) :: .ref a :: S)) rfl rfl (hb hby hd)
  refine Wp.go st (q T' h' ⟨hx, hZ, hby, hml, hret, hown, hnm, hlk, e', by rw [W'.size]; exact hn0, hw, _, Fr.snoc Y' N hna, Y'⟩ (Keep.of_wr W') ⟨hna, hn, _, A.same W', (sz_set _ _ _).trans hs, fun q hq => ?_⟩)
  rw [ofNat_clamp (by omega)]
  by_cases hqi : q = i
  · subst hqi
    simp [Cell.setSlot, hs, hq, upd, bI, nar]
  · simp [Cell.setSlot, upd, hqi, bI, Array.getElem?_setIfInBounds_ne (Ne.symm hqi), hv q hq]
theorem w_iastore (X : Pos Z a0 n0 p l e R s m args below meth c code ml ret y T h k j) {a : Addr} {n : Nat} {b : Nat → Int32} {x : Int32} {v : Int32} (hd : Dec code pc .iastore 1 nx) (B : Ba Z n0 h a .int n (bI b)) (i : Nat) (hi : x = Int32.ofNat i) (hlt : i < n)
    (q : ∀ T' h', Pos Z a0 n0 p l e R s m args below meth c code ml ret y T' h' k j → Keep h h' [a] → Ba Z n0 h' a .int n (bI (upd b i (v))) → Wp n0 p e R s below Q T' (mkF m nx Ls S)) : Wp n0 p e R s below Q T (mkF m pc Ls (.int v :: .int x :: .ref a :: S)) := by
  obtain ⟨hx, hZ, hby, hml, hret, hown, hnm, hlk, eT, hn0, hw, locs, N, Y⟩ := X
  obtain ⟨hd, rfl⟩ := hd
  obtain ⟨hna, hn, cl, A, hs, hv⟩ := B
  subst hi
  obtain ⟨T', h', Y', e', W', st⟩ := stI Y hx hZ eT A (j := Int32.ofNat i) (inb hn hs hlt) (g := mkF m pc Ls (.int v :: .int (Int32.ofNat i) :: .ref a :: S)) rfl rfl (hb hby hd)
  refine Wp.go st (q T' h' ⟨hx, hZ, hby, hml, hret, hown, hnm, hlk, e', by rw [W'.size]; exact hn0, hw, _, Fr.snoc Y' N hna, Y'⟩ (Keep.of_wr W') ⟨hna, hn, _, A.same W', (sz_set _ _ _).trans hs, fun q hq => ?_⟩)
  rw [ofNat_clamp (by omega)]
  by_cases hqi : q = i
  · subst hqi
    simp [Cell.setSlot, hs, hq, upd, bI]
  · simp [Cell.setSlot, upd, hqi, bI, Array.getElem?_setIfInBounds_ne (Ne.symm hqi), hv q hq]
theorem w_lastore (X : Pos Z a0 n0 p l e R s m args below meth c code ml ret y T h k j) {a : Addr} {n : Nat} {b : Nat → Int64} {x : Int32} {v : Int64} (hd : Dec code pc .lastore 1 nx) (B : Ba Z n0 h a .long n (bJ b)) (i : Nat) (hi : x = Int32.ofNat i) (hlt : i < n)
    (q : ∀ T' h', Pos Z a0 n0 p l e R s m args below meth c code ml ret y T' h' k j → Keep h h' [a] → Ba Z n0 h' a .long n (bJ (upd b i (v))) → Wp n0 p e R s below Q T' (mkF m nx Ls S)) : Wp n0 p e R s below Q T (mkF m pc Ls (.long v :: .int x :: .ref a :: S)) := by
  obtain ⟨hx, hZ, hby, hml, hret, hown, hnm, hlk, eT, hn0, hw, locs, N, Y⟩ := X
  obtain ⟨hd, rfl⟩ := hd
  obtain ⟨hna, hn, cl, A, hs, hv⟩ := B
  subst hi
  obtain ⟨T', h', Y', e', W', st⟩ := stJ Y hx hZ eT A (j := Int32.ofNat i) (inb hn hs hlt) (g := mkF m pc Ls (.long v :: .int (Int32.ofNat i) :: .ref a :: S)) rfl rfl (hb hby hd)
  refine Wp.go st (q T' h' ⟨hx, hZ, hby, hml, hret, hown, hnm, hlk, e', by rw [W'.size]; exact hn0, hw, _, Fr.snoc Y' N hna, Y'⟩ (Keep.of_wr W') ⟨hna, hn, _, A.same W', (sz_set _ _ _).trans hs, fun q hq => ?_⟩)
  rw [ofNat_clamp (by omega)]
  by_cases hqi : q = i
  · subst hqi
    simp [Cell.setSlot, hs, hq, upd, bJ]
  · simp [Cell.setSlot, upd, hqi, bJ, Array.getElem?_setIfInBounds_ne (Ne.symm hqi), hv q hq]
theorem w_newB (X : Pos Z a0 n0 p l e R s m args below meth c code ml ret y T h k j) {x : Int32} (hd : Dec code pc (.newarray .byte) 2 nx) (wa : (Jvm.Cond.arrayClass .byte).before a0 Z = true) (n cap : Nat) (hx' : x = Int32.ofNat n) (hcap : n ≤ cap) (hb' : cap * 8 ≤ 536870912) (hk : k + 1 ≤ R.cells) (hj : j + cap ≤ R.slots)
    (q : ∀ T' h' a, Pos Z a0 n0 p l e R s m args below meth c code ml ret y T' h' (k + 1) (j + cap) → a = h.size → Ext h h' → Ba Z n0 h' a .byte n (bI fun _ => 0) → Wp n0 p e R s below Q T' (mkF m nx Ls (.ref a :: S))) : Wp n0 p e R s below Q T (mkF m pc Ls (.int x :: S)) := by
  obtain ⟨hx, hZ, hby, hml, hret, hown, hnm, hlk, eT, hn0, hw, locs, N, Y⟩ := X
  obtain ⟨hd, rfl⟩ := hd
  subst hx'
  obtain ⟨T', h', cA, Y', e', E', A', st⟩ := newP Y hx hZ (aty := .byte) wa eT (g := mkF m pc Ls (.int (Int32.ofNat n) :: S)) rfl (hb hby hd) rfl (ofNat_nn (by omega)) (cap := cap) (by rw [ofNat_clamp (by omega)]; exact hcap) hb' hk hj
  refine Wp.go st (q T' h' _ ⟨hx, hZ, hby, hml, hret, hown, hnm, hlk, e', Nat.le_trans hn0 E'.1, hw, _, N, Y'⟩ rfl E' ⟨hn0, by omega, _, A', by rw [sz_new, ofNat_clamp (by omega)], fun i hi => ?_⟩)
  have := get_new (cA := cA) (ty := .byte) (n := Int32.ofNat n) (k := Int32.ofNat i) (by rw [ofNat_clamp (by omega), ofNat_clamp (by omega)]; exact fun q => q.elim (ofNat_nn (by omega)) (fun q => by omega))
  rw [ofNat_clamp (by omega)] at this
  exact this
theorem w_newI (X : Pos Z a0 n0 p l e R s m args below meth c code ml ret y T h k j) {x : Int32} (hd : Dec code pc (.newarray .int) 2 nx) (wa : (Jvm.Cond.arrayClass .int).before a0 Z = true) (n cap : Nat) (hx' : x = Int32.ofNat n) (hcap : n ≤ cap) (hb' : cap * 8 ≤ 536870912) (hk : k + 1 ≤ R.cells) (hj : j + cap ≤ R.slots)
    (q : ∀ T' h' a, Pos Z a0 n0 p l e R s m args below meth c code ml ret y T' h' (k + 1) (j + cap) → a = h.size → Ext h h' → Ba Z n0 h' a .int n (bI fun _ => 0) → Wp n0 p e R s below Q T' (mkF m nx Ls (.ref a :: S))) : Wp n0 p e R s below Q T (mkF m pc Ls (.int x :: S)) := by
  obtain ⟨hx, hZ, hby, hml, hret, hown, hnm, hlk, eT, hn0, hw, locs, N, Y⟩ := X
  obtain ⟨hd, rfl⟩ := hd
  subst hx'
  obtain ⟨T', h', cA, Y', e', E', A', st⟩ := newP Y hx hZ (aty := .int) wa eT (g := mkF m pc Ls (.int (Int32.ofNat n) :: S)) rfl (hb hby hd) rfl (ofNat_nn (by omega)) (cap := cap) (by rw [ofNat_clamp (by omega)]; exact hcap) hb' hk hj
  refine Wp.go st (q T' h' _ ⟨hx, hZ, hby, hml, hret, hown, hnm, hlk, e', Nat.le_trans hn0 E'.1, hw, _, N, Y'⟩ rfl E' ⟨hn0, by omega, _, A', by rw [sz_new, ofNat_clamp (by omega)], fun i hi => ?_⟩)
  have := get_new (cA := cA) (ty := .int) (n := Int32.ofNat n) (k := Int32.ofNat i) (by rw [ofNat_clamp (by omega), ofNat_clamp (by omega)]; exact fun q => q.elim (ofNat_nn (by omega)) (fun q => by omega))
  rw [ofNat_clamp (by omega)] at this
  exact this
theorem w_newJ (X : Pos Z a0 n0 p l e R s m args below meth c code ml ret y T h k j) {x : Int32} (hd : Dec code pc (.newarray .long) 2 nx) (wa : (Jvm.Cond.arrayClass .long).before a0 Z = true) (n cap : Nat) (hx' : x = Int32.ofNat n) (hcap : n ≤ cap) (hb' : cap * 8 ≤ 536870912) (hk : k + 1 ≤ R.cells) (hj : j + cap ≤ R.slots)
    (q : ∀ T' h' a, Pos Z a0 n0 p l e R s m args below meth c code ml ret y T' h' (k + 1) (j + cap) → a = h.size → Ext h h' → Ba Z n0 h' a .long n (bJ fun _ => 0) → Wp n0 p e R s below Q T' (mkF m nx Ls (.ref a :: S))) : Wp n0 p e R s below Q T (mkF m pc Ls (.int x :: S)) := by
  obtain ⟨hx, hZ, hby, hml, hret, hown, hnm, hlk, eT, hn0, hw, locs, N, Y⟩ := X
  obtain ⟨hd, rfl⟩ := hd
  subst hx'
  obtain ⟨T', h', cA, Y', e', E', A', st⟩ := newP Y hx hZ (aty := .long) wa eT (g := mkF m pc Ls (.int (Int32.ofNat n) :: S)) rfl (hb hby hd) rfl (ofNat_nn (by omega)) (cap := cap) (by rw [ofNat_clamp (by omega)]; exact hcap) hb' hk hj
  refine Wp.go st (q T' h' _ ⟨hx, hZ, hby, hml, hret, hown, hnm, hlk, e', Nat.le_trans hn0 E'.1, hw, _, N, Y'⟩ rfl E' ⟨hn0, by omega, _, A', by rw [sz_new, ofNat_clamp (by omega)], fun i hi => ?_⟩)
  have := get_new (cA := cA) (ty := .long) (n := Int32.ofNat n) (k := Int32.ofNat i) (by rw [ofNat_clamp (by omega), ofNat_clamp (by omega)]; exact fun q => q.elim (ofNat_nn (by omega)) (fun q => by omega))
  rw [ofNat_clamp (by omega)] at this
  exact this
theorem w_static (X : Pos Z a0 n0 p l e R s m args below meth c code ml ret y T h k j) {z : MethodName} {cz : ByteArray} {mz : Nat} {rz : Option FieldType} {rm : Room} {Qz : Option Value → Heap → Prop} {ps : List FieldType} {rr : Option FieldType} {i : Nat} {argsL : List Value} (hd : Dec code pc (.invokestatic i) 3 nx) (C : Ctr l Z n0 z cz mz rz rm [] argsL.toArray h Qz) (wl : (Jvm.Cond.methodLink y.cls i z).before a0 Z = true) (ws : (Jvm.Cond.static z).before a0 Z = true) (wi : (Jvm.Cond.initialized z.cls).before a0 Z = true) (wc : (Jvm.Cond.code z cz mz rz).before a0 Z = true)
    (hz : z.cls ≠ "java/lang/invoke/MethodHandle" ∧ z.cls ≠ "java/lang/invoke/VarHandle") (hpd : parseMethodDescriptor z.desc = some ⟨ps, rr⟩) (hlen : argsL.length = ps.length) {S0 : List Value} (hS : S0 = argsL.reverse ++ S) (hsz : Ls.size = ml)
    (hf : rm.frames + 1 ≤ R.frames) (hlo : (S.map fun v => v.category).sum + (mz + 11) + rm.locals ≤ R.locals) (hk : k + rm.cells ≤ R.cells) (hj : j + rm.slots ≤ R.slots)
    (q : ∀ v T' h', Pos Z a0 n0 p l e R s m args below meth c code ml ret y T' h' (k + rm.cells) (j + rm.slots) → Qz v h' → Wp n0 p e R s below Q T' (mkF m nx Ls (v.toList ++ S))) : Wp n0 p e R s below Q T (mkF m pc Ls S0) := by
  obtain ⟨hx, hZ, hby, hml, hret, hown, hnm, hlk, eT, hn0, hw, locs, N, Y⟩ := X
  obtain ⟨hd, rfl⟩ := hd
  obtain ⟨v, _, ⟨T', L', k', j'⟩, -, Y', ⟨Lc, hQ, l1, l2, l3⟩, st⟩ := Jvm.LawKit.callS Y hx (y := z) hown (mvT hZ wl) (mvT hZ ws) (mvT hZ wi) (mvT hZ wc) hz (backOf (W := (S.map fun v => v.category).sum) (Q := fun v h L => Fr n0 L ∧ n0 ≤ h.size ∧ Qz v h) C hZ wc wi hf hlo) (g := mkF m pc Ls S0) rfl (by rw [hml]; exact hsz) (argsL := argsL) (rest := S) (lenOf hpd hlen) hS (by show 2 * 0 + _ ≤ _; omega) (hb hby hd) (fun _ _ => ⟨rfl, eT, hk, hj⟩)
  dsimp only [Pt.U, Pt.locs, Pt.cells, Pt.slots] at Y' l1 l2 l3 st hQ
  subst l1 l2 l3
  obtain ⟨N', hn', hQ⟩ := hQ
  exact Wp.go st (q v T' _ ⟨hx, hZ, hby, hml, hret, hown, hnm, hlk, rfl, hn', hw, _, Fr.app N N', Y'⟩ hQ)
theorem w_virtual (X : Pos Z a0 n0 p l e R s m args below meth c code ml ret y T h k j) {z : MethodName} {cz : ByteArray} {mz : Nat} {rz : Option FieldType} {rm : Room} {Qz : Option Value → Heap → Prop} {ps : List FieldType} {rr : Option FieldType} {i : Nat} {argsL : List Value} {a : Addr} (hd : Dec code pc (.invokevirtual i) 3 nx) (C : Ctr l Z n0 z cz mz rz rm [] (.ref a :: argsL).toArray h Qz) (E : Exa Z h a z.cls) (wl : (Jvm.Cond.methodLink y.cls i z).before a0 Z = true) (wdc : (Jvm.Cond.declares z).before a0 Z = true) (wse : (Jvm.Cond.selects z.cls z z).before a0 Z = true) (wim : (Jvm.Cond.instanceMethod z).before a0 Z = true) (wi : (Jvm.Cond.initialized z.cls).before a0 Z = true) (wc : (Jvm.Cond.code z cz mz rz).before a0 Z = true)
    (hz : z.cls ≠ "java/lang/invoke/MethodHandle" ∧ z.cls ≠ "java/lang/invoke/VarHandle") (hpd : parseMethodDescriptor z.desc = some ⟨ps, rr⟩) (hlen : argsL.length = ps.length) {S0 : List Value} (hS : S0 = argsL.reverse ++ .ref a :: S) (hsz : Ls.size = ml)
    (hf : rm.frames + 1 ≤ R.frames) (hlo : (S.map fun v => v.category).sum + (mz + 11) + rm.locals ≤ R.locals) (hk : k + rm.cells ≤ R.cells) (hj : j + rm.slots ≤ R.slots)
    (q : ∀ v T' h', Pos Z a0 n0 p l e R s m args below meth c code ml ret y T' h' (k + rm.cells) (j + rm.slots) → Qz v h' → Wp n0 p e R s below Q T' (mkF m nx Ls (v.toList ++ S))) : Wp n0 p e R s below Q T (mkF m pc Ls S0) := by
  obtain ⟨hx, hZ, hby, hml, hret, hown, hnm, hlk, eT, hn0, hw, locs, N, Y⟩ := X
  obtain ⟨hd, rfl⟩ := hd
  obtain ⟨cq, kq, qa, qb, qc⟩ := isOf hZ eT E
  have Ctr' := backOf (l := l) (R := R) (p := p) (e := e) (below := below) (s := s) (args := args) (len := 3) (W := (S.map fun v => v.category).sum) (Q := fun v h L => Fr n0 L ∧ n0 ≤ h.size ∧ Qz v h) C hZ wc wi hf hlo
  obtain ⟨v, _, ⟨T', L', k', j'⟩, -, Y', ⟨Lc, hQ, l1, l2, l3⟩, st⟩ := Y.virtualBack hx (y := z) (z := z) hown (mvT hZ wl) (mvT hZ wdc) (notFace_of_selects (args := #[]) (mvT hZ wse)) (mvT hZ wse) (mvT hZ wim) hz Ctr' qa qc (g := mkF m pc Ls S0) rfl (by rw [hml]; exact hsz) (Steps.refl _) (argsL := argsL) (rest := S) (lenOf hpd hlen) hS (by show 2 * 0 + _ ≤ _; omega) (hb hby hd) (fun _ _ => ⟨rfl, eT, hk, hj⟩)
  dsimp only [Pt.U, Pt.locs, Pt.cells, Pt.slots] at Y' l1 l2 l3 st hQ
  subst l1 l2 l3
  obtain ⟨N', hn', hQ⟩ := hQ
  exact Wp.go (fun _ t => st.trans t) (q v T' _ ⟨hx, hZ, hby, hml, hret, hown, hnm, hlk, rfl, hn', hw, _, Fr.app N N', Y'⟩ hQ)
theorem w_special (X : Pos Z a0 n0 p l e R s m args below meth c code ml ret y T h k j) {z : MethodName} {cz : ByteArray} {mz : Nat} {rm : Room} {Qz : Option Value → Heap → Prop} {ps : List FieldType} {rr : Option FieldType} {i : Nat} {argsL : List Value} {a : Addr} (hd : Dec code pc (.invokespecial i) 3 nx) (C : Ctr l Z n0 z cz mz none rm [] (.ref a :: argsL).toArray h Qz) (hz1 : z.name = "<init>") (wl : (Jvm.Cond.methodLink y.cls i z).before a0 Z = true) (wim : (Jvm.Cond.instanceMethod z).before a0 Z = true) (wi : (Jvm.Cond.initialized z.cls).before a0 Z = true) (wc : (Jvm.Cond.code z cz mz none).before a0 Z = true)
    (hz : z.cls ≠ "java/lang/invoke/MethodHandle" ∧ z.cls ≠ "java/lang/invoke/VarHandle") (hpd : parseMethodDescriptor z.desc = some ⟨ps, rr⟩) (hlen : argsL.length = ps.length) {S0 : List Value} (hS : S0 = argsL.reverse ++ .ref a :: S) (hsz : Ls.size = ml)
    (hf : rm.frames + 1 ≤ R.frames) (hlo : (S.map fun v => v.category).sum + (mz + 11) + rm.locals ≤ R.locals) (hk : k + rm.cells ≤ R.cells) (hj : j + rm.slots ≤ R.slots)
    (q : ∀ v T' h', Pos Z a0 n0 p l e R s m args below meth c code ml ret y T' h' (k + rm.cells) (j + rm.slots) → Qz v h' → Wp n0 p e R s below Q T' (mkF m nx Ls (v.toList ++ S))) : Wp n0 p e R s below Q T (mkF m pc Ls S0) := by
  obtain ⟨hx, hZ, hby, hml, hret, hown, hnm, hlk, eT, hn0, hw, locs, N, Y⟩ := X
  obtain ⟨hd, rfl⟩ := hd
  have Ctr' := backOf (l := l) (R := R) (p := p) (e := e) (below := below) (s := s) (args := args) (len := 3) (W := (S.map fun v => v.category).sum) (Q := fun v h L => Fr n0 L ∧ n0 ≤ h.size ∧ Qz v h) C hZ wc wi hf hlo
  obtain ⟨v, _, ⟨T', L', k', j'⟩, -, Y', ⟨Lc, hQ, l1, l2, l3⟩, st⟩ := Y.specialBack hx (y := z) hz1 hown (mvT hZ wl) (mvT hZ wim) (mvT hZ wc) hz Ctr' (g := mkF m pc Ls S0) rfl (by rw [hml]; exact hsz) (Steps.refl _) (a := a) (argsL := argsL) (rest := S) (lenOf hpd hlen) hS (by show 2 * 0 + _ ≤ _; omega) (hb hby hd) (fun _ _ => ⟨rfl, eT, hk, hj⟩)
  dsimp only [Pt.U, Pt.locs, Pt.cells, Pt.slots] at Y' l1 l2 l3 st hQ
  subst l1 l2 l3
  obtain ⟨N', hn', hQ⟩ := hQ
  exact Wp.go (fun _ t => st.trans t) (q v T' _ ⟨hx, hZ, hby, hml, hret, hown, hnm, hlk, rfl, hn', hw, _, Fr.app N N', Y'⟩ hQ)
theorem w_new (X : Pos Z a0 n0 p l e R s m args below meth c code ml ret y T h k j) {i n : Nat} {C : String} (hd : Dec code pc (.new i) 3 nx) (w : (Jvm.Cond.classLink y.cls i C).before a0 Z = true) (wi : (Jvm.Cond.instantiable C n).before a0 Z = true) (wz : (Jvm.Cond.initialized C).before a0 Z = true) (hk : k + 1 ≤ R.cells) (hj : j + n ≤ R.slots)
    (q : ∀ T' h' a, Pos Z a0 n0 p l e R s m args below meth c code ml ret y T' h' (k + 1) (j + n) → a = h.size → n0 ≤ a → Ext h h' → Exa Z h' a C → (∀ {O nm d : String} {ty : FieldType}, Laid Z a0 C O nm d → parseFieldDescriptor d = some ty → Fld Z h' a O nm d (defaultValue ty)) → Wp n0 p e R s below Q T' (mkF m nx Ls (.ref a :: S))) : Wp n0 p e R s below Q T (mkF m pc Ls S) := by
  obtain ⟨hx, hZ, hby, hml, hret, hown, hnm, hlk, eT, hn0, hw, locs, N, Y⟩ := X
  obtain ⟨hd, rfl⟩ := hd
  obtain ⟨T', h', Y', e', E', A', D', -, st⟩ := newO Y hx hZ hown w wi wz eT (g := mkF m pc Ls S) rfl (hb hby hd) hk hj
  exact Wp.go st (q T' h' _ ⟨hx, hZ, hby, hml, hret, hown, hnm, hlk, e', Nat.le_trans hn0 E'.1, hw, _, N, Y'⟩ rfl hn0 E' A' D')
theorem w_getF (X : Pos Z a0 n0 p l e R s m args below meth c code ml ret y T h k j) {i : Nat} {O nm d : String} {a : Addr} {v : Value} (hd : Dec code pc (.getfield i) 3 nx) (w : (Jvm.Cond.fieldLink y.cls i O nm d).before a0 Z = true) (F : Fld Z h a O nm d v)
    (q : ∀ T', Pos Z a0 n0 p l e R s m args below meth c code ml ret y T' h k j → Wp n0 p e R s below Q T' (mkF m nx Ls (v :: S))) : Wp n0 p e R s below Q T (mkF m pc Ls (.ref a :: S)) := by
  obtain ⟨hx, hZ, hby, hml, hret, hown, hnm, hlk, eT, hn0, hw, locs, N, Y⟩ := X
  obtain ⟨hd, rfl⟩ := hd
  obtain ⟨T', Y', e', st⟩ := getF Y hx hZ hown (host := "") (Or.inl w) Via.refl eT F (g := mkF m pc Ls (.ref a :: S)) rfl rfl (hb hby hd)
  exact Wp.go st (q T' ⟨hx, hZ, hby, hml, hret, hown, hnm, hlk, e', hn0, hw, _, N, Y'⟩)
theorem w_putF (X : Pos Z a0 n0 p l e R s m args below meth c code ml ret y T h k j) {i kk : Nat} {C O nm d : String} {ty : FieldType} {a : Addr} {v old : Value} (hd : Dec code pc (.putfield i) 3 nx) (w : (Jvm.Cond.fieldLink y.cls i O nm d).before a0 Z = true) (F : Fld Z h a O nm d old) (E : Exa Z h a C) (hna : n0 ≤ a) (L : (Jvm.Cond.lays C O nm d).before a0 Z = true ∨ ((Jvm.Cond.laysFinal C O nm d).before a0 Z = true ∧ y.cls = O ∧ y.name = "<init>")) (wi : (Jvm.Cond.instantiable C kk).before a0 Z = true) (hty : parseFieldDescriptor d = some ty) (hn : narrow ty v = v) (hf : fits ty v = true)
    (q : ∀ T' h', Pos Z a0 n0 p l e R s m args below meth c code ml ret y T' h' k j → Wr h h' a (Jvm.RoadKit.slotOf Z O nm d) v → Wp n0 p e R s below Q T' (mkF m nx Ls S)) : Wp n0 p e R s below Q T (mkF m pc Ls (v :: .ref a :: S)) := by
  obtain ⟨hx, hZ, hby, hml, hret, hown, hnm, hlk, eT, hn0, hw, locs, N, Y⟩ := X
  obtain ⟨hd, rfl⟩ := hd
  obtain ⟨T', h', Y', e', W', st⟩ := putF Y hx hZ hown (host := "") (Or.inl w) Via.refl eT F E (L.imp id fun q => ⟨q.1, q.2.1, hnm.trans q.2.2⟩) wi hty hn hf (g := mkF m pc Ls (v :: .ref a :: S)) rfl rfl (hb hby hd)
  exact Wp.go st (q T' h' ⟨hx, hZ, hby, hml, hret, hown, hnm, hlk, e', by rw [W'.size]; exact hn0, hw, _, Fr.snoc Y' N hna, Y'⟩ W')
end OwnKit
theorem D0_0 : Dec code 0 (.bipush 12) 2 2 := ⟨at_0, rfl⟩
theorem D0_2 : Dec code 2 (.newarray .byte) 2 4 := ⟨at_2, rfl⟩
theorem D0_4 : Dec code 4 (.astore 5) 2 6 := ⟨at_4, rfl⟩
theorem D0_6 : Dec code 6 (.aload 5) 2 8 := ⟨at_6, rfl⟩
theorem D0_8 : Dec code 8 (.iconst 0) 1 9 := ⟨at_8, rfl⟩
theorem D0_9 : Dec code 9 (.lload_n 0) 1 10 := ⟨at_9, rfl⟩
theorem D0_10 : Dec code 10 .l2i 1 11 := ⟨at_10, rfl⟩
theorem D0_11 : Dec code 11 .i2b 1 12 := ⟨at_11, rfl⟩
theorem D0_12 : Dec code 12 .bastore 1 13 := ⟨at_12, rfl⟩
theorem D0_13 : Dec code 13 (.aload 5) 2 15 := ⟨at_13, rfl⟩
theorem D0_15 : Dec code 15 (.iconst 1) 1 16 := ⟨at_15, rfl⟩
theorem D0_16 : Dec code 16 (.lload_n 0) 1 17 := ⟨at_16, rfl⟩
theorem D0_17 : Dec code 17 (.bipush 8) 2 19 := ⟨at_17, rfl⟩
theorem D0_19 : Dec code 19 .lushr 1 20 := ⟨at_19, rfl⟩
theorem D0_20 : Dec code 20 .l2i 1 21 := ⟨at_20, rfl⟩
theorem D0_21 : Dec code 21 .i2b 1 22 := ⟨at_21, rfl⟩
theorem D0_22 : Dec code 22 .bastore 1 23 := ⟨at_22, rfl⟩
theorem D0_23 : Dec code 23 (.aload 5) 2 25 := ⟨at_23, rfl⟩
theorem D0_25 : Dec code 25 (.iconst 2) 1 26 := ⟨at_25, rfl⟩
theorem D0_26 : Dec code 26 (.lload_n 0) 1 27 := ⟨at_26, rfl⟩
theorem D0_27 : Dec code 27 (.bipush 16) 2 29 := ⟨at_27, rfl⟩
theorem D0_29 : Dec code 29 .lushr 1 30 := ⟨at_29, rfl⟩
theorem D0_30 : Dec code 30 .l2i 1 31 := ⟨at_30, rfl⟩
theorem D0_31 : Dec code 31 .i2b 1 32 := ⟨at_31, rfl⟩
theorem D0_32 : Dec code 32 .bastore 1 33 := ⟨at_32, rfl⟩
theorem D0_33 : Dec code 33 (.aload 5) 2 35 := ⟨at_33, rfl⟩
theorem D0_35 : Dec code 35 (.iconst 3) 1 36 := ⟨at_35, rfl⟩
theorem D0_36 : Dec code 36 (.lload_n 0) 1 37 := ⟨at_36, rfl⟩
theorem D0_37 : Dec code 37 (.bipush 24) 2 39 := ⟨at_37, rfl⟩
theorem D0_39 : Dec code 39 .lushr 1 40 := ⟨at_39, rfl⟩
theorem D0_40 : Dec code 40 .l2i 1 41 := ⟨at_40, rfl⟩
theorem D0_41 : Dec code 41 .i2b 1 42 := ⟨at_41, rfl⟩
theorem D0_42 : Dec code 42 .bastore 1 43 := ⟨at_42, rfl⟩
theorem D0_43 : Dec code 43 (.aload 5) 2 45 := ⟨at_43, rfl⟩
theorem D0_45 : Dec code 45 (.iconst 4) 1 46 := ⟨at_45, rfl⟩
theorem D0_46 : Dec code 46 (.lload_n 0) 1 47 := ⟨at_46, rfl⟩
theorem D0_47 : Dec code 47 (.bipush 32) 2 49 := ⟨at_47, rfl⟩
theorem D0_49 : Dec code 49 .lushr 1 50 := ⟨at_49, rfl⟩
theorem D0_50 : Dec code 50 .l2i 1 51 := ⟨at_50, rfl⟩
theorem D0_51 : Dec code 51 .i2b 1 52 := ⟨at_51, rfl⟩
theorem D0_52 : Dec code 52 .bastore 1 53 := ⟨at_52, rfl⟩
theorem D0_53 : Dec code 53 (.aload 5) 2 55 := ⟨at_53, rfl⟩
theorem D0_55 : Dec code 55 (.iconst 5) 1 56 := ⟨at_55, rfl⟩
theorem D0_56 : Dec code 56 (.lload_n 0) 1 57 := ⟨at_56, rfl⟩
theorem D0_57 : Dec code 57 (.bipush 40) 2 59 := ⟨at_57, rfl⟩
theorem D0_59 : Dec code 59 .lushr 1 60 := ⟨at_59, rfl⟩
theorem D0_60 : Dec code 60 .l2i 1 61 := ⟨at_60, rfl⟩
theorem D0_61 : Dec code 61 .i2b 1 62 := ⟨at_61, rfl⟩
theorem D0_62 : Dec code 62 .bastore 1 63 := ⟨at_62, rfl⟩
theorem D0_63 : Dec code 63 (.aload 5) 2 65 := ⟨at_63, rfl⟩
theorem D0_65 : Dec code 65 (.bipush 6) 2 67 := ⟨at_65, rfl⟩
theorem D0_67 : Dec code 67 (.lload_n 0) 1 68 := ⟨at_67, rfl⟩
theorem D0_68 : Dec code 68 (.bipush 48) 2 70 := ⟨at_68, rfl⟩
theorem D0_70 : Dec code 70 .lushr 1 71 := ⟨at_70, rfl⟩
theorem D0_71 : Dec code 71 .l2i 1 72 := ⟨at_71, rfl⟩
theorem D0_72 : Dec code 72 .i2b 1 73 := ⟨at_72, rfl⟩
theorem D0_73 : Dec code 73 .bastore 1 74 := ⟨at_73, rfl⟩
theorem D0_74 : Dec code 74 (.aload 5) 2 76 := ⟨at_74, rfl⟩
theorem D0_76 : Dec code 76 (.bipush 7) 2 78 := ⟨at_76, rfl⟩
theorem D0_78 : Dec code 78 (.lload_n 0) 1 79 := ⟨at_78, rfl⟩
theorem D0_79 : Dec code 79 (.bipush 56) 2 81 := ⟨at_79, rfl⟩
theorem D0_81 : Dec code 81 .lushr 1 82 := ⟨at_81, rfl⟩
theorem D0_82 : Dec code 82 .l2i 1 83 := ⟨at_82, rfl⟩
theorem D0_83 : Dec code 83 .i2b 1 84 := ⟨at_83, rfl⟩
theorem D0_84 : Dec code 84 .bastore 1 85 := ⟨at_84, rfl⟩
theorem D0_85 : Dec code 85 (.aload 5) 2 87 := ⟨at_85, rfl⟩
theorem D0_87 : Dec code 87 (.bipush 8) 2 89 := ⟨at_87, rfl⟩
theorem D0_89 : Dec code 89 (.iload_n 2) 1 90 := ⟨at_89, rfl⟩
theorem D0_90 : Dec code 90 .i2b 1 91 := ⟨at_90, rfl⟩
theorem D0_91 : Dec code 91 .bastore 1 92 := ⟨at_91, rfl⟩
theorem D0_92 : Dec code 92 (.aload 5) 2 94 := ⟨at_92, rfl⟩
theorem D0_94 : Dec code 94 (.bipush 9) 2 96 := ⟨at_94, rfl⟩
theorem D0_96 : Dec code 96 (.iload_n 2) 1 97 := ⟨at_96, rfl⟩
theorem D0_97 : Dec code 97 (.bipush 8) 2 99 := ⟨at_97, rfl⟩
theorem D0_99 : Dec code 99 .iushr 1 100 := ⟨at_99, rfl⟩
theorem D0_100 : Dec code 100 .i2b 1 101 := ⟨at_100, rfl⟩
theorem D0_101 : Dec code 101 .bastore 1 102 := ⟨at_101, rfl⟩
theorem D0_102 : Dec code 102 (.aload 5) 2 104 := ⟨at_102, rfl⟩
theorem D0_104 : Dec code 104 (.bipush 10) 2 106 := ⟨at_104, rfl⟩
theorem D0_106 : Dec code 106 (.iload_n 2) 1 107 := ⟨at_106, rfl⟩
theorem D0_107 : Dec code 107 (.bipush 16) 2 109 := ⟨at_107, rfl⟩
theorem D0_109 : Dec code 109 .iushr 1 110 := ⟨at_109, rfl⟩
theorem D0_110 : Dec code 110 .i2b 1 111 := ⟨at_110, rfl⟩
theorem D0_111 : Dec code 111 .bastore 1 112 := ⟨at_111, rfl⟩
theorem D0_112 : Dec code 112 (.aload 5) 2 114 := ⟨at_112, rfl⟩
theorem D0_114 : Dec code 114 (.bipush 11) 2 116 := ⟨at_114, rfl⟩
theorem D0_116 : Dec code 116 (.iload_n 2) 1 117 := ⟨at_116, rfl⟩
theorem D0_117 : Dec code 117 (.bipush 24) 2 119 := ⟨at_117, rfl⟩
theorem D0_119 : Dec code 119 .iushr 1 120 := ⟨at_119, rfl⟩
theorem D0_120 : Dec code 120 .i2b 1 121 := ⟨at_120, rfl⟩
theorem D0_121 : Dec code 121 .bastore 1 122 := ⟨at_121, rfl⟩
theorem D0_122 : Dec code 122 (.iload_n 3) 1 123 := ⟨at_122, rfl⟩
theorem D0_123 : Dec code 123 (.ldc 7) 2 125 := ⟨at_123, rfl⟩
theorem D0_125 : Dec code 125 .iand 1 126 := ⟨at_125, rfl⟩
theorem D0_126 : Dec code 126 (.bipush 13) 2 128 := ⟨at_126, rfl⟩
theorem D0_128 : Dec code 128 .irem 1 129 := ⟨at_128, rfl⟩
theorem D0_129 : Dec code 129 (.istore 6) 2 131 := ⟨at_129, rfl⟩
theorem D0_131 : Dec code 131 (.iload 4) 2 133 := ⟨at_131, rfl⟩
theorem D0_133 : Dec code 133 (.ldc 7) 2 135 := ⟨at_133, rfl⟩
theorem D0_135 : Dec code 135 .iand 1 136 := ⟨at_135, rfl⟩
theorem D0_136 : Dec code 136 (.bipush 10) 2 138 := ⟨at_136, rfl⟩
theorem D0_138 : Dec code 138 .irem 1 139 := ⟨at_138, rfl⟩
theorem D0_139 : Dec code 139 (.istore 7) 2 141 := ⟨at_139, rfl⟩
theorem D0_141 : Dec code 141 (.iload 6) 2 143 := ⟨at_141, rfl⟩
theorem D0_143 : Dec code 143 (.iload 7) 2 145 := ⟨at_143, rfl⟩
theorem D0_145 : Dec code 145 .iadd 1 146 := ⟨at_145, rfl⟩
theorem D0_146 : Dec code 146 (.bipush 12) 2 148 := ⟨at_146, rfl⟩
theorem D0_148 : Dec code 148 (.invokestatic 8) 3 151 := ⟨at_148, rfl⟩
theorem D0_151 : Dec code 151 (.istore 8) 2 153 := ⟨at_151, rfl⟩
theorem D0_153 : Dec code 153 (.aload 5) 2 155 := ⟨at_153, rfl⟩
theorem D0_155 : Dec code 155 (.iconst 0) 1 156 := ⟨at_155, rfl⟩
theorem D0_156 : Dec code 156 (.iload 6) 2 158 := ⟨at_156, rfl⟩
theorem D0_158 : Dec code 158 (.iload 8) 2 160 := ⟨at_158, rfl⟩
theorem D0_160 : Dec code 160 (.invokestatic 14) 3 163 := ⟨at_160, rfl⟩
theorem D0_163 : Dec code 163 (.aload 5) 2 165 := ⟨at_163, rfl⟩
theorem D0_165 : Dec code 165 (.iconst 1) 1 166 := ⟨at_165, rfl⟩
theorem D0_166 : Dec code 166 (.iload 6) 2 168 := ⟨at_166, rfl⟩
theorem D0_168 : Dec code 168 (.iload 8) 2 170 := ⟨at_168, rfl⟩
theorem D0_170 : Dec code 170 (.invokestatic 14) 3 173 := ⟨at_170, rfl⟩
theorem D0_173 : Dec code 173 .ladd 1 174 := ⟨at_173, rfl⟩
theorem D0_174 : Dec code 174 (.aload 5) 2 176 := ⟨at_174, rfl⟩
theorem D0_176 : Dec code 176 (.iconst 2) 1 177 := ⟨at_176, rfl⟩
theorem D0_177 : Dec code 177 (.iload 6) 2 179 := ⟨at_177, rfl⟩
theorem D0_179 : Dec code 179 (.iload 8) 2 181 := ⟨at_179, rfl⟩
theorem D0_181 : Dec code 181 (.invokestatic 14) 3 184 := ⟨at_181, rfl⟩
theorem D0_184 : Dec code 184 .ladd 1 185 := ⟨at_184, rfl⟩
theorem D0_185 : Dec code 185 (.aload 5) 2 187 := ⟨at_185, rfl⟩
theorem D0_187 : Dec code 187 (.iconst 3) 1 188 := ⟨at_187, rfl⟩
theorem D0_188 : Dec code 188 (.iload 6) 2 190 := ⟨at_188, rfl⟩
theorem D0_190 : Dec code 190 (.iload 8) 2 192 := ⟨at_190, rfl⟩
theorem D0_192 : Dec code 192 (.invokestatic 14) 3 195 := ⟨at_192, rfl⟩
theorem D0_195 : Dec code 195 .ladd 1 196 := ⟨at_195, rfl⟩
theorem D0_196 : Dec code 196 (.aload 5) 2 198 := ⟨at_196, rfl⟩
theorem D0_198 : Dec code 198 (.iconst 4) 1 199 := ⟨at_198, rfl⟩
theorem D0_199 : Dec code 199 (.iload 6) 2 201 := ⟨at_199, rfl⟩
theorem D0_201 : Dec code 201 (.iload 8) 2 203 := ⟨at_201, rfl⟩
theorem D0_203 : Dec code 203 (.invokestatic 14) 3 206 := ⟨at_203, rfl⟩
theorem D0_206 : Dec code 206 .ladd 1 207 := ⟨at_206, rfl⟩
theorem D0_207 : Dec code 207 (.aload 5) 2 209 := ⟨at_207, rfl⟩
theorem D0_209 : Dec code 209 (.iconst 5) 1 210 := ⟨at_209, rfl⟩
theorem D0_210 : Dec code 210 (.iload 6) 2 212 := ⟨at_210, rfl⟩
theorem D0_212 : Dec code 212 (.iload 8) 2 214 := ⟨at_212, rfl⟩
theorem D0_214 : Dec code 214 (.invokestatic 14) 3 217 := ⟨at_214, rfl⟩
theorem D0_217 : Dec code 217 .ladd 1 218 := ⟨at_217, rfl⟩
theorem D0_218 : Dec code 218 (.aload 5) 2 220 := ⟨at_218, rfl⟩
theorem D0_220 : Dec code 220 (.bipush 6) 2 222 := ⟨at_220, rfl⟩
theorem D0_222 : Dec code 222 (.iload 6) 2 224 := ⟨at_222, rfl⟩
theorem D0_224 : Dec code 224 (.iload 8) 2 226 := ⟨at_224, rfl⟩
theorem D0_226 : Dec code 226 (.invokestatic 14) 3 229 := ⟨at_226, rfl⟩
theorem D0_229 : Dec code 229 .ladd 1 230 := ⟨at_229, rfl⟩
theorem D0_230 : Dec code 230 (.aload 5) 2 232 := ⟨at_230, rfl⟩
theorem D0_232 : Dec code 232 (.bipush 7) 2 234 := ⟨at_232, rfl⟩
theorem D0_234 : Dec code 234 (.iload 6) 2 236 := ⟨at_234, rfl⟩
theorem D0_236 : Dec code 236 (.iload 8) 2 238 := ⟨at_236, rfl⟩
theorem D0_238 : Dec code 238 (.invokestatic 14) 3 241 := ⟨at_238, rfl⟩
theorem D0_241 : Dec code 241 .ladd 1 242 := ⟨at_241, rfl⟩
theorem D0_242 : Dec code 242 (.aload 5) 2 244 := ⟨at_242, rfl⟩
theorem D0_244 : Dec code 244 (.bipush 8) 2 246 := ⟨at_244, rfl⟩
theorem D0_246 : Dec code 246 (.iload 6) 2 248 := ⟨at_246, rfl⟩
theorem D0_248 : Dec code 248 (.iload 8) 2 250 := ⟨at_248, rfl⟩
theorem D0_250 : Dec code 250 (.invokestatic 14) 3 253 := ⟨at_250, rfl⟩
theorem D0_253 : Dec code 253 .ladd 1 254 := ⟨at_253, rfl⟩
theorem D0_254 : Dec code 254 (.aload 5) 2 256 := ⟨at_254, rfl⟩
theorem D0_256 : Dec code 256 (.bipush 9) 2 258 := ⟨at_256, rfl⟩
theorem D0_258 : Dec code 258 (.iload 6) 2 260 := ⟨at_258, rfl⟩
theorem D0_260 : Dec code 260 (.iload 8) 2 262 := ⟨at_260, rfl⟩
theorem D0_262 : Dec code 262 (.invokestatic 14) 3 265 := ⟨at_262, rfl⟩
theorem D0_265 : Dec code 265 .ladd 1 266 := ⟨at_265, rfl⟩
theorem D0_266 : Dec code 266 (.aload 5) 2 268 := ⟨at_266, rfl⟩
theorem D0_268 : Dec code 268 (.bipush 10) 2 270 := ⟨at_268, rfl⟩
theorem D0_270 : Dec code 270 (.iload 6) 2 272 := ⟨at_270, rfl⟩
theorem D0_272 : Dec code 272 (.iload 8) 2 274 := ⟨at_272, rfl⟩
theorem D0_274 : Dec code 274 (.invokestatic 14) 3 277 := ⟨at_274, rfl⟩
theorem D0_277 : Dec code 277 .ladd 1 278 := ⟨at_277, rfl⟩
theorem D0_278 : Dec code 278 (.aload 5) 2 280 := ⟨at_278, rfl⟩
theorem D0_280 : Dec code 280 (.bipush 11) 2 282 := ⟨at_280, rfl⟩
theorem D0_282 : Dec code 282 (.iload 6) 2 284 := ⟨at_282, rfl⟩
theorem D0_284 : Dec code 284 (.iload 8) 2 286 := ⟨at_284, rfl⟩
theorem D0_286 : Dec code 286 (.invokestatic 14) 3 289 := ⟨at_286, rfl⟩
theorem D0_289 : Dec code 289 .ladd 1 290 := ⟨at_289, rfl⟩
theorem D0_290 : Dec code 290 (.lstore 9) 2 292 := ⟨at_290, rfl⟩
theorem D0_292 : Dec code 292 (.aload 5) 2 294 := ⟨at_292, rfl⟩
theorem D0_294 : Dec code 294 (.iload 6) 2 296 := ⟨at_294, rfl⟩
theorem D0_296 : Dec code 296 (.iload 8) 2 298 := ⟨at_296, rfl⟩
theorem D0_298 : Dec code 298 (.invokestatic 20) 3 301 := ⟨at_298, rfl⟩
theorem D0_301 : Dec code 301 (.lload 9) 2 303 := ⟨at_301, rfl⟩
theorem D0_303 : Dec code 303 .lcmp 1 304 := ⟨at_303, rfl⟩
theorem D0_304 : Jmp code 304 (.ifCond .ne 7) 7 307 311 := ⟨at_304, rfl, by decide, by decide⟩
theorem D0_307 : Dec code 307 (.iconst 1) 1 308 := ⟨at_307, rfl⟩
theorem D0_308 : Jmp code 308 (.goto 4) 4 311 312 := ⟨at_308, rfl, by decide, by decide⟩
theorem D0_312 : Dec code 312 .ireturn 1 313 := ⟨at_312, rfl⟩
theorem D1_0 : Dec jdk_29_method_69_code 0 (.iload_n 0) 1 1 := ⟨by decide +kernel, rfl⟩
theorem D1_1 : Dec jdk_29_method_69_code 1 (.iload_n 1) 1 2 := ⟨by decide +kernel, rfl⟩
theorem D1_2 : Jmp jdk_29_method_69_code 2 (.if_icmp .gt 7) 7 5 9 := ⟨by decide +kernel, rfl, by decide, by decide⟩
theorem D1_5 : Dec jdk_29_method_69_code 5 (.iload_n 0) 1 6 := ⟨by decide +kernel, rfl⟩
theorem D1_6 : Jmp jdk_29_method_69_code 6 (.goto 4) 4 9 10 := ⟨by decide +kernel, rfl, by decide, by decide⟩
theorem D1_9 : Dec jdk_29_method_69_code 9 (.iload_n 1) 1 10 := ⟨by decide +kernel, rfl⟩
theorem D1_10 : Dec jdk_29_method_69_code 10 .ireturn 1 11 := ⟨by decide +kernel, rfl⟩
theorem D2_0 : Dec method_3_code 0 (.iload_n 1) 1 1 := ⟨by decide +kernel, rfl⟩
theorem D2_1 : Dec method_3_code 1 (.iload_n 2) 1 2 := ⟨by decide +kernel, rfl⟩
theorem D2_2 : Jmp method_3_code 2 (.if_icmp .lt 8) 8 5 10 := ⟨by decide +kernel, rfl, by decide, by decide⟩
theorem D2_5 : Dec method_3_code 5 (.iload_n 1) 1 6 := ⟨by decide +kernel, rfl⟩
theorem D2_6 : Dec method_3_code 6 (.iload_n 3) 1 7 := ⟨by decide +kernel, rfl⟩
theorem D2_7 : Jmp method_3_code 7 (.if_icmp .lt 5) 5 10 12 := ⟨by decide +kernel, rfl, by decide, by decide⟩
theorem D2_10 : Dec method_3_code 10 (.lconst 0) 1 11 := ⟨by decide +kernel, rfl⟩
theorem D2_11 : Dec method_3_code 11 .lreturn 1 12 := ⟨by decide +kernel, rfl⟩
theorem D2_12 : Dec method_3_code 12 (.aload_n 0) 1 13 := ⟨by decide +kernel, rfl⟩
theorem D2_13 : Dec method_3_code 13 (.iload_n 1) 1 14 := ⟨by decide +kernel, rfl⟩
theorem D2_14 : Dec method_3_code 14 .baload 1 15 := ⟨by decide +kernel, rfl⟩
theorem D2_15 : Dec method_3_code 15 (.bipush 127) 2 17 := ⟨by decide +kernel, rfl⟩
theorem D2_17 : Dec method_3_code 17 .iand 1 18 := ⟨by decide +kernel, rfl⟩
theorem D2_18 : Dec method_3_code 18 .i2l 1 19 := ⟨by decide +kernel, rfl⟩
theorem D2_19 : Dec method_3_code 19 (.lstore 4) 2 21 := ⟨by decide +kernel, rfl⟩
theorem D2_21 : Dec method_3_code 21 (.lload 4) 2 23 := ⟨by decide +kernel, rfl⟩
theorem D2_23 : Dec method_3_code 23 (.bipush 7) 2 25 := ⟨by decide +kernel, rfl⟩
theorem D2_25 : Dec method_3_code 25 (.iload_n 3) 1 26 := ⟨by decide +kernel, rfl⟩
theorem D2_26 : Dec method_3_code 26 (.iconst 1) 1 27 := ⟨by decide +kernel, rfl⟩
theorem D2_27 : Dec method_3_code 27 .isub 1 28 := ⟨by decide +kernel, rfl⟩
theorem D2_28 : Dec method_3_code 28 (.iload_n 1) 1 29 := ⟨by decide +kernel, rfl⟩
theorem D2_29 : Dec method_3_code 29 .isub 1 30 := ⟨by decide +kernel, rfl⟩
theorem D2_30 : Dec method_3_code 30 .imul 1 31 := ⟨by decide +kernel, rfl⟩
theorem D2_31 : Dec method_3_code 31 .lshl 1 32 := ⟨by decide +kernel, rfl⟩
theorem D2_32 : Dec method_3_code 32 .lreturn 1 33 := ⟨by decide +kernel, rfl⟩
theorem D3_0 : Dec prog_149_method_3_code 0 (.lconst 0) 1 1 := ⟨by decide +kernel, rfl⟩
theorem D3_1 : Dec prog_149_method_3_code 1 (.lstore_n 3) 1 2 := ⟨by decide +kernel, rfl⟩
theorem D3_2 : Dec prog_149_method_3_code 2 (.iload_n 1) 1 3 := ⟨by decide +kernel, rfl⟩
theorem D3_3 : Dec prog_149_method_3_code 3 (.istore 5) 2 5 := ⟨by decide +kernel, rfl⟩
theorem D3_5 : Dec prog_149_method_3_code 5 (.iload 5) 2 7 := ⟨by decide +kernel, rfl⟩
theorem D3_7 : Dec prog_149_method_3_code 7 (.iload_n 2) 1 8 := ⟨by decide +kernel, rfl⟩
theorem D3_8 : Jmp prog_149_method_3_code 8 (.if_icmp .ge 23) 23 11 31 := ⟨by decide +kernel, rfl, by decide, by decide⟩
theorem D3_11 : Dec prog_149_method_3_code 11 (.lload_n 3) 1 12 := ⟨by decide +kernel, rfl⟩
theorem D3_12 : Dec prog_149_method_3_code 12 (.bipush 7) 2 14 := ⟨by decide +kernel, rfl⟩
theorem D3_14 : Dec prog_149_method_3_code 14 .lshl 1 15 := ⟨by decide +kernel, rfl⟩
theorem D3_15 : Dec prog_149_method_3_code 15 (.aload_n 0) 1 16 := ⟨by decide +kernel, rfl⟩
theorem D3_16 : Dec prog_149_method_3_code 16 (.iload 5) 2 18 := ⟨by decide +kernel, rfl⟩
theorem D3_18 : Dec prog_149_method_3_code 18 .baload 1 19 := ⟨by decide +kernel, rfl⟩
theorem D3_19 : Dec prog_149_method_3_code 19 (.bipush 127) 2 21 := ⟨by decide +kernel, rfl⟩
theorem D3_21 : Dec prog_149_method_3_code 21 .iand 1 22 := ⟨by decide +kernel, rfl⟩
theorem D3_22 : Dec prog_149_method_3_code 22 .i2l 1 23 := ⟨by decide +kernel, rfl⟩
theorem D3_23 : Dec prog_149_method_3_code 23 .lor 1 24 := ⟨by decide +kernel, rfl⟩
theorem D3_24 : Dec prog_149_method_3_code 24 (.lstore_n 3) 1 25 := ⟨by decide +kernel, rfl⟩
theorem D3_25 : Dec prog_149_method_3_code 25 (.iinc 5 1) 3 28 := ⟨by decide +kernel, rfl⟩
theorem D3_28 : Jmp prog_149_method_3_code 28 (.goto (-23)) (-23) 31 5 := ⟨by decide +kernel, rfl, by decide, by decide⟩
theorem D3_31 : Dec prog_149_method_3_code 31 (.lload_n 3) 1 32 := ⟨by decide +kernel, rfl⟩
theorem D3_32 : Dec prog_149_method_3_code 32 .lreturn 1 33 := ⟨by decide +kernel, rfl⟩
theorem pd_0 : parseMethodDescriptor "(II)I" = some ⟨[.int, .int], some .int⟩ := by decide +kernel
theorem pd_1 : parseMethodDescriptor "([BIII)J" = some ⟨[(.array .byte), .int, .int, .int], some .long⟩ := by decide +kernel
theorem pd_2 : parseMethodDescriptor "([BII)J" = some ⟨[(.array .byte), .int, .int], some .long⟩ := by decide +kernel
section OwnNums
theorem n_bv (a : Nat) : (Int32.ofNat a).toBitVec = BitVec.ofNat 32 a := rfl
theorem eq_mod {x y : Int32} (h : (x.toInt - y.toInt) % 4294967296 = 0) : x = y := Int32.toInt_inj.mp (by have := rng32 x; have := rng32 y; omega)
theorem eq_modL {x y : Int64} (h : (x.toInt - y.toInt) % 18446744073709551616 = 0) : x = y := Int64.toInt_inj.mp (by have := rng64 x; have := rng64 y; omega)
theorem n_add (a b : Nat) : Int32.ofNat a + Int32.ofNat b = Int32.ofNat (a + b) := (Int32.ofNat_add a b).symm
theorem n_mul (a b : Nat) : Int32.ofNat a * Int32.ofNat b = Int32.ofNat (a * b) := (Int32.ofNat_mul a b).symm
theorem n_sub {a b : Nat} (h : b ≤ a) : Int32.ofNat a - Int32.ofNat b = Int32.ofNat (a - b) := by
  have := n_add (a - b) b
  rw [Nat.sub_add_cancel h] at this
  rw [← this, Int32.add_sub_cancel]
theorem n_and (a b : Nat) : Int32.ofNat a &&& Int32.ofNat b = Int32.ofNat (a &&& b) := by
  apply Int32.toBitVec_inj.mp
  rw [Int32.toBitVec_and, n_bv, n_bv, n_bv]
  exact BitVec.ofNat_and.symm
theorem n_or (a b : Nat) : Int32.ofNat a ||| Int32.ofNat b = Int32.ofNat (a ||| b) := by
  apply Int32.toBitVec_inj.mp
  rw [Int32.toBitVec_or, n_bv, n_bv, n_bv]
  exact BitVec.ofNat_or.symm
theorem n_q {k : Nat} (hk : k < 32) : (Int32.ofNat k).toBitVec.toNat % 32 = k := by
  rw [n_bv, BitVec.toNat_ofNat]; omega
theorem n_q64 {k : Nat} (hk : k < 64) : (Int32.ofNat k).toBitVec.toNat % 64 = k := by
  rw [n_bv, BitVec.toNat_ofNat]; omega
theorem toInt_mod (a : Nat) : ((Int32.ofNat a).toInt - a) % 4294967296 = 0 := by
  have h := bm32 (((BitVec.ofNat 32 a).toNat : Nat) : Int)
  rw [show (Int32.ofNat a).toInt = (BitVec.ofNat 32 a).toInt from rfl, BitVec.toInt_eq_toNat_bmod]
  rw [BitVec.toNat_ofNat] at *
  generalize Int.bmod ((a % 2 ^ 32 : Nat) : Int) (2 ^ 32) = w1 at *
  omega
theorem n_inj {a b : Nat} (ha : a < 2147483648) (hb : b < 2147483648) : Int32.ofNat a = Int32.ofNat b ↔ a = b := ⟨fun h => by have := congrArg Int32.toInt h; rw [ofNat_toInt ha, ofNat_toInt hb] at this; omega, fun h => by rw [h]⟩
theorem n_shl (a : Nat) {k : Nat} (hk : k < 32) : jshl (Int32.ofNat a) (Int32.ofNat k) = Int32.ofNat (a * 2 ^ k) := by
  apply eq_mod
  have h1 : ((jshl (Int32.ofNat a) (Int32.ofNat k)).toInt - (Int32.ofNat a).toInt * ((2 ^ k : Nat) : Int)) % 4294967296 = 0 := c_ishl (Int32.ofNat a) (Int32.ofNat k) k (n_q hk)
  generalize (jshl (Int32.ofNat a) (Int32.ofNat k)).toInt = w1 at *
  have h2 := toInt_mod (a * 2 ^ k)
  have h3 := toInt_mod a
  obtain ⟨q, hq⟩ := Int.dvd_of_emod_eq_zero h3
  have h4 : (Int32.ofNat a).toInt * ((2 ^ k : Nat) : Int) - ((a * 2 ^ k : Nat) : Int) = 4294967296 * (q * ((2 ^ k : Nat) : Int)) := by
    rw [Int.natCast_mul, ← Int.sub_mul, hq, Int.mul_assoc]
  omega
theorem n_ushr0 (x : Int32) : jushr x 0 = x := by
  apply Int32.toBitVec_inj.mp
  simp [jushr]
theorem n_ushr {a k : Nat} (ha : a < 2147483648) (hk : k < 32) : jushr (Int32.ofNat a) (Int32.ofNat k) = Int32.ofNat (a / 2 ^ k) := by
  rcases Nat.eq_zero_or_pos k with rfl | h0
  · rw [Nat.pow_zero, Nat.div_one]; exact n_ushr0 _
  · have hd : a / 2 ^ k ≤ a := Nat.div_le_self _ _
    refine eq_ofNat (by omega) ?_
    rw [c_iushr (Int32.ofNat a) (Int32.ofNat k) k (n_q hk) h0, ofNat_toInt ha, show ((a : Int) % 4294967296) = a by omega]
    exact (Int.natCast_ediv _ _).symm
theorem n_shr {a k : Nat} (ha : a < 2147483648) (hk : k < 32) : jshr (Int32.ofNat a) (Int32.ofNat k) = Int32.ofNat (a / 2 ^ k) := by
  have hd : a / 2 ^ k ≤ a := Nat.div_le_self _ _
  refine eq_ofNat (by omega) ?_
  rw [c_ishr (Int32.ofNat a) (Int32.ofNat k) k (n_q hk), ofNat_toInt ha]
  exact (Int.natCast_ediv _ _).symm
theorem n_low (a k : Nat) : Int32.ofNat a &&& Int32.ofNat (2 ^ k - 1) = Int32.ofNat (a % 2 ^ k) := by rw [n_and, Nat.and_two_pow_sub_one_eq_mod]
theorem n_orlow (a : Nat) {i t : Nat} (ht : t < 2 ^ i) : Int32.ofNat (2 ^ i * a) ||| Int32.ofNat t = Int32.ofNat (2 ^ i * a + t) := by rw [n_or, Nat.two_pow_add_eq_or_of_lt ht]
theorem n_rem {a k : Nat} (ha : a < 2147483648) (h1 : 0 < k) (hk : k < 2147483648) : Int32.ofNat a % Int32.ofNat k = Int32.ofNat (a % k) := by
  have hm := Nat.mod_lt a h1
  refine eq_ofNat (by omega) ?_
  rw [(c_irem (Int32.ofNat a) (Int32.ofNat k) k (ofNat_toInt hk)).1 (by rw [ofNat_toInt ha]; omega), ofNat_toInt ha]
  exact (Int.natCast_emod _ _).symm
theorem n_nn (x : Int32) (h : 0 ≤ x.toInt) : ∃ u : Nat, u < 2147483648 ∧ x = Int32.ofNat u := by
  have := rng32 x
  exact ⟨x.toInt.toNat, by omega, eq_ofNat (by omega) (by omega)⟩
theorem n_mask31 (x : Int32) : ∃ u : Nat, u < 2147483648 ∧ x &&& 2147483647 = Int32.ofNat u := n_nn _ (c_and x 2147483647 (by decide)).1
theorem n_mask (x : Int32) (k : Nat) (hk : k ≤ 31) {m : Int32} (hm : m.toBitVec.toNat = 2 ^ k - 1) : x &&& m = Int32.ofNat ((x.toInt % (2 ^ k : Nat)).toNat) := by
  have h1 : (0 : Int) < ((2 ^ k : Nat) : Int) := by
    have := Nat.two_pow_pos k
    omega
  have h2 : ((2 ^ k : Nat) : Int) ≤ 2147483648 := by
    have : 2 ^ k ≤ 2147483648 := Nat.pow_le_pow_right (n := 2) (by decide) hk
    omega
  have h3 := Int.emod_nonneg x.toInt (Int.ne_of_gt h1)
  have h4 := Int.emod_lt_of_pos x.toInt h1
  exact eq_ofNat (by omega) (by rw [c_mask x m k hk hm]; omega)
theorem jbyte_idem (x : Int32) : jbyte (jbyte x) = jbyte x := by
  have h1 := c_i2b x
  have h2 := c_i2b (jbyte x)
  exact Int32.toInt_inj.mp (by simp only [jbyte] at *; omega)
theorem jbyte_and (x : Int32) (k : Nat) (hk : k ≤ 8) {m : Int32} (hm : m.toBitVec.toNat = 2 ^ k - 1) : jbyte x &&& m = x &&& m := by
  have h1 := (c_i2b x).1
  apply Int32.toInt_inj.mp
  rw [c_mask _ m k (by omega) hm, c_mask _ m k (by omega) hm]
  have : ∃ c : Nat, 256 = 2 ^ k * c := ⟨2 ^ (8 - k), by rw [← Nat.pow_add, show k + (8 - k) = 8 by omega]⟩
  obtain ⟨c, hc⟩ := this
  obtain ⟨q, hq⟩ := Int.dvd_of_emod_eq_zero h1
  have h2 : (jbyte x).toInt = x.toInt + ((2 ^ k : Nat) : Int) * ((c : Int) * q) := by
    have h3 : (256 : Int) = ((2 ^ k : Nat) : Int) * (c : Int) := by rw [← Int.natCast_mul, ← hc]; rfl
    rw [h3, Int.mul_assoc] at hq
    simp only [jbyte]; omega
  rw [h2, Int.add_mul_emod_self_left]
end OwnNums
section OwnNumsL
theorem nl_bv (a : Nat) : (Int64.ofNat a).toBitVec = BitVec.ofNat 64 a := rfl
theorem ofNatL_toInt {n : Nat} (h : n < 9223372036854775808) : (Int64.ofNat n).toInt = n := Int64.toInt_ofNat_of_lt (by omega)
theorem eq_ofNatL {x : Int64} {n : Nat} (hn : n < 9223372036854775808) (h : x.toInt = n) : x = Int64.ofNat n := Int64.toInt_inj.mp (by rw [h, ofNatL_toInt hn])
theorem nL_add (a b : Nat) : Int64.ofNat a + Int64.ofNat b = Int64.ofNat (a + b) := (Int64.ofNat_add a b).symm
theorem nL_mul (a b : Nat) : Int64.ofNat a * Int64.ofNat b = Int64.ofNat (a * b) := (Int64.ofNat_mul a b).symm
theorem nL_sub {a b : Nat} (h : b ≤ a) : Int64.ofNat a - Int64.ofNat b = Int64.ofNat (a - b) := by
  have := nL_add (a - b) b
  rw [Nat.sub_add_cancel h] at this
  rw [← this, Int64.add_sub_cancel]
theorem nL_and (a b : Nat) : Int64.ofNat a &&& Int64.ofNat b = Int64.ofNat (a &&& b) := by
  apply Int64.toBitVec_inj.mp
  rw [Int64.toBitVec_and, nl_bv, nl_bv, nl_bv]
  exact BitVec.ofNat_and.symm
theorem nL_or (a b : Nat) : Int64.ofNat a ||| Int64.ofNat b = Int64.ofNat (a ||| b) := by
  apply Int64.toBitVec_inj.mp
  rw [Int64.toBitVec_or, nl_bv, nl_bv, nl_bv]
  exact BitVec.ofNat_or.symm
theorem nL_inj {a b : Nat} (ha : a < 9223372036854775808) (hb : b < 9223372036854775808) : Int64.ofNat a = Int64.ofNat b ↔ a = b := ⟨fun h => by have := congrArg Int64.toInt h; rw [ofNatL_toInt ha, ofNatL_toInt hb] at this; omega, fun h => by rw [h]⟩
theorem nL_lt {a b : Nat} (ha : a < 9223372036854775808) (hb : b < 9223372036854775808) : Int64.ofNat a < Int64.ofNat b ↔ a < b := by rw [Int64.lt_iff_toInt_lt, ofNatL_toInt ha, ofNatL_toInt hb]; omega
theorem toInt_modL (a : Nat) : ((Int64.ofNat a).toInt - a) % 18446744073709551616 = 0 := by
  have h := bm64 (((BitVec.ofNat 64 a).toNat : Nat) : Int)
  rw [show (Int64.ofNat a).toInt = (BitVec.ofNat 64 a).toInt from rfl, BitVec.toInt_eq_toNat_bmod]
  rw [BitVec.toNat_ofNat] at *
  generalize Int.bmod ((a % 2 ^ 64 : Nat) : Int) (2 ^ 64) = w1 at *
  omega
theorem nL_shl (a : Nat) {k : Nat} (hk : k < 64) : jshlL (Int64.ofNat a) (Int32.ofNat k) = Int64.ofNat (a * 2 ^ k) := by
  apply eq_modL
  have h1 : ((jshlL (Int64.ofNat a) (Int32.ofNat k)).toInt - (Int64.ofNat a).toInt * ((2 ^ k : Nat) : Int)) % 18446744073709551616 = 0 := c_lshl (Int64.ofNat a) (Int32.ofNat k) k (n_q64 hk)
  generalize (jshlL (Int64.ofNat a) (Int32.ofNat k)).toInt = w1 at *
  have h2 := toInt_modL (a * 2 ^ k)
  have h3 := toInt_modL a
  obtain ⟨q, hq⟩ := Int.dvd_of_emod_eq_zero h3
  have h4 : (Int64.ofNat a).toInt * ((2 ^ k : Nat) : Int) - ((a * 2 ^ k : Nat) : Int) = 18446744073709551616 * (q * ((2 ^ k : Nat) : Int)) := by
    rw [Int.natCast_mul, ← Int.sub_mul, hq, Int.mul_assoc]
  omega
theorem nL_ushr0 (x : Int64) : jushrL x 0 = x := by
  apply Int64.toBitVec_inj.mp
  simp [jushrL]
theorem nL_ushr {a k : Nat} (ha : a < 9223372036854775808) (hk : k < 64) : jushrL (Int64.ofNat a) (Int32.ofNat k) = Int64.ofNat (a / 2 ^ k) := by
  rcases Nat.eq_zero_or_pos k with rfl | h0
  · rw [Nat.pow_zero, Nat.div_one]; exact nL_ushr0 _
  · have hd : a / 2 ^ k ≤ a := Nat.div_le_self _ _
    refine eq_ofNatL (by omega) ?_
    rw [c_lushr (Int64.ofNat a) (Int32.ofNat k) k (n_q64 hk) h0, ofNatL_toInt ha, show ((a : Int) % 18446744073709551616) = a by omega]
    exact (Int.natCast_ediv _ _).symm
theorem nL_low (a k : Nat) : Int64.ofNat a &&& Int64.ofNat (2 ^ k - 1) = Int64.ofNat (a % 2 ^ k) := by rw [nL_and, Nat.and_two_pow_sub_one_eq_mod]
theorem nL_orlow (a : Nat) {i t : Nat} (ht : t < 2 ^ i) : Int64.ofNat (2 ^ i * a) ||| Int64.ofNat t = Int64.ofNat (2 ^ i * a + t) := by rw [nL_or, Nat.two_pow_add_eq_or_of_lt ht]
theorem n_i2l {a : Nat} (h : a < 2147483648) : (Int32.ofNat a).toInt64 = Int64.ofNat a := eq_ofNatL (by omega) (by rw [c_i2l, ofNat_toInt h])
theorem n_l2i (a : Nat) : (Int64.ofNat a).toInt32 = Int32.ofNat a := by
  apply eq_mod
  have h1 := c_l2i (Int64.ofNat a)
  have h2 := toInt_modL a
  have h3 := toInt_mod a
  omega
theorem nL_nn (x : Int64) (h : 0 ≤ x.toInt) : ∃ u : Nat, u < 9223372036854775808 ∧ x = Int64.ofNat u := by
  have := rng64 x
  exact ⟨x.toInt.toNat, by omega, eq_ofNatL (by omega) (by omega)⟩
end OwnNumsL

/-- the low seven bits -/
def d7 (x : Int32) : Nat := (x.toInt % (2 ^ 7 : Nat)).toNat
theorem and127 (x : Int32) : x &&& 127 = Int32.ofNat (d7 x) := n_mask x 7 (by decide) (m := 127) (by decide)
theorem d7_lt (x : Int32) : d7 x < 128 := by unfold d7; omega
theorem d7_i2l (x : Int32) : (x &&& 127).toInt64 = Int64.ofNat (d7 x) := by rw [and127, n_i2l (by have := d7_lt x; omega)]
/-- the number that the first m places from F on write -/
def rv (g : Nat → Int32) (F : Nat) : Nat → Nat
  | 0 => 0
  | m + 1 => 128 * rv g F m + d7 (g (F + m))
theorem own_turn (v : Nat) (x : Int32) : jshlL (Int64.ofNat v) 7 ||| Int64.ofNat (d7 x) = Int64.ofNat (128 * v + d7 x) := by
  rw [show jshlL (Int64.ofNat v) 7 = Int64.ofNat (v * 2 ^ 7) from nL_shl v (k := 7) (by decide), Nat.mul_comm, nL_orlow _ (d7_lt x)]
/-- the law's i-th term -/
def te (g : Nat → Int32) (F M i : Nat) : Nat := if F ≤ i ∧ i < M then d7 (g i) * 2 ^ (7 * (M - 1 - i)) else 0
def ts (g : Nat → Int32) (F M : Nat) : Nat → Nat
  | 0 => 0
  | n + 1 => ts g F M n + te g F M n
theorem own_ts (g : Nat → Int32) (F M : Nat) (hFM : F ≤ M) : ∀ n, ts g F M n = if n < F then 0 else if n < M then rv g F (n - F) * 2 ^ (7 * (M - n)) else rv g F (M - F) := by
  intro n
  induction n with
  | zero =>
    rw [ts]
    split
    · rfl
    · split
      · rw [show 0 - F = 0 by omega, rv, Nat.zero_mul]
      · rw [show M - F = 0 by omega]; rfl
  | succ n ih =>
    rw [ts, ih, te]
    by_cases h1 : n + 1 < F
    · rw [if_pos (by omega), if_neg (by omega), if_pos h1]
    · rw [if_neg h1]
      by_cases h2 : n < F
      · rw [if_pos h2, if_neg (by omega)]
        have h3 : n + 1 - F = 0 := by omega
        split
        · rw [h3, rv, Nat.zero_mul]
        · rw [show M - F = 0 by omega]; rfl
      · rw [if_neg h2]
        by_cases h4 : n < M
        · rw [if_pos h4, if_pos (by omega)]
          have e1 : 2 ^ (7 * (M - n)) = 128 * 2 ^ (7 * (M - 1 - n)) := by rw [show 7 * (M - n) = 7 + 7 * (M - 1 - n) by omega, Nat.pow_add]
          have e2 : rv g F (n + 1 - F) = 128 * rv g F (n - F) + d7 (g n) := by rw [show n + 1 - F = (n - F) + 1 by omega, rv, show F + (n - F) = n by omega]
          have e3 : rv g F (n - F) * 2 ^ (7 * (M - n)) + d7 (g n) * 2 ^ (7 * (M - 1 - n)) = rv g F (n + 1 - F) * 2 ^ (7 * (M - 1 - n)) := by
            rw [e1, e2, Nat.add_mul, ← Nat.mul_assoc, Nat.mul_comm (rv g F (n - F)) 128]
          rw [e3]
          split
          · rw [show M - (n + 1) = M - 1 - n by omega]
          · rw [show M - 1 - n = 0 by omega, Nat.mul_zero, Nat.pow_zero, Nat.mul_one, show n + 1 - F = M - F by omega]
        · rw [if_neg h4, if_neg (by omega), if_neg (by omega), Nat.add_zero]
theorem own_all (g : Nat → Int32) (F M : Nat) (hFM : F ≤ M) (hM : M ≤ 12) (hF : F ≤ 12) : ts g F M 12 = rv g F (M - F) := by
  rw [own_ts g F M hFM, if_neg (by omega), if_neg (by omega)]
theorem own_rem (x : Int32) (k : Nat) (h1 : 0 < k) (hk : k < 2147483648) : ∃ N : Nat, N < k ∧ (x &&& 2147483647) % Int32.ofNat k = Int32.ofNat N := by
  obtain ⟨v, hv, ev⟩ := n_mask31 x
  exact ⟨v % k, Nat.mod_lt _ h1, by rw [ev]; exact n_rem hv h1 hk⟩
theorem ef_1 (m : MethodId) (x1 : Int32) (x2 : Int32) : entryFrame m #[(.int x1), (.int x2)] 2 = mkF m 0 #[.val (.int x1), .val (.int x2)] [] := by first | (simp [entryFrame, mkF, argsToLocals, Value.category]; done) | rfl
set_option maxRecDepth 65536 in
set_option maxHeartbeats 40000000 in
theorem rm1 {l : Launch} {Z : State} {a0 : Array Value} {n0 : Nat} {h : Heap} (hw : ∀ d ∈ tables_1, d.before a0 Z = true) (hn : n0 ≤ h.size) (x1 : Int32) (x2 : Int32) (u1 u2 : Nat) (h1 : u1 < 2147483648) (h2 : u2 < 2147483648) (e1 : x1 = Int32.ofNat u1) (e2 : x2 = Int32.ofNat u2) :
    Ctr l Z n0 (⟨"java/lang/Math", "min", "(II)I"⟩ : MethodName) jdk_29_method_69_code 2 (some .int) ({ frames := 0, cells := 0, slots := 0, locals := 0 } : Room) [] #[(.int x1), (.int x2)] h (fun v h' => v = some (.int (Int32.ofNat (min u1 u2))) ∧ h = h') := by
  refine ctr_of (Jvm.Free.JP.mathPlain rfl (by decide +kernel)) hw hn ?_
  intro p e s m below meth c T X
  refine Wp.cast (ef_1 m x1 x2) ?_
  subst e1 e2
  refine w_iloadN X D1_0 rfl ?_
  refine w_iloadN X D1_1 rfl ?_
  refine w_icmpgt X D1_2 (fun hc2 => ?_) (fun hc2 => ?_)
  · refine w_iloadN X D1_9 rfl ?_
    exact w_ireturn X D1_10 (by decide) (by decide) (⟨by
            have f := (ofNat_lt h2 h1).mp hc2
            rw [Nat.min_eq_right (by omega)], rfl⟩)
  · refine w_iloadN X D1_5 rfl ?_
    refine w_goto X D1_6 ?_
    exact w_ireturn X D1_10 (by decide) (by decide) (⟨by
            have f : ¬ u2 < u1 := fun z => hc2 ((ofNat_lt h2 h1).mpr z)
            rw [Nat.min_eq_left (by omega)], rfl⟩)
theorem ef_2 (m : MethodId) (a : Addr) (i0 : Int32) (f0 : Int32) (t0 : Int32) : entryFrame m #[(.ref a), (.int i0), (.int f0), (.int t0)] 6 = mkF m 0 #[.val (.ref a), .val (.int i0), .val (.int f0), .val (.int t0), .unset, .unset] [] := by first | (simp [entryFrame, mkF, argsToLocals, Value.category]; done) | rfl
theorem pn_2 : plainName "com/example/wireproof/wireproof/value/Base128ReadLongPinLaw" = true := by first | (simp [plainName, overriddenIn]; done) | decide +kernel
set_option maxRecDepth 65536 in
set_option maxHeartbeats 40000000 in
theorem rm2 {l : Launch} {Z : State} {a0 : Array Value} {n0 : Nat} {h : Heap} (hw : ∀ d ∈ tables_1, d.before a0 Z = true) (hn : n0 ≤ h.size) (a : Addr) (i0 : Int32) (f0 : Int32) (t0 : Int32) (F M I : Nat) (g : Nat → Int32) (eI : i0 = Int32.ofNat I) (eF : f0 = Int32.ofNat F) (eM : t0 = Int32.ofNat M) (hI : I < 12) (hF : F < 13) (hM : M ≤ 12) (hFM : M ≤ F + 9) (B : Ba Z n0 h a .byte 12 (bI g)) :
    Ctr l Z n0 (⟨"com/example/wireproof/wireproof/value/Base128ReadLongPinLaw", "term", "([BIII)J"⟩ : MethodName) method_3_code 6 (some .long) ({ frames := 0, cells := 0, slots := 0, locals := 0 } : Room) [] #[(.ref a), (.int i0), (.int f0), (.int t0)] h (fun v h' => v = some (.long (Int64.ofNat (te g F M I))) ∧ h = h') := by
  refine ctr_of (plainFor_of_name pn_2) hw hn ?_
  intro p e s m below meth c T X
  refine Wp.cast (ef_2 m a i0 f0 t0) ?_
  subst eI eF eM
  refine w_iloadN X D2_0 rfl ?_
  refine w_iloadN X D2_1 rfl ?_
  refine w_icmplt X D2_2 (fun hc2 => ?_) (fun hc2 => ?_)
  · refine w_lconst0 X D2_10 ?_
    exact w_lreturn X D2_11 (by decide) (by decide) (⟨by
            rw [te, if_neg ?_]
            · rfl
            · intro z
              first | (have z1 := (ofNat_lt (by omega) (by omega)).mp hc2; omega) | (exact hc7 ((ofNat_lt (by omega) (by omega)).mpr z.2)), rfl⟩)
  · refine w_iloadN X D2_5 rfl ?_
    refine w_iloadN X D2_6 rfl ?_
    refine w_icmplt X D2_7 (fun hc7 => ?_) (fun hc7 => ?_)
    · have h1 : F ≤ I := Nat.le_of_not_lt fun z => hc2 ((ofNat_lt (by omega) (by omega)).mpr z)
      have h2 : I < M := (ofNat_lt (by omega) (by omega)).mp hc7
      refine w_aloadN X D2_12 rfl rfl ?_
      refine w_iloadN X D2_13 rfl ?_
      refine w_baload X D2_14 B I rfl (by omega) ?_
      refine w_bipush X D2_15 (v := (127 : Int32)) rfl ?_
      refine w_iand X D2_17 ?_
      refine w_i2l X D2_18 ?_
      rw [d7_i2l]
      refine w_lstore X D2_19 (l' := #[.val (.ref a), .val (.int (Int32.ofNat I)), .val (.int (Int32.ofNat F)), .val (.int (Int32.ofNat M)), .val (.long (Int64.ofNat (d7 (g I)))), .second]) rfl ?_
      refine w_lload X D2_21 rfl ?_
      refine w_bipush X D2_23 (v := (7 : Int32)) rfl ?_
      refine w_iloadN X D2_25 rfl ?_
      refine w_iconst X D2_26 (v := (1 : Int32)) rfl ?_
      refine w_isub X D2_27 ?_
      rw [show Int32.ofNat M - 1 = Int32.ofNat (M - 1) from n_sub (b := 1) (by omega)]
      refine w_iloadN X D2_28 rfl ?_
      refine w_isub X D2_29 ?_
      rw [n_sub (show I ≤ M - 1 by omega)]
      refine w_imul X D2_30 ?_
      rw [show (7 : Int32) * Int32.ofNat (M - 1 - I) = Int32.ofNat (7 * (M - 1 - I)) from n_mul 7 _]
      refine w_lshl X D2_31 ?_
      rw [nL_shl _ (show 7 * (M - 1 - I) < 64 by omega)]
      exact w_lreturn X D2_32 (by decide) (by decide) (⟨by rw [te, if_pos ⟨h1, h2⟩], rfl⟩)
    · refine w_lconst0 X D2_10 ?_
      exact w_lreturn X D2_11 (by decide) (by decide) (⟨by
                rw [te, if_neg ?_]
                · rfl
                · intro z
                  first | (have z1 := (ofNat_lt (by omega) (by omega)).mp hc2; omega) | (exact hc7 ((ofNat_lt (by omega) (by omega)).mpr z.2)), rfl⟩)
set_option maxRecDepth 65536 in
set_option maxHeartbeats 40000000 in
theorem loop3 {Z : State} {a0 : Array Value} {n0 : Nat} {p : Program} {l : Launch} {e : Env} {R : Room} {s : State} {m : MethodId} {args : Array Value} {below : List Frame} {meth : Method} {c : Code} {T : State} {h : Heap} {k j : Nat} {Q : Option Value → Heap → Prop} (X : Pos Z a0 n0 p l e R s m args below meth c prog_149_method_3_code 6 (some .long) (⟨"com/example/wireproof/wireproof/value/Base128", "readLong", "([BII)J"⟩ : MethodName) T h k j) (a : Addr) (F M : Nat) (g : Nat → Int32) (hF : F ≤ M) (hM : M ≤ 12) (B : Ba Z n0 h a .byte 12 (bI g)) (q : ∀ z, Wp n0 p e R s below Q T (mkF m 31 #[.val (.ref a), .val (.int (Int32.ofNat F)), .val (.int (Int32.ofNat M)), .val (.long (Int64.ofNat (rv g F (M - F)))), .second, .val (.int z)] [])) : ∀ r i, F + i + r = M → Wp n0 p e R s below Q T (mkF m 5 #[.val (.ref a), .val (.int (Int32.ofNat F)), .val (.int (Int32.ofNat M)), .val (.long (Int64.ofNat (rv g F i))), .second, .val (.int (Int32.ofNat (F + i)))] []) := by
  intro r
  induction r with
  | zero =>
    intro i hi
    obtain rfl : i = M - F := by omega
    refine w_iload X D3_5 rfl ?_
    refine w_iloadN X D3_7 rfl ?_
    refine w_icmpge X D3_8 (fun hc8 => ?_) (fun hc8 => by have z1 := (ofNat_lt (by omega) (by omega)).mp hc8; omega)
    exact q _
  | succ r ih =>
    intro i hi
    refine w_iload X D3_5 rfl ?_
    refine w_iloadN X D3_7 rfl ?_
    refine w_icmpge X D3_8 (fun hc8 => by have z : ¬ F + i < M := (fun z => hc8 ((ofNat_lt (by omega) (by omega)).mpr z)); omega) (fun hc8 => ?_)
    refine w_lloadN X D3_11 rfl ?_
    refine w_bipush X D3_12 (v := (7 : Int32)) rfl ?_
    refine w_lshl X D3_14 ?_
    refine w_aloadN X D3_15 rfl rfl ?_
    refine w_iload X D3_16 rfl ?_
    refine w_baload X D3_18 B (F + i) rfl (by omega) ?_
    refine w_bipush X D3_19 (v := (127 : Int32)) rfl ?_
    refine w_iand X D3_21 ?_
    refine w_i2l X D3_22 ?_
    refine w_lor X D3_23 ?_
    rw [d7_i2l, own_turn]
    refine w_lstoreN X D3_24 (l' := #[.val (.ref a), .val (.int (Int32.ofNat F)), .val (.int (Int32.ofNat M)), .val (.long (Int64.ofNat (128 * rv g F i + d7 (g (F + i))))), .second, .val (.int (Int32.ofNat (F + i)))]) rfl ?_
    refine w_iinc X D3_25 (d := (1 : Int32)) (r := (Int32.ofNat (F + i + 1))) (l' := #[.val (.ref a), .val (.int (Int32.ofNat F)), .val (.int (Int32.ofNat M)), .val (.long (Int64.ofNat (128 * rv g F i + d7 (g (F + i))))), .second, .val (.int (Int32.ofNat (F + i + 1)))]) rfl rfl (n_add _ _) rfl ?_
    refine w_goto X D3_28 ?_
    exact ih (i + 1) (by omega)
theorem ef_3 (m : MethodId) (a : Addr) (f0 : Int32) (t0 : Int32) : entryFrame m #[(.ref a), (.int f0), (.int t0)] 6 = mkF m 0 #[.val (.ref a), .val (.int f0), .val (.int t0), .unset, .unset, .unset] [] := by first | (simp [entryFrame, mkF, argsToLocals, Value.category]; done) | rfl
theorem pn_3 : plainName "com/example/wireproof/wireproof/value/Base128" = true := by first | (simp [plainName, overriddenIn]; done) | decide +kernel
set_option maxRecDepth 65536 in
set_option maxHeartbeats 40000000 in
theorem rm3 {l : Launch} {Z : State} {a0 : Array Value} {n0 : Nat} {h : Heap} (hw : ∀ d ∈ tables_1, d.before a0 Z = true) (hn : n0 ≤ h.size) (a : Addr) (f0 : Int32) (t0 : Int32) (F M : Nat) (g : Nat → Int32) (eF : f0 = Int32.ofNat F) (eM : t0 = Int32.ofNat M) (hF : F ≤ M) (hM : M ≤ 12) (B : Ba Z n0 h a .byte 12 (bI g)) :
    Ctr l Z n0 (⟨"com/example/wireproof/wireproof/value/Base128", "readLong", "([BII)J"⟩ : MethodName) prog_149_method_3_code 6 (some .long) ({ frames := 0, cells := 0, slots := 0, locals := 0 } : Room) [] #[(.ref a), (.int f0), (.int t0)] h (fun v h' => v = some (.long (Int64.ofNat (rv g F (M - F)))) ∧ h = h') := by
  refine ctr_of (plainFor_of_name pn_3) hw hn ?_
  intro p e s m below meth c T X
  refine Wp.cast (ef_3 m a f0 t0) ?_
  subst eF eM
  refine w_lconst0 X D3_0 ?_
  refine w_lstoreN X D3_1 (l' := #[.val (.ref a), .val (.int (Int32.ofNat F)), .val (.int (Int32.ofNat M)), .val (.long (0 : Int64)), .second, .unset]) rfl ?_
  refine w_iloadN X D3_2 rfl ?_
  refine w_istore X D3_3 (l' := #[.val (.ref a), .val (.int (Int32.ofNat F)), .val (.int (Int32.ofNat M)), .val (.long (0 : Int64)), .second, .val (.int (Int32.ofNat F))]) rfl ?_
  refine loop3 X a F M g hF hM B (fun z => ?_) (M - F) 0 (by omega)
  refine w_lloadN X D3_31 rfl ?_
  exact w_lreturn X D3_32 (by decide) (by decide) (⟨rfl, rfl⟩)
theorem ef_0 (m : MethodId) (a : Int64) (b : Int32) (c0 : Int32) (d : Int32) : entryFrame m #[(.long a), (.int b), (.int c0), (.int d)] maxLocals = mkF m 0 #[.val (.long a), .second, .val (.int b), .val (.int c0), .val (.int d), .unset, .unset, .unset, .unset, .unset, .unset] [] := by first | (simp [entryFrame, mkF, argsToLocals, Value.category, maxLocals]; done) | rfl
theorem pn_0 : plainName "com/example/wireproof/wireproof/value/Base128ReadLongPinLaw" = true := by first | (simp [plainName, overriddenIn]; done) | decide +kernel
set_option maxRecDepth 65536 in
set_option maxHeartbeats 40000000 in
theorem rm0 {l : Launch} {Z : State} {a0 : Array Value} {n0 : Nat} {h : Heap} (hw : ∀ d ∈ tables_1, d.before a0 Z = true) (hn : n0 ≤ h.size) (a : Int64) (b : Int32) (c0 : Int32) (d : Int32) :
    Ctr l Z n0 x code maxLocals ret room_1 tables_1 #[(.long a), (.int b), (.int c0), (.int d)] h (fun v h' => v = some (.int 1)) := by
  refine ctr_of (plainFor_of_name pn_0) hw hn ?_
  intro p e s m below meth c T X
  refine Wp.cast (ef_0 m a b c0 d) ?_
  refine w_bipush X D0_0 (v := (12 : Int32)) rfl ?_
  refine w_newB X D0_2 (hw _ (List.mem_of_getElem? (i := 0) rfl)) 12 12 rfl (Nat.le_of_ble_eq_true rfl) (by decide) (Nat.le_of_ble_eq_true rfl) (Nat.le_of_ble_eq_true rfl) (fun T1 h1 a1 X1 g1 E1 B1 => ?_)
  refine w_astore X1 D0_4 (l' := #[.val (.long a), .second, .val (.int b), .val (.int c0), .val (.int d), .val (.ref a1), .unset, .unset, .unset, .unset, .unset]) rfl rfl ?_
  refine w_aload X1 D0_6 rfl rfl ?_
  refine w_iconst X1 D0_8 (v := (0 : Int32)) rfl ?_
  refine w_lloadN X1 D0_9 rfl ?_
  refine w_l2i X1 D0_10 ?_
  refine w_i2b X1 D0_11 ?_
  refine w_bastore X1 D0_12 B1 0 rfl (by decide) (fun T2 h2 X2 K2 B2 => ?_)
  refine w_aload X2 D0_13 rfl rfl ?_
  refine w_iconst X2 D0_15 (v := (1 : Int32)) rfl ?_
  refine w_lloadN X2 D0_16 rfl ?_
  refine w_bipush X2 D0_17 (v := (8 : Int32)) rfl ?_
  refine w_lushr X2 D0_19 ?_
  refine w_l2i X2 D0_20 ?_
  refine w_i2b X2 D0_21 ?_
  refine w_bastore X2 D0_22 B2 1 rfl (by decide) (fun T3 h3 X3 K3 B3 => ?_)
  refine w_aload X3 D0_23 rfl rfl ?_
  refine w_iconst X3 D0_25 (v := (2 : Int32)) rfl ?_
  refine w_lloadN X3 D0_26 rfl ?_
  refine w_bipush X3 D0_27 (v := (16 : Int32)) rfl ?_
  refine w_lushr X3 D0_29 ?_
  refine w_l2i X3 D0_30 ?_
  refine w_i2b X3 D0_31 ?_
  refine w_bastore X3 D0_32 B3 2 rfl (by decide) (fun T4 h4 X4 K4 B4 => ?_)
  refine w_aload X4 D0_33 rfl rfl ?_
  refine w_iconst X4 D0_35 (v := (3 : Int32)) rfl ?_
  refine w_lloadN X4 D0_36 rfl ?_
  refine w_bipush X4 D0_37 (v := (24 : Int32)) rfl ?_
  refine w_lushr X4 D0_39 ?_
  refine w_l2i X4 D0_40 ?_
  refine w_i2b X4 D0_41 ?_
  refine w_bastore X4 D0_42 B4 3 rfl (by decide) (fun T5 h5 X5 K5 B5 => ?_)
  refine w_aload X5 D0_43 rfl rfl ?_
  refine w_iconst X5 D0_45 (v := (4 : Int32)) rfl ?_
  refine w_lloadN X5 D0_46 rfl ?_
  refine w_bipush X5 D0_47 (v := (32 : Int32)) rfl ?_
  refine w_lushr X5 D0_49 ?_
  refine w_l2i X5 D0_50 ?_
  refine w_i2b X5 D0_51 ?_
  refine w_bastore X5 D0_52 B5 4 rfl (by decide) (fun T6 h6 X6 K6 B6 => ?_)
  refine w_aload X6 D0_53 rfl rfl ?_
  refine w_iconst X6 D0_55 (v := (5 : Int32)) rfl ?_
  refine w_lloadN X6 D0_56 rfl ?_
  refine w_bipush X6 D0_57 (v := (40 : Int32)) rfl ?_
  refine w_lushr X6 D0_59 ?_
  refine w_l2i X6 D0_60 ?_
  refine w_i2b X6 D0_61 ?_
  refine w_bastore X6 D0_62 B6 5 rfl (by decide) (fun T7 h7 X7 K7 B7 => ?_)
  refine w_aload X7 D0_63 rfl rfl ?_
  refine w_bipush X7 D0_65 (v := (6 : Int32)) rfl ?_
  refine w_lloadN X7 D0_67 rfl ?_
  refine w_bipush X7 D0_68 (v := (48 : Int32)) rfl ?_
  refine w_lushr X7 D0_70 ?_
  refine w_l2i X7 D0_71 ?_
  refine w_i2b X7 D0_72 ?_
  refine w_bastore X7 D0_73 B7 6 rfl (by decide) (fun T8 h8 X8 K8 B8 => ?_)
  refine w_aload X8 D0_74 rfl rfl ?_
  refine w_bipush X8 D0_76 (v := (7 : Int32)) rfl ?_
  refine w_lloadN X8 D0_78 rfl ?_
  refine w_bipush X8 D0_79 (v := (56 : Int32)) rfl ?_
  refine w_lushr X8 D0_81 ?_
  refine w_l2i X8 D0_82 ?_
  refine w_i2b X8 D0_83 ?_
  refine w_bastore X8 D0_84 B8 7 rfl (by decide) (fun T9 h9 X9 K9 B9 => ?_)
  refine w_aload X9 D0_85 rfl rfl ?_
  refine w_bipush X9 D0_87 (v := (8 : Int32)) rfl ?_
  refine w_iloadN X9 D0_89 rfl ?_
  refine w_i2b X9 D0_90 ?_
  refine w_bastore X9 D0_91 B9 8 rfl (by decide) (fun T10 h10 X10 K10 B10 => ?_)
  refine w_aload X10 D0_92 rfl rfl ?_
  refine w_bipush X10 D0_94 (v := (9 : Int32)) rfl ?_
  refine w_iloadN X10 D0_96 rfl ?_
  refine w_bipush X10 D0_97 (v := (8 : Int32)) rfl ?_
  refine w_iushr X10 D0_99 ?_
  refine w_i2b X10 D0_100 ?_
  refine w_bastore X10 D0_101 B10 9 rfl (by decide) (fun T11 h11 X11 K11 B11 => ?_)
  refine w_aload X11 D0_102 rfl rfl ?_
  refine w_bipush X11 D0_104 (v := (10 : Int32)) rfl ?_
  refine w_iloadN X11 D0_106 rfl ?_
  refine w_bipush X11 D0_107 (v := (16 : Int32)) rfl ?_
  refine w_iushr X11 D0_109 ?_
  refine w_i2b X11 D0_110 ?_
  refine w_bastore X11 D0_111 B11 10 rfl (by decide) (fun T12 h12 X12 K12 B12 => ?_)
  refine w_aload X12 D0_112 rfl rfl ?_
  refine w_bipush X12 D0_114 (v := (11 : Int32)) rfl ?_
  refine w_iloadN X12 D0_116 rfl ?_
  refine w_bipush X12 D0_117 (v := (24 : Int32)) rfl ?_
  refine w_iushr X12 D0_119 ?_
  refine w_i2b X12 D0_120 ?_
  refine w_bastore X12 D0_121 B12 11 rfl (by decide) (fun T13 h13 X13 K13 B13 => ?_)
  obtain ⟨g, eg⟩ : ∃ g : Nat → Int32, bI g = bI (upd (upd (upd (upd (upd (upd (upd (upd (upd (upd (upd (upd (fun _ => 0) 0 (jbyte (jbyte (a.toInt32)))) 1 (jbyte (jbyte ((jushrL a (8 : Int32)).toInt32)))) 2 (jbyte (jbyte ((jushrL a (16 : Int32)).toInt32)))) 3 (jbyte (jbyte ((jushrL a (24 : Int32)).toInt32)))) 4 (jbyte (jbyte ((jushrL a (32 : Int32)).toInt32)))) 5 (jbyte (jbyte ((jushrL a (40 : Int32)).toInt32)))) 6 (jbyte (jbyte ((jushrL a (48 : Int32)).toInt32)))) 7 (jbyte (jbyte ((jushrL a (56 : Int32)).toInt32)))) 8 (jbyte (jbyte b))) 9 (jbyte (jbyte (jushr b (8 : Int32))))) 10 (jbyte (jbyte (jushr b (16 : Int32))))) 11 (jbyte (jbyte (jushr b (24 : Int32))))) := ⟨_, rfl⟩
  have Bg : Ba Z n0 h13 a1 .byte 12 (bI g) := by rw [eg]; exact B13
  clear eg
  refine w_iloadN X13 D0_122 rfl ?_
  refine w_ldc X13 D0_123 (hw _ (List.mem_of_getElem? (i := 1) rfl)) ?_
  refine w_iand X13 D0_125 ?_
  refine w_bipush X13 D0_126 (v := (13 : Int32)) rfl ?_
  refine w_irem X13 D0_128 (by decide) ?_
  refine w_istoreE X13 D0_129 (l' := fun z_ => #[.val (.long a), .second, .val (.int b), .val (.int c0), .val (.int d), .val (.ref a1), .val (.int z_), .unset, .unset, .unset, .unset]) (fun _ => rfl) (fun fr e_fr => ?_)
  obtain ⟨F, hF, eF⟩ := own_rem c0 13 (by decide) (by decide)
  replace eF := e_fr.trans eF
  subst eF
  refine w_iload X13 D0_131 rfl ?_
  refine w_ldc X13 D0_133 (hw _ (List.mem_of_getElem? (i := 1) rfl)) ?_
  refine w_iand X13 D0_135 ?_
  refine w_bipush X13 D0_136 (v := (10 : Int32)) rfl ?_
  refine w_irem X13 D0_138 (by decide) ?_
  refine w_istoreE X13 D0_139 (l' := fun z_ => #[.val (.long a), .second, .val (.int b), .val (.int c0), .val (.int d), .val (.ref a1), .val (.int (Int32.ofNat F)), .val (.int z_), .unset, .unset, .unset]) (fun _ => rfl) (fun ln e_ln => ?_)
  obtain ⟨N, hN, eN⟩ := own_rem d 10 (by decide) (by decide)
  replace eN := e_ln.trans eN
  subst eN
  refine w_iload X13 D0_141 rfl ?_
  refine w_iload X13 D0_143 rfl ?_
  refine w_iadd X13 D0_145 ?_
  rw [n_add]
  refine w_bipush X13 D0_146 (v := (12 : Int32)) rfl ?_
  refine w_static X13 D0_148 (rm1 hw X13.sz _ _ (F + N) 12 (by omega) (by decide) rfl rfl) (hw _ (List.mem_of_getElem? (i := 2) rfl)) (hw _ (List.mem_of_getElem? (i := 3) rfl)) (hw _ (List.mem_of_getElem? (i := 4) rfl)) (hw _ (List.mem_of_getElem? (i := 5) rfl)) (by decide) pd_0 rfl (S := []) rfl rfl (Nat.le_of_ble_eq_true rfl) (Nat.le_of_ble_eq_true rfl) (Nat.le_of_ble_eq_true rfl) (Nat.le_of_ble_eq_true rfl) (fun v14 T14 h14 X14 q14 => ?_)
  obtain ⟨rfl, rfl⟩ := q14
  show Wp _ _ _ _ _ _ _ _ (mkF m 151 #[.val (.long a), .second, .val (.int b), .val (.int c0), .val (.int d), .val (.ref a1), .val (.int (Int32.ofNat F)), .val (.int (Int32.ofNat N)), .unset, .unset, .unset] [(.int (Int32.ofNat (min (F + N) 12)))])
  refine w_istore X14 D0_151 (l' := #[.val (.long a), .second, .val (.int b), .val (.int c0), .val (.int d), .val (.ref a1), .val (.int (Int32.ofNat F)), .val (.int (Int32.ofNat N)), .val (.int (Int32.ofNat (min (F + N) 12))), .unset, .unset]) rfl ?_
  obtain ⟨M, hM⟩ : ∃ M, M = min (F + N) 12 := ⟨_, rfl⟩
  rw [← hM]
  refine w_aload X14 D0_153 rfl rfl ?_
  refine w_iconst X14 D0_155 (v := (0 : Int32)) rfl ?_
  refine w_iload X14 D0_156 rfl ?_
  refine w_iload X14 D0_158 rfl ?_
  refine w_static X14 D0_160 (rm2 hw X14.sz a1 _ _ _ F M 0 g rfl rfl rfl (by decide) hF (by omega) (by omega) Bg) (hw _ (List.mem_of_getElem? (i := 6) rfl)) (hw _ (List.mem_of_getElem? (i := 7) rfl)) (hw _ (List.mem_of_getElem? (i := 8) rfl)) (hw _ (List.mem_of_getElem? (i := 9) rfl)) (by decide) pd_1 rfl (S := []) rfl rfl (Nat.le_of_ble_eq_true rfl) (Nat.le_of_ble_eq_true rfl) (Nat.le_of_ble_eq_true rfl) (Nat.le_of_ble_eq_true rfl) (fun v15 T15 h15 X15 q15 => ?_)
  obtain ⟨rfl, rfl⟩ := q15
  show Wp _ _ _ _ _ _ _ _ (mkF m 163 #[.val (.long a), .second, .val (.int b), .val (.int c0), .val (.int d), .val (.ref a1), .val (.int (Int32.ofNat F)), .val (.int (Int32.ofNat N)), .val (.int (Int32.ofNat M)), .unset, .unset] [(.long (Int64.ofNat (te g F M 0)))])
  rw [show Int64.ofNat (te g F M 0) = Int64.ofNat (ts g F M 1) by rw [ts, ts, Nat.zero_add]]
  refine w_aload X15 D0_163 rfl rfl ?_
  refine w_iconst X15 D0_165 (v := (1 : Int32)) rfl ?_
  refine w_iload X15 D0_166 rfl ?_
  refine w_iload X15 D0_168 rfl ?_
  refine w_static X15 D0_170 (rm2 hw X15.sz a1 _ _ _ F M 1 g rfl rfl rfl (by decide) hF (by omega) (by omega) Bg) (hw _ (List.mem_of_getElem? (i := 6) rfl)) (hw _ (List.mem_of_getElem? (i := 7) rfl)) (hw _ (List.mem_of_getElem? (i := 8) rfl)) (hw _ (List.mem_of_getElem? (i := 9) rfl)) (by decide) pd_1 rfl (S := [(.long (Int64.ofNat (ts g F M 1)))]) rfl rfl (Nat.le_of_ble_eq_true rfl) (Nat.le_of_ble_eq_true rfl) (Nat.le_of_ble_eq_true rfl) (Nat.le_of_ble_eq_true rfl) (fun v16 T16 h16 X16 q16 => ?_)
  obtain ⟨rfl, rfl⟩ := q16
  show Wp _ _ _ _ _ _ _ _ (mkF m 173 #[.val (.long a), .second, .val (.int b), .val (.int c0), .val (.int d), .val (.ref a1), .val (.int (Int32.ofNat F)), .val (.int (Int32.ofNat N)), .val (.int (Int32.ofNat M)), .unset, .unset] [(.long (Int64.ofNat (te g F M 1))), (.long (Int64.ofNat (ts g F M 1)))])
  refine w_ladd X16 D0_173 ?_
  rw [show Int64.ofNat (ts g F M 1) + Int64.ofNat (te g F M 1) = Int64.ofNat (ts g F M 2) from nL_add _ _]
  refine w_aload X16 D0_174 rfl rfl ?_
  refine w_iconst X16 D0_176 (v := (2 : Int32)) rfl ?_
  refine w_iload X16 D0_177 rfl ?_
  refine w_iload X16 D0_179 rfl ?_
  refine w_static X16 D0_181 (rm2 hw X16.sz a1 _ _ _ F M 2 g rfl rfl rfl (by decide) hF (by omega) (by omega) Bg) (hw _ (List.mem_of_getElem? (i := 6) rfl)) (hw _ (List.mem_of_getElem? (i := 7) rfl)) (hw _ (List.mem_of_getElem? (i := 8) rfl)) (hw _ (List.mem_of_getElem? (i := 9) rfl)) (by decide) pd_1 rfl (S := [(.long (Int64.ofNat (ts g F M 2)))]) rfl rfl (Nat.le_of_ble_eq_true rfl) (Nat.le_of_ble_eq_true rfl) (Nat.le_of_ble_eq_true rfl) (Nat.le_of_ble_eq_true rfl) (fun v17 T17 h17 X17 q17 => ?_)
  obtain ⟨rfl, rfl⟩ := q17
  show Wp _ _ _ _ _ _ _ _ (mkF m 184 #[.val (.long a), .second, .val (.int b), .val (.int c0), .val (.int d), .val (.ref a1), .val (.int (Int32.ofNat F)), .val (.int (Int32.ofNat N)), .val (.int (Int32.ofNat M)), .unset, .unset] [(.long (Int64.ofNat (te g F M 2))), (.long (Int64.ofNat (ts g F M 2)))])
  refine w_ladd X17 D0_184 ?_
  rw [show Int64.ofNat (ts g F M 2) + Int64.ofNat (te g F M 2) = Int64.ofNat (ts g F M 3) from nL_add _ _]
  refine w_aload X17 D0_185 rfl rfl ?_
  refine w_iconst X17 D0_187 (v := (3 : Int32)) rfl ?_
  refine w_iload X17 D0_188 rfl ?_
  refine w_iload X17 D0_190 rfl ?_
  refine w_static X17 D0_192 (rm2 hw X17.sz a1 _ _ _ F M 3 g rfl rfl rfl (by decide) hF (by omega) (by omega) Bg) (hw _ (List.mem_of_getElem? (i := 6) rfl)) (hw _ (List.mem_of_getElem? (i := 7) rfl)) (hw _ (List.mem_of_getElem? (i := 8) rfl)) (hw _ (List.mem_of_getElem? (i := 9) rfl)) (by decide) pd_1 rfl (S := [(.long (Int64.ofNat (ts g F M 3)))]) rfl rfl (Nat.le_of_ble_eq_true rfl) (Nat.le_of_ble_eq_true rfl) (Nat.le_of_ble_eq_true rfl) (Nat.le_of_ble_eq_true rfl) (fun v18 T18 h18 X18 q18 => ?_)
  obtain ⟨rfl, rfl⟩ := q18
  show Wp _ _ _ _ _ _ _ _ (mkF m 195 #[.val (.long a), .second, .val (.int b), .val (.int c0), .val (.int d), .val (.ref a1), .val (.int (Int32.ofNat F)), .val (.int (Int32.ofNat N)), .val (.int (Int32.ofNat M)), .unset, .unset] [(.long (Int64.ofNat (te g F M 3))), (.long (Int64.ofNat (ts g F M 3)))])
  refine w_ladd X18 D0_195 ?_
  rw [show Int64.ofNat (ts g F M 3) + Int64.ofNat (te g F M 3) = Int64.ofNat (ts g F M 4) from nL_add _ _]
  refine w_aload X18 D0_196 rfl rfl ?_
  refine w_iconst X18 D0_198 (v := (4 : Int32)) rfl ?_
  refine w_iload X18 D0_199 rfl ?_
  refine w_iload X18 D0_201 rfl ?_
  refine w_static X18 D0_203 (rm2 hw X18.sz a1 _ _ _ F M 4 g rfl rfl rfl (by decide) hF (by omega) (by omega) Bg) (hw _ (List.mem_of_getElem? (i := 6) rfl)) (hw _ (List.mem_of_getElem? (i := 7) rfl)) (hw _ (List.mem_of_getElem? (i := 8) rfl)) (hw _ (List.mem_of_getElem? (i := 9) rfl)) (by decide) pd_1 rfl (S := [(.long (Int64.ofNat (ts g F M 4)))]) rfl rfl (Nat.le_of_ble_eq_true rfl) (Nat.le_of_ble_eq_true rfl) (Nat.le_of_ble_eq_true rfl) (Nat.le_of_ble_eq_true rfl) (fun v19 T19 h19 X19 q19 => ?_)
  obtain ⟨rfl, rfl⟩ := q19
  show Wp _ _ _ _ _ _ _ _ (mkF m 206 #[.val (.long a), .second, .val (.int b), .val (.int c0), .val (.int d), .val (.ref a1), .val (.int (Int32.ofNat F)), .val (.int (Int32.ofNat N)), .val (.int (Int32.ofNat M)), .unset, .unset] [(.long (Int64.ofNat (te g F M 4))), (.long (Int64.ofNat (ts g F M 4)))])
  refine w_ladd X19 D0_206 ?_
  rw [show Int64.ofNat (ts g F M 4) + Int64.ofNat (te g F M 4) = Int64.ofNat (ts g F M 5) from nL_add _ _]
  refine w_aload X19 D0_207 rfl rfl ?_
  refine w_iconst X19 D0_209 (v := (5 : Int32)) rfl ?_
  refine w_iload X19 D0_210 rfl ?_
  refine w_iload X19 D0_212 rfl ?_
  refine w_static X19 D0_214 (rm2 hw X19.sz a1 _ _ _ F M 5 g rfl rfl rfl (by decide) hF (by omega) (by omega) Bg) (hw _ (List.mem_of_getElem? (i := 6) rfl)) (hw _ (List.mem_of_getElem? (i := 7) rfl)) (hw _ (List.mem_of_getElem? (i := 8) rfl)) (hw _ (List.mem_of_getElem? (i := 9) rfl)) (by decide) pd_1 rfl (S := [(.long (Int64.ofNat (ts g F M 5)))]) rfl rfl (Nat.le_of_ble_eq_true rfl) (Nat.le_of_ble_eq_true rfl) (Nat.le_of_ble_eq_true rfl) (Nat.le_of_ble_eq_true rfl) (fun v20 T20 h20 X20 q20 => ?_)
  obtain ⟨rfl, rfl⟩ := q20
  show Wp _ _ _ _ _ _ _ _ (mkF m 217 #[.val (.long a), .second, .val (.int b), .val (.int c0), .val (.int d), .val (.ref a1), .val (.int (Int32.ofNat F)), .val (.int (Int32.ofNat N)), .val (.int (Int32.ofNat M)), .unset, .unset] [(.long (Int64.ofNat (te g F M 5))), (.long (Int64.ofNat (ts g F M 5)))])
  refine w_ladd X20 D0_217 ?_
  rw [show Int64.ofNat (ts g F M 5) + Int64.ofNat (te g F M 5) = Int64.ofNat (ts g F M 6) from nL_add _ _]
  refine w_aload X20 D0_218 rfl rfl ?_
  refine w_bipush X20 D0_220 (v := (6 : Int32)) rfl ?_
  refine w_iload X20 D0_222 rfl ?_
  refine w_iload X20 D0_224 rfl ?_
  refine w_static X20 D0_226 (rm2 hw X20.sz a1 _ _ _ F M 6 g rfl rfl rfl (by decide) hF (by omega) (by omega) Bg) (hw _ (List.mem_of_getElem? (i := 6) rfl)) (hw _ (List.mem_of_getElem? (i := 7) rfl)) (hw _ (List.mem_of_getElem? (i := 8) rfl)) (hw _ (List.mem_of_getElem? (i := 9) rfl)) (by decide) pd_1 rfl (S := [(.long (Int64.ofNat (ts g F M 6)))]) rfl rfl (Nat.le_of_ble_eq_true rfl) (Nat.le_of_ble_eq_true rfl) (Nat.le_of_ble_eq_true rfl) (Nat.le_of_ble_eq_true rfl) (fun v21 T21 h21 X21 q21 => ?_)
  obtain ⟨rfl, rfl⟩ := q21
  show Wp _ _ _ _ _ _ _ _ (mkF m 229 #[.val (.long a), .second, .val (.int b), .val (.int c0), .val (.int d), .val (.ref a1), .val (.int (Int32.ofNat F)), .val (.int (Int32.ofNat N)), .val (.int (Int32.ofNat M)), .unset, .unset] [(.long (Int64.ofNat (te g F M 6))), (.long (Int64.ofNat (ts g F M 6)))])
  refine w_ladd X21 D0_229 ?_
  rw [show Int64.ofNat (ts g F M 6) + Int64.ofNat (te g F M 6) = Int64.ofNat (ts g F M 7) from nL_add _ _]
  refine w_aload X21 D0_230 rfl rfl ?_
  refine w_bipush X21 D0_232 (v := (7 : Int32)) rfl ?_
  refine w_iload X21 D0_234 rfl ?_
  refine w_iload X21 D0_236 rfl ?_
  refine w_static X21 D0_238 (rm2 hw X21.sz a1 _ _ _ F M 7 g rfl rfl rfl (by decide) hF (by omega) (by omega) Bg) (hw _ (List.mem_of_getElem? (i := 6) rfl)) (hw _ (List.mem_of_getElem? (i := 7) rfl)) (hw _ (List.mem_of_getElem? (i := 8) rfl)) (hw _ (List.mem_of_getElem? (i := 9) rfl)) (by decide) pd_1 rfl (S := [(.long (Int64.ofNat (ts g F M 7)))]) rfl rfl (Nat.le_of_ble_eq_true rfl) (Nat.le_of_ble_eq_true rfl) (Nat.le_of_ble_eq_true rfl) (Nat.le_of_ble_eq_true rfl) (fun v22 T22 h22 X22 q22 => ?_)
  obtain ⟨rfl, rfl⟩ := q22
  show Wp _ _ _ _ _ _ _ _ (mkF m 241 #[.val (.long a), .second, .val (.int b), .val (.int c0), .val (.int d), .val (.ref a1), .val (.int (Int32.ofNat F)), .val (.int (Int32.ofNat N)), .val (.int (Int32.ofNat M)), .unset, .unset] [(.long (Int64.ofNat (te g F M 7))), (.long (Int64.ofNat (ts g F M 7)))])
  refine w_ladd X22 D0_241 ?_
  rw [show Int64.ofNat (ts g F M 7) + Int64.ofNat (te g F M 7) = Int64.ofNat (ts g F M 8) from nL_add _ _]
  refine w_aload X22 D0_242 rfl rfl ?_
  refine w_bipush X22 D0_244 (v := (8 : Int32)) rfl ?_
  refine w_iload X22 D0_246 rfl ?_
  refine w_iload X22 D0_248 rfl ?_
  refine w_static X22 D0_250 (rm2 hw X22.sz a1 _ _ _ F M 8 g rfl rfl rfl (by decide) hF (by omega) (by omega) Bg) (hw _ (List.mem_of_getElem? (i := 6) rfl)) (hw _ (List.mem_of_getElem? (i := 7) rfl)) (hw _ (List.mem_of_getElem? (i := 8) rfl)) (hw _ (List.mem_of_getElem? (i := 9) rfl)) (by decide) pd_1 rfl (S := [(.long (Int64.ofNat (ts g F M 8)))]) rfl rfl (Nat.le_of_ble_eq_true rfl) (Nat.le_of_ble_eq_true rfl) (Nat.le_of_ble_eq_true rfl) (Nat.le_of_ble_eq_true rfl) (fun v23 T23 h23 X23 q23 => ?_)
  obtain ⟨rfl, rfl⟩ := q23
  show Wp _ _ _ _ _ _ _ _ (mkF m 253 #[.val (.long a), .second, .val (.int b), .val (.int c0), .val (.int d), .val (.ref a1), .val (.int (Int32.ofNat F)), .val (.int (Int32.ofNat N)), .val (.int (Int32.ofNat M)), .unset, .unset] [(.long (Int64.ofNat (te g F M 8))), (.long (Int64.ofNat (ts g F M 8)))])
  refine w_ladd X23 D0_253 ?_
  rw [show Int64.ofNat (ts g F M 8) + Int64.ofNat (te g F M 8) = Int64.ofNat (ts g F M 9) from nL_add _ _]
  refine w_aload X23 D0_254 rfl rfl ?_
  refine w_bipush X23 D0_256 (v := (9 : Int32)) rfl ?_
  refine w_iload X23 D0_258 rfl ?_
  refine w_iload X23 D0_260 rfl ?_
  refine w_static X23 D0_262 (rm2 hw X23.sz a1 _ _ _ F M 9 g rfl rfl rfl (by decide) hF (by omega) (by omega) Bg) (hw _ (List.mem_of_getElem? (i := 6) rfl)) (hw _ (List.mem_of_getElem? (i := 7) rfl)) (hw _ (List.mem_of_getElem? (i := 8) rfl)) (hw _ (List.mem_of_getElem? (i := 9) rfl)) (by decide) pd_1 rfl (S := [(.long (Int64.ofNat (ts g F M 9)))]) rfl rfl (Nat.le_of_ble_eq_true rfl) (Nat.le_of_ble_eq_true rfl) (Nat.le_of_ble_eq_true rfl) (Nat.le_of_ble_eq_true rfl) (fun v24 T24 h24 X24 q24 => ?_)
  obtain ⟨rfl, rfl⟩ := q24
  show Wp _ _ _ _ _ _ _ _ (mkF m 265 #[.val (.long a), .second, .val (.int b), .val (.int c0), .val (.int d), .val (.ref a1), .val (.int (Int32.ofNat F)), .val (.int (Int32.ofNat N)), .val (.int (Int32.ofNat M)), .unset, .unset] [(.long (Int64.ofNat (te g F M 9))), (.long (Int64.ofNat (ts g F M 9)))])
  refine w_ladd X24 D0_265 ?_
  rw [show Int64.ofNat (ts g F M 9) + Int64.ofNat (te g F M 9) = Int64.ofNat (ts g F M 10) from nL_add _ _]
  refine w_aload X24 D0_266 rfl rfl ?_
  refine w_bipush X24 D0_268 (v := (10 : Int32)) rfl ?_
  refine w_iload X24 D0_270 rfl ?_
  refine w_iload X24 D0_272 rfl ?_
  refine w_static X24 D0_274 (rm2 hw X24.sz a1 _ _ _ F M 10 g rfl rfl rfl (by decide) hF (by omega) (by omega) Bg) (hw _ (List.mem_of_getElem? (i := 6) rfl)) (hw _ (List.mem_of_getElem? (i := 7) rfl)) (hw _ (List.mem_of_getElem? (i := 8) rfl)) (hw _ (List.mem_of_getElem? (i := 9) rfl)) (by decide) pd_1 rfl (S := [(.long (Int64.ofNat (ts g F M 10)))]) rfl rfl (Nat.le_of_ble_eq_true rfl) (Nat.le_of_ble_eq_true rfl) (Nat.le_of_ble_eq_true rfl) (Nat.le_of_ble_eq_true rfl) (fun v25 T25 h25 X25 q25 => ?_)
  obtain ⟨rfl, rfl⟩ := q25
  show Wp _ _ _ _ _ _ _ _ (mkF m 277 #[.val (.long a), .second, .val (.int b), .val (.int c0), .val (.int d), .val (.ref a1), .val (.int (Int32.ofNat F)), .val (.int (Int32.ofNat N)), .val (.int (Int32.ofNat M)), .unset, .unset] [(.long (Int64.ofNat (te g F M 10))), (.long (Int64.ofNat (ts g F M 10)))])
  refine w_ladd X25 D0_277 ?_
  rw [show Int64.ofNat (ts g F M 10) + Int64.ofNat (te g F M 10) = Int64.ofNat (ts g F M 11) from nL_add _ _]
  refine w_aload X25 D0_278 rfl rfl ?_
  refine w_bipush X25 D0_280 (v := (11 : Int32)) rfl ?_
  refine w_iload X25 D0_282 rfl ?_
  refine w_iload X25 D0_284 rfl ?_
  refine w_static X25 D0_286 (rm2 hw X25.sz a1 _ _ _ F M 11 g rfl rfl rfl (by decide) hF (by omega) (by omega) Bg) (hw _ (List.mem_of_getElem? (i := 6) rfl)) (hw _ (List.mem_of_getElem? (i := 7) rfl)) (hw _ (List.mem_of_getElem? (i := 8) rfl)) (hw _ (List.mem_of_getElem? (i := 9) rfl)) (by decide) pd_1 rfl (S := [(.long (Int64.ofNat (ts g F M 11)))]) rfl rfl (Nat.le_of_ble_eq_true rfl) (Nat.le_of_ble_eq_true rfl) (Nat.le_of_ble_eq_true rfl) (Nat.le_of_ble_eq_true rfl) (fun v26 T26 h26 X26 q26 => ?_)
  obtain ⟨rfl, rfl⟩ := q26
  show Wp _ _ _ _ _ _ _ _ (mkF m 289 #[.val (.long a), .second, .val (.int b), .val (.int c0), .val (.int d), .val (.ref a1), .val (.int (Int32.ofNat F)), .val (.int (Int32.ofNat N)), .val (.int (Int32.ofNat M)), .unset, .unset] [(.long (Int64.ofNat (te g F M 11))), (.long (Int64.ofNat (ts g F M 11)))])
  refine w_ladd X26 D0_289 ?_
  rw [show Int64.ofNat (ts g F M 11) + Int64.ofNat (te g F M 11) = Int64.ofNat (ts g F M 12) from nL_add _ _]
  refine w_lstore X26 D0_290 (l' := #[.val (.long a), .second, .val (.int b), .val (.int c0), .val (.int d), .val (.ref a1), .val (.int (Int32.ofNat F)), .val (.int (Int32.ofNat N)), .val (.int (Int32.ofNat M)), .val (.long (Int64.ofNat (ts g F M 12))), .second]) rfl ?_
  refine w_aload X26 D0_292 rfl rfl ?_
  refine w_iload X26 D0_294 rfl ?_
  refine w_iload X26 D0_296 rfl ?_
  refine w_static X26 D0_298 (rm3 hw X26.sz a1 _ _ F M g rfl rfl (by omega) (by omega) Bg) (hw _ (List.mem_of_getElem? (i := 10) rfl)) (hw _ (List.mem_of_getElem? (i := 11) rfl)) (hw _ (List.mem_of_getElem? (i := 12) rfl)) (hw _ (List.mem_of_getElem? (i := 13) rfl)) (by decide) pd_2 rfl (S := []) rfl rfl (Nat.le_of_ble_eq_true rfl) (Nat.le_of_ble_eq_true rfl) (Nat.le_of_ble_eq_true rfl) (Nat.le_of_ble_eq_true rfl) (fun v27 T27 h27 X27 q27 => ?_)
  obtain ⟨rfl, rfl⟩ := q27
  show Wp _ _ _ _ _ _ _ _ (mkF m 301 #[.val (.long a), .second, .val (.int b), .val (.int c0), .val (.int d), .val (.ref a1), .val (.int (Int32.ofNat F)), .val (.int (Int32.ofNat N)), .val (.int (Int32.ofNat M)), .val (.long (Int64.ofNat (ts g F M 12))), .second] [(.long (Int64.ofNat (rv g F (M - F))))])
  refine w_lload X27 D0_301 rfl ?_
  refine w_lcmpne X27 D0_303 D0_304 (fun hc304 => by exact absurd (congrArg Int64.ofNat (own_all g F M (by omega) (by omega) (by omega)).symm) hc304) (fun hc304 => ?_)
  refine w_iconst X27 D0_307 (v := (1 : Int32)) rfl ?_
  refine w_goto X27 D0_308 ?_
  exact w_zreturn X27 D0_312 (by decide) (by decide) (rfl)
set_option maxRecDepth 65536 in
set_option maxHeartbeats 40000000 in
theorem comes_1 {Post : Tables → Env → Array Value → State → Outcome → State → Prop} (hpost : ∀ tb e args s v u, (limb_1_1.after args s (.returned v) u = true ∧ limb_1_2.after args s (.returned v) u = true ∧ True) → FrameEnd s (.returned v) u (Jvm.fieldLocs frame_1_writes args s ++ Jvm.arrayLocs frame_1_arrays args s ++ Jvm.staticLocs frame_1_statics s) 16 128 → Post tb e args s (.returned v) u) :
    ArmFor flags0 classFile x code maxLocals ret World_1 tables_1 room_1 Calls_1 rest_1 Pre_1 Post := by
  intro l hfl _ _ p e ha hc hk s m args below hf hA hF happ hP
  obtain ⟨hcalls, hrest, hpre⟩ := hP
  obtain ⟨-, -, -, hnamed, -, -, -, hat⟩ := (Spec.applies_iff hf).mp happ
  obtain ⟨hg, hn⟩ := and_e (Cond.before_iff.mp (show (Jvm.Cond.and given_1 narrow_1).before args s = true from hpre))
  obtain ⟨hcount, g0⟩ := and_e hg
  obtain ⟨ga0, g1⟩ := and_e g0
  obtain ⟨ga1, g2⟩ := and_e g1
  obtain ⟨ga2, g3⟩ := and_e g2
  obtain ⟨w0, w1, w2, w3, rfl⟩ : ∃ w0 w1 w2 w3 : Value, args = #[w0, w1, w2, w3] := by
    have hs : args.size = 4 := by simpa [Cond.value, given_1] using hcount
    obtain ⟨L⟩ := args
    match L, hs with
    | [w0, w1, w2, w3], _ => exact ⟨w0, w1, w2, w3, rfl⟩
  have hw := fun d (hd : d ∈ tables_1) => atoms_spec (ws := Jvm.Cond.code x code maxLocals ret :: tables_1) hat d (List.mem_cons_of_mem _ hd)
  obtain ⟨i0, ei0⟩ := isL_v ga0
  obtain rfl : w0 = (.long i0) := Option.some.inj ei0
  obtain ⟨i1, ei1⟩ := is_v ga1
  obtain rfl : w1 = (.int i1) := Option.some.inj ei1
  obtain ⟨i2, ei2⟩ := is_v ga2
  obtain rfl : w2 = (.int i2) := Option.some.inj ei2
  obtain ⟨i3, ei3⟩ := is_v g3
  obtain rfl : w3 = (.int i3) := Option.some.inj ei3
  obtain ⟨n, o, h1, h2, h3, _, L, rfl, ⟨N, -, rfl⟩, hq⟩ := rm0 (l := l) (Z := s) (n0 := s.heap.size) (h := s.heap) hw (Nat.le_refl _) i0 i1 i2 i3 p e ha hc hk s m _ below hf ((Spec.applies_iff_loose hf).mp happ).1 ⟨rfl, State.Warmed39.refl s, rfl⟩ trivial
  refine ⟨n, _, h1, h2, h3, hpost _ _ _ _ _ _ ⟨Cond.after_iff.mpr rfl, Cond.after_iff.mpr (eq_i res_at (Term.int_eval (1)) rfl), trivial⟩ ⟨hq.1, hq.2.1, (hq.2.2.sift fun y hy => Or.inr (N y hy)).mono (by decide) (by decide)⟩⟩
theorem main_1_1 : Claimed_1_1 := comes_1 fun _ _ _ _ _ _ h hF => ⟨h.1, hF⟩
theorem main_1_2 : Claimed_1_2 := comes_1 fun _ _ _ _ _ _ h hF => ⟨h.2.1, hF⟩
end Jvm.Pilot.@@N@@
namespace Jvm.Pilot.@@N@@
open Jvm Jvm.ClassFile Sem Op Lib Jvm.Free Jvm.Stand Jvm.Pilot.@@N@@.Jvm.D
/-! MADE BY PROGRAM (witnessworld.py) out of the Statement's table words and the real class files: 10 classes; the members and pool entries that the words name. The judged class is class 1, her method 1. -/
namespace start1
open Jvm.ClassFile
def u (s : String) : CpInfo := .utf8 (stringToUtf16 s)
/-- a pool by its gaps: so many unusable entries, then the entry; so many at the end -/
def gap : Nat → List CpInfo → List CpInfo
  | 0, r => r
  | n + 1, r => .unusable :: gap n r
def poolList (es : List (Nat × CpInfo)) (last : Nat) : List CpInfo := es.foldr (fun e r => gap e.1 (e.2 :: r)) (gap last [])
def pool (es : List (Nat × CpInfo)) (last : Nat) : Array CpInfo := ⟨poolList es last⟩
def fileOf (pool : Array CpInfo) (this : Nat) (attrs : Array Attribute := #[]) (ms : Array MethodInfo := #[]) (fl : Nat := 33) (sup : Nat := 0) (ifs : Array Nat := #[]) (fds : Array FieldInfo := #[]) : ClassFile where
  minorVersion := 0
  majorVersion := 65
  constantPool := pool
  accessFlags := fl
  thisClass := this
  superClass := sup
  interfaces := ifs
  fields := fds
  methods := ms
  attributes := attrs
def plain (name : String) (sup : Option ClassId) : Class where
  name := name
  kind := .ordinary
  loader := none
  accessFlags := 33
  super := sup
  interfaces := #[]
  cf := none
  fields := #[]
  methods := #[]
  instanceTypes := #[]
  staticTypes := #[]
  resolved := #[]
  callSites := []
  init := .initialized
  statics := none
  mirror := none

def pool0 : Array CpInfo := pool [(5, u "<init>"), (0, u "()V"), (1, .class_ 10), (1, u "java/lang/Object")] 113

def k0m0 : Method := { name := "<init>", desc := "()V", sig := { parameters := [], returnType := none }, accessFlags := 1, code := none }
/-- java/lang/Object -/
def k0 : Class := { plain "java/lang/Object" none with
  accessFlags := 33
  interfaces := #[]
  cf := some (fileOf pool0 8 #[] #[{ accessFlags := 1, nameIndex := 5, descriptorIndex := 6, attributes := #[] }] 33 0 #[] #[])
  fields := #[]
  methods := #[k0m0]
  instanceTypes := #[]
  staticTypes := #[]
  resolved := Array.replicate 124 none
  statics := none }

def pool1 : Array CpInfo := pool [(2, .class_ 4), (1, u "java/lang/Object"), (0, u "<init>"), (0, u "()V"), (0, .integer 2147483647), (0, .methodref 9 10), (0, .class_ 11), (0, .nameAndType 12 13), (0, u "java/lang/Math"), (0, u "min"), (0, u "(II)I"), (0, .methodref 15 16), (0, .class_ 17), (0, .nameAndType 18 19), (0, u "com/example/wireproof/wireproof/value/Base128ReadLongPinLaw"), (0, u "term"), (0, u "([BIII)J"), (0, .methodref 21 22), (0, .class_ 23), (0, .nameAndType 24 25), (0, u "com/example/wireproof/wireproof/value/Base128"), (0, u "readLong"), (0, u "([BII)J"), (2, u "law"), (0, u "(JIII)Z")] 5

def k1m0 : Method := { name := "<init>", desc := "()V", sig := { parameters := [], returnType := none }, accessFlags := 2, code := none }
def k1c1 : Code := { maxStack := 6, maxLocals := 11, code := code, exceptionTable := #[], attributes := #[] }
def k1m1 : Method := { name := "law", desc := "(JIII)Z", sig := { parameters := [.long, .int, .int, .int], returnType := some .boolean }, accessFlags := 9, code := some k1c1 }
def k1c2 : Code := { maxStack := 5, maxLocals := 6, code := method_3_code, exceptionTable := #[], attributes := #[] }
def k1m2 : Method := { name := "term", desc := "([BIII)J", sig := { parameters := [(.array .byte), .int, .int, .int], returnType := some .long }, accessFlags := 10, code := some k1c2 }
/-- com/example/wireproof/wireproof/value/Base128ReadLongPinLaw -/
def k1 : Class := { plain "com/example/wireproof/wireproof/value/Base128ReadLongPinLaw" (some 0) with
  accessFlags := 49
  interfaces := #[]
  cf := some (fileOf pool1 15 #[] #[{ accessFlags := 2, nameIndex := 5, descriptorIndex := 6, attributes := #[] }, { accessFlags := 9, nameIndex := 28, descriptorIndex := 29, attributes := #[] }, { accessFlags := 10, nameIndex := 18, descriptorIndex := 19, attributes := #[] }] 49 2 #[] #[])
  fields := #[]
  methods := #[k1m0, k1m1, k1m2]
  instanceTypes := #[]
  staticTypes := #[]
  resolved := Array.replicate 35 none
  statics := none }

def pool2 : Array CpInfo := pool [(1, .class_ 2), (0, u "java/lang/Math"), (1, .class_ 6), (1, u "java/lang/Object"), (0, u "<init>"), (0, u "()V"), (89, .class_ 100), (1, u "java/lang/Math$RandomNumberGeneratorHolder"), (71, u "negativeZeroFloatBits"), (0, u "J"), (2, u "negativeZeroDoubleBits"), (24, u "min"), (43, u "$assertionsDisabled"), (0, u "Z"), (88, u "(II)I"), (2, u "twoToTheDoubleScaleDown"), (0, u "D"), (4, u "twoToTheDoubleScaleUp"), (9, u "E"), (3, u "PI"), (2, u "TAU"), (2, u "DEGREES_TO_RADIANS"), (0, u "RADIANS_TO_DEGREES")] 94

def k2m0 : Method := { name := "<init>", desc := "()V", sig := { parameters := [], returnType := none }, accessFlags := 2, code := none }
def k2c1 : Code := { maxStack := 2, maxLocals := 2, code := jdk_29_method_69_code, exceptionTable := #[], attributes := #[] }
def k2m1 : Method := { name := "min", desc := "(II)I", sig := { parameters := [.int, .int], returnType := some .int }, accessFlags := 9, code := some k2c1 }
/-- java/lang/Math -/
def k2 : Class := { plain "java/lang/Math" (some 0) with
  accessFlags := 49
  interfaces := #[]
  cf := some (fileOf pool2 1 #[.nestMembers #[98]] #[{ accessFlags := 2, nameIndex := 7, descriptorIndex := 8, attributes := #[] }, { accessFlags := 9, nameIndex := 201, descriptorIndex := 335, attributes := #[] }] 49 4 #[] #[{ accessFlags := 25, nameIndex := 354, descriptorIndex := 339, attributes := #[] }, { accessFlags := 25, nameIndex := 358, descriptorIndex := 339, attributes := #[] }, { accessFlags := 25, nameIndex := 361, descriptorIndex := 339, attributes := #[] }, { accessFlags := 26, nameIndex := 364, descriptorIndex := 339, attributes := #[] }, { accessFlags := 26, nameIndex := 365, descriptorIndex := 339, attributes := #[] }, { accessFlags := 26, nameIndex := 172, descriptorIndex := 173, attributes := #[] }, { accessFlags := 26, nameIndex := 176, descriptorIndex := 173, attributes := #[] }, { accessFlags := 8, nameIndex := 344, descriptorIndex := 339, attributes := #[] }, { accessFlags := 8, nameIndex := 338, descriptorIndex := 339, attributes := #[] }, { accessFlags := 4120, nameIndex := 245, descriptorIndex := 246, attributes := #[] }])
  fields := #[{ name := "E", type := .double, accessFlags := 25, slot := 0, constantValue := 0 }, { name := "PI", type := .double, accessFlags := 25, slot := 1, constantValue := 0 }, { name := "TAU", type := .double, accessFlags := 25, slot := 2, constantValue := 0 }, { name := "DEGREES_TO_RADIANS", type := .double, accessFlags := 26, slot := 3, constantValue := 0 }, { name := "RADIANS_TO_DEGREES", type := .double, accessFlags := 26, slot := 4, constantValue := 0 }, { name := "negativeZeroFloatBits", type := .long, accessFlags := 26, slot := 5, constantValue := 0 }, { name := "negativeZeroDoubleBits", type := .long, accessFlags := 26, slot := 6, constantValue := 0 }, { name := "twoToTheDoubleScaleUp", type := .double, accessFlags := 8, slot := 7, constantValue := 0 }, { name := "twoToTheDoubleScaleDown", type := .double, accessFlags := 8, slot := 8, constantValue := 0 }, { name := "$assertionsDisabled", type := .boolean, accessFlags := 4120, slot := 9, constantValue := 0 }]
  methods := #[k2m0, k2m1]
  instanceTypes := #[]
  staticTypes := #[.double, .double, .double, .double, .double, .long, .long, .double, .double, .boolean]
  resolved := Array.replicate 460 none
  statics := none }

def pool3 : Array CpInfo := pool [(2, .class_ 4), (1, u "java/lang/Object"), (0, u "<init>"), (0, u "()V"), (0, .class_ 8), (0, u "com/example/wireproof/wireproof/value/Base128"), (2, u "readLong"), (0, u "([BII)J"), (46, u "LONG_OCTETS"), (0, u "I")] 13

def k3m0 : Method := { name := "<init>", desc := "()V", sig := { parameters := [], returnType := none }, accessFlags := 2, code := none }
def k3c1 : Code := { maxStack := 4, maxLocals := 6, code := prog_149_method_3_code, exceptionTable := #[], attributes := #[] }
def k3m1 : Method := { name := "readLong", desc := "([BII)J", sig := { parameters := [(.array .byte), .int, .int], returnType := some .long }, accessFlags := 8, code := some k3c1 }
/-- com/example/wireproof/wireproof/value/Base128 -/
def k3 : Class := { plain "com/example/wireproof/wireproof/value/Base128" (some 0) with
  accessFlags := 48
  interfaces := #[]
  cf := some (fileOf pool3 7 #[] #[{ accessFlags := 2, nameIndex := 5, descriptorIndex := 6, attributes := #[] }, { accessFlags := 8, nameIndex := 11, descriptorIndex := 12, attributes := #[] }] 48 2 #[] #[{ accessFlags := 24, nameIndex := 59, descriptorIndex := 60, attributes := #[] }])
  fields := #[{ name := "LONG_OCTETS", type := .int, accessFlags := 24, slot := 0, constantValue := 0 }]
  methods := #[k3m0, k3m1]
  instanceTypes := #[]
  staticTypes := #[.int]
  resolved := Array.replicate 74 none
  statics := none }

def pool4 : Array CpInfo := pool [(1, u "java/lang/Cloneable"), (0, .class_ 1), (0, u "java/lang/Object"), (0, .class_ 3)] 3

/-- java/lang/Cloneable -/
def k4 : Class := { plain "java/lang/Cloneable" (some 0) with
  accessFlags := 1537
  interfaces := #[]
  cf := some (fileOf pool4 2 #[] #[] 1537 4 #[] #[])
  fields := #[]
  methods := #[]
  instanceTypes := #[]
  staticTypes := #[]
  resolved := Array.replicate 8 none
  statics := none }

def pool5 : Array CpInfo := pool [(1, u "java/io/Serializable"), (0, .class_ 1), (0, u "java/lang/Object"), (0, .class_ 3)] 3

/-- java/io/Serializable -/
def k5 : Class := { plain "java/io/Serializable" (some 0) with
  accessFlags := 1537
  interfaces := #[]
  cf := some (fileOf pool5 2 #[] #[] 1537 4 #[] #[])
  fields := #[]
  methods := #[]
  instanceTypes := #[]
  staticTypes := #[]
  resolved := Array.replicate 8 none
  statics := none }

/-- the primitive byte -/
def k6 : Class := { plain "byte" none with kind := .primitive 'B', accessFlags := 0x411 }
/-- [B -/
def k7 : Class := { plain "[B" (some 0) with kind := .array 6 .byte, interfaces := #[4, 5], accessFlags := 1041 }

/-- the primitive int -/
def k8 : Class := { plain "int" none with kind := .primitive 'I', accessFlags := 0x411 }
/-- [I -/
def k9 : Class := { plain "[I" (some 0) with kind := .array 8 .int, interfaces := #[4, 5], accessFlags := 1041 }

def heap : Heap := #[]
def classes : Array Class := #[k0, k1, k2, k3, k4, k5, k6, k7, k8, k9]
def interned : List (Array UInt16 × Addr) := []
def slotsUsed : Nat := 0
def theMethod : MethodId := ⟨1, 1⟩
def args0 : Array Value := #[.long 77, .int 5, .int 3, .int 4]
def aboutOver (below : List Frame) : State where
  vm := { classes := classes, interned := interned.toArray }
  heap := heap
  slotsUsed := slotsUsed
  threads := #[{ frames := .invoking theMethod args0 :: below }]
def below0 : List Frame := [.native { method := ⟨0, 0⟩, args := #[] }]
def about1 : State := aboutOver below0
def p0 : Program := .bare "" "" ""
def e0 : Env := launch0.env 0 0 0
theorem w_frames : about1.frames = Frame.invoking theMethod args0 :: below0 := rfl
set_option maxRecDepth 65536 in
theorem w_args : argsFit about1.vm theMethod args0 = true := by decide +kernel
set_option maxRecDepth 65536 in
theorem w_heap : heapFits about1 = true := by decide +kernel
set_option maxRecDepth 65536 in
theorem w_runnable : about1.curStatus? = some .runnable := by decide +kernel
set_option maxRecDepth 65536 in
theorem w_alone : about1.alone = true := by decide +kernel
set_option maxRecDepth 65536 in
theorem w_named : about1.methodNamed? x = some theMethod := by decide +kernel
set_option maxRecDepth 65536 in
theorem w_hears : about1.hears theMethod below0 = true := by decide +kernel
set_option maxRecDepth 65536 in
theorem w_ripe : about1.ripe theMethod args0 below0 = true := by decide +kernel
theorem w_running : about1.status = .running := rfl
set_option maxRecDepth 65536 in
theorem w_room : about1.hasRoom e0.platform room_1 = true :=
  launch0.hasRoom_least _ room_1 (by decide +kernel) (by decide +kernel) (by decide +kernel) (by decide +kernel) (by decide +kernel) (by decide +kernel)
theorem allAtoms_all (ts : List Jvm.Cond) (a : Array Jvm.Value) (st : Jvm.State) : (allAtoms ts).before a st = ts.all (fun c => c.before a st) := by
  induction ts with
  | nil => rfl
  | cons c t ih =>
    show (Jvm.Cond.and c (allAtoms t)).before a st = _
    rw [Jvm.Cond.before_and, ih, List.all_cons]
def words1 : List Jvm.Cond := Jvm.Cond.code x code maxLocals ret :: tables_1
/-- a 'code' word, met by the world's own term for the bytes: nothing is compared byte by byte -/
theorem code_word {y : MethodName} {bytes : ByteArray} {mx : Nat} {rt : Option FieldType} {a : Array Value} {s : State} {m : MethodId} {meth : Method} {c : Code} (h1 : s.methodNamed? y = some m) (h2 : s.vm.method? m = some meth) (h3 : meth.code = some c) (h4 : c.code = bytes)
    (h5 : (c.maxLocals == mx && c.exceptionTable.isEmpty && decide (c.maxStack ≤ mostOperands) && decide (meth.sig.returnType = rt) && !meth.locks && decide (parseMethodDescriptor y.desc = some meth.sig)) = true) : (Jvm.Cond.code y bytes mx rt).before a s = true := by
  simp only [Bool.and_eq_true, beq_iff_eq, Bool.not_eq_true', decide_eq_true_eq] at h5
  obtain ⟨⟨⟨⟨⟨g1, g2⟩, g3⟩, g4⟩, g5⟩, g6⟩ := h5
  simp [Cond.before, Cond.holds, Cond.value, h1, h2, h3, h4, g1, g2, g3, g4, g5, g6]
def isCode : Jvm.Cond → Bool
  | .code _ _ _ _ => true
  | _ => false
theorem all_split {L : List Jvm.Cond} {P : Jvm.Cond → Bool} (h1 : L.all (fun c => isCode c || P c) = true) (h2 : ∀ c ∈ L.filter isCode, P c = true) : L.all P = true := by
  refine List.all_eq_true.mpr fun c hc => ?_
  have h := List.all_eq_true.mp h1 c hc
  rcases Bool.eq_false_or_eq_true (isCode c) with hi | hi
  · exact h2 c (List.mem_filter.mpr ⟨hc, hi⟩)
  · simpa [hi] using h
set_option maxRecDepth 65536 in
theorem w_c0 : (Jvm.Cond.code x code maxLocals ret).before args0 about1 = true := code_word (m := ⟨1, 1⟩) (meth := k1m1) (c := k1c1) (by decide +kernel) rfl rfl rfl (by decide +kernel)
set_option maxRecDepth 65536 in
theorem w_c1 : (Jvm.Cond.code ({ cls := "java/lang/Math", name := "min", desc := "(II)I" } : Jvm.MethodName) jdk_29_method_69_code (2 : Nat) (Option.some Jvm.ClassFile.FieldType.int)).before args0 about1 = true := code_word (m := ⟨2, 1⟩) (meth := k2m1) (c := k2c1) (by decide +kernel) rfl rfl rfl (by decide +kernel)
set_option maxRecDepth 65536 in
theorem w_c2 : (Jvm.Cond.code ({ cls := "com/example/wireproof/wireproof/value/Base128ReadLongPinLaw", name := "term", desc := "([BIII)J" } : Jvm.MethodName) method_3_code (6 : Nat) (Option.some Jvm.ClassFile.FieldType.long)).before args0 about1 = true := code_word (m := ⟨1, 2⟩) (meth := k1m2) (c := k1c2) (by decide +kernel) rfl rfl rfl (by decide +kernel)
set_option maxRecDepth 65536 in
theorem w_c3 : (Jvm.Cond.code ({ cls := "com/example/wireproof/wireproof/value/Base128", name := "readLong", desc := "([BII)J" } : Jvm.MethodName) prog_149_method_3_code (6 : Nat) (Option.some Jvm.ClassFile.FieldType.long)).before args0 about1 = true := code_word (m := ⟨3, 1⟩) (meth := k3m1) (c := k3c1) (by decide +kernel) rfl rfl rfl (by decide +kernel)
def codes1 : List Jvm.Cond := [Jvm.Cond.code x code maxLocals ret, Jvm.Cond.code ({ cls := "java/lang/Math", name := "min", desc := "(II)I" } : Jvm.MethodName) jdk_29_method_69_code (2 : Nat) (Option.some Jvm.ClassFile.FieldType.int), Jvm.Cond.code ({ cls := "com/example/wireproof/wireproof/value/Base128ReadLongPinLaw", name := "term", desc := "([BIII)J" } : Jvm.MethodName) method_3_code (6 : Nat) (Option.some Jvm.ClassFile.FieldType.long), Jvm.Cond.code ({ cls := "com/example/wireproof/wireproof/value/Base128", name := "readLong", desc := "([BII)J" } : Jvm.MethodName) prog_149_method_3_code (6 : Nat) (Option.some Jvm.ClassFile.FieldType.long)]
set_option maxRecDepth 65536 in
theorem codes_eq : words1.filter isCode = codes1 := rfl
theorem w_codes : ∀ c ∈ words1.filter isCode, c.before args0 about1 = true := by
  rw [codes_eq]
  intro c hc
  simp only [codes1, List.mem_cons, List.not_mem_nil, or_false] at hc
  rcases hc with rfl | rfl | rfl | rfl
  · exact w_c0
  · exact w_c1
  · exact w_c2
  · exact w_c3
set_option maxRecDepth 65536 in
theorem w_t1 : words1.all (fun c => isCode c || c.before args0 about1) = true := by decide +kernel
theorem w_tables : (allAtoms (Jvm.Cond.code x code maxLocals ret :: tables_1)).before args0 about1 = true := by
  rw [allAtoms_all]
  show words1.all (fun c => c.before args0 about1) = true
  refine all_split ?_ w_codes
  rw [w_t1]
set_option maxRecDepth 65536 in
theorem w_case : (Jvm.Cond.and given_1 narrow_1).before args0 about1 = true := by decide +kernel
theorem w_applies : (headSpec (Jvm.Cond.code x code maxLocals ret :: tables_1) room_1).applies x e0.platform about1 = true :=
  (Spec.applies_iff w_frames).mpr ⟨w_running, w_runnable, w_alone, w_named, w_hears, w_ripe, w_room, w_tables⟩
theorem atStart : AtStart classFile x code maxLocals ret World_1 tables_1 room_1 Calls_1 rest_1 Pre_1 launch0 p0 e0 about1 theMethod args0 below0 :=
  ⟨lists_1, trivial, launch0.admits_env _ _ _, launch0.least_env, fairChoices_fair.cas, fairChoices_fair.clock, w_frames, w_args, w_heap, w_applies, trivial, trivial, w_case⟩
end start1
theorem witness_1 : WitnessClaimed_1 := ⟨start1.p0, start1.e0, start1.about1, start1.theMethod, start1.args0, start1.below0, start1.atStart⟩
end Jvm.Pilot.@@N@@
