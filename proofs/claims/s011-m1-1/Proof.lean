import JvmDerived
import JvmDerived.Pilot.@@N@@Statement
import JvmDerived.Pilot.@@N@@Code
set_option linter.unusedVariables false
set_option linter.unusedSimpArgs false
namespace Jvm.RoadKit
open Sem ClassFile Op Lib Jvm.Stand Jvm.Free Jvm.LawKit
section New
variable {p : Program} {l : Launch} {e : Env} {R : Room} {s : State} {m : MethodId} {args : Array Value} {below : List Frame} {meth : Method} {c : Code} {T : State} {locs : List Loc} {cells slots : Nat}
theorem retI (X : Stand p l e R s m args below meth c T locs cells slots) (hx : p.tables.exec = Jvm.exec) {pc : Nat} {Ls : Array Slot} {z : Int32} {rest : List Value} (hret : meth.sig.returnType = some .int) (hd : decode c.code pc = .ok (.ireturn, 1)) {fs : List Frame}
    (hl : ∀ (f : JFrame) (acts : List Action), f.method = m → f.locked = none → f.entered = [] → (doReturn e (T.setTop f) acts (some (.int z))).1 = T.setFrames fs) : Steps p.tables e below (T.setTop (mkF m pc Ls (.int z :: rest))) (T.setFrames fs) := by
  have hm' : T.vm.method? m = some meth := X.method'
  have hn : narrow .int (.int z) = .int z := rfl
  show Steps p.tables e below (T.setTop { method := m, pc := pc, locals := Ls, stack := _ :: rest, locked := none }) _
  jvm_step X.here [X.here.top, hx, hd, hm', hret, hn]
  first | (intro acts; rw [hl _ acts rfl rfl rfl]) | rw [hl _ _ rfl rfl rfl]
  exact Steps.refl _
end New
end Jvm.RoadKit
namespace Jvm.Pilot.@@N@@
open Jvm Jvm.ClassFile Sem Op Lib Jvm.Free Jvm.Stand Jvm.LawKit Jvm.RoadKit Bundle Jvm.Pilot.@@N@@.Jvm.D
section OwnKit
variable {Z : State} {a0 : Array Value} {n0 : Nat} {p : Program} {l : Launch} {e : Env} {R : Room} {s : State} {m : MethodId} {args : Array Value} {below : List Frame} {meth : Method} {c : Code} {code : ByteArray} {ml : Nat} {ret : Option FieldType} {y : MethodName} {T : State} {h h' : Heap} {k j : Nat} {Q : Option Value → Heap → Prop} {pc nx tgt : Nat} {Ls : Array Slot} {S : List Value}
/-- Java's shifts -/
abbrev jshl (x q : Int32) : Int32 := x <<< (q &&& 31)
abbrev jshr (x q : Int32) : Int32 := x >>> (q &&& 31)
abbrev jushr (x q : Int32) : Int32 := (x.toUInt32 >>> (q &&& 31).toUInt32).toInt32
abbrev jshlL (x : Int64) (q : Int32) : Int64 := x <<< (q &&& 0x3f).toInt64
abbrev jshrL (x : Int64) (q : Int32) : Int64 := x >>> (q &&& 0x3f).toInt64
abbrev jushrL (x : Int64) (q : Int32) : Int64 := (x.toUInt64 >>> (q &&& 0x3f).toInt64.toUInt64).toInt64
abbrev jbyte (x : Int32) : Int32 := x.toInt8.toInt32
/-- the instruction at pc, and the pc behind it -/
def Dec (code : ByteArray) (pc : Nat) (i : Instr) (len nx : Nat) : Prop := decode code pc = .ok (i, len) ∧ nx = pc + len
/-- a jump at pc: the pc behind it, and where it goes -/
def Jmp (code : ByteArray) (pc : Nat) (i : Instr) (o : Int) (nx tgt : Nat) : Prop := decode code pc = .ok (i, 3) ∧ nx = pc + 3 ∧ 0 ≤ (pc : Int) + o ∧ ((pc : Int) + o).toNat = tgt
/-- where a body's run stands: the heap, the cells and slots made; nothing older than n0 was written -/
def Pos (Z : State) (a0 : Array Value) (n0 : Nat) (p : Program) (l : Launch) (e : Env) (R : Room) (s : State) (m : MethodId) (args : Array Value) (below : List Frame) (meth : Method) (c : Code) (code : ByteArray) (ml : Nat) (ret : Option FieldType) (y : MethodName) (T : State) (h : Heap) (k j : Nat) : Prop :=
  p.tables.exec = Jvm.exec ∧ Z.Warmed39 s.vm ∧ c.code = code ∧ c.maxLocals = ml ∧ meth.sig.returnType = ret ∧ s.vm.findClass y.cls = some m.cls ∧ meth.name = y.name ∧ meth.locks = false ∧ T.heap = h ∧ n0 ≤ h.size ∧ (∀ d ∈ tables_1, d.before a0 Z = true) ∧ ∃ locs, Fr n0 locs ∧ Stand p l e R s m args below meth c T locs k j
/-- from the frame f over T the body comes to its end, and Q says with what -/
def Wp (n0 : Nat) (p : Program) (e : Env) (R : Room) (s : State) (below : List Frame) (Q : Option Value → Heap → Prop) (T : State) (f : JFrame) : Prop :=
  ∃ t o, Steps p.tables e below (T.setTop f) t ∧ t.status = .running ∧ Ended t below o ∧ ∃ v L, o = .returned v ∧ (Fr n0 L ∧ n0 ≤ t.heap.size ∧ Q v t.heap) ∧ FrameEnd s o t L R.cells R.slots
/-- a body's contract at one array of arguments and one heap -/
def Ctr (l : Launch) (Z : State) (n0 : Nat) (y : MethodName) (code : ByteArray) (ml : Nat) (ret : Option FieldType) (R : Room) (ws : List Jvm.Cond) (as : Array Value) (h : Heap) (Q : Option Value → Heap → Prop) : Prop :=
  MetFree l y (head1 (Jvm.Cond.code y code ml ret :: ws) R) (fun a U => a = as ∧ Z.Warmed39 U.vm ∧ U.heap = h) (fun _ _ _ _ _ => True) (fun _ U o U' => ∃ v L, o = .returned v ∧ (Fr n0 L ∧ n0 ≤ U'.heap.size ∧ Q v U'.heap) ∧ FrameEnd U o U' L R.cells R.slots)
/-- an array of n places: place i holds g i; it is no older than n0 -/
def Ba (Z : State) (n0 : Nat) (h : Heap) (a : Addr) (ty : FieldType) (n : Nat) (g : Nat → Value) : Prop :=
  n0 ≤ a ∧ n < 2147483648 ∧ ∃ c : Cell, Arr Z h a c ty ∧ c.slots.size = n ∧ ∀ i, i < n → c.slots[i]? = some (g i)
def bI (b : Nat → Int32) : Nat → Value := fun i => .int (b i)
def bJ (b : Nat → Int64) : Nat → Value := fun i => .long (b i)
def upd {α : Type} (b : Nat → α) (i : Nat) (v : α) : Nat → α := fun q => if q = i then v else b q
theorem upd_at {α : Type} (b : Nat → α) (i : Nat) (v : α) : upd b i v i = v := if_pos rfl
theorem upd_ne {α : Type} (b : Nat → α) {i q : Nat} (v : α) (h : q ≠ i) : upd b i v q = b q := if_neg h
theorem Ba.lt {a : Addr} {ty : FieldType} {n : Nat} {g : Nat → Value} (B : Ba Z n0 h a ty n g) : a < h.size := by obtain ⟨-, -, c, A, -⟩ := B; exact A.lt
theorem Ba.ext {a : Addr} {ty : FieldType} {n : Nat} {g : Nat → Value} (B : Ba Z n0 h a ty n g) (E : Ext h h') : Ba Z n0 h' a ty n g := by obtain ⟨q1, q2, c, A, r⟩ := B; exact ⟨q1, q2, c, A.ext E, r⟩
theorem Ba.keep {a : Addr} {ty : FieldType} {n : Nat} {g : Nat → Value} {ws : List Addr} (B : Ba Z n0 h a ty n g) (K : Keep h h' ws) (q : a ∉ ws) : Ba Z n0 h' a ty n g := by obtain ⟨q1, q2, c, A, r⟩ := B; exact ⟨q1, q2, c, ⟨K.2.1 a c A.1 q, A.2⟩, r⟩
theorem Ba.congr {a : Addr} {ty : FieldType} {n : Nat} {g g' : Nat → Value} (B : Ba Z n0 h a ty n g) (q : ∀ i, i < n → g i = g' i) : Ba Z n0 h a ty n g' := by obtain ⟨q1, q2, c, A, r1, r2⟩ := B; exact ⟨q1, q2, c, A, r1, fun i hi => by rw [r2 i hi, q i hi]⟩
theorem ofNat_toInt {n : Nat} (h : n < 2147483648) : (Int32.ofNat n).toInt = n := Int32.toInt_ofNat_of_lt (by omega)
theorem ofNat_clamp {n : Nat} (h : n < 2147483648) : (Int32.ofNat n).toNatClampNeg = n := by rw [Int32.toNatClampNeg, ofNat_toInt h]; rfl
theorem ofNat_nn {n : Nat} (h : n < 2147483648) : ¬ Int32.ofNat n < 0 := by rw [Int32.lt_iff_toInt_lt, ofNat_toInt h, show (0 : Int32).toInt = 0 from rfl]; omega
theorem ofNat_lt {a b : Nat} (ha : a < 2147483648) (hb : b < 2147483648) : Int32.ofNat a < Int32.ofNat b ↔ a < b := by rw [Int32.lt_iff_toInt_lt, ofNat_toInt ha, ofNat_toInt hb]; omega
theorem eq_ofNat {x : Int32} {n : Nat} (hn : n < 2147483648) (h : x.toInt = n) : x = Int32.ofNat n := Int32.toInt_inj.mp (by rw [h, ofNat_toInt hn])
theorem inb {c : Cell} {n i : Nat} (hn : n < 2147483648) (hc : c.slots.size = n) (hi : i < n) : ¬ (Int32.ofNat i < 0 ∨ c.slots.size ≤ (Int32.ofNat i).toNatClampNeg) := by
  rw [hc, ofNat_clamp (by omega)]
  exact fun q => q.elim (ofNat_nn (by omega)) (fun q => by omega)
theorem Pos.sz (X : Pos Z a0 n0 p l e R s m args below meth c code ml ret y T h k j) : n0 ≤ h.size := X.2.2.2.2.2.2.2.2.2.1
theorem Wp.go {T' : State} {f f' : JFrame} (st : ∀ target, Steps p.tables e below (T'.setTop f') target → Steps p.tables e below (T.setTop f) target) (q : Wp n0 p e R s below Q T' f') : Wp n0 p e R s below Q T f := by
  obtain ⟨t, o, h1, r⟩ := q; exact ⟨t, o, st t h1, r⟩
theorem Wp.cast {f f' : JFrame} (q : f = f') (w : Wp n0 p e R s below Q T f') : Wp n0 p e R s below Q T f := q ▸ w
theorem ctr_of {ws : List Jvm.Cond} {as : Array Value} (hp : plainFor y = true) (hw : ∀ d ∈ tables_1, d.before a0 Z = true) (hn : n0 ≤ h.size)
    (body : ∀ p e s m below meth c T, Pos Z a0 n0 p l e R s m as below meth c code ml ret y T h 0 0 → Wp n0 p e R s below Q T (entryFrame m as ml)) : Ctr l Z n0 y code ml ret R ws as h Q := by
  refine MetFree.of_bodySF hp hisR ?_
  intro p e s m args below meth c s₁ Bd hml0 hP hK
  obtain ⟨rfl, hZ, hh⟩ := hP
  exact body p e s m below meth c s₁ ⟨Bd.exec, hZ, Bd.bytes, hml0, Bd.returns, findClass_of_methodNamed Bd.named, (name_of_methodNamed Bd.named Bd.method).1, Bd.notSynchronized, by rw [← hh, Bd.state]; rfl, hn, hw, [], Fr.nil _, Stand.of_body Bd⟩
theorem w_iadd (X : Pos Z a0 n0 p l e R s m args below meth c code ml ret y T h k j) {x z : Int32} (hd : Dec code pc .iadd 1 nx) (q : Wp n0 p e R s below Q T (mkF m nx Ls (.int (x + z) :: S))) : Wp n0 p e R s below Q T (mkF m pc Ls (.int z :: .int x :: S)) := by
  obtain ⟨hx, hZ, hby, hml, hret, hown, hnm, hlk, eT, hn0, hw, locs, N, Y⟩ := X
  obtain ⟨hd, rfl⟩ := hd
  exact Wp.go (fun _ q => XS.iadd Y.here hx rfl (hb hby hd) rfl q) q
theorem w_isub (X : Pos Z a0 n0 p l e R s m args below meth c code ml ret y T h k j) {x z : Int32} (hd : Dec code pc .isub 1 nx) (q : Wp n0 p e R s below Q T (mkF m nx Ls (.int (x - z) :: S))) : Wp n0 p e R s below Q T (mkF m pc Ls (.int z :: .int x :: S)) := by
  obtain ⟨hx, hZ, hby, hml, hret, hown, hnm, hlk, eT, hn0, hw, locs, N, Y⟩ := X
  obtain ⟨hd, rfl⟩ := hd
  exact Wp.go (fun _ q => XS.isub Y.here hx rfl (hb hby hd) rfl q) q
theorem w_imul (X : Pos Z a0 n0 p l e R s m args below meth c code ml ret y T h k j) {x z : Int32} (hd : Dec code pc .imul 1 nx) (q : Wp n0 p e R s below Q T (mkF m nx Ls (.int (x * z) :: S))) : Wp n0 p e R s below Q T (mkF m pc Ls (.int z :: .int x :: S)) := by
  obtain ⟨hx, hZ, hby, hml, hret, hown, hnm, hlk, eT, hn0, hw, locs, N, Y⟩ := X
  obtain ⟨hd, rfl⟩ := hd
  exact Wp.go (fun _ q => XS.imul Y.here hx rfl (hb hby hd) rfl q) q
theorem w_iand (X : Pos Z a0 n0 p l e R s m args below meth c code ml ret y T h k j) {x z : Int32} (hd : Dec code pc .iand 1 nx) (q : Wp n0 p e R s below Q T (mkF m nx Ls (.int (x &&& z) :: S))) : Wp n0 p e R s below Q T (mkF m pc Ls (.int z :: .int x :: S)) := by
  obtain ⟨hx, hZ, hby, hml, hret, hown, hnm, hlk, eT, hn0, hw, locs, N, Y⟩ := X
  obtain ⟨hd, rfl⟩ := hd
  exact Wp.go (fun _ q => XS.iand Y.here hx rfl (hb hby hd) rfl q) q
theorem w_ior (X : Pos Z a0 n0 p l e R s m args below meth c code ml ret y T h k j) {x z : Int32} (hd : Dec code pc .ior 1 nx) (q : Wp n0 p e R s below Q T (mkF m nx Ls (.int (x ||| z) :: S))) : Wp n0 p e R s below Q T (mkF m pc Ls (.int z :: .int x :: S)) := by
  obtain ⟨hx, hZ, hby, hml, hret, hown, hnm, hlk, eT, hn0, hw, locs, N, Y⟩ := X
  obtain ⟨hd, rfl⟩ := hd
  exact Wp.go (fun _ q => XS.ior Y.here hx rfl (hb hby hd) rfl q) q
theorem w_ixor (X : Pos Z a0 n0 p l e R s m args below meth c code ml ret y T h k j) {x z : Int32} (hd : Dec code pc .ixor 1 nx) (q : Wp n0 p e R s below Q T (mkF m nx Ls (.int (x ^^^ z) :: S))) : Wp n0 p e R s below Q T (mkF m pc Ls (.int z :: .int x :: S)) := by
  obtain ⟨hx, hZ, hby, hml, hret, hown, hnm, hlk, eT, hn0, hw, locs, N, Y⟩ := X
  obtain ⟨hd, rfl⟩ := hd
  exact Wp.go (fun _ q => XS.ixor Y.here hx rfl (hb hby hd) rfl q) q
theorem w_ishl (X : Pos Z a0 n0 p l e R s m args below meth c code ml ret y T h k j) {x z : Int32} (hd : Dec code pc .ishl 1 nx) (q : Wp n0 p e R s below Q T (mkF m nx Ls (.int (jshl x z) :: S))) : Wp n0 p e R s below Q T (mkF m pc Ls (.int z :: .int x :: S)) := by
  obtain ⟨hx, hZ, hby, hml, hret, hown, hnm, hlk, eT, hn0, hw, locs, N, Y⟩ := X
  obtain ⟨hd, rfl⟩ := hd
  exact Wp.go (fun _ q => XS.ishl Y.here hx rfl (hb hby hd) rfl q) q
theorem w_ishr (X : Pos Z a0 n0 p l e R s m args below meth c code ml ret y T h k j) {x z : Int32} (hd : Dec code pc .ishr 1 nx) (q : Wp n0 p e R s below Q T (mkF m nx Ls (.int (jshr x z) :: S))) : Wp n0 p e R s below Q T (mkF m pc Ls (.int z :: .int x :: S)) := by
  obtain ⟨hx, hZ, hby, hml, hret, hown, hnm, hlk, eT, hn0, hw, locs, N, Y⟩ := X
  obtain ⟨hd, rfl⟩ := hd
  exact Wp.go (fun _ q => XS.ishr Y.here hx rfl (hb hby hd) rfl q) q
theorem w_iushr (X : Pos Z a0 n0 p l e R s m args below meth c code ml ret y T h k j) {x z : Int32} (hd : Dec code pc .iushr 1 nx) (q : Wp n0 p e R s below Q T (mkF m nx Ls (.int (jushr x z) :: S))) : Wp n0 p e R s below Q T (mkF m pc Ls (.int z :: .int x :: S)) := by
  obtain ⟨hx, hZ, hby, hml, hret, hown, hnm, hlk, eT, hn0, hw, locs, N, Y⟩ := X
  obtain ⟨hd, rfl⟩ := hd
  exact Wp.go (fun _ q => XS.iushr Y.here hx rfl (hb hby hd) rfl q) q
theorem w_ladd (X : Pos Z a0 n0 p l e R s m args below meth c code ml ret y T h k j) {x z : Int64} (hd : Dec code pc .ladd 1 nx) (q : Wp n0 p e R s below Q T (mkF m nx Ls (.long (x + z) :: S))) : Wp n0 p e R s below Q T (mkF m pc Ls (.long z :: .long x :: S)) := by
  obtain ⟨hx, hZ, hby, hml, hret, hown, hnm, hlk, eT, hn0, hw, locs, N, Y⟩ := X
  obtain ⟨hd, rfl⟩ := hd
  exact Wp.go (fun _ q => XS.ladd Y.here hx rfl (hb hby hd) rfl q) q
theorem w_lsub (X : Pos Z a0 n0 p l e R s m args below meth c code ml ret y T h k j) {x z : Int64} (hd : Dec code pc .lsub 1 nx) (q : Wp n0 p e R s below Q T (mkF m nx Ls (.long (x - z) :: S))) : Wp n0 p e R s below Q T (mkF m pc Ls (.long z :: .long x :: S)) := by
  obtain ⟨hx, hZ, hby, hml, hret, hown, hnm, hlk, eT, hn0, hw, locs, N, Y⟩ := X
  obtain ⟨hd, rfl⟩ := hd
  exact Wp.go (fun _ q => XS.lsub Y.here hx rfl (hb hby hd) rfl q) q
theorem w_lmul (X : Pos Z a0 n0 p l e R s m args below meth c code ml ret y T h k j) {x z : Int64} (hd : Dec code pc .lmul 1 nx) (q : Wp n0 p e R s below Q T (mkF m nx Ls (.long (x * z) :: S))) : Wp n0 p e R s below Q T (mkF m pc Ls (.long z :: .long x :: S)) := by
  obtain ⟨hx, hZ, hby, hml, hret, hown, hnm, hlk, eT, hn0, hw, locs, N, Y⟩ := X
  obtain ⟨hd, rfl⟩ := hd
  exact Wp.go (fun _ q => XS.lmul Y.here hx rfl (hb hby hd) rfl q) q
theorem w_land (X : Pos Z a0 n0 p l e R s m args below meth c code ml ret y T h k j) {x z : Int64} (hd : Dec code pc .land 1 nx) (q : Wp n0 p e R s below Q T (mkF m nx Ls (.long (x &&& z) :: S))) : Wp n0 p e R s below Q T (mkF m pc Ls (.long z :: .long x :: S)) := by
  obtain ⟨hx, hZ, hby, hml, hret, hown, hnm, hlk, eT, hn0, hw, locs, N, Y⟩ := X
  obtain ⟨hd, rfl⟩ := hd
  exact Wp.go (fun _ q => XS.land Y.here hx rfl (hb hby hd) rfl q) q
theorem w_lor (X : Pos Z a0 n0 p l e R s m args below meth c code ml ret y T h k j) {x z : Int64} (hd : Dec code pc .lor 1 nx) (q : Wp n0 p e R s below Q T (mkF m nx Ls (.long (x ||| z) :: S))) : Wp n0 p e R s below Q T (mkF m pc Ls (.long z :: .long x :: S)) := by
  obtain ⟨hx, hZ, hby, hml, hret, hown, hnm, hlk, eT, hn0, hw, locs, N, Y⟩ := X
  obtain ⟨hd, rfl⟩ := hd
  exact Wp.go (fun _ q => XS.lor Y.here hx rfl (hb hby hd) rfl q) q
theorem w_lxor (X : Pos Z a0 n0 p l e R s m args below meth c code ml ret y T h k j) {x z : Int64} (hd : Dec code pc .lxor 1 nx) (q : Wp n0 p e R s below Q T (mkF m nx Ls (.long (x ^^^ z) :: S))) : Wp n0 p e R s below Q T (mkF m pc Ls (.long z :: .long x :: S)) := by
  obtain ⟨hx, hZ, hby, hml, hret, hown, hnm, hlk, eT, hn0, hw, locs, N, Y⟩ := X
  obtain ⟨hd, rfl⟩ := hd
  exact Wp.go (fun _ q => XS.lxor Y.here hx rfl (hb hby hd) rfl q) q
theorem w_lshl (X : Pos Z a0 n0 p l e R s m args below meth c code ml ret y T h k j) {x : Int64} {z : Int32} (hd : Dec code pc .lshl 1 nx) (q : Wp n0 p e R s below Q T (mkF m nx Ls (.long (jshlL x z) :: S))) : Wp n0 p e R s below Q T (mkF m pc Ls (.int z :: .long x :: S)) := by
  obtain ⟨hx, hZ, hby, hml, hret, hown, hnm, hlk, eT, hn0, hw, locs, N, Y⟩ := X
  obtain ⟨hd, rfl⟩ := hd
  exact Wp.go (fun _ q => XS.lshl Y.here hx rfl (hb hby hd) rfl q) q
theorem w_lshr (X : Pos Z a0 n0 p l e R s m args below meth c code ml ret y T h k j) {x : Int64} {z : Int32} (hd : Dec code pc .lshr 1 nx) (q : Wp n0 p e R s below Q T (mkF m nx Ls (.long (jshrL x z) :: S))) : Wp n0 p e R s below Q T (mkF m pc Ls (.int z :: .long x :: S)) := by
  obtain ⟨hx, hZ, hby, hml, hret, hown, hnm, hlk, eT, hn0, hw, locs, N, Y⟩ := X
  obtain ⟨hd, rfl⟩ := hd
  exact Wp.go (fun _ q => XS.lshr Y.here hx rfl (hb hby hd) rfl q) q
theorem w_lushr (X : Pos Z a0 n0 p l e R s m args below meth c code ml ret y T h k j) {x : Int64} {z : Int32} (hd : Dec code pc .lushr 1 nx) (q : Wp n0 p e R s below Q T (mkF m nx Ls (.long (jushrL x z) :: S))) : Wp n0 p e R s below Q T (mkF m pc Ls (.int z :: .long x :: S)) := by
  obtain ⟨hx, hZ, hby, hml, hret, hown, hnm, hlk, eT, hn0, hw, locs, N, Y⟩ := X
  obtain ⟨hd, rfl⟩ := hd
  exact Wp.go (fun _ q => XS.lushr Y.here hx rfl (hb hby hd) rfl q) q
theorem w_idiv (X : Pos Z a0 n0 p l e R s m args below meth c code ml ret y T h k j) {x z : Int32} (hd : Dec code pc .idiv 1 nx) (hz : z ≠ 0) (q : Wp n0 p e R s below Q T (mkF m nx Ls (.int (x / z) :: S))) : Wp n0 p e R s below Q T (mkF m pc Ls (.int z :: .int x :: S)) := by
  obtain ⟨hx, hZ, hby, hml, hret, hown, hnm, hlk, eT, hn0, hw, locs, N, Y⟩ := X
  obtain ⟨hd, rfl⟩ := hd
  exact Wp.go (fun _ q => XS.idiv Y.here hx rfl (hb hby hd) rfl hz q) q
theorem w_irem (X : Pos Z a0 n0 p l e R s m args below meth c code ml ret y T h k j) {x z : Int32} (hd : Dec code pc .irem 1 nx) (hz : z ≠ 0) (q : Wp n0 p e R s below Q T (mkF m nx Ls (.int (x % z) :: S))) : Wp n0 p e R s below Q T (mkF m pc Ls (.int z :: .int x :: S)) := by
  obtain ⟨hx, hZ, hby, hml, hret, hown, hnm, hlk, eT, hn0, hw, locs, N, Y⟩ := X
  obtain ⟨hd, rfl⟩ := hd
  exact Wp.go (fun _ q => iremM Y hx rfl (hb hby hd) rfl hz q) q
theorem w_ldiv (X : Pos Z a0 n0 p l e R s m args below meth c code ml ret y T h k j) {x z : Int64} (hd : Dec code pc .ldiv 1 nx) (hz : z ≠ 0) (q : Wp n0 p e R s below Q T (mkF m nx Ls (.long (x / z) :: S))) : Wp n0 p e R s below Q T (mkF m pc Ls (.long z :: .long x :: S)) := by
  obtain ⟨hx, hZ, hby, hml, hret, hown, hnm, hlk, eT, hn0, hw, locs, N, Y⟩ := X
  obtain ⟨hd, rfl⟩ := hd
  exact Wp.go (fun _ q => XS.ldiv Y.here hx rfl (hb hby hd) rfl hz q) q
theorem w_lrem (X : Pos Z a0 n0 p l e R s m args below meth c code ml ret y T h k j) {x z : Int64} (hd : Dec code pc .lrem 1 nx) (hz : z ≠ 0) (q : Wp n0 p e R s below Q T (mkF m nx Ls (.long (x - (x / z) * z) :: S))) : Wp n0 p e R s below Q T (mkF m pc Ls (.long z :: .long x :: S)) := by
  obtain ⟨hx, hZ, hby, hml, hret, hown, hnm, hlk, eT, hn0, hw, locs, N, Y⟩ := X
  obtain ⟨hd, rfl⟩ := hd
  exact Wp.go (fun _ q => XS.lrem Y.here hx rfl (hb hby hd) rfl hz q) q
theorem w_ineg (X : Pos Z a0 n0 p l e R s m args below meth c code ml ret y T h k j) {x : Int32} (hd : Dec code pc .ineg 1 nx) (q : Wp n0 p e R s below Q T (mkF m nx Ls (.int (-x) :: S))) : Wp n0 p e R s below Q T (mkF m pc Ls (.int x :: S)) := by
  obtain ⟨hx, hZ, hby, hml, hret, hown, hnm, hlk, eT, hn0, hw, locs, N, Y⟩ := X
  obtain ⟨hd, rfl⟩ := hd
  exact Wp.go (fun _ q => XS.ineg Y.here hx rfl (hb hby hd) rfl q) q
theorem w_lneg (X : Pos Z a0 n0 p l e R s m args below meth c code ml ret y T h k j) {x : Int64} (hd : Dec code pc .lneg 1 nx) (q : Wp n0 p e R s below Q T (mkF m nx Ls (.long (-x) :: S))) : Wp n0 p e R s below Q T (mkF m pc Ls (.long x :: S)) := by
  obtain ⟨hx, hZ, hby, hml, hret, hown, hnm, hlk, eT, hn0, hw, locs, N, Y⟩ := X
  obtain ⟨hd, rfl⟩ := hd
  exact Wp.go (fun _ q => XS.lneg Y.here hx rfl (hb hby hd) rfl q) q
theorem w_i2l (X : Pos Z a0 n0 p l e R s m args below meth c code ml ret y T h k j) {x : Int32} (hd : Dec code pc .i2l 1 nx) (q : Wp n0 p e R s below Q T (mkF m nx Ls (.long (x.toInt64) :: S))) : Wp n0 p e R s below Q T (mkF m pc Ls (.int x :: S)) := by
  obtain ⟨hx, hZ, hby, hml, hret, hown, hnm, hlk, eT, hn0, hw, locs, N, Y⟩ := X
  obtain ⟨hd, rfl⟩ := hd
  exact Wp.go (fun _ q => XS.i2l Y.here hx rfl (hb hby hd) rfl q) q
theorem w_l2i (X : Pos Z a0 n0 p l e R s m args below meth c code ml ret y T h k j) {x : Int64} (hd : Dec code pc .l2i 1 nx) (q : Wp n0 p e R s below Q T (mkF m nx Ls (.int (x.toInt32) :: S))) : Wp n0 p e R s below Q T (mkF m pc Ls (.long x :: S)) := by
  obtain ⟨hx, hZ, hby, hml, hret, hown, hnm, hlk, eT, hn0, hw, locs, N, Y⟩ := X
  obtain ⟨hd, rfl⟩ := hd
  exact Wp.go (fun _ q => XS.l2i Y.here hx rfl (hb hby hd) rfl q) q
theorem w_i2b (X : Pos Z a0 n0 p l e R s m args below meth c code ml ret y T h k j) {x : Int32} (hd : Dec code pc .i2b 1 nx) (q : Wp n0 p e R s below Q T (mkF m nx Ls (.int (jbyte x) :: S))) : Wp n0 p e R s below Q T (mkF m pc Ls (.int x :: S)) := by
  obtain ⟨hx, hZ, hby, hml, hret, hown, hnm, hlk, eT, hn0, hw, locs, N, Y⟩ := X
  obtain ⟨hd, rfl⟩ := hd
  exact Wp.go (fun _ q => XS.i2b Y.here hx rfl (hb hby hd) rfl q) q
theorem w_iconst (X : Pos Z a0 n0 p l e R s m args below meth c code ml ret y T h k j) {i : Int} {v : Int32} (hd : Dec code pc (.iconst i) 1 nx) (hv : Int32.ofInt i = v) (q : Wp n0 p e R s below Q T (mkF m nx Ls (.int v :: S))) : Wp n0 p e R s below Q T (mkF m pc Ls S) := by
  obtain ⟨hx, hZ, hby, hml, hret, hown, hnm, hlk, eT, hn0, hw, locs, N, Y⟩ := X
  obtain ⟨hd, rfl⟩ := hd
  subst hv
  exact Wp.go (fun _ q => XS.iconst Y.here hx rfl (hb hby hd) q) q
theorem w_bipush (X : Pos Z a0 n0 p l e R s m args below meth c code ml ret y T h k j) {i : Int} {v : Int32} (hd : Dec code pc (.bipush i) 2 nx) (hv : (Int8.ofInt i).toInt32 = v) (q : Wp n0 p e R s below Q T (mkF m nx Ls (.int v :: S))) : Wp n0 p e R s below Q T (mkF m pc Ls S) := by
  obtain ⟨hx, hZ, hby, hml, hret, hown, hnm, hlk, eT, hn0, hw, locs, N, Y⟩ := X
  obtain ⟨hd, rfl⟩ := hd
  subst hv
  exact Wp.go (fun _ q => XS.bipush Y.here hx rfl (hb hby hd) q) q
theorem w_sipush (X : Pos Z a0 n0 p l e R s m args below meth c code ml ret y T h k j) {i : Int} {v : Int32} (hd : Dec code pc (.sipush i) 3 nx) (hv : (Int16.ofInt i).toInt32 = v) (q : Wp n0 p e R s below Q T (mkF m nx Ls (.int v :: S))) : Wp n0 p e R s below Q T (mkF m pc Ls S) := by
  obtain ⟨hx, hZ, hby, hml, hret, hown, hnm, hlk, eT, hn0, hw, locs, N, Y⟩ := X
  obtain ⟨hd, rfl⟩ := hd
  subst hv
  exact Wp.go (fun _ q => XS.sipush Y.here hx rfl (hb hby hd) q) q
theorem w_lconst0 (X : Pos Z a0 n0 p l e R s m args below meth c code ml ret y T h k j) (hd : Dec code pc (.lconst 0) 1 nx) (q : Wp n0 p e R s below Q T (mkF m nx Ls (.long 0 :: S))) : Wp n0 p e R s below Q T (mkF m pc Ls S) := by
  obtain ⟨hx, hZ, hby, hml, hret, hown, hnm, hlk, eT, hn0, hw, locs, N, Y⟩ := X
  obtain ⟨hd, rfl⟩ := hd
  exact Wp.go (fun _ q => XS.lconst Y.here hx rfl (hb hby hd) q) q
theorem w_lconst1 (X : Pos Z a0 n0 p l e R s m args below meth c code ml ret y T h k j) (hd : Dec code pc (.lconst 1) 1 nx) (q : Wp n0 p e R s below Q T (mkF m nx Ls (.long 1 :: S))) : Wp n0 p e R s below Q T (mkF m pc Ls S) := by
  obtain ⟨hx, hZ, hby, hml, hret, hown, hnm, hlk, eT, hn0, hw, locs, N, Y⟩ := X
  obtain ⟨hd, rfl⟩ := hd
  exact Wp.go (fun _ q => XS.lconst Y.here hx rfl (hb hby hd) q) q
theorem w_null (X : Pos Z a0 n0 p l e R s m args below meth c code ml ret y T h k j) (hd : Dec code pc .aconst_null 1 nx) (q : Wp n0 p e R s below Q T (mkF m nx Ls (.null :: S))) : Wp n0 p e R s below Q T (mkF m pc Ls S) := by
  obtain ⟨hx, hZ, hby, hml, hret, hown, hnm, hlk, eT, hn0, hw, locs, N, Y⟩ := X
  obtain ⟨hd, rfl⟩ := hd
  exact Wp.go (fun _ q => XS.aconstNull Y.here hx rfl (hb hby hd) q) q
theorem w_iloadN (X : Pos Z a0 n0 p l e R s m args below meth c code ml ret y T h k j) {w : Fin 4} {v : Int32} (hd : Dec code pc (.iload_n w) 1 nx) (hl : Ls[w.val]? = some (.val (.int v))) (q : Wp n0 p e R s below Q T (mkF m nx Ls (.int v :: S))) : Wp n0 p e R s below Q T (mkF m pc Ls S) := by
  obtain ⟨hx, hZ, hby, hml, hret, hown, hnm, hlk, eT, hn0, hw, locs, N, Y⟩ := X
  obtain ⟨hd, rfl⟩ := hd
  exact Wp.go (fun _ q => XS.iloadN Y.here hx rfl (hb hby hd) hl q) q
theorem w_iload (X : Pos Z a0 n0 p l e R s m args below meth c code ml ret y T h k j) {w : Nat} {v : Int32} (hd : Dec code pc (.iload w) 2 nx) (hl : Ls[w]? = some (.val (.int v))) (q : Wp n0 p e R s below Q T (mkF m nx Ls (.int v :: S))) : Wp n0 p e R s below Q T (mkF m pc Ls S) := by
  obtain ⟨hx, hZ, hby, hml, hret, hown, hnm, hlk, eT, hn0, hw, locs, N, Y⟩ := X
  obtain ⟨hd, rfl⟩ := hd
  exact Wp.go (fun _ q => XS.iload Y.here hx rfl (hb hby hd) hl q) q
theorem w_lloadN (X : Pos Z a0 n0 p l e R s m args below meth c code ml ret y T h k j) {w : Fin 4} {v : Int64} (hd : Dec code pc (.lload_n w) 1 nx) (hl : Ls[w.val]? = some (.val (.long v))) (q : Wp n0 p e R s below Q T (mkF m nx Ls (.long v :: S))) : Wp n0 p e R s below Q T (mkF m pc Ls S) := by
  obtain ⟨hx, hZ, hby, hml, hret, hown, hnm, hlk, eT, hn0, hw, locs, N, Y⟩ := X
  obtain ⟨hd, rfl⟩ := hd
  exact Wp.go (fun _ q => XS.lloadN Y.here hx rfl (hb hby hd) hl q) q
theorem w_lload (X : Pos Z a0 n0 p l e R s m args below meth c code ml ret y T h k j) {w : Nat} {v : Int64} (hd : Dec code pc (.lload w) 2 nx) (hl : Ls[w]? = some (.val (.long v))) (q : Wp n0 p e R s below Q T (mkF m nx Ls (.long v :: S))) : Wp n0 p e R s below Q T (mkF m pc Ls S) := by
  obtain ⟨hx, hZ, hby, hml, hret, hown, hnm, hlk, eT, hn0, hw, locs, N, Y⟩ := X
  obtain ⟨hd, rfl⟩ := hd
  exact Wp.go (fun _ q => XS.lload Y.here hx rfl (hb hby hd) hl q) q
theorem w_aloadN (X : Pos Z a0 n0 p l e R s m args below meth c code ml ret y T h k j) {w : Fin 4} {v : Value} (hd : Dec code pc (.aload_n w) 1 nx) (hl : Ls[w.val]? = some (.val v)) (hv : v.isRef = true) (q : Wp n0 p e R s below Q T (mkF m nx Ls (v :: S))) : Wp n0 p e R s below Q T (mkF m pc Ls S) := by
  obtain ⟨hx, hZ, hby, hml, hret, hown, hnm, hlk, eT, hn0, hw, locs, N, Y⟩ := X
  obtain ⟨hd, rfl⟩ := hd
  exact Wp.go (fun _ q => XS.aloadN Y.here hx rfl (hb hby hd) hl hv q) q
theorem w_astoreN (X : Pos Z a0 n0 p l e R s m args below meth c code ml ret y T h k j) {w : Fin 4} {v : Value} {l' : Array Slot} (hd : Dec code pc (.astore_n w) 1 nx) (hv : v.isRef = true) (hl : storeLocals Ls w.val v = some l') (q : Wp n0 p e R s below Q T (mkF m nx l' S)) : Wp n0 p e R s below Q T (mkF m pc Ls (v :: S)) := by
  obtain ⟨hx, hZ, hby, hml, hret, hown, hnm, hlk, eT, hn0, hw, locs, N, Y⟩ := X
  obtain ⟨hd, rfl⟩ := hd
  exact Wp.go (fun _ q => XS.astoreN Y.here hx rfl (hb hby hd) rfl hv hl q) q
theorem w_istoreN (X : Pos Z a0 n0 p l e R s m args below meth c code ml ret y T h k j) {w : Fin 4} {v : Int32} {l' : Array Slot} (hd : Dec code pc (.istore_n w) 1 nx) (hl : storeLocals Ls w.val (.int v) = some l') (q : Wp n0 p e R s below Q T (mkF m nx l' S)) : Wp n0 p e R s below Q T (mkF m pc Ls (.int v :: S)) := by
  obtain ⟨hx, hZ, hby, hml, hret, hown, hnm, hlk, eT, hn0, hw, locs, N, Y⟩ := X
  obtain ⟨hd, rfl⟩ := hd
  exact Wp.go (fun _ q => XS.istoreN Y.here hx rfl (hb hby hd) rfl hl q) q
theorem w_istoreNE (X : Pos Z a0 n0 p l e R s m args below meth c code ml ret y T h k j) {w : Fin 4} {v : Int32} {l' : Int32 → Array Slot} (hd : Dec code pc (.istore_n w) 1 nx) (hl : ∀ z, storeLocals Ls w.val (.int z) = some (l' z)) (q : ∀ z, z = v → Wp n0 p e R s below Q T (mkF m nx (l' z) S)) : Wp n0 p e R s below Q T (mkF m pc Ls (.int v :: S)) := w_istoreN X hd (hl v) (q v rfl)
theorem w_lstoreN (X : Pos Z a0 n0 p l e R s m args below meth c code ml ret y T h k j) {w : Fin 4} {v : Int64} {l' : Array Slot} (hd : Dec code pc (.lstore_n w) 1 nx) (hl : storeLocals Ls w.val (.long v) = some l') (q : Wp n0 p e R s below Q T (mkF m nx l' S)) : Wp n0 p e R s below Q T (mkF m pc Ls (.long v :: S)) := by
  obtain ⟨hx, hZ, hby, hml, hret, hown, hnm, hlk, eT, hn0, hw, locs, N, Y⟩ := X
  obtain ⟨hd, rfl⟩ := hd
  exact Wp.go (fun _ q => XS.lstoreN Y.here hx rfl (hb hby hd) rfl hl q) q
theorem w_lstoreNE (X : Pos Z a0 n0 p l e R s m args below meth c code ml ret y T h k j) {w : Fin 4} {v : Int64} {l' : Int64 → Array Slot} (hd : Dec code pc (.lstore_n w) 1 nx) (hl : ∀ z, storeLocals Ls w.val (.long z) = some (l' z)) (q : ∀ z, z = v → Wp n0 p e R s below Q T (mkF m nx (l' z) S)) : Wp n0 p e R s below Q T (mkF m pc Ls (.long v :: S)) := w_lstoreN X hd (hl v) (q v rfl)
theorem w_aload (X : Pos Z a0 n0 p l e R s m args below meth c code ml ret y T h k j) {w : Nat} {v : Value} (hd : Dec code pc (.aload w) 2 nx) (hl : Ls[w]? = some (.val v)) (hv : v.isRef = true) (q : Wp n0 p e R s below Q T (mkF m nx Ls (v :: S))) : Wp n0 p e R s below Q T (mkF m pc Ls S) := by
  obtain ⟨hx, hZ, hby, hml, hret, hown, hnm, hlk, eT, hn0, hw, locs, N, Y⟩ := X
  obtain ⟨hd, rfl⟩ := hd
  exact Wp.go (fun _ q => XS.aload Y.here hx rfl (hb hby hd) hl hv q) q
theorem w_astore (X : Pos Z a0 n0 p l e R s m args below meth c code ml ret y T h k j) {w : Nat} {v : Value} {l' : Array Slot} (hd : Dec code pc (.astore w) 2 nx) (hv : v.isRef = true) (hl : storeLocals Ls w v = some l') (q : Wp n0 p e R s below Q T (mkF m nx l' S)) : Wp n0 p e R s below Q T (mkF m pc Ls (v :: S)) := by
  obtain ⟨hx, hZ, hby, hml, hret, hown, hnm, hlk, eT, hn0, hw, locs, N, Y⟩ := X
  obtain ⟨hd, rfl⟩ := hd
  exact Wp.go (fun _ q => XS.astore Y.here hx rfl (hb hby hd) rfl hv hl q) q
theorem w_istore (X : Pos Z a0 n0 p l e R s m args below meth c code ml ret y T h k j) {w : Nat} {v : Int32} {l' : Array Slot} (hd : Dec code pc (.istore w) 2 nx) (hl : storeLocals Ls w (.int v) = some l') (q : Wp n0 p e R s below Q T (mkF m nx l' S)) : Wp n0 p e R s below Q T (mkF m pc Ls (.int v :: S)) := by
  obtain ⟨hx, hZ, hby, hml, hret, hown, hnm, hlk, eT, hn0, hw, locs, N, Y⟩ := X
  obtain ⟨hd, rfl⟩ := hd
  exact Wp.go (fun _ q => XS.istore Y.here hx rfl (hb hby hd) rfl hl q) q
theorem w_istoreE (X : Pos Z a0 n0 p l e R s m args below meth c code ml ret y T h k j) {w : Nat} {v : Int32} {l' : Int32 → Array Slot} (hd : Dec code pc (.istore w) 2 nx) (hl : ∀ z, storeLocals Ls w (.int z) = some (l' z)) (q : ∀ z, z = v → Wp n0 p e R s below Q T (mkF m nx (l' z) S)) : Wp n0 p e R s below Q T (mkF m pc Ls (.int v :: S)) := w_istore X hd (hl v) (q v rfl)
theorem w_lstore (X : Pos Z a0 n0 p l e R s m args below meth c code ml ret y T h k j) {w : Nat} {v : Int64} {l' : Array Slot} (hd : Dec code pc (.lstore w) 2 nx) (hl : storeLocals Ls w (.long v) = some l') (q : Wp n0 p e R s below Q T (mkF m nx l' S)) : Wp n0 p e R s below Q T (mkF m pc Ls (.long v :: S)) := by
  obtain ⟨hx, hZ, hby, hml, hret, hown, hnm, hlk, eT, hn0, hw, locs, N, Y⟩ := X
  obtain ⟨hd, rfl⟩ := hd
  exact Wp.go (fun _ q => XS.lstore Y.here hx rfl (hb hby hd) rfl hl q) q
theorem w_lstoreE (X : Pos Z a0 n0 p l e R s m args below meth c code ml ret y T h k j) {w : Nat} {v : Int64} {l' : Int64 → Array Slot} (hd : Dec code pc (.lstore w) 2 nx) (hl : ∀ z, storeLocals Ls w (.long z) = some (l' z)) (q : ∀ z, z = v → Wp n0 p e R s below Q T (mkF m nx (l' z) S)) : Wp n0 p e R s below Q T (mkF m pc Ls (.long v :: S)) := w_lstore X hd (hl v) (q v rfl)
theorem w_istoreNS (X : Pos Z a0 n0 p l e R s m args below meth c code ml ret y T h k j) {w : Fin 4} {v : Int32} {l' : Array Slot} {o : Slot} (hd : Dec code pc (.istore_n w) 1 nx) (hold : Ls[w.val]? = some o) (ho : One o) (hl : Ls.setIfInBounds w.val (.val (.int v)) = l') (q : Wp n0 p e R s below Q T (mkF m nx l' S)) : Wp n0 p e R s below Q T (mkF m pc Ls (.int v :: S)) := w_istoreN X hd ((XS.store1 hold ho rfl).trans (congrArg some hl)) q
theorem w_istoreS (X : Pos Z a0 n0 p l e R s m args below meth c code ml ret y T h k j) {w : Nat} {v : Int32} {l' : Array Slot} {o : Slot} (hd : Dec code pc (.istore w) 2 nx) (hold : Ls[w]? = some o) (ho : One o) (hl : Ls.setIfInBounds w (.val (.int v)) = l') (q : Wp n0 p e R s below Q T (mkF m nx l' S)) : Wp n0 p e R s below Q T (mkF m pc Ls (.int v :: S)) := w_istore X hd ((XS.store1 hold ho rfl).trans (congrArg some hl)) q
theorem w_iinc (X : Pos Z a0 n0 p l e R s m args below meth c code ml ret y T h k j) {w : Nat} {i : Int} {d v r : Int32} {l' : Array Slot} (hd : Dec code pc (.iinc w i) 3 nx) (hl : Ls[w]? = some (.val (.int v))) (hi : Int32.ofInt i = d) (hr : v + d = r) (hl' : storeLocals Ls w (.int r) = some l') (q : Wp n0 p e R s below Q T (mkF m nx l' S)) : Wp n0 p e R s below Q T (mkF m pc Ls S) := by
  obtain ⟨hx, hZ, hby, hml, hret, hown, hnm, hlk, eT, hn0, hw, locs, N, Y⟩ := X
  obtain ⟨hd, rfl⟩ := hd
  subst hi hr
  exact Wp.go (fun _ q => XS.iinc Y.here hx rfl (hb hby hd) hl hl' q) q
theorem w_dup (X : Pos Z a0 n0 p l e R s m args below meth c code ml ret y T h k j) {v : Value} (hd : Dec code pc .dup 1 nx) (hv : v.category = 1) (q : Wp n0 p e R s below Q T (mkF m nx Ls (v :: v :: S))) : Wp n0 p e R s below Q T (mkF m pc Ls (v :: S)) := by
  obtain ⟨hx, hZ, hby, hml, hret, hown, hnm, hlk, eT, hn0, hw, locs, N, Y⟩ := X
  obtain ⟨hd, rfl⟩ := hd
  exact Wp.go (fun _ q => XS.dup Y.here hx rfl (hb hby hd) rfl hv q) q
theorem w_pop (X : Pos Z a0 n0 p l e R s m args below meth c code ml ret y T h k j) {v : Value} (hd : Dec code pc .pop 1 nx) (hv : v.category = 1) (q : Wp n0 p e R s below Q T (mkF m nx Ls S)) : Wp n0 p e R s below Q T (mkF m pc Ls (v :: S)) := by
  obtain ⟨hx, hZ, hby, hml, hret, hown, hnm, hlk, eT, hn0, hw, locs, N, Y⟩ := X
  obtain ⟨hd, rfl⟩ := hd
  exact Wp.go (fun _ q => XS.pop Y.here hx rfl (hb hby hd) rfl hv q) q
theorem w_dupX1 (X : Pos Z a0 n0 p l e R s m args below meth c code ml ret y T h k j) {v w : Value} (hd : Dec code pc .dup_x1 1 nx) (hv : v.category = 1) (hw' : w.category = 1) (q : Wp n0 p e R s below Q T (mkF m nx Ls (v :: w :: v :: S))) : Wp n0 p e R s below Q T (mkF m pc Ls (v :: w :: S)) := by
  obtain ⟨hx, hZ, hby, hml, hret, hown, hnm, hlk, eT, hn0, hw, locs, N, Y⟩ := X
  obtain ⟨hd, rfl⟩ := hd
  exact Wp.go (fun _ q => XS.dupX1 Y.here hx rfl (hb hby hd) rfl hv hw' q) q
theorem w_dup2 (X : Pos Z a0 n0 p l e R s m args below meth c code ml ret y T h k j) {v w : Value} (hd : Dec code pc .dup2 1 nx) (hv : v.category = 1) (hw' : w.category = 1) (q : Wp n0 p e R s below Q T (mkF m nx Ls (v :: w :: v :: w :: S))) : Wp n0 p e R s below Q T (mkF m pc Ls (v :: w :: S)) := by
  obtain ⟨hx, hZ, hby, hml, hret, hown, hnm, hlk, eT, hn0, hw, locs, N, Y⟩ := X
  obtain ⟨hd, rfl⟩ := hd
  exact Wp.go (fun _ q => Jvm.Free.XT.dup2 Y.here hx rfl (hb hby hd) rfl hv hw' q) q
theorem w_goto (X : Pos Z a0 n0 p l e R s m args below meth c code ml ret y T h k j) {o : Int} (hd : Jmp code pc (.goto o) o nx tgt) (q : Wp n0 p e R s below Q T (mkF m tgt Ls S)) : Wp n0 p e R s below Q T (mkF m pc Ls S) := by
  obtain ⟨hx, hZ, hby, hml, hret, hown, hnm, hlk, eT, hn0, hw, locs, N, Y⟩ := X
  obtain ⟨hd, -, ho, hp⟩ := hd
  exact Wp.go (fun _ q => XS.goto Y.here hx rfl (pc0 := pc) (pc' := tgt) rfl (hb hby hd) ho hp q) q
theorem w_icmpeq (X : Pos Z a0 n0 p l e R s m args below meth c code ml ret y T h k j) {x z : Int32} {o : Int} (hd : Jmp code pc (.if_icmp .eq o) o nx tgt) (qt : x = z → Wp n0 p e R s below Q T (mkF m tgt Ls S)) (qf : ¬ x = z → Wp n0 p e R s below Q T (mkF m nx Ls S)) : Wp n0 p e R s below Q T (mkF m pc Ls (.int z :: .int x :: S)) := by
  obtain ⟨hx, hZ, hby, hml, hret, hown, hnm, hlk, eT, hn0, hw, locs, N, Y⟩ := X
  obtain ⟨hd, rfl, ho, hp⟩ := hd
  by_cases hc : x = z
  · exact Wp.go (fun _ q => XS.icmpYes Y.here hx rfl (pc0 := pc) (pc' := tgt) rfl (hb hby hd) rfl (Jvm.Free.XT.ii_eq_t hc) ho hp q) (qt hc)
  · exact Wp.go (fun _ q => XS.icmpNo Y.here hx rfl (hb hby hd) rfl (Jvm.Free.XT.ii_eq_f hc) q) (qf hc)
theorem w_ifeq (X : Pos Z a0 n0 p l e R s m args below meth c code ml ret y T h k j) {x : Int32} {o : Int} (hd : Jmp code pc (.ifCond .eq o) o nx tgt) (qt : x = 0 → Wp n0 p e R s below Q T (mkF m tgt Ls S)) (qf : ¬ x = 0 → Wp n0 p e R s below Q T (mkF m nx Ls S)) : Wp n0 p e R s below Q T (mkF m pc Ls (.int x :: S)) := by
  obtain ⟨hx, hZ, hby, hml, hret, hown, hnm, hlk, eT, hn0, hw, locs, N, Y⟩ := X
  obtain ⟨hd, rfl, ho, hp⟩ := hd
  by_cases hc : x = 0
  · exact Wp.go (fun _ q => XS.ifYes Y.here hx rfl (pc0 := pc) (pc' := tgt) rfl (hb hby hd) rfl (Jvm.Free.XT.i0_eq_t hc) ho hp q) (qt hc)
  · exact Wp.go (fun _ q => XS.ifNo Y.here hx rfl (hb hby hd) rfl (Jvm.Free.XT.i0_eq_f hc) q) (qf hc)
theorem w_lcmpeq (X : Pos Z a0 n0 p l e R s m args below meth c code ml ret y T h k j) {x z : Int64} {o : Int} {mid : Nat} (hd0 : Dec code pc .lcmp 1 mid) (hd : Jmp code mid (.ifCond .eq o) o nx tgt) (qt : x = z → Wp n0 p e R s below Q T (mkF m tgt Ls S)) (qf : ¬ x = z → Wp n0 p e R s below Q T (mkF m nx Ls S)) : Wp n0 p e R s below Q T (mkF m pc Ls (.long z :: .long x :: S)) := by
  obtain ⟨hx, hZ, hby, hml, hret, hown, hnm, hlk, eT, hn0, hw, locs, N, Y⟩ := X
  obtain ⟨hd0, rfl⟩ := hd0
  obtain ⟨hd, rfl, ho, hp⟩ := hd
  refine Wp.go (fun _ q => Jvm.Free.XT.lcmp Y.here hx rfl (hb hby hd0) rfl q) ?_
  by_cases hc : x = z
  · exact Wp.go (fun _ q => XS.ifYes Y.here hx rfl (pc0 := pc + 1) (pc' := tgt) rfl (hb hby hd) rfl (Jvm.Free.XT.ll_eq_t hc) ho hp q) (qt hc)
  · exact Wp.go (fun _ q => XS.ifNo Y.here hx rfl (hb hby hd) rfl (Jvm.Free.XT.ll_eq_f hc) q) (qf hc)
theorem w_icmpne (X : Pos Z a0 n0 p l e R s m args below meth c code ml ret y T h k j) {x z : Int32} {o : Int} (hd : Jmp code pc (.if_icmp .ne o) o nx tgt) (qt : ¬ x = z → Wp n0 p e R s below Q T (mkF m tgt Ls S)) (qf : x = z → Wp n0 p e R s below Q T (mkF m nx Ls S)) : Wp n0 p e R s below Q T (mkF m pc Ls (.int z :: .int x :: S)) := by
  obtain ⟨hx, hZ, hby, hml, hret, hown, hnm, hlk, eT, hn0, hw, locs, N, Y⟩ := X
  obtain ⟨hd, rfl, ho, hp⟩ := hd
  by_cases hc : x = z
  · exact Wp.go (fun _ q => XS.icmpNo Y.here hx rfl (hb hby hd) rfl (Jvm.Free.XT.ii_ne_f hc) q) (qf hc)
  · exact Wp.go (fun _ q => XS.icmpYes Y.here hx rfl (pc0 := pc) (pc' := tgt) rfl (hb hby hd) rfl (Jvm.Free.XT.ii_ne_t hc) ho hp q) (qt hc)
theorem w_ifne (X : Pos Z a0 n0 p l e R s m args below meth c code ml ret y T h k j) {x : Int32} {o : Int} (hd : Jmp code pc (.ifCond .ne o) o nx tgt) (qt : ¬ x = 0 → Wp n0 p e R s below Q T (mkF m tgt Ls S)) (qf : x = 0 → Wp n0 p e R s below Q T (mkF m nx Ls S)) : Wp n0 p e R s below Q T (mkF m pc Ls (.int x :: S)) := by
  obtain ⟨hx, hZ, hby, hml, hret, hown, hnm, hlk, eT, hn0, hw, locs, N, Y⟩ := X
  obtain ⟨hd, rfl, ho, hp⟩ := hd
  by_cases hc : x = 0
  · exact Wp.go (fun _ q => XS.ifNo Y.here hx rfl (hb hby hd) rfl (Jvm.Free.XT.i0_ne_f hc) q) (qf hc)
  · exact Wp.go (fun _ q => XS.ifYes Y.here hx rfl (pc0 := pc) (pc' := tgt) rfl (hb hby hd) rfl (Jvm.Free.XT.i0_ne_t hc) ho hp q) (qt hc)
theorem w_lcmpne (X : Pos Z a0 n0 p l e R s m args below meth c code ml ret y T h k j) {x z : Int64} {o : Int} {mid : Nat} (hd0 : Dec code pc .lcmp 1 mid) (hd : Jmp code mid (.ifCond .ne o) o nx tgt) (qt : ¬ x = z → Wp n0 p e R s below Q T (mkF m tgt Ls S)) (qf : x = z → Wp n0 p e R s below Q T (mkF m nx Ls S)) : Wp n0 p e R s below Q T (mkF m pc Ls (.long z :: .long x :: S)) := by
  obtain ⟨hx, hZ, hby, hml, hret, hown, hnm, hlk, eT, hn0, hw, locs, N, Y⟩ := X
  obtain ⟨hd0, rfl⟩ := hd0
  obtain ⟨hd, rfl, ho, hp⟩ := hd
  refine Wp.go (fun _ q => Jvm.Free.XT.lcmp Y.here hx rfl (hb hby hd0) rfl q) ?_
  by_cases hc : x = z
  · exact Wp.go (fun _ q => XS.ifNo Y.here hx rfl (hb hby hd) rfl (Jvm.Free.XT.ll_ne_f hc) q) (qf hc)
  · exact Wp.go (fun _ q => XS.ifYes Y.here hx rfl (pc0 := pc + 1) (pc' := tgt) rfl (hb hby hd) rfl (Jvm.Free.XT.ll_ne_t hc) ho hp q) (qt hc)
theorem w_icmplt (X : Pos Z a0 n0 p l e R s m args below meth c code ml ret y T h k j) {x z : Int32} {o : Int} (hd : Jmp code pc (.if_icmp .lt o) o nx tgt) (qt : x < z → Wp n0 p e R s below Q T (mkF m tgt Ls S)) (qf : ¬ x < z → Wp n0 p e R s below Q T (mkF m nx Ls S)) : Wp n0 p e R s below Q T (mkF m pc Ls (.int z :: .int x :: S)) := by
  obtain ⟨hx, hZ, hby, hml, hret, hown, hnm, hlk, eT, hn0, hw, locs, N, Y⟩ := X
  obtain ⟨hd, rfl, ho, hp⟩ := hd
  by_cases hc : x < z
  · exact Wp.go (fun _ q => XS.icmpYes Y.here hx rfl (pc0 := pc) (pc' := tgt) rfl (hb hby hd) rfl (Jvm.Free.XT.ii_lt_t hc) ho hp q) (qt hc)
  · exact Wp.go (fun _ q => XS.icmpNo Y.here hx rfl (hb hby hd) rfl (Jvm.Free.XT.ii_lt_f hc) q) (qf hc)
theorem w_iflt (X : Pos Z a0 n0 p l e R s m args below meth c code ml ret y T h k j) {x : Int32} {o : Int} (hd : Jmp code pc (.ifCond .lt o) o nx tgt) (qt : x < 0 → Wp n0 p e R s below Q T (mkF m tgt Ls S)) (qf : ¬ x < 0 → Wp n0 p e R s below Q T (mkF m nx Ls S)) : Wp n0 p e R s below Q T (mkF m pc Ls (.int x :: S)) := by
  obtain ⟨hx, hZ, hby, hml, hret, hown, hnm, hlk, eT, hn0, hw, locs, N, Y⟩ := X
  obtain ⟨hd, rfl, ho, hp⟩ := hd
  by_cases hc : x < 0
  · exact Wp.go (fun _ q => XS.ifYes Y.here hx rfl (pc0 := pc) (pc' := tgt) rfl (hb hby hd) rfl (Jvm.Free.XT.i0_lt_t hc) ho hp q) (qt hc)
  · exact Wp.go (fun _ q => XS.ifNo Y.here hx rfl (hb hby hd) rfl (Jvm.Free.XT.i0_lt_f hc) q) (qf hc)
theorem w_lcmplt (X : Pos Z a0 n0 p l e R s m args below meth c code ml ret y T h k j) {x z : Int64} {o : Int} {mid : Nat} (hd0 : Dec code pc .lcmp 1 mid) (hd : Jmp code mid (.ifCond .lt o) o nx tgt) (qt : x < z → Wp n0 p e R s below Q T (mkF m tgt Ls S)) (qf : ¬ x < z → Wp n0 p e R s below Q T (mkF m nx Ls S)) : Wp n0 p e R s below Q T (mkF m pc Ls (.long z :: .long x :: S)) := by
  obtain ⟨hx, hZ, hby, hml, hret, hown, hnm, hlk, eT, hn0, hw, locs, N, Y⟩ := X
  obtain ⟨hd0, rfl⟩ := hd0
  obtain ⟨hd, rfl, ho, hp⟩ := hd
  refine Wp.go (fun _ q => Jvm.Free.XT.lcmp Y.here hx rfl (hb hby hd0) rfl q) ?_
  by_cases hc : x < z
  · exact Wp.go (fun _ q => XS.ifYes Y.here hx rfl (pc0 := pc + 1) (pc' := tgt) rfl (hb hby hd) rfl (Jvm.Free.XT.ll_lt_t hc) ho hp q) (qt hc)
  · exact Wp.go (fun _ q => XS.ifNo Y.here hx rfl (hb hby hd) rfl (Jvm.Free.XT.ll_lt_f hc) q) (qf hc)
theorem w_icmpge (X : Pos Z a0 n0 p l e R s m args below meth c code ml ret y T h k j) {x z : Int32} {o : Int} (hd : Jmp code pc (.if_icmp .ge o) o nx tgt) (qt : ¬ x < z → Wp n0 p e R s below Q T (mkF m tgt Ls S)) (qf : x < z → Wp n0 p e R s below Q T (mkF m nx Ls S)) : Wp n0 p e R s below Q T (mkF m pc Ls (.int z :: .int x :: S)) := by
  obtain ⟨hx, hZ, hby, hml, hret, hown, hnm, hlk, eT, hn0, hw, locs, N, Y⟩ := X
  obtain ⟨hd, rfl, ho, hp⟩ := hd
  by_cases hc : x < z
  · exact Wp.go (fun _ q => XS.icmpNo Y.here hx rfl (hb hby hd) rfl (Jvm.Free.XT.ii_ge_f hc) q) (qf hc)
  · exact Wp.go (fun _ q => XS.icmpYes Y.here hx rfl (pc0 := pc) (pc' := tgt) rfl (hb hby hd) rfl (Jvm.Free.XT.ii_ge_t hc) ho hp q) (qt hc)
theorem w_ifge (X : Pos Z a0 n0 p l e R s m args below meth c code ml ret y T h k j) {x : Int32} {o : Int} (hd : Jmp code pc (.ifCond .ge o) o nx tgt) (qt : ¬ x < 0 → Wp n0 p e R s below Q T (mkF m tgt Ls S)) (qf : x < 0 → Wp n0 p e R s below Q T (mkF m nx Ls S)) : Wp n0 p e R s below Q T (mkF m pc Ls (.int x :: S)) := by
  obtain ⟨hx, hZ, hby, hml, hret, hown, hnm, hlk, eT, hn0, hw, locs, N, Y⟩ := X
  obtain ⟨hd, rfl, ho, hp⟩ := hd
  by_cases hc : x < 0
  · exact Wp.go (fun _ q => XS.ifNo Y.here hx rfl (hb hby hd) rfl (Jvm.Free.XT.i0_ge_f hc) q) (qf hc)
  · exact Wp.go (fun _ q => XS.ifYes Y.here hx rfl (pc0 := pc) (pc' := tgt) rfl (hb hby hd) rfl (Jvm.Free.XT.i0_ge_t hc) ho hp q) (qt hc)
theorem w_lcmpge (X : Pos Z a0 n0 p l e R s m args below meth c code ml ret y T h k j) {x z : Int64} {o : Int} {mid : Nat} (hd0 : Dec code pc .lcmp 1 mid) (hd : Jmp code mid (.ifCond .ge o) o nx tgt) (qt : ¬ x < z → Wp n0 p e R s below Q T (mkF m tgt Ls S)) (qf : x < z → Wp n0 p e R s below Q T (mkF m nx Ls S)) : Wp n0 p e R s below Q T (mkF m pc Ls (.long z :: .long x :: S)) := by
  obtain ⟨hx, hZ, hby, hml, hret, hown, hnm, hlk, eT, hn0, hw, locs, N, Y⟩ := X
  obtain ⟨hd0, rfl⟩ := hd0
  obtain ⟨hd, rfl, ho, hp⟩ := hd
  refine Wp.go (fun _ q => Jvm.Free.XT.lcmp Y.here hx rfl (hb hby hd0) rfl q) ?_
  by_cases hc : x < z
  · exact Wp.go (fun _ q => XS.ifNo Y.here hx rfl (hb hby hd) rfl (Jvm.Free.XT.ll_ge_f hc) q) (qf hc)
  · exact Wp.go (fun _ q => XS.ifYes Y.here hx rfl (pc0 := pc + 1) (pc' := tgt) rfl (hb hby hd) rfl (Jvm.Free.XT.ll_ge_t hc) ho hp q) (qt hc)
theorem w_icmpgt (X : Pos Z a0 n0 p l e R s m args below meth c code ml ret y T h k j) {x z : Int32} {o : Int} (hd : Jmp code pc (.if_icmp .gt o) o nx tgt) (qt : z < x → Wp n0 p e R s below Q T (mkF m tgt Ls S)) (qf : ¬ z < x → Wp n0 p e R s below Q T (mkF m nx Ls S)) : Wp n0 p e R s below Q T (mkF m pc Ls (.int z :: .int x :: S)) := by
  obtain ⟨hx, hZ, hby, hml, hret, hown, hnm, hlk, eT, hn0, hw, locs, N, Y⟩ := X
  obtain ⟨hd, rfl, ho, hp⟩ := hd
  by_cases hc : z < x
  · exact Wp.go (fun _ q => XS.icmpYes Y.here hx rfl (pc0 := pc) (pc' := tgt) rfl (hb hby hd) rfl (Jvm.Free.XT.ii_gt_t hc) ho hp q) (qt hc)
  · exact Wp.go (fun _ q => XS.icmpNo Y.here hx rfl (hb hby hd) rfl (Jvm.Free.XT.ii_gt_f hc) q) (qf hc)
theorem w_ifgt (X : Pos Z a0 n0 p l e R s m args below meth c code ml ret y T h k j) {x : Int32} {o : Int} (hd : Jmp code pc (.ifCond .gt o) o nx tgt) (qt : 0 < x → Wp n0 p e R s below Q T (mkF m tgt Ls S)) (qf : ¬ 0 < x → Wp n0 p e R s below Q T (mkF m nx Ls S)) : Wp n0 p e R s below Q T (mkF m pc Ls (.int x :: S)) := by
  obtain ⟨hx, hZ, hby, hml, hret, hown, hnm, hlk, eT, hn0, hw, locs, N, Y⟩ := X
  obtain ⟨hd, rfl, ho, hp⟩ := hd
  by_cases hc : 0 < x
  · exact Wp.go (fun _ q => XS.ifYes Y.here hx rfl (pc0 := pc) (pc' := tgt) rfl (hb hby hd) rfl (Jvm.Free.XT.i0_gt_t hc) ho hp q) (qt hc)
  · exact Wp.go (fun _ q => XS.ifNo Y.here hx rfl (hb hby hd) rfl (Jvm.Free.XT.i0_gt_f hc) q) (qf hc)
theorem w_lcmpgt (X : Pos Z a0 n0 p l e R s m args below meth c code ml ret y T h k j) {x z : Int64} {o : Int} {mid : Nat} (hd0 : Dec code pc .lcmp 1 mid) (hd : Jmp code mid (.ifCond .gt o) o nx tgt) (qt : z < x → Wp n0 p e R s below Q T (mkF m tgt Ls S)) (qf : ¬ z < x → Wp n0 p e R s below Q T (mkF m nx Ls S)) : Wp n0 p e R s below Q T (mkF m pc Ls (.long z :: .long x :: S)) := by
  obtain ⟨hx, hZ, hby, hml, hret, hown, hnm, hlk, eT, hn0, hw, locs, N, Y⟩ := X
  obtain ⟨hd0, rfl⟩ := hd0
  obtain ⟨hd, rfl, ho, hp⟩ := hd
  refine Wp.go (fun _ q => Jvm.Free.XT.lcmp Y.here hx rfl (hb hby hd0) rfl q) ?_
  by_cases hc : z < x
  · exact Wp.go (fun _ q => XS.ifYes Y.here hx rfl (pc0 := pc + 1) (pc' := tgt) rfl (hb hby hd) rfl (Jvm.Free.XT.ll_gt_t hc) ho hp q) (qt hc)
  · exact Wp.go (fun _ q => XS.ifNo Y.here hx rfl (hb hby hd) rfl (Jvm.Free.XT.ll_gt_f hc) q) (qf hc)
theorem w_icmple (X : Pos Z a0 n0 p l e R s m args below meth c code ml ret y T h k j) {x z : Int32} {o : Int} (hd : Jmp code pc (.if_icmp .le o) o nx tgt) (qt : ¬ z < x → Wp n0 p e R s below Q T (mkF m tgt Ls S)) (qf : z < x → Wp n0 p e R s below Q T (mkF m nx Ls S)) : Wp n0 p e R s below Q T (mkF m pc Ls (.int z :: .int x :: S)) := by
  obtain ⟨hx, hZ, hby, hml, hret, hown, hnm, hlk, eT, hn0, hw, locs, N, Y⟩ := X
  obtain ⟨hd, rfl, ho, hp⟩ := hd
  by_cases hc : z < x
  · exact Wp.go (fun _ q => XS.icmpNo Y.here hx rfl (hb hby hd) rfl (Jvm.Free.XT.ii_le_f hc) q) (qf hc)
  · exact Wp.go (fun _ q => XS.icmpYes Y.here hx rfl (pc0 := pc) (pc' := tgt) rfl (hb hby hd) rfl (Jvm.Free.XT.ii_le_t hc) ho hp q) (qt hc)
theorem w_ifle (X : Pos Z a0 n0 p l e R s m args below meth c code ml ret y T h k j) {x : Int32} {o : Int} (hd : Jmp code pc (.ifCond .le o) o nx tgt) (qt : ¬ 0 < x → Wp n0 p e R s below Q T (mkF m tgt Ls S)) (qf : 0 < x → Wp n0 p e R s below Q T (mkF m nx Ls S)) : Wp n0 p e R s below Q T (mkF m pc Ls (.int x :: S)) := by
  obtain ⟨hx, hZ, hby, hml, hret, hown, hnm, hlk, eT, hn0, hw, locs, N, Y⟩ := X
  obtain ⟨hd, rfl, ho, hp⟩ := hd
  by_cases hc : 0 < x
  · exact Wp.go (fun _ q => XS.ifNo Y.here hx rfl (hb hby hd) rfl (Jvm.Free.XT.i0_le_f hc) q) (qf hc)
  · exact Wp.go (fun _ q => XS.ifYes Y.here hx rfl (pc0 := pc) (pc' := tgt) rfl (hb hby hd) rfl (Jvm.Free.XT.i0_le_t hc) ho hp q) (qt hc)
theorem w_lcmple (X : Pos Z a0 n0 p l e R s m args below meth c code ml ret y T h k j) {x z : Int64} {o : Int} {mid : Nat} (hd0 : Dec code pc .lcmp 1 mid) (hd : Jmp code mid (.ifCond .le o) o nx tgt) (qt : ¬ z < x → Wp n0 p e R s below Q T (mkF m tgt Ls S)) (qf : z < x → Wp n0 p e R s below Q T (mkF m nx Ls S)) : Wp n0 p e R s below Q T (mkF m pc Ls (.long z :: .long x :: S)) := by
  obtain ⟨hx, hZ, hby, hml, hret, hown, hnm, hlk, eT, hn0, hw, locs, N, Y⟩ := X
  obtain ⟨hd0, rfl⟩ := hd0
  obtain ⟨hd, rfl, ho, hp⟩ := hd
  refine Wp.go (fun _ q => Jvm.Free.XT.lcmp Y.here hx rfl (hb hby hd0) rfl q) ?_
  by_cases hc : z < x
  · exact Wp.go (fun _ q => XS.ifNo Y.here hx rfl (hb hby hd) rfl (Jvm.Free.XT.ll_le_f hc) q) (qf hc)
  · exact Wp.go (fun _ q => XS.ifYes Y.here hx rfl (pc0 := pc + 1) (pc' := tgt) rfl (hb hby hd) rfl (Jvm.Free.XT.ll_le_t hc) ho hp q) (qt hc)
theorem w_ldc (X : Pos Z a0 n0 p l e R s m args below meth c code ml ret y T h k j) {i : Nat} {v : Int32} (hd : Dec code pc (.ldc i) 2 nx) (wc : (Jvm.Cond.constant y.cls i v).before a0 Z = true) (q : Wp n0 p e R s below Q T (mkF m nx Ls (.int v :: S))) : Wp n0 p e R s below Q T (mkF m pc Ls S) := by
  obtain ⟨hx, hZ, hby, hml, hret, hown, hnm, hlk, eT, hn0, hw, locs, N, Y⟩ := X
  obtain ⟨hd, rfl⟩ := hd
  exact Wp.go (Y.ldcInt hx hown (mvT hZ wc) rfl (hb hby hd)) q
theorem w_ldc2 (X : Pos Z a0 n0 p l e R s m args below meth c code ml ret y T h k j) {i : Nat} {v : Int64} (hd : Dec code pc (.ldc2_w i) 3 nx) (wc : (Jvm.Cond.constantLong y.cls i v).before a0 Z = true) (q : Wp n0 p e R s below Q T (mkF m nx Ls (.long v :: S))) : Wp n0 p e R s below Q T (mkF m pc Ls S) := by
  obtain ⟨hx, hZ, hby, hml, hret, hown, hnm, hlk, eT, hn0, hw, locs, N, Y⟩ := X
  obtain ⟨hd, rfl⟩ := hd
  exact Wp.go (Y.ldc2Long hx hown (mvT hZ wc) rfl (hb hby hd)) q
theorem w_ldcw (X : Pos Z a0 n0 p l e R s m args below meth c code ml ret y T h k j) {i : Nat} {v : Int32} (hd : Dec code pc (.ldc_w i) 3 nx) (wc : (Jvm.Cond.constant y.cls i v).before a0 Z = true) (q : Wp n0 p e R s below Q T (mkF m nx Ls (.int v :: S))) : Wp n0 p e R s below Q T (mkF m pc Ls S) := by
  obtain ⟨hx, hZ, hby, hml, hret, hown, hnm, hlk, eT, hn0, hw, locs, N, Y⟩ := X
  obtain ⟨hd, rfl⟩ := hd
  exact Wp.go (Y.ldcwInt hx hown (mvT hZ wc) rfl (hb hby hd)) q
theorem w_wiinc (X : Pos Z a0 n0 p l e R s m args below meth c code ml ret y T h k j) {w : Nat} {i : Int} {d v r : Int32} {l' : Array Slot} (hd : Dec code pc (.iinc w i) 6 nx) (hl : Ls[w]? = some (.val (.int v))) (hi : Int32.ofInt i = d) (hr : v + d = r) (hl' : storeLocals Ls w (.int r) = some l') (q : Wp n0 p e R s below Q T (mkF m nx l' S)) : Wp n0 p e R s below Q T (mkF m pc Ls S) := by
  obtain ⟨hx, hZ, hby, hml, hret, hown, hnm, hlk, eT, hn0, hw, locs, N, Y⟩ := X
  obtain ⟨hd, rfl⟩ := hd
  subst hi hr
  refine Wp.go (fun _ q => ?_) q
  have hd' := hb hby hd
  have h := Y.here
  jvm_step h [h.top, hx, hd', hl, hl']
  exact q
theorem w_ireturn (X : Pos Z a0 n0 p l e R s m args below meth c code ml (some .int) y T h k j) {z : Int32} (hd : Dec code pc .ireturn 1 nx) (hk : k ≤ R.cells) (hj : j ≤ R.slots) (hq : Q (some (.int z)) h) : Wp n0 p e R s below Q T (mkF m pc Ls (.int z :: S)) := by
  obtain ⟨hx, hZ, hby, hml, hret, hown, hnm, hlk, eT, hn0, hw, locs, N, Y⟩ := X
  obtain ⟨hd, -⟩ := hd
  obtain ⟨fs, hr, hrun, hended, hW, hsame⟩ := Y.leave (v := (some (.int z))) (fun h => by rw [hret] at h; cases h) hlk
  exact ⟨_, _, retI Y hx hret (hb hby hd) hr, hrun, hended, _, _, rfl, ⟨N, by show n0 ≤ T.heap.size; rw [eT]; exact hn0, by show Q _ T.heap; rw [eT]; exact hq⟩, ⟨_, rfl⟩, hW, hsame.mono hk hj⟩
theorem w_breturn (X : Pos Z a0 n0 p l e R s m args below meth c code ml (some .byte) y T h k j) {z : Int32} (hd : Dec code pc .ireturn 1 nx) (hk : k ≤ R.cells) (hj : j ≤ R.slots) (hq : Q (some (.int (nar .byte z))) h) : Wp n0 p e R s below Q T (mkF m pc Ls (.int z :: S)) := by
  obtain ⟨hx, hZ, hby, hml, hret, hown, hnm, hlk, eT, hn0, hw, locs, N, Y⟩ := X
  obtain ⟨hd, -⟩ := hd
  obtain ⟨fs, hr, hrun, hended, hW, hsame⟩ := Y.leave (v := (some (.int (nar .byte z)))) (fun h => by rw [hret] at h; cases h) hlk
  exact ⟨_, _, retN Y hx (t := .byte) hret (by simp) (hb hby hd) hr, hrun, hended, _, _, rfl, ⟨N, by show n0 ≤ T.heap.size; rw [eT]; exact hn0, by show Q _ T.heap; rw [eT]; exact hq⟩, ⟨_, rfl⟩, hW, hsame.mono hk hj⟩
theorem w_zreturn (X : Pos Z a0 n0 p l e R s m args below meth c code ml (some .boolean) y T h k j) {z : Int32} (hd : Dec code pc .ireturn 1 nx) (hk : k ≤ R.cells) (hj : j ≤ R.slots) (hq : Q (some (.int (nar .boolean z))) h) : Wp n0 p e R s below Q T (mkF m pc Ls (.int z :: S)) := by
  obtain ⟨hx, hZ, hby, hml, hret, hown, hnm, hlk, eT, hn0, hw, locs, N, Y⟩ := X
  obtain ⟨hd, -⟩ := hd
  obtain ⟨fs, hr, hrun, hended, hW, hsame⟩ := Y.leave (v := (some (.int (nar .boolean z)))) (fun h => by rw [hret] at h; cases h) hlk
  exact ⟨_, _, retN Y hx (t := .boolean) hret (by simp) (hb hby hd) hr, hrun, hended, _, _, rfl, ⟨N, by show n0 ≤ T.heap.size; rw [eT]; exact hn0, by show Q _ T.heap; rw [eT]; exact hq⟩, ⟨_, rfl⟩, hW, hsame.mono hk hj⟩
theorem w_lreturn (X : Pos Z a0 n0 p l e R s m args below meth c code ml (some .long) y T h k j) {z : Int64} (hd : Dec code pc .lreturn 1 nx) (hk : k ≤ R.cells) (hj : j ≤ R.slots) (hq : Q (some (.long z)) h) : Wp n0 p e R s below Q T (mkF m pc Ls [.long z]) := by
  obtain ⟨hx, hZ, hby, hml, hret, hown, hnm, hlk, eT, hn0, hw, locs, N, Y⟩ := X
  obtain ⟨hd, -⟩ := hd
  obtain ⟨fs, hr, hrun, hended, hW, hsame⟩ := Y.leave (v := (some (.long z))) (fun h => by rw [hret] at h; cases h) hlk
  exact ⟨_, _, Y.lreturnOut hx hret (hb hby hd) hr, hrun, hended, _, _, rfl, ⟨N, by show n0 ≤ T.heap.size; rw [eT]; exact hn0, by show Q _ T.heap; rw [eT]; exact hq⟩, ⟨_, rfl⟩, hW, hsame.mono hk hj⟩
theorem w_return (X : Pos Z a0 n0 p l e R s m args below meth c code ml none y T h k j)  (hd : Dec code pc .return_ 1 nx) (hk : k ≤ R.cells) (hj : j ≤ R.slots) (hq : Q none h) : Wp n0 p e R s below Q T (mkF m pc Ls []) := by
  obtain ⟨hx, hZ, hby, hml, hret, hown, hnm, hlk, eT, hn0, hw, locs, N, Y⟩ := X
  obtain ⟨hd, -⟩ := hd
  obtain ⟨fs, hr, hrun, hended, hW, hsame⟩ := Y.leave (v := none) (fun _ => rfl) hlk
  exact ⟨_, _, Y.returnOut hx hret (hb hby hd) hr, hrun, hended, _, _, rfl, ⟨N, by show n0 ≤ T.heap.size; rw [eT]; exact hn0, by show Q _ T.heap; rw [eT]; exact hq⟩, ⟨_, rfl⟩, hW, hsame.mono hk hj⟩
theorem w_arraylength (X : Pos Z a0 n0 p l e R s m args below meth c code ml ret y T h k j) {a : Addr} {ty : FieldType} {n : Nat} {g : Nat → Value} (hd : Dec code pc .arraylength 1 nx) (B : Ba Z n0 h a ty n g) (q : Wp n0 p e R s below Q T (mkF m nx Ls (.int (Int32.ofNat n) :: S))) : Wp n0 p e R s below Q T (mkF m pc Ls (.ref a :: S)) := by
  obtain ⟨hx, hZ, hby, hml, hret, hown, hnm, hlk, eT, hn0, hw, locs, N, Y⟩ := X
  obtain ⟨hd, rfl⟩ := hd
  obtain ⟨-, hn, cl, A, hs, -⟩ := B
  subst hs
  exact Wp.go (fun _ q => Y.arraylength hx (g := mkF m pc Ls (.ref a :: S)) (cell := cl) (by rw [eT]; exact A.1) (State.isArrayOf_alike hZ.alike A.2.1) rfl rfl (hb hby hd) _ q) q
theorem w_baload (X : Pos Z a0 n0 p l e R s m args below meth c code ml ret y T h k j) {a : Addr} {n : Nat} {b : Nat → Int32} {x : Int32} (hd : Dec code pc .baload 1 nx) (B : Ba Z n0 h a .byte n (bI b)) (i : Nat) (hi : x = Int32.ofNat i) (hlt : i < n) (q : Wp n0 p e R s below Q T (mkF m nx Ls (.int (b i) :: S))) : Wp n0 p e R s below Q T (mkF m pc Ls (.int x :: .ref a :: S)) := by
  obtain ⟨hx, hZ, hby, hml, hret, hown, hnm, hlk, eT, hn0, hw, locs, N, Y⟩ := X
  obtain ⟨hd, rfl⟩ := hd
  obtain ⟨-, hn, cl, A, hs, hv⟩ := B
  subst hi
  exact Wp.go (fun _ q => Y.baloadBytes hx (g := mkF m pc Ls (.int (Int32.ofNat i) :: .ref a :: S)) (j := Int32.ofNat i) (v := .int (b i)) (by rw [eT]; exact A.1) (State.isArrayOf_alike hZ.alike A.2.1) A.2.2 (inb hn hs hlt) (by rw [ofNat_clamp (by omega)]; exact hv i hlt) rfl rfl (hb hby hd) _ q) q
theorem w_iaload (X : Pos Z a0 n0 p l e R s m args below meth c code ml ret y T h k j) {a : Addr} {n : Nat} {b : Nat → Int32} {x : Int32} (hd : Dec code pc .iaload 1 nx) (B : Ba Z n0 h a .int n (bI b)) (i : Nat) (hi : x = Int32.ofNat i) (hlt : i < n) (q : Wp n0 p e R s below Q T (mkF m nx Ls (.int (b i) :: S))) : Wp n0 p e R s below Q T (mkF m pc Ls (.int x :: .ref a :: S)) := by
  obtain ⟨hx, hZ, hby, hml, hret, hown, hnm, hlk, eT, hn0, hw, locs, N, Y⟩ := X
  obtain ⟨hd, rfl⟩ := hd
  obtain ⟨-, hn, cl, A, hs, hv⟩ := B
  subst hi
  exact Wp.go (fun _ q => Y.iaload hx (g := mkF m pc Ls (.int (Int32.ofNat i) :: .ref a :: S)) (j := Int32.ofNat i) (v := .int (b i)) (by rw [eT]; exact A.1) (State.isArrayOf_alike hZ.alike A.2.1) A.2.2 (inb hn hs hlt) (by rw [ofNat_clamp (by omega)]; exact hv i hlt) rfl rfl (hb hby hd) _ q) q
theorem w_laload (X : Pos Z a0 n0 p l e R s m args below meth c code ml ret y T h k j) {a : Addr} {n : Nat} {b : Nat → Int64} {x : Int32} (hd : Dec code pc .laload 1 nx) (B : Ba Z n0 h a .long n (bJ b)) (i : Nat) (hi : x = Int32.ofNat i) (hlt : i < n) (q : Wp n0 p e R s below Q T (mkF m nx Ls (.long (b i) :: S))) : Wp n0 p e R s below Q T (mkF m pc Ls (.int x :: .ref a :: S)) := by
  obtain ⟨hx, hZ, hby, hml, hret, hown, hnm, hlk, eT, hn0, hw, locs, N, Y⟩ := X
  obtain ⟨hd, rfl⟩ := hd
  obtain ⟨-, hn, cl, A, hs, hv⟩ := B
  subst hi
  exact Wp.go (fun _ q => Y.laload hx (g := mkF m pc Ls (.int (Int32.ofNat i) :: .ref a :: S)) (j := Int32.ofNat i) (v := .long (b i)) (by rw [eT]; exact A.1) (State.isArrayOf_alike hZ.alike A.2.1) A.2.2 (inb hn hs hlt) (by rw [ofNat_clamp (by omega)]; exact hv i hlt) rfl rfl (hb hby hd) _ q) q
theorem w_bastore (X : Pos Z a0 n0 p l e R s m args below meth c code ml ret y T h k j) {a : Addr} {n : Nat} {b : Nat → Int32} {x : Int32} {v : Int32} (hd : Dec code pc .bastore 1 nx) (B : Ba Z n0 h a .byte n (bI b)) (i : Nat) (hi : x = Int32.ofNat i) (hlt : i < n)
    (q : ∀ T' h', Pos Z a0 n0 p l e R s m args below meth c code ml ret y T' h' k j → Keep h h' [a] → Ba Z n0 h' a .byte n (bI (upd b i (jbyte v))) → Wp n0 p e R s below Q T' (mkF m nx Ls S)) : Wp n0 p e R s below Q T (mkF m pc Ls (.int v :: .int x :: .ref a :: S)) := by
  obtain ⟨hx, hZ, hby, hml, hret, hown, hnm, hlk, eT, hn0, hw, locs, N, Y⟩ := X
  obtain ⟨hd, rfl⟩ := hd
  obtain ⟨hna, hn, cl, A, hs, hv⟩ := B
  subst hi
  obtain ⟨T', h', Y', e', W', st⟩ := stB Y hx hZ eT A (j := Int32.ofNat i) (inb hn hs hlt) (g := mkF m pc Ls (.int v :: .int (Int32.ofNat i) :: .ref a :: S)) rfl rfl (hb hby hd)
  refine Wp.go st (q T' h' ⟨hx, hZ, hby, hml, hret, hown, hnm, hlk, e', by rw [W'.size]; exact hn0, hw, _, Fr.snoc Y' N hna, Y'⟩ (Keep.of_wr W') ⟨hna, hn, _, A.same W', (sz_set _ _ _).trans hs, fun q hq => ?_⟩)
  rw [ofNat_clamp (by omega)]
  by_cases hqi : q = i
  · subst hqi
    simp [Cell.setSlot, hs, hq, upd, bI, nar]
  · simp [Cell.setSlot, upd, hqi, bI, Array.getElem?_setIfInBounds_ne (Ne.symm hqi), hv q hq]
theorem w_iastore (X : Pos Z a0 n0 p l e R s m args below meth c code ml ret y T h k j) {a : Addr} {n : Nat} {b : Nat → Int32} {x : Int32} {v : Int32} (hd : Dec code pc .iastore 1 nx) (B : Ba Z n0 h a .int n (bI b)) (i : Nat) (hi : x = Int32.ofNat i) (hlt : i < n)
    (q : ∀ T' h', Pos Z a0 n0 p l e R s m args below meth c code ml ret y T' h' k j → Keep h h' [a] → Ba Z n0 h' a .int n (bI (upd b i (v))) → Wp n0 p e R s below Q T' (mkF m nx Ls S)) : Wp n0 p e R s below Q T (mkF m pc Ls (.int v :: .int x :: .ref a :: S)) := by
  obtain ⟨hx, hZ, hby, hml, hret, hown, hnm, hlk, eT, hn0, hw, locs, N, Y⟩ := X
  obtain ⟨hd, rfl⟩ := hd
  obtain ⟨hna, hn, cl, A, hs, hv⟩ := B
  subst hi
  obtain ⟨T', h', Y', e', W', st⟩ := stI Y hx hZ eT A (j := Int32.ofNat i) (inb hn hs hlt) (g := mkF m pc Ls (.int v :: .int (Int32.ofNat i) :: .ref a :: S)) rfl rfl (hb hby hd)
  refine Wp.go st (q T' h' ⟨hx, hZ, hby, hml, hret, hown, hnm, hlk, e', by rw [W'.size]; exact hn0, hw, _, Fr.snoc Y' N hna, Y'⟩ (Keep.of_wr W') ⟨hna, hn, _, A.same W', (sz_set _ _ _).trans hs, fun q hq => ?_⟩)
  rw [ofNat_clamp (by omega)]
  by_cases hqi : q = i
  · subst hqi
    simp [Cell.setSlot, hs, hq, upd, bI]
  · simp [Cell.setSlot, upd, hqi, bI, Array.getElem?_setIfInBounds_ne (Ne.symm hqi), hv q hq]
theorem w_lastore (X : Pos Z a0 n0 p l e R s m args below meth c code ml ret y T h k j) {a : Addr} {n : Nat} {b : Nat → Int64} {x : Int32} {v : Int64} (hd : Dec code pc .lastore 1 nx) (B : Ba Z n0 h a .long n (bJ b)) (i : Nat) (hi : x = Int32.ofNat i) (hlt : i < n)
    (q : ∀ T' h', Pos Z a0 n0 p l e R s m args below meth c code ml ret y T' h' k j → Keep h h' [a] → Ba Z n0 h' a .long n (bJ (upd b i (v))) → Wp n0 p e R s below Q T' (mkF m nx Ls S)) : Wp n0 p e R s below Q T (mkF m pc Ls (.long v :: .int x :: .ref a :: S)) := by
  obtain ⟨hx, hZ, hby, hml, hret, hown, hnm, hlk, eT, hn0, hw, locs, N, Y⟩ := X
  obtain ⟨hd, rfl⟩ := hd
  obtain ⟨hna, hn, cl, A, hs, hv⟩ := B
  subst hi
  obtain ⟨T', h', Y', e', W', st⟩ := stJ Y hx hZ eT A (j := Int32.ofNat i) (inb hn hs hlt) (g := mkF m pc Ls (.long v :: .int (Int32.ofNat i) :: .ref a :: S)) rfl rfl (hb hby hd)
  refine Wp.go st (q T' h' ⟨hx, hZ, hby, hml, hret, hown, hnm, hlk, e', by rw [W'.size]; exact hn0, hw, _, Fr.snoc Y' N hna, Y'⟩ (Keep.of_wr W') ⟨hna, hn, _, A.same W', (sz_set _ _ _).trans hs, fun q hq => ?_⟩)
  rw [ofNat_clamp (by omega)]
  by_cases hqi : q = i
  · subst hqi
    simp [Cell.setSlot, hs, hq, upd, bJ]
  · simp [Cell.setSlot, upd, hqi, bJ, Array.getElem?_setIfInBounds_ne (Ne.symm hqi), hv q hq]
theorem w_newB (X : Pos Z a0 n0 p l e R s m args below meth c code ml ret y T h k j) {x : Int32} (hd : Dec code pc (.newarray .byte) 2 nx) (wa : (Jvm.Cond.arrayClass .byte).before a0 Z = true) (n cap : Nat) (hx' : x = Int32.ofNat n) (hcap : n ≤ cap) (hb' : cap * 8 ≤ 536870912) (hk : k + 1 ≤ R.cells) (hj : j + cap ≤ R.slots)
    (q : ∀ T' h' a, Pos Z a0 n0 p l e R s m args below meth c code ml ret y T' h' (k + 1) (j + cap) → a = h.size → Ext h h' → Ba Z n0 h' a .byte n (bI fun _ => 0) → Wp n0 p e R s below Q T' (mkF m nx Ls (.ref a :: S))) : Wp n0 p e R s below Q T (mkF m pc Ls (.int x :: S)) := by
  obtain ⟨hx, hZ, hby, hml, hret, hown, hnm, hlk, eT, hn0, hw, locs, N, Y⟩ := X
  obtain ⟨hd, rfl⟩ := hd
  subst hx'
  obtain ⟨T', h', cA, Y', e', E', A', st⟩ := newP Y hx hZ (aty := .byte) wa eT (g := mkF m pc Ls (.int (Int32.ofNat n) :: S)) rfl (hb hby hd) rfl (ofNat_nn (by omega)) (cap := cap) (by rw [ofNat_clamp (by omega)]; exact hcap) hb' hk hj
  refine Wp.go st (q T' h' _ ⟨hx, hZ, hby, hml, hret, hown, hnm, hlk, e', Nat.le_trans hn0 E'.1, hw, _, N, Y'⟩ rfl E' ⟨hn0, by omega, _, A', by rw [sz_new, ofNat_clamp (by omega)], fun i hi => ?_⟩)
  have := get_new (cA := cA) (ty := .byte) (n := Int32.ofNat n) (k := Int32.ofNat i) (by rw [ofNat_clamp (by omega), ofNat_clamp (by omega)]; exact fun q => q.elim (ofNat_nn (by omega)) (fun q => by omega))
  rw [ofNat_clamp (by omega)] at this
  exact this
theorem w_newI (X : Pos Z a0 n0 p l e R s m args below meth c code ml ret y T h k j) {x : Int32} (hd : Dec code pc (.newarray .int) 2 nx) (wa : (Jvm.Cond.arrayClass .int).before a0 Z = true) (n cap : Nat) (hx' : x = Int32.ofNat n) (hcap : n ≤ cap) (hb' : cap * 8 ≤ 536870912) (hk : k + 1 ≤ R.cells) (hj : j + cap ≤ R.slots)
    (q : ∀ T' h' a, Pos Z a0 n0 p l e R s m args below meth c code ml ret y T' h' (k + 1) (j + cap) → a = h.size → Ext h h' → Ba Z n0 h' a .int n (bI fun _ => 0) → Wp n0 p e R s below Q T' (mkF m nx Ls (.ref a :: S))) : Wp n0 p e R s below Q T (mkF m pc Ls (.int x :: S)) := by
  obtain ⟨hx, hZ, hby, hml, hret, hown, hnm, hlk, eT, hn0, hw, locs, N, Y⟩ := X
  obtain ⟨hd, rfl⟩ := hd
  subst hx'
  obtain ⟨T', h', cA, Y', e', E', A', st⟩ := newP Y hx hZ (aty := .int) wa eT (g := mkF m pc Ls (.int (Int32.ofNat n) :: S)) rfl (hb hby hd) rfl (ofNat_nn (by omega)) (cap := cap) (by rw [ofNat_clamp (by omega)]; exact hcap) hb' hk hj
  refine Wp.go st (q T' h' _ ⟨hx, hZ, hby, hml, hret, hown, hnm, hlk, e', Nat.le_trans hn0 E'.1, hw, _, N, Y'⟩ rfl E' ⟨hn0, by omega, _, A', by rw [sz_new, ofNat_clamp (by omega)], fun i hi => ?_⟩)
  have := get_new (cA := cA) (ty := .int) (n := Int32.ofNat n) (k := Int32.ofNat i) (by rw [ofNat_clamp (by omega), ofNat_clamp (by omega)]; exact fun q => q.elim (ofNat_nn (by omega)) (fun q => by omega))
  rw [ofNat_clamp (by omega)] at this
  exact this
theorem w_newJ (X : Pos Z a0 n0 p l e R s m args below meth c code ml ret y T h k j) {x : Int32} (hd : Dec code pc (.newarray .long) 2 nx) (wa : (Jvm.Cond.arrayClass .long).before a0 Z = true) (n cap : Nat) (hx' : x = Int32.ofNat n) (hcap : n ≤ cap) (hb' : cap * 8 ≤ 536870912) (hk : k + 1 ≤ R.cells) (hj : j + cap ≤ R.slots)
    (q : ∀ T' h' a, Pos Z a0 n0 p l e R s m args below meth c code ml ret y T' h' (k + 1) (j + cap) → a = h.size → Ext h h' → Ba Z n0 h' a .long n (bJ fun _ => 0) → Wp n0 p e R s below Q T' (mkF m nx Ls (.ref a :: S))) : Wp n0 p e R s below Q T (mkF m pc Ls (.int x :: S)) := by
  obtain ⟨hx, hZ, hby, hml, hret, hown, hnm, hlk, eT, hn0, hw, locs, N, Y⟩ := X
  obtain ⟨hd, rfl⟩ := hd
  subst hx'
  obtain ⟨T', h', cA, Y', e', E', A', st⟩ := newP Y hx hZ (aty := .long) wa eT (g := mkF m pc Ls (.int (Int32.ofNat n) :: S)) rfl (hb hby hd) rfl (ofNat_nn (by omega)) (cap := cap) (by rw [ofNat_clamp (by omega)]; exact hcap) hb' hk hj
  refine Wp.go st (q T' h' _ ⟨hx, hZ, hby, hml, hret, hown, hnm, hlk, e', Nat.le_trans hn0 E'.1, hw, _, N, Y'⟩ rfl E' ⟨hn0, by omega, _, A', by rw [sz_new, ofNat_clamp (by omega)], fun i hi => ?_⟩)
  have := get_new (cA := cA) (ty := .long) (n := Int32.ofNat n) (k := Int32.ofNat i) (by rw [ofNat_clamp (by omega), ofNat_clamp (by omega)]; exact fun q => q.elim (ofNat_nn (by omega)) (fun q => by omega))
  rw [ofNat_clamp (by omega)] at this
  exact this
theorem w_static (X : Pos Z a0 n0 p l e R s m args below meth c code ml ret y T h k j) {z : MethodName} {cz : ByteArray} {mz : Nat} {rz : Option FieldType} {rm : Room} {Qz : Option Value → Heap → Prop} {ps : List FieldType} {rr : Option FieldType} {i : Nat} {argsL : List Value} (hd : Dec code pc (.invokestatic i) 3 nx) (C : Ctr l Z n0 z cz mz rz rm [] argsL.toArray h Qz) (wl : (Jvm.Cond.methodLink y.cls i z).before a0 Z = true) (ws : (Jvm.Cond.static z).before a0 Z = true) (wi : (Jvm.Cond.initialized z.cls).before a0 Z = true) (wc : (Jvm.Cond.code z cz mz rz).before a0 Z = true)
    (hz : z.cls ≠ "java/lang/invoke/MethodHandle" ∧ z.cls ≠ "java/lang/invoke/VarHandle") (hpd : parseMethodDescriptor z.desc = some ⟨ps, rr⟩) (hlen : argsL.length = ps.length) {S0 : List Value} (hS : S0 = argsL.reverse ++ S) (hsz : Ls.size = ml)
    (hf : rm.frames + 1 ≤ R.frames) (hlo : (S.map fun v => v.category).sum + (mz + 11) + rm.locals ≤ R.locals) (hk : k + rm.cells ≤ R.cells) (hj : j + rm.slots ≤ R.slots)
    (q : ∀ v T' h', Pos Z a0 n0 p l e R s m args below meth c code ml ret y T' h' (k + rm.cells) (j + rm.slots) → Qz v h' → Wp n0 p e R s below Q T' (mkF m nx Ls (v.toList ++ S))) : Wp n0 p e R s below Q T (mkF m pc Ls S0) := by
  obtain ⟨hx, hZ, hby, hml, hret, hown, hnm, hlk, eT, hn0, hw, locs, N, Y⟩ := X
  obtain ⟨hd, rfl⟩ := hd
  obtain ⟨v, _, ⟨T', L', k', j'⟩, -, Y', ⟨Lc, hQ, l1, l2, l3⟩, st⟩ := Jvm.LawKit.callS Y hx (y := z) hown (mvT hZ wl) (mvT hZ ws) (mvT hZ wi) (mvT hZ wc) hz (backOf (W := (S.map fun v => v.category).sum) (Q := fun v h L => Fr n0 L ∧ n0 ≤ h.size ∧ Qz v h) C hZ wc wi hf hlo) (g := mkF m pc Ls S0) rfl (by rw [hml]; exact hsz) (argsL := argsL) (rest := S) (lenOf hpd hlen) hS (by show 2 * 0 + _ ≤ _; omega) (hb hby hd) (fun _ _ => ⟨rfl, eT, hk, hj⟩)
  dsimp only [Pt.U, Pt.locs, Pt.cells, Pt.slots] at Y' l1 l2 l3 st hQ
  subst l1 l2 l3
  obtain ⟨N', hn', hQ⟩ := hQ
  exact Wp.go st (q v T' _ ⟨hx, hZ, hby, hml, hret, hown, hnm, hlk, rfl, hn', hw, _, Fr.app N N', Y'⟩ hQ)
theorem w_virtual (X : Pos Z a0 n0 p l e R s m args below meth c code ml ret y T h k j) {z : MethodName} {cz : ByteArray} {mz : Nat} {rz : Option FieldType} {rm : Room} {Qz : Option Value → Heap → Prop} {ps : List FieldType} {rr : Option FieldType} {i : Nat} {argsL : List Value} {a : Addr} (hd : Dec code pc (.invokevirtual i) 3 nx) (C : Ctr l Z n0 z cz mz rz rm [] (.ref a :: argsL).toArray h Qz) (E : Exa Z h a z.cls) (wl : (Jvm.Cond.methodLink y.cls i z).before a0 Z = true) (wdc : (Jvm.Cond.declares z).before a0 Z = true) (wse : (Jvm.Cond.selects z.cls z z).before a0 Z = true) (wim : (Jvm.Cond.instanceMethod z).before a0 Z = true) (wi : (Jvm.Cond.initialized z.cls).before a0 Z = true) (wc : (Jvm.Cond.code z cz mz rz).before a0 Z = true)
    (hz : z.cls ≠ "java/lang/invoke/MethodHandle" ∧ z.cls ≠ "java/lang/invoke/VarHandle") (hpd : parseMethodDescriptor z.desc = some ⟨ps, rr⟩) (hlen : argsL.length = ps.length) {S0 : List Value} (hS : S0 = argsL.reverse ++ .ref a :: S) (hsz : Ls.size = ml)
    (hf : rm.frames + 1 ≤ R.frames) (hlo : (S.map fun v => v.category).sum + (mz + 11) + rm.locals ≤ R.locals) (hk : k + rm.cells ≤ R.cells) (hj : j + rm.slots ≤ R.slots)
    (q : ∀ v T' h', Pos Z a0 n0 p l e R s m args below meth c code ml ret y T' h' (k + rm.cells) (j + rm.slots) → Qz v h' → Wp n0 p e R s below Q T' (mkF m nx Ls (v.toList ++ S))) : Wp n0 p e R s below Q T (mkF m pc Ls S0) := by
  obtain ⟨hx, hZ, hby, hml, hret, hown, hnm, hlk, eT, hn0, hw, locs, N, Y⟩ := X
  obtain ⟨hd, rfl⟩ := hd
  obtain ⟨cq, kq, qa, qb, qc⟩ := isOf hZ eT E
  have Ctr' := backOf (l := l) (R := R) (p := p) (e := e) (below := below) (s := s) (args := args) (len := 3) (W := (S.map fun v => v.category).sum) (Q := fun v h L => Fr n0 L ∧ n0 ≤ h.size ∧ Qz v h) C hZ wc wi hf hlo
  obtain ⟨v, _, ⟨T', L', k', j'⟩, -, Y', ⟨Lc, hQ, l1, l2, l3⟩, st⟩ := Y.virtualBack hx (y := z) (z := z) hown (mvT hZ wl) (mvT hZ wdc) (notFace_of_selects (args := #[]) (mvT hZ wse)) (mvT hZ wse) (mvT hZ wim) hz Ctr' qa qc (g := mkF m pc Ls S0) rfl (by rw [hml]; exact hsz) (Steps.refl _) (argsL := argsL) (rest := S) (lenOf hpd hlen) hS (by show 2 * 0 + _ ≤ _; omega) (hb hby hd) (fun _ _ => ⟨rfl, eT, hk, hj⟩)
  dsimp only [Pt.U, Pt.locs, Pt.cells, Pt.slots] at Y' l1 l2 l3 st hQ
  subst l1 l2 l3
  obtain ⟨N', hn', hQ⟩ := hQ
  exact Wp.go (fun _ t => st.trans t) (q v T' _ ⟨hx, hZ, hby, hml, hret, hown, hnm, hlk, rfl, hn', hw, _, Fr.app N N', Y'⟩ hQ)
theorem w_special (X : Pos Z a0 n0 p l e R s m args below meth c code ml ret y T h k j) {z : MethodName} {cz : ByteArray} {mz : Nat} {rm : Room} {Qz : Option Value → Heap → Prop} {ps : List FieldType} {rr : Option FieldType} {i : Nat} {argsL : List Value} {a : Addr} (hd : Dec code pc (.invokespecial i) 3 nx) (C : Ctr l Z n0 z cz mz none rm [] (.ref a :: argsL).toArray h Qz) (hz1 : z.name = "<init>") (wl : (Jvm.Cond.methodLink y.cls i z).before a0 Z = true) (wim : (Jvm.Cond.instanceMethod z).before a0 Z = true) (wi : (Jvm.Cond.initialized z.cls).before a0 Z = true) (wc : (Jvm.Cond.code z cz mz none).before a0 Z = true)
    (hz : z.cls ≠ "java/lang/invoke/MethodHandle" ∧ z.cls ≠ "java/lang/invoke/VarHandle") (hpd : parseMethodDescriptor z.desc = some ⟨ps, rr⟩) (hlen : argsL.length = ps.length) {S0 : List Value} (hS : S0 = argsL.reverse ++ .ref a :: S) (hsz : Ls.size = ml)
    (hf : rm.frames + 1 ≤ R.frames) (hlo : (S.map fun v => v.category).sum + (mz + 11) + rm.locals ≤ R.locals) (hk : k + rm.cells ≤ R.cells) (hj : j + rm.slots ≤ R.slots)
    (q : ∀ v T' h', Pos Z a0 n0 p l e R s m args below meth c code ml ret y T' h' (k + rm.cells) (j + rm.slots) → Qz v h' → Wp n0 p e R s below Q T' (mkF m nx Ls (v.toList ++ S))) : Wp n0 p e R s below Q T (mkF m pc Ls S0) := by
  obtain ⟨hx, hZ, hby, hml, hret, hown, hnm, hlk, eT, hn0, hw, locs, N, Y⟩ := X
  obtain ⟨hd, rfl⟩ := hd
  have Ctr' := backOf (l := l) (R := R) (p := p) (e := e) (below := below) (s := s) (args := args) (len := 3) (W := (S.map fun v => v.category).sum) (Q := fun v h L => Fr n0 L ∧ n0 ≤ h.size ∧ Qz v h) C hZ wc wi hf hlo
  obtain ⟨v, _, ⟨T', L', k', j'⟩, -, Y', ⟨Lc, hQ, l1, l2, l3⟩, st⟩ := Y.specialBack hx (y := z) hz1 hown (mvT hZ wl) (mvT hZ wim) (mvT hZ wc) hz Ctr' (g := mkF m pc Ls S0) rfl (by rw [hml]; exact hsz) (Steps.refl _) (a := a) (argsL := argsL) (rest := S) (lenOf hpd hlen) hS (by show 2 * 0 + _ ≤ _; omega) (hb hby hd) (fun _ _ => ⟨rfl, eT, hk, hj⟩)
  dsimp only [Pt.U, Pt.locs, Pt.cells, Pt.slots] at Y' l1 l2 l3 st hQ
  subst l1 l2 l3
  obtain ⟨N', hn', hQ⟩ := hQ
  exact Wp.go (fun _ t => st.trans t) (q v T' _ ⟨hx, hZ, hby, hml, hret, hown, hnm, hlk, rfl, hn', hw, _, Fr.app N N', Y'⟩ hQ)
theorem w_new (X : Pos Z a0 n0 p l e R s m args below meth c code ml ret y T h k j) {i n : Nat} {C : String} (hd : Dec code pc (.new i) 3 nx) (w : (Jvm.Cond.classLink y.cls i C).before a0 Z = true) (wi : (Jvm.Cond.instantiable C n).before a0 Z = true) (wz : (Jvm.Cond.initialized C).before a0 Z = true) (hk : k + 1 ≤ R.cells) (hj : j + n ≤ R.slots)
    (q : ∀ T' h' a, Pos Z a0 n0 p l e R s m args below meth c code ml ret y T' h' (k + 1) (j + n) → a = h.size → n0 ≤ a → Ext h h' → Exa Z h' a C → (∀ {O nm d : String} {ty : FieldType}, Laid Z a0 C O nm d → parseFieldDescriptor d = some ty → Fld Z h' a O nm d (defaultValue ty)) → Wp n0 p e R s below Q T' (mkF m nx Ls (.ref a :: S))) : Wp n0 p e R s below Q T (mkF m pc Ls S) := by
  obtain ⟨hx, hZ, hby, hml, hret, hown, hnm, hlk, eT, hn0, hw, locs, N, Y⟩ := X
  obtain ⟨hd, rfl⟩ := hd
  obtain ⟨T', h', Y', e', E', A', D', -, st⟩ := newO Y hx hZ hown w wi wz eT (g := mkF m pc Ls S) rfl (hb hby hd) hk hj
  exact Wp.go st (q T' h' _ ⟨hx, hZ, hby, hml, hret, hown, hnm, hlk, e', Nat.le_trans hn0 E'.1, hw, _, N, Y'⟩ rfl hn0 E' A' D')
theorem w_getF (X : Pos Z a0 n0 p l e R s m args below meth c code ml ret y T h k j) {i : Nat} {O nm d : String} {a : Addr} {v : Value} (hd : Dec code pc (.getfield i) 3 nx) (w : (Jvm.Cond.fieldLink y.cls i O nm d).before a0 Z = true) (F : Fld Z h a O nm d v)
    (q : ∀ T', Pos Z a0 n0 p l e R s m args below meth c code ml ret y T' h k j → Wp n0 p e R s below Q T' (mkF m nx Ls (v :: S))) : Wp n0 p e R s below Q T (mkF m pc Ls (.ref a :: S)) := by
  obtain ⟨hx, hZ, hby, hml, hret, hown, hnm, hlk, eT, hn0, hw, locs, N, Y⟩ := X
  obtain ⟨hd, rfl⟩ := hd
  obtain ⟨T', Y', e', st⟩ := getF Y hx hZ hown (host := "") (Or.inl w) Via.refl eT F (g := mkF m pc Ls (.ref a :: S)) rfl rfl (hb hby hd)
  exact Wp.go st (q T' ⟨hx, hZ, hby, hml, hret, hown, hnm, hlk, e', hn0, hw, _, N, Y'⟩)
theorem w_putF (X : Pos Z a0 n0 p l e R s m args below meth c code ml ret y T h k j) {i kk : Nat} {C O nm d : String} {ty : FieldType} {a : Addr} {v old : Value} (hd : Dec code pc (.putfield i) 3 nx) (w : (Jvm.Cond.fieldLink y.cls i O nm d).before a0 Z = true) (F : Fld Z h a O nm d old) (E : Exa Z h a C) (hna : n0 ≤ a) (L : (Jvm.Cond.lays C O nm d).before a0 Z = true ∨ ((Jvm.Cond.laysFinal C O nm d).before a0 Z = true ∧ y.cls = O ∧ y.name = "<init>")) (wi : (Jvm.Cond.instantiable C kk).before a0 Z = true) (hty : parseFieldDescriptor d = some ty) (hn : narrow ty v = v) (hf : fits ty v = true)
    (q : ∀ T' h', Pos Z a0 n0 p l e R s m args below meth c code ml ret y T' h' k j → Wr h h' a (Jvm.RoadKit.slotOf Z O nm d) v → Wp n0 p e R s below Q T' (mkF m nx Ls S)) : Wp n0 p e R s below Q T (mkF m pc Ls (v :: .ref a :: S)) := by
  obtain ⟨hx, hZ, hby, hml, hret, hown, hnm, hlk, eT, hn0, hw, locs, N, Y⟩ := X
  obtain ⟨hd, rfl⟩ := hd
  obtain ⟨T', h', Y', e', W', st⟩ := putF Y hx hZ hown (host := "") (Or.inl w) Via.refl eT F E (L.imp id fun q => ⟨q.1, q.2.1, hnm.trans q.2.2⟩) wi hty hn hf (g := mkF m pc Ls (v :: .ref a :: S)) rfl rfl (hb hby hd)
  exact Wp.go st (q T' h' ⟨hx, hZ, hby, hml, hret, hown, hnm, hlk, e', by rw [W'.size]; exact hn0, hw, _, Fr.snoc Y' N hna, Y'⟩ W')
end OwnKit
theorem D0_0 : Dec code 0 (.iload_n 0) 1 1 := ⟨at_0, rfl⟩
theorem D0_1 : Dec code 1 (.ldc 9) 2 3 := ⟨at_1, rfl⟩
theorem D0_3 : Dec code 3 .iand 1 4 := ⟨at_3, rfl⟩
theorem D0_4 : Dec code 4 (.iload_n 3) 1 5 := ⟨at_4, rfl⟩
theorem D0_5 : Dec code 5 (.bipush 31) 2 7 := ⟨at_5, rfl⟩
theorem D0_7 : Dec code 7 .iand 1 8 := ⟨at_7, rfl⟩
theorem D0_8 : Dec code 8 .iushr 1 9 := ⟨at_8, rfl⟩
theorem D0_9 : Dec code 9 (.istore 4) 2 11 := ⟨at_9, rfl⟩
theorem D0_11 : Dec code 11 (.iload_n 1) 1 12 := ⟨at_11, rfl⟩
theorem D0_12 : Dec code 12 (.ldc 9) 2 14 := ⟨at_12, rfl⟩
theorem D0_14 : Dec code 14 .iand 1 15 := ⟨at_14, rfl⟩
theorem D0_15 : Dec code 15 (.bipush 8) 2 17 := ⟨at_15, rfl⟩
theorem D0_17 : Dec code 17 .irem 1 18 := ⟨at_17, rfl⟩
theorem D0_18 : Dec code 18 (.istore 5) 2 20 := ⟨at_18, rfl⟩
theorem D0_20 : Dec code 20 (.iload_n 2) 1 21 := ⟨at_20, rfl⟩
theorem D0_21 : Dec code 21 .i2b 1 22 := ⟨at_21, rfl⟩
theorem D0_22 : Dec code 22 (.istore 6) 2 24 := ⟨at_22, rfl⟩
theorem D0_24 : Dec code 24 (.bipush 12) 2 26 := ⟨at_24, rfl⟩
theorem D0_26 : Dec code 26 (.newarray .byte) 2 28 := ⟨at_26, rfl⟩
theorem D0_28 : Dec code 28 (.astore 7) 2 30 := ⟨at_28, rfl⟩
theorem D0_30 : Dec code 30 (.aload 7) 2 32 := ⟨at_30, rfl⟩
theorem D0_32 : Dec code 32 (.iconst 0) 1 33 := ⟨at_32, rfl⟩
theorem D0_33 : Dec code 33 (.iload 6) 2 35 := ⟨at_33, rfl⟩
theorem D0_35 : Dec code 35 .bastore 1 36 := ⟨at_35, rfl⟩
theorem D0_36 : Dec code 36 (.aload 7) 2 38 := ⟨at_36, rfl⟩
theorem D0_38 : Dec code 38 (.iconst 1) 1 39 := ⟨at_38, rfl⟩
theorem D0_39 : Dec code 39 (.iload 6) 2 41 := ⟨at_39, rfl⟩
theorem D0_41 : Dec code 41 .bastore 1 42 := ⟨at_41, rfl⟩
theorem D0_42 : Dec code 42 (.aload 7) 2 44 := ⟨at_42, rfl⟩
theorem D0_44 : Dec code 44 (.iconst 2) 1 45 := ⟨at_44, rfl⟩
theorem D0_45 : Dec code 45 (.iload 6) 2 47 := ⟨at_45, rfl⟩
theorem D0_47 : Dec code 47 .bastore 1 48 := ⟨at_47, rfl⟩
theorem D0_48 : Dec code 48 (.aload 7) 2 50 := ⟨at_48, rfl⟩
theorem D0_50 : Dec code 50 (.iconst 3) 1 51 := ⟨at_50, rfl⟩
theorem D0_51 : Dec code 51 (.iload 6) 2 53 := ⟨at_51, rfl⟩
theorem D0_53 : Dec code 53 .bastore 1 54 := ⟨at_53, rfl⟩
theorem D0_54 : Dec code 54 (.aload 7) 2 56 := ⟨at_54, rfl⟩
theorem D0_56 : Dec code 56 (.iconst 4) 1 57 := ⟨at_56, rfl⟩
theorem D0_57 : Dec code 57 (.iload 6) 2 59 := ⟨at_57, rfl⟩
theorem D0_59 : Dec code 59 .bastore 1 60 := ⟨at_59, rfl⟩
theorem D0_60 : Dec code 60 (.aload 7) 2 62 := ⟨at_60, rfl⟩
theorem D0_62 : Dec code 62 (.iconst 5) 1 63 := ⟨at_62, rfl⟩
theorem D0_63 : Dec code 63 (.iload 6) 2 65 := ⟨at_63, rfl⟩
theorem D0_65 : Dec code 65 .bastore 1 66 := ⟨at_65, rfl⟩
theorem D0_66 : Dec code 66 (.aload 7) 2 68 := ⟨at_66, rfl⟩
theorem D0_68 : Dec code 68 (.bipush 6) 2 70 := ⟨at_68, rfl⟩
theorem D0_70 : Dec code 70 (.iload 6) 2 72 := ⟨at_70, rfl⟩
theorem D0_72 : Dec code 72 .bastore 1 73 := ⟨at_72, rfl⟩
theorem D0_73 : Dec code 73 (.aload 7) 2 75 := ⟨at_73, rfl⟩
theorem D0_75 : Dec code 75 (.bipush 7) 2 77 := ⟨at_75, rfl⟩
theorem D0_77 : Dec code 77 (.iload 6) 2 79 := ⟨at_77, rfl⟩
theorem D0_79 : Dec code 79 .bastore 1 80 := ⟨at_79, rfl⟩
theorem D0_80 : Dec code 80 (.aload 7) 2 82 := ⟨at_80, rfl⟩
theorem D0_82 : Dec code 82 (.bipush 8) 2 84 := ⟨at_82, rfl⟩
theorem D0_84 : Dec code 84 (.iload 6) 2 86 := ⟨at_84, rfl⟩
theorem D0_86 : Dec code 86 .bastore 1 87 := ⟨at_86, rfl⟩
theorem D0_87 : Dec code 87 (.aload 7) 2 89 := ⟨at_87, rfl⟩
theorem D0_89 : Dec code 89 (.bipush 9) 2 91 := ⟨at_89, rfl⟩
theorem D0_91 : Dec code 91 (.iload 6) 2 93 := ⟨at_91, rfl⟩
theorem D0_93 : Dec code 93 .bastore 1 94 := ⟨at_93, rfl⟩
theorem D0_94 : Dec code 94 (.aload 7) 2 96 := ⟨at_94, rfl⟩
theorem D0_96 : Dec code 96 (.bipush 10) 2 98 := ⟨at_96, rfl⟩
theorem D0_98 : Dec code 98 (.iload 6) 2 100 := ⟨at_98, rfl⟩
theorem D0_100 : Dec code 100 .bastore 1 101 := ⟨at_100, rfl⟩
theorem D0_101 : Dec code 101 (.aload 7) 2 103 := ⟨at_101, rfl⟩
theorem D0_103 : Dec code 103 (.bipush 11) 2 105 := ⟨at_103, rfl⟩
theorem D0_105 : Dec code 105 (.iload 6) 2 107 := ⟨at_105, rfl⟩
theorem D0_107 : Dec code 107 .bastore 1 108 := ⟨at_107, rfl⟩
theorem D0_108 : Dec code 108 (.aload 7) 2 110 := ⟨at_108, rfl⟩
theorem D0_110 : Dec code 110 (.iload 5) 2 112 := ⟨at_110, rfl⟩
theorem D0_112 : Dec code 112 (.iload 4) 2 114 := ⟨at_112, rfl⟩
theorem D0_114 : Dec code 114 (.invokestatic 10) 3 117 := ⟨at_114, rfl⟩
theorem D0_117 : Dec code 117 (.istore 8) 2 119 := ⟨at_117, rfl⟩
theorem D0_119 : Dec code 119 (.iload 4) 2 121 := ⟨at_119, rfl⟩
theorem D0_121 : Dec code 121 (.invokestatic 16) 3 124 := ⟨at_121, rfl⟩
theorem D0_124 : Dec code 124 (.istore 9) 2 126 := ⟨at_124, rfl⟩
theorem D0_126 : Dec code 126 (.iload 8) 2 128 := ⟨at_126, rfl⟩
theorem D0_128 : Dec code 128 (.iload 5) 2 130 := ⟨at_128, rfl⟩
theorem D0_130 : Dec code 130 (.iload 9) 2 132 := ⟨at_130, rfl⟩
theorem D0_132 : Dec code 132 .iadd 1 133 := ⟨at_132, rfl⟩
theorem D0_133 : Jmp code 133 (.if_icmp .ne 7) 7 136 140 := ⟨at_133, rfl, by decide, by decide⟩
theorem D0_136 : Dec code 136 (.iconst 1) 1 137 := ⟨at_136, rfl⟩
theorem D0_137 : Jmp code 137 (.goto 4) 4 140 141 := ⟨at_137, rfl, by decide, by decide⟩
theorem D0_141 : Dec code 141 (.istore 10) 2 143 := ⟨at_141, rfl⟩
theorem D0_143 : Dec code 143 (.iload 10) 2 145 := ⟨at_143, rfl⟩
theorem D0_145 : Jmp code 145 (.ifCond .eq 26) 26 148 171 := ⟨at_145, rfl, by decide, by decide⟩
theorem D0_148 : Dec code 148 (.aload 7) 2 150 := ⟨at_148, rfl⟩
theorem D0_150 : Dec code 150 (.iconst 0) 1 151 := ⟨at_150, rfl⟩
theorem D0_151 : Dec code 151 .baload 1 152 := ⟨at_151, rfl⟩
theorem D0_152 : Dec code 152 (.iconst 0) 1 153 := ⟨at_152, rfl⟩
theorem D0_153 : Dec code 153 (.iload 5) 2 155 := ⟨at_153, rfl⟩
theorem D0_155 : Dec code 155 (.iload 9) 2 157 := ⟨at_155, rfl⟩
theorem D0_157 : Dec code 157 (.iload 4) 2 159 := ⟨at_157, rfl⟩
theorem D0_159 : Dec code 159 (.iload 6) 2 161 := ⟨at_159, rfl⟩
theorem D0_161 : Dec code 161 (.invokestatic 22) 3 164 := ⟨at_161, rfl⟩
theorem D0_164 : Jmp code 164 (.if_icmp .ne 7) 7 167 171 := ⟨at_164, rfl, by decide, by decide⟩
theorem D0_167 : Dec code 167 (.iconst 1) 1 168 := ⟨at_167, rfl⟩
theorem D0_168 : Jmp code 168 (.goto 4) 4 171 172 := ⟨at_168, rfl, by decide, by decide⟩
theorem D0_172 : Dec code 172 (.istore 10) 2 174 := ⟨at_172, rfl⟩
theorem D0_174 : Dec code 174 (.iload 10) 2 176 := ⟨at_174, rfl⟩
theorem D0_176 : Jmp code 176 (.ifCond .eq 26) 26 179 202 := ⟨at_176, rfl, by decide, by decide⟩
theorem D0_179 : Dec code 179 (.aload 7) 2 181 := ⟨at_179, rfl⟩
theorem D0_181 : Dec code 181 (.iconst 1) 1 182 := ⟨at_181, rfl⟩
theorem D0_182 : Dec code 182 .baload 1 183 := ⟨at_182, rfl⟩
theorem D0_183 : Dec code 183 (.iconst 1) 1 184 := ⟨at_183, rfl⟩
theorem D0_184 : Dec code 184 (.iload 5) 2 186 := ⟨at_184, rfl⟩
theorem D0_186 : Dec code 186 (.iload 9) 2 188 := ⟨at_186, rfl⟩
theorem D0_188 : Dec code 188 (.iload 4) 2 190 := ⟨at_188, rfl⟩
theorem D0_190 : Dec code 190 (.iload 6) 2 192 := ⟨at_190, rfl⟩
theorem D0_192 : Dec code 192 (.invokestatic 22) 3 195 := ⟨at_192, rfl⟩
theorem D0_195 : Jmp code 195 (.if_icmp .ne 7) 7 198 202 := ⟨at_195, rfl, by decide, by decide⟩
theorem D0_198 : Dec code 198 (.iconst 1) 1 199 := ⟨at_198, rfl⟩
theorem D0_199 : Jmp code 199 (.goto 4) 4 202 203 := ⟨at_199, rfl, by decide, by decide⟩
theorem D0_203 : Dec code 203 (.istore 10) 2 205 := ⟨at_203, rfl⟩
theorem D0_205 : Dec code 205 (.iload 10) 2 207 := ⟨at_205, rfl⟩
theorem D0_207 : Jmp code 207 (.ifCond .eq 26) 26 210 233 := ⟨at_207, rfl, by decide, by decide⟩
theorem D0_210 : Dec code 210 (.aload 7) 2 212 := ⟨at_210, rfl⟩
theorem D0_212 : Dec code 212 (.iconst 2) 1 213 := ⟨at_212, rfl⟩
theorem D0_213 : Dec code 213 .baload 1 214 := ⟨at_213, rfl⟩
theorem D0_214 : Dec code 214 (.iconst 2) 1 215 := ⟨at_214, rfl⟩
theorem D0_215 : Dec code 215 (.iload 5) 2 217 := ⟨at_215, rfl⟩
theorem D0_217 : Dec code 217 (.iload 9) 2 219 := ⟨at_217, rfl⟩
theorem D0_219 : Dec code 219 (.iload 4) 2 221 := ⟨at_219, rfl⟩
theorem D0_221 : Dec code 221 (.iload 6) 2 223 := ⟨at_221, rfl⟩
theorem D0_223 : Dec code 223 (.invokestatic 22) 3 226 := ⟨at_223, rfl⟩
theorem D0_226 : Jmp code 226 (.if_icmp .ne 7) 7 229 233 := ⟨at_226, rfl, by decide, by decide⟩
theorem D0_229 : Dec code 229 (.iconst 1) 1 230 := ⟨at_229, rfl⟩
theorem D0_230 : Jmp code 230 (.goto 4) 4 233 234 := ⟨at_230, rfl, by decide, by decide⟩
theorem D0_234 : Dec code 234 (.istore 10) 2 236 := ⟨at_234, rfl⟩
theorem D0_236 : Dec code 236 (.iload 10) 2 238 := ⟨at_236, rfl⟩
theorem D0_238 : Jmp code 238 (.ifCond .eq 26) 26 241 264 := ⟨at_238, rfl, by decide, by decide⟩
theorem D0_241 : Dec code 241 (.aload 7) 2 243 := ⟨at_241, rfl⟩
theorem D0_243 : Dec code 243 (.iconst 3) 1 244 := ⟨at_243, rfl⟩
theorem D0_244 : Dec code 244 .baload 1 245 := ⟨at_244, rfl⟩
theorem D0_245 : Dec code 245 (.iconst 3) 1 246 := ⟨at_245, rfl⟩
theorem D0_246 : Dec code 246 (.iload 5) 2 248 := ⟨at_246, rfl⟩
theorem D0_248 : Dec code 248 (.iload 9) 2 250 := ⟨at_248, rfl⟩
theorem D0_250 : Dec code 250 (.iload 4) 2 252 := ⟨at_250, rfl⟩
theorem D0_252 : Dec code 252 (.iload 6) 2 254 := ⟨at_252, rfl⟩
theorem D0_254 : Dec code 254 (.invokestatic 22) 3 257 := ⟨at_254, rfl⟩
theorem D0_257 : Jmp code 257 (.if_icmp .ne 7) 7 260 264 := ⟨at_257, rfl, by decide, by decide⟩
theorem D0_260 : Dec code 260 (.iconst 1) 1 261 := ⟨at_260, rfl⟩
theorem D0_261 : Jmp code 261 (.goto 4) 4 264 265 := ⟨at_261, rfl, by decide, by decide⟩
theorem D0_265 : Dec code 265 (.istore 10) 2 267 := ⟨at_265, rfl⟩
theorem D0_267 : Dec code 267 (.iload 10) 2 269 := ⟨at_267, rfl⟩
theorem D0_269 : Jmp code 269 (.ifCond .eq 26) 26 272 295 := ⟨at_269, rfl, by decide, by decide⟩
theorem D0_272 : Dec code 272 (.aload 7) 2 274 := ⟨at_272, rfl⟩
theorem D0_274 : Dec code 274 (.iconst 4) 1 275 := ⟨at_274, rfl⟩
theorem D0_275 : Dec code 275 .baload 1 276 := ⟨at_275, rfl⟩
theorem D0_276 : Dec code 276 (.iconst 4) 1 277 := ⟨at_276, rfl⟩
theorem D0_277 : Dec code 277 (.iload 5) 2 279 := ⟨at_277, rfl⟩
theorem D0_279 : Dec code 279 (.iload 9) 2 281 := ⟨at_279, rfl⟩
theorem D0_281 : Dec code 281 (.iload 4) 2 283 := ⟨at_281, rfl⟩
theorem D0_283 : Dec code 283 (.iload 6) 2 285 := ⟨at_283, rfl⟩
theorem D0_285 : Dec code 285 (.invokestatic 22) 3 288 := ⟨at_285, rfl⟩
theorem D0_288 : Jmp code 288 (.if_icmp .ne 7) 7 291 295 := ⟨at_288, rfl, by decide, by decide⟩
theorem D0_291 : Dec code 291 (.iconst 1) 1 292 := ⟨at_291, rfl⟩
theorem D0_292 : Jmp code 292 (.goto 4) 4 295 296 := ⟨at_292, rfl, by decide, by decide⟩
theorem D0_296 : Dec code 296 (.istore 10) 2 298 := ⟨at_296, rfl⟩
theorem D0_298 : Dec code 298 (.iload 10) 2 300 := ⟨at_298, rfl⟩
theorem D0_300 : Jmp code 300 (.ifCond .eq 26) 26 303 326 := ⟨at_300, rfl, by decide, by decide⟩
theorem D0_303 : Dec code 303 (.aload 7) 2 305 := ⟨at_303, rfl⟩
theorem D0_305 : Dec code 305 (.iconst 5) 1 306 := ⟨at_305, rfl⟩
theorem D0_306 : Dec code 306 .baload 1 307 := ⟨at_306, rfl⟩
theorem D0_307 : Dec code 307 (.iconst 5) 1 308 := ⟨at_307, rfl⟩
theorem D0_308 : Dec code 308 (.iload 5) 2 310 := ⟨at_308, rfl⟩
theorem D0_310 : Dec code 310 (.iload 9) 2 312 := ⟨at_310, rfl⟩
theorem D0_312 : Dec code 312 (.iload 4) 2 314 := ⟨at_312, rfl⟩
theorem D0_314 : Dec code 314 (.iload 6) 2 316 := ⟨at_314, rfl⟩
theorem D0_316 : Dec code 316 (.invokestatic 22) 3 319 := ⟨at_316, rfl⟩
theorem D0_319 : Jmp code 319 (.if_icmp .ne 7) 7 322 326 := ⟨at_319, rfl, by decide, by decide⟩
theorem D0_322 : Dec code 322 (.iconst 1) 1 323 := ⟨at_322, rfl⟩
theorem D0_323 : Jmp code 323 (.goto 4) 4 326 327 := ⟨at_323, rfl, by decide, by decide⟩
theorem D0_327 : Dec code 327 (.istore 10) 2 329 := ⟨at_327, rfl⟩
theorem D0_329 : Dec code 329 (.iload 10) 2 331 := ⟨at_329, rfl⟩
theorem D0_331 : Jmp code 331 (.ifCond .eq 28) 28 334 359 := ⟨at_331, rfl, by decide, by decide⟩
theorem D0_334 : Dec code 334 (.aload 7) 2 336 := ⟨at_334, rfl⟩
theorem D0_336 : Dec code 336 (.bipush 6) 2 338 := ⟨at_336, rfl⟩
theorem D0_338 : Dec code 338 .baload 1 339 := ⟨at_338, rfl⟩
theorem D0_339 : Dec code 339 (.bipush 6) 2 341 := ⟨at_339, rfl⟩
theorem D0_341 : Dec code 341 (.iload 5) 2 343 := ⟨at_341, rfl⟩
theorem D0_343 : Dec code 343 (.iload 9) 2 345 := ⟨at_343, rfl⟩
theorem D0_345 : Dec code 345 (.iload 4) 2 347 := ⟨at_345, rfl⟩
theorem D0_347 : Dec code 347 (.iload 6) 2 349 := ⟨at_347, rfl⟩
theorem D0_349 : Dec code 349 (.invokestatic 22) 3 352 := ⟨at_349, rfl⟩
theorem D0_352 : Jmp code 352 (.if_icmp .ne 7) 7 355 359 := ⟨at_352, rfl, by decide, by decide⟩
theorem D0_355 : Dec code 355 (.iconst 1) 1 356 := ⟨at_355, rfl⟩
theorem D0_356 : Jmp code 356 (.goto 4) 4 359 360 := ⟨at_356, rfl, by decide, by decide⟩
theorem D0_360 : Dec code 360 (.istore 10) 2 362 := ⟨at_360, rfl⟩
theorem D0_362 : Dec code 362 (.iload 10) 2 364 := ⟨at_362, rfl⟩
theorem D0_364 : Jmp code 364 (.ifCond .eq 28) 28 367 392 := ⟨at_364, rfl, by decide, by decide⟩
theorem D0_367 : Dec code 367 (.aload 7) 2 369 := ⟨at_367, rfl⟩
theorem D0_369 : Dec code 369 (.bipush 7) 2 371 := ⟨at_369, rfl⟩
theorem D0_371 : Dec code 371 .baload 1 372 := ⟨at_371, rfl⟩
theorem D0_372 : Dec code 372 (.bipush 7) 2 374 := ⟨at_372, rfl⟩
theorem D0_374 : Dec code 374 (.iload 5) 2 376 := ⟨at_374, rfl⟩
theorem D0_376 : Dec code 376 (.iload 9) 2 378 := ⟨at_376, rfl⟩
theorem D0_378 : Dec code 378 (.iload 4) 2 380 := ⟨at_378, rfl⟩
theorem D0_380 : Dec code 380 (.iload 6) 2 382 := ⟨at_380, rfl⟩
theorem D0_382 : Dec code 382 (.invokestatic 22) 3 385 := ⟨at_382, rfl⟩
theorem D0_385 : Jmp code 385 (.if_icmp .ne 7) 7 388 392 := ⟨at_385, rfl, by decide, by decide⟩
theorem D0_388 : Dec code 388 (.iconst 1) 1 389 := ⟨at_388, rfl⟩
theorem D0_389 : Jmp code 389 (.goto 4) 4 392 393 := ⟨at_389, rfl, by decide, by decide⟩
theorem D0_393 : Dec code 393 (.istore 10) 2 395 := ⟨at_393, rfl⟩
theorem D0_395 : Dec code 395 (.iload 10) 2 397 := ⟨at_395, rfl⟩
theorem D0_397 : Jmp code 397 (.ifCond .eq 28) 28 400 425 := ⟨at_397, rfl, by decide, by decide⟩
theorem D0_400 : Dec code 400 (.aload 7) 2 402 := ⟨at_400, rfl⟩
theorem D0_402 : Dec code 402 (.bipush 8) 2 404 := ⟨at_402, rfl⟩
theorem D0_404 : Dec code 404 .baload 1 405 := ⟨at_404, rfl⟩
theorem D0_405 : Dec code 405 (.bipush 8) 2 407 := ⟨at_405, rfl⟩
theorem D0_407 : Dec code 407 (.iload 5) 2 409 := ⟨at_407, rfl⟩
theorem D0_409 : Dec code 409 (.iload 9) 2 411 := ⟨at_409, rfl⟩
theorem D0_411 : Dec code 411 (.iload 4) 2 413 := ⟨at_411, rfl⟩
theorem D0_413 : Dec code 413 (.iload 6) 2 415 := ⟨at_413, rfl⟩
theorem D0_415 : Dec code 415 (.invokestatic 22) 3 418 := ⟨at_415, rfl⟩
theorem D0_418 : Jmp code 418 (.if_icmp .ne 7) 7 421 425 := ⟨at_418, rfl, by decide, by decide⟩
theorem D0_421 : Dec code 421 (.iconst 1) 1 422 := ⟨at_421, rfl⟩
theorem D0_422 : Jmp code 422 (.goto 4) 4 425 426 := ⟨at_422, rfl, by decide, by decide⟩
theorem D0_426 : Dec code 426 (.istore 10) 2 428 := ⟨at_426, rfl⟩
theorem D0_428 : Dec code 428 (.iload 10) 2 430 := ⟨at_428, rfl⟩
theorem D0_430 : Jmp code 430 (.ifCond .eq 28) 28 433 458 := ⟨at_430, rfl, by decide, by decide⟩
theorem D0_433 : Dec code 433 (.aload 7) 2 435 := ⟨at_433, rfl⟩
theorem D0_435 : Dec code 435 (.bipush 9) 2 437 := ⟨at_435, rfl⟩
theorem D0_437 : Dec code 437 .baload 1 438 := ⟨at_437, rfl⟩
theorem D0_438 : Dec code 438 (.bipush 9) 2 440 := ⟨at_438, rfl⟩
theorem D0_440 : Dec code 440 (.iload 5) 2 442 := ⟨at_440, rfl⟩
theorem D0_442 : Dec code 442 (.iload 9) 2 444 := ⟨at_442, rfl⟩
theorem D0_444 : Dec code 444 (.iload 4) 2 446 := ⟨at_444, rfl⟩
theorem D0_446 : Dec code 446 (.iload 6) 2 448 := ⟨at_446, rfl⟩
theorem D0_448 : Dec code 448 (.invokestatic 22) 3 451 := ⟨at_448, rfl⟩
theorem D0_451 : Jmp code 451 (.if_icmp .ne 7) 7 454 458 := ⟨at_451, rfl, by decide, by decide⟩
theorem D0_454 : Dec code 454 (.iconst 1) 1 455 := ⟨at_454, rfl⟩
theorem D0_455 : Jmp code 455 (.goto 4) 4 458 459 := ⟨at_455, rfl, by decide, by decide⟩
theorem D0_459 : Dec code 459 (.istore 10) 2 461 := ⟨at_459, rfl⟩
theorem D0_461 : Dec code 461 (.iload 10) 2 463 := ⟨at_461, rfl⟩
theorem D0_463 : Jmp code 463 (.ifCond .eq 28) 28 466 491 := ⟨at_463, rfl, by decide, by decide⟩
theorem D0_466 : Dec code 466 (.aload 7) 2 468 := ⟨at_466, rfl⟩
theorem D0_468 : Dec code 468 (.bipush 10) 2 470 := ⟨at_468, rfl⟩
theorem D0_470 : Dec code 470 .baload 1 471 := ⟨at_470, rfl⟩
theorem D0_471 : Dec code 471 (.bipush 10) 2 473 := ⟨at_471, rfl⟩
theorem D0_473 : Dec code 473 (.iload 5) 2 475 := ⟨at_473, rfl⟩
theorem D0_475 : Dec code 475 (.iload 9) 2 477 := ⟨at_475, rfl⟩
theorem D0_477 : Dec code 477 (.iload 4) 2 479 := ⟨at_477, rfl⟩
theorem D0_479 : Dec code 479 (.iload 6) 2 481 := ⟨at_479, rfl⟩
theorem D0_481 : Dec code 481 (.invokestatic 22) 3 484 := ⟨at_481, rfl⟩
theorem D0_484 : Jmp code 484 (.if_icmp .ne 7) 7 487 491 := ⟨at_484, rfl, by decide, by decide⟩
theorem D0_487 : Dec code 487 (.iconst 1) 1 488 := ⟨at_487, rfl⟩
theorem D0_488 : Jmp code 488 (.goto 4) 4 491 492 := ⟨at_488, rfl, by decide, by decide⟩
theorem D0_492 : Dec code 492 (.istore 10) 2 494 := ⟨at_492, rfl⟩
theorem D0_494 : Dec code 494 (.iload 10) 2 496 := ⟨at_494, rfl⟩
theorem D0_496 : Jmp code 496 (.ifCond .eq 28) 28 499 524 := ⟨at_496, rfl, by decide, by decide⟩
theorem D0_499 : Dec code 499 (.aload 7) 2 501 := ⟨at_499, rfl⟩
theorem D0_501 : Dec code 501 (.bipush 11) 2 503 := ⟨at_501, rfl⟩
theorem D0_503 : Dec code 503 .baload 1 504 := ⟨at_503, rfl⟩
theorem D0_504 : Dec code 504 (.bipush 11) 2 506 := ⟨at_504, rfl⟩
theorem D0_506 : Dec code 506 (.iload 5) 2 508 := ⟨at_506, rfl⟩
theorem D0_508 : Dec code 508 (.iload 9) 2 510 := ⟨at_508, rfl⟩
theorem D0_510 : Dec code 510 (.iload 4) 2 512 := ⟨at_510, rfl⟩
theorem D0_512 : Dec code 512 (.iload 6) 2 514 := ⟨at_512, rfl⟩
theorem D0_514 : Dec code 514 (.invokestatic 22) 3 517 := ⟨at_514, rfl⟩
theorem D0_517 : Jmp code 517 (.if_icmp .ne 7) 7 520 524 := ⟨at_517, rfl, by decide, by decide⟩
theorem D0_520 : Dec code 520 (.iconst 1) 1 521 := ⟨at_520, rfl⟩
theorem D0_521 : Jmp code 521 (.goto 4) 4 524 525 := ⟨at_521, rfl, by decide, by decide⟩
theorem D0_525 : Dec code 525 (.istore 10) 2 527 := ⟨at_525, rfl⟩
theorem D0_527 : Dec code 527 (.iload 10) 2 529 := ⟨at_527, rfl⟩
theorem D0_529 : Dec code 529 .ireturn 1 530 := ⟨at_529, rfl⟩
theorem D1_0 : Dec prog_8_method_10_code 0 (.iload_n 2) 1 1 := ⟨by decide +kernel, rfl⟩
theorem D1_1 : Dec prog_8_method_10_code 1 (.istore_n 3) 1 2 := ⟨by decide +kernel, rfl⟩
theorem D1_2 : Dec prog_8_method_10_code 2 (.iload_n 1) 1 3 := ⟨by decide +kernel, rfl⟩
theorem D1_3 : Dec prog_8_method_10_code 3 (.istore 4) 2 5 := ⟨by decide +kernel, rfl⟩
theorem D1_5 : Dec prog_8_method_10_code 5 (.iload_n 3) 1 6 := ⟨by decide +kernel, rfl⟩
theorem D1_6 : Dec prog_8_method_10_code 6 (.sipush 128) 3 9 := ⟨by decide +kernel, rfl⟩
theorem D1_9 : Jmp prog_8_method_10_code 9 (.if_icmp .lt 27) 27 12 36 := ⟨by decide +kernel, rfl, by decide, by decide⟩
theorem D1_12 : Dec prog_8_method_10_code 12 (.aload_n 0) 1 13 := ⟨by decide +kernel, rfl⟩
theorem D1_13 : Dec prog_8_method_10_code 13 (.iload 4) 2 15 := ⟨by decide +kernel, rfl⟩
theorem D1_15 : Dec prog_8_method_10_code 15 (.iinc 4 1) 3 18 := ⟨by decide +kernel, rfl⟩
theorem D1_18 : Dec prog_8_method_10_code 18 (.iload_n 3) 1 19 := ⟨by decide +kernel, rfl⟩
theorem D1_19 : Dec prog_8_method_10_code 19 (.bipush 127) 2 21 := ⟨by decide +kernel, rfl⟩
theorem D1_21 : Dec prog_8_method_10_code 21 .iand 1 22 := ⟨by decide +kernel, rfl⟩
theorem D1_22 : Dec prog_8_method_10_code 22 (.sipush 128) 3 25 := ⟨by decide +kernel, rfl⟩
theorem D1_25 : Dec prog_8_method_10_code 25 .ior 1 26 := ⟨by decide +kernel, rfl⟩
theorem D1_26 : Dec prog_8_method_10_code 26 .i2b 1 27 := ⟨by decide +kernel, rfl⟩
theorem D1_27 : Dec prog_8_method_10_code 27 .bastore 1 28 := ⟨by decide +kernel, rfl⟩
theorem D1_28 : Dec prog_8_method_10_code 28 (.iload_n 3) 1 29 := ⟨by decide +kernel, rfl⟩
theorem D1_29 : Dec prog_8_method_10_code 29 (.bipush 7) 2 31 := ⟨by decide +kernel, rfl⟩
theorem D1_31 : Dec prog_8_method_10_code 31 .iushr 1 32 := ⟨by decide +kernel, rfl⟩
theorem D1_32 : Dec prog_8_method_10_code 32 (.istore_n 3) 1 33 := ⟨by decide +kernel, rfl⟩
theorem D1_33 : Jmp prog_8_method_10_code 33 (.goto (-28)) (-28) 36 5 := ⟨by decide +kernel, rfl, by decide, by decide⟩
theorem D1_36 : Dec prog_8_method_10_code 36 (.aload_n 0) 1 37 := ⟨by decide +kernel, rfl⟩
theorem D1_37 : Dec prog_8_method_10_code 37 (.iload 4) 2 39 := ⟨by decide +kernel, rfl⟩
theorem D1_39 : Dec prog_8_method_10_code 39 (.iinc 4 1) 3 42 := ⟨by decide +kernel, rfl⟩
theorem D1_42 : Dec prog_8_method_10_code 42 (.iload_n 3) 1 43 := ⟨by decide +kernel, rfl⟩
theorem D1_43 : Dec prog_8_method_10_code 43 .i2b 1 44 := ⟨by decide +kernel, rfl⟩
theorem D1_44 : Dec prog_8_method_10_code 44 .bastore 1 45 := ⟨by decide +kernel, rfl⟩
theorem D1_45 : Dec prog_8_method_10_code 45 (.iload 4) 2 47 := ⟨by decide +kernel, rfl⟩
theorem D1_47 : Dec prog_8_method_10_code 47 .ireturn 1 48 := ⟨by decide +kernel, rfl⟩
theorem D2_0 : Dec method_2_code 0 (.iload_n 0) 1 1 := ⟨by decide +kernel, rfl⟩
theorem D2_1 : Dec method_2_code 1 (.sipush 128) 3 4 := ⟨by decide +kernel, rfl⟩
theorem D2_4 : Jmp method_2_code 4 (.if_icmp .ge 5) 5 7 9 := ⟨by decide +kernel, rfl, by decide, by decide⟩
theorem D2_7 : Dec method_2_code 7 (.iconst 1) 1 8 := ⟨by decide +kernel, rfl⟩
theorem D2_8 : Dec method_2_code 8 .ireturn 1 9 := ⟨by decide +kernel, rfl⟩
theorem D2_9 : Dec method_2_code 9 (.iload_n 0) 1 10 := ⟨by decide +kernel, rfl⟩
theorem D2_10 : Dec method_2_code 10 (.sipush 16384) 3 13 := ⟨by decide +kernel, rfl⟩
theorem D2_13 : Jmp method_2_code 13 (.if_icmp .ge 5) 5 16 18 := ⟨by decide +kernel, rfl, by decide, by decide⟩
theorem D2_16 : Dec method_2_code 16 (.iconst 2) 1 17 := ⟨by decide +kernel, rfl⟩
theorem D2_17 : Dec method_2_code 17 .ireturn 1 18 := ⟨by decide +kernel, rfl⟩
theorem D2_18 : Dec method_2_code 18 (.iload_n 0) 1 19 := ⟨by decide +kernel, rfl⟩
theorem D2_19 : Dec method_2_code 19 (.ldc 7) 2 21 := ⟨by decide +kernel, rfl⟩
theorem D2_21 : Jmp method_2_code 21 (.if_icmp .ge 5) 5 24 26 := ⟨by decide +kernel, rfl, by decide, by decide⟩
theorem D2_24 : Dec method_2_code 24 (.iconst 3) 1 25 := ⟨by decide +kernel, rfl⟩
theorem D2_25 : Dec method_2_code 25 .ireturn 1 26 := ⟨by decide +kernel, rfl⟩
theorem D2_26 : Dec method_2_code 26 (.iload_n 0) 1 27 := ⟨by decide +kernel, rfl⟩
theorem D2_27 : Dec method_2_code 27 (.ldc 8) 2 29 := ⟨by decide +kernel, rfl⟩
theorem D2_29 : Jmp method_2_code 29 (.if_icmp .ge 5) 5 32 34 := ⟨by decide +kernel, rfl, by decide, by decide⟩
theorem D2_32 : Dec method_2_code 32 (.iconst 4) 1 33 := ⟨by decide +kernel, rfl⟩
theorem D2_33 : Dec method_2_code 33 .ireturn 1 34 := ⟨by decide +kernel, rfl⟩
theorem D2_34 : Dec method_2_code 34 (.iconst 5) 1 35 := ⟨by decide +kernel, rfl⟩
theorem D2_35 : Dec method_2_code 35 .ireturn 1 36 := ⟨by decide +kernel, rfl⟩
theorem D3_0 : Dec method_3_code 0 (.iload_n 0) 1 1 := ⟨by decide +kernel, rfl⟩
theorem D3_1 : Dec method_3_code 1 (.iload_n 1) 1 2 := ⟨by decide +kernel, rfl⟩
theorem D3_2 : Jmp method_3_code 2 (.if_icmp .lt 10) 10 5 12 := ⟨by decide +kernel, rfl, by decide, by decide⟩
theorem D3_5 : Dec method_3_code 5 (.iload_n 0) 1 6 := ⟨by decide +kernel, rfl⟩
theorem D3_6 : Dec method_3_code 6 (.iload_n 1) 1 7 := ⟨by decide +kernel, rfl⟩
theorem D3_7 : Dec method_3_code 7 (.iload_n 2) 1 8 := ⟨by decide +kernel, rfl⟩
theorem D3_8 : Dec method_3_code 8 .iadd 1 9 := ⟨by decide +kernel, rfl⟩
theorem D3_9 : Jmp method_3_code 9 (.if_icmp .lt 6) 6 12 15 := ⟨by decide +kernel, rfl, by decide, by decide⟩
theorem D3_12 : Dec method_3_code 12 (.iload 4) 2 14 := ⟨by decide +kernel, rfl⟩
theorem D3_14 : Dec method_3_code 14 .ireturn 1 15 := ⟨by decide +kernel, rfl⟩
theorem D3_15 : Dec method_3_code 15 (.iload_n 0) 1 16 := ⟨by decide +kernel, rfl⟩
theorem D3_16 : Dec method_3_code 16 (.iload_n 1) 1 17 := ⟨by decide +kernel, rfl⟩
theorem D3_17 : Dec method_3_code 17 .isub 1 18 := ⟨by decide +kernel, rfl⟩
theorem D3_18 : Dec method_3_code 18 (.istore 5) 2 20 := ⟨by decide +kernel, rfl⟩
theorem D3_20 : Dec method_3_code 20 (.iload_n 3) 1 21 := ⟨by decide +kernel, rfl⟩
theorem D3_21 : Dec method_3_code 21 (.bipush 7) 2 23 := ⟨by decide +kernel, rfl⟩
theorem D3_23 : Dec method_3_code 23 (.iload 5) 2 25 := ⟨by decide +kernel, rfl⟩
theorem D3_25 : Dec method_3_code 25 .imul 1 26 := ⟨by decide +kernel, rfl⟩
theorem D3_26 : Dec method_3_code 26 .iushr 1 27 := ⟨by decide +kernel, rfl⟩
theorem D3_27 : Dec method_3_code 27 (.bipush 127) 2 29 := ⟨by decide +kernel, rfl⟩
theorem D3_29 : Dec method_3_code 29 .iand 1 30 := ⟨by decide +kernel, rfl⟩
theorem D3_30 : Dec method_3_code 30 (.istore 6) 2 32 := ⟨by decide +kernel, rfl⟩
theorem D3_32 : Dec method_3_code 32 (.iload 5) 2 34 := ⟨by decide +kernel, rfl⟩
theorem D3_34 : Dec method_3_code 34 (.iload_n 2) 1 35 := ⟨by decide +kernel, rfl⟩
theorem D3_35 : Dec method_3_code 35 (.iconst 1) 1 36 := ⟨by decide +kernel, rfl⟩
theorem D3_36 : Dec method_3_code 36 .isub 1 37 := ⟨by decide +kernel, rfl⟩
theorem D3_37 : Jmp method_3_code 37 (.if_icmp .ge 11) 11 40 48 := ⟨by decide +kernel, rfl, by decide, by decide⟩
theorem D3_40 : Dec method_3_code 40 (.iload 6) 2 42 := ⟨by decide +kernel, rfl⟩
theorem D3_42 : Dec method_3_code 42 (.sipush 128) 3 45 := ⟨by decide +kernel, rfl⟩
theorem D3_45 : Dec method_3_code 45 .ior 1 46 := ⟨by decide +kernel, rfl⟩
theorem D3_46 : Dec method_3_code 46 (.istore 6) 2 48 := ⟨by decide +kernel, rfl⟩
theorem D3_48 : Dec method_3_code 48 (.iload 6) 2 50 := ⟨by decide +kernel, rfl⟩
theorem D3_50 : Dec method_3_code 50 .i2b 1 51 := ⟨by decide +kernel, rfl⟩
theorem D3_51 : Dec method_3_code 51 .ireturn 1 52 := ⟨by decide +kernel, rfl⟩
theorem pd_0 : parseMethodDescriptor "([BII)I" = some ⟨[(.array .byte), .int, .int], some .int⟩ := by decide +kernel
theorem pd_1 : parseMethodDescriptor "(I)I" = some ⟨[.int], some .int⟩ := by decide +kernel
theorem pd_2 : parseMethodDescriptor "(IIIIB)B" = some ⟨[.int, .int, .int, .int, .byte], some .byte⟩ := by decide +kernel
section OwnNums
theorem n_bv (a : Nat) : (Int32.ofNat a).toBitVec = BitVec.ofNat 32 a := rfl
theorem eq_mod {x y : Int32} (h : (x.toInt - y.toInt) % 4294967296 = 0) : x = y := Int32.toInt_inj.mp (by have := rng32 x; have := rng32 y; omega)
theorem eq_modL {x y : Int64} (h : (x.toInt - y.toInt) % 18446744073709551616 = 0) : x = y := Int64.toInt_inj.mp (by have := rng64 x; have := rng64 y; omega)
theorem n_add (a b : Nat) : Int32.ofNat a + Int32.ofNat b = Int32.ofNat (a + b) := (Int32.ofNat_add a b).symm
theorem n_mul (a b : Nat) : Int32.ofNat a * Int32.ofNat b = Int32.ofNat (a * b) := (Int32.ofNat_mul a b).symm
theorem n_sub {a b : Nat} (h : b ≤ a) : Int32.ofNat a - Int32.ofNat b = Int32.ofNat (a - b) := by
  have := n_add (a - b) b
  rw [Nat.sub_add_cancel h] at this
  rw [← this, Int32.add_sub_cancel]
theorem n_and (a b : Nat) : Int32.ofNat a &&& Int32.ofNat b = Int32.ofNat (a &&& b) := by
  apply Int32.toBitVec_inj.mp
  rw [Int32.toBitVec_and, n_bv, n_bv, n_bv]
  exact BitVec.ofNat_and.symm
theorem n_or (a b : Nat) : Int32.ofNat a ||| Int32.ofNat b = Int32.ofNat (a ||| b) := by
  apply Int32.toBitVec_inj.mp
  rw [Int32.toBitVec_or, n_bv, n_bv, n_bv]
  exact BitVec.ofNat_or.symm
theorem n_q {k : Nat} (hk : k < 32) : (Int32.ofNat k).toBitVec.toNat % 32 = k := by
  rw [n_bv, BitVec.toNat_ofNat]; omega
theorem n_q64 {k : Nat} (hk : k < 64) : (Int32.ofNat k).toBitVec.toNat % 64 = k := by
  rw [n_bv, BitVec.toNat_ofNat]; omega
theorem toInt_mod (a : Nat) : ((Int32.ofNat a).toInt - a) % 4294967296 = 0 := by
  have h := bm32 (((BitVec.ofNat 32 a).toNat : Nat) : Int)
  rw [show (Int32.ofNat a).toInt = (BitVec.ofNat 32 a).toInt from rfl, BitVec.toInt_eq_toNat_bmod]
  rw [BitVec.toNat_ofNat] at *
  generalize Int.bmod ((a % 2 ^ 32 : Nat) : Int) (2 ^ 32) = w1 at *
  omega
theorem n_inj {a b : Nat} (ha : a < 2147483648) (hb : b < 2147483648) : Int32.ofNat a = Int32.ofNat b ↔ a = b := ⟨fun h => by have := congrArg Int32.toInt h; rw [ofNat_toInt ha, ofNat_toInt hb] at this; omega, fun h => by rw [h]⟩
theorem n_shl (a : Nat) {k : Nat} (hk : k < 32) : jshl (Int32.ofNat a) (Int32.ofNat k) = Int32.ofNat (a * 2 ^ k) := by
  apply eq_mod
  have h1 : ((jshl (Int32.ofNat a) (Int32.ofNat k)).toInt - (Int32.ofNat a).toInt * ((2 ^ k : Nat) : Int)) % 4294967296 = 0 := c_ishl (Int32.ofNat a) (Int32.ofNat k) k (n_q hk)
  generalize (jshl (Int32.ofNat a) (Int32.ofNat k)).toInt = w1 at *
  have h2 := toInt_mod (a * 2 ^ k)
  have h3 := toInt_mod a
  obtain ⟨q, hq⟩ := Int.dvd_of_emod_eq_zero h3
  have h4 : (Int32.ofNat a).toInt * ((2 ^ k : Nat) : Int) - ((a * 2 ^ k : Nat) : Int) = 4294967296 * (q * ((2 ^ k : Nat) : Int)) := by
    rw [Int.natCast_mul, ← Int.sub_mul, hq, Int.mul_assoc]
  omega
theorem n_ushr0 (x : Int32) : jushr x 0 = x := by
  apply Int32.toBitVec_inj.mp
  simp [jushr]
theorem n_ushr {a k : Nat} (ha : a < 2147483648) (hk : k < 32) : jushr (Int32.ofNat a) (Int32.ofNat k) = Int32.ofNat (a / 2 ^ k) := by
  rcases Nat.eq_zero_or_pos k with rfl | h0
  · rw [Nat.pow_zero, Nat.div_one]; exact n_ushr0 _
  · have hd : a / 2 ^ k ≤ a := Nat.div_le_self _ _
    refine eq_ofNat (by omega) ?_
    rw [c_iushr (Int32.ofNat a) (Int32.ofNat k) k (n_q hk) h0, ofNat_toInt ha, show ((a : Int) % 4294967296) = a by omega]
    exact (Int.natCast_ediv _ _).symm
theorem n_shr {a k : Nat} (ha : a < 2147483648) (hk : k < 32) : jshr (Int32.ofNat a) (Int32.ofNat k) = Int32.ofNat (a / 2 ^ k) := by
  have hd : a / 2 ^ k ≤ a := Nat.div_le_self _ _
  refine eq_ofNat (by omega) ?_
  rw [c_ishr (Int32.ofNat a) (Int32.ofNat k) k (n_q hk), ofNat_toInt ha]
  exact (Int.natCast_ediv _ _).symm
theorem n_low (a k : Nat) : Int32.ofNat a &&& Int32.ofNat (2 ^ k - 1) = Int32.ofNat (a % 2 ^ k) := by rw [n_and, Nat.and_two_pow_sub_one_eq_mod]
theorem n_orlow (a : Nat) {i t : Nat} (ht : t < 2 ^ i) : Int32.ofNat (2 ^ i * a) ||| Int32.ofNat t = Int32.ofNat (2 ^ i * a + t) := by rw [n_or, Nat.two_pow_add_eq_or_of_lt ht]
theorem n_rem {a k : Nat} (ha : a < 2147483648) (h1 : 0 < k) (hk : k < 2147483648) : Int32.ofNat a % Int32.ofNat k = Int32.ofNat (a % k) := by
  have hm := Nat.mod_lt a h1
  refine eq_ofNat (by omega) ?_
  rw [(c_irem (Int32.ofNat a) (Int32.ofNat k) k (ofNat_toInt hk)).1 (by rw [ofNat_toInt ha]; omega), ofNat_toInt ha]
  exact (Int.natCast_emod _ _).symm
theorem n_nn (x : Int32) (h : 0 ≤ x.toInt) : ∃ u : Nat, u < 2147483648 ∧ x = Int32.ofNat u := by
  have := rng32 x
  exact ⟨x.toInt.toNat, by omega, eq_ofNat (by omega) (by omega)⟩
theorem n_mask31 (x : Int32) : ∃ u : Nat, u < 2147483648 ∧ x &&& 2147483647 = Int32.ofNat u := n_nn _ (c_and x 2147483647 (by decide)).1
theorem n_mask (x : Int32) (k : Nat) (hk : k ≤ 31) {m : Int32} (hm : m.toBitVec.toNat = 2 ^ k - 1) : x &&& m = Int32.ofNat ((x.toInt % (2 ^ k : Nat)).toNat) := by
  have h1 : (0 : Int) < ((2 ^ k : Nat) : Int) := by
    have := Nat.two_pow_pos k
    omega
  have h2 : ((2 ^ k : Nat) : Int) ≤ 2147483648 := by
    have : 2 ^ k ≤ 2147483648 := Nat.pow_le_pow_right (n := 2) (by decide) hk
    omega
  have h3 := Int.emod_nonneg x.toInt (Int.ne_of_gt h1)
  have h4 := Int.emod_lt_of_pos x.toInt h1
  exact eq_ofNat (by omega) (by rw [c_mask x m k hk hm]; omega)
theorem jbyte_idem (x : Int32) : jbyte (jbyte x) = jbyte x := by
  have h1 := c_i2b x
  have h2 := c_i2b (jbyte x)
  exact Int32.toInt_inj.mp (by simp only [jbyte] at *; omega)
theorem jbyte_and (x : Int32) (k : Nat) (hk : k ≤ 8) {m : Int32} (hm : m.toBitVec.toNat = 2 ^ k - 1) : jbyte x &&& m = x &&& m := by
  have h1 := (c_i2b x).1
  apply Int32.toInt_inj.mp
  rw [c_mask _ m k (by omega) hm, c_mask _ m k (by omega) hm]
  have : ∃ c : Nat, 256 = 2 ^ k * c := ⟨2 ^ (8 - k), by rw [← Nat.pow_add, show k + (8 - k) = 8 by omega]⟩
  obtain ⟨c, hc⟩ := this
  obtain ⟨q, hq⟩ := Int.dvd_of_emod_eq_zero h1
  have h2 : (jbyte x).toInt = x.toInt + ((2 ^ k : Nat) : Int) * ((c : Int) * q) := by
    have h3 : (256 : Int) = ((2 ^ k : Nat) : Int) * (c : Int) := by rw [← Int.natCast_mul, ← hc]; rfl
    rw [h3, Int.mul_assoc] at hq
    simp only [jbyte]; omega
  rw [h2, Int.add_mul_emod_self_left]
end OwnNums

/-- putLength on the array's values -/
def pl : Nat → (Nat → Int32) → Nat → Nat → (Nat → Int32)
  | 0, g, A, u => upd g A (jbyte (jbyte (Int32.ofNat u)))
  | n + 1, g, A, u => if u < 128 then upd g A (jbyte (jbyte (Int32.ofNat u))) else pl n (upd g A (jbyte (jbyte ((Int32.ofNat u &&& 127) ||| 128)))) (A + 1) (u / 128)
/-- how many bytes it writes -/
def sz : Nat → Nat → Nat
  | 0, _ => 1
  | n + 1, u => if u < 128 then 1 else sz n (u / 128) + 1
theorem sz_pos : ∀ n u, 1 ≤ sz n u
  | 0, _ => Nat.le_refl _
  | n + 1, u => by rw [sz]; split <;> omega
/-- the k-th of N bytes -/
def dig (u k N : Nat) : Int32 := if k + 1 < N then (Int32.ofNat (u / 128 ^ k) &&& 127) ||| 128 else Int32.ofNat (u / 128 ^ k) &&& 127
theorem and127 {u : Nat} (h : u < 128) : Int32.ofNat u &&& 127 = Int32.ofNat u := by
  have := n_and u 127
  rw [show u &&& 127 = u from (Nat.and_two_pow_sub_one_eq_mod u 7).trans (Nat.mod_eq_of_lt h)] at this
  exact this
theorem pl_at : ∀ (n : Nat) (g : Nat → Int32) (A u I : Nat), u < 128 ^ (n + 1) → pl n g A u I = if I < A ∨ A + sz n u ≤ I then g I else jbyte (jbyte (dig u (I - A) (sz n u))) := by
  intro n
  have base : ∀ (g : Nat → Int32) (A u I : Nat), u < 128 → upd g A (jbyte (jbyte (Int32.ofNat u))) I = if I < A ∨ A + 1 ≤ I then g I else jbyte (jbyte (dig u (I - A) 1)) := by
    intro g A u I hu
    by_cases hI : I = A
    · subst hI
      rw [upd_at, if_neg (by omega), dig, if_neg (by omega), Nat.sub_self, Nat.pow_zero, Nat.div_one, and127 hu]
    · rw [upd_ne _ _ hI, if_pos (by omega)]
  induction n with
  | zero => intro g A u I hu; exact base g A u I (by simpa using hu)
  | succ n ih =>
    intro g A u I hu
    by_cases h1 : u < 128
    · rw [pl, if_pos h1, sz, if_pos h1]; exact base g A u I h1
    · rw [Nat.pow_succ] at hu
      have hp := sz_pos n (u / 128)
      rw [pl, if_neg h1, sz, if_neg h1, ih _ _ _ _ (by omega)]
      by_cases hA : I < A
      · rw [if_pos (by omega), if_pos (by omega), upd_ne _ _ (by omega)]
      · by_cases hI : I = A
        · subst hI
          rw [if_pos (by omega), if_neg (by omega), upd_at, dig, if_pos (by omega), Nat.sub_self, Nat.pow_zero, Nat.div_one]
        · by_cases h2 : A + 1 + sz n (u / 128) ≤ I
          · rw [if_pos (by omega), if_pos (by omega), upd_ne _ _ hI]
          · rw [if_neg (by omega), if_neg (by omega)]
            have e1 : u / 128 / 128 ^ (I - (A + 1)) = u / 128 ^ (I - A) := by
              rw [Nat.div_div_eq_div_mul, show I - A = (I - (A + 1)) + 1 by omega, Nat.pow_succ, Nat.mul_comm]
            simp only [dig, e1]
            by_cases h3 : I - A + 1 < sz n (u / 128) + 1
            · rw [if_pos h3, if_pos (by omega)]
            · rw [if_neg h3, if_neg (by omega)]
/-- what the law expects at place I -/
def ex (I A N u : Nat) (f : Int32) : Int32 := if I < A ∨ A + N ≤ I then jbyte f else jbyte (jbyte (dig u (I - A) N))
theorem own_check (I A u : Nat) (f : Int32) (hu : u < 2147483648) : pl 4 (fun _ => jbyte f) A u I = ex I A (sz 4 u) u f := by
  rw [pl_at 4 _ A u I (by omega)]; rfl
theorem own_len (x q : Int32) : ∃ u : Nat, u < 2147483648 ∧ jushr (x &&& 2147483647) (q &&& 31) = Int32.ofNat u := by
  obtain ⟨v, hv, ev⟩ := n_mask31 x
  have e1 := n_mask q 5 (by decide) (m := 31) (by decide)
  have hk : (q.toInt % (2 ^ 5 : Nat)).toNat < 32 := by omega
  rw [ev, e1, n_ushr hv hk]
  exact ⟨_, Nat.lt_of_le_of_lt (Nat.div_le_self _ _) hv, rfl⟩
theorem own_at (x : Int32) : ∃ A : Nat, A < 8 ∧ (x &&& 2147483647) % 8 = Int32.ofNat A := by
  obtain ⟨v, hv, ev⟩ := n_mask31 x
  have e1 := n_rem (k := 8) hv (by decide) (by decide)
  exact ⟨v % 8, Nat.mod_lt _ (by decide), by rw [ev]; exact e1⟩
theorem own_end (u A : Nat) (hu : u < 2147483648) : sz 4 u = if u < 128 then 1 else if u < 16384 then 2 else if u < 2097152 then 3 else if u < 268435456 then 4 else 5 := by
  simp only [sz]
  repeat' split
  all_goals first | rfl | omega
set_option maxRecDepth 65536 in
set_option maxHeartbeats 40000000 in
theorem loop1 {Z : State} {a0 : Array Value} {n0 : Nat} {p : Program} {l : Launch} {e : Env} {R : Room} {s : State} {m : MethodId} {args : Array Value} {below : List Frame} {meth : Method} {c : Code} {k j : Nat} {Q : Option Value → Heap → Prop} (hk : k ≤ R.cells) (hj : j ≤ R.slots) (a : Addr) (at0 ln0 : Int32) (N : Nat) : ∀ (n A u : Nat) (g : Nat → Int32) (T : State) (h : Heap), u < 128 ^ (n + 1) → u < 2147483648 → A + n < N → A + n < 1000 → Pos Z a0 n0 p l e R s m args below meth c prog_8_method_10_code 5 (some .int) (⟨"foldmill/MapOutput", "putLength", "([BII)I"⟩ : MethodName) T h k j → Ba Z n0 h a .byte N (bI g) →
    (∀ h', Keep h h' [a] → Ba Z n0 h' a .byte N (bI (pl n g A u)) → Q (some (.int (Int32.ofNat (A + sz n u)))) h') → Wp n0 p e R s below Q T (mkF m 5 #[.val (.ref a), .val (.int at0), .val (.int ln0), .val (.int (Int32.ofNat u)), .val (.int (Int32.ofNat A))] []) := by
  intro n
  induction n with
  | zero =>
    intro A u g T h hu hu' hA hA' X B q
    have hu1 : u < 128 := by simpa using hu
    refine w_iloadN X D1_5 rfl ?_
    refine w_sipush X D1_6 (v := (128 : Int32)) rfl ?_
    refine w_icmplt X D1_9 (fun hc9 => ?_) (fun hc9 => by exact absurd ((ofNat_lt (b := 128) hu' (by decide)).mpr hu1) hc9)
    refine w_aloadN X D1_36 rfl rfl ?_
    refine w_iload X D1_37 rfl ?_
    refine w_iinc X D1_39 (d := (1 : Int32)) (r := (Int32.ofNat (A + 1))) (l' := #[.val (.ref a), .val (.int at0), .val (.int ln0), .val (.int (Int32.ofNat u)), .val (.int (Int32.ofNat (A + 1)))]) rfl rfl (n_add A 1) rfl ?_
    refine w_iloadN X D1_42 rfl ?_
    refine w_i2b X D1_43 ?_
    refine w_bastore X D1_44 B A rfl (by omega) (fun T1 h1 X1 K1 B1 => ?_)
    refine w_iload X1 D1_45 rfl ?_
    exact w_ireturn X1 D1_47 hk hj (q _ K1 B1)
  | succ n ih =>
    intro A u g T h hu hu' hA hA' X B q
    rw [Nat.pow_succ] at hu
    refine w_iloadN X D1_5 rfl ?_
    refine w_sipush X D1_6 (v := (128 : Int32)) rfl ?_
    refine w_icmplt X D1_9 (fun hc9 => ?_) (fun hc9 => ?_)
    · refine w_aloadN X D1_36 rfl rfl ?_
      refine w_iload X D1_37 rfl ?_
      refine w_iinc X D1_39 (d := (1 : Int32)) (r := (Int32.ofNat (A + 1))) (l' := #[.val (.ref a), .val (.int at0), .val (.int ln0), .val (.int (Int32.ofNat u)), .val (.int (Int32.ofNat (A + 1)))]) rfl rfl (n_add A 1) rfl ?_
      refine w_iloadN X D1_42 rfl ?_
      refine w_i2b X D1_43 ?_
      refine w_bastore X D1_44 B A rfl (by omega) (fun T1 h1 X1 K1 B1 => ?_)
      refine w_iload X1 D1_45 rfl ?_
      exact w_ireturn X1 D1_47 hk hj (by
                have hu1 : u < 128 := (ofNat_lt (b := 128) hu' (by decide)).mp hc9
                have q' := q _ K1
                rw [pl, if_pos hu1, sz, if_pos hu1] at q'
                exact q' B1)
    · refine w_aloadN X D1_12 rfl rfl ?_
      refine w_iload X D1_13 rfl ?_
      refine w_iinc X D1_15 (d := (1 : Int32)) (r := (Int32.ofNat (A + 1))) (l' := #[.val (.ref a), .val (.int at0), .val (.int ln0), .val (.int (Int32.ofNat u)), .val (.int (Int32.ofNat (A + 1)))]) rfl rfl (n_add A 1) rfl ?_
      refine w_iloadN X D1_18 rfl ?_
      refine w_bipush X D1_19 (v := (127 : Int32)) rfl ?_
      refine w_iand X D1_21 ?_
      refine w_sipush X D1_22 (v := (128 : Int32)) rfl ?_
      refine w_ior X D1_25 ?_
      refine w_i2b X D1_26 ?_
      refine w_bastore X D1_27 B A rfl (by omega) (fun T2 h2 X2 K2 B2 => ?_)
      refine w_iloadN X2 D1_28 rfl ?_
      refine w_bipush X2 D1_29 (v := (7 : Int32)) rfl ?_
      refine w_iushr X2 D1_31 ?_
      refine w_istoreN X2 D1_32 (l' := #[.val (.ref a), .val (.int at0), .val (.int ln0), .val (.int (jushr (Int32.ofNat u) (7 : Int32))), .val (.int (Int32.ofNat (A + 1)))]) rfl ?_
      refine w_goto X2 D1_33 ?_
      rw [show jushr (Int32.ofNat u) 7 = Int32.ofNat (u / 128) from n_ushr hu' (k := 7) (by decide)]
      have hu1 : ¬ u < 128 := fun q => hc9 ((ofNat_lt (b := 128) hu' (by decide)).mpr q)
      refine ih (A + 1) (u / 128) _ T2 h2 (by omega) (by omega) (by omega) (by omega) X2 B2 (fun h' K B => ?_)
      have q' := q h' (K2.trans K (fun x hx => Or.inl hx))
      rw [pl, if_neg hu1, sz, if_neg hu1, show A + (sz n (u / 128) + 1) = A + 1 + sz n (u / 128) by omega] at q'
      exact q' B
theorem ef_1 (m : MethodId) (a : Addr) (at0 : Int32) (ln0 : Int32) : entryFrame m #[(.ref a), (.int at0), (.int ln0)] 5 = mkF m 0 #[.val (.ref a), .val (.int at0), .val (.int ln0), .unset, .unset] [] := by first | (simp [entryFrame, mkF, argsToLocals, Value.category]; done) | rfl
theorem pn_1 : plainName "foldmill/MapOutput" = true := by first | (simp [plainName, overriddenIn]; done) | decide +kernel
set_option maxRecDepth 65536 in
set_option maxHeartbeats 40000000 in
theorem rm1 {l : Launch} {Z : State} {a0 : Array Value} {n0 : Nat} {h : Heap} (hw : ∀ d ∈ tables_1, d.before a0 Z = true) (hn : n0 ≤ h.size) (a : Addr) (at0 : Int32) (ln0 : Int32) (A u : Nat) (g : Nat → Int32) (eA : at0 = Int32.ofNat A) (eu : ln0 = Int32.ofNat u) (hA : A < 8) (hu : u < 2147483648) (B : Ba Z n0 h a .byte 12 (bI g)) :
    Ctr l Z n0 (⟨"foldmill/MapOutput", "putLength", "([BII)I"⟩ : MethodName) prog_8_method_10_code 5 (some .int) ({ frames := 0, cells := 0, slots := 0, locals := 0 } : Room) [] #[(.ref a), (.int at0), (.int ln0)] h (fun v h' => v = some (.int (Int32.ofNat (A + sz 4 u))) ∧ Keep h h' [a] ∧ Ba Z n0 h' a .byte 12 (bI (pl 4 g A u))) := by
  refine ctr_of (plainFor_of_name pn_1) hw hn ?_
  intro p e s m below meth c T X
  refine Wp.cast (ef_1 m a at0 ln0) ?_
  subst eA eu
  refine w_iloadN X D1_0 rfl ?_
  refine w_istoreN X D1_1 (l' := #[.val (.ref a), .val (.int (Int32.ofNat A)), .val (.int (Int32.ofNat u)), .val (.int (Int32.ofNat u)), .unset]) rfl ?_
  refine w_iloadN X D1_2 rfl ?_
  refine w_istore X D1_3 (l' := #[.val (.ref a), .val (.int (Int32.ofNat A)), .val (.int (Int32.ofNat u)), .val (.int (Int32.ofNat u)), .val (.int (Int32.ofNat A))]) rfl ?_
  exact loop1 (by decide) (by decide) a _ _ 12 4 A u g T h (by omega) hu (by omega) (by omega) X B (fun h' K B => ⟨rfl, K, B⟩)
theorem ef_2 (m : MethodId) (ln : Int32) : entryFrame m #[(.int ln)] 1 = mkF m 0 #[.val (.int ln)] [] := by first | (simp [entryFrame, mkF, argsToLocals, Value.category]; done) | rfl
theorem pn_2 : plainName "foldmill/MapOutputPutLengthPinLaw" = true := by first | (simp [plainName, overriddenIn]; done) | decide +kernel
set_option maxRecDepth 65536 in
set_option maxHeartbeats 40000000 in
theorem rm2 {l : Launch} {Z : State} {a0 : Array Value} {n0 : Nat} {h : Heap} (hw : ∀ d ∈ tables_1, d.before a0 Z = true) (hn : n0 ≤ h.size) (ln : Int32) (u : Nat) (hu : u < 2147483648) (eu : ln = Int32.ofNat u) :
    Ctr l Z n0 (⟨"foldmill/MapOutputPutLengthPinLaw", "size", "(I)I"⟩ : MethodName) method_2_code 1 (some .int) ({ frames := 0, cells := 0, slots := 0, locals := 0 } : Room) [] #[(.int ln)] h (fun v h' => v = some (.int (Int32.ofNat (sz 4 u))) ∧ h = h') := by
  refine ctr_of (plainFor_of_name pn_2) hw hn ?_
  intro p e s m below meth c T X
  refine Wp.cast (ef_2 m ln) ?_
  subst eu
  refine w_iloadN X D2_0 rfl ?_
  refine w_sipush X D2_1 (v := (128 : Int32)) rfl ?_
  refine w_icmpge X D2_4 (fun hc4 => ?_) (fun hc4 => ?_)
  · refine w_iloadN X D2_9 rfl ?_
    refine w_sipush X D2_10 (v := (16384 : Int32)) rfl ?_
    refine w_icmpge X D2_13 (fun hc13 => ?_) (fun hc13 => ?_)
    · refine w_iloadN X D2_18 rfl ?_
      refine w_ldc X D2_19 (hw _ (List.mem_of_getElem? (i := 13) rfl)) ?_
      refine w_icmpge X D2_21 (fun hc21 => ?_) (fun hc21 => ?_)
      · refine w_iloadN X D2_26 rfl ?_
        refine w_ldc X D2_27 (hw _ (List.mem_of_getElem? (i := 14) rfl)) ?_
        refine w_icmpge X D2_29 (fun hc29 => ?_) (fun hc29 => ?_)
        · refine w_iconst X D2_34 (v := (5 : Int32)) rfl ?_
          exact w_ireturn X D2_35 (by decide) (by decide) (⟨by
                        have f4 : ¬ u < 128 := fun z => hc4 ((ofNat_lt (b := 128) hu (by decide)).mpr z)
                        have f13 : ¬ u < 16384 := fun z => hc13 ((ofNat_lt (b := 16384) hu (by decide)).mpr z)
                        have f21 : ¬ u < 2097152 := fun z => hc21 ((ofNat_lt (b := 2097152) hu (by decide)).mpr z)
                        have f29 : ¬ u < 268435456 := fun z => hc29 ((ofNat_lt (b := 268435456) hu (by decide)).mpr z)
                        rw [own_end u 0 hu]
                        simp only [f4, f13, f21, f29, if_true, if_false]
                        rfl, rfl⟩)
        · refine w_iconst X D2_32 (v := (4 : Int32)) rfl ?_
          exact w_ireturn X D2_33 (by decide) (by decide) (⟨by
                        have f4 : ¬ u < 128 := fun z => hc4 ((ofNat_lt (b := 128) hu (by decide)).mpr z)
                        have f13 : ¬ u < 16384 := fun z => hc13 ((ofNat_lt (b := 16384) hu (by decide)).mpr z)
                        have f21 : ¬ u < 2097152 := fun z => hc21 ((ofNat_lt (b := 2097152) hu (by decide)).mpr z)
                        have f29 := (ofNat_lt (b := 268435456) hu (by decide)).mp hc29
                        rw [own_end u 0 hu]
                        simp only [f4, f13, f21, f29, if_true, if_false]
                        rfl, rfl⟩)
      · refine w_iconst X D2_24 (v := (3 : Int32)) rfl ?_
        exact w_ireturn X D2_25 (by decide) (by decide) (⟨by
                    have f4 : ¬ u < 128 := fun z => hc4 ((ofNat_lt (b := 128) hu (by decide)).mpr z)
                    have f13 : ¬ u < 16384 := fun z => hc13 ((ofNat_lt (b := 16384) hu (by decide)).mpr z)
                    have f21 := (ofNat_lt (b := 2097152) hu (by decide)).mp hc21
                    rw [own_end u 0 hu]
                    simp only [f4, f13, f21, if_true, if_false]
                    rfl, rfl⟩)
    · refine w_iconst X D2_16 (v := (2 : Int32)) rfl ?_
      exact w_ireturn X D2_17 (by decide) (by decide) (⟨by
                have f4 : ¬ u < 128 := fun z => hc4 ((ofNat_lt (b := 128) hu (by decide)).mpr z)
                have f13 := (ofNat_lt (b := 16384) hu (by decide)).mp hc13
                rw [own_end u 0 hu]
                simp only [f4, f13, if_true, if_false]
                rfl, rfl⟩)
  · refine w_iconst X D2_7 (v := (1 : Int32)) rfl ?_
    exact w_ireturn X D2_8 (by decide) (by decide) (⟨by
            have f4 := (ofNat_lt (b := 128) hu (by decide)).mp hc4
            rw [own_end u 0 hu]
            simp only [f4, if_true, if_false]
            rfl, rfl⟩)
theorem ef_3 (m : MethodId) (i0 : Int32) (at0 : Int32) (nn : Int32) (ln : Int32) (f : Int32) : entryFrame m #[(.int i0), (.int at0), (.int nn), (.int ln), (.int f)] 7 = mkF m 0 #[.val (.int i0), .val (.int at0), .val (.int nn), .val (.int ln), .val (.int f), .unset, .unset] [] := by first | (simp [entryFrame, mkF, argsToLocals, Value.category]; done) | rfl
theorem pn_3 : plainName "foldmill/MapOutputPutLengthPinLaw" = true := by first | (simp [plainName, overriddenIn]; done) | decide +kernel
set_option maxRecDepth 65536 in
set_option maxHeartbeats 40000000 in
theorem rm3 {l : Launch} {Z : State} {a0 : Array Value} {n0 : Nat} {h : Heap} (hw : ∀ d ∈ tables_1, d.before a0 Z = true) (hn : n0 ≤ h.size) (i0 : Int32) (at0 : Int32) (nn : Int32) (ln : Int32) (f : Int32) (I A N u : Nat) (hI : I < 12) (hA : A < 8) (hN : N ≤ 5) (hu : u < 2147483648) (eI : i0 = Int32.ofNat I) (eA : at0 = Int32.ofNat A) (eN : nn = Int32.ofNat N) (eu : ln = Int32.ofNat u) :
    Ctr l Z n0 (⟨"foldmill/MapOutputPutLengthPinLaw", "expected", "(IIIIB)B"⟩ : MethodName) method_3_code 7 (some .byte) ({ frames := 0, cells := 0, slots := 0, locals := 0 } : Room) [] #[(.int i0), (.int at0), (.int nn), (.int ln), (.int f)] h (fun v h' => v = some (.int (ex I A N u f)) ∧ h = h') := by
  refine ctr_of (plainFor_of_name pn_3) hw hn ?_
  intro p e s m below meth c T X
  refine Wp.cast (ef_3 m i0 at0 nn ln f) ?_
  subst eI eA eN eu
  refine w_iloadN X D3_0 rfl ?_
  refine w_iloadN X D3_1 rfl ?_
  refine w_icmplt X D3_2 (fun hc2 => ?_) (fun hc2 => ?_)
  · refine w_iload X D3_12 rfl ?_
    exact w_breturn X D3_14 (by decide) (by decide) (⟨by
            rw [ex, if_pos ?_]
            · rfl
            · first | exact Or.inl ((ofNat_lt (by omega) (by omega)).mp hc2) | exact Or.inr (Nat.le_of_not_lt fun z => hc9 ((ofNat_lt (by omega) (by omega)).mpr z)), rfl⟩)
  · refine w_iloadN X D3_5 rfl ?_
    refine w_iloadN X D3_6 rfl ?_
    refine w_iloadN X D3_7 rfl ?_
    refine w_iadd X D3_8 ?_
    rw [n_add]
    refine w_icmplt X D3_9 (fun hc9 => ?_) (fun hc9 => ?_)
    · refine w_iloadN X D3_15 rfl ?_
      refine w_iloadN X D3_16 rfl ?_
      refine w_isub X D3_17 ?_
      have h1 : A ≤ I := Nat.le_of_not_lt fun z => hc2 ((ofNat_lt (by omega) (by omega)).mpr z)
      have h2 : I < A + N := (ofNat_lt (by omega) (by omega)).mp hc9
      rw [n_sub h1]
      refine w_istore X D3_18 (l' := #[.val (.int (Int32.ofNat I)), .val (.int (Int32.ofNat A)), .val (.int (Int32.ofNat N)), .val (.int (Int32.ofNat u)), .val (.int f), .val (.int (Int32.ofNat (I - A))), .unset]) rfl ?_
      refine w_iloadN X D3_20 rfl ?_
      refine w_bipush X D3_21 (v := (7 : Int32)) rfl ?_
      refine w_iload X D3_23 rfl ?_
      refine w_imul X D3_25 ?_
      rw [show (7 : Int32) * Int32.ofNat (I - A) = Int32.ofNat (7 * (I - A)) from n_mul 7 (I - A)]
      refine w_iushr X D3_26 ?_
      rw [n_ushr hu (show 7 * (I - A) < 32 by omega), Nat.pow_mul, show 2 ^ 7 = 128 from rfl]
      refine w_bipush X D3_27 (v := (127 : Int32)) rfl ?_
      refine w_iand X D3_29 ?_
      refine w_istore X D3_30 (l' := #[.val (.int (Int32.ofNat I)), .val (.int (Int32.ofNat A)), .val (.int (Int32.ofNat N)), .val (.int (Int32.ofNat u)), .val (.int f), .val (.int (Int32.ofNat (I - A))), .val (.int ((Int32.ofNat (u / 128 ^ (I - A))) &&& (127 : Int32)))]) rfl ?_
      refine w_iload X D3_32 rfl ?_
      refine w_iloadN X D3_34 rfl ?_
      refine w_iconst X D3_35 (v := (1 : Int32)) rfl ?_
      refine w_isub X D3_36 ?_
      rw [show Int32.ofNat N - 1 = Int32.ofNat (N - 1) from n_sub (b := 1) (by omega)]
      refine w_icmpge X D3_37 (fun hc37 => ?_) (fun hc37 => ?_)
      · refine w_iload X D3_48 rfl ?_
        refine w_i2b X D3_50 ?_
        exact w_breturn X D3_51 (by decide) (by decide) (⟨by
                    have h3 : ¬ (I - A < N - 1) := fun z => hc37 ((ofNat_lt (a := I - A) (b := N - 1) (by omega) (by omega)).mpr z)
                    rw [ex, if_neg (by omega), dig, if_neg (by omega)]; rfl, rfl⟩)
      · refine w_iload X D3_40 rfl ?_
        refine w_sipush X D3_42 (v := (128 : Int32)) rfl ?_
        refine w_ior X D3_45 ?_
        refine w_istore X D3_46 (l' := #[.val (.int (Int32.ofNat I)), .val (.int (Int32.ofNat A)), .val (.int (Int32.ofNat N)), .val (.int (Int32.ofNat u)), .val (.int f), .val (.int (Int32.ofNat (I - A))), .val (.int (((Int32.ofNat (u / 128 ^ (I - A))) &&& (127 : Int32)) ||| (128 : Int32)))]) rfl ?_
        refine w_iload X D3_48 rfl ?_
        refine w_i2b X D3_50 ?_
        exact w_breturn X D3_51 (by decide) (by decide) (⟨by
                    have h3 : I - A < N - 1 := (ofNat_lt (by omega) (by omega)).mp hc37
                    rw [ex, if_neg (by omega), dig, if_pos (by omega)]; rfl, rfl⟩)
    · refine w_iload X D3_12 rfl ?_
      exact w_breturn X D3_14 (by decide) (by decide) (⟨by
                rw [ex, if_pos ?_]
                · rfl
                · first | exact Or.inl ((ofNat_lt (by omega) (by omega)).mp hc2) | exact Or.inr (Nat.le_of_not_lt fun z => hc9 ((ofNat_lt (by omega) (by omega)).mpr z)), rfl⟩)
theorem ef_0 (m : MethodId) (a : Int32) (b : Int32) (c0 : Int32) (d : Int32) : entryFrame m #[(.int a), (.int b), (.int c0), (.int d)] maxLocals = mkF m 0 #[.val (.int a), .val (.int b), .val (.int c0), .val (.int d), .unset, .unset, .unset, .unset, .unset, .unset, .unset] [] := by first | (simp [entryFrame, mkF, argsToLocals, Value.category, maxLocals]; done) | rfl
theorem pn_0 : plainName "foldmill/MapOutputPutLengthPinLaw" = true := by first | (simp [plainName, overriddenIn]; done) | decide +kernel
set_option maxRecDepth 65536 in
set_option maxHeartbeats 40000000 in
theorem rm0 {l : Launch} {Z : State} {a0 : Array Value} {n0 : Nat} {h : Heap} (hw : ∀ d ∈ tables_1, d.before a0 Z = true) (hn : n0 ≤ h.size) (a : Int32) (b : Int32) (c0 : Int32) (d : Int32) :
    Ctr l Z n0 x code maxLocals ret room_1 tables_1 #[(.int a), (.int b), (.int c0), (.int d)] h (fun v h' => v = some (.int 1)) := by
  refine ctr_of (plainFor_of_name pn_0) hw hn ?_
  intro p e s m below meth c T X
  refine Wp.cast (ef_0 m a b c0 d) ?_
  refine w_iloadN X D0_0 rfl ?_
  refine w_ldc X D0_1 (hw _ (List.mem_of_getElem? (i := 0) rfl)) ?_
  refine w_iand X D0_3 ?_
  refine w_iloadN X D0_4 rfl ?_
  refine w_bipush X D0_5 (v := (31 : Int32)) rfl ?_
  refine w_iand X D0_7 ?_
  refine w_iushr X D0_8 ?_
  refine w_istoreE X D0_9 (l' := fun z_ => #[.val (.int a), .val (.int b), .val (.int c0), .val (.int d), .val (.int z_), .unset, .unset, .unset, .unset, .unset, .unset]) (fun _ => rfl) (fun ln e_ln => ?_)
  obtain ⟨u, hu, eu⟩ := own_len a d
  rw [← e_ln] at eu
  subst eu
  refine w_iloadN X D0_11 rfl ?_
  refine w_ldc X D0_12 (hw _ (List.mem_of_getElem? (i := 0) rfl)) ?_
  refine w_iand X D0_14 ?_
  refine w_bipush X D0_15 (v := (8 : Int32)) rfl ?_
  refine w_irem X D0_17 (by decide) ?_
  refine w_istoreE X D0_18 (l' := fun z_ => #[.val (.int a), .val (.int b), .val (.int c0), .val (.int d), .val (.int (Int32.ofNat u)), .val (.int z_), .unset, .unset, .unset, .unset, .unset]) (fun _ => rfl) (fun at1 e_at1 => ?_)
  obtain ⟨A, hA, eA⟩ := own_at b
  rw [← e_at1] at eA
  subst eA
  refine w_iloadN X D0_20 rfl ?_
  refine w_i2b X D0_21 ?_
  refine w_istoreE X D0_22 (l' := fun z_ => #[.val (.int a), .val (.int b), .val (.int c0), .val (.int d), .val (.int (Int32.ofNat u)), .val (.int (Int32.ofNat A)), .val (.int z_), .unset, .unset, .unset, .unset]) (fun _ => rfl) (fun f e_f => ?_)
  refine w_bipush X D0_24 (v := (12 : Int32)) rfl ?_
  refine w_newB X D0_26 (hw _ (List.mem_of_getElem? (i := 1) rfl)) 12 12 rfl (Nat.le_of_ble_eq_true rfl) (by decide) (Nat.le_of_ble_eq_true rfl) (Nat.le_of_ble_eq_true rfl) (fun T1 h1 a1 X1 g1 E1 B1 => ?_)
  refine w_astore X1 D0_28 (l' := #[.val (.int a), .val (.int b), .val (.int c0), .val (.int d), .val (.int (Int32.ofNat u)), .val (.int (Int32.ofNat A)), .val (.int f), .val (.ref a1), .unset, .unset, .unset]) rfl rfl ?_
  refine w_aload X1 D0_30 rfl rfl ?_
  refine w_iconst X1 D0_32 (v := (0 : Int32)) rfl ?_
  refine w_iload X1 D0_33 rfl ?_
  refine w_bastore X1 D0_35 B1 0 rfl (by decide) (fun T2 h2 X2 K2 B2 => ?_)
  refine w_aload X2 D0_36 rfl rfl ?_
  refine w_iconst X2 D0_38 (v := (1 : Int32)) rfl ?_
  refine w_iload X2 D0_39 rfl ?_
  refine w_bastore X2 D0_41 B2 1 rfl (by decide) (fun T3 h3 X3 K3 B3 => ?_)
  refine w_aload X3 D0_42 rfl rfl ?_
  refine w_iconst X3 D0_44 (v := (2 : Int32)) rfl ?_
  refine w_iload X3 D0_45 rfl ?_
  refine w_bastore X3 D0_47 B3 2 rfl (by decide) (fun T4 h4 X4 K4 B4 => ?_)
  refine w_aload X4 D0_48 rfl rfl ?_
  refine w_iconst X4 D0_50 (v := (3 : Int32)) rfl ?_
  refine w_iload X4 D0_51 rfl ?_
  refine w_bastore X4 D0_53 B4 3 rfl (by decide) (fun T5 h5 X5 K5 B5 => ?_)
  refine w_aload X5 D0_54 rfl rfl ?_
  refine w_iconst X5 D0_56 (v := (4 : Int32)) rfl ?_
  refine w_iload X5 D0_57 rfl ?_
  refine w_bastore X5 D0_59 B5 4 rfl (by decide) (fun T6 h6 X6 K6 B6 => ?_)
  refine w_aload X6 D0_60 rfl rfl ?_
  refine w_iconst X6 D0_62 (v := (5 : Int32)) rfl ?_
  refine w_iload X6 D0_63 rfl ?_
  refine w_bastore X6 D0_65 B6 5 rfl (by decide) (fun T7 h7 X7 K7 B7 => ?_)
  refine w_aload X7 D0_66 rfl rfl ?_
  refine w_bipush X7 D0_68 (v := (6 : Int32)) rfl ?_
  refine w_iload X7 D0_70 rfl ?_
  refine w_bastore X7 D0_72 B7 6 rfl (by decide) (fun T8 h8 X8 K8 B8 => ?_)
  refine w_aload X8 D0_73 rfl rfl ?_
  refine w_bipush X8 D0_75 (v := (7 : Int32)) rfl ?_
  refine w_iload X8 D0_77 rfl ?_
  refine w_bastore X8 D0_79 B8 7 rfl (by decide) (fun T9 h9 X9 K9 B9 => ?_)
  refine w_aload X9 D0_80 rfl rfl ?_
  refine w_bipush X9 D0_82 (v := (8 : Int32)) rfl ?_
  refine w_iload X9 D0_84 rfl ?_
  refine w_bastore X9 D0_86 B9 8 rfl (by decide) (fun T10 h10 X10 K10 B10 => ?_)
  refine w_aload X10 D0_87 rfl rfl ?_
  refine w_bipush X10 D0_89 (v := (9 : Int32)) rfl ?_
  refine w_iload X10 D0_91 rfl ?_
  refine w_bastore X10 D0_93 B10 9 rfl (by decide) (fun T11 h11 X11 K11 B11 => ?_)
  refine w_aload X11 D0_94 rfl rfl ?_
  refine w_bipush X11 D0_96 (v := (10 : Int32)) rfl ?_
  refine w_iload X11 D0_98 rfl ?_
  refine w_bastore X11 D0_100 B11 10 rfl (by decide) (fun T12 h12 X12 K12 B12 => ?_)
  refine w_aload X12 D0_101 rfl rfl ?_
  refine w_bipush X12 D0_103 (v := (11 : Int32)) rfl ?_
  refine w_iload X12 D0_105 rfl ?_
  refine w_bastore X12 D0_107 B12 11 rfl (by decide) (fun T13 h13 X13 K13 B13 => ?_)
  have Bg : Ba Z n0 h13 a1 .byte 12 (bI (fun _ => jbyte f)) := B13.congr (fun i hi => by
    have hc : i = 0 ∨ i = 1 ∨ i = 2 ∨ i = 3 ∨ i = 4 ∨ i = 5 ∨ i = 6 ∨ i = 7 ∨ i = 8 ∨ i = 9 ∨ i = 10 ∨ i = 11 := by omega
    rcases hc with rfl | rfl | rfl | rfl | rfl | rfl | rfl | rfl | rfl | rfl | rfl | rfl <;> rfl)
  refine w_aload X13 D0_108 rfl rfl ?_
  refine w_iload X13 D0_110 rfl ?_
  refine w_iload X13 D0_112 rfl ?_
  refine w_static X13 D0_114 (rm1 hw X13.sz a1 _ _ A u _ rfl rfl hA hu Bg) (hw _ (List.mem_of_getElem? (i := 2) rfl)) (hw _ (List.mem_of_getElem? (i := 3) rfl)) (hw _ (List.mem_of_getElem? (i := 4) rfl)) (hw _ (List.mem_of_getElem? (i := 5) rfl)) (by decide) pd_0 rfl (S := []) rfl rfl (Nat.le_of_ble_eq_true rfl) (Nat.le_of_ble_eq_true rfl) (Nat.le_of_ble_eq_true rfl) (Nat.le_of_ble_eq_true rfl) (fun v14 T14 h14 X14 q14 => ?_)
  obtain ⟨rfl, Kp, Bp⟩ := q14
  show Wp _ _ _ _ _ _ _ _ (mkF m 117 #[.val (.int a), .val (.int b), .val (.int c0), .val (.int d), .val (.int (Int32.ofNat u)), .val (.int (Int32.ofNat A)), .val (.int f), .val (.ref a1), .unset, .unset, .unset] [(.int (Int32.ofNat (A + sz 4 u)))])
  refine w_istore X14 D0_117 (l' := #[.val (.int a), .val (.int b), .val (.int c0), .val (.int d), .val (.int (Int32.ofNat u)), .val (.int (Int32.ofNat A)), .val (.int f), .val (.ref a1), .val (.int (Int32.ofNat (A + sz 4 u))), .unset, .unset]) rfl ?_
  refine w_iload X14 D0_119 rfl ?_
  refine w_static X14 D0_121 (rm2 hw X14.sz _ u hu rfl) (hw _ (List.mem_of_getElem? (i := 6) rfl)) (hw _ (List.mem_of_getElem? (i := 7) rfl)) (hw _ (List.mem_of_getElem? (i := 8) rfl)) (hw _ (List.mem_of_getElem? (i := 9) rfl)) (by decide) pd_1 rfl (S := []) rfl rfl (Nat.le_of_ble_eq_true rfl) (Nat.le_of_ble_eq_true rfl) (Nat.le_of_ble_eq_true rfl) (Nat.le_of_ble_eq_true rfl) (fun v15 T15 h15 X15 q15 => ?_)
  obtain ⟨rfl, rfl⟩ := q15
  show Wp _ _ _ _ _ _ _ _ (mkF m 124 #[.val (.int a), .val (.int b), .val (.int c0), .val (.int d), .val (.int (Int32.ofNat u)), .val (.int (Int32.ofNat A)), .val (.int f), .val (.ref a1), .val (.int (Int32.ofNat (A + sz 4 u))), .unset, .unset] [(.int (Int32.ofNat (sz 4 u)))])
  refine w_istore X15 D0_124 (l' := #[.val (.int a), .val (.int b), .val (.int c0), .val (.int d), .val (.int (Int32.ofNat u)), .val (.int (Int32.ofNat A)), .val (.int f), .val (.ref a1), .val (.int (Int32.ofNat (A + sz 4 u))), .val (.int (Int32.ofNat (sz 4 u))), .unset]) rfl ?_
  have hsz : sz 4 u ≤ 5 := by
    rw [own_end u 0 hu]
    repeat' split
    all_goals omega
  refine w_iload X15 D0_126 rfl ?_
  refine w_iload X15 D0_128 rfl ?_
  refine w_iload X15 D0_130 rfl ?_
  refine w_iadd X15 D0_132 ?_
  refine w_icmpne X15 D0_133 (fun hc133 => by exact absurd (n_add _ _).symm hc133) (fun hc133 => ?_)
  refine w_iconst X15 D0_136 (v := (1 : Int32)) rfl ?_
  refine w_goto X15 D0_137 ?_
  refine w_istore X15 D0_141 (l' := #[.val (.int a), .val (.int b), .val (.int c0), .val (.int d), .val (.int (Int32.ofNat u)), .val (.int (Int32.ofNat A)), .val (.int f), .val (.ref a1), .val (.int (Int32.ofNat (A + sz 4 u))), .val (.int (Int32.ofNat (sz 4 u))), .val (.int (1 : Int32))]) rfl ?_
  refine w_iload X15 D0_143 rfl ?_
  refine w_ifeq X15 D0_145 (fun hc145 => by exact absurd hc145 (by decide)) (fun hc145 => ?_)
  refine w_aload X15 D0_148 rfl rfl ?_
  refine w_iconst X15 D0_150 (v := (0 : Int32)) rfl ?_
  refine w_baload X15 D0_151 Bp 0 rfl (by decide) ?_
  refine w_iconst X15 D0_152 (v := (0 : Int32)) rfl ?_
  refine w_iload X15 D0_153 rfl ?_
  refine w_iload X15 D0_155 rfl ?_
  refine w_iload X15 D0_157 rfl ?_
  refine w_iload X15 D0_159 rfl ?_
  refine w_static X15 D0_161 (rm3 hw X15.sz _ _ _ _ f 0 A (sz 4 u) u (by decide) hA hsz hu rfl rfl rfl rfl) (hw _ (List.mem_of_getElem? (i := 10) rfl)) (hw _ (List.mem_of_getElem? (i := 11) rfl)) (hw _ (List.mem_of_getElem? (i := 8) rfl)) (hw _ (List.mem_of_getElem? (i := 12) rfl)) (by decide) pd_2 rfl (S := [(.int ((pl 4 (fun _ => jbyte f) A u) 0))]) rfl rfl (Nat.le_of_ble_eq_true rfl) (Nat.le_of_ble_eq_true rfl) (Nat.le_of_ble_eq_true rfl) (Nat.le_of_ble_eq_true rfl) (fun v16 T16 h16 X16 q16 => ?_)
  obtain ⟨rfl, rfl⟩ := q16
  show Wp _ _ _ _ _ _ _ _ (mkF m 164 #[.val (.int a), .val (.int b), .val (.int c0), .val (.int d), .val (.int (Int32.ofNat u)), .val (.int (Int32.ofNat A)), .val (.int f), .val (.ref a1), .val (.int (Int32.ofNat (A + sz 4 u))), .val (.int (Int32.ofNat (sz 4 u))), .val (.int (1 : Int32))] [(.int (ex 0 A (sz 4 u) u f)), (.int ((pl 4 (fun _ => jbyte f) A u) 0))])
  refine w_icmpne X16 D0_164 (fun hc164 => by exact absurd (own_check 0 A u f hu) hc164) (fun hc164 => ?_)
  refine w_iconst X16 D0_167 (v := (1 : Int32)) rfl ?_
  refine w_goto X16 D0_168 ?_
  refine w_istore X16 D0_172 (l' := #[.val (.int a), .val (.int b), .val (.int c0), .val (.int d), .val (.int (Int32.ofNat u)), .val (.int (Int32.ofNat A)), .val (.int f), .val (.ref a1), .val (.int (Int32.ofNat (A + sz 4 u))), .val (.int (Int32.ofNat (sz 4 u))), .val (.int (1 : Int32))]) rfl ?_
  refine w_iload X16 D0_174 rfl ?_
  refine w_ifeq X16 D0_176 (fun hc176 => by exact absurd hc176 (by decide)) (fun hc176 => ?_)
  refine w_aload X16 D0_179 rfl rfl ?_
  refine w_iconst X16 D0_181 (v := (1 : Int32)) rfl ?_
  refine w_baload X16 D0_182 Bp 1 rfl (by decide) ?_
  refine w_iconst X16 D0_183 (v := (1 : Int32)) rfl ?_
  refine w_iload X16 D0_184 rfl ?_
  refine w_iload X16 D0_186 rfl ?_
  refine w_iload X16 D0_188 rfl ?_
  refine w_iload X16 D0_190 rfl ?_
  refine w_static X16 D0_192 (rm3 hw X16.sz _ _ _ _ f 1 A (sz 4 u) u (by decide) hA hsz hu rfl rfl rfl rfl) (hw _ (List.mem_of_getElem? (i := 10) rfl)) (hw _ (List.mem_of_getElem? (i := 11) rfl)) (hw _ (List.mem_of_getElem? (i := 8) rfl)) (hw _ (List.mem_of_getElem? (i := 12) rfl)) (by decide) pd_2 rfl (S := [(.int ((pl 4 (fun _ => jbyte f) A u) 1))]) rfl rfl (Nat.le_of_ble_eq_true rfl) (Nat.le_of_ble_eq_true rfl) (Nat.le_of_ble_eq_true rfl) (Nat.le_of_ble_eq_true rfl) (fun v17 T17 h17 X17 q17 => ?_)
  obtain ⟨rfl, rfl⟩ := q17
  show Wp _ _ _ _ _ _ _ _ (mkF m 195 #[.val (.int a), .val (.int b), .val (.int c0), .val (.int d), .val (.int (Int32.ofNat u)), .val (.int (Int32.ofNat A)), .val (.int f), .val (.ref a1), .val (.int (Int32.ofNat (A + sz 4 u))), .val (.int (Int32.ofNat (sz 4 u))), .val (.int (1 : Int32))] [(.int (ex 1 A (sz 4 u) u f)), (.int ((pl 4 (fun _ => jbyte f) A u) 1))])
  refine w_icmpne X17 D0_195 (fun hc195 => by exact absurd (own_check 1 A u f hu) hc195) (fun hc195 => ?_)
  refine w_iconst X17 D0_198 (v := (1 : Int32)) rfl ?_
  refine w_goto X17 D0_199 ?_
  refine w_istore X17 D0_203 (l' := #[.val (.int a), .val (.int b), .val (.int c0), .val (.int d), .val (.int (Int32.ofNat u)), .val (.int (Int32.ofNat A)), .val (.int f), .val (.ref a1), .val (.int (Int32.ofNat (A + sz 4 u))), .val (.int (Int32.ofNat (sz 4 u))), .val (.int (1 : Int32))]) rfl ?_
  refine w_iload X17 D0_205 rfl ?_
  refine w_ifeq X17 D0_207 (fun hc207 => by exact absurd hc207 (by decide)) (fun hc207 => ?_)
  refine w_aload X17 D0_210 rfl rfl ?_
  refine w_iconst X17 D0_212 (v := (2 : Int32)) rfl ?_
  refine w_baload X17 D0_213 Bp 2 rfl (by decide) ?_
  refine w_iconst X17 D0_214 (v := (2 : Int32)) rfl ?_
  refine w_iload X17 D0_215 rfl ?_
  refine w_iload X17 D0_217 rfl ?_
  refine w_iload X17 D0_219 rfl ?_
  refine w_iload X17 D0_221 rfl ?_
  refine w_static X17 D0_223 (rm3 hw X17.sz _ _ _ _ f 2 A (sz 4 u) u (by decide) hA hsz hu rfl rfl rfl rfl) (hw _ (List.mem_of_getElem? (i := 10) rfl)) (hw _ (List.mem_of_getElem? (i := 11) rfl)) (hw _ (List.mem_of_getElem? (i := 8) rfl)) (hw _ (List.mem_of_getElem? (i := 12) rfl)) (by decide) pd_2 rfl (S := [(.int ((pl 4 (fun _ => jbyte f) A u) 2))]) rfl rfl (Nat.le_of_ble_eq_true rfl) (Nat.le_of_ble_eq_true rfl) (Nat.le_of_ble_eq_true rfl) (Nat.le_of_ble_eq_true rfl) (fun v18 T18 h18 X18 q18 => ?_)
  obtain ⟨rfl, rfl⟩ := q18
  show Wp _ _ _ _ _ _ _ _ (mkF m 226 #[.val (.int a), .val (.int b), .val (.int c0), .val (.int d), .val (.int (Int32.ofNat u)), .val (.int (Int32.ofNat A)), .val (.int f), .val (.ref a1), .val (.int (Int32.ofNat (A + sz 4 u))), .val (.int (Int32.ofNat (sz 4 u))), .val (.int (1 : Int32))] [(.int (ex 2 A (sz 4 u) u f)), (.int ((pl 4 (fun _ => jbyte f) A u) 2))])
  refine w_icmpne X18 D0_226 (fun hc226 => by exact absurd (own_check 2 A u f hu) hc226) (fun hc226 => ?_)
  refine w_iconst X18 D0_229 (v := (1 : Int32)) rfl ?_
  refine w_goto X18 D0_230 ?_
  refine w_istore X18 D0_234 (l' := #[.val (.int a), .val (.int b), .val (.int c0), .val (.int d), .val (.int (Int32.ofNat u)), .val (.int (Int32.ofNat A)), .val (.int f), .val (.ref a1), .val (.int (Int32.ofNat (A + sz 4 u))), .val (.int (Int32.ofNat (sz 4 u))), .val (.int (1 : Int32))]) rfl ?_
  refine w_iload X18 D0_236 rfl ?_
  refine w_ifeq X18 D0_238 (fun hc238 => by exact absurd hc238 (by decide)) (fun hc238 => ?_)
  refine w_aload X18 D0_241 rfl rfl ?_
  refine w_iconst X18 D0_243 (v := (3 : Int32)) rfl ?_
  refine w_baload X18 D0_244 Bp 3 rfl (by decide) ?_
  refine w_iconst X18 D0_245 (v := (3 : Int32)) rfl ?_
  refine w_iload X18 D0_246 rfl ?_
  refine w_iload X18 D0_248 rfl ?_
  refine w_iload X18 D0_250 rfl ?_
  refine w_iload X18 D0_252 rfl ?_
  refine w_static X18 D0_254 (rm3 hw X18.sz _ _ _ _ f 3 A (sz 4 u) u (by decide) hA hsz hu rfl rfl rfl rfl) (hw _ (List.mem_of_getElem? (i := 10) rfl)) (hw _ (List.mem_of_getElem? (i := 11) rfl)) (hw _ (List.mem_of_getElem? (i := 8) rfl)) (hw _ (List.mem_of_getElem? (i := 12) rfl)) (by decide) pd_2 rfl (S := [(.int ((pl 4 (fun _ => jbyte f) A u) 3))]) rfl rfl (Nat.le_of_ble_eq_true rfl) (Nat.le_of_ble_eq_true rfl) (Nat.le_of_ble_eq_true rfl) (Nat.le_of_ble_eq_true rfl) (fun v19 T19 h19 X19 q19 => ?_)
  obtain ⟨rfl, rfl⟩ := q19
  show Wp _ _ _ _ _ _ _ _ (mkF m 257 #[.val (.int a), .val (.int b), .val (.int c0), .val (.int d), .val (.int (Int32.ofNat u)), .val (.int (Int32.ofNat A)), .val (.int f), .val (.ref a1), .val (.int (Int32.ofNat (A + sz 4 u))), .val (.int (Int32.ofNat (sz 4 u))), .val (.int (1 : Int32))] [(.int (ex 3 A (sz 4 u) u f)), (.int ((pl 4 (fun _ => jbyte f) A u) 3))])
  refine w_icmpne X19 D0_257 (fun hc257 => by exact absurd (own_check 3 A u f hu) hc257) (fun hc257 => ?_)
  refine w_iconst X19 D0_260 (v := (1 : Int32)) rfl ?_
  refine w_goto X19 D0_261 ?_
  refine w_istore X19 D0_265 (l' := #[.val (.int a), .val (.int b), .val (.int c0), .val (.int d), .val (.int (Int32.ofNat u)), .val (.int (Int32.ofNat A)), .val (.int f), .val (.ref a1), .val (.int (Int32.ofNat (A + sz 4 u))), .val (.int (Int32.ofNat (sz 4 u))), .val (.int (1 : Int32))]) rfl ?_
  refine w_iload X19 D0_267 rfl ?_
  refine w_ifeq X19 D0_269 (fun hc269 => by exact absurd hc269 (by decide)) (fun hc269 => ?_)
  refine w_aload X19 D0_272 rfl rfl ?_
  refine w_iconst X19 D0_274 (v := (4 : Int32)) rfl ?_
  refine w_baload X19 D0_275 Bp 4 rfl (by decide) ?_
  refine w_iconst X19 D0_276 (v := (4 : Int32)) rfl ?_
  refine w_iload X19 D0_277 rfl ?_
  refine w_iload X19 D0_279 rfl ?_
  refine w_iload X19 D0_281 rfl ?_
  refine w_iload X19 D0_283 rfl ?_
  refine w_static X19 D0_285 (rm3 hw X19.sz _ _ _ _ f 4 A (sz 4 u) u (by decide) hA hsz hu rfl rfl rfl rfl) (hw _ (List.mem_of_getElem? (i := 10) rfl)) (hw _ (List.mem_of_getElem? (i := 11) rfl)) (hw _ (List.mem_of_getElem? (i := 8) rfl)) (hw _ (List.mem_of_getElem? (i := 12) rfl)) (by decide) pd_2 rfl (S := [(.int ((pl 4 (fun _ => jbyte f) A u) 4))]) rfl rfl (Nat.le_of_ble_eq_true rfl) (Nat.le_of_ble_eq_true rfl) (Nat.le_of_ble_eq_true rfl) (Nat.le_of_ble_eq_true rfl) (fun v20 T20 h20 X20 q20 => ?_)
  obtain ⟨rfl, rfl⟩ := q20
  show Wp _ _ _ _ _ _ _ _ (mkF m 288 #[.val (.int a), .val (.int b), .val (.int c0), .val (.int d), .val (.int (Int32.ofNat u)), .val (.int (Int32.ofNat A)), .val (.int f), .val (.ref a1), .val (.int (Int32.ofNat (A + sz 4 u))), .val (.int (Int32.ofNat (sz 4 u))), .val (.int (1 : Int32))] [(.int (ex 4 A (sz 4 u) u f)), (.int ((pl 4 (fun _ => jbyte f) A u) 4))])
  refine w_icmpne X20 D0_288 (fun hc288 => by exact absurd (own_check 4 A u f hu) hc288) (fun hc288 => ?_)
  refine w_iconst X20 D0_291 (v := (1 : Int32)) rfl ?_
  refine w_goto X20 D0_292 ?_
  refine w_istore X20 D0_296 (l' := #[.val (.int a), .val (.int b), .val (.int c0), .val (.int d), .val (.int (Int32.ofNat u)), .val (.int (Int32.ofNat A)), .val (.int f), .val (.ref a1), .val (.int (Int32.ofNat (A + sz 4 u))), .val (.int (Int32.ofNat (sz 4 u))), .val (.int (1 : Int32))]) rfl ?_
  refine w_iload X20 D0_298 rfl ?_
  refine w_ifeq X20 D0_300 (fun hc300 => by exact absurd hc300 (by decide)) (fun hc300 => ?_)
  refine w_aload X20 D0_303 rfl rfl ?_
  refine w_iconst X20 D0_305 (v := (5 : Int32)) rfl ?_
  refine w_baload X20 D0_306 Bp 5 rfl (by decide) ?_
  refine w_iconst X20 D0_307 (v := (5 : Int32)) rfl ?_
  refine w_iload X20 D0_308 rfl ?_
  refine w_iload X20 D0_310 rfl ?_
  refine w_iload X20 D0_312 rfl ?_
  refine w_iload X20 D0_314 rfl ?_
  refine w_static X20 D0_316 (rm3 hw X20.sz _ _ _ _ f 5 A (sz 4 u) u (by decide) hA hsz hu rfl rfl rfl rfl) (hw _ (List.mem_of_getElem? (i := 10) rfl)) (hw _ (List.mem_of_getElem? (i := 11) rfl)) (hw _ (List.mem_of_getElem? (i := 8) rfl)) (hw _ (List.mem_of_getElem? (i := 12) rfl)) (by decide) pd_2 rfl (S := [(.int ((pl 4 (fun _ => jbyte f) A u) 5))]) rfl rfl (Nat.le_of_ble_eq_true rfl) (Nat.le_of_ble_eq_true rfl) (Nat.le_of_ble_eq_true rfl) (Nat.le_of_ble_eq_true rfl) (fun v21 T21 h21 X21 q21 => ?_)
  obtain ⟨rfl, rfl⟩ := q21
  show Wp _ _ _ _ _ _ _ _ (mkF m 319 #[.val (.int a), .val (.int b), .val (.int c0), .val (.int d), .val (.int (Int32.ofNat u)), .val (.int (Int32.ofNat A)), .val (.int f), .val (.ref a1), .val (.int (Int32.ofNat (A + sz 4 u))), .val (.int (Int32.ofNat (sz 4 u))), .val (.int (1 : Int32))] [(.int (ex 5 A (sz 4 u) u f)), (.int ((pl 4 (fun _ => jbyte f) A u) 5))])
  refine w_icmpne X21 D0_319 (fun hc319 => by exact absurd (own_check 5 A u f hu) hc319) (fun hc319 => ?_)
  refine w_iconst X21 D0_322 (v := (1 : Int32)) rfl ?_
  refine w_goto X21 D0_323 ?_
  refine w_istore X21 D0_327 (l' := #[.val (.int a), .val (.int b), .val (.int c0), .val (.int d), .val (.int (Int32.ofNat u)), .val (.int (Int32.ofNat A)), .val (.int f), .val (.ref a1), .val (.int (Int32.ofNat (A + sz 4 u))), .val (.int (Int32.ofNat (sz 4 u))), .val (.int (1 : Int32))]) rfl ?_
  refine w_iload X21 D0_329 rfl ?_
  refine w_ifeq X21 D0_331 (fun hc331 => by exact absurd hc331 (by decide)) (fun hc331 => ?_)
  refine w_aload X21 D0_334 rfl rfl ?_
  refine w_bipush X21 D0_336 (v := (6 : Int32)) rfl ?_
  refine w_baload X21 D0_338 Bp 6 rfl (by decide) ?_
  refine w_bipush X21 D0_339 (v := (6 : Int32)) rfl ?_
  refine w_iload X21 D0_341 rfl ?_
  refine w_iload X21 D0_343 rfl ?_
  refine w_iload X21 D0_345 rfl ?_
  refine w_iload X21 D0_347 rfl ?_
  refine w_static X21 D0_349 (rm3 hw X21.sz _ _ _ _ f 6 A (sz 4 u) u (by decide) hA hsz hu rfl rfl rfl rfl) (hw _ (List.mem_of_getElem? (i := 10) rfl)) (hw _ (List.mem_of_getElem? (i := 11) rfl)) (hw _ (List.mem_of_getElem? (i := 8) rfl)) (hw _ (List.mem_of_getElem? (i := 12) rfl)) (by decide) pd_2 rfl (S := [(.int ((pl 4 (fun _ => jbyte f) A u) 6))]) rfl rfl (Nat.le_of_ble_eq_true rfl) (Nat.le_of_ble_eq_true rfl) (Nat.le_of_ble_eq_true rfl) (Nat.le_of_ble_eq_true rfl) (fun v22 T22 h22 X22 q22 => ?_)
  obtain ⟨rfl, rfl⟩ := q22
  show Wp _ _ _ _ _ _ _ _ (mkF m 352 #[.val (.int a), .val (.int b), .val (.int c0), .val (.int d), .val (.int (Int32.ofNat u)), .val (.int (Int32.ofNat A)), .val (.int f), .val (.ref a1), .val (.int (Int32.ofNat (A + sz 4 u))), .val (.int (Int32.ofNat (sz 4 u))), .val (.int (1 : Int32))] [(.int (ex 6 A (sz 4 u) u f)), (.int ((pl 4 (fun _ => jbyte f) A u) 6))])
  refine w_icmpne X22 D0_352 (fun hc352 => by exact absurd (own_check 6 A u f hu) hc352) (fun hc352 => ?_)
  refine w_iconst X22 D0_355 (v := (1 : Int32)) rfl ?_
  refine w_goto X22 D0_356 ?_
  refine w_istore X22 D0_360 (l' := #[.val (.int a), .val (.int b), .val (.int c0), .val (.int d), .val (.int (Int32.ofNat u)), .val (.int (Int32.ofNat A)), .val (.int f), .val (.ref a1), .val (.int (Int32.ofNat (A + sz 4 u))), .val (.int (Int32.ofNat (sz 4 u))), .val (.int (1 : Int32))]) rfl ?_
  refine w_iload X22 D0_362 rfl ?_
  refine w_ifeq X22 D0_364 (fun hc364 => by exact absurd hc364 (by decide)) (fun hc364 => ?_)
  refine w_aload X22 D0_367 rfl rfl ?_
  refine w_bipush X22 D0_369 (v := (7 : Int32)) rfl ?_
  refine w_baload X22 D0_371 Bp 7 rfl (by decide) ?_
  refine w_bipush X22 D0_372 (v := (7 : Int32)) rfl ?_
  refine w_iload X22 D0_374 rfl ?_
  refine w_iload X22 D0_376 rfl ?_
  refine w_iload X22 D0_378 rfl ?_
  refine w_iload X22 D0_380 rfl ?_
  refine w_static X22 D0_382 (rm3 hw X22.sz _ _ _ _ f 7 A (sz 4 u) u (by decide) hA hsz hu rfl rfl rfl rfl) (hw _ (List.mem_of_getElem? (i := 10) rfl)) (hw _ (List.mem_of_getElem? (i := 11) rfl)) (hw _ (List.mem_of_getElem? (i := 8) rfl)) (hw _ (List.mem_of_getElem? (i := 12) rfl)) (by decide) pd_2 rfl (S := [(.int ((pl 4 (fun _ => jbyte f) A u) 7))]) rfl rfl (Nat.le_of_ble_eq_true rfl) (Nat.le_of_ble_eq_true rfl) (Nat.le_of_ble_eq_true rfl) (Nat.le_of_ble_eq_true rfl) (fun v23 T23 h23 X23 q23 => ?_)
  obtain ⟨rfl, rfl⟩ := q23
  show Wp _ _ _ _ _ _ _ _ (mkF m 385 #[.val (.int a), .val (.int b), .val (.int c0), .val (.int d), .val (.int (Int32.ofNat u)), .val (.int (Int32.ofNat A)), .val (.int f), .val (.ref a1), .val (.int (Int32.ofNat (A + sz 4 u))), .val (.int (Int32.ofNat (sz 4 u))), .val (.int (1 : Int32))] [(.int (ex 7 A (sz 4 u) u f)), (.int ((pl 4 (fun _ => jbyte f) A u) 7))])
  refine w_icmpne X23 D0_385 (fun hc385 => by exact absurd (own_check 7 A u f hu) hc385) (fun hc385 => ?_)
  refine w_iconst X23 D0_388 (v := (1 : Int32)) rfl ?_
  refine w_goto X23 D0_389 ?_
  refine w_istore X23 D0_393 (l' := #[.val (.int a), .val (.int b), .val (.int c0), .val (.int d), .val (.int (Int32.ofNat u)), .val (.int (Int32.ofNat A)), .val (.int f), .val (.ref a1), .val (.int (Int32.ofNat (A + sz 4 u))), .val (.int (Int32.ofNat (sz 4 u))), .val (.int (1 : Int32))]) rfl ?_
  refine w_iload X23 D0_395 rfl ?_
  refine w_ifeq X23 D0_397 (fun hc397 => by exact absurd hc397 (by decide)) (fun hc397 => ?_)
  refine w_aload X23 D0_400 rfl rfl ?_
  refine w_bipush X23 D0_402 (v := (8 : Int32)) rfl ?_
  refine w_baload X23 D0_404 Bp 8 rfl (by decide) ?_
  refine w_bipush X23 D0_405 (v := (8 : Int32)) rfl ?_
  refine w_iload X23 D0_407 rfl ?_
  refine w_iload X23 D0_409 rfl ?_
  refine w_iload X23 D0_411 rfl ?_
  refine w_iload X23 D0_413 rfl ?_
  refine w_static X23 D0_415 (rm3 hw X23.sz _ _ _ _ f 8 A (sz 4 u) u (by decide) hA hsz hu rfl rfl rfl rfl) (hw _ (List.mem_of_getElem? (i := 10) rfl)) (hw _ (List.mem_of_getElem? (i := 11) rfl)) (hw _ (List.mem_of_getElem? (i := 8) rfl)) (hw _ (List.mem_of_getElem? (i := 12) rfl)) (by decide) pd_2 rfl (S := [(.int ((pl 4 (fun _ => jbyte f) A u) 8))]) rfl rfl (Nat.le_of_ble_eq_true rfl) (Nat.le_of_ble_eq_true rfl) (Nat.le_of_ble_eq_true rfl) (Nat.le_of_ble_eq_true rfl) (fun v24 T24 h24 X24 q24 => ?_)
  obtain ⟨rfl, rfl⟩ := q24
  show Wp _ _ _ _ _ _ _ _ (mkF m 418 #[.val (.int a), .val (.int b), .val (.int c0), .val (.int d), .val (.int (Int32.ofNat u)), .val (.int (Int32.ofNat A)), .val (.int f), .val (.ref a1), .val (.int (Int32.ofNat (A + sz 4 u))), .val (.int (Int32.ofNat (sz 4 u))), .val (.int (1 : Int32))] [(.int (ex 8 A (sz 4 u) u f)), (.int ((pl 4 (fun _ => jbyte f) A u) 8))])
  refine w_icmpne X24 D0_418 (fun hc418 => by exact absurd (own_check 8 A u f hu) hc418) (fun hc418 => ?_)
  refine w_iconst X24 D0_421 (v := (1 : Int32)) rfl ?_
  refine w_goto X24 D0_422 ?_
  refine w_istore X24 D0_426 (l' := #[.val (.int a), .val (.int b), .val (.int c0), .val (.int d), .val (.int (Int32.ofNat u)), .val (.int (Int32.ofNat A)), .val (.int f), .val (.ref a1), .val (.int (Int32.ofNat (A + sz 4 u))), .val (.int (Int32.ofNat (sz 4 u))), .val (.int (1 : Int32))]) rfl ?_
  refine w_iload X24 D0_428 rfl ?_
  refine w_ifeq X24 D0_430 (fun hc430 => by exact absurd hc430 (by decide)) (fun hc430 => ?_)
  refine w_aload X24 D0_433 rfl rfl ?_
  refine w_bipush X24 D0_435 (v := (9 : Int32)) rfl ?_
  refine w_baload X24 D0_437 Bp 9 rfl (by decide) ?_
  refine w_bipush X24 D0_438 (v := (9 : Int32)) rfl ?_
  refine w_iload X24 D0_440 rfl ?_
  refine w_iload X24 D0_442 rfl ?_
  refine w_iload X24 D0_444 rfl ?_
  refine w_iload X24 D0_446 rfl ?_
  refine w_static X24 D0_448 (rm3 hw X24.sz _ _ _ _ f 9 A (sz 4 u) u (by decide) hA hsz hu rfl rfl rfl rfl) (hw _ (List.mem_of_getElem? (i := 10) rfl)) (hw _ (List.mem_of_getElem? (i := 11) rfl)) (hw _ (List.mem_of_getElem? (i := 8) rfl)) (hw _ (List.mem_of_getElem? (i := 12) rfl)) (by decide) pd_2 rfl (S := [(.int ((pl 4 (fun _ => jbyte f) A u) 9))]) rfl rfl (Nat.le_of_ble_eq_true rfl) (Nat.le_of_ble_eq_true rfl) (Nat.le_of_ble_eq_true rfl) (Nat.le_of_ble_eq_true rfl) (fun v25 T25 h25 X25 q25 => ?_)
  obtain ⟨rfl, rfl⟩ := q25
  show Wp _ _ _ _ _ _ _ _ (mkF m 451 #[.val (.int a), .val (.int b), .val (.int c0), .val (.int d), .val (.int (Int32.ofNat u)), .val (.int (Int32.ofNat A)), .val (.int f), .val (.ref a1), .val (.int (Int32.ofNat (A + sz 4 u))), .val (.int (Int32.ofNat (sz 4 u))), .val (.int (1 : Int32))] [(.int (ex 9 A (sz 4 u) u f)), (.int ((pl 4 (fun _ => jbyte f) A u) 9))])
  refine w_icmpne X25 D0_451 (fun hc451 => by exact absurd (own_check 9 A u f hu) hc451) (fun hc451 => ?_)
  refine w_iconst X25 D0_454 (v := (1 : Int32)) rfl ?_
  refine w_goto X25 D0_455 ?_
  refine w_istore X25 D0_459 (l' := #[.val (.int a), .val (.int b), .val (.int c0), .val (.int d), .val (.int (Int32.ofNat u)), .val (.int (Int32.ofNat A)), .val (.int f), .val (.ref a1), .val (.int (Int32.ofNat (A + sz 4 u))), .val (.int (Int32.ofNat (sz 4 u))), .val (.int (1 : Int32))]) rfl ?_
  refine w_iload X25 D0_461 rfl ?_
  refine w_ifeq X25 D0_463 (fun hc463 => by exact absurd hc463 (by decide)) (fun hc463 => ?_)
  refine w_aload X25 D0_466 rfl rfl ?_
  refine w_bipush X25 D0_468 (v := (10 : Int32)) rfl ?_
  refine w_baload X25 D0_470 Bp 10 rfl (by decide) ?_
  refine w_bipush X25 D0_471 (v := (10 : Int32)) rfl ?_
  refine w_iload X25 D0_473 rfl ?_
  refine w_iload X25 D0_475 rfl ?_
  refine w_iload X25 D0_477 rfl ?_
  refine w_iload X25 D0_479 rfl ?_
  refine w_static X25 D0_481 (rm3 hw X25.sz _ _ _ _ f 10 A (sz 4 u) u (by decide) hA hsz hu rfl rfl rfl rfl) (hw _ (List.mem_of_getElem? (i := 10) rfl)) (hw _ (List.mem_of_getElem? (i := 11) rfl)) (hw _ (List.mem_of_getElem? (i := 8) rfl)) (hw _ (List.mem_of_getElem? (i := 12) rfl)) (by decide) pd_2 rfl (S := [(.int ((pl 4 (fun _ => jbyte f) A u) 10))]) rfl rfl (Nat.le_of_ble_eq_true rfl) (Nat.le_of_ble_eq_true rfl) (Nat.le_of_ble_eq_true rfl) (Nat.le_of_ble_eq_true rfl) (fun v26 T26 h26 X26 q26 => ?_)
  obtain ⟨rfl, rfl⟩ := q26
  show Wp _ _ _ _ _ _ _ _ (mkF m 484 #[.val (.int a), .val (.int b), .val (.int c0), .val (.int d), .val (.int (Int32.ofNat u)), .val (.int (Int32.ofNat A)), .val (.int f), .val (.ref a1), .val (.int (Int32.ofNat (A + sz 4 u))), .val (.int (Int32.ofNat (sz 4 u))), .val (.int (1 : Int32))] [(.int (ex 10 A (sz 4 u) u f)), (.int ((pl 4 (fun _ => jbyte f) A u) 10))])
  refine w_icmpne X26 D0_484 (fun hc484 => by exact absurd (own_check 10 A u f hu) hc484) (fun hc484 => ?_)
  refine w_iconst X26 D0_487 (v := (1 : Int32)) rfl ?_
  refine w_goto X26 D0_488 ?_
  refine w_istore X26 D0_492 (l' := #[.val (.int a), .val (.int b), .val (.int c0), .val (.int d), .val (.int (Int32.ofNat u)), .val (.int (Int32.ofNat A)), .val (.int f), .val (.ref a1), .val (.int (Int32.ofNat (A + sz 4 u))), .val (.int (Int32.ofNat (sz 4 u))), .val (.int (1 : Int32))]) rfl ?_
  refine w_iload X26 D0_494 rfl ?_
  refine w_ifeq X26 D0_496 (fun hc496 => by exact absurd hc496 (by decide)) (fun hc496 => ?_)
  refine w_aload X26 D0_499 rfl rfl ?_
  refine w_bipush X26 D0_501 (v := (11 : Int32)) rfl ?_
  refine w_baload X26 D0_503 Bp 11 rfl (by decide) ?_
  refine w_bipush X26 D0_504 (v := (11 : Int32)) rfl ?_
  refine w_iload X26 D0_506 rfl ?_
  refine w_iload X26 D0_508 rfl ?_
  refine w_iload X26 D0_510 rfl ?_
  refine w_iload X26 D0_512 rfl ?_
  refine w_static X26 D0_514 (rm3 hw X26.sz _ _ _ _ f 11 A (sz 4 u) u (by decide) hA hsz hu rfl rfl rfl rfl) (hw _ (List.mem_of_getElem? (i := 10) rfl)) (hw _ (List.mem_of_getElem? (i := 11) rfl)) (hw _ (List.mem_of_getElem? (i := 8) rfl)) (hw _ (List.mem_of_getElem? (i := 12) rfl)) (by decide) pd_2 rfl (S := [(.int ((pl 4 (fun _ => jbyte f) A u) 11))]) rfl rfl (Nat.le_of_ble_eq_true rfl) (Nat.le_of_ble_eq_true rfl) (Nat.le_of_ble_eq_true rfl) (Nat.le_of_ble_eq_true rfl) (fun v27 T27 h27 X27 q27 => ?_)
  obtain ⟨rfl, rfl⟩ := q27
  show Wp _ _ _ _ _ _ _ _ (mkF m 517 #[.val (.int a), .val (.int b), .val (.int c0), .val (.int d), .val (.int (Int32.ofNat u)), .val (.int (Int32.ofNat A)), .val (.int f), .val (.ref a1), .val (.int (Int32.ofNat (A + sz 4 u))), .val (.int (Int32.ofNat (sz 4 u))), .val (.int (1 : Int32))] [(.int (ex 11 A (sz 4 u) u f)), (.int ((pl 4 (fun _ => jbyte f) A u) 11))])
  refine w_icmpne X27 D0_517 (fun hc517 => by exact absurd (own_check 11 A u f hu) hc517) (fun hc517 => ?_)
  refine w_iconst X27 D0_520 (v := (1 : Int32)) rfl ?_
  refine w_goto X27 D0_521 ?_
  refine w_istore X27 D0_525 (l' := #[.val (.int a), .val (.int b), .val (.int c0), .val (.int d), .val (.int (Int32.ofNat u)), .val (.int (Int32.ofNat A)), .val (.int f), .val (.ref a1), .val (.int (Int32.ofNat (A + sz 4 u))), .val (.int (Int32.ofNat (sz 4 u))), .val (.int (1 : Int32))]) rfl ?_
  refine w_iload X27 D0_527 rfl ?_
  exact w_zreturn X27 D0_529 (by decide) (by decide) (rfl)
set_option maxRecDepth 65536 in
set_option maxHeartbeats 40000000 in
theorem comes_1 {Post : Tables → Env → Array Value → State → Outcome → State → Prop} (hpost : ∀ tb e args s v u, (limb_1_1.after args s (.returned v) u = true ∧ limb_1_2.after args s (.returned v) u = true ∧ True) → FrameEnd s (.returned v) u (Jvm.fieldLocs frame_1_writes args s ++ Jvm.arrayLocs frame_1_arrays args s ++ Jvm.staticLocs frame_1_statics s) 16 128 → Post tb e args s (.returned v) u) :
    ArmFor flags0 classFile x code maxLocals ret World_1 tables_1 room_1 Calls_1 rest_1 Pre_1 Post := by
  intro l hfl _ _ p e ha hc hk s m args below hf hA hF happ hP
  obtain ⟨hcalls, hrest, hpre⟩ := hP
  obtain ⟨-, -, -, hnamed, -, -, -, hat⟩ := (Spec.applies_iff hf).mp happ
  obtain ⟨hg, hn⟩ := and_e (Cond.before_iff.mp (show (Jvm.Cond.and given_1 narrow_1).before args s = true from hpre))
  obtain ⟨hcount, g0⟩ := and_e hg
  obtain ⟨ga0, g1⟩ := and_e g0
  obtain ⟨ga1, g2⟩ := and_e g1
  obtain ⟨ga2, g3⟩ := and_e g2
  obtain ⟨w0, w1, w2, w3, rfl⟩ : ∃ w0 w1 w2 w3 : Value, args = #[w0, w1, w2, w3] := by
    have hs : args.size = 4 := by simpa [Cond.value, given_1] using hcount
    obtain ⟨L⟩ := args
    match L, hs with
    | [w0, w1, w2, w3], _ => exact ⟨w0, w1, w2, w3, rfl⟩
  have hw := fun d (hd : d ∈ tables_1) => atoms_spec (ws := Jvm.Cond.code x code maxLocals ret :: tables_1) hat d (List.mem_cons_of_mem _ hd)
  obtain ⟨i0, ei0⟩ := is_v ga0
  obtain rfl : w0 = (.int i0) := Option.some.inj ei0
  obtain ⟨i1, ei1⟩ := is_v ga1
  obtain rfl : w1 = (.int i1) := Option.some.inj ei1
  obtain ⟨i2, ei2⟩ := is_v ga2
  obtain rfl : w2 = (.int i2) := Option.some.inj ei2
  obtain ⟨i3, ei3⟩ := is_v g3
  obtain rfl : w3 = (.int i3) := Option.some.inj ei3
  obtain ⟨n, o, h1, h2, h3, _, L, rfl, ⟨N, -, rfl⟩, hq⟩ := rm0 (l := l) (Z := s) (n0 := s.heap.size) (h := s.heap) hw (Nat.le_refl _) i0 i1 i2 i3 p e ha hc hk s m _ below hf ((Spec.applies_iff_loose hf).mp happ).1 ⟨rfl, State.Warmed39.refl s, rfl⟩ trivial
  refine ⟨n, _, h1, h2, h3, hpost _ _ _ _ _ _ ⟨Cond.after_iff.mpr rfl, Cond.after_iff.mpr (eq_i res_at (Term.int_eval (1)) rfl), trivial⟩ ⟨hq.1, hq.2.1, (hq.2.2.sift fun y hy => Or.inr (N y hy)).mono (by decide) (by decide)⟩⟩
theorem main_1_1 : Claimed_1_1 := comes_1 fun _ _ _ _ _ _ h hF => ⟨h.1, hF⟩
theorem main_1_2 : Claimed_1_2 := comes_1 fun _ _ _ _ _ _ h hF => ⟨h.2.1, hF⟩
end Jvm.Pilot.@@N@@
namespace Jvm.Pilot.@@N@@
open Jvm Jvm.ClassFile Sem Op Lib Jvm.Free Jvm.Stand Jvm.Pilot.@@N@@.Jvm.D
/-! MADE BY PROGRAM (witnessworld.py) out of the Statement's table words and the real class files: 9 classes; the members and pool entries that the words name. The judged class is class 1, her method 3. -/
namespace start1
open Jvm.ClassFile
def u (s : String) : CpInfo := .utf8 (stringToUtf16 s)
/-- a pool by its gaps: so many unusable entries, then the entry; so many at the end -/
def gap : Nat → List CpInfo → List CpInfo
  | 0, r => r
  | n + 1, r => .unusable :: gap n r
def poolList (es : List (Nat × CpInfo)) (last : Nat) : List CpInfo := es.foldr (fun e r => gap e.1 (e.2 :: r)) (gap last [])
def pool (es : List (Nat × CpInfo)) (last : Nat) : Array CpInfo := ⟨poolList es last⟩
def fileOf (pool : Array CpInfo) (this : Nat) (attrs : Array Attribute := #[]) (ms : Array MethodInfo := #[]) (fl : Nat := 33) (sup : Nat := 0) (ifs : Array Nat := #[]) (fds : Array FieldInfo := #[]) : ClassFile where
  minorVersion := 0
  majorVersion := 65
  constantPool := pool
  accessFlags := fl
  thisClass := this
  superClass := sup
  interfaces := ifs
  fields := fds
  methods := ms
  attributes := attrs
def plain (name : String) (sup : Option ClassId) : Class where
  name := name
  kind := .ordinary
  loader := none
  accessFlags := 33
  super := sup
  interfaces := #[]
  cf := none
  fields := #[]
  methods := #[]
  instanceTypes := #[]
  staticTypes := #[]
  resolved := #[]
  callSites := []
  init := .initialized
  statics := none
  mirror := none

def pool0 : Array CpInfo := pool [(5, u "<init>"), (0, u "()V"), (1, .class_ 10), (1, u "java/lang/Object")] 113

def k0m0 : Method := { name := "<init>", desc := "()V", sig := { parameters := [], returnType := none }, accessFlags := 1, code := none }
/-- java/lang/Object -/
def k0 : Class := { plain "java/lang/Object" none with
  accessFlags := 33
  interfaces := #[]
  cf := some (fileOf pool0 8 #[] #[{ accessFlags := 1, nameIndex := 5, descriptorIndex := 6, attributes := #[] }] 33 0 #[] #[])
  fields := #[]
  methods := #[k0m0]
  instanceTypes := #[]
  staticTypes := #[]
  resolved := Array.replicate 124 none
  statics := none }

def pool1 : Array CpInfo := pool [(2, .class_ 4), (1, u "java/lang/Object"), (0, u "<init>"), (0, u "()V"), (0, .integer 2097152), (0, .integer 268435456), (0, .integer 2147483647), (0, .methodref 11 12), (0, .class_ 13), (0, .nameAndType 14 15), (0, u "foldmill/MapOutput"), (0, u "putLength"), (0, u "([BII)I"), (0, .methodref 17 18), (0, .class_ 19), (0, .nameAndType 20 21), (0, u "foldmill/MapOutputPutLengthPinLaw"), (0, u "size"), (0, u "(I)I"), (0, .methodref 17 23), (0, .nameAndType 24 25), (0, u "expected"), (0, u "(IIIIB)B"), (3, u "law"), (0, u "(IIII)Z")] 4

def k1m0 : Method := { name := "<init>", desc := "()V", sig := { parameters := [], returnType := none }, accessFlags := 1, code := none }
def k1c1 : Code := { maxStack := 2, maxLocals := 1, code := method_2_code, exceptionTable := #[], attributes := #[] }
def k1m1 : Method := { name := "size", desc := "(I)I", sig := { parameters := [.int], returnType := some .int }, accessFlags := 10, code := some k1c1 }
def k1c2 : Code := { maxStack := 3, maxLocals := 7, code := method_3_code, exceptionTable := #[], attributes := #[] }
def k1m2 : Method := { name := "expected", desc := "(IIIIB)B", sig := { parameters := [.int, .int, .int, .int, .byte], returnType := some .byte }, accessFlags := 10, code := some k1c2 }
def k1c3 : Code := { maxStack := 6, maxLocals := 11, code := code, exceptionTable := #[], attributes := #[] }
def k1m3 : Method := { name := "law", desc := "(IIII)Z", sig := { parameters := [.int, .int, .int, .int], returnType := some .boolean }, accessFlags := 9, code := some k1c3 }
/-- foldmill/MapOutputPutLengthPinLaw -/
def k1 : Class := { plain "foldmill/MapOutputPutLengthPinLaw" (some 0) with
  accessFlags := 49
  interfaces := #[]
  cf := some (fileOf pool1 17 #[] #[{ accessFlags := 1, nameIndex := 5, descriptorIndex := 6, attributes := #[] }, { accessFlags := 10, nameIndex := 20, descriptorIndex := 21, attributes := #[] }, { accessFlags := 10, nameIndex := 24, descriptorIndex := 25, attributes := #[] }, { accessFlags := 9, nameIndex := 29, descriptorIndex := 30, attributes := #[] }] 49 2 #[] #[])
  fields := #[]
  methods := #[k1m0, k1m1, k1m2, k1m3]
  instanceTypes := #[]
  staticTypes := #[]
  resolved := Array.replicate 35 none
  statics := none }

def pool2 : Array CpInfo := pool [(2, .class_ 4), (1, u "java/lang/Object"), (3, .class_ 10), (1, u "foldmill/MapOutput"), (0, u "file"), (0, u "Ljava/nio/file/Path;"), (2, u "segmentStarts"), (0, u "[J"), (2, u "records"), (0, u "J"), (2, u "checksum"), (5, u "BUFFER_SIZE"), (0, u "I"), (2, u "MAX_LENGTH_SIZE"), (16, u "putLength"), (0, u "([BII)I"), (6, .class_ 59), (0, u "foldmill/MapOutput$Reader"), (0, .class_ 61), (0, u "foldmill/MapOutput$Writer")] 3

def k2c0 : Code := { maxStack := 4, maxLocals := 5, code := prog_8_method_10_code, exceptionTable := #[], attributes := #[] }
def k2m0 : Method := { name := "putLength", desc := "([BII)I", sig := { parameters := [(.array .byte), .int, .int], returnType := some .int }, accessFlags := 8, code := some k2c0 }
/-- foldmill/MapOutput -/
def k2 : Class := { plain "foldmill/MapOutput" (some 0) with
  accessFlags := 48
  interfaces := #[]
  cf := some (fileOf pool2 8 #[.nestMembers #[58, 60]] #[{ accessFlags := 8, nameIndex := 50, descriptorIndex := 51, attributes := #[] }] 48 2 #[] #[{ accessFlags := 26, nameIndex := 29, descriptorIndex := 30, attributes := #[] }, { accessFlags := 26, nameIndex := 33, descriptorIndex := 30, attributes := #[] }, { accessFlags := 18, nameIndex := 11, descriptorIndex := 12, attributes := #[] }, { accessFlags := 18, nameIndex := 15, descriptorIndex := 16, attributes := #[] }, { accessFlags := 18, nameIndex := 19, descriptorIndex := 20, attributes := #[] }, { accessFlags := 18, nameIndex := 23, descriptorIndex := 20, attributes := #[] }])
  fields := #[{ name := "BUFFER_SIZE", type := .int, accessFlags := 26, slot := 0, constantValue := 0 }, { name := "MAX_LENGTH_SIZE", type := .int, accessFlags := 26, slot := 1, constantValue := 0 }, { name := "file", type := (.object "java/nio/file/Path"), accessFlags := 18, slot := 0, constantValue := 0 }, { name := "segmentStarts", type := (.array .long), accessFlags := 18, slot := 1, constantValue := 0 }, { name := "records", type := .long, accessFlags := 18, slot := 2, constantValue := 0 }, { name := "checksum", type := .long, accessFlags := 18, slot := 3, constantValue := 0 }]
  methods := #[k2m0]
  instanceTypes := #[(.object "java/nio/file/Path"), (.array .long), .long, .long]
  staticTypes := #[.int, .int]
  resolved := Array.replicate 65 none
  statics := none }

def pool3 : Array CpInfo := pool [(1, u "java/lang/Cloneable"), (0, .class_ 1), (0, u "java/lang/Object"), (0, .class_ 3)] 3

/-- java/lang/Cloneable -/
def k3 : Class := { plain "java/lang/Cloneable" (some 0) with
  accessFlags := 1537
  interfaces := #[]
  cf := some (fileOf pool3 2 #[] #[] 1537 4 #[] #[])
  fields := #[]
  methods := #[]
  instanceTypes := #[]
  staticTypes := #[]
  resolved := Array.replicate 8 none
  statics := none }

def pool4 : Array CpInfo := pool [(1, u "java/io/Serializable"), (0, .class_ 1), (0, u "java/lang/Object"), (0, .class_ 3)] 3

/-- java/io/Serializable -/
def k4 : Class := { plain "java/io/Serializable" (some 0) with
  accessFlags := 1537
  interfaces := #[]
  cf := some (fileOf pool4 2 #[] #[] 1537 4 #[] #[])
  fields := #[]
  methods := #[]
  instanceTypes := #[]
  staticTypes := #[]
  resolved := Array.replicate 8 none
  statics := none }

/-- the primitive byte -/
def k5 : Class := { plain "byte" none with kind := .primitive 'B', accessFlags := 0x411 }
/-- [B -/
def k6 : Class := { plain "[B" (some 0) with kind := .array 5 .byte, interfaces := #[3, 4], accessFlags := 1041 }

/-- the primitive int -/
def k7 : Class := { plain "int" none with kind := .primitive 'I', accessFlags := 0x411 }
/-- [I -/
def k8 : Class := { plain "[I" (some 0) with kind := .array 7 .int, interfaces := #[3, 4], accessFlags := 1041 }

def heap : Heap := #[]
def classes : Array Class := #[k0, k1, k2, k3, k4, k5, k6, k7, k8]
def interned : List (Array UInt16 × Addr) := []
def slotsUsed : Nat := 0
def theMethod : MethodId := ⟨1, 3⟩
def args0 : Array Value := #[.int 300, .int 2, .int 7, .int 1]
def aboutOver (below : List Frame) : State where
  vm := { classes := classes, interned := interned.toArray }
  heap := heap
  slotsUsed := slotsUsed
  threads := #[{ frames := .invoking theMethod args0 :: below }]
def below0 : List Frame := [.native { method := ⟨0, 0⟩, args := #[] }]
def about1 : State := aboutOver below0
def p0 : Program := .bare "" "" ""
def e0 : Env := launch0.env 0 0 0
theorem w_frames : about1.frames = Frame.invoking theMethod args0 :: below0 := rfl
set_option maxRecDepth 65536 in
theorem w_args : argsFit about1.vm theMethod args0 = true := by decide +kernel
set_option maxRecDepth 65536 in
theorem w_heap : heapFits about1 = true := by decide +kernel
set_option maxRecDepth 65536 in
theorem w_runnable : about1.curStatus? = some .runnable := by decide +kernel
set_option maxRecDepth 65536 in
theorem w_alone : about1.alone = true := by decide +kernel
set_option maxRecDepth 65536 in
theorem w_named : about1.methodNamed? x = some theMethod := by decide +kernel
set_option maxRecDepth 65536 in
theorem w_hears : about1.hears theMethod below0 = true := by decide +kernel
set_option maxRecDepth 65536 in
theorem w_ripe : about1.ripe theMethod args0 below0 = true := by decide +kernel
theorem w_running : about1.status = .running := rfl
set_option maxRecDepth 65536 in
theorem w_room : about1.hasRoom e0.platform room_1 = true :=
  launch0.hasRoom_least _ room_1 (by decide +kernel) (by decide +kernel) (by decide +kernel) (by decide +kernel) (by decide +kernel) (by decide +kernel)
theorem allAtoms_all (ts : List Jvm.Cond) (a : Array Jvm.Value) (st : Jvm.State) : (allAtoms ts).before a st = ts.all (fun c => c.before a st) := by
  induction ts with
  | nil => rfl
  | cons c t ih =>
    show (Jvm.Cond.and c (allAtoms t)).before a st = _
    rw [Jvm.Cond.before_and, ih, List.all_cons]
def words1 : List Jvm.Cond := Jvm.Cond.code x code maxLocals ret :: tables_1
/-- a 'code' word, met by the world's own term for the bytes: nothing is compared byte by byte -/
theorem code_word {y : MethodName} {bytes : ByteArray} {mx : Nat} {rt : Option FieldType} {a : Array Value} {s : State} {m : MethodId} {meth : Method} {c : Code} (h1 : s.methodNamed? y = some m) (h2 : s.vm.method? m = some meth) (h3 : meth.code = some c) (h4 : c.code = bytes)
    (h5 : (c.maxLocals == mx && c.exceptionTable.isEmpty && decide (c.maxStack ≤ mostOperands) && decide (meth.sig.returnType = rt) && !meth.locks && decide (parseMethodDescriptor y.desc = some meth.sig)) = true) : (Jvm.Cond.code y bytes mx rt).before a s = true := by
  simp only [Bool.and_eq_true, beq_iff_eq, Bool.not_eq_true', decide_eq_true_eq] at h5
  obtain ⟨⟨⟨⟨⟨g1, g2⟩, g3⟩, g4⟩, g5⟩, g6⟩ := h5
  simp [Cond.before, Cond.holds, Cond.value, h1, h2, h3, h4, g1, g2, g3, g4, g5, g6]
def isCode : Jvm.Cond → Bool
  | .code _ _ _ _ => true
  | _ => false
theorem all_split {L : List Jvm.Cond} {P : Jvm.Cond → Bool} (h1 : L.all (fun c => isCode c || P c) = true) (h2 : ∀ c ∈ L.filter isCode, P c = true) : L.all P = true := by
  refine List.all_eq_true.mpr fun c hc => ?_
  have h := List.all_eq_true.mp h1 c hc
  rcases Bool.eq_false_or_eq_true (isCode c) with hi | hi
  · exact h2 c (List.mem_filter.mpr ⟨hc, hi⟩)
  · simpa [hi] using h
set_option maxRecDepth 65536 in
theorem w_c0 : (Jvm.Cond.code x code maxLocals ret).before args0 about1 = true := code_word (m := ⟨1, 3⟩) (meth := k1m3) (c := k1c3) (by decide +kernel) rfl rfl rfl (by decide +kernel)
set_option maxRecDepth 65536 in
theorem w_c1 : (Jvm.Cond.code ({ cls := "foldmill/MapOutput", name := "putLength", desc := "([BII)I" } : Jvm.MethodName) prog_8_method_10_code (5 : Nat) (Option.some Jvm.ClassFile.FieldType.int)).before args0 about1 = true := code_word (m := ⟨2, 0⟩) (meth := k2m0) (c := k2c0) (by decide +kernel) rfl rfl rfl (by decide +kernel)
set_option maxRecDepth 65536 in
theorem w_c2 : (Jvm.Cond.code ({ cls := "foldmill/MapOutputPutLengthPinLaw", name := "size", desc := "(I)I" } : Jvm.MethodName) method_2_code (1 : Nat) (Option.some Jvm.ClassFile.FieldType.int)).before args0 about1 = true := code_word (m := ⟨1, 1⟩) (meth := k1m1) (c := k1c1) (by decide +kernel) rfl rfl rfl (by decide +kernel)
set_option maxRecDepth 65536 in
theorem w_c3 : (Jvm.Cond.code ({ cls := "foldmill/MapOutputPutLengthPinLaw", name := "expected", desc := "(IIIIB)B" } : Jvm.MethodName) method_3_code (7 : Nat) (Option.some Jvm.ClassFile.FieldType.byte)).before args0 about1 = true := code_word (m := ⟨1, 2⟩) (meth := k1m2) (c := k1c2) (by decide +kernel) rfl rfl rfl (by decide +kernel)
def codes1 : List Jvm.Cond := [Jvm.Cond.code x code maxLocals ret, Jvm.Cond.code ({ cls := "foldmill/MapOutput", name := "putLength", desc := "([BII)I" } : Jvm.MethodName) prog_8_method_10_code (5 : Nat) (Option.some Jvm.ClassFile.FieldType.int), Jvm.Cond.code ({ cls := "foldmill/MapOutputPutLengthPinLaw", name := "size", desc := "(I)I" } : Jvm.MethodName) method_2_code (1 : Nat) (Option.some Jvm.ClassFile.FieldType.int), Jvm.Cond.code ({ cls := "foldmill/MapOutputPutLengthPinLaw", name := "expected", desc := "(IIIIB)B" } : Jvm.MethodName) method_3_code (7 : Nat) (Option.some Jvm.ClassFile.FieldType.byte)]
set_option maxRecDepth 65536 in
theorem codes_eq : words1.filter isCode = codes1 := rfl
theorem w_codes : ∀ c ∈ words1.filter isCode, c.before args0 about1 = true := by
  rw [codes_eq]
  intro c hc
  simp only [codes1, List.mem_cons, List.not_mem_nil, or_false] at hc
  rcases hc with rfl | rfl | rfl | rfl
  · exact w_c0
  · exact w_c1
  · exact w_c2
  · exact w_c3
set_option maxRecDepth 65536 in
theorem w_t1 : words1.all (fun c => isCode c || c.before args0 about1) = true := by decide +kernel
theorem w_tables : (allAtoms (Jvm.Cond.code x code maxLocals ret :: tables_1)).before args0 about1 = true := by
  rw [allAtoms_all]
  show words1.all (fun c => c.before args0 about1) = true
  refine all_split ?_ w_codes
  rw [w_t1]
set_option maxRecDepth 65536 in
theorem w_case : (Jvm.Cond.and given_1 narrow_1).before args0 about1 = true := by decide +kernel
theorem w_applies : (headSpec (Jvm.Cond.code x code maxLocals ret :: tables_1) room_1).applies x e0.platform about1 = true :=
  (Spec.applies_iff w_frames).mpr ⟨w_running, w_runnable, w_alone, w_named, w_hears, w_ripe, w_room, w_tables⟩
theorem atStart : AtStart classFile x code maxLocals ret World_1 tables_1 room_1 Calls_1 rest_1 Pre_1 launch0 p0 e0 about1 theMethod args0 below0 :=
  ⟨lists_1, trivial, launch0.admits_env _ _ _, launch0.least_env, fairChoices_fair.cas, fairChoices_fair.clock, w_frames, w_args, w_heap, w_applies, trivial, trivial, w_case⟩
end start1
theorem witness_1 : WitnessClaimed_1 := ⟨start1.p0, start1.e0, start1.about1, start1.theMethod, start1.args0, start1.below0, start1.atStart⟩
end Jvm.Pilot.@@N@@
