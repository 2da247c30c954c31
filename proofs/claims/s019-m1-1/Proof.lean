import JvmDerived
import JvmDerived.Pilot.@@N@@Statement
import JvmDerived.Pilot.@@N@@Code
set_option linter.unusedVariables false
set_option linter.unusedSimpArgs false
namespace Jvm.RoadKit
open Sem ClassFile Op Lib Jvm.Stand Jvm.Free Jvm.LawKit
section New
variable {p : Program} {l : Launch} {e : Env} {R : Room} {s : State} {m : MethodId} {args : Array Value} {below : List Frame} {meth : Method} {c : Code} {T : State} {locs : List Loc} {cells slots : Nat}
theorem retI (X : Stand p l e R s m args below meth c T locs cells slots) (hx : p.tables.exec = Jvm.exec) {pc : Nat} {Ls : Array Slot} {z : Int32} {rest : List Value} (hret : meth.sig.returnType = some .int) (hd : decode c.code pc = .ok (.ireturn, 1)) {fs : List Frame}
    (hl : ∀ (f : JFrame) (acts : List Action), f.method = m → f.locked = none → f.entered = [] → (doReturn e (T.setTop f) acts (some (.int z))).1 = T.setFrames fs) : Steps p.tables e below (T.setTop (mkF m pc Ls (.int z :: rest))) (T.setFrames fs) := by
  have hm' : T.vm.method? m = some meth := X.method'
  have hn : narrow .int (.int z) = .int z := rfl
  show Steps p.tables e below (T.setTop { method := m, pc := pc, locals := Ls, stack := _ :: rest, locked := none }) _
  jvm_step X.here [X.here.top, hx, hd, hm', hret, hn]
  first | (intro acts; rw [hl _ acts rfl rfl rfl]) | rw [hl _ _ rfl rfl rfl]
  exact Steps.refl _
end New
end Jvm.RoadKit
namespace Jvm.Pilot.@@N@@
open Jvm Jvm.ClassFile Sem Op Lib Jvm.Free Jvm.Stand Jvm.LawKit Jvm.RoadKit Bundle Jvm.Pilot.@@N@@.Jvm.D
section OwnKit
variable {Z : State} {a0 : Array Value} {n0 : Nat} {p : Program} {l : Launch} {e : Env} {R : Room} {s : State} {m : MethodId} {args : Array Value} {below : List Frame} {meth : Method} {c : Code} {code : ByteArray} {ml : Nat} {ret : Option FieldType} {y : MethodName} {T : State} {h h' : Heap} {k j : Nat} {Q : Option Value → Heap → Prop} {pc nx tgt : Nat} {Ls : Array Slot} {S : List Value}
/-- Java's shifts -/
abbrev jshl (x q : Int32) : Int32 := x <<< (q &&& 31)
abbrev jshr (x q : Int32) : Int32 := x >>> (q &&& 31)
abbrev jushr (x q : Int32) : Int32 := (x.toUInt32 >>> (q &&& 31).toUInt32).toInt32
abbrev jshlL (x : Int64) (q : Int32) : Int64 := x <<< (q &&& 0x3f).toInt64
abbrev jshrL (x : Int64) (q : Int32) : Int64 := x >>> (q &&& 0x3f).toInt64
abbrev jushrL (x : Int64) (q : Int32) : Int64 := (x.toUInt64 >>> (q &&& 0x3f).toInt64.toUInt64).toInt64
abbrev jbyte (x : Int32) : Int32 := x.toInt8.toInt32
/-- the instruction at pc, and the pc behind it -/
def Dec (code : ByteArray) (pc : Nat) (i : Instr) (len nx : Nat) : Prop := decode code pc = .ok (i, len) ∧ nx = pc + len
/-- a jump at pc: the pc behind it, and where it goes -/
def Jmp (code : ByteArray) (pc : Nat) (i : Instr) (o : Int) (nx tgt : Nat) : Prop := decode code pc = .ok (i, 3) ∧ nx = pc + 3 ∧ 0 ≤ (pc : Int) + o ∧ ((pc : Int) + o).toNat = tgt
/-- where a body's run stands: the heap, the cells and slots made; nothing older than n0 was written -/
def Pos (Z : State) (a0 : Array Value) (n0 : Nat) (p : Program) (l : Launch) (e : Env) (R : Room) (s : State) (m : MethodId) (args : Array Value) (below : List Frame) (meth : Method) (c : Code) (code : ByteArray) (ml : Nat) (ret : Option FieldType) (y : MethodName) (T : State) (h : Heap) (k j : Nat) : Prop :=
  p.tables.exec = Jvm.exec ∧ Z.Warmed39 s.vm ∧ c.code = code ∧ c.maxLocals = ml ∧ meth.sig.returnType = ret ∧ s.vm.findClass y.cls = some m.cls ∧ meth.name = y.name ∧ meth.locks = false ∧ T.heap = h ∧ n0 ≤ h.size ∧ (∀ d ∈ tables_1, d.before a0 Z = true) ∧ ∃ locs, Fr n0 locs ∧ Stand p l e R s m args below meth c T locs k j
/-- from the frame f over T the body comes to its end, and Q says with what -/
def Wp (n0 : Nat) (p : Program) (e : Env) (R : Room) (s : State) (below : List Frame) (Q : Option Value → Heap → Prop) (T : State) (f : JFrame) : Prop :=
  ∃ t o, Steps p.tables e below (T.setTop f) t ∧ t.status = .running ∧ Ended t below o ∧ ∃ v L, o = .returned v ∧ (Fr n0 L ∧ n0 ≤ t.heap.size ∧ Q v t.heap) ∧ FrameEnd s o t L R.cells R.slots
/-- a body's contract at one array of arguments and one heap -/
def Ctr (l : Launch) (Z : State) (n0 : Nat) (y : MethodName) (code : ByteArray) (ml : Nat) (ret : Option FieldType) (R : Room) (ws : List Jvm.Cond) (as : Array Value) (h : Heap) (Q : Option Value → Heap → Prop) : Prop :=
  MetFree l y (head1 (Jvm.Cond.code y code ml ret :: ws) R) (fun a U => a = as ∧ Z.Warmed39 U.vm ∧ U.heap = h) (fun _ _ _ _ _ => True) (fun _ U o U' => ∃ v L, o = .returned v ∧ (Fr n0 L ∧ n0 ≤ U'.heap.size ∧ Q v U'.heap) ∧ FrameEnd U o U' L R.cells R.slots)
/-- an array of n places: place i holds g i; it is no older than n0 -/
def Ba (Z : State) (n0 : Nat) (h : Heap) (a : Addr) (ty : FieldType) (n : Nat) (g : Nat → Value) : Prop :=
  n0 ≤ a ∧ n < 2147483648 ∧ ∃ c : Cell, Arr Z h a c ty ∧ c.slots.size = n ∧ ∀ i, i < n → c.slots[i]? = some (g i)
def bI (b : Nat → Int32) : Nat → Value := fun i => .int (b i)
def bJ (b : Nat → Int64) : Nat → Value := fun i => .long (b i)
def upd {α : Type} (b : Nat → α) (i : Nat) (v : α) : Nat → α := fun q => if q = i then v else b q
theorem upd_at {α : Type} (b : Nat → α) (i : Nat) (v : α) : upd b i v i = v := if_pos rfl
theorem upd_ne {α : Type} (b : Nat → α) {i q : Nat} (v : α) (h : q ≠ i) : upd b i v q = b q := if_neg h
theorem Ba.lt {a : Addr} {ty : FieldType} {n : Nat} {g : Nat → Value} (B : Ba Z n0 h a ty n g) : a < h.size := by obtain ⟨-, -, c, A, -⟩ := B; exact A.lt
theorem Ba.ext {a : Addr} {ty : FieldType} {n : Nat} {g : Nat → Value} (B : Ba Z n0 h a ty n g) (E : Ext h h') : Ba Z n0 h' a ty n g := by obtain ⟨q1, q2, c, A, r⟩ := B; exact ⟨q1, q2, c, A.ext E, r⟩
theorem Ba.keep {a : Addr} {ty : FieldType} {n : Nat} {g : Nat → Value} {ws : List Addr} (B : Ba Z n0 h a ty n g) (K : Keep h h' ws) (q : a ∉ ws) : Ba Z n0 h' a ty n g := by obtain ⟨q1, q2, c, A, r⟩ := B; exact ⟨q1, q2, c, ⟨K.2.1 a c A.1 q, A.2⟩, r⟩
theorem Ba.congr {a : Addr} {ty : FieldType} {n : Nat} {g g' : Nat → Value} (B : Ba Z n0 h a ty n g) (q : ∀ i, i < n → g i = g' i) : Ba Z n0 h a ty n g' := by obtain ⟨q1, q2, c, A, r1, r2⟩ := B; exact ⟨q1, q2, c, A, r1, fun i hi => by rw [r2 i hi, q i hi]⟩
theorem ofNat_toInt {n : Nat} (h : n < 2147483648) : (Int32.ofNat n).toInt = n := Int32.toInt_ofNat_of_lt (by omega)
theorem ofNat_clamp {n : Nat} (h : n < 2147483648) : (Int32.ofNat n).toNatClampNeg = n := by rw [Int32.toNatClampNeg, ofNat_toInt h]; rfl
theorem ofNat_nn {n : Nat} (h : n < 2147483648) : ¬ Int32.ofNat n < 0 := by rw [Int32.lt_iff_toInt_lt, ofNat_toInt h, show (0 : Int32).toInt = 0 from rfl]; omega
theorem ofNat_lt {a b : Nat} (ha : a < 2147483648) (hb : b < 2147483648) : Int32.ofNat a < Int32.ofNat b ↔ a < b := by rw [Int32.lt_iff_toInt_lt, ofNat_toInt ha, ofNat_toInt hb]; omega
theorem eq_ofNat {x : Int32} {n : Nat} (hn : n < 2147483648) (h : x.toInt = n) : x = Int32.ofNat n := Int32.toInt_inj.mp (by rw [h, ofNat_toInt hn])
theorem inb {c : Cell} {n i : Nat} (hn : n < 2147483648) (hc : c.slots.size = n) (hi : i < n) : ¬ (Int32.ofNat i < 0 ∨ c.slots.size ≤ (Int32.ofNat i).toNatClampNeg) := by
  rw [hc, ofNat_clamp (by omega)]
  exact fun q => q.elim (ofNat_nn (by omega)) (fun q => by omega)
theorem Pos.sz (X : Pos Z a0 n0 p l e R s m args below meth c code ml ret y T h k j) : n0 ≤ h.size := X.2.2.2.2.2.2.2.2.2.1
theorem Wp.go {T' : State} {f f' : JFrame} (st : ∀ target, Steps p.tables e below (T'.setTop f') target → Steps p.tables e below (T.setTop f) target) (q : Wp n0 p e R s below Q T' f') : Wp n0 p e R s below Q T f := by
  obtain ⟨t, o, h1, r⟩ := q; exact ⟨t, o, st t h1, r⟩
theorem Wp.cast {f f' : JFrame} (q : f = f') (w : Wp n0 p e R s below Q T f') : Wp n0 p e R s below Q T f := q ▸ w
theorem ctr_of {ws : List Jvm.Cond} {as : Array Value} (hp : plainFor y = true) (hw : ∀ d ∈ tables_1, d.before a0 Z = true) (hn : n0 ≤ h.size)
    (body : ∀ p e s m below meth c T, Pos Z a0 n0 p l e R s m as below meth c code ml ret y T h 0 0 → Wp n0 p e R s below Q T (entryFrame m as ml)) : Ctr l Z n0 y code ml ret R ws as h Q := by
  refine MetFree.of_bodySF hp hisR ?_
  intro p e s m args below meth c s₁ Bd hml0 hP hK
  obtain ⟨rfl, hZ, hh⟩ := hP
  exact body p e s m below meth c s₁ ⟨Bd.exec, hZ, Bd.bytes, hml0, Bd.returns, findClass_of_methodNamed Bd.named, (name_of_methodNamed Bd.named Bd.method).1, Bd.notSynchronized, by rw [← hh, Bd.state]; rfl, hn, hw, [], Fr.nil _, Stand.of_body Bd⟩
theorem w_iadd (X : Pos Z a0 n0 p l e R s m args below meth c code ml ret y T h k j) {x z : Int32} (hd : Dec code pc .iadd 1 nx) (q : Wp n0 p e R s below Q T (mkF m nx Ls (.int (x + z) :: S))) : Wp n0 p e R s below Q T (mkF m pc Ls (.int z :: .int x :: S)) := by
  obtain ⟨hx, hZ, hby, hml, hret, hown, hnm, hlk, eT, hn0, hw, locs, N, Y⟩ := X
  obtain ⟨hd, rfl⟩ := hd
  exact Wp.go (fun _ q => XS.iadd Y.here hx rfl (hb hby hd) rfl q) q
theorem w_isub (X : Pos Z a0 n0 p l e R s m args below meth c code ml ret y T h k j) {x z : Int32} (hd : Dec code pc .isub 1 nx) (q : Wp n0 p e R s below Q T (mkF m nx Ls (.int (x - z) :: S))) : Wp n0 p e R s below Q T (mkF m pc Ls (.int z :: .int x :: S)) := by
  obtain ⟨hx, hZ, hby, hml, hret, hown, hnm, hlk, eT, hn0, hw, locs, N, Y⟩ := X
  obtain ⟨hd, rfl⟩ := hd
  exact Wp.go (fun _ q => XS.isub Y.here hx rfl (hb hby hd) rfl q) q
theorem w_imul (X : Pos Z a0 n0 p l e R s m args below meth c code ml ret y T h k j) {x z : Int32} (hd : Dec code pc .imul 1 nx) (q : Wp n0 p e R s below Q T (mkF m nx Ls (.int (x * z) :: S))) : Wp n0 p e R s below Q T (mkF m pc Ls (.int z :: .int x :: S)) := by
  obtain ⟨hx, hZ, hby, hml, hret, hown, hnm, hlk, eT, hn0, hw, locs, N, Y⟩ := X
  obtain ⟨hd, rfl⟩ := hd
  exact Wp.go (fun _ q => XS.imul Y.here hx rfl (hb hby hd) rfl q) q
theorem w_iand (X : Pos Z a0 n0 p l e R s m args below meth c code ml ret y T h k j) {x z : Int32} (hd : Dec code pc .iand 1 nx) (q : Wp n0 p e R s below Q T (mkF m nx Ls (.int (x &&& z) :: S))) : Wp n0 p e R s below Q T (mkF m pc Ls (.int z :: .int x :: S)) := by
  obtain ⟨hx, hZ, hby, hml, hret, hown, hnm, hlk, eT, hn0, hw, locs, N, Y⟩ := X
  obtain ⟨hd, rfl⟩ := hd
  exact Wp.go (fun _ q => XS.iand Y.here hx rfl (hb hby hd) rfl q) q
theorem w_ior (X : Pos Z a0 n0 p l e R s m args below meth c code ml ret y T h k j) {x z : Int32} (hd : Dec code pc .ior 1 nx) (q : Wp n0 p e R s below Q T (mkF m nx Ls (.int (x ||| z) :: S))) : Wp n0 p e R s below Q T (mkF m pc Ls (.int z :: .int x :: S)) := by
  obtain ⟨hx, hZ, hby, hml, hret, hown, hnm, hlk, eT, hn0, hw, locs, N, Y⟩ := X
  obtain ⟨hd, rfl⟩ := hd
  exact Wp.go (fun _ q => XS.ior Y.here hx rfl (hb hby hd) rfl q) q
theorem w_ixor (X : Pos Z a0 n0 p l e R s m args below meth c code ml ret y T h k j) {x z : Int32} (hd : Dec code pc .ixor 1 nx) (q : Wp n0 p e R s below Q T (mkF m nx Ls (.int (x ^^^ z) :: S))) : Wp n0 p e R s below Q T (mkF m pc Ls (.int z :: .int x :: S)) := by
  obtain ⟨hx, hZ, hby, hml, hret, hown, hnm, hlk, eT, hn0, hw, locs, N, Y⟩ := X
  obtain ⟨hd, rfl⟩ := hd
  exact Wp.go (fun _ q => XS.ixor Y.here hx rfl (hb hby hd) rfl q) q
theorem w_ishl (X : Pos Z a0 n0 p l e R s m args below meth c code ml ret y T h k j) {x z : Int32} (hd : Dec code pc .ishl 1 nx) (q : Wp n0 p e R s below Q T (mkF m nx Ls (.int (jshl x z) :: S))) : Wp n0 p e R s below Q T (mkF m pc Ls (.int z :: .int x :: S)) := by
  obtain ⟨hx, hZ, hby, hml, hret, hown, hnm, hlk, eT, hn0, hw, locs, N, Y⟩ := X
  obtain ⟨hd, rfl⟩ := hd
  exact Wp.go (fun _ q => XS.ishl Y.here hx rfl (hb hby hd) rfl q) q
theorem w_ishr (X : Pos Z a0 n0 p l e R s m args below meth c code ml ret y T h k j) {x z : Int32} (hd : Dec code pc .ishr 1 nx) (q : Wp n0 p e R s below Q T (mkF m nx Ls (.int (jshr x z) :: S))) : Wp n0 p e R s below Q T (mkF m pc Ls (.int z :: .int x :: S)) := by
  obtain ⟨hx, hZ, hby, hml, hret, hown, hnm, hlk, eT, hn0, hw, locs, N, Y⟩ := X
  obtain ⟨hd, rfl⟩ := hd
  exact Wp.go (fun _ q => XS.ishr Y.here hx rfl (hb hby hd) rfl q) q
theorem w_iushr (X : Pos Z a0 n0 p l e R s m args below meth c code ml ret y T h k j) {x z : Int32} (hd : Dec code pc .iushr 1 nx) (q : Wp n0 p e R s below Q T (mkF m nx Ls (.int (jushr x z) :: S))) : Wp n0 p e R s below Q T (mkF m pc Ls (.int z :: .int x :: S)) := by
  obtain ⟨hx, hZ, hby, hml, hret, hown, hnm, hlk, eT, hn0, hw, locs, N, Y⟩ := X
  obtain ⟨hd, rfl⟩ := hd
  exact Wp.go (fun _ q => XS.iushr Y.here hx rfl (hb hby hd) rfl q) q
theorem w_ladd (X : Pos Z a0 n0 p l e R s m args below meth c code ml ret y T h k j) {x z : Int64} (hd : Dec code pc .ladd 1 nx) (q : Wp n0 p e R s below Q T (mkF m nx Ls (.long (x + z) :: S))) : Wp n0 p e R s below Q T (mkF m pc Ls (.long z :: .long x :: S)) := by
  obtain ⟨hx, hZ, hby, hml, hret, hown, hnm, hlk, eT, hn0, hw, locs, N, Y⟩ := X
  obtain ⟨hd, rfl⟩ := hd
  exact Wp.go (fun _ q => XS.ladd Y.here hx rfl (hb hby hd) rfl q) q
theorem w_lsub (X : Pos Z a0 n0 p l e R s m args below meth c code ml ret y T h k j) {x z : Int64} (hd : Dec code pc .lsub 1 nx) (q : Wp n0 p e R s below Q T (mkF m nx Ls (.long (x - z) :: S))) : Wp n0 p e R s below Q T (mkF m pc Ls (.long z :: .long x :: S)) := by
  obtain ⟨hx, hZ, hby, hml, hret, hown, hnm, hlk, eT, hn0, hw, locs, N, Y⟩ := X
  obtain ⟨hd, rfl⟩ := hd
  exact Wp.go (fun _ q => XS.lsub Y.here hx rfl (hb hby hd) rfl q) q
theorem w_lmul (X : Pos Z a0 n0 p l e R s m args below meth c code ml ret y T h k j) {x z : Int64} (hd : Dec code pc .lmul 1 nx) (q : Wp n0 p e R s below Q T (mkF m nx Ls (.long (x * z) :: S))) : Wp n0 p e R s below Q T (mkF m pc Ls (.long z :: .long x :: S)) := by
  obtain ⟨hx, hZ, hby, hml, hret, hown, hnm, hlk, eT, hn0, hw, locs, N, Y⟩ := X
  obtain ⟨hd, rfl⟩ := hd
  exact Wp.go (fun _ q => XS.lmul Y.here hx rfl (hb hby hd) rfl q) q
theorem w_land (X : Pos Z a0 n0 p l e R s m args below meth c code ml ret y T h k j) {x z : Int64} (hd : Dec code pc .land 1 nx) (q : Wp n0 p e R s below Q T (mkF m nx Ls (.long (x &&& z) :: S))) : Wp n0 p e R s below Q T (mkF m pc Ls (.long z :: .long x :: S)) := by
  obtain ⟨hx, hZ, hby, hml, hret, hown, hnm, hlk, eT, hn0, hw, locs, N, Y⟩ := X
  obtain ⟨hd, rfl⟩ := hd
  exact Wp.go (fun _ q => XS.land Y.here hx rfl (hb hby hd) rfl q) q
theorem w_lor (X : Pos Z a0 n0 p l e R s m args below meth c code ml ret y T h k j) {x z : Int64} (hd : Dec code pc .lor 1 nx) (q : Wp n0 p e R s below Q T (mkF m nx Ls (.long (x ||| z) :: S))) : Wp n0 p e R s below Q T (mkF m pc Ls (.long z :: .long x :: S)) := by
  obtain ⟨hx, hZ, hby, hml, hret, hown, hnm, hlk, eT, hn0, hw, locs, N, Y⟩ := X
  obtain ⟨hd, rfl⟩ := hd
  exact Wp.go (fun _ q => XS.lor Y.here hx rfl (hb hby hd) rfl q) q
theorem w_lxor (X : Pos Z a0 n0 p l e R s m args below meth c code ml ret y T h k j) {x z : Int64} (hd : Dec code pc .lxor 1 nx) (q : Wp n0 p e R s below Q T (mkF m nx Ls (.long (x ^^^ z) :: S))) : Wp n0 p e R s below Q T (mkF m pc Ls (.long z :: .long x :: S)) := by
  obtain ⟨hx, hZ, hby, hml, hret, hown, hnm, hlk, eT, hn0, hw, locs, N, Y⟩ := X
  obtain ⟨hd, rfl⟩ := hd
  exact Wp.go (fun _ q => XS.lxor Y.here hx rfl (hb hby hd) rfl q) q
theorem w_lshl (X : Pos Z a0 n0 p l e R s m args below meth c code ml ret y T h k j) {x : Int64} {z : Int32} (hd : Dec code pc .lshl 1 nx) (q : Wp n0 p e R s below Q T (mkF m nx Ls (.long (jshlL x z) :: S))) : Wp n0 p e R s below Q T (mkF m pc Ls (.int z :: .long x :: S)) := by
  obtain ⟨hx, hZ, hby, hml, hret, hown, hnm, hlk, eT, hn0, hw, locs, N, Y⟩ := X
  obtain ⟨hd, rfl⟩ := hd
  exact Wp.go (fun _ q => XS.lshl Y.here hx rfl (hb hby hd) rfl q) q
theorem w_lshr (X : Pos Z a0 n0 p l e R s m args below meth c code ml ret y T h k j) {x : Int64} {z : Int32} (hd : Dec code pc .lshr 1 nx) (q : Wp n0 p e R s below Q T (mkF m nx Ls (.long (jshrL x z) :: S))) : Wp n0 p e R s below Q T (mkF m pc Ls (.int z :: .long x :: S)) := by
  obtain ⟨hx, hZ, hby, hml, hret, hown, hnm, hlk, eT, hn0, hw, locs, N, Y⟩ := X
  obtain ⟨hd, rfl⟩ := hd
  exact Wp.go (fun _ q => XS.lshr Y.here hx rfl (hb hby hd) rfl q) q
theorem w_lushr (X : Pos Z a0 n0 p l e R s m args below meth c code ml ret y T h k j) {x : Int64} {z : Int32} (hd : Dec code pc .lushr 1 nx) (q : Wp n0 p e R s below Q T (mkF m nx Ls (.long (jushrL x z) :: S))) : Wp n0 p e R s below Q T (mkF m pc Ls (.int z :: .long x :: S)) := by
  obtain ⟨hx, hZ, hby, hml, hret, hown, hnm, hlk, eT, hn0, hw, locs, N, Y⟩ := X
  obtain ⟨hd, rfl⟩ := hd
  exact Wp.go (fun _ q => XS.lushr Y.here hx rfl (hb hby hd) rfl q) q
theorem w_idiv (X : Pos Z a0 n0 p l e R s m args below meth c code ml ret y T h k j) {x z : Int32} (hd : Dec code pc .idiv 1 nx) (hz : z ≠ 0) (q : Wp n0 p e R s below Q T (mkF m nx Ls (.int (x / z) :: S))) : Wp n0 p e R s below Q T (mkF m pc Ls (.int z :: .int x :: S)) := by
  obtain ⟨hx, hZ, hby, hml, hret, hown, hnm, hlk, eT, hn0, hw, locs, N, Y⟩ := X
  obtain ⟨hd, rfl⟩ := hd
  exact Wp.go (fun _ q => XS.idiv Y.here hx rfl (hb hby hd) rfl hz q) q
theorem w_irem (X : Pos Z a0 n0 p l e R s m args below meth c code ml ret y T h k j) {x z : Int32} (hd : Dec code pc .irem 1 nx) (hz : z ≠ 0) (q : Wp n0 p e R s below Q T (mkF m nx Ls (.int (x % z) :: S))) : Wp n0 p e R s below Q T (mkF m pc Ls (.int z :: .int x :: S)) := by
  obtain ⟨hx, hZ, hby, hml, hret, hown, hnm, hlk, eT, hn0, hw, locs, N, Y⟩ := X
  obtain ⟨hd, rfl⟩ := hd
  exact Wp.go (fun _ q => iremM Y hx rfl (hb hby hd) rfl hz q) q
theorem w_ldiv (X : Pos Z a0 n0 p l e R s m args below meth c code ml ret y T h k j) {x z : Int64} (hd : Dec code pc .ldiv 1 nx) (hz : z ≠ 0) (q : Wp n0 p e R s below Q T (mkF m nx Ls (.long (x / z) :: S))) : Wp n0 p e R s below Q T (mkF m pc Ls (.long z :: .long x :: S)) := by
  obtain ⟨hx, hZ, hby, hml, hret, hown, hnm, hlk, eT, hn0, hw, locs, N, Y⟩ := X
  obtain ⟨hd, rfl⟩ := hd
  exact Wp.go (fun _ q => XS.ldiv Y.here hx rfl (hb hby hd) rfl hz q) q
theorem w_lrem (X : Pos Z a0 n0 p l e R s m args below meth c code ml ret y T h k j) {x z : Int64} (hd : Dec code pc .lrem 1 nx) (hz : z ≠ 0) (q : Wp n0 p e R s below Q T (mkF m nx Ls (.long (x - (x / z) * z) :: S))) : Wp n0 p e R s below Q T (mkF m pc Ls (.long z :: .long x :: S)) := by
  obtain ⟨hx, hZ, hby, hml, hret, hown, hnm, hlk, eT, hn0, hw, locs, N, Y⟩ := X
  obtain ⟨hd, rfl⟩ := hd
  exact Wp.go (fun _ q => XS.lrem Y.here hx rfl (hb hby hd) rfl hz q) q
theorem w_ineg (X : Pos Z a0 n0 p l e R s m args below meth c code ml ret y T h k j) {x : Int32} (hd : Dec code pc .ineg 1 nx) (q : Wp n0 p e R s below Q T (mkF m nx Ls (.int (-x) :: S))) : Wp n0 p e R s below Q T (mkF m pc Ls (.int x :: S)) := by
  obtain ⟨hx, hZ, hby, hml, hret, hown, hnm, hlk, eT, hn0, hw, locs, N, Y⟩ := X
  obtain ⟨hd, rfl⟩ := hd
  exact Wp.go (fun _ q => XS.ineg Y.here hx rfl (hb hby hd) rfl q) q
theorem w_lneg (X : Pos Z a0 n0 p l e R s m args below meth c code ml ret y T h k j) {x : Int64} (hd : Dec code pc .lneg 1 nx) (q : Wp n0 p e R s below Q T (mkF m nx Ls (.long (-x) :: S))) : Wp n0 p e R s below Q T (mkF m pc Ls (.long x :: S)) := by
  obtain ⟨hx, hZ, hby, hml, hret, hown, hnm, hlk, eT, hn0, hw, locs, N, Y⟩ := X
  obtain ⟨hd, rfl⟩ := hd
  exact Wp.go (fun _ q => XS.lneg Y.here hx rfl (hb hby hd) rfl q) q
theorem w_i2l (X : Pos Z a0 n0 p l e R s m args below meth c code ml ret y T h k j) {x : Int32} (hd : Dec code pc .i2l 1 nx) (q : Wp n0 p e R s below Q T (mkF m nx Ls (.long (x.toInt64) :: S))) : Wp n0 p e R s below Q T (mkF m pc Ls (.int x :: S)) := by
  obtain ⟨hx, hZ, hby, hml, hret, hown, hnm, hlk, eT, hn0, hw, locs, N, Y⟩ := X
  obtain ⟨hd, rfl⟩ := hd
  exact Wp.go (fun _ q => XS.i2l Y.here hx rfl (hb hby hd) rfl q) q
theorem w_l2i (X : Pos Z a0 n0 p l e R s m args below meth c code ml ret y T h k j) {x : Int64} (hd : Dec code pc .l2i 1 nx) (q : Wp n0 p e R s below Q T (mkF m nx Ls (.int (x.toInt32) :: S))) : Wp n0 p e R s below Q T (mkF m pc Ls (.long x :: S)) := by
  obtain ⟨hx, hZ, hby, hml, hret, hown, hnm, hlk, eT, hn0, hw, locs, N, Y⟩ := X
  obtain ⟨hd, rfl⟩ := hd
  exact Wp.go (fun _ q => XS.l2i Y.here hx rfl (hb hby hd) rfl q) q
theorem w_i2b (X : Pos Z a0 n0 p l e R s m args below meth c code ml ret y T h k j) {x : Int32} (hd : Dec code pc .i2b 1 nx) (q : Wp n0 p e R s below Q T (mkF m nx Ls (.int (jbyte x) :: S))) : Wp n0 p e R s below Q T (mkF m pc Ls (.int x :: S)) := by
  obtain ⟨hx, hZ, hby, hml, hret, hown, hnm, hlk, eT, hn0, hw, locs, N, Y⟩ := X
  obtain ⟨hd, rfl⟩ := hd
  exact Wp.go (fun _ q => XS.i2b Y.here hx rfl (hb hby hd) rfl q) q
theorem w_iconst (X : Pos Z a0 n0 p l e R s m args below meth c code ml ret y T h k j) {i : Int} {v : Int32} (hd : Dec code pc (.iconst i) 1 nx) (hv : Int32.ofInt i = v) (q : Wp n0 p e R s below Q T (mkF m nx Ls (.int v :: S))) : Wp n0 p e R s below Q T (mkF m pc Ls S) := by
  obtain ⟨hx, hZ, hby, hml, hret, hown, hnm, hlk, eT, hn0, hw, locs, N, Y⟩ := X
  obtain ⟨hd, rfl⟩ := hd
  subst hv
  exact Wp.go (fun _ q => XS.iconst Y.here hx rfl (hb hby hd) q) q
theorem w_bipush (X : Pos Z a0 n0 p l e R s m args below meth c code ml ret y T h k j) {i : Int} {v : Int32} (hd : Dec code pc (.bipush i) 2 nx) (hv : (Int8.ofInt i).toInt32 = v) (q : Wp n0 p e R s below Q T (mkF m nx Ls (.int v :: S))) : Wp n0 p e R s below Q T (mkF m pc Ls S) := by
  obtain ⟨hx, hZ, hby, hml, hret, hown, hnm, hlk, eT, hn0, hw, locs, N, Y⟩ := X
  obtain ⟨hd, rfl⟩ := hd
  subst hv
  exact Wp.go (fun _ q => XS.bipush Y.here hx rfl (hb hby hd) q) q
theorem w_sipush (X : Pos Z a0 n0 p l e R s m args below meth c code ml ret y T h k j) {i : Int} {v : Int32} (hd : Dec code pc (.sipush i) 3 nx) (hv : (Int16.ofInt i).toInt32 = v) (q : Wp n0 p e R s below Q T (mkF m nx Ls (.int v :: S))) : Wp n0 p e R s below Q T (mkF m pc Ls S) := by
  obtain ⟨hx, hZ, hby, hml, hret, hown, hnm, hlk, eT, hn0, hw, locs, N, Y⟩ := X
  obtain ⟨hd, rfl⟩ := hd
  subst hv
  exact Wp.go (fun _ q => XS.sipush Y.here hx rfl (hb hby hd) q) q
theorem w_lconst0 (X : Pos Z a0 n0 p l e R s m args below meth c code ml ret y T h k j) (hd : Dec code pc (.lconst 0) 1 nx) (q : Wp n0 p e R s below Q T (mkF m nx Ls (.long 0 :: S))) : Wp n0 p e R s below Q T (mkF m pc Ls S) := by
  obtain ⟨hx, hZ, hby, hml, hret, hown, hnm, hlk, eT, hn0, hw, locs, N, Y⟩ := X
  obtain ⟨hd, rfl⟩ := hd
  exact Wp.go (fun _ q => XS.lconst Y.here hx rfl (hb hby hd) q) q
theorem w_lconst1 (X : Pos Z a0 n0 p l e R s m args below meth c code ml ret y T h k j) (hd : Dec code pc (.lconst 1) 1 nx) (q : Wp n0 p e R s below Q T (mkF m nx Ls (.long 1 :: S))) : Wp n0 p e R s below Q T (mkF m pc Ls S) := by
  obtain ⟨hx, hZ, hby, hml, hret, hown, hnm, hlk, eT, hn0, hw, locs, N, Y⟩ := X
  obtain ⟨hd, rfl⟩ := hd
  exact Wp.go (fun _ q => XS.lconst Y.here hx rfl (hb hby hd) q) q
theorem w_null (X : Pos Z a0 n0 p l e R s m args below meth c code ml ret y T h k j) (hd : Dec code pc .aconst_null 1 nx) (q : Wp n0 p e R s below Q T (mkF m nx Ls (.null :: S))) : Wp n0 p e R s below Q T (mkF m pc Ls S) := by
  obtain ⟨hx, hZ, hby, hml, hret, hown, hnm, hlk, eT, hn0, hw, locs, N, Y⟩ := X
  obtain ⟨hd, rfl⟩ := hd
  exact Wp.go (fun _ q => XS.aconstNull Y.here hx rfl (hb hby hd) q) q
theorem w_iloadN (X : Pos Z a0 n0 p l e R s m args below meth c code ml ret y T h k j) {w : Fin 4} {v : Int32} (hd : Dec code pc (.iload_n w) 1 nx) (hl : Ls[w.val]? = some (.val (.int v))) (q : Wp n0 p e R s below Q T (mkF m nx Ls (.int v :: S))) : Wp n0 p e R s below Q T (mkF m pc Ls S) := by
  obtain ⟨hx, hZ, hby, hml, hret, hown, hnm, hlk, eT, hn0, hw, locs, N, Y⟩ := X
  obtain ⟨hd, rfl⟩ := hd
  exact Wp.go (fun _ q => XS.iloadN Y.here hx rfl (hb hby hd) hl q) q
theorem w_iload (X : Pos Z a0 n0 p l e R s m args below meth c code ml ret y T h k j) {w : Nat} {v : Int32} (hd : Dec code pc (.iload w) 2 nx) (hl : Ls[w]? = some (.val (.int v))) (q : Wp n0 p e R s below Q T (mkF m nx Ls (.int v :: S))) : Wp n0 p e R s below Q T (mkF m pc Ls S) := by
  obtain ⟨hx, hZ, hby, hml, hret, hown, hnm, hlk, eT, hn0, hw, locs, N, Y⟩ := X
  obtain ⟨hd, rfl⟩ := hd
  exact Wp.go (fun _ q => XS.iload Y.here hx rfl (hb hby hd) hl q) q
theorem w_lloadN (X : Pos Z a0 n0 p l e R s m args below meth c code ml ret y T h k j) {w : Fin 4} {v : Int64} (hd : Dec code pc (.lload_n w) 1 nx) (hl : Ls[w.val]? = some (.val (.long v))) (q : Wp n0 p e R s below Q T (mkF m nx Ls (.long v :: S))) : Wp n0 p e R s below Q T (mkF m pc Ls S) := by
  obtain ⟨hx, hZ, hby, hml, hret, hown, hnm, hlk, eT, hn0, hw, locs, N, Y⟩ := X
  obtain ⟨hd, rfl⟩ := hd
  exact Wp.go (fun _ q => XS.lloadN Y.here hx rfl (hb hby hd) hl q) q
theorem w_lload (X : Pos Z a0 n0 p l e R s m args below meth c code ml ret y T h k j) {w : Nat} {v : Int64} (hd : Dec code pc (.lload w) 2 nx) (hl : Ls[w]? = some (.val (.long v))) (q : Wp n0 p e R s below Q T (mkF m nx Ls (.long v :: S))) : Wp n0 p e R s below Q T (mkF m pc Ls S) := by
  obtain ⟨hx, hZ, hby, hml, hret, hown, hnm, hlk, eT, hn0, hw, locs, N, Y⟩ := X
  obtain ⟨hd, rfl⟩ := hd
  exact Wp.go (fun _ q => XS.lload Y.here hx rfl (hb hby hd) hl q) q
theorem w_aloadN (X : Pos Z a0 n0 p l e R s m args below meth c code ml ret y T h k j) {w : Fin 4} {v : Value} (hd : Dec code pc (.aload_n w) 1 nx) (hl : Ls[w.val]? = some (.val v)) (hv : v.isRef = true) (q : Wp n0 p e R s below Q T (mkF m nx Ls (v :: S))) : Wp n0 p e R s below Q T (mkF m pc Ls S) := by
  obtain ⟨hx, hZ, hby, hml, hret, hown, hnm, hlk, eT, hn0, hw, locs, N, Y⟩ := X
  obtain ⟨hd, rfl⟩ := hd
  exact Wp.go (fun _ q => XS.aloadN Y.here hx rfl (hb hby hd) hl hv q) q
theorem w_astoreN (X : Pos Z a0 n0 p l e R s m args below meth c code ml ret y T h k j) {w : Fin 4} {v : Value} {l' : Array Slot} (hd : Dec code pc (.astore_n w) 1 nx) (hv : v.isRef = true) (hl : storeLocals Ls w.val v = some l') (q : Wp n0 p e R s below Q T (mkF m nx l' S)) : Wp n0 p e R s below Q T (mkF m pc Ls (v :: S)) := by
  obtain ⟨hx, hZ, hby, hml, hret, hown, hnm, hlk, eT, hn0, hw, locs, N, Y⟩ := X
  obtain ⟨hd, rfl⟩ := hd
  exact Wp.go (fun _ q => XS.astoreN Y.here hx rfl (hb hby hd) rfl hv hl q) q
theorem w_istoreN (X : Pos Z a0 n0 p l e R s m args below meth c code ml ret y T h k j) {w : Fin 4} {v : Int32} {l' : Array Slot} (hd : Dec code pc (.istore_n w) 1 nx) (hl : storeLocals Ls w.val (.int v) = some l') (q : Wp n0 p e R s below Q T (mkF m nx l' S)) : Wp n0 p e R s below Q T (mkF m pc Ls (.int v :: S)) := by
  obtain ⟨hx, hZ, hby, hml, hret, hown, hnm, hlk, eT, hn0, hw, locs, N, Y⟩ := X
  obtain ⟨hd, rfl⟩ := hd
  exact Wp.go (fun _ q => XS.istoreN Y.here hx rfl (hb hby hd) rfl hl q) q
theorem w_istoreNE (X : Pos Z a0 n0 p l e R s m args below meth c code ml ret y T h k j) {w : Fin 4} {v : Int32} {l' : Int32 → Array Slot} (hd : Dec code pc (.istore_n w) 1 nx) (hl : ∀ z, storeLocals Ls w.val (.int z) = some (l' z)) (q : ∀ z, z = v → Wp n0 p e R s below Q T (mkF m nx (l' z) S)) : Wp n0 p e R s below Q T (mkF m pc Ls (.int v :: S)) := w_istoreN X hd (hl v) (q v rfl)
theorem w_lstoreN (X : Pos Z a0 n0 p l e R s m args below meth c code ml ret y T h k j) {w : Fin 4} {v : Int64} {l' : Array Slot} (hd : Dec code pc (.lstore_n w) 1 nx) (hl : storeLocals Ls w.val (.long v) = some l') (q : Wp n0 p e R s below Q T (mkF m nx l' S)) : Wp n0 p e R s below Q T (mkF m pc Ls (.long v :: S)) := by
  obtain ⟨hx, hZ, hby, hml, hret, hown, hnm, hlk, eT, hn0, hw, locs, N, Y⟩ := X
  obtain ⟨hd, rfl⟩ := hd
  exact Wp.go (fun _ q => XS.lstoreN Y.here hx rfl (hb hby hd) rfl hl q) q
theorem w_lstoreNE (X : Pos Z a0 n0 p l e R s m args below meth c code ml ret y T h k j) {w : Fin 4} {v : Int64} {l' : Int64 → Array Slot} (hd : Dec code pc (.lstore_n w) 1 nx) (hl : ∀ z, storeLocals Ls w.val (.long z) = some (l' z)) (q : ∀ z, z = v → Wp n0 p e R s below Q T (mkF m nx (l' z) S)) : Wp n0 p e R s below Q T (mkF m pc Ls (.long v :: S)) := w_lstoreN X hd (hl v) (q v rfl)
theorem w_aload (X : Pos Z a0 n0 p l e R s m args below meth c code ml ret y T h k j) {w : Nat} {v : Value} (hd : Dec code pc (.aload w) 2 nx) (hl : Ls[w]? = some (.val v)) (hv : v.isRef = true) (q : Wp n0 p e R s below Q T (mkF m nx Ls (v :: S))) : Wp n0 p e R s below Q T (mkF m pc Ls S) := by
  obtain ⟨hx, hZ, hby, hml, hret, hown, hnm, hlk, eT, hn0, hw, locs, N, Y⟩ := X
  obtain ⟨hd, rfl⟩ := hd
  exact Wp.go (fun _ q => XS.aload Y.here hx rfl (hb hby hd) hl hv q) q
theorem w_astore (X : Pos Z a0 n0 p l e R s m args below meth c code ml ret y T h k j) {w : Nat} {v : Value} {l' : Array Slot} (hd : Dec code pc (.astore w) 2 nx) (hv : v.isRef = true) (hl : storeLocals Ls w v = some l') (q : Wp n0 p e R s below Q T (mkF m nx l' S)) : Wp n0 p e R s below Q T (mkF m pc Ls (v :: S)) := by
  obtain ⟨hx, hZ, hby, hml, hret, hown, hnm, hlk, eT, hn0, hw, locs, N, Y⟩ := X
  obtain ⟨hd, rfl⟩ := hd
  exact Wp.go (fun _ q => XS.astore Y.here hx rfl (hb hby hd) rfl hv hl q) q
theorem w_istore (X : Pos Z a0 n0 p l e R s m args below meth c code ml ret y T h k j) {w : Nat} {v : Int32} {l' : Array Slot} (hd : Dec code pc (.istore w) 2 nx) (hl : storeLocals Ls w (.int v) = some l') (q : Wp n0 p e R s below Q T (mkF m nx l' S)) : Wp n0 p e R s below Q T (mkF m pc Ls (.int v :: S)) := by
  obtain ⟨hx, hZ, hby, hml, hret, hown, hnm, hlk, eT, hn0, hw, locs, N, Y⟩ := X
  obtain ⟨hd, rfl⟩ := hd
  exact Wp.go (fun _ q => XS.istore Y.here hx rfl (hb hby hd) rfl hl q) q
theorem w_istoreE (X : Pos Z a0 n0 p l e R s m args below meth c code ml ret y T h k j) {w : Nat} {v : Int32} {l' : Int32 → Array Slot} (hd : Dec code pc (.istore w) 2 nx) (hl : ∀ z, storeLocals Ls w (.int z) = some (l' z)) (q : ∀ z, z = v → Wp n0 p e R s below Q T (mkF m nx (l' z) S)) : Wp n0 p e R s below Q T (mkF m pc Ls (.int v :: S)) := w_istore X hd (hl v) (q v rfl)
theorem w_lstore (X : Pos Z a0 n0 p l e R s m args below meth c code ml ret y T h k j) {w : Nat} {v : Int64} {l' : Array Slot} (hd : Dec code pc (.lstore w) 2 nx) (hl : storeLocals Ls w (.long v) = some l') (q : Wp n0 p e R s below Q T (mkF m nx l' S)) : Wp n0 p e R s below Q T (mkF m pc Ls (.long v :: S)) := by
  obtain ⟨hx, hZ, hby, hml, hret, hown, hnm, hlk, eT, hn0, hw, locs, N, Y⟩ := X
  obtain ⟨hd, rfl⟩ := hd
  exact Wp.go (fun _ q => XS.lstore Y.here hx rfl (hb hby hd) rfl hl q) q
theorem w_lstoreE (X : Pos Z a0 n0 p l e R s m args below meth c code ml ret y T h k j) {w : Nat} {v : Int64} {l' : Int64 → Array Slot} (hd : Dec code pc (.lstore w) 2 nx) (hl : ∀ z, storeLocals Ls w (.long z) = some (l' z)) (q : ∀ z, z = v → Wp n0 p e R s below Q T (mkF m nx (l' z) S)) : Wp n0 p e R s below Q T (mkF m pc Ls (.long v :: S)) := w_lstore X hd (hl v) (q v rfl)
theorem w_istoreNS (X : Pos Z a0 n0 p l e R s m args below meth c code ml ret y T h k j) {w : Fin 4} {v : Int32} {l' : Array Slot} {o : Slot} (hd : Dec code pc (.istore_n w) 1 nx) (hold : Ls[w.val]? = some o) (ho : One o) (hl : Ls.setIfInBounds w.val (.val (.int v)) = l') (q : Wp n0 p e R s below Q T (mkF m nx l' S)) : Wp n0 p e R s below Q T (mkF m pc Ls (.int v :: S)) := w_istoreN X hd ((XS.store1 hold ho rfl).trans (congrArg some hl)) q
theorem w_istoreS (X : Pos Z a0 n0 p l e R s m args below meth c code ml ret y T h k j) {w : Nat} {v : Int32} {l' : Array Slot} {o : Slot} (hd : Dec code pc (.istore w) 2 nx) (hold : Ls[w]? = some o) (ho : One o) (hl : Ls.setIfInBounds w (.val (.int v)) = l') (q : Wp n0 p e R s below Q T (mkF m nx l' S)) : Wp n0 p e R s below Q T (mkF m pc Ls (.int v :: S)) := w_istore X hd ((XS.store1 hold ho rfl).trans (congrArg some hl)) q
theorem w_iinc (X : Pos Z a0 n0 p l e R s m args below meth c code ml ret y T h k j) {w : Nat} {i : Int} {d v r : Int32} {l' : Array Slot} (hd : Dec code pc (.iinc w i) 3 nx) (hl : Ls[w]? = some (.val (.int v))) (hi : Int32.ofInt i = d) (hr : v + d = r) (hl' : storeLocals Ls w (.int r) = some l') (q : Wp n0 p e R s below Q T (mkF m nx l' S)) : Wp n0 p e R s below Q T (mkF m pc Ls S) := by
  obtain ⟨hx, hZ, hby, hml, hret, hown, hnm, hlk, eT, hn0, hw, locs, N, Y⟩ := X
  obtain ⟨hd, rfl⟩ := hd
  subst hi hr
  exact Wp.go (fun _ q => XS.iinc Y.here hx rfl (hb hby hd) hl hl' q) q
theorem w_dup (X : Pos Z a0 n0 p l e R s m args below meth c code ml ret y T h k j) {v : Value} (hd : Dec code pc .dup 1 nx) (hv : v.category = 1) (q : Wp n0 p e R s below Q T (mkF m nx Ls (v :: v :: S))) : Wp n0 p e R s below Q T (mkF m pc Ls (v :: S)) := by
  obtain ⟨hx, hZ, hby, hml, hret, hown, hnm, hlk, eT, hn0, hw, locs, N, Y⟩ := X
  obtain ⟨hd, rfl⟩ := hd
  exact Wp.go (fun _ q => XS.dup Y.here hx rfl (hb hby hd) rfl hv q) q
theorem w_pop (X : Pos Z a0 n0 p l e R s m args below meth c code ml ret y T h k j) {v : Value} (hd : Dec code pc .pop 1 nx) (hv : v.category = 1) (q : Wp n0 p e R s below Q T (mkF m nx Ls S)) : Wp n0 p e R s below Q T (mkF m pc Ls (v :: S)) := by
  obtain ⟨hx, hZ, hby, hml, hret, hown, hnm, hlk, eT, hn0, hw, locs, N, Y⟩ := X
  obtain ⟨hd, rfl⟩ := hd
  exact Wp.go (fun _ q => XS.pop Y.here hx rfl (hb hby hd) rfl hv q) q
theorem w_dupX1 (X : Pos Z a0 n0 p l e R s m args below meth c code ml ret y T h k j) {v w : Value} (hd : Dec code pc .dup_x1 1 nx) (hv : v.category = 1) (hw' : w.category = 1) (q : Wp n0 p e R s below Q T (mkF m nx Ls (v :: w :: v :: S))) : Wp n0 p e R s below Q T (mkF m pc Ls (v :: w :: S)) := by
  obtain ⟨hx, hZ, hby, hml, hret, hown, hnm, hlk, eT, hn0, hw, locs, N, Y⟩ := X
  obtain ⟨hd, rfl⟩ := hd
  exact Wp.go (fun _ q => XS.dupX1 Y.here hx rfl (hb hby hd) rfl hv hw' q) q
theorem w_dup2 (X : Pos Z a0 n0 p l e R s m args below meth c code ml ret y T h k j) {v w : Value} (hd : Dec code pc .dup2 1 nx) (hv : v.category = 1) (hw' : w.category = 1) (q : Wp n0 p e R s below Q T (mkF m nx Ls (v :: w :: v :: w :: S))) : Wp n0 p e R s below Q T (mkF m pc Ls (v :: w :: S)) := by
  obtain ⟨hx, hZ, hby, hml, hret, hown, hnm, hlk, eT, hn0, hw, locs, N, Y⟩ := X
  obtain ⟨hd, rfl⟩ := hd
  exact Wp.go (fun _ q => Jvm.Free.XT.dup2 Y.here hx rfl (hb hby hd) rfl hv hw' q) q
theorem w_goto (X : Pos Z a0 n0 p l e R s m args below meth c code ml ret y T h k j) {o : Int} (hd : Jmp code pc (.goto o) o nx tgt) (q : Wp n0 p e R s below Q T (mkF m tgt Ls S)) : Wp n0 p e R s below Q T (mkF m pc Ls S) := by
  obtain ⟨hx, hZ, hby, hml, hret, hown, hnm, hlk, eT, hn0, hw, locs, N, Y⟩ := X
  obtain ⟨hd, -, ho, hp⟩ := hd
  exact Wp.go (fun _ q => XS.goto Y.here hx rfl (pc0 := pc) (pc' := tgt) rfl (hb hby hd) ho hp q) q
theorem w_icmpeq (X : Pos Z a0 n0 p l e R s m args below meth c code ml ret y T h k j) {x z : Int32} {o : Int} (hd : Jmp code pc (.if_icmp .eq o) o nx tgt) (qt : x = z → Wp n0 p e R s below Q T (mkF m tgt Ls S)) (qf : ¬ x = z → Wp n0 p e R s below Q T (mkF m nx Ls S)) : Wp n0 p e R s below Q T (mkF m pc Ls (.int z :: .int x :: S)) := by
  obtain ⟨hx, hZ, hby, hml, hret, hown, hnm, hlk, eT, hn0, hw, locs, N, Y⟩ := X
  obtain ⟨hd, rfl, ho, hp⟩ := hd
  by_cases hc : x = z
  · exact Wp.go (fun _ q => XS.icmpYes Y.here hx rfl (pc0 := pc) (pc' := tgt) rfl (hb hby hd) rfl (Jvm.Free.XT.ii_eq_t hc) ho hp q) (qt hc)
  · exact Wp.go (fun _ q => XS.icmpNo Y.here hx rfl (hb hby hd) rfl (Jvm.Free.XT.ii_eq_f hc) q) (qf hc)
theorem w_ifeq (X : Pos Z a0 n0 p l e R s m args below meth c code ml ret y T h k j) {x : Int32} {o : Int} (hd : Jmp code pc (.ifCond .eq o) o nx tgt) (qt : x = 0 → Wp n0 p e R s below Q T (mkF m tgt Ls S)) (qf : ¬ x = 0 → Wp n0 p e R s below Q T (mkF m nx Ls S)) : Wp n0 p e R s below Q T (mkF m pc Ls (.int x :: S)) := by
  obtain ⟨hx, hZ, hby, hml, hret, hown, hnm, hlk, eT, hn0, hw, locs, N, Y⟩ := X
  obtain ⟨hd, rfl, ho, hp⟩ := hd
  by_cases hc : x = 0
  · exact Wp.go (fun _ q => XS.ifYes Y.here hx rfl (pc0 := pc) (pc' := tgt) rfl (hb hby hd) rfl (Jvm.Free.XT.i0_eq_t hc) ho hp q) (qt hc)
  · exact Wp.go (fun _ q => XS.ifNo Y.here hx rfl (hb hby hd) rfl (Jvm.Free.XT.i0_eq_f hc) q) (qf hc)
theorem w_lcmpeq (X : Pos Z a0 n0 p l e R s m args below meth c code ml ret y T h k j) {x z : Int64} {o : Int} {mid : Nat} (hd0 : Dec code pc .lcmp 1 mid) (hd : Jmp code mid (.ifCond .eq o) o nx tgt) (qt : x = z → Wp n0 p e R s below Q T (mkF m tgt Ls S)) (qf : ¬ x = z → Wp n0 p e R s below Q T (mkF m nx Ls S)) : Wp n0 p e R s below Q T (mkF m pc Ls (.long z :: .long x :: S)) := by
  obtain ⟨hx, hZ, hby, hml, hret, hown, hnm, hlk, eT, hn0, hw, locs, N, Y⟩ := X
  obtain ⟨hd0, rfl⟩ := hd0
  obtain ⟨hd, rfl, ho, hp⟩ := hd
  refine Wp.go (fun _ q => Jvm.Free.XT.lcmp Y.here hx rfl (hb hby hd0) rfl q) ?_
  by_cases hc : x = z
  · exact Wp.go (fun _ q => XS.ifYes Y.here hx rfl (pc0 := pc + 1) (pc' := tgt) rfl (hb hby hd) rfl (Jvm.Free.XT.ll_eq_t hc) ho hp q) (qt hc)
  · exact Wp.go (fun _ q => XS.ifNo Y.here hx rfl (hb hby hd) rfl (Jvm.Free.XT.ll_eq_f hc) q) (qf hc)
theorem w_icmpne (X : Pos Z a0 n0 p l e R s m args below meth c code ml ret y T h k j) {x z : Int32} {o : Int} (hd : Jmp code pc (.if_icmp .ne o) o nx tgt) (qt : ¬ x = z → Wp n0 p e R s below Q T (mkF m tgt Ls S)) (qf : x = z → Wp n0 p e R s below Q T (mkF m nx Ls S)) : Wp n0 p e R s below Q T (mkF m pc Ls (.int z :: .int x :: S)) := by
  obtain ⟨hx, hZ, hby, hml, hret, hown, hnm, hlk, eT, hn0, hw, locs, N, Y⟩ := X
  obtain ⟨hd, rfl, ho, hp⟩ := hd
  by_cases hc : x = z
  · exact Wp.go (fun _ q => XS.icmpNo Y.here hx rfl (hb hby hd) rfl (Jvm.Free.XT.ii_ne_f hc) q) (qf hc)
  · exact Wp.go (fun _ q => XS.icmpYes Y.here hx rfl (pc0 := pc) (pc' := tgt) rfl (hb hby hd) rfl (Jvm.Free.XT.ii_ne_t hc) ho hp q) (qt hc)
theorem w_ifne (X : Pos Z a0 n0 p l e R s m args below meth c code ml ret y T h k j) {x : Int32} {o : Int} (hd : Jmp code pc (.ifCond .ne o) o nx tgt) (qt : ¬ x = 0 → Wp n0 p e R s below Q T (mkF m tgt Ls S)) (qf : x = 0 → Wp n0 p e R s below Q T (mkF m nx Ls S)) : Wp n0 p e R s below Q T (mkF m pc Ls (.int x :: S)) := by
  obtain ⟨hx, hZ, hby, hml, hret, hown, hnm, hlk, eT, hn0, hw, locs, N, Y⟩ := X
  obtain ⟨hd, rfl, ho, hp⟩ := hd
  by_cases hc : x = 0
  · exact Wp.go (fun _ q => XS.ifNo Y.here hx rfl (hb hby hd) rfl (Jvm.Free.XT.i0_ne_f hc) q) (qf hc)
  · exact Wp.go (fun _ q => XS.ifYes Y.here hx rfl (pc0 := pc) (pc' := tgt) rfl (hb hby hd) rfl (Jvm.Free.XT.i0_ne_t hc) ho hp q) (qt hc)
theorem w_lcmpne (X : Pos Z a0 n0 p l e R s m args below meth c code ml ret y T h k j) {x z : Int64} {o : Int} {mid : Nat} (hd0 : Dec code pc .lcmp 1 mid) (hd : Jmp code mid (.ifCond .ne o) o nx tgt) (qt : ¬ x = z → Wp n0 p e R s below Q T (mkF m tgt Ls S)) (qf : x = z → Wp n0 p e R s below Q T (mkF m nx Ls S)) : Wp n0 p e R s below Q T (mkF m pc Ls (.long z :: .long x :: S)) := by
  obtain ⟨hx, hZ, hby, hml, hret, hown, hnm, hlk, eT, hn0, hw, locs, N, Y⟩ := X
  obtain ⟨hd0, rfl⟩ := hd0
  obtain ⟨hd, rfl, ho, hp⟩ := hd
  refine Wp.go (fun _ q => Jvm.Free.XT.lcmp Y.here hx rfl (hb hby hd0) rfl q) ?_
  by_cases hc : x = z
  · exact Wp.go (fun _ q => XS.ifNo Y.here hx rfl (hb hby hd) rfl (Jvm.Free.XT.ll_ne_f hc) q) (qf hc)
  · exact Wp.go (fun _ q => XS.ifYes Y.here hx rfl (pc0 := pc + 1) (pc' := tgt) rfl (hb hby hd) rfl (Jvm.Free.XT.ll_ne_t hc) ho hp q) (qt hc)
theorem w_icmplt (X : Pos Z a0 n0 p l e R s m args below meth c code ml ret y T h k j) {x z : Int32} {o : Int} (hd : Jmp code pc (.if_icmp .lt o) o nx tgt) (qt : x < z → Wp n0 p e R s below Q T (mkF m tgt Ls S)) (qf : ¬ x < z → Wp n0 p e R s below Q T (mkF m nx Ls S)) : Wp n0 p e R s below Q T (mkF m pc Ls (.int z :: .int x :: S)) := by
  obtain ⟨hx, hZ, hby, hml, hret, hown, hnm, hlk, eT, hn0, hw, locs, N, Y⟩ := X
  obtain ⟨hd, rfl, ho, hp⟩ := hd
  by_cases hc : x < z
  · exact Wp.go (fun _ q => XS.icmpYes Y.here hx rfl (pc0 := pc) (pc' := tgt) rfl (hb hby hd) rfl (Jvm.Free.XT.ii_lt_t hc) ho hp q) (qt hc)
  · exact Wp.go (fun _ q => XS.icmpNo Y.here hx rfl (hb hby hd) rfl (Jvm.Free.XT.ii_lt_f hc) q) (qf hc)
theorem w_iflt (X : Pos Z a0 n0 p l e R s m args below meth c code ml ret y T h k j) {x : Int32} {o : Int} (hd : Jmp code pc (.ifCond .lt o) o nx tgt) (qt : x < 0 → Wp n0 p e R s below Q T (mkF m tgt Ls S)) (qf : ¬ x < 0 → Wp n0 p e R s below Q T (mkF m nx Ls S)) : Wp n0 p e R s below Q T (mkF m pc Ls (.int x :: S)) := by
  obtain ⟨hx, hZ, hby, hml, hret, hown, hnm, hlk, eT, hn0, hw, locs, N, Y⟩ := X
  obtain ⟨hd, rfl, ho, hp⟩ := hd
  by_cases hc : x < 0
  · exact Wp.go (fun _ q => XS.ifYes Y.here hx rfl (pc0 := pc) (pc' := tgt) rfl (hb hby hd) rfl (Jvm.Free.XT.i0_lt_t hc) ho hp q) (qt hc)
  · exact Wp.go (fun _ q => XS.ifNo Y.here hx rfl (hb hby hd) rfl (Jvm.Free.XT.i0_lt_f hc) q) (qf hc)
theorem w_lcmplt (X : Pos Z a0 n0 p l e R s m args below meth c code ml ret y T h k j) {x z : Int64} {o : Int} {mid : Nat} (hd0 : Dec code pc .lcmp 1 mid) (hd : Jmp code mid (.ifCond .lt o) o nx tgt) (qt : x < z → Wp n0 p e R s below Q T (mkF m tgt Ls S)) (qf : ¬ x < z → Wp n0 p e R s below Q T (mkF m nx Ls S)) : Wp n0 p e R s below Q T (mkF m pc Ls (.long z :: .long x :: S)) := by
  obtain ⟨hx, hZ, hby, hml, hret, hown, hnm, hlk, eT, hn0, hw, locs, N, Y⟩ := X
  obtain ⟨hd0, rfl⟩ := hd0
  obtain ⟨hd, rfl, ho, hp⟩ := hd
  refine Wp.go (fun _ q => Jvm.Free.XT.lcmp Y.here hx rfl (hb hby hd0) rfl q) ?_
  by_cases hc : x < z
  · exact Wp.go (fun _ q => XS.ifYes Y.here hx rfl (pc0 := pc + 1) (pc' := tgt) rfl (hb hby hd) rfl (Jvm.Free.XT.ll_lt_t hc) ho hp q) (qt hc)
  · exact Wp.go (fun _ q => XS.ifNo Y.here hx rfl (hb hby hd) rfl (Jvm.Free.XT.ll_lt_f hc) q) (qf hc)
theorem w_icmpge (X : Pos Z a0 n0 p l e R s m args below meth c code ml ret y T h k j) {x z : Int32} {o : Int} (hd : Jmp code pc (.if_icmp .ge o) o nx tgt) (qt : ¬ x < z → Wp n0 p e R s below Q T (mkF m tgt Ls S)) (qf : x < z → Wp n0 p e R s below Q T (mkF m nx Ls S)) : Wp n0 p e R s below Q T (mkF m pc Ls (.int z :: .int x :: S)) := by
  obtain ⟨hx, hZ, hby, hml, hret, hown, hnm, hlk, eT, hn0, hw, locs, N, Y⟩ := X
  obtain ⟨hd, rfl, ho, hp⟩ := hd
  by_cases hc : x < z
  · exact Wp.go (fun _ q => XS.icmpNo Y.here hx rfl (hb hby hd) rfl (Jvm.Free.XT.ii_ge_f hc) q) (qf hc)
  · exact Wp.go (fun _ q => XS.icmpYes Y.here hx rfl (pc0 := pc) (pc' := tgt) rfl (hb hby hd) rfl (Jvm.Free.XT.ii_ge_t hc) ho hp q) (qt hc)
theorem w_ifge (X : Pos Z a0 n0 p l e R s m args below meth c code ml ret y T h k j) {x : Int32} {o : Int} (hd : Jmp code pc (.ifCond .ge o) o nx tgt) (qt : ¬ x < 0 → Wp n0 p e R s below Q T (mkF m tgt Ls S)) (qf : x < 0 → Wp n0 p e R s below Q T (mkF m nx Ls S)) : Wp n0 p e R s below Q T (mkF m pc Ls (.int x :: S)) := by
  obtain ⟨hx, hZ, hby, hml, hret, hown, hnm, hlk, eT, hn0, hw, locs, N, Y⟩ := X
  obtain ⟨hd, rfl, ho, hp⟩ := hd
  by_cases hc : x < 0
  · exact Wp.go (fun _ q => XS.ifNo Y.here hx rfl (hb hby hd) rfl (Jvm.Free.XT.i0_ge_f hc) q) (qf hc)
  · exact Wp.go (fun _ q => XS.ifYes Y.here hx rfl (pc0 := pc) (pc' := tgt) rfl (hb hby hd) rfl (Jvm.Free.XT.i0_ge_t hc) ho hp q) (qt hc)
theorem w_lcmpge (X : Pos Z a0 n0 p l e R s m args below meth c code ml ret y T h k j) {x z : Int64} {o : Int} {mid : Nat} (hd0 : Dec code pc .lcmp 1 mid) (hd : Jmp code mid (.ifCond .ge o) o nx tgt) (qt : ¬ x < z → Wp n0 p e R s below Q T (mkF m tgt Ls S)) (qf : x < z → Wp n0 p e R s below Q T (mkF m nx Ls S)) : Wp n0 p e R s below Q T (mkF m pc Ls (.long z :: .long x :: S)) := by
  obtain ⟨hx, hZ, hby, hml, hret, hown, hnm, hlk, eT, hn0, hw, locs, N, Y⟩ := X
  obtain ⟨hd0, rfl⟩ := hd0
  obtain ⟨hd, rfl, ho, hp⟩ := hd
  refine Wp.go (fun _ q => Jvm.Free.XT.lcmp Y.here hx rfl (hb hby hd0) rfl q) ?_
  by_cases hc : x < z
  · exact Wp.go (fun _ q => XS.ifNo Y.here hx rfl (hb hby hd) rfl (Jvm.Free.XT.ll_ge_f hc) q) (qf hc)
  · exact Wp.go (fun _ q => XS.ifYes Y.here hx rfl (pc0 := pc + 1) (pc' := tgt) rfl (hb hby hd) rfl (Jvm.Free.XT.ll_ge_t hc) ho hp q) (qt hc)
theorem w_icmpgt (X : Pos Z a0 n0 p l e R s m args below meth c code ml ret y T h k j) {x z : Int32} {o : Int} (hd : Jmp code pc (.if_icmp .gt o) o nx tgt) (qt : z < x → Wp n0 p e R s below Q T (mkF m tgt Ls S)) (qf : ¬ z < x → Wp n0 p e R s below Q T (mkF m nx Ls S)) : Wp n0 p e R s below Q T (mkF m pc Ls (.int z :: .int x :: S)) := by
  obtain ⟨hx, hZ, hby, hml, hret, hown, hnm, hlk, eT, hn0, hw, locs, N, Y⟩ := X
  obtain ⟨hd, rfl, ho, hp⟩ := hd
  by_cases hc : z < x
  · exact Wp.go (fun _ q => XS.icmpYes Y.here hx rfl (pc0 := pc) (pc' := tgt) rfl (hb hby hd) rfl (Jvm.Free.XT.ii_gt_t hc) ho hp q) (qt hc)
  · exact Wp.go (fun _ q => XS.icmpNo Y.here hx rfl (hb hby hd) rfl (Jvm.Free.XT.ii_gt_f hc) q) (qf hc)
theorem w_ifgt (X : Pos Z a0 n0 p l e R s m args below meth c code ml ret y T h k j) {x : Int32} {o : Int} (hd : Jmp code pc (.ifCond .gt o) o nx tgt) (qt : 0 < x → Wp n0 p e R s below Q T (mkF m tgt Ls S)) (qf : ¬ 0 < x → Wp n0 p e R s below Q T (mkF m nx Ls S)) : Wp n0 p e R s below Q T (mkF m pc Ls (.int x :: S)) := by
  obtain ⟨hx, hZ, hby, hml, hret, hown, hnm, hlk, eT, hn0, hw, locs, N, Y⟩ := X
  obtain ⟨hd, rfl, ho, hp⟩ := hd
  by_cases hc : 0 < x
  · exact Wp.go (fun _ q => XS.ifYes Y.here hx rfl (pc0 := pc) (pc' := tgt) rfl (hb hby hd) rfl (Jvm.Free.XT.i0_gt_t hc) ho hp q) (qt hc)
  · exact Wp.go (fun _ q => XS.ifNo Y.here hx rfl (hb hby hd) rfl (Jvm.Free.XT.i0_gt_f hc) q) (qf hc)
theorem w_lcmpgt (X : Pos Z a0 n0 p l e R s m args below meth c code ml ret y T h k j) {x z : Int64} {o : Int} {mid : Nat} (hd0 : Dec code pc .lcmp 1 mid) (hd : Jmp code mid (.ifCond .gt o) o nx tgt) (qt : z < x → Wp n0 p e R s below Q T (mkF m tgt Ls S)) (qf : ¬ z < x → Wp n0 p e R s below Q T (mkF m nx Ls S)) : Wp n0 p e R s below Q T (mkF m pc Ls (.long z :: .long x :: S)) := by
  obtain ⟨hx, hZ, hby, hml, hret, hown, hnm, hlk, eT, hn0, hw, locs, N, Y⟩ := X
  obtain ⟨hd0, rfl⟩ := hd0
  obtain ⟨hd, rfl, ho, hp⟩ := hd
  refine Wp.go (fun _ q => Jvm.Free.XT.lcmp Y.here hx rfl (hb hby hd0) rfl q) ?_
  by_cases hc : z < x
  · exact Wp.go (fun _ q => XS.ifYes Y.here hx rfl (pc0 := pc + 1) (pc' := tgt) rfl (hb hby hd) rfl (Jvm.Free.XT.ll_gt_t hc) ho hp q) (qt hc)
  · exact Wp.go (fun _ q => XS.ifNo Y.here hx rfl (hb hby hd) rfl (Jvm.Free.XT.ll_gt_f hc) q) (qf hc)
theorem w_icmple (X : Pos Z a0 n0 p l e R s m args below meth c code ml ret y T h k j) {x z : Int32} {o : Int} (hd : Jmp code pc (.if_icmp .le o) o nx tgt) (qt : ¬ z < x → Wp n0 p e R s below Q T (mkF m tgt Ls S)) (qf : z < x → Wp n0 p e R s below Q T (mkF m nx Ls S)) : Wp n0 p e R s below Q T (mkF m pc Ls (.int z :: .int x :: S)) := by
  obtain ⟨hx, hZ, hby, hml, hret, hown, hnm, hlk, eT, hn0, hw, locs, N, Y⟩ := X
  obtain ⟨hd, rfl, ho, hp⟩ := hd
  by_cases hc : z < x
  · exact Wp.go (fun _ q => XS.icmpNo Y.here hx rfl (hb hby hd) rfl (Jvm.Free.XT.ii_le_f hc) q) (qf hc)
  · exact Wp.go (fun _ q => XS.icmpYes Y.here hx rfl (pc0 := pc) (pc' := tgt) rfl (hb hby hd) rfl (Jvm.Free.XT.ii_le_t hc) ho hp q) (qt hc)
theorem w_ifle (X : Pos Z a0 n0 p l e R s m args below meth c code ml ret y T h k j) {x : Int32} {o : Int} (hd : Jmp code pc (.ifCond .le o) o nx tgt) (qt : ¬ 0 < x → Wp n0 p e R s below Q T (mkF m tgt Ls S)) (qf : 0 < x → Wp n0 p e R s below Q T (mkF m nx Ls S)) : Wp n0 p e R s below Q T (mkF m pc Ls (.int x :: S)) := by
  obtain ⟨hx, hZ, hby, hml, hret, hown, hnm, hlk, eT, hn0, hw, locs, N, Y⟩ := X
  obtain ⟨hd, rfl, ho, hp⟩ := hd
  by_cases hc : 0 < x
  · exact Wp.go (fun _ q => XS.ifNo Y.here hx rfl (hb hby hd) rfl (Jvm.Free.XT.i0_le_f hc) q) (qf hc)
  · exact Wp.go (fun _ q => XS.ifYes Y.here hx rfl (pc0 := pc) (pc' := tgt) rfl (hb hby hd) rfl (Jvm.Free.XT.i0_le_t hc) ho hp q) (qt hc)
theorem w_lcmple (X : Pos Z a0 n0 p l e R s m args below meth c code ml ret y T h k j) {x z : Int64} {o : Int} {mid : Nat} (hd0 : Dec code pc .lcmp 1 mid) (hd : Jmp code mid (.ifCond .le o) o nx tgt) (qt : ¬ z < x → Wp n0 p e R s below Q T (mkF m tgt Ls S)) (qf : z < x → Wp n0 p e R s below Q T (mkF m nx Ls S)) : Wp n0 p e R s below Q T (mkF m pc Ls (.long z :: .long x :: S)) := by
  obtain ⟨hx, hZ, hby, hml, hret, hown, hnm, hlk, eT, hn0, hw, locs, N, Y⟩ := X
  obtain ⟨hd0, rfl⟩ := hd0
  obtain ⟨hd, rfl, ho, hp⟩ := hd
  refine Wp.go (fun _ q => Jvm.Free.XT.lcmp Y.here hx rfl (hb hby hd0) rfl q) ?_
  by_cases hc : z < x
  · exact Wp.go (fun _ q => XS.ifNo Y.here hx rfl (hb hby hd) rfl (Jvm.Free.XT.ll_le_f hc) q) (qf hc)
  · exact Wp.go (fun _ q => XS.ifYes Y.here hx rfl (pc0 := pc + 1) (pc' := tgt) rfl (hb hby hd) rfl (Jvm.Free.XT.ll_le_t hc) ho hp q) (qt hc)
theorem w_ldc (X : Pos Z a0 n0 p l e R s m args below meth c code ml ret y T h k j) {i : Nat} {v : Int32} (hd : Dec code pc (.ldc i) 2 nx) (wc : (Jvm.Cond.constant y.cls i v).before a0 Z = true) (q : Wp n0 p e R s below Q T (mkF m nx Ls (.int v :: S))) : Wp n0 p e R s below Q T (mkF m pc Ls S) := by
  obtain ⟨hx, hZ, hby, hml, hret, hown, hnm, hlk, eT, hn0, hw, locs, N, Y⟩ := X
  obtain ⟨hd, rfl⟩ := hd
  exact Wp.go (Y.ldcInt hx hown (mvT hZ wc) rfl (hb hby hd)) q
theorem w_ldc2 (X : Pos Z a0 n0 p l e R s m args below meth c code ml ret y T h k j) {i : Nat} {v : Int64} (hd : Dec code pc (.ldc2_w i) 3 nx) (wc : (Jvm.Cond.constantLong y.cls i v).before a0 Z = true) (q : Wp n0 p e R s below Q T (mkF m nx Ls (.long v :: S))) : Wp n0 p e R s below Q T (mkF m pc Ls S) := by
  obtain ⟨hx, hZ, hby, hml, hret, hown, hnm, hlk, eT, hn0, hw, locs, N, Y⟩ := X
  obtain ⟨hd, rfl⟩ := hd
  exact Wp.go (Y.ldc2Long hx hown (mvT hZ wc) rfl (hb hby hd)) q
theorem w_ldcw (X : Pos Z a0 n0 p l e R s m args below meth c code ml ret y T h k j) {i : Nat} {v : Int32} (hd : Dec code pc (.ldc_w i) 3 nx) (wc : (Jvm.Cond.constant y.cls i v).before a0 Z = true) (q : Wp n0 p e R s below Q T (mkF m nx Ls (.int v :: S))) : Wp n0 p e R s below Q T (mkF m pc Ls S) := by
  obtain ⟨hx, hZ, hby, hml, hret, hown, hnm, hlk, eT, hn0, hw, locs, N, Y⟩ := X
  obtain ⟨hd, rfl⟩ := hd
  exact Wp.go (Y.ldcwInt hx hown (mvT hZ wc) rfl (hb hby hd)) q
theorem w_wiinc (X : Pos Z a0 n0 p l e R s m args below meth c code ml ret y T h k j) {w : Nat} {i : Int} {d v r : Int32} {l' : Array Slot} (hd : Dec code pc (.iinc w i) 6 nx) (hl : Ls[w]? = some (.val (.int v))) (hi : Int32.ofInt i = d) (hr : v + d = r) (hl' : storeLocals Ls w (.int r) = some l') (q : Wp n0 p e R s below Q T (mkF m nx l' S)) : Wp n0 p e R s below Q T (mkF m pc Ls S) := by
  obtain ⟨hx, hZ, hby, hml, hret, hown, hnm, hlk, eT, hn0, hw, locs, N, Y⟩ := X
  obtain ⟨hd, rfl⟩ := hd
  subst hi hr
  refine Wp.go (fun _ q => ?_) q
  have hd' := hb hby hd
  have h := Y.here
  jvm_step h [h.top, hx, hd', hl, hl']
  exact q
theorem w_ireturn (X : Pos Z a0 n0 p l e R s m args below meth c code ml (some .int) y T h k j) {z : Int32} (hd : Dec code pc .ireturn 1 nx) (hk : k ≤ R.cells) (hj : j ≤ R.slots) (hq : Q (some (.int z)) h) : Wp n0 p e R s below Q T (mkF m pc Ls (.int z :: S)) := by
  obtain ⟨hx, hZ, hby, hml, hret, hown, hnm, hlk, eT, hn0, hw, locs, N, Y⟩ := X
  obtain ⟨hd, -⟩ := hd
  obtain ⟨fs, hr, hrun, hended, hW, hsame⟩ := Y.leave (v := (some (.int z))) (fun h => by rw [hret] at h; cases h) hlk
  exact ⟨_, _, retI Y hx hret (hb hby hd) hr, hrun, hended, _, _, rfl, ⟨N, by show n0 ≤ T.heap.size; rw [eT]; exact hn0, by show Q _ T.heap; rw [eT]; exact hq⟩, ⟨_, rfl⟩, hW, hsame.mono hk hj⟩
theorem w_breturn (X : Pos Z a0 n0 p l e R s m args below meth c code ml (some .byte) y T h k j) {z : Int32} (hd : Dec code pc .ireturn 1 nx) (hk : k ≤ R.cells) (hj : j ≤ R.slots) (hq : Q (some (.int (nar .byte z))) h) : Wp n0 p e R s below Q T (mkF m pc Ls (.int z :: S)) := by
  obtain ⟨hx, hZ, hby, hml, hret, hown, hnm, hlk, eT, hn0, hw, locs, N, Y⟩ := X
  obtain ⟨hd, -⟩ := hd
  obtain ⟨fs, hr, hrun, hended, hW, hsame⟩ := Y.leave (v := (some (.int (nar .byte z)))) (fun h => by rw [hret] at h; cases h) hlk
  exact ⟨_, _, retN Y hx (t := .byte) hret (by simp) (hb hby hd) hr, hrun, hended, _, _, rfl, ⟨N, by show n0 ≤ T.heap.size; rw [eT]; exact hn0, by show Q _ T.heap; rw [eT]; exact hq⟩, ⟨_, rfl⟩, hW, hsame.mono hk hj⟩
theorem w_zreturn (X : Pos Z a0 n0 p l e R s m args below meth c code ml (some .boolean) y T h k j) {z : Int32} (hd : Dec code pc .ireturn 1 nx) (hk : k ≤ R.cells) (hj : j ≤ R.slots) (hq : Q (some (.int (nar .boolean z))) h) : Wp n0 p e R s below Q T (mkF m pc Ls (.int z :: S)) := by
  obtain ⟨hx, hZ, hby, hml, hret, hown, hnm, hlk, eT, hn0, hw, locs, N, Y⟩ := X
  obtain ⟨hd, -⟩ := hd
  obtain ⟨fs, hr, hrun, hended, hW, hsame⟩ := Y.leave (v := (some (.int (nar .boolean z)))) (fun h => by rw [hret] at h; cases h) hlk
  exact ⟨_, _, retN Y hx (t := .boolean) hret (by simp) (hb hby hd) hr, hrun, hended, _, _, rfl, ⟨N, by show n0 ≤ T.heap.size; rw [eT]; exact hn0, by show Q _ T.heap; rw [eT]; exact hq⟩, ⟨_, rfl⟩, hW, hsame.mono hk hj⟩
theorem w_lreturn (X : Pos Z a0 n0 p l e R s m args below meth c code ml (some .long) y T h k j) {z : Int64} (hd : Dec code pc .lreturn 1 nx) (hk : k ≤ R.cells) (hj : j ≤ R.slots) (hq : Q (some (.long z)) h) : Wp n0 p e R s below Q T (mkF m pc Ls [.long z]) := by
  obtain ⟨hx, hZ, hby, hml, hret, hown, hnm, hlk, eT, hn0, hw, locs, N, Y⟩ := X
  obtain ⟨hd, -⟩ := hd
  obtain ⟨fs, hr, hrun, hended, hW, hsame⟩ := Y.leave (v := (some (.long z))) (fun h => by rw [hret] at h; cases h) hlk
  exact ⟨_, _, Y.lreturnOut hx hret (hb hby hd) hr, hrun, hended, _, _, rfl, ⟨N, by show n0 ≤ T.heap.size; rw [eT]; exact hn0, by show Q _ T.heap; rw [eT]; exact hq⟩, ⟨_, rfl⟩, hW, hsame.mono hk hj⟩
theorem w_return (X : Pos Z a0 n0 p l e R s m args below meth c code ml none y T h k j)  (hd : Dec code pc .return_ 1 nx) (hk : k ≤ R.cells) (hj : j ≤ R.slots) (hq : Q none h) : Wp n0 p e R s below Q T (mkF m pc Ls []) := by
  obtain ⟨hx, hZ, hby, hml, hret, hown, hnm, hlk, eT, hn0, hw, locs, N, Y⟩ := X
  obtain ⟨hd, -⟩ := hd
  obtain ⟨fs, hr, hrun, hended, hW, hsame⟩ := Y.leave (v := none) (fun _ => rfl) hlk
  exact ⟨_, _, Y.returnOut hx hret (hb hby hd) hr, hrun, hended, _, _, rfl, ⟨N, by show n0 ≤ T.heap.size; rw [eT]; exact hn0, by show Q _ T.heap; rw [eT]; exact hq⟩, ⟨_, rfl⟩, hW, hsame.mono hk hj⟩
theorem w_arraylength (X : Pos Z a0 n0 p l e R s m args below meth c code ml ret y T h k j) {a : Addr} {ty : FieldType} {n : Nat} {g : Nat → Value} (hd : Dec code pc .arraylength 1 nx) (B : Ba Z n0 h a ty n g) (q : Wp n0 p e R s below Q T (mkF m nx Ls (.int (Int32.ofNat n) :: S))) : Wp n0 p e R s below Q T (mkF m pc Ls (.ref a :: S)) := by
  obtain ⟨hx, hZ, hby, hml, hret, hown, hnm, hlk, eT, hn0, hw, locs, N, Y⟩ := X
  obtain ⟨hd, rfl⟩ := hd
  obtain ⟨-, hn, cl, A, hs, -⟩ := B
  subst hs
  exact Wp.go (fun _ q => Y.arraylength hx (g := mkF m pc Ls (.ref a :: S)) (cell := cl) (by rw [eT]; exact A.1) (State.isArrayOf_alike hZ.alike A.2.1) rfl rfl (hb hby hd) _ q) q
theorem w_baload (X : Pos Z a0 n0 p l e R s m args below meth c code ml ret y T h k j) {a : Addr} {n : Nat} {b : Nat → Int32} {x : Int32} (hd : Dec code pc .baload 1 nx) (B : Ba Z n0 h a .byte n (bI b)) (i : Nat) (hi : x = Int32.ofNat i) (hlt : i < n) (q : Wp n0 p e R s below Q T (mkF m nx Ls (.int (b i) :: S))) : Wp n0 p e R s below Q T (mkF m pc Ls (.int x :: .ref a :: S)) := by
  obtain ⟨hx, hZ, hby, hml, hret, hown, hnm, hlk, eT, hn0, hw, locs, N, Y⟩ := X
  obtain ⟨hd, rfl⟩ := hd
  obtain ⟨-, hn, cl, A, hs, hv⟩ := B
  subst hi
  exact Wp.go (fun _ q => Y.baloadBytes hx (g := mkF m pc Ls (.int (Int32.ofNat i) :: .ref a :: S)) (j := Int32.ofNat i) (v := .int (b i)) (by rw [eT]; exact A.1) (State.isArrayOf_alike hZ.alike A.2.1) A.2.2 (inb hn hs hlt) (by rw [ofNat_clamp (by omega)]; exact hv i hlt) rfl rfl (hb hby hd) _ q) q
theorem w_iaload (X : Pos Z a0 n0 p l e R s m args below meth c code ml ret y T h k j) {a : Addr} {n : Nat} {b : Nat → Int32} {x : Int32} (hd : Dec code pc .iaload 1 nx) (B : Ba Z n0 h a .int n (bI b)) (i : Nat) (hi : x = Int32.ofNat i) (hlt : i < n) (q : Wp n0 p e R s below Q T (mkF m nx Ls (.int (b i) :: S))) : Wp n0 p e R s below Q T (mkF m pc Ls (.int x :: .ref a :: S)) := by
  obtain ⟨hx, hZ, hby, hml, hret, hown, hnm, hlk, eT, hn0, hw, locs, N, Y⟩ := X
  obtain ⟨hd, rfl⟩ := hd
  obtain ⟨-, hn, cl, A, hs, hv⟩ := B
  subst hi
  exact Wp.go (fun _ q => Y.iaload hx (g := mkF m pc Ls (.int (Int32.ofNat i) :: .ref a :: S)) (j := Int32.ofNat i) (v := .int (b i)) (by rw [eT]; exact A.1) (State.isArrayOf_alike hZ.alike A.2.1) A.2.2 (inb hn hs hlt) (by rw [ofNat_clamp (by omega)]; exact hv i hlt) rfl rfl (hb hby hd) _ q) q
theorem w_laload (X : Pos Z a0 n0 p l e R s m args below meth c code ml ret y T h k j) {a : Addr} {n : Nat} {b : Nat → Int64} {x : Int32} (hd : Dec code pc .laload 1 nx) (B : Ba Z n0 h a .long n (bJ b)) (i : Nat) (hi : x = Int32.ofNat i) (hlt : i < n) (q : Wp n0 p e R s below Q T (mkF m nx Ls (.long (b i) :: S))) : Wp n0 p e R s below Q T (mkF m pc Ls (.int x :: .ref a :: S)) := by
  obtain ⟨hx, hZ, hby, hml, hret, hown, hnm, hlk, eT, hn0, hw, locs, N, Y⟩ := X
  obtain ⟨hd, rfl⟩ := hd
  obtain ⟨-, hn, cl, A, hs, hv⟩ := B
  subst hi
  exact Wp.go (fun _ q => Y.laload hx (g := mkF m pc Ls (.int (Int32.ofNat i) :: .ref a :: S)) (j := Int32.ofNat i) (v := .long (b i)) (by rw [eT]; exact A.1) (State.isArrayOf_alike hZ.alike A.2.1) A.2.2 (inb hn hs hlt) (by rw [ofNat_clamp (by omega)]; exact hv i hlt) rfl rfl (hb hby hd) _ q) q
theorem w_bastore (X : Pos Z a0 n0 p l e R s m args below meth c code ml ret y T h k j) {a : Addr} {n : Nat} {b : Nat → Int32} {x : Int32} {v : Int32} (hd : Dec code pc .bastore 1 nx) (B : Ba Z n0 h a .byte n (bI b)) (i : Nat) (hi : x = Int32.ofNat i) (hlt : i < n)
    (q : ∀ T' h', Pos Z a0 n0 p l e R s m args below meth c code ml ret y T' h' k j → Keep h h' [a] → Ba Z n0 h' a .byte n (bI (upd b i (jbyte v))) → Wp n0 p e R s below Q T' (mkF m nx Ls S)) : Wp n0 p e R s below Q T (mkF m pc Ls (.int v :: .int x :: .ref a :: S)) := by
  obtain ⟨hx, hZ, hby, hml, hret, hown, hnm, hlk, eT, hn0, hw, locs, N, Y⟩ := X
  obtain ⟨hd, rfl⟩ := hd
  obtain ⟨hna, hn, cl, A, hs, hv⟩ := B
  subst hi
  obtain ⟨T', h', Y', e', W', st⟩ := stB Y hx hZ eT A (j := Int32.ofNat i) (inb hn hs hlt) (g := mkF m pc Ls (.int v :: .int (Int32.ofNat i) :: .ref a :: S)) rfl rfl (hb hby hd)
  refine Wp.go st (q T' h' ⟨hx, hZ, hby, hml, hret, hown, hnm, hlk, e', by rw [W'.size]; exact hn0, hw, _, Fr.snoc Y' N hna, Y'⟩ (Keep.of_wr W') ⟨hna, hn, _, A.same W', (sz_set _ _ _).trans hs, fun q hq => ?_⟩)
  rw [ofNat_clamp (by omega)]
  by_cases hqi : q = i
  · subst hqi
    simp [Cell.setSlot, hs, hq, upd, bI, nar]
  · simp [Cell.setSlot, upd, hqi, bI, Array.getElem?_setIfInBounds_ne (Ne.symm hqi), hv q hq]
theorem w_iastore (X : Pos Z a0 n0 p l e R s m args below meth c code ml ret y T h k j) {a : Addr} {n : Nat} {b : Nat → Int32} {x : Int32} {v : Int32} (hd : Dec code pc .iastore 1 nx) (B : Ba Z n0 h a .int n (bI b)) (i : Nat) (hi : x = Int32.ofNat i) (hlt : i < n)
    (q : ∀ T' h', Pos Z a0 n0 p l e R s m args below meth c code ml ret y T' h' k j → Keep h h' [a] → Ba Z n0 h' a .int n (bI (upd b i (v))) → Wp n0 p e R s below Q T' (mkF m nx Ls S)) : Wp n0 p e R s below Q T (mkF m pc Ls (.int v :: .int x :: .ref a :: S)) := by
  obtain ⟨hx, hZ, hby, hml, hret, hown, hnm, hlk, eT, hn0, hw, locs, N, Y⟩ := X
  obtain ⟨hd, rfl⟩ := hd
  obtain ⟨hna, hn, cl, A, hs, hv⟩ := B
  subst hi
  obtain ⟨T', h', Y', e', W', st⟩ := stI Y hx hZ eT A (j := Int32.ofNat i) (inb hn hs hlt) (g := mkF m pc Ls (.int v :: .int (Int32.ofNat i) :: .ref a :: S)) rfl rfl (hb hby hd)
  refine Wp.go st (q T' h' ⟨hx, hZ, hby, hml, hret, hown, hnm, hlk, e', by rw [W'.size]; exact hn0, hw, _, Fr.snoc Y' N hna, Y'⟩ (Keep.of_wr W') ⟨hna, hn, _, A.same W', (sz_set _ _ _).trans hs, fun q hq => ?_⟩)
  rw [ofNat_clamp (by omega)]
  by_cases hqi : q = i
  · subst hqi
    simp [Cell.setSlot, hs, hq, upd, bI]
  · simp [Cell.setSlot, upd, hqi, bI, Array.getElem?_setIfInBounds_ne (Ne.symm hqi), hv q hq]
theorem w_lastore (X : Pos Z a0 n0 p l e R s m args below meth c code ml ret y T h k j) {a : Addr} {n : Nat} {b : Nat → Int64} {x : Int32} {v : Int64} (hd : Dec code pc .lastore 1 nx) (B : Ba Z n0 h a .long n (bJ b)) (i : Nat) (hi : x = Int32.ofNat i) (hlt : i < n)
    (q : ∀ T' h', Pos Z a0 n0 p l e R s m args below meth c code ml ret y T' h' k j → Keep h h' [a] → Ba Z n0 h' a .long n (bJ (upd b i (v))) → Wp n0 p e R s below Q T' (mkF m nx Ls S)) : Wp n0 p e R s below Q T (mkF m pc Ls (.long v :: .int x :: .ref a :: S)) := by
  obtain ⟨hx, hZ, hby, hml, hret, hown, hnm, hlk, eT, hn0, hw, locs, N, Y⟩ := X
  obtain ⟨hd, rfl⟩ := hd
  obtain ⟨hna, hn, cl, A, hs, hv⟩ := B
  subst hi
  obtain ⟨T', h', Y', e', W', st⟩ := stJ Y hx hZ eT A (j := Int32.ofNat i) (inb hn hs hlt) (g := mkF m pc Ls (.long v :: .int (Int32.ofNat i) :: .ref a :: S)) rfl rfl (hb hby hd)
  refine Wp.go st (q T' h' ⟨hx, hZ, hby, hml, hret, hown, hnm, hlk, e', by rw [W'.size]; exact hn0, hw, _, Fr.snoc Y' N hna, Y'⟩ (Keep.of_wr W') ⟨hna, hn, _, A.same W', (sz_set _ _ _).trans hs, fun q hq => ?_⟩)
  rw [ofNat_clamp (by omega)]
  by_cases hqi : q = i
  · subst hqi
    simp [Cell.setSlot, hs, hq, upd, bJ]
  · simp [Cell.setSlot, upd, hqi, bJ, Array.getElem?_setIfInBounds_ne (Ne.symm hqi), hv q hq]
theorem w_newB (X : Pos Z a0 n0 p l e R s m args below meth c code ml ret y T h k j) {x : Int32} (hd : Dec code pc (.newarray .byte) 2 nx) (wa : (Jvm.Cond.arrayClass .byte).before a0 Z = true) (n cap : Nat) (hx' : x = Int32.ofNat n) (hcap : n ≤ cap) (hb' : cap * 8 ≤ 536870912) (hk : k + 1 ≤ R.cells) (hj : j + cap ≤ R.slots)
    (q : ∀ T' h' a, Pos Z a0 n0 p l e R s m args below meth c code ml ret y T' h' (k + 1) (j + cap) → a = h.size → Ext h h' → Ba Z n0 h' a .byte n (bI fun _ => 0) → Wp n0 p e R s below Q T' (mkF m nx Ls (.ref a :: S))) : Wp n0 p e R s below Q T (mkF m pc Ls (.int x :: S)) := by
  obtain ⟨hx, hZ, hby, hml, hret, hown, hnm, hlk, eT, hn0, hw, locs, N, Y⟩ := X
  obtain ⟨hd, rfl⟩ := hd
  subst hx'
  obtain ⟨T', h', cA, Y', e', E', A', st⟩ := newP Y hx hZ (aty := .byte) wa eT (g := mkF m pc Ls (.int (Int32.ofNat n) :: S)) rfl (hb hby hd) rfl (ofNat_nn (by omega)) (cap := cap) (by rw [ofNat_clamp (by omega)]; exact hcap) hb' hk hj
  refine Wp.go st (q T' h' _ ⟨hx, hZ, hby, hml, hret, hown, hnm, hlk, e', Nat.le_trans hn0 E'.1, hw, _, N, Y'⟩ rfl E' ⟨hn0, by omega, _, A', by rw [sz_new, ofNat_clamp (by omega)], fun i hi => ?_⟩)
  have := get_new (cA := cA) (ty := .byte) (n := Int32.ofNat n) (k := Int32.ofNat i) (by rw [ofNat_clamp (by omega), ofNat_clamp (by omega)]; exact fun q => q.elim (ofNat_nn (by omega)) (fun q => by omega))
  rw [ofNat_clamp (by omega)] at this
  exact this
theorem w_newI (X : Pos Z a0 n0 p l e R s m args below meth c code ml ret y T h k j) {x : Int32} (hd : Dec code pc (.newarray .int) 2 nx) (wa : (Jvm.Cond.arrayClass .int).before a0 Z = true) (n cap : Nat) (hx' : x = Int32.ofNat n) (hcap : n ≤ cap) (hb' : cap * 8 ≤ 536870912) (hk : k + 1 ≤ R.cells) (hj : j + cap ≤ R.slots)
    (q : ∀ T' h' a, Pos Z a0 n0 p l e R s m args below meth c code ml ret y T' h' (k + 1) (j + cap) → a = h.size → Ext h h' → Ba Z n0 h' a .int n (bI fun _ => 0) → Wp n0 p e R s below Q T' (mkF m nx Ls (.ref a :: S))) : Wp n0 p e R s below Q T (mkF m pc Ls (.int x :: S)) := by
  obtain ⟨hx, hZ, hby, hml, hret, hown, hnm, hlk, eT, hn0, hw, locs, N, Y⟩ := X
  obtain ⟨hd, rfl⟩ := hd
  subst hx'
  obtain ⟨T', h', cA, Y', e', E', A', st⟩ := newP Y hx hZ (aty := .int) wa eT (g := mkF m pc Ls (.int (Int32.ofNat n) :: S)) rfl (hb hby hd) rfl (ofNat_nn (by omega)) (cap := cap) (by rw [ofNat_clamp (by omega)]; exact hcap) hb' hk hj
  refine Wp.go st (q T' h' _ ⟨hx, hZ, hby, hml, hret, hown, hnm, hlk, e', Nat.le_trans hn0 E'.1, hw, _, N, Y'⟩ rfl E' ⟨hn0, by omega, _, A', by rw [sz_new, ofNat_clamp (by omega)], fun i hi => ?_⟩)
  have := get_new (cA := cA) (ty := .int) (n := Int32.ofNat n) (k := Int32.ofNat i) (by rw [ofNat_clamp (by omega), ofNat_clamp (by omega)]; exact fun q => q.elim (ofNat_nn (by omega)) (fun q => by omega))
  rw [ofNat_clamp (by omega)] at this
  exact this
theorem w_newJ (X : Pos Z a0 n0 p l e R s m args below meth c code ml ret y T h k j) {x : Int32} (hd : Dec code pc (.newarray .long) 2 nx) (wa : (Jvm.Cond.arrayClass .long).before a0 Z = true) (n cap : Nat) (hx' : x = Int32.ofNat n) (hcap : n ≤ cap) (hb' : cap * 8 ≤ 536870912) (hk : k + 1 ≤ R.cells) (hj : j + cap ≤ R.slots)
    (q : ∀ T' h' a, Pos Z a0 n0 p l e R s m args below meth c code ml ret y T' h' (k + 1) (j + cap) → a = h.size → Ext h h' → Ba Z n0 h' a .long n (bJ fun _ => 0) → Wp n0 p e R s below Q T' (mkF m nx Ls (.ref a :: S))) : Wp n0 p e R s below Q T (mkF m pc Ls (.int x :: S)) := by
  obtain ⟨hx, hZ, hby, hml, hret, hown, hnm, hlk, eT, hn0, hw, locs, N, Y⟩ := X
  obtain ⟨hd, rfl⟩ := hd
  subst hx'
  obtain ⟨T', h', cA, Y', e', E', A', st⟩ := newP Y hx hZ (aty := .long) wa eT (g := mkF m pc Ls (.int (Int32.ofNat n) :: S)) rfl (hb hby hd) rfl (ofNat_nn (by omega)) (cap := cap) (by rw [ofNat_clamp (by omega)]; exact hcap) hb' hk hj
  refine Wp.go st (q T' h' _ ⟨hx, hZ, hby, hml, hret, hown, hnm, hlk, e', Nat.le_trans hn0 E'.1, hw, _, N, Y'⟩ rfl E' ⟨hn0, by omega, _, A', by rw [sz_new, ofNat_clamp (by omega)], fun i hi => ?_⟩)
  have := get_new (cA := cA) (ty := .long) (n := Int32.ofNat n) (k := Int32.ofNat i) (by rw [ofNat_clamp (by omega), ofNat_clamp (by omega)]; exact fun q => q.elim (ofNat_nn (by omega)) (fun q => by omega))
  rw [ofNat_clamp (by omega)] at this
  exact this
theorem w_static (X : Pos Z a0 n0 p l e R s m args below meth c code ml ret y T h k j) {z : MethodName} {cz : ByteArray} {mz : Nat} {rz : Option FieldType} {rm : Room} {Qz : Option Value → Heap → Prop} {ps : List FieldType} {rr : Option FieldType} {i : Nat} {argsL : List Value} (hd : Dec code pc (.invokestatic i) 3 nx) (C : Ctr l Z n0 z cz mz rz rm [] argsL.toArray h Qz) (wl : (Jvm.Cond.methodLink y.cls i z).before a0 Z = true) (ws : (Jvm.Cond.static z).before a0 Z = true) (wi : (Jvm.Cond.initialized z.cls).before a0 Z = true) (wc : (Jvm.Cond.code z cz mz rz).before a0 Z = true)
    (hz : z.cls ≠ "java/lang/invoke/MethodHandle" ∧ z.cls ≠ "java/lang/invoke/VarHandle") (hpd : parseMethodDescriptor z.desc = some ⟨ps, rr⟩) (hlen : argsL.length = ps.length) {S0 : List Value} (hS : S0 = argsL.reverse ++ S) (hsz : Ls.size = ml)
    (hf : rm.frames + 1 ≤ R.frames) (hlo : (S.map fun v => v.category).sum + (mz + 11) + rm.locals ≤ R.locals) (hk : k + rm.cells ≤ R.cells) (hj : j + rm.slots ≤ R.slots)
    (q : ∀ v T' h', Pos Z a0 n0 p l e R s m args below meth c code ml ret y T' h' (k + rm.cells) (j + rm.slots) → Qz v h' → Wp n0 p e R s below Q T' (mkF m nx Ls (v.toList ++ S))) : Wp n0 p e R s below Q T (mkF m pc Ls S0) := by
  obtain ⟨hx, hZ, hby, hml, hret, hown, hnm, hlk, eT, hn0, hw, locs, N, Y⟩ := X
  obtain ⟨hd, rfl⟩ := hd
  obtain ⟨v, _, ⟨T', L', k', j'⟩, -, Y', ⟨Lc, hQ, l1, l2, l3⟩, st⟩ := Jvm.LawKit.callS Y hx (y := z) hown (mvT hZ wl) (mvT hZ ws) (mvT hZ wi) (mvT hZ wc) hz (backOf (W := (S.map fun v => v.category).sum) (Q := fun v h L => Fr n0 L ∧ n0 ≤ h.size ∧ Qz v h) C hZ wc wi hf hlo) (g := mkF m pc Ls S0) rfl (by rw [hml]; exact hsz) (argsL := argsL) (rest := S) (lenOf hpd hlen) hS (by show 2 * 0 + _ ≤ _; omega) (hb hby hd) (fun _ _ => ⟨rfl, eT, hk, hj⟩)
  dsimp only [Pt.U, Pt.locs, Pt.cells, Pt.slots] at Y' l1 l2 l3 st hQ
  subst l1 l2 l3
  obtain ⟨N', hn', hQ⟩ := hQ
  exact Wp.go st (q v T' _ ⟨hx, hZ, hby, hml, hret, hown, hnm, hlk, rfl, hn', hw, _, Fr.app N N', Y'⟩ hQ)
theorem w_virtual (X : Pos Z a0 n0 p l e R s m args below meth c code ml ret y T h k j) {z : MethodName} {cz : ByteArray} {mz : Nat} {rz : Option FieldType} {rm : Room} {Qz : Option Value → Heap → Prop} {ps : List FieldType} {rr : Option FieldType} {i : Nat} {argsL : List Value} {a : Addr} (hd : Dec code pc (.invokevirtual i) 3 nx) (C : Ctr l Z n0 z cz mz rz rm [] (.ref a :: argsL).toArray h Qz) (E : Exa Z h a z.cls) (wl : (Jvm.Cond.methodLink y.cls i z).before a0 Z = true) (wdc : (Jvm.Cond.declares z).before a0 Z = true) (wse : (Jvm.Cond.selects z.cls z z).before a0 Z = true) (wim : (Jvm.Cond.instanceMethod z).before a0 Z = true) (wi : (Jvm.Cond.initialized z.cls).before a0 Z = true) (wc : (Jvm.Cond.code z cz mz rz).before a0 Z = true)
    (hz : z.cls ≠ "java/lang/invoke/MethodHandle" ∧ z.cls ≠ "java/lang/invoke/VarHandle") (hpd : parseMethodDescriptor z.desc = some ⟨ps, rr⟩) (hlen : argsL.length = ps.length) {S0 : List Value} (hS : S0 = argsL.reverse ++ .ref a :: S) (hsz : Ls.size = ml)
    (hf : rm.frames + 1 ≤ R.frames) (hlo : (S.map fun v => v.category).sum + (mz + 11) + rm.locals ≤ R.locals) (hk : k + rm.cells ≤ R.cells) (hj : j + rm.slots ≤ R.slots)
    (q : ∀ v T' h', Pos Z a0 n0 p l e R s m args below meth c code ml ret y T' h' (k + rm.cells) (j + rm.slots) → Qz v h' → Wp n0 p e R s below Q T' (mkF m nx Ls (v.toList ++ S))) : Wp n0 p e R s below Q T (mkF m pc Ls S0) := by
  obtain ⟨hx, hZ, hby, hml, hret, hown, hnm, hlk, eT, hn0, hw, locs, N, Y⟩ := X
  obtain ⟨hd, rfl⟩ := hd
  obtain ⟨cq, kq, qa, qb, qc⟩ := isOf hZ eT E
  have Ctr' := backOf (l := l) (R := R) (p := p) (e := e) (below := below) (s := s) (args := args) (len := 3) (W := (S.map fun v => v.category).sum) (Q := fun v h L => Fr n0 L ∧ n0 ≤ h.size ∧ Qz v h) C hZ wc wi hf hlo
  obtain ⟨v, _, ⟨T', L', k', j'⟩, -, Y', ⟨Lc, hQ, l1, l2, l3⟩, st⟩ := Y.virtualBack hx (y := z) (z := z) hown (mvT hZ wl) (mvT hZ wdc) (notFace_of_selects (args := #[]) (mvT hZ wse)) (mvT hZ wse) (mvT hZ wim) hz Ctr' qa qc (g := mkF m pc Ls S0) rfl (by rw [hml]; exact hsz) (Steps.refl _) (argsL := argsL) (rest := S) (lenOf hpd hlen) hS (by show 2 * 0 + _ ≤ _; omega) (hb hby hd) (fun _ _ => ⟨rfl, eT, hk, hj⟩)
  dsimp only [Pt.U, Pt.locs, Pt.cells, Pt.slots] at Y' l1 l2 l3 st hQ
  subst l1 l2 l3
  obtain ⟨N', hn', hQ⟩ := hQ
  exact Wp.go (fun _ t => st.trans t) (q v T' _ ⟨hx, hZ, hby, hml, hret, hown, hnm, hlk, rfl, hn', hw, _, Fr.app N N', Y'⟩ hQ)
theorem w_special (X : Pos Z a0 n0 p l e R s m args below meth c code ml ret y T h k j) {z : MethodName} {cz : ByteArray} {mz : Nat} {rm : Room} {Qz : Option Value → Heap → Prop} {ps : List FieldType} {rr : Option FieldType} {i : Nat} {argsL : List Value} {a : Addr} (hd : Dec code pc (.invokespecial i) 3 nx) (C : Ctr l Z n0 z cz mz none rm [] (.ref a :: argsL).toArray h Qz) (hz1 : z.name = "<init>") (wl : (Jvm.Cond.methodLink y.cls i z).before a0 Z = true) (wim : (Jvm.Cond.instanceMethod z).before a0 Z = true) (wi : (Jvm.Cond.initialized z.cls).before a0 Z = true) (wc : (Jvm.Cond.code z cz mz none).before a0 Z = true)
    (hz : z.cls ≠ "java/lang/invoke/MethodHandle" ∧ z.cls ≠ "java/lang/invoke/VarHandle") (hpd : parseMethodDescriptor z.desc = some ⟨ps, rr⟩) (hlen : argsL.length = ps.length) {S0 : List Value} (hS : S0 = argsL.reverse ++ .ref a :: S) (hsz : Ls.size = ml)
    (hf : rm.frames + 1 ≤ R.frames) (hlo : (S.map fun v => v.category).sum + (mz + 11) + rm.locals ≤ R.locals) (hk : k + rm.cells ≤ R.cells) (hj : j + rm.slots ≤ R.slots)
    (q : ∀ v T' h', Pos Z a0 n0 p l e R s m args below meth c code ml ret y T' h' (k + rm.cells) (j + rm.slots) → Qz v h' → Wp n0 p e R s below Q T' (mkF m nx Ls (v.toList ++ S))) : Wp n0 p e R s below Q T (mkF m pc Ls S0) := by
  obtain ⟨hx, hZ, hby, hml, hret, hown, hnm, hlk, eT, hn0, hw, locs, N, Y⟩ := X
  obtain ⟨hd, rfl⟩ := hd
  have Ctr' := backOf (l := l) (R := R) (p := p) (e := e) (below := below) (s := s) (args := args) (len := 3) (W := (S.map fun v => v.category).sum) (Q := fun v h L => Fr n0 L ∧ n0 ≤ h.size ∧ Qz v h) C hZ wc wi hf hlo
  obtain ⟨v, _, ⟨T', L', k', j'⟩, -, Y', ⟨Lc, hQ, l1, l2, l3⟩, st⟩ := Y.specialBack hx (y := z) hz1 hown (mvT hZ wl) (mvT hZ wim) (mvT hZ wc) hz Ctr' (g := mkF m pc Ls S0) rfl (by rw [hml]; exact hsz) (Steps.refl _) (a := a) (argsL := argsL) (rest := S) (lenOf hpd hlen) hS (by show 2 * 0 + _ ≤ _; omega) (hb hby hd) (fun _ _ => ⟨rfl, eT, hk, hj⟩)
  dsimp only [Pt.U, Pt.locs, Pt.cells, Pt.slots] at Y' l1 l2 l3 st hQ
  subst l1 l2 l3
  obtain ⟨N', hn', hQ⟩ := hQ
  exact Wp.go (fun _ t => st.trans t) (q v T' _ ⟨hx, hZ, hby, hml, hret, hown, hnm, hlk, rfl, hn', hw, _, Fr.app N N', Y'⟩ hQ)
theorem w_new (X : Pos Z a0 n0 p l e R s m args below meth c code ml ret y T h k j) {i n : Nat} {C : String} (hd : Dec code pc (.new i) 3 nx) (w : (Jvm.Cond.classLink y.cls i C).before a0 Z = true) (wi : (Jvm.Cond.instantiable C n).before a0 Z = true) (wz : (Jvm.Cond.initialized C).before a0 Z = true) (hk : k + 1 ≤ R.cells) (hj : j + n ≤ R.slots)
    (q : ∀ T' h' a, Pos Z a0 n0 p l e R s m args below meth c code ml ret y T' h' (k + 1) (j + n) → a = h.size → n0 ≤ a → Ext h h' → Exa Z h' a C → (∀ {O nm d : String} {ty : FieldType}, Laid Z a0 C O nm d → parseFieldDescriptor d = some ty → Fld Z h' a O nm d (defaultValue ty)) → Wp n0 p e R s below Q T' (mkF m nx Ls (.ref a :: S))) : Wp n0 p e R s below Q T (mkF m pc Ls S) := by
  obtain ⟨hx, hZ, hby, hml, hret, hown, hnm, hlk, eT, hn0, hw, locs, N, Y⟩ := X
  obtain ⟨hd, rfl⟩ := hd
  obtain ⟨T', h', Y', e', E', A', D', -, st⟩ := newO Y hx hZ hown w wi wz eT (g := mkF m pc Ls S) rfl (hb hby hd) hk hj
  exact Wp.go st (q T' h' _ ⟨hx, hZ, hby, hml, hret, hown, hnm, hlk, e', Nat.le_trans hn0 E'.1, hw, _, N, Y'⟩ rfl hn0 E' A' D')
theorem w_getF (X : Pos Z a0 n0 p l e R s m args below meth c code ml ret y T h k j) {i : Nat} {O nm d : String} {a : Addr} {v : Value} (hd : Dec code pc (.getfield i) 3 nx) (w : (Jvm.Cond.fieldLink y.cls i O nm d).before a0 Z = true) (F : Fld Z h a O nm d v)
    (q : ∀ T', Pos Z a0 n0 p l e R s m args below meth c code ml ret y T' h k j → Wp n0 p e R s below Q T' (mkF m nx Ls (v :: S))) : Wp n0 p e R s below Q T (mkF m pc Ls (.ref a :: S)) := by
  obtain ⟨hx, hZ, hby, hml, hret, hown, hnm, hlk, eT, hn0, hw, locs, N, Y⟩ := X
  obtain ⟨hd, rfl⟩ := hd
  obtain ⟨T', Y', e', st⟩ := getF Y hx hZ hown (host := "") (Or.inl w) Via.refl eT F (g := mkF m pc Ls (.ref a :: S)) rfl rfl (hb hby hd)
  exact Wp.go st (q T' ⟨hx, hZ, hby, hml, hret, hown, hnm, hlk, e', hn0, hw, _, N, Y'⟩)
theorem w_putF (X : Pos Z a0 n0 p l e R s m args below meth c code ml ret y T h k j) {i kk : Nat} {C O nm d : String} {ty : FieldType} {a : Addr} {v old : Value} (hd : Dec code pc (.putfield i) 3 nx) (w : (Jvm.Cond.fieldLink y.cls i O nm d).before a0 Z = true) (F : Fld Z h a O nm d old) (E : Exa Z h a C) (hna : n0 ≤ a) (L : (Jvm.Cond.lays C O nm d).before a0 Z = true ∨ ((Jvm.Cond.laysFinal C O nm d).before a0 Z = true ∧ y.cls = O ∧ y.name = "<init>")) (wi : (Jvm.Cond.instantiable C kk).before a0 Z = true) (hty : parseFieldDescriptor d = some ty) (hn : narrow ty v = v) (hf : fits ty v = true)
    (q : ∀ T' h', Pos Z a0 n0 p l e R s m args below meth c code ml ret y T' h' k j → Wr h h' a (Jvm.RoadKit.slotOf Z O nm d) v → Wp n0 p e R s below Q T' (mkF m nx Ls S)) : Wp n0 p e R s below Q T (mkF m pc Ls (v :: .ref a :: S)) := by
  obtain ⟨hx, hZ, hby, hml, hret, hown, hnm, hlk, eT, hn0, hw, locs, N, Y⟩ := X
  obtain ⟨hd, rfl⟩ := hd
  obtain ⟨T', h', Y', e', W', st⟩ := putF Y hx hZ hown (host := "") (Or.inl w) Via.refl eT F E (L.imp id fun q => ⟨q.1, q.2.1, hnm.trans q.2.2⟩) wi hty hn hf (g := mkF m pc Ls (v :: .ref a :: S)) rfl rfl (hb hby hd)
  exact Wp.go st (q T' h' ⟨hx, hZ, hby, hml, hret, hown, hnm, hlk, e', by rw [W'.size]; exact hn0, hw, _, Fr.snoc Y' N hna, Y'⟩ W')
end OwnKit
section OwnInit
variable {Z : State} {a0 : Array Value} {n0 : Nat} {p : Program} {l : Launch} {e : Env} {R : Room} {s : State} {m : MethodId} {args : Array Value} {below : List Frame} {meth : Method} {c : Code} {code : ByteArray} {ml : Nat} {ret : Option FieldType} {y : MethodName} {T : State} {h h' : Heap} {k j : Nat} {Q : Option Value → Heap → Prop} {pc nx tgt : Nat} {Ls : Array Slot} {S : List Value}
theorem w_initO (X : Pos Z a0 n0 p l e R s m args below meth c code ml ret y T h k j) {i : Nat} {a : Addr} (hd : Dec code pc (.invokespecial i) 3 nx) (w1 : (Jvm.Cond.methodLink y.cls i Lib.objectInit).before a0 Z = true) (w2 : (Jvm.Cond.instanceMethod Lib.objectInit).before a0 Z = true) (w3 : (Jvm.Cond.code Lib.objectInit object_method_1_code 1 none).before a0 Z = true) (hsz : Ls.size = ml) (hf : 1 ≤ R.frames) (hlo : (S.map fun v => v.category).sum + 12 ≤ R.locals)
    (q : ∀ T', Pos Z a0 n0 p l e R s m args below meth c code ml ret y T' h k j → Wp n0 p e R s below Q T' (mkF m nx Ls S)) : Wp n0 p e R s below Q T (mkF m pc Ls (.ref a :: S)) := by
  obtain ⟨hx, hZ, hby, hml, hret, hown, hnm, hlk, eT, hn0, hw, locs, N, Y⟩ := X
  obtain ⟨hd, rfl⟩ := hd
  obtain ⟨T', Y', e', st⟩ := initO Y hx hZ hown w1 w2 w3 eT (g := mkF m pc Ls (.ref a :: S)) rfl (by rw [hml]; exact hsz) rfl (hb hby hd) hf (W := (S.map fun v => v.category).sum) (by show 2 * 0 + _ ≤ _; omega) hlo
  exact Wp.go st (q T' ⟨hx, hZ, hby, hml, hret, hown, hnm, hlk, e', hn0, hw, _, N, Y'⟩)
end OwnInit
theorem D0_0 : Dec code 0 (.iload_n 1) 1 1 := ⟨at_0, rfl⟩
theorem D0_1 : Dec code 1 (.ldc 7) 2 3 := ⟨at_1, rfl⟩
theorem D0_3 : Dec code 3 .iand 1 4 := ⟨at_3, rfl⟩
theorem D0_4 : Dec code 4 (.iconst 3) 1 5 := ⟨at_4, rfl⟩
theorem D0_5 : Dec code 5 .irem 1 6 := ⟨at_5, rfl⟩
theorem D0_6 : Dec code 6 (.istore 7) 2 8 := ⟨at_6, rfl⟩
theorem D0_8 : Dec code 8 (.iconst 3) 1 9 := ⟨at_8, rfl⟩
theorem D0_9 : Dec code 9 (.newarray .int) 2 11 := ⟨at_9, rfl⟩
theorem D0_11 : Dec code 11 .dup 1 12 := ⟨at_11, rfl⟩
theorem D0_12 : Dec code 12 (.iconst 0) 1 13 := ⟨at_12, rfl⟩
theorem D0_13 : Dec code 13 (.lload_n 2) 1 14 := ⟨at_13, rfl⟩
theorem D0_14 : Dec code 14 (.iconst 0) 1 15 := ⟨at_14, rfl⟩
theorem D0_15 : Dec code 15 (.invokestatic 8) 3 18 := ⟨at_15, rfl⟩
theorem D0_18 : Dec code 18 .iastore 1 19 := ⟨at_18, rfl⟩
theorem D0_19 : Dec code 19 .dup 1 20 := ⟨at_19, rfl⟩
theorem D0_20 : Dec code 20 (.iconst 1) 1 21 := ⟨at_20, rfl⟩
theorem D0_21 : Dec code 21 (.lload_n 2) 1 22 := ⟨at_21, rfl⟩
theorem D0_22 : Dec code 22 (.iconst 5) 1 23 := ⟨at_22, rfl⟩
theorem D0_23 : Dec code 23 (.invokestatic 8) 3 26 := ⟨at_23, rfl⟩
theorem D0_26 : Dec code 26 .iastore 1 27 := ⟨at_26, rfl⟩
theorem D0_27 : Dec code 27 .dup 1 28 := ⟨at_27, rfl⟩
theorem D0_28 : Dec code 28 (.iconst 2) 1 29 := ⟨at_28, rfl⟩
theorem D0_29 : Dec code 29 (.lload_n 2) 1 30 := ⟨at_29, rfl⟩
theorem D0_30 : Dec code 30 (.bipush 10) 2 32 := ⟨at_30, rfl⟩
theorem D0_32 : Dec code 32 (.invokestatic 8) 3 35 := ⟨at_32, rfl⟩
theorem D0_35 : Dec code 35 .iastore 1 36 := ⟨at_35, rfl⟩
theorem D0_36 : Dec code 36 (.astore 8) 2 38 := ⟨at_36, rfl⟩
theorem D0_38 : Dec code 38 (.iconst 3) 1 39 := ⟨at_38, rfl⟩
theorem D0_39 : Dec code 39 (.newarray .int) 2 41 := ⟨at_39, rfl⟩
theorem D0_41 : Dec code 41 .dup 1 42 := ⟨at_41, rfl⟩
theorem D0_42 : Dec code 42 (.iconst 0) 1 43 := ⟨at_42, rfl⟩
theorem D0_43 : Dec code 43 (.lload_n 2) 1 44 := ⟨at_43, rfl⟩
theorem D0_44 : Dec code 44 (.bipush 15) 2 46 := ⟨at_44, rfl⟩
theorem D0_46 : Dec code 46 (.invokestatic 8) 3 49 := ⟨at_46, rfl⟩
theorem D0_49 : Dec code 49 .iastore 1 50 := ⟨at_49, rfl⟩
theorem D0_50 : Dec code 50 .dup 1 51 := ⟨at_50, rfl⟩
theorem D0_51 : Dec code 51 (.iconst 1) 1 52 := ⟨at_51, rfl⟩
theorem D0_52 : Dec code 52 (.lload_n 2) 1 53 := ⟨at_52, rfl⟩
theorem D0_53 : Dec code 53 (.bipush 20) 2 55 := ⟨at_53, rfl⟩
theorem D0_55 : Dec code 55 (.invokestatic 8) 3 58 := ⟨at_55, rfl⟩
theorem D0_58 : Dec code 58 .iastore 1 59 := ⟨at_58, rfl⟩
theorem D0_59 : Dec code 59 .dup 1 60 := ⟨at_59, rfl⟩
theorem D0_60 : Dec code 60 (.iconst 2) 1 61 := ⟨at_60, rfl⟩
theorem D0_61 : Dec code 61 (.lload_n 2) 1 62 := ⟨at_61, rfl⟩
theorem D0_62 : Dec code 62 (.bipush 25) 2 64 := ⟨at_62, rfl⟩
theorem D0_64 : Dec code 64 (.invokestatic 8) 3 67 := ⟨at_64, rfl⟩
theorem D0_67 : Dec code 67 .iastore 1 68 := ⟨at_67, rfl⟩
theorem D0_68 : Dec code 68 (.astore 9) 2 70 := ⟨at_68, rfl⟩
theorem D0_70 : Dec code 70 (.iconst 3) 1 71 := ⟨at_70, rfl⟩
theorem D0_71 : Dec code 71 (.newarray .int) 2 73 := ⟨at_71, rfl⟩
theorem D0_73 : Dec code 73 .dup 1 74 := ⟨at_73, rfl⟩
theorem D0_74 : Dec code 74 (.iconst 0) 1 75 := ⟨at_74, rfl⟩
theorem D0_75 : Dec code 75 (.lload_n 2) 1 76 := ⟨at_75, rfl⟩
theorem D0_76 : Dec code 76 (.bipush 30) 2 78 := ⟨at_76, rfl⟩
theorem D0_78 : Dec code 78 (.invokestatic 8) 3 81 := ⟨at_78, rfl⟩
theorem D0_81 : Dec code 81 .iastore 1 82 := ⟨at_81, rfl⟩
theorem D0_82 : Dec code 82 .dup 1 83 := ⟨at_82, rfl⟩
theorem D0_83 : Dec code 83 (.iconst 1) 1 84 := ⟨at_83, rfl⟩
theorem D0_84 : Dec code 84 (.lload_n 2) 1 85 := ⟨at_84, rfl⟩
theorem D0_85 : Dec code 85 (.bipush 35) 2 87 := ⟨at_85, rfl⟩
theorem D0_87 : Dec code 87 (.invokestatic 8) 3 90 := ⟨at_87, rfl⟩
theorem D0_90 : Dec code 90 .iastore 1 91 := ⟨at_90, rfl⟩
theorem D0_91 : Dec code 91 .dup 1 92 := ⟨at_91, rfl⟩
theorem D0_92 : Dec code 92 (.iconst 2) 1 93 := ⟨at_92, rfl⟩
theorem D0_93 : Dec code 93 (.lload_n 2) 1 94 := ⟨at_93, rfl⟩
theorem D0_94 : Dec code 94 (.bipush 40) 2 96 := ⟨at_94, rfl⟩
theorem D0_96 : Dec code 96 (.invokestatic 8) 3 99 := ⟨at_96, rfl⟩
theorem D0_99 : Dec code 99 .iastore 1 100 := ⟨at_99, rfl⟩
theorem D0_100 : Dec code 100 (.astore 10) 2 102 := ⟨at_100, rfl⟩
theorem D0_102 : Dec code 102 (.iconst 3) 1 103 := ⟨at_102, rfl⟩
theorem D0_103 : Dec code 103 (.newarray .int) 2 105 := ⟨at_103, rfl⟩
theorem D0_105 : Dec code 105 .dup 1 106 := ⟨at_105, rfl⟩
theorem D0_106 : Dec code 106 (.iconst 0) 1 107 := ⟨at_106, rfl⟩
theorem D0_107 : Dec code 107 (.lload 4) 2 109 := ⟨at_107, rfl⟩
theorem D0_109 : Dec code 109 .l2i 1 110 := ⟨at_109, rfl⟩
theorem D0_110 : Dec code 110 .iastore 1 111 := ⟨at_110, rfl⟩
theorem D0_111 : Dec code 111 .dup 1 112 := ⟨at_111, rfl⟩
theorem D0_112 : Dec code 112 (.iconst 1) 1 113 := ⟨at_112, rfl⟩
theorem D0_113 : Dec code 113 (.lload 4) 2 115 := ⟨at_113, rfl⟩
theorem D0_115 : Dec code 115 (.bipush 32) 2 117 := ⟨at_115, rfl⟩
theorem D0_117 : Dec code 117 .lushr 1 118 := ⟨at_117, rfl⟩
theorem D0_118 : Dec code 118 .l2i 1 119 := ⟨at_118, rfl⟩
theorem D0_119 : Dec code 119 .iastore 1 120 := ⟨at_119, rfl⟩
theorem D0_120 : Dec code 120 .dup 1 121 := ⟨at_120, rfl⟩
theorem D0_121 : Dec code 121 (.iconst 2) 1 122 := ⟨at_121, rfl⟩
theorem D0_122 : Dec code 122 (.iload 6) 2 124 := ⟨at_122, rfl⟩
theorem D0_124 : Dec code 124 .iastore 1 125 := ⟨at_124, rfl⟩
theorem D0_125 : Dec code 125 (.astore 11) 2 127 := ⟨at_125, rfl⟩
theorem D0_127 : Dec code 127 (.iconst 4) 1 128 := ⟨at_127, rfl⟩
theorem D0_128 : Dec code 128 (.newarray .long) 2 130 := ⟨at_128, rfl⟩
theorem D0_130 : Dec code 130 (.astore 12) 2 132 := ⟨at_130, rfl⟩
theorem D0_132 : Dec code 132 (.iconst 4) 1 133 := ⟨at_132, rfl⟩
theorem D0_133 : Dec code 133 (.newarray .long) 2 135 := ⟨at_133, rfl⟩
theorem D0_135 : Dec code 135 (.astore 13) 2 137 := ⟨at_135, rfl⟩
theorem D0_137 : Dec code 137 (.iconst 3) 1 138 := ⟨at_137, rfl⟩
theorem D0_138 : Dec code 138 (.newarray .int) 2 140 := ⟨at_138, rfl⟩
theorem D0_140 : Dec code 140 (.astore 14) 2 142 := ⟨at_140, rfl⟩
theorem D0_142 : Dec code 142 (.new 14) 3 145 := ⟨at_142, rfl⟩
theorem D0_145 : Dec code 145 .dup 1 146 := ⟨at_145, rfl⟩
theorem D0_146 : Dec code 146 (.aload 8) 2 148 := ⟨at_146, rfl⟩
theorem D0_148 : Dec code 148 (.invokespecial 16) 3 151 := ⟨at_148, rfl⟩
theorem D0_151 : Dec code 151 (.astore 15) 2 153 := ⟨at_151, rfl⟩
theorem D0_153 : Dec code 153 (.aload 15) 2 155 := ⟨at_153, rfl⟩
theorem D0_155 : Dec code 155 (.aload 9) 2 157 := ⟨at_155, rfl⟩
theorem D0_157 : Dec code 157 (.invokevirtual 19) 3 160 := ⟨at_157, rfl⟩
theorem D0_160 : Dec code 160 (.aload 15) 2 162 := ⟨at_160, rfl⟩
theorem D0_162 : Dec code 162 (.aload 10) 2 164 := ⟨at_162, rfl⟩
theorem D0_164 : Dec code 164 (.invokevirtual 19) 3 167 := ⟨at_164, rfl⟩
theorem D0_167 : Dec code 167 (.aload 15) 2 169 := ⟨at_167, rfl⟩
theorem D0_169 : Dec code 169 (.aload 11) 2 171 := ⟨at_169, rfl⟩
theorem D0_171 : Dec code 171 (.aload 12) 2 173 := ⟨at_171, rfl⟩
theorem D0_173 : Dec code 173 (.invokevirtual 22) 3 176 := ⟨at_173, rfl⟩
theorem D0_176 : Dec code 176 .pop 1 177 := ⟨at_176, rfl⟩
theorem D0_177 : Dec code 177 (.aload 11) 2 179 := ⟨at_177, rfl⟩
theorem D0_179 : Dec code 179 (.iload 7) 2 181 := ⟨at_179, rfl⟩
theorem D0_181 : Dec code 181 (.iload_n 0) 1 182 := ⟨at_181, rfl⟩
theorem D0_182 : Dec code 182 .iastore 1 183 := ⟨at_182, rfl⟩
theorem D0_183 : Dec code 183 (.aload 15) 2 185 := ⟨at_183, rfl⟩
theorem D0_185 : Dec code 185 (.aload 11) 2 187 := ⟨at_185, rfl⟩
theorem D0_187 : Dec code 187 (.iload 7) 2 189 := ⟨at_187, rfl⟩
theorem D0_189 : Dec code 189 (.aload 12) 2 191 := ⟨at_189, rfl⟩
theorem D0_191 : Dec code 191 (.invokevirtual 26) 3 194 := ⟨at_191, rfl⟩
theorem D0_194 : Dec code 194 (.istore 16) 2 196 := ⟨at_194, rfl⟩
theorem D0_196 : Dec code 196 (.aload 15) 2 198 := ⟨at_196, rfl⟩
theorem D0_198 : Dec code 198 (.aload 11) 2 200 := ⟨at_198, rfl⟩
theorem D0_200 : Dec code 200 (.aload 13) 2 202 := ⟨at_200, rfl⟩
theorem D0_202 : Dec code 202 (.invokevirtual 22) 3 205 := ⟨at_202, rfl⟩
theorem D0_205 : Dec code 205 .pop 1 206 := ⟨at_205, rfl⟩
theorem D0_206 : Dec code 206 (.aload 15) 2 208 := ⟨at_206, rfl⟩
theorem D0_208 : Dec code 208 (.aload 12) 2 210 := ⟨at_208, rfl⟩
theorem D0_210 : Dec code 210 (.iconst 0) 1 211 := ⟨at_210, rfl⟩
theorem D0_211 : Dec code 211 (.aload 14) 2 213 := ⟨at_211, rfl⟩
theorem D0_213 : Dec code 213 (.invokevirtual 30) 3 216 := ⟨at_213, rfl⟩
theorem D0_216 : Dec code 216 (.aload 12) 2 218 := ⟨at_216, rfl⟩
theorem D0_218 : Dec code 218 (.iconst 0) 1 219 := ⟨at_218, rfl⟩
theorem D0_219 : Dec code 219 .laload 1 220 := ⟨at_219, rfl⟩
theorem D0_220 : Dec code 220 (.aload 13) 2 222 := ⟨at_220, rfl⟩
theorem D0_222 : Dec code 222 (.iconst 0) 1 223 := ⟨at_222, rfl⟩
theorem D0_223 : Dec code 223 .laload 1 224 := ⟨at_223, rfl⟩
theorem D0_224 : Dec code 224 .lcmp 1 225 := ⟨at_224, rfl⟩
theorem D0_225 : Jmp code 225 (.ifCond .ne 62) 62 228 287 := ⟨at_225, rfl, by decide, by decide⟩
theorem D0_228 : Dec code 228 (.aload 12) 2 230 := ⟨at_228, rfl⟩
theorem D0_230 : Dec code 230 (.iconst 1) 1 231 := ⟨at_230, rfl⟩
theorem D0_231 : Dec code 231 .laload 1 232 := ⟨at_231, rfl⟩
theorem D0_232 : Dec code 232 (.aload 13) 2 234 := ⟨at_232, rfl⟩
theorem D0_234 : Dec code 234 (.iconst 1) 1 235 := ⟨at_234, rfl⟩
theorem D0_235 : Dec code 235 .laload 1 236 := ⟨at_235, rfl⟩
theorem D0_236 : Dec code 236 .lcmp 1 237 := ⟨at_236, rfl⟩
theorem D0_237 : Jmp code 237 (.ifCond .ne 50) 50 240 287 := ⟨at_237, rfl, by decide, by decide⟩
theorem D0_240 : Dec code 240 (.aload 12) 2 242 := ⟨at_240, rfl⟩
theorem D0_242 : Dec code 242 (.iconst 2) 1 243 := ⟨at_242, rfl⟩
theorem D0_243 : Dec code 243 .laload 1 244 := ⟨at_243, rfl⟩
theorem D0_244 : Dec code 244 (.aload 13) 2 246 := ⟨at_244, rfl⟩
theorem D0_246 : Dec code 246 (.iconst 2) 1 247 := ⟨at_246, rfl⟩
theorem D0_247 : Dec code 247 .laload 1 248 := ⟨at_247, rfl⟩
theorem D0_248 : Dec code 248 .lcmp 1 249 := ⟨at_248, rfl⟩
theorem D0_249 : Jmp code 249 (.ifCond .ne 38) 38 252 287 := ⟨at_249, rfl, by decide, by decide⟩
theorem D0_252 : Dec code 252 (.aload 12) 2 254 := ⟨at_252, rfl⟩
theorem D0_254 : Dec code 254 (.iconst 3) 1 255 := ⟨at_254, rfl⟩
theorem D0_255 : Dec code 255 .laload 1 256 := ⟨at_255, rfl⟩
theorem D0_256 : Dec code 256 (.aload 13) 2 258 := ⟨at_256, rfl⟩
theorem D0_258 : Dec code 258 (.iconst 3) 1 259 := ⟨at_258, rfl⟩
theorem D0_259 : Dec code 259 .laload 1 260 := ⟨at_259, rfl⟩
theorem D0_260 : Dec code 260 .lcmp 1 261 := ⟨at_260, rfl⟩
theorem D0_261 : Jmp code 261 (.ifCond .ne 26) 26 264 287 := ⟨at_261, rfl, by decide, by decide⟩
theorem D0_264 : Dec code 264 (.iload 16) 2 266 := ⟨at_264, rfl⟩
theorem D0_266 : Dec code 266 (.aload 14) 2 268 := ⟨at_266, rfl⟩
theorem D0_268 : Dec code 268 (.iload 7) 2 270 := ⟨at_268, rfl⟩
theorem D0_270 : Dec code 270 .iaload 1 271 := ⟨at_270, rfl⟩
theorem D0_271 : Dec code 271 (.iload_n 0) 1 272 := ⟨at_271, rfl⟩
theorem D0_272 : Jmp code 272 (.if_icmp .ne 7) 7 275 279 := ⟨at_272, rfl, by decide, by decide⟩
theorem D0_275 : Dec code 275 (.iconst 1) 1 276 := ⟨at_275, rfl⟩
theorem D0_276 : Jmp code 276 (.goto 4) 4 279 280 := ⟨at_276, rfl, by decide, by decide⟩
theorem D0_279 : Dec code 279 (.iconst 0) 1 280 := ⟨at_279, rfl⟩
theorem D0_280 : Jmp code 280 (.if_icmp .ne 7) 7 283 287 := ⟨at_280, rfl, by decide, by decide⟩
theorem D0_283 : Dec code 283 (.iconst 1) 1 284 := ⟨at_283, rfl⟩
theorem D0_284 : Jmp code 284 (.goto 4) 4 287 288 := ⟨at_284, rfl, by decide, by decide⟩
theorem D0_288 : Dec code 288 .ireturn 1 289 := ⟨at_288, rfl⟩
theorem D1_0 : Dec method_3_code 0 (.lload_n 0) 1 1 := ⟨by decide +kernel, rfl⟩
theorem D1_1 : Dec method_3_code 1 (.iload_n 2) 1 2 := ⟨by decide +kernel, rfl⟩
theorem D1_2 : Dec method_3_code 2 .lushr 1 3 := ⟨by decide +kernel, rfl⟩
theorem D1_3 : Dec method_3_code 3 .l2i 1 4 := ⟨by decide +kernel, rfl⟩
theorem D1_4 : Dec method_3_code 4 (.bipush 31) 2 6 := ⟨by decide +kernel, rfl⟩
theorem D1_6 : Dec method_3_code 6 .iand 1 7 := ⟨by decide +kernel, rfl⟩
theorem D1_7 : Dec method_3_code 7 (.istore_n 3) 1 8 := ⟨by decide +kernel, rfl⟩
theorem D1_8 : Dec method_3_code 8 (.iconst 1) 1 9 := ⟨by decide +kernel, rfl⟩
theorem D1_9 : Dec method_3_code 9 (.iload_n 3) 1 10 := ⟨by decide +kernel, rfl⟩
theorem D1_10 : Dec method_3_code 10 .ishl 1 11 := ⟨by decide +kernel, rfl⟩
theorem D1_11 : Dec method_3_code 11 (.iconst 1) 1 12 := ⟨by decide +kernel, rfl⟩
theorem D1_12 : Dec method_3_code 12 .iushr 1 13 := ⟨by decide +kernel, rfl⟩
theorem D1_13 : Dec method_3_code 13 .ireturn 1 14 := ⟨by decide +kernel, rfl⟩
theorem D2_0 : Dec prog_60_method_1_code 0 (.aload_n 0) 1 1 := ⟨by decide +kernel, rfl⟩
theorem D2_1 : Dec prog_60_method_1_code 1 (.invokespecial 1) 3 4 := ⟨by decide +kernel, rfl⟩
theorem D2_4 : Dec prog_60_method_1_code 4 (.aload_n 0) 1 5 := ⟨by decide +kernel, rfl⟩
theorem D2_5 : Dec prog_60_method_1_code 5 (.iconst 0) 1 6 := ⟨by decide +kernel, rfl⟩
theorem D2_6 : Dec prog_60_method_1_code 6 (.newarray .int) 2 8 := ⟨by decide +kernel, rfl⟩
theorem D2_8 : Dec prog_60_method_1_code 8 (.putfield 7) 3 11 := ⟨by decide +kernel, rfl⟩
theorem D2_11 : Dec prog_60_method_1_code 11 (.aload_n 0) 1 12 := ⟨by decide +kernel, rfl⟩
theorem D2_12 : Dec prog_60_method_1_code 12 (.iconst 0) 1 13 := ⟨by decide +kernel, rfl⟩
theorem D2_13 : Dec prog_60_method_1_code 13 (.newarray .int) 2 15 := ⟨by decide +kernel, rfl⟩
theorem D2_15 : Dec prog_60_method_1_code 15 (.putfield 13) 3 18 := ⟨by decide +kernel, rfl⟩
theorem D2_18 : Dec prog_60_method_1_code 18 (.aload_n 0) 1 19 := ⟨by decide +kernel, rfl⟩
theorem D2_19 : Dec prog_60_method_1_code 19 (.iconst 0) 1 20 := ⟨by decide +kernel, rfl⟩
theorem D2_20 : Dec prog_60_method_1_code 20 (.newarray .int) 2 22 := ⟨by decide +kernel, rfl⟩
theorem D2_22 : Dec prog_60_method_1_code 22 (.putfield 16) 3 25 := ⟨by decide +kernel, rfl⟩
theorem D2_25 : Dec prog_60_method_1_code 25 (.aload_n 0) 1 26 := ⟨by decide +kernel, rfl⟩
theorem D2_26 : Dec prog_60_method_1_code 26 (.iconst 0) 1 27 := ⟨by decide +kernel, rfl⟩
theorem D2_27 : Dec prog_60_method_1_code 27 (.newarray .int) 2 29 := ⟨by decide +kernel, rfl⟩
theorem D2_29 : Dec prog_60_method_1_code 29 (.putfield 19) 3 32 := ⟨by decide +kernel, rfl⟩
theorem D2_32 : Dec prog_60_method_1_code 32 (.aload_n 0) 1 33 := ⟨by decide +kernel, rfl⟩
theorem D2_33 : Dec prog_60_method_1_code 33 (.iconst 0) 1 34 := ⟨by decide +kernel, rfl⟩
theorem D2_34 : Dec prog_60_method_1_code 34 (.newarray .long) 2 36 := ⟨by decide +kernel, rfl⟩
theorem D2_36 : Dec prog_60_method_1_code 36 (.putfield 22) 3 39 := ⟨by decide +kernel, rfl⟩
theorem D2_39 : Dec prog_60_method_1_code 39 (.aload_n 0) 1 40 := ⟨by decide +kernel, rfl⟩
theorem D2_40 : Dec prog_60_method_1_code 40 (.iconst 0) 1 41 := ⟨by decide +kernel, rfl⟩
theorem D2_41 : Dec prog_60_method_1_code 41 (.newarray .int) 2 43 := ⟨by decide +kernel, rfl⟩
theorem D2_43 : Dec prog_60_method_1_code 43 (.putfield 26) 3 46 := ⟨by decide +kernel, rfl⟩
theorem D2_46 : Dec prog_60_method_1_code 46 (.aload_n 1) 1 47 := ⟨by decide +kernel, rfl⟩
theorem D2_47 : Dec prog_60_method_1_code 47 .arraylength 1 48 := ⟨by decide +kernel, rfl⟩
theorem D2_48 : Dec prog_60_method_1_code 48 (.istore_n 2) 1 49 := ⟨by decide +kernel, rfl⟩
theorem D2_49 : Dec prog_60_method_1_code 49 (.aload_n 0) 1 50 := ⟨by decide +kernel, rfl⟩
theorem D2_50 : Dec prog_60_method_1_code 50 (.iload_n 2) 1 51 := ⟨by decide +kernel, rfl⟩
theorem D2_51 : Dec prog_60_method_1_code 51 (.newarray .int) 2 53 := ⟨by decide +kernel, rfl⟩
theorem D2_53 : Dec prog_60_method_1_code 53 (.putfield 29) 3 56 := ⟨by decide +kernel, rfl⟩
theorem D2_56 : Dec prog_60_method_1_code 56 (.aload_n 0) 1 57 := ⟨by decide +kernel, rfl⟩
theorem D2_57 : Dec prog_60_method_1_code 57 (.iload_n 2) 1 58 := ⟨by decide +kernel, rfl⟩
theorem D2_58 : Dec prog_60_method_1_code 58 (.newarray .int) 2 60 := ⟨by decide +kernel, rfl⟩
theorem D2_60 : Dec prog_60_method_1_code 60 (.putfield 32) 3 63 := ⟨by decide +kernel, rfl⟩
theorem D2_63 : Dec prog_60_method_1_code 63 (.aload_n 0) 1 64 := ⟨by decide +kernel, rfl⟩
theorem D2_64 : Dec prog_60_method_1_code 64 (.iload_n 2) 1 65 := ⟨by decide +kernel, rfl⟩
theorem D2_65 : Dec prog_60_method_1_code 65 (.newarray .long) 2 67 := ⟨by decide +kernel, rfl⟩
theorem D2_67 : Dec prog_60_method_1_code 67 (.putfield 35) 3 70 := ⟨by decide +kernel, rfl⟩
theorem D2_70 : Dec prog_60_method_1_code 70 (.aload_n 0) 1 71 := ⟨by decide +kernel, rfl⟩
theorem D2_71 : Dec prog_60_method_1_code 71 (.iload_n 2) 1 72 := ⟨by decide +kernel, rfl⟩
theorem D2_72 : Dec prog_60_method_1_code 72 (.newarray .int) 2 74 := ⟨by decide +kernel, rfl⟩
theorem D2_74 : Dec prog_60_method_1_code 74 (.putfield 38) 3 77 := ⟨by decide +kernel, rfl⟩
theorem D2_77 : Dec prog_60_method_1_code 77 (.aload_n 0) 1 78 := ⟨by decide +kernel, rfl⟩
theorem D2_78 : Dec prog_60_method_1_code 78 (.iload_n 2) 1 79 := ⟨by decide +kernel, rfl⟩
theorem D2_79 : Dec prog_60_method_1_code 79 (.newarray .int) 2 81 := ⟨by decide +kernel, rfl⟩
theorem D2_81 : Dec prog_60_method_1_code 81 (.putfield 41) 3 84 := ⟨by decide +kernel, rfl⟩
theorem D2_84 : Dec prog_60_method_1_code 84 (.aload_n 0) 1 85 := ⟨by decide +kernel, rfl⟩
theorem D2_85 : Dec prog_60_method_1_code 85 (.iload_n 2) 1 86 := ⟨by decide +kernel, rfl⟩
theorem D2_86 : Dec prog_60_method_1_code 86 (.newarray .int) 2 88 := ⟨by decide +kernel, rfl⟩
theorem D2_88 : Dec prog_60_method_1_code 88 (.putfield 44) 3 91 := ⟨by decide +kernel, rfl⟩
theorem D2_91 : Dec prog_60_method_1_code 91 (.aload_n 0) 1 92 := ⟨by decide +kernel, rfl⟩
theorem D2_92 : Dec prog_60_method_1_code 92 (.getfield 41) 3 95 := ⟨by decide +kernel, rfl⟩
theorem D2_95 : Dec prog_60_method_1_code 95 (.iconst (-1)) 1 96 := ⟨by decide +kernel, rfl⟩
theorem D2_96 : Dec prog_60_method_1_code 96 (.invokestatic 47) 3 99 := ⟨by decide +kernel, rfl⟩
theorem D2_99 : Dec prog_60_method_1_code 99 (.aload_n 0) 1 100 := ⟨by decide +kernel, rfl⟩
theorem D2_100 : Dec prog_60_method_1_code 100 (.getfield 44) 3 103 := ⟨by decide +kernel, rfl⟩
theorem D2_103 : Dec prog_60_method_1_code 103 (.iconst (-1)) 1 104 := ⟨by decide +kernel, rfl⟩
theorem D2_104 : Dec prog_60_method_1_code 104 (.invokestatic 47) 3 107 := ⟨by decide +kernel, rfl⟩
theorem D2_107 : Dec prog_60_method_1_code 107 (.iconst 0) 1 108 := ⟨by decide +kernel, rfl⟩
theorem D2_108 : Dec prog_60_method_1_code 108 (.istore_n 3) 1 109 := ⟨by decide +kernel, rfl⟩
theorem D2_109 : Dec prog_60_method_1_code 109 (.iload_n 3) 1 110 := ⟨by decide +kernel, rfl⟩
theorem D2_110 : Dec prog_60_method_1_code 110 (.iload_n 2) 1 111 := ⟨by decide +kernel, rfl⟩
theorem D2_111 : Jmp prog_60_method_1_code 111 (.if_icmp .ge 85) 85 114 196 := ⟨by decide +kernel, rfl, by decide, by decide⟩
theorem D2_114 : Dec prog_60_method_1_code 114 (.aload_n 1) 1 115 := ⟨by decide +kernel, rfl⟩
theorem D2_115 : Dec prog_60_method_1_code 115 (.iload_n 3) 1 116 := ⟨by decide +kernel, rfl⟩
theorem D2_116 : Dec prog_60_method_1_code 116 .iaload 1 117 := ⟨by decide +kernel, rfl⟩
theorem D2_117 : Dec prog_60_method_1_code 117 (.invokestatic 53) 3 120 := ⟨by decide +kernel, rfl⟩
theorem D2_120 : Dec prog_60_method_1_code 120 (.istore 4) 2 122 := ⟨by decide +kernel, rfl⟩
theorem D2_122 : Dec prog_60_method_1_code 122 (.aload_n 0) 1 123 := ⟨by decide +kernel, rfl⟩
theorem D2_123 : Dec prog_60_method_1_code 123 (.iload 4) 2 125 := ⟨by decide +kernel, rfl⟩
theorem D2_125 : Dec prog_60_method_1_code 125 (.invokevirtual 57) 3 128 := ⟨by decide +kernel, rfl⟩
theorem D2_128 : Dec prog_60_method_1_code 128 (.aload_n 0) 1 129 := ⟨by decide +kernel, rfl⟩
theorem D2_129 : Dec prog_60_method_1_code 129 (.getfield 29) 3 132 := ⟨by decide +kernel, rfl⟩
theorem D2_132 : Dec prog_60_method_1_code 132 (.iload_n 3) 1 133 := ⟨by decide +kernel, rfl⟩
theorem D2_133 : Dec prog_60_method_1_code 133 (.aload_n 0) 1 134 := ⟨by decide +kernel, rfl⟩
theorem D2_134 : Dec prog_60_method_1_code 134 (.getfield 61) 3 137 := ⟨by decide +kernel, rfl⟩
theorem D2_137 : Dec prog_60_method_1_code 137 (.ldc2_w 67) 3 140 := ⟨by decide +kernel, rfl⟩
theorem D2_140 : Dec prog_60_method_1_code 140 .ldiv 1 141 := ⟨by decide +kernel, rfl⟩
theorem D2_141 : Dec prog_60_method_1_code 141 .l2i 1 142 := ⟨by decide +kernel, rfl⟩
theorem D2_142 : Dec prog_60_method_1_code 142 .iastore 1 143 := ⟨by decide +kernel, rfl⟩
theorem D2_143 : Dec prog_60_method_1_code 143 (.aload_n 0) 1 144 := ⟨by decide +kernel, rfl⟩
theorem D2_144 : Dec prog_60_method_1_code 144 (.getfield 32) 3 147 := ⟨by decide +kernel, rfl⟩
theorem D2_147 : Dec prog_60_method_1_code 147 (.iload_n 3) 1 148 := ⟨by decide +kernel, rfl⟩
theorem D2_148 : Dec prog_60_method_1_code 148 (.aload_n 0) 1 149 := ⟨by decide +kernel, rfl⟩
theorem D2_149 : Dec prog_60_method_1_code 149 (.getfield 61) 3 152 := ⟨by decide +kernel, rfl⟩
theorem D2_152 : Dec prog_60_method_1_code 152 (.ldc2_w 67) 3 155 := ⟨by decide +kernel, rfl⟩
theorem D2_155 : Dec prog_60_method_1_code 155 .lrem 1 156 := ⟨by decide +kernel, rfl⟩
theorem D2_156 : Dec prog_60_method_1_code 156 .l2i 1 157 := ⟨by decide +kernel, rfl⟩
theorem D2_157 : Dec prog_60_method_1_code 157 .iastore 1 158 := ⟨by decide +kernel, rfl⟩
theorem D2_158 : Dec prog_60_method_1_code 158 (.aload_n 0) 1 159 := ⟨by decide +kernel, rfl⟩
theorem D2_159 : Dec prog_60_method_1_code 159 (.getfield 35) 3 162 := ⟨by decide +kernel, rfl⟩
theorem D2_162 : Dec prog_60_method_1_code 162 (.iload_n 3) 1 163 := ⟨by decide +kernel, rfl⟩
theorem D2_163 : Dec prog_60_method_1_code 163 (.lconst 1) 1 164 := ⟨by decide +kernel, rfl⟩
theorem D2_164 : Dec prog_60_method_1_code 164 (.iload 4) 2 166 := ⟨by decide +kernel, rfl⟩
theorem D2_166 : Dec prog_60_method_1_code 166 .lshl 1 167 := ⟨by decide +kernel, rfl⟩
theorem D2_167 : Dec prog_60_method_1_code 167 (.lconst 1) 1 168 := ⟨by decide +kernel, rfl⟩
theorem D2_168 : Dec prog_60_method_1_code 168 .lsub 1 169 := ⟨by decide +kernel, rfl⟩
theorem D2_169 : Dec prog_60_method_1_code 169 .lastore 1 170 := ⟨by decide +kernel, rfl⟩
theorem D2_170 : Dec prog_60_method_1_code 170 (.aload_n 0) 1 171 := ⟨by decide +kernel, rfl⟩
theorem D2_171 : Dec prog_60_method_1_code 171 (.getfield 38) 3 174 := ⟨by decide +kernel, rfl⟩
theorem D2_174 : Dec prog_60_method_1_code 174 (.iload_n 3) 1 175 := ⟨by decide +kernel, rfl⟩
theorem D2_175 : Dec prog_60_method_1_code 175 (.iload 4) 2 177 := ⟨by decide +kernel, rfl⟩
theorem D2_177 : Dec prog_60_method_1_code 177 .iastore 1 178 := ⟨by decide +kernel, rfl⟩
theorem D2_178 : Dec prog_60_method_1_code 178 (.aload_n 0) 1 179 := ⟨by decide +kernel, rfl⟩
theorem D2_179 : Dec prog_60_method_1_code 179 .dup 1 180 := ⟨by decide +kernel, rfl⟩
theorem D2_180 : Dec prog_60_method_1_code 180 (.getfield 61) 3 183 := ⟨by decide +kernel, rfl⟩
theorem D2_183 : Dec prog_60_method_1_code 183 (.iload 4) 2 185 := ⟨by decide +kernel, rfl⟩
theorem D2_185 : Dec prog_60_method_1_code 185 .i2l 1 186 := ⟨by decide +kernel, rfl⟩
theorem D2_186 : Dec prog_60_method_1_code 186 .ladd 1 187 := ⟨by decide +kernel, rfl⟩
theorem D2_187 : Dec prog_60_method_1_code 187 (.putfield 61) 3 190 := ⟨by decide +kernel, rfl⟩
theorem D2_190 : Dec prog_60_method_1_code 190 (.iinc 3 1) 3 193 := ⟨by decide +kernel, rfl⟩
theorem D2_193 : Jmp prog_60_method_1_code 193 (.goto (-84)) (-84) 196 109 := ⟨by decide +kernel, rfl, by decide, by decide⟩
theorem D2_196 : Dec prog_60_method_1_code 196 (.aload_n 0) 1 197 := ⟨by decide +kernel, rfl⟩
theorem D2_197 : Dec prog_60_method_1_code 197 (.iconst 1) 1 198 := ⟨by decide +kernel, rfl⟩
theorem D2_198 : Dec prog_60_method_1_code 198 (.aload_n 0) 1 199 := ⟨by decide +kernel, rfl⟩
theorem D2_199 : Dec prog_60_method_1_code 199 (.getfield 61) 3 202 := ⟨by decide +kernel, rfl⟩
theorem D2_202 : Dec prog_60_method_1_code 202 (.ldc2_w 67) 3 205 := ⟨by decide +kernel, rfl⟩
theorem D2_205 : Dec prog_60_method_1_code 205 .ladd 1 206 := ⟨by decide +kernel, rfl⟩
theorem D2_206 : Dec prog_60_method_1_code 206 (.lconst 1) 1 207 := ⟨by decide +kernel, rfl⟩
theorem D2_207 : Dec prog_60_method_1_code 207 .lsub 1 208 := ⟨by decide +kernel, rfl⟩
theorem D2_208 : Dec prog_60_method_1_code 208 (.ldc2_w 67) 3 211 := ⟨by decide +kernel, rfl⟩
theorem D2_211 : Dec prog_60_method_1_code 211 .ldiv 1 212 := ⟨by decide +kernel, rfl⟩
theorem D2_212 : Dec prog_60_method_1_code 212 .l2i 1 213 := ⟨by decide +kernel, rfl⟩
theorem D2_213 : Dec prog_60_method_1_code 213 (.invokestatic 69) 3 216 := ⟨by decide +kernel, rfl⟩
theorem D2_216 : Dec prog_60_method_1_code 216 (.putfield 75) 3 219 := ⟨by decide +kernel, rfl⟩
theorem D2_219 : Dec prog_60_method_1_code 219 .return_ 1 220 := ⟨by decide +kernel, rfl⟩
theorem D4_0 : Dec jdk_65_method_103_code 0 (.iconst 0) 1 1 := ⟨by decide +kernel, rfl⟩
theorem D4_1 : Dec jdk_65_method_103_code 1 (.istore_n 2) 1 2 := ⟨by decide +kernel, rfl⟩
theorem D4_2 : Dec jdk_65_method_103_code 2 (.aload_n 0) 1 3 := ⟨by decide +kernel, rfl⟩
theorem D4_3 : Dec jdk_65_method_103_code 3 .arraylength 1 4 := ⟨by decide +kernel, rfl⟩
theorem D4_4 : Dec jdk_65_method_103_code 4 (.istore_n 3) 1 5 := ⟨by decide +kernel, rfl⟩
theorem D4_5 : Dec jdk_65_method_103_code 5 (.iload_n 2) 1 6 := ⟨by decide +kernel, rfl⟩
theorem D4_6 : Dec jdk_65_method_103_code 6 (.iload_n 3) 1 7 := ⟨by decide +kernel, rfl⟩
theorem D4_7 : Jmp jdk_65_method_103_code 7 (.if_icmp .ge 13) 13 10 20 := ⟨by decide +kernel, rfl, by decide, by decide⟩
theorem D4_10 : Dec jdk_65_method_103_code 10 (.aload_n 0) 1 11 := ⟨by decide +kernel, rfl⟩
theorem D4_11 : Dec jdk_65_method_103_code 11 (.iload_n 2) 1 12 := ⟨by decide +kernel, rfl⟩
theorem D4_12 : Dec jdk_65_method_103_code 12 (.iload_n 1) 1 13 := ⟨by decide +kernel, rfl⟩
theorem D4_13 : Dec jdk_65_method_103_code 13 .iastore 1 14 := ⟨by decide +kernel, rfl⟩
theorem D4_14 : Dec jdk_65_method_103_code 14 (.iinc 2 1) 3 17 := ⟨by decide +kernel, rfl⟩
theorem D4_17 : Jmp jdk_65_method_103_code 17 (.goto (-12)) (-12) 20 5 := ⟨by decide +kernel, rfl, by decide, by decide⟩
theorem D4_20 : Dec jdk_65_method_103_code 20 .return_ 1 21 := ⟨by decide +kernel, rfl⟩
theorem D5_0 : Dec prog_60_method_9_code 0 (.iconst 1) 1 1 := ⟨by decide +kernel, rfl⟩
theorem D5_1 : Dec prog_60_method_9_code 1 (.bipush 32) 2 3 := ⟨by decide +kernel, rfl⟩
theorem D5_3 : Dec prog_60_method_9_code 3 (.iload_n 0) 1 4 := ⟨by decide +kernel, rfl⟩
theorem D5_4 : Dec prog_60_method_9_code 4 (.invokestatic 110) 3 7 := ⟨by decide +kernel, rfl⟩
theorem D5_7 : Dec prog_60_method_9_code 7 .isub 1 8 := ⟨by decide +kernel, rfl⟩
theorem D5_8 : Dec prog_60_method_9_code 8 (.invokestatic 69) 3 11 := ⟨by decide +kernel, rfl⟩
theorem D5_11 : Dec prog_60_method_9_code 11 .ireturn 1 12 := ⟨by decide +kernel, rfl⟩
theorem D6_0 : Dec jdk_33_method_47_code 0 (.iload_n 0) 1 1 := ⟨by decide +kernel, rfl⟩
theorem D6_1 : Jmp jdk_33_method_47_code 1 (.ifCond .gt 14) 14 4 15 := ⟨by decide +kernel, rfl, by decide, by decide⟩
theorem D6_4 : Dec jdk_33_method_47_code 4 (.iload_n 0) 1 5 := ⟨by decide +kernel, rfl⟩
theorem D6_5 : Jmp jdk_33_method_47_code 5 (.ifCond .ne 8) 8 8 13 := ⟨by decide +kernel, rfl, by decide, by decide⟩
theorem D6_8 : Dec jdk_33_method_47_code 8 (.bipush 32) 2 10 := ⟨by decide +kernel, rfl⟩
theorem D6_10 : Jmp jdk_33_method_47_code 10 (.goto 4) 4 13 14 := ⟨by decide +kernel, rfl, by decide, by decide⟩
theorem D6_14 : Dec jdk_33_method_47_code 14 .ireturn 1 15 := ⟨by decide +kernel, rfl⟩
theorem D6_15 : Dec jdk_33_method_47_code 15 (.bipush 31) 2 17 := ⟨by decide +kernel, rfl⟩
theorem D6_17 : Dec jdk_33_method_47_code 17 (.istore_n 1) 1 18 := ⟨by decide +kernel, rfl⟩
theorem D6_18 : Dec jdk_33_method_47_code 18 (.iload_n 0) 1 19 := ⟨by decide +kernel, rfl⟩
theorem D6_19 : Dec jdk_33_method_47_code 19 (.ldc_w 264) 3 22 := ⟨by decide +kernel, rfl⟩
theorem D6_22 : Jmp jdk_33_method_47_code 22 (.if_icmp .lt 11) 11 25 33 := ⟨by decide +kernel, rfl, by decide, by decide⟩
theorem D6_25 : Dec jdk_33_method_47_code 25 (.iinc 1 (-16)) 3 28 := ⟨by decide +kernel, rfl⟩
theorem D6_28 : Dec jdk_33_method_47_code 28 (.iload_n 0) 1 29 := ⟨by decide +kernel, rfl⟩
theorem D6_29 : Dec jdk_33_method_47_code 29 (.bipush 16) 2 31 := ⟨by decide +kernel, rfl⟩
theorem D6_31 : Dec jdk_33_method_47_code 31 .iushr 1 32 := ⟨by decide +kernel, rfl⟩
theorem D6_32 : Dec jdk_33_method_47_code 32 (.istore_n 0) 1 33 := ⟨by decide +kernel, rfl⟩
theorem D6_33 : Dec jdk_33_method_47_code 33 (.iload_n 0) 1 34 := ⟨by decide +kernel, rfl⟩
theorem D6_34 : Dec jdk_33_method_47_code 34 (.sipush 256) 3 37 := ⟨by decide +kernel, rfl⟩
theorem D6_37 : Jmp jdk_33_method_47_code 37 (.if_icmp .lt 11) 11 40 48 := ⟨by decide +kernel, rfl, by decide, by decide⟩
theorem D6_40 : Dec jdk_33_method_47_code 40 (.iinc 1 (-8)) 3 43 := ⟨by decide +kernel, rfl⟩
theorem D6_43 : Dec jdk_33_method_47_code 43 (.iload_n 0) 1 44 := ⟨by decide +kernel, rfl⟩
theorem D6_44 : Dec jdk_33_method_47_code 44 (.bipush 8) 2 46 := ⟨by decide +kernel, rfl⟩
theorem D6_46 : Dec jdk_33_method_47_code 46 .iushr 1 47 := ⟨by decide +kernel, rfl⟩
theorem D6_47 : Dec jdk_33_method_47_code 47 (.istore_n 0) 1 48 := ⟨by decide +kernel, rfl⟩
theorem D6_48 : Dec jdk_33_method_47_code 48 (.iload_n 0) 1 49 := ⟨by decide +kernel, rfl⟩
theorem D6_49 : Dec jdk_33_method_47_code 49 (.bipush 16) 2 51 := ⟨by decide +kernel, rfl⟩
theorem D6_51 : Jmp jdk_33_method_47_code 51 (.if_icmp .lt 10) 10 54 61 := ⟨by decide +kernel, rfl, by decide, by decide⟩
theorem D6_54 : Dec jdk_33_method_47_code 54 (.iinc 1 (-4)) 3 57 := ⟨by decide +kernel, rfl⟩
theorem D6_57 : Dec jdk_33_method_47_code 57 (.iload_n 0) 1 58 := ⟨by decide +kernel, rfl⟩
theorem D6_58 : Dec jdk_33_method_47_code 58 (.iconst 4) 1 59 := ⟨by decide +kernel, rfl⟩
theorem D6_59 : Dec jdk_33_method_47_code 59 .iushr 1 60 := ⟨by decide +kernel, rfl⟩
theorem D6_60 : Dec jdk_33_method_47_code 60 (.istore_n 0) 1 61 := ⟨by decide +kernel, rfl⟩
theorem D6_61 : Dec jdk_33_method_47_code 61 (.iload_n 0) 1 62 := ⟨by decide +kernel, rfl⟩
theorem D6_62 : Dec jdk_33_method_47_code 62 (.iconst 4) 1 63 := ⟨by decide +kernel, rfl⟩
theorem D6_63 : Jmp jdk_33_method_47_code 63 (.if_icmp .lt 10) 10 66 73 := ⟨by decide +kernel, rfl, by decide, by decide⟩
theorem D6_66 : Dec jdk_33_method_47_code 66 (.iinc 1 (-2)) 3 69 := ⟨by decide +kernel, rfl⟩
theorem D6_69 : Dec jdk_33_method_47_code 69 (.iload_n 0) 1 70 := ⟨by decide +kernel, rfl⟩
theorem D6_70 : Dec jdk_33_method_47_code 70 (.iconst 2) 1 71 := ⟨by decide +kernel, rfl⟩
theorem D6_71 : Dec jdk_33_method_47_code 71 .iushr 1 72 := ⟨by decide +kernel, rfl⟩
theorem D6_72 : Dec jdk_33_method_47_code 72 (.istore_n 0) 1 73 := ⟨by decide +kernel, rfl⟩
theorem D6_73 : Dec jdk_33_method_47_code 73 (.iload_n 1) 1 74 := ⟨by decide +kernel, rfl⟩
theorem D6_74 : Dec jdk_33_method_47_code 74 (.iload_n 0) 1 75 := ⟨by decide +kernel, rfl⟩
theorem D6_75 : Dec jdk_33_method_47_code 75 (.iconst 1) 1 76 := ⟨by decide +kernel, rfl⟩
theorem D6_76 : Dec jdk_33_method_47_code 76 .iushr 1 77 := ⟨by decide +kernel, rfl⟩
theorem D6_77 : Dec jdk_33_method_47_code 77 .isub 1 78 := ⟨by decide +kernel, rfl⟩
theorem D6_78 : Dec jdk_33_method_47_code 78 .ireturn 1 79 := ⟨by decide +kernel, rfl⟩
theorem D7_0 : Dec jdk_29_method_65_code 0 (.iload_n 0) 1 1 := ⟨by decide +kernel, rfl⟩
theorem D7_1 : Dec jdk_29_method_65_code 1 (.iload_n 1) 1 2 := ⟨by decide +kernel, rfl⟩
theorem D7_2 : Jmp jdk_29_method_65_code 2 (.if_icmp .lt 7) 7 5 9 := ⟨by decide +kernel, rfl, by decide, by decide⟩
theorem D7_5 : Dec jdk_29_method_65_code 5 (.iload_n 0) 1 6 := ⟨by decide +kernel, rfl⟩
theorem D7_6 : Jmp jdk_29_method_65_code 6 (.goto 4) 4 9 10 := ⟨by decide +kernel, rfl, by decide, by decide⟩
theorem D7_9 : Dec jdk_29_method_65_code 9 (.iload_n 1) 1 10 := ⟨by decide +kernel, rfl⟩
theorem D7_10 : Dec jdk_29_method_65_code 10 .ireturn 1 11 := ⟨by decide +kernel, rfl⟩
theorem D8_0 : Dec prog_60_method_8_code 0 (.aload_n 0) 1 1 := ⟨by decide +kernel, rfl⟩
theorem D8_1 : Dec prog_60_method_8_code 1 (.getfield 61) 3 4 := ⟨by decide +kernel, rfl⟩
theorem D8_4 : Dec prog_60_method_8_code 4 (.ldc2_w 67) 3 7 := ⟨by decide +kernel, rfl⟩
theorem D8_7 : Dec prog_60_method_8_code 7 .lrem 1 8 := ⟨by decide +kernel, rfl⟩
theorem D8_8 : Dec prog_60_method_8_code 8 (.iload_n 1) 1 9 := ⟨by decide +kernel, rfl⟩
theorem D8_9 : Dec prog_60_method_8_code 9 .i2l 1 10 := ⟨by decide +kernel, rfl⟩
theorem D8_10 : Dec prog_60_method_8_code 10 .ladd 1 11 := ⟨by decide +kernel, rfl⟩
theorem D8_11 : Dec prog_60_method_8_code 11 (.ldc2_w 67) 3 14 := ⟨by decide +kernel, rfl⟩
theorem D8_14 : Dec prog_60_method_8_code 14 .lcmp 1 15 := ⟨by decide +kernel, rfl⟩
theorem D8_15 : Jmp prog_60_method_8_code 15 (.ifCond .le 24) 24 18 39 := ⟨by decide +kernel, rfl, by decide, by decide⟩
theorem D8_18 : Dec prog_60_method_8_code 18 (.aload_n 0) 1 19 := ⟨by decide +kernel, rfl⟩
theorem D8_19 : Dec prog_60_method_8_code 19 .dup 1 20 := ⟨by decide +kernel, rfl⟩
theorem D8_20 : Dec prog_60_method_8_code 20 (.getfield 61) 3 23 := ⟨by decide +kernel, rfl⟩
theorem D8_23 : Dec prog_60_method_8_code 23 (.ldc2_w 67) 3 26 := ⟨by decide +kernel, rfl⟩
theorem D8_26 : Dec prog_60_method_8_code 26 (.aload_n 0) 1 27 := ⟨by decide +kernel, rfl⟩
theorem D8_27 : Dec prog_60_method_8_code 27 (.getfield 61) 3 30 := ⟨by decide +kernel, rfl⟩
theorem D8_30 : Dec prog_60_method_8_code 30 (.ldc2_w 67) 3 33 := ⟨by decide +kernel, rfl⟩
theorem D8_33 : Dec prog_60_method_8_code 33 .lrem 1 34 := ⟨by decide +kernel, rfl⟩
theorem D8_34 : Dec prog_60_method_8_code 34 .lsub 1 35 := ⟨by decide +kernel, rfl⟩
theorem D8_35 : Dec prog_60_method_8_code 35 .ladd 1 36 := ⟨by decide +kernel, rfl⟩
theorem D8_36 : Dec prog_60_method_8_code 36 (.putfield 61) 3 39 := ⟨by decide +kernel, rfl⟩
theorem D8_39 : Dec prog_60_method_8_code 39 .return_ 1 40 := ⟨by decide +kernel, rfl⟩
theorem D9_0 : Dec prog_60_method_6_code 0 (.iconst 0) 1 1 := ⟨by decide +kernel, rfl⟩
theorem D9_1 : Dec prog_60_method_6_code 1 (.istore_n 2) 1 2 := ⟨by decide +kernel, rfl⟩
theorem D9_2 : Dec prog_60_method_6_code 2 (.iload_n 2) 1 3 := ⟨by decide +kernel, rfl⟩
theorem D9_3 : Dec prog_60_method_6_code 3 (.aload_n 1) 1 4 := ⟨by decide +kernel, rfl⟩
theorem D9_4 : Dec prog_60_method_6_code 4 .arraylength 1 5 := ⟨by decide +kernel, rfl⟩
theorem D9_5 : Jmp prog_60_method_6_code 5 (.if_icmp .ge 48) 48 8 53 := ⟨by decide +kernel, rfl, by decide, by decide⟩
theorem D9_8 : Dec prog_60_method_6_code 8 (.aload_n 0) 1 9 := ⟨by decide +kernel, rfl⟩
theorem D9_9 : Dec prog_60_method_6_code 9 (.getfield 38) 3 12 := ⟨by decide +kernel, rfl⟩
theorem D9_12 : Dec prog_60_method_6_code 12 (.iload_n 2) 1 13 := ⟨by decide +kernel, rfl⟩
theorem D9_13 : Dec prog_60_method_6_code 13 .iaload 1 14 := ⟨by decide +kernel, rfl⟩
theorem D9_14 : Dec prog_60_method_6_code 14 (.istore_n 3) 1 15 := ⟨by decide +kernel, rfl⟩
theorem D9_15 : Dec prog_60_method_6_code 15 (.aload_n 1) 1 16 := ⟨by decide +kernel, rfl⟩
theorem D9_16 : Dec prog_60_method_6_code 16 (.iload_n 2) 1 17 := ⟨by decide +kernel, rfl⟩
theorem D9_17 : Dec prog_60_method_6_code 17 .iaload 1 18 := ⟨by decide +kernel, rfl⟩
theorem D9_18 : Dec prog_60_method_6_code 18 (.iload_n 3) 1 19 := ⟨by decide +kernel, rfl⟩
theorem D9_19 : Dec prog_60_method_6_code 19 .iushr 1 20 := ⟨by decide +kernel, rfl⟩
theorem D9_20 : Jmp prog_60_method_6_code 20 (.ifCond .eq 27) 27 23 47 := ⟨by decide +kernel, rfl, by decide, by decide⟩
theorem D9_23 : Dec prog_60_method_6_code 23 (.aload_n 0) 1 24 := ⟨by decide +kernel, rfl⟩
theorem D9_24 : Dec prog_60_method_6_code 24 (.iload_n 2) 1 25 := ⟨by decide +kernel, rfl⟩
theorem D9_25 : Dec prog_60_method_6_code 25 (.aload_n 1) 1 26 := ⟨by decide +kernel, rfl⟩
theorem D9_26 : Dec prog_60_method_6_code 26 (.iload_n 2) 1 27 := ⟨by decide +kernel, rfl⟩
theorem D9_27 : Dec prog_60_method_6_code 27 .iaload 1 28 := ⟨by decide +kernel, rfl⟩
theorem D9_28 : Dec prog_60_method_6_code 28 (.invokestatic 53) 3 31 := ⟨by decide +kernel, rfl⟩
theorem D9_31 : Dec prog_60_method_6_code 31 (.bipush 31) 2 33 := ⟨by decide +kernel, rfl⟩
theorem D9_33 : Dec prog_60_method_6_code 33 (.iconst 2) 1 34 := ⟨by decide +kernel, rfl⟩
theorem D9_34 : Dec prog_60_method_6_code 34 (.iload_n 3) 1 35 := ⟨by decide +kernel, rfl⟩
theorem D9_35 : Dec prog_60_method_6_code 35 .imul 1 36 := ⟨by decide +kernel, rfl⟩
theorem D9_36 : Dec prog_60_method_6_code 36 (.invokestatic 87) 3 39 := ⟨by decide +kernel, rfl⟩
theorem D9_39 : Dec prog_60_method_6_code 39 (.invokestatic 69) 3 42 := ⟨by decide +kernel, rfl⟩
theorem D9_42 : Dec prog_60_method_6_code 42 (.iload_n 3) 1 43 := ⟨by decide +kernel, rfl⟩
theorem D9_43 : Dec prog_60_method_6_code 43 .isub 1 44 := ⟨by decide +kernel, rfl⟩
theorem D9_44 : Dec prog_60_method_6_code 44 (.invokevirtual 90) 3 47 := ⟨by decide +kernel, rfl⟩
theorem D9_47 : Dec prog_60_method_6_code 47 (.iinc 2 1) 3 50 := ⟨by decide +kernel, rfl⟩
theorem D9_50 : Jmp prog_60_method_6_code 50 (.goto (-48)) (-48) 53 2 := ⟨by decide +kernel, rfl, by decide, by decide⟩
theorem D9_53 : Dec prog_60_method_6_code 53 (.aload_n 0) 1 54 := ⟨by decide +kernel, rfl⟩
theorem D9_54 : Dec prog_60_method_6_code 54 (.getfield 61) 3 57 := ⟨by decide +kernel, rfl⟩
theorem D9_57 : Dec prog_60_method_6_code 57 (.ldc2_w 67) 3 60 := ⟨by decide +kernel, rfl⟩
theorem D9_60 : Dec prog_60_method_6_code 60 .ladd 1 61 := ⟨by decide +kernel, rfl⟩
theorem D9_61 : Dec prog_60_method_6_code 61 (.lconst 1) 1 62 := ⟨by decide +kernel, rfl⟩
theorem D9_62 : Dec prog_60_method_6_code 62 .lsub 1 63 := ⟨by decide +kernel, rfl⟩
theorem D9_63 : Dec prog_60_method_6_code 63 (.ldc2_w 67) 3 66 := ⟨by decide +kernel, rfl⟩
theorem D9_66 : Dec prog_60_method_6_code 66 .ldiv 1 67 := ⟨by decide +kernel, rfl⟩
theorem D9_67 : Dec prog_60_method_6_code 67 (.lstore_n 2) 1 68 := ⟨by decide +kernel, rfl⟩
theorem D9_68 : Dec prog_60_method_6_code 68 (.lload_n 2) 1 69 := ⟨by decide +kernel, rfl⟩
theorem D9_69 : Dec prog_60_method_6_code 69 (.aload_n 0) 1 70 := ⟨by decide +kernel, rfl⟩
theorem D9_70 : Dec prog_60_method_6_code 70 (.getfield 75) 3 73 := ⟨by decide +kernel, rfl⟩
theorem D9_73 : Dec prog_60_method_6_code 73 .i2l 1 74 := ⟨by decide +kernel, rfl⟩
theorem D9_74 : Dec prog_60_method_6_code 74 .lcmp 1 75 := ⟨by decide +kernel, rfl⟩
theorem D9_75 : Jmp prog_60_method_6_code 75 (.ifCond .le 31) 31 78 106 := ⟨by decide +kernel, rfl, by decide, by decide⟩
theorem D9_78 : Dec prog_60_method_6_code 78 (.aload_n 0) 1 79 := ⟨by decide +kernel, rfl⟩
theorem D9_79 : Dec prog_60_method_6_code 79 (.lload_n 2) 1 80 := ⟨by decide +kernel, rfl⟩
theorem D9_80 : Dec prog_60_method_6_code 80 (.aload_n 0) 1 81 := ⟨by decide +kernel, rfl⟩
theorem D9_81 : Dec prog_60_method_6_code 81 (.getfield 75) 3 84 := ⟨by decide +kernel, rfl⟩
theorem D9_84 : Dec prog_60_method_6_code 84 (.iconst 1) 1 85 := ⟨by decide +kernel, rfl⟩
theorem D9_85 : Dec prog_60_method_6_code 85 (.aload_n 0) 1 86 := ⟨by decide +kernel, rfl⟩
theorem D9_86 : Dec prog_60_method_6_code 86 (.getfield 75) 3 89 := ⟨by decide +kernel, rfl⟩
theorem D9_89 : Dec prog_60_method_6_code 89 (.bipush 8) 2 91 := ⟨by decide +kernel, rfl⟩
theorem D9_91 : Dec prog_60_method_6_code 91 .idiv 1 92 := ⟨by decide +kernel, rfl⟩
theorem D9_92 : Dec prog_60_method_6_code 92 (.invokestatic 69) 3 95 := ⟨by decide +kernel, rfl⟩
theorem D9_95 : Dec prog_60_method_6_code 95 .iadd 1 96 := ⟨by decide +kernel, rfl⟩
theorem D9_96 : Dec prog_60_method_6_code 96 .i2l 1 97 := ⟨by decide +kernel, rfl⟩
theorem D9_97 : Dec prog_60_method_6_code 97 (.invokestatic 94) 3 100 := ⟨by decide +kernel, rfl⟩
theorem D9_100 : Dec prog_60_method_6_code 100 (.invokestatic 97) 3 103 := ⟨by decide +kernel, rfl⟩
theorem D9_103 : Dec prog_60_method_6_code 103 (.putfield 75) 3 106 := ⟨by decide +kernel, rfl⟩
theorem D9_106 : Dec prog_60_method_6_code 106 .return_ 1 107 := ⟨by decide +kernel, rfl⟩
theorem D10_0 : Dec prog_60_method_3_code 0 (.aload_n 2) 1 1 := ⟨by decide +kernel, rfl⟩
theorem D10_1 : Dec prog_60_method_3_code 1 (.iconst 0) 1 2 := ⟨by decide +kernel, rfl⟩
theorem D10_2 : Dec prog_60_method_3_code 2 (.aload_n 0) 1 3 := ⟨by decide +kernel, rfl⟩
theorem D10_3 : Dec prog_60_method_3_code 3 (.getfield 75) 3 6 := ⟨by decide +kernel, rfl⟩
theorem D10_6 : Dec prog_60_method_3_code 6 (.lconst 0) 1 7 := ⟨by decide +kernel, rfl⟩
theorem D10_7 : Dec prog_60_method_3_code 7 (.invokestatic 79) 3 10 := ⟨by decide +kernel, rfl⟩
theorem D10_10 : Dec prog_60_method_3_code 10 (.iconst 1) 1 11 := ⟨by decide +kernel, rfl⟩
theorem D10_11 : Dec prog_60_method_3_code 11 (.istore_n 3) 1 12 := ⟨by decide +kernel, rfl⟩
theorem D10_12 : Dec prog_60_method_3_code 12 (.iconst 0) 1 13 := ⟨by decide +kernel, rfl⟩
theorem D10_13 : Dec prog_60_method_3_code 13 (.istore 4) 2 15 := ⟨by decide +kernel, rfl⟩
theorem D10_15 : Dec prog_60_method_3_code 15 (.iload 4) 2 17 := ⟨by decide +kernel, rfl⟩
theorem D10_17 : Dec prog_60_method_3_code 17 (.aload_n 1) 1 18 := ⟨by decide +kernel, rfl⟩
theorem D10_18 : Dec prog_60_method_3_code 18 .arraylength 1 19 := ⟨by decide +kernel, rfl⟩
theorem D10_19 : Jmp prog_60_method_3_code 19 (.if_icmp .ge 67) 67 22 86 := ⟨by decide +kernel, rfl, by decide, by decide⟩
theorem D10_22 : Dec prog_60_method_3_code 22 (.aload_n 1) 1 23 := ⟨by decide +kernel, rfl⟩
theorem D10_23 : Dec prog_60_method_3_code 23 (.iload 4) 2 25 := ⟨by decide +kernel, rfl⟩
theorem D10_25 : Dec prog_60_method_3_code 25 .iaload 1 26 := ⟨by decide +kernel, rfl⟩
theorem D10_26 : Dec prog_60_method_3_code 26 (.istore 5) 2 28 := ⟨by decide +kernel, rfl⟩
theorem D10_28 : Dec prog_60_method_3_code 28 (.iload_n 3) 1 29 := ⟨by decide +kernel, rfl⟩
theorem D10_29 : Dec prog_60_method_3_code 29 (.iload 5) 2 31 := ⟨by decide +kernel, rfl⟩
theorem D10_31 : Dec prog_60_method_3_code 31 (.aload_n 0) 1 32 := ⟨by decide +kernel, rfl⟩
theorem D10_32 : Dec prog_60_method_3_code 32 (.getfield 38) 3 35 := ⟨by decide +kernel, rfl⟩
theorem D10_35 : Dec prog_60_method_3_code 35 (.iload 4) 2 37 := ⟨by decide +kernel, rfl⟩
theorem D10_37 : Dec prog_60_method_3_code 37 .iaload 1 38 := ⟨by decide +kernel, rfl⟩
theorem D10_38 : Dec prog_60_method_3_code 38 .iushr 1 39 := ⟨by decide +kernel, rfl⟩
theorem D10_39 : Jmp prog_60_method_3_code 39 (.ifCond .ne 7) 7 42 46 := ⟨by decide +kernel, rfl, by decide, by decide⟩
theorem D10_42 : Dec prog_60_method_3_code 42 (.iconst 1) 1 43 := ⟨by decide +kernel, rfl⟩
theorem D10_43 : Jmp prog_60_method_3_code 43 (.goto 4) 4 46 47 := ⟨by decide +kernel, rfl, by decide, by decide⟩
theorem D10_46 : Dec prog_60_method_3_code 46 (.iconst 0) 1 47 := ⟨by decide +kernel, rfl⟩
theorem D10_47 : Dec prog_60_method_3_code 47 .iand 1 48 := ⟨by decide +kernel, rfl⟩
theorem D10_48 : Dec prog_60_method_3_code 48 (.istore_n 3) 1 49 := ⟨by decide +kernel, rfl⟩
theorem D10_49 : Dec prog_60_method_3_code 49 (.aload_n 2) 1 50 := ⟨by decide +kernel, rfl⟩
theorem D10_50 : Dec prog_60_method_3_code 50 (.aload_n 0) 1 51 := ⟨by decide +kernel, rfl⟩
theorem D10_51 : Dec prog_60_method_3_code 51 (.getfield 29) 3 54 := ⟨by decide +kernel, rfl⟩
theorem D10_54 : Dec prog_60_method_3_code 54 (.iload 4) 2 56 := ⟨by decide +kernel, rfl⟩
theorem D10_56 : Dec prog_60_method_3_code 56 .iaload 1 57 := ⟨by decide +kernel, rfl⟩
theorem D10_57 : Dec prog_60_method_3_code 57 .dup2 1 58 := ⟨by decide +kernel, rfl⟩
theorem D10_58 : Dec prog_60_method_3_code 58 .laload 1 59 := ⟨by decide +kernel, rfl⟩
theorem D10_59 : Dec prog_60_method_3_code 59 (.iload 5) 2 61 := ⟨by decide +kernel, rfl⟩
theorem D10_61 : Dec prog_60_method_3_code 61 .i2l 1 62 := ⟨by decide +kernel, rfl⟩
theorem D10_62 : Dec prog_60_method_3_code 62 (.aload_n 0) 1 63 := ⟨by decide +kernel, rfl⟩
theorem D10_63 : Dec prog_60_method_3_code 63 (.getfield 35) 3 66 := ⟨by decide +kernel, rfl⟩
theorem D10_66 : Dec prog_60_method_3_code 66 (.iload 4) 2 68 := ⟨by decide +kernel, rfl⟩
theorem D10_68 : Dec prog_60_method_3_code 68 .laload 1 69 := ⟨by decide +kernel, rfl⟩
theorem D10_69 : Dec prog_60_method_3_code 69 .land 1 70 := ⟨by decide +kernel, rfl⟩
theorem D10_70 : Dec prog_60_method_3_code 70 (.aload_n 0) 1 71 := ⟨by decide +kernel, rfl⟩
theorem D10_71 : Dec prog_60_method_3_code 71 (.getfield 32) 3 74 := ⟨by decide +kernel, rfl⟩
theorem D10_74 : Dec prog_60_method_3_code 74 (.iload 4) 2 76 := ⟨by decide +kernel, rfl⟩
theorem D10_76 : Dec prog_60_method_3_code 76 .iaload 1 77 := ⟨by decide +kernel, rfl⟩
theorem D10_77 : Dec prog_60_method_3_code 77 .lshl 1 78 := ⟨by decide +kernel, rfl⟩
theorem D10_78 : Dec prog_60_method_3_code 78 .lor 1 79 := ⟨by decide +kernel, rfl⟩
theorem D10_79 : Dec prog_60_method_3_code 79 .lastore 1 80 := ⟨by decide +kernel, rfl⟩
theorem D10_80 : Dec prog_60_method_3_code 80 (.iinc 4 1) 3 83 := ⟨by decide +kernel, rfl⟩
theorem D10_83 : Jmp prog_60_method_3_code 83 (.goto (-68)) (-68) 86 15 := ⟨by decide +kernel, rfl, by decide, by decide⟩
theorem D10_86 : Dec prog_60_method_3_code 86 (.iconst 0) 1 87 := ⟨by decide +kernel, rfl⟩
theorem D10_87 : Dec prog_60_method_3_code 87 (.istore 4) 2 89 := ⟨by decide +kernel, rfl⟩
theorem D10_89 : Dec prog_60_method_3_code 89 (.iload 4) 2 91 := ⟨by decide +kernel, rfl⟩
theorem D10_91 : Dec prog_60_method_3_code 91 (.aload_n 0) 1 92 := ⟨by decide +kernel, rfl⟩
theorem D10_92 : Dec prog_60_method_3_code 92 (.getfield 82) 3 95 := ⟨by decide +kernel, rfl⟩
theorem D10_95 : Jmp prog_60_method_3_code 95 (.if_icmp .ge 55) 55 98 150 := ⟨by decide +kernel, rfl, by decide, by decide⟩
theorem D10_98 : Dec prog_60_method_3_code 98 (.aload_n 2) 1 99 := ⟨by decide +kernel, rfl⟩
theorem D10_99 : Dec prog_60_method_3_code 99 (.aload_n 0) 1 100 := ⟨by decide +kernel, rfl⟩
theorem D10_100 : Dec prog_60_method_3_code 100 (.getfield 13) 3 103 := ⟨by decide +kernel, rfl⟩
theorem D10_103 : Dec prog_60_method_3_code 103 (.iload 4) 2 105 := ⟨by decide +kernel, rfl⟩
theorem D10_105 : Dec prog_60_method_3_code 105 .iaload 1 106 := ⟨by decide +kernel, rfl⟩
theorem D10_106 : Dec prog_60_method_3_code 106 .dup2 1 107 := ⟨by decide +kernel, rfl⟩
theorem D10_107 : Dec prog_60_method_3_code 107 .laload 1 108 := ⟨by decide +kernel, rfl⟩
theorem D10_108 : Dec prog_60_method_3_code 108 (.aload_n 1) 1 109 := ⟨by decide +kernel, rfl⟩
theorem D10_109 : Dec prog_60_method_3_code 109 (.aload_n 0) 1 110 := ⟨by decide +kernel, rfl⟩
theorem D10_110 : Dec prog_60_method_3_code 110 (.getfield 7) 3 113 := ⟨by decide +kernel, rfl⟩
theorem D10_113 : Dec prog_60_method_3_code 113 (.iload 4) 2 115 := ⟨by decide +kernel, rfl⟩
theorem D10_115 : Dec prog_60_method_3_code 115 .iaload 1 116 := ⟨by decide +kernel, rfl⟩
theorem D10_116 : Dec prog_60_method_3_code 116 .iaload 1 117 := ⟨by decide +kernel, rfl⟩
theorem D10_117 : Dec prog_60_method_3_code 117 (.aload_n 0) 1 118 := ⟨by decide +kernel, rfl⟩
theorem D10_118 : Dec prog_60_method_3_code 118 (.getfield 19) 3 121 := ⟨by decide +kernel, rfl⟩
theorem D10_121 : Dec prog_60_method_3_code 121 (.iload 4) 2 123 := ⟨by decide +kernel, rfl⟩
theorem D10_123 : Dec prog_60_method_3_code 123 .iaload 1 124 := ⟨by decide +kernel, rfl⟩
theorem D10_124 : Dec prog_60_method_3_code 124 .iushr 1 125 := ⟨by decide +kernel, rfl⟩
theorem D10_125 : Dec prog_60_method_3_code 125 .i2l 1 126 := ⟨by decide +kernel, rfl⟩
theorem D10_126 : Dec prog_60_method_3_code 126 (.aload_n 0) 1 127 := ⟨by decide +kernel, rfl⟩
theorem D10_127 : Dec prog_60_method_3_code 127 (.getfield 22) 3 130 := ⟨by decide +kernel, rfl⟩
theorem D10_130 : Dec prog_60_method_3_code 130 (.iload 4) 2 132 := ⟨by decide +kernel, rfl⟩
theorem D10_132 : Dec prog_60_method_3_code 132 .laload 1 133 := ⟨by decide +kernel, rfl⟩
theorem D10_133 : Dec prog_60_method_3_code 133 .land 1 134 := ⟨by decide +kernel, rfl⟩
theorem D10_134 : Dec prog_60_method_3_code 134 (.aload_n 0) 1 135 := ⟨by decide +kernel, rfl⟩
theorem D10_135 : Dec prog_60_method_3_code 135 (.getfield 16) 3 138 := ⟨by decide +kernel, rfl⟩
theorem D10_138 : Dec prog_60_method_3_code 138 (.iload 4) 2 140 := ⟨by decide +kernel, rfl⟩
theorem D10_140 : Dec prog_60_method_3_code 140 .iaload 1 141 := ⟨by decide +kernel, rfl⟩
theorem D10_141 : Dec prog_60_method_3_code 141 .lshl 1 142 := ⟨by decide +kernel, rfl⟩
theorem D10_142 : Dec prog_60_method_3_code 142 .lor 1 143 := ⟨by decide +kernel, rfl⟩
theorem D10_143 : Dec prog_60_method_3_code 143 .lastore 1 144 := ⟨by decide +kernel, rfl⟩
theorem D10_144 : Dec prog_60_method_3_code 144 (.iinc 4 1) 3 147 := ⟨by decide +kernel, rfl⟩
theorem D10_147 : Jmp prog_60_method_3_code 147 (.goto (-58)) (-58) 150 89 := ⟨by decide +kernel, rfl, by decide, by decide⟩
theorem D10_150 : Dec prog_60_method_3_code 150 (.iload_n 3) 1 151 := ⟨by decide +kernel, rfl⟩
theorem D10_151 : Dec prog_60_method_3_code 151 .ireturn 1 152 := ⟨by decide +kernel, rfl⟩
theorem D11_0 : Dec jdk_65_method_102_code 0 (.aload_n 0) 1 1 := ⟨by decide +kernel, rfl⟩
theorem D11_1 : Dec jdk_65_method_102_code 1 .arraylength 1 2 := ⟨by decide +kernel, rfl⟩
theorem D11_2 : Dec jdk_65_method_102_code 2 (.iload_n 1) 1 3 := ⟨by decide +kernel, rfl⟩
theorem D11_3 : Dec jdk_65_method_102_code 3 (.iload_n 2) 1 4 := ⟨by decide +kernel, rfl⟩
theorem D11_4 : Dec jdk_65_method_102_code 4 (.invokestatic 13) 3 7 := ⟨by decide +kernel, rfl⟩
theorem D11_7 : Dec jdk_65_method_102_code 7 (.iload_n 1) 1 8 := ⟨by decide +kernel, rfl⟩
theorem D11_8 : Dec jdk_65_method_102_code 8 (.istore 5) 2 10 := ⟨by decide +kernel, rfl⟩
theorem D11_10 : Dec jdk_65_method_102_code 10 (.iload 5) 2 12 := ⟨by decide +kernel, rfl⟩
theorem D11_12 : Dec jdk_65_method_102_code 12 (.iload_n 2) 1 13 := ⟨by decide +kernel, rfl⟩
theorem D11_13 : Jmp jdk_65_method_102_code 13 (.if_icmp .ge 14) 14 16 27 := ⟨by decide +kernel, rfl, by decide, by decide⟩
theorem D11_16 : Dec jdk_65_method_102_code 16 (.aload_n 0) 1 17 := ⟨by decide +kernel, rfl⟩
theorem D11_17 : Dec jdk_65_method_102_code 17 (.iload 5) 2 19 := ⟨by decide +kernel, rfl⟩
theorem D11_19 : Dec jdk_65_method_102_code 19 (.lload_n 3) 1 20 := ⟨by decide +kernel, rfl⟩
theorem D11_20 : Dec jdk_65_method_102_code 20 .lastore 1 21 := ⟨by decide +kernel, rfl⟩
theorem D11_21 : Dec jdk_65_method_102_code 21 (.iinc 5 1) 3 24 := ⟨by decide +kernel, rfl⟩
theorem D11_24 : Jmp jdk_65_method_102_code 24 (.goto (-14)) (-14) 27 10 := ⟨by decide +kernel, rfl, by decide, by decide⟩
theorem D11_27 : Dec jdk_65_method_102_code 27 .return_ 1 28 := ⟨by decide +kernel, rfl⟩
theorem D12_0 : Dec jdk_65_method_30_code 0 (.iload_n 1) 1 1 := ⟨by decide +kernel, rfl⟩
theorem D12_1 : Dec jdk_65_method_30_code 1 (.iload_n 2) 1 2 := ⟨by decide +kernel, rfl⟩
theorem D12_2 : Jmp jdk_65_method_30_code 2 (.if_icmp .le 44) 44 5 46 := ⟨by decide +kernel, rfl, by decide, by decide⟩
theorem D12_46 : Dec jdk_65_method_30_code 46 (.iload_n 1) 1 47 := ⟨by decide +kernel, rfl⟩
theorem D12_47 : Jmp jdk_65_method_30_code 47 (.ifCond .ge 12) 12 50 59 := ⟨by decide +kernel, rfl, by decide, by decide⟩
theorem D12_59 : Dec jdk_65_method_30_code 59 (.iload_n 2) 1 60 := ⟨by decide +kernel, rfl⟩
theorem D12_60 : Dec jdk_65_method_30_code 60 (.iload_n 0) 1 61 := ⟨by decide +kernel, rfl⟩
theorem D12_61 : Jmp jdk_65_method_30_code 61 (.if_icmp .le 12) 12 64 73 := ⟨by decide +kernel, rfl, by decide, by decide⟩
theorem D12_73 : Dec jdk_65_method_30_code 73 .return_ 1 74 := ⟨by decide +kernel, rfl⟩
theorem D13_0 : Dec prog_60_method_4_code 0 (.aload_n 1) 1 1 := ⟨by decide +kernel, rfl⟩
theorem D13_1 : Dec prog_60_method_4_code 1 (.iload_n 2) 1 2 := ⟨by decide +kernel, rfl⟩
theorem D13_2 : Dec prog_60_method_4_code 2 .iaload 1 3 := ⟨by decide +kernel, rfl⟩
theorem D13_3 : Dec prog_60_method_4_code 3 (.istore 4) 2 5 := ⟨by decide +kernel, rfl⟩
theorem D13_5 : Dec prog_60_method_4_code 5 (.aload_n 0) 1 6 := ⟨by decide +kernel, rfl⟩
theorem D13_6 : Dec prog_60_method_4_code 6 (.getfield 29) 3 9 := ⟨by decide +kernel, rfl⟩
theorem D13_9 : Dec prog_60_method_4_code 9 (.iload_n 2) 1 10 := ⟨by decide +kernel, rfl⟩
theorem D13_10 : Dec prog_60_method_4_code 10 .iaload 1 11 := ⟨by decide +kernel, rfl⟩
theorem D13_11 : Dec prog_60_method_4_code 11 (.istore 5) 2 13 := ⟨by decide +kernel, rfl⟩
theorem D13_13 : Dec prog_60_method_4_code 13 (.aload_n 0) 1 14 := ⟨by decide +kernel, rfl⟩
theorem D13_14 : Dec prog_60_method_4_code 14 (.getfield 35) 3 17 := ⟨by decide +kernel, rfl⟩
theorem D13_17 : Dec prog_60_method_4_code 17 (.iload_n 2) 1 18 := ⟨by decide +kernel, rfl⟩
theorem D13_18 : Dec prog_60_method_4_code 18 .laload 1 19 := ⟨by decide +kernel, rfl⟩
theorem D13_19 : Dec prog_60_method_4_code 19 (.lstore 6) 2 21 := ⟨by decide +kernel, rfl⟩
theorem D13_21 : Dec prog_60_method_4_code 21 (.aload_n 3) 1 22 := ⟨by decide +kernel, rfl⟩
theorem D13_22 : Dec prog_60_method_4_code 22 (.iload 5) 2 24 := ⟨by decide +kernel, rfl⟩
theorem D13_24 : Dec prog_60_method_4_code 24 (.aload_n 3) 1 25 := ⟨by decide +kernel, rfl⟩
theorem D13_25 : Dec prog_60_method_4_code 25 (.iload 5) 2 27 := ⟨by decide +kernel, rfl⟩
theorem D13_27 : Dec prog_60_method_4_code 27 .laload 1 28 := ⟨by decide +kernel, rfl⟩
theorem D13_28 : Dec prog_60_method_4_code 28 (.lload 6) 2 30 := ⟨by decide +kernel, rfl⟩
theorem D13_30 : Dec prog_60_method_4_code 30 (.aload_n 0) 1 31 := ⟨by decide +kernel, rfl⟩
theorem D13_31 : Dec prog_60_method_4_code 31 (.getfield 32) 3 34 := ⟨by decide +kernel, rfl⟩
theorem D13_34 : Dec prog_60_method_4_code 34 (.iload_n 2) 1 35 := ⟨by decide +kernel, rfl⟩
theorem D13_35 : Dec prog_60_method_4_code 35 .iaload 1 36 := ⟨by decide +kernel, rfl⟩
theorem D13_36 : Dec prog_60_method_4_code 36 .lshl 1 37 := ⟨by decide +kernel, rfl⟩
theorem D13_37 : Dec prog_60_method_4_code 37 (.ldc2_w 85) 3 40 := ⟨by decide +kernel, rfl⟩
theorem D13_40 : Dec prog_60_method_4_code 40 .lxor 1 41 := ⟨by decide +kernel, rfl⟩
theorem D13_41 : Dec prog_60_method_4_code 41 .land 1 42 := ⟨by decide +kernel, rfl⟩
theorem D13_42 : Dec prog_60_method_4_code 42 (.iload 4) 2 44 := ⟨by decide +kernel, rfl⟩
theorem D13_44 : Dec prog_60_method_4_code 44 .i2l 1 45 := ⟨by decide +kernel, rfl⟩
theorem D13_45 : Dec prog_60_method_4_code 45 (.lload 6) 2 47 := ⟨by decide +kernel, rfl⟩
theorem D13_47 : Dec prog_60_method_4_code 47 .land 1 48 := ⟨by decide +kernel, rfl⟩
theorem D13_48 : Dec prog_60_method_4_code 48 (.aload_n 0) 1 49 := ⟨by decide +kernel, rfl⟩
theorem D13_49 : Dec prog_60_method_4_code 49 (.getfield 32) 3 52 := ⟨by decide +kernel, rfl⟩
theorem D13_52 : Dec prog_60_method_4_code 52 (.iload_n 2) 1 53 := ⟨by decide +kernel, rfl⟩
theorem D13_53 : Dec prog_60_method_4_code 53 .iaload 1 54 := ⟨by decide +kernel, rfl⟩
theorem D13_54 : Dec prog_60_method_4_code 54 .lshl 1 55 := ⟨by decide +kernel, rfl⟩
theorem D13_55 : Dec prog_60_method_4_code 55 .lor 1 56 := ⟨by decide +kernel, rfl⟩
theorem D13_56 : Dec prog_60_method_4_code 56 .lastore 1 57 := ⟨by decide +kernel, rfl⟩
theorem D13_57 : Dec prog_60_method_4_code 57 (.aload_n 0) 1 58 := ⟨by decide +kernel, rfl⟩
theorem D13_58 : Dec prog_60_method_4_code 58 (.getfield 41) 3 61 := ⟨by decide +kernel, rfl⟩
theorem D13_61 : Dec prog_60_method_4_code 61 (.iload_n 2) 1 62 := ⟨by decide +kernel, rfl⟩
theorem D13_62 : Dec prog_60_method_4_code 62 .iaload 1 63 := ⟨by decide +kernel, rfl⟩
theorem D13_63 : Dec prog_60_method_4_code 63 (.istore 8) 2 65 := ⟨by decide +kernel, rfl⟩
theorem D13_65 : Dec prog_60_method_4_code 65 (.iload 8) 2 67 := ⟨by decide +kernel, rfl⟩
theorem D13_67 : Jmp prog_60_method_4_code 67 (.ifCond .lt 78) 78 70 145 := ⟨by decide +kernel, rfl, by decide, by decide⟩
theorem D13_70 : Dec prog_60_method_4_code 70 (.aload_n 0) 1 71 := ⟨by decide +kernel, rfl⟩
theorem D13_71 : Dec prog_60_method_4_code 71 (.getfield 13) 3 74 := ⟨by decide +kernel, rfl⟩
theorem D13_74 : Dec prog_60_method_4_code 74 (.iload 8) 2 76 := ⟨by decide +kernel, rfl⟩
theorem D13_76 : Dec prog_60_method_4_code 76 .iaload 1 77 := ⟨by decide +kernel, rfl⟩
theorem D13_77 : Dec prog_60_method_4_code 77 (.istore 9) 2 79 := ⟨by decide +kernel, rfl⟩
theorem D13_79 : Dec prog_60_method_4_code 79 (.aload_n 0) 1 80 := ⟨by decide +kernel, rfl⟩
theorem D13_80 : Dec prog_60_method_4_code 80 (.getfield 22) 3 83 := ⟨by decide +kernel, rfl⟩
theorem D13_83 : Dec prog_60_method_4_code 83 (.iload 8) 2 85 := ⟨by decide +kernel, rfl⟩
theorem D13_85 : Dec prog_60_method_4_code 85 .laload 1 86 := ⟨by decide +kernel, rfl⟩
theorem D13_86 : Dec prog_60_method_4_code 86 (.lstore 10) 2 88 := ⟨by decide +kernel, rfl⟩
theorem D13_88 : Dec prog_60_method_4_code 88 (.aload_n 0) 1 89 := ⟨by decide +kernel, rfl⟩
theorem D13_89 : Dec prog_60_method_4_code 89 (.getfield 16) 3 92 := ⟨by decide +kernel, rfl⟩
theorem D13_92 : Dec prog_60_method_4_code 92 (.iload 8) 2 94 := ⟨by decide +kernel, rfl⟩
theorem D13_94 : Dec prog_60_method_4_code 94 .iaload 1 95 := ⟨by decide +kernel, rfl⟩
theorem D13_95 : Dec prog_60_method_4_code 95 (.istore 12) 2 97 := ⟨by decide +kernel, rfl⟩
theorem D13_97 : Dec prog_60_method_4_code 97 (.aload_n 3) 1 98 := ⟨by decide +kernel, rfl⟩
theorem D13_98 : Dec prog_60_method_4_code 98 (.iload 9) 2 100 := ⟨by decide +kernel, rfl⟩
theorem D13_100 : Dec prog_60_method_4_code 100 (.aload_n 3) 1 101 := ⟨by decide +kernel, rfl⟩
theorem D13_101 : Dec prog_60_method_4_code 101 (.iload 9) 2 103 := ⟨by decide +kernel, rfl⟩
theorem D13_103 : Dec prog_60_method_4_code 103 .laload 1 104 := ⟨by decide +kernel, rfl⟩
theorem D13_104 : Dec prog_60_method_4_code 104 (.lload 10) 2 106 := ⟨by decide +kernel, rfl⟩
theorem D13_106 : Dec prog_60_method_4_code 106 (.iload 12) 2 108 := ⟨by decide +kernel, rfl⟩
theorem D13_108 : Dec prog_60_method_4_code 108 .lshl 1 109 := ⟨by decide +kernel, rfl⟩
theorem D13_109 : Dec prog_60_method_4_code 109 (.ldc2_w 85) 3 112 := ⟨by decide +kernel, rfl⟩
theorem D13_112 : Dec prog_60_method_4_code 112 .lxor 1 113 := ⟨by decide +kernel, rfl⟩
theorem D13_113 : Dec prog_60_method_4_code 113 .land 1 114 := ⟨by decide +kernel, rfl⟩
theorem D13_114 : Dec prog_60_method_4_code 114 (.iload 4) 2 116 := ⟨by decide +kernel, rfl⟩
theorem D13_116 : Dec prog_60_method_4_code 116 (.aload_n 0) 1 117 := ⟨by decide +kernel, rfl⟩
theorem D13_117 : Dec prog_60_method_4_code 117 (.getfield 19) 3 120 := ⟨by decide +kernel, rfl⟩
theorem D13_120 : Dec prog_60_method_4_code 120 (.iload 8) 2 122 := ⟨by decide +kernel, rfl⟩
theorem D13_122 : Dec prog_60_method_4_code 122 .iaload 1 123 := ⟨by decide +kernel, rfl⟩
theorem D13_123 : Dec prog_60_method_4_code 123 .iushr 1 124 := ⟨by decide +kernel, rfl⟩
theorem D13_124 : Dec prog_60_method_4_code 124 .i2l 1 125 := ⟨by decide +kernel, rfl⟩
theorem D13_125 : Dec prog_60_method_4_code 125 (.lload 10) 2 127 := ⟨by decide +kernel, rfl⟩
theorem D13_127 : Dec prog_60_method_4_code 127 .land 1 128 := ⟨by decide +kernel, rfl⟩
theorem D13_128 : Dec prog_60_method_4_code 128 (.iload 12) 2 130 := ⟨by decide +kernel, rfl⟩
theorem D13_130 : Dec prog_60_method_4_code 130 .lshl 1 131 := ⟨by decide +kernel, rfl⟩
theorem D13_131 : Dec prog_60_method_4_code 131 .lor 1 132 := ⟨by decide +kernel, rfl⟩
theorem D13_132 : Dec prog_60_method_4_code 132 .lastore 1 133 := ⟨by decide +kernel, rfl⟩
theorem D13_133 : Dec prog_60_method_4_code 133 (.aload_n 0) 1 134 := ⟨by decide +kernel, rfl⟩
theorem D13_134 : Dec prog_60_method_4_code 134 (.getfield 26) 3 137 := ⟨by decide +kernel, rfl⟩
theorem D13_137 : Dec prog_60_method_4_code 137 (.iload 8) 2 139 := ⟨by decide +kernel, rfl⟩
theorem D13_139 : Dec prog_60_method_4_code 139 .iaload 1 140 := ⟨by decide +kernel, rfl⟩
theorem D13_140 : Dec prog_60_method_4_code 140 (.istore 8) 2 142 := ⟨by decide +kernel, rfl⟩
theorem D13_142 : Jmp prog_60_method_4_code 142 (.goto (-77)) (-77) 145 65 := ⟨by decide +kernel, rfl, by decide, by decide⟩
theorem D13_145 : Dec prog_60_method_4_code 145 (.iload 4) 2 147 := ⟨by decide +kernel, rfl⟩
theorem D13_147 : Dec prog_60_method_4_code 147 (.aload_n 0) 1 148 := ⟨by decide +kernel, rfl⟩
theorem D13_148 : Dec prog_60_method_4_code 148 (.getfield 38) 3 151 := ⟨by decide +kernel, rfl⟩
theorem D13_151 : Dec prog_60_method_4_code 151 (.iload_n 2) 1 152 := ⟨by decide +kernel, rfl⟩
theorem D13_152 : Dec prog_60_method_4_code 152 .iaload 1 153 := ⟨by decide +kernel, rfl⟩
theorem D13_153 : Dec prog_60_method_4_code 153 .iushr 1 154 := ⟨by decide +kernel, rfl⟩
theorem D13_154 : Jmp prog_60_method_4_code 154 (.ifCond .ne 7) 7 157 161 := ⟨by decide +kernel, rfl, by decide, by decide⟩
theorem D13_157 : Dec prog_60_method_4_code 157 (.iconst 1) 1 158 := ⟨by decide +kernel, rfl⟩
theorem D13_158 : Jmp prog_60_method_4_code 158 (.goto 4) 4 161 162 := ⟨by decide +kernel, rfl, by decide, by decide⟩
theorem D13_161 : Dec prog_60_method_4_code 161 (.iconst 0) 1 162 := ⟨by decide +kernel, rfl⟩
theorem D13_162 : Dec prog_60_method_4_code 162 .ireturn 1 163 := ⟨by decide +kernel, rfl⟩
theorem D14_0 : Dec prog_60_method_5_code 0 (.iconst 0) 1 1 := ⟨by decide +kernel, rfl⟩
theorem D14_1 : Dec prog_60_method_5_code 1 (.istore 4) 2 3 := ⟨by decide +kernel, rfl⟩
theorem D14_3 : Dec prog_60_method_5_code 3 (.iload 4) 2 5 := ⟨by decide +kernel, rfl⟩
theorem D14_5 : Dec prog_60_method_5_code 5 (.aload_n 3) 1 6 := ⟨by decide +kernel, rfl⟩
theorem D14_6 : Dec prog_60_method_5_code 6 .arraylength 1 7 := ⟨by decide +kernel, rfl⟩
theorem D14_7 : Jmp prog_60_method_5_code 7 (.if_icmp .ge 41) 41 10 48 := ⟨by decide +kernel, rfl, by decide, by decide⟩
theorem D14_10 : Dec prog_60_method_5_code 10 (.aload_n 3) 1 11 := ⟨by decide +kernel, rfl⟩
theorem D14_11 : Dec prog_60_method_5_code 11 (.iload 4) 2 13 := ⟨by decide +kernel, rfl⟩
theorem D14_13 : Dec prog_60_method_5_code 13 (.aload_n 1) 1 14 := ⟨by decide +kernel, rfl⟩
theorem D14_14 : Dec prog_60_method_5_code 14 (.iload_n 2) 1 15 := ⟨by decide +kernel, rfl⟩
theorem D14_15 : Dec prog_60_method_5_code 15 (.aload_n 0) 1 16 := ⟨by decide +kernel, rfl⟩
theorem D14_16 : Dec prog_60_method_5_code 16 (.getfield 29) 3 19 := ⟨by decide +kernel, rfl⟩
theorem D14_19 : Dec prog_60_method_5_code 19 (.iload 4) 2 21 := ⟨by decide +kernel, rfl⟩
theorem D14_21 : Dec prog_60_method_5_code 21 .iaload 1 22 := ⟨by decide +kernel, rfl⟩
theorem D14_22 : Dec prog_60_method_5_code 22 .iadd 1 23 := ⟨by decide +kernel, rfl⟩
theorem D14_23 : Dec prog_60_method_5_code 23 .laload 1 24 := ⟨by decide +kernel, rfl⟩
theorem D14_24 : Dec prog_60_method_5_code 24 (.aload_n 0) 1 25 := ⟨by decide +kernel, rfl⟩
theorem D14_25 : Dec prog_60_method_5_code 25 (.getfield 32) 3 28 := ⟨by decide +kernel, rfl⟩
theorem D14_28 : Dec prog_60_method_5_code 28 (.iload 4) 2 30 := ⟨by decide +kernel, rfl⟩
theorem D14_30 : Dec prog_60_method_5_code 30 .iaload 1 31 := ⟨by decide +kernel, rfl⟩
theorem D14_31 : Dec prog_60_method_5_code 31 .lushr 1 32 := ⟨by decide +kernel, rfl⟩
theorem D14_32 : Dec prog_60_method_5_code 32 (.aload_n 0) 1 33 := ⟨by decide +kernel, rfl⟩
theorem D14_33 : Dec prog_60_method_5_code 33 (.getfield 35) 3 36 := ⟨by decide +kernel, rfl⟩
theorem D14_36 : Dec prog_60_method_5_code 36 (.iload 4) 2 38 := ⟨by decide +kernel, rfl⟩
theorem D14_38 : Dec prog_60_method_5_code 38 .laload 1 39 := ⟨by decide +kernel, rfl⟩
theorem D14_39 : Dec prog_60_method_5_code 39 .land 1 40 := ⟨by decide +kernel, rfl⟩
theorem D14_40 : Dec prog_60_method_5_code 40 .l2i 1 41 := ⟨by decide +kernel, rfl⟩
theorem D14_41 : Dec prog_60_method_5_code 41 .iastore 1 42 := ⟨by decide +kernel, rfl⟩
theorem D14_42 : Dec prog_60_method_5_code 42 (.iinc 4 1) 3 45 := ⟨by decide +kernel, rfl⟩
theorem D14_45 : Jmp prog_60_method_5_code 45 (.goto (-42)) (-42) 48 3 := ⟨by decide +kernel, rfl, by decide, by decide⟩
theorem D14_48 : Dec prog_60_method_5_code 48 (.iconst 0) 1 49 := ⟨by decide +kernel, rfl⟩
theorem D14_49 : Dec prog_60_method_5_code 49 (.istore 4) 2 51 := ⟨by decide +kernel, rfl⟩
theorem D14_51 : Dec prog_60_method_5_code 51 (.iload 4) 2 53 := ⟨by decide +kernel, rfl⟩
theorem D14_53 : Dec prog_60_method_5_code 53 (.aload_n 0) 1 54 := ⟨by decide +kernel, rfl⟩
theorem D14_54 : Dec prog_60_method_5_code 54 (.getfield 82) 3 57 := ⟨by decide +kernel, rfl⟩
theorem D14_57 : Jmp prog_60_method_5_code 57 (.if_icmp .ge 61) 61 60 118 := ⟨by decide +kernel, rfl, by decide, by decide⟩
theorem D14_60 : Dec prog_60_method_5_code 60 (.aload_n 1) 1 61 := ⟨by decide +kernel, rfl⟩
theorem D14_61 : Dec prog_60_method_5_code 61 (.iload_n 2) 1 62 := ⟨by decide +kernel, rfl⟩
theorem D14_62 : Dec prog_60_method_5_code 62 (.aload_n 0) 1 63 := ⟨by decide +kernel, rfl⟩
theorem D14_63 : Dec prog_60_method_5_code 63 (.getfield 13) 3 66 := ⟨by decide +kernel, rfl⟩
theorem D14_66 : Dec prog_60_method_5_code 66 (.iload 4) 2 68 := ⟨by decide +kernel, rfl⟩
theorem D14_68 : Dec prog_60_method_5_code 68 .iaload 1 69 := ⟨by decide +kernel, rfl⟩
theorem D14_69 : Dec prog_60_method_5_code 69 .iadd 1 70 := ⟨by decide +kernel, rfl⟩
theorem D14_70 : Dec prog_60_method_5_code 70 .laload 1 71 := ⟨by decide +kernel, rfl⟩
theorem D14_71 : Dec prog_60_method_5_code 71 (.lstore 5) 2 73 := ⟨by decide +kernel, rfl⟩
theorem D14_73 : Dec prog_60_method_5_code 73 (.aload_n 3) 1 74 := ⟨by decide +kernel, rfl⟩
theorem D14_74 : Dec prog_60_method_5_code 74 (.aload_n 0) 1 75 := ⟨by decide +kernel, rfl⟩
theorem D14_75 : Dec prog_60_method_5_code 75 (.getfield 7) 3 78 := ⟨by decide +kernel, rfl⟩
theorem D14_78 : Dec prog_60_method_5_code 78 (.iload 4) 2 80 := ⟨by decide +kernel, rfl⟩
theorem D14_80 : Dec prog_60_method_5_code 80 .iaload 1 81 := ⟨by decide +kernel, rfl⟩
theorem D14_81 : Dec prog_60_method_5_code 81 .dup2 1 82 := ⟨by decide +kernel, rfl⟩
theorem D14_82 : Dec prog_60_method_5_code 82 .iaload 1 83 := ⟨by decide +kernel, rfl⟩
theorem D14_83 : Dec prog_60_method_5_code 83 (.lload 5) 2 85 := ⟨by decide +kernel, rfl⟩
theorem D14_85 : Dec prog_60_method_5_code 85 (.aload_n 0) 1 86 := ⟨by decide +kernel, rfl⟩
theorem D14_86 : Dec prog_60_method_5_code 86 (.getfield 16) 3 89 := ⟨by decide +kernel, rfl⟩
theorem D14_89 : Dec prog_60_method_5_code 89 (.iload 4) 2 91 := ⟨by decide +kernel, rfl⟩
theorem D14_91 : Dec prog_60_method_5_code 91 .iaload 1 92 := ⟨by decide +kernel, rfl⟩
theorem D14_92 : Dec prog_60_method_5_code 92 .lushr 1 93 := ⟨by decide +kernel, rfl⟩
theorem D14_93 : Dec prog_60_method_5_code 93 (.aload_n 0) 1 94 := ⟨by decide +kernel, rfl⟩
theorem D14_94 : Dec prog_60_method_5_code 94 (.getfield 22) 3 97 := ⟨by decide +kernel, rfl⟩
theorem D14_97 : Dec prog_60_method_5_code 97 (.iload 4) 2 99 := ⟨by decide +kernel, rfl⟩
theorem D14_99 : Dec prog_60_method_5_code 99 .laload 1 100 := ⟨by decide +kernel, rfl⟩
theorem D14_100 : Dec prog_60_method_5_code 100 .land 1 101 := ⟨by decide +kernel, rfl⟩
theorem D14_101 : Dec prog_60_method_5_code 101 .l2i 1 102 := ⟨by decide +kernel, rfl⟩
theorem D14_102 : Dec prog_60_method_5_code 102 (.aload_n 0) 1 103 := ⟨by decide +kernel, rfl⟩
theorem D14_103 : Dec prog_60_method_5_code 103 (.getfield 19) 3 106 := ⟨by decide +kernel, rfl⟩
theorem D14_106 : Dec prog_60_method_5_code 106 (.iload 4) 2 108 := ⟨by decide +kernel, rfl⟩
theorem D14_108 : Dec prog_60_method_5_code 108 .iaload 1 109 := ⟨by decide +kernel, rfl⟩
theorem D14_109 : Dec prog_60_method_5_code 109 .ishl 1 110 := ⟨by decide +kernel, rfl⟩
theorem D14_110 : Dec prog_60_method_5_code 110 .ior 1 111 := ⟨by decide +kernel, rfl⟩
theorem D14_111 : Dec prog_60_method_5_code 111 .iastore 1 112 := ⟨by decide +kernel, rfl⟩
theorem D14_112 : Dec prog_60_method_5_code 112 (.iinc 4 1) 3 115 := ⟨by decide +kernel, rfl⟩
theorem D14_115 : Jmp prog_60_method_5_code 115 (.goto (-64)) (-64) 118 51 := ⟨by decide +kernel, rfl, by decide, by decide⟩
theorem D14_118 : Dec prog_60_method_5_code 118 .return_ 1 119 := ⟨by decide +kernel, rfl⟩
theorem D15_0 : Dec jdk_29_method_69_code 0 (.iload_n 0) 1 1 := ⟨by decide +kernel, rfl⟩
theorem D15_1 : Dec jdk_29_method_69_code 1 (.iload_n 1) 1 2 := ⟨by decide +kernel, rfl⟩
theorem D15_2 : Jmp jdk_29_method_69_code 2 (.if_icmp .gt 7) 7 5 9 := ⟨by decide +kernel, rfl, by decide, by decide⟩
theorem D15_5 : Dec jdk_29_method_69_code 5 (.iload_n 0) 1 6 := ⟨by decide +kernel, rfl⟩
theorem D15_6 : Jmp jdk_29_method_69_code 6 (.goto 4) 4 9 10 := ⟨by decide +kernel, rfl, by decide, by decide⟩
theorem D15_9 : Dec jdk_29_method_69_code 9 (.iload_n 1) 1 10 := ⟨by decide +kernel, rfl⟩
theorem D15_10 : Dec jdk_29_method_69_code 10 .ireturn 1 11 := ⟨by decide +kernel, rfl⟩
theorem D16_0 : Dec prog_60_method_7_code 0 (.aload_n 0) 1 1 := ⟨by decide +kernel, rfl⟩
theorem D16_1 : Dec prog_60_method_7_code 1 (.getfield 82) 3 4 := ⟨by decide +kernel, rfl⟩
theorem D16_4 : Dec prog_60_method_7_code 4 (.aload_n 0) 1 5 := ⟨by decide +kernel, rfl⟩
theorem D16_5 : Dec prog_60_method_7_code 5 (.getfield 7) 3 8 := ⟨by decide +kernel, rfl⟩
theorem D16_8 : Dec prog_60_method_7_code 8 .arraylength 1 9 := ⟨by decide +kernel, rfl⟩
theorem D16_9 : Jmp prog_60_method_7_code 9 (.if_icmp .ne 86) 86 12 95 := ⟨by decide +kernel, rfl, by decide, by decide⟩
theorem D16_12 : Dec prog_60_method_7_code 12 (.iconst 4) 1 13 := ⟨by decide +kernel, rfl⟩
theorem D16_13 : Dec prog_60_method_7_code 13 (.aload_n 0) 1 14 := ⟨by decide +kernel, rfl⟩
theorem D16_14 : Dec prog_60_method_7_code 14 (.getfield 82) 3 17 := ⟨by decide +kernel, rfl⟩
theorem D16_17 : Dec prog_60_method_7_code 17 (.iconst 2) 1 18 := ⟨by decide +kernel, rfl⟩
theorem D16_18 : Dec prog_60_method_7_code 18 .imul 1 19 := ⟨by decide +kernel, rfl⟩
theorem D16_19 : Dec prog_60_method_7_code 19 (.invokestatic 69) 3 22 := ⟨by decide +kernel, rfl⟩
theorem D16_22 : Dec prog_60_method_7_code 22 (.istore_n 3) 1 23 := ⟨by decide +kernel, rfl⟩
theorem D16_23 : Dec prog_60_method_7_code 23 (.aload_n 0) 1 24 := ⟨by decide +kernel, rfl⟩
theorem D16_24 : Dec prog_60_method_7_code 24 (.aload_n 0) 1 25 := ⟨by decide +kernel, rfl⟩
theorem D16_25 : Dec prog_60_method_7_code 25 (.getfield 7) 3 28 := ⟨by decide +kernel, rfl⟩
theorem D16_28 : Dec prog_60_method_7_code 28 (.iload_n 3) 1 29 := ⟨by decide +kernel, rfl⟩
theorem D16_29 : Dec prog_60_method_7_code 29 (.invokestatic 101) 3 32 := ⟨by decide +kernel, rfl⟩
theorem D16_32 : Dec prog_60_method_7_code 32 (.putfield 7) 3 35 := ⟨by decide +kernel, rfl⟩
theorem D16_35 : Dec prog_60_method_7_code 35 (.aload_n 0) 1 36 := ⟨by decide +kernel, rfl⟩
theorem D16_36 : Dec prog_60_method_7_code 36 (.aload_n 0) 1 37 := ⟨by decide +kernel, rfl⟩
theorem D16_37 : Dec prog_60_method_7_code 37 (.getfield 13) 3 40 := ⟨by decide +kernel, rfl⟩
theorem D16_40 : Dec prog_60_method_7_code 40 (.iload_n 3) 1 41 := ⟨by decide +kernel, rfl⟩
theorem D16_41 : Dec prog_60_method_7_code 41 (.invokestatic 101) 3 44 := ⟨by decide +kernel, rfl⟩
theorem D16_44 : Dec prog_60_method_7_code 44 (.putfield 13) 3 47 := ⟨by decide +kernel, rfl⟩
theorem D16_47 : Dec prog_60_method_7_code 47 (.aload_n 0) 1 48 := ⟨by decide +kernel, rfl⟩
theorem D16_48 : Dec prog_60_method_7_code 48 (.aload_n 0) 1 49 := ⟨by decide +kernel, rfl⟩
theorem D16_49 : Dec prog_60_method_7_code 49 (.getfield 16) 3 52 := ⟨by decide +kernel, rfl⟩
theorem D16_52 : Dec prog_60_method_7_code 52 (.iload_n 3) 1 53 := ⟨by decide +kernel, rfl⟩
theorem D16_53 : Dec prog_60_method_7_code 53 (.invokestatic 101) 3 56 := ⟨by decide +kernel, rfl⟩
theorem D16_56 : Dec prog_60_method_7_code 56 (.putfield 16) 3 59 := ⟨by decide +kernel, rfl⟩
theorem D16_59 : Dec prog_60_method_7_code 59 (.aload_n 0) 1 60 := ⟨by decide +kernel, rfl⟩
theorem D16_60 : Dec prog_60_method_7_code 60 (.aload_n 0) 1 61 := ⟨by decide +kernel, rfl⟩
theorem D16_61 : Dec prog_60_method_7_code 61 (.getfield 19) 3 64 := ⟨by decide +kernel, rfl⟩
theorem D16_64 : Dec prog_60_method_7_code 64 (.iload_n 3) 1 65 := ⟨by decide +kernel, rfl⟩
theorem D16_65 : Dec prog_60_method_7_code 65 (.invokestatic 101) 3 68 := ⟨by decide +kernel, rfl⟩
theorem D16_68 : Dec prog_60_method_7_code 68 (.putfield 19) 3 71 := ⟨by decide +kernel, rfl⟩
theorem D16_71 : Dec prog_60_method_7_code 71 (.aload_n 0) 1 72 := ⟨by decide +kernel, rfl⟩
theorem D16_72 : Dec prog_60_method_7_code 72 (.aload_n 0) 1 73 := ⟨by decide +kernel, rfl⟩
theorem D16_73 : Dec prog_60_method_7_code 73 (.getfield 22) 3 76 := ⟨by decide +kernel, rfl⟩
theorem D16_76 : Dec prog_60_method_7_code 76 (.iload_n 3) 1 77 := ⟨by decide +kernel, rfl⟩
theorem D16_77 : Dec prog_60_method_7_code 77 (.invokestatic 105) 3 80 := ⟨by decide +kernel, rfl⟩
theorem D16_80 : Dec prog_60_method_7_code 80 (.putfield 22) 3 83 := ⟨by decide +kernel, rfl⟩
theorem D16_83 : Dec prog_60_method_7_code 83 (.aload_n 0) 1 84 := ⟨by decide +kernel, rfl⟩
theorem D16_84 : Dec prog_60_method_7_code 84 (.aload_n 0) 1 85 := ⟨by decide +kernel, rfl⟩
theorem D16_85 : Dec prog_60_method_7_code 85 (.getfield 26) 3 88 := ⟨by decide +kernel, rfl⟩
theorem D16_88 : Dec prog_60_method_7_code 88 (.iload_n 3) 1 89 := ⟨by decide +kernel, rfl⟩
theorem D16_89 : Dec prog_60_method_7_code 89 (.invokestatic 101) 3 92 := ⟨by decide +kernel, rfl⟩
theorem D16_92 : Dec prog_60_method_7_code 92 (.putfield 26) 3 95 := ⟨by decide +kernel, rfl⟩
theorem D16_95 : Dec prog_60_method_7_code 95 (.aload_n 0) 1 96 := ⟨by decide +kernel, rfl⟩
theorem D16_96 : Dec prog_60_method_7_code 96 (.getfield 44) 3 99 := ⟨by decide +kernel, rfl⟩
theorem D16_99 : Dec prog_60_method_7_code 99 (.iload_n 1) 1 100 := ⟨by decide +kernel, rfl⟩
theorem D16_100 : Dec prog_60_method_7_code 100 .iaload 1 101 := ⟨by decide +kernel, rfl⟩
theorem D16_101 : Jmp prog_60_method_7_code 101 (.ifCond .ge 16) 16 104 117 := ⟨by decide +kernel, rfl, by decide, by decide⟩
theorem D16_104 : Dec prog_60_method_7_code 104 (.aload_n 0) 1 105 := ⟨by decide +kernel, rfl⟩
theorem D16_105 : Dec prog_60_method_7_code 105 (.getfield 41) 3 108 := ⟨by decide +kernel, rfl⟩
theorem D16_108 : Dec prog_60_method_7_code 108 (.iload_n 1) 1 109 := ⟨by decide +kernel, rfl⟩
theorem D16_109 : Dec prog_60_method_7_code 109 (.aload_n 0) 1 110 := ⟨by decide +kernel, rfl⟩
theorem D16_110 : Dec prog_60_method_7_code 110 (.getfield 82) 3 113 := ⟨by decide +kernel, rfl⟩
theorem D16_113 : Dec prog_60_method_7_code 113 .iastore 1 114 := ⟨by decide +kernel, rfl⟩
theorem D16_114 : Jmp prog_60_method_7_code 114 (.goto 18) 18 117 132 := ⟨by decide +kernel, rfl, by decide, by decide⟩
theorem D16_117 : Dec prog_60_method_7_code 117 (.aload_n 0) 1 118 := ⟨by decide +kernel, rfl⟩
theorem D16_118 : Dec prog_60_method_7_code 118 (.getfield 26) 3 121 := ⟨by decide +kernel, rfl⟩
theorem D16_121 : Dec prog_60_method_7_code 121 (.aload_n 0) 1 122 := ⟨by decide +kernel, rfl⟩
theorem D16_122 : Dec prog_60_method_7_code 122 (.getfield 44) 3 125 := ⟨by decide +kernel, rfl⟩
theorem D16_125 : Dec prog_60_method_7_code 125 (.iload_n 1) 1 126 := ⟨by decide +kernel, rfl⟩
theorem D16_126 : Dec prog_60_method_7_code 126 .iaload 1 127 := ⟨by decide +kernel, rfl⟩
theorem D16_127 : Dec prog_60_method_7_code 127 (.aload_n 0) 1 128 := ⟨by decide +kernel, rfl⟩
theorem D16_128 : Dec prog_60_method_7_code 128 (.getfield 82) 3 131 := ⟨by decide +kernel, rfl⟩
theorem D16_131 : Dec prog_60_method_7_code 131 .iastore 1 132 := ⟨by decide +kernel, rfl⟩
theorem D16_132 : Dec prog_60_method_7_code 132 (.aload_n 0) 1 133 := ⟨by decide +kernel, rfl⟩
theorem D16_133 : Dec prog_60_method_7_code 133 (.iload_n 2) 1 134 := ⟨by decide +kernel, rfl⟩
theorem D16_134 : Dec prog_60_method_7_code 134 (.invokevirtual 57) 3 137 := ⟨by decide +kernel, rfl⟩
theorem D16_137 : Dec prog_60_method_7_code 137 (.aload_n 0) 1 138 := ⟨by decide +kernel, rfl⟩
theorem D16_138 : Dec prog_60_method_7_code 138 (.getfield 7) 3 141 := ⟨by decide +kernel, rfl⟩
theorem D16_141 : Dec prog_60_method_7_code 141 (.aload_n 0) 1 142 := ⟨by decide +kernel, rfl⟩
theorem D16_142 : Dec prog_60_method_7_code 142 (.getfield 82) 3 145 := ⟨by decide +kernel, rfl⟩
theorem D16_145 : Dec prog_60_method_7_code 145 (.iload_n 1) 1 146 := ⟨by decide +kernel, rfl⟩
theorem D16_146 : Dec prog_60_method_7_code 146 .iastore 1 147 := ⟨by decide +kernel, rfl⟩
theorem D16_147 : Dec prog_60_method_7_code 147 (.aload_n 0) 1 148 := ⟨by decide +kernel, rfl⟩
theorem D16_148 : Dec prog_60_method_7_code 148 (.getfield 13) 3 151 := ⟨by decide +kernel, rfl⟩
theorem D16_151 : Dec prog_60_method_7_code 151 (.aload_n 0) 1 152 := ⟨by decide +kernel, rfl⟩
theorem D16_152 : Dec prog_60_method_7_code 152 (.getfield 82) 3 155 := ⟨by decide +kernel, rfl⟩
theorem D16_155 : Dec prog_60_method_7_code 155 (.aload_n 0) 1 156 := ⟨by decide +kernel, rfl⟩
theorem D16_156 : Dec prog_60_method_7_code 156 (.getfield 61) 3 159 := ⟨by decide +kernel, rfl⟩
theorem D16_159 : Dec prog_60_method_7_code 159 (.ldc2_w 67) 3 162 := ⟨by decide +kernel, rfl⟩
theorem D16_162 : Dec prog_60_method_7_code 162 .ldiv 1 163 := ⟨by decide +kernel, rfl⟩
theorem D16_163 : Dec prog_60_method_7_code 163 .l2i 1 164 := ⟨by decide +kernel, rfl⟩
theorem D16_164 : Dec prog_60_method_7_code 164 .iastore 1 165 := ⟨by decide +kernel, rfl⟩
theorem D16_165 : Dec prog_60_method_7_code 165 (.aload_n 0) 1 166 := ⟨by decide +kernel, rfl⟩
theorem D16_166 : Dec prog_60_method_7_code 166 (.getfield 16) 3 169 := ⟨by decide +kernel, rfl⟩
theorem D16_169 : Dec prog_60_method_7_code 169 (.aload_n 0) 1 170 := ⟨by decide +kernel, rfl⟩
theorem D16_170 : Dec prog_60_method_7_code 170 (.getfield 82) 3 173 := ⟨by decide +kernel, rfl⟩
theorem D16_173 : Dec prog_60_method_7_code 173 (.aload_n 0) 1 174 := ⟨by decide +kernel, rfl⟩
theorem D16_174 : Dec prog_60_method_7_code 174 (.getfield 61) 3 177 := ⟨by decide +kernel, rfl⟩
theorem D16_177 : Dec prog_60_method_7_code 177 (.ldc2_w 67) 3 180 := ⟨by decide +kernel, rfl⟩
theorem D16_180 : Dec prog_60_method_7_code 180 .lrem 1 181 := ⟨by decide +kernel, rfl⟩
theorem D16_181 : Dec prog_60_method_7_code 181 .l2i 1 182 := ⟨by decide +kernel, rfl⟩
theorem D16_182 : Dec prog_60_method_7_code 182 .iastore 1 183 := ⟨by decide +kernel, rfl⟩
theorem D16_183 : Dec prog_60_method_7_code 183 (.aload_n 0) 1 184 := ⟨by decide +kernel, rfl⟩
theorem D16_184 : Dec prog_60_method_7_code 184 (.getfield 19) 3 187 := ⟨by decide +kernel, rfl⟩
theorem D16_187 : Dec prog_60_method_7_code 187 (.aload_n 0) 1 188 := ⟨by decide +kernel, rfl⟩
theorem D16_188 : Dec prog_60_method_7_code 188 (.getfield 82) 3 191 := ⟨by decide +kernel, rfl⟩
theorem D16_191 : Dec prog_60_method_7_code 191 (.aload_n 0) 1 192 := ⟨by decide +kernel, rfl⟩
theorem D16_192 : Dec prog_60_method_7_code 192 (.getfield 38) 3 195 := ⟨by decide +kernel, rfl⟩
theorem D16_195 : Dec prog_60_method_7_code 195 (.iload_n 1) 1 196 := ⟨by decide +kernel, rfl⟩
theorem D16_196 : Dec prog_60_method_7_code 196 .iaload 1 197 := ⟨by decide +kernel, rfl⟩
theorem D16_197 : Dec prog_60_method_7_code 197 .iastore 1 198 := ⟨by decide +kernel, rfl⟩
theorem D16_198 : Dec prog_60_method_7_code 198 (.aload_n 0) 1 199 := ⟨by decide +kernel, rfl⟩
theorem D16_199 : Dec prog_60_method_7_code 199 (.getfield 22) 3 202 := ⟨by decide +kernel, rfl⟩
theorem D16_202 : Dec prog_60_method_7_code 202 (.aload_n 0) 1 203 := ⟨by decide +kernel, rfl⟩
theorem D16_203 : Dec prog_60_method_7_code 203 (.getfield 82) 3 206 := ⟨by decide +kernel, rfl⟩
theorem D16_206 : Dec prog_60_method_7_code 206 (.lconst 1) 1 207 := ⟨by decide +kernel, rfl⟩
theorem D16_207 : Dec prog_60_method_7_code 207 (.iload_n 2) 1 208 := ⟨by decide +kernel, rfl⟩
theorem D16_208 : Dec prog_60_method_7_code 208 .lshl 1 209 := ⟨by decide +kernel, rfl⟩
theorem D16_209 : Dec prog_60_method_7_code 209 (.lconst 1) 1 210 := ⟨by decide +kernel, rfl⟩
theorem D16_210 : Dec prog_60_method_7_code 210 .lsub 1 211 := ⟨by decide +kernel, rfl⟩
theorem D16_211 : Dec prog_60_method_7_code 211 .lastore 1 212 := ⟨by decide +kernel, rfl⟩
theorem D16_212 : Dec prog_60_method_7_code 212 (.aload_n 0) 1 213 := ⟨by decide +kernel, rfl⟩
theorem D16_213 : Dec prog_60_method_7_code 213 (.getfield 26) 3 216 := ⟨by decide +kernel, rfl⟩
theorem D16_216 : Dec prog_60_method_7_code 216 (.aload_n 0) 1 217 := ⟨by decide +kernel, rfl⟩
theorem D16_217 : Dec prog_60_method_7_code 217 (.getfield 82) 3 220 := ⟨by decide +kernel, rfl⟩
theorem D16_220 : Dec prog_60_method_7_code 220 (.iconst (-1)) 1 221 := ⟨by decide +kernel, rfl⟩
theorem D16_221 : Dec prog_60_method_7_code 221 .iastore 1 222 := ⟨by decide +kernel, rfl⟩
theorem D16_222 : Dec prog_60_method_7_code 222 (.aload_n 0) 1 223 := ⟨by decide +kernel, rfl⟩
theorem D16_223 : Dec prog_60_method_7_code 223 (.getfield 44) 3 226 := ⟨by decide +kernel, rfl⟩
theorem D16_226 : Dec prog_60_method_7_code 226 (.iload_n 1) 1 227 := ⟨by decide +kernel, rfl⟩
theorem D16_227 : Dec prog_60_method_7_code 227 (.aload_n 0) 1 228 := ⟨by decide +kernel, rfl⟩
theorem D16_228 : Dec prog_60_method_7_code 228 (.getfield 82) 3 231 := ⟨by decide +kernel, rfl⟩
theorem D16_231 : Dec prog_60_method_7_code 231 .iastore 1 232 := ⟨by decide +kernel, rfl⟩
theorem D16_232 : Dec prog_60_method_7_code 232 (.aload_n 0) 1 233 := ⟨by decide +kernel, rfl⟩
theorem D16_233 : Dec prog_60_method_7_code 233 (.getfield 38) 3 236 := ⟨by decide +kernel, rfl⟩
theorem D16_236 : Dec prog_60_method_7_code 236 (.iload_n 1) 1 237 := ⟨by decide +kernel, rfl⟩
theorem D16_237 : Dec prog_60_method_7_code 237 .dup2 1 238 := ⟨by decide +kernel, rfl⟩
theorem D16_238 : Dec prog_60_method_7_code 238 .iaload 1 239 := ⟨by decide +kernel, rfl⟩
theorem D16_239 : Dec prog_60_method_7_code 239 (.iload_n 2) 1 240 := ⟨by decide +kernel, rfl⟩
theorem D16_240 : Dec prog_60_method_7_code 240 .iadd 1 241 := ⟨by decide +kernel, rfl⟩
theorem D16_241 : Dec prog_60_method_7_code 241 .iastore 1 242 := ⟨by decide +kernel, rfl⟩
theorem D16_242 : Dec prog_60_method_7_code 242 (.aload_n 0) 1 243 := ⟨by decide +kernel, rfl⟩
theorem D16_243 : Dec prog_60_method_7_code 243 .dup 1 244 := ⟨by decide +kernel, rfl⟩
theorem D16_244 : Dec prog_60_method_7_code 244 (.getfield 61) 3 247 := ⟨by decide +kernel, rfl⟩
theorem D16_247 : Dec prog_60_method_7_code 247 (.iload_n 2) 1 248 := ⟨by decide +kernel, rfl⟩
theorem D16_248 : Dec prog_60_method_7_code 248 .i2l 1 249 := ⟨by decide +kernel, rfl⟩
theorem D16_249 : Dec prog_60_method_7_code 249 .ladd 1 250 := ⟨by decide +kernel, rfl⟩
theorem D16_250 : Dec prog_60_method_7_code 250 (.putfield 61) 3 253 := ⟨by decide +kernel, rfl⟩
theorem D16_253 : Dec prog_60_method_7_code 253 (.aload_n 0) 1 254 := ⟨by decide +kernel, rfl⟩
theorem D16_254 : Dec prog_60_method_7_code 254 .dup 1 255 := ⟨by decide +kernel, rfl⟩
theorem D16_255 : Dec prog_60_method_7_code 255 (.getfield 82) 3 258 := ⟨by decide +kernel, rfl⟩
theorem D16_258 : Dec prog_60_method_7_code 258 (.iconst 1) 1 259 := ⟨by decide +kernel, rfl⟩
theorem D16_259 : Dec prog_60_method_7_code 259 .iadd 1 260 := ⟨by decide +kernel, rfl⟩
theorem D16_260 : Dec prog_60_method_7_code 260 (.putfield 82) 3 263 := ⟨by decide +kernel, rfl⟩
theorem D16_263 : Dec prog_60_method_7_code 263 .return_ 1 264 := ⟨by decide +kernel, rfl⟩
theorem D17_0 : Dec jdk_65_method_123_code 0 (.iload_n 1) 1 1 := ⟨by decide +kernel, rfl⟩
theorem D17_1 : Dec jdk_65_method_123_code 1 (.aload_n 0) 1 2 := ⟨by decide +kernel, rfl⟩
theorem D17_2 : Dec jdk_65_method_123_code 2 .arraylength 1 3 := ⟨by decide +kernel, rfl⟩
theorem D17_3 : Jmp jdk_65_method_123_code 3 (.if_icmp .ne 11) 11 6 14 := ⟨by decide +kernel, rfl, by decide, by decide⟩
theorem D17_14 : Dec jdk_65_method_123_code 14 (.iload_n 1) 1 15 := ⟨by decide +kernel, rfl⟩
theorem D17_15 : Dec jdk_65_method_123_code 15 (.newarray .int) 2 17 := ⟨by decide +kernel, rfl⟩
theorem D17_17 : Dec jdk_65_method_123_code 17 (.astore_n 2) 1 18 := ⟨by decide +kernel, rfl⟩
theorem D17_18 : Dec jdk_65_method_123_code 18 (.aload_n 0) 1 19 := ⟨by decide +kernel, rfl⟩
theorem D17_19 : Dec jdk_65_method_123_code 19 (.iconst 0) 1 20 := ⟨by decide +kernel, rfl⟩
theorem D17_20 : Dec jdk_65_method_123_code 20 (.aload_n 2) 1 21 := ⟨by decide +kernel, rfl⟩
theorem D17_21 : Dec jdk_65_method_123_code 21 (.iconst 0) 1 22 := ⟨by decide +kernel, rfl⟩
theorem D17_22 : Dec jdk_65_method_123_code 22 (.aload_n 0) 1 23 := ⟨by decide +kernel, rfl⟩
theorem D17_23 : Dec jdk_65_method_123_code 23 .arraylength 1 24 := ⟨by decide +kernel, rfl⟩
theorem D17_24 : Dec jdk_65_method_123_code 24 (.iload_n 1) 1 25 := ⟨by decide +kernel, rfl⟩
theorem D17_25 : Dec jdk_65_method_123_code 25 (.invokestatic 304) 3 28 := ⟨by decide +kernel, rfl⟩
theorem D17_28 : Dec jdk_65_method_123_code 28 (.invokestatic 150) 3 31 := ⟨by decide +kernel, rfl⟩
theorem D17_31 : Dec jdk_65_method_123_code 31 (.aload_n 2) 1 32 := ⟨by decide +kernel, rfl⟩
theorem D17_32 : Dec jdk_65_method_123_code 32 .areturn 1 33 := ⟨by decide +kernel, rfl⟩
theorem D18_0 : Dec jdk_65_method_124_code 0 (.iload_n 1) 1 1 := ⟨by decide +kernel, rfl⟩
theorem D18_1 : Dec jdk_65_method_124_code 1 (.aload_n 0) 1 2 := ⟨by decide +kernel, rfl⟩
theorem D18_2 : Dec jdk_65_method_124_code 2 .arraylength 1 3 := ⟨by decide +kernel, rfl⟩
theorem D18_3 : Jmp jdk_65_method_124_code 3 (.if_icmp .ne 11) 11 6 14 := ⟨by decide +kernel, rfl, by decide, by decide⟩
theorem D18_14 : Dec jdk_65_method_124_code 14 (.iload_n 1) 1 15 := ⟨by decide +kernel, rfl⟩
theorem D18_15 : Dec jdk_65_method_124_code 15 (.newarray .long) 2 17 := ⟨by decide +kernel, rfl⟩
theorem D18_17 : Dec jdk_65_method_124_code 17 (.astore_n 2) 1 18 := ⟨by decide +kernel, rfl⟩
theorem D18_18 : Dec jdk_65_method_124_code 18 (.aload_n 0) 1 19 := ⟨by decide +kernel, rfl⟩
theorem D18_19 : Dec jdk_65_method_124_code 19 (.iconst 0) 1 20 := ⟨by decide +kernel, rfl⟩
theorem D18_20 : Dec jdk_65_method_124_code 20 (.aload_n 2) 1 21 := ⟨by decide +kernel, rfl⟩
theorem D18_21 : Dec jdk_65_method_124_code 21 (.iconst 0) 1 22 := ⟨by decide +kernel, rfl⟩
theorem D18_22 : Dec jdk_65_method_124_code 22 (.aload_n 0) 1 23 := ⟨by decide +kernel, rfl⟩
theorem D18_23 : Dec jdk_65_method_124_code 23 .arraylength 1 24 := ⟨by decide +kernel, rfl⟩
theorem D18_24 : Dec jdk_65_method_124_code 24 (.iload_n 1) 1 25 := ⟨by decide +kernel, rfl⟩
theorem D18_25 : Dec jdk_65_method_124_code 25 (.invokestatic 304) 3 28 := ⟨by decide +kernel, rfl⟩
theorem D18_28 : Dec jdk_65_method_124_code 28 (.invokestatic 150) 3 31 := ⟨by decide +kernel, rfl⟩
theorem D18_31 : Dec jdk_65_method_124_code 31 (.aload_n 2) 1 32 := ⟨by decide +kernel, rfl⟩
theorem D18_32 : Dec jdk_65_method_124_code 32 .areturn 1 33 := ⟨by decide +kernel, rfl⟩
theorem D19_0 : Dec jdk_29_method_66_code 0 (.lload_n 0) 1 1 := ⟨by decide +kernel, rfl⟩
theorem D19_1 : Dec jdk_29_method_66_code 1 (.lload_n 2) 1 2 := ⟨by decide +kernel, rfl⟩
theorem D19_2 : Dec jdk_29_method_66_code 2 .lcmp 1 3 := ⟨by decide +kernel, rfl⟩
theorem D19_3 : Jmp jdk_29_method_66_code 3 (.ifCond .lt 7) 7 6 10 := ⟨by decide +kernel, rfl, by decide, by decide⟩
theorem D19_6 : Dec jdk_29_method_66_code 6 (.lload_n 0) 1 7 := ⟨by decide +kernel, rfl⟩
theorem D19_7 : Jmp jdk_29_method_66_code 7 (.goto 4) 4 10 11 := ⟨by decide +kernel, rfl, by decide, by decide⟩
theorem D19_10 : Dec jdk_29_method_66_code 10 (.lload_n 2) 1 11 := ⟨by decide +kernel, rfl⟩
theorem D19_11 : Dec jdk_29_method_66_code 11 .lreturn 1 12 := ⟨by decide +kernel, rfl⟩
theorem D20_0 : Dec jdk_29_method_43_code 0 (.lload_n 0) 1 1 := ⟨by decide +kernel, rfl⟩
theorem D20_1 : Dec jdk_29_method_43_code 1 .l2i 1 2 := ⟨by decide +kernel, rfl⟩
theorem D20_2 : Dec jdk_29_method_43_code 2 .i2l 1 3 := ⟨by decide +kernel, rfl⟩
theorem D20_3 : Dec jdk_29_method_43_code 3 (.lload_n 0) 1 4 := ⟨by decide +kernel, rfl⟩
theorem D20_4 : Dec jdk_29_method_43_code 4 .lcmp 1 5 := ⟨by decide +kernel, rfl⟩
theorem D20_5 : Jmp jdk_29_method_43_code 5 (.ifCond .eq 13) 13 8 18 := ⟨by decide +kernel, rfl, by decide, by decide⟩
theorem D20_18 : Dec jdk_29_method_43_code 18 (.lload_n 0) 1 19 := ⟨by decide +kernel, rfl⟩
theorem D20_19 : Dec jdk_29_method_43_code 19 .l2i 1 20 := ⟨by decide +kernel, rfl⟩
theorem D20_20 : Dec jdk_29_method_43_code 20 .ireturn 1 21 := ⟨by decide +kernel, rfl⟩
theorem pd_0 : parseMethodDescriptor "(I)I" = some ⟨[.int], some .int⟩ := by decide +kernel
theorem pd_1 : parseMethodDescriptor "(II)I" = some ⟨[.int, .int], some .int⟩ := by decide +kernel
theorem pd_2 : parseMethodDescriptor "(I)V" = some ⟨[.int], none⟩ := by decide +kernel
theorem pd_3 : parseMethodDescriptor "([II)[I" = some ⟨[(.array .int), .int], some (.array .int)⟩ := by decide +kernel
theorem pd_4 : parseMethodDescriptor "([JI)[J" = some ⟨[(.array .long), .int], some (.array .long)⟩ := by decide +kernel
theorem pd_5 : parseMethodDescriptor "(II)V" = some ⟨[.int, .int], none⟩ := by decide +kernel
theorem pd_6 : parseMethodDescriptor "(JJ)J" = some ⟨[.long, .long], some .long⟩ := by decide +kernel
theorem pd_7 : parseMethodDescriptor "(J)I" = some ⟨[.long], some .int⟩ := by decide +kernel
theorem pd_8 : parseMethodDescriptor "([II)V" = some ⟨[(.array .int), .int], none⟩ := by decide +kernel
theorem pd_9 : parseMethodDescriptor "(III)V" = some ⟨[.int, .int, .int], none⟩ := by decide +kernel
theorem pd_10 : parseMethodDescriptor "([JIIJ)V" = some ⟨[(.array .long), .int, .int, .long], none⟩ := by decide +kernel
theorem pd_11 : parseMethodDescriptor "([I)V" = some ⟨[(.array .int)], none⟩ := by decide +kernel
theorem pd_12 : parseMethodDescriptor "([I[J)Z" = some ⟨[(.array .int), (.array .long)], some .boolean⟩ := by decide +kernel
theorem pd_13 : parseMethodDescriptor "([II[J)Z" = some ⟨[(.array .int), .int, (.array .long)], some .boolean⟩ := by decide +kernel
theorem pd_14 : parseMethodDescriptor "([JI[I)V" = some ⟨[(.array .long), .int, (.array .int)], none⟩ := by decide +kernel
theorem pd_15 : parseMethodDescriptor "(JI)I" = some ⟨[.long, .int], some .int⟩ := by decide +kernel
section OwnNums
theorem n_bv (a : Nat) : (Int32.ofNat a).toBitVec = BitVec.ofNat 32 a := rfl
theorem eq_mod {x y : Int32} (h : (x.toInt - y.toInt) % 4294967296 = 0) : x = y := Int32.toInt_inj.mp (by have := rng32 x; have := rng32 y; omega)
theorem eq_modL {x y : Int64} (h : (x.toInt - y.toInt) % 18446744073709551616 = 0) : x = y := Int64.toInt_inj.mp (by have := rng64 x; have := rng64 y; omega)
theorem n_add (a b : Nat) : Int32.ofNat a + Int32.ofNat b = Int32.ofNat (a + b) := (Int32.ofNat_add a b).symm
theorem n_mul (a b : Nat) : Int32.ofNat a * Int32.ofNat b = Int32.ofNat (a * b) := (Int32.ofNat_mul a b).symm
theorem n_sub {a b : Nat} (h : b ≤ a) : Int32.ofNat a - Int32.ofNat b = Int32.ofNat (a - b) := by
  have := n_add (a - b) b
  rw [Nat.sub_add_cancel h] at this
  rw [← this, Int32.add_sub_cancel]
theorem n_and (a b : Nat) : Int32.ofNat a &&& Int32.ofNat b = Int32.ofNat (a &&& b) := by
  apply Int32.toBitVec_inj.mp
  rw [Int32.toBitVec_and, n_bv, n_bv, n_bv]
  exact BitVec.ofNat_and.symm
theorem n_or (a b : Nat) : Int32.ofNat a ||| Int32.ofNat b = Int32.ofNat (a ||| b) := by
  apply Int32.toBitVec_inj.mp
  rw [Int32.toBitVec_or, n_bv, n_bv, n_bv]
  exact BitVec.ofNat_or.symm
theorem n_q {k : Nat} (hk : k < 32) : (Int32.ofNat k).toBitVec.toNat % 32 = k := by
  rw [n_bv, BitVec.toNat_ofNat]; omega
theorem n_q64 {k : Nat} (hk : k < 64) : (Int32.ofNat k).toBitVec.toNat % 64 = k := by
  rw [n_bv, BitVec.toNat_ofNat]; omega
theorem toInt_mod (a : Nat) : ((Int32.ofNat a).toInt - a) % 4294967296 = 0 := by
  have h := bm32 (((BitVec.ofNat 32 a).toNat : Nat) : Int)
  rw [show (Int32.ofNat a).toInt = (BitVec.ofNat 32 a).toInt from rfl, BitVec.toInt_eq_toNat_bmod]
  rw [BitVec.toNat_ofNat] at *
  generalize Int.bmod ((a % 2 ^ 32 : Nat) : Int) (2 ^ 32) = w1 at *
  omega
theorem n_inj {a b : Nat} (ha : a < 2147483648) (hb : b < 2147483648) : Int32.ofNat a = Int32.ofNat b ↔ a = b := ⟨fun h => by have := congrArg Int32.toInt h; rw [ofNat_toInt ha, ofNat_toInt hb] at this; omega, fun h => by rw [h]⟩
theorem n_shl (a : Nat) {k : Nat} (hk : k < 32) : jshl (Int32.ofNat a) (Int32.ofNat k) = Int32.ofNat (a * 2 ^ k) := by
  apply eq_mod
  have h1 : ((jshl (Int32.ofNat a) (Int32.ofNat k)).toInt - (Int32.ofNat a).toInt * ((2 ^ k : Nat) : Int)) % 4294967296 = 0 := c_ishl (Int32.ofNat a) (Int32.ofNat k) k (n_q hk)
  generalize (jshl (Int32.ofNat a) (Int32.ofNat k)).toInt = w1 at *
  have h2 := toInt_mod (a * 2 ^ k)
  have h3 := toInt_mod a
  obtain ⟨q, hq⟩ := Int.dvd_of_emod_eq_zero h3
  have h4 : (Int32.ofNat a).toInt * ((2 ^ k : Nat) : Int) - ((a * 2 ^ k : Nat) : Int) = 4294967296 * (q * ((2 ^ k : Nat) : Int)) := by
    rw [Int.natCast_mul, ← Int.sub_mul, hq, Int.mul_assoc]
  omega
theorem n_ushr0 (x : Int32) : jushr x 0 = x := by
  apply Int32.toBitVec_inj.mp
  simp [jushr]
theorem n_ushr {a k : Nat} (ha : a < 2147483648) (hk : k < 32) : jushr (Int32.ofNat a) (Int32.ofNat k) = Int32.ofNat (a / 2 ^ k) := by
  rcases Nat.eq_zero_or_pos k with rfl | h0
  · rw [Nat.pow_zero, Nat.div_one]; exact n_ushr0 _
  · have hd : a / 2 ^ k ≤ a := Nat.div_le_self _ _
    refine eq_ofNat (by omega) ?_
    rw [c_iushr (Int32.ofNat a) (Int32.ofNat k) k (n_q hk) h0, ofNat_toInt ha, show ((a : Int) % 4294967296) = a by omega]
    exact (Int.natCast_ediv _ _).symm
theorem n_shr {a k : Nat} (ha : a < 2147483648) (hk : k < 32) : jshr (Int32.ofNat a) (Int32.ofNat k) = Int32.ofNat (a / 2 ^ k) := by
  have hd : a / 2 ^ k ≤ a := Nat.div_le_self _ _
  refine eq_ofNat (by omega) ?_
  rw [c_ishr (Int32.ofNat a) (Int32.ofNat k) k (n_q hk), ofNat_toInt ha]
  exact (Int.natCast_ediv _ _).symm
theorem n_low (a k : Nat) : Int32.ofNat a &&& Int32.ofNat (2 ^ k - 1) = Int32.ofNat (a % 2 ^ k) := by rw [n_and, Nat.and_two_pow_sub_one_eq_mod]
theorem n_orlow (a : Nat) {i t : Nat} (ht : t < 2 ^ i) : Int32.ofNat (2 ^ i * a) ||| Int32.ofNat t = Int32.ofNat (2 ^ i * a + t) := by rw [n_or, Nat.two_pow_add_eq_or_of_lt ht]
theorem n_rem {a k : Nat} (ha : a < 2147483648) (h1 : 0 < k) (hk : k < 2147483648) : Int32.ofNat a % Int32.ofNat k = Int32.ofNat (a % k) := by
  have hm := Nat.mod_lt a h1
  refine eq_ofNat (by omega) ?_
  rw [(c_irem (Int32.ofNat a) (Int32.ofNat k) k (ofNat_toInt hk)).1 (by rw [ofNat_toInt ha]; omega), ofNat_toInt ha]
  exact (Int.natCast_emod _ _).symm
theorem n_nn (x : Int32) (h : 0 ≤ x.toInt) : ∃ u : Nat, u < 2147483648 ∧ x = Int32.ofNat u := by
  have := rng32 x
  exact ⟨x.toInt.toNat, by omega, eq_ofNat (by omega) (by omega)⟩
theorem n_mask31 (x : Int32) : ∃ u : Nat, u < 2147483648 ∧ x &&& 2147483647 = Int32.ofNat u := n_nn _ (c_and x 2147483647 (by decide)).1
theorem n_mask (x : Int32) (k : Nat) (hk : k ≤ 31) {m : Int32} (hm : m.toBitVec.toNat = 2 ^ k - 1) : x &&& m = Int32.ofNat ((x.toInt % (2 ^ k : Nat)).toNat) := by
  have h1 : (0 : Int) < ((2 ^ k : Nat) : Int) := by
    have := Nat.two_pow_pos k
    omega
  have h2 : ((2 ^ k : Nat) : Int) ≤ 2147483648 := by
    have : 2 ^ k ≤ 2147483648 := Nat.pow_le_pow_right (n := 2) (by decide) hk
    omega
  have h3 := Int.emod_nonneg x.toInt (Int.ne_of_gt h1)
  have h4 := Int.emod_lt_of_pos x.toInt h1
  exact eq_ofNat (by omega) (by rw [c_mask x m k hk hm]; omega)
theorem jbyte_idem (x : Int32) : jbyte (jbyte x) = jbyte x := by
  have h1 := c_i2b x
  have h2 := c_i2b (jbyte x)
  exact Int32.toInt_inj.mp (by simp only [jbyte] at *; omega)
theorem jbyte_and (x : Int32) (k : Nat) (hk : k ≤ 8) {m : Int32} (hm : m.toBitVec.toNat = 2 ^ k - 1) : jbyte x &&& m = x &&& m := by
  have h1 := (c_i2b x).1
  apply Int32.toInt_inj.mp
  rw [c_mask _ m k (by omega) hm, c_mask _ m k (by omega) hm]
  have : ∃ c : Nat, 256 = 2 ^ k * c := ⟨2 ^ (8 - k), by rw [← Nat.pow_add, show k + (8 - k) = 8 by omega]⟩
  obtain ⟨c, hc⟩ := this
  obtain ⟨q, hq⟩ := Int.dvd_of_emod_eq_zero h1
  have h2 : (jbyte x).toInt = x.toInt + ((2 ^ k : Nat) : Int) * ((c : Int) * q) := by
    have h3 : (256 : Int) = ((2 ^ k : Nat) : Int) * (c : Int) := by rw [← Int.natCast_mul, ← hc]; rfl
    rw [h3, Int.mul_assoc] at hq
    simp only [jbyte]; omega
  rw [h2, Int.add_mul_emod_self_left]
end OwnNums
section OwnNumsL
theorem nl_bv (a : Nat) : (Int64.ofNat a).toBitVec = BitVec.ofNat 64 a := rfl
theorem ofNatL_toInt {n : Nat} (h : n < 9223372036854775808) : (Int64.ofNat n).toInt = n := Int64.toInt_ofNat_of_lt (by omega)
theorem eq_ofNatL {x : Int64} {n : Nat} (hn : n < 9223372036854775808) (h : x.toInt = n) : x = Int64.ofNat n := Int64.toInt_inj.mp (by rw [h, ofNatL_toInt hn])
theorem nL_add (a b : Nat) : Int64.ofNat a + Int64.ofNat b = Int64.ofNat (a + b) := (Int64.ofNat_add a b).symm
theorem nL_mul (a b : Nat) : Int64.ofNat a * Int64.ofNat b = Int64.ofNat (a * b) := (Int64.ofNat_mul a b).symm
theorem nL_sub {a b : Nat} (h : b ≤ a) : Int64.ofNat a - Int64.ofNat b = Int64.ofNat (a - b) := by
  have := nL_add (a - b) b
  rw [Nat.sub_add_cancel h] at this
  rw [← this, Int64.add_sub_cancel]
theorem nL_and (a b : Nat) : Int64.ofNat a &&& Int64.ofNat b = Int64.ofNat (a &&& b) := by
  apply Int64.toBitVec_inj.mp
  rw [Int64.toBitVec_and, nl_bv, nl_bv, nl_bv]
  exact BitVec.ofNat_and.symm
theorem nL_or (a b : Nat) : Int64.ofNat a ||| Int64.ofNat b = Int64.ofNat (a ||| b) := by
  apply Int64.toBitVec_inj.mp
  rw [Int64.toBitVec_or, nl_bv, nl_bv, nl_bv]
  exact BitVec.ofNat_or.symm
theorem nL_inj {a b : Nat} (ha : a < 9223372036854775808) (hb : b < 9223372036854775808) : Int64.ofNat a = Int64.ofNat b ↔ a = b := ⟨fun h => by have := congrArg Int64.toInt h; rw [ofNatL_toInt ha, ofNatL_toInt hb] at this; omega, fun h => by rw [h]⟩
theorem nL_lt {a b : Nat} (ha : a < 9223372036854775808) (hb : b < 9223372036854775808) : Int64.ofNat a < Int64.ofNat b ↔ a < b := by rw [Int64.lt_iff_toInt_lt, ofNatL_toInt ha, ofNatL_toInt hb]; omega
theorem toInt_modL (a : Nat) : ((Int64.ofNat a).toInt - a) % 18446744073709551616 = 0 := by
  have h := bm64 (((BitVec.ofNat 64 a).toNat : Nat) : Int)
  rw [show (Int64.ofNat a).toInt = (BitVec.ofNat 64 a).toInt from rfl, BitVec.toInt_eq_toNat_bmod]
  rw [BitVec.toNat_ofNat] at *
  generalize Int.bmod ((a % 2 ^ 64 : Nat) : Int) (2 ^ 64) = w1 at *
  omega
theorem nL_shl (a : Nat) {k : Nat} (hk : k < 64) : jshlL (Int64.ofNat a) (Int32.ofNat k) = Int64.ofNat (a * 2 ^ k) := by
  apply eq_modL
  have h1 : ((jshlL (Int64.ofNat a) (Int32.ofNat k)).toInt - (Int64.ofNat a).toInt * ((2 ^ k : Nat) : Int)) % 18446744073709551616 = 0 := c_lshl (Int64.ofNat a) (Int32.ofNat k) k (n_q64 hk)
  generalize (jshlL (Int64.ofNat a) (Int32.ofNat k)).toInt = w1 at *
  have h2 := toInt_modL (a * 2 ^ k)
  have h3 := toInt_modL a
  obtain ⟨q, hq⟩ := Int.dvd_of_emod_eq_zero h3
  have h4 : (Int64.ofNat a).toInt * ((2 ^ k : Nat) : Int) - ((a * 2 ^ k : Nat) : Int) = 18446744073709551616 * (q * ((2 ^ k : Nat) : Int)) := by
    rw [Int.natCast_mul, ← Int.sub_mul, hq, Int.mul_assoc]
  omega
theorem nL_ushr0 (x : Int64) : jushrL x 0 = x := by
  apply Int64.toBitVec_inj.mp
  simp [jushrL]
theorem nL_ushr {a k : Nat} (ha : a < 9223372036854775808) (hk : k < 64) : jushrL (Int64.ofNat a) (Int32.ofNat k) = Int64.ofNat (a / 2 ^ k) := by
  rcases Nat.eq_zero_or_pos k with rfl | h0
  · rw [Nat.pow_zero, Nat.div_one]; exact nL_ushr0 _
  · have hd : a / 2 ^ k ≤ a := Nat.div_le_self _ _
    refine eq_ofNatL (by omega) ?_
    rw [c_lushr (Int64.ofNat a) (Int32.ofNat k) k (n_q64 hk) h0, ofNatL_toInt ha, show ((a : Int) % 18446744073709551616) = a by omega]
    exact (Int.natCast_ediv _ _).symm
theorem nL_low (a k : Nat) : Int64.ofNat a &&& Int64.ofNat (2 ^ k - 1) = Int64.ofNat (a % 2 ^ k) := by rw [nL_and, Nat.and_two_pow_sub_one_eq_mod]
theorem nL_orlow (a : Nat) {i t : Nat} (ht : t < 2 ^ i) : Int64.ofNat (2 ^ i * a) ||| Int64.ofNat t = Int64.ofNat (2 ^ i * a + t) := by rw [nL_or, Nat.two_pow_add_eq_or_of_lt ht]
theorem n_i2l {a : Nat} (h : a < 2147483648) : (Int32.ofNat a).toInt64 = Int64.ofNat a := eq_ofNatL (by omega) (by rw [c_i2l, ofNat_toInt h])
theorem n_l2i (a : Nat) : (Int64.ofNat a).toInt32 = Int32.ofNat a := by
  apply eq_mod
  have h1 := c_l2i (Int64.ofNat a)
  have h2 := toInt_modL a
  have h3 := toInt_mod a
  omega
theorem nL_nn (x : Int64) (h : 0 ≤ x.toInt) : ∃ u : Nat, u < 9223372036854775808 ∧ x = Int64.ofNat u := by
  have := rng64 x
  exact ⟨x.toInt.toNat, by omega, eq_ofNatL (by omega) (by omega)⟩
end OwnNumsL
section OwnTwo
variable {Z : State} {a0 : Array Value} {n0 : Nat} {p : Program} {l : Launch} {e : Env} {R : Room} {s : State} {m : MethodId} {args : Array Value} {below : List Frame} {meth : Method} {c : Code} {code : ByteArray} {ml : Nat} {ret : Option FieldType} {y : MethodName} {T : State} {h h' : Heap} {k j : Nat} {Q : Option Value → Heap → Prop} {pc nx tgt : Nat} {Ls : Array Slot} {S : List Value} {t0 : FieldType}
/-- an array: its address, its kind, its length, its values -/
abbrev Ent := Addr × FieldType × Nat × (Nat → Value)
/-- a list of arrays, no two of them at one address -/
def Mem (Z : State) (n0 : Nat) (h : Heap) (L : List Ent) : Prop :=
  (∀ (i : Nat) (a : Addr) (ty : FieldType) (n : Nat) (g : Nat → Value), L[i]? = some (a, ty, n, g) → Ba Z n0 h a ty n g) ∧ ∀ (i q : Nat) (x z : Ent), L[i]? = some x → L[q]? = some z → i ≠ q → x.1 ≠ z.1
theorem Mem.at {L : List Ent} (M : Mem Z n0 h L) (i : Nat) {a : Addr} {ty : FieldType} {n : Nat} {g : Nat → Value} (e : L[i]? = some (a, ty, n, g)) : Ba Z n0 h a ty n g := M.1 i a ty n g e
theorem Mem.ne {L : List Ent} (M : Mem Z n0 h L) (i q : Nat) {a b : Addr} {ty ty' : FieldType} {n n' : Nat} {g g' : Nat → Value} (e : L[i]? = some (a, ty, n, g)) (e' : L[q]? = some (b, ty', n', g')) (hne : i ≠ q) : a ≠ b := M.2 i q _ _ e e' hne
theorem Mem.ext {L : List Ent} (M : Mem Z n0 h L) (E : Ext h h') : Mem Z n0 h' L := ⟨fun i a ty n g e => (M.1 i a ty n g e).ext E, M.2⟩
theorem set_some {α : Type} {L : List α} {k i : Nat} {x z : α} (e : (L.set k x)[i]? = some z) : (i = k ∧ z = x ∧ k < L.length) ∨ (i ≠ k ∧ L[i]? = some z) := by
  by_cases hik : i = k
  · subst hik
    rw [List.getElem?_set_self'] at e
    cases hq : L[i]? with
    | none => rw [hq] at e; cases e
    | some w =>
      rw [hq] at e
      have := (List.getElem?_eq_some_iff.mp hq).1
      cases e
      exact Or.inl ⟨rfl, rfl, this⟩
  · rw [List.getElem?_set_ne (Ne.symm hik)] at e
    exact Or.inr ⟨hik, e⟩
theorem Mem.st {L : List Ent} (M : Mem Z n0 h L) (k : Nat) {a : Addr} {ty : FieldType} {n : Nat} {g g' : Nat → Value} (e : L[k]? = some (a, ty, n, g)) (K : Keep h h' [a]) (B : Ba Z n0 h' a ty n g') : Mem Z n0 h' (L.set k (a, ty, n, g')) := by
  refine ⟨fun i a' ty' n' g'' q => ?_, fun i q x z hx hz hne => ?_⟩
  · rcases set_some q with ⟨rfl, q2, -⟩ | ⟨q1, q2⟩
    · cases q2; exact B
    · exact (M.1 i _ _ _ _ q2).keep K (ninS (M.2 i k _ _ q2 e q1) nin0)
  · rcases set_some hx with ⟨rfl, hx', -⟩ | ⟨q1, hx'⟩ <;> rcases set_some hz with ⟨rfl, hz', -⟩ | ⟨q2, hz'⟩
    · exact absurd rfl hne
    · subst hx'; have w := M.2 i q _ _ e hz' hne; exact w
    · subst hz'; have w := M.2 i q _ _ hx' e hne; exact w
    · exact M.2 i q _ _ hx' hz' hne
/-- a new array in the place of an elder one -/
theorem Mem.rep {L : List Ent} (M : Mem Z n0 h L) (k : Nat) {a : Addr} {ty : FieldType} {n : Nat} {g : Nat → Value} (E : Ext h h') (ha : h.size ≤ a) (B : Ba Z n0 h' a ty n g) : Mem Z n0 h' (L.set k (a, ty, n, g)) := by
  have old : ∀ i (x : Ent), L[i]? = some x → x.1 ≠ a := fun i x hx => by
    obtain ⟨b, tb, nb, gb⟩ := x
    exact Nat.ne_of_lt (Nat.lt_of_lt_of_le (M.1 i _ _ _ _ hx).lt ha)
  refine ⟨fun i a' ty' n' g'' q => ?_, fun i q x z hx hz hne => ?_⟩
  · rcases set_some q with ⟨rfl, q2, -⟩ | ⟨q1, q2⟩
    · cases q2; exact B
    · exact (M.1 i _ _ _ _ q2).ext E
  · rcases set_some hx with ⟨rfl, hx', -⟩ | ⟨q1, hx'⟩ <;> rcases set_some hz with ⟨rfl, hz', -⟩ | ⟨q2, hz'⟩
    · exact absurd rfl hne
    · subst hx'; exact Ne.symm (old q _ hz')
    · subst hz'; exact old i _ hx'
    · exact M.2 i q _ _ hx' hz' hne
theorem Mem.cons {L : List Ent} (M : Mem Z n0 h L) {a : Addr} {ty : FieldType} {n : Nat} {g : Nat → Value} (E : Ext h h') (ha : h.size ≤ a) (B : Ba Z n0 h' a ty n g) : Mem Z n0 h' ((a, ty, n, g) :: L) := by
  have old : ∀ i (x : Ent), L[i]? = some x → x.1 ≠ a := fun i x hx => by
    obtain ⟨b, tb, nb, gb⟩ := x
    exact Nat.ne_of_lt (Nat.lt_of_lt_of_le (M.1 i _ _ _ _ hx).lt ha)
  refine ⟨fun i a' ty' n' g'' q => ?_, fun i q x z hx hz hne => ?_⟩
  · cases i with
    | zero => cases q; exact B
    | succ i => exact (M.1 i _ _ _ _ q).ext E
  · cases i with
    | zero =>
      cases q with
      | zero => exact absurd rfl hne
      | succ q => cases hx; exact Ne.symm (old q _ hz)
    | succ i =>
      cases q with
      | zero => cases hz; exact old i _ hx
      | succ q => exact M.2 i q _ _ hx hz (fun z => hne (by rw [z]))
theorem Mem.nil : Mem Z n0 h [] := ⟨fun i a ty n g e => by simp at e, fun i q x z e => by simp at e⟩
theorem Mem.keep0 {L : List Ent} (M : Mem Z n0 h L) (K : Keep h h' []) : Mem Z n0 h' L := ⟨fun i a ty n g e => (M.1 i a ty n g e).keep K nin0, M.2⟩
theorem Ext.keep1 {h1 : Heap} {a : Addr} (E : Ext h h1) (K : Keep h1 h' [a]) (ha : h.size ≤ a) : Ext h h' := ⟨Nat.le_trans E.1 K.1, fun x c q => K.2.1 x c (E.2 x c q) (ninS (Nat.ne_of_lt (Nat.lt_of_lt_of_le (Array.getElem?_eq_some_iff.mp q).1 ha)) nin0)⟩
/-- naturals in an array of ints | one less | masks -/
def nI (f : Nat → Nat) : Nat → Int32 := fun i => Int32.ofNat (f i)
def xI (f : Nat → Nat) : Nat → Int32 := fun i => Int32.ofNat (f i) - 1
def mJ (f : Nat → Nat) : Nat → Int64 := fun i => Int64.ofNat (2 ^ f i - 1)
def nJ (f : Nat → Nat) : Nat → Int64 := fun i => Int64.ofNat (f i)
theorem upd_nI (f : Nat → Nat) (i x : Nat) : upd (nI f) i (Int32.ofNat x) = nI (upd f i x) := funext fun q => by simp only [upd, nI]; split <;> rfl
theorem upd_xI (f : Nat → Nat) (i x : Nat) : upd (xI f) i (Int32.ofNat x - 1) = xI (upd f i x) := funext fun q => by simp only [upd, xI]; split <;> rfl
theorem upd_mJ (f : Nat → Nat) (i x : Nat) : upd (mJ f) i (Int64.ofNat (2 ^ x - 1)) = mJ (upd f i x) := funext fun q => by simp only [upd, mJ]; split <;> rfl
theorem upd_nJ (f : Nat → Nat) (i x : Nat) : upd (nJ f) i (Int64.ofNat x) = nJ (upd f i x) := funext fun q => by simp only [upd, nJ]; split <;> rfl
theorem w_areturn (X : Pos Z a0 n0 p l e R s m args below meth c code ml (some (.array t0)) y T h k j) {v : Value} (hv : v.isRef = true) (hd : Dec code pc .areturn 1 nx) (hk : k ≤ R.cells) (hj : j ≤ R.slots) (hq : Q (some v) h) : Wp n0 p e R s below Q T (mkF m pc Ls [v]) := by
  obtain ⟨hx, hZ, hby, hml, hret, hown, hnm, hlk, eT, hn0, hw, locs, N, Y⟩ := X
  obtain ⟨hd, -⟩ := hd
  obtain ⟨fs, hr, hrun, hended, hW, hsame⟩ := Y.leave (v := some v) (fun h => by rw [hret] at h; cases h) hlk
  exact ⟨_, _, Y.areturnOut hx hv hret rfl (hb hby hd) hr, hrun, hended, _, _, rfl, ⟨N, by show n0 ≤ T.heap.size; rw [eT]; exact hn0, by show Q _ T.heap; rw [eT]; exact hq⟩, ⟨_, rfl⟩, hW, hsame.mono hk hj⟩
theorem w_private (X : Pos Z a0 n0 p l e R s m args below meth c code ml ret y T h k j) {z z0 : MethodName} {cz : ByteArray} {mz : Nat} {rz : Option FieldType} {rm : Room} {Qz : Option Value → Heap → Prop} {ps : List FieldType} {rr : Option FieldType} {i : Nat} {argsL : List Value} {a : Addr} (hd : Dec code pc (.invokevirtual i) 3 nx) (C : Ctr l Z n0 z cz mz rz rm [] (.ref a :: argsL).toArray h Qz) {K : String} (E : Exa Z h a K) (wl : (Jvm.Cond.methodLink y.cls i z).before a0 Z = true) (wim : (Jvm.Cond.instanceMethod z).before a0 Z = true) (wpr : (Jvm.Cond.privateMethod z).before a0 Z = true) (wse : (Jvm.Cond.selects z0.cls z0 z0).before a0 Z = true) (h0 : z0.cls = z.cls) (wi : (Jvm.Cond.initialized z.cls).before a0 Z = true) (wc : (Jvm.Cond.code z cz mz rz).before a0 Z = true)
    (hz : z.cls ≠ "java/lang/invoke/MethodHandle" ∧ z.cls ≠ "java/lang/invoke/VarHandle") (hpd : parseMethodDescriptor z.desc = some ⟨ps, rr⟩) (hlen : argsL.length = ps.length) {S0 : List Value} (hS : S0 = argsL.reverse ++ .ref a :: S) (hsz : Ls.size = ml)
    (hf : rm.frames + 1 ≤ R.frames) (hlo : (S.map fun v => v.category).sum + (mz + 11) + rm.locals ≤ R.locals) (hk : k + rm.cells ≤ R.cells) (hj : j + rm.slots ≤ R.slots)
    (q : ∀ v T' h', Pos Z a0 n0 p l e R s m args below meth c code ml ret y T' h' (k + rm.cells) (j + rm.slots) → Qz v h' → Wp n0 p e R s below Q T' (mkF m nx Ls (v.toList ++ S))) : Wp n0 p e R s below Q T (mkF m pc Ls S0) := by
  obtain ⟨hx, hZ, hby, hml, hret, hown, hnm, hlk, eT, hn0, hw, locs, N, Y⟩ := X
  obtain ⟨hd, rfl⟩ := hd
  have Ctr' := backOf (l := l) (R := R) (p := p) (e := e) (below := below) (s := s) (args := args) (len := 3) (W := (S.map fun v => v.category).sum) (Q := fun v h L => Fr n0 L ∧ n0 ≤ h.size ∧ Qz v h) C hZ wc wi hf hlo
  obtain ⟨c2, r2, m2, -, -, q3, -, kP, hkP, hkPi⟩ := Cond.selects_spec (mvT (args := args) hZ wse)
  have hfc := findClass_of_methodNamed q3
  rw [h0] at hfc
  have hpr : s.PrivateAt z := Cond.privateMethod_at (mvP (args := args) hZ wpr)
  have hse := selects_self_of_private hfc hkP hkPi hpr (mvT (args := args) hZ wim) hz
  obtain ⟨cell, hcell, hobj⟩ := Exa.cell E
  obtain ⟨v, _, ⟨T', L', k', j'⟩, -, Y', ⟨Lc, hQ, l1, l2, l3⟩, st⟩ := Y.privateBack hx (y := z) hown (mvT hZ wl) (mvT hZ wim) hse hpr (mvT hZ wc) hz Ctr' (g := mkF m pc Ls S0) rfl (by rw [hml]; exact hsz) (Steps.refl _) (a := a) (by rw [eT]; exact hcell) hobj (argsL := argsL) (rest := S) (lenOf hpd hlen) hS (by show 2 * 0 + _ ≤ _; omega) (hb hby hd) (fun _ _ => ⟨rfl, eT, hk, hj⟩)
  dsimp only [Pt.U, Pt.locs, Pt.cells, Pt.slots] at Y' l1 l2 l3 st hQ
  subst l1 l2 l3
  obtain ⟨N', hn', hQ⟩ := hQ
  exact Wp.go (fun _ t => st.trans t) (q v T' _ ⟨hx, hZ, hby, hml, hret, hown, hnm, hlk, rfl, hn', hw, _, Fr.app N N', Y'⟩ hQ)
theorem arv_of {a : Addr} {ty : FieldType} {n : Nat} {g : Nat → Value} (B : Ba Z n0 h a ty n g) (hf : ∀ i, i < n → fits ty (g i) = true) (d : Value) : ∃ kc, Arv Z h a kc ty (Int32.ofNat n) ((List.range n).map g) d := by
  obtain ⟨h1, h2, cl, A, hs, hv⟩ := B
  have hg : ∀ i, i < n → ((List.range n).map g).getD i d = g i := fun i hi => by simp [List.getD_eq_getElem?_getD, hi]
  refine ⟨cl.cls, cl, A, rfl, by rw [hs, ofNat_clamp h2], ofNat_nn h2, fun i hi => ?_, fun i hi => ?_⟩
  · rw [hs] at hi; rw [hv i hi, hg i hi]
  · rw [hs] at hi; rw [hg i hi]; exact hf i hi
theorem w_arraycopy (X : Pos Z a0 n0 p l e R s m args below meth c code ml ret y T h k j) {i : Nat} {a b : Addr} {ty : FieldType} {n n' cnt : Nat} {g g' : Nat → Value} (hd : Dec code pc (.invokestatic i) 3 nx) (w1 : (Jvm.Cond.methodLink y.cls i Jvm.Stand.acN).before a0 Z = true) (w2 : (Jvm.Cond.native Jvm.Stand.acN).before a0 Z = true) (w3 : (Jvm.Cond.static Jvm.Stand.acN).before a0 Z = true) (w4 : (Jvm.Cond.initialized "java/lang/System").before a0 Z = true)
    (A : Ba Z n0 h a ty n g) (B : Ba Z n0 h b ty n' g') (hty : refKind ty = false) (hfa : ∀ i, i < n → fits ty (g i) = true) (hfb : ∀ i, i < n' → fits ty (g' i) = true) (hc1 : cnt ≤ n) (hc2 : cnt ≤ n') (hsz : Ls.size = ml) (hf : 1 ≤ R.frames) (hlo : (S.map fun v => v.category).sum + (nativeFrameWords "java/lang/System" "arraycopy" 5 + 11) ≤ R.locals)
    (q : ∀ T' h', Pos Z a0 n0 p l e R s m args below meth c code ml ret y T' h' k j → Keep h h' [b] → Ba Z n0 h' b ty n' (fun i => if i < cnt then g i else g' i) → Wp n0 p e R s below Q T' (mkF m nx Ls S)) : Wp n0 p e R s below Q T (mkF m pc Ls (.int (Int32.ofNat cnt) :: .int 0 :: .ref b :: .int 0 :: .ref a :: S)) := by
  obtain ⟨hx, hZ, hby, hml, hret, hown, hnm, hlk, eT, hn0, hw, locs, N, Y⟩ := X
  obtain ⟨hd, rfl⟩ := hd
  have hn1 := A.2.1
  have hn2 := B.2.1
  have hb0 := B.1
  obtain ⟨ka, VA⟩ := arv_of A hfa (.int 0)
  obtain ⟨kb, VB⟩ := arv_of B hfb (.int 0)
  have z0 : (0 : Int32).toNatClampNeg = 0 := rfl
  obtain ⟨T', h', L', Y', e', N', K', V', st⟩ := cpA Y hx hZ hown w1 w2 w3 w4 eT VA VB (sp := 0) (dp := 0) (nn := Int32.ofNat cnt) (Or.inl ⟨rfl, hty⟩) (by decide) (by decide) (ofNat_nn (by omega)) (by rw [z0, ofNat_clamp (by omega), ofNat_clamp (by omega)]; omega) (by rw [z0, ofNat_clamp (by omega), ofNat_clamp (by omega)]; omega) rfl (by rw [z0, ofNat_clamp (by omega), List.length_map, List.length_range]; omega) N hb0 (g := mkF m pc Ls (.int (Int32.ofNat cnt) :: .int 0 :: .ref b :: .int 0 :: .ref a :: S)) rfl (by rw [hml]; exact hsz) rfl (hb hby hd) hf (W := (S.map fun v => v.category).sum) (by show 2 * 0 + _ ≤ _; omega) hlo
  refine Wp.go st (q T' h' ⟨hx, hZ, hby, hml, hret, hown, hnm, hlk, e', Nat.le_trans hn0 K'.1, hw, _, N', Y'⟩ K' ?_)
  obtain ⟨cl, Ar, -, S', -, H, -⟩ := V'
  rw [ofNat_clamp (by omega)] at S'
  refine ⟨hb0, hn2, cl, Ar, S', fun q hq => ?_⟩
  have := H q (by rw [S']; exact hq)
  rw [this, z0, ofNat_clamp (by omega)]
  congr 1
  simp only [List.take_zero, List.nil_append, Nat.zero_add]
  by_cases hqc : q < cnt
  · rw [if_pos hqc]
    simp [List.getD_eq_getElem?_getD, List.getElem?_append, hqc, show q < n by omega]
  · rw [if_neg hqc]
    simp [List.getD_eq_getElem?_getD, List.getElem?_append, hqc, show cnt + (q - cnt) = q by omega, hq]
end OwnTwo
-- CUT
/-- the bits that a count needs, one at least -/
def bt (u : Nat) : Nat := max 1 (if u = 0 then 0 else u.log2 + 1)
theorem bt_spec (u : Nat) (hu : u < 2147483648) : 1 ≤ bt u ∧ bt u ≤ 31 ∧ u < 2 ^ bt u ∧ (bt u = 1 ∨ 2 ^ (bt u - 1) ≤ u) := by
  unfold bt
  by_cases h : u = 0
  · rw [if_pos h, h]; decide
  · rw [if_neg h]
    have h1 := (Nat.log2_lt h (k := 31)).mpr hu
    rw [Nat.max_eq_right (by omega)]
    exact ⟨by omega, by omega, Nat.lt_log2_self, Or.inr (by rw [Nat.add_sub_cancel]; exact Nat.log2_self_le h)⟩
theorem own_uniq {u bl t : Nat} (h1 : u < 2 ^ bl) (h2 : bl = 0 ∨ 2 ^ (bl - 1) ≤ u) (h3 : 2 ^ t ≤ u) (h4 : u < 2 ^ (t + 1)) : bl = t + 1 := by
  have a1 : t < bl := (Nat.pow_lt_pow_iff_right (a := 2) (by decide)).mp (Nat.lt_of_le_of_lt h3 h1)
  rcases h2 with h2 | h2
  · omega
  · have a2 : bl - 1 < t + 1 := (Nat.pow_lt_pow_iff_right (a := 2) (by decide)).mp (Nat.lt_of_le_of_lt h2 h4)
    omega
/-- where a field of b bits is put -/
def plc (en b : Nat) : Nat := if 64 < en % 64 + b then en + (64 - en % 64) else en
theorem plc_spec (en b : Nat) (h0 : 1 ≤ b) (hb : b ≤ 31) : en ≤ plc en b ∧ plc en b % 64 + b ≤ 64 ∧ plc en b + b ≤ en + 2 * b := by
  unfold plc; split <;> omega
theorem nL_div {a k : Nat} (ha : a < 9223372036854775808) (h1 : 1 < k) (hk : k < 9223372036854775808) : Int64.ofNat a / Int64.ofNat k = Int64.ofNat (a / k) := by
  have hd : a / k ≤ a := Nat.div_le_self _ _
  refine eq_ofNatL (by omega) ?_
  rw [(c_ldiv (Int64.ofNat a) (Int64.ofNat k) k (ofNatL_toInt hk) (fun q => by have := congrArg Int64.toInt q; rw [ofNatL_toInt hk, show (-1 : Int64).toInt = -1 from rfl] at this; omega)).1 (by rw [ofNatL_toInt ha]; omega), ofNatL_toInt ha]
  exact (Int.natCast_ediv _ _).symm
theorem nL_rem {a k : Nat} (ha : a < 9223372036854775808) (h1 : 0 < k) (hk : k < 9223372036854775808) : Int64.ofNat a - (Int64.ofNat a / Int64.ofNat k) * Int64.ofNat k = Int64.ofNat (a % k) := by
  have hm := Nat.mod_lt a h1
  refine eq_ofNatL (by omega) ?_
  rw [(c_lrem (Int64.ofNat a) (Int64.ofNat k) k (ofNatL_toInt hk)).1 (by rw [ofNatL_toInt ha]; omega), ofNatL_toInt ha]
  exact (Int.natCast_emod _ _).symm
theorem n_div {a k : Nat} (ha : a < 2147483648) (h1 : 1 < k) (hk : k < 2147483648) : Int32.ofNat a / Int32.ofNat k = Int32.ofNat (a / k) := by
  have hd : a / k ≤ a := Nat.div_le_self _ _
  refine eq_ofNat (by omega) ?_
  rw [(c_idiv (Int32.ofNat a) (Int32.ofNat k) k (ofNat_toInt hk) (fun q => by have := congrArg Int32.toInt q; rw [ofNat_toInt hk, show (-1 : Int32).toInt = -1 from rfl] at this; omega)).1 (by rw [ofNat_toInt ha]; omega), ofNat_toInt ha]
  exact (Int.natCast_ediv _ _).symm
theorem own_mask {b : Nat} (hb : b < 63) : jshlL 1 (Int32.ofNat b) - 1 = Int64.ofNat (2 ^ b - 1) := by
  rw [show jshlL 1 (Int32.ofNat b) = Int64.ofNat (1 * 2 ^ b) from nL_shl 1 (by omega), Nat.one_mul]
  exact nL_sub (b := 1) (Nat.two_pow_pos b)
theorem set_self {α : Type} {L : List α} {i : Nat} {x z : α} (e : L[i]? = some x) : (L.set i z)[i]? = some z := by
  rw [List.getElem?_set_self']; rw [e]; rfl
theorem set_ne {α : Type} {L : List α} {i q : Nat} {x z : α} (h : q ≠ i) (e : L[q]? = some x) : (L.set i z)[q]? = some x := by
  rw [List.getElem?_set_ne (Ne.symm h)]; exact e
def Pak (Z : State) (n0 : Nat) (h : Heap) (o : Addr) (v_0 v_1 v_2 v_3 v_4 v_5 v_6 v_7 v_8 v_9 v_10 v_11 v_12 v_13 v_14 : Value) : Prop := n0 ≤ o ∧ Exa Z h o "com/example/tokenfold/tokenfold/statespace/Packing" ∧ Fld Z h o "com/example/tokenfold/tokenfold/statespace/Packing" "extraSlots" "[I" v_0 ∧ Fld Z h o "com/example/tokenfold/tokenfold/statespace/Packing" "extraWords" "[I" v_1 ∧ Fld Z h o "com/example/tokenfold/tokenfold/statespace/Packing" "extraShifts" "[I" v_2 ∧ Fld Z h o "com/example/tokenfold/tokenfold/statespace/Packing" "extraLows" "[I" v_3 ∧ Fld Z h o "com/example/tokenfold/tokenfold/statespace/Packing" "extraMasks" "[J" v_4 ∧ Fld Z h o "com/example/tokenfold/tokenfold/statespace/Packing" "nextExtras" "[I" v_5 ∧ Fld Z h o "com/example/tokenfold/tokenfold/statespace/Packing" "words" "[I" v_6 ∧ Fld Z h o "com/example/tokenfold/tokenfold/statespace/Packing" "shifts" "[I" v_7 ∧ Fld Z h o "com/example/tokenfold/tokenfold/statespace/Packing" "masks" "[J" v_8 ∧ Fld Z h o "com/example/tokenfold/tokenfold/statespace/Packing" "widths" "[I" v_9 ∧ Fld Z h o "com/example/tokenfold/tokenfold/statespace/Packing" "firstExtras" "[I" v_10 ∧ Fld Z h o "com/example/tokenfold/tokenfold/statespace/Packing" "lastExtras" "[I" v_11 ∧ Fld Z h o "com/example/tokenfold/tokenfold/statespace/Packing" "extras" "I" v_12 ∧ Fld Z h o "com/example/tokenfold/tokenfold/statespace/Packing" "end" "J" v_13 ∧ Fld Z h o "com/example/tokenfold/tokenfold/statespace/Packing" "recordWords" "I" v_14
theorem Pak.ext {Z : State} {n0 : Nat} {h h' : Heap} {o : Addr} {v_0 v_1 v_2 v_3 v_4 v_5 v_6 v_7 v_8 v_9 v_10 v_11 v_12 v_13 v_14 : Value} (O : Pak Z n0 h o v_0 v_1 v_2 v_3 v_4 v_5 v_6 v_7 v_8 v_9 v_10 v_11 v_12 v_13 v_14) (X : Ext h h') : Pak Z n0 h' o v_0 v_1 v_2 v_3 v_4 v_5 v_6 v_7 v_8 v_9 v_10 v_11 v_12 v_13 v_14 := by
  obtain ⟨q0, E, F0, F1, F2, F3, F4, F5, F6, F7, F8, F9, F10, F11, F12, F13, F14⟩ := O
  exact ⟨q0, E.ext X, F0.ext X, F1.ext X, F2.ext X, F3.ext X, F4.ext X, F5.ext X, F6.ext X, F7.ext X, F8.ext X, F9.ext X, F10.ext X, F11.ext X, F12.ext X, F13.ext X, F14.ext X⟩
theorem Pak.keep {Z : State} {n0 : Nat} {h h' : Heap} {o : Addr} {v_0 v_1 v_2 v_3 v_4 v_5 v_6 v_7 v_8 v_9 v_10 v_11 v_12 v_13 v_14 : Value} {ws : List Addr} (O : Pak Z n0 h o v_0 v_1 v_2 v_3 v_4 v_5 v_6 v_7 v_8 v_9 v_10 v_11 v_12 v_13 v_14) (K : Keep h h' ws) (q : o ∉ ws) : Pak Z n0 h' o v_0 v_1 v_2 v_3 v_4 v_5 v_6 v_7 v_8 v_9 v_10 v_11 v_12 v_13 v_14 := by
  obtain ⟨q0, E, F0, F1, F2, F3, F4, F5, F6, F7, F8, F9, F10, F11, F12, F13, F14⟩ := O
  exact ⟨q0, E.keep K, F0.keep K q, F1.keep K q, F2.keep K q, F3.keep K q, F4.keep K q, F5.keep K q, F6.keep K q, F7.keep K q, F8.keep K q, F9.keep K q, F10.keep K q, F11.keep K q, F12.keep K q, F13.keep K q, F14.keep K q⟩
theorem Pak.neB {Z : State} {n0 : Nat} {h : Heap} {o : Addr} {v_0 v_1 v_2 v_3 v_4 v_5 v_6 v_7 v_8 v_9 v_10 v_11 v_12 v_13 v_14 : Value} {a0 : Array Value} {a : Addr} {ty : FieldType} {n : Nat} {g : Nat → Value} (hw : ∀ d ∈ tables_1, d.before a0 Z = true) (O : Pak Z n0 h o v_0 v_1 v_2 v_3 v_4 v_5 v_6 v_7 v_8 v_9 v_10 v_11 v_12 v_13 v_14) (B : Ba Z n0 h a ty n g) : o ≠ a := by
  obtain ⟨-, -, c, A, -⟩ := B
  exact ne_arr O.2.1 (hw _ (List.mem_of_getElem? (i := 8) rfl)) A
theorem Pak.keepB {Z : State} {n0 : Nat} {h h' : Heap} {o : Addr} {v_0 v_1 v_2 v_3 v_4 v_5 v_6 v_7 v_8 v_9 v_10 v_11 v_12 v_13 v_14 : Value} {a0 : Array Value} {a : Addr} {ty : FieldType} {n : Nat} {g : Nat → Value} (hw : ∀ d ∈ tables_1, d.before a0 Z = true) (O : Pak Z n0 h o v_0 v_1 v_2 v_3 v_4 v_5 v_6 v_7 v_8 v_9 v_10 v_11 v_12 v_13 v_14) (B : Ba Z n0 h a ty n g) (K : Keep h h' [a]) : Pak Z n0 h' o v_0 v_1 v_2 v_3 v_4 v_5 v_6 v_7 v_8 v_9 v_10 v_11 v_12 v_13 v_14 := O.keep K (ninS (O.neB hw B) nin0)
theorem Pak.baW {Z : State} {n0 : Nat} {h h' : Heap} {o : Addr} {v_0 v_1 v_2 v_3 v_4 v_5 v_6 v_7 v_8 v_9 v_10 v_11 v_12 v_13 v_14 : Value} {a0 : Array Value} {a : Addr} {ty : FieldType} {n sl : Nat} {v : Value} {g : Nat → Value} (hw : ∀ d ∈ tables_1, d.before a0 Z = true) (O : Pak Z n0 h o v_0 v_1 v_2 v_3 v_4 v_5 v_6 v_7 v_8 v_9 v_10 v_11 v_12 v_13 v_14) (B : Ba Z n0 h a ty n g) (W : Wr h h' o sl v) : Ba Z n0 h' a ty n g := B.keep (Keep.of_wr W) (ninS (Ne.symm (O.neB hw B)) nin0)
theorem Pak.baK {Z : State} {n0 : Nat} {h h' : Heap} {o : Addr} {v_0 v_1 v_2 v_3 v_4 v_5 v_6 v_7 v_8 v_9 v_10 v_11 v_12 v_13 v_14 : Value} {a0 : Array Value} {a : Addr} {ty : FieldType} {n : Nat} {g : Nat → Value} (hw : ∀ d ∈ tables_1, d.before a0 Z = true) (O : Pak Z n0 h o v_0 v_1 v_2 v_3 v_4 v_5 v_6 v_7 v_8 v_9 v_10 v_11 v_12 v_13 v_14) (B : Ba Z n0 h a ty n g) (K : Keep h h' [o]) : Ba Z n0 h' a ty n g := B.keep K (ninS (Ne.symm (O.neB hw B)) nin0)
theorem Pak.put_extraSlots {Z : State} {n0 : Nat} {h h' : Heap} {o : Addr} {v_0 v_1 v_2 v_3 v_4 v_5 v_6 v_7 v_8 v_9 v_10 v_11 v_12 v_13 v_14 : Value} {a0 : Array Value} {v : Value} (hw : ∀ d ∈ tables_1, d.before a0 Z = true) (O : Pak Z n0 h o v_0 v_1 v_2 v_3 v_4 v_5 v_6 v_7 v_8 v_9 v_10 v_11 v_12 v_13 v_14) (W : Wr h h' o (Jvm.RoadKit.slotOf Z "com/example/tokenfold/tokenfold/statespace/Packing" "extraSlots" "[I") v) : Pak Z n0 h' o v v_1 v_2 v_3 v_4 v_5 v_6 v_7 v_8 v_9 v_10 v_11 v_12 v_13 v_14 := by
  obtain ⟨q0, E, F0, F1, F2, F3, F4, F5, F6, F7, F8, F9, F10, F11, F12, F13, F14⟩ := O
  exact ⟨q0, E.wr W, (F0.same W), (F1.other W (Or.inr (slot_ne (Or.inl (hw _ (List.mem_of_getElem? (i := 19) rfl))) (Or.inl (hw _ (List.mem_of_getElem? (i := 17) rfl))) (by decide) (t := (.array .int)) (t' := (.array .int)) (by decide) (by decide)))), (F2.other W (Or.inr (slot_ne (Or.inl (hw _ (List.mem_of_getElem? (i := 21) rfl))) (Or.inl (hw _ (List.mem_of_getElem? (i := 17) rfl))) (by decide) (t := (.array .int)) (t' := (.array .int)) (by decide) (by decide)))), (F3.other W (Or.inr (slot_ne (Or.inl (hw _ (List.mem_of_getElem? (i := 23) rfl))) (Or.inl (hw _ (List.mem_of_getElem? (i := 17) rfl))) (by decide) (t := (.array .int)) (t' := (.array .int)) (by decide) (by decide)))), (F4.other W (Or.inr (slot_ne (Or.inl (hw _ (List.mem_of_getElem? (i := 25) rfl))) (Or.inl (hw _ (List.mem_of_getElem? (i := 17) rfl))) (by decide) (t := (.array .long)) (t' := (.array .int)) (by decide) (by decide)))), (F5.other W (Or.inr (slot_ne (Or.inl (hw _ (List.mem_of_getElem? (i := 27) rfl))) (Or.inl (hw _ (List.mem_of_getElem? (i := 17) rfl))) (by decide) (t := (.array .int)) (t' := (.array .int)) (by decide) (by decide)))), (F6.other W (Or.inr (slot_ne (Or.inr (hw _ (List.mem_of_getElem? (i := 29) rfl))) (Or.inl (hw _ (List.mem_of_getElem? (i := 17) rfl))) (by decide) (t := (.array .int)) (t' := (.array .int)) (by decide) (by decide)))), (F7.other W (Or.inr (slot_ne (Or.inr (hw _ (List.mem_of_getElem? (i := 31) rfl))) (Or.inl (hw _ (List.mem_of_getElem? (i := 17) rfl))) (by decide) (t := (.array .int)) (t' := (.array .int)) (by decide) (by decide)))), (F8.other W (Or.inr (slot_ne (Or.inr (hw _ (List.mem_of_getElem? (i := 33) rfl))) (Or.inl (hw _ (List.mem_of_getElem? (i := 17) rfl))) (by decide) (t := (.array .long)) (t' := (.array .int)) (by decide) (by decide)))), (F9.other W (Or.inr (slot_ne (Or.inr (hw _ (List.mem_of_getElem? (i := 35) rfl))) (Or.inl (hw _ (List.mem_of_getElem? (i := 17) rfl))) (by decide) (t := (.array .int)) (t' := (.array .int)) (by decide) (by decide)))), (F10.other W (Or.inr (slot_ne (Or.inr (hw _ (List.mem_of_getElem? (i := 37) rfl))) (Or.inl (hw _ (List.mem_of_getElem? (i := 17) rfl))) (by decide) (t := (.array .int)) (t' := (.array .int)) (by decide) (by decide)))), (F11.other W (Or.inr (slot_ne (Or.inr (hw _ (List.mem_of_getElem? (i := 39) rfl))) (Or.inl (hw _ (List.mem_of_getElem? (i := 17) rfl))) (by decide) (t := (.array .int)) (t' := (.array .int)) (by decide) (by decide)))), (F12.other W (Or.inr (slot_ne (Or.inl (hw _ (List.mem_of_getElem? (i := 82) rfl))) (Or.inl (hw _ (List.mem_of_getElem? (i := 17) rfl))) (by decide) (t := .int) (t' := (.array .int)) (by decide) (by decide)))), (F13.other W (Or.inr (slot_ne (Or.inl (hw _ (List.mem_of_getElem? (i := 61) rfl))) (Or.inl (hw _ (List.mem_of_getElem? (i := 17) rfl))) (by decide) (t := .long) (t' := (.array .int)) (by decide) (by decide)))), (F14.other W (Or.inr (slot_ne (Or.inl (hw _ (List.mem_of_getElem? (i := 64) rfl))) (Or.inl (hw _ (List.mem_of_getElem? (i := 17) rfl))) (by decide) (t := .int) (t' := (.array .int)) (by decide) (by decide))))⟩
theorem Pak.put_extraWords {Z : State} {n0 : Nat} {h h' : Heap} {o : Addr} {v_0 v_1 v_2 v_3 v_4 v_5 v_6 v_7 v_8 v_9 v_10 v_11 v_12 v_13 v_14 : Value} {a0 : Array Value} {v : Value} (hw : ∀ d ∈ tables_1, d.before a0 Z = true) (O : Pak Z n0 h o v_0 v_1 v_2 v_3 v_4 v_5 v_6 v_7 v_8 v_9 v_10 v_11 v_12 v_13 v_14) (W : Wr h h' o (Jvm.RoadKit.slotOf Z "com/example/tokenfold/tokenfold/statespace/Packing" "extraWords" "[I") v) : Pak Z n0 h' o v_0 v v_2 v_3 v_4 v_5 v_6 v_7 v_8 v_9 v_10 v_11 v_12 v_13 v_14 := by
  obtain ⟨q0, E, F0, F1, F2, F3, F4, F5, F6, F7, F8, F9, F10, F11, F12, F13, F14⟩ := O
  exact ⟨q0, E.wr W, (F0.other W (Or.inr (slot_ne (Or.inl (hw _ (List.mem_of_getElem? (i := 17) rfl))) (Or.inl (hw _ (List.mem_of_getElem? (i := 19) rfl))) (by decide) (t := (.array .int)) (t' := (.array .int)) (by decide) (by decide)))), (F1.same W), (F2.other W (Or.inr (slot_ne (Or.inl (hw _ (List.mem_of_getElem? (i := 21) rfl))) (Or.inl (hw _ (List.mem_of_getElem? (i := 19) rfl))) (by decide) (t := (.array .int)) (t' := (.array .int)) (by decide) (by decide)))), (F3.other W (Or.inr (slot_ne (Or.inl (hw _ (List.mem_of_getElem? (i := 23) rfl))) (Or.inl (hw _ (List.mem_of_getElem? (i := 19) rfl))) (by decide) (t := (.array .int)) (t' := (.array .int)) (by decide) (by decide)))), (F4.other W (Or.inr (slot_ne (Or.inl (hw _ (List.mem_of_getElem? (i := 25) rfl))) (Or.inl (hw _ (List.mem_of_getElem? (i := 19) rfl))) (by decide) (t := (.array .long)) (t' := (.array .int)) (by decide) (by decide)))), (F5.other W (Or.inr (slot_ne (Or.inl (hw _ (List.mem_of_getElem? (i := 27) rfl))) (Or.inl (hw _ (List.mem_of_getElem? (i := 19) rfl))) (by decide) (t := (.array .int)) (t' := (.array .int)) (by decide) (by decide)))), (F6.other W (Or.inr (slot_ne (Or.inr (hw _ (List.mem_of_getElem? (i := 29) rfl))) (Or.inl (hw _ (List.mem_of_getElem? (i := 19) rfl))) (by decide) (t := (.array .int)) (t' := (.array .int)) (by decide) (by decide)))), (F7.other W (Or.inr (slot_ne (Or.inr (hw _ (List.mem_of_getElem? (i := 31) rfl))) (Or.inl (hw _ (List.mem_of_getElem? (i := 19) rfl))) (by decide) (t := (.array .int)) (t' := (.array .int)) (by decide) (by decide)))), (F8.other W (Or.inr (slot_ne (Or.inr (hw _ (List.mem_of_getElem? (i := 33) rfl))) (Or.inl (hw _ (List.mem_of_getElem? (i := 19) rfl))) (by decide) (t := (.array .long)) (t' := (.array .int)) (by decide) (by decide)))), (F9.other W (Or.inr (slot_ne (Or.inr (hw _ (List.mem_of_getElem? (i := 35) rfl))) (Or.inl (hw _ (List.mem_of_getElem? (i := 19) rfl))) (by decide) (t := (.array .int)) (t' := (.array .int)) (by decide) (by decide)))), (F10.other W (Or.inr (slot_ne (Or.inr (hw _ (List.mem_of_getElem? (i := 37) rfl))) (Or.inl (hw _ (List.mem_of_getElem? (i := 19) rfl))) (by decide) (t := (.array .int)) (t' := (.array .int)) (by decide) (by decide)))), (F11.other W (Or.inr (slot_ne (Or.inr (hw _ (List.mem_of_getElem? (i := 39) rfl))) (Or.inl (hw _ (List.mem_of_getElem? (i := 19) rfl))) (by decide) (t := (.array .int)) (t' := (.array .int)) (by decide) (by decide)))), (F12.other W (Or.inr (slot_ne (Or.inl (hw _ (List.mem_of_getElem? (i := 82) rfl))) (Or.inl (hw _ (List.mem_of_getElem? (i := 19) rfl))) (by decide) (t := .int) (t' := (.array .int)) (by decide) (by decide)))), (F13.other W (Or.inr (slot_ne (Or.inl (hw _ (List.mem_of_getElem? (i := 61) rfl))) (Or.inl (hw _ (List.mem_of_getElem? (i := 19) rfl))) (by decide) (t := .long) (t' := (.array .int)) (by decide) (by decide)))), (F14.other W (Or.inr (slot_ne (Or.inl (hw _ (List.mem_of_getElem? (i := 64) rfl))) (Or.inl (hw _ (List.mem_of_getElem? (i := 19) rfl))) (by decide) (t := .int) (t' := (.array .int)) (by decide) (by decide))))⟩
theorem Pak.put_extraShifts {Z : State} {n0 : Nat} {h h' : Heap} {o : Addr} {v_0 v_1 v_2 v_3 v_4 v_5 v_6 v_7 v_8 v_9 v_10 v_11 v_12 v_13 v_14 : Value} {a0 : Array Value} {v : Value} (hw : ∀ d ∈ tables_1, d.before a0 Z = true) (O : Pak Z n0 h o v_0 v_1 v_2 v_3 v_4 v_5 v_6 v_7 v_8 v_9 v_10 v_11 v_12 v_13 v_14) (W : Wr h h' o (Jvm.RoadKit.slotOf Z "com/example/tokenfold/tokenfold/statespace/Packing" "extraShifts" "[I") v) : Pak Z n0 h' o v_0 v_1 v v_3 v_4 v_5 v_6 v_7 v_8 v_9 v_10 v_11 v_12 v_13 v_14 := by
  obtain ⟨q0, E, F0, F1, F2, F3, F4, F5, F6, F7, F8, F9, F10, F11, F12, F13, F14⟩ := O
  exact ⟨q0, E.wr W, (F0.other W (Or.inr (slot_ne (Or.inl (hw _ (List.mem_of_getElem? (i := 17) rfl))) (Or.inl (hw _ (List.mem_of_getElem? (i := 21) rfl))) (by decide) (t := (.array .int)) (t' := (.array .int)) (by decide) (by decide)))), (F1.other W (Or.inr (slot_ne (Or.inl (hw _ (List.mem_of_getElem? (i := 19) rfl))) (Or.inl (hw _ (List.mem_of_getElem? (i := 21) rfl))) (by decide) (t := (.array .int)) (t' := (.array .int)) (by decide) (by decide)))), (F2.same W), (F3.other W (Or.inr (slot_ne (Or.inl (hw _ (List.mem_of_getElem? (i := 23) rfl))) (Or.inl (hw _ (List.mem_of_getElem? (i := 21) rfl))) (by decide) (t := (.array .int)) (t' := (.array .int)) (by decide) (by decide)))), (F4.other W (Or.inr (slot_ne (Or.inl (hw _ (List.mem_of_getElem? (i := 25) rfl))) (Or.inl (hw _ (List.mem_of_getElem? (i := 21) rfl))) (by decide) (t := (.array .long)) (t' := (.array .int)) (by decide) (by decide)))), (F5.other W (Or.inr (slot_ne (Or.inl (hw _ (List.mem_of_getElem? (i := 27) rfl))) (Or.inl (hw _ (List.mem_of_getElem? (i := 21) rfl))) (by decide) (t := (.array .int)) (t' := (.array .int)) (by decide) (by decide)))), (F6.other W (Or.inr (slot_ne (Or.inr (hw _ (List.mem_of_getElem? (i := 29) rfl))) (Or.inl (hw _ (List.mem_of_getElem? (i := 21) rfl))) (by decide) (t := (.array .int)) (t' := (.array .int)) (by decide) (by decide)))), (F7.other W (Or.inr (slot_ne (Or.inr (hw _ (List.mem_of_getElem? (i := 31) rfl))) (Or.inl (hw _ (List.mem_of_getElem? (i := 21) rfl))) (by decide) (t := (.array .int)) (t' := (.array .int)) (by decide) (by decide)))), (F8.other W (Or.inr (slot_ne (Or.inr (hw _ (List.mem_of_getElem? (i := 33) rfl))) (Or.inl (hw _ (List.mem_of_getElem? (i := 21) rfl))) (by decide) (t := (.array .long)) (t' := (.array .int)) (by decide) (by decide)))), (F9.other W (Or.inr (slot_ne (Or.inr (hw _ (List.mem_of_getElem? (i := 35) rfl))) (Or.inl (hw _ (List.mem_of_getElem? (i := 21) rfl))) (by decide) (t := (.array .int)) (t' := (.array .int)) (by decide) (by decide)))), (F10.other W (Or.inr (slot_ne (Or.inr (hw _ (List.mem_of_getElem? (i := 37) rfl))) (Or.inl (hw _ (List.mem_of_getElem? (i := 21) rfl))) (by decide) (t := (.array .int)) (t' := (.array .int)) (by decide) (by decide)))), (F11.other W (Or.inr (slot_ne (Or.inr (hw _ (List.mem_of_getElem? (i := 39) rfl))) (Or.inl (hw _ (List.mem_of_getElem? (i := 21) rfl))) (by decide) (t := (.array .int)) (t' := (.array .int)) (by decide) (by decide)))), (F12.other W (Or.inr (slot_ne (Or.inl (hw _ (List.mem_of_getElem? (i := 82) rfl))) (Or.inl (hw _ (List.mem_of_getElem? (i := 21) rfl))) (by decide) (t := .int) (t' := (.array .int)) (by decide) (by decide)))), (F13.other W (Or.inr (slot_ne (Or.inl (hw _ (List.mem_of_getElem? (i := 61) rfl))) (Or.inl (hw _ (List.mem_of_getElem? (i := 21) rfl))) (by decide) (t := .long) (t' := (.array .int)) (by decide) (by decide)))), (F14.other W (Or.inr (slot_ne (Or.inl (hw _ (List.mem_of_getElem? (i := 64) rfl))) (Or.inl (hw _ (List.mem_of_getElem? (i := 21) rfl))) (by decide) (t := .int) (t' := (.array .int)) (by decide) (by decide))))⟩
theorem Pak.put_extraLows {Z : State} {n0 : Nat} {h h' : Heap} {o : Addr} {v_0 v_1 v_2 v_3 v_4 v_5 v_6 v_7 v_8 v_9 v_10 v_11 v_12 v_13 v_14 : Value} {a0 : Array Value} {v : Value} (hw : ∀ d ∈ tables_1, d.before a0 Z = true) (O : Pak Z n0 h o v_0 v_1 v_2 v_3 v_4 v_5 v_6 v_7 v_8 v_9 v_10 v_11 v_12 v_13 v_14) (W : Wr h h' o (Jvm.RoadKit.slotOf Z "com/example/tokenfold/tokenfold/statespace/Packing" "extraLows" "[I") v) : Pak Z n0 h' o v_0 v_1 v_2 v v_4 v_5 v_6 v_7 v_8 v_9 v_10 v_11 v_12 v_13 v_14 := by
  obtain ⟨q0, E, F0, F1, F2, F3, F4, F5, F6, F7, F8, F9, F10, F11, F12, F13, F14⟩ := O
  exact ⟨q0, E.wr W, (F0.other W (Or.inr (slot_ne (Or.inl (hw _ (List.mem_of_getElem? (i := 17) rfl))) (Or.inl (hw _ (List.mem_of_getElem? (i := 23) rfl))) (by decide) (t := (.array .int)) (t' := (.array .int)) (by decide) (by decide)))), (F1.other W (Or.inr (slot_ne (Or.inl (hw _ (List.mem_of_getElem? (i := 19) rfl))) (Or.inl (hw _ (List.mem_of_getElem? (i := 23) rfl))) (by decide) (t := (.array .int)) (t' := (.array .int)) (by decide) (by decide)))), (F2.other W (Or.inr (slot_ne (Or.inl (hw _ (List.mem_of_getElem? (i := 21) rfl))) (Or.inl (hw _ (List.mem_of_getElem? (i := 23) rfl))) (by decide) (t := (.array .int)) (t' := (.array .int)) (by decide) (by decide)))), (F3.same W), (F4.other W (Or.inr (slot_ne (Or.inl (hw _ (List.mem_of_getElem? (i := 25) rfl))) (Or.inl (hw _ (List.mem_of_getElem? (i := 23) rfl))) (by decide) (t := (.array .long)) (t' := (.array .int)) (by decide) (by decide)))), (F5.other W (Or.inr (slot_ne (Or.inl (hw _ (List.mem_of_getElem? (i := 27) rfl))) (Or.inl (hw _ (List.mem_of_getElem? (i := 23) rfl))) (by decide) (t := (.array .int)) (t' := (.array .int)) (by decide) (by decide)))), (F6.other W (Or.inr (slot_ne (Or.inr (hw _ (List.mem_of_getElem? (i := 29) rfl))) (Or.inl (hw _ (List.mem_of_getElem? (i := 23) rfl))) (by decide) (t := (.array .int)) (t' := (.array .int)) (by decide) (by decide)))), (F7.other W (Or.inr (slot_ne (Or.inr (hw _ (List.mem_of_getElem? (i := 31) rfl))) (Or.inl (hw _ (List.mem_of_getElem? (i := 23) rfl))) (by decide) (t := (.array .int)) (t' := (.array .int)) (by decide) (by decide)))), (F8.other W (Or.inr (slot_ne (Or.inr (hw _ (List.mem_of_getElem? (i := 33) rfl))) (Or.inl (hw _ (List.mem_of_getElem? (i := 23) rfl))) (by decide) (t := (.array .long)) (t' := (.array .int)) (by decide) (by decide)))), (F9.other W (Or.inr (slot_ne (Or.inr (hw _ (List.mem_of_getElem? (i := 35) rfl))) (Or.inl (hw _ (List.mem_of_getElem? (i := 23) rfl))) (by decide) (t := (.array .int)) (t' := (.array .int)) (by decide) (by decide)))), (F10.other W (Or.inr (slot_ne (Or.inr (hw _ (List.mem_of_getElem? (i := 37) rfl))) (Or.inl (hw _ (List.mem_of_getElem? (i := 23) rfl))) (by decide) (t := (.array .int)) (t' := (.array .int)) (by decide) (by decide)))), (F11.other W (Or.inr (slot_ne (Or.inr (hw _ (List.mem_of_getElem? (i := 39) rfl))) (Or.inl (hw _ (List.mem_of_getElem? (i := 23) rfl))) (by decide) (t := (.array .int)) (t' := (.array .int)) (by decide) (by decide)))), (F12.other W (Or.inr (slot_ne (Or.inl (hw _ (List.mem_of_getElem? (i := 82) rfl))) (Or.inl (hw _ (List.mem_of_getElem? (i := 23) rfl))) (by decide) (t := .int) (t' := (.array .int)) (by decide) (by decide)))), (F13.other W (Or.inr (slot_ne (Or.inl (hw _ (List.mem_of_getElem? (i := 61) rfl))) (Or.inl (hw _ (List.mem_of_getElem? (i := 23) rfl))) (by decide) (t := .long) (t' := (.array .int)) (by decide) (by decide)))), (F14.other W (Or.inr (slot_ne (Or.inl (hw _ (List.mem_of_getElem? (i := 64) rfl))) (Or.inl (hw _ (List.mem_of_getElem? (i := 23) rfl))) (by decide) (t := .int) (t' := (.array .int)) (by decide) (by decide))))⟩
theorem Pak.put_extraMasks {Z : State} {n0 : Nat} {h h' : Heap} {o : Addr} {v_0 v_1 v_2 v_3 v_4 v_5 v_6 v_7 v_8 v_9 v_10 v_11 v_12 v_13 v_14 : Value} {a0 : Array Value} {v : Value} (hw : ∀ d ∈ tables_1, d.before a0 Z = true) (O : Pak Z n0 h o v_0 v_1 v_2 v_3 v_4 v_5 v_6 v_7 v_8 v_9 v_10 v_11 v_12 v_13 v_14) (W : Wr h h' o (Jvm.RoadKit.slotOf Z "com/example/tokenfold/tokenfold/statespace/Packing" "extraMasks" "[J") v) : Pak Z n0 h' o v_0 v_1 v_2 v_3 v v_5 v_6 v_7 v_8 v_9 v_10 v_11 v_12 v_13 v_14 := by
  obtain ⟨q0, E, F0, F1, F2, F3, F4, F5, F6, F7, F8, F9, F10, F11, F12, F13, F14⟩ := O
  exact ⟨q0, E.wr W, (F0.other W (Or.inr (slot_ne (Or.inl (hw _ (List.mem_of_getElem? (i := 17) rfl))) (Or.inl (hw _ (List.mem_of_getElem? (i := 25) rfl))) (by decide) (t := (.array .int)) (t' := (.array .long)) (by decide) (by decide)))), (F1.other W (Or.inr (slot_ne (Or.inl (hw _ (List.mem_of_getElem? (i := 19) rfl))) (Or.inl (hw _ (List.mem_of_getElem? (i := 25) rfl))) (by decide) (t := (.array .int)) (t' := (.array .long)) (by decide) (by decide)))), (F2.other W (Or.inr (slot_ne (Or.inl (hw _ (List.mem_of_getElem? (i := 21) rfl))) (Or.inl (hw _ (List.mem_of_getElem? (i := 25) rfl))) (by decide) (t := (.array .int)) (t' := (.array .long)) (by decide) (by decide)))), (F3.other W (Or.inr (slot_ne (Or.inl (hw _ (List.mem_of_getElem? (i := 23) rfl))) (Or.inl (hw _ (List.mem_of_getElem? (i := 25) rfl))) (by decide) (t := (.array .int)) (t' := (.array .long)) (by decide) (by decide)))), (F4.same W), (F5.other W (Or.inr (slot_ne (Or.inl (hw _ (List.mem_of_getElem? (i := 27) rfl))) (Or.inl (hw _ (List.mem_of_getElem? (i := 25) rfl))) (by decide) (t := (.array .int)) (t' := (.array .long)) (by decide) (by decide)))), (F6.other W (Or.inr (slot_ne (Or.inr (hw _ (List.mem_of_getElem? (i := 29) rfl))) (Or.inl (hw _ (List.mem_of_getElem? (i := 25) rfl))) (by decide) (t := (.array .int)) (t' := (.array .long)) (by decide) (by decide)))), (F7.other W (Or.inr (slot_ne (Or.inr (hw _ (List.mem_of_getElem? (i := 31) rfl))) (Or.inl (hw _ (List.mem_of_getElem? (i := 25) rfl))) (by decide) (t := (.array .int)) (t' := (.array .long)) (by decide) (by decide)))), (F8.other W (Or.inr (slot_ne (Or.inr (hw _ (List.mem_of_getElem? (i := 33) rfl))) (Or.inl (hw _ (List.mem_of_getElem? (i := 25) rfl))) (by decide) (t := (.array .long)) (t' := (.array .long)) (by decide) (by decide)))), (F9.other W (Or.inr (slot_ne (Or.inr (hw _ (List.mem_of_getElem? (i := 35) rfl))) (Or.inl (hw _ (List.mem_of_getElem? (i := 25) rfl))) (by decide) (t := (.array .int)) (t' := (.array .long)) (by decide) (by decide)))), (F10.other W (Or.inr (slot_ne (Or.inr (hw _ (List.mem_of_getElem? (i := 37) rfl))) (Or.inl (hw _ (List.mem_of_getElem? (i := 25) rfl))) (by decide) (t := (.array .int)) (t' := (.array .long)) (by decide) (by decide)))), (F11.other W (Or.inr (slot_ne (Or.inr (hw _ (List.mem_of_getElem? (i := 39) rfl))) (Or.inl (hw _ (List.mem_of_getElem? (i := 25) rfl))) (by decide) (t := (.array .int)) (t' := (.array .long)) (by decide) (by decide)))), (F12.other W (Or.inr (slot_ne (Or.inl (hw _ (List.mem_of_getElem? (i := 82) rfl))) (Or.inl (hw _ (List.mem_of_getElem? (i := 25) rfl))) (by decide) (t := .int) (t' := (.array .long)) (by decide) (by decide)))), (F13.other W (Or.inr (slot_ne (Or.inl (hw _ (List.mem_of_getElem? (i := 61) rfl))) (Or.inl (hw _ (List.mem_of_getElem? (i := 25) rfl))) (by decide) (t := .long) (t' := (.array .long)) (by decide) (by decide)))), (F14.other W (Or.inr (slot_ne (Or.inl (hw _ (List.mem_of_getElem? (i := 64) rfl))) (Or.inl (hw _ (List.mem_of_getElem? (i := 25) rfl))) (by decide) (t := .int) (t' := (.array .long)) (by decide) (by decide))))⟩
theorem Pak.put_nextExtras {Z : State} {n0 : Nat} {h h' : Heap} {o : Addr} {v_0 v_1 v_2 v_3 v_4 v_5 v_6 v_7 v_8 v_9 v_10 v_11 v_12 v_13 v_14 : Value} {a0 : Array Value} {v : Value} (hw : ∀ d ∈ tables_1, d.before a0 Z = true) (O : Pak Z n0 h o v_0 v_1 v_2 v_3 v_4 v_5 v_6 v_7 v_8 v_9 v_10 v_11 v_12 v_13 v_14) (W : Wr h h' o (Jvm.RoadKit.slotOf Z "com/example/tokenfold/tokenfold/statespace/Packing" "nextExtras" "[I") v) : Pak Z n0 h' o v_0 v_1 v_2 v_3 v_4 v v_6 v_7 v_8 v_9 v_10 v_11 v_12 v_13 v_14 := by
  obtain ⟨q0, E, F0, F1, F2, F3, F4, F5, F6, F7, F8, F9, F10, F11, F12, F13, F14⟩ := O
  exact ⟨q0, E.wr W, (F0.other W (Or.inr (slot_ne (Or.inl (hw _ (List.mem_of_getElem? (i := 17) rfl))) (Or.inl (hw _ (List.mem_of_getElem? (i := 27) rfl))) (by decide) (t := (.array .int)) (t' := (.array .int)) (by decide) (by decide)))), (F1.other W (Or.inr (slot_ne (Or.inl (hw _ (List.mem_of_getElem? (i := 19) rfl))) (Or.inl (hw _ (List.mem_of_getElem? (i := 27) rfl))) (by decide) (t := (.array .int)) (t' := (.array .int)) (by decide) (by decide)))), (F2.other W (Or.inr (slot_ne (Or.inl (hw _ (List.mem_of_getElem? (i := 21) rfl))) (Or.inl (hw _ (List.mem_of_getElem? (i := 27) rfl))) (by decide) (t := (.array .int)) (t' := (.array .int)) (by decide) (by decide)))), (F3.other W (Or.inr (slot_ne (Or.inl (hw _ (List.mem_of_getElem? (i := 23) rfl))) (Or.inl (hw _ (List.mem_of_getElem? (i := 27) rfl))) (by decide) (t := (.array .int)) (t' := (.array .int)) (by decide) (by decide)))), (F4.other W (Or.inr (slot_ne (Or.inl (hw _ (List.mem_of_getElem? (i := 25) rfl))) (Or.inl (hw _ (List.mem_of_getElem? (i := 27) rfl))) (by decide) (t := (.array .long)) (t' := (.array .int)) (by decide) (by decide)))), (F5.same W), (F6.other W (Or.inr (slot_ne (Or.inr (hw _ (List.mem_of_getElem? (i := 29) rfl))) (Or.inl (hw _ (List.mem_of_getElem? (i := 27) rfl))) (by decide) (t := (.array .int)) (t' := (.array .int)) (by decide) (by decide)))), (F7.other W (Or.inr (slot_ne (Or.inr (hw _ (List.mem_of_getElem? (i := 31) rfl))) (Or.inl (hw _ (List.mem_of_getElem? (i := 27) rfl))) (by decide) (t := (.array .int)) (t' := (.array .int)) (by decide) (by decide)))), (F8.other W (Or.inr (slot_ne (Or.inr (hw _ (List.mem_of_getElem? (i := 33) rfl))) (Or.inl (hw _ (List.mem_of_getElem? (i := 27) rfl))) (by decide) (t := (.array .long)) (t' := (.array .int)) (by decide) (by decide)))), (F9.other W (Or.inr (slot_ne (Or.inr (hw _ (List.mem_of_getElem? (i := 35) rfl))) (Or.inl (hw _ (List.mem_of_getElem? (i := 27) rfl))) (by decide) (t := (.array .int)) (t' := (.array .int)) (by decide) (by decide)))), (F10.other W (Or.inr (slot_ne (Or.inr (hw _ (List.mem_of_getElem? (i := 37) rfl))) (Or.inl (hw _ (List.mem_of_getElem? (i := 27) rfl))) (by decide) (t := (.array .int)) (t' := (.array .int)) (by decide) (by decide)))), (F11.other W (Or.inr (slot_ne (Or.inr (hw _ (List.mem_of_getElem? (i := 39) rfl))) (Or.inl (hw _ (List.mem_of_getElem? (i := 27) rfl))) (by decide) (t := (.array .int)) (t' := (.array .int)) (by decide) (by decide)))), (F12.other W (Or.inr (slot_ne (Or.inl (hw _ (List.mem_of_getElem? (i := 82) rfl))) (Or.inl (hw _ (List.mem_of_getElem? (i := 27) rfl))) (by decide) (t := .int) (t' := (.array .int)) (by decide) (by decide)))), (F13.other W (Or.inr (slot_ne (Or.inl (hw _ (List.mem_of_getElem? (i := 61) rfl))) (Or.inl (hw _ (List.mem_of_getElem? (i := 27) rfl))) (by decide) (t := .long) (t' := (.array .int)) (by decide) (by decide)))), (F14.other W (Or.inr (slot_ne (Or.inl (hw _ (List.mem_of_getElem? (i := 64) rfl))) (Or.inl (hw _ (List.mem_of_getElem? (i := 27) rfl))) (by decide) (t := .int) (t' := (.array .int)) (by decide) (by decide))))⟩
theorem Pak.put_words {Z : State} {n0 : Nat} {h h' : Heap} {o : Addr} {v_0 v_1 v_2 v_3 v_4 v_5 v_6 v_7 v_8 v_9 v_10 v_11 v_12 v_13 v_14 : Value} {a0 : Array Value} {v : Value} (hw : ∀ d ∈ tables_1, d.before a0 Z = true) (O : Pak Z n0 h o v_0 v_1 v_2 v_3 v_4 v_5 v_6 v_7 v_8 v_9 v_10 v_11 v_12 v_13 v_14) (W : Wr h h' o (Jvm.RoadKit.slotOf Z "com/example/tokenfold/tokenfold/statespace/Packing" "words" "[I") v) : Pak Z n0 h' o v_0 v_1 v_2 v_3 v_4 v_5 v v_7 v_8 v_9 v_10 v_11 v_12 v_13 v_14 := by
  obtain ⟨q0, E, F0, F1, F2, F3, F4, F5, F6, F7, F8, F9, F10, F11, F12, F13, F14⟩ := O
  exact ⟨q0, E.wr W, (F0.other W (Or.inr (slot_ne (Or.inl (hw _ (List.mem_of_getElem? (i := 17) rfl))) (Or.inr (hw _ (List.mem_of_getElem? (i := 29) rfl))) (by decide) (t := (.array .int)) (t' := (.array .int)) (by decide) (by decide)))), (F1.other W (Or.inr (slot_ne (Or.inl (hw _ (List.mem_of_getElem? (i := 19) rfl))) (Or.inr (hw _ (List.mem_of_getElem? (i := 29) rfl))) (by decide) (t := (.array .int)) (t' := (.array .int)) (by decide) (by decide)))), (F2.other W (Or.inr (slot_ne (Or.inl (hw _ (List.mem_of_getElem? (i := 21) rfl))) (Or.inr (hw _ (List.mem_of_getElem? (i := 29) rfl))) (by decide) (t := (.array .int)) (t' := (.array .int)) (by decide) (by decide)))), (F3.other W (Or.inr (slot_ne (Or.inl (hw _ (List.mem_of_getElem? (i := 23) rfl))) (Or.inr (hw _ (List.mem_of_getElem? (i := 29) rfl))) (by decide) (t := (.array .int)) (t' := (.array .int)) (by decide) (by decide)))), (F4.other W (Or.inr (slot_ne (Or.inl (hw _ (List.mem_of_getElem? (i := 25) rfl))) (Or.inr (hw _ (List.mem_of_getElem? (i := 29) rfl))) (by decide) (t := (.array .long)) (t' := (.array .int)) (by decide) (by decide)))), (F5.other W (Or.inr (slot_ne (Or.inl (hw _ (List.mem_of_getElem? (i := 27) rfl))) (Or.inr (hw _ (List.mem_of_getElem? (i := 29) rfl))) (by decide) (t := (.array .int)) (t' := (.array .int)) (by decide) (by decide)))), (F6.same W), (F7.other W (Or.inr (slot_ne (Or.inr (hw _ (List.mem_of_getElem? (i := 31) rfl))) (Or.inr (hw _ (List.mem_of_getElem? (i := 29) rfl))) (by decide) (t := (.array .int)) (t' := (.array .int)) (by decide) (by decide)))), (F8.other W (Or.inr (slot_ne (Or.inr (hw _ (List.mem_of_getElem? (i := 33) rfl))) (Or.inr (hw _ (List.mem_of_getElem? (i := 29) rfl))) (by decide) (t := (.array .long)) (t' := (.array .int)) (by decide) (by decide)))), (F9.other W (Or.inr (slot_ne (Or.inr (hw _ (List.mem_of_getElem? (i := 35) rfl))) (Or.inr (hw _ (List.mem_of_getElem? (i := 29) rfl))) (by decide) (t := (.array .int)) (t' := (.array .int)) (by decide) (by decide)))), (F10.other W (Or.inr (slot_ne (Or.inr (hw _ (List.mem_of_getElem? (i := 37) rfl))) (Or.inr (hw _ (List.mem_of_getElem? (i := 29) rfl))) (by decide) (t := (.array .int)) (t' := (.array .int)) (by decide) (by decide)))), (F11.other W (Or.inr (slot_ne (Or.inr (hw _ (List.mem_of_getElem? (i := 39) rfl))) (Or.inr (hw _ (List.mem_of_getElem? (i := 29) rfl))) (by decide) (t := (.array .int)) (t' := (.array .int)) (by decide) (by decide)))), (F12.other W (Or.inr (slot_ne (Or.inl (hw _ (List.mem_of_getElem? (i := 82) rfl))) (Or.inr (hw _ (List.mem_of_getElem? (i := 29) rfl))) (by decide) (t := .int) (t' := (.array .int)) (by decide) (by decide)))), (F13.other W (Or.inr (slot_ne (Or.inl (hw _ (List.mem_of_getElem? (i := 61) rfl))) (Or.inr (hw _ (List.mem_of_getElem? (i := 29) rfl))) (by decide) (t := .long) (t' := (.array .int)) (by decide) (by decide)))), (F14.other W (Or.inr (slot_ne (Or.inl (hw _ (List.mem_of_getElem? (i := 64) rfl))) (Or.inr (hw _ (List.mem_of_getElem? (i := 29) rfl))) (by decide) (t := .int) (t' := (.array .int)) (by decide) (by decide))))⟩
theorem Pak.put_shifts {Z : State} {n0 : Nat} {h h' : Heap} {o : Addr} {v_0 v_1 v_2 v_3 v_4 v_5 v_6 v_7 v_8 v_9 v_10 v_11 v_12 v_13 v_14 : Value} {a0 : Array Value} {v : Value} (hw : ∀ d ∈ tables_1, d.before a0 Z = true) (O : Pak Z n0 h o v_0 v_1 v_2 v_3 v_4 v_5 v_6 v_7 v_8 v_9 v_10 v_11 v_12 v_13 v_14) (W : Wr h h' o (Jvm.RoadKit.slotOf Z "com/example/tokenfold/tokenfold/statespace/Packing" "shifts" "[I") v) : Pak Z n0 h' o v_0 v_1 v_2 v_3 v_4 v_5 v_6 v v_8 v_9 v_10 v_11 v_12 v_13 v_14 := by
  obtain ⟨q0, E, F0, F1, F2, F3, F4, F5, F6, F7, F8, F9, F10, F11, F12, F13, F14⟩ := O
  exact ⟨q0, E.wr W, (F0.other W (Or.inr (slot_ne (Or.inl (hw _ (List.mem_of_getElem? (i := 17) rfl))) (Or.inr (hw _ (List.mem_of_getElem? (i := 31) rfl))) (by decide) (t := (.array .int)) (t' := (.array .int)) (by decide) (by decide)))), (F1.other W (Or.inr (slot_ne (Or.inl (hw _ (List.mem_of_getElem? (i := 19) rfl))) (Or.inr (hw _ (List.mem_of_getElem? (i := 31) rfl))) (by decide) (t := (.array .int)) (t' := (.array .int)) (by decide) (by decide)))), (F2.other W (Or.inr (slot_ne (Or.inl (hw _ (List.mem_of_getElem? (i := 21) rfl))) (Or.inr (hw _ (List.mem_of_getElem? (i := 31) rfl))) (by decide) (t := (.array .int)) (t' := (.array .int)) (by decide) (by decide)))), (F3.other W (Or.inr (slot_ne (Or.inl (hw _ (List.mem_of_getElem? (i := 23) rfl))) (Or.inr (hw _ (List.mem_of_getElem? (i := 31) rfl))) (by decide) (t := (.array .int)) (t' := (.array .int)) (by decide) (by decide)))), (F4.other W (Or.inr (slot_ne (Or.inl (hw _ (List.mem_of_getElem? (i := 25) rfl))) (Or.inr (hw _ (List.mem_of_getElem? (i := 31) rfl))) (by decide) (t := (.array .long)) (t' := (.array .int)) (by decide) (by decide)))), (F5.other W (Or.inr (slot_ne (Or.inl (hw _ (List.mem_of_getElem? (i := 27) rfl))) (Or.inr (hw _ (List.mem_of_getElem? (i := 31) rfl))) (by decide) (t := (.array .int)) (t' := (.array .int)) (by decide) (by decide)))), (F6.other W (Or.inr (slot_ne (Or.inr (hw _ (List.mem_of_getElem? (i := 29) rfl))) (Or.inr (hw _ (List.mem_of_getElem? (i := 31) rfl))) (by decide) (t := (.array .int)) (t' := (.array .int)) (by decide) (by decide)))), (F7.same W), (F8.other W (Or.inr (slot_ne (Or.inr (hw _ (List.mem_of_getElem? (i := 33) rfl))) (Or.inr (hw _ (List.mem_of_getElem? (i := 31) rfl))) (by decide) (t := (.array .long)) (t' := (.array .int)) (by decide) (by decide)))), (F9.other W (Or.inr (slot_ne (Or.inr (hw _ (List.mem_of_getElem? (i := 35) rfl))) (Or.inr (hw _ (List.mem_of_getElem? (i := 31) rfl))) (by decide) (t := (.array .int)) (t' := (.array .int)) (by decide) (by decide)))), (F10.other W (Or.inr (slot_ne (Or.inr (hw _ (List.mem_of_getElem? (i := 37) rfl))) (Or.inr (hw _ (List.mem_of_getElem? (i := 31) rfl))) (by decide) (t := (.array .int)) (t' := (.array .int)) (by decide) (by decide)))), (F11.other W (Or.inr (slot_ne (Or.inr (hw _ (List.mem_of_getElem? (i := 39) rfl))) (Or.inr (hw _ (List.mem_of_getElem? (i := 31) rfl))) (by decide) (t := (.array .int)) (t' := (.array .int)) (by decide) (by decide)))), (F12.other W (Or.inr (slot_ne (Or.inl (hw _ (List.mem_of_getElem? (i := 82) rfl))) (Or.inr (hw _ (List.mem_of_getElem? (i := 31) rfl))) (by decide) (t := .int) (t' := (.array .int)) (by decide) (by decide)))), (F13.other W (Or.inr (slot_ne (Or.inl (hw _ (List.mem_of_getElem? (i := 61) rfl))) (Or.inr (hw _ (List.mem_of_getElem? (i := 31) rfl))) (by decide) (t := .long) (t' := (.array .int)) (by decide) (by decide)))), (F14.other W (Or.inr (slot_ne (Or.inl (hw _ (List.mem_of_getElem? (i := 64) rfl))) (Or.inr (hw _ (List.mem_of_getElem? (i := 31) rfl))) (by decide) (t := .int) (t' := (.array .int)) (by decide) (by decide))))⟩
theorem Pak.put_masks {Z : State} {n0 : Nat} {h h' : Heap} {o : Addr} {v_0 v_1 v_2 v_3 v_4 v_5 v_6 v_7 v_8 v_9 v_10 v_11 v_12 v_13 v_14 : Value} {a0 : Array Value} {v : Value} (hw : ∀ d ∈ tables_1, d.before a0 Z = true) (O : Pak Z n0 h o v_0 v_1 v_2 v_3 v_4 v_5 v_6 v_7 v_8 v_9 v_10 v_11 v_12 v_13 v_14) (W : Wr h h' o (Jvm.RoadKit.slotOf Z "com/example/tokenfold/tokenfold/statespace/Packing" "masks" "[J") v) : Pak Z n0 h' o v_0 v_1 v_2 v_3 v_4 v_5 v_6 v_7 v v_9 v_10 v_11 v_12 v_13 v_14 := by
  obtain ⟨q0, E, F0, F1, F2, F3, F4, F5, F6, F7, F8, F9, F10, F11, F12, F13, F14⟩ := O
  exact ⟨q0, E.wr W, (F0.other W (Or.inr (slot_ne (Or.inl (hw _ (List.mem_of_getElem? (i := 17) rfl))) (Or.inr (hw _ (List.mem_of_getElem? (i := 33) rfl))) (by decide) (t := (.array .int)) (t' := (.array .long)) (by decide) (by decide)))), (F1.other W (Or.inr (slot_ne (Or.inl (hw _ (List.mem_of_getElem? (i := 19) rfl))) (Or.inr (hw _ (List.mem_of_getElem? (i := 33) rfl))) (by decide) (t := (.array .int)) (t' := (.array .long)) (by decide) (by decide)))), (F2.other W (Or.inr (slot_ne (Or.inl (hw _ (List.mem_of_getElem? (i := 21) rfl))) (Or.inr (hw _ (List.mem_of_getElem? (i := 33) rfl))) (by decide) (t := (.array .int)) (t' := (.array .long)) (by decide) (by decide)))), (F3.other W (Or.inr (slot_ne (Or.inl (hw _ (List.mem_of_getElem? (i := 23) rfl))) (Or.inr (hw _ (List.mem_of_getElem? (i := 33) rfl))) (by decide) (t := (.array .int)) (t' := (.array .long)) (by decide) (by decide)))), (F4.other W (Or.inr (slot_ne (Or.inl (hw _ (List.mem_of_getElem? (i := 25) rfl))) (Or.inr (hw _ (List.mem_of_getElem? (i := 33) rfl))) (by decide) (t := (.array .long)) (t' := (.array .long)) (by decide) (by decide)))), (F5.other W (Or.inr (slot_ne (Or.inl (hw _ (List.mem_of_getElem? (i := 27) rfl))) (Or.inr (hw _ (List.mem_of_getElem? (i := 33) rfl))) (by decide) (t := (.array .int)) (t' := (.array .long)) (by decide) (by decide)))), (F6.other W (Or.inr (slot_ne (Or.inr (hw _ (List.mem_of_getElem? (i := 29) rfl))) (Or.inr (hw _ (List.mem_of_getElem? (i := 33) rfl))) (by decide) (t := (.array .int)) (t' := (.array .long)) (by decide) (by decide)))), (F7.other W (Or.inr (slot_ne (Or.inr (hw _ (List.mem_of_getElem? (i := 31) rfl))) (Or.inr (hw _ (List.mem_of_getElem? (i := 33) rfl))) (by decide) (t := (.array .int)) (t' := (.array .long)) (by decide) (by decide)))), (F8.same W), (F9.other W (Or.inr (slot_ne (Or.inr (hw _ (List.mem_of_getElem? (i := 35) rfl))) (Or.inr (hw _ (List.mem_of_getElem? (i := 33) rfl))) (by decide) (t := (.array .int)) (t' := (.array .long)) (by decide) (by decide)))), (F10.other W (Or.inr (slot_ne (Or.inr (hw _ (List.mem_of_getElem? (i := 37) rfl))) (Or.inr (hw _ (List.mem_of_getElem? (i := 33) rfl))) (by decide) (t := (.array .int)) (t' := (.array .long)) (by decide) (by decide)))), (F11.other W (Or.inr (slot_ne (Or.inr (hw _ (List.mem_of_getElem? (i := 39) rfl))) (Or.inr (hw _ (List.mem_of_getElem? (i := 33) rfl))) (by decide) (t := (.array .int)) (t' := (.array .long)) (by decide) (by decide)))), (F12.other W (Or.inr (slot_ne (Or.inl (hw _ (List.mem_of_getElem? (i := 82) rfl))) (Or.inr (hw _ (List.mem_of_getElem? (i := 33) rfl))) (by decide) (t := .int) (t' := (.array .long)) (by decide) (by decide)))), (F13.other W (Or.inr (slot_ne (Or.inl (hw _ (List.mem_of_getElem? (i := 61) rfl))) (Or.inr (hw _ (List.mem_of_getElem? (i := 33) rfl))) (by decide) (t := .long) (t' := (.array .long)) (by decide) (by decide)))), (F14.other W (Or.inr (slot_ne (Or.inl (hw _ (List.mem_of_getElem? (i := 64) rfl))) (Or.inr (hw _ (List.mem_of_getElem? (i := 33) rfl))) (by decide) (t := .int) (t' := (.array .long)) (by decide) (by decide))))⟩
theorem Pak.put_widths {Z : State} {n0 : Nat} {h h' : Heap} {o : Addr} {v_0 v_1 v_2 v_3 v_4 v_5 v_6 v_7 v_8 v_9 v_10 v_11 v_12 v_13 v_14 : Value} {a0 : Array Value} {v : Value} (hw : ∀ d ∈ tables_1, d.before a0 Z = true) (O : Pak Z n0 h o v_0 v_1 v_2 v_3 v_4 v_5 v_6 v_7 v_8 v_9 v_10 v_11 v_12 v_13 v_14) (W : Wr h h' o (Jvm.RoadKit.slotOf Z "com/example/tokenfold/tokenfold/statespace/Packing" "widths" "[I") v) : Pak Z n0 h' o v_0 v_1 v_2 v_3 v_4 v_5 v_6 v_7 v_8 v v_10 v_11 v_12 v_13 v_14 := by
  obtain ⟨q0, E, F0, F1, F2, F3, F4, F5, F6, F7, F8, F9, F10, F11, F12, F13, F14⟩ := O
  exact ⟨q0, E.wr W, (F0.other W (Or.inr (slot_ne (Or.inl (hw _ (List.mem_of_getElem? (i := 17) rfl))) (Or.inr (hw _ (List.mem_of_getElem? (i := 35) rfl))) (by decide) (t := (.array .int)) (t' := (.array .int)) (by decide) (by decide)))), (F1.other W (Or.inr (slot_ne (Or.inl (hw _ (List.mem_of_getElem? (i := 19) rfl))) (Or.inr (hw _ (List.mem_of_getElem? (i := 35) rfl))) (by decide) (t := (.array .int)) (t' := (.array .int)) (by decide) (by decide)))), (F2.other W (Or.inr (slot_ne (Or.inl (hw _ (List.mem_of_getElem? (i := 21) rfl))) (Or.inr (hw _ (List.mem_of_getElem? (i := 35) rfl))) (by decide) (t := (.array .int)) (t' := (.array .int)) (by decide) (by decide)))), (F3.other W (Or.inr (slot_ne (Or.inl (hw _ (List.mem_of_getElem? (i := 23) rfl))) (Or.inr (hw _ (List.mem_of_getElem? (i := 35) rfl))) (by decide) (t := (.array .int)) (t' := (.array .int)) (by decide) (by decide)))), (F4.other W (Or.inr (slot_ne (Or.inl (hw _ (List.mem_of_getElem? (i := 25) rfl))) (Or.inr (hw _ (List.mem_of_getElem? (i := 35) rfl))) (by decide) (t := (.array .long)) (t' := (.array .int)) (by decide) (by decide)))), (F5.other W (Or.inr (slot_ne (Or.inl (hw _ (List.mem_of_getElem? (i := 27) rfl))) (Or.inr (hw _ (List.mem_of_getElem? (i := 35) rfl))) (by decide) (t := (.array .int)) (t' := (.array .int)) (by decide) (by decide)))), (F6.other W (Or.inr (slot_ne (Or.inr (hw _ (List.mem_of_getElem? (i := 29) rfl))) (Or.inr (hw _ (List.mem_of_getElem? (i := 35) rfl))) (by decide) (t := (.array .int)) (t' := (.array .int)) (by decide) (by decide)))), (F7.other W (Or.inr (slot_ne (Or.inr (hw _ (List.mem_of_getElem? (i := 31) rfl))) (Or.inr (hw _ (List.mem_of_getElem? (i := 35) rfl))) (by decide) (t := (.array .int)) (t' := (.array .int)) (by decide) (by decide)))), (F8.other W (Or.inr (slot_ne (Or.inr (hw _ (List.mem_of_getElem? (i := 33) rfl))) (Or.inr (hw _ (List.mem_of_getElem? (i := 35) rfl))) (by decide) (t := (.array .long)) (t' := (.array .int)) (by decide) (by decide)))), (F9.same W), (F10.other W (Or.inr (slot_ne (Or.inr (hw _ (List.mem_of_getElem? (i := 37) rfl))) (Or.inr (hw _ (List.mem_of_getElem? (i := 35) rfl))) (by decide) (t := (.array .int)) (t' := (.array .int)) (by decide) (by decide)))), (F11.other W (Or.inr (slot_ne (Or.inr (hw _ (List.mem_of_getElem? (i := 39) rfl))) (Or.inr (hw _ (List.mem_of_getElem? (i := 35) rfl))) (by decide) (t := (.array .int)) (t' := (.array .int)) (by decide) (by decide)))), (F12.other W (Or.inr (slot_ne (Or.inl (hw _ (List.mem_of_getElem? (i := 82) rfl))) (Or.inr (hw _ (List.mem_of_getElem? (i := 35) rfl))) (by decide) (t := .int) (t' := (.array .int)) (by decide) (by decide)))), (F13.other W (Or.inr (slot_ne (Or.inl (hw _ (List.mem_of_getElem? (i := 61) rfl))) (Or.inr (hw _ (List.mem_of_getElem? (i := 35) rfl))) (by decide) (t := .long) (t' := (.array .int)) (by decide) (by decide)))), (F14.other W (Or.inr (slot_ne (Or.inl (hw _ (List.mem_of_getElem? (i := 64) rfl))) (Or.inr (hw _ (List.mem_of_getElem? (i := 35) rfl))) (by decide) (t := .int) (t' := (.array .int)) (by decide) (by decide))))⟩
theorem Pak.put_firstExtras {Z : State} {n0 : Nat} {h h' : Heap} {o : Addr} {v_0 v_1 v_2 v_3 v_4 v_5 v_6 v_7 v_8 v_9 v_10 v_11 v_12 v_13 v_14 : Value} {a0 : Array Value} {v : Value} (hw : ∀ d ∈ tables_1, d.before a0 Z = true) (O : Pak Z n0 h o v_0 v_1 v_2 v_3 v_4 v_5 v_6 v_7 v_8 v_9 v_10 v_11 v_12 v_13 v_14) (W : Wr h h' o (Jvm.RoadKit.slotOf Z "com/example/tokenfold/tokenfold/statespace/Packing" "firstExtras" "[I") v) : Pak Z n0 h' o v_0 v_1 v_2 v_3 v_4 v_5 v_6 v_7 v_8 v_9 v v_11 v_12 v_13 v_14 := by
  obtain ⟨q0, E, F0, F1, F2, F3, F4, F5, F6, F7, F8, F9, F10, F11, F12, F13, F14⟩ := O
  exact ⟨q0, E.wr W, (F0.other W (Or.inr (slot_ne (Or.inl (hw _ (List.mem_of_getElem? (i := 17) rfl))) (Or.inr (hw _ (List.mem_of_getElem? (i := 37) rfl))) (by decide) (t := (.array .int)) (t' := (.array .int)) (by decide) (by decide)))), (F1.other W (Or.inr (slot_ne (Or.inl (hw _ (List.mem_of_getElem? (i := 19) rfl))) (Or.inr (hw _ (List.mem_of_getElem? (i := 37) rfl))) (by decide) (t := (.array .int)) (t' := (.array .int)) (by decide) (by decide)))), (F2.other W (Or.inr (slot_ne (Or.inl (hw _ (List.mem_of_getElem? (i := 21) rfl))) (Or.inr (hw _ (List.mem_of_getElem? (i := 37) rfl))) (by decide) (t := (.array .int)) (t' := (.array .int)) (by decide) (by decide)))), (F3.other W (Or.inr (slot_ne (Or.inl (hw _ (List.mem_of_getElem? (i := 23) rfl))) (Or.inr (hw _ (List.mem_of_getElem? (i := 37) rfl))) (by decide) (t := (.array .int)) (t' := (.array .int)) (by decide) (by decide)))), (F4.other W (Or.inr (slot_ne (Or.inl (hw _ (List.mem_of_getElem? (i := 25) rfl))) (Or.inr (hw _ (List.mem_of_getElem? (i := 37) rfl))) (by decide) (t := (.array .long)) (t' := (.array .int)) (by decide) (by decide)))), (F5.other W (Or.inr (slot_ne (Or.inl (hw _ (List.mem_of_getElem? (i := 27) rfl))) (Or.inr (hw _ (List.mem_of_getElem? (i := 37) rfl))) (by decide) (t := (.array .int)) (t' := (.array .int)) (by decide) (by decide)))), (F6.other W (Or.inr (slot_ne (Or.inr (hw _ (List.mem_of_getElem? (i := 29) rfl))) (Or.inr (hw _ (List.mem_of_getElem? (i := 37) rfl))) (by decide) (t := (.array .int)) (t' := (.array .int)) (by decide) (by decide)))), (F7.other W (Or.inr (slot_ne (Or.inr (hw _ (List.mem_of_getElem? (i := 31) rfl))) (Or.inr (hw _ (List.mem_of_getElem? (i := 37) rfl))) (by decide) (t := (.array .int)) (t' := (.array .int)) (by decide) (by decide)))), (F8.other W (Or.inr (slot_ne (Or.inr (hw _ (List.mem_of_getElem? (i := 33) rfl))) (Or.inr (hw _ (List.mem_of_getElem? (i := 37) rfl))) (by decide) (t := (.array .long)) (t' := (.array .int)) (by decide) (by decide)))), (F9.other W (Or.inr (slot_ne (Or.inr (hw _ (List.mem_of_getElem? (i := 35) rfl))) (Or.inr (hw _ (List.mem_of_getElem? (i := 37) rfl))) (by decide) (t := (.array .int)) (t' := (.array .int)) (by decide) (by decide)))), (F10.same W), (F11.other W (Or.inr (slot_ne (Or.inr (hw _ (List.mem_of_getElem? (i := 39) rfl))) (Or.inr (hw _ (List.mem_of_getElem? (i := 37) rfl))) (by decide) (t := (.array .int)) (t' := (.array .int)) (by decide) (by decide)))), (F12.other W (Or.inr (slot_ne (Or.inl (hw _ (List.mem_of_getElem? (i := 82) rfl))) (Or.inr (hw _ (List.mem_of_getElem? (i := 37) rfl))) (by decide) (t := .int) (t' := (.array .int)) (by decide) (by decide)))), (F13.other W (Or.inr (slot_ne (Or.inl (hw _ (List.mem_of_getElem? (i := 61) rfl))) (Or.inr (hw _ (List.mem_of_getElem? (i := 37) rfl))) (by decide) (t := .long) (t' := (.array .int)) (by decide) (by decide)))), (F14.other W (Or.inr (slot_ne (Or.inl (hw _ (List.mem_of_getElem? (i := 64) rfl))) (Or.inr (hw _ (List.mem_of_getElem? (i := 37) rfl))) (by decide) (t := .int) (t' := (.array .int)) (by decide) (by decide))))⟩
theorem Pak.put_lastExtras {Z : State} {n0 : Nat} {h h' : Heap} {o : Addr} {v_0 v_1 v_2 v_3 v_4 v_5 v_6 v_7 v_8 v_9 v_10 v_11 v_12 v_13 v_14 : Value} {a0 : Array Value} {v : Value} (hw : ∀ d ∈ tables_1, d.before a0 Z = true) (O : Pak Z n0 h o v_0 v_1 v_2 v_3 v_4 v_5 v_6 v_7 v_8 v_9 v_10 v_11 v_12 v_13 v_14) (W : Wr h h' o (Jvm.RoadKit.slotOf Z "com/example/tokenfold/tokenfold/statespace/Packing" "lastExtras" "[I") v) : Pak Z n0 h' o v_0 v_1 v_2 v_3 v_4 v_5 v_6 v_7 v_8 v_9 v_10 v v_12 v_13 v_14 := by
  obtain ⟨q0, E, F0, F1, F2, F3, F4, F5, F6, F7, F8, F9, F10, F11, F12, F13, F14⟩ := O
  exact ⟨q0, E.wr W, (F0.other W (Or.inr (slot_ne (Or.inl (hw _ (List.mem_of_getElem? (i := 17) rfl))) (Or.inr (hw _ (List.mem_of_getElem? (i := 39) rfl))) (by decide) (t := (.array .int)) (t' := (.array .int)) (by decide) (by decide)))), (F1.other W (Or.inr (slot_ne (Or.inl (hw _ (List.mem_of_getElem? (i := 19) rfl))) (Or.inr (hw _ (List.mem_of_getElem? (i := 39) rfl))) (by decide) (t := (.array .int)) (t' := (.array .int)) (by decide) (by decide)))), (F2.other W (Or.inr (slot_ne (Or.inl (hw _ (List.mem_of_getElem? (i := 21) rfl))) (Or.inr (hw _ (List.mem_of_getElem? (i := 39) rfl))) (by decide) (t := (.array .int)) (t' := (.array .int)) (by decide) (by decide)))), (F3.other W (Or.inr (slot_ne (Or.inl (hw _ (List.mem_of_getElem? (i := 23) rfl))) (Or.inr (hw _ (List.mem_of_getElem? (i := 39) rfl))) (by decide) (t := (.array .int)) (t' := (.array .int)) (by decide) (by decide)))), (F4.other W (Or.inr (slot_ne (Or.inl (hw _ (List.mem_of_getElem? (i := 25) rfl))) (Or.inr (hw _ (List.mem_of_getElem? (i := 39) rfl))) (by decide) (t := (.array .long)) (t' := (.array .int)) (by decide) (by decide)))), (F5.other W (Or.inr (slot_ne (Or.inl (hw _ (List.mem_of_getElem? (i := 27) rfl))) (Or.inr (hw _ (List.mem_of_getElem? (i := 39) rfl))) (by decide) (t := (.array .int)) (t' := (.array .int)) (by decide) (by decide)))), (F6.other W (Or.inr (slot_ne (Or.inr (hw _ (List.mem_of_getElem? (i := 29) rfl))) (Or.inr (hw _ (List.mem_of_getElem? (i := 39) rfl))) (by decide) (t := (.array .int)) (t' := (.array .int)) (by decide) (by decide)))), (F7.other W (Or.inr (slot_ne (Or.inr (hw _ (List.mem_of_getElem? (i := 31) rfl))) (Or.inr (hw _ (List.mem_of_getElem? (i := 39) rfl))) (by decide) (t := (.array .int)) (t' := (.array .int)) (by decide) (by decide)))), (F8.other W (Or.inr (slot_ne (Or.inr (hw _ (List.mem_of_getElem? (i := 33) rfl))) (Or.inr (hw _ (List.mem_of_getElem? (i := 39) rfl))) (by decide) (t := (.array .long)) (t' := (.array .int)) (by decide) (by decide)))), (F9.other W (Or.inr (slot_ne (Or.inr (hw _ (List.mem_of_getElem? (i := 35) rfl))) (Or.inr (hw _ (List.mem_of_getElem? (i := 39) rfl))) (by decide) (t := (.array .int)) (t' := (.array .int)) (by decide) (by decide)))), (F10.other W (Or.inr (slot_ne (Or.inr (hw _ (List.mem_of_getElem? (i := 37) rfl))) (Or.inr (hw _ (List.mem_of_getElem? (i := 39) rfl))) (by decide) (t := (.array .int)) (t' := (.array .int)) (by decide) (by decide)))), (F11.same W), (F12.other W (Or.inr (slot_ne (Or.inl (hw _ (List.mem_of_getElem? (i := 82) rfl))) (Or.inr (hw _ (List.mem_of_getElem? (i := 39) rfl))) (by decide) (t := .int) (t' := (.array .int)) (by decide) (by decide)))), (F13.other W (Or.inr (slot_ne (Or.inl (hw _ (List.mem_of_getElem? (i := 61) rfl))) (Or.inr (hw _ (List.mem_of_getElem? (i := 39) rfl))) (by decide) (t := .long) (t' := (.array .int)) (by decide) (by decide)))), (F14.other W (Or.inr (slot_ne (Or.inl (hw _ (List.mem_of_getElem? (i := 64) rfl))) (Or.inr (hw _ (List.mem_of_getElem? (i := 39) rfl))) (by decide) (t := .int) (t' := (.array .int)) (by decide) (by decide))))⟩
theorem Pak.put_extras {Z : State} {n0 : Nat} {h h' : Heap} {o : Addr} {v_0 v_1 v_2 v_3 v_4 v_5 v_6 v_7 v_8 v_9 v_10 v_11 v_12 v_13 v_14 : Value} {a0 : Array Value} {v : Value} (hw : ∀ d ∈ tables_1, d.before a0 Z = true) (O : Pak Z n0 h o v_0 v_1 v_2 v_3 v_4 v_5 v_6 v_7 v_8 v_9 v_10 v_11 v_12 v_13 v_14) (W : Wr h h' o (Jvm.RoadKit.slotOf Z "com/example/tokenfold/tokenfold/statespace/Packing" "extras" "I") v) : Pak Z n0 h' o v_0 v_1 v_2 v_3 v_4 v_5 v_6 v_7 v_8 v_9 v_10 v_11 v v_13 v_14 := by
  obtain ⟨q0, E, F0, F1, F2, F3, F4, F5, F6, F7, F8, F9, F10, F11, F12, F13, F14⟩ := O
  exact ⟨q0, E.wr W, (F0.other W (Or.inr (slot_ne (Or.inl (hw _ (List.mem_of_getElem? (i := 17) rfl))) (Or.inl (hw _ (List.mem_of_getElem? (i := 82) rfl))) (by decide) (t := (.array .int)) (t' := .int) (by decide) (by decide)))), (F1.other W (Or.inr (slot_ne (Or.inl (hw _ (List.mem_of_getElem? (i := 19) rfl))) (Or.inl (hw _ (List.mem_of_getElem? (i := 82) rfl))) (by decide) (t := (.array .int)) (t' := .int) (by decide) (by decide)))), (F2.other W (Or.inr (slot_ne (Or.inl (hw _ (List.mem_of_getElem? (i := 21) rfl))) (Or.inl (hw _ (List.mem_of_getElem? (i := 82) rfl))) (by decide) (t := (.array .int)) (t' := .int) (by decide) (by decide)))), (F3.other W (Or.inr (slot_ne (Or.inl (hw _ (List.mem_of_getElem? (i := 23) rfl))) (Or.inl (hw _ (List.mem_of_getElem? (i := 82) rfl))) (by decide) (t := (.array .int)) (t' := .int) (by decide) (by decide)))), (F4.other W (Or.inr (slot_ne (Or.inl (hw _ (List.mem_of_getElem? (i := 25) rfl))) (Or.inl (hw _ (List.mem_of_getElem? (i := 82) rfl))) (by decide) (t := (.array .long)) (t' := .int) (by decide) (by decide)))), (F5.other W (Or.inr (slot_ne (Or.inl (hw _ (List.mem_of_getElem? (i := 27) rfl))) (Or.inl (hw _ (List.mem_of_getElem? (i := 82) rfl))) (by decide) (t := (.array .int)) (t' := .int) (by decide) (by decide)))), (F6.other W (Or.inr (slot_ne (Or.inr (hw _ (List.mem_of_getElem? (i := 29) rfl))) (Or.inl (hw _ (List.mem_of_getElem? (i := 82) rfl))) (by decide) (t := (.array .int)) (t' := .int) (by decide) (by decide)))), (F7.other W (Or.inr (slot_ne (Or.inr (hw _ (List.mem_of_getElem? (i := 31) rfl))) (Or.inl (hw _ (List.mem_of_getElem? (i := 82) rfl))) (by decide) (t := (.array .int)) (t' := .int) (by decide) (by decide)))), (F8.other W (Or.inr (slot_ne (Or.inr (hw _ (List.mem_of_getElem? (i := 33) rfl))) (Or.inl (hw _ (List.mem_of_getElem? (i := 82) rfl))) (by decide) (t := (.array .long)) (t' := .int) (by decide) (by decide)))), (F9.other W (Or.inr (slot_ne (Or.inr (hw _ (List.mem_of_getElem? (i := 35) rfl))) (Or.inl (hw _ (List.mem_of_getElem? (i := 82) rfl))) (by decide) (t := (.array .int)) (t' := .int) (by decide) (by decide)))), (F10.other W (Or.inr (slot_ne (Or.inr (hw _ (List.mem_of_getElem? (i := 37) rfl))) (Or.inl (hw _ (List.mem_of_getElem? (i := 82) rfl))) (by decide) (t := (.array .int)) (t' := .int) (by decide) (by decide)))), (F11.other W (Or.inr (slot_ne (Or.inr (hw _ (List.mem_of_getElem? (i := 39) rfl))) (Or.inl (hw _ (List.mem_of_getElem? (i := 82) rfl))) (by decide) (t := (.array .int)) (t' := .int) (by decide) (by decide)))), (F12.same W), (F13.other W (Or.inr (slot_ne (Or.inl (hw _ (List.mem_of_getElem? (i := 61) rfl))) (Or.inl (hw _ (List.mem_of_getElem? (i := 82) rfl))) (by decide) (t := .long) (t' := .int) (by decide) (by decide)))), (F14.other W (Or.inr (slot_ne (Or.inl (hw _ (List.mem_of_getElem? (i := 64) rfl))) (Or.inl (hw _ (List.mem_of_getElem? (i := 82) rfl))) (by decide) (t := .int) (t' := .int) (by decide) (by decide))))⟩
theorem Pak.put_end {Z : State} {n0 : Nat} {h h' : Heap} {o : Addr} {v_0 v_1 v_2 v_3 v_4 v_5 v_6 v_7 v_8 v_9 v_10 v_11 v_12 v_13 v_14 : Value} {a0 : Array Value} {v : Value} (hw : ∀ d ∈ tables_1, d.before a0 Z = true) (O : Pak Z n0 h o v_0 v_1 v_2 v_3 v_4 v_5 v_6 v_7 v_8 v_9 v_10 v_11 v_12 v_13 v_14) (W : Wr h h' o (Jvm.RoadKit.slotOf Z "com/example/tokenfold/tokenfold/statespace/Packing" "end" "J") v) : Pak Z n0 h' o v_0 v_1 v_2 v_3 v_4 v_5 v_6 v_7 v_8 v_9 v_10 v_11 v_12 v v_14 := by
  obtain ⟨q0, E, F0, F1, F2, F3, F4, F5, F6, F7, F8, F9, F10, F11, F12, F13, F14⟩ := O
  exact ⟨q0, E.wr W, (F0.other W (Or.inr (slot_ne (Or.inl (hw _ (List.mem_of_getElem? (i := 17) rfl))) (Or.inl (hw _ (List.mem_of_getElem? (i := 61) rfl))) (by decide) (t := (.array .int)) (t' := .long) (by decide) (by decide)))), (F1.other W (Or.inr (slot_ne (Or.inl (hw _ (List.mem_of_getElem? (i := 19) rfl))) (Or.inl (hw _ (List.mem_of_getElem? (i := 61) rfl))) (by decide) (t := (.array .int)) (t' := .long) (by decide) (by decide)))), (F2.other W (Or.inr (slot_ne (Or.inl (hw _ (List.mem_of_getElem? (i := 21) rfl))) (Or.inl (hw _ (List.mem_of_getElem? (i := 61) rfl))) (by decide) (t := (.array .int)) (t' := .long) (by decide) (by decide)))), (F3.other W (Or.inr (slot_ne (Or.inl (hw _ (List.mem_of_getElem? (i := 23) rfl))) (Or.inl (hw _ (List.mem_of_getElem? (i := 61) rfl))) (by decide) (t := (.array .int)) (t' := .long) (by decide) (by decide)))), (F4.other W (Or.inr (slot_ne (Or.inl (hw _ (List.mem_of_getElem? (i := 25) rfl))) (Or.inl (hw _ (List.mem_of_getElem? (i := 61) rfl))) (by decide) (t := (.array .long)) (t' := .long) (by decide) (by decide)))), (F5.other W (Or.inr (slot_ne (Or.inl (hw _ (List.mem_of_getElem? (i := 27) rfl))) (Or.inl (hw _ (List.mem_of_getElem? (i := 61) rfl))) (by decide) (t := (.array .int)) (t' := .long) (by decide) (by decide)))), (F6.other W (Or.inr (slot_ne (Or.inr (hw _ (List.mem_of_getElem? (i := 29) rfl))) (Or.inl (hw _ (List.mem_of_getElem? (i := 61) rfl))) (by decide) (t := (.array .int)) (t' := .long) (by decide) (by decide)))), (F7.other W (Or.inr (slot_ne (Or.inr (hw _ (List.mem_of_getElem? (i := 31) rfl))) (Or.inl (hw _ (List.mem_of_getElem? (i := 61) rfl))) (by decide) (t := (.array .int)) (t' := .long) (by decide) (by decide)))), (F8.other W (Or.inr (slot_ne (Or.inr (hw _ (List.mem_of_getElem? (i := 33) rfl))) (Or.inl (hw _ (List.mem_of_getElem? (i := 61) rfl))) (by decide) (t := (.array .long)) (t' := .long) (by decide) (by decide)))), (F9.other W (Or.inr (slot_ne (Or.inr (hw _ (List.mem_of_getElem? (i := 35) rfl))) (Or.inl (hw _ (List.mem_of_getElem? (i := 61) rfl))) (by decide) (t := (.array .int)) (t' := .long) (by decide) (by decide)))), (F10.other W (Or.inr (slot_ne (Or.inr (hw _ (List.mem_of_getElem? (i := 37) rfl))) (Or.inl (hw _ (List.mem_of_getElem? (i := 61) rfl))) (by decide) (t := (.array .int)) (t' := .long) (by decide) (by decide)))), (F11.other W (Or.inr (slot_ne (Or.inr (hw _ (List.mem_of_getElem? (i := 39) rfl))) (Or.inl (hw _ (List.mem_of_getElem? (i := 61) rfl))) (by decide) (t := (.array .int)) (t' := .long) (by decide) (by decide)))), (F12.other W (Or.inr (slot_ne (Or.inl (hw _ (List.mem_of_getElem? (i := 82) rfl))) (Or.inl (hw _ (List.mem_of_getElem? (i := 61) rfl))) (by decide) (t := .int) (t' := .long) (by decide) (by decide)))), (F13.same W), (F14.other W (Or.inr (slot_ne (Or.inl (hw _ (List.mem_of_getElem? (i := 64) rfl))) (Or.inl (hw _ (List.mem_of_getElem? (i := 61) rfl))) (by decide) (t := .int) (t' := .long) (by decide) (by decide))))⟩
theorem Pak.put_recordWords {Z : State} {n0 : Nat} {h h' : Heap} {o : Addr} {v_0 v_1 v_2 v_3 v_4 v_5 v_6 v_7 v_8 v_9 v_10 v_11 v_12 v_13 v_14 : Value} {a0 : Array Value} {v : Value} (hw : ∀ d ∈ tables_1, d.before a0 Z = true) (O : Pak Z n0 h o v_0 v_1 v_2 v_3 v_4 v_5 v_6 v_7 v_8 v_9 v_10 v_11 v_12 v_13 v_14) (W : Wr h h' o (Jvm.RoadKit.slotOf Z "com/example/tokenfold/tokenfold/statespace/Packing" "recordWords" "I") v) : Pak Z n0 h' o v_0 v_1 v_2 v_3 v_4 v_5 v_6 v_7 v_8 v_9 v_10 v_11 v_12 v_13 v := by
  obtain ⟨q0, E, F0, F1, F2, F3, F4, F5, F6, F7, F8, F9, F10, F11, F12, F13, F14⟩ := O
  exact ⟨q0, E.wr W, (F0.other W (Or.inr (slot_ne (Or.inl (hw _ (List.mem_of_getElem? (i := 17) rfl))) (Or.inl (hw _ (List.mem_of_getElem? (i := 64) rfl))) (by decide) (t := (.array .int)) (t' := .int) (by decide) (by decide)))), (F1.other W (Or.inr (slot_ne (Or.inl (hw _ (List.mem_of_getElem? (i := 19) rfl))) (Or.inl (hw _ (List.mem_of_getElem? (i := 64) rfl))) (by decide) (t := (.array .int)) (t' := .int) (by decide) (by decide)))), (F2.other W (Or.inr (slot_ne (Or.inl (hw _ (List.mem_of_getElem? (i := 21) rfl))) (Or.inl (hw _ (List.mem_of_getElem? (i := 64) rfl))) (by decide) (t := (.array .int)) (t' := .int) (by decide) (by decide)))), (F3.other W (Or.inr (slot_ne (Or.inl (hw _ (List.mem_of_getElem? (i := 23) rfl))) (Or.inl (hw _ (List.mem_of_getElem? (i := 64) rfl))) (by decide) (t := (.array .int)) (t' := .int) (by decide) (by decide)))), (F4.other W (Or.inr (slot_ne (Or.inl (hw _ (List.mem_of_getElem? (i := 25) rfl))) (Or.inl (hw _ (List.mem_of_getElem? (i := 64) rfl))) (by decide) (t := (.array .long)) (t' := .int) (by decide) (by decide)))), (F5.other W (Or.inr (slot_ne (Or.inl (hw _ (List.mem_of_getElem? (i := 27) rfl))) (Or.inl (hw _ (List.mem_of_getElem? (i := 64) rfl))) (by decide) (t := (.array .int)) (t' := .int) (by decide) (by decide)))), (F6.other W (Or.inr (slot_ne (Or.inr (hw _ (List.mem_of_getElem? (i := 29) rfl))) (Or.inl (hw _ (List.mem_of_getElem? (i := 64) rfl))) (by decide) (t := (.array .int)) (t' := .int) (by decide) (by decide)))), (F7.other W (Or.inr (slot_ne (Or.inr (hw _ (List.mem_of_getElem? (i := 31) rfl))) (Or.inl (hw _ (List.mem_of_getElem? (i := 64) rfl))) (by decide) (t := (.array .int)) (t' := .int) (by decide) (by decide)))), (F8.other W (Or.inr (slot_ne (Or.inr (hw _ (List.mem_of_getElem? (i := 33) rfl))) (Or.inl (hw _ (List.mem_of_getElem? (i := 64) rfl))) (by decide) (t := (.array .long)) (t' := .int) (by decide) (by decide)))), (F9.other W (Or.inr (slot_ne (Or.inr (hw _ (List.mem_of_getElem? (i := 35) rfl))) (Or.inl (hw _ (List.mem_of_getElem? (i := 64) rfl))) (by decide) (t := (.array .int)) (t' := .int) (by decide) (by decide)))), (F10.other W (Or.inr (slot_ne (Or.inr (hw _ (List.mem_of_getElem? (i := 37) rfl))) (Or.inl (hw _ (List.mem_of_getElem? (i := 64) rfl))) (by decide) (t := (.array .int)) (t' := .int) (by decide) (by decide)))), (F11.other W (Or.inr (slot_ne (Or.inr (hw _ (List.mem_of_getElem? (i := 39) rfl))) (Or.inl (hw _ (List.mem_of_getElem? (i := 64) rfl))) (by decide) (t := (.array .int)) (t' := .int) (by decide) (by decide)))), (F12.other W (Or.inr (slot_ne (Or.inl (hw _ (List.mem_of_getElem? (i := 82) rfl))) (Or.inl (hw _ (List.mem_of_getElem? (i := 64) rfl))) (by decide) (t := .int) (t' := .int) (by decide) (by decide)))), (F13.other W (Or.inr (slot_ne (Or.inl (hw _ (List.mem_of_getElem? (i := 61) rfl))) (Or.inl (hw _ (List.mem_of_getElem? (i := 64) rfl))) (by decide) (t := .long) (t' := .int) (by decide) (by decide)))), (F14.same W)⟩
theorem Pak.new {Z : State} {n0 : Nat} {h : Heap} {o : Addr} {a0 : Array Value} (hw : ∀ d ∈ tables_1, d.before a0 Z = true) (q0 : n0 ≤ o) (E : Exa Z h o "com/example/tokenfold/tokenfold/statespace/Packing") (D : ∀ {O nm d : String} {ty : FieldType}, Laid Z a0 "com/example/tokenfold/tokenfold/statespace/Packing" O nm d → parseFieldDescriptor d = some ty → Fld Z h o O nm d (defaultValue ty)) : Pak Z n0 h o .null .null .null .null .null .null .null .null .null .null .null .null (.int 0) (.long 0) (.int 0) := ⟨q0, E, D (Or.inl (hw _ (List.mem_of_getElem? (i := 17) rfl))) (ty := (.array .int)) (by decide), D (Or.inl (hw _ (List.mem_of_getElem? (i := 19) rfl))) (ty := (.array .int)) (by decide), D (Or.inl (hw _ (List.mem_of_getElem? (i := 21) rfl))) (ty := (.array .int)) (by decide), D (Or.inl (hw _ (List.mem_of_getElem? (i := 23) rfl))) (ty := (.array .int)) (by decide), D (Or.inl (hw _ (List.mem_of_getElem? (i := 25) rfl))) (ty := (.array .long)) (by decide), D (Or.inl (hw _ (List.mem_of_getElem? (i := 27) rfl))) (ty := (.array .int)) (by decide), D (Or.inr (hw _ (List.mem_of_getElem? (i := 29) rfl))) (ty := (.array .int)) (by decide), D (Or.inr (hw _ (List.mem_of_getElem? (i := 31) rfl))) (ty := (.array .int)) (by decide), D (Or.inr (hw _ (List.mem_of_getElem? (i := 33) rfl))) (ty := (.array .long)) (by decide), D (Or.inr (hw _ (List.mem_of_getElem? (i := 35) rfl))) (ty := (.array .int)) (by decide), D (Or.inr (hw _ (List.mem_of_getElem? (i := 37) rfl))) (ty := (.array .int)) (by decide), D (Or.inr (hw _ (List.mem_of_getElem? (i := 39) rfl))) (ty := (.array .int)) (by decide), D (Or.inl (hw _ (List.mem_of_getElem? (i := 82) rfl))) (ty := .int) (by decide), D (Or.inl (hw _ (List.mem_of_getElem? (i := 61) rfl))) (ty := .long) (by decide), D (Or.inl (hw _ (List.mem_of_getElem? (i := 64) rfl))) (ty := .int) (by decide)⟩
theorem Pak_memW {Z : State} {n0 : Nat} {h h' : Heap} {o : Addr} {v_0 v_1 v_2 v_3 v_4 v_5 v_6 v_7 v_8 v_9 v_10 v_11 v_12 v_13 v_14 : Value} {a0 : Array Value} {sl : Nat} {v : Value} {L : List Ent} (hw : ∀ d ∈ tables_1, d.before a0 Z = true) (O : Pak Z n0 h o v_0 v_1 v_2 v_3 v_4 v_5 v_6 v_7 v_8 v_9 v_10 v_11 v_12 v_13 v_14) (M : Mem Z n0 h L) (W : Wr h h' o sl v) : Mem Z n0 h' L := ⟨fun i a ty n g e => O.baW hw (M.1 i a ty n g e) W, M.2⟩
theorem Pak_memK {Z : State} {n0 : Nat} {h h' : Heap} {o : Addr} {v_0 v_1 v_2 v_3 v_4 v_5 v_6 v_7 v_8 v_9 v_10 v_11 v_12 v_13 v_14 : Value} {a0 : Array Value} {L : List Ent} (hw : ∀ d ∈ tables_1, d.before a0 Z = true) (O : Pak Z n0 h o v_0 v_1 v_2 v_3 v_4 v_5 v_6 v_7 v_8 v_9 v_10 v_11 v_12 v_13 v_14) (M : Mem Z n0 h L) (K : Keep h h' [o]) : Mem Z n0 h' L := ⟨fun i a ty n g e => O.baK hw (M.1 i a ty n g e) K, M.2⟩
theorem ef_7 (m : MethodId) (x1 : Int32) (x2 : Int32) : entryFrame m #[(.int x1), (.int x2)] 2 = mkF m 0 #[.val (.int x1), .val (.int x2)] [] := by first | (simp [entryFrame, mkF, argsToLocals, Value.category]; done) | rfl
set_option maxRecDepth 65536 in
set_option maxHeartbeats 40000000 in
theorem rmMax {l : Launch} {Z : State} {a0 : Array Value} {n0 : Nat} {h : Heap} (hw : ∀ d ∈ tables_1, d.before a0 Z = true) (hn : n0 ≤ h.size) (x1 : Int32) (x2 : Int32) (u1 u2 : Nat) (h1 : u1 < 2147483648) (h2 : u2 < 2147483648) (e1 : x1 = Int32.ofNat u1) (e2 : x2 = Int32.ofNat u2) :
    Ctr l Z n0 (⟨"java/lang/Math", "max", "(II)I"⟩ : MethodName) jdk_29_method_65_code 2 (some .int) ({ frames := 0, cells := 0, slots := 0, locals := 0 } : Room) [] #[(.int x1), (.int x2)] h (fun v h' => v = some (.int (Int32.ofNat (max u1 u2))) ∧ h = h') := by
  refine ctr_of (Jvm.Free.JP.mathPlain rfl (by decide +kernel)) hw hn ?_
  intro p e s m below meth c T X
  refine Wp.cast (ef_7 m x1 x2) ?_
  subst e1 e2
  refine w_iloadN X D7_0 rfl ?_
  refine w_iloadN X D7_1 rfl ?_
  refine w_icmplt X D7_2 (fun hc2 => ?_) (fun hc2 => ?_)
  · refine w_iloadN X D7_9 rfl ?_
    exact w_ireturn X D7_10 (by decide) (by decide) (⟨by
            have f := (ofNat_lt h1 h2).mp hc2
            rw [Nat.max_eq_right (by omega)], rfl⟩)
  · refine w_iloadN X D7_5 rfl ?_
    refine w_goto X D7_6 ?_
    exact w_ireturn X D7_10 (by decide) (by decide) (⟨by
            have f : ¬ u1 < u2 := fun z => hc2 ((ofNat_lt h1 h2).mpr z)
            rw [Nat.max_eq_left (by omega)], rfl⟩)
theorem ef_15 (m : MethodId) (x1 : Int32) (x2 : Int32) : entryFrame m #[(.int x1), (.int x2)] 2 = mkF m 0 #[.val (.int x1), .val (.int x2)] [] := by first | (simp [entryFrame, mkF, argsToLocals, Value.category]; done) | rfl
set_option maxRecDepth 65536 in
set_option maxHeartbeats 40000000 in
theorem rmMin {l : Launch} {Z : State} {a0 : Array Value} {n0 : Nat} {h : Heap} (hw : ∀ d ∈ tables_1, d.before a0 Z = true) (hn : n0 ≤ h.size) (x1 : Int32) (x2 : Int32) (u1 u2 : Nat) (h1 : u1 < 2147483648) (h2 : u2 < 2147483648) (e1 : x1 = Int32.ofNat u1) (e2 : x2 = Int32.ofNat u2) :
    Ctr l Z n0 (⟨"java/lang/Math", "min", "(II)I"⟩ : MethodName) jdk_29_method_69_code 2 (some .int) ({ frames := 0, cells := 0, slots := 0, locals := 0 } : Room) [] #[(.int x1), (.int x2)] h (fun v h' => v = some (.int (Int32.ofNat (min u1 u2))) ∧ h = h') := by
  refine ctr_of (Jvm.Free.JP.mathPlain rfl (by decide +kernel)) hw hn ?_
  intro p e s m below meth c T X
  refine Wp.cast (ef_15 m x1 x2) ?_
  subst e1 e2
  refine w_iloadN X D15_0 rfl ?_
  refine w_iloadN X D15_1 rfl ?_
  refine w_icmpgt X D15_2 (fun hc2 => ?_) (fun hc2 => ?_)
  · refine w_iloadN X D15_9 rfl ?_
    exact w_ireturn X D15_10 (by decide) (by decide) (⟨by
            have f := (ofNat_lt h2 h1).mp hc2
            rw [Nat.min_eq_right (by omega)], rfl⟩)
  · refine w_iloadN X D15_5 rfl ?_
    refine w_goto X D15_6 ?_
    exact w_ireturn X D15_10 (by decide) (by decide) (⟨by
            have f : ¬ u2 < u1 := fun z => hc2 ((ofNat_lt h2 h1).mpr z)
            rw [Nat.min_eq_left (by omega)], rfl⟩)
theorem ef_19 (m : MethodId) (x1 : Int64) (x2 : Int64) : entryFrame m #[(.long x1), (.long x2)] 4 = mkF m 0 #[.val (.long x1), .second, .val (.long x2), .second] [] := by first | (simp [entryFrame, mkF, argsToLocals, Value.category]; done) | rfl
set_option maxRecDepth 65536 in
set_option maxHeartbeats 40000000 in
theorem rmMaxL {l : Launch} {Z : State} {a0 : Array Value} {n0 : Nat} {h : Heap} (hw : ∀ d ∈ tables_1, d.before a0 Z = true) (hn : n0 ≤ h.size) (x1 : Int64) (x2 : Int64) (u1 u2 : Nat) (h1 : u1 < 9223372036854775808) (h2 : u2 < 9223372036854775808) (e1 : x1 = Int64.ofNat u1) (e2 : x2 = Int64.ofNat u2) :
    Ctr l Z n0 (⟨"java/lang/Math", "max", "(JJ)J"⟩ : MethodName) jdk_29_method_66_code 4 (some .long) ({ frames := 0, cells := 0, slots := 0, locals := 0 } : Room) [] #[(.long x1), (.long x2)] h (fun v h' => v = some (.long (Int64.ofNat (max u1 u2))) ∧ h = h') := by
  refine ctr_of (Jvm.Free.JP.mathPlain rfl (by decide +kernel)) hw hn ?_
  intro p e s m below meth c T X
  refine Wp.cast (ef_19 m x1 x2) ?_
  subst e1 e2
  refine w_lloadN X D19_0 rfl ?_
  refine w_lloadN X D19_1 rfl ?_
  refine w_lcmplt X D19_2 D19_3 (fun hc3 => ?_) (fun hc3 => ?_)
  · refine w_lloadN X D19_10 rfl ?_
    exact w_lreturn X D19_11 (by decide) (by decide) (⟨by
            have f := (nL_lt h1 h2).mp hc3
            rw [Nat.max_eq_right (by omega)], rfl⟩)
  · refine w_lloadN X D19_6 rfl ?_
    refine w_goto X D19_7 ?_
    exact w_lreturn X D19_11 (by decide) (by decide) (⟨by
            have f : ¬ u1 < u2 := fun z => hc3 ((nL_lt h1 h2).mpr z)
            rw [Nat.max_eq_left (by omega)], rfl⟩)
theorem ef_20 (m : MethodId) (x1 : Int64) : entryFrame m #[(.long x1)] 2 = mkF m 0 #[.val (.long x1), .second] [] := by first | (simp [entryFrame, mkF, argsToLocals, Value.category]; done) | rfl
set_option maxRecDepth 65536 in
set_option maxHeartbeats 40000000 in
theorem rmTI {l : Launch} {Z : State} {a0 : Array Value} {n0 : Nat} {h : Heap} (hw : ∀ d ∈ tables_1, d.before a0 Z = true) (hn : n0 ≤ h.size) (x1 : Int64) (u : Nat) (hu : u < 2147483648) (e1 : x1 = Int64.ofNat u) :
    Ctr l Z n0 (⟨"java/lang/Math", "toIntExact", "(J)I"⟩ : MethodName) jdk_29_method_43_code 2 (some .int) ({ frames := 0, cells := 0, slots := 0, locals := 0 } : Room) [] #[(.long x1)] h (fun v h' => v = some (.int (Int32.ofNat u)) ∧ h = h') := by
  refine ctr_of (Jvm.Free.JP.mathPlain rfl (by decide +kernel)) hw hn ?_
  intro p e s m below meth c T X
  refine Wp.cast (ef_20 m x1) ?_
  subst e1
  refine w_lloadN X D20_0 rfl ?_
  refine w_l2i X D20_1 ?_
  refine w_i2l X D20_2 ?_
  refine w_lloadN X D20_3 rfl ?_
  refine w_lcmpeq X D20_4 D20_5 (fun hc5 => ?_) (fun hc5 => by exact absurd (by rw [n_l2i, n_i2l hu]) hc5)
  refine w_lloadN X D20_18 rfl ?_
  refine w_l2i X D20_19 ?_
  rw [n_l2i]
  exact w_ireturn X D20_20 (by decide) (by decide) (⟨rfl, rfl⟩)
theorem ef_6 (m : MethodId) (x1 : Int32) : entryFrame m #[(.int x1)] 2 = mkF m 0 #[.val (.int x1), .unset] [] := by first | (simp [entryFrame, mkF, argsToLocals, Value.category]; done) | rfl
theorem pn_6 : plainName "java/lang/Integer" = true := by first | (simp [plainName, overriddenIn]; done) | decide +kernel
set_option maxRecDepth 65536 in
set_option maxHeartbeats 40000000 in
theorem rmZ {l : Launch} {Z : State} {a0 : Array Value} {n0 : Nat} {h : Heap} (hw : ∀ d ∈ tables_1, d.before a0 Z = true) (hn : n0 ≤ h.size) (x1 : Int32) (u bl : Nat) (e1 : x1 = Int32.ofNat u) (hp : u < 2147483648) (h1 : u < 2 ^ bl) (h2 : bl = 0 ∨ 2 ^ (bl - 1) ≤ u) :
    Ctr l Z n0 (⟨"java/lang/Integer", "numberOfLeadingZeros", "(I)I"⟩ : MethodName) jdk_33_method_47_code 2 (some .int) ({ frames := 0, cells := 0, slots := 0, locals := 0 } : Room) [] #[(.int x1)] h (fun v h' => v = some (.int (Int32.ofNat (32 - bl))) ∧ h = h') := by
  refine ctr_of (plainFor_of_name pn_6) hw hn ?_
  intro p e s m below meth c T X
  refine Wp.cast (ef_6 m x1) ?_
  subst e1
  refine w_iloadN X D6_0 rfl ?_
  refine w_ifgt X D6_1 (fun hc1 => ?_) (fun hc1 => ?_)
  · refine w_bipush X D6_15 (v := (31 : Int32)) rfl ?_
    refine w_istoreN X D6_17 (l' := #[.val (.int (Int32.ofNat u)), .val (.int (31 : Int32))]) rfl ?_
    have Fp : 0 < u := by have z := Int32.lt_iff_toInt_lt.mp hc1; rw [ofNat_toInt hp, show (0 : Int32).toInt = 0 from rfl] at z; omega
    refine w_iloadN X D6_18 rfl ?_
    refine w_ldcw X D6_19 (hw _ (List.mem_of_getElem? (i := 51) rfl)) ?_
    refine w_icmplt X D6_22 (fun hc22 => ?_) (fun hc22 => ?_)
    · have F22 : u < 65536 := (ofNat_lt (b := 65536) (by omega) (by decide)).mp hc22
      refine w_iloadN X D6_33 rfl ?_
      refine w_sipush X D6_34 (v := (256 : Int32)) rfl ?_
      refine w_icmplt X D6_37 (fun hc37 => ?_) (fun hc37 => ?_)
      · have F37 : u < 256 := (ofNat_lt (b := 256) (by omega) (by decide)).mp hc37
        refine w_iloadN X D6_48 rfl ?_
        refine w_bipush X D6_49 (v := (16 : Int32)) rfl ?_
        refine w_icmplt X D6_51 (fun hc51 => ?_) (fun hc51 => ?_)
        · have F51 : u < 16 := (ofNat_lt (b := 16) (by omega) (by decide)).mp hc51
          refine w_iloadN X D6_61 rfl ?_
          refine w_iconst X D6_62 (v := (4 : Int32)) rfl ?_
          refine w_icmplt X D6_63 (fun hc63 => ?_) (fun hc63 => ?_)
          · have F63 : u < 4 := (ofNat_lt (b := 4) (by omega) (by decide)).mp hc63
            refine w_iloadN X D6_73 rfl ?_
            refine w_iloadN X D6_74 rfl ?_
            refine w_iconst X D6_75 (v := (1 : Int32)) rfl ?_
            refine w_iushr X D6_76 ?_
            rw [show jushr (Int32.ofNat u) 1 = Int32.ofNat (u / 2) from n_ushr (k := 1) (by omega) (by decide)]
            refine w_isub X D6_77 ?_
            exact w_ireturn X D6_78 (by decide) (by decide) (⟨by
                            by_cases hy : (u / 2) = 0
                            · rw [hy, own_uniq h1 h2 (t := 0) (by omega) (by omega)]; rfl
                            · rw [show (u / 2) = 1 by omega, own_uniq h1 h2 (t := 1) (by omega) (by omega)]; rfl, rfl⟩)
          · have F63 : ¬ u < 4 := fun z => hc63 ((ofNat_lt (b := 4) (by omega) (by decide)).mpr z)
            refine w_iinc X D6_66 (d := (-2 : Int32)) (r := (29 : Int32)) (l' := #[.val (.int (Int32.ofNat u)), .val (.int (29 : Int32))]) rfl rfl (by decide) rfl ?_
            refine w_iloadN X D6_69 rfl ?_
            refine w_iconst X D6_70 (v := (2 : Int32)) rfl ?_
            refine w_iushr X D6_71 ?_
            rw [show jushr (Int32.ofNat u) 2 = Int32.ofNat (u / 4) from n_ushr (k := 2) (by omega) (by decide)]
            refine w_istoreN X D6_72 (l' := #[.val (.int (Int32.ofNat (u / 4))), .val (.int (29 : Int32))]) rfl ?_
            refine w_iloadN X D6_73 rfl ?_
            refine w_iloadN X D6_74 rfl ?_
            refine w_iconst X D6_75 (v := (1 : Int32)) rfl ?_
            refine w_iushr X D6_76 ?_
            rw [show jushr (Int32.ofNat (u / 4)) 1 = Int32.ofNat ((u / 4) / 2) from n_ushr (k := 1) (by omega) (by decide)]
            refine w_isub X D6_77 ?_
            exact w_ireturn X D6_78 (by decide) (by decide) (⟨by
                            by_cases hy : ((u / 4) / 2) = 0
                            · rw [hy, own_uniq h1 h2 (t := 2) (by omega) (by omega)]; rfl
                            · rw [show ((u / 4) / 2) = 1 by omega, own_uniq h1 h2 (t := 3) (by omega) (by omega)]; rfl, rfl⟩)
        · have F51 : ¬ u < 16 := fun z => hc51 ((ofNat_lt (b := 16) (by omega) (by decide)).mpr z)
          refine w_iinc X D6_54 (d := (-4 : Int32)) (r := (27 : Int32)) (l' := #[.val (.int (Int32.ofNat u)), .val (.int (27 : Int32))]) rfl rfl (by decide) rfl ?_
          refine w_iloadN X D6_57 rfl ?_
          refine w_iconst X D6_58 (v := (4 : Int32)) rfl ?_
          refine w_iushr X D6_59 ?_
          rw [show jushr (Int32.ofNat u) 4 = Int32.ofNat (u / 16) from n_ushr (k := 4) (by omega) (by decide)]
          refine w_istoreN X D6_60 (l' := #[.val (.int (Int32.ofNat (u / 16))), .val (.int (27 : Int32))]) rfl ?_
          refine w_iloadN X D6_61 rfl ?_
          refine w_iconst X D6_62 (v := (4 : Int32)) rfl ?_
          refine w_icmplt X D6_63 (fun hc63 => ?_) (fun hc63 => ?_)
          · have F63 : (u / 16) < 4 := (ofNat_lt (b := 4) (by omega) (by decide)).mp hc63
            refine w_iloadN X D6_73 rfl ?_
            refine w_iloadN X D6_74 rfl ?_
            refine w_iconst X D6_75 (v := (1 : Int32)) rfl ?_
            refine w_iushr X D6_76 ?_
            rw [show jushr (Int32.ofNat (u / 16)) 1 = Int32.ofNat ((u / 16) / 2) from n_ushr (k := 1) (by omega) (by decide)]
            refine w_isub X D6_77 ?_
            exact w_ireturn X D6_78 (by decide) (by decide) (⟨by
                            by_cases hy : ((u / 16) / 2) = 0
                            · rw [hy, own_uniq h1 h2 (t := 4) (by omega) (by omega)]; rfl
                            · rw [show ((u / 16) / 2) = 1 by omega, own_uniq h1 h2 (t := 5) (by omega) (by omega)]; rfl, rfl⟩)
          · have F63 : ¬ (u / 16) < 4 := fun z => hc63 ((ofNat_lt (b := 4) (by omega) (by decide)).mpr z)
            refine w_iinc X D6_66 (d := (-2 : Int32)) (r := (25 : Int32)) (l' := #[.val (.int (Int32.ofNat (u / 16))), .val (.int (25 : Int32))]) rfl rfl (by decide) rfl ?_
            refine w_iloadN X D6_69 rfl ?_
            refine w_iconst X D6_70 (v := (2 : Int32)) rfl ?_
            refine w_iushr X D6_71 ?_
            rw [show jushr (Int32.ofNat (u / 16)) 2 = Int32.ofNat ((u / 16) / 4) from n_ushr (k := 2) (by omega) (by decide)]
            refine w_istoreN X D6_72 (l' := #[.val (.int (Int32.ofNat ((u / 16) / 4))), .val (.int (25 : Int32))]) rfl ?_
            refine w_iloadN X D6_73 rfl ?_
            refine w_iloadN X D6_74 rfl ?_
            refine w_iconst X D6_75 (v := (1 : Int32)) rfl ?_
            refine w_iushr X D6_76 ?_
            rw [show jushr (Int32.ofNat ((u / 16) / 4)) 1 = Int32.ofNat (((u / 16) / 4) / 2) from n_ushr (k := 1) (by omega) (by decide)]
            refine w_isub X D6_77 ?_
            exact w_ireturn X D6_78 (by decide) (by decide) (⟨by
                            by_cases hy : (((u / 16) / 4) / 2) = 0
                            · rw [hy, own_uniq h1 h2 (t := 6) (by omega) (by omega)]; rfl
                            · rw [show (((u / 16) / 4) / 2) = 1 by omega, own_uniq h1 h2 (t := 7) (by omega) (by omega)]; rfl, rfl⟩)
      · have F37 : ¬ u < 256 := fun z => hc37 ((ofNat_lt (b := 256) (by omega) (by decide)).mpr z)
        refine w_iinc X D6_40 (d := (-8 : Int32)) (r := (23 : Int32)) (l' := #[.val (.int (Int32.ofNat u)), .val (.int (23 : Int32))]) rfl rfl (by decide) rfl ?_
        refine w_iloadN X D6_43 rfl ?_
        refine w_bipush X D6_44 (v := (8 : Int32)) rfl ?_
        refine w_iushr X D6_46 ?_
        rw [show jushr (Int32.ofNat u) 8 = Int32.ofNat (u / 256) from n_ushr (k := 8) (by omega) (by decide)]
        refine w_istoreN X D6_47 (l' := #[.val (.int (Int32.ofNat (u / 256))), .val (.int (23 : Int32))]) rfl ?_
        refine w_iloadN X D6_48 rfl ?_
        refine w_bipush X D6_49 (v := (16 : Int32)) rfl ?_
        refine w_icmplt X D6_51 (fun hc51 => ?_) (fun hc51 => ?_)
        · have F51 : (u / 256) < 16 := (ofNat_lt (b := 16) (by omega) (by decide)).mp hc51
          refine w_iloadN X D6_61 rfl ?_
          refine w_iconst X D6_62 (v := (4 : Int32)) rfl ?_
          refine w_icmplt X D6_63 (fun hc63 => ?_) (fun hc63 => ?_)
          · have F63 : (u / 256) < 4 := (ofNat_lt (b := 4) (by omega) (by decide)).mp hc63
            refine w_iloadN X D6_73 rfl ?_
            refine w_iloadN X D6_74 rfl ?_
            refine w_iconst X D6_75 (v := (1 : Int32)) rfl ?_
            refine w_iushr X D6_76 ?_
            rw [show jushr (Int32.ofNat (u / 256)) 1 = Int32.ofNat ((u / 256) / 2) from n_ushr (k := 1) (by omega) (by decide)]
            refine w_isub X D6_77 ?_
            exact w_ireturn X D6_78 (by decide) (by decide) (⟨by
                            by_cases hy : ((u / 256) / 2) = 0
                            · rw [hy, own_uniq h1 h2 (t := 8) (by omega) (by omega)]; rfl
                            · rw [show ((u / 256) / 2) = 1 by omega, own_uniq h1 h2 (t := 9) (by omega) (by omega)]; rfl, rfl⟩)
          · have F63 : ¬ (u / 256) < 4 := fun z => hc63 ((ofNat_lt (b := 4) (by omega) (by decide)).mpr z)
            refine w_iinc X D6_66 (d := (-2 : Int32)) (r := (21 : Int32)) (l' := #[.val (.int (Int32.ofNat (u / 256))), .val (.int (21 : Int32))]) rfl rfl (by decide) rfl ?_
            refine w_iloadN X D6_69 rfl ?_
            refine w_iconst X D6_70 (v := (2 : Int32)) rfl ?_
            refine w_iushr X D6_71 ?_
            rw [show jushr (Int32.ofNat (u / 256)) 2 = Int32.ofNat ((u / 256) / 4) from n_ushr (k := 2) (by omega) (by decide)]
            refine w_istoreN X D6_72 (l' := #[.val (.int (Int32.ofNat ((u / 256) / 4))), .val (.int (21 : Int32))]) rfl ?_
            refine w_iloadN X D6_73 rfl ?_
            refine w_iloadN X D6_74 rfl ?_
            refine w_iconst X D6_75 (v := (1 : Int32)) rfl ?_
            refine w_iushr X D6_76 ?_
            rw [show jushr (Int32.ofNat ((u / 256) / 4)) 1 = Int32.ofNat (((u / 256) / 4) / 2) from n_ushr (k := 1) (by omega) (by decide)]
            refine w_isub X D6_77 ?_
            exact w_ireturn X D6_78 (by decide) (by decide) (⟨by
                            by_cases hy : (((u / 256) / 4) / 2) = 0
                            · rw [hy, own_uniq h1 h2 (t := 10) (by omega) (by omega)]; rfl
                            · rw [show (((u / 256) / 4) / 2) = 1 by omega, own_uniq h1 h2 (t := 11) (by omega) (by omega)]; rfl, rfl⟩)
        · have F51 : ¬ (u / 256) < 16 := fun z => hc51 ((ofNat_lt (b := 16) (by omega) (by decide)).mpr z)
          refine w_iinc X D6_54 (d := (-4 : Int32)) (r := (19 : Int32)) (l' := #[.val (.int (Int32.ofNat (u / 256))), .val (.int (19 : Int32))]) rfl rfl (by decide) rfl ?_
          refine w_iloadN X D6_57 rfl ?_
          refine w_iconst X D6_58 (v := (4 : Int32)) rfl ?_
          refine w_iushr X D6_59 ?_
          rw [show jushr (Int32.ofNat (u / 256)) 4 = Int32.ofNat ((u / 256) / 16) from n_ushr (k := 4) (by omega) (by decide)]
          refine w_istoreN X D6_60 (l' := #[.val (.int (Int32.ofNat ((u / 256) / 16))), .val (.int (19 : Int32))]) rfl ?_
          refine w_iloadN X D6_61 rfl ?_
          refine w_iconst X D6_62 (v := (4 : Int32)) rfl ?_
          refine w_icmplt X D6_63 (fun hc63 => ?_) (fun hc63 => ?_)
          · have F63 : ((u / 256) / 16) < 4 := (ofNat_lt (b := 4) (by omega) (by decide)).mp hc63
            refine w_iloadN X D6_73 rfl ?_
            refine w_iloadN X D6_74 rfl ?_
            refine w_iconst X D6_75 (v := (1 : Int32)) rfl ?_
            refine w_iushr X D6_76 ?_
            rw [show jushr (Int32.ofNat ((u / 256) / 16)) 1 = Int32.ofNat (((u / 256) / 16) / 2) from n_ushr (k := 1) (by omega) (by decide)]
            refine w_isub X D6_77 ?_
            exact w_ireturn X D6_78 (by decide) (by decide) (⟨by
                            by_cases hy : (((u / 256) / 16) / 2) = 0
                            · rw [hy, own_uniq h1 h2 (t := 12) (by omega) (by omega)]; rfl
                            · rw [show (((u / 256) / 16) / 2) = 1 by omega, own_uniq h1 h2 (t := 13) (by omega) (by omega)]; rfl, rfl⟩)
          · have F63 : ¬ ((u / 256) / 16) < 4 := fun z => hc63 ((ofNat_lt (b := 4) (by omega) (by decide)).mpr z)
            refine w_iinc X D6_66 (d := (-2 : Int32)) (r := (17 : Int32)) (l' := #[.val (.int (Int32.ofNat ((u / 256) / 16))), .val (.int (17 : Int32))]) rfl rfl (by decide) rfl ?_
            refine w_iloadN X D6_69 rfl ?_
            refine w_iconst X D6_70 (v := (2 : Int32)) rfl ?_
            refine w_iushr X D6_71 ?_
            rw [show jushr (Int32.ofNat ((u / 256) / 16)) 2 = Int32.ofNat (((u / 256) / 16) / 4) from n_ushr (k := 2) (by omega) (by decide)]
            refine w_istoreN X D6_72 (l' := #[.val (.int (Int32.ofNat (((u / 256) / 16) / 4))), .val (.int (17 : Int32))]) rfl ?_
            refine w_iloadN X D6_73 rfl ?_
            refine w_iloadN X D6_74 rfl ?_
            refine w_iconst X D6_75 (v := (1 : Int32)) rfl ?_
            refine w_iushr X D6_76 ?_
            rw [show jushr (Int32.ofNat (((u / 256) / 16) / 4)) 1 = Int32.ofNat ((((u / 256) / 16) / 4) / 2) from n_ushr (k := 1) (by omega) (by decide)]
            refine w_isub X D6_77 ?_
            exact w_ireturn X D6_78 (by decide) (by decide) (⟨by
                            by_cases hy : ((((u / 256) / 16) / 4) / 2) = 0
                            · rw [hy, own_uniq h1 h2 (t := 14) (by omega) (by omega)]; rfl
                            · rw [show ((((u / 256) / 16) / 4) / 2) = 1 by omega, own_uniq h1 h2 (t := 15) (by omega) (by omega)]; rfl, rfl⟩)
    · have F22 : ¬ u < 65536 := fun z => hc22 ((ofNat_lt (b := 65536) (by omega) (by decide)).mpr z)
      refine w_iinc X D6_25 (d := (-16 : Int32)) (r := (15 : Int32)) (l' := #[.val (.int (Int32.ofNat u)), .val (.int (15 : Int32))]) rfl rfl (by decide) rfl ?_
      refine w_iloadN X D6_28 rfl ?_
      refine w_bipush X D6_29 (v := (16 : Int32)) rfl ?_
      refine w_iushr X D6_31 ?_
      rw [show jushr (Int32.ofNat u) 16 = Int32.ofNat (u / 65536) from n_ushr (k := 16) (by omega) (by decide)]
      refine w_istoreN X D6_32 (l' := #[.val (.int (Int32.ofNat (u / 65536))), .val (.int (15 : Int32))]) rfl ?_
      refine w_iloadN X D6_33 rfl ?_
      refine w_sipush X D6_34 (v := (256 : Int32)) rfl ?_
      refine w_icmplt X D6_37 (fun hc37 => ?_) (fun hc37 => ?_)
      · have F37 : (u / 65536) < 256 := (ofNat_lt (b := 256) (by omega) (by decide)).mp hc37
        refine w_iloadN X D6_48 rfl ?_
        refine w_bipush X D6_49 (v := (16 : Int32)) rfl ?_
        refine w_icmplt X D6_51 (fun hc51 => ?_) (fun hc51 => ?_)
        · have F51 : (u / 65536) < 16 := (ofNat_lt (b := 16) (by omega) (by decide)).mp hc51
          refine w_iloadN X D6_61 rfl ?_
          refine w_iconst X D6_62 (v := (4 : Int32)) rfl ?_
          refine w_icmplt X D6_63 (fun hc63 => ?_) (fun hc63 => ?_)
          · have F63 : (u / 65536) < 4 := (ofNat_lt (b := 4) (by omega) (by decide)).mp hc63
            refine w_iloadN X D6_73 rfl ?_
            refine w_iloadN X D6_74 rfl ?_
            refine w_iconst X D6_75 (v := (1 : Int32)) rfl ?_
            refine w_iushr X D6_76 ?_
            rw [show jushr (Int32.ofNat (u / 65536)) 1 = Int32.ofNat ((u / 65536) / 2) from n_ushr (k := 1) (by omega) (by decide)]
            refine w_isub X D6_77 ?_
            exact w_ireturn X D6_78 (by decide) (by decide) (⟨by
                            by_cases hy : ((u / 65536) / 2) = 0
                            · rw [hy, own_uniq h1 h2 (t := 16) (by omega) (by omega)]; rfl
                            · rw [show ((u / 65536) / 2) = 1 by omega, own_uniq h1 h2 (t := 17) (by omega) (by omega)]; rfl, rfl⟩)
          · have F63 : ¬ (u / 65536) < 4 := fun z => hc63 ((ofNat_lt (b := 4) (by omega) (by decide)).mpr z)
            refine w_iinc X D6_66 (d := (-2 : Int32)) (r := (13 : Int32)) (l' := #[.val (.int (Int32.ofNat (u / 65536))), .val (.int (13 : Int32))]) rfl rfl (by decide) rfl ?_
            refine w_iloadN X D6_69 rfl ?_
            refine w_iconst X D6_70 (v := (2 : Int32)) rfl ?_
            refine w_iushr X D6_71 ?_
            rw [show jushr (Int32.ofNat (u / 65536)) 2 = Int32.ofNat ((u / 65536) / 4) from n_ushr (k := 2) (by omega) (by decide)]
            refine w_istoreN X D6_72 (l' := #[.val (.int (Int32.ofNat ((u / 65536) / 4))), .val (.int (13 : Int32))]) rfl ?_
            refine w_iloadN X D6_73 rfl ?_
            refine w_iloadN X D6_74 rfl ?_
            refine w_iconst X D6_75 (v := (1 : Int32)) rfl ?_
            refine w_iushr X D6_76 ?_
            rw [show jushr (Int32.ofNat ((u / 65536) / 4)) 1 = Int32.ofNat (((u / 65536) / 4) / 2) from n_ushr (k := 1) (by omega) (by decide)]
            refine w_isub X D6_77 ?_
            exact w_ireturn X D6_78 (by decide) (by decide) (⟨by
                            by_cases hy : (((u / 65536) / 4) / 2) = 0
                            · rw [hy, own_uniq h1 h2 (t := 18) (by omega) (by omega)]; rfl
                            · rw [show (((u / 65536) / 4) / 2) = 1 by omega, own_uniq h1 h2 (t := 19) (by omega) (by omega)]; rfl, rfl⟩)
        · have F51 : ¬ (u / 65536) < 16 := fun z => hc51 ((ofNat_lt (b := 16) (by omega) (by decide)).mpr z)
          refine w_iinc X D6_54 (d := (-4 : Int32)) (r := (11 : Int32)) (l' := #[.val (.int (Int32.ofNat (u / 65536))), .val (.int (11 : Int32))]) rfl rfl (by decide) rfl ?_
          refine w_iloadN X D6_57 rfl ?_
          refine w_iconst X D6_58 (v := (4 : Int32)) rfl ?_
          refine w_iushr X D6_59 ?_
          rw [show jushr (Int32.ofNat (u / 65536)) 4 = Int32.ofNat ((u / 65536) / 16) from n_ushr (k := 4) (by omega) (by decide)]
          refine w_istoreN X D6_60 (l' := #[.val (.int (Int32.ofNat ((u / 65536) / 16))), .val (.int (11 : Int32))]) rfl ?_
          refine w_iloadN X D6_61 rfl ?_
          refine w_iconst X D6_62 (v := (4 : Int32)) rfl ?_
          refine w_icmplt X D6_63 (fun hc63 => ?_) (fun hc63 => ?_)
          · have F63 : ((u / 65536) / 16) < 4 := (ofNat_lt (b := 4) (by omega) (by decide)).mp hc63
            refine w_iloadN X D6_73 rfl ?_
            refine w_iloadN X D6_74 rfl ?_
            refine w_iconst X D6_75 (v := (1 : Int32)) rfl ?_
            refine w_iushr X D6_76 ?_
            rw [show jushr (Int32.ofNat ((u / 65536) / 16)) 1 = Int32.ofNat (((u / 65536) / 16) / 2) from n_ushr (k := 1) (by omega) (by decide)]
            refine w_isub X D6_77 ?_
            exact w_ireturn X D6_78 (by decide) (by decide) (⟨by
                            by_cases hy : (((u / 65536) / 16) / 2) = 0
                            · rw [hy, own_uniq h1 h2 (t := 20) (by omega) (by omega)]; rfl
                            · rw [show (((u / 65536) / 16) / 2) = 1 by omega, own_uniq h1 h2 (t := 21) (by omega) (by omega)]; rfl, rfl⟩)
          · have F63 : ¬ ((u / 65536) / 16) < 4 := fun z => hc63 ((ofNat_lt (b := 4) (by omega) (by decide)).mpr z)
            refine w_iinc X D6_66 (d := (-2 : Int32)) (r := (9 : Int32)) (l' := #[.val (.int (Int32.ofNat ((u / 65536) / 16))), .val (.int (9 : Int32))]) rfl rfl (by decide) rfl ?_
            refine w_iloadN X D6_69 rfl ?_
            refine w_iconst X D6_70 (v := (2 : Int32)) rfl ?_
            refine w_iushr X D6_71 ?_
            rw [show jushr (Int32.ofNat ((u / 65536) / 16)) 2 = Int32.ofNat (((u / 65536) / 16) / 4) from n_ushr (k := 2) (by omega) (by decide)]
            refine w_istoreN X D6_72 (l' := #[.val (.int (Int32.ofNat (((u / 65536) / 16) / 4))), .val (.int (9 : Int32))]) rfl ?_
            refine w_iloadN X D6_73 rfl ?_
            refine w_iloadN X D6_74 rfl ?_
            refine w_iconst X D6_75 (v := (1 : Int32)) rfl ?_
            refine w_iushr X D6_76 ?_
            rw [show jushr (Int32.ofNat (((u / 65536) / 16) / 4)) 1 = Int32.ofNat ((((u / 65536) / 16) / 4) / 2) from n_ushr (k := 1) (by omega) (by decide)]
            refine w_isub X D6_77 ?_
            exact w_ireturn X D6_78 (by decide) (by decide) (⟨by
                            by_cases hy : ((((u / 65536) / 16) / 4) / 2) = 0
                            · rw [hy, own_uniq h1 h2 (t := 22) (by omega) (by omega)]; rfl
                            · rw [show ((((u / 65536) / 16) / 4) / 2) = 1 by omega, own_uniq h1 h2 (t := 23) (by omega) (by omega)]; rfl, rfl⟩)
      · have F37 : ¬ (u / 65536) < 256 := fun z => hc37 ((ofNat_lt (b := 256) (by omega) (by decide)).mpr z)
        refine w_iinc X D6_40 (d := (-8 : Int32)) (r := (7 : Int32)) (l' := #[.val (.int (Int32.ofNat (u / 65536))), .val (.int (7 : Int32))]) rfl rfl (by decide) rfl ?_
        refine w_iloadN X D6_43 rfl ?_
        refine w_bipush X D6_44 (v := (8 : Int32)) rfl ?_
        refine w_iushr X D6_46 ?_
        rw [show jushr (Int32.ofNat (u / 65536)) 8 = Int32.ofNat ((u / 65536) / 256) from n_ushr (k := 8) (by omega) (by decide)]
        refine w_istoreN X D6_47 (l' := #[.val (.int (Int32.ofNat ((u / 65536) / 256))), .val (.int (7 : Int32))]) rfl ?_
        refine w_iloadN X D6_48 rfl ?_
        refine w_bipush X D6_49 (v := (16 : Int32)) rfl ?_
        refine w_icmplt X D6_51 (fun hc51 => ?_) (fun hc51 => ?_)
        · have F51 : ((u / 65536) / 256) < 16 := (ofNat_lt (b := 16) (by omega) (by decide)).mp hc51
          refine w_iloadN X D6_61 rfl ?_
          refine w_iconst X D6_62 (v := (4 : Int32)) rfl ?_
          refine w_icmplt X D6_63 (fun hc63 => ?_) (fun hc63 => ?_)
          · have F63 : ((u / 65536) / 256) < 4 := (ofNat_lt (b := 4) (by omega) (by decide)).mp hc63
            refine w_iloadN X D6_73 rfl ?_
            refine w_iloadN X D6_74 rfl ?_
            refine w_iconst X D6_75 (v := (1 : Int32)) rfl ?_
            refine w_iushr X D6_76 ?_
            rw [show jushr (Int32.ofNat ((u / 65536) / 256)) 1 = Int32.ofNat (((u / 65536) / 256) / 2) from n_ushr (k := 1) (by omega) (by decide)]
            refine w_isub X D6_77 ?_
            exact w_ireturn X D6_78 (by decide) (by decide) (⟨by
                            by_cases hy : (((u / 65536) / 256) / 2) = 0
                            · rw [hy, own_uniq h1 h2 (t := 24) (by omega) (by omega)]; rfl
                            · rw [show (((u / 65536) / 256) / 2) = 1 by omega, own_uniq h1 h2 (t := 25) (by omega) (by omega)]; rfl, rfl⟩)
          · have F63 : ¬ ((u / 65536) / 256) < 4 := fun z => hc63 ((ofNat_lt (b := 4) (by omega) (by decide)).mpr z)
            refine w_iinc X D6_66 (d := (-2 : Int32)) (r := (5 : Int32)) (l' := #[.val (.int (Int32.ofNat ((u / 65536) / 256))), .val (.int (5 : Int32))]) rfl rfl (by decide) rfl ?_
            refine w_iloadN X D6_69 rfl ?_
            refine w_iconst X D6_70 (v := (2 : Int32)) rfl ?_
            refine w_iushr X D6_71 ?_
            rw [show jushr (Int32.ofNat ((u / 65536) / 256)) 2 = Int32.ofNat (((u / 65536) / 256) / 4) from n_ushr (k := 2) (by omega) (by decide)]
            refine w_istoreN X D6_72 (l' := #[.val (.int (Int32.ofNat (((u / 65536) / 256) / 4))), .val (.int (5 : Int32))]) rfl ?_
            refine w_iloadN X D6_73 rfl ?_
            refine w_iloadN X D6_74 rfl ?_
            refine w_iconst X D6_75 (v := (1 : Int32)) rfl ?_
            refine w_iushr X D6_76 ?_
            rw [show jushr (Int32.ofNat (((u / 65536) / 256) / 4)) 1 = Int32.ofNat ((((u / 65536) / 256) / 4) / 2) from n_ushr (k := 1) (by omega) (by decide)]
            refine w_isub X D6_77 ?_
            exact w_ireturn X D6_78 (by decide) (by decide) (⟨by
                            by_cases hy : ((((u / 65536) / 256) / 4) / 2) = 0
                            · rw [hy, own_uniq h1 h2 (t := 26) (by omega) (by omega)]; rfl
                            · rw [show ((((u / 65536) / 256) / 4) / 2) = 1 by omega, own_uniq h1 h2 (t := 27) (by omega) (by omega)]; rfl, rfl⟩)
        · have F51 : ¬ ((u / 65536) / 256) < 16 := fun z => hc51 ((ofNat_lt (b := 16) (by omega) (by decide)).mpr z)
          refine w_iinc X D6_54 (d := (-4 : Int32)) (r := (3 : Int32)) (l' := #[.val (.int (Int32.ofNat ((u / 65536) / 256))), .val (.int (3 : Int32))]) rfl rfl (by decide) rfl ?_
          refine w_iloadN X D6_57 rfl ?_
          refine w_iconst X D6_58 (v := (4 : Int32)) rfl ?_
          refine w_iushr X D6_59 ?_
          rw [show jushr (Int32.ofNat ((u / 65536) / 256)) 4 = Int32.ofNat (((u / 65536) / 256) / 16) from n_ushr (k := 4) (by omega) (by decide)]
          refine w_istoreN X D6_60 (l' := #[.val (.int (Int32.ofNat (((u / 65536) / 256) / 16))), .val (.int (3 : Int32))]) rfl ?_
          refine w_iloadN X D6_61 rfl ?_
          refine w_iconst X D6_62 (v := (4 : Int32)) rfl ?_
          refine w_icmplt X D6_63 (fun hc63 => ?_) (fun hc63 => ?_)
          · have F63 : (((u / 65536) / 256) / 16) < 4 := (ofNat_lt (b := 4) (by omega) (by decide)).mp hc63
            refine w_iloadN X D6_73 rfl ?_
            refine w_iloadN X D6_74 rfl ?_
            refine w_iconst X D6_75 (v := (1 : Int32)) rfl ?_
            refine w_iushr X D6_76 ?_
            rw [show jushr (Int32.ofNat (((u / 65536) / 256) / 16)) 1 = Int32.ofNat ((((u / 65536) / 256) / 16) / 2) from n_ushr (k := 1) (by omega) (by decide)]
            refine w_isub X D6_77 ?_
            exact w_ireturn X D6_78 (by decide) (by decide) (⟨by
                            by_cases hy : ((((u / 65536) / 256) / 16) / 2) = 0
                            · rw [hy, own_uniq h1 h2 (t := 28) (by omega) (by omega)]; rfl
                            · rw [show ((((u / 65536) / 256) / 16) / 2) = 1 by omega, own_uniq h1 h2 (t := 29) (by omega) (by omega)]; rfl, rfl⟩)
          · have F63 : ¬ (((u / 65536) / 256) / 16) < 4 := fun z => hc63 ((ofNat_lt (b := 4) (by omega) (by decide)).mpr z)
            refine w_iinc X D6_66 (d := (-2 : Int32)) (r := (1 : Int32)) (l' := #[.val (.int (Int32.ofNat (((u / 65536) / 256) / 16))), .val (.int (1 : Int32))]) rfl rfl (by decide) rfl ?_
            refine w_iloadN X D6_69 rfl ?_
            refine w_iconst X D6_70 (v := (2 : Int32)) rfl ?_
            refine w_iushr X D6_71 ?_
            rw [show jushr (Int32.ofNat (((u / 65536) / 256) / 16)) 2 = Int32.ofNat ((((u / 65536) / 256) / 16) / 4) from n_ushr (k := 2) (by omega) (by decide)]
            refine w_istoreN X D6_72 (l' := #[.val (.int (Int32.ofNat ((((u / 65536) / 256) / 16) / 4))), .val (.int (1 : Int32))]) rfl ?_
            refine w_iloadN X D6_73 rfl ?_
            refine w_iloadN X D6_74 rfl ?_
            refine w_iconst X D6_75 (v := (1 : Int32)) rfl ?_
            refine w_iushr X D6_76 ?_
            rw [show jushr (Int32.ofNat ((((u / 65536) / 256) / 16) / 4)) 1 = Int32.ofNat (((((u / 65536) / 256) / 16) / 4) / 2) from n_ushr (k := 1) (by omega) (by decide)]
            refine w_isub X D6_77 ?_
            exact w_ireturn X D6_78 (by decide) (by decide) (⟨by
                            by_cases hy : (((((u / 65536) / 256) / 16) / 4) / 2) = 0
                            · rw [hy, own_uniq h1 h2 (t := 30) (by omega) (by omega)]; rfl
                            · rw [show (((((u / 65536) / 256) / 16) / 4) / 2) = 1 by omega, own_uniq h1 h2 (t := 31) (by omega) (by omega)]; rfl, rfl⟩)
  · refine w_iloadN X D6_4 rfl ?_
    refine w_ifne X D6_5 (fun hc5 => by exact absurd (Int32.lt_iff_toInt_lt.mpr (by rw [ofNat_toInt hp, show (0 : Int32).toInt = 0 from rfl]; have : ¬ u = 0 := (fun z => hc5 (by rw [z]; rfl)); omega)) hc1) (fun hc5 => ?_)
    refine w_bipush X D6_8 (v := (32 : Int32)) rfl ?_
    refine w_goto X D6_10 ?_
    exact w_ireturn X D6_14 (by decide) (by decide) (⟨by
            have z : u = 0 := (n_inj (b := 0) hp (by decide)).mp hc5
            rcases h2 with h2 | h2
            · rw [h2]; rfl
            · have := Nat.two_pow_pos (bl - 1); omega, rfl⟩)
theorem ef_5 (m : MethodId) (x1 : Int32) : entryFrame m #[(.int x1)] 1 = mkF m 0 #[.val (.int x1)] [] := by first | (simp [entryFrame, mkF, argsToLocals, Value.category]; done) | rfl
theorem pn_5 : plainName "com/example/tokenfold/tokenfold/statespace/Packing" = true := by first | (simp [plainName, overriddenIn]; done) | decide +kernel
set_option maxRecDepth 65536 in
set_option maxHeartbeats 40000000 in
theorem rmB {l : Launch} {Z : State} {a0 : Array Value} {n0 : Nat} {h : Heap} (hw : ∀ d ∈ tables_1, d.before a0 Z = true) (hn : n0 ≤ h.size) (x1 : Int32) (u : Nat) (hu : u < 2147483648) (e1 : x1 = Int32.ofNat u) :
    Ctr l Z n0 (⟨"com/example/tokenfold/tokenfold/statespace/Packing", "bits", "(I)I"⟩ : MethodName) prog_60_method_9_code 1 (some .int) ({ frames := 1, cells := 0, slots := 0, locals := 15 } : Room) [] #[(.int x1)] h (fun v h' => v = some (.int (Int32.ofNat (bt u))) ∧ h = h') := by
  refine ctr_of (plainFor_of_name pn_5) hw hn ?_
  intro p e s m below meth c T X
  refine Wp.cast (ef_5 m x1) ?_
  subst e1
  obtain ⟨bl, ebl⟩ : ∃ bl, bl = (if u = 0 then 0 else u.log2 + 1) := ⟨_, rfl⟩
  have b1 : u < 2 ^ bl := by
    rw [ebl]; split
    · rename_i z; rw [z]; decide
    · exact Nat.lt_log2_self
  have b2 : bl = 0 ∨ 2 ^ (bl - 1) ≤ u := by
    rw [ebl]; split
    · exact Or.inl rfl
    · rename_i z; exact Or.inr (by rw [Nat.add_sub_cancel]; exact Nat.log2_self_le z)
  have b3 : bl ≤ 31 := by
    rw [ebl]; split
    · omega
    · rename_i z; have := (Nat.log2_lt z (k := 31)).mpr hu; omega
  refine w_iconst X D5_0 (v := (1 : Int32)) rfl ?_
  refine w_bipush X D5_1 (v := (32 : Int32)) rfl ?_
  refine w_iloadN X D5_3 rfl ?_
  refine w_static X D5_4 (rmZ hw X.sz _ u bl rfl hu b1 b2) (hw _ (List.mem_of_getElem? (i := 47) rfl)) (hw _ (List.mem_of_getElem? (i := 48) rfl)) (hw _ (List.mem_of_getElem? (i := 49) rfl)) (hw _ (List.mem_of_getElem? (i := 50) rfl)) (by decide) pd_0 rfl (S := [(.int (32 : Int32)), (.int (1 : Int32))]) rfl rfl (Nat.le_of_ble_eq_true rfl) (Nat.le_of_ble_eq_true rfl) (Nat.le_of_ble_eq_true rfl) (Nat.le_of_ble_eq_true rfl) (fun v1 T1 h1 X1 q1 => ?_)
  obtain ⟨rfl, rfl⟩ := q1
  show Wp _ _ _ _ _ _ _ _ (mkF m 7 #[.val (.int (Int32.ofNat u))] [(.int (Int32.ofNat (32 - bl))), (.int (32 : Int32)), (.int (1 : Int32))])
  refine w_isub X1 D5_7 ?_
  rw [show (32 : Int32) - Int32.ofNat (32 - bl) = Int32.ofNat bl from (n_sub (a := 32) (by omega)).trans (by congr 1; omega)]
  refine w_static X1 D5_8 (rmMax hw X1.sz _ _ 1 bl (by decide) (by omega) rfl rfl) (hw _ (List.mem_of_getElem? (i := 52) rfl)) (hw _ (List.mem_of_getElem? (i := 53) rfl)) (hw _ (List.mem_of_getElem? (i := 54) rfl)) (hw _ (List.mem_of_getElem? (i := 55) rfl)) (by decide) pd_1 rfl (S := []) rfl rfl (Nat.le_of_ble_eq_true rfl) (Nat.le_of_ble_eq_true rfl) (Nat.le_of_ble_eq_true rfl) (Nat.le_of_ble_eq_true rfl) (fun v2 T2 h2 X2 q2 => ?_)
  obtain ⟨rfl, rfl⟩ := q2
  show Wp _ _ _ _ _ _ _ _ (mkF m 11 #[.val (.int (Int32.ofNat u))] [(.int (Int32.ofNat (max 1 bl)))])
  exact w_ireturn X2 D5_11 (by decide) (by decide) (⟨by rw [bt, ← ebl], rfl⟩)
theorem ef_4 (m : MethodId) (a : Addr) (x1 : Int32) : entryFrame m #[(.ref a), (.int x1)] 4 = mkF m 0 #[.val (.ref a), .val (.int x1), .unset, .unset] [] := by first | (simp [entryFrame, mkF, argsToLocals, Value.category]; done) | rfl
theorem pn_4 : plainName "java/util/Arrays" = true := by first | (simp [plainName, overriddenIn]; done) | decide +kernel
set_option maxRecDepth 65536 in
set_option maxHeartbeats 40000000 in
theorem rmF {l : Launch} {Z : State} {a0 : Array Value} {n0 : Nat} {h : Heap} (hw : ∀ d ∈ tables_1, d.before a0 Z = true) (hn : n0 ≤ h.size) (a : Addr) (x1 : Int32) (g : Nat → Int32) (B : Ba Z n0 h a .int 3 (bI g)) :
    Ctr l Z n0 (⟨"java/util/Arrays", "fill", "([II)V"⟩ : MethodName) jdk_65_method_103_code 4 none ({ frames := 0, cells := 0, slots := 0, locals := 0 } : Room) [] #[(.ref a), (.int x1)] h (fun v h' => v = none ∧ Keep h h' [a] ∧ Ba Z n0 h' a .int 3 (bI (fun _ => x1))) := by
  refine ctr_of (plainFor_of_name pn_4) hw hn ?_
  intro p e s m below meth c T X
  refine Wp.cast (ef_4 m a x1) ?_
  refine w_iconst X D4_0 (v := (0 : Int32)) rfl ?_
  refine w_istoreN X D4_1 (l' := #[.val (.ref a), .val (.int x1), .val (.int (0 : Int32)), .unset]) rfl ?_
  refine w_aloadN X D4_2 rfl rfl ?_
  refine w_arraylength X D4_3 B ?_
  refine w_istoreN X D4_4 (l' := #[.val (.ref a), .val (.int x1), .val (.int (0 : Int32)), .val (.int (Int32.ofNat 3))]) rfl ?_
  refine w_iloadN X D4_5 rfl ?_
  refine w_iloadN X D4_6 rfl ?_
  refine w_icmpge X D4_7 (fun hc7 => by exact absurd (by decide) hc7) (fun hc7 => ?_)
  refine w_aloadN X D4_10 rfl rfl ?_
  refine w_iloadN X D4_11 rfl ?_
  refine w_iloadN X D4_12 rfl ?_
  refine w_iastore X D4_13 B 0 rfl (by decide) (fun T1 h1 X1 K1 B1 => ?_)
  refine w_iinc X1 D4_14 (d := (1 : Int32)) (r := (1 : Int32)) (l' := #[.val (.ref a), .val (.int x1), .val (.int (1 : Int32)), .val (.int (Int32.ofNat 3))]) rfl rfl (by decide) rfl ?_
  refine w_goto X1 D4_17 ?_
  refine w_iloadN X1 D4_5 rfl ?_
  refine w_iloadN X1 D4_6 rfl ?_
  refine w_icmpge X1 D4_7 (fun hc7 => by exact absurd (by decide) hc7) (fun hc7 => ?_)
  refine w_aloadN X1 D4_10 rfl rfl ?_
  refine w_iloadN X1 D4_11 rfl ?_
  refine w_iloadN X1 D4_12 rfl ?_
  refine w_iastore X1 D4_13 B1 1 rfl (by decide) (fun T2 h2 X2 K2 B2 => ?_)
  refine w_iinc X2 D4_14 (d := (1 : Int32)) (r := (2 : Int32)) (l' := #[.val (.ref a), .val (.int x1), .val (.int (2 : Int32)), .val (.int (Int32.ofNat 3))]) rfl rfl (by decide) rfl ?_
  refine w_goto X2 D4_17 ?_
  refine w_iloadN X2 D4_5 rfl ?_
  refine w_iloadN X2 D4_6 rfl ?_
  refine w_icmpge X2 D4_7 (fun hc7 => by exact absurd (by decide) hc7) (fun hc7 => ?_)
  refine w_aloadN X2 D4_10 rfl rfl ?_
  refine w_iloadN X2 D4_11 rfl ?_
  refine w_iloadN X2 D4_12 rfl ?_
  refine w_iastore X2 D4_13 B2 2 rfl (by decide) (fun T3 h3 X3 K3 B3 => ?_)
  refine w_iinc X3 D4_14 (d := (1 : Int32)) (r := (3 : Int32)) (l' := #[.val (.ref a), .val (.int x1), .val (.int (3 : Int32)), .val (.int (Int32.ofNat 3))]) rfl rfl (by decide) rfl ?_
  refine w_goto X3 D4_17 ?_
  refine w_iloadN X3 D4_5 rfl ?_
  refine w_iloadN X3 D4_6 rfl ?_
  refine w_icmpge X3 D4_7 (fun hc7 => ?_) (fun hc7 => by exact absurd hc7 (by decide))
  exact w_return X3 D4_20 (by decide) (by decide) (⟨rfl, ((K1.trans K2 (fun x hx => Or.inl hx)).trans K3 (fun x hx => Or.inl hx)), B3.congr (fun i hi => by
        have hc : i = 0 ∨ i = 1 ∨ i = 2 := by omega
        rcases hc with rfl | rfl | rfl <;> rfl)⟩)
theorem ef_8 (m : MethodId) (l0 : Addr) (x1 : Int32) : entryFrame m #[(.ref l0), (.int x1)] 2 = mkF m 0 #[.val (.ref l0), .val (.int x1)] [] := by first | (simp [entryFrame, mkF, argsToLocals, Value.category]; done) | rfl
theorem pn_8 : plainName "com/example/tokenfold/tokenfold/statespace/Packing" = true := by first | (simp [plainName, overriddenIn]; done) | decide +kernel
set_option maxRecDepth 65536 in
set_option maxHeartbeats 40000000 in
theorem rmP {l : Launch} {Z : State} {a0 : Array Value} {n0 : Nat} {h : Heap} (hw : ∀ d ∈ tables_1, d.before a0 Z = true) (hn : n0 ≤ h.size) (l0 : Addr) (x1 : Int32) (v_0 v_1 v_2 v_3 v_4 v_5 v_6 v_7 v_8 v_9 v_10 v_11 : Value) (E0 r0 : Int32) (en b : Nat) (e1 : x1 = Int32.ofNat b) (hen : en < 100000) (hb : b ≤ 31) (O : Pak Z n0 h l0 v_0 v_1 v_2 v_3 v_4 v_5 v_6 v_7 v_8 v_9 v_10 v_11 (.int E0) (.long (Int64.ofNat en)) (.int r0)) :
    Ctr l Z n0 (⟨"com/example/tokenfold/tokenfold/statespace/Packing", "place", "(I)V"⟩ : MethodName) prog_60_method_8_code 2 none ({ frames := 0, cells := 0, slots := 0, locals := 0 } : Room) [] #[(.ref l0), (.int x1)] h (fun v h' => v = none ∧ Keep h h' [l0] ∧ Pak Z n0 h' l0 v_0 v_1 v_2 v_3 v_4 v_5 v_6 v_7 v_8 v_9 v_10 v_11 (.int E0) (.long (Int64.ofNat (plc en b))) (.int r0)) := by
  refine ctr_of (plainFor_of_name pn_8) hw hn ?_
  intro p e s m below meth c T X
  refine Wp.cast (ef_8 m l0 x1) ?_
  subst e1
  refine w_aloadN X D8_0 rfl rfl ?_
  refine w_getF X D8_1 (hw _ (List.mem_of_getElem? (i := 60) rfl)) O.2.2.2.2.2.2.2.2.2.2.2.2.2.2.2.1 (fun T1 X1 => ?_)
  refine w_ldc2 X1 D8_4 (hw _ (List.mem_of_getElem? (i := 62) rfl)) ?_
  refine w_lrem X1 D8_7 (by decide) ?_
  rw [show Int64.ofNat en - (Int64.ofNat en / 64) * 64 = Int64.ofNat (en % 64) from nL_rem (k := 64) (by omega) (by decide) (by decide)]
  refine w_iloadN X1 D8_8 rfl ?_
  refine w_i2l X1 D8_9 ?_
  rw [n_i2l (show b < 2147483648 by omega)]
  refine w_ladd X1 D8_10 ?_
  rw [nL_add]
  refine w_ldc2 X1 D8_11 (hw _ (List.mem_of_getElem? (i := 62) rfl)) ?_
  refine w_lcmple X1 D8_14 D8_15 (fun hc15 => ?_) (fun hc15 => ?_)
  · exact w_return X1 D8_39 (by decide) (by decide) (⟨rfl, Keep.refl _ _, by
          rw [plc, if_neg (fun z => hc15 ((nL_lt (a := 64) (by decide) (by omega)).mpr z))]; exact O⟩)
  · refine w_aloadN X1 D8_18 rfl rfl ?_
    refine w_dup X1 D8_19 rfl ?_
    refine w_getF X1 D8_20 (hw _ (List.mem_of_getElem? (i := 60) rfl)) O.2.2.2.2.2.2.2.2.2.2.2.2.2.2.2.1 (fun T2 X2 => ?_)
    refine w_ldc2 X2 D8_23 (hw _ (List.mem_of_getElem? (i := 62) rfl)) ?_
    refine w_aloadN X2 D8_26 rfl rfl ?_
    refine w_getF X2 D8_27 (hw _ (List.mem_of_getElem? (i := 60) rfl)) O.2.2.2.2.2.2.2.2.2.2.2.2.2.2.2.1 (fun T3 X3 => ?_)
    refine w_ldc2 X3 D8_30 (hw _ (List.mem_of_getElem? (i := 62) rfl)) ?_
    refine w_lrem X3 D8_33 (by decide) ?_
    rw [show Int64.ofNat en - (Int64.ofNat en / 64) * 64 = Int64.ofNat (en % 64) from nL_rem (k := 64) (by omega) (by decide) (by decide)]
    refine w_lsub X3 D8_34 ?_
    rw [show (64 : Int64) - Int64.ofNat (en % 64) = Int64.ofNat (64 - en % 64) from nL_sub (a := 64) (by omega)]
    refine w_ladd X3 D8_35 ?_
    rw [nL_add]
    refine w_putF X3 D8_36 (hw _ (List.mem_of_getElem? (i := 60) rfl)) O.2.2.2.2.2.2.2.2.2.2.2.2.2.2.2.1 O.2.1 O.1 (Or.inl (hw _ (List.mem_of_getElem? (i := 61) rfl))) (hw _ (List.mem_of_getElem? (i := 8) rfl)) (ty := .long) (by decide) rfl rfl (fun T4 h4 X4 W4 => ?_)
    have O4 := O.put_end hw W4
    exact w_return X4 D8_39 (by decide) (by decide) (⟨rfl, (Keep.of_wr W4), by
            rw [plc, if_pos ((nL_lt (a := 64) (by decide) (by omega)).mp hc15)]; exact O4⟩)
theorem ef_17 (m : MethodId) (a : Addr) (x1 : Int32) : entryFrame m #[(.ref a), (.int x1)] 3 = mkF m 0 #[.val (.ref a), .val (.int x1), .unset] [] := by first | (simp [entryFrame, mkF, argsToLocals, Value.category]; done) | rfl
theorem pn_17 : plainName "java/util/Arrays" = true := by first | (simp [plainName, overriddenIn]; done) | decide +kernel
set_option maxRecDepth 65536 in
set_option maxHeartbeats 40000000 in
theorem rmCI {l : Launch} {Z : State} {a0 : Array Value} {n0 : Nat} {h : Heap} (hw : ∀ d ∈ tables_1, d.before a0 Z = true) (hn : n0 ≤ h.size) (a : Addr) (x1 : Int32) (n n' : Nat) (g : Nat → Int32) (e1 : x1 = Int32.ofNat n') (h1 : n < n') (h2 : n' ≤ 8) (B : Ba Z n0 h a .int n (bI g)) :
    Ctr l Z n0 (⟨"java/util/Arrays", "copyOf", "([II)[I"⟩ : MethodName) jdk_65_method_123_code 3 (some (.array .int)) ({ frames := 1, cells := 1, slots := 8, locals := 18 } : Room) [] #[(.ref a), (.int x1)] h (fun v h' => ∃ a', v = some (.ref a') ∧ h.size ≤ a' ∧ Ext h h' ∧ Ba Z n0 h' a' .int n' (bI (fun i => if i < n then g i else 0))) := by
  refine ctr_of (plainFor_of_name pn_17) hw hn ?_
  intro p e s m below meth c T X
  refine Wp.cast (ef_17 m a x1) ?_
  subst e1
  refine w_iloadN X D17_0 rfl ?_
  refine w_aloadN X D17_1 rfl rfl ?_
  refine w_arraylength X D17_2 B ?_
  refine w_icmpne X D17_3 (fun hc3 => ?_) (fun hc3 => by have z := (n_inj (a := n') (b := n) (by omega) (by omega)).mp hc3; omega)
  refine w_iloadN X D17_14 rfl ?_
  refine w_newI X D17_15 (hw _ (List.mem_of_getElem? (i := 1) rfl)) n' 8 rfl (by omega) (by decide) (Nat.le_of_ble_eq_true rfl) (Nat.le_of_ble_eq_true rfl) (fun T1 h1 a1 X1 g1 E1 B1 => ?_)
  have B_E1 := B.ext E1
  refine w_astoreN X1 D17_17 (l' := #[.val (.ref a), .val (.int (Int32.ofNat n')), .val (.ref a1)]) rfl rfl ?_
  refine w_aloadN X1 D17_18 rfl rfl ?_
  refine w_iconst X1 D17_19 (v := (0 : Int32)) rfl ?_
  refine w_aloadN X1 D17_20 rfl rfl ?_
  refine w_iconst X1 D17_21 (v := (0 : Int32)) rfl ?_
  refine w_aloadN X1 D17_22 rfl rfl ?_
  refine w_arraylength X1 D17_23 B_E1 ?_
  refine w_iloadN X1 D17_24 rfl ?_
  refine w_static X1 D17_25 (rmMin hw X1.sz _ _ n n' (by omega) (by omega) rfl rfl) (hw _ (List.mem_of_getElem? (i := 104) rfl)) (hw _ (List.mem_of_getElem? (i := 95) rfl)) (hw _ (List.mem_of_getElem? (i := 54) rfl)) (hw _ (List.mem_of_getElem? (i := 96) rfl)) (by decide) pd_1 rfl (S := [(.int (0 : Int32)), (.ref a1), (.int (0 : Int32)), (.ref a)]) rfl rfl (Nat.le_of_ble_eq_true rfl) (Nat.le_of_ble_eq_true rfl) (Nat.le_of_ble_eq_true rfl) (Nat.le_of_ble_eq_true rfl) (fun v2 T2 h2 X2 q2 => ?_)
  obtain ⟨rfl, rfl⟩ := q2
  show Wp _ _ _ _ _ _ _ _ (mkF m 28 #[.val (.ref a), .val (.int (Int32.ofNat n')), .val (.ref a1)] [(.int (Int32.ofNat (min n n'))), (.int (0 : Int32)), (.ref a1), (.int (0 : Int32)), (.ref a)])
  rw [Nat.min_eq_left (show n ≤ n' by omega)]
  refine w_arraycopy X2 D17_28 (hw _ (List.mem_of_getElem? (i := 105) rfl)) (hw _ (List.mem_of_getElem? (i := 108) rfl)) (hw _ (List.mem_of_getElem? (i := 106) rfl)) (hw _ (List.mem_of_getElem? (i := 107) rfl)) (cnt := n) B_E1 B1 rfl (fun _ _ => rfl) (fun _ _ => rfl) (Nat.le_refl _) (by omega) rfl (Nat.le_of_ble_eq_true rfl) (Nat.le_of_ble_eq_true rfl) (fun T3 h3 X3 K3 B3 => ?_)
  refine w_aloadN X3 D17_31 rfl rfl ?_
  refine w_areturn X3 rfl D17_32 (by decide) (by decide) ⟨a1, rfl, Nat.le_of_eq g1.symm, Ext.keep1 E1 K3 (Nat.le_of_eq g1.symm), B3.congr (fun i hi => ?_)⟩
  show (if i < n then bI g i else bI (fun _ => 0) i) = bI (fun i => if i < n then g i else 0) i
  simp only [bI]
  split <;> rfl
theorem ef_18 (m : MethodId) (a : Addr) (x1 : Int32) : entryFrame m #[(.ref a), (.int x1)] 3 = mkF m 0 #[.val (.ref a), .val (.int x1), .unset] [] := by first | (simp [entryFrame, mkF, argsToLocals, Value.category]; done) | rfl
theorem pn_18 : plainName "java/util/Arrays" = true := by first | (simp [plainName, overriddenIn]; done) | decide +kernel
set_option maxRecDepth 65536 in
set_option maxHeartbeats 40000000 in
theorem rmCJ {l : Launch} {Z : State} {a0 : Array Value} {n0 : Nat} {h : Heap} (hw : ∀ d ∈ tables_1, d.before a0 Z = true) (hn : n0 ≤ h.size) (a : Addr) (x1 : Int32) (n n' : Nat) (g : Nat → Int64) (e1 : x1 = Int32.ofNat n') (h1 : n < n') (h2 : n' ≤ 8) (B : Ba Z n0 h a .long n (bJ g)) :
    Ctr l Z n0 (⟨"java/util/Arrays", "copyOf", "([JI)[J"⟩ : MethodName) jdk_65_method_124_code 3 (some (.array .long)) ({ frames := 1, cells := 1, slots := 8, locals := 18 } : Room) [] #[(.ref a), (.int x1)] h (fun v h' => ∃ a', v = some (.ref a') ∧ h.size ≤ a' ∧ Ext h h' ∧ Ba Z n0 h' a' .long n' (bJ (fun i => if i < n then g i else 0))) := by
  refine ctr_of (plainFor_of_name pn_18) hw hn ?_
  intro p e s m below meth c T X
  refine Wp.cast (ef_18 m a x1) ?_
  subst e1
  refine w_iloadN X D18_0 rfl ?_
  refine w_aloadN X D18_1 rfl rfl ?_
  refine w_arraylength X D18_2 B ?_
  refine w_icmpne X D18_3 (fun hc3 => ?_) (fun hc3 => by have z := (n_inj (a := n') (b := n) (by omega) (by omega)).mp hc3; omega)
  refine w_iloadN X D18_14 rfl ?_
  refine w_newJ X D18_15 (hw _ (List.mem_of_getElem? (i := 6) rfl)) n' 8 rfl (by omega) (by decide) (Nat.le_of_ble_eq_true rfl) (Nat.le_of_ble_eq_true rfl) (fun T1 h1 a1 X1 g1 E1 B1 => ?_)
  have B_E1 := B.ext E1
  refine w_astoreN X1 D18_17 (l' := #[.val (.ref a), .val (.int (Int32.ofNat n')), .val (.ref a1)]) rfl rfl ?_
  refine w_aloadN X1 D18_18 rfl rfl ?_
  refine w_iconst X1 D18_19 (v := (0 : Int32)) rfl ?_
  refine w_aloadN X1 D18_20 rfl rfl ?_
  refine w_iconst X1 D18_21 (v := (0 : Int32)) rfl ?_
  refine w_aloadN X1 D18_22 rfl rfl ?_
  refine w_arraylength X1 D18_23 B_E1 ?_
  refine w_iloadN X1 D18_24 rfl ?_
  refine w_static X1 D18_25 (rmMin hw X1.sz _ _ n n' (by omega) (by omega) rfl rfl) (hw _ (List.mem_of_getElem? (i := 104) rfl)) (hw _ (List.mem_of_getElem? (i := 95) rfl)) (hw _ (List.mem_of_getElem? (i := 54) rfl)) (hw _ (List.mem_of_getElem? (i := 96) rfl)) (by decide) pd_1 rfl (S := [(.int (0 : Int32)), (.ref a1), (.int (0 : Int32)), (.ref a)]) rfl rfl (Nat.le_of_ble_eq_true rfl) (Nat.le_of_ble_eq_true rfl) (Nat.le_of_ble_eq_true rfl) (Nat.le_of_ble_eq_true rfl) (fun v2 T2 h2 X2 q2 => ?_)
  obtain ⟨rfl, rfl⟩ := q2
  show Wp _ _ _ _ _ _ _ _ (mkF m 28 #[.val (.ref a), .val (.int (Int32.ofNat n')), .val (.ref a1)] [(.int (Int32.ofNat (min n n'))), (.int (0 : Int32)), (.ref a1), (.int (0 : Int32)), (.ref a)])
  rw [Nat.min_eq_left (show n ≤ n' by omega)]
  refine w_arraycopy X2 D18_28 (hw _ (List.mem_of_getElem? (i := 105) rfl)) (hw _ (List.mem_of_getElem? (i := 108) rfl)) (hw _ (List.mem_of_getElem? (i := 106) rfl)) (hw _ (List.mem_of_getElem? (i := 107) rfl)) (cnt := n) B_E1 B1 rfl (fun _ _ => rfl) (fun _ _ => rfl) (Nat.le_refl _) (by omega) rfl (Nat.le_of_ble_eq_true rfl) (Nat.le_of_ble_eq_true rfl) (fun T3 h3 X3 K3 B3 => ?_)
  refine w_aloadN X3 D18_31 rfl rfl ?_
  refine w_areturn X3 rfl D18_32 (by decide) (by decide) ⟨a1, rfl, Nat.le_of_eq g1.symm, Ext.keep1 E1 K3 (Nat.le_of_eq g1.symm), B3.congr (fun i hi => ?_)⟩
  show (if i < n then bJ g i else bJ (fun _ => 0) i) = bJ (fun i => if i < n then g i else 0) i
  simp only [bJ]
  split <;> rfl
-- CUT
/-- the twelve arrays of a Packing, the last one first, ahead of the others -/
abbrev live (ad : Nat → Addr) (S : Nat → Nat → Nat) (cap : Nat) (Lt : List Ent) : List Ent := (ad 11, .int, 3, bI (xI (S 11))) :: (ad 10, .int, 3, bI (xI (S 10))) :: (ad 9, .int, 3, bI (nI (S 9))) :: (ad 8, .long, 3, bJ (mJ (S 8))) :: (ad 7, .int, 3, bI (nI (S 7))) :: (ad 6, .int, 3, bI (nI (S 6))) :: (ad 5, .int, cap, bI (xI (S 5))) :: (ad 4, .long, cap, bJ (mJ (S 4))) :: (ad 3, .int, cap, bI (nI (S 3))) :: (ad 2, .int, cap, bI (nI (S 2))) :: (ad 1, .int, cap, bI (nI (S 1))) :: (ad 0, .int, cap, bI (nI (S 0))) :: Lt
def PK (Z : State) (n0 : Nat) (h : Heap) (o : Addr) (ad : Nat → Addr) (S : Nat → Nat → Nat) (E cap en rw : Nat) (Lt : List Ent) : Prop :=
  Pak Z n0 h o (.ref (ad 0)) (.ref (ad 1)) (.ref (ad 2)) (.ref (ad 3)) (.ref (ad 4)) (.ref (ad 5)) (.ref (ad 6)) (.ref (ad 7)) (.ref (ad 8)) (.ref (ad 9)) (.ref (ad 10)) (.ref (ad 11)) (.int (Int32.ofNat E)) (.long (Int64.ofNat en)) (.int (Int32.ofNat rw)) ∧ Mem Z n0 h (live ad S cap Lt)
/-- the last extra's link to the new one -/
def lnk (S : Nat → Nat → Nat) (E sl : Nat) : Nat → Nat → Nat :=
  if S 11 sl = 0 then (fun k => match k with | 10 => upd (S 10) sl (E + 1) | k => S k) else (fun k => match k with | 5 => upd (S 5) (S 11 sl - 1) (E + 1) | k => S k)
/-- a further field of b bits -/
def adT (S : Nat → Nat → Nat) (E sl b q : Nat) : Nat → Nat → Nat := fun k => match k with
  | 0 => upd (S 0) E sl | 1 => upd (S 1) E (q / 64) | 2 => upd (S 2) E (q % 64) | 3 => upd (S 3) E (S 9 sl) | 4 => upd (S 4) E b | 5 => upd (S 5) E 0 | 9 => upd (S 9) sl (S 9 sl + b) | 11 => upd (S 11) sl (E + 1) | k => S k
def adS (S : Nat → Nat → Nat) (E sl b en : Nat) : Nat → Nat → Nat := adT (lnk S E sl) E sl b (plc en b)
theorem grow_nI (f : Nat → Nat) (n : Nat) (hz : ∀ i, n ≤ i → f i = 0) : (fun i => if i < n then nI f i else 0) = nI f := funext fun i => by
  by_cases hi : i < n
  · rw [if_pos hi]
  · rw [if_neg hi, nI, hz i (by omega)]; rfl
theorem grow_xI (f : Nat → Nat) (n : Nat) (hz : ∀ i, n ≤ i → f i = 1) : (fun i => if i < n then xI f i else 0) = xI f := funext fun i => by
  by_cases hi : i < n
  · rw [if_pos hi]
  · rw [if_neg hi, xI, hz i (by omega)]; rfl
theorem grow_mJ (f : Nat → Nat) (n : Nat) (hz : ∀ i, n ≤ i → f i = 0) : (fun i => if i < n then mJ f i else 0) = mJ f := funext fun i => by
  by_cases hi : i < n
  · rw [if_pos hi]
  · rw [if_neg hi, mJ, hz i (by omega)]; rfl
theorem own_up (E : Nat) : Int32.ofNat E = Int32.ofNat (E + 1) - 1 := (n_sub (a := E + 1) (b := 1) (by omega)).symm
theorem x_neg {u : Nat} (hu : u < 1000) : Int32.ofNat u - 1 < 0 ↔ u = 0 := by
  have z := c_isub (Int32.ofNat u) 1
  have z1 := rng32 (Int32.ofNat u - 1)
  rw [ofNat_toInt (by omega), show (1 : Int32).toInt = 1 from rfl] at z
  rw [Int32.lt_iff_toInt_lt, show (0 : Int32).toInt = 0 from rfl]
  omega
set_option maxRecDepth 65536 in
set_option maxHeartbeats 40000000 in
theorem ae2 {Z : State} {a0 : Array Value} {n0 : Nat} {p : Program} {l : Launch} {e : Env} {R : Room} {s : State} {m : MethodId} {args : Array Value} {below : List Frame} {meth : Method} {c : Code} {T : State} {h : Heap} {k j : Nat} {Q : Option Value → Heap → Prop} (hw : ∀ d ∈ tables_1, d.before a0 Z = true) (X : Pos Z a0 n0 p l e R s m args below meth c prog_60_method_7_code 4 none (⟨"com/example/tokenfold/tokenfold/statespace/Packing", "addExtra", "(II)V"⟩ : MethodName) T h k j) (l0 : Addr) (ad : Nat → Addr) (S : Nat → Nat → Nat) (E cap en rw sl b : Nat) (Lt : List Ent) (s3 : Slot) (hsl : sl < 3) (hb0 : b ≤ 31) (hE : E < cap) (hcap : cap ≤ 8) (hen : en < 100000) (hla : S 11 sl ≤ E) (hRf : 1 ≤ R.frames) (hRl : 13 ≤ R.locals) (hk : k ≤ R.cells) (hj : j ≤ R.slots) (P : PK Z n0 h l0 ad S E cap en rw Lt) (q : ∀ h', PK Z n0 h' l0 ad (adT S E sl b (plc en b)) (E + 1) cap (plc en b + b) rw Lt → Q none h') : Wp n0 p e R s below Q T (mkF m 132 #[.val (.ref l0), .val (.int (Int32.ofNat sl)), .val (.int (Int32.ofNat b)), s3] []) := by
  obtain ⟨O, M⟩ := P
  have hpl : plc en b < 100100 := by unfold plc; split <;> omega
  refine w_aloadN X D16_132 rfl rfl ?_
  refine w_iloadN X D16_133 rfl ?_
  refine w_private (z0 := ({ cls := "com/example/tokenfold/tokenfold/statespace/Packing", name := "widen", desc := "([I)V" } : Jvm.MethodName)) X D16_134 (rmP hw X.sz l0 _ _ _ _ _ _ _ _ _ _ _ _ _ _ _ en b rfl (by omega) (by omega) O) O.2.1 (hw _ (List.mem_of_getElem? (i := 56) rfl)) (hw _ (List.mem_of_getElem? (i := 57) rfl)) (hw _ (List.mem_of_getElem? (i := 58) rfl)) (hw _ (List.mem_of_getElem? (i := 68) rfl)) rfl (hw _ (List.mem_of_getElem? (i := 9) rfl)) (hw _ (List.mem_of_getElem? (i := 59) rfl)) (by decide) pd_2 rfl (S := []) rfl rfl hRf hRl hk hj (fun v1 T1 h1 X1 q1 => ?_)
  obtain ⟨rfl, K1, O1⟩ := q1
  have M1 := Pak_memK hw O M K1
  show Wp _ _ _ _ _ _ _ _ (mkF m 137 #[.val (.ref l0), .val (.int (Int32.ofNat sl)), .val (.int (Int32.ofNat b)), s3] [])
  refine w_aloadN X1 D16_137 rfl rfl ?_
  refine w_getF X1 D16_138 (hw _ (List.mem_of_getElem? (i := 16) rfl)) O1.2.2.1 (fun T2 X2 => ?_)
  refine w_aloadN X2 D16_141 rfl rfl ?_
  refine w_getF X2 D16_142 (hw _ (List.mem_of_getElem? (i := 81) rfl)) O1.2.2.2.2.2.2.2.2.2.2.2.2.2.2.1 (fun T3 X3 => ?_)
  refine w_iloadN X3 D16_145 rfl ?_
  refine w_iastore X3 D16_146 (M1.at 11 rfl) E rfl (by omega) (fun T4 h4 X4 K4 B4 => ?_)
  rw [upd_nI] at B4
  have O1_K4 := O1.keepB hw (M1.at 11 rfl) K4
  have M4 := M1.st 11 rfl K4 B4
  refine w_aloadN X4 D16_147 rfl rfl ?_
  refine w_getF X4 D16_148 (hw _ (List.mem_of_getElem? (i := 18) rfl)) O1_K4.2.2.2.1 (fun T5 X5 => ?_)
  refine w_aloadN X5 D16_151 rfl rfl ?_
  refine w_getF X5 D16_152 (hw _ (List.mem_of_getElem? (i := 81) rfl)) O1_K4.2.2.2.2.2.2.2.2.2.2.2.2.2.2.1 (fun T6 X6 => ?_)
  refine w_aloadN X6 D16_155 rfl rfl ?_
  refine w_getF X6 D16_156 (hw _ (List.mem_of_getElem? (i := 60) rfl)) O1_K4.2.2.2.2.2.2.2.2.2.2.2.2.2.2.2.1 (fun T7 X7 => ?_)
  refine w_ldc2 X7 D16_159 (hw _ (List.mem_of_getElem? (i := 62) rfl)) ?_
  refine w_ldiv X7 D16_162 (by decide) ?_
  rw [show Int64.ofNat (plc en b) / 64 = Int64.ofNat ((plc en b) / 64) from nL_div (k := 64) (by omega) (by decide) (by decide)]
  refine w_l2i X7 D16_163 ?_
  rw [n_l2i]
  refine w_iastore X7 D16_164 (M4.at 10 rfl) E rfl (by omega) (fun T8 h8 X8 K8 B8 => ?_)
  rw [upd_nI] at B8
  have O1_K8 := O1_K4.keepB hw (M4.at 10 rfl) K8
  have M8 := M4.st 10 rfl K8 B8
  refine w_aloadN X8 D16_165 rfl rfl ?_
  refine w_getF X8 D16_166 (hw _ (List.mem_of_getElem? (i := 20) rfl)) O1_K8.2.2.2.2.1 (fun T9 X9 => ?_)
  refine w_aloadN X9 D16_169 rfl rfl ?_
  refine w_getF X9 D16_170 (hw _ (List.mem_of_getElem? (i := 81) rfl)) O1_K8.2.2.2.2.2.2.2.2.2.2.2.2.2.2.1 (fun T10 X10 => ?_)
  refine w_aloadN X10 D16_173 rfl rfl ?_
  refine w_getF X10 D16_174 (hw _ (List.mem_of_getElem? (i := 60) rfl)) O1_K8.2.2.2.2.2.2.2.2.2.2.2.2.2.2.2.1 (fun T11 X11 => ?_)
  refine w_ldc2 X11 D16_177 (hw _ (List.mem_of_getElem? (i := 62) rfl)) ?_
  refine w_lrem X11 D16_180 (by decide) ?_
  rw [show Int64.ofNat (plc en b) - (Int64.ofNat (plc en b) / 64) * 64 = Int64.ofNat ((plc en b) % 64) from nL_rem (k := 64) (by omega) (by decide) (by decide)]
  refine w_l2i X11 D16_181 ?_
  rw [n_l2i]
  refine w_iastore X11 D16_182 (M8.at 9 rfl) E rfl (by omega) (fun T12 h12 X12 K12 B12 => ?_)
  rw [upd_nI] at B12
  have O1_K12 := O1_K8.keepB hw (M8.at 9 rfl) K12
  have M12 := M8.st 9 rfl K12 B12
  refine w_aloadN X12 D16_183 rfl rfl ?_
  refine w_getF X12 D16_184 (hw _ (List.mem_of_getElem? (i := 22) rfl)) O1_K12.2.2.2.2.2.1 (fun T13 X13 => ?_)
  refine w_aloadN X13 D16_187 rfl rfl ?_
  refine w_getF X13 D16_188 (hw _ (List.mem_of_getElem? (i := 81) rfl)) O1_K12.2.2.2.2.2.2.2.2.2.2.2.2.2.2.1 (fun T14 X14 => ?_)
  refine w_aloadN X14 D16_191 rfl rfl ?_
  refine w_getF X14 D16_192 (hw _ (List.mem_of_getElem? (i := 34) rfl)) O1_K12.2.2.2.2.2.2.2.2.2.2.2.1 (fun T15 X15 => ?_)
  refine w_iloadN X15 D16_195 rfl ?_
  refine w_iaload X15 D16_196 (M12.at 2 rfl) sl rfl (by omega) ?_
  show Wp _ _ _ _ _ _ _ _ (mkF m 197 #[.val (.ref l0), .val (.int (Int32.ofNat sl)), .val (.int (Int32.ofNat b)), s3] [(.int (Int32.ofNat ((S 9) sl))), (.int (Int32.ofNat E)), (.ref (ad 3))])
  refine w_iastore X15 D16_197 (M12.at 8 rfl) E rfl (by omega) (fun T16 h16 X16 K16 B16 => ?_)
  rw [upd_nI] at B16
  have O1_K16 := O1_K12.keepB hw (M12.at 8 rfl) K16
  have M16 := M12.st 8 rfl K16 B16
  refine w_aloadN X16 D16_198 rfl rfl ?_
  refine w_getF X16 D16_199 (hw _ (List.mem_of_getElem? (i := 24) rfl)) O1_K16.2.2.2.2.2.2.1 (fun T17 X17 => ?_)
  refine w_aloadN X17 D16_202 rfl rfl ?_
  refine w_getF X17 D16_203 (hw _ (List.mem_of_getElem? (i := 81) rfl)) O1_K16.2.2.2.2.2.2.2.2.2.2.2.2.2.2.1 (fun T18 X18 => ?_)
  refine w_lconst1 X18 D16_206 ?_
  refine w_iloadN X18 D16_207 rfl ?_
  refine w_lshl X18 D16_208 ?_
  refine w_lconst1 X18 D16_209 ?_
  refine w_lsub X18 D16_210 ?_
  rw [own_mask (b := b) (by omega)]
  refine w_lastore X18 D16_211 (M16.at 7 rfl) E rfl (by omega) (fun T19 h19 X19 K19 B19 => ?_)
  rw [upd_mJ] at B19
  have O1_K19 := O1_K16.keepB hw (M16.at 7 rfl) K19
  have M19 := M16.st 7 rfl K19 B19
  refine w_aloadN X19 D16_212 rfl rfl ?_
  refine w_getF X19 D16_213 (hw _ (List.mem_of_getElem? (i := 26) rfl)) O1_K19.2.2.2.2.2.2.2.1 (fun T20 X20 => ?_)
  refine w_aloadN X20 D16_216 rfl rfl ?_
  refine w_getF X20 D16_217 (hw _ (List.mem_of_getElem? (i := 81) rfl)) O1_K19.2.2.2.2.2.2.2.2.2.2.2.2.2.2.1 (fun T21 X21 => ?_)
  refine w_iconst X21 D16_220 (v := (-1 : Int32)) rfl ?_
  rw [show (-1 : Int32) = Int32.ofNat 0 - 1 from rfl]
  refine w_iastore X21 D16_221 (M19.at 6 rfl) E rfl (by omega) (fun T22 h22 X22 K22 B22 => ?_)
  rw [upd_xI] at B22
  have O1_K22 := O1_K19.keepB hw (M19.at 6 rfl) K22
  have M22 := M19.st 6 rfl K22 B22
  refine w_aloadN X22 D16_222 rfl rfl ?_
  refine w_getF X22 D16_223 (hw _ (List.mem_of_getElem? (i := 38) rfl)) O1_K22.2.2.2.2.2.2.2.2.2.2.2.2.2.1 (fun T23 X23 => ?_)
  refine w_iloadN X23 D16_226 rfl ?_
  refine w_aloadN X23 D16_227 rfl rfl ?_
  refine w_getF X23 D16_228 (hw _ (List.mem_of_getElem? (i := 81) rfl)) O1_K22.2.2.2.2.2.2.2.2.2.2.2.2.2.2.1 (fun T24 X24 => ?_)
  rw [own_up E]
  refine w_iastore X24 D16_231 (M22.at 0 rfl) sl rfl (by omega) (fun T25 h25 X25 K25 B25 => ?_)
  rw [upd_xI] at B25
  have O1_K25 := O1_K22.keepB hw (M22.at 0 rfl) K25
  have M25 := M22.st 0 rfl K25 B25
  refine w_aloadN X25 D16_232 rfl rfl ?_
  refine w_getF X25 D16_233 (hw _ (List.mem_of_getElem? (i := 34) rfl)) O1_K25.2.2.2.2.2.2.2.2.2.2.2.1 (fun T26 X26 => ?_)
  refine w_iloadN X26 D16_236 rfl ?_
  refine w_dup2 X26 D16_237 rfl rfl ?_
  refine w_iaload X26 D16_238 (M25.at 2 rfl) sl rfl (by omega) ?_
  show Wp _ _ _ _ _ _ _ _ (mkF m 239 #[.val (.ref l0), .val (.int (Int32.ofNat sl)), .val (.int (Int32.ofNat b)), s3] [(.int (Int32.ofNat ((S 9) sl))), (.int (Int32.ofNat sl)), (.ref (ad 9))])
  refine w_iloadN X26 D16_239 rfl ?_
  refine w_iadd X26 D16_240 ?_
  rw [n_add]
  refine w_iastore X26 D16_241 (M25.at 2 rfl) sl rfl (by omega) (fun T27 h27 X27 K27 B27 => ?_)
  rw [upd_nI] at B27
  have O1_K27 := O1_K25.keepB hw (M25.at 2 rfl) K27
  have M27 := M25.st 2 rfl K27 B27
  refine w_aloadN X27 D16_242 rfl rfl ?_
  refine w_dup X27 D16_243 rfl ?_
  refine w_getF X27 D16_244 (hw _ (List.mem_of_getElem? (i := 60) rfl)) O1_K27.2.2.2.2.2.2.2.2.2.2.2.2.2.2.2.1 (fun T28 X28 => ?_)
  refine w_iloadN X28 D16_247 rfl ?_
  refine w_i2l X28 D16_248 ?_
  rw [n_i2l (show b < 2147483648 by omega)]
  refine w_ladd X28 D16_249 ?_
  rw [nL_add]
  refine w_putF X28 D16_250 (hw _ (List.mem_of_getElem? (i := 60) rfl)) O1_K27.2.2.2.2.2.2.2.2.2.2.2.2.2.2.2.1 O1_K27.2.1 O1_K27.1 (Or.inl (hw _ (List.mem_of_getElem? (i := 61) rfl))) (hw _ (List.mem_of_getElem? (i := 8) rfl)) (ty := .long) (by decide) rfl rfl (fun T29 h29 X29 W29 => ?_)
  have O29 := O1_K27.put_end hw W29
  have M29 := Pak_memW hw O1_K27 M27 W29
  refine w_aloadN X29 D16_253 rfl rfl ?_
  refine w_dup X29 D16_254 rfl ?_
  refine w_getF X29 D16_255 (hw _ (List.mem_of_getElem? (i := 81) rfl)) O29.2.2.2.2.2.2.2.2.2.2.2.2.2.2.1 (fun T30 X30 => ?_)
  refine w_iconst X30 D16_258 (v := (1 : Int32)) rfl ?_
  refine w_iadd X30 D16_259 ?_
  rw [show Int32.ofNat E + 1 = Int32.ofNat (E + 1) from n_add _ 1]
  refine w_putF X30 D16_260 (hw _ (List.mem_of_getElem? (i := 81) rfl)) O29.2.2.2.2.2.2.2.2.2.2.2.2.2.2.1 O29.2.1 O29.1 (Or.inl (hw _ (List.mem_of_getElem? (i := 82) rfl))) (hw _ (List.mem_of_getElem? (i := 8) rfl)) (ty := .int) (by decide) rfl rfl (fun T31 h31 X31 W31 => ?_)
  have O31 := O29.put_extras hw W31
  have M31 := Pak_memW hw O29 M29 W31
  exact w_return X31 D16_263 hk hj (q _ ⟨O31, M31⟩)
set_option maxRecDepth 65536 in
set_option maxHeartbeats 40000000 in
theorem ae1 {Z : State} {a0 : Array Value} {n0 : Nat} {p : Program} {l : Launch} {e : Env} {R : Room} {s : State} {m : MethodId} {args : Array Value} {below : List Frame} {meth : Method} {c : Code} {T : State} {h : Heap} {k j : Nat} {Q : Option Value → Heap → Prop} (hw : ∀ d ∈ tables_1, d.before a0 Z = true) (X : Pos Z a0 n0 p l e R s m args below meth c prog_60_method_7_code 4 none (⟨"com/example/tokenfold/tokenfold/statespace/Packing", "addExtra", "(II)V"⟩ : MethodName) T h k j) (l0 : Addr) (ad : Nat → Addr) (S : Nat → Nat → Nat) (E cap en rw sl b : Nat) (Lt : List Ent) (s3 : Slot) (hsl : sl < 3) (hb0 : b ≤ 31) (hE : E < cap) (hcap : cap ≤ 8) (hen : en < 100000) (hla : S 11 sl ≤ E) (hRf : 1 ≤ R.frames) (hRl : 13 ≤ R.locals) (hk : k ≤ R.cells) (hj : j ≤ R.slots) (P : PK Z n0 h l0 ad S E cap en rw Lt) (q : ∀ h', PK Z n0 h' l0 ad (adS S E sl b en) (E + 1) cap (plc en b + b) rw Lt → Q none h') : Wp n0 p e R s below Q T (mkF m 95 #[.val (.ref l0), .val (.int (Int32.ofNat sl)), .val (.int (Int32.ofNat b)), s3] []) := by
  obtain ⟨O, M⟩ := P
  refine w_aloadN X D16_95 rfl rfl ?_
  refine w_getF X D16_96 (hw _ (List.mem_of_getElem? (i := 38) rfl)) O.2.2.2.2.2.2.2.2.2.2.2.2.2.1 (fun T1 X1 => ?_)
  refine w_iloadN X1 D16_99 rfl ?_
  refine w_iaload X1 D16_100 (M.at 0 rfl) sl rfl (by omega) ?_
  show Wp _ _ _ _ _ _ _ _ (mkF m 101 #[.val (.ref l0), .val (.int (Int32.ofNat sl)), .val (.int (Int32.ofNat b)), s3] [(.int (Int32.ofNat ((S 11) sl) - (1 : Int32)))])
  refine w_ifge X1 D16_101 (fun hc101 => ?_) (fun hc101 => ?_)
  · have hS : ¬ S 11 sl = 0 := fun z => hc101 ((x_neg (by omega)).mpr z)
    refine w_aloadN X1 D16_117 rfl rfl ?_
    refine w_getF X1 D16_118 (hw _ (List.mem_of_getElem? (i := 26) rfl)) O.2.2.2.2.2.2.2.1 (fun T2 X2 => ?_)
    refine w_aloadN X2 D16_121 rfl rfl ?_
    refine w_getF X2 D16_122 (hw _ (List.mem_of_getElem? (i := 38) rfl)) O.2.2.2.2.2.2.2.2.2.2.2.2.2.1 (fun T3 X3 => ?_)
    refine w_iloadN X3 D16_125 rfl ?_
    refine w_iaload X3 D16_126 (M.at 0 rfl) sl rfl (by omega) ?_
    show Wp _ _ _ _ _ _ _ _ (mkF m 127 #[.val (.ref l0), .val (.int (Int32.ofNat sl)), .val (.int (Int32.ofNat b)), s3] [(.int (Int32.ofNat ((S 11) sl) - (1 : Int32))), (.ref (ad 5))])
    refine w_aloadN X3 D16_127 rfl rfl ?_
    refine w_getF X3 D16_128 (hw _ (List.mem_of_getElem? (i := 81) rfl)) O.2.2.2.2.2.2.2.2.2.2.2.2.2.2.1 (fun T4 X4 => ?_)
    rw [own_up E]
    refine w_iastore X4 D16_131 (M.at 6 rfl) (S 11 sl - 1) (n_sub (b := 1) (by omega)) (by omega) (fun T5 h5 X5 K5 B5 => ?_)
    rw [upd_xI] at B5
    have O_K5 := O.keepB hw (M.at 6 rfl) K5
    have M5 := M.st 6 rfl K5 B5
    exact ae2 hw X5 l0 ad (fun k => match k with | 5 => upd (S 5) (S 11 sl - 1) (E + 1) | k => S k) E cap en rw sl b Lt s3 hsl hb0 hE hcap hen hla hRf hRl hk hj ⟨O_K5, M5⟩ (fun h' P => q h' (by
      rw [adS, lnk, if_neg hS]; exact P))
  · refine w_aloadN X1 D16_104 rfl rfl ?_
    refine w_getF X1 D16_105 (hw _ (List.mem_of_getElem? (i := 36) rfl)) O.2.2.2.2.2.2.2.2.2.2.2.2.1 (fun T6 X6 => ?_)
    refine w_iloadN X6 D16_108 rfl ?_
    refine w_aloadN X6 D16_109 rfl rfl ?_
    refine w_getF X6 D16_110 (hw _ (List.mem_of_getElem? (i := 81) rfl)) O.2.2.2.2.2.2.2.2.2.2.2.2.2.2.1 (fun T7 X7 => ?_)
    rw [own_up E]
    refine w_iastore X7 D16_113 (M.at 1 rfl) sl rfl (by omega) (fun T8 h8 X8 K8 B8 => ?_)
    rw [upd_xI] at B8
    have O_K8 := O.keepB hw (M.at 1 rfl) K8
    have M8 := M.st 1 rfl K8 B8
    refine w_goto X8 D16_114 ?_
    exact ae2 hw X8 l0 ad (fun k => match k with | 10 => upd (S 10) sl (E + 1) | k => S k) E cap en rw sl b Lt s3 hsl hb0 hE hcap hen hla hRf hRl hk hj ⟨O_K8, M8⟩ (fun h' P => q h' (by
      rw [adS, lnk, if_pos ((x_neg (by omega)).mp hc101)]; exact P))
theorem ef_16 (m : MethodId) (l0 : Addr) (x1 : Int32) (x2 : Int32) : entryFrame m #[(.ref l0), (.int x1), (.int x2)] 4 = mkF m 0 #[.val (.ref l0), .val (.int x1), .val (.int x2), .unset] [] := by first | (simp [entryFrame, mkF, argsToLocals, Value.category]; done) | rfl
theorem pn_16 : plainName "com/example/tokenfold/tokenfold/statespace/Packing" = true := by first | (simp [plainName, overriddenIn]; done) | decide +kernel
set_option maxRecDepth 65536 in
set_option maxHeartbeats 40000000 in
theorem rmA {l : Launch} {Z : State} {a0 : Array Value} {n0 : Nat} {h : Heap} (hw : ∀ d ∈ tables_1, d.before a0 Z = true) (hn : n0 ≤ h.size) (l0 : Addr) (x1 : Int32) (x2 : Int32) (ad : Nat → Addr) (S : Nat → Nat → Nat) (E cap en rw sl b : Nat) (Lt : List Ent) (e1 : x1 = Int32.ofNat sl) (e2 : x2 = Int32.ofNat b) (hsl : sl < 3) (hb0 : b ≤ 31) (hcE : E = cap) (hcap : cap = 0 ∨ cap = 4) (c2 : Nat) (hc2 : max 4 (E * 2) = c2) (hen : en < 100000) (hla : S 11 sl ≤ E) (hz : ∀ k, k < 5 → ∀ i, E ≤ i → S k i = 0) (hz5 : ∀ i, E ≤ i → S 5 i = 1) (P : PK Z n0 h l0 ad S E cap en rw Lt) :
    Ctr l Z n0 (⟨"com/example/tokenfold/tokenfold/statespace/Packing", "addExtra", "(II)V"⟩ : MethodName) prog_60_method_7_code 4 none ({ frames := 2, cells := 6, slots := 48, locals := 40 } : Room) [] #[(.ref l0), (.int x1), (.int x2)] h (fun v h' => v = none ∧ ∃ ad', PK Z n0 h' l0 ad' (adS S E sl b en) (E + 1) c2 (plc en b + b) rw Lt) := by
  refine ctr_of (plainFor_of_name pn_16) hw hn ?_
  intro p e s m below meth c T X
  refine Wp.cast (ef_16 m l0 x1 x2) ?_
  subst e1 e2
  obtain ⟨O, M⟩ := P
  refine w_aloadN X D16_0 rfl rfl ?_
  refine w_getF X D16_1 (hw _ (List.mem_of_getElem? (i := 81) rfl)) O.2.2.2.2.2.2.2.2.2.2.2.2.2.2.1 (fun T1 X1 => ?_)
  refine w_aloadN X1 D16_4 rfl rfl ?_
  refine w_getF X1 D16_5 (hw _ (List.mem_of_getElem? (i := 16) rfl)) O.2.2.1 (fun T2 X2 => ?_)
  refine w_arraylength X2 D16_8 (M.at 11 rfl) ?_
  refine w_icmpne X2 D16_9 (fun hc9 => by exact absurd (by rw [hcE]) hc9) (fun hc9 => ?_)
  have hc3 : (c2 = 4 ∨ c2 = 8) ∧ cap < c2 := by omega
  refine w_iconst X2 D16_12 (v := (4 : Int32)) rfl ?_
  refine w_aloadN X2 D16_13 rfl rfl ?_
  refine w_getF X2 D16_14 (hw _ (List.mem_of_getElem? (i := 81) rfl)) O.2.2.2.2.2.2.2.2.2.2.2.2.2.2.1 (fun T3 X3 => ?_)
  refine w_iconst X3 D16_17 (v := (2 : Int32)) rfl ?_
  refine w_imul X3 D16_18 ?_
  rw [show Int32.ofNat E * 2 = Int32.ofNat (E * 2) from n_mul _ 2]
  refine w_static X3 D16_19 (rmMax hw X3.sz _ _ 4 (E * 2) (by decide) (by omega) rfl rfl) (hw _ (List.mem_of_getElem? (i := 52) rfl)) (hw _ (List.mem_of_getElem? (i := 53) rfl)) (hw _ (List.mem_of_getElem? (i := 54) rfl)) (hw _ (List.mem_of_getElem? (i := 55) rfl)) (by decide) pd_1 rfl (S := []) rfl rfl (Nat.le_of_ble_eq_true rfl) (Nat.le_of_ble_eq_true rfl) (Nat.le_of_ble_eq_true rfl) (Nat.le_of_ble_eq_true rfl) (fun v4 T4 h4 X4 q4 => ?_)
  obtain ⟨rfl, rfl⟩ := q4
  show Wp _ _ _ _ _ _ _ _ (mkF m 22 #[.val (.ref l0), .val (.int (Int32.ofNat sl)), .val (.int (Int32.ofNat b)), .unset] [(.int (Int32.ofNat (max 4 (E * 2))))])
  rw [hc2]
  refine w_istoreN X4 D16_22 (l' := #[.val (.ref l0), .val (.int (Int32.ofNat sl)), .val (.int (Int32.ofNat b)), .val (.int (Int32.ofNat c2))]) rfl ?_
  refine w_aloadN X4 D16_23 rfl rfl ?_
  refine w_aloadN X4 D16_24 rfl rfl ?_
  refine w_getF X4 D16_25 (hw _ (List.mem_of_getElem? (i := 16) rfl)) O.2.2.1 (fun T5 X5 => ?_)
  refine w_iloadN X5 D16_28 rfl ?_
  refine w_static X5 D16_29 (rmCI hw X5.sz (ad 0) _ cap c2 (nI (S 0)) rfl (by omega) (by omega) (M.at 11 rfl)) (hw _ (List.mem_of_getElem? (i := 101) rfl)) (hw _ (List.mem_of_getElem? (i := 102) rfl)) (hw _ (List.mem_of_getElem? (i := 42) rfl)) (hw _ (List.mem_of_getElem? (i := 103) rfl)) (by decide) pd_3 rfl (S := [(.ref l0)]) rfl rfl (Nat.le_of_ble_eq_true rfl) (Nat.le_of_ble_eq_true rfl) (Nat.le_of_ble_eq_true rfl) (Nat.le_of_ble_eq_true rfl) (fun v6 T6 h6 X6 q6 => ?_)
  obtain ⟨b6, rfl, g6, E6, B6⟩ := q6
  rw [grow_nI _ _ (fun i hi => hz 0 (by decide) i (by omega))] at B6
  have M6 := M.rep 11 E6 g6 B6
  have O6 := O.ext E6
  show Wp _ _ _ _ _ _ _ _ (mkF m 32 #[.val (.ref l0), .val (.int (Int32.ofNat sl)), .val (.int (Int32.ofNat b)), .val (.int (Int32.ofNat c2))] [(.ref b6), (.ref l0)])
  refine w_putF X6 D16_32 (hw _ (List.mem_of_getElem? (i := 16) rfl)) O6.2.2.1 O6.2.1 O6.1 (Or.inl (hw _ (List.mem_of_getElem? (i := 17) rfl))) (hw _ (List.mem_of_getElem? (i := 8) rfl)) (ty := (.array .int)) (by decide) rfl rfl (fun T7 h7 X7 W7 => ?_)
  have O7 := O6.put_extraSlots hw W7
  have M7 := Pak_memW hw O6 M6 W7
  refine w_aloadN X7 D16_35 rfl rfl ?_
  refine w_aloadN X7 D16_36 rfl rfl ?_
  refine w_getF X7 D16_37 (hw _ (List.mem_of_getElem? (i := 18) rfl)) O7.2.2.2.1 (fun T8 X8 => ?_)
  refine w_iloadN X8 D16_40 rfl ?_
  refine w_static X8 D16_41 (rmCI hw X8.sz (ad 1) _ cap c2 (nI (S 1)) rfl (by omega) (by omega) (M7.at 10 rfl)) (hw _ (List.mem_of_getElem? (i := 101) rfl)) (hw _ (List.mem_of_getElem? (i := 102) rfl)) (hw _ (List.mem_of_getElem? (i := 42) rfl)) (hw _ (List.mem_of_getElem? (i := 103) rfl)) (by decide) pd_3 rfl (S := [(.ref l0)]) rfl rfl (Nat.le_of_ble_eq_true rfl) (Nat.le_of_ble_eq_true rfl) (Nat.le_of_ble_eq_true rfl) (Nat.le_of_ble_eq_true rfl) (fun v9 T9 h9 X9 q9 => ?_)
  obtain ⟨b9, rfl, g9, E9, B9⟩ := q9
  rw [grow_nI _ _ (fun i hi => hz 1 (by decide) i (by omega))] at B9
  have M9 := M7.rep 10 E9 g9 B9
  have O9 := O7.ext E9
  show Wp _ _ _ _ _ _ _ _ (mkF m 44 #[.val (.ref l0), .val (.int (Int32.ofNat sl)), .val (.int (Int32.ofNat b)), .val (.int (Int32.ofNat c2))] [(.ref b9), (.ref l0)])
  refine w_putF X9 D16_44 (hw _ (List.mem_of_getElem? (i := 18) rfl)) O9.2.2.2.1 O9.2.1 O9.1 (Or.inl (hw _ (List.mem_of_getElem? (i := 19) rfl))) (hw _ (List.mem_of_getElem? (i := 8) rfl)) (ty := (.array .int)) (by decide) rfl rfl (fun T10 h10 X10 W10 => ?_)
  have O10 := O9.put_extraWords hw W10
  have M10 := Pak_memW hw O9 M9 W10
  refine w_aloadN X10 D16_47 rfl rfl ?_
  refine w_aloadN X10 D16_48 rfl rfl ?_
  refine w_getF X10 D16_49 (hw _ (List.mem_of_getElem? (i := 20) rfl)) O10.2.2.2.2.1 (fun T11 X11 => ?_)
  refine w_iloadN X11 D16_52 rfl ?_
  refine w_static X11 D16_53 (rmCI hw X11.sz (ad 2) _ cap c2 (nI (S 2)) rfl (by omega) (by omega) (M10.at 9 rfl)) (hw _ (List.mem_of_getElem? (i := 101) rfl)) (hw _ (List.mem_of_getElem? (i := 102) rfl)) (hw _ (List.mem_of_getElem? (i := 42) rfl)) (hw _ (List.mem_of_getElem? (i := 103) rfl)) (by decide) pd_3 rfl (S := [(.ref l0)]) rfl rfl (Nat.le_of_ble_eq_true rfl) (Nat.le_of_ble_eq_true rfl) (Nat.le_of_ble_eq_true rfl) (Nat.le_of_ble_eq_true rfl) (fun v12 T12 h12 X12 q12 => ?_)
  obtain ⟨b12, rfl, g12, E12, B12⟩ := q12
  rw [grow_nI _ _ (fun i hi => hz 2 (by decide) i (by omega))] at B12
  have M12 := M10.rep 9 E12 g12 B12
  have O12 := O10.ext E12
  show Wp _ _ _ _ _ _ _ _ (mkF m 56 #[.val (.ref l0), .val (.int (Int32.ofNat sl)), .val (.int (Int32.ofNat b)), .val (.int (Int32.ofNat c2))] [(.ref b12), (.ref l0)])
  refine w_putF X12 D16_56 (hw _ (List.mem_of_getElem? (i := 20) rfl)) O12.2.2.2.2.1 O12.2.1 O12.1 (Or.inl (hw _ (List.mem_of_getElem? (i := 21) rfl))) (hw _ (List.mem_of_getElem? (i := 8) rfl)) (ty := (.array .int)) (by decide) rfl rfl (fun T13 h13 X13 W13 => ?_)
  have O13 := O12.put_extraShifts hw W13
  have M13 := Pak_memW hw O12 M12 W13
  refine w_aloadN X13 D16_59 rfl rfl ?_
  refine w_aloadN X13 D16_60 rfl rfl ?_
  refine w_getF X13 D16_61 (hw _ (List.mem_of_getElem? (i := 22) rfl)) O13.2.2.2.2.2.1 (fun T14 X14 => ?_)
  refine w_iloadN X14 D16_64 rfl ?_
  refine w_static X14 D16_65 (rmCI hw X14.sz (ad 3) _ cap c2 (nI (S 3)) rfl (by omega) (by omega) (M13.at 8 rfl)) (hw _ (List.mem_of_getElem? (i := 101) rfl)) (hw _ (List.mem_of_getElem? (i := 102) rfl)) (hw _ (List.mem_of_getElem? (i := 42) rfl)) (hw _ (List.mem_of_getElem? (i := 103) rfl)) (by decide) pd_3 rfl (S := [(.ref l0)]) rfl rfl (Nat.le_of_ble_eq_true rfl) (Nat.le_of_ble_eq_true rfl) (Nat.le_of_ble_eq_true rfl) (Nat.le_of_ble_eq_true rfl) (fun v15 T15 h15 X15 q15 => ?_)
  obtain ⟨b15, rfl, g15, E15, B15⟩ := q15
  rw [grow_nI _ _ (fun i hi => hz 3 (by decide) i (by omega))] at B15
  have M15 := M13.rep 8 E15 g15 B15
  have O15 := O13.ext E15
  show Wp _ _ _ _ _ _ _ _ (mkF m 68 #[.val (.ref l0), .val (.int (Int32.ofNat sl)), .val (.int (Int32.ofNat b)), .val (.int (Int32.ofNat c2))] [(.ref b15), (.ref l0)])
  refine w_putF X15 D16_68 (hw _ (List.mem_of_getElem? (i := 22) rfl)) O15.2.2.2.2.2.1 O15.2.1 O15.1 (Or.inl (hw _ (List.mem_of_getElem? (i := 23) rfl))) (hw _ (List.mem_of_getElem? (i := 8) rfl)) (ty := (.array .int)) (by decide) rfl rfl (fun T16 h16 X16 W16 => ?_)
  have O16 := O15.put_extraLows hw W16
  have M16 := Pak_memW hw O15 M15 W16
  refine w_aloadN X16 D16_71 rfl rfl ?_
  refine w_aloadN X16 D16_72 rfl rfl ?_
  refine w_getF X16 D16_73 (hw _ (List.mem_of_getElem? (i := 24) rfl)) O16.2.2.2.2.2.2.1 (fun T17 X17 => ?_)
  refine w_iloadN X17 D16_76 rfl ?_
  refine w_static X17 D16_77 (rmCJ hw X17.sz (ad 4) _ cap c2 (mJ (S 4)) rfl (by omega) (by omega) (M16.at 7 rfl)) (hw _ (List.mem_of_getElem? (i := 109) rfl)) (hw _ (List.mem_of_getElem? (i := 110) rfl)) (hw _ (List.mem_of_getElem? (i := 42) rfl)) (hw _ (List.mem_of_getElem? (i := 111) rfl)) (by decide) pd_4 rfl (S := [(.ref l0)]) rfl rfl (Nat.le_of_ble_eq_true rfl) (Nat.le_of_ble_eq_true rfl) (Nat.le_of_ble_eq_true rfl) (Nat.le_of_ble_eq_true rfl) (fun v18 T18 h18 X18 q18 => ?_)
  obtain ⟨b18, rfl, g18, E18, B18⟩ := q18
  rw [grow_mJ _ _ (fun i hi => hz 4 (by decide) i (by omega))] at B18
  have M18 := M16.rep 7 E18 g18 B18
  have O18 := O16.ext E18
  show Wp _ _ _ _ _ _ _ _ (mkF m 80 #[.val (.ref l0), .val (.int (Int32.ofNat sl)), .val (.int (Int32.ofNat b)), .val (.int (Int32.ofNat c2))] [(.ref b18), (.ref l0)])
  refine w_putF X18 D16_80 (hw _ (List.mem_of_getElem? (i := 24) rfl)) O18.2.2.2.2.2.2.1 O18.2.1 O18.1 (Or.inl (hw _ (List.mem_of_getElem? (i := 25) rfl))) (hw _ (List.mem_of_getElem? (i := 8) rfl)) (ty := (.array .long)) (by decide) rfl rfl (fun T19 h19 X19 W19 => ?_)
  have O19 := O18.put_extraMasks hw W19
  have M19 := Pak_memW hw O18 M18 W19
  refine w_aloadN X19 D16_83 rfl rfl ?_
  refine w_aloadN X19 D16_84 rfl rfl ?_
  refine w_getF X19 D16_85 (hw _ (List.mem_of_getElem? (i := 26) rfl)) O19.2.2.2.2.2.2.2.1 (fun T20 X20 => ?_)
  refine w_iloadN X20 D16_88 rfl ?_
  refine w_static X20 D16_89 (rmCI hw X20.sz (ad 5) _ cap c2 (xI (S 5)) rfl (by omega) (by omega) (M19.at 6 rfl)) (hw _ (List.mem_of_getElem? (i := 101) rfl)) (hw _ (List.mem_of_getElem? (i := 102) rfl)) (hw _ (List.mem_of_getElem? (i := 42) rfl)) (hw _ (List.mem_of_getElem? (i := 103) rfl)) (by decide) pd_3 rfl (S := [(.ref l0)]) rfl rfl (Nat.le_of_ble_eq_true rfl) (Nat.le_of_ble_eq_true rfl) (Nat.le_of_ble_eq_true rfl) (Nat.le_of_ble_eq_true rfl) (fun v21 T21 h21 X21 q21 => ?_)
  obtain ⟨b21, rfl, g21, E21, B21⟩ := q21
  rw [grow_xI _ _ (fun i hi => hz5 i (by omega))] at B21
  have M21 := M19.rep 6 E21 g21 B21
  have O21 := O19.ext E21
  show Wp _ _ _ _ _ _ _ _ (mkF m 92 #[.val (.ref l0), .val (.int (Int32.ofNat sl)), .val (.int (Int32.ofNat b)), .val (.int (Int32.ofNat c2))] [(.ref b21), (.ref l0)])
  refine w_putF X21 D16_92 (hw _ (List.mem_of_getElem? (i := 26) rfl)) O21.2.2.2.2.2.2.2.1 O21.2.1 O21.1 (Or.inl (hw _ (List.mem_of_getElem? (i := 27) rfl))) (hw _ (List.mem_of_getElem? (i := 8) rfl)) (ty := (.array .int)) (by decide) rfl rfl (fun T22 h22 X22 W22 => ?_)
  have O22 := O21.put_nextExtras hw W22
  have M22 := Pak_memW hw O21 M21 W22
  exact ae1 hw X22 l0 (fun k => match k with | 0 => b6 | 1 => b9 | 2 => b12 | 3 => b15 | 4 => b18 | 5 => b21 | k => ad k) S E c2 en rw sl b Lt _ hsl hb0 (by omega) (by omega) hen hla (Nat.le_of_ble_eq_true rfl) (Nat.le_of_ble_eq_true rfl) (Nat.le_of_ble_eq_true rfl) (Nat.le_of_ble_eq_true rfl) ⟨O22, M22⟩ (fun h' P => ⟨rfl, _, P⟩)
theorem ef_16b (m : MethodId) (l0 : Addr) (x1 : Int32) (x2 : Int32) : entryFrame m #[(.ref l0), (.int x1), (.int x2)] 4 = mkF m 0 #[.val (.ref l0), .val (.int x1), .val (.int x2), .unset] [] := by first | (simp [entryFrame, mkF, argsToLocals, Value.category]; done) | rfl
theorem pn_16b : plainName "com/example/tokenfold/tokenfold/statespace/Packing" = true := by first | (simp [plainName, overriddenIn]; done) | decide +kernel
set_option maxRecDepth 65536 in
set_option maxHeartbeats 40000000 in
theorem rmA0 {l : Launch} {Z : State} {a0 : Array Value} {n0 : Nat} {h : Heap} (hw : ∀ d ∈ tables_1, d.before a0 Z = true) (hn : n0 ≤ h.size) (l0 : Addr) (x1 : Int32) (x2 : Int32) (ad : Nat → Addr) (S : Nat → Nat → Nat) (E cap en rw sl b : Nat) (Lt : List Ent) (e1 : x1 = Int32.ofNat sl) (e2 : x2 = Int32.ofNat b) (hsl : sl < 3) (hb0 : b ≤ 31) (hE : E < cap) (hcap : cap ≤ 8) (hen : en < 100000) (hla : S 11 sl ≤ E) (hz : ∀ k, k < 5 → ∀ i, E ≤ i → S k i = 0) (hz5 : ∀ i, E ≤ i → S 5 i = 1) (P : PK Z n0 h l0 ad S E cap en rw Lt) :
    Ctr l Z n0 (⟨"com/example/tokenfold/tokenfold/statespace/Packing", "addExtra", "(II)V"⟩ : MethodName) prog_60_method_7_code 4 none ({ frames := 2, cells := 0, slots := 0, locals := 40 } : Room) [] #[(.ref l0), (.int x1), (.int x2)] h (fun v h' => v = none ∧ ∃ ad', PK Z n0 h' l0 ad' (adS S E sl b en) (E + 1) cap (plc en b + b) rw Lt) := by
  refine ctr_of (plainFor_of_name pn_16b) hw hn ?_
  intro p e s m below meth c T X
  refine Wp.cast (ef_16b m l0 x1 x2) ?_
  subst e1 e2
  obtain ⟨O, M⟩ := P
  refine w_aloadN X D16_0 rfl rfl ?_
  refine w_getF X D16_1 (hw _ (List.mem_of_getElem? (i := 81) rfl)) O.2.2.2.2.2.2.2.2.2.2.2.2.2.2.1 (fun T1 X1 => ?_)
  refine w_aloadN X1 D16_4 rfl rfl ?_
  refine w_getF X1 D16_5 (hw _ (List.mem_of_getElem? (i := 16) rfl)) O.2.2.1 (fun T2 X2 => ?_)
  refine w_arraylength X2 D16_8 (M.at 11 rfl) ?_
  refine w_icmpne X2 D16_9 (fun hc9 => ?_) (fun hc9 => by have z := (n_inj (a := E) (b := cap) (by omega) (by omega)).mp hc9; omega)
  exact ae1 hw X2 l0 ad S E cap en rw sl b Lt _ hsl hb0 (by omega) (by omega) hen hla (Nat.le_of_ble_eq_true rfl) (Nat.le_of_ble_eq_true rfl) (Nat.le_of_ble_eq_true rfl) (Nat.le_of_ble_eq_true rfl) ⟨O, M⟩ (fun h' P => ⟨rfl, ad, P⟩)
-- CUT
/-- field i: the three slots' own fields first, then the extras -/
def fs (S : Nat → Nat → Nat) (i : Nat) : Nat := if i < 3 then i else S 0 (i - 3)
def fW (S : Nat → Nat → Nat) (i : Nat) : Nat := if i < 3 then S 6 i else S 1 (i - 3)
def fH (S : Nat → Nat → Nat) (i : Nat) : Nat := if i < 3 then S 7 i else S 2 (i - 3)
def fl (S : Nat → Nat → Nat) (i : Nat) : Nat := if i < 3 then 0 else S 3 (i - 3)
def fD (S : Nat → Nat → Nat) (i : Nat) : Nat := if i < 3 then S 8 i else S 4 (i - 3)
theorem ad_at (S : Nat → Nat → Nat) (E sl b en : Nat) : adS S E sl b en 0 = upd (S 0) E sl ∧ adS S E sl b en 1 = upd (S 1) E (plc en b / 64) ∧ adS S E sl b en 2 = upd (S 2) E (plc en b % 64) ∧ adS S E sl b en 3 = upd (S 3) E (S 9 sl) ∧ adS S E sl b en 4 = upd (S 4) E b ∧ adS S E sl b en 6 = S 6 ∧ adS S E sl b en 7 = S 7 ∧ adS S E sl b en 8 = S 8 ∧ adS S E sl b en 9 = upd (S 9) sl (S 9 sl + b) ∧ adS S E sl b en 11 = upd (S 11) sl (E + 1) := by
  have l : ∀ k, k ≠ 5 → k ≠ 10 → lnk S E sl k = S k := fun k h5 h10 => by
    unfold lnk
    by_cases h : S 11 sl = 0
    · rw [if_pos h]; split
      · exact absurd rfl h10
      · rfl
    · rw [if_neg h]; split
      · exact absurd rfl h5
      · rfl
  refine ⟨?_, ?_, ?_, ?_, ?_, ?_, ?_, ?_, ?_, ?_⟩
  · show upd (lnk S E sl 0) E sl = _; rw [l 0 (by decide) (by decide)]
  · show upd (lnk S E sl 1) E _ = _; rw [l 1 (by decide) (by decide)]
  · show upd (lnk S E sl 2) E _ = _; rw [l 2 (by decide) (by decide)]
  · show upd (lnk S E sl 3) E (lnk S E sl 9 sl) = _; rw [l 3 (by decide) (by decide), l 9 (by decide) (by decide)]
  · show upd (lnk S E sl 4) E b = _; rw [l 4 (by decide) (by decide)]
  · exact l 6 (by decide) (by decide)
  · exact l 7 (by decide) (by decide)
  · exact l 8 (by decide) (by decide)
  · show upd (lnk S E sl 9) sl (lnk S E sl 9 sl + b) = _; rw [l 9 (by decide) (by decide)]
  · show upd (lnk S E sl 11) sl (E + 1) = _; rw [l 11 (by decide) (by decide)]
theorem ad_five (S : Nat → Nat → Nat) (E sl b en : Nat) (h5 : ∀ i, E ≤ i → S 5 i = 1) (h11 : S 11 sl ≤ E) (i : Nat) (hi : E + 1 ≤ i) : adS S E sl b en 5 i = 1 := by
  show upd (lnk S E sl 5) E 0 i = 1
  rw [upd_ne _ _ (by omega)]
  unfold lnk
  by_cases h : S 11 sl = 0
  · rw [if_pos h]; exact h5 i (by omega)
  · rw [if_neg h]; show upd (S 5) (S 11 sl - 1) (E + 1) i = 1; rw [upd_ne _ _ (by omega)]; exact h5 i (by omega)
theorem ad_old (S : Nat → Nat → Nat) (E sl b en : Nat) {i : Nat} (hi : i < 3 + E) : fs (adS S E sl b en) i = fs S i ∧ fW (adS S E sl b en) i = fW S i ∧ fH (adS S E sl b en) i = fH S i ∧ fl (adS S E sl b en) i = fl S i ∧ fD (adS S E sl b en) i = fD S i := by
  obtain ⟨a0, a1, a2, a3, a4, a6, a7, a8, a9, a11⟩ := ad_at S E sl b en
  unfold fs fW fH fl fD
  by_cases h : i < 3
  · simp only [if_pos h, a6, a7, a8, and_self]
  · simp only [if_neg h, a0, a1, a2, a3, a4, upd_ne _ _ (show i - 3 ≠ E by omega), and_self]
theorem ad_new (S : Nat → Nat → Nat) (E sl b en : Nat) : fs (adS S E sl b en) (3 + E) = sl ∧ fW (adS S E sl b en) (3 + E) = plc en b / 64 ∧ fH (adS S E sl b en) (3 + E) = plc en b % 64 ∧ fl (adS S E sl b en) (3 + E) = S 9 sl ∧ fD (adS S E sl b en) (3 + E) = b := by
  obtain ⟨a0, a1, a2, a3, a4, a6, a7, a8, a9, a11⟩ := ad_at S E sl b en
  unfold fs fW fH fl fD
  simp only [if_neg (show ¬ 3 + E < 3 by omega), Nat.add_sub_cancel_left, a0, a1, a2, a3, a4, upd_at, and_self]
def Inv (S : Nat → Nat → Nat) (E en : Nat) : Prop :=
  (∀ i, i < 3 + E → fs S i < 3 ∧ 1 ≤ fD S i ∧ fD S i ≤ 31 ∧ fH S i + fD S i ≤ 64 ∧ fl S i + fD S i ≤ S 9 (fs S i) ∧ 64 * fW S i + fH S i + fD S i ≤ en) ∧
  (∀ i j, i < j → j < 3 + E → 64 * fW S i + fH S i + fD S i ≤ 64 * fW S j + fH S j) ∧
  (∀ s, s < 3 → 1 ≤ S 9 s ∧ S 9 s ≤ 31 ∧ ∀ t, t < S 9 s → ∃ i, i < 3 + E ∧ fs S i = s ∧ fl S i ≤ t ∧ t < fl S i + fD S i) ∧
  en ≤ 2 * (S 9 0 + S 9 1 + S 9 2) ∧ (∀ s, s < 3 → S 11 s ≤ E) ∧ (∀ k, k < 5 → ∀ i, E ≤ i → S k i = 0) ∧ (∀ i, E ≤ i → S 5 i = 1)
theorem Inv.add {S : Nat → Nat → Nat} {E en sl b : Nat} (I : Inv S E en) (hsl : sl < 3) (hb : 1 ≤ b) (hw : S 9 sl + b ≤ 31) : Inv (adS S E sl b en) (E + 1) (plc en b + b) := by
  obtain ⟨i1, i2, i3, i4, i5, i6, i7⟩ := I
  obtain ⟨p1, p2, p3⟩ := plc_spec en b hb (by omega)
  obtain ⟨a0, a1, a2, a3, a4, a6, a7, a8, a9, a11⟩ := ad_at S E sl b en
  have o := fun i (hi : i < 3 + E) => ad_old S E sl b en hi
  obtain ⟨n0, n1, n2, n3, n4⟩ := ad_new S E sl b en
  have c9 : ∀ s, S 9 s ≤ adS S E sl b en 9 s := fun s => by
    rw [a9]; by_cases h : s = sl
    · rw [h, upd_at]; omega
    · rw [upd_ne _ _ h]; exact Nat.le_refl _
  have hq : 64 * (plc en b / 64) + plc en b % 64 = plc en b := Nat.div_add_mod _ _
  refine ⟨fun i hi => ?_, fun i j hij hj => ?_, fun s hs => ?_, ?_, fun s hs => ?_, fun k hk i hi => ?_, ad_five S E sl b en i7 (i5 sl hsl)⟩
  · by_cases h : i < 3 + E
    · obtain ⟨o0, o1, o2, o3, o4⟩ := o i h
      rw [o0, o1, o2, o3, o4]
      obtain ⟨q1, q2, q3, q4, q5, q6⟩ := i1 i h
      exact ⟨q1, q2, q3, q4, Nat.le_trans q5 (c9 _), by omega⟩
    · obtain rfl : i = 3 + E := by omega
      rw [n0, n1, n2, n3, n4]
      exact ⟨hsl, hb, by omega, p2, by rw [a9, upd_at]; exact Nat.le_refl _, by omega⟩
  · obtain ⟨o0, o1, o2, o3, o4⟩ := o i (by omega)
    rw [o1, o2, o4]
    by_cases h : j < 3 + E
    · obtain ⟨r0, r1, r2, r3, r4⟩ := o j h
      rw [r1, r2]; exact i2 i j hij h
    · obtain rfl : j = 3 + E := by omega
      rw [n1, n2, hq]
      have := (i1 i (by omega)).2.2.2.2.2
      omega
  · obtain ⟨s1, s2, s3⟩ := i3 s hs
    have old : ∀ t, t < S 9 s → ∃ i, i < 3 + (E + 1) ∧ fs (adS S E sl b en) i = s ∧ fl (adS S E sl b en) i ≤ t ∧ t < fl (adS S E sl b en) i + fD (adS S E sl b en) i := fun t ht => by
      obtain ⟨i, hi, r⟩ := s3 t ht
      obtain ⟨o0, o1, o2, o3, o4⟩ := o i hi
      exact ⟨i, by omega, by rw [o0, o3, o4]; exact r⟩
    rw [a9]
    by_cases h : s = sl
    · subst h
      rw [upd_at]
      refine ⟨by omega, hw, fun t ht => ?_⟩
      by_cases h2 : t < S 9 s
      · exact old t h2
      · exact ⟨3 + E, by omega, n0, by rw [n3]; omega, by rw [n3, n4]; exact ht⟩
    · rw [upd_ne _ _ h]; exact ⟨s1, s2, old⟩
  · rw [a9]
    have hc : sl = 0 ∨ sl = 1 ∨ sl = 2 := by omega
    rcases hc with rfl | rfl | rfl
    · rw [upd_at, upd_ne _ _ (by decide), upd_ne _ _ (by decide)]; omega
    · rw [upd_at, upd_ne _ _ (by decide), upd_ne _ _ (by decide)]; omega
    · rw [upd_at, upd_ne _ _ (by decide), upd_ne _ _ (by decide)]; omega
  · rw [a11]; by_cases h : s = sl
    · rw [h, upd_at]; exact Nat.le_refl _
    · rw [upd_ne _ _ h]; have := i5 s hs; omega
  · have hc : k = 0 ∨ k = 1 ∨ k = 2 ∨ k = 3 ∨ k = 4 := by omega
    have z := i6 k hk i (by omega)
    rcases hc with rfl | rfl | rfl | rfl | rfl
    · rw [a0, upd_ne _ _ (by omega)]; exact z
    · rw [a1, upd_ne _ _ (by omega)]; exact z
    · rw [a2, upd_ne _ _ (by omega)]; exact z
    · rw [a3, upd_ne _ _ (by omega)]; exact z
    · rw [a4, upd_ne _ _ (by omega)]; exact z
theorem Inv.en {S : Nat → Nat → Nat} {E en : Nat} (I : Inv S E en) : en ≤ 186 := by
  obtain ⟨i1, i2, i3, i4, i5, i6, i7⟩ := I
  have := (i3 0 (by decide)).2.1
  have := (i3 1 (by decide)).2.1
  have := (i3 2 (by decide)).2.1
  omega
/-- the extra arrays' length | what was made for them -/
def cp (E : Nat) : Nat := if E = 0 then 0 else if E ≤ 4 then 4 else 8
def ce (E : Nat) : Nat := if E = 0 then 0 else if E ≤ 4 then 6 else 12
/-- what widen adds to a field -/
theorem own_more {u w : Nat} (hu : u < 2147483648) (hw : 1 ≤ w) (hw2 : w ≤ 31) (h : ¬ u / 2 ^ w = 0) : w < max (bt u) (min 31 (2 * w)) ∧ max (bt u) (min 31 (2 * w)) ≤ 31 ∧ u < 2 ^ max (bt u) (min 31 (2 * w)) := by
  obtain ⟨b1, b2, b3, b4⟩ := bt_spec u hu
  have h2 : 2 ^ w ≤ u := Nat.le_of_not_lt fun z => h (Nat.div_eq_of_lt z)
  have h3 : w < bt u := (Nat.pow_lt_pow_iff_right (a := 2) (by decide)).mp (Nat.lt_of_le_of_lt h2 b3)
  refine ⟨by omega, by omega, Nat.lt_of_lt_of_le b3 (Nat.pow_le_pow_right (by decide) (by omega))⟩
-- CUT
theorem cp_spec (E : Nat) : (E = 0 → cp E = 0 ∧ ce E = 0) ∧ (1 ≤ E → E ≤ 4 → cp E = 4 ∧ ce E = 6) ∧ (5 ≤ E → cp E = 8 ∧ ce E = 12) := by
  unfold cp ce
  refine ⟨fun h => by simp [h], fun h h2 => ?_, fun h => ?_⟩
  · rw [if_neg (by omega), if_pos h2, if_neg (by omega), if_pos h2]; exact ⟨rfl, rfl⟩
  · rw [if_neg (by omega), if_neg (by omega), if_neg (by omega), if_neg (by omega)]; exact ⟨rfl, rfl⟩
set_option maxRecDepth 65536 in
set_option maxHeartbeats 40000000 in
theorem wdT {Z : State} {a0 : Array Value} {n0 : Nat} {p : Program} {l : Launch} {e : Env} {s : State} {m : MethodId} {args : Array Value} {below : List Frame} {meth : Method} {c : Code} {T : State} {h : Heap} {k j : Nat} {Q : Option Value → Heap → Prop} (hw : ∀ d ∈ tables_1, d.before a0 Z = true) (X : Pos Z a0 n0 p l e ({ frames := 3, cells := 6, slots := 48, locals := 60 } : Room) s m args below meth c prog_60_method_6_code 4 none (⟨"com/example/tokenfold/tokenfold/statespace/Packing", "widen", "([I)V"⟩ : MethodName) T h k j) (l0 a1 : Addr) (ad : Nat → Addr) (S : Nat → Nat → Nat) (E E0 en rw i : Nat) (cn : Nat → Nat) (Lt : List Ent) (ix : Nat) (s3 : Slot) (h_s3 : Jvm.RoadKit.One s3) (hLt : Lt[ix]? = some (a1, .int, 3, bI (nI cn))) (hi : i < 3) (hc : ∀ s, s < 3 → cn s < 2147483648) (I : Inv S E en) (hE : E ≤ E0 + i) (hE0 : E0 ≤ E) (hE3 : E0 ≤ 3) (J : (Nat → Nat → Nat) → Nat → Prop) (hJ : ∀ S E sl b en, Inv S E en → J S E → sl < 3 → J (adS S E sl b en) (E + 1)) (j0 : J S E) (hk : k + ce E0 ≤ ce E) (hj : j + 8 * ce E0 ≤ 8 * ce E) (P : PK Z n0 h l0 ad S E (cp E) en rw Lt) (q : ∀ T' h' k' j' z' ad' S' E' en', Pos Z a0 n0 p l e ({ frames := 3, cells := 6, slots := 48, locals := 60 } : Room) s m args below meth c prog_60_method_6_code 4 none (⟨"com/example/tokenfold/tokenfold/statespace/Packing", "widen", "([I)V"⟩ : MethodName) T' h' k' j' → Inv S' E' en' → J S' E' → E ≤ E' → E' ≤ E0 + (i + 1) → k' + ce E0 ≤ ce E' → j' + 8 * ce E0 ≤ 8 * ce E' → cn i < 2 ^ S' 9 i → (∀ s, S 9 s ≤ S' 9 s) → PK Z n0 h' l0 ad' S' E' (cp E') en' rw Lt → Wp n0 p e ({ frames := 3, cells := 6, slots := 48, locals := 60 } : Room) s below Q T' (mkF m 2 #[.val (.ref l0), .val (.ref a1), .val (.int (Int32.ofNat (i + 1))), .val (.int z')] [])) : Wp n0 p e ({ frames := 3, cells := 6, slots := 48, locals := 60 } : Room) s below Q T (mkF m 2 #[.val (.ref l0), .val (.ref a1), .val (.int (Int32.ofNat i)), s3] []) := by
  obtain ⟨O, M⟩ := P
  have s0 := cp_spec E0
  have s1 := cp_spec E
  have s2 := cp_spec (E + 1)
  have hw9 := I.2.2.1 i hi
  have hci := hc i hi
  have hen := I.en
  have h11 := I.2.2.2.2.1 i hi
  have hk6 : k ≤ 6 := by omega
  have hj6 : j ≤ 48 := by omega
  refine w_iloadN X D9_2 rfl ?_
  refine w_aloadN X D9_3 rfl rfl ?_
  refine w_arraylength X D9_4 (M.at (ix + 12) hLt) ?_
  refine w_icmpge X D9_5 (fun hc5 => by exact absurd ((ofNat_lt (by omega) (by decide)).mpr hi) hc5) (fun hc5 => ?_)
  refine w_aloadN X D9_8 rfl rfl ?_
  refine w_getF X D9_9 (hw _ (List.mem_of_getElem? (i := 34) rfl)) O.2.2.2.2.2.2.2.2.2.2.2.1 (fun T1 X1 => ?_)
  refine w_iloadN X1 D9_12 rfl ?_
  refine w_iaload X1 D9_13 (M.at 2 rfl) i rfl (by omega) ?_
  show Wp _ _ _ _ _ _ _ _ (mkF m 14 #[.val (.ref l0), .val (.ref a1), .val (.int (Int32.ofNat i)), s3] [(.int (Int32.ofNat ((S 9) i)))])
  refine w_istoreNS X1 D9_14 (l' := #[.val (.ref l0), .val (.ref a1), .val (.int (Int32.ofNat i)), .val (.int (Int32.ofNat ((S 9) i)))]) rfl h_s3 rfl ?_
  refine w_aloadN X1 D9_15 rfl rfl ?_
  refine w_iloadN X1 D9_16 rfl ?_
  refine w_iaload X1 D9_17 (M.at (ix + 12) hLt) i rfl (by omega) ?_
  show Wp _ _ _ _ _ _ _ _ (mkF m 18 #[.val (.ref l0), .val (.ref a1), .val (.int (Int32.ofNat i)), .val (.int (Int32.ofNat ((S 9) i)))] [(.int (Int32.ofNat (cn i)))])
  refine w_iloadN X1 D9_18 rfl ?_
  refine w_iushr X1 D9_19 ?_
  rw [n_ushr hci (show S 9 i < 32 by omega)]
  refine w_ifeq X1 D9_20 (fun hc20 => ?_) (fun hc20 => ?_)
  · refine w_iinc X1 D9_47 (d := (1 : Int32)) (r := (Int32.ofNat (i + 1))) (l' := #[.val (.ref l0), .val (.ref a1), .val (.int (Int32.ofNat (i + 1))), .val (.int (Int32.ofNat ((S 9) i)))]) rfl rfl (n_add _ _) rfl ?_
    refine w_goto X1 D9_50 ?_
    have hz0 : cn i / 2 ^ S 9 i = 0 := (n_inj (b := 0) (Nat.lt_of_le_of_lt (Nat.div_le_self _ _) hci) (by decide)).mp hc20
    exact q _ _ _ _ _ ad _ _ _ X1 I j0 (Nat.le_refl _) (by omega) hk hj (Nat.lt_of_div_eq_zero (Nat.two_pow_pos _) hz0) (fun s => Nat.le_refl _) ⟨O, M⟩
  · have hn0 : ¬ cn i / 2 ^ S 9 i = 0 := fun z => hc20 (by rw [z]; rfl)
    obtain ⟨m1, m2, m3⟩ := own_more hci hw9.1 hw9.2.1 hn0
    obtain ⟨bb, hbb⟩ : ∃ bb, max (bt (cn i)) (min 31 (2 * S 9 i)) - S 9 i = bb := ⟨_, rfl⟩
    obtain ⟨u1, u2, u3, u4⟩ := bt_spec (cn i) hci
    refine w_aloadN X1 D9_23 rfl rfl ?_
    refine w_iloadN X1 D9_24 rfl ?_
    refine w_aloadN X1 D9_25 rfl rfl ?_
    refine w_iloadN X1 D9_26 rfl ?_
    refine w_iaload X1 D9_27 (M.at (ix + 12) hLt) i rfl (by omega) ?_
    show Wp _ _ _ _ _ _ _ _ (mkF m 28 #[.val (.ref l0), .val (.ref a1), .val (.int (Int32.ofNat i)), .val (.int (Int32.ofNat ((S 9) i)))] [(.int (Int32.ofNat (cn i))), (.int (Int32.ofNat i)), (.ref l0)])
    refine w_static X1 D9_28 (rmB hw X1.sz _ (cn i) hci rfl) (hw _ (List.mem_of_getElem? (i := 44) rfl)) (hw _ (List.mem_of_getElem? (i := 45) rfl)) (hw _ (List.mem_of_getElem? (i := 9) rfl)) (hw _ (List.mem_of_getElem? (i := 46) rfl)) (by decide) pd_0 rfl (S := [(.int (Int32.ofNat i)), (.ref l0)]) rfl rfl (Nat.le_of_ble_eq_true rfl) (Nat.le_of_ble_eq_true rfl) hk6 hj6 (fun v2 T2 h2 X2 q2 => ?_)
    obtain ⟨rfl, rfl⟩ := q2
    show Wp _ _ _ _ _ _ _ _ (mkF m 31 #[.val (.ref l0), .val (.ref a1), .val (.int (Int32.ofNat i)), .val (.int (Int32.ofNat ((S 9) i)))] [(.int (Int32.ofNat (bt (cn i)))), (.int (Int32.ofNat i)), (.ref l0)])
    refine w_bipush X2 D9_31 (v := (31 : Int32)) rfl ?_
    refine w_iconst X2 D9_33 (v := (2 : Int32)) rfl ?_
    refine w_iloadN X2 D9_34 rfl ?_
    refine w_imul X2 D9_35 ?_
    rw [show (2 : Int32) * Int32.ofNat (S 9 i) = Int32.ofNat (2 * S 9 i) from n_mul 2 _]
    refine w_static X2 D9_36 (rmMin hw X2.sz _ _ 31 (2 * S 9 i) (by decide) (by omega) rfl rfl) (hw _ (List.mem_of_getElem? (i := 94) rfl)) (hw _ (List.mem_of_getElem? (i := 95) rfl)) (hw _ (List.mem_of_getElem? (i := 54) rfl)) (hw _ (List.mem_of_getElem? (i := 96) rfl)) (by decide) pd_1 rfl (S := [(.int (Int32.ofNat (bt (cn i)))), (.int (Int32.ofNat i)), (.ref l0)]) rfl rfl (Nat.le_of_ble_eq_true rfl) (Nat.le_of_ble_eq_true rfl) hk6 hj6 (fun v3 T3 h3 X3 q3 => ?_)
    obtain ⟨rfl, rfl⟩ := q3
    show Wp _ _ _ _ _ _ _ _ (mkF m 39 #[.val (.ref l0), .val (.ref a1), .val (.int (Int32.ofNat i)), .val (.int (Int32.ofNat ((S 9) i)))] [(.int (Int32.ofNat (min 31 (2 * S 9 i)))), (.int (Int32.ofNat (bt (cn i)))), (.int (Int32.ofNat i)), (.ref l0)])
    refine w_static X3 D9_39 (rmMax hw X3.sz _ _ (bt (cn i)) (min 31 (2 * S 9 i)) (by omega) (by omega) rfl rfl) (hw _ (List.mem_of_getElem? (i := 52) rfl)) (hw _ (List.mem_of_getElem? (i := 53) rfl)) (hw _ (List.mem_of_getElem? (i := 54) rfl)) (hw _ (List.mem_of_getElem? (i := 55) rfl)) (by decide) pd_1 rfl (S := [(.int (Int32.ofNat i)), (.ref l0)]) rfl rfl (Nat.le_of_ble_eq_true rfl) (Nat.le_of_ble_eq_true rfl) hk6 hj6 (fun v4 T4 h4 X4 q4 => ?_)
    obtain ⟨rfl, rfl⟩ := q4
    show Wp _ _ _ _ _ _ _ _ (mkF m 42 #[.val (.ref l0), .val (.ref a1), .val (.int (Int32.ofNat i)), .val (.int (Int32.ofNat ((S 9) i)))] [(.int (Int32.ofNat (max (bt (cn i)) (min 31 (2 * S 9 i))))), (.int (Int32.ofNat i)), (.ref l0)])
    refine w_iloadN X4 D9_42 rfl ?_
    refine w_isub X4 D9_43 ?_
    rw [n_sub (show S 9 i ≤ max (bt (cn i)) (min 31 (2 * S 9 i)) by omega), hbb]
    have hmx : S 9 i + bb = max (bt (cn i)) (min 31 (2 * S 9 i)) := by omega
    have IA := I.add hi (b := bb) (by omega) (by omega)
    by_cases hg : E = cp E
    · refine w_private (z0 := ({ cls := "com/example/tokenfold/tokenfold/statespace/Packing", name := "widen", desc := "([I)V" } : Jvm.MethodName)) X4 D9_44 (rmA hw X4.sz l0 _ _ ad S E (cp E) en rw i bb Lt rfl rfl hi (by omega) hg (by omega) (cp (E + 1)) (by omega) (by omega) h11 I.2.2.2.2.2.1 I.2.2.2.2.2.2 ⟨O, M⟩) O.2.1 (hw _ (List.mem_of_getElem? (i := 97) rfl)) (hw _ (List.mem_of_getElem? (i := 98) rfl)) (hw _ (List.mem_of_getElem? (i := 99) rfl)) (hw _ (List.mem_of_getElem? (i := 68) rfl)) rfl (hw _ (List.mem_of_getElem? (i := 9) rfl)) (hw _ (List.mem_of_getElem? (i := 100) rfl)) (by decide) pd_5 rfl (S := []) rfl rfl (Nat.le_of_ble_eq_true rfl) (Nat.le_of_ble_eq_true rfl) (by show k + 6 ≤ 6; omega) (by show j + 48 ≤ 48; omega) (fun v5 T5 h5 X5 q5 => ?_)
      obtain ⟨rfl, ad9, P9⟩ := q5
      show Wp _ _ _ _ _ _ _ _ (mkF m 47 #[.val (.ref l0), .val (.ref a1), .val (.int (Int32.ofNat i)), .val (.int (Int32.ofNat ((S 9) i)))] [])
      have c9 : ∀ s, S 9 s ≤ adS S E i bb en 9 s := fun s => by
        rw [(ad_at S E i bb en).2.2.2.2.2.2.2.2.1]; by_cases h : s = i
        · rw [h, upd_at]; omega
        · rw [upd_ne _ _ h]; exact Nat.le_refl _
      refine w_iinc X5 D9_47 (d := (1 : Int32)) (r := (Int32.ofNat (i + 1))) (l' := #[.val (.ref l0), .val (.ref a1), .val (.int (Int32.ofNat (i + 1))), .val (.int (Int32.ofNat ((S 9) i)))]) rfl rfl (n_add _ _) rfl ?_
      refine w_goto X5 D9_50 ?_
      exact q _ _ _ _ _ ad9 _ _ _ X5 IA (hJ _ _ _ _ _ I j0 hi) (by omega) (by omega) (by show k + 6 + ce E0 ≤ _; omega) (by show j + 48 + 8 * ce E0 ≤ _; omega) (by rw [(ad_at S E i bb en).2.2.2.2.2.2.2.2.1, upd_at, hmx]; exact m3) c9 P9
    · refine w_private (z0 := ({ cls := "com/example/tokenfold/tokenfold/statespace/Packing", name := "widen", desc := "([I)V" } : Jvm.MethodName)) X4 D9_44 (rmA0 hw X4.sz l0 _ _ ad S E (cp E) en rw i bb Lt rfl rfl hi (by omega) (by omega) (by omega) (by omega) h11 I.2.2.2.2.2.1 I.2.2.2.2.2.2 ⟨O, M⟩) O.2.1 (hw _ (List.mem_of_getElem? (i := 97) rfl)) (hw _ (List.mem_of_getElem? (i := 98) rfl)) (hw _ (List.mem_of_getElem? (i := 99) rfl)) (hw _ (List.mem_of_getElem? (i := 68) rfl)) rfl (hw _ (List.mem_of_getElem? (i := 9) rfl)) (hw _ (List.mem_of_getElem? (i := 100) rfl)) (by decide) pd_5 rfl (S := []) rfl rfl (Nat.le_of_ble_eq_true rfl) (Nat.le_of_ble_eq_true rfl) (by show k + 0 ≤ 6; omega) (by show j + 0 ≤ 48; omega) (fun v6 T6 h6 X6 q6 => ?_)
      obtain ⟨rfl, ad9, P9⟩ := q6
      show Wp _ _ _ _ _ _ _ _ (mkF m 47 #[.val (.ref l0), .val (.ref a1), .val (.int (Int32.ofNat i)), .val (.int (Int32.ofNat ((S 9) i)))] [])
      have ecp : cp (E + 1) = cp E := by omega
      rw [← ecp] at P9
      have c9 : ∀ s, S 9 s ≤ adS S E i bb en 9 s := fun s => by
        rw [(ad_at S E i bb en).2.2.2.2.2.2.2.2.1]; by_cases h : s = i
        · rw [h, upd_at]; omega
        · rw [upd_ne _ _ h]; exact Nat.le_refl _
      refine w_iinc X6 D9_47 (d := (1 : Int32)) (r := (Int32.ofNat (i + 1))) (l' := #[.val (.ref l0), .val (.ref a1), .val (.int (Int32.ofNat (i + 1))), .val (.int (Int32.ofNat ((S 9) i)))]) rfl rfl (n_add _ _) rfl ?_
      refine w_goto X6 D9_50 ?_
      exact q _ _ _ _ _ ad9 _ _ _ X6 IA (hJ _ _ _ _ _ I j0 hi) (by omega) (by omega) (by show k + 0 + ce E0 ≤ _; omega) (by show j + 0 + 8 * ce E0 ≤ _; omega) (by rw [(ad_at S E i bb en).2.2.2.2.2.2.2.2.1, upd_at, hmx]; exact m3) c9 P9
theorem ef_9 (m : MethodId) (l0 : Addr) (a1 : Addr) : entryFrame m #[(.ref l0), (.ref a1)] 4 = mkF m 0 #[.val (.ref l0), .val (.ref a1), .unset, .unset] [] := by first | (simp [entryFrame, mkF, argsToLocals, Value.category]; done) | rfl
theorem pn_9 : plainName "com/example/tokenfold/tokenfold/statespace/Packing" = true := by first | (simp [plainName, overriddenIn]; done) | decide +kernel
set_option maxRecDepth 65536 in
set_option maxHeartbeats 40000000 in
theorem rmWd {l : Launch} {Z : State} {a0 : Array Value} {n0 : Nat} {h : Heap} (hw : ∀ d ∈ tables_1, d.before a0 Z = true) (hn : n0 ≤ h.size) (l0 : Addr) (a1 : Addr) (ad : Nat → Addr) (S : Nat → Nat → Nat) (E en rw : Nat) (cn : Nat → Nat) (Lt : List Ent) (ix : Nat) (hLt : Lt[ix]? = some (a1, .int, 3, bI (nI cn))) (hc : ∀ s, s < 3 → cn s < 2147483648) (I : Inv S E en) (J : (Nat → Nat → Nat) → Nat → Prop) (hJ : ∀ S E sl b en, Inv S E en → J S E → sl < 3 → J (adS S E sl b en) (E + 1)) (j0 : J S E) (hE3 : E ≤ 3) (hr : 1 ≤ rw ∧ rw ≤ 3 ∧ en ≤ 64 * rw) (P : PK Z n0 h l0 ad S E (cp E) en rw Lt) :
    Ctr l Z n0 (⟨"com/example/tokenfold/tokenfold/statespace/Packing", "widen", "([I)V"⟩ : MethodName) prog_60_method_6_code 4 none ({ frames := 3, cells := 6, slots := 48, locals := 60 } : Room) [] #[(.ref l0), (.ref a1)] h (fun v h' => v = none ∧ ∃ ad' S' E' en' rw', Inv S' E' en' ∧ J S' E' ∧ E ≤ E' ∧ E' ≤ E + 3 ∧ (1 ≤ rw' ∧ rw' ≤ 3 ∧ en' ≤ 64 * rw') ∧ (∀ s, s < 3 → cn s < 2 ^ S' 9 s) ∧ PK Z n0 h' l0 ad' S' E' (cp E') en' rw' Lt) := by
  refine ctr_of (plainFor_of_name pn_9) hw hn ?_
  intro p e s m below meth c T X
  refine Wp.cast (ef_9 m l0 a1) ?_
  refine w_iconst X D9_0 (v := (0 : Int32)) rfl ?_
  show Wp _ _ _ _ _ _ _ _ (mkF m 1 #[.val (.ref l0), .val (.ref a1), .unset, .unset] [.int (Int32.ofNat 0)])
  refine w_istoreN X D9_1 (l' := #[.val (.ref l0), .val (.ref a1), .val (.int (Int32.ofNat 0)), .unset]) rfl ?_
  refine wdT hw X l0 a1 ad S E E en rw 0 cn Lt ix _ One.u hLt (by decide) hc I (by omega) (Nat.le_refl _) hE3 J hJ j0 (by show 0 + ce E ≤ ce E; omega) (by show 0 + 8 * ce E ≤ 8 * ce E; omega) P (fun T101 h101 kk101 jj101 z101 ad101 S101 E101 en101 X101 I101 jx101 le101 lf101 hk101 hj101 hc101 hm101 P101 => ?_)
  refine wdT hw X101 l0 a1 ad101 S101 E101 E en101 rw 1 cn Lt ix _ (One.val rfl) hLt (by decide) hc I101 lf101 (by omega) hE3 J hJ jx101 hk101 hj101 P101 (fun T102 h102 kk102 jj102 z102 ad102 S102 E102 en102 X102 I102 jx102 le102 lf102 hk102 hj102 hc102 hm102 P102 => ?_)
  refine wdT hw X102 l0 a1 ad102 S102 E102 E en102 rw 2 cn Lt ix _ (One.val rfl) hLt (by decide) hc I102 lf102 (by omega) hE3 J hJ jx102 hk102 hj102 P102 (fun T103 h103 kk103 jj103 z103 ad103 S103 E103 en103 X103 I103 jx103 le103 lf103 hk103 hj103 hc103 hm103 P103 => ?_)
  obtain ⟨O, M⟩ := P103
  have s0 := cp_spec E
  have s1 := cp_spec E103
  have hen := I103.en
  have hk6 : kk103 ≤ 6 := by omega
  have hj6 : jj103 ≤ 48 := by omega
  have hcc : ∀ s, s < 3 → cn s < 2 ^ S103 9 s := fun s hs => by
    have h : s = 0 ∨ s = 1 ∨ s = 2 := by omega
    rcases h with rfl | rfl | rfl
    · exact Nat.lt_of_lt_of_le hc101 (Nat.pow_le_pow_right (by decide) (Nat.le_trans (hm102 0) (hm103 0)))
    · exact Nat.lt_of_lt_of_le hc102 (Nat.pow_le_pow_right (by decide) (hm103 1))
    · exact hc103
  obtain ⟨r1, r2, r3⟩ := hr
  refine w_iloadN X103 D9_2 rfl ?_
  refine w_aloadN X103 D9_3 rfl rfl ?_
  refine w_arraylength X103 D9_4 (M.at (ix + 12) hLt) ?_
  refine w_icmpge X103 D9_5 (fun hc5 => ?_) (fun hc5 => by exact absurd hc5 (by decide))
  refine w_aloadN X103 D9_53 rfl rfl ?_
  refine w_getF X103 D9_54 (hw _ (List.mem_of_getElem? (i := 60) rfl)) O.2.2.2.2.2.2.2.2.2.2.2.2.2.2.2.1 (fun T21 X21 => ?_)
  refine w_ldc2 X21 D9_57 (hw _ (List.mem_of_getElem? (i := 62) rfl)) ?_
  refine w_ladd X21 D9_60 ?_
  rw [show Int64.ofNat en103 + 64 = Int64.ofNat (en103 + 64) from nL_add _ 64]
  refine w_lconst1 X21 D9_61 ?_
  refine w_lsub X21 D9_62 ?_
  rw [show Int64.ofNat (en103 + 64) - 1 = Int64.ofNat (en103 + 64 - 1) from nL_sub (b := 1) (by omega)]
  refine w_ldc2 X21 D9_63 (hw _ (List.mem_of_getElem? (i := 62) rfl)) ?_
  refine w_ldiv X21 D9_66 (by decide) ?_
  rw [show Int64.ofNat (en103 + 64 - 1) / 64 = Int64.ofNat ((en103 + 64 - 1) / 64) from nL_div (k := 64) (by omega) (by decide) (by decide)]
  refine w_lstoreN X21 D9_67 (l' := #[.val (.ref l0), .val (.ref a1), .val (.long (Int64.ofNat ((en103 + 64 - 1) / 64))), .second]) rfl ?_
  refine w_lloadN X21 D9_68 rfl ?_
  refine w_aloadN X21 D9_69 rfl rfl ?_
  refine w_getF X21 D9_70 (hw _ (List.mem_of_getElem? (i := 63) rfl)) O.2.2.2.2.2.2.2.2.2.2.2.2.2.2.2.2 (fun T22 X22 => ?_)
  refine w_i2l X22 D9_73 ?_
  rw [n_i2l (show rw < 2147483648 by omega)]
  refine w_lcmple X22 D9_74 D9_75 (fun hc75 => ?_) (fun hc75 => ?_)
  · exact w_return X22 D9_106 hk6 hj6 (⟨rfl, ad103, S103, E103, en103, rw, I103, jx103, by omega, by omega, ⟨r1, r2, by
          have z : ¬ rw < ((en103 + 64 - 1) / 64) := (fun z => hc75 ((nL_lt (by omega) (by omega)).mpr z))
          omega⟩, hcc, ⟨O, M⟩⟩)
  · have hlt : rw < ((en103 + 64 - 1) / 64) := (nL_lt (by omega) (by omega)).mp hc75
    have emx : max ((en103 + 64 - 1) / 64) (rw + max 1 (rw / 8)) = ((en103 + 64 - 1) / 64) := by omega
    refine w_aloadN X22 D9_78 rfl rfl ?_
    refine w_lloadN X22 D9_79 rfl ?_
    refine w_aloadN X22 D9_80 rfl rfl ?_
    refine w_getF X22 D9_81 (hw _ (List.mem_of_getElem? (i := 63) rfl)) O.2.2.2.2.2.2.2.2.2.2.2.2.2.2.2.2 (fun T23 X23 => ?_)
    refine w_iconst X23 D9_84 (v := (1 : Int32)) rfl ?_
    refine w_aloadN X23 D9_85 rfl rfl ?_
    refine w_getF X23 D9_86 (hw _ (List.mem_of_getElem? (i := 63) rfl)) O.2.2.2.2.2.2.2.2.2.2.2.2.2.2.2.2 (fun T24 X24 => ?_)
    refine w_bipush X24 D9_89 (v := (8 : Int32)) rfl ?_
    refine w_idiv X24 D9_91 (by decide) ?_
    rw [show Int32.ofNat rw / 8 = Int32.ofNat (rw / 8) from n_div (k := 8) (by omega) (by decide) (by decide)]
    refine w_static X24 D9_92 (rmMax hw X24.sz _ _ 1 (rw / 8) (by decide) (by omega) rfl rfl) (hw _ (List.mem_of_getElem? (i := 52) rfl)) (hw _ (List.mem_of_getElem? (i := 53) rfl)) (hw _ (List.mem_of_getElem? (i := 54) rfl)) (hw _ (List.mem_of_getElem? (i := 55) rfl)) (by decide) pd_1 rfl (S := [(.int (Int32.ofNat rw)), (.long (Int64.ofNat ((en103 + 64 - 1) / 64))), (.ref l0)]) rfl rfl (Nat.le_of_ble_eq_true rfl) (Nat.le_of_ble_eq_true rfl) hk6 hj6 (fun v25 T25 h25 X25 q25 => ?_)
    obtain ⟨rfl, rfl⟩ := q25
    show Wp _ _ _ _ _ _ _ _ (mkF m 95 #[.val (.ref l0), .val (.ref a1), .val (.long (Int64.ofNat ((en103 + 64 - 1) / 64))), .second] [(.int (Int32.ofNat (max 1 (rw / 8)))), (.int (Int32.ofNat rw)), (.long (Int64.ofNat ((en103 + 64 - 1) / 64))), (.ref l0)])
    refine w_iadd X25 D9_95 ?_
    rw [n_add]
    refine w_i2l X25 D9_96 ?_
    rw [n_i2l (show (rw + max 1 (rw / 8)) < 2147483648 by omega)]
    refine w_static X25 D9_97 (rmMaxL hw X25.sz _ _ ((en103 + 64 - 1) / 64) (rw + max 1 (rw / 8)) (by omega) (by omega) rfl rfl) (hw _ (List.mem_of_getElem? (i := 112) rfl)) (hw _ (List.mem_of_getElem? (i := 113) rfl)) (hw _ (List.mem_of_getElem? (i := 54) rfl)) (hw _ (List.mem_of_getElem? (i := 114) rfl)) (by decide) pd_6 rfl (S := [(.ref l0)]) rfl rfl (Nat.le_of_ble_eq_true rfl) (Nat.le_of_ble_eq_true rfl) hk6 hj6 (fun v26 T26 h26 X26 q26 => ?_)
    obtain ⟨rfl, rfl⟩ := q26
    show Wp _ _ _ _ _ _ _ _ (mkF m 100 #[.val (.ref l0), .val (.ref a1), .val (.long (Int64.ofNat ((en103 + 64 - 1) / 64))), .second] [(.long (Int64.ofNat (max ((en103 + 64 - 1) / 64) (rw + max 1 (rw / 8))))), (.ref l0)])
    rw [emx]
    refine w_static X26 D9_100 (rmTI hw X26.sz _ ((en103 + 64 - 1) / 64) (by omega) rfl) (hw _ (List.mem_of_getElem? (i := 115) rfl)) (hw _ (List.mem_of_getElem? (i := 116) rfl)) (hw _ (List.mem_of_getElem? (i := 54) rfl)) (hw _ (List.mem_of_getElem? (i := 117) rfl)) (by decide) pd_7 rfl (S := [(.ref l0)]) rfl rfl (Nat.le_of_ble_eq_true rfl) (Nat.le_of_ble_eq_true rfl) hk6 hj6 (fun v27 T27 h27 X27 q27 => ?_)
    obtain ⟨rfl, rfl⟩ := q27
    show Wp _ _ _ _ _ _ _ _ (mkF m 103 #[.val (.ref l0), .val (.ref a1), .val (.long (Int64.ofNat ((en103 + 64 - 1) / 64))), .second] [(.int (Int32.ofNat ((en103 + 64 - 1) / 64))), (.ref l0)])
    refine w_putF X27 D9_103 (hw _ (List.mem_of_getElem? (i := 63) rfl)) O.2.2.2.2.2.2.2.2.2.2.2.2.2.2.2.2 O.2.1 O.1 (Or.inl (hw _ (List.mem_of_getElem? (i := 64) rfl))) (hw _ (List.mem_of_getElem? (i := 8) rfl)) (ty := .int) (by decide) rfl rfl (fun T28 h28 X28 W28 => ?_)
    have O28 := O.put_recordWords hw W28
    have M28 := Pak_memW hw O M W28
    exact w_return X28 D9_106 hk6 hj6 (⟨rfl, ad103, S103, E103, en103, ((en103 + 64 - 1) / 64), I103, jx103, by omega, by omega, ⟨by omega, by omega, by omega⟩, hcc, ⟨O28, M28⟩⟩)
-- CUT
theorem z_x1 : (fun _ : Nat => (0 : Int32)) = xI (fun _ => 1) := funext fun _ => (by decide : (0 : Int32) = Int32.ofNat 1 - 1)
theorem z_x0 : (fun _ : Nat => (-1 : Int32)) = xI (fun _ => 0) := funext fun _ => (by decide : (-1 : Int32) = Int32.ofNat 0 - 1)
def iniS (q0 q1 q2 b0 b1 b2 : Nat) : Nat → Nat → Nat := fun k => match k with | 5 => fun _ => 1 | 6 => upd (upd (upd (fun _ => 0) 0 (q0 / 64)) 1 (q1 / 64)) 2 (q2 / 64) | 7 => upd (upd (upd (fun _ => 0) 0 (q0 % 64)) 1 (q1 % 64)) 2 (q2 % 64) | 8 => upd (upd (upd (fun _ => 0) 0 b0) 1 b1) 2 b2 | 9 => upd (upd (upd (fun _ => 0) 0 b0) 1 b1) 2 b2 | _ => fun _ => 0
theorem iniS_at (q0 q1 q2 b0 b1 b2 : Nat) : (∀ k, k = 6 ∨ k = 7 ∨ k = 8 ∨ k = 9 → iniS q0 q1 q2 b0 b1 b2 k 0 = (if k = 6 then q0 / 64 else if k = 7 then q0 % 64 else b0) ∧ iniS q0 q1 q2 b0 b1 b2 k 1 = (if k = 6 then q1 / 64 else if k = 7 then q1 % 64 else b1) ∧ iniS q0 q1 q2 b0 b1 b2 k 2 = (if k = 6 then q2 / 64 else if k = 7 then q2 % 64 else b2)) := by
  intro k hk
  rcases hk with rfl | rfl | rfl | rfl <;> exact ⟨rfl, rfl, rfl⟩
theorem iniInv {q0 q1 q2 b0 b1 b2 : Nat} (h0 : 1 ≤ b0 ∧ b0 ≤ 31) (h1 : 1 ≤ b1 ∧ b1 ≤ 31) (h2 : 1 ≤ b2 ∧ b2 ≤ 31) (e0 : plc 0 b0 = q0) (e1 : plc (q0 + b0) b1 = q1) (e2 : plc (q1 + b1) b2 = q2) : Inv (iniS q0 q1 q2 b0 b1 b2) 0 (q2 + b2) := by
  have p0 := plc_spec 0 b0 h0.1 h0.2
  have p1 := plc_spec (q0 + b0) b1 h1.1 h1.2
  have p2 := plc_spec (q1 + b1) b2 h2.1 h2.2
  rw [e0] at p0; rw [e1] at p1; rw [e2] at p2
  have d0 := Nat.div_add_mod q0 64
  have d1 := Nat.div_add_mod q1 64
  have d2 := Nat.div_add_mod q2 64
  have F : ∀ i, i < 3 → fs (iniS q0 q1 q2 b0 b1 b2) i = i ∧ fl (iniS q0 q1 q2 b0 b1 b2) i = 0 ∧ fW (iniS q0 q1 q2 b0 b1 b2) i = iniS q0 q1 q2 b0 b1 b2 6 i ∧ fH (iniS q0 q1 q2 b0 b1 b2) i = iniS q0 q1 q2 b0 b1 b2 7 i ∧ fD (iniS q0 q1 q2 b0 b1 b2) i = iniS q0 q1 q2 b0 b1 b2 8 i := fun i hi => by
    unfold fs fl fW fH fD; simp only [if_pos hi, and_self]
  have V0 : iniS q0 q1 q2 b0 b1 b2 6 0 = q0 / 64 ∧ iniS q0 q1 q2 b0 b1 b2 7 0 = q0 % 64 ∧ iniS q0 q1 q2 b0 b1 b2 8 0 = b0 ∧ iniS q0 q1 q2 b0 b1 b2 9 0 = b0 := ⟨rfl, rfl, rfl, rfl⟩
  have V1 : iniS q0 q1 q2 b0 b1 b2 6 1 = q1 / 64 ∧ iniS q0 q1 q2 b0 b1 b2 7 1 = q1 % 64 ∧ iniS q0 q1 q2 b0 b1 b2 8 1 = b1 ∧ iniS q0 q1 q2 b0 b1 b2 9 1 = b1 := ⟨rfl, rfl, rfl, rfl⟩
  have V2 : iniS q0 q1 q2 b0 b1 b2 6 2 = q2 / 64 ∧ iniS q0 q1 q2 b0 b1 b2 7 2 = q2 % 64 ∧ iniS q0 q1 q2 b0 b1 b2 8 2 = b2 ∧ iniS q0 q1 q2 b0 b1 b2 9 2 = b2 := ⟨rfl, rfl, rfl, rfl⟩
  refine ⟨fun i hi => ?_, fun i j hij hj => ?_, fun s hs => ?_, ?_, fun s hs => Nat.zero_le _, fun k hk i hi => ?_, fun i hi => rfl⟩
  · obtain ⟨f0, f1, f2, f3, f4⟩ := F i hi
    rw [f0, f1, f2, f3, f4]
    have hc : i = 0 ∨ i = 1 ∨ i = 2 := by omega
    rcases hc with rfl | rfl | rfl <;> refine ⟨by decide, by omega, by omega, by omega, by omega, by omega⟩
  · obtain ⟨f0, f1, f2, f3, f4⟩ := F i (by omega)
    obtain ⟨g0, g1, g2, g3, g4⟩ := F j hj
    rw [f2, f3, f4, g2, g3]
    have hc : (i = 0 ∧ j = 1) ∨ (i = 0 ∧ j = 2) ∨ (i = 1 ∧ j = 2) := by omega
    rcases hc with ⟨rfl, rfl⟩ | ⟨rfl, rfl⟩ | ⟨rfl, rfl⟩ <;> omega
  · have hc : s = 0 ∨ s = 1 ∨ s = 2 := by omega
    obtain ⟨f0, f1, f2, f3, f4⟩ := F s hs
    refine ⟨?_, ?_, fun t ht => ⟨s, hs, f0, by rw [f1]; exact Nat.zero_le _, ?_⟩⟩
    · rcases hc with rfl | rfl | rfl <;> omega
    · rcases hc with rfl | rfl | rfl <;> omega
    · rw [f1, f4]; rcases hc with rfl | rfl | rfl <;> omega
  · omega
  · have hc : k = 0 ∨ k = 1 ∨ k = 2 ∨ k = 3 ∨ k = 4 := by omega
    rcases hc with rfl | rfl | rfl | rfl | rfl <;> rfl
theorem ef_2 (m : MethodId) (l0 : Addr) (a1 : Addr) : entryFrame m #[(.ref l0), (.ref a1)] 5 = mkF m 0 #[.val (.ref l0), .val (.ref a1), .unset, .unset, .unset] [] := by first | (simp [entryFrame, mkF, argsToLocals, Value.category]; done) | rfl
theorem pn_2 : plainName "com/example/tokenfold/tokenfold/statespace/Packing" = true := by first | (simp [plainName, overriddenIn]; done) | decide +kernel
set_option maxRecDepth 65536 in
set_option maxHeartbeats 40000000 in
theorem rmI {l : Launch} {Z : State} {a0 : Array Value} {n0 : Nat} {h : Heap} (hw : ∀ d ∈ tables_1, d.before a0 Z = true) (hn : n0 ≤ h.size) (l0 : Addr) (a1 : Addr) (cn : Nat → Nat) (Lt : List Ent) (ix : Nat) (hLt : Lt[ix]? = some (a1, .int, 3, bI (nI cn))) (hc : ∀ s, s < 3 → cn s < 2147483648) (O : Pak Z n0 h l0 .null .null .null .null .null .null .null .null .null .null .null .null (.int (Int32.ofNat 0)) (.long (Int64.ofNat 0)) (.int (Int32.ofNat 0))) (M : Mem Z n0 h Lt) :
    Ctr l Z n0 (⟨"com/example/tokenfold/tokenfold/statespace/Packing", "<init>", "([I)V"⟩ : MethodName) prog_60_method_1_code 5 none ({ frames := 2, cells := 12, slots := 18, locals := 30 } : Room) [] #[(.ref l0), (.ref a1)] h (fun v h' => v = none ∧ ∃ ad S en rw, Inv S 0 en ∧ (∀ s, S 10 s = 0 ∧ S 11 s = 0) ∧ (1 ≤ rw ∧ rw ≤ 3 ∧ en ≤ 64 * rw) ∧ PK Z n0 h' l0 ad S 0 (cp 0) en rw Lt) := by
  refine ctr_of (plainFor_of_name pn_2) hw hn ?_
  intro p e s m below meth c T X
  refine Wp.cast (ef_2 m l0 a1) ?_
  have hu0 := hc 0 (by decide)
  obtain ⟨u0, y0, -, -⟩ := bt_spec (cn 0) hu0
  have hu1 := hc 1 (by decide)
  obtain ⟨u1, y1, -, -⟩ := bt_spec (cn 1) hu1
  have hu2 := hc 2 (by decide)
  obtain ⟨u2, y2, -, -⟩ := bt_spec (cn 2) hu2
  refine w_aloadN X D2_0 rfl rfl ?_
  refine w_initO X D2_1 (hw _ (List.mem_of_getElem? (i := 13) rfl)) (hw _ (List.mem_of_getElem? (i := 14) rfl)) (hw _ (List.mem_of_getElem? (i := 15) rfl)) rfl (Nat.le_of_ble_eq_true rfl) (Nat.le_of_ble_eq_true rfl) (fun T201 X201 => ?_)
  refine w_aloadN X201 D2_4 rfl rfl ?_
  refine w_iconst X201 D2_5 (v := (0 : Int32)) rfl ?_
  refine w_newI X201 D2_6 (hw _ (List.mem_of_getElem? (i := 1) rfl)) 0 0 rfl (Nat.le_of_ble_eq_true rfl) (by decide) (Nat.le_of_ble_eq_true rfl) (Nat.le_of_ble_eq_true rfl) (fun T202 h202 a202 X202 g202 E202 B202 => ?_)
  have O_E202 := O.ext E202
  have M202 := M.cons (g := bI (nI (fun _ => 0))) E202 (Nat.le_of_eq g202.symm) B202
  refine w_putF X202 D2_8 (hw _ (List.mem_of_getElem? (i := 16) rfl)) O_E202.2.2.1 O_E202.2.1 O_E202.1 (Or.inl (hw _ (List.mem_of_getElem? (i := 17) rfl))) (hw _ (List.mem_of_getElem? (i := 8) rfl)) (ty := (.array .int)) (by decide) rfl rfl (fun T203 h203 X203 W203 => ?_)
  have O203 := O_E202.put_extraSlots hw W203
  have M203 := Pak_memW hw O_E202 M202 W203
  refine w_aloadN X203 D2_11 rfl rfl ?_
  refine w_iconst X203 D2_12 (v := (0 : Int32)) rfl ?_
  refine w_newI X203 D2_13 (hw _ (List.mem_of_getElem? (i := 1) rfl)) 0 0 rfl (Nat.le_of_ble_eq_true rfl) (by decide) (Nat.le_of_ble_eq_true rfl) (Nat.le_of_ble_eq_true rfl) (fun T204 h204 a204 X204 g204 E204 B204 => ?_)
  have O203_E204 := O203.ext E204
  have M204 := M203.cons (g := bI (nI (fun _ => 0))) E204 (Nat.le_of_eq g204.symm) B204
  refine w_putF X204 D2_15 (hw _ (List.mem_of_getElem? (i := 18) rfl)) O203_E204.2.2.2.1 O203_E204.2.1 O203_E204.1 (Or.inl (hw _ (List.mem_of_getElem? (i := 19) rfl))) (hw _ (List.mem_of_getElem? (i := 8) rfl)) (ty := (.array .int)) (by decide) rfl rfl (fun T205 h205 X205 W205 => ?_)
  have O205 := O203_E204.put_extraWords hw W205
  have M205 := Pak_memW hw O203_E204 M204 W205
  refine w_aloadN X205 D2_18 rfl rfl ?_
  refine w_iconst X205 D2_19 (v := (0 : Int32)) rfl ?_
  refine w_newI X205 D2_20 (hw _ (List.mem_of_getElem? (i := 1) rfl)) 0 0 rfl (Nat.le_of_ble_eq_true rfl) (by decide) (Nat.le_of_ble_eq_true rfl) (Nat.le_of_ble_eq_true rfl) (fun T206 h206 a206 X206 g206 E206 B206 => ?_)
  have O205_E206 := O205.ext E206
  have M206 := M205.cons (g := bI (nI (fun _ => 0))) E206 (Nat.le_of_eq g206.symm) B206
  refine w_putF X206 D2_22 (hw _ (List.mem_of_getElem? (i := 20) rfl)) O205_E206.2.2.2.2.1 O205_E206.2.1 O205_E206.1 (Or.inl (hw _ (List.mem_of_getElem? (i := 21) rfl))) (hw _ (List.mem_of_getElem? (i := 8) rfl)) (ty := (.array .int)) (by decide) rfl rfl (fun T207 h207 X207 W207 => ?_)
  have O207 := O205_E206.put_extraShifts hw W207
  have M207 := Pak_memW hw O205_E206 M206 W207
  refine w_aloadN X207 D2_25 rfl rfl ?_
  refine w_iconst X207 D2_26 (v := (0 : Int32)) rfl ?_
  refine w_newI X207 D2_27 (hw _ (List.mem_of_getElem? (i := 1) rfl)) 0 0 rfl (Nat.le_of_ble_eq_true rfl) (by decide) (Nat.le_of_ble_eq_true rfl) (Nat.le_of_ble_eq_true rfl) (fun T208 h208 a208 X208 g208 E208 B208 => ?_)
  have O207_E208 := O207.ext E208
  have M208 := M207.cons (g := bI (nI (fun _ => 0))) E208 (Nat.le_of_eq g208.symm) B208
  refine w_putF X208 D2_29 (hw _ (List.mem_of_getElem? (i := 22) rfl)) O207_E208.2.2.2.2.2.1 O207_E208.2.1 O207_E208.1 (Or.inl (hw _ (List.mem_of_getElem? (i := 23) rfl))) (hw _ (List.mem_of_getElem? (i := 8) rfl)) (ty := (.array .int)) (by decide) rfl rfl (fun T209 h209 X209 W209 => ?_)
  have O209 := O207_E208.put_extraLows hw W209
  have M209 := Pak_memW hw O207_E208 M208 W209
  refine w_aloadN X209 D2_32 rfl rfl ?_
  refine w_iconst X209 D2_33 (v := (0 : Int32)) rfl ?_
  refine w_newJ X209 D2_34 (hw _ (List.mem_of_getElem? (i := 6) rfl)) 0 0 rfl (Nat.le_of_ble_eq_true rfl) (by decide) (Nat.le_of_ble_eq_true rfl) (Nat.le_of_ble_eq_true rfl) (fun T210 h210 a210 X210 g210 E210 B210 => ?_)
  have O209_E210 := O209.ext E210
  have M210 := M209.cons (g := bJ (mJ (fun _ => 0))) E210 (Nat.le_of_eq g210.symm) B210
  refine w_putF X210 D2_36 (hw _ (List.mem_of_getElem? (i := 24) rfl)) O209_E210.2.2.2.2.2.2.1 O209_E210.2.1 O209_E210.1 (Or.inl (hw _ (List.mem_of_getElem? (i := 25) rfl))) (hw _ (List.mem_of_getElem? (i := 8) rfl)) (ty := (.array .long)) (by decide) rfl rfl (fun T211 h211 X211 W211 => ?_)
  have O211 := O209_E210.put_extraMasks hw W211
  have M211 := Pak_memW hw O209_E210 M210 W211
  refine w_aloadN X211 D2_39 rfl rfl ?_
  refine w_iconst X211 D2_40 (v := (0 : Int32)) rfl ?_
  refine w_newI X211 D2_41 (hw _ (List.mem_of_getElem? (i := 1) rfl)) 0 0 rfl (Nat.le_of_ble_eq_true rfl) (by decide) (Nat.le_of_ble_eq_true rfl) (Nat.le_of_ble_eq_true rfl) (fun T212 h212 a212 X212 g212 E212 B212 => ?_)
  have O211_E212 := O211.ext E212
  rw [z_x1] at B212
  have M212 := M211.cons (g := bI (xI (fun _ => 1))) E212 (Nat.le_of_eq g212.symm) B212
  refine w_putF X212 D2_43 (hw _ (List.mem_of_getElem? (i := 26) rfl)) O211_E212.2.2.2.2.2.2.2.1 O211_E212.2.1 O211_E212.1 (Or.inl (hw _ (List.mem_of_getElem? (i := 27) rfl))) (hw _ (List.mem_of_getElem? (i := 8) rfl)) (ty := (.array .int)) (by decide) rfl rfl (fun T213 h213 X213 W213 => ?_)
  have O213 := O211_E212.put_nextExtras hw W213
  have M213 := Pak_memW hw O211_E212 M212 W213
  refine w_aloadN X213 D2_46 rfl rfl ?_
  refine w_arraylength X213 D2_47 (M213.at (ix + 6) hLt) ?_
  refine w_istoreN X213 D2_48 (l' := #[.val (.ref l0), .val (.ref a1), .val (.int (Int32.ofNat 3)), .unset, .unset]) rfl ?_
  refine w_aloadN X213 D2_49 rfl rfl ?_
  refine w_iloadN X213 D2_50 rfl ?_
  refine w_newI X213 D2_51 (hw _ (List.mem_of_getElem? (i := 1) rfl)) 3 3 rfl (Nat.le_of_ble_eq_true rfl) (by decide) (Nat.le_of_ble_eq_true rfl) (Nat.le_of_ble_eq_true rfl) (fun T214 h214 a214 X214 g214 E214 B214 => ?_)
  have O213_E214 := O213.ext E214
  have M214 := M213.cons (g := bI (nI (fun _ => 0))) E214 (Nat.le_of_eq g214.symm) B214
  refine w_putF X214 D2_53 (hw _ (List.mem_of_getElem? (i := 28) rfl)) O213_E214.2.2.2.2.2.2.2.2.1 O213_E214.2.1 O213_E214.1 (Or.inr ⟨(hw _ (List.mem_of_getElem? (i := 29) rfl)), rfl, rfl⟩) (hw _ (List.mem_of_getElem? (i := 8) rfl)) (ty := (.array .int)) (by decide) rfl rfl (fun T215 h215 X215 W215 => ?_)
  have O215 := O213_E214.put_words hw W215
  have M215 := Pak_memW hw O213_E214 M214 W215
  refine w_aloadN X215 D2_56 rfl rfl ?_
  refine w_iloadN X215 D2_57 rfl ?_
  refine w_newI X215 D2_58 (hw _ (List.mem_of_getElem? (i := 1) rfl)) 3 3 rfl (Nat.le_of_ble_eq_true rfl) (by decide) (Nat.le_of_ble_eq_true rfl) (Nat.le_of_ble_eq_true rfl) (fun T216 h216 a216 X216 g216 E216 B216 => ?_)
  have O215_E216 := O215.ext E216
  have M216 := M215.cons (g := bI (nI (fun _ => 0))) E216 (Nat.le_of_eq g216.symm) B216
  refine w_putF X216 D2_60 (hw _ (List.mem_of_getElem? (i := 30) rfl)) O215_E216.2.2.2.2.2.2.2.2.2.1 O215_E216.2.1 O215_E216.1 (Or.inr ⟨(hw _ (List.mem_of_getElem? (i := 31) rfl)), rfl, rfl⟩) (hw _ (List.mem_of_getElem? (i := 8) rfl)) (ty := (.array .int)) (by decide) rfl rfl (fun T217 h217 X217 W217 => ?_)
  have O217 := O215_E216.put_shifts hw W217
  have M217 := Pak_memW hw O215_E216 M216 W217
  refine w_aloadN X217 D2_63 rfl rfl ?_
  refine w_iloadN X217 D2_64 rfl ?_
  refine w_newJ X217 D2_65 (hw _ (List.mem_of_getElem? (i := 6) rfl)) 3 3 rfl (Nat.le_of_ble_eq_true rfl) (by decide) (Nat.le_of_ble_eq_true rfl) (Nat.le_of_ble_eq_true rfl) (fun T218 h218 a218 X218 g218 E218 B218 => ?_)
  have O217_E218 := O217.ext E218
  have M218 := M217.cons (g := bJ (mJ (fun _ => 0))) E218 (Nat.le_of_eq g218.symm) B218
  refine w_putF X218 D2_67 (hw _ (List.mem_of_getElem? (i := 32) rfl)) O217_E218.2.2.2.2.2.2.2.2.2.2.1 O217_E218.2.1 O217_E218.1 (Or.inr ⟨(hw _ (List.mem_of_getElem? (i := 33) rfl)), rfl, rfl⟩) (hw _ (List.mem_of_getElem? (i := 8) rfl)) (ty := (.array .long)) (by decide) rfl rfl (fun T219 h219 X219 W219 => ?_)
  have O219 := O217_E218.put_masks hw W219
  have M219 := Pak_memW hw O217_E218 M218 W219
  refine w_aloadN X219 D2_70 rfl rfl ?_
  refine w_iloadN X219 D2_71 rfl ?_
  refine w_newI X219 D2_72 (hw _ (List.mem_of_getElem? (i := 1) rfl)) 3 3 rfl (Nat.le_of_ble_eq_true rfl) (by decide) (Nat.le_of_ble_eq_true rfl) (Nat.le_of_ble_eq_true rfl) (fun T220 h220 a220 X220 g220 E220 B220 => ?_)
  have O219_E220 := O219.ext E220
  have M220 := M219.cons (g := bI (nI (fun _ => 0))) E220 (Nat.le_of_eq g220.symm) B220
  refine w_putF X220 D2_74 (hw _ (List.mem_of_getElem? (i := 34) rfl)) O219_E220.2.2.2.2.2.2.2.2.2.2.2.1 O219_E220.2.1 O219_E220.1 (Or.inr ⟨(hw _ (List.mem_of_getElem? (i := 35) rfl)), rfl, rfl⟩) (hw _ (List.mem_of_getElem? (i := 8) rfl)) (ty := (.array .int)) (by decide) rfl rfl (fun T221 h221 X221 W221 => ?_)
  have O221 := O219_E220.put_widths hw W221
  have M221 := Pak_memW hw O219_E220 M220 W221
  refine w_aloadN X221 D2_77 rfl rfl ?_
  refine w_iloadN X221 D2_78 rfl ?_
  refine w_newI X221 D2_79 (hw _ (List.mem_of_getElem? (i := 1) rfl)) 3 3 rfl (Nat.le_of_ble_eq_true rfl) (by decide) (Nat.le_of_ble_eq_true rfl) (Nat.le_of_ble_eq_true rfl) (fun T222 h222 a222 X222 g222 E222 B222 => ?_)
  have O221_E222 := O221.ext E222
  rw [z_x1] at B222
  have M222 := M221.cons (g := bI (xI (fun _ => 1))) E222 (Nat.le_of_eq g222.symm) B222
  refine w_putF X222 D2_81 (hw _ (List.mem_of_getElem? (i := 36) rfl)) O221_E222.2.2.2.2.2.2.2.2.2.2.2.2.1 O221_E222.2.1 O221_E222.1 (Or.inr ⟨(hw _ (List.mem_of_getElem? (i := 37) rfl)), rfl, rfl⟩) (hw _ (List.mem_of_getElem? (i := 8) rfl)) (ty := (.array .int)) (by decide) rfl rfl (fun T223 h223 X223 W223 => ?_)
  have O223 := O221_E222.put_firstExtras hw W223
  have M223 := Pak_memW hw O221_E222 M222 W223
  refine w_aloadN X223 D2_84 rfl rfl ?_
  refine w_iloadN X223 D2_85 rfl ?_
  refine w_newI X223 D2_86 (hw _ (List.mem_of_getElem? (i := 1) rfl)) 3 3 rfl (Nat.le_of_ble_eq_true rfl) (by decide) (Nat.le_of_ble_eq_true rfl) (Nat.le_of_ble_eq_true rfl) (fun T224 h224 a224 X224 g224 E224 B224 => ?_)
  have O223_E224 := O223.ext E224
  rw [z_x1] at B224
  have M224 := M223.cons (g := bI (xI (fun _ => 1))) E224 (Nat.le_of_eq g224.symm) B224
  refine w_putF X224 D2_88 (hw _ (List.mem_of_getElem? (i := 38) rfl)) O223_E224.2.2.2.2.2.2.2.2.2.2.2.2.2.1 O223_E224.2.1 O223_E224.1 (Or.inr ⟨(hw _ (List.mem_of_getElem? (i := 39) rfl)), rfl, rfl⟩) (hw _ (List.mem_of_getElem? (i := 8) rfl)) (ty := (.array .int)) (by decide) rfl rfl (fun T225 h225 X225 W225 => ?_)
  have O225 := O223_E224.put_lastExtras hw W225
  have M225 := Pak_memW hw O223_E224 M224 W225
  refine w_aloadN X225 D2_91 rfl rfl ?_
  refine w_getF X225 D2_92 (hw _ (List.mem_of_getElem? (i := 36) rfl)) O225.2.2.2.2.2.2.2.2.2.2.2.2.1 (fun T226 X226 => ?_)
  refine w_iconst X226 D2_95 (v := (-1 : Int32)) rfl ?_
  refine w_static X226 D2_96 (rmF hw X226.sz a222 _ (xI (fun _ => 1)) (M225.at 1 rfl)) (hw _ (List.mem_of_getElem? (i := 40) rfl)) (hw _ (List.mem_of_getElem? (i := 41) rfl)) (hw _ (List.mem_of_getElem? (i := 42) rfl)) (hw _ (List.mem_of_getElem? (i := 43) rfl)) (by decide) pd_8 rfl (S := []) rfl rfl (Nat.le_of_ble_eq_true rfl) (Nat.le_of_ble_eq_true rfl) (Nat.le_of_ble_eq_true rfl) (Nat.le_of_ble_eq_true rfl) (fun v227 T227 h227 X227 q227 => ?_)
  obtain ⟨rfl, K227, B227⟩ := q227
  rw [z_x0] at B227
  have O227 := O225.keepB hw (M225.at 1 rfl) K227
  have M227 := M225.st (g' := bI (xI (fun _ => 0))) 1 rfl K227 B227
  show Wp _ _ _ _ _ _ _ _ (mkF m 99 #[.val (.ref l0), .val (.ref a1), .val (.int (Int32.ofNat 3)), .unset, .unset] [])
  refine w_aloadN X227 D2_99 rfl rfl ?_
  refine w_getF X227 D2_100 (hw _ (List.mem_of_getElem? (i := 38) rfl)) O227.2.2.2.2.2.2.2.2.2.2.2.2.2.1 (fun T228 X228 => ?_)
  refine w_iconst X228 D2_103 (v := (-1 : Int32)) rfl ?_
  refine w_static X228 D2_104 (rmF hw X228.sz a224 _ (xI (fun _ => 1)) (M227.at 0 rfl)) (hw _ (List.mem_of_getElem? (i := 40) rfl)) (hw _ (List.mem_of_getElem? (i := 41) rfl)) (hw _ (List.mem_of_getElem? (i := 42) rfl)) (hw _ (List.mem_of_getElem? (i := 43) rfl)) (by decide) pd_8 rfl (S := []) rfl rfl (Nat.le_of_ble_eq_true rfl) (Nat.le_of_ble_eq_true rfl) (Nat.le_of_ble_eq_true rfl) (Nat.le_of_ble_eq_true rfl) (fun v229 T229 h229 X229 q229 => ?_)
  obtain ⟨rfl, K229, B229⟩ := q229
  rw [z_x0] at B229
  have O229 := O227.keepB hw (M227.at 0 rfl) K229
  have M229 := M227.st (g' := bI (xI (fun _ => 0))) 0 rfl K229 B229
  show Wp _ _ _ _ _ _ _ _ (mkF m 107 #[.val (.ref l0), .val (.ref a1), .val (.int (Int32.ofNat 3)), .unset, .unset] [])
  refine w_iconst X229 D2_107 (v := (0 : Int32)) rfl ?_
  refine w_istoreN X229 D2_108 (l' := #[.val (.ref l0), .val (.ref a1), .val (.int (Int32.ofNat 3)), .val (.int (0 : Int32)), .unset]) rfl ?_
  refine w_iloadN X229 D2_109 rfl ?_
  refine w_iloadN X229 D2_110 rfl ?_
  refine w_icmpge X229 D2_111 (fun hc111 => by exact absurd (by decide) hc111) (fun hc111 => ?_)
  refine w_aloadN X229 D2_114 rfl rfl ?_
  refine w_iloadN X229 D2_115 rfl ?_
  refine w_iaload X229 D2_116 (M229.at (ix + 12) hLt) 0 rfl (by decide) ?_
  show Wp _ _ _ _ _ _ _ _ (mkF m 117 #[.val (.ref l0), .val (.ref a1), .val (.int (Int32.ofNat 3)), .val (.int (0 : Int32)), .unset] [(.int (Int32.ofNat (cn 0)))])
  refine w_static X229 D2_117 (rmB hw X229.sz _ (cn 0) hu0 rfl) (hw _ (List.mem_of_getElem? (i := 44) rfl)) (hw _ (List.mem_of_getElem? (i := 45) rfl)) (hw _ (List.mem_of_getElem? (i := 9) rfl)) (hw _ (List.mem_of_getElem? (i := 46) rfl)) (by decide) pd_0 rfl (S := []) rfl rfl (Nat.le_of_ble_eq_true rfl) (Nat.le_of_ble_eq_true rfl) (Nat.le_of_ble_eq_true rfl) (Nat.le_of_ble_eq_true rfl) (fun v230 T230 h230 X230 q230 => ?_)
  obtain ⟨rfl, rfl⟩ := q230
  show Wp _ _ _ _ _ _ _ _ (mkF m 120 #[.val (.ref l0), .val (.ref a1), .val (.int (Int32.ofNat 3)), .val (.int (0 : Int32)), .unset] [(.int (Int32.ofNat (bt (cn 0))))])
  refine w_istore X230 D2_120 (l' := #[.val (.ref l0), .val (.ref a1), .val (.int (Int32.ofNat 3)), .val (.int (0 : Int32)), .val (.int (Int32.ofNat (bt (cn 0))))]) rfl ?_
  refine w_aloadN X230 D2_122 rfl rfl ?_
  refine w_iload X230 D2_123 rfl ?_
  refine w_private (z0 := ({ cls := "com/example/tokenfold/tokenfold/statespace/Packing", name := "widen", desc := "([I)V" } : Jvm.MethodName)) X230 D2_125 (rmP hw X230.sz l0 _ _ _ _ _ _ _ _ _ _ _ _ _ _ _ 0 (bt (cn 0)) rfl (by omega) (by omega) O229) O229.2.1 (hw _ (List.mem_of_getElem? (i := 56) rfl)) (hw _ (List.mem_of_getElem? (i := 57) rfl)) (hw _ (List.mem_of_getElem? (i := 58) rfl)) (hw _ (List.mem_of_getElem? (i := 68) rfl)) rfl (hw _ (List.mem_of_getElem? (i := 9) rfl)) (hw _ (List.mem_of_getElem? (i := 59) rfl)) (by decide) pd_2 rfl (S := []) rfl rfl (Nat.le_of_ble_eq_true rfl) (Nat.le_of_ble_eq_true rfl) (Nat.le_of_ble_eq_true rfl) (Nat.le_of_ble_eq_true rfl) (fun v231 T231 h231 X231 q231 => ?_)
  obtain ⟨rfl, K231, O231⟩ := q231
  have M231 := Pak_memK hw O229 M229 K231
  show Wp _ _ _ _ _ _ _ _ (mkF m 128 #[.val (.ref l0), .val (.ref a1), .val (.int (Int32.ofNat 3)), .val (.int (0 : Int32)), .val (.int (Int32.ofNat (bt (cn 0))))] [])
  obtain ⟨qq0, hq0⟩ : ∃ q, plc 0 (bt (cn 0)) = q := ⟨_, rfl⟩
  have pp0 := plc_spec 0 (bt (cn 0)) u0 y0
  rw [hq0] at O231 pp0
  refine w_aloadN X231 D2_128 rfl rfl ?_
  refine w_getF X231 D2_129 (hw _ (List.mem_of_getElem? (i := 28) rfl)) O231.2.2.2.2.2.2.2.2.1 (fun T232 X232 => ?_)
  refine w_iloadN X232 D2_132 rfl ?_
  refine w_aloadN X232 D2_133 rfl rfl ?_
  refine w_getF X232 D2_134 (hw _ (List.mem_of_getElem? (i := 60) rfl)) O231.2.2.2.2.2.2.2.2.2.2.2.2.2.2.2.1 (fun T233 X233 => ?_)
  refine w_ldc2 X233 D2_137 (hw _ (List.mem_of_getElem? (i := 62) rfl)) ?_
  refine w_ldiv X233 D2_140 (by decide) ?_
  rw [show Int64.ofNat (qq0) / 64 = Int64.ofNat ((qq0) / 64) from nL_div (k := 64) (by omega) (by decide) (by decide)]
  refine w_l2i X233 D2_141 ?_
  rw [n_l2i]
  refine w_iastore X233 D2_142 (M231.at 5 rfl) 0 rfl (by decide) (fun T234 h234 X234 K234 B234 => ?_)
  rw [upd_nI] at B234
  have O231_K234 := O231.keepB hw (M231.at 5 rfl) K234
  have M234 := M231.st 5 rfl K234 B234
  refine w_aloadN X234 D2_143 rfl rfl ?_
  refine w_getF X234 D2_144 (hw _ (List.mem_of_getElem? (i := 30) rfl)) O231_K234.2.2.2.2.2.2.2.2.2.1 (fun T235 X235 => ?_)
  refine w_iloadN X235 D2_147 rfl ?_
  refine w_aloadN X235 D2_148 rfl rfl ?_
  refine w_getF X235 D2_149 (hw _ (List.mem_of_getElem? (i := 60) rfl)) O231_K234.2.2.2.2.2.2.2.2.2.2.2.2.2.2.2.1 (fun T236 X236 => ?_)
  refine w_ldc2 X236 D2_152 (hw _ (List.mem_of_getElem? (i := 62) rfl)) ?_
  refine w_lrem X236 D2_155 (by decide) ?_
  rw [show Int64.ofNat (qq0) - (Int64.ofNat (qq0) / 64) * 64 = Int64.ofNat ((qq0) % 64) from nL_rem (k := 64) (by omega) (by decide) (by decide)]
  refine w_l2i X236 D2_156 ?_
  rw [n_l2i]
  refine w_iastore X236 D2_157 (M234.at 4 rfl) 0 rfl (by decide) (fun T237 h237 X237 K237 B237 => ?_)
  rw [upd_nI] at B237
  have O231_K237 := O231_K234.keepB hw (M234.at 4 rfl) K237
  have M237 := M234.st 4 rfl K237 B237
  refine w_aloadN X237 D2_158 rfl rfl ?_
  refine w_getF X237 D2_159 (hw _ (List.mem_of_getElem? (i := 32) rfl)) O231_K237.2.2.2.2.2.2.2.2.2.2.1 (fun T238 X238 => ?_)
  refine w_iloadN X238 D2_162 rfl ?_
  refine w_lconst1 X238 D2_163 ?_
  refine w_iload X238 D2_164 rfl ?_
  refine w_lshl X238 D2_166 ?_
  refine w_lconst1 X238 D2_167 ?_
  refine w_lsub X238 D2_168 ?_
  rw [own_mask (b := bt (cn 0)) (by omega)]
  refine w_lastore X238 D2_169 (M237.at 3 rfl) 0 rfl (by decide) (fun T239 h239 X239 K239 B239 => ?_)
  rw [upd_mJ] at B239
  have O231_K239 := O231_K237.keepB hw (M237.at 3 rfl) K239
  have M239 := M237.st 3 rfl K239 B239
  refine w_aloadN X239 D2_170 rfl rfl ?_
  refine w_getF X239 D2_171 (hw _ (List.mem_of_getElem? (i := 34) rfl)) O231_K239.2.2.2.2.2.2.2.2.2.2.2.1 (fun T240 X240 => ?_)
  refine w_iloadN X240 D2_174 rfl ?_
  refine w_iload X240 D2_175 rfl ?_
  refine w_iastore X240 D2_177 (M239.at 2 rfl) 0 rfl (by decide) (fun T241 h241 X241 K241 B241 => ?_)
  rw [upd_nI] at B241
  have O231_K241 := O231_K239.keepB hw (M239.at 2 rfl) K241
  have M241 := M239.st 2 rfl K241 B241
  refine w_aloadN X241 D2_178 rfl rfl ?_
  refine w_dup X241 D2_179 rfl ?_
  refine w_getF X241 D2_180 (hw _ (List.mem_of_getElem? (i := 60) rfl)) O231_K241.2.2.2.2.2.2.2.2.2.2.2.2.2.2.2.1 (fun T242 X242 => ?_)
  refine w_iload X242 D2_183 rfl ?_
  refine w_i2l X242 D2_185 ?_
  rw [n_i2l (show bt (cn 0) < 2147483648 by omega)]
  refine w_ladd X242 D2_186 ?_
  rw [nL_add]
  refine w_putF X242 D2_187 (hw _ (List.mem_of_getElem? (i := 60) rfl)) O231_K241.2.2.2.2.2.2.2.2.2.2.2.2.2.2.2.1 O231_K241.2.1 O231_K241.1 (Or.inl (hw _ (List.mem_of_getElem? (i := 61) rfl))) (hw _ (List.mem_of_getElem? (i := 8) rfl)) (ty := .long) (by decide) rfl rfl (fun T243 h243 X243 W243 => ?_)
  have O243 := O231_K241.put_end hw W243
  have M243 := Pak_memW hw O231_K241 M241 W243
  refine w_iinc X243 D2_190 (d := (1 : Int32)) (r := (1 : Int32)) (l' := #[.val (.ref l0), .val (.ref a1), .val (.int (Int32.ofNat 3)), .val (.int (1 : Int32)), .val (.int (Int32.ofNat (bt (cn 0))))]) rfl rfl (by decide) rfl ?_
  refine w_goto X243 D2_193 ?_
  refine w_iloadN X243 D2_109 rfl ?_
  refine w_iloadN X243 D2_110 rfl ?_
  refine w_icmpge X243 D2_111 (fun hc111 => by exact absurd (by decide) hc111) (fun hc111 => ?_)
  refine w_aloadN X243 D2_114 rfl rfl ?_
  refine w_iloadN X243 D2_115 rfl ?_
  refine w_iaload X243 D2_116 (M243.at (ix + 12) hLt) 1 rfl (by decide) ?_
  show Wp _ _ _ _ _ _ _ _ (mkF m 117 #[.val (.ref l0), .val (.ref a1), .val (.int (Int32.ofNat 3)), .val (.int (1 : Int32)), .val (.int (Int32.ofNat (bt (cn 0))))] [(.int (Int32.ofNat (cn 1)))])
  refine w_static X243 D2_117 (rmB hw X243.sz _ (cn 1) hu1 rfl) (hw _ (List.mem_of_getElem? (i := 44) rfl)) (hw _ (List.mem_of_getElem? (i := 45) rfl)) (hw _ (List.mem_of_getElem? (i := 9) rfl)) (hw _ (List.mem_of_getElem? (i := 46) rfl)) (by decide) pd_0 rfl (S := []) rfl rfl (Nat.le_of_ble_eq_true rfl) (Nat.le_of_ble_eq_true rfl) (Nat.le_of_ble_eq_true rfl) (Nat.le_of_ble_eq_true rfl) (fun v244 T244 h244 X244 q244 => ?_)
  obtain ⟨rfl, rfl⟩ := q244
  show Wp _ _ _ _ _ _ _ _ (mkF m 120 #[.val (.ref l0), .val (.ref a1), .val (.int (Int32.ofNat 3)), .val (.int (1 : Int32)), .val (.int (Int32.ofNat (bt (cn 0))))] [(.int (Int32.ofNat (bt (cn 1))))])
  refine w_istore X244 D2_120 (l' := #[.val (.ref l0), .val (.ref a1), .val (.int (Int32.ofNat 3)), .val (.int (1 : Int32)), .val (.int (Int32.ofNat (bt (cn 1))))]) rfl ?_
  refine w_aloadN X244 D2_122 rfl rfl ?_
  refine w_iload X244 D2_123 rfl ?_
  refine w_private (z0 := ({ cls := "com/example/tokenfold/tokenfold/statespace/Packing", name := "widen", desc := "([I)V" } : Jvm.MethodName)) X244 D2_125 (rmP hw X244.sz l0 _ _ _ _ _ _ _ _ _ _ _ _ _ _ _ (qq0 + bt (cn 0)) (bt (cn 1)) rfl (by omega) (by omega) O243) O243.2.1 (hw _ (List.mem_of_getElem? (i := 56) rfl)) (hw _ (List.mem_of_getElem? (i := 57) rfl)) (hw _ (List.mem_of_getElem? (i := 58) rfl)) (hw _ (List.mem_of_getElem? (i := 68) rfl)) rfl (hw _ (List.mem_of_getElem? (i := 9) rfl)) (hw _ (List.mem_of_getElem? (i := 59) rfl)) (by decide) pd_2 rfl (S := []) rfl rfl (Nat.le_of_ble_eq_true rfl) (Nat.le_of_ble_eq_true rfl) (Nat.le_of_ble_eq_true rfl) (Nat.le_of_ble_eq_true rfl) (fun v245 T245 h245 X245 q245 => ?_)
  obtain ⟨rfl, K245, O245⟩ := q245
  have M245 := Pak_memK hw O243 M243 K245
  show Wp _ _ _ _ _ _ _ _ (mkF m 128 #[.val (.ref l0), .val (.ref a1), .val (.int (Int32.ofNat 3)), .val (.int (1 : Int32)), .val (.int (Int32.ofNat (bt (cn 1))))] [])
  obtain ⟨qq1, hq1⟩ : ∃ q, plc (qq0 + bt (cn 0)) (bt (cn 1)) = q := ⟨_, rfl⟩
  have pp1 := plc_spec (qq0 + bt (cn 0)) (bt (cn 1)) u1 y1
  rw [hq1] at O245 pp1
  refine w_aloadN X245 D2_128 rfl rfl ?_
  refine w_getF X245 D2_129 (hw _ (List.mem_of_getElem? (i := 28) rfl)) O245.2.2.2.2.2.2.2.2.1 (fun T246 X246 => ?_)
  refine w_iloadN X246 D2_132 rfl ?_
  refine w_aloadN X246 D2_133 rfl rfl ?_
  refine w_getF X246 D2_134 (hw _ (List.mem_of_getElem? (i := 60) rfl)) O245.2.2.2.2.2.2.2.2.2.2.2.2.2.2.2.1 (fun T247 X247 => ?_)
  refine w_ldc2 X247 D2_137 (hw _ (List.mem_of_getElem? (i := 62) rfl)) ?_
  refine w_ldiv X247 D2_140 (by decide) ?_
  rw [show Int64.ofNat (qq1) / 64 = Int64.ofNat ((qq1) / 64) from nL_div (k := 64) (by omega) (by decide) (by decide)]
  refine w_l2i X247 D2_141 ?_
  rw [n_l2i]
  refine w_iastore X247 D2_142 (M245.at 5 rfl) 1 rfl (by decide) (fun T248 h248 X248 K248 B248 => ?_)
  rw [upd_nI] at B248
  have O245_K248 := O245.keepB hw (M245.at 5 rfl) K248
  have M248 := M245.st 5 rfl K248 B248
  refine w_aloadN X248 D2_143 rfl rfl ?_
  refine w_getF X248 D2_144 (hw _ (List.mem_of_getElem? (i := 30) rfl)) O245_K248.2.2.2.2.2.2.2.2.2.1 (fun T249 X249 => ?_)
  refine w_iloadN X249 D2_147 rfl ?_
  refine w_aloadN X249 D2_148 rfl rfl ?_
  refine w_getF X249 D2_149 (hw _ (List.mem_of_getElem? (i := 60) rfl)) O245_K248.2.2.2.2.2.2.2.2.2.2.2.2.2.2.2.1 (fun T250 X250 => ?_)
  refine w_ldc2 X250 D2_152 (hw _ (List.mem_of_getElem? (i := 62) rfl)) ?_
  refine w_lrem X250 D2_155 (by decide) ?_
  rw [show Int64.ofNat (qq1) - (Int64.ofNat (qq1) / 64) * 64 = Int64.ofNat ((qq1) % 64) from nL_rem (k := 64) (by omega) (by decide) (by decide)]
  refine w_l2i X250 D2_156 ?_
  rw [n_l2i]
  refine w_iastore X250 D2_157 (M248.at 4 rfl) 1 rfl (by decide) (fun T251 h251 X251 K251 B251 => ?_)
  rw [upd_nI] at B251
  have O245_K251 := O245_K248.keepB hw (M248.at 4 rfl) K251
  have M251 := M248.st 4 rfl K251 B251
  refine w_aloadN X251 D2_158 rfl rfl ?_
  refine w_getF X251 D2_159 (hw _ (List.mem_of_getElem? (i := 32) rfl)) O245_K251.2.2.2.2.2.2.2.2.2.2.1 (fun T252 X252 => ?_)
  refine w_iloadN X252 D2_162 rfl ?_
  refine w_lconst1 X252 D2_163 ?_
  refine w_iload X252 D2_164 rfl ?_
  refine w_lshl X252 D2_166 ?_
  refine w_lconst1 X252 D2_167 ?_
  refine w_lsub X252 D2_168 ?_
  rw [own_mask (b := bt (cn 1)) (by omega)]
  refine w_lastore X252 D2_169 (M251.at 3 rfl) 1 rfl (by decide) (fun T253 h253 X253 K253 B253 => ?_)
  rw [upd_mJ] at B253
  have O245_K253 := O245_K251.keepB hw (M251.at 3 rfl) K253
  have M253 := M251.st 3 rfl K253 B253
  refine w_aloadN X253 D2_170 rfl rfl ?_
  refine w_getF X253 D2_171 (hw _ (List.mem_of_getElem? (i := 34) rfl)) O245_K253.2.2.2.2.2.2.2.2.2.2.2.1 (fun T254 X254 => ?_)
  refine w_iloadN X254 D2_174 rfl ?_
  refine w_iload X254 D2_175 rfl ?_
  refine w_iastore X254 D2_177 (M253.at 2 rfl) 1 rfl (by decide) (fun T255 h255 X255 K255 B255 => ?_)
  rw [upd_nI] at B255
  have O245_K255 := O245_K253.keepB hw (M253.at 2 rfl) K255
  have M255 := M253.st 2 rfl K255 B255
  refine w_aloadN X255 D2_178 rfl rfl ?_
  refine w_dup X255 D2_179 rfl ?_
  refine w_getF X255 D2_180 (hw _ (List.mem_of_getElem? (i := 60) rfl)) O245_K255.2.2.2.2.2.2.2.2.2.2.2.2.2.2.2.1 (fun T256 X256 => ?_)
  refine w_iload X256 D2_183 rfl ?_
  refine w_i2l X256 D2_185 ?_
  rw [n_i2l (show bt (cn 1) < 2147483648 by omega)]
  refine w_ladd X256 D2_186 ?_
  rw [nL_add]
  refine w_putF X256 D2_187 (hw _ (List.mem_of_getElem? (i := 60) rfl)) O245_K255.2.2.2.2.2.2.2.2.2.2.2.2.2.2.2.1 O245_K255.2.1 O245_K255.1 (Or.inl (hw _ (List.mem_of_getElem? (i := 61) rfl))) (hw _ (List.mem_of_getElem? (i := 8) rfl)) (ty := .long) (by decide) rfl rfl (fun T257 h257 X257 W257 => ?_)
  have O257 := O245_K255.put_end hw W257
  have M257 := Pak_memW hw O245_K255 M255 W257
  refine w_iinc X257 D2_190 (d := (1 : Int32)) (r := (2 : Int32)) (l' := #[.val (.ref l0), .val (.ref a1), .val (.int (Int32.ofNat 3)), .val (.int (2 : Int32)), .val (.int (Int32.ofNat (bt (cn 1))))]) rfl rfl (by decide) rfl ?_
  refine w_goto X257 D2_193 ?_
  refine w_iloadN X257 D2_109 rfl ?_
  refine w_iloadN X257 D2_110 rfl ?_
  refine w_icmpge X257 D2_111 (fun hc111 => by exact absurd (by decide) hc111) (fun hc111 => ?_)
  refine w_aloadN X257 D2_114 rfl rfl ?_
  refine w_iloadN X257 D2_115 rfl ?_
  refine w_iaload X257 D2_116 (M257.at (ix + 12) hLt) 2 rfl (by decide) ?_
  show Wp _ _ _ _ _ _ _ _ (mkF m 117 #[.val (.ref l0), .val (.ref a1), .val (.int (Int32.ofNat 3)), .val (.int (2 : Int32)), .val (.int (Int32.ofNat (bt (cn 1))))] [(.int (Int32.ofNat (cn 2)))])
  refine w_static X257 D2_117 (rmB hw X257.sz _ (cn 2) hu2 rfl) (hw _ (List.mem_of_getElem? (i := 44) rfl)) (hw _ (List.mem_of_getElem? (i := 45) rfl)) (hw _ (List.mem_of_getElem? (i := 9) rfl)) (hw _ (List.mem_of_getElem? (i := 46) rfl)) (by decide) pd_0 rfl (S := []) rfl rfl (Nat.le_of_ble_eq_true rfl) (Nat.le_of_ble_eq_true rfl) (Nat.le_of_ble_eq_true rfl) (Nat.le_of_ble_eq_true rfl) (fun v258 T258 h258 X258 q258 => ?_)
  obtain ⟨rfl, rfl⟩ := q258
  show Wp _ _ _ _ _ _ _ _ (mkF m 120 #[.val (.ref l0), .val (.ref a1), .val (.int (Int32.ofNat 3)), .val (.int (2 : Int32)), .val (.int (Int32.ofNat (bt (cn 1))))] [(.int (Int32.ofNat (bt (cn 2))))])
  refine w_istore X258 D2_120 (l' := #[.val (.ref l0), .val (.ref a1), .val (.int (Int32.ofNat 3)), .val (.int (2 : Int32)), .val (.int (Int32.ofNat (bt (cn 2))))]) rfl ?_
  refine w_aloadN X258 D2_122 rfl rfl ?_
  refine w_iload X258 D2_123 rfl ?_
  refine w_private (z0 := ({ cls := "com/example/tokenfold/tokenfold/statespace/Packing", name := "widen", desc := "([I)V" } : Jvm.MethodName)) X258 D2_125 (rmP hw X258.sz l0 _ _ _ _ _ _ _ _ _ _ _ _ _ _ _ (qq1 + bt (cn 1)) (bt (cn 2)) rfl (by omega) (by omega) O257) O257.2.1 (hw _ (List.mem_of_getElem? (i := 56) rfl)) (hw _ (List.mem_of_getElem? (i := 57) rfl)) (hw _ (List.mem_of_getElem? (i := 58) rfl)) (hw _ (List.mem_of_getElem? (i := 68) rfl)) rfl (hw _ (List.mem_of_getElem? (i := 9) rfl)) (hw _ (List.mem_of_getElem? (i := 59) rfl)) (by decide) pd_2 rfl (S := []) rfl rfl (Nat.le_of_ble_eq_true rfl) (Nat.le_of_ble_eq_true rfl) (Nat.le_of_ble_eq_true rfl) (Nat.le_of_ble_eq_true rfl) (fun v259 T259 h259 X259 q259 => ?_)
  obtain ⟨rfl, K259, O259⟩ := q259
  have M259 := Pak_memK hw O257 M257 K259
  show Wp _ _ _ _ _ _ _ _ (mkF m 128 #[.val (.ref l0), .val (.ref a1), .val (.int (Int32.ofNat 3)), .val (.int (2 : Int32)), .val (.int (Int32.ofNat (bt (cn 2))))] [])
  obtain ⟨qq2, hq2⟩ : ∃ q, plc (qq1 + bt (cn 1)) (bt (cn 2)) = q := ⟨_, rfl⟩
  have pp2 := plc_spec (qq1 + bt (cn 1)) (bt (cn 2)) u2 y2
  rw [hq2] at O259 pp2
  refine w_aloadN X259 D2_128 rfl rfl ?_
  refine w_getF X259 D2_129 (hw _ (List.mem_of_getElem? (i := 28) rfl)) O259.2.2.2.2.2.2.2.2.1 (fun T260 X260 => ?_)
  refine w_iloadN X260 D2_132 rfl ?_
  refine w_aloadN X260 D2_133 rfl rfl ?_
  refine w_getF X260 D2_134 (hw _ (List.mem_of_getElem? (i := 60) rfl)) O259.2.2.2.2.2.2.2.2.2.2.2.2.2.2.2.1 (fun T261 X261 => ?_)
  refine w_ldc2 X261 D2_137 (hw _ (List.mem_of_getElem? (i := 62) rfl)) ?_
  refine w_ldiv X261 D2_140 (by decide) ?_
  rw [show Int64.ofNat (qq2) / 64 = Int64.ofNat ((qq2) / 64) from nL_div (k := 64) (by omega) (by decide) (by decide)]
  refine w_l2i X261 D2_141 ?_
  rw [n_l2i]
  refine w_iastore X261 D2_142 (M259.at 5 rfl) 2 rfl (by decide) (fun T262 h262 X262 K262 B262 => ?_)
  rw [upd_nI] at B262
  have O259_K262 := O259.keepB hw (M259.at 5 rfl) K262
  have M262 := M259.st 5 rfl K262 B262
  refine w_aloadN X262 D2_143 rfl rfl ?_
  refine w_getF X262 D2_144 (hw _ (List.mem_of_getElem? (i := 30) rfl)) O259_K262.2.2.2.2.2.2.2.2.2.1 (fun T263 X263 => ?_)
  refine w_iloadN X263 D2_147 rfl ?_
  refine w_aloadN X263 D2_148 rfl rfl ?_
  refine w_getF X263 D2_149 (hw _ (List.mem_of_getElem? (i := 60) rfl)) O259_K262.2.2.2.2.2.2.2.2.2.2.2.2.2.2.2.1 (fun T264 X264 => ?_)
  refine w_ldc2 X264 D2_152 (hw _ (List.mem_of_getElem? (i := 62) rfl)) ?_
  refine w_lrem X264 D2_155 (by decide) ?_
  rw [show Int64.ofNat (qq2) - (Int64.ofNat (qq2) / 64) * 64 = Int64.ofNat ((qq2) % 64) from nL_rem (k := 64) (by omega) (by decide) (by decide)]
  refine w_l2i X264 D2_156 ?_
  rw [n_l2i]
  refine w_iastore X264 D2_157 (M262.at 4 rfl) 2 rfl (by decide) (fun T265 h265 X265 K265 B265 => ?_)
  rw [upd_nI] at B265
  have O259_K265 := O259_K262.keepB hw (M262.at 4 rfl) K265
  have M265 := M262.st 4 rfl K265 B265
  refine w_aloadN X265 D2_158 rfl rfl ?_
  refine w_getF X265 D2_159 (hw _ (List.mem_of_getElem? (i := 32) rfl)) O259_K265.2.2.2.2.2.2.2.2.2.2.1 (fun T266 X266 => ?_)
  refine w_iloadN X266 D2_162 rfl ?_
  refine w_lconst1 X266 D2_163 ?_
  refine w_iload X266 D2_164 rfl ?_
  refine w_lshl X266 D2_166 ?_
  refine w_lconst1 X266 D2_167 ?_
  refine w_lsub X266 D2_168 ?_
  rw [own_mask (b := bt (cn 2)) (by omega)]
  refine w_lastore X266 D2_169 (M265.at 3 rfl) 2 rfl (by decide) (fun T267 h267 X267 K267 B267 => ?_)
  rw [upd_mJ] at B267
  have O259_K267 := O259_K265.keepB hw (M265.at 3 rfl) K267
  have M267 := M265.st 3 rfl K267 B267
  refine w_aloadN X267 D2_170 rfl rfl ?_
  refine w_getF X267 D2_171 (hw _ (List.mem_of_getElem? (i := 34) rfl)) O259_K267.2.2.2.2.2.2.2.2.2.2.2.1 (fun T268 X268 => ?_)
  refine w_iloadN X268 D2_174 rfl ?_
  refine w_iload X268 D2_175 rfl ?_
  refine w_iastore X268 D2_177 (M267.at 2 rfl) 2 rfl (by decide) (fun T269 h269 X269 K269 B269 => ?_)
  rw [upd_nI] at B269
  have O259_K269 := O259_K267.keepB hw (M267.at 2 rfl) K269
  have M269 := M267.st 2 rfl K269 B269
  refine w_aloadN X269 D2_178 rfl rfl ?_
  refine w_dup X269 D2_179 rfl ?_
  refine w_getF X269 D2_180 (hw _ (List.mem_of_getElem? (i := 60) rfl)) O259_K269.2.2.2.2.2.2.2.2.2.2.2.2.2.2.2.1 (fun T270 X270 => ?_)
  refine w_iload X270 D2_183 rfl ?_
  refine w_i2l X270 D2_185 ?_
  rw [n_i2l (show bt (cn 2) < 2147483648 by omega)]
  refine w_ladd X270 D2_186 ?_
  rw [nL_add]
  refine w_putF X270 D2_187 (hw _ (List.mem_of_getElem? (i := 60) rfl)) O259_K269.2.2.2.2.2.2.2.2.2.2.2.2.2.2.2.1 O259_K269.2.1 O259_K269.1 (Or.inl (hw _ (List.mem_of_getElem? (i := 61) rfl))) (hw _ (List.mem_of_getElem? (i := 8) rfl)) (ty := .long) (by decide) rfl rfl (fun T271 h271 X271 W271 => ?_)
  have O271 := O259_K269.put_end hw W271
  have M271 := Pak_memW hw O259_K269 M269 W271
  refine w_iinc X271 D2_190 (d := (1 : Int32)) (r := (3 : Int32)) (l' := #[.val (.ref l0), .val (.ref a1), .val (.int (Int32.ofNat 3)), .val (.int (3 : Int32)), .val (.int (Int32.ofNat (bt (cn 2))))]) rfl rfl (by decide) rfl ?_
  refine w_goto X271 D2_193 ?_
  refine w_iloadN X271 D2_109 rfl ?_
  refine w_iloadN X271 D2_110 rfl ?_
  refine w_icmpge X271 D2_111 (fun hc111 => ?_) (fun hc111 => by exact absurd hc111 (by decide))
  refine w_aloadN X271 D2_196 rfl rfl ?_
  refine w_iconst X271 D2_197 (v := (1 : Int32)) rfl ?_
  refine w_aloadN X271 D2_198 rfl rfl ?_
  refine w_getF X271 D2_199 (hw _ (List.mem_of_getElem? (i := 60) rfl)) O271.2.2.2.2.2.2.2.2.2.2.2.2.2.2.2.1 (fun T272 X272 => ?_)
  refine w_ldc2 X272 D2_202 (hw _ (List.mem_of_getElem? (i := 62) rfl)) ?_
  refine w_ladd X272 D2_205 ?_
  rw [show Int64.ofNat (qq2 + bt (cn 2)) + 64 = Int64.ofNat (qq2 + bt (cn 2) + 64) from nL_add _ 64]
  refine w_lconst1 X272 D2_206 ?_
  refine w_lsub X272 D2_207 ?_
  rw [show Int64.ofNat (qq2 + bt (cn 2) + 64) - 1 = Int64.ofNat (qq2 + bt (cn 2) + 64 - 1) from nL_sub (b := 1) (by omega)]
  refine w_ldc2 X272 D2_208 (hw _ (List.mem_of_getElem? (i := 62) rfl)) ?_
  refine w_ldiv X272 D2_211 (by decide) ?_
  rw [show Int64.ofNat (qq2 + bt (cn 2) + 64 - 1) / 64 = Int64.ofNat ((qq2 + bt (cn 2) + 64 - 1) / 64) from nL_div (k := 64) (by omega) (by decide) (by decide)]
  refine w_l2i X272 D2_212 ?_
  rw [n_l2i]
  refine w_static X272 D2_213 (rmMax hw X272.sz _ _ 1 ((qq2 + bt (cn 2) + 64 - 1) / 64) (by decide) (by omega) rfl rfl) (hw _ (List.mem_of_getElem? (i := 52) rfl)) (hw _ (List.mem_of_getElem? (i := 53) rfl)) (hw _ (List.mem_of_getElem? (i := 54) rfl)) (hw _ (List.mem_of_getElem? (i := 55) rfl)) (by decide) pd_1 rfl (S := [(.ref l0)]) rfl rfl (Nat.le_of_ble_eq_true rfl) (Nat.le_of_ble_eq_true rfl) (Nat.le_of_ble_eq_true rfl) (Nat.le_of_ble_eq_true rfl) (fun v273 T273 h273 X273 q273 => ?_)
  obtain ⟨rfl, rfl⟩ := q273
  show Wp _ _ _ _ _ _ _ _ (mkF m 216 #[.val (.ref l0), .val (.ref a1), .val (.int (Int32.ofNat 3)), .val (.int (3 : Int32)), .val (.int (Int32.ofNat (bt (cn 2))))] [(.int (Int32.ofNat (max 1 ((qq2 + bt (cn 2) + 64 - 1) / 64)))), (.ref l0)])
  refine w_putF X273 D2_216 (hw _ (List.mem_of_getElem? (i := 63) rfl)) O271.2.2.2.2.2.2.2.2.2.2.2.2.2.2.2.2 O271.2.1 O271.1 (Or.inl (hw _ (List.mem_of_getElem? (i := 64) rfl))) (hw _ (List.mem_of_getElem? (i := 8) rfl)) (ty := .int) (by decide) rfl rfl (fun T274 h274 X274 W274 => ?_)
  have O274 := O271.put_recordWords hw W274
  have M274 := Pak_memW hw O271 M271 W274
  exact w_return X274 D2_219 (by decide) (by decide) (⟨rfl, (fun k => match k with | 0 => a202 | 1 => a204 | 2 => a206 | 3 => a208 | 4 => a210 | 5 => a212 | 6 => a214 | 7 => a216 | 8 => a218 | 9 => a220 | 10 => a222 | 11 => a224 | _ => 0), iniS qq0 qq1 qq2 (bt (cn 0)) (bt (cn 1)) (bt (cn 2)), qq2 + bt (cn 2), max 1 ((qq2 + bt (cn 2) + 64 - 1) / 64), iniInv ⟨u0, y0⟩ ⟨u1, y1⟩ ⟨u2, y2⟩ hq0 hq1 hq2, fun s => ⟨rfl, rfl⟩, ⟨by omega, by omega, by omega⟩, O274, M274⟩)
-- CUT
theorem n_ushrU {a k : Nat} (ha : a < 4294967296) (hk : k < 32) : jushr (Int32.ofNat a) (Int32.ofNat k) = Int32.ofNat (a / 2 ^ k) := by
  rcases Nat.eq_zero_or_pos k with rfl | h0
  · rw [Nat.pow_zero, Nat.div_one]; exact n_ushr0 _
  · have h2 : 2 ^ 1 ≤ 2 ^ k := Nat.pow_le_pow_right (by decide) h0
    have hd : a / 2 ^ k ≤ a / 2 := Nat.div_le_div_left h2 (by decide)
    refine eq_ofNat (by omega) ?_
    have z := toInt_mod a
    rw [c_iushr (Int32.ofNat a) (Int32.ofNat k) k (n_q hk) h0, show (Int32.ofNat a).toInt % 4294967296 = (a : Int) by omega]
    exact (Int.natCast_ediv _ _).symm
theorem n_i2lmask (a : Nat) {w : Nat} (hw : w ≤ 32) : (Int32.ofNat a).toInt64 &&& Int64.ofNat (2 ^ w - 1) = Int64.ofNat (a % 2 ^ w) := by
  have h1 := c_i2l (Int32.ofNat a)
  have h2 := toInt_mod a
  obtain ⟨u, hu⟩ : ∃ u : Nat, ((Int32.ofNat a).toInt % 18446744073709551616).toNat = u := ⟨_, rfl⟩
  have e : (Int32.ofNat a).toInt64 = Int64.ofNat u := eq_modL (by rw [h1]; have := toInt_modL u; omega)
  have h3 : u % 2 ^ 32 = a % 2 ^ 32 := by omega
  rw [e, nL_low, ← Nat.mod_mod_of_dvd u (Nat.pow_dvd_pow 2 hw), h3, Nat.mod_mod_of_dvd a (Nat.pow_dvd_pow 2 hw)]
theorem nL_ushrU {a k : Nat} (ha : a < 18446744073709551616) (hk : k < 64) : jushrL (Int64.ofNat a) (Int32.ofNat k) = Int64.ofNat (a / 2 ^ k) := by
  rcases Nat.eq_zero_or_pos k with rfl | h0
  · rw [Nat.pow_zero, Nat.div_one]; exact nL_ushr0 _
  · have h2 : 2 ^ 1 ≤ 2 ^ k := Nat.pow_le_pow_right (by decide) h0
    have hd : a / 2 ^ k ≤ a / 2 := Nat.div_le_div_left h2 (by decide)
    refine eq_ofNatL (by omega) ?_
    have z := toInt_modL a
    rw [c_lushr (Int64.ofNat a) (Int32.ofNat k) k (n_q64 hk) h0, show (Int64.ofNat a).toInt % 18446744073709551616 = (a : Int) by omega]
    exact (Int.natCast_ediv _ _).symm
/-- the record behind i fields | are the counts within their widths | what is read at field i | the counts behind i fields -/
def PF (S : Nat → Nat → Nat) (cn R : Nat → Nat) : Nat → Nat → Nat
  | 0 => R
  | i + 1 => upd (PF S cn R i) (fW S i) (PF S cn R i (fW S i) ||| (cn (fs S i) / 2 ^ fl S i % 2 ^ fD S i) * 2 ^ fH S i)
def okf (S : Nat → Nat → Nat) (cn : Nat → Nat) : Nat → Nat
  | 0 => 1
  | i + 1 => if cn i / 2 ^ S 9 i = 0 then okf S cn i else 0
theorem okf01 (S : Nat → Nat → Nat) (cn : Nat → Nat) : ∀ i, okf S cn i = 0 ∨ okf S cn i = 1
  | 0 => Or.inr rfl
  | i + 1 => by
    rw [okf]; split
    · exact okf01 S cn i
    · exact Or.inl rfl
def rd (S : Nat → Nat → Nat) (R : Nat → Nat) (off i : Nat) : Nat := R (off + fW S i) / 2 ^ fH S i % 2 ^ fD S i
def UF (S : Nat → Nat → Nat) (R : Nat → Nat) (off : Nat) : Nat → Nat → Nat
  | 0 => fun _ => 0
  | i + 1 => upd (UF S R off i) (fs S i) (UF S R off i (fs S i) ||| rd S R off i * 2 ^ fl S i)
def ub (S : Nat → Nat → Nat) (R : Nat → Nat) (off : Nat) (g : Nat → Int32) : Nat → Nat → Int32
  | 0 => g
  | i + 1 => upd (ub S R off g i) i (Int32.ofNat (R (off + S 6 i) / 2 ^ S 7 i % 2 ^ S 8 i))
theorem PF_base (S : Nat → Nat → Nat) (cn R : Nat → Nat) {i : Nat} (hi : i < 3) : PF S cn R (i + 1) = upd (PF S cn R i) (S 6 i) (PF S cn R i (S 6 i) ||| (cn i % 2 ^ S 8 i) * 2 ^ S 7 i) := by
  rw [PF]; unfold fW fs fl fD fH; simp only [if_pos hi, Nat.pow_zero, Nat.div_one]
theorem PF_ext (S : Nat → Nat → Nat) (cn R : Nat → Nat) (i : Nat) : PF S cn R (3 + (i + 1)) = upd (PF S cn R (3 + i)) (S 1 i) (PF S cn R (3 + i) (S 1 i) ||| (cn (S 0 i) / 2 ^ S 3 i % 2 ^ S 4 i) * 2 ^ S 2 i) := by
  rw [show 3 + (i + 1) = (3 + i) + 1 by omega, PF]; unfold fW fs fl fD fH; simp only [if_neg (show ¬ 3 + i < 3 by omega), Nat.add_sub_cancel_left]
theorem UF_ext (S : Nat → Nat → Nat) (R : Nat → Nat) (off i : Nat) : UF S R off (3 + (i + 1)) = upd (UF S R off (3 + i)) (S 0 i) (UF S R off (3 + i) (S 0 i) ||| (R (off + S 1 i) / 2 ^ S 2 i % 2 ^ S 4 i) * 2 ^ S 3 i) := by
  rw [show 3 + (i + 1) = (3 + i) + 1 by omega, UF]; unfold rd fW fs fl fD fH; simp only [if_neg (show ¬ 3 + i < 3 by omega), Nat.add_sub_cancel_left]
theorem ub_end (S : Nat → Nat → Nat) (R : Nat → Nat) (off : Nat) (g : Nat → Int32) (s : Nat) (hs : s < 3) : ub S R off g 3 s = nI (UF S R off 3) s := by
  have hc : s = 0 ∨ s = 1 ∨ s = 2 := by omega
  rcases hc with rfl | rfl | rfl
  · show Int32.ofNat _ = Int32.ofNat (0 ||| _ * 2 ^ 0); congr 1; rw [Nat.zero_or, Nat.pow_zero, Nat.mul_one]; rfl
  · show Int32.ofNat _ = Int32.ofNat (0 ||| _ * 2 ^ 0); congr 1; rw [Nat.zero_or, Nat.pow_zero, Nat.mul_one]; rfl
  · show Int32.ofNat _ = Int32.ofNat (0 ||| _ * 2 ^ 0); congr 1; rw [Nat.zero_or, Nat.pow_zero, Nat.mul_one]; rfl
/-- what Inv says of field i, in the arrays' own words -/
theorem Inv.base {S : Nat → Nat → Nat} {E en rw : Nat} (I : Inv S E en) (hr : en ≤ 64 * rw) {i : Nat} (hi : i < 3) : 1 ≤ S 8 i ∧ S 8 i ≤ 31 ∧ S 7 i + S 8 i ≤ 64 ∧ S 6 i < rw ∧ 1 ≤ S 9 i ∧ S 9 i ≤ 31 := by
  have h := I.1 i (by omega)
  have h9 := I.2.2.1 i hi
  unfold fs fD fH fl fW at h
  simp only [if_pos hi] at h
  omega
theorem Inv.ext {S : Nat → Nat → Nat} {E en rw : Nat} (I : Inv S E en) (hr : en ≤ 64 * rw) {i : Nat} (hi : i < E) : S 0 i < 3 ∧ 1 ≤ S 4 i ∧ S 4 i ≤ 31 ∧ S 2 i + S 4 i ≤ 64 ∧ S 1 i < rw ∧ S 3 i ≤ 30 := by
  have h := I.1 (3 + i) (by omega)
  unfold fs fD fH fl fW at h
  simp only [if_neg (show ¬ 3 + i < 3 by omega), Nat.add_sub_cancel_left] at h
  have h9 := I.2.2.1 (S 0 i) h.1
  omega
theorem cp_le {E : Nat} (h : E ≤ 8) : E ≤ cp E := by have := cp_spec E; omega
theorem set_id {α : Type} {L : List α} {i : Nat} {x : α} (e : L[i]? = some x) : L.set i x = L := by
  apply List.ext_getElem?
  intro q
  by_cases h : q = i
  · rw [h, set_self e, e]
  · rw [List.getElem?_set_ne (Ne.symm h)]
theorem ef_12 (m : MethodId) (x1 : Int32) (x2 : Int32) (x3 : Int32) : entryFrame m #[(.int x1), (.int x2), (.int x3)] 3 = mkF m 0 #[.val (.int x1), .val (.int x2), .val (.int x3)] [] := by first | (simp [entryFrame, mkF, argsToLocals, Value.category]; done) | rfl
theorem pn_12 : plainName "java/util/Arrays" = true := by first | (simp [plainName, overriddenIn]; done) | decide +kernel
set_option maxRecDepth 65536 in
set_option maxHeartbeats 40000000 in
theorem rmRC {l : Launch} {Z : State} {a0 : Array Value} {n0 : Nat} {h : Heap} (hw : ∀ d ∈ tables_1, d.before a0 Z = true) (hn : n0 ≤ h.size) (x1 : Int32) (x2 : Int32) (x3 : Int32) (u1 u3 : Nat) (e1 : x1 = Int32.ofNat u1) (e2 : x2 = Int32.ofNat 0) (e3 : x3 = Int32.ofNat u3) (hu : u3 ≤ u1) (hu1 : u1 < 100) :
    Ctr l Z n0 (⟨"java/util/Arrays", "rangeCheck", "(III)V"⟩ : MethodName) jdk_65_method_30_code 3 none ({ frames := 0, cells := 0, slots := 0, locals := 0 } : Room) [] #[(.int x1), (.int x2), (.int x3)] h (fun v h' => v = none ∧ h = h') := by
  refine ctr_of (plainFor_of_name pn_12) hw hn ?_
  intro p e s m below meth c T X
  refine Wp.cast (ef_12 m x1 x2 x3) ?_
  subst e1 e2 e3
  refine w_iloadN X D12_0 rfl ?_
  refine w_iloadN X D12_1 rfl ?_
  refine w_icmple X D12_2 (fun hc2 => ?_) (fun hc2 => by have z := (ofNat_lt (by omega) (by decide)).mp hc2; omega)
  refine w_iloadN X D12_46 rfl ?_
  refine w_ifge X D12_47 (fun hc47 => ?_) (fun hc47 => by exact absurd hc47 (by decide))
  refine w_iloadN X D12_59 rfl ?_
  refine w_iloadN X D12_60 rfl ?_
  refine w_icmple X D12_61 (fun hc61 => ?_) (fun hc61 => by have z := (ofNat_lt (by omega) (by omega)).mp hc61; omega)
  exact w_return X D12_73 (by decide) (by decide) (⟨rfl, rfl⟩)
theorem ef_11 (m : MethodId) (a : Addr) (x1 : Int32) (x2 : Int32) (x3 : Int64) : entryFrame m #[(.ref a), (.int x1), (.int x2), (.long x3)] 6 = mkF m 0 #[.val (.ref a), .val (.int x1), .val (.int x2), .val (.long x3), .second, .unset] [] := by first | (simp [entryFrame, mkF, argsToLocals, Value.category]; done) | rfl
theorem pn_11 : plainName "java/util/Arrays" = true := by first | (simp [plainName, overriddenIn]; done) | decide +kernel
set_option maxRecDepth 65536 in
set_option maxHeartbeats 40000000 in
theorem rmFJ {l : Launch} {Z : State} {a0 : Array Value} {n0 : Nat} {h : Heap} (hw : ∀ d ∈ tables_1, d.before a0 Z = true) (hn : n0 ≤ h.size) (a : Addr) (x1 : Int32) (x2 : Int32) (x3 : Int64) (nr rw : Nat) (R : Nat → Nat) (e1 : x1 = Int32.ofNat 0) (e2 : x2 = Int32.ofNat rw) (e3 : x3 = Int64.ofNat 0) (hr : rw = 1 ∨ rw = 2 ∨ rw = 3) (hnr : 3 ≤ nr) (hnr2 : nr < 100) (B : Ba Z n0 h a .long nr (bJ (nJ R))) :
    Ctr l Z n0 (⟨"java/util/Arrays", "fill", "([JIIJ)V"⟩ : MethodName) jdk_65_method_102_code 6 none ({ frames := 1, cells := 0, slots := 0, locals := 14 } : Room) [] #[(.ref a), (.int x1), (.int x2), (.long x3)] h (fun v h' => v = none ∧ Keep h h' [a] ∧ Ba Z n0 h' a .long nr (bJ (nJ (fun i => if i < rw then 0 else R i)))) := by
  refine ctr_of (plainFor_of_name pn_11) hw hn ?_
  intro p e s m below meth c T X
  refine Wp.cast (ef_11 m a x1 x2 x3) ?_
  subst e1 e2 e3
  refine w_aloadN X D11_0 rfl rfl ?_
  refine w_arraylength X D11_1 B ?_
  refine w_iloadN X D11_2 rfl ?_
  refine w_iloadN X D11_3 rfl ?_
  refine w_static X D11_4 (rmRC hw X.sz _ _ _ nr rw rfl rfl rfl (by omega) (by omega)) (hw _ (List.mem_of_getElem? (i := 78) rfl)) (hw _ (List.mem_of_getElem? (i := 79) rfl)) (hw _ (List.mem_of_getElem? (i := 42) rfl)) (hw _ (List.mem_of_getElem? (i := 80) rfl)) (by decide) pd_9 rfl (S := []) rfl rfl (Nat.le_of_ble_eq_true rfl) (Nat.le_of_ble_eq_true rfl) (Nat.le_of_ble_eq_true rfl) (Nat.le_of_ble_eq_true rfl) (fun v1 T1 h1 X1 q1 => ?_)
  obtain ⟨rfl, rfl⟩ := q1
  show Wp _ _ _ _ _ _ _ _ (mkF m 7 #[.val (.ref a), .val (.int (Int32.ofNat 0)), .val (.int (Int32.ofNat rw)), .val (.long (Int64.ofNat 0)), .second, .unset] [])
  refine w_iloadN X1 D11_7 rfl ?_
  refine w_istore X1 D11_8 (l' := #[.val (.ref a), .val (.int (Int32.ofNat 0)), .val (.int (Int32.ofNat rw)), .val (.long (Int64.ofNat 0)), .second, .val (.int (Int32.ofNat 0))]) rfl ?_
  rcases hr with rfl | rfl | rfl
  · show Wp _ _ _ _ _ _ _ _ (mkF m 10 #[.val (.ref a), .val (.int (Int32.ofNat 0)), .val (.int (Int32.ofNat 1)), .val (.long (Int64.ofNat 0)), .second, .val (.int (Int32.ofNat 0))] [])
    refine w_iload X1 D11_10 rfl ?_
    refine w_iloadN X1 D11_12 rfl ?_
    refine w_icmpge X1 D11_13 (fun hc13 => by exact absurd (by decide) hc13) (fun hc13 => ?_)
    refine w_aloadN X1 D11_16 rfl rfl ?_
    refine w_iload X1 D11_17 rfl ?_
    refine w_lloadN X1 D11_19 rfl ?_
    refine w_lastore X1 D11_20 B 0 rfl (by omega) (fun T2 h2 X2 K2 B2 => ?_)
    rw [upd_nJ] at B2
    refine w_iinc X2 D11_21 (d := (1 : Int32)) (r := (Int32.ofNat 1)) (l' := #[.val (.ref a), .val (.int (Int32.ofNat 0)), .val (.int (Int32.ofNat 1)), .val (.long (Int64.ofNat 0)), .second, .val (.int (Int32.ofNat 1))]) rfl rfl (by decide) rfl ?_
    refine w_goto X2 D11_24 ?_
    refine w_iload X2 D11_10 rfl ?_
    refine w_iloadN X2 D11_12 rfl ?_
    refine w_icmpge X2 D11_13 (fun hc13 => ?_) (fun hc13 => by exact absurd hc13 (by decide))
    exact w_return X2 D11_27 (by decide) (by decide) (⟨rfl, K2, B2.congr (fun i hi => by
          simp only [bJ, nJ, upd]; congr 2
          split <;> (try split) <;> (try split) <;> (try split) <;> omega)⟩)
  · show Wp _ _ _ _ _ _ _ _ (mkF m 10 #[.val (.ref a), .val (.int (Int32.ofNat 0)), .val (.int (Int32.ofNat 2)), .val (.long (Int64.ofNat 0)), .second, .val (.int (Int32.ofNat 0))] [])
    refine w_iload X1 D11_10 rfl ?_
    refine w_iloadN X1 D11_12 rfl ?_
    refine w_icmpge X1 D11_13 (fun hc13 => by exact absurd (by decide) hc13) (fun hc13 => ?_)
    refine w_aloadN X1 D11_16 rfl rfl ?_
    refine w_iload X1 D11_17 rfl ?_
    refine w_lloadN X1 D11_19 rfl ?_
    refine w_lastore X1 D11_20 B 0 rfl (by omega) (fun T3 h3 X3 K3 B3 => ?_)
    rw [upd_nJ] at B3
    refine w_iinc X3 D11_21 (d := (1 : Int32)) (r := (Int32.ofNat 1)) (l' := #[.val (.ref a), .val (.int (Int32.ofNat 0)), .val (.int (Int32.ofNat 2)), .val (.long (Int64.ofNat 0)), .second, .val (.int (Int32.ofNat 1))]) rfl rfl (by decide) rfl ?_
    refine w_goto X3 D11_24 ?_
    refine w_iload X3 D11_10 rfl ?_
    refine w_iloadN X3 D11_12 rfl ?_
    refine w_icmpge X3 D11_13 (fun hc13 => by exact absurd (by decide) hc13) (fun hc13 => ?_)
    refine w_aloadN X3 D11_16 rfl rfl ?_
    refine w_iload X3 D11_17 rfl ?_
    refine w_lloadN X3 D11_19 rfl ?_
    refine w_lastore X3 D11_20 B3 1 rfl (by omega) (fun T4 h4 X4 K4 B4 => ?_)
    rw [upd_nJ] at B4
    refine w_iinc X4 D11_21 (d := (1 : Int32)) (r := (Int32.ofNat 2)) (l' := #[.val (.ref a), .val (.int (Int32.ofNat 0)), .val (.int (Int32.ofNat 2)), .val (.long (Int64.ofNat 0)), .second, .val (.int (Int32.ofNat 2))]) rfl rfl (by decide) rfl ?_
    refine w_goto X4 D11_24 ?_
    refine w_iload X4 D11_10 rfl ?_
    refine w_iloadN X4 D11_12 rfl ?_
    refine w_icmpge X4 D11_13 (fun hc13 => ?_) (fun hc13 => by exact absurd hc13 (by decide))
    exact w_return X4 D11_27 (by decide) (by decide) (⟨rfl, (K3.trans K4 (fun x hx => Or.inl hx)), B4.congr (fun i hi => by
          simp only [bJ, nJ, upd]; congr 2
          split <;> (try split) <;> (try split) <;> (try split) <;> omega)⟩)
  · show Wp _ _ _ _ _ _ _ _ (mkF m 10 #[.val (.ref a), .val (.int (Int32.ofNat 0)), .val (.int (Int32.ofNat 3)), .val (.long (Int64.ofNat 0)), .second, .val (.int (Int32.ofNat 0))] [])
    refine w_iload X1 D11_10 rfl ?_
    refine w_iloadN X1 D11_12 rfl ?_
    refine w_icmpge X1 D11_13 (fun hc13 => by exact absurd (by decide) hc13) (fun hc13 => ?_)
    refine w_aloadN X1 D11_16 rfl rfl ?_
    refine w_iload X1 D11_17 rfl ?_
    refine w_lloadN X1 D11_19 rfl ?_
    refine w_lastore X1 D11_20 B 0 rfl (by omega) (fun T5 h5 X5 K5 B5 => ?_)
    rw [upd_nJ] at B5
    refine w_iinc X5 D11_21 (d := (1 : Int32)) (r := (Int32.ofNat 1)) (l' := #[.val (.ref a), .val (.int (Int32.ofNat 0)), .val (.int (Int32.ofNat 3)), .val (.long (Int64.ofNat 0)), .second, .val (.int (Int32.ofNat 1))]) rfl rfl (by decide) rfl ?_
    refine w_goto X5 D11_24 ?_
    refine w_iload X5 D11_10 rfl ?_
    refine w_iloadN X5 D11_12 rfl ?_
    refine w_icmpge X5 D11_13 (fun hc13 => by exact absurd (by decide) hc13) (fun hc13 => ?_)
    refine w_aloadN X5 D11_16 rfl rfl ?_
    refine w_iload X5 D11_17 rfl ?_
    refine w_lloadN X5 D11_19 rfl ?_
    refine w_lastore X5 D11_20 B5 1 rfl (by omega) (fun T6 h6 X6 K6 B6 => ?_)
    rw [upd_nJ] at B6
    refine w_iinc X6 D11_21 (d := (1 : Int32)) (r := (Int32.ofNat 2)) (l' := #[.val (.ref a), .val (.int (Int32.ofNat 0)), .val (.int (Int32.ofNat 3)), .val (.long (Int64.ofNat 0)), .second, .val (.int (Int32.ofNat 2))]) rfl rfl (by decide) rfl ?_
    refine w_goto X6 D11_24 ?_
    refine w_iload X6 D11_10 rfl ?_
    refine w_iloadN X6 D11_12 rfl ?_
    refine w_icmpge X6 D11_13 (fun hc13 => by exact absurd (by decide) hc13) (fun hc13 => ?_)
    refine w_aloadN X6 D11_16 rfl rfl ?_
    refine w_iload X6 D11_17 rfl ?_
    refine w_lloadN X6 D11_19 rfl ?_
    refine w_lastore X6 D11_20 B6 2 rfl (by omega) (fun T7 h7 X7 K7 B7 => ?_)
    rw [upd_nJ] at B7
    refine w_iinc X7 D11_21 (d := (1 : Int32)) (r := (Int32.ofNat 3)) (l' := #[.val (.ref a), .val (.int (Int32.ofNat 0)), .val (.int (Int32.ofNat 3)), .val (.long (Int64.ofNat 0)), .second, .val (.int (Int32.ofNat 3))]) rfl rfl (by decide) rfl ?_
    refine w_goto X7 D11_24 ?_
    refine w_iload X7 D11_10 rfl ?_
    refine w_iloadN X7 D11_12 rfl ?_
    refine w_icmpge X7 D11_13 (fun hc13 => ?_) (fun hc13 => by exact absurd hc13 (by decide))
    exact w_return X7 D11_27 (by decide) (by decide) (⟨rfl, ((K5.trans K6 (fun x hx => Or.inl hx)).trans K7 (fun x hx => Or.inl hx)), B7.congr (fun i hi => by
          simp only [bJ, nJ, upd]; congr 2
          split <;> (try split) <;> (try split) <;> (try split) <;> omega)⟩)
set_option maxRecDepth 65536 in
set_option maxHeartbeats 40000000 in
theorem pkT {Z : State} {a0 : Array Value} {n0 : Nat} {p : Program} {l : Launch} {e : Env} {RR : Room} {s : State} {m : MethodId} {args : Array Value} {below : List Frame} {meth : Method} {c : Code} {T : State} {h : Heap} {k j : Nat} {Q : Option Value → Heap → Prop} (hw : ∀ d ∈ tables_1, d.before a0 Z = true) (X : Pos Z a0 n0 p l e RR s m args below meth c prog_60_method_3_code 6 (some .boolean) (⟨"com/example/tokenfold/tokenfold/statespace/Packing", "pack", "([I[J)Z"⟩ : MethodName) T h k j) (l0 a1 a2 : Addr) (ad : Nat → Addr) (S : Nat → Nat → Nat) (E en rw nr : Nat) (cn R : Nat → Nat) (Lt : List Ent) (ix iy : Nat) (hLx : Lt[ix]? = some (a1, .int, 3, bI (nI cn))) (hne : ix ≠ iy) (hLy : ∃ z, Lt[iy]? = some z) (hnr : 3 ≤ nr) (hcn : ∀ s, s < 3 → cn s < 4294967296) (I : Inv S E en) (hE8 : E ≤ 8) (hr : 1 ≤ rw ∧ rw ≤ 3 ∧ en ≤ 64 * rw) (i : Nat) (hi : i < 3) (s5 : Slot) (h_s5 : Jvm.RoadKit.One s5) (P : PK Z n0 h l0 ad S E (cp E) en rw (Lt.set iy (a2, .long, nr, bJ (nJ (PF S cn R (i)))))) (q : ∀ T' h' z', Pos Z a0 n0 p l e RR s m args below meth c prog_60_method_3_code 6 (some .boolean) (⟨"com/example/tokenfold/tokenfold/statespace/Packing", "pack", "([I[J)Z"⟩ : MethodName) T' h' k j → PK Z n0 h' l0 ad S E (cp E) en rw (Lt.set iy (a2, .long, nr, bJ (nJ (PF S cn R (i + 1))))) → Wp n0 p e RR s below Q T' (mkF m 15 #[.val (.ref l0), .val (.ref a1), .val (.ref a2), .val (.int (Int32.ofNat (okf S cn (i + 1)))), .val (.int (Int32.ofNat (i + 1))), .val (.int z')] [])) : Wp n0 p e RR s below Q T (mkF m 15 #[.val (.ref l0), .val (.ref a1), .val (.ref a2), .val (.int (Int32.ofNat (okf S cn i))), .val (.int (Int32.ofNat i)), s5] []) := by
  obtain ⟨O, M⟩ := P
  obtain ⟨zz, hLz⟩ := hLy
  obtain ⟨b1, b2, b3, b4, b5, b6⟩ := I.base hr.2.2 hi
  have hci := hcn i hi
  have ok := okf01 S cn i
  have hdv : cn i / 2 ^ S 9 i < 2147483648 := Nat.div_lt_of_lt_mul (Nat.lt_of_lt_of_le (show cn i < 2 ^ 1 * 2147483648 by omega) (Nat.mul_le_mul_right _ (Nat.pow_le_pow_right (by decide) b5)))
  refine w_iload X D10_15 rfl ?_
  refine w_aloadN X D10_17 rfl rfl ?_
  refine w_arraylength X D10_18 (M.at (ix + 12) (set_ne hne hLx)) ?_
  refine w_icmpge X D10_19 (fun hc19 => by exact absurd ((ofNat_lt (by omega) (by decide)).mpr hi) hc19) (fun hc19 => ?_)
  refine w_aloadN X D10_22 rfl rfl ?_
  refine w_iload X D10_23 rfl ?_
  refine w_iaload X D10_25 (M.at (ix + 12) (set_ne hne hLx)) i rfl (by omega) ?_
  show Wp _ _ _ _ _ _ _ _ (mkF m 26 #[.val (.ref l0), .val (.ref a1), .val (.ref a2), .val (.int (Int32.ofNat (okf S cn i))), .val (.int (Int32.ofNat i)), s5] [(.int (Int32.ofNat (cn i)))])
  refine w_istoreS X D10_26 (l' := #[.val (.ref l0), .val (.ref a1), .val (.ref a2), .val (.int (Int32.ofNat (okf S cn i))), .val (.int (Int32.ofNat i)), .val (.int (Int32.ofNat (cn i)))]) rfl h_s5 rfl ?_
  refine w_iloadN X D10_28 rfl ?_
  refine w_iload X D10_29 rfl ?_
  refine w_aloadN X D10_31 rfl rfl ?_
  refine w_getF X D10_32 (hw _ (List.mem_of_getElem? (i := 34) rfl)) O.2.2.2.2.2.2.2.2.2.2.2.1 (fun T1 X1 => ?_)
  refine w_iload X1 D10_35 rfl ?_
  refine w_iaload X1 D10_37 (M.at 2 rfl) i rfl (by omega) ?_
  show Wp _ _ _ _ _ _ _ _ (mkF m 38 #[.val (.ref l0), .val (.ref a1), .val (.ref a2), .val (.int (Int32.ofNat (okf S cn i))), .val (.int (Int32.ofNat i)), .val (.int (Int32.ofNat (cn i)))] [(.int (Int32.ofNat ((S 9) i))), (.int (Int32.ofNat (cn i))), (.int (Int32.ofNat (okf S cn i)))])
  refine w_iushr X1 D10_38 ?_
  rw [n_ushrU hci (show S 9 i < 32 by omega)]
  refine w_ifne X1 D10_39 (fun hc39 => ?_) (fun hc39 => ?_)
  · refine w_iconst X1 D10_46 (v := (0 : Int32)) rfl ?_
    refine w_iand X1 D10_47 ?_
    have hz : ¬ cn i / 2 ^ S 9 i = 0 := fun z => hc39 (by rw [z]; rfl)
    rw [show Int32.ofNat (okf S cn i) &&& 0 = Int32.ofNat (okf S cn (i + 1)) by rw [okf, if_neg hz]; rcases ok with h | h <;> rw [h] <;> rfl]
    refine w_istoreN X1 D10_48 (l' := #[.val (.ref l0), .val (.ref a1), .val (.ref a2), .val (.int (Int32.ofNat (okf S cn (i + 1)))), .val (.int (Int32.ofNat i)), .val (.int (Int32.ofNat (cn i)))]) rfl ?_
    refine w_aloadN X1 D10_49 rfl rfl ?_
    refine w_aloadN X1 D10_50 rfl rfl ?_
    refine w_getF X1 D10_51 (hw _ (List.mem_of_getElem? (i := 28) rfl)) O.2.2.2.2.2.2.2.2.1 (fun T2 X2 => ?_)
    refine w_iload X2 D10_54 rfl ?_
    refine w_iaload X2 D10_56 (M.at 5 rfl) i rfl (by omega) ?_
    show Wp _ _ _ _ _ _ _ _ (mkF m 57 #[.val (.ref l0), .val (.ref a1), .val (.ref a2), .val (.int (Int32.ofNat (okf S cn (i + 1)))), .val (.int (Int32.ofNat i)), .val (.int (Int32.ofNat (cn i)))] [(.int (Int32.ofNat ((S 6) i))), (.ref a2)])
    refine w_dup2 X2 D10_57 rfl rfl ?_
    refine w_laload X2 D10_58 (M.at (iy + 12) (set_self hLz)) ((S 6) i) rfl (by omega) ?_
    show Wp _ _ _ _ _ _ _ _ (mkF m 59 #[.val (.ref l0), .val (.ref a1), .val (.ref a2), .val (.int (Int32.ofNat (okf S cn (i + 1)))), .val (.int (Int32.ofNat i)), .val (.int (Int32.ofNat (cn i)))] [(.long (Int64.ofNat ((PF S cn R (i)) ((S 6) i)))), (.int (Int32.ofNat ((S 6) i))), (.ref a2)])
    refine w_iload X2 D10_59 rfl ?_
    refine w_i2l X2 D10_61 ?_
    refine w_aloadN X2 D10_62 rfl rfl ?_
    refine w_getF X2 D10_63 (hw _ (List.mem_of_getElem? (i := 32) rfl)) O.2.2.2.2.2.2.2.2.2.2.1 (fun T3 X3 => ?_)
    refine w_iload X3 D10_66 rfl ?_
    refine w_laload X3 D10_68 (M.at 3 rfl) i rfl (by omega) ?_
    show Wp _ _ _ _ _ _ _ _ (mkF m 69 #[.val (.ref l0), .val (.ref a1), .val (.ref a2), .val (.int (Int32.ofNat (okf S cn (i + 1)))), .val (.int (Int32.ofNat i)), .val (.int (Int32.ofNat (cn i)))] [(.long (Int64.ofNat (2 ^ ((S 8) i) - 1))), (.long ((Int32.ofNat (cn i)).toInt64)), (.long (Int64.ofNat ((PF S cn R (i)) ((S 6) i)))), (.int (Int32.ofNat ((S 6) i))), (.ref a2)])
    refine w_land X3 D10_69 ?_
    rw [n_i2lmask (cn i) (show S 8 i ≤ 32 by omega)]
    refine w_aloadN X3 D10_70 rfl rfl ?_
    refine w_getF X3 D10_71 (hw _ (List.mem_of_getElem? (i := 30) rfl)) O.2.2.2.2.2.2.2.2.2.1 (fun T4 X4 => ?_)
    refine w_iload X4 D10_74 rfl ?_
    refine w_iaload X4 D10_76 (M.at 4 rfl) i rfl (by omega) ?_
    show Wp _ _ _ _ _ _ _ _ (mkF m 77 #[.val (.ref l0), .val (.ref a1), .val (.ref a2), .val (.int (Int32.ofNat (okf S cn (i + 1)))), .val (.int (Int32.ofNat i)), .val (.int (Int32.ofNat (cn i)))] [(.int (Int32.ofNat ((S 7) i))), (.long (Int64.ofNat (cn i % 2 ^ S 8 i))), (.long (Int64.ofNat ((PF S cn R (i)) ((S 6) i)))), (.int (Int32.ofNat ((S 6) i))), (.ref a2)])
    refine w_lshl X4 D10_77 ?_
    rw [nL_shl (cn i % 2 ^ S 8 i) (show S 7 i < 64 by omega)]
    refine w_lor X4 D10_78 ?_
    rw [nL_or]
    refine w_lastore X4 D10_79 (M.at (iy + 12) (set_self hLz)) ((S 6) i) rfl (by omega) (fun T5 h5 X5 K5 B5 => ?_)
    rw [upd_nJ] at B5
    have O_K5 := O.keepB hw (M.at (iy + 12) (set_self hLz)) K5
    have M5 := M.st (iy + 12) (set_self hLz) K5 B5
    refine w_iinc X5 D10_80 (d := (1 : Int32)) (r := (Int32.ofNat (i + 1))) (l' := #[.val (.ref l0), .val (.ref a1), .val (.ref a2), .val (.int (Int32.ofNat (okf S cn (i + 1)))), .val (.int (Int32.ofNat (i + 1))), .val (.int (Int32.ofNat (cn i)))]) rfl rfl (n_add _ _) rfl ?_
    refine w_goto X5 D10_83 ?_
    have M9 : Mem Z n0 h5 (live ad S (cp E) (Lt.set iy (a2, .long, nr, bJ (nJ (PF S cn R (i + 1)))))) := by
      have z : Mem Z n0 h5 (live ad S (cp E) ((Lt.set iy (a2, .long, nr, bJ (nJ (PF S cn R (i))))).set iy _)) := M5
      rw [List.set_set] at z
      rw [PF_base S cn R hi]; exact z
    exact q _ _ _ X5 ⟨O_K5, M9⟩
  · refine w_iconst X1 D10_42 (v := (1 : Int32)) rfl ?_
    refine w_goto X1 D10_43 ?_
    refine w_iand X1 D10_47 ?_
    have hz : cn i / 2 ^ S 9 i = 0 := (n_inj (b := 0) (by omega) (by decide)).mp hc39
    rw [show Int32.ofNat (okf S cn i) &&& 1 = Int32.ofNat (okf S cn (i + 1)) by rw [okf, if_pos hz]; rcases ok with h | h <;> rw [h] <;> rfl]
    refine w_istoreN X1 D10_48 (l' := #[.val (.ref l0), .val (.ref a1), .val (.ref a2), .val (.int (Int32.ofNat (okf S cn (i + 1)))), .val (.int (Int32.ofNat i)), .val (.int (Int32.ofNat (cn i)))]) rfl ?_
    refine w_aloadN X1 D10_49 rfl rfl ?_
    refine w_aloadN X1 D10_50 rfl rfl ?_
    refine w_getF X1 D10_51 (hw _ (List.mem_of_getElem? (i := 28) rfl)) O.2.2.2.2.2.2.2.2.1 (fun T6 X6 => ?_)
    refine w_iload X6 D10_54 rfl ?_
    refine w_iaload X6 D10_56 (M.at 5 rfl) i rfl (by omega) ?_
    show Wp _ _ _ _ _ _ _ _ (mkF m 57 #[.val (.ref l0), .val (.ref a1), .val (.ref a2), .val (.int (Int32.ofNat (okf S cn (i + 1)))), .val (.int (Int32.ofNat i)), .val (.int (Int32.ofNat (cn i)))] [(.int (Int32.ofNat ((S 6) i))), (.ref a2)])
    refine w_dup2 X6 D10_57 rfl rfl ?_
    refine w_laload X6 D10_58 (M.at (iy + 12) (set_self hLz)) ((S 6) i) rfl (by omega) ?_
    show Wp _ _ _ _ _ _ _ _ (mkF m 59 #[.val (.ref l0), .val (.ref a1), .val (.ref a2), .val (.int (Int32.ofNat (okf S cn (i + 1)))), .val (.int (Int32.ofNat i)), .val (.int (Int32.ofNat (cn i)))] [(.long (Int64.ofNat ((PF S cn R (i)) ((S 6) i)))), (.int (Int32.ofNat ((S 6) i))), (.ref a2)])
    refine w_iload X6 D10_59 rfl ?_
    refine w_i2l X6 D10_61 ?_
    refine w_aloadN X6 D10_62 rfl rfl ?_
    refine w_getF X6 D10_63 (hw _ (List.mem_of_getElem? (i := 32) rfl)) O.2.2.2.2.2.2.2.2.2.2.1 (fun T7 X7 => ?_)
    refine w_iload X7 D10_66 rfl ?_
    refine w_laload X7 D10_68 (M.at 3 rfl) i rfl (by omega) ?_
    show Wp _ _ _ _ _ _ _ _ (mkF m 69 #[.val (.ref l0), .val (.ref a1), .val (.ref a2), .val (.int (Int32.ofNat (okf S cn (i + 1)))), .val (.int (Int32.ofNat i)), .val (.int (Int32.ofNat (cn i)))] [(.long (Int64.ofNat (2 ^ ((S 8) i) - 1))), (.long ((Int32.ofNat (cn i)).toInt64)), (.long (Int64.ofNat ((PF S cn R (i)) ((S 6) i)))), (.int (Int32.ofNat ((S 6) i))), (.ref a2)])
    refine w_land X7 D10_69 ?_
    rw [n_i2lmask (cn i) (show S 8 i ≤ 32 by omega)]
    refine w_aloadN X7 D10_70 rfl rfl ?_
    refine w_getF X7 D10_71 (hw _ (List.mem_of_getElem? (i := 30) rfl)) O.2.2.2.2.2.2.2.2.2.1 (fun T8 X8 => ?_)
    refine w_iload X8 D10_74 rfl ?_
    refine w_iaload X8 D10_76 (M.at 4 rfl) i rfl (by omega) ?_
    show Wp _ _ _ _ _ _ _ _ (mkF m 77 #[.val (.ref l0), .val (.ref a1), .val (.ref a2), .val (.int (Int32.ofNat (okf S cn (i + 1)))), .val (.int (Int32.ofNat i)), .val (.int (Int32.ofNat (cn i)))] [(.int (Int32.ofNat ((S 7) i))), (.long (Int64.ofNat (cn i % 2 ^ S 8 i))), (.long (Int64.ofNat ((PF S cn R (i)) ((S 6) i)))), (.int (Int32.ofNat ((S 6) i))), (.ref a2)])
    refine w_lshl X8 D10_77 ?_
    rw [nL_shl (cn i % 2 ^ S 8 i) (show S 7 i < 64 by omega)]
    refine w_lor X8 D10_78 ?_
    rw [nL_or]
    refine w_lastore X8 D10_79 (M.at (iy + 12) (set_self hLz)) ((S 6) i) rfl (by omega) (fun T9 h9 X9 K9 B9 => ?_)
    rw [upd_nJ] at B9
    have O_K9 := O.keepB hw (M.at (iy + 12) (set_self hLz)) K9
    have M9 := M.st (iy + 12) (set_self hLz) K9 B9
    refine w_iinc X9 D10_80 (d := (1 : Int32)) (r := (Int32.ofNat (i + 1))) (l' := #[.val (.ref l0), .val (.ref a1), .val (.ref a2), .val (.int (Int32.ofNat (okf S cn (i + 1)))), .val (.int (Int32.ofNat (i + 1))), .val (.int (Int32.ofNat (cn i)))]) rfl rfl (n_add _ _) rfl ?_
    refine w_goto X9 D10_83 ?_
    have M9 : Mem Z n0 h9 (live ad S (cp E) (Lt.set iy (a2, .long, nr, bJ (nJ (PF S cn R (i + 1)))))) := by
      have z : Mem Z n0 h9 (live ad S (cp E) ((Lt.set iy (a2, .long, nr, bJ (nJ (PF S cn R (i))))).set iy _)) := M9
      rw [List.set_set] at z
      rw [PF_base S cn R hi]; exact z
    exact q _ _ _ X9 ⟨O_K9, M9⟩
set_option maxRecDepth 65536 in
set_option maxHeartbeats 40000000 in
theorem pxL {Z : State} {a0 : Array Value} {n0 : Nat} {p : Program} {l : Launch} {e : Env} {RR : Room} {s : State} {m : MethodId} {args : Array Value} {below : List Frame} {meth : Method} {c : Code} {k j : Nat} {Q : Option Value → Heap → Prop} (hw : ∀ d ∈ tables_1, d.before a0 Z = true) (l0 a1 a2 : Addr) (ad : Nat → Addr) (S : Nat → Nat → Nat) (E en rw nr : Nat) (cn R : Nat → Nat) (Lt : List Ent) (ix iy : Nat) (hLx : Lt[ix]? = some (a1, .int, 3, bI (nI cn))) (hne : ix ≠ iy) (hLy : ∃ z, Lt[iy]? = some z) (hnr : 3 ≤ nr) (hcn : ∀ s, s < 3 → cn s < 4294967296) (I : Inv S E en) (hE8 : E ≤ 8) (hr : 1 ≤ rw ∧ rw ≤ 3 ∧ en ≤ 64 * rw) (g : Nat) (z5 : Int32) : ∀ r i (T : State) (h : Heap), i + r = E → Pos Z a0 n0 p l e RR s m args below meth c prog_60_method_3_code 6 (some .boolean) (⟨"com/example/tokenfold/tokenfold/statespace/Packing", "pack", "([I[J)Z"⟩ : MethodName) T h k j → PK Z n0 h l0 ad S E (cp E) en rw (Lt.set iy (a2, .long, nr, bJ (nJ (PF S cn R (3 + i))))) → (∀ T' h' , Pos Z a0 n0 p l e RR s m args below meth c prog_60_method_3_code 6 (some .boolean) (⟨"com/example/tokenfold/tokenfold/statespace/Packing", "pack", "([I[J)Z"⟩ : MethodName) T' h' k j → PK Z n0 h' l0 ad S E (cp E) en rw (Lt.set iy (a2, .long, nr, bJ (nJ (PF S cn R (3 + E))))) → Wp n0 p e RR s below Q T' (mkF m 150 #[.val (.ref l0), .val (.ref a1), .val (.ref a2), .val (.int (Int32.ofNat g)), .val (.int (Int32.ofNat E)), .val (.int z5)] [])) → Wp n0 p e RR s below Q T (mkF m 89 #[.val (.ref l0), .val (.ref a1), .val (.ref a2), .val (.int (Int32.ofNat g)), .val (.int (Int32.ofNat i)), .val (.int z5)] []) := by
  obtain ⟨zz, hLz⟩ := hLy
  have hcp := cp_le hE8
  intro r
  induction r with
  | zero =>
    intro i T h hi X P q
    obtain rfl : i = E := by omega
    obtain ⟨O, M⟩ := P
    refine w_iload X D10_89 rfl ?_
    refine w_aloadN X D10_91 rfl rfl ?_
    refine w_getF X D10_92 (hw _ (List.mem_of_getElem? (i := 81) rfl)) O.2.2.2.2.2.2.2.2.2.2.2.2.2.2.1 (fun T1 X1 => ?_)
    refine w_icmpge X1 D10_95 (fun hc95 => ?_) (fun hc95 => by exact absurd hc95 (Int32.lt_irrefl))
    exact q _ _ X1 ⟨O, M⟩
  | succ r ih =>
    intro i T h hi X P q
    obtain ⟨O, M⟩ := P
    obtain ⟨b0, b1, b2, b3, b4, b5⟩ := I.ext hr.2.2 (show i < E by omega)
    have hci := hcn _ b0
    refine w_iload X D10_89 rfl ?_
    refine w_aloadN X D10_91 rfl rfl ?_
    refine w_getF X D10_92 (hw _ (List.mem_of_getElem? (i := 81) rfl)) O.2.2.2.2.2.2.2.2.2.2.2.2.2.2.1 (fun T1 X1 => ?_)
    refine w_icmpge X1 D10_95 (fun hc95 => by exact absurd ((ofNat_lt (by omega) (by omega)).mpr (by omega)) hc95) (fun hc95 => ?_)
    refine w_aloadN X1 D10_98 rfl rfl ?_
    refine w_aloadN X1 D10_99 rfl rfl ?_
    refine w_getF X1 D10_100 (hw _ (List.mem_of_getElem? (i := 18) rfl)) O.2.2.2.1 (fun T2 X2 => ?_)
    refine w_iload X2 D10_103 rfl ?_
    refine w_iaload X2 D10_105 (M.at 10 rfl) i rfl (by omega) ?_
    show Wp _ _ _ _ _ _ _ _ (mkF m 106 #[.val (.ref l0), .val (.ref a1), .val (.ref a2), .val (.int (Int32.ofNat g)), .val (.int (Int32.ofNat i)), .val (.int z5)] [(.int (Int32.ofNat ((S 1) i))), (.ref a2)])
    refine w_dup2 X2 D10_106 rfl rfl ?_
    refine w_laload X2 D10_107 (M.at (iy + 12) (set_self hLz)) ((S 1) i) rfl (by omega) ?_
    show Wp _ _ _ _ _ _ _ _ (mkF m 108 #[.val (.ref l0), .val (.ref a1), .val (.ref a2), .val (.int (Int32.ofNat g)), .val (.int (Int32.ofNat i)), .val (.int z5)] [(.long (Int64.ofNat ((PF S cn R (3 + i)) ((S 1) i)))), (.int (Int32.ofNat ((S 1) i))), (.ref a2)])
    refine w_aloadN X2 D10_108 rfl rfl ?_
    refine w_aloadN X2 D10_109 rfl rfl ?_
    refine w_getF X2 D10_110 (hw _ (List.mem_of_getElem? (i := 16) rfl)) O.2.2.1 (fun T3 X3 => ?_)
    refine w_iload X3 D10_113 rfl ?_
    refine w_iaload X3 D10_115 (M.at 11 rfl) i rfl (by omega) ?_
    show Wp _ _ _ _ _ _ _ _ (mkF m 116 #[.val (.ref l0), .val (.ref a1), .val (.ref a2), .val (.int (Int32.ofNat g)), .val (.int (Int32.ofNat i)), .val (.int z5)] [(.int (Int32.ofNat ((S 0) i))), (.ref a1), (.long (Int64.ofNat ((PF S cn R (3 + i)) ((S 1) i)))), (.int (Int32.ofNat ((S 1) i))), (.ref a2)])
    refine w_iaload X3 D10_116 (M.at (ix + 12) (set_ne hne hLx)) ((S 0) i) rfl (by omega) ?_
    show Wp _ _ _ _ _ _ _ _ (mkF m 117 #[.val (.ref l0), .val (.ref a1), .val (.ref a2), .val (.int (Int32.ofNat g)), .val (.int (Int32.ofNat i)), .val (.int z5)] [(.int (Int32.ofNat (cn ((S 0) i)))), (.long (Int64.ofNat ((PF S cn R (3 + i)) ((S 1) i)))), (.int (Int32.ofNat ((S 1) i))), (.ref a2)])
    refine w_aloadN X3 D10_117 rfl rfl ?_
    refine w_getF X3 D10_118 (hw _ (List.mem_of_getElem? (i := 22) rfl)) O.2.2.2.2.2.1 (fun T4 X4 => ?_)
    refine w_iload X4 D10_121 rfl ?_
    refine w_iaload X4 D10_123 (M.at 8 rfl) i rfl (by omega) ?_
    show Wp _ _ _ _ _ _ _ _ (mkF m 124 #[.val (.ref l0), .val (.ref a1), .val (.ref a2), .val (.int (Int32.ofNat g)), .val (.int (Int32.ofNat i)), .val (.int z5)] [(.int (Int32.ofNat ((S 3) i))), (.int (Int32.ofNat (cn ((S 0) i)))), (.long (Int64.ofNat ((PF S cn R (3 + i)) ((S 1) i)))), (.int (Int32.ofNat ((S 1) i))), (.ref a2)])
    refine w_iushr X4 D10_124 ?_
    rw [n_ushrU hci (show S 3 i < 32 by omega)]
    refine w_i2l X4 D10_125 ?_
    refine w_aloadN X4 D10_126 rfl rfl ?_
    refine w_getF X4 D10_127 (hw _ (List.mem_of_getElem? (i := 24) rfl)) O.2.2.2.2.2.2.1 (fun T5 X5 => ?_)
    refine w_iload X5 D10_130 rfl ?_
    refine w_laload X5 D10_132 (M.at 7 rfl) i rfl (by omega) ?_
    show Wp _ _ _ _ _ _ _ _ (mkF m 133 #[.val (.ref l0), .val (.ref a1), .val (.ref a2), .val (.int (Int32.ofNat g)), .val (.int (Int32.ofNat i)), .val (.int z5)] [(.long (Int64.ofNat (2 ^ ((S 4) i) - 1))), (.long ((Int32.ofNat (cn (S 0 i) / 2 ^ S 3 i)).toInt64)), (.long (Int64.ofNat ((PF S cn R (3 + i)) ((S 1) i)))), (.int (Int32.ofNat ((S 1) i))), (.ref a2)])
    refine w_land X5 D10_133 ?_
    rw [n_i2lmask (cn (S 0 i) / 2 ^ S 3 i) (show S 4 i ≤ 32 by omega)]
    refine w_aloadN X5 D10_134 rfl rfl ?_
    refine w_getF X5 D10_135 (hw _ (List.mem_of_getElem? (i := 20) rfl)) O.2.2.2.2.1 (fun T6 X6 => ?_)
    refine w_iload X6 D10_138 rfl ?_
    refine w_iaload X6 D10_140 (M.at 9 rfl) i rfl (by omega) ?_
    show Wp _ _ _ _ _ _ _ _ (mkF m 141 #[.val (.ref l0), .val (.ref a1), .val (.ref a2), .val (.int (Int32.ofNat g)), .val (.int (Int32.ofNat i)), .val (.int z5)] [(.int (Int32.ofNat ((S 2) i))), (.long (Int64.ofNat (cn (S 0 i) / 2 ^ S 3 i % 2 ^ S 4 i))), (.long (Int64.ofNat ((PF S cn R (3 + i)) ((S 1) i)))), (.int (Int32.ofNat ((S 1) i))), (.ref a2)])
    refine w_lshl X6 D10_141 ?_
    rw [nL_shl (cn (S 0 i) / 2 ^ S 3 i % 2 ^ S 4 i) (show S 2 i < 64 by omega)]
    refine w_lor X6 D10_142 ?_
    rw [nL_or]
    refine w_lastore X6 D10_143 (M.at (iy + 12) (set_self hLz)) ((S 1) i) rfl (by omega) (fun T7 h7 X7 K7 B7 => ?_)
    rw [upd_nJ] at B7
    have O_K7 := O.keepB hw (M.at (iy + 12) (set_self hLz)) K7
    have M7 := M.st (iy + 12) (set_self hLz) K7 B7
    refine w_iinc X7 D10_144 (d := (1 : Int32)) (r := (Int32.ofNat (i + 1))) (l' := #[.val (.ref l0), .val (.ref a1), .val (.ref a2), .val (.int (Int32.ofNat g)), .val (.int (Int32.ofNat (i + 1))), .val (.int z5)]) rfl rfl (n_add _ _) rfl ?_
    refine w_goto X7 D10_147 ?_
    have M9 : Mem Z n0 h7 (live ad S (cp E) (Lt.set iy (a2, .long, nr, bJ (nJ (PF S cn R (3 + (i + 1))))))) := by
      have z : Mem Z n0 h7 (live ad S (cp E) ((Lt.set iy (a2, .long, nr, bJ (nJ (PF S cn R (3 + i))))).set iy _)) := M7
      rw [List.set_set] at z
      rw [PF_ext]; exact z
    exact ih (i + 1) _ _ (by omega) X7 ⟨O_K7, M9⟩ q
theorem ef_10 (m : MethodId) (l0 : Addr) (a1 : Addr) (a2 : Addr) : entryFrame m #[(.ref l0), (.ref a1), (.ref a2)] 6 = mkF m 0 #[.val (.ref l0), .val (.ref a1), .val (.ref a2), .unset, .unset, .unset] [] := by first | (simp [entryFrame, mkF, argsToLocals, Value.category]; done) | rfl
theorem pn_10 : plainName "com/example/tokenfold/tokenfold/statespace/Packing" = true := by first | (simp [plainName, overriddenIn]; done) | decide +kernel
set_option maxRecDepth 65536 in
set_option maxHeartbeats 40000000 in
theorem rmPk {l : Launch} {Z : State} {a0 : Array Value} {n0 : Nat} {h : Heap} (hw : ∀ d ∈ tables_1, d.before a0 Z = true) (hn : n0 ≤ h.size) (l0 : Addr) (a1 : Addr) (a2 : Addr) (ad : Nat → Addr) (S : Nat → Nat → Nat) (E en rw nr : Nat) (cn R : Nat → Nat) (Lt : List Ent) (ix iy : Nat) (hLx : Lt[ix]? = some (a1, .int, 3, bI (nI cn))) (hne : ix ≠ iy) (hLy : Lt[iy]? = some (a2, .long, nr, bJ (nJ R))) (hnr : 3 ≤ nr) (hcn : ∀ s, s < 3 → cn s < 4294967296) (I : Inv S E en) (hE8 : E ≤ 8) (hr : 1 ≤ rw ∧ rw ≤ 3 ∧ en ≤ 64 * rw) (hnr2 : nr < 100) (P : PK Z n0 h l0 ad S E (cp E) en rw Lt) :
    Ctr l Z n0 (⟨"com/example/tokenfold/tokenfold/statespace/Packing", "pack", "([I[J)Z"⟩ : MethodName) prog_60_method_3_code 6 (some .boolean) ({ frames := 2, cells := 0, slots := 0, locals := 40 } : Room) [] #[(.ref l0), (.ref a1), (.ref a2)] h (fun v h' => v = some (.int (Int32.ofNat (okf S cn 3))) ∧ PK Z n0 h' l0 ad S E (cp E) en rw (Lt.set iy (a2, .long, nr, bJ (nJ (PF S cn (fun i => if i < rw then 0 else R i) (3 + E)))))) := by
  refine ctr_of (plainFor_of_name pn_10) hw hn ?_
  intro p e s m below meth c T X
  refine Wp.cast (ef_10 m l0 a1 a2) ?_
  obtain ⟨O, M⟩ := P
  refine w_aloadN X D10_0 rfl rfl ?_
  refine w_iconst X D10_1 (v := (0 : Int32)) rfl ?_
  refine w_aloadN X D10_2 rfl rfl ?_
  refine w_getF X D10_3 (hw _ (List.mem_of_getElem? (i := 63) rfl)) O.2.2.2.2.2.2.2.2.2.2.2.2.2.2.2.2 (fun T1 X1 => ?_)
  refine w_lconst0 X1 D10_6 ?_
  show Wp _ _ _ _ _ _ _ _ (mkF m 7 #[.val (.ref l0), .val (.ref a1), .val (.ref a2), .unset, .unset, .unset] [.long (Int64.ofNat 0), .int (Int32.ofNat rw), .int (Int32.ofNat 0), .ref a2])
  refine w_static X1 D10_7 (rmFJ hw X1.sz a2 _ _ _ nr rw R rfl rfl rfl (by omega) (by omega) (by omega) (M.at (iy + 12) hLy)) (hw _ (List.mem_of_getElem? (i := 75) rfl)) (hw _ (List.mem_of_getElem? (i := 76) rfl)) (hw _ (List.mem_of_getElem? (i := 42) rfl)) (hw _ (List.mem_of_getElem? (i := 77) rfl)) (by decide) pd_10 rfl (S := []) rfl rfl (Nat.le_of_ble_eq_true rfl) (Nat.le_of_ble_eq_true rfl) (Nat.le_of_ble_eq_true rfl) (Nat.le_of_ble_eq_true rfl) (fun v2 T2 h2 X2 q2 => ?_)
  obtain ⟨rfl, K2, B2⟩ := q2
  have O9 := O.keepB hw (M.at (iy + 12) hLy) K2
  have M9 : Mem Z n0 h2 (live ad S (cp E) (Lt.set iy (a2, .long, nr, bJ (nJ (PF S cn (fun i => if i < rw then 0 else R i) 0))))) := M.st (iy + 12) hLy K2 B2
  show Wp _ _ _ _ _ _ _ _ (mkF m 10 #[.val (.ref l0), .val (.ref a1), .val (.ref a2), .unset, .unset, .unset] [])
  refine w_iconst X2 D10_10 (v := (1 : Int32)) rfl ?_
  refine w_istoreN X2 D10_11 (l' := #[.val (.ref l0), .val (.ref a1), .val (.ref a2), .val (.int (1 : Int32)), .unset, .unset]) rfl ?_
  refine w_iconst X2 D10_12 (v := (0 : Int32)) rfl ?_
  refine w_istore X2 D10_13 (l' := #[.val (.ref l0), .val (.ref a1), .val (.ref a2), .val (.int (1 : Int32)), .val (.int (0 : Int32)), .unset]) rfl ?_
  show Wp _ _ _ _ _ _ _ _ (mkF m 15 #[.val (.ref l0), .val (.ref a1), .val (.ref a2), .val (.int (Int32.ofNat (okf S cn 0))), .val (.int (Int32.ofNat 0)), .unset] [])
  refine pkT hw X2 l0 a1 a2 ad S E en rw nr cn (fun i => if i < rw then 0 else R i) Lt ix iy hLx hne ⟨_, hLy⟩ hnr hcn I hE8 hr 0 (by decide) _ One.u ⟨O9, M9⟩ (fun T50 h50 z50 X50 P50 => ?_)
  refine pkT hw X50 l0 a1 a2 ad S E en rw nr cn (fun i => if i < rw then 0 else R i) Lt ix iy hLx hne ⟨_, hLy⟩ hnr hcn I hE8 hr 1 (by decide) _ (One.val rfl) P50 (fun T51 h51 z51 X51 P51 => ?_)
  refine pkT hw X51 l0 a1 a2 ad S E en rw nr cn (fun i => if i < rw then 0 else R i) Lt ix iy hLx hne ⟨_, hLy⟩ hnr hcn I hE8 hr 2 (by decide) _ (One.val rfl) P51 (fun T52 h52 z52 X52 P52 => ?_)
  obtain ⟨O, M⟩ := P52
  refine w_iload X52 D10_15 rfl ?_
  refine w_aloadN X52 D10_17 rfl rfl ?_
  refine w_arraylength X52 D10_18 (M.at (ix + 12) (set_ne hne hLx)) ?_
  refine w_icmpge X52 D10_19 (fun hc19 => ?_) (fun hc19 => by exact absurd hc19 (by decide))
  refine w_iconst X52 D10_86 (v := (0 : Int32)) rfl ?_
  show Wp _ _ _ _ _ _ _ _ (mkF m 87 #[.val (.ref l0), .val (.ref a1), .val (.ref a2), .val (.int (Int32.ofNat (okf S cn (2 + 1)))), .val (.int (Int32.ofNat (2 + 1))), .val (.int z52)] [.int (Int32.ofNat 0)])
  refine w_istore X52 D10_87 (l' := #[.val (.ref l0), .val (.ref a1), .val (.ref a2), .val (.int (Int32.ofNat (okf S cn (2 + 1)))), .val (.int (Int32.ofNat 0)), .val (.int z52)]) rfl ?_
  refine pxL hw l0 a1 a2 ad S E en rw nr cn (fun i => if i < rw then 0 else R i) Lt ix iy hLx hne ⟨_, hLy⟩ hnr hcn I hE8 hr (okf S cn 3) z52 E 0 _ _ (by omega) X52 ⟨O, M⟩ (fun T90 h90 X90 P90 => ?_)
  refine w_iloadN X90 D10_150 rfl ?_
  exact w_zreturn X90 D10_151 (by decide) (by decide) (⟨by rcases okf01 S cn 3 with h | h <;> rw [h] <;> rfl, P90⟩)
-- CUT
set_option maxRecDepth 65536 in
set_option maxHeartbeats 40000000 in
theorem upT {Z : State} {a0 : Array Value} {n0 : Nat} {p : Program} {l : Launch} {e : Env} {RR : Room} {s : State} {m : MethodId} {args : Array Value} {below : List Frame} {meth : Method} {c : Code} {T : State} {h : Heap} {k j : Nat} {Q : Option Value → Heap → Prop} (hw : ∀ d ∈ tables_1, d.before a0 Z = true) (X : Pos Z a0 n0 p l e RR s m args below meth c prog_60_method_5_code 7 none (⟨"com/example/tokenfold/tokenfold/statespace/Packing", "unpack", "([JI[I)V"⟩ : MethodName) T h k j) (l0 a2 a3 : Addr) (ad : Nat → Addr) (S : Nat → Nat → Nat) (E en rw nr off : Nat) (R : Nat → Nat) (g : Nat → Int32) (Lt : List Ent) (iy iz : Nat) (hLy : Lt[iy]? = some (a2, .long, nr, bJ (nJ R))) (hne : iy ≠ iz) (hLz : ∃ z, Lt[iz]? = some z) (hR : ∀ i, R i < 18446744073709551616) (hnr : off + 3 ≤ nr) (hnr2 : nr < 100) (I : Inv S E en) (hE8 : E ≤ 8) (hr : 1 ≤ rw ∧ rw ≤ 3 ∧ en ≤ 64 * rw) (i : Nat) (hi : i < 3) (P : PK Z n0 h l0 ad S E (cp E) en rw (Lt.set iz (a3, .int, 3, bI (ub S R off g (i))))) (q : ∀ T' h', Pos Z a0 n0 p l e RR s m args below meth c prog_60_method_5_code 7 none (⟨"com/example/tokenfold/tokenfold/statespace/Packing", "unpack", "([JI[I)V"⟩ : MethodName) T' h' k j → PK Z n0 h' l0 ad S E (cp E) en rw (Lt.set iz (a3, .int, 3, bI (ub S R off g (i + 1)))) → Wp n0 p e RR s below Q T' (mkF m 3 #[.val (.ref l0), .val (.ref a2), .val (.int (Int32.ofNat off)), .val (.ref a3), .val (.int (Int32.ofNat (i + 1))), .unset, .unset] [])) : Wp n0 p e RR s below Q T (mkF m 3 #[.val (.ref l0), .val (.ref a2), .val (.int (Int32.ofNat off)), .val (.ref a3), .val (.int (Int32.ofNat i)), .unset, .unset] []) := by
  obtain ⟨O, M⟩ := P
  obtain ⟨zz, hLq⟩ := hLz
  obtain ⟨b1, b2, b3, b4, b5, b6⟩ := I.base hr.2.2 hi
  refine w_iload X D14_3 rfl ?_
  refine w_aloadN X D14_5 rfl rfl ?_
  refine w_arraylength X D14_6 (M.at (iz + 12) (set_self hLq)) ?_
  refine w_icmpge X D14_7 (fun hc7 => by exact absurd ((ofNat_lt (by omega) (by decide)).mpr hi) hc7) (fun hc7 => ?_)
  refine w_aloadN X D14_10 rfl rfl ?_
  refine w_iload X D14_11 rfl ?_
  refine w_aloadN X D14_13 rfl rfl ?_
  refine w_iloadN X D14_14 rfl ?_
  refine w_aloadN X D14_15 rfl rfl ?_
  refine w_getF X D14_16 (hw _ (List.mem_of_getElem? (i := 28) rfl)) O.2.2.2.2.2.2.2.2.1 (fun T1 X1 => ?_)
  refine w_iload X1 D14_19 rfl ?_
  refine w_iaload X1 D14_21 (M.at 5 rfl) i rfl (by omega) ?_
  show Wp _ _ _ _ _ _ _ _ (mkF m 22 #[.val (.ref l0), .val (.ref a2), .val (.int (Int32.ofNat off)), .val (.ref a3), .val (.int (Int32.ofNat i)), .unset, .unset] [(.int (Int32.ofNat ((S 6) i))), (.int (Int32.ofNat off)), (.ref a2), (.int (Int32.ofNat i)), (.ref a3)])
  refine w_iadd X1 D14_22 ?_
  rw [n_add]
  refine w_laload X1 D14_23 (M.at (iy + 12) (set_ne hne hLy)) (off + S 6 i) rfl (by omega) ?_
  show Wp _ _ _ _ _ _ _ _ (mkF m 24 #[.val (.ref l0), .val (.ref a2), .val (.int (Int32.ofNat off)), .val (.ref a3), .val (.int (Int32.ofNat i)), .unset, .unset] [(.long (Int64.ofNat (R (off + S 6 i)))), (.int (Int32.ofNat i)), (.ref a3)])
  refine w_aloadN X1 D14_24 rfl rfl ?_
  refine w_getF X1 D14_25 (hw _ (List.mem_of_getElem? (i := 30) rfl)) O.2.2.2.2.2.2.2.2.2.1 (fun T2 X2 => ?_)
  refine w_iload X2 D14_28 rfl ?_
  refine w_iaload X2 D14_30 (M.at 4 rfl) i rfl (by omega) ?_
  show Wp _ _ _ _ _ _ _ _ (mkF m 31 #[.val (.ref l0), .val (.ref a2), .val (.int (Int32.ofNat off)), .val (.ref a3), .val (.int (Int32.ofNat i)), .unset, .unset] [(.int (Int32.ofNat ((S 7) i))), (.long (Int64.ofNat (R (off + S 6 i)))), (.int (Int32.ofNat i)), (.ref a3)])
  refine w_lushr X2 D14_31 ?_
  rw [nL_ushrU (hR _) (show S 7 i < 64 by omega)]
  refine w_aloadN X2 D14_32 rfl rfl ?_
  refine w_getF X2 D14_33 (hw _ (List.mem_of_getElem? (i := 32) rfl)) O.2.2.2.2.2.2.2.2.2.2.1 (fun T3 X3 => ?_)
  refine w_iload X3 D14_36 rfl ?_
  refine w_laload X3 D14_38 (M.at 3 rfl) i rfl (by omega) ?_
  show Wp _ _ _ _ _ _ _ _ (mkF m 39 #[.val (.ref l0), .val (.ref a2), .val (.int (Int32.ofNat off)), .val (.ref a3), .val (.int (Int32.ofNat i)), .unset, .unset] [(.long (Int64.ofNat (2 ^ ((S 8) i) - 1))), (.long (Int64.ofNat (R (off + S 6 i) / 2 ^ S 7 i))), (.int (Int32.ofNat i)), (.ref a3)])
  refine w_land X3 D14_39 ?_
  rw [nL_low]
  refine w_l2i X3 D14_40 ?_
  rw [n_l2i]
  refine w_iastore X3 D14_41 (M.at (iz + 12) (set_self hLq)) i rfl (by omega) (fun T4 h4 X4 K4 B4 => ?_)
  have O_K4 := O.keepB hw (M.at (iz + 12) (set_self hLq)) K4
  have M4 := M.st (iz + 12) (set_self hLq) K4 B4
  refine w_iinc X4 D14_42 (d := (1 : Int32)) (r := (Int32.ofNat (i + 1))) (l' := #[.val (.ref l0), .val (.ref a2), .val (.int (Int32.ofNat off)), .val (.ref a3), .val (.int (Int32.ofNat (i + 1))), .unset, .unset]) rfl rfl (n_add _ _) rfl ?_
  refine w_goto X4 D14_45 ?_
  have M9 : Mem Z n0 h4 (live ad S (cp E) (Lt.set iz (a3, .int, 3, bI (ub S R off g (i + 1))))) := by
    have z : Mem Z n0 h4 (live ad S (cp E) ((Lt.set iz (a3, .int, 3, bI (ub S R off g (i)))).set iz _)) := M4
    rw [List.set_set] at z
    exact z
  exact q _ _ X4 ⟨O_K4, M9⟩
set_option maxRecDepth 65536 in
set_option maxHeartbeats 40000000 in
theorem uxL {Z : State} {a0 : Array Value} {n0 : Nat} {p : Program} {l : Launch} {e : Env} {RR : Room} {s : State} {m : MethodId} {args : Array Value} {below : List Frame} {meth : Method} {c : Code} {k j : Nat} {Q : Option Value → Heap → Prop} (hw : ∀ d ∈ tables_1, d.before a0 Z = true) (l0 a2 a3 : Addr) (ad : Nat → Addr) (S : Nat → Nat → Nat) (E en rw nr off : Nat) (R : Nat → Nat) (g : Nat → Int32) (Lt : List Ent) (iy iz : Nat) (hLy : Lt[iy]? = some (a2, .long, nr, bJ (nJ R))) (hne : iy ≠ iz) (hLz : ∃ z, Lt[iz]? = some z) (hR : ∀ i, R i < 18446744073709551616) (hnr : off + 3 ≤ nr) (hnr2 : nr < 100) (I : Inv S E en) (hE8 : E ≤ 8) (hr : 1 ≤ rw ∧ rw ≤ 3 ∧ en ≤ 64 * rw) (hk : k ≤ RR.cells) (hj : j ≤ RR.slots) (q : ∀ h', PK Z n0 h' l0 ad S E (cp E) en rw (Lt.set iz (a3, .int, 3, bI (nI (UF S R off (3 + E))))) → Q none h') : ∀ r i (T : State) (h : Heap) (s5 s6 : Slot), ((s5 = .unset ∧ s6 = .unset) ∨ ∃ z : Int64, s5 = .val (.long z) ∧ s6 = .second) → i + r = E → Pos Z a0 n0 p l e RR s m args below meth c prog_60_method_5_code 7 none (⟨"com/example/tokenfold/tokenfold/statespace/Packing", "unpack", "([JI[I)V"⟩ : MethodName) T h k j → PK Z n0 h l0 ad S E (cp E) en rw (Lt.set iz (a3, .int, 3, bI (nI (UF S R off (3 + i))))) → Wp n0 p e RR s below Q T (mkF m 51 #[.val (.ref l0), .val (.ref a2), .val (.int (Int32.ofNat off)), .val (.ref a3), .val (.int (Int32.ofNat i)), s5, s6] []) := by
  obtain ⟨zz, hLq⟩ := hLz
  have hcp := cp_le hE8
  intro r
  induction r with
  | zero =>
    intro i T h s5 s6 hs hi X P
    obtain rfl : i = E := by omega
    obtain ⟨O, M⟩ := P
    refine w_iload X D14_51 rfl ?_
    refine w_aloadN X D14_53 rfl rfl ?_
    refine w_getF X D14_54 (hw _ (List.mem_of_getElem? (i := 81) rfl)) O.2.2.2.2.2.2.2.2.2.2.2.2.2.2.1 (fun T1 X1 => ?_)
    refine w_icmpge X1 D14_57 (fun hc57 => ?_) (fun hc57 => by exact absurd hc57 (Int32.lt_irrefl))
    exact w_return X1 D14_118 hk hj (q _ ⟨O, M⟩)
  | succ r ih =>
    intro i T h s5 s6 hs hi X P
    obtain ⟨O, M⟩ := P
    obtain ⟨b0, b1, b2, b3, b4, b5⟩ := I.ext hr.2.2 (show i < E by omega)
    rcases hs with ⟨rfl, rfl⟩ | ⟨z5, rfl, rfl⟩
    · refine w_iload X D14_51 rfl ?_
      refine w_aloadN X D14_53 rfl rfl ?_
      refine w_getF X D14_54 (hw _ (List.mem_of_getElem? (i := 81) rfl)) O.2.2.2.2.2.2.2.2.2.2.2.2.2.2.1 (fun T1 X1 => ?_)
      refine w_icmpge X1 D14_57 (fun hc57 => by exact absurd ((ofNat_lt (by omega) (by omega)).mpr (by omega)) hc57) (fun hc57 => ?_)
      refine w_aloadN X1 D14_60 rfl rfl ?_
      refine w_iloadN X1 D14_61 rfl ?_
      refine w_aloadN X1 D14_62 rfl rfl ?_
      refine w_getF X1 D14_63 (hw _ (List.mem_of_getElem? (i := 18) rfl)) O.2.2.2.1 (fun T2 X2 => ?_)
      refine w_iload X2 D14_66 rfl ?_
      refine w_iaload X2 D14_68 (M.at 10 rfl) i rfl (by omega) ?_
      show Wp _ _ _ _ _ _ _ _ (mkF m 69 #[.val (.ref l0), .val (.ref a2), .val (.int (Int32.ofNat off)), .val (.ref a3), .val (.int (Int32.ofNat i)), .unset, .unset] [(.int (Int32.ofNat ((S 1) i))), (.int (Int32.ofNat off)), (.ref a2)])
      refine w_iadd X2 D14_69 ?_
      rw [n_add]
      refine w_laload X2 D14_70 (M.at (iy + 12) (set_ne hne hLy)) (off + S 1 i) rfl (by omega) ?_
      show Wp _ _ _ _ _ _ _ _ (mkF m 71 #[.val (.ref l0), .val (.ref a2), .val (.int (Int32.ofNat off)), .val (.ref a3), .val (.int (Int32.ofNat i)), .unset, .unset] [(.long (Int64.ofNat (R (off + S 1 i))))])
      refine w_lstore X2 D14_71 (l' := #[.val (.ref l0), .val (.ref a2), .val (.int (Int32.ofNat off)), .val (.ref a3), .val (.int (Int32.ofNat i)), .val (.long (Int64.ofNat (R (off + S 1 i)))), .second]) rfl ?_
      refine w_aloadN X2 D14_73 rfl rfl ?_
      refine w_aloadN X2 D14_74 rfl rfl ?_
      refine w_getF X2 D14_75 (hw _ (List.mem_of_getElem? (i := 16) rfl)) O.2.2.1 (fun T3 X3 => ?_)
      refine w_iload X3 D14_78 rfl ?_
      refine w_iaload X3 D14_80 (M.at 11 rfl) i rfl (by omega) ?_
      show Wp _ _ _ _ _ _ _ _ (mkF m 81 #[.val (.ref l0), .val (.ref a2), .val (.int (Int32.ofNat off)), .val (.ref a3), .val (.int (Int32.ofNat i)), .val (.long (Int64.ofNat (R (off + S 1 i)))), .second] [(.int (Int32.ofNat ((S 0) i))), (.ref a3)])
      refine w_dup2 X3 D14_81 rfl rfl ?_
      refine w_iaload X3 D14_82 (M.at (iz + 12) (set_self hLq)) ((S 0) i) rfl (by omega) ?_
      show Wp _ _ _ _ _ _ _ _ (mkF m 83 #[.val (.ref l0), .val (.ref a2), .val (.int (Int32.ofNat off)), .val (.ref a3), .val (.int (Int32.ofNat i)), .val (.long (Int64.ofNat (R (off + S 1 i)))), .second] [(.int (Int32.ofNat ((UF S R off (3 + i)) ((S 0) i)))), (.int (Int32.ofNat ((S 0) i))), (.ref a3)])
      refine w_lload X3 D14_83 rfl ?_
      refine w_aloadN X3 D14_85 rfl rfl ?_
      refine w_getF X3 D14_86 (hw _ (List.mem_of_getElem? (i := 20) rfl)) O.2.2.2.2.1 (fun T4 X4 => ?_)
      refine w_iload X4 D14_89 rfl ?_
      refine w_iaload X4 D14_91 (M.at 9 rfl) i rfl (by omega) ?_
      show Wp _ _ _ _ _ _ _ _ (mkF m 92 #[.val (.ref l0), .val (.ref a2), .val (.int (Int32.ofNat off)), .val (.ref a3), .val (.int (Int32.ofNat i)), .val (.long (Int64.ofNat (R (off + S 1 i)))), .second] [(.int (Int32.ofNat ((S 2) i))), (.long (Int64.ofNat (R (off + S 1 i)))), (.int (Int32.ofNat ((UF S R off (3 + i)) ((S 0) i)))), (.int (Int32.ofNat ((S 0) i))), (.ref a3)])
      refine w_lushr X4 D14_92 ?_
      rw [nL_ushrU (hR _) (show S 2 i < 64 by omega)]
      refine w_aloadN X4 D14_93 rfl rfl ?_
      refine w_getF X4 D14_94 (hw _ (List.mem_of_getElem? (i := 24) rfl)) O.2.2.2.2.2.2.1 (fun T5 X5 => ?_)
      refine w_iload X5 D14_97 rfl ?_
      refine w_laload X5 D14_99 (M.at 7 rfl) i rfl (by omega) ?_
      show Wp _ _ _ _ _ _ _ _ (mkF m 100 #[.val (.ref l0), .val (.ref a2), .val (.int (Int32.ofNat off)), .val (.ref a3), .val (.int (Int32.ofNat i)), .val (.long (Int64.ofNat (R (off + S 1 i)))), .second] [(.long (Int64.ofNat (2 ^ ((S 4) i) - 1))), (.long (Int64.ofNat (R (off + S 1 i) / 2 ^ S 2 i))), (.int (Int32.ofNat ((UF S R off (3 + i)) ((S 0) i)))), (.int (Int32.ofNat ((S 0) i))), (.ref a3)])
      refine w_land X5 D14_100 ?_
      rw [nL_low]
      refine w_l2i X5 D14_101 ?_
      rw [n_l2i]
      refine w_aloadN X5 D14_102 rfl rfl ?_
      refine w_getF X5 D14_103 (hw _ (List.mem_of_getElem? (i := 22) rfl)) O.2.2.2.2.2.1 (fun T6 X6 => ?_)
      refine w_iload X6 D14_106 rfl ?_
      refine w_iaload X6 D14_108 (M.at 8 rfl) i rfl (by omega) ?_
      show Wp _ _ _ _ _ _ _ _ (mkF m 109 #[.val (.ref l0), .val (.ref a2), .val (.int (Int32.ofNat off)), .val (.ref a3), .val (.int (Int32.ofNat i)), .val (.long (Int64.ofNat (R (off + S 1 i)))), .second] [(.int (Int32.ofNat ((S 3) i))), (.int (Int32.ofNat (R (off + S 1 i) / 2 ^ S 2 i % 2 ^ S 4 i))), (.int (Int32.ofNat ((UF S R off (3 + i)) ((S 0) i)))), (.int (Int32.ofNat ((S 0) i))), (.ref a3)])
      refine w_ishl X6 D14_109 ?_
      rw [n_shl (R (off + S 1 i) / 2 ^ S 2 i % 2 ^ S 4 i) (show S 3 i < 32 by omega)]
      refine w_ior X6 D14_110 ?_
      rw [n_or]
      refine w_iastore X6 D14_111 (M.at (iz + 12) (set_self hLq)) ((S 0) i) rfl (by omega) (fun T7 h7 X7 K7 B7 => ?_)
      rw [upd_nI] at B7
      have O_K7 := O.keepB hw (M.at (iz + 12) (set_self hLq)) K7
      have M7 := M.st (iz + 12) (set_self hLq) K7 B7
      refine w_iinc X7 D14_112 (d := (1 : Int32)) (r := (Int32.ofNat (i + 1))) (l' := #[.val (.ref l0), .val (.ref a2), .val (.int (Int32.ofNat off)), .val (.ref a3), .val (.int (Int32.ofNat (i + 1))), .val (.long (Int64.ofNat (R (off + S 1 i)))), .second]) rfl rfl (n_add _ _) rfl ?_
      refine w_goto X7 D14_115 ?_
      have M9 : Mem Z n0 h7 (live ad S (cp E) (Lt.set iz (a3, .int, 3, bI (nI (UF S R off (3 + (i + 1))))))) := by
        have z : Mem Z n0 h7 (live ad S (cp E) ((Lt.set iz (a3, .int, 3, bI (nI (UF S R off (3 + i))))).set iz _)) := M7
        rw [List.set_set] at z
        rw [UF_ext]; exact z
      exact ih (i + 1) _ _ _ _ (Or.inr ⟨_, rfl, rfl⟩) (by omega) X7 ⟨O_K7, M9⟩
    · refine w_iload X D14_51 rfl ?_
      refine w_aloadN X D14_53 rfl rfl ?_
      refine w_getF X D14_54 (hw _ (List.mem_of_getElem? (i := 81) rfl)) O.2.2.2.2.2.2.2.2.2.2.2.2.2.2.1 (fun T1 X1 => ?_)
      refine w_icmpge X1 D14_57 (fun hc57 => by exact absurd ((ofNat_lt (by omega) (by omega)).mpr (by omega)) hc57) (fun hc57 => ?_)
      refine w_aloadN X1 D14_60 rfl rfl ?_
      refine w_iloadN X1 D14_61 rfl ?_
      refine w_aloadN X1 D14_62 rfl rfl ?_
      refine w_getF X1 D14_63 (hw _ (List.mem_of_getElem? (i := 18) rfl)) O.2.2.2.1 (fun T2 X2 => ?_)
      refine w_iload X2 D14_66 rfl ?_
      refine w_iaload X2 D14_68 (M.at 10 rfl) i rfl (by omega) ?_
      show Wp _ _ _ _ _ _ _ _ (mkF m 69 #[.val (.ref l0), .val (.ref a2), .val (.int (Int32.ofNat off)), .val (.ref a3), .val (.int (Int32.ofNat i)), .val (.long z5), .second] [(.int (Int32.ofNat ((S 1) i))), (.int (Int32.ofNat off)), (.ref a2)])
      refine w_iadd X2 D14_69 ?_
      rw [n_add]
      refine w_laload X2 D14_70 (M.at (iy + 12) (set_ne hne hLy)) (off + S 1 i) rfl (by omega) ?_
      show Wp _ _ _ _ _ _ _ _ (mkF m 71 #[.val (.ref l0), .val (.ref a2), .val (.int (Int32.ofNat off)), .val (.ref a3), .val (.int (Int32.ofNat i)), .val (.long z5), .second] [(.long (Int64.ofNat (R (off + S 1 i))))])
      refine w_lstore X2 D14_71 (l' := #[.val (.ref l0), .val (.ref a2), .val (.int (Int32.ofNat off)), .val (.ref a3), .val (.int (Int32.ofNat i)), .val (.long (Int64.ofNat (R (off + S 1 i)))), .second]) rfl ?_
      refine w_aloadN X2 D14_73 rfl rfl ?_
      refine w_aloadN X2 D14_74 rfl rfl ?_
      refine w_getF X2 D14_75 (hw _ (List.mem_of_getElem? (i := 16) rfl)) O.2.2.1 (fun T3 X3 => ?_)
      refine w_iload X3 D14_78 rfl ?_
      refine w_iaload X3 D14_80 (M.at 11 rfl) i rfl (by omega) ?_
      show Wp _ _ _ _ _ _ _ _ (mkF m 81 #[.val (.ref l0), .val (.ref a2), .val (.int (Int32.ofNat off)), .val (.ref a3), .val (.int (Int32.ofNat i)), .val (.long (Int64.ofNat (R (off + S 1 i)))), .second] [(.int (Int32.ofNat ((S 0) i))), (.ref a3)])
      refine w_dup2 X3 D14_81 rfl rfl ?_
      refine w_iaload X3 D14_82 (M.at (iz + 12) (set_self hLq)) ((S 0) i) rfl (by omega) ?_
      show Wp _ _ _ _ _ _ _ _ (mkF m 83 #[.val (.ref l0), .val (.ref a2), .val (.int (Int32.ofNat off)), .val (.ref a3), .val (.int (Int32.ofNat i)), .val (.long (Int64.ofNat (R (off + S 1 i)))), .second] [(.int (Int32.ofNat ((UF S R off (3 + i)) ((S 0) i)))), (.int (Int32.ofNat ((S 0) i))), (.ref a3)])
      refine w_lload X3 D14_83 rfl ?_
      refine w_aloadN X3 D14_85 rfl rfl ?_
      refine w_getF X3 D14_86 (hw _ (List.mem_of_getElem? (i := 20) rfl)) O.2.2.2.2.1 (fun T4 X4 => ?_)
      refine w_iload X4 D14_89 rfl ?_
      refine w_iaload X4 D14_91 (M.at 9 rfl) i rfl (by omega) ?_
      show Wp _ _ _ _ _ _ _ _ (mkF m 92 #[.val (.ref l0), .val (.ref a2), .val (.int (Int32.ofNat off)), .val (.ref a3), .val (.int (Int32.ofNat i)), .val (.long (Int64.ofNat (R (off + S 1 i)))), .second] [(.int (Int32.ofNat ((S 2) i))), (.long (Int64.ofNat (R (off + S 1 i)))), (.int (Int32.ofNat ((UF S R off (3 + i)) ((S 0) i)))), (.int (Int32.ofNat ((S 0) i))), (.ref a3)])
      refine w_lushr X4 D14_92 ?_
      rw [nL_ushrU (hR _) (show S 2 i < 64 by omega)]
      refine w_aloadN X4 D14_93 rfl rfl ?_
      refine w_getF X4 D14_94 (hw _ (List.mem_of_getElem? (i := 24) rfl)) O.2.2.2.2.2.2.1 (fun T5 X5 => ?_)
      refine w_iload X5 D14_97 rfl ?_
      refine w_laload X5 D14_99 (M.at 7 rfl) i rfl (by omega) ?_
      show Wp _ _ _ _ _ _ _ _ (mkF m 100 #[.val (.ref l0), .val (.ref a2), .val (.int (Int32.ofNat off)), .val (.ref a3), .val (.int (Int32.ofNat i)), .val (.long (Int64.ofNat (R (off + S 1 i)))), .second] [(.long (Int64.ofNat (2 ^ ((S 4) i) - 1))), (.long (Int64.ofNat (R (off + S 1 i) / 2 ^ S 2 i))), (.int (Int32.ofNat ((UF S R off (3 + i)) ((S 0) i)))), (.int (Int32.ofNat ((S 0) i))), (.ref a3)])
      refine w_land X5 D14_100 ?_
      rw [nL_low]
      refine w_l2i X5 D14_101 ?_
      rw [n_l2i]
      refine w_aloadN X5 D14_102 rfl rfl ?_
      refine w_getF X5 D14_103 (hw _ (List.mem_of_getElem? (i := 22) rfl)) O.2.2.2.2.2.1 (fun T6 X6 => ?_)
      refine w_iload X6 D14_106 rfl ?_
      refine w_iaload X6 D14_108 (M.at 8 rfl) i rfl (by omega) ?_
      show Wp _ _ _ _ _ _ _ _ (mkF m 109 #[.val (.ref l0), .val (.ref a2), .val (.int (Int32.ofNat off)), .val (.ref a3), .val (.int (Int32.ofNat i)), .val (.long (Int64.ofNat (R (off + S 1 i)))), .second] [(.int (Int32.ofNat ((S 3) i))), (.int (Int32.ofNat (R (off + S 1 i) / 2 ^ S 2 i % 2 ^ S 4 i))), (.int (Int32.ofNat ((UF S R off (3 + i)) ((S 0) i)))), (.int (Int32.ofNat ((S 0) i))), (.ref a3)])
      refine w_ishl X6 D14_109 ?_
      rw [n_shl (R (off + S 1 i) / 2 ^ S 2 i % 2 ^ S 4 i) (show S 3 i < 32 by omega)]
      refine w_ior X6 D14_110 ?_
      rw [n_or]
      refine w_iastore X6 D14_111 (M.at (iz + 12) (set_self hLq)) ((S 0) i) rfl (by omega) (fun T7 h7 X7 K7 B7 => ?_)
      rw [upd_nI] at B7
      have O_K7 := O.keepB hw (M.at (iz + 12) (set_self hLq)) K7
      have M7 := M.st (iz + 12) (set_self hLq) K7 B7
      refine w_iinc X7 D14_112 (d := (1 : Int32)) (r := (Int32.ofNat (i + 1))) (l' := #[.val (.ref l0), .val (.ref a2), .val (.int (Int32.ofNat off)), .val (.ref a3), .val (.int (Int32.ofNat (i + 1))), .val (.long (Int64.ofNat (R (off + S 1 i)))), .second]) rfl rfl (n_add _ _) rfl ?_
      refine w_goto X7 D14_115 ?_
      have M9 : Mem Z n0 h7 (live ad S (cp E) (Lt.set iz (a3, .int, 3, bI (nI (UF S R off (3 + (i + 1))))))) := by
        have z : Mem Z n0 h7 (live ad S (cp E) ((Lt.set iz (a3, .int, 3, bI (nI (UF S R off (3 + i))))).set iz _)) := M7
        rw [List.set_set] at z
        rw [UF_ext]; exact z
      exact ih (i + 1) _ _ _ _ (Or.inr ⟨_, rfl, rfl⟩) (by omega) X7 ⟨O_K7, M9⟩
theorem ef_14 (m : MethodId) (l0 : Addr) (a2 : Addr) (x2 : Int32) (a3 : Addr) : entryFrame m #[(.ref l0), (.ref a2), (.int x2), (.ref a3)] 7 = mkF m 0 #[.val (.ref l0), .val (.ref a2), .val (.int x2), .val (.ref a3), .unset, .unset, .unset] [] := by first | (simp [entryFrame, mkF, argsToLocals, Value.category]; done) | rfl
theorem pn_14 : plainName "com/example/tokenfold/tokenfold/statespace/Packing" = true := by first | (simp [plainName, overriddenIn]; done) | decide +kernel
set_option maxRecDepth 65536 in
set_option maxHeartbeats 40000000 in
theorem rmU {l : Launch} {Z : State} {a0 : Array Value} {n0 : Nat} {h : Heap} (hw : ∀ d ∈ tables_1, d.before a0 Z = true) (hn : n0 ≤ h.size) (l0 : Addr) (a2 : Addr) (x2 : Int32) (a3 : Addr) (ad : Nat → Addr) (S : Nat → Nat → Nat) (E en rw nr off : Nat) (R : Nat → Nat) (g : Nat → Int32) (Lt : List Ent) (iy iz : Nat) (hLy : Lt[iy]? = some (a2, .long, nr, bJ (nJ R))) (hne : iy ≠ iz) (hLz : Lt[iz]? = some (a3, .int, 3, bI g)) (hR : ∀ i, R i < 18446744073709551616) (hnr : off + 3 ≤ nr) (hnr2 : nr < 100) (I : Inv S E en) (hE8 : E ≤ 8) (hr : 1 ≤ rw ∧ rw ≤ 3 ∧ en ≤ 64 * rw) (e2 : x2 = Int32.ofNat off) (P : PK Z n0 h l0 ad S E (cp E) en rw Lt) :
    Ctr l Z n0 (⟨"com/example/tokenfold/tokenfold/statespace/Packing", "unpack", "([JI[I)V"⟩ : MethodName) prog_60_method_5_code 7 none ({ frames := 0, cells := 0, slots := 0, locals := 0 } : Room) [] #[(.ref l0), (.ref a2), (.int x2), (.ref a3)] h (fun v h' => v = none ∧ PK Z n0 h' l0 ad S E (cp E) en rw (Lt.set iz (a3, .int, 3, bI (nI (UF S R off (3 + E)))))) := by
  refine ctr_of (plainFor_of_name pn_14) hw hn ?_
  intro p e s m below meth c T X
  refine Wp.cast (ef_14 m l0 a2 x2 a3) ?_
  subst e2
  rw [← set_id hLz] at P
  refine w_iconst X D14_0 (v := (0 : Int32)) rfl ?_
  refine w_istore X D14_1 (l' := #[.val (.ref l0), .val (.ref a2), .val (.int (Int32.ofNat off)), .val (.ref a3), .val (.int (0 : Int32)), .unset, .unset]) rfl ?_
  show Wp _ _ _ _ _ _ _ _ (mkF m 3 #[.val (.ref l0), .val (.ref a2), .val (.int (Int32.ofNat off)), .val (.ref a3), .val (.int (Int32.ofNat 0)), .unset, .unset] [])
  refine upT hw X l0 a2 a3 ad S E en rw nr off R g Lt iy iz hLy hne ⟨_, hLz⟩ hR hnr hnr2 I hE8 hr 0 (by decide) P (fun T50 h50 X50 P50 => ?_)
  refine upT hw X50 l0 a2 a3 ad S E en rw nr off R g Lt iy iz hLy hne ⟨_, hLz⟩ hR hnr hnr2 I hE8 hr 1 (by decide) P50 (fun T51 h51 X51 P51 => ?_)
  refine upT hw X51 l0 a2 a3 ad S E en rw nr off R g Lt iy iz hLy hne ⟨_, hLz⟩ hR hnr hnr2 I hE8 hr 2 (by decide) P51 (fun T52 h52 X52 P52 => ?_)
  obtain ⟨O, M⟩ := P52
  have M9 : Mem Z n0 h52 (live ad S (cp E) (Lt.set iz (a3, .int, 3, bI (nI (UF S R off (3 + 0)))))) := by
    have z : Mem Z n0 h52 (live ad S (cp E) ((Lt.set iz (a3, .int, 3, bI (ub S R off g (2 + 1)))).set iz (a3, .int, 3, bI (nI (UF S R off (3 + 0)))))) := M.st (iz + 12) (set_self hLz) (Keep.refl _ _) ((M.at (iz + 12) (set_self hLz)).congr (fun i hi => congrArg Value.int (ub_end S R off g i hi)))
    rw [List.set_set] at z
    exact z
  refine w_iload X52 D14_3 rfl ?_
  refine w_aloadN X52 D14_5 rfl rfl ?_
  refine w_arraylength X52 D14_6 (M9.at (iz + 12) (set_self hLz)) ?_
  refine w_icmpge X52 D14_7 (fun hc7 => ?_) (fun hc7 => by exact absurd hc7 (by decide))
  refine w_iconst X52 D14_48 (v := (0 : Int32)) rfl ?_
  show Wp _ _ _ _ _ _ _ _ (mkF m 49 #[.val (.ref l0), .val (.ref a2), .val (.int (Int32.ofNat off)), .val (.ref a3), .val (.int (Int32.ofNat (2 + 1))), .unset, .unset] [.int (Int32.ofNat 0)])
  refine w_istore X52 D14_49 (l' := #[.val (.ref l0), .val (.ref a2), .val (.int (Int32.ofNat off)), .val (.ref a3), .val (.int (Int32.ofNat 0)), .unset, .unset]) rfl ?_
  exact uxL hw l0 a2 a3 ad S E en rw nr off R g Lt iy iz hLy hne ⟨_, hLz⟩ hR hnr hnr2 I hE8 hr (by decide) (by decide) (fun h' P => ⟨rfl, P⟩) E 0 _ _ _ _ (Or.inl ⟨rfl, rfl⟩) (by omega) X52 ⟨O, M9⟩
-- CUT
theorem PF_bit (S : Nat → Nat → Nat) (cn R : Nat → Nat) : ∀ n w t, (PF S cn R n w).testBit t = true ↔ (R w).testBit t = true ∨ ∃ i, i < n ∧ fW S i = w ∧ fH S i ≤ t ∧ t < fH S i + fD S i ∧ (cn (fs S i)).testBit (fl S i + (t - fH S i)) = true
  | 0, w, t => ⟨fun h => Or.inl h, fun h => h.elim id fun ⟨i, hi, _⟩ => absurd hi (Nat.not_lt_zero _)⟩
  | n + 1, w, t => by
    have ih := PF_bit S cn R n w t
    rw [PF]
    by_cases h : w = fW S n
    · subst h
      rw [upd_at, Nat.testBit_or, Bool.or_eq_true, ih, Nat.testBit_mul_two_pow, Nat.testBit_mod_two_pow, Nat.testBit_div_two_pow, Bool.and_eq_true, Bool.and_eq_true, decide_eq_true_iff, decide_eq_true_iff]
      constructor
      · rintro ((h | ⟨i, hi, r⟩) | ⟨h1, h2, h3⟩)
        · exact Or.inl h
        · exact Or.inr ⟨i, by omega, r⟩
        · exact Or.inr ⟨n, by omega, rfl, h1, by omega, by rw [Nat.add_comm]; exact h3⟩
      · rintro (h | ⟨i, hi, h0, h1, h2, h3⟩)
        · exact Or.inl (Or.inl h)
        · by_cases e : i = n
          · subst e; exact Or.inr ⟨h1, by omega, by rw [Nat.add_comm]; exact h3⟩
          · exact Or.inl (Or.inr ⟨i, by omega, h0, h1, h2, h3⟩)
    · rw [upd_ne _ _ h, ih]
      constructor
      · rintro (h | ⟨i, hi, r⟩)
        · exact Or.inl h
        · exact Or.inr ⟨i, by omega, r⟩
      · rintro (h' | ⟨i, hi, h0, r⟩)
        · exact Or.inl h'
        · by_cases e : i = n
          · subst e; exact absurd h0.symm h
          · exact Or.inr ⟨i, by omega, h0, r⟩
theorem PF_lt {S : Nat → Nat → Nat} {E en : Nat} (I : Inv S E en) (cn R : Nat → Nat) (hR : ∀ w, R w < 2 ^ 64) : ∀ n, n ≤ 3 + E → ∀ w, PF S cn R n w < 2 ^ 64
  | 0, _, w => hR w
  | n + 1, h, w => by
    rw [PF]
    by_cases e : w = fW S n
    · rw [e, upd_at]
      refine Nat.or_lt_two_pow (PF_lt I cn R hR n (by omega) _) ?_
      have h1 := (I.1 n (by omega)).2.2.2.1
      have h2 : cn (fs S n) / 2 ^ fl S n % 2 ^ fD S n < 2 ^ fD S n := Nat.mod_lt _ (Nat.two_pow_pos _)
      refine Nat.lt_of_lt_of_le (Nat.mul_lt_mul_of_pos_right h2 (Nat.two_pow_pos (fH S n))) ?_
      rw [← Nat.pow_add]
      exact Nat.pow_le_pow_right (by decide) (by omega)
    · rw [upd_ne _ _ e]; exact PF_lt I cn R hR n (by omega) w
theorem rd_bit {S : Nat → Nat → Nat} {E en : Nat} (I : Inv S E en) (cn R R' : Nat → Nat) (off i t : Nat) (hi : i < 3 + E) (h0 : R (fW S i) = 0) (h1 : R' (off + fW S i) = PF S cn R (3 + E) (fW S i)) : (rd S R' off i).testBit t = true ↔ t < fD S i ∧ (cn (fs S i)).testBit (fl S i + t) = true := by
  rw [rd, h1, Nat.testBit_mod_two_pow, Nat.testBit_div_two_pow, Bool.and_eq_true, decide_eq_true_iff, PF_bit, h0, Nat.zero_testBit]
  constructor
  · rintro ⟨h2, h | ⟨q, hq, e0, e1, e2, e3⟩⟩
    · exact absurd h (by decide)
    · refine ⟨h2, ?_⟩
      have hiq : q = i := by
        rcases Nat.lt_trichotomy q i with hl | hl | hl
        · have := I.2.1 q i hl hi; omega
        · exact hl
        · have := I.2.1 i q hl hq; omega
      subst hiq
      rw [show t + fH S q - fH S q = t by omega] at e3
      exact e3
  · rintro ⟨h2, h3⟩
    exact ⟨h2, Or.inr ⟨i, hi, rfl, by omega, by omega, by rw [show t + fH S i - fH S i = t by omega]; exact h3⟩⟩
theorem UF_bit {S : Nat → Nat → Nat} {E en : Nat} (I : Inv S E en) (cn R R' : Nat → Nat) (off : Nat) (h0 : ∀ i, i < 3 + E → R (fW S i) = 0) (h1 : ∀ i, i < 3 + E → R' (off + fW S i) = PF S cn R (3 + E) (fW S i)) : ∀ n, n ≤ 3 + E → ∀ s t, (UF S R' off n s).testBit t = true ↔ ∃ i, i < n ∧ fs S i = s ∧ fl S i ≤ t ∧ t < fl S i + fD S i ∧ (cn s).testBit t = true
  | 0, _, s, t => ⟨fun h => by rw [UF, Nat.zero_testBit] at h; exact absurd h (by decide), fun ⟨i, hi, _⟩ => absurd hi (Nat.not_lt_zero _)⟩
  | n + 1, hn, s, t => by
    have ih := UF_bit I cn R R' off h0 h1 n (by omega) s t
    have rb := fun t => rd_bit I cn R R' off n t (by omega) (h0 n (by omega)) (h1 n (by omega))
    rw [UF]
    by_cases h : s = fs S n
    · subst h
      rw [upd_at, Nat.testBit_or, Bool.or_eq_true, ih, Nat.testBit_mul_two_pow, Bool.and_eq_true, decide_eq_true_iff, rb]
      constructor
      · rintro (⟨i, hi, r⟩ | ⟨e1, e2, e3⟩)
        · exact ⟨i, by omega, r⟩
        · exact ⟨n, by omega, rfl, e1, by omega, by rw [show fl S n + (t - fl S n) = t by omega] at e3; exact e3⟩
      · rintro ⟨i, hi, e0, e1, e2, e3⟩
        by_cases e : i = n
        · subst e; exact Or.inr ⟨e1, by omega, by rw [show fl S i + (t - fl S i) = t by omega]; exact e3⟩
        · exact Or.inl ⟨i, by omega, e0, e1, e2, e3⟩
    · rw [upd_ne _ _ h, ih]
      constructor
      · rintro ⟨i, hi, r⟩
        exact ⟨i, by omega, r⟩
      · rintro ⟨i, hi, e0, r⟩
        by_cases e : i = n
        · subst e; exact absurd e0.symm h
        · exact ⟨i, by omega, e0, r⟩
/-- unpack gives the counts back, their low bits -/
theorem own_back {S : Nat → Nat → Nat} {E en : Nat} (I : Inv S E en) (cn R R' : Nat → Nat) (off : Nat) (h0 : ∀ i, i < 3 + E → R (fW S i) = 0) (h1 : ∀ i, i < 3 + E → R' (off + fW S i) = PF S cn R (3 + E) (fW S i)) (s : Nat) (hs : s < 3) : UF S R' off (3 + E) s = cn s % 2 ^ S 9 s := by
  apply Nat.eq_of_testBit_eq
  intro t
  rw [Bool.eq_iff_iff, UF_bit I cn R R' off h0 h1 (3 + E) (Nat.le_refl _), Nat.testBit_mod_two_pow, Bool.and_eq_true, decide_eq_true_iff]
  constructor
  · rintro ⟨i, hi, e0, e1, e2, e3⟩
    have := (I.1 i hi).2.2.2.2.1
    rw [e0] at this
    exact ⟨by omega, e3⟩
  · rintro ⟨e1, e2⟩
    obtain ⟨i, hi, r1, r2, r3⟩ := (I.2.2.1 s hs).2.2 t e1
    exact ⟨i, hi, r1, r2, r3, e2⟩
theorem Inv.fWlt {S : Nat → Nat → Nat} {E en rw : Nat} (I : Inv S E en) (hr : en ≤ 64 * rw) {i : Nat} (hi : i < 3 + E) : fW S i < rw := by
  have := I.1 i hi; omega
theorem okf_one (S : Nat → Nat → Nat) (cn : Nat → Nat) : ∀ i, (∀ s, s < i → cn s < 2 ^ S 9 s) → okf S cn i = 1
  | 0, _ => rfl
  | i + 1, h => by rw [okf, if_pos (Nat.div_eq_of_lt (h i (by omega)))]; exact okf_one S cn i (fun s hs => h s (by omega))
/-- a long as a natural -/
def unL (x : Int64) : Nat := (x.toInt % 18446744073709551616).toNat
theorem unL_eq (x : Int64) : x = Int64.ofNat (unL x) := eq_modL (by have := toInt_modL (unL x); unfold unL at *; omega)
theorem unL_lt (x : Int64) : unL x < 18446744073709551616 := by unfold unL; omega
theorem unL_of {a : Nat} (h : a < 18446744073709551616) : unL (Int64.ofNat a) = a := by have := toInt_modL a; unfold unL; omega
def unI (x : Int32) : Nat := (x.toInt % 4294967296).toNat
theorem unI_eq (x : Int32) : x = Int32.ofNat (unI x) := eq_mod (by have := toInt_mod (unI x); unfold unI at *; omega)
theorem unI_lt (x : Int32) : unI x < 4294967296 := by unfold unI; omega
theorem unI_of {a : Nat} (h : a < 4294967296) : unI (Int32.ofNat a) = a := by have := toInt_mod a; unfold unI; omega
-- CUT
/-- z says which extra of slot s is the next one from fr on: none (0), or extra z - 1 -/
def Nx (S : Nat → Nat → Nat) (E s fr z : Nat) : Prop := (z = 0 ∧ ∀ q, fr ≤ q → q < E → S 0 q ≠ s) ∨ ∃ i, z = i + 1 ∧ fr ≤ i ∧ i < E ∧ S 0 i = s ∧ ∀ q, fr ≤ q → q < i → S 0 q ≠ s
def Lnk (S : Nat → Nat → Nat) (E : Nat) : Prop :=
  (∀ s, s < 3 → Nx S E s 0 (S 10 s)) ∧ (∀ i, i < E → Nx S E (S 0 i) (i + 1) (S 5 i)) ∧ ∀ s, s < 3 → (S 11 s = 0 ∧ ∀ q, q < E → S 0 q ≠ s) ∨ ∃ i, S 11 s = i + 1 ∧ i < E ∧ S 0 i = s ∧ ∀ q, i < q → q < E → S 0 q ≠ s
theorem Lnk.ini {S : Nat → Nat → Nat} (h : ∀ s, S 10 s = 0 ∧ S 11 s = 0) : Lnk S 0 :=
  ⟨fun s _ => Or.inl ⟨(h s).1, fun q _ hq => absurd hq (Nat.not_lt_zero _)⟩, fun i hi => absurd hi (Nat.not_lt_zero _), fun s _ => Or.inl ⟨(h s).2, fun q hq => absurd hq (Nat.not_lt_zero _)⟩⟩
/-- a further extra of another slot changes nothing | of this slot, where there was a next one already -/
theorem Nx.more {S S' : Nat → Nat → Nat} {E s fr z : Nat} (h : Nx S E s fr z) (e : ∀ q, q < E → S' 0 q = S 0 q) (hn : z ≠ 0 ∨ S' 0 E ≠ s) : Nx S' (E + 1) s fr z := by
  rcases h with ⟨h1, h2⟩ | ⟨i, h1, h2, h3, h4, h5⟩
  · refine Or.inl ⟨h1, fun q q1 q2 => ?_⟩
    by_cases hq : q < E
    · rw [e q hq]; exact h2 q q1 hq
    · rw [show q = E by omega]; exact hn.resolve_left (fun z => z h1)
  · exact Or.inr ⟨i, h1, h2, by omega, by rw [e i h3]; exact h4, fun q q1 q2 => by rw [e q (by omega)]; exact h5 q q1 q2⟩
theorem Lnk.add {S : Nat → Nat → Nat} {E sl b en : Nat} (L : Lnk S E) (hsl : sl < 3) : Lnk (adS S E sl b en) (E + 1) := by
  obtain ⟨l1, l2, l3⟩ := L
  obtain ⟨a0, -, -, -, -, -, -, -, -, a11⟩ := ad_at S E sl b en
  have e : ∀ q, q < E → adS S E sl b en 0 q = S 0 q := fun q hq => by rw [a0, upd_ne _ _ (by omega)]
  have eE : adS S E sl b en 0 E = sl := by rw [a0, upd_at]
  have a10 : adS S E sl b en 10 = lnk S E sl 10 := rfl
  have a5 : adS S E sl b en 5 = upd (lnk S E sl 5) E 0 := rfl
  rcases l3 sl hsl with ⟨z1, z2⟩ | ⟨la, z1, z2, z3, z4⟩
  · -- the slot's first extra
    have b10 : lnk S E sl 10 = upd (S 10) sl (E + 1) := by unfold lnk; rw [if_pos z1]; rfl
    have b5 : lnk S E sl 5 = S 5 := by unfold lnk; rw [if_pos z1]; rfl
    refine ⟨fun s hs => ?_, fun i hi => ?_, fun s hs => ?_⟩
    · rw [a10, b10]
      by_cases h : s = sl
      · rw [h, upd_at]; exact Or.inr ⟨E, rfl, Nat.zero_le _, by omega, eE, fun q _ hq => by rw [e q hq]; exact z2 q hq⟩
      · rw [upd_ne _ _ h]; exact (l1 s hs).more e (Or.inr (by rw [eE]; exact Ne.symm h))
    · rw [a5, b5]
      by_cases h : i = E
      · subst h; rw [upd_at]; exact Or.inl ⟨rfl, fun q q1 q2 => by omega⟩
      · rw [upd_ne _ _ h, e i (by omega)]; exact (l2 i (by omega)).more e (Or.inr (by rw [eE]; exact Ne.symm (z2 i (by omega))))
    · rw [a11]
      by_cases h : s = sl
      · rw [h, upd_at]; exact Or.inr ⟨E, rfl, by omega, eE, fun q q1 q2 => by omega⟩
      · rw [upd_ne _ _ h]
        rcases l3 s hs with ⟨y1, y2⟩ | ⟨i, y1, y2, y3, y4⟩
        · refine Or.inl ⟨y1, fun q hq => ?_⟩
          by_cases hq2 : q < E
          · rw [e q hq2]; exact y2 q hq2
          · rw [show q = E by omega, eE]; exact Ne.symm h
        · refine Or.inr ⟨i, y1, by omega, by rw [e i y2]; exact y3, fun q q1 q2 => ?_⟩
          by_cases hq2 : q < E
          · rw [e q hq2]; exact y4 q q1 hq2
          · rw [show q = E by omega, eE]; exact Ne.symm h
  · have hnz : ¬ S 11 sl = 0 := by omega
    have b10 : lnk S E sl 10 = S 10 := by unfold lnk; rw [if_neg hnz]; rfl
    have b5 : lnk S E sl 5 = upd (S 5) la (E + 1) := by unfold lnk; rw [if_neg hnz]; show upd (S 5) (S 11 sl - 1) (E + 1) = _; rw [z1, Nat.add_sub_cancel]
    refine ⟨fun s hs => ?_, fun i hi => ?_, fun s hs => ?_⟩
    · rw [a10, b10]
      refine (l1 s hs).more e ?_
      by_cases h : s = sl
      · subst h
        rcases l1 s hs with ⟨y1, y2⟩ | ⟨i, y1, -⟩
        · exact absurd z3 (y2 la (Nat.zero_le _) z2)
        · exact Or.inl (by omega)
      · exact Or.inr (by rw [eE]; exact Ne.symm h)
    · rw [a5, b5]
      by_cases h : i = E
      · subst h; rw [upd_at]; exact Or.inl ⟨rfl, fun q q1 q2 => by omega⟩
      · rw [upd_ne _ _ h, e i (by omega)]
        by_cases h2 : i = la
        · subst h2; rw [upd_at, z3]; exact Or.inr ⟨E, rfl, by omega, by omega, eE, fun q q1 q2 => by rw [e q q2]; exact z4 q (by omega) q2⟩
        · rw [upd_ne _ _ h2]
          refine (l2 i (by omega)).more e ?_
          by_cases h3 : S 0 i = sl
          · left
            have hil : i < la := by
              rcases Nat.lt_trichotomy i la with w | w | w
              · exact w
              · exact absurd w h2
              · exact absurd h3 (z4 i w (by omega))
            rcases l2 i (by omega) with ⟨y1, y2⟩ | ⟨q, y1, -⟩
            · exact absurd (z3.trans h3.symm) (y2 la (by omega) z2)
            · omega
          · exact Or.inr (by rw [eE]; exact Ne.symm h3)
    · rw [a11]
      by_cases h : s = sl
      · rw [h, upd_at]; exact Or.inr ⟨E, rfl, by omega, eE, fun q q1 q2 => by omega⟩
      · rw [upd_ne _ _ h]
        rcases l3 s hs with ⟨y1, y2⟩ | ⟨i, y1, y2, y3, y4⟩
        · refine Or.inl ⟨y1, fun q hq => ?_⟩
          by_cases hq2 : q < E
          · rw [e q hq2]; exact y2 q hq2
          · rw [show q = E by omega, eE]; exact Ne.symm h
        · refine Or.inr ⟨i, y1, by omega, by rw [e i y2]; exact y3, fun q q1 q2 => ?_⟩
          by_cases hq2 : q < E
          · rw [e q hq2]; exact y4 q q1 hq2
          · rw [show q = E by omega, eE]; exact Ne.symm h
/-- one field of a word anew -/
def wrf (r x D H : Nat) : Nat := (r &&& (((2 ^ D - 1) * 2 ^ H) ^^^ 18446744073709551615)) ||| (x % 2 ^ D) * 2 ^ H
theorem wrf_bit (r x D H t : Nat) (ht : t < 64) : (wrf r x D H).testBit t = if H ≤ t ∧ t < H + D then x.testBit (t - H) else r.testBit t := by
  have e64 : (18446744073709551615 : Nat) = 2 ^ 64 - 1 := rfl
  rw [wrf, e64, Nat.testBit_or, Nat.testBit_and, Nat.testBit_xor, Nat.testBit_mul_two_pow, Nat.testBit_mul_two_pow, Nat.testBit_two_pow_sub_one, Nat.testBit_two_pow_sub_one, Nat.testBit_mod_two_pow]
  by_cases h1 : H ≤ t
  · by_cases h2 : t < H + D
    · have h3 : t - H < D := by omega
      simp [h1, h2, h3, ht]
    · have h3 : ¬ t - H < D := by omega
      simp [h1, h2, h3, ht]
  · simp [h1, ht]
theorem wrf_lt {r x D H : Nat} (hr : r < 2 ^ 64) (h : H + D ≤ 64) : wrf r x D H < 2 ^ 64 := by
  refine Nat.or_lt_two_pow (Nat.lt_of_le_of_lt Nat.and_le_left hr) ?_
  have h2 : x % 2 ^ D < 2 ^ D := Nat.mod_lt _ (Nat.two_pow_pos _)
  refine Nat.lt_of_lt_of_le (Nat.mul_lt_mul_of_pos_right h2 (Nat.two_pow_pos H)) ?_
  rw [← Nat.pow_add]
  exact Nat.pow_le_pow_right (by decide) (by omega)
/-- the record with the fields of slot sl anew, behind n fields -/
def RF (S : Nat → Nat → Nat) (v sl : Nat) (R : Nat → Nat) : Nat → Nat → Nat
  | 0 => R
  | n + 1 => if fs S n = sl then upd (RF S v sl R n) (fW S n) (wrf (RF S v sl R n (fW S n)) (v / 2 ^ fl S n) (fD S n) (fH S n)) else RF S v sl R n
theorem RF_lt {S : Nat → Nat → Nat} {E en : Nat} (I : Inv S E en) (v sl : Nat) (R : Nat → Nat) (hR : ∀ w, R w < 2 ^ 64) : ∀ n, n ≤ 3 + E → ∀ w, RF S v sl R n w < 2 ^ 64
  | 0, _, w => hR w
  | n + 1, h, w => by
    have ih := RF_lt I v sl R hR n (by omega)
    rw [RF]; split
    · by_cases e : w = fW S n
      · rw [e, upd_at]; exact wrf_lt (ih _) (I.1 n (by omega)).2.2.2.1
      · rw [upd_ne _ _ e]; exact ih w
    · exact ih w
theorem RF_bit {S : Nat → Nat → Nat} {E en : Nat} (I : Inv S E en) (v sl : Nat) (R : Nat → Nat) (w t : Nat) (ht : t < 64) : ∀ n, n ≤ 3 + E →
    (∀ i, i < n → fs S i = sl → fW S i = w → fH S i ≤ t → t < fH S i + fD S i → (RF S v sl R n w).testBit t = v.testBit (fl S i + (t - fH S i))) ∧ ((∀ i, i < n → fs S i = sl → fW S i = w → fH S i ≤ t → ¬ t < fH S i + fD S i) → (RF S v sl R n w).testBit t = (R w).testBit t)
  | 0, _ => ⟨fun i hi => absurd hi (Nat.not_lt_zero _), fun _ => rfl⟩
  | n + 1, h => by
    obtain ⟨ih1, ih2⟩ := RF_bit I v sl R w t ht n (by omega)
    rw [RF]
    by_cases h1 : fs S n = sl
    · rw [if_pos h1]
      by_cases h2 : w = fW S n
      · subst h2
        rw [upd_at, wrf_bit _ _ _ _ _ ht]
        by_cases h3 : fH S n ≤ t ∧ t < fH S n + fD S n
        · rw [if_pos h3, Nat.testBit_div_two_pow]
          refine ⟨fun i hi e1 e2 e3 e4 => ?_, fun q => absurd h3.2 (q n (by omega) h1 rfl h3.1)⟩
          by_cases hin : i = n
          · subst hin; rw [Nat.add_comm]
          · have := I.2.1 i n (by omega) (by omega); omega
        · rw [if_neg h3]
          refine ⟨fun i hi e1 e2 e3 e4 => ?_, fun q => ih2 (fun i hi => q i (by omega))⟩
          by_cases hin : i = n
          · subst hin; exact absurd ⟨e3, e4⟩ h3
          · exact ih1 i (by omega) e1 e2 e3 e4
      · rw [upd_ne _ _ h2]
        refine ⟨fun i hi e1 e2 e3 e4 => ?_, fun q => ih2 (fun i hi => q i (by omega))⟩
        by_cases hin : i = n
        · subst hin; exact absurd e2.symm h2
        · exact ih1 i (by omega) e1 e2 e3 e4
    · rw [if_neg h1]
      refine ⟨fun i hi e1 e2 e3 e4 => ?_, fun q => ih2 (fun i hi => q i (by omega))⟩
      by_cases hin : i = n
      · subst hin; exact absurd e1 h1
      · exact ih1 i (by omega) e1 e2 e3 e4
/-- repack does what pack does -/
theorem own_repack {S : Nat → Nat → Nat} {E en : Nat} (I : Inv S E en) (cn R : Nat → Nat) (v sl : Nat) (hR : ∀ w, R w = 0) : RF S v sl (PF S cn R (3 + E)) (3 + E) = PF S (upd cn sl v) R (3 + E) := by
  have hR2 : ∀ w, R w < 2 ^ 64 := fun w => by rw [hR w]; decide
  funext w
  apply Nat.eq_of_testBit_eq
  intro t
  by_cases ht : t < 64
  · obtain ⟨b1, b2⟩ := RF_bit I v sl (PF S cn R (3 + E)) w t ht (3 + E) (Nat.le_refl _)
    have uq : ∀ i q, i < 3 + E → q < 3 + E → fW S i = w → fW S q = w → fH S i ≤ t → t < fH S i + fD S i → fH S q ≤ t → t < fH S q + fD S q → i = q := fun i q hi hq w1 w2 x1 x2 x3 x4 => by
      rcases Nat.lt_trichotomy i q with hl | hl | hl
      · have := I.2.1 i q hl hq; omega
      · exact hl
      · have := I.2.1 q i hl hi; omega
    by_cases hex : ∃ i, i < 3 + E ∧ fs S i = sl ∧ fW S i = w ∧ fH S i ≤ t ∧ t < fH S i + fD S i
    · obtain ⟨i, hi, e1, e2, e3, e4⟩ := hex
      rw [b1 i hi e1 e2 e3 e4, Bool.eq_iff_iff, PF_bit, hR, Nat.zero_testBit]
      constructor
      · intro h; exact Or.inr ⟨i, hi, e2, e3, e4, by rw [e1, upd_at]; exact h⟩
      · rintro (h | ⟨q, hq, w1, w2, w3, w4⟩)
        · exact absurd h (by decide)
        · obtain rfl := uq i q hi hq e2 w1 e3 e4 w2 w3
          rw [e1, upd_at] at w4; exact w4
    · rw [b2 (fun i hi e1 e2 e3 e4 => hex ⟨i, hi, e1, e2, e3, e4⟩), Bool.eq_iff_iff, PF_bit, PF_bit]
      constructor
      · rintro (h | ⟨q, hq, w1, w2, w3, w4⟩)
        · exact Or.inl h
        · exact Or.inr ⟨q, hq, w1, w2, w3, by rw [upd_ne _ _ (fun z => hex ⟨q, hq, z, w1, w2, w3⟩)]; exact w4⟩
      · rintro (h | ⟨q, hq, w1, w2, w3, w4⟩)
        · exact Or.inl h
        · exact Or.inr ⟨q, hq, w1, w2, w3, by rw [upd_ne _ _ (fun z => hex ⟨q, hq, z, w1, w2, w3⟩)] at w4; exact w4⟩
  · have g : ∀ x, x < 2 ^ 64 → x.testBit t = false := fun x hx => Nat.testBit_lt_two_pow (Nat.lt_of_lt_of_le hx (Nat.pow_le_pow_right (by decide) (by omega)))
    rw [g _ (RF_lt I v sl _ (PF_lt I cn R hR2 _ (Nat.le_refl _)) _ (Nat.le_refl _) w), g _ (PF_lt I (upd cn sl v) R hR2 _ (Nat.le_refl _) w)]
theorem RF_base (S : Nat → Nat → Nat) (v sl : Nat) (R : Nat → Nat) (hsl : sl < 3) : RF S v sl R (3 + 0) = upd R (S 6 sl) (wrf (R (S 6 sl)) v (S 8 sl) (S 7 sl)) := by
  have hc : sl = 0 ∨ sl = 1 ∨ sl = 2 := by omega
  have n : ∀ i, i < 3 → fs S i = i ∧ fl S i = 0 ∧ fW S i = S 6 i ∧ fH S i = S 7 i ∧ fD S i = S 8 i := fun i hi => by
    unfold fs fl fW fH fD; simp only [if_pos hi, and_self]
  obtain ⟨n0, n1, n2, n3, n4⟩ := n 0 (by decide)
  obtain ⟨m0, m1, m2, m3, m4⟩ := n 1 (by decide)
  obtain ⟨o0, o1, o2, o3, o4⟩ := n 2 (by decide)
  show RF S v sl R (0 + 1 + 1 + 1) = _
  rw [RF, RF, RF, RF]
  rcases hc with rfl | rfl | rfl
  · simp only [n0, n1, n2, n3, n4, m0, o0, if_true, Nat.pow_zero, Nat.div_one, if_neg (show ¬ (1 : Nat) = 0 by decide), if_neg (show ¬ (2 : Nat) = 0 by decide), Nat.zero_add]
  · simp only [n0, m1, m2, m3, m4, m0, o0, if_true, Nat.pow_zero, Nat.div_one, if_neg (show ¬ (0 : Nat) = 1 by decide), if_neg (show ¬ (2 : Nat) = 1 by decide), Nat.zero_add]
  · simp only [n0, o1, o2, o3, o4, m0, o0, if_true, Nat.pow_zero, Nat.div_one, if_neg (show ¬ (0 : Nat) = 2 by decide), if_neg (show ¬ (1 : Nat) = 2 by decide), Nat.zero_add]
theorem RF_skip (S : Nat → Nat → Nat) (v sl : Nat) (R : Nat → Nat) (fr : Nat) : ∀ d, (∀ q, fr ≤ q → q < fr + d → S 0 q ≠ sl) → RF S v sl R (3 + (fr + d)) = RF S v sl R (3 + fr)
  | 0, _ => rfl
  | d + 1, h => by
    rw [show 3 + (fr + (d + 1)) = (3 + (fr + d)) + 1 by omega, RF, if_neg]
    · exact RF_skip S v sl R fr d (fun q h1 h2 => h q h1 (by omega))
    · unfold fs; rw [if_neg (by omega), show 3 + (fr + d) - 3 = fr + d by omega]; exact h (fr + d) (by omega) (by omega)
theorem RF_ext (S : Nat → Nat → Nat) (v sl : Nat) (R : Nat → Nat) (i : Nat) (h : S 0 i = sl) : RF S v sl R (3 + (i + 1)) = upd (RF S v sl R (3 + i)) (S 1 i) (wrf (RF S v sl R (3 + i) (S 1 i)) (v / 2 ^ S 3 i) (S 4 i) (S 2 i)) := by
  rw [show 3 + (i + 1) = (3 + i) + 1 by omega, RF]; unfold fs fW fl fD fH; simp only [if_neg (show ¬ 3 + i < 3 by omega), Nat.add_sub_cancel_left, h, if_true]
theorem nL_not (a : Nat) : Int64.ofNat a ^^^ -1 = Int64.ofNat (a ^^^ 18446744073709551615) := by
  apply Int64.toBitVec_inj.mp
  rw [Int64.toBitVec_xor, nl_bv, nl_bv, show (-1 : Int64).toBitVec = BitVec.ofNat 64 18446744073709551615 from rfl]
  exact BitVec.ofNat_xor.symm
-- CUT
set_option maxRecDepth 65536 in
set_option maxHeartbeats 40000000 in
theorem rpL {Z : State} {a0 : Array Value} {n0 : Nat} {p : Program} {l : Launch} {e : Env} {RR : Room} {s : State} {m : MethodId} {args : Array Value} {below : List Frame} {meth : Method} {c : Code} {k j : Nat} {Q : Option Value → Heap → Prop} (hw : ∀ d ∈ tables_1, d.before a0 Z = true) (l0 a1 a2 : Addr) (ad : Nat → Addr) (S : Nat → Nat → Nat) (E en rw nr sl : Nat) (cn R : Nat → Nat) (Lt : List Ent) (ix iy : Nat) (hLx : Lt[ix]? = some (a1, .int, 3, bI (nI cn))) (hne : ix ≠ iy) (hLy : ∃ z, Lt[iy]? = some z) (hnr : 3 ≤ nr) (hcn : ∀ s, s < 3 → cn s < 4294967296) (I : Inv S E en) (Lk : Lnk S E) (hE8 : E ≤ 8) (hr : 1 ≤ rw ∧ rw ≤ 3 ∧ en ≤ 64 * rw) (hsl : sl < 3) (hk : k ≤ RR.cells) (hj : j ≤ RR.slots) (q : ∀ h', PK Z n0 h' l0 ad S E (cp E) en rw (Lt.set iy (a2, .long, nr, bJ (nJ (RF S (cn sl) sl R (3 + E))))) → Q (some (.int (Int32.ofNat (if cn sl / 2 ^ S 9 sl = 0 then 1 else 0)))) h') : ∀ r fr z (T : State) (h : Heap) (s9 s10 s11 s12 : Slot), ((s9 = .unset ∧ s10 = .unset ∧ s11 = .unset ∧ s12 = .unset) ∨ ∃ (y9 : Int32) (y10 : Int64) (y12 : Int32), s9 = .val (.int y9) ∧ s10 = .val (.long y10) ∧ s11 = .second ∧ s12 = .val (.int y12)) → E ≤ fr + r → fr ≤ E → Nx S E sl fr z → Pos Z a0 n0 p l e RR s m args below meth c prog_60_method_4_code 13 (some .boolean) (⟨"com/example/tokenfold/tokenfold/statespace/Packing", "repack", "([II[J)Z"⟩ : MethodName) T h k j → PK Z n0 h l0 ad S E (cp E) en rw (Lt.set iy (a2, .long, nr, bJ (nJ (RF S (cn sl) sl R (3 + fr))))) → Wp n0 p e RR s below Q T (mkF m 65 #[.val (.ref l0), .val (.ref a1), .val (.int (Int32.ofNat sl)), .val (.ref a2), .val (.int (Int32.ofNat (cn sl))), .val (.int (Int32.ofNat (S 6 sl))), .val (.long (Int64.ofNat (2 ^ (S 8 sl) - 1))), .second, .val (.int (Int32.ofNat z - (1 : Int32))), s9, s10, s11, s12] []) := by
  obtain ⟨zz, hLz⟩ := hLy
  have hcp := cp_le hE8
  obtain ⟨b1, b2, b3, b4, b5, b6⟩ := I.base hr.2.2 hsl
  have hci := hcn sl hsl
  have hdv : cn sl / 2 ^ S 9 sl < 2147483648 := Nat.div_lt_of_lt_mul (Nat.lt_of_lt_of_le (show cn sl < 2 ^ 1 * 2147483648 by omega) (Nat.mul_le_mul_right _ (Nat.pow_le_pow_right (by decide) b5)))
  intro r
  induction r with
  | zero =>
    intro fr z T h s9 s10 s11 s12 hs hE1 hE2 hN X P
    obtain rfl : fr = E := by omega
    obtain ⟨O, M⟩ := P
    rcases hN with ⟨rfl, -⟩ | ⟨i, -, h2, h3, -⟩
    · skip
      refine w_iload X D13_65 rfl ?_
      refine w_iflt X D13_67 (fun hc67 => ?_) (fun hc67 => by exact absurd (by decide) hc67)
      refine w_iload X D13_145 rfl ?_
      refine w_aloadN X D13_147 rfl rfl ?_
      refine w_getF X D13_148 (hw _ (List.mem_of_getElem? (i := 34) rfl)) O.2.2.2.2.2.2.2.2.2.2.2.1 (fun T1 X1 => ?_)
      refine w_iloadN X1 D13_151 rfl ?_
      refine w_iaload X1 D13_152 (M.at 2 rfl) sl rfl (by omega) ?_
      show Wp _ _ _ _ _ _ _ _ (mkF m 153 #[.val (.ref l0), .val (.ref a1), .val (.int (Int32.ofNat sl)), .val (.ref a2), .val (.int (Int32.ofNat (cn sl))), .val (.int (Int32.ofNat (S 6 sl))), .val (.long (Int64.ofNat (2 ^ (S 8 sl) - 1))), .second, .val (.int (Int32.ofNat 0 - (1 : Int32))), s9, s10, s11, s12] [(.int (Int32.ofNat ((S 9) sl))), (.int (Int32.ofNat (cn sl)))])
      refine w_iushr X1 D13_153 ?_
      rw [n_ushrU hci (show S 9 sl < 32 by omega)]
      refine w_ifne X1 D13_154 (fun hc154 => ?_) (fun hc154 => ?_)
      · refine w_iconst X1 D13_161 (v := (0 : Int32)) rfl ?_
        exact w_zreturn X1 D13_162 hk hj (by
                    have hz : ¬ cn sl / 2 ^ S 9 sl = 0 := fun z => hc154 (by rw [z]; rfl)
                    have z := q _ ⟨O, M⟩
                    rw [if_neg hz] at z; exact z)
      · refine w_iconst X1 D13_157 (v := (1 : Int32)) rfl ?_
        refine w_goto X1 D13_158 ?_
        exact w_zreturn X1 D13_162 hk hj (by
                    have hz : cn sl / 2 ^ S 9 sl = 0 := (n_inj (b := 0) hdv (by decide)).mp hc154
                    have z := q _ ⟨O, M⟩
                    rw [if_pos hz] at z; exact z)
    · omega
  | succ r ih =>
    intro fr z T h s9 s10 s11 s12 hs hE1 hE2 hN X P
    obtain ⟨O, M⟩ := P
    rcases hN with ⟨rfl, hno⟩ | ⟨i, rfl, h2, h3, h4, h5⟩
    · have eF : RF S (cn sl) sl R (3 + fr) = RF S (cn sl) sl R (3 + E) := by
        have z := RF_skip S (cn sl) sl R fr (E - fr) (fun q q1 q2 => hno q q1 (by omega))
        rw [show fr + (E - fr) = E by omega] at z; exact z.symm
      rw [eF] at M
      refine w_iload X D13_65 rfl ?_
      refine w_iflt X D13_67 (fun hc67 => ?_) (fun hc67 => by exact absurd (by decide) hc67)
      refine w_iload X D13_145 rfl ?_
      refine w_aloadN X D13_147 rfl rfl ?_
      refine w_getF X D13_148 (hw _ (List.mem_of_getElem? (i := 34) rfl)) O.2.2.2.2.2.2.2.2.2.2.2.1 (fun T1 X1 => ?_)
      refine w_iloadN X1 D13_151 rfl ?_
      refine w_iaload X1 D13_152 (M.at 2 rfl) sl rfl (by omega) ?_
      show Wp _ _ _ _ _ _ _ _ (mkF m 153 #[.val (.ref l0), .val (.ref a1), .val (.int (Int32.ofNat sl)), .val (.ref a2), .val (.int (Int32.ofNat (cn sl))), .val (.int (Int32.ofNat (S 6 sl))), .val (.long (Int64.ofNat (2 ^ (S 8 sl) - 1))), .second, .val (.int (Int32.ofNat 0 - (1 : Int32))), s9, s10, s11, s12] [(.int (Int32.ofNat ((S 9) sl))), (.int (Int32.ofNat (cn sl)))])
      refine w_iushr X1 D13_153 ?_
      rw [n_ushrU hci (show S 9 sl < 32 by omega)]
      refine w_ifne X1 D13_154 (fun hc154 => ?_) (fun hc154 => ?_)
      · refine w_iconst X1 D13_161 (v := (0 : Int32)) rfl ?_
        exact w_zreturn X1 D13_162 hk hj (by
                    have hz : ¬ cn sl / 2 ^ S 9 sl = 0 := fun z => hc154 (by rw [z]; rfl)
                    have z := q _ ⟨O, M⟩
                    rw [if_neg hz] at z; exact z)
      · refine w_iconst X1 D13_157 (v := (1 : Int32)) rfl ?_
        refine w_goto X1 D13_158 ?_
        exact w_zreturn X1 D13_162 hk hj (by
                    have hz : cn sl / 2 ^ S 9 sl = 0 := (n_inj (b := 0) hdv (by decide)).mp hc154
                    have z := q _ ⟨O, M⟩
                    rw [if_pos hz] at z; exact z)
    · have eF : RF S (cn sl) sl R (3 + fr) = RF S (cn sl) sl R (3 + i) := by
        have z := RF_skip S (cn sl) sl R fr (i - fr) (fun q q1 q2 => h5 q q1 (by omega))
        rw [show fr + (i - fr) = i by omega] at z; exact z.symm
      rw [eF] at M
      obtain ⟨d0, d1, d2, d3, d4, d5⟩ := I.ext hr.2.2 h3
      have hNn := Lk.2.1 i h3
      rw [h4] at hNn
      rw [← own_up i]
      rcases hs with ⟨rfl, rfl, rfl, rfl⟩ | ⟨y9, y10, y12, rfl, rfl, rfl, rfl⟩
      · refine w_iload X D13_65 rfl ?_
        refine w_iflt X D13_67 (fun hc67 => by exact absurd hc67 (fun z => by rw [Int32.lt_iff_toInt_lt, ofNat_toInt (by omega), show (0 : Int32).toInt = 0 from rfl] at z; omega)) (fun hc67 => ?_)
        refine w_aloadN X D13_70 rfl rfl ?_
        refine w_getF X D13_71 (hw _ (List.mem_of_getElem? (i := 18) rfl)) O.2.2.2.1 (fun T1 X1 => ?_)
        refine w_iload X1 D13_74 rfl ?_
        refine w_iaload X1 D13_76 (M.at 10 rfl) i rfl (by omega) ?_
        show Wp _ _ _ _ _ _ _ _ (mkF m 77 #[.val (.ref l0), .val (.ref a1), .val (.int (Int32.ofNat sl)), .val (.ref a2), .val (.int (Int32.ofNat (cn sl))), .val (.int (Int32.ofNat (S 6 sl))), .val (.long (Int64.ofNat (2 ^ (S 8 sl) - 1))), .second, .val (.int (Int32.ofNat i)), .unset, .unset, .unset, .unset] [(.int (Int32.ofNat ((S 1) i)))])
        refine w_istore X1 D13_77 (l' := #[.val (.ref l0), .val (.ref a1), .val (.int (Int32.ofNat sl)), .val (.ref a2), .val (.int (Int32.ofNat (cn sl))), .val (.int (Int32.ofNat (S 6 sl))), .val (.long (Int64.ofNat (2 ^ (S 8 sl) - 1))), .second, .val (.int (Int32.ofNat i)), .val (.int (Int32.ofNat ((S 1) i))), .unset, .unset, .unset]) rfl ?_
        refine w_aloadN X1 D13_79 rfl rfl ?_
        refine w_getF X1 D13_80 (hw _ (List.mem_of_getElem? (i := 24) rfl)) O.2.2.2.2.2.2.1 (fun T2 X2 => ?_)
        refine w_iload X2 D13_83 rfl ?_
        refine w_laload X2 D13_85 (M.at 7 rfl) i rfl (by omega) ?_
        show Wp _ _ _ _ _ _ _ _ (mkF m 86 #[.val (.ref l0), .val (.ref a1), .val (.int (Int32.ofNat sl)), .val (.ref a2), .val (.int (Int32.ofNat (cn sl))), .val (.int (Int32.ofNat (S 6 sl))), .val (.long (Int64.ofNat (2 ^ (S 8 sl) - 1))), .second, .val (.int (Int32.ofNat i)), .val (.int (Int32.ofNat ((S 1) i))), .unset, .unset, .unset] [(.long (Int64.ofNat (2 ^ ((S 4) i) - 1)))])
        refine w_lstore X2 D13_86 (l' := #[.val (.ref l0), .val (.ref a1), .val (.int (Int32.ofNat sl)), .val (.ref a2), .val (.int (Int32.ofNat (cn sl))), .val (.int (Int32.ofNat (S 6 sl))), .val (.long (Int64.ofNat (2 ^ (S 8 sl) - 1))), .second, .val (.int (Int32.ofNat i)), .val (.int (Int32.ofNat ((S 1) i))), .val (.long (Int64.ofNat (2 ^ ((S 4) i) - 1))), .second, .unset]) rfl ?_
        refine w_aloadN X2 D13_88 rfl rfl ?_
        refine w_getF X2 D13_89 (hw _ (List.mem_of_getElem? (i := 20) rfl)) O.2.2.2.2.1 (fun T3 X3 => ?_)
        refine w_iload X3 D13_92 rfl ?_
        refine w_iaload X3 D13_94 (M.at 9 rfl) i rfl (by omega) ?_
        show Wp _ _ _ _ _ _ _ _ (mkF m 95 #[.val (.ref l0), .val (.ref a1), .val (.int (Int32.ofNat sl)), .val (.ref a2), .val (.int (Int32.ofNat (cn sl))), .val (.int (Int32.ofNat (S 6 sl))), .val (.long (Int64.ofNat (2 ^ (S 8 sl) - 1))), .second, .val (.int (Int32.ofNat i)), .val (.int (Int32.ofNat ((S 1) i))), .val (.long (Int64.ofNat (2 ^ ((S 4) i) - 1))), .second, .unset] [(.int (Int32.ofNat ((S 2) i)))])
        refine w_istore X3 D13_95 (l' := #[.val (.ref l0), .val (.ref a1), .val (.int (Int32.ofNat sl)), .val (.ref a2), .val (.int (Int32.ofNat (cn sl))), .val (.int (Int32.ofNat (S 6 sl))), .val (.long (Int64.ofNat (2 ^ (S 8 sl) - 1))), .second, .val (.int (Int32.ofNat i)), .val (.int (Int32.ofNat ((S 1) i))), .val (.long (Int64.ofNat (2 ^ ((S 4) i) - 1))), .second, .val (.int (Int32.ofNat ((S 2) i)))]) rfl ?_
        refine w_aloadN X3 D13_97 rfl rfl ?_
        refine w_iload X3 D13_98 rfl ?_
        refine w_aloadN X3 D13_100 rfl rfl ?_
        refine w_iload X3 D13_101 rfl ?_
        refine w_laload X3 D13_103 (M.at (iy + 12) (set_self hLz)) ((S 1) i) rfl (by omega) ?_
        show Wp _ _ _ _ _ _ _ _ (mkF m 104 #[.val (.ref l0), .val (.ref a1), .val (.int (Int32.ofNat sl)), .val (.ref a2), .val (.int (Int32.ofNat (cn sl))), .val (.int (Int32.ofNat (S 6 sl))), .val (.long (Int64.ofNat (2 ^ (S 8 sl) - 1))), .second, .val (.int (Int32.ofNat i)), .val (.int (Int32.ofNat ((S 1) i))), .val (.long (Int64.ofNat (2 ^ ((S 4) i) - 1))), .second, .val (.int (Int32.ofNat ((S 2) i)))] [(.long (Int64.ofNat ((RF S (cn sl) sl R (3 + i)) ((S 1) i)))), (.int (Int32.ofNat ((S 1) i))), (.ref a2)])
        refine w_lload X3 D13_104 rfl ?_
        refine w_iload X3 D13_106 rfl ?_
        refine w_lshl X3 D13_108 ?_
        rw [nL_shl (2 ^ (S 4 i) - 1) (show S 2 i < 64 by omega)]
        refine w_ldc2 X3 D13_109 (hw _ (List.mem_of_getElem? (i := 88) rfl)) ?_
        refine w_lxor X3 D13_112 ?_
        rw [nL_not]
        refine w_land X3 D13_113 ?_
        rw [nL_and]
        refine w_iload X3 D13_114 rfl ?_
        refine w_aloadN X3 D13_116 rfl rfl ?_
        refine w_getF X3 D13_117 (hw _ (List.mem_of_getElem? (i := 22) rfl)) O.2.2.2.2.2.1 (fun T4 X4 => ?_)
        refine w_iload X4 D13_120 rfl ?_
        refine w_iaload X4 D13_122 (M.at 8 rfl) i rfl (by omega) ?_
        show Wp _ _ _ _ _ _ _ _ (mkF m 123 #[.val (.ref l0), .val (.ref a1), .val (.int (Int32.ofNat sl)), .val (.ref a2), .val (.int (Int32.ofNat (cn sl))), .val (.int (Int32.ofNat (S 6 sl))), .val (.long (Int64.ofNat (2 ^ (S 8 sl) - 1))), .second, .val (.int (Int32.ofNat i)), .val (.int (Int32.ofNat ((S 1) i))), .val (.long (Int64.ofNat (2 ^ ((S 4) i) - 1))), .second, .val (.int (Int32.ofNat ((S 2) i)))] [(.int (Int32.ofNat ((S 3) i))), (.int (Int32.ofNat (cn sl))), (.long (Int64.ofNat (RF S (cn sl) sl R (3 + i) (S 1 i) &&& ((2 ^ (S 4 i) - 1) * 2 ^ S 2 i ^^^ 18446744073709551615)))), (.int (Int32.ofNat ((S 1) i))), (.ref a2)])
        refine w_iushr X4 D13_123 ?_
        rw [n_ushrU hci (show S 3 i < 32 by omega)]
        refine w_i2l X4 D13_124 ?_
        refine w_lload X4 D13_125 rfl ?_
        refine w_land X4 D13_127 ?_
        rw [n_i2lmask (cn sl / 2 ^ S 3 i) (show S 4 i ≤ 32 by omega)]
        refine w_iload X4 D13_128 rfl ?_
        refine w_lshl X4 D13_130 ?_
        rw [nL_shl (cn sl / 2 ^ S 3 i % 2 ^ S 4 i) (show S 2 i < 64 by omega)]
        refine w_lor X4 D13_131 ?_
        rw [nL_or]
        refine w_lastore X4 D13_132 (M.at (iy + 12) (set_self hLz)) ((S 1) i) rfl (by omega) (fun T5 h5 X5 K5 B5 => ?_)
        rw [upd_nJ] at B5
        have O_K5 := O.keepB hw (M.at (iy + 12) (set_self hLz)) K5
        have M5 := M.st (iy + 12) (set_self hLz) K5 B5
        refine w_aloadN X5 D13_133 rfl rfl ?_
        refine w_getF X5 D13_134 (hw _ (List.mem_of_getElem? (i := 26) rfl)) O_K5.2.2.2.2.2.2.2.1 (fun T6 X6 => ?_)
        refine w_iload X6 D13_137 rfl ?_
        refine w_iaload X6 D13_139 (M5.at 6 rfl) i rfl (by omega) ?_
        show Wp _ _ _ _ _ _ _ _ (mkF m 140 #[.val (.ref l0), .val (.ref a1), .val (.int (Int32.ofNat sl)), .val (.ref a2), .val (.int (Int32.ofNat (cn sl))), .val (.int (Int32.ofNat (S 6 sl))), .val (.long (Int64.ofNat (2 ^ (S 8 sl) - 1))), .second, .val (.int (Int32.ofNat i)), .val (.int (Int32.ofNat ((S 1) i))), .val (.long (Int64.ofNat (2 ^ ((S 4) i) - 1))), .second, .val (.int (Int32.ofNat ((S 2) i)))] [(.int (Int32.ofNat ((S 5) i) - (1 : Int32)))])
        refine w_istore X6 D13_140 (l' := #[.val (.ref l0), .val (.ref a1), .val (.int (Int32.ofNat sl)), .val (.ref a2), .val (.int (Int32.ofNat (cn sl))), .val (.int (Int32.ofNat (S 6 sl))), .val (.long (Int64.ofNat (2 ^ (S 8 sl) - 1))), .second, .val (.int (Int32.ofNat ((S 5) i) - (1 : Int32))), .val (.int (Int32.ofNat ((S 1) i))), .val (.long (Int64.ofNat (2 ^ ((S 4) i) - 1))), .second, .val (.int (Int32.ofNat ((S 2) i)))]) rfl ?_
        refine w_goto X6 D13_142 ?_
        have M9 : Mem Z n0 h5 (live ad S (cp E) (Lt.set iy (a2, .long, nr, bJ (nJ (RF S (cn sl) sl R (3 + (i + 1))))))) := by
          have z : Mem Z n0 h5 (live ad S (cp E) ((Lt.set iy (a2, .long, nr, bJ (nJ (RF S (cn sl) sl R (3 + i))))).set iy _)) := M5
          rw [List.set_set] at z
          rw [RF_ext S (cn sl) sl R i h4]; exact z
        exact ih (i + 1) _ _ _ _ _ _ _ (Or.inr ⟨_, _, _, rfl, rfl, rfl, rfl⟩) (by omega) (by omega) hNn X6 ⟨O_K5, M9⟩
      · refine w_iload X D13_65 rfl ?_
        refine w_iflt X D13_67 (fun hc67 => by exact absurd hc67 (fun z => by rw [Int32.lt_iff_toInt_lt, ofNat_toInt (by omega), show (0 : Int32).toInt = 0 from rfl] at z; omega)) (fun hc67 => ?_)
        refine w_aloadN X D13_70 rfl rfl ?_
        refine w_getF X D13_71 (hw _ (List.mem_of_getElem? (i := 18) rfl)) O.2.2.2.1 (fun T1 X1 => ?_)
        refine w_iload X1 D13_74 rfl ?_
        refine w_iaload X1 D13_76 (M.at 10 rfl) i rfl (by omega) ?_
        show Wp _ _ _ _ _ _ _ _ (mkF m 77 #[.val (.ref l0), .val (.ref a1), .val (.int (Int32.ofNat sl)), .val (.ref a2), .val (.int (Int32.ofNat (cn sl))), .val (.int (Int32.ofNat (S 6 sl))), .val (.long (Int64.ofNat (2 ^ (S 8 sl) - 1))), .second, .val (.int (Int32.ofNat i)), .val (.int y9), .val (.long y10), .second, .val (.int y12)] [(.int (Int32.ofNat ((S 1) i)))])
        refine w_istore X1 D13_77 (l' := #[.val (.ref l0), .val (.ref a1), .val (.int (Int32.ofNat sl)), .val (.ref a2), .val (.int (Int32.ofNat (cn sl))), .val (.int (Int32.ofNat (S 6 sl))), .val (.long (Int64.ofNat (2 ^ (S 8 sl) - 1))), .second, .val (.int (Int32.ofNat i)), .val (.int (Int32.ofNat ((S 1) i))), .val (.long y10), .second, .val (.int y12)]) rfl ?_
        refine w_aloadN X1 D13_79 rfl rfl ?_
        refine w_getF X1 D13_80 (hw _ (List.mem_of_getElem? (i := 24) rfl)) O.2.2.2.2.2.2.1 (fun T2 X2 => ?_)
        refine w_iload X2 D13_83 rfl ?_
        refine w_laload X2 D13_85 (M.at 7 rfl) i rfl (by omega) ?_
        show Wp _ _ _ _ _ _ _ _ (mkF m 86 #[.val (.ref l0), .val (.ref a1), .val (.int (Int32.ofNat sl)), .val (.ref a2), .val (.int (Int32.ofNat (cn sl))), .val (.int (Int32.ofNat (S 6 sl))), .val (.long (Int64.ofNat (2 ^ (S 8 sl) - 1))), .second, .val (.int (Int32.ofNat i)), .val (.int (Int32.ofNat ((S 1) i))), .val (.long y10), .second, .val (.int y12)] [(.long (Int64.ofNat (2 ^ ((S 4) i) - 1)))])
        refine w_lstore X2 D13_86 (l' := #[.val (.ref l0), .val (.ref a1), .val (.int (Int32.ofNat sl)), .val (.ref a2), .val (.int (Int32.ofNat (cn sl))), .val (.int (Int32.ofNat (S 6 sl))), .val (.long (Int64.ofNat (2 ^ (S 8 sl) - 1))), .second, .val (.int (Int32.ofNat i)), .val (.int (Int32.ofNat ((S 1) i))), .val (.long (Int64.ofNat (2 ^ ((S 4) i) - 1))), .second, .val (.int y12)]) rfl ?_
        refine w_aloadN X2 D13_88 rfl rfl ?_
        refine w_getF X2 D13_89 (hw _ (List.mem_of_getElem? (i := 20) rfl)) O.2.2.2.2.1 (fun T3 X3 => ?_)
        refine w_iload X3 D13_92 rfl ?_
        refine w_iaload X3 D13_94 (M.at 9 rfl) i rfl (by omega) ?_
        show Wp _ _ _ _ _ _ _ _ (mkF m 95 #[.val (.ref l0), .val (.ref a1), .val (.int (Int32.ofNat sl)), .val (.ref a2), .val (.int (Int32.ofNat (cn sl))), .val (.int (Int32.ofNat (S 6 sl))), .val (.long (Int64.ofNat (2 ^ (S 8 sl) - 1))), .second, .val (.int (Int32.ofNat i)), .val (.int (Int32.ofNat ((S 1) i))), .val (.long (Int64.ofNat (2 ^ ((S 4) i) - 1))), .second, .val (.int y12)] [(.int (Int32.ofNat ((S 2) i)))])
        refine w_istore X3 D13_95 (l' := #[.val (.ref l0), .val (.ref a1), .val (.int (Int32.ofNat sl)), .val (.ref a2), .val (.int (Int32.ofNat (cn sl))), .val (.int (Int32.ofNat (S 6 sl))), .val (.long (Int64.ofNat (2 ^ (S 8 sl) - 1))), .second, .val (.int (Int32.ofNat i)), .val (.int (Int32.ofNat ((S 1) i))), .val (.long (Int64.ofNat (2 ^ ((S 4) i) - 1))), .second, .val (.int (Int32.ofNat ((S 2) i)))]) rfl ?_
        refine w_aloadN X3 D13_97 rfl rfl ?_
        refine w_iload X3 D13_98 rfl ?_
        refine w_aloadN X3 D13_100 rfl rfl ?_
        refine w_iload X3 D13_101 rfl ?_
        refine w_laload X3 D13_103 (M.at (iy + 12) (set_self hLz)) ((S 1) i) rfl (by omega) ?_
        show Wp _ _ _ _ _ _ _ _ (mkF m 104 #[.val (.ref l0), .val (.ref a1), .val (.int (Int32.ofNat sl)), .val (.ref a2), .val (.int (Int32.ofNat (cn sl))), .val (.int (Int32.ofNat (S 6 sl))), .val (.long (Int64.ofNat (2 ^ (S 8 sl) - 1))), .second, .val (.int (Int32.ofNat i)), .val (.int (Int32.ofNat ((S 1) i))), .val (.long (Int64.ofNat (2 ^ ((S 4) i) - 1))), .second, .val (.int (Int32.ofNat ((S 2) i)))] [(.long (Int64.ofNat ((RF S (cn sl) sl R (3 + i)) ((S 1) i)))), (.int (Int32.ofNat ((S 1) i))), (.ref a2)])
        refine w_lload X3 D13_104 rfl ?_
        refine w_iload X3 D13_106 rfl ?_
        refine w_lshl X3 D13_108 ?_
        rw [nL_shl (2 ^ (S 4 i) - 1) (show S 2 i < 64 by omega)]
        refine w_ldc2 X3 D13_109 (hw _ (List.mem_of_getElem? (i := 88) rfl)) ?_
        refine w_lxor X3 D13_112 ?_
        rw [nL_not]
        refine w_land X3 D13_113 ?_
        rw [nL_and]
        refine w_iload X3 D13_114 rfl ?_
        refine w_aloadN X3 D13_116 rfl rfl ?_
        refine w_getF X3 D13_117 (hw _ (List.mem_of_getElem? (i := 22) rfl)) O.2.2.2.2.2.1 (fun T4 X4 => ?_)
        refine w_iload X4 D13_120 rfl ?_
        refine w_iaload X4 D13_122 (M.at 8 rfl) i rfl (by omega) ?_
        show Wp _ _ _ _ _ _ _ _ (mkF m 123 #[.val (.ref l0), .val (.ref a1), .val (.int (Int32.ofNat sl)), .val (.ref a2), .val (.int (Int32.ofNat (cn sl))), .val (.int (Int32.ofNat (S 6 sl))), .val (.long (Int64.ofNat (2 ^ (S 8 sl) - 1))), .second, .val (.int (Int32.ofNat i)), .val (.int (Int32.ofNat ((S 1) i))), .val (.long (Int64.ofNat (2 ^ ((S 4) i) - 1))), .second, .val (.int (Int32.ofNat ((S 2) i)))] [(.int (Int32.ofNat ((S 3) i))), (.int (Int32.ofNat (cn sl))), (.long (Int64.ofNat (RF S (cn sl) sl R (3 + i) (S 1 i) &&& ((2 ^ (S 4 i) - 1) * 2 ^ S 2 i ^^^ 18446744073709551615)))), (.int (Int32.ofNat ((S 1) i))), (.ref a2)])
        refine w_iushr X4 D13_123 ?_
        rw [n_ushrU hci (show S 3 i < 32 by omega)]
        refine w_i2l X4 D13_124 ?_
        refine w_lload X4 D13_125 rfl ?_
        refine w_land X4 D13_127 ?_
        rw [n_i2lmask (cn sl / 2 ^ S 3 i) (show S 4 i ≤ 32 by omega)]
        refine w_iload X4 D13_128 rfl ?_
        refine w_lshl X4 D13_130 ?_
        rw [nL_shl (cn sl / 2 ^ S 3 i % 2 ^ S 4 i) (show S 2 i < 64 by omega)]
        refine w_lor X4 D13_131 ?_
        rw [nL_or]
        refine w_lastore X4 D13_132 (M.at (iy + 12) (set_self hLz)) ((S 1) i) rfl (by omega) (fun T5 h5 X5 K5 B5 => ?_)
        rw [upd_nJ] at B5
        have O_K5 := O.keepB hw (M.at (iy + 12) (set_self hLz)) K5
        have M5 := M.st (iy + 12) (set_self hLz) K5 B5
        refine w_aloadN X5 D13_133 rfl rfl ?_
        refine w_getF X5 D13_134 (hw _ (List.mem_of_getElem? (i := 26) rfl)) O_K5.2.2.2.2.2.2.2.1 (fun T6 X6 => ?_)
        refine w_iload X6 D13_137 rfl ?_
        refine w_iaload X6 D13_139 (M5.at 6 rfl) i rfl (by omega) ?_
        show Wp _ _ _ _ _ _ _ _ (mkF m 140 #[.val (.ref l0), .val (.ref a1), .val (.int (Int32.ofNat sl)), .val (.ref a2), .val (.int (Int32.ofNat (cn sl))), .val (.int (Int32.ofNat (S 6 sl))), .val (.long (Int64.ofNat (2 ^ (S 8 sl) - 1))), .second, .val (.int (Int32.ofNat i)), .val (.int (Int32.ofNat ((S 1) i))), .val (.long (Int64.ofNat (2 ^ ((S 4) i) - 1))), .second, .val (.int (Int32.ofNat ((S 2) i)))] [(.int (Int32.ofNat ((S 5) i) - (1 : Int32)))])
        refine w_istore X6 D13_140 (l' := #[.val (.ref l0), .val (.ref a1), .val (.int (Int32.ofNat sl)), .val (.ref a2), .val (.int (Int32.ofNat (cn sl))), .val (.int (Int32.ofNat (S 6 sl))), .val (.long (Int64.ofNat (2 ^ (S 8 sl) - 1))), .second, .val (.int (Int32.ofNat ((S 5) i) - (1 : Int32))), .val (.int (Int32.ofNat ((S 1) i))), .val (.long (Int64.ofNat (2 ^ ((S 4) i) - 1))), .second, .val (.int (Int32.ofNat ((S 2) i)))]) rfl ?_
        refine w_goto X6 D13_142 ?_
        have M9 : Mem Z n0 h5 (live ad S (cp E) (Lt.set iy (a2, .long, nr, bJ (nJ (RF S (cn sl) sl R (3 + (i + 1))))))) := by
          have z : Mem Z n0 h5 (live ad S (cp E) ((Lt.set iy (a2, .long, nr, bJ (nJ (RF S (cn sl) sl R (3 + i))))).set iy _)) := M5
          rw [List.set_set] at z
          rw [RF_ext S (cn sl) sl R i h4]; exact z
        exact ih (i + 1) _ _ _ _ _ _ _ (Or.inr ⟨_, _, _, rfl, rfl, rfl, rfl⟩) (by omega) (by omega) hNn X6 ⟨O_K5, M9⟩
theorem ef_13 (m : MethodId) (l0 : Addr) (a1 : Addr) (x2 : Int32) (a2 : Addr) : entryFrame m #[(.ref l0), (.ref a1), (.int x2), (.ref a2)] 13 = mkF m 0 #[.val (.ref l0), .val (.ref a1), .val (.int x2), .val (.ref a2), .unset, .unset, .unset, .unset, .unset, .unset, .unset, .unset, .unset] [] := by first | (simp [entryFrame, mkF, argsToLocals, Value.category]; done) | rfl
theorem pn_13 : plainName "com/example/tokenfold/tokenfold/statespace/Packing" = true := by first | (simp [plainName, overriddenIn]; done) | decide +kernel
set_option maxRecDepth 65536 in
set_option maxHeartbeats 40000000 in
theorem rmR {l : Launch} {Z : State} {a0 : Array Value} {n0 : Nat} {h : Heap} (hw : ∀ d ∈ tables_1, d.before a0 Z = true) (hn : n0 ≤ h.size) (l0 : Addr) (a1 : Addr) (x2 : Int32) (a2 : Addr) (ad : Nat → Addr) (S : Nat → Nat → Nat) (E en rw nr sl : Nat) (cn R : Nat → Nat) (Lt : List Ent) (ix iy : Nat) (hLx : Lt[ix]? = some (a1, .int, 3, bI (nI cn))) (hne : ix ≠ iy) (hLy : Lt[iy]? = some (a2, .long, nr, bJ (nJ R))) (hnr : 3 ≤ nr) (hcn : ∀ s, s < 3 → cn s < 4294967296) (I : Inv S E en) (Lk : Lnk S E) (hE8 : E ≤ 8) (hr : 1 ≤ rw ∧ rw ≤ 3 ∧ en ≤ 64 * rw) (hsl : sl < 3) (e2 : x2 = Int32.ofNat sl) (P : PK Z n0 h l0 ad S E (cp E) en rw Lt) :
    Ctr l Z n0 (⟨"com/example/tokenfold/tokenfold/statespace/Packing", "repack", "([II[J)Z"⟩ : MethodName) prog_60_method_4_code 13 (some .boolean) ({ frames := 0, cells := 0, slots := 0, locals := 0 } : Room) [] #[(.ref l0), (.ref a1), (.int x2), (.ref a2)] h (fun v h' => v = some (.int (Int32.ofNat (if cn sl / 2 ^ S 9 sl = 0 then 1 else 0))) ∧ PK Z n0 h' l0 ad S E (cp E) en rw (Lt.set iy (a2, .long, nr, bJ (nJ (RF S (cn sl) sl R (3 + E)))))) := by
  refine ctr_of (plainFor_of_name pn_13) hw hn ?_
  intro p e s m below meth c T X
  refine Wp.cast (ef_13 m l0 a1 x2 a2) ?_
  subst e2
  obtain ⟨O, M⟩ := P
  obtain ⟨b1, b2, b3, b4, b5, b6⟩ := I.base hr.2.2 hsl
  have hci := hcn sl hsl
  refine w_aloadN X D13_0 rfl rfl ?_
  refine w_iloadN X D13_1 rfl ?_
  refine w_iaload X D13_2 (M.at (ix + 12) hLx) sl rfl (by omega) ?_
  show Wp _ _ _ _ _ _ _ _ (mkF m 3 #[.val (.ref l0), .val (.ref a1), .val (.int (Int32.ofNat sl)), .val (.ref a2), .unset, .unset, .unset, .unset, .unset, .unset, .unset, .unset, .unset] [(.int (Int32.ofNat (cn sl)))])
  refine w_istore X D13_3 (l' := #[.val (.ref l0), .val (.ref a1), .val (.int (Int32.ofNat sl)), .val (.ref a2), .val (.int (Int32.ofNat (cn sl))), .unset, .unset, .unset, .unset, .unset, .unset, .unset, .unset]) rfl ?_
  refine w_aloadN X D13_5 rfl rfl ?_
  refine w_getF X D13_6 (hw _ (List.mem_of_getElem? (i := 28) rfl)) O.2.2.2.2.2.2.2.2.1 (fun T1 X1 => ?_)
  refine w_iloadN X1 D13_9 rfl ?_
  refine w_iaload X1 D13_10 (M.at 5 rfl) sl rfl (by omega) ?_
  show Wp _ _ _ _ _ _ _ _ (mkF m 11 #[.val (.ref l0), .val (.ref a1), .val (.int (Int32.ofNat sl)), .val (.ref a2), .val (.int (Int32.ofNat (cn sl))), .unset, .unset, .unset, .unset, .unset, .unset, .unset, .unset] [(.int (Int32.ofNat ((S 6) sl)))])
  refine w_istore X1 D13_11 (l' := #[.val (.ref l0), .val (.ref a1), .val (.int (Int32.ofNat sl)), .val (.ref a2), .val (.int (Int32.ofNat (cn sl))), .val (.int (Int32.ofNat ((S 6) sl))), .unset, .unset, .unset, .unset, .unset, .unset, .unset]) rfl ?_
  refine w_aloadN X1 D13_13 rfl rfl ?_
  refine w_getF X1 D13_14 (hw _ (List.mem_of_getElem? (i := 32) rfl)) O.2.2.2.2.2.2.2.2.2.2.1 (fun T2 X2 => ?_)
  refine w_iloadN X2 D13_17 rfl ?_
  refine w_laload X2 D13_18 (M.at 3 rfl) sl rfl (by omega) ?_
  show Wp _ _ _ _ _ _ _ _ (mkF m 19 #[.val (.ref l0), .val (.ref a1), .val (.int (Int32.ofNat sl)), .val (.ref a2), .val (.int (Int32.ofNat (cn sl))), .val (.int (Int32.ofNat ((S 6) sl))), .unset, .unset, .unset, .unset, .unset, .unset, .unset] [(.long (Int64.ofNat (2 ^ ((S 8) sl) - 1)))])
  refine w_lstore X2 D13_19 (l' := #[.val (.ref l0), .val (.ref a1), .val (.int (Int32.ofNat sl)), .val (.ref a2), .val (.int (Int32.ofNat (cn sl))), .val (.int (Int32.ofNat ((S 6) sl))), .val (.long (Int64.ofNat (2 ^ ((S 8) sl) - 1))), .second, .unset, .unset, .unset, .unset, .unset]) rfl ?_
  refine w_aloadN X2 D13_21 rfl rfl ?_
  refine w_iload X2 D13_22 rfl ?_
  refine w_aloadN X2 D13_24 rfl rfl ?_
  refine w_iload X2 D13_25 rfl ?_
  refine w_laload X2 D13_27 (M.at (iy + 12) hLy) ((S 6) sl) rfl (by omega) ?_
  show Wp _ _ _ _ _ _ _ _ (mkF m 28 #[.val (.ref l0), .val (.ref a1), .val (.int (Int32.ofNat sl)), .val (.ref a2), .val (.int (Int32.ofNat (cn sl))), .val (.int (Int32.ofNat ((S 6) sl))), .val (.long (Int64.ofNat (2 ^ ((S 8) sl) - 1))), .second, .unset, .unset, .unset, .unset, .unset] [(.long (Int64.ofNat (R ((S 6) sl)))), (.int (Int32.ofNat ((S 6) sl))), (.ref a2)])
  refine w_lload X2 D13_28 rfl ?_
  refine w_aloadN X2 D13_30 rfl rfl ?_
  refine w_getF X2 D13_31 (hw _ (List.mem_of_getElem? (i := 30) rfl)) O.2.2.2.2.2.2.2.2.2.1 (fun T3 X3 => ?_)
  refine w_iloadN X3 D13_34 rfl ?_
  refine w_iaload X3 D13_35 (M.at 4 rfl) sl rfl (by omega) ?_
  show Wp _ _ _ _ _ _ _ _ (mkF m 36 #[.val (.ref l0), .val (.ref a1), .val (.int (Int32.ofNat sl)), .val (.ref a2), .val (.int (Int32.ofNat (cn sl))), .val (.int (Int32.ofNat ((S 6) sl))), .val (.long (Int64.ofNat (2 ^ ((S 8) sl) - 1))), .second, .unset, .unset, .unset, .unset, .unset] [(.int (Int32.ofNat ((S 7) sl))), (.long (Int64.ofNat (2 ^ ((S 8) sl) - 1))), (.long (Int64.ofNat (R ((S 6) sl)))), (.int (Int32.ofNat ((S 6) sl))), (.ref a2)])
  refine w_lshl X3 D13_36 ?_
  rw [nL_shl (2 ^ (S 8 sl) - 1) (show S 7 sl < 64 by omega)]
  refine w_ldc2 X3 D13_37 (hw _ (List.mem_of_getElem? (i := 88) rfl)) ?_
  refine w_lxor X3 D13_40 ?_
  rw [nL_not]
  refine w_land X3 D13_41 ?_
  rw [nL_and]
  refine w_iload X3 D13_42 rfl ?_
  refine w_i2l X3 D13_44 ?_
  refine w_lload X3 D13_45 rfl ?_
  refine w_land X3 D13_47 ?_
  rw [n_i2lmask (cn sl) (show S 8 sl ≤ 32 by omega)]
  refine w_aloadN X3 D13_48 rfl rfl ?_
  refine w_getF X3 D13_49 (hw _ (List.mem_of_getElem? (i := 30) rfl)) O.2.2.2.2.2.2.2.2.2.1 (fun T4 X4 => ?_)
  refine w_iloadN X4 D13_52 rfl ?_
  refine w_iaload X4 D13_53 (M.at 4 rfl) sl rfl (by omega) ?_
  show Wp _ _ _ _ _ _ _ _ (mkF m 54 #[.val (.ref l0), .val (.ref a1), .val (.int (Int32.ofNat sl)), .val (.ref a2), .val (.int (Int32.ofNat (cn sl))), .val (.int (Int32.ofNat ((S 6) sl))), .val (.long (Int64.ofNat (2 ^ ((S 8) sl) - 1))), .second, .unset, .unset, .unset, .unset, .unset] [(.int (Int32.ofNat ((S 7) sl))), (.long (Int64.ofNat (cn sl % 2 ^ S 8 sl))), (.long (Int64.ofNat (R (S 6 sl) &&& ((2 ^ (S 8 sl) - 1) * 2 ^ S 7 sl ^^^ 18446744073709551615)))), (.int (Int32.ofNat ((S 6) sl))), (.ref a2)])
  refine w_lshl X4 D13_54 ?_
  rw [nL_shl (cn sl % 2 ^ S 8 sl) (show S 7 sl < 64 by omega)]
  refine w_lor X4 D13_55 ?_
  rw [nL_or]
  refine w_lastore X4 D13_56 (M.at (iy + 12) hLy) ((S 6) sl) rfl (by omega) (fun T5 h5 X5 K5 B5 => ?_)
  rw [upd_nJ] at B5
  have O_K5 := O.keepB hw (M.at (iy + 12) hLy) K5
  have M5 := M.st (iy + 12) hLy K5 B5
  refine w_aloadN X5 D13_57 rfl rfl ?_
  refine w_getF X5 D13_58 (hw _ (List.mem_of_getElem? (i := 36) rfl)) O_K5.2.2.2.2.2.2.2.2.2.2.2.2.1 (fun T6 X6 => ?_)
  refine w_iloadN X6 D13_61 rfl ?_
  refine w_iaload X6 D13_62 (M5.at 1 rfl) sl rfl (by omega) ?_
  show Wp _ _ _ _ _ _ _ _ (mkF m 63 #[.val (.ref l0), .val (.ref a1), .val (.int (Int32.ofNat sl)), .val (.ref a2), .val (.int (Int32.ofNat (cn sl))), .val (.int (Int32.ofNat ((S 6) sl))), .val (.long (Int64.ofNat (2 ^ ((S 8) sl) - 1))), .second, .unset, .unset, .unset, .unset, .unset] [(.int (Int32.ofNat ((S 10) sl) - (1 : Int32)))])
  refine w_istore X6 D13_63 (l' := #[.val (.ref l0), .val (.ref a1), .val (.int (Int32.ofNat sl)), .val (.ref a2), .val (.int (Int32.ofNat (cn sl))), .val (.int (Int32.ofNat ((S 6) sl))), .val (.long (Int64.ofNat (2 ^ ((S 8) sl) - 1))), .second, .val (.int (Int32.ofNat ((S 10) sl) - (1 : Int32))), .unset, .unset, .unset, .unset]) rfl ?_
  have M9 : Mem Z n0 h5 (live ad S (cp E) (Lt.set iy (a2, .long, nr, bJ (nJ (RF S (cn sl) sl R (3 + 0)))))) := by
    rw [RF_base S (cn sl) sl R hsl]; exact M5
  exact rpL hw l0 a1 a2 ad S E en rw nr sl cn R Lt ix iy hLx hne ⟨_, hLy⟩ hnr hcn I Lk hE8 hr hsl (by decide) (by decide) (fun h' P => ⟨rfl, P⟩) E 0 _ _ _ _ _ _ _ (Or.inl ⟨rfl, rfl, rfl, rfl⟩) (by omega) (Nat.zero_le _) (Lk.1 sl hsl) X6 ⟨O_K5, M9⟩
-- CUT
theorem own_and (x : Int32) (k : Nat) (hk : k ≤ 31) {m : Int32} (hm : m.toBitVec.toNat = 2 ^ k - 1) : ∃ u, u < 2 ^ k ∧ x &&& m = Int32.ofNat u := by
  have h1 : (0 : Int) < ((2 ^ k : Nat) : Int) := by
    have := Nat.two_pow_pos k
    omega
  have h3 := Int.emod_nonneg x.toInt (Int.ne_of_gt h1)
  have h4 := Int.emod_lt_of_pos x.toInt h1
  exact ⟨_, by omega, n_mask x k hk hm⟩
theorem ef_1 (m : MethodId) (x1 : Int64) (x2 : Int32) : entryFrame m #[(.long x1), (.int x2)] 4 = mkF m 0 #[.val (.long x1), .second, .val (.int x2), .unset] [] := by first | (simp [entryFrame, mkF, argsToLocals, Value.category]; done) | rfl
theorem pn_1 : plainName "com/example/tokenfold/tokenfold/statespace/PackingRepackPinLaw" = true := by first | (simp [plainName, overriddenIn]; done) | decide +kernel
set_option maxRecDepth 65536 in
set_option maxHeartbeats 40000000 in
theorem rmC {l : Launch} {Z : State} {a0 : Array Value} {n0 : Nat} {h : Heap} (hw : ∀ d ∈ tables_1, d.before a0 Z = true) (hn : n0 ≤ h.size) (x1 : Int64) (x2 : Int32) :
    Ctr l Z n0 (⟨"com/example/tokenfold/tokenfold/statespace/PackingRepackPinLaw", "c", "(JI)I"⟩ : MethodName) method_3_code 4 (some .int) ({ frames := 0, cells := 0, slots := 0, locals := 0 } : Room) [] #[(.long x1), (.int x2)] h (fun v h' => ∃ u, u < 2147483648 ∧ v = some (.int (Int32.ofNat u)) ∧ h = h') := by
  refine ctr_of (plainFor_of_name pn_1) hw hn ?_
  intro p e s m below meth c T X
  refine Wp.cast (ef_1 m x1 x2) ?_
  obtain ⟨kq, hkq, ekq⟩ := own_and ((jushrL x1 x2).toInt32) 5 (by decide) (m := 31) rfl
  have hp : 2 ^ kq < 4294967296 := Nat.lt_of_le_of_lt (Nat.pow_le_pow_right (by decide) (show kq ≤ 31 by omega)) (by decide)
  refine w_lloadN X D1_0 rfl ?_
  refine w_iloadN X D1_1 rfl ?_
  refine w_lushr X D1_2 ?_
  refine w_l2i X D1_3 ?_
  refine w_bipush X D1_4 (v := (31 : Int32)) rfl ?_
  refine w_iand X D1_6 ?_
  rw [ekq]
  refine w_istoreN X D1_7 (l' := #[.val (.long x1), .second, .val (.int x2), .val (.int (Int32.ofNat kq))]) rfl ?_
  refine w_iconst X D1_8 (v := (1 : Int32)) rfl ?_
  refine w_iloadN X D1_9 rfl ?_
  refine w_ishl X D1_10 ?_
  rw [show jshl 1 (Int32.ofNat kq) = Int32.ofNat (1 * 2 ^ kq) from n_shl 1 (by omega), Nat.one_mul]
  refine w_iconst X D1_11 (v := (1 : Int32)) rfl ?_
  refine w_iushr X D1_12 ?_
  rw [show jushr (Int32.ofNat (2 ^ kq)) 1 = Int32.ofNat (2 ^ kq / 2 ^ 1) from n_ushrU (k := 1) hp (by decide)]
  exact w_ireturn X D1_13 (by decide) (by decide) (⟨2 ^ kq / 2 ^ 1, by omega, rfl, rfl⟩)
-- CUT
abbrev own_L (ou r2 r1 f4 f3 f2 f1 : Addr) (g : Nat → Int32) (R2 R1 ca c3 c2 c1 : Nat → Nat) : List Ent := [(ou, .int, 3, bI g), (r2, .long, 4, bJ (nJ R2)), (r1, .long, 4, bJ (nJ R1)), (f4, .int, 3, bI (nI ca)), (f3, .int, 3, bI (nI c3)), (f2, .int, 3, bI (nI c2)), (f1, .int, 3, bI (nI c1))]
set_option maxRecDepth 65536 in
set_option maxHeartbeats 40000000 in
theorem law2 {Z : State} {a0 : Array Value} {n0 : Nat} {p : Program} {l : Launch} {e : Env} {s : State} {m : MethodId} {args : Array Value} {below : List Frame} {meth : Method} {c : Code} {T : State} {h : Heap}  (hw : ∀ d ∈ tables_1, d.before a0 Z = true) (X : Pos Z a0 n0 p l e room_1 s m args below meth c code maxLocals ret x T h 7 23) (ss aa : Int32) (ww mm : Int64) (vv sl : Nat) (ou r2 r1 f4 f3 f2 f1 : Addr) (gout : Nat → Int32) (ca c3 c2 c1 : Nat → Nat) (hvv : vv < 4294967296) (hsl : sl < 3) (hca : ∀ s, s < 3 → ca s < 4294967296) (hc3 : ∀ s, s < 3 → c3 s < 2147483648) (hc2 : ∀ s, s < 3 → c2 s < 2147483648) (hc1 : ∀ s, s < 3 → c1 s < 2147483648) (M : Mem Z n0 h (own_L ou r2 r1 f4 f3 f2 f1 gout (fun _ => 0) (fun _ => 0) ca c3 c2 c1)) : Wp n0 p e room_1 s below (fun v _ => v = some (.int 1)) T (mkF m 142 #[.val (.int (Int32.ofNat vv)), .val (.int ss), .val (.long ww), .second, .val (.long mm), .second, .val (.int aa), .val (.int (Int32.ofNat sl)), .val (.ref f1), .val (.ref f2), .val (.ref f3), .val (.ref f4), .val (.ref r1), .val (.ref r2), .val (.ref ou), .unset, .unset] []) := by
  have hca2 : ∀ s, s < 3 → (upd ca sl vv) s < 4294967296 := fun s hs => by
    by_cases h : s = sl
    · rw [h, upd_at]; exact hvv
    · rw [upd_ne _ _ h]; exact hca s hs
  refine w_new X D0_142 (hw _ (List.mem_of_getElem? (i := 7) rfl)) (hw _ (List.mem_of_getElem? (i := 8) rfl)) (hw _ (List.mem_of_getElem? (i := 9) rfl)) (Nat.le_of_ble_eq_true rfl) (Nat.le_of_ble_eq_true rfl) (fun T1 h1 a1 X1 g1 n1 E1 A1 D1 => ?_)
  have M1 := M.ext E1
  have O1 := Pak.new hw n1 A1 D1
  refine w_dup X1 D0_145 rfl ?_
  refine w_aload X1 D0_146 rfl rfl ?_
  refine w_special X1 D0_148 (rmI hw X1.sz a1 f1 c1 (own_L ou r2 r1 f4 f3 f2 f1 gout (fun _ => 0) (fun _ => 0) ca c3 c2 c1) 6 rfl hc1 O1 M1) rfl (hw _ (List.mem_of_getElem? (i := 10) rfl)) (hw _ (List.mem_of_getElem? (i := 11) rfl)) (hw _ (List.mem_of_getElem? (i := 9) rfl)) (hw _ (List.mem_of_getElem? (i := 12) rfl)) (by decide) pd_11 rfl (S := [(.ref a1)]) rfl rfl (Nat.le_of_ble_eq_true rfl) (Nat.le_of_ble_eq_true rfl) (Nat.le_of_ble_eq_true rfl) (Nat.le_of_ble_eq_true rfl) (fun v2 T2 h2 X2 q2 => ?_)
  obtain ⟨rfl, ad1, S1, en1, rw1, I1, z1, hr1, P1⟩ := q2
  show Wp _ _ _ _ _ _ _ _ (mkF m 151 #[.val (.int (Int32.ofNat vv)), .val (.int ss), .val (.long ww), .second, .val (.long mm), .second, .val (.int aa), .val (.int (Int32.ofNat sl)), .val (.ref f1), .val (.ref f2), .val (.ref f3), .val (.ref f4), .val (.ref r1), .val (.ref r2), .val (.ref ou), .unset, .unset] [(.ref a1)])
  refine w_astore X2 D0_151 (l' := #[.val (.int (Int32.ofNat vv)), .val (.int ss), .val (.long ww), .second, .val (.long mm), .second, .val (.int aa), .val (.int (Int32.ofNat sl)), .val (.ref f1), .val (.ref f2), .val (.ref f3), .val (.ref f4), .val (.ref r1), .val (.ref r2), .val (.ref ou), .val (.ref a1), .unset]) rfl rfl ?_
  refine w_aload X2 D0_153 rfl rfl ?_
  refine w_aload X2 D0_155 rfl rfl ?_
  refine w_virtual X2 D0_157 (rmWd hw X2.sz a1 f2 ad1 S1 0 en1 rw1 c2 (own_L ou r2 r1 f4 f3 f2 f1 gout (fun _ => 0) (fun _ => 0) ca c3 c2 c1) 5 rfl hc2 I1 Lnk (fun S E sl b en _ L h => L.add h) (Lnk.ini z1) (by omega) hr1 P1) P1.1.2.1 (hw _ (List.mem_of_getElem? (i := 65) rfl)) (hw _ (List.mem_of_getElem? (i := 66) rfl)) (hw _ (List.mem_of_getElem? (i := 68) rfl)) (hw _ (List.mem_of_getElem? (i := 67) rfl)) (hw _ (List.mem_of_getElem? (i := 9) rfl)) (hw _ (List.mem_of_getElem? (i := 69) rfl)) (by decide) pd_11 rfl (S := []) rfl rfl (Nat.le_of_ble_eq_true rfl) (Nat.le_of_ble_eq_true rfl) (Nat.le_of_ble_eq_true rfl) (Nat.le_of_ble_eq_true rfl) (fun v3 T3 h3 X3 q3 => ?_)
  obtain ⟨rfl, ad2, S2, E2, en2, rw2, I2, J2, la2, lb2, hr2, hf2, P2⟩ := q3
  show Wp _ _ _ _ _ _ _ _ (mkF m 160 #[.val (.int (Int32.ofNat vv)), .val (.int ss), .val (.long ww), .second, .val (.long mm), .second, .val (.int aa), .val (.int (Int32.ofNat sl)), .val (.ref f1), .val (.ref f2), .val (.ref f3), .val (.ref f4), .val (.ref r1), .val (.ref r2), .val (.ref ou), .val (.ref a1), .unset] [])
  refine w_aload X3 D0_160 rfl rfl ?_
  refine w_aload X3 D0_162 rfl rfl ?_
  refine w_virtual X3 D0_164 (rmWd hw X3.sz a1 f3 ad2 S2 E2 en2 rw2 c3 (own_L ou r2 r1 f4 f3 f2 f1 gout (fun _ => 0) (fun _ => 0) ca c3 c2 c1) 4 rfl hc3 I2 Lnk (fun S E sl b en _ L h => L.add h) J2 (by omega) hr2 P2) P2.1.2.1 (hw _ (List.mem_of_getElem? (i := 65) rfl)) (hw _ (List.mem_of_getElem? (i := 66) rfl)) (hw _ (List.mem_of_getElem? (i := 68) rfl)) (hw _ (List.mem_of_getElem? (i := 67) rfl)) (hw _ (List.mem_of_getElem? (i := 9) rfl)) (hw _ (List.mem_of_getElem? (i := 69) rfl)) (by decide) pd_11 rfl (S := []) rfl rfl (Nat.le_of_ble_eq_true rfl) (Nat.le_of_ble_eq_true rfl) (Nat.le_of_ble_eq_true rfl) (Nat.le_of_ble_eq_true rfl) (fun v4 T4 h4 X4 q4 => ?_)
  obtain ⟨rfl, ad3, S3, E3, en3, rw3, I3, J3, la3, lb3, hr3, hf3, P3⟩ := q4
  show Wp _ _ _ _ _ _ _ _ (mkF m 167 #[.val (.int (Int32.ofNat vv)), .val (.int ss), .val (.long ww), .second, .val (.long mm), .second, .val (.int aa), .val (.int (Int32.ofNat sl)), .val (.ref f1), .val (.ref f2), .val (.ref f3), .val (.ref f4), .val (.ref r1), .val (.ref r2), .val (.ref ou), .val (.ref a1), .unset] [])
  refine w_aload X4 D0_167 rfl rfl ?_
  refine w_aload X4 D0_169 rfl rfl ?_
  refine w_aload X4 D0_171 rfl rfl ?_
  refine w_virtual X4 D0_173 (rmPk hw X4.sz a1 f4 r1 ad3 S3 E3 en3 rw3 4 ca (fun _ => 0) (own_L ou r2 r1 f4 f3 f2 f1 gout (fun _ => 0) (fun _ => 0) ca c3 c2 c1) 3 2 rfl (by decide) rfl (by decide) hca I3 (by omega) hr3 (by decide) P3) P3.1.2.1 (hw _ (List.mem_of_getElem? (i := 70) rfl)) (hw _ (List.mem_of_getElem? (i := 71) rfl)) (hw _ (List.mem_of_getElem? (i := 73) rfl)) (hw _ (List.mem_of_getElem? (i := 72) rfl)) (hw _ (List.mem_of_getElem? (i := 9) rfl)) (hw _ (List.mem_of_getElem? (i := 74) rfl)) (by decide) pd_12 rfl (S := []) rfl rfl (Nat.le_of_ble_eq_true rfl) (Nat.le_of_ble_eq_true rfl) (Nat.le_of_ble_eq_true rfl) (Nat.le_of_ble_eq_true rfl) (fun v5 T5 h5 X5 q5 => ?_)
  obtain ⟨rfl, P4⟩ := q5
  have z0 : ∀ w, (fun i => if i < rw3 then 0 else 0) w = 0 := fun w => by show (if w < rw3 then 0 else 0) = 0; split <;> rfl
  have Q5 : PK Z n0 h5 a1 ad3 S3 E3 (cp E3) en3 rw3 (own_L ou r2 r1 f4 f3 f2 f1 gout (fun _ => 0) (PF S3 ca (fun i => if i < rw3 then 0 else 0) (3 + E3)) ca c3 c2 c1) := P4
  obtain ⟨O5, M5⟩ := Q5
  show Wp _ _ _ _ _ _ _ _ (mkF m 176 #[.val (.int (Int32.ofNat vv)), .val (.int ss), .val (.long ww), .second, .val (.long mm), .second, .val (.int aa), .val (.int (Int32.ofNat sl)), .val (.ref f1), .val (.ref f2), .val (.ref f3), .val (.ref f4), .val (.ref r1), .val (.ref r2), .val (.ref ou), .val (.ref a1), .unset] [(.int (Int32.ofNat (okf S3 ca 3)))])
  refine w_pop X5 D0_176 rfl ?_
  refine w_aload X5 D0_177 rfl rfl ?_
  refine w_iload X5 D0_179 rfl ?_
  refine w_iloadN X5 D0_181 rfl ?_
  refine w_iastore X5 D0_182 (M5.at 15 rfl) sl rfl (by omega) (fun T6 h6 X6 K6 B6 => ?_)
  rw [upd_nI] at B6
  have O5_K6 := O5.keepB hw (M5.at 15 rfl) K6
  have M6 := M5.st 15 rfl K6 B6
  refine w_aload X6 D0_183 rfl rfl ?_
  refine w_aload X6 D0_185 rfl rfl ?_
  refine w_iload X6 D0_187 rfl ?_
  refine w_aload X6 D0_189 rfl rfl ?_
  refine w_virtual X6 D0_191 (rmR hw X6.sz a1 f4 _ r1 ad3 S3 E3 en3 rw3 4 sl (upd ca sl vv) (PF S3 ca (fun i => if i < rw3 then 0 else 0) (3 + E3)) (own_L ou r2 r1 f4 f3 f2 f1 gout (fun _ => 0) (PF S3 ca (fun i => if i < rw3 then 0 else 0) (3 + E3)) (upd ca sl vv) c3 c2 c1) 3 2 rfl (by decide) rfl (by decide) hca2 I3 J3 (by omega) hr3 hsl rfl ⟨O5_K6, M6⟩) O5_K6.2.1 (hw _ (List.mem_of_getElem? (i := 83) rfl)) (hw _ (List.mem_of_getElem? (i := 84) rfl)) (hw _ (List.mem_of_getElem? (i := 86) rfl)) (hw _ (List.mem_of_getElem? (i := 85) rfl)) (hw _ (List.mem_of_getElem? (i := 9) rfl)) (hw _ (List.mem_of_getElem? (i := 87) rfl)) (by decide) pd_13 rfl (S := []) rfl rfl (Nat.le_of_ble_eq_true rfl) (Nat.le_of_ble_eq_true rfl) (Nat.le_of_ble_eq_true rfl) (Nat.le_of_ble_eq_true rfl) (fun v7 T7 h7 X7 q7 => ?_)
  obtain ⟨rfl, P6⟩ := q7
  have eRF : RF S3 ((upd ca sl vv) sl) sl (PF S3 ca (fun i => if i < rw3 then 0 else 0) (3 + E3)) (3 + E3) = (PF S3 (upd ca sl vv) (fun i => if i < rw3 then 0 else 0) (3 + E3)) := by rw [upd_at]; exact own_repack I3 ca (fun i => if i < rw3 then 0 else 0) vv sl z0
  rw [eRF] at P6
  have Q7 : PK Z n0 h7 a1 ad3 S3 E3 (cp E3) en3 rw3 (own_L ou r2 r1 f4 f3 f2 f1 gout (fun _ => 0) (PF S3 (upd ca sl vv) (fun i => if i < rw3 then 0 else 0) (3 + E3)) (upd ca sl vv) c3 c2 c1) := P6
  obtain ⟨O7, M7⟩ := Q7
  show Wp _ _ _ _ _ _ _ _ (mkF m 194 #[.val (.int (Int32.ofNat vv)), .val (.int ss), .val (.long ww), .second, .val (.long mm), .second, .val (.int aa), .val (.int (Int32.ofNat sl)), .val (.ref f1), .val (.ref f2), .val (.ref f3), .val (.ref f4), .val (.ref r1), .val (.ref r2), .val (.ref ou), .val (.ref a1), .unset] [(.int (Int32.ofNat (if (upd ca sl vv) sl / 2 ^ S3 9 sl = 0 then 1 else 0)))])
  rw [upd_at ca sl vv]
  refine w_istore X7 D0_194 (l' := #[.val (.int (Int32.ofNat vv)), .val (.int ss), .val (.long ww), .second, .val (.long mm), .second, .val (.int aa), .val (.int (Int32.ofNat sl)), .val (.ref f1), .val (.ref f2), .val (.ref f3), .val (.ref f4), .val (.ref r1), .val (.ref r2), .val (.ref ou), .val (.ref a1), .val (.int (Int32.ofNat (if vv / 2 ^ S3 9 sl = 0 then 1 else 0)))]) rfl ?_
  refine w_aload X7 D0_196 rfl rfl ?_
  refine w_aload X7 D0_198 rfl rfl ?_
  refine w_aload X7 D0_200 rfl rfl ?_
  refine w_virtual X7 D0_202 (rmPk hw X7.sz a1 f4 r2 ad3 S3 E3 en3 rw3 4 (upd ca sl vv) (fun _ => 0) (own_L ou r2 r1 f4 f3 f2 f1 gout (fun _ => 0) (PF S3 (upd ca sl vv) (fun i => if i < rw3 then 0 else 0) (3 + E3)) (upd ca sl vv) c3 c2 c1) 3 1 rfl (by decide) rfl (by decide) hca2 I3 (by omega) hr3 (by decide) ⟨O7, M7⟩) O7.2.1 (hw _ (List.mem_of_getElem? (i := 70) rfl)) (hw _ (List.mem_of_getElem? (i := 71) rfl)) (hw _ (List.mem_of_getElem? (i := 73) rfl)) (hw _ (List.mem_of_getElem? (i := 72) rfl)) (hw _ (List.mem_of_getElem? (i := 9) rfl)) (hw _ (List.mem_of_getElem? (i := 74) rfl)) (by decide) pd_12 rfl (S := []) rfl rfl (Nat.le_of_ble_eq_true rfl) (Nat.le_of_ble_eq_true rfl) (Nat.le_of_ble_eq_true rfl) (Nat.le_of_ble_eq_true rfl) (fun v8 T8 h8 X8 q8 => ?_)
  obtain ⟨rfl, P7⟩ := q8
  have Q8 : PK Z n0 h8 a1 ad3 S3 E3 (cp E3) en3 rw3 (own_L ou r2 r1 f4 f3 f2 f1 gout (PF S3 (upd ca sl vv) (fun i => if i < rw3 then 0 else 0) (3 + E3)) (PF S3 (upd ca sl vv) (fun i => if i < rw3 then 0 else 0) (3 + E3)) (upd ca sl vv) c3 c2 c1) := P7
  obtain ⟨O8, M8⟩ := Q8
  show Wp _ _ _ _ _ _ _ _ (mkF m 205 #[.val (.int (Int32.ofNat vv)), .val (.int ss), .val (.long ww), .second, .val (.long mm), .second, .val (.int aa), .val (.int (Int32.ofNat sl)), .val (.ref f1), .val (.ref f2), .val (.ref f3), .val (.ref f4), .val (.ref r1), .val (.ref r2), .val (.ref ou), .val (.ref a1), .val (.int (Int32.ofNat (if vv / 2 ^ S3 9 sl = 0 then 1 else 0)))] [(.int (Int32.ofNat (okf S3 (upd ca sl vv) 3)))])
  refine w_pop X8 D0_205 rfl ?_
  refine w_aload X8 D0_206 rfl rfl ?_
  refine w_aload X8 D0_208 rfl rfl ?_
  refine w_iconst X8 D0_210 (v := (0 : Int32)) rfl ?_
  refine w_aload X8 D0_211 rfl rfl ?_
  refine w_virtual X8 D0_213 (rmU hw X8.sz a1 r1 _ ou ad3 S3 E3 en3 rw3 4 0 (PF S3 (upd ca sl vv) (fun i => if i < rw3 then 0 else 0) (3 + E3)) gout (own_L ou r2 r1 f4 f3 f2 f1 gout (PF S3 (upd ca sl vv) (fun i => if i < rw3 then 0 else 0) (3 + E3)) (PF S3 (upd ca sl vv) (fun i => if i < rw3 then 0 else 0) (3 + E3)) (upd ca sl vv) c3 c2 c1) 2 0 rfl (by decide) rfl (fun i => PF_lt I3 (upd ca sl vv) _ (fun w => Nat.lt_of_le_of_lt (Nat.le_of_eq (z0 w)) (by decide)) _ (Nat.le_refl _) i) (by decide) (by decide) I3 (by omega) hr3 rfl ⟨O8, M8⟩) O8.2.1 (hw _ (List.mem_of_getElem? (i := 89) rfl)) (hw _ (List.mem_of_getElem? (i := 90) rfl)) (hw _ (List.mem_of_getElem? (i := 92) rfl)) (hw _ (List.mem_of_getElem? (i := 91) rfl)) (hw _ (List.mem_of_getElem? (i := 9) rfl)) (hw _ (List.mem_of_getElem? (i := 93) rfl)) (by decide) pd_14 rfl (S := []) rfl rfl (Nat.le_of_ble_eq_true rfl) (Nat.le_of_ble_eq_true rfl) (Nat.le_of_ble_eq_true rfl) (Nat.le_of_ble_eq_true rfl) (fun v9 T9 h9 X9 q9 => ?_)
  obtain ⟨rfl, P9⟩ := q9
  obtain ⟨O9, M9⟩ := P9
  have hfit : vv / 2 ^ S3 9 sl = 0 ↔ Int32.ofNat ((UF S3 (PF S3 (upd ca sl vv) (fun i => if i < rw3 then 0 else 0) (3 + E3)) 0 (3 + E3)) sl) = Int32.ofNat vv := by
    rw [own_back I3 (upd ca sl vv) (fun i => if i < rw3 then 0 else 0) (PF S3 (upd ca sl vv) (fun i => if i < rw3 then 0 else 0) (3 + E3)) 0 (fun i _ => z0 _) (fun i _ => by rw [Nat.zero_add]) sl hsl, upd_at]
    constructor
    · intro h; rw [Nat.mod_eq_of_lt (Nat.lt_of_div_eq_zero (Nat.two_pow_pos _) h)]
    · intro h
      have h2 := congrArg unI h
      rw [unI_of (Nat.lt_of_le_of_lt (Nat.mod_le _ _) hvv), unI_of hvv] at h2
      exact Nat.div_eq_of_lt (by rw [← h2]; exact Nat.mod_lt _ (Nat.two_pow_pos _))
  show Wp _ _ _ _ _ _ _ _ (mkF m 216 #[.val (.int (Int32.ofNat vv)), .val (.int ss), .val (.long ww), .second, .val (.long mm), .second, .val (.int aa), .val (.int (Int32.ofNat sl)), .val (.ref f1), .val (.ref f2), .val (.ref f3), .val (.ref f4), .val (.ref r1), .val (.ref r2), .val (.ref ou), .val (.ref a1), .val (.int (Int32.ofNat (if vv / 2 ^ S3 9 sl = 0 then 1 else 0)))] [])
  refine w_aload X9 D0_216 rfl rfl ?_
  refine w_iconst X9 D0_218 (v := (0 : Int32)) rfl ?_
  refine w_laload X9 D0_219 (M9.at 14 rfl) 0 rfl (by decide) ?_
  show Wp _ _ _ _ _ _ _ _ (mkF m 220 #[.val (.int (Int32.ofNat vv)), .val (.int ss), .val (.long ww), .second, .val (.long mm), .second, .val (.int aa), .val (.int (Int32.ofNat sl)), .val (.ref f1), .val (.ref f2), .val (.ref f3), .val (.ref f4), .val (.ref r1), .val (.ref r2), .val (.ref ou), .val (.ref a1), .val (.int (Int32.ofNat (if vv / 2 ^ S3 9 sl = 0 then 1 else 0)))] [(.long (Int64.ofNat ((PF S3 (upd ca sl vv) (fun i => if i < rw3 then 0 else 0) (3 + E3)) 0)))])
  refine w_aload X9 D0_220 rfl rfl ?_
  refine w_iconst X9 D0_222 (v := (0 : Int32)) rfl ?_
  refine w_laload X9 D0_223 (M9.at 13 rfl) 0 rfl (by decide) ?_
  show Wp _ _ _ _ _ _ _ _ (mkF m 224 #[.val (.int (Int32.ofNat vv)), .val (.int ss), .val (.long ww), .second, .val (.long mm), .second, .val (.int aa), .val (.int (Int32.ofNat sl)), .val (.ref f1), .val (.ref f2), .val (.ref f3), .val (.ref f4), .val (.ref r1), .val (.ref r2), .val (.ref ou), .val (.ref a1), .val (.int (Int32.ofNat (if vv / 2 ^ S3 9 sl = 0 then 1 else 0)))] [(.long (Int64.ofNat ((PF S3 (upd ca sl vv) (fun i => if i < rw3 then 0 else 0) (3 + E3)) 0))), (.long (Int64.ofNat ((PF S3 (upd ca sl vv) (fun i => if i < rw3 then 0 else 0) (3 + E3)) 0)))])
  refine w_lcmpne X9 D0_224 D0_225 (fun hc225 => by exact absurd rfl hc225) (fun hc225 => ?_)
  refine w_aload X9 D0_228 rfl rfl ?_
  refine w_iconst X9 D0_230 (v := (1 : Int32)) rfl ?_
  refine w_laload X9 D0_231 (M9.at 14 rfl) 1 rfl (by decide) ?_
  show Wp _ _ _ _ _ _ _ _ (mkF m 232 #[.val (.int (Int32.ofNat vv)), .val (.int ss), .val (.long ww), .second, .val (.long mm), .second, .val (.int aa), .val (.int (Int32.ofNat sl)), .val (.ref f1), .val (.ref f2), .val (.ref f3), .val (.ref f4), .val (.ref r1), .val (.ref r2), .val (.ref ou), .val (.ref a1), .val (.int (Int32.ofNat (if vv / 2 ^ S3 9 sl = 0 then 1 else 0)))] [(.long (Int64.ofNat ((PF S3 (upd ca sl vv) (fun i => if i < rw3 then 0 else 0) (3 + E3)) 1)))])
  refine w_aload X9 D0_232 rfl rfl ?_
  refine w_iconst X9 D0_234 (v := (1 : Int32)) rfl ?_
  refine w_laload X9 D0_235 (M9.at 13 rfl) 1 rfl (by decide) ?_
  show Wp _ _ _ _ _ _ _ _ (mkF m 236 #[.val (.int (Int32.ofNat vv)), .val (.int ss), .val (.long ww), .second, .val (.long mm), .second, .val (.int aa), .val (.int (Int32.ofNat sl)), .val (.ref f1), .val (.ref f2), .val (.ref f3), .val (.ref f4), .val (.ref r1), .val (.ref r2), .val (.ref ou), .val (.ref a1), .val (.int (Int32.ofNat (if vv / 2 ^ S3 9 sl = 0 then 1 else 0)))] [(.long (Int64.ofNat ((PF S3 (upd ca sl vv) (fun i => if i < rw3 then 0 else 0) (3 + E3)) 1))), (.long (Int64.ofNat ((PF S3 (upd ca sl vv) (fun i => if i < rw3 then 0 else 0) (3 + E3)) 1)))])
  refine w_lcmpne X9 D0_236 D0_237 (fun hc237 => by exact absurd rfl hc237) (fun hc237 => ?_)
  refine w_aload X9 D0_240 rfl rfl ?_
  refine w_iconst X9 D0_242 (v := (2 : Int32)) rfl ?_
  refine w_laload X9 D0_243 (M9.at 14 rfl) 2 rfl (by decide) ?_
  show Wp _ _ _ _ _ _ _ _ (mkF m 244 #[.val (.int (Int32.ofNat vv)), .val (.int ss), .val (.long ww), .second, .val (.long mm), .second, .val (.int aa), .val (.int (Int32.ofNat sl)), .val (.ref f1), .val (.ref f2), .val (.ref f3), .val (.ref f4), .val (.ref r1), .val (.ref r2), .val (.ref ou), .val (.ref a1), .val (.int (Int32.ofNat (if vv / 2 ^ S3 9 sl = 0 then 1 else 0)))] [(.long (Int64.ofNat ((PF S3 (upd ca sl vv) (fun i => if i < rw3 then 0 else 0) (3 + E3)) 2)))])
  refine w_aload X9 D0_244 rfl rfl ?_
  refine w_iconst X9 D0_246 (v := (2 : Int32)) rfl ?_
  refine w_laload X9 D0_247 (M9.at 13 rfl) 2 rfl (by decide) ?_
  show Wp _ _ _ _ _ _ _ _ (mkF m 248 #[.val (.int (Int32.ofNat vv)), .val (.int ss), .val (.long ww), .second, .val (.long mm), .second, .val (.int aa), .val (.int (Int32.ofNat sl)), .val (.ref f1), .val (.ref f2), .val (.ref f3), .val (.ref f4), .val (.ref r1), .val (.ref r2), .val (.ref ou), .val (.ref a1), .val (.int (Int32.ofNat (if vv / 2 ^ S3 9 sl = 0 then 1 else 0)))] [(.long (Int64.ofNat ((PF S3 (upd ca sl vv) (fun i => if i < rw3 then 0 else 0) (3 + E3)) 2))), (.long (Int64.ofNat ((PF S3 (upd ca sl vv) (fun i => if i < rw3 then 0 else 0) (3 + E3)) 2)))])
  refine w_lcmpne X9 D0_248 D0_249 (fun hc249 => by exact absurd rfl hc249) (fun hc249 => ?_)
  refine w_aload X9 D0_252 rfl rfl ?_
  refine w_iconst X9 D0_254 (v := (3 : Int32)) rfl ?_
  refine w_laload X9 D0_255 (M9.at 14 rfl) 3 rfl (by decide) ?_
  show Wp _ _ _ _ _ _ _ _ (mkF m 256 #[.val (.int (Int32.ofNat vv)), .val (.int ss), .val (.long ww), .second, .val (.long mm), .second, .val (.int aa), .val (.int (Int32.ofNat sl)), .val (.ref f1), .val (.ref f2), .val (.ref f3), .val (.ref f4), .val (.ref r1), .val (.ref r2), .val (.ref ou), .val (.ref a1), .val (.int (Int32.ofNat (if vv / 2 ^ S3 9 sl = 0 then 1 else 0)))] [(.long (Int64.ofNat ((PF S3 (upd ca sl vv) (fun i => if i < rw3 then 0 else 0) (3 + E3)) 3)))])
  refine w_aload X9 D0_256 rfl rfl ?_
  refine w_iconst X9 D0_258 (v := (3 : Int32)) rfl ?_
  refine w_laload X9 D0_259 (M9.at 13 rfl) 3 rfl (by decide) ?_
  show Wp _ _ _ _ _ _ _ _ (mkF m 260 #[.val (.int (Int32.ofNat vv)), .val (.int ss), .val (.long ww), .second, .val (.long mm), .second, .val (.int aa), .val (.int (Int32.ofNat sl)), .val (.ref f1), .val (.ref f2), .val (.ref f3), .val (.ref f4), .val (.ref r1), .val (.ref r2), .val (.ref ou), .val (.ref a1), .val (.int (Int32.ofNat (if vv / 2 ^ S3 9 sl = 0 then 1 else 0)))] [(.long (Int64.ofNat ((PF S3 (upd ca sl vv) (fun i => if i < rw3 then 0 else 0) (3 + E3)) 3))), (.long (Int64.ofNat ((PF S3 (upd ca sl vv) (fun i => if i < rw3 then 0 else 0) (3 + E3)) 3)))])
  refine w_lcmpne X9 D0_260 D0_261 (fun hc261 => by exact absurd rfl hc261) (fun hc261 => ?_)
  refine w_iload X9 D0_264 rfl ?_
  refine w_aload X9 D0_266 rfl rfl ?_
  refine w_iload X9 D0_268 rfl ?_
  refine w_iaload X9 D0_270 (M9.at 12 rfl) sl rfl (by omega) ?_
  show Wp _ _ _ _ _ _ _ _ (mkF m 271 #[.val (.int (Int32.ofNat vv)), .val (.int ss), .val (.long ww), .second, .val (.long mm), .second, .val (.int aa), .val (.int (Int32.ofNat sl)), .val (.ref f1), .val (.ref f2), .val (.ref f3), .val (.ref f4), .val (.ref r1), .val (.ref r2), .val (.ref ou), .val (.ref a1), .val (.int (Int32.ofNat (if vv / 2 ^ S3 9 sl = 0 then 1 else 0)))] [(.int (Int32.ofNat ((UF S3 (PF S3 (upd ca sl vv) (fun i => if i < rw3 then 0 else 0) (3 + E3)) 0 (3 + E3)) sl))), (.int (Int32.ofNat (if vv / 2 ^ S3 9 sl = 0 then 1 else 0)))])
  refine w_iloadN X9 D0_271 rfl ?_
  refine w_icmpne X9 D0_272 (fun hc272 => ?_) (fun hc272 => ?_)
  · refine w_iconst X9 D0_279 (v := (0 : Int32)) rfl ?_
    refine w_icmpne X9 D0_280 (fun hc280 => by exact absurd (congrArg Int32.ofNat (if_neg (fun z => hc272 (hfit.mp z)))) hc280) (fun hc280 => ?_)
    refine w_iconst X9 D0_283 (v := (1 : Int32)) rfl ?_
    refine w_goto X9 D0_284 ?_
    exact w_zreturn X9 D0_288 (by decide) (by decide) (rfl)
  · refine w_iconst X9 D0_275 (v := (1 : Int32)) rfl ?_
    refine w_goto X9 D0_276 ?_
    refine w_icmpne X9 D0_280 (fun hc280 => by exact absurd (congrArg Int32.ofNat (if_pos (hfit.mpr hc272))) hc280) (fun hc280 => ?_)
    refine w_iconst X9 D0_283 (v := (1 : Int32)) rfl ?_
    refine w_goto X9 D0_284 ?_
    exact w_zreturn X9 D0_288 (by decide) (by decide) (rfl)
-- CUT
theorem ef_0 (m : MethodId) (v0 : Int32) (ss : Int32) (ww : Int64) (mm : Int64) (aa : Int32) : entryFrame m #[(.int v0), (.int ss), (.long ww), (.long mm), (.int aa)] maxLocals = mkF m 0 #[.val (.int v0), .val (.int ss), .val (.long ww), .second, .val (.long mm), .second, .val (.int aa), .unset, .unset, .unset, .unset, .unset, .unset, .unset, .unset, .unset, .unset] [] := by first | (simp [entryFrame, mkF, argsToLocals, Value.category, maxLocals]; done) | rfl
theorem pn_0 : plainName "com/example/tokenfold/tokenfold/statespace/PackingRepackPinLaw" = true := by first | (simp [plainName, overriddenIn]; done) | decide +kernel
set_option maxRecDepth 65536 in
set_option maxHeartbeats 40000000 in
theorem rm0 {l : Launch} {Z : State} {a0 : Array Value} {n0 : Nat} {h : Heap} (hw : ∀ d ∈ tables_1, d.before a0 Z = true) (hn : n0 ≤ h.size) (v0 : Int32) (ss : Int32) (ww : Int64) (mm : Int64) (aa : Int32) :
    Ctr l Z n0 x code maxLocals ret room_1 tables_1 #[(.int v0), (.int ss), (.long ww), (.long mm), (.int aa)] h (fun v h' => v = some (.int 1)) := by
  refine ctr_of (plainFor_of_name pn_0) hw hn ?_
  intro p e s m below meth c T X
  refine Wp.cast (ef_0 m v0 ss ww mm aa) ?_
  obtain ⟨vv, hvv, rfl⟩ : ∃ u, u < 4294967296 ∧ v0 = Int32.ofNat u := ⟨_, unI_lt _, unI_eq _⟩
  obtain ⟨us, hus, eus⟩ := n_mask31 ss
  obtain ⟨m1, hm1, em1⟩ : ∃ u, u < 4294967296 ∧ mm.toInt32 = Int32.ofNat u := ⟨_, unI_lt _, unI_eq _⟩
  obtain ⟨m2, hm2, em2⟩ : ∃ u, u < 4294967296 ∧ (jushrL mm 32).toInt32 = Int32.ofNat u := ⟨_, unI_lt _, unI_eq _⟩
  obtain ⟨m3, hm3, rfl⟩ : ∃ u, u < 4294967296 ∧ aa = Int32.ofNat u := ⟨_, unI_lt _, unI_eq _⟩
  obtain ⟨sl, hsl⟩ : ∃ sl, us % 3 = sl := ⟨_, rfl⟩
  have hs3 : sl < 3 := by omega
  refine w_iloadN X D0_0 rfl ?_
  refine w_ldc X D0_1 (hw _ (List.mem_of_getElem? (i := 0) rfl)) ?_
  refine w_iand X D0_3 ?_
  rw [eus]
  refine w_iconst X D0_4 (v := (3 : Int32)) rfl ?_
  refine w_irem X D0_5 (by decide) ?_
  rw [show Int32.ofNat us % 3 = Int32.ofNat (us % 3) from n_rem (k := 3) hus (by decide) (by decide), hsl]
  refine w_istore X D0_6 (l' := #[.val (.int (Int32.ofNat vv)), .val (.int ss), .val (.long ww), .second, .val (.long mm), .second, .val (.int (Int32.ofNat m3)), .val (.int (Int32.ofNat sl)), .unset, .unset, .unset, .unset, .unset, .unset, .unset, .unset, .unset]) rfl ?_
  refine w_iconst X D0_8 (v := (3 : Int32)) rfl ?_
  refine w_newI X D0_9 (hw _ (List.mem_of_getElem? (i := 1) rfl)) 3 3 rfl (Nat.le_of_ble_eq_true rfl) (by decide) (Nat.le_of_ble_eq_true rfl) (Nat.le_of_ble_eq_true rfl) (fun T1 h1 a1 X1 g1 E1 B1 => ?_)
  have M1 := (Mem.nil (Z := Z) (n0 := n0) (h := h)).cons (g := bI (nI (fun _ => 0))) E1 (Nat.le_of_eq g1.symm) B1
  refine w_dup X1 D0_11 rfl ?_
  refine w_iconst X1 D0_12 (v := (0 : Int32)) rfl ?_
  refine w_lloadN X1 D0_13 rfl ?_
  refine w_iconst X1 D0_14 (v := (0 : Int32)) rfl ?_
  refine w_static X1 D0_15 (rmC hw X1.sz _ _) (hw _ (List.mem_of_getElem? (i := 2) rfl)) (hw _ (List.mem_of_getElem? (i := 3) rfl)) (hw _ (List.mem_of_getElem? (i := 4) rfl)) (hw _ (List.mem_of_getElem? (i := 5) rfl)) (by decide) pd_15 rfl (S := [(.int (0 : Int32)), (.ref a1), (.ref a1)]) rfl rfl (Nat.le_of_ble_eq_true rfl) (Nat.le_of_ble_eq_true rfl) (Nat.le_of_ble_eq_true rfl) (Nat.le_of_ble_eq_true rfl) (fun v2 T2 h2 X2 q2 => ?_)
  obtain ⟨u2, hu2, rfl, rfl⟩ := q2
  show Wp _ _ _ _ _ _ _ _ (mkF m 18 #[.val (.int (Int32.ofNat vv)), .val (.int ss), .val (.long ww), .second, .val (.long mm), .second, .val (.int (Int32.ofNat m3)), .val (.int (Int32.ofNat sl)), .unset, .unset, .unset, .unset, .unset, .unset, .unset, .unset, .unset] [(.int (Int32.ofNat u2)), (.int (0 : Int32)), (.ref a1), (.ref a1)])
  refine w_iastore X2 D0_18 (M1.at 0 rfl) 0 rfl (by decide) (fun T3 h3 X3 K3 B3 => ?_)
  rw [upd_nI] at B3
  have M3 := M1.st 0 rfl K3 B3
  refine w_dup X3 D0_19 rfl ?_
  refine w_iconst X3 D0_20 (v := (1 : Int32)) rfl ?_
  refine w_lloadN X3 D0_21 rfl ?_
  refine w_iconst X3 D0_22 (v := (5 : Int32)) rfl ?_
  refine w_static X3 D0_23 (rmC hw X3.sz _ _) (hw _ (List.mem_of_getElem? (i := 2) rfl)) (hw _ (List.mem_of_getElem? (i := 3) rfl)) (hw _ (List.mem_of_getElem? (i := 4) rfl)) (hw _ (List.mem_of_getElem? (i := 5) rfl)) (by decide) pd_15 rfl (S := [(.int (1 : Int32)), (.ref a1), (.ref a1)]) rfl rfl (Nat.le_of_ble_eq_true rfl) (Nat.le_of_ble_eq_true rfl) (Nat.le_of_ble_eq_true rfl) (Nat.le_of_ble_eq_true rfl) (fun v4 T4 h4 X4 q4 => ?_)
  obtain ⟨u4, hu4, rfl, rfl⟩ := q4
  show Wp _ _ _ _ _ _ _ _ (mkF m 26 #[.val (.int (Int32.ofNat vv)), .val (.int ss), .val (.long ww), .second, .val (.long mm), .second, .val (.int (Int32.ofNat m3)), .val (.int (Int32.ofNat sl)), .unset, .unset, .unset, .unset, .unset, .unset, .unset, .unset, .unset] [(.int (Int32.ofNat u4)), (.int (1 : Int32)), (.ref a1), (.ref a1)])
  refine w_iastore X4 D0_26 (M3.at 0 rfl) 1 rfl (by decide) (fun T5 h5 X5 K5 B5 => ?_)
  rw [upd_nI] at B5
  have M5 := M3.st 0 rfl K5 B5
  refine w_dup X5 D0_27 rfl ?_
  refine w_iconst X5 D0_28 (v := (2 : Int32)) rfl ?_
  refine w_lloadN X5 D0_29 rfl ?_
  refine w_bipush X5 D0_30 (v := (10 : Int32)) rfl ?_
  refine w_static X5 D0_32 (rmC hw X5.sz _ _) (hw _ (List.mem_of_getElem? (i := 2) rfl)) (hw _ (List.mem_of_getElem? (i := 3) rfl)) (hw _ (List.mem_of_getElem? (i := 4) rfl)) (hw _ (List.mem_of_getElem? (i := 5) rfl)) (by decide) pd_15 rfl (S := [(.int (2 : Int32)), (.ref a1), (.ref a1)]) rfl rfl (Nat.le_of_ble_eq_true rfl) (Nat.le_of_ble_eq_true rfl) (Nat.le_of_ble_eq_true rfl) (Nat.le_of_ble_eq_true rfl) (fun v6 T6 h6 X6 q6 => ?_)
  obtain ⟨u6, hu6, rfl, rfl⟩ := q6
  show Wp _ _ _ _ _ _ _ _ (mkF m 35 #[.val (.int (Int32.ofNat vv)), .val (.int ss), .val (.long ww), .second, .val (.long mm), .second, .val (.int (Int32.ofNat m3)), .val (.int (Int32.ofNat sl)), .unset, .unset, .unset, .unset, .unset, .unset, .unset, .unset, .unset] [(.int (Int32.ofNat u6)), (.int (2 : Int32)), (.ref a1), (.ref a1)])
  refine w_iastore X6 D0_35 (M5.at 0 rfl) 2 rfl (by decide) (fun T7 h7 X7 K7 B7 => ?_)
  rw [upd_nI] at B7
  have M7 := M5.st 0 rfl K7 B7
  refine w_astore X7 D0_36 (l' := #[.val (.int (Int32.ofNat vv)), .val (.int ss), .val (.long ww), .second, .val (.long mm), .second, .val (.int (Int32.ofNat m3)), .val (.int (Int32.ofNat sl)), .val (.ref a1), .unset, .unset, .unset, .unset, .unset, .unset, .unset, .unset]) rfl rfl ?_
  refine w_iconst X7 D0_38 (v := (3 : Int32)) rfl ?_
  refine w_newI X7 D0_39 (hw _ (List.mem_of_getElem? (i := 1) rfl)) 3 3 rfl (Nat.le_of_ble_eq_true rfl) (by decide) (Nat.le_of_ble_eq_true rfl) (Nat.le_of_ble_eq_true rfl) (fun T8 h8 a8 X8 g8 E8 B8 => ?_)
  have M8 := M7.cons (g := bI (nI (fun _ => 0))) E8 (Nat.le_of_eq g8.symm) B8
  refine w_dup X8 D0_41 rfl ?_
  refine w_iconst X8 D0_42 (v := (0 : Int32)) rfl ?_
  refine w_lloadN X8 D0_43 rfl ?_
  refine w_bipush X8 D0_44 (v := (15 : Int32)) rfl ?_
  refine w_static X8 D0_46 (rmC hw X8.sz _ _) (hw _ (List.mem_of_getElem? (i := 2) rfl)) (hw _ (List.mem_of_getElem? (i := 3) rfl)) (hw _ (List.mem_of_getElem? (i := 4) rfl)) (hw _ (List.mem_of_getElem? (i := 5) rfl)) (by decide) pd_15 rfl (S := [(.int (0 : Int32)), (.ref a8), (.ref a8)]) rfl rfl (Nat.le_of_ble_eq_true rfl) (Nat.le_of_ble_eq_true rfl) (Nat.le_of_ble_eq_true rfl) (Nat.le_of_ble_eq_true rfl) (fun v9 T9 h9 X9 q9 => ?_)
  obtain ⟨u9, hu9, rfl, rfl⟩ := q9
  show Wp _ _ _ _ _ _ _ _ (mkF m 49 #[.val (.int (Int32.ofNat vv)), .val (.int ss), .val (.long ww), .second, .val (.long mm), .second, .val (.int (Int32.ofNat m3)), .val (.int (Int32.ofNat sl)), .val (.ref a1), .unset, .unset, .unset, .unset, .unset, .unset, .unset, .unset] [(.int (Int32.ofNat u9)), (.int (0 : Int32)), (.ref a8), (.ref a8)])
  refine w_iastore X9 D0_49 (M8.at 0 rfl) 0 rfl (by decide) (fun T10 h10 X10 K10 B10 => ?_)
  rw [upd_nI] at B10
  have M10 := M8.st 0 rfl K10 B10
  refine w_dup X10 D0_50 rfl ?_
  refine w_iconst X10 D0_51 (v := (1 : Int32)) rfl ?_
  refine w_lloadN X10 D0_52 rfl ?_
  refine w_bipush X10 D0_53 (v := (20 : Int32)) rfl ?_
  refine w_static X10 D0_55 (rmC hw X10.sz _ _) (hw _ (List.mem_of_getElem? (i := 2) rfl)) (hw _ (List.mem_of_getElem? (i := 3) rfl)) (hw _ (List.mem_of_getElem? (i := 4) rfl)) (hw _ (List.mem_of_getElem? (i := 5) rfl)) (by decide) pd_15 rfl (S := [(.int (1 : Int32)), (.ref a8), (.ref a8)]) rfl rfl (Nat.le_of_ble_eq_true rfl) (Nat.le_of_ble_eq_true rfl) (Nat.le_of_ble_eq_true rfl) (Nat.le_of_ble_eq_true rfl) (fun v11 T11 h11 X11 q11 => ?_)
  obtain ⟨u11, hu11, rfl, rfl⟩ := q11
  show Wp _ _ _ _ _ _ _ _ (mkF m 58 #[.val (.int (Int32.ofNat vv)), .val (.int ss), .val (.long ww), .second, .val (.long mm), .second, .val (.int (Int32.ofNat m3)), .val (.int (Int32.ofNat sl)), .val (.ref a1), .unset, .unset, .unset, .unset, .unset, .unset, .unset, .unset] [(.int (Int32.ofNat u11)), (.int (1 : Int32)), (.ref a8), (.ref a8)])
  refine w_iastore X11 D0_58 (M10.at 0 rfl) 1 rfl (by decide) (fun T12 h12 X12 K12 B12 => ?_)
  rw [upd_nI] at B12
  have M12 := M10.st 0 rfl K12 B12
  refine w_dup X12 D0_59 rfl ?_
  refine w_iconst X12 D0_60 (v := (2 : Int32)) rfl ?_
  refine w_lloadN X12 D0_61 rfl ?_
  refine w_bipush X12 D0_62 (v := (25 : Int32)) rfl ?_
  refine w_static X12 D0_64 (rmC hw X12.sz _ _) (hw _ (List.mem_of_getElem? (i := 2) rfl)) (hw _ (List.mem_of_getElem? (i := 3) rfl)) (hw _ (List.mem_of_getElem? (i := 4) rfl)) (hw _ (List.mem_of_getElem? (i := 5) rfl)) (by decide) pd_15 rfl (S := [(.int (2 : Int32)), (.ref a8), (.ref a8)]) rfl rfl (Nat.le_of_ble_eq_true rfl) (Nat.le_of_ble_eq_true rfl) (Nat.le_of_ble_eq_true rfl) (Nat.le_of_ble_eq_true rfl) (fun v13 T13 h13 X13 q13 => ?_)
  obtain ⟨u13, hu13, rfl, rfl⟩ := q13
  show Wp _ _ _ _ _ _ _ _ (mkF m 67 #[.val (.int (Int32.ofNat vv)), .val (.int ss), .val (.long ww), .second, .val (.long mm), .second, .val (.int (Int32.ofNat m3)), .val (.int (Int32.ofNat sl)), .val (.ref a1), .unset, .unset, .unset, .unset, .unset, .unset, .unset, .unset] [(.int (Int32.ofNat u13)), (.int (2 : Int32)), (.ref a8), (.ref a8)])
  refine w_iastore X13 D0_67 (M12.at 0 rfl) 2 rfl (by decide) (fun T14 h14 X14 K14 B14 => ?_)
  rw [upd_nI] at B14
  have M14 := M12.st 0 rfl K14 B14
  refine w_astore X14 D0_68 (l' := #[.val (.int (Int32.ofNat vv)), .val (.int ss), .val (.long ww), .second, .val (.long mm), .second, .val (.int (Int32.ofNat m3)), .val (.int (Int32.ofNat sl)), .val (.ref a1), .val (.ref a8), .unset, .unset, .unset, .unset, .unset, .unset, .unset]) rfl rfl ?_
  refine w_iconst X14 D0_70 (v := (3 : Int32)) rfl ?_
  refine w_newI X14 D0_71 (hw _ (List.mem_of_getElem? (i := 1) rfl)) 3 3 rfl (Nat.le_of_ble_eq_true rfl) (by decide) (Nat.le_of_ble_eq_true rfl) (Nat.le_of_ble_eq_true rfl) (fun T15 h15 a15 X15 g15 E15 B15 => ?_)
  have M15 := M14.cons (g := bI (nI (fun _ => 0))) E15 (Nat.le_of_eq g15.symm) B15
  refine w_dup X15 D0_73 rfl ?_
  refine w_iconst X15 D0_74 (v := (0 : Int32)) rfl ?_
  refine w_lloadN X15 D0_75 rfl ?_
  refine w_bipush X15 D0_76 (v := (30 : Int32)) rfl ?_
  refine w_static X15 D0_78 (rmC hw X15.sz _ _) (hw _ (List.mem_of_getElem? (i := 2) rfl)) (hw _ (List.mem_of_getElem? (i := 3) rfl)) (hw _ (List.mem_of_getElem? (i := 4) rfl)) (hw _ (List.mem_of_getElem? (i := 5) rfl)) (by decide) pd_15 rfl (S := [(.int (0 : Int32)), (.ref a15), (.ref a15)]) rfl rfl (Nat.le_of_ble_eq_true rfl) (Nat.le_of_ble_eq_true rfl) (Nat.le_of_ble_eq_true rfl) (Nat.le_of_ble_eq_true rfl) (fun v16 T16 h16 X16 q16 => ?_)
  obtain ⟨u16, hu16, rfl, rfl⟩ := q16
  show Wp _ _ _ _ _ _ _ _ (mkF m 81 #[.val (.int (Int32.ofNat vv)), .val (.int ss), .val (.long ww), .second, .val (.long mm), .second, .val (.int (Int32.ofNat m3)), .val (.int (Int32.ofNat sl)), .val (.ref a1), .val (.ref a8), .unset, .unset, .unset, .unset, .unset, .unset, .unset] [(.int (Int32.ofNat u16)), (.int (0 : Int32)), (.ref a15), (.ref a15)])
  refine w_iastore X16 D0_81 (M15.at 0 rfl) 0 rfl (by decide) (fun T17 h17 X17 K17 B17 => ?_)
  rw [upd_nI] at B17
  have M17 := M15.st 0 rfl K17 B17
  refine w_dup X17 D0_82 rfl ?_
  refine w_iconst X17 D0_83 (v := (1 : Int32)) rfl ?_
  refine w_lloadN X17 D0_84 rfl ?_
  refine w_bipush X17 D0_85 (v := (35 : Int32)) rfl ?_
  refine w_static X17 D0_87 (rmC hw X17.sz _ _) (hw _ (List.mem_of_getElem? (i := 2) rfl)) (hw _ (List.mem_of_getElem? (i := 3) rfl)) (hw _ (List.mem_of_getElem? (i := 4) rfl)) (hw _ (List.mem_of_getElem? (i := 5) rfl)) (by decide) pd_15 rfl (S := [(.int (1 : Int32)), (.ref a15), (.ref a15)]) rfl rfl (Nat.le_of_ble_eq_true rfl) (Nat.le_of_ble_eq_true rfl) (Nat.le_of_ble_eq_true rfl) (Nat.le_of_ble_eq_true rfl) (fun v18 T18 h18 X18 q18 => ?_)
  obtain ⟨u18, hu18, rfl, rfl⟩ := q18
  show Wp _ _ _ _ _ _ _ _ (mkF m 90 #[.val (.int (Int32.ofNat vv)), .val (.int ss), .val (.long ww), .second, .val (.long mm), .second, .val (.int (Int32.ofNat m3)), .val (.int (Int32.ofNat sl)), .val (.ref a1), .val (.ref a8), .unset, .unset, .unset, .unset, .unset, .unset, .unset] [(.int (Int32.ofNat u18)), (.int (1 : Int32)), (.ref a15), (.ref a15)])
  refine w_iastore X18 D0_90 (M17.at 0 rfl) 1 rfl (by decide) (fun T19 h19 X19 K19 B19 => ?_)
  rw [upd_nI] at B19
  have M19 := M17.st 0 rfl K19 B19
  refine w_dup X19 D0_91 rfl ?_
  refine w_iconst X19 D0_92 (v := (2 : Int32)) rfl ?_
  refine w_lloadN X19 D0_93 rfl ?_
  refine w_bipush X19 D0_94 (v := (40 : Int32)) rfl ?_
  refine w_static X19 D0_96 (rmC hw X19.sz _ _) (hw _ (List.mem_of_getElem? (i := 2) rfl)) (hw _ (List.mem_of_getElem? (i := 3) rfl)) (hw _ (List.mem_of_getElem? (i := 4) rfl)) (hw _ (List.mem_of_getElem? (i := 5) rfl)) (by decide) pd_15 rfl (S := [(.int (2 : Int32)), (.ref a15), (.ref a15)]) rfl rfl (Nat.le_of_ble_eq_true rfl) (Nat.le_of_ble_eq_true rfl) (Nat.le_of_ble_eq_true rfl) (Nat.le_of_ble_eq_true rfl) (fun v20 T20 h20 X20 q20 => ?_)
  obtain ⟨u20, hu20, rfl, rfl⟩ := q20
  show Wp _ _ _ _ _ _ _ _ (mkF m 99 #[.val (.int (Int32.ofNat vv)), .val (.int ss), .val (.long ww), .second, .val (.long mm), .second, .val (.int (Int32.ofNat m3)), .val (.int (Int32.ofNat sl)), .val (.ref a1), .val (.ref a8), .unset, .unset, .unset, .unset, .unset, .unset, .unset] [(.int (Int32.ofNat u20)), (.int (2 : Int32)), (.ref a15), (.ref a15)])
  refine w_iastore X20 D0_99 (M19.at 0 rfl) 2 rfl (by decide) (fun T21 h21 X21 K21 B21 => ?_)
  rw [upd_nI] at B21
  have M21 := M19.st 0 rfl K21 B21
  refine w_astore X21 D0_100 (l' := #[.val (.int (Int32.ofNat vv)), .val (.int ss), .val (.long ww), .second, .val (.long mm), .second, .val (.int (Int32.ofNat m3)), .val (.int (Int32.ofNat sl)), .val (.ref a1), .val (.ref a8), .val (.ref a15), .unset, .unset, .unset, .unset, .unset, .unset]) rfl rfl ?_
  refine w_iconst X21 D0_102 (v := (3 : Int32)) rfl ?_
  refine w_newI X21 D0_103 (hw _ (List.mem_of_getElem? (i := 1) rfl)) 3 3 rfl (Nat.le_of_ble_eq_true rfl) (by decide) (Nat.le_of_ble_eq_true rfl) (Nat.le_of_ble_eq_true rfl) (fun T22 h22 a22 X22 g22 E22 B22 => ?_)
  have M22 := M21.cons (g := bI (nI (fun _ => 0))) E22 (Nat.le_of_eq g22.symm) B22
  refine w_dup X22 D0_105 rfl ?_
  refine w_iconst X22 D0_106 (v := (0 : Int32)) rfl ?_
  refine w_lload X22 D0_107 rfl ?_
  refine w_l2i X22 D0_109 ?_
  rw [em1]
  refine w_iastore X22 D0_110 (M22.at 0 rfl) 0 rfl (by decide) (fun T23 h23 X23 K23 B23 => ?_)
  rw [upd_nI] at B23
  have M23 := M22.st 0 rfl K23 B23
  refine w_dup X23 D0_111 rfl ?_
  refine w_iconst X23 D0_112 (v := (1 : Int32)) rfl ?_
  refine w_lload X23 D0_113 rfl ?_
  refine w_bipush X23 D0_115 (v := (32 : Int32)) rfl ?_
  refine w_lushr X23 D0_117 ?_
  refine w_l2i X23 D0_118 ?_
  rw [em2]
  refine w_iastore X23 D0_119 (M23.at 0 rfl) 1 rfl (by decide) (fun T24 h24 X24 K24 B24 => ?_)
  rw [upd_nI] at B24
  have M24 := M23.st 0 rfl K24 B24
  refine w_dup X24 D0_120 rfl ?_
  refine w_iconst X24 D0_121 (v := (2 : Int32)) rfl ?_
  refine w_iload X24 D0_122 rfl ?_
  refine w_iastore X24 D0_124 (M24.at 0 rfl) 2 rfl (by decide) (fun T25 h25 X25 K25 B25 => ?_)
  rw [upd_nI] at B25
  have M25 := M24.st 0 rfl K25 B25
  refine w_astore X25 D0_125 (l' := #[.val (.int (Int32.ofNat vv)), .val (.int ss), .val (.long ww), .second, .val (.long mm), .second, .val (.int (Int32.ofNat m3)), .val (.int (Int32.ofNat sl)), .val (.ref a1), .val (.ref a8), .val (.ref a15), .val (.ref a22), .unset, .unset, .unset, .unset, .unset]) rfl rfl ?_
  refine w_iconst X25 D0_127 (v := (4 : Int32)) rfl ?_
  refine w_newJ X25 D0_128 (hw _ (List.mem_of_getElem? (i := 6) rfl)) 4 4 rfl (Nat.le_of_ble_eq_true rfl) (by decide) (Nat.le_of_ble_eq_true rfl) (Nat.le_of_ble_eq_true rfl) (fun T26 h26 a26 X26 g26 E26 B26 => ?_)
  have M26 := M25.cons (g := bJ (nJ (fun _ => 0))) E26 (Nat.le_of_eq g26.symm) B26
  refine w_astore X26 D0_130 (l' := #[.val (.int (Int32.ofNat vv)), .val (.int ss), .val (.long ww), .second, .val (.long mm), .second, .val (.int (Int32.ofNat m3)), .val (.int (Int32.ofNat sl)), .val (.ref a1), .val (.ref a8), .val (.ref a15), .val (.ref a22), .val (.ref a26), .unset, .unset, .unset, .unset]) rfl rfl ?_
  refine w_iconst X26 D0_132 (v := (4 : Int32)) rfl ?_
  refine w_newJ X26 D0_133 (hw _ (List.mem_of_getElem? (i := 6) rfl)) 4 4 rfl (Nat.le_of_ble_eq_true rfl) (by decide) (Nat.le_of_ble_eq_true rfl) (Nat.le_of_ble_eq_true rfl) (fun T27 h27 a27 X27 g27 E27 B27 => ?_)
  have M27 := M26.cons (g := bJ (nJ (fun _ => 0))) E27 (Nat.le_of_eq g27.symm) B27
  refine w_astore X27 D0_135 (l' := #[.val (.int (Int32.ofNat vv)), .val (.int ss), .val (.long ww), .second, .val (.long mm), .second, .val (.int (Int32.ofNat m3)), .val (.int (Int32.ofNat sl)), .val (.ref a1), .val (.ref a8), .val (.ref a15), .val (.ref a22), .val (.ref a26), .val (.ref a27), .unset, .unset, .unset]) rfl rfl ?_
  refine w_iconst X27 D0_137 (v := (3 : Int32)) rfl ?_
  refine w_newI X27 D0_138 (hw _ (List.mem_of_getElem? (i := 1) rfl)) 3 3 rfl (Nat.le_of_ble_eq_true rfl) (by decide) (Nat.le_of_ble_eq_true rfl) (Nat.le_of_ble_eq_true rfl) (fun T28 h28 a28 X28 g28 E28 B28 => ?_)
  have M28 := M27.cons (g := bI (fun _ => 0)) E28 (Nat.le_of_eq g28.symm) B28
  refine w_astore X28 D0_140 (l' := #[.val (.int (Int32.ofNat vv)), .val (.int ss), .val (.long ww), .second, .val (.long mm), .second, .val (.int (Int32.ofNat m3)), .val (.int (Int32.ofNat sl)), .val (.ref a1), .val (.ref a8), .val (.ref a15), .val (.ref a22), .val (.ref a26), .val (.ref a27), .val (.ref a28), .unset, .unset]) rfl rfl ?_
  exact law2 hw X28 ss _ ww mm vv sl a28 a27 a26 a22 a15 a8 a1 _ _ _ _ _ hvv hs3 (fun s hs => by
    have hc : s = 0 ∨ s = 1 ∨ s = 2 := by omega
    rcases hc with rfl | rfl | rfl
    · exact hm1
    · exact hm2
    · exact hm3) (fun s hs => by
    have hc : s = 0 ∨ s = 1 ∨ s = 2 := by omega
    rcases hc with rfl | rfl | rfl
    · exact hu16
    · exact hu18
    · exact hu20) (fun s hs => by
    have hc : s = 0 ∨ s = 1 ∨ s = 2 := by omega
    rcases hc with rfl | rfl | rfl
    · exact hu9
    · exact hu11
    · exact hu13) (fun s hs => by
    have hc : s = 0 ∨ s = 1 ∨ s = 2 := by omega
    rcases hc with rfl | rfl | rfl
    · exact hu2
    · exact hu4
    · exact hu6) M28
set_option maxRecDepth 65536 in
set_option maxHeartbeats 40000000 in
theorem comes_1 {Post : Tables → Env → Array Value → State → Outcome → State → Prop} (hpost : ∀ tb e args s v u, (limb_1_1.after args s (.returned v) u = true ∧ limb_1_2.after args s (.returned v) u = true ∧ True) → FrameEnd s (.returned v) u (Jvm.fieldLocs frame_1_writes args s ++ Jvm.arrayLocs frame_1_arrays args s ++ Jvm.staticLocs frame_1_statics s) 72 320 → Post tb e args s (.returned v) u) :
    ArmFor flags0 classFile x code maxLocals ret World_1 tables_1 room_1 Calls_1 rest_1 Pre_1 Post := by
  intro l hfl _ _ p e ha hc hk s m args below hf hA hF happ hP
  obtain ⟨hcalls, hrest, hpre⟩ := hP
  obtain ⟨-, -, -, hnamed, -, -, -, hat⟩ := (Spec.applies_iff hf).mp happ
  obtain ⟨hg, hn⟩ := and_e (Cond.before_iff.mp (show (Jvm.Cond.and given_1 narrow_1).before args s = true from hpre))
  obtain ⟨hcount, g0⟩ := and_e hg
  obtain ⟨ga0, g1⟩ := and_e g0
  obtain ⟨ga1, g2⟩ := and_e g1
  obtain ⟨ga2, g3⟩ := and_e g2
  obtain ⟨ga3, g4⟩ := and_e g3
  obtain ⟨w0, w1, w2, w3, w4, rfl⟩ : ∃ w0 w1 w2 w3 w4 : Value, args = #[w0, w1, w2, w3, w4] := by
    have hs : args.size = 5 := by simpa [Cond.value, given_1] using hcount
    obtain ⟨L⟩ := args
    match L, hs with
    | [w0, w1, w2, w3, w4], _ => exact ⟨w0, w1, w2, w3, w4, rfl⟩
  have hw := fun d (hd : d ∈ tables_1) => atoms_spec (ws := Jvm.Cond.code x code maxLocals ret :: tables_1) hat d (List.mem_cons_of_mem _ hd)
  obtain ⟨i0, ei0⟩ := is_v ga0
  obtain rfl : w0 = (.int i0) := Option.some.inj ei0
  obtain ⟨i1, ei1⟩ := is_v ga1
  obtain rfl : w1 = (.int i1) := Option.some.inj ei1
  obtain ⟨i2, ei2⟩ := isL_v ga2
  obtain rfl : w2 = (.long i2) := Option.some.inj ei2
  obtain ⟨i3, ei3⟩ := isL_v ga3
  obtain rfl : w3 = (.long i3) := Option.some.inj ei3
  obtain ⟨i4, ei4⟩ := is_v g4
  obtain rfl : w4 = (.int i4) := Option.some.inj ei4
  obtain ⟨n, o, h1, h2, h3, _, L, rfl, ⟨N, -, rfl⟩, hq⟩ := rm0 (l := l) (Z := s) (n0 := s.heap.size) (h := s.heap) hw (Nat.le_refl _) i0 i1 i2 i3 i4 p e ha hc hk s m _ below hf ((Spec.applies_iff_loose hf).mp happ).1 ⟨rfl, State.Warmed39.refl s, rfl⟩ trivial
  refine ⟨n, _, h1, h2, h3, hpost _ _ _ _ _ _ ⟨Cond.after_iff.mpr rfl, Cond.after_iff.mpr (eq_i res_at (Term.int_eval (1)) rfl), trivial⟩ ⟨hq.1, hq.2.1, (hq.2.2.sift fun y hy => Or.inr (N y hy)).mono (by decide) (by decide)⟩⟩
theorem main_1_1 : Claimed_1_1 := comes_1 fun _ _ _ _ _ _ h hF => ⟨h.1, hF⟩
theorem main_1_2 : Claimed_1_2 := comes_1 fun _ _ _ _ _ _ h hF => ⟨h.2.1, hF⟩
end Jvm.Pilot.@@N@@
namespace Jvm.Pilot.@@N@@
open Jvm Jvm.ClassFile Sem Op Lib Jvm.Free Jvm.Stand Jvm.Pilot.@@N@@.Jvm.D
/-! MADE BY PROGRAM (witnessworld.py) out of the Statement's table words and the real class files: 19 classes; the members and pool entries that the words name. The judged class is class 1, her method 1. -/
namespace start1
open Jvm.ClassFile
def u (s : String) : CpInfo := .utf8 (stringToUtf16 s)
/-- a pool by its gaps: so many unusable entries, then the entry; so many at the end -/
def gap : Nat → List CpInfo → List CpInfo
  | 0, r => r
  | n + 1, r => .unusable :: gap n r
def poolList (es : List (Nat × CpInfo)) (last : Nat) : List CpInfo := es.foldr (fun e r => gap e.1 (e.2 :: r)) (gap last [])
def pool (es : List (Nat × CpInfo)) (last : Nat) : Array CpInfo := ⟨poolList es last⟩
def fileOf (pool : Array CpInfo) (this : Nat) (attrs : Array Attribute := #[]) (ms : Array MethodInfo := #[]) (fl : Nat := 33) (sup : Nat := 0) (ifs : Array Nat := #[]) (fds : Array FieldInfo := #[]) : ClassFile where
  minorVersion := 0
  majorVersion := 65
  constantPool := pool
  accessFlags := fl
  thisClass := this
  superClass := sup
  interfaces := ifs
  fields := fds
  methods := ms
  attributes := attrs
def plain (name : String) (sup : Option ClassId) : Class where
  name := name
  kind := .ordinary
  loader := none
  accessFlags := 33
  super := sup
  interfaces := #[]
  cf := none
  fields := #[]
  methods := #[]
  instanceTypes := #[]
  staticTypes := #[]
  resolved := #[]
  callSites := []
  init := .initialized
  statics := none
  mirror := none

def pool0 : Array CpInfo := pool [(5, u "<init>"), (0, u "()V"), (1, .class_ 10), (1, u "java/lang/Object")] 113

def k0c0 : Code := { maxStack := 0, maxLocals := 1, code := object_method_1_code, exceptionTable := #[], attributes := #[] }
def k0m0 : Method := { name := "<init>", desc := "()V", sig := { parameters := [], returnType := none }, accessFlags := 1, code := some k0c0 }
/-- java/lang/Object -/
def k0 : Class := { plain "java/lang/Object" none with
  accessFlags := 33
  interfaces := #[]
  cf := some (fileOf pool0 8 #[] #[{ accessFlags := 1, nameIndex := 5, descriptorIndex := 6, attributes := #[] }] 33 0 #[] #[])
  fields := #[]
  methods := #[k0m0]
  instanceTypes := #[]
  staticTypes := #[]
  resolved := Array.replicate 124 none
  statics := none }

def pool1 : Array CpInfo := pool [(2, .class_ 4), (1, u "java/lang/Object"), (0, u "<init>"), (0, u "()V"), (0, .integer 2147483647), (0, .methodref 9 10), (0, .class_ 11), (0, .nameAndType 12 13), (0, u "com/example/tokenfold/tokenfold/statespace/PackingRepackPinLaw"), (0, u "c"), (0, u "(JI)I"), (0, .class_ 15), (0, u "com/example/tokenfold/tokenfold/statespace/Packing"), (0, .methodref 14 17), (0, .nameAndType 5 18), (0, u "([I)V"), (0, .methodref 14 20), (0, .nameAndType 21 18), (0, u "widen"), (0, .methodref 14 23), (0, .nameAndType 24 25), (0, u "pack"), (0, u "([I[J)Z"), (0, .methodref 14 27), (0, .nameAndType 28 29), (0, u "repack"), (0, u "([II[J)Z"), (0, .methodref 14 31), (0, .nameAndType 32 33), (0, u "unpack"), (0, u "([JI[I)V"), (2, u "law"), (0, u "(IIJJI)Z")] 7

def k1m0 : Method := { name := "<init>", desc := "()V", sig := { parameters := [], returnType := none }, accessFlags := 1, code := none }
def k1c1 : Code := { maxStack := 6, maxLocals := 17, code := code, exceptionTable := #[], attributes := #[] }
def k1m1 : Method := { name := "law", desc := "(IIJJI)Z", sig := { parameters := [.int, .int, .long, .long, .int], returnType := some .boolean }, accessFlags := 9, code := some k1c1 }
def k1c2 : Code := { maxStack := 3, maxLocals := 4, code := method_3_code, exceptionTable := #[], attributes := #[] }
def k1m2 : Method := { name := "c", desc := "(JI)I", sig := { parameters := [.long, .int], returnType := some .int }, accessFlags := 10, code := some k1c2 }
/-- com/example/tokenfold/tokenfold/statespace/PackingRepackPinLaw -/
def k1 : Class := { plain "com/example/tokenfold/tokenfold/statespace/PackingRepackPinLaw" (some 0) with
  accessFlags := 49
  interfaces := #[]
  cf := some (fileOf pool1 9 #[] #[{ accessFlags := 1, nameIndex := 5, descriptorIndex := 6, attributes := #[] }, { accessFlags := 9, nameIndex := 36, descriptorIndex := 37, attributes := #[] }, { accessFlags := 10, nameIndex := 12, descriptorIndex := 13, attributes := #[] }] 49 2 #[] #[])
  fields := #[]
  methods := #[k1m0, k1m1, k1m2]
  instanceTypes := #[]
  staticTypes := #[]
  resolved := Array.replicate 45 none
  statics := none }

def pool2 : Array CpInfo := pool [(1, .methodref 2 3), (0, .class_ 4), (0, .nameAndType 5 6), (0, u "java/lang/Object"), (0, u "<init>"), (0, u "()V"), (0, .fieldref 8 9), (0, .class_ 10), (0, .nameAndType 11 12), (0, u "com/example/tokenfold/tokenfold/statespace/Packing"), (0, u "extraSlots"), (0, u "[I"), (0, .fieldref 8 14), (0, .nameAndType 15 12), (0, u "extraWords"), (0, .fieldref 8 17), (0, .nameAndType 18 12), (0, u "extraShifts"), (0, .fieldref 8 20), (0, .nameAndType 21 12), (0, u "extraLows"), (0, .fieldref 8 23), (0, .nameAndType 24 25), (0, u "extraMasks"), (0, u "[J"), (0, .fieldref 8 27), (0, .nameAndType 28 12), (0, u "nextExtras"), (0, .fieldref 8 30), (0, .nameAndType 31 12), (0, u "words"), (0, .fieldref 8 33), (0, .nameAndType 34 12), (0, u "shifts"), (0, .fieldref 8 36), (0, .nameAndType 37 25), (0, u "masks"), (0, .fieldref 8 39), (0, .nameAndType 40 12), (0, u "widths"), (0, .fieldref 8 42), (0, .nameAndType 43 12), (0, u "firstExtras"), (0, .fieldref 8 45), (0, .nameAndType 46 12), (0, u "lastExtras"), (0, .methodref 48 49), (0, .class_ 50), (0, .nameAndType 51 52), (0, u "java/util/Arrays"), (0, u "fill"), (0, u "([II)V"), (0, .methodref 8 54), (0, .nameAndType 55 56), (0, u "bits"), (0, u "(I)I"), (0, .methodref 8 58), (0, .nameAndType 59 60), (0, u "place"), (0, u "(I)V"), (0, .fieldref 8 62), (0, .nameAndType 63 64), (0, u "end"), (0, u "J"), (2, .long 64), (1, .methodref 70 71), (0, .class_ 72), (0, .nameAndType 73 74), (0, u "java/lang/Math"), (0, u "max"), (0, u "(II)I"), (0, .fieldref 8 76), (0, .nameAndType 77 78), (0, u "recordWords"), (0, u "I"), (0, .methodref 48 80), (0, .nameAndType 51 81), (0, u "([JIIJ)V"), (0, .fieldref 8 83), (0, .nameAndType 84 78), (0, u "extras"), (0, .long 18446744073709551615), (1, .methodref 70 88), (0, .nameAndType 89 74), (0, u "min"), (0, .methodref 8 91), (0, .nameAndType 92 93), (0, u "addExtra"), (0, u "(II)V"), (0, .methodref 70 95), (0, .nameAndType 73 96), (0, u "(JJ)J"), (0, .methodref 70 98), (0, .nameAndType 99 100), (0, u "toIntExact"), (0, u "(J)I"), (0, .methodref 48 102), (0, .nameAndType 103 104), (0, u "copyOf"), (0, u "([II)[I"), (0, .methodref 48 106), (0, .nameAndType 103 107), (0, u "([JI)[J"), (0, .class_ 109), (0, u "java/lang/Integer"), (0, .methodref 108 111), (0, .nameAndType 112 56), (0, u "numberOfLeadingZeros"), (0, u "MOST_BITS"), (2, u "([I)V"), (5, u "pack"), (0, u "([I[J)Z"), (1, u "repack"), (0, u "([II[J)Z"), (0, u "unpack"), (0, u "([JI[I)V"), (0, u "widen")] 2

def k2c0 : Code := { maxStack := 6, maxLocals := 5, code := prog_60_method_1_code, exceptionTable := #[], attributes := #[] }
def k2m0 : Method := { name := "<init>", desc := "([I)V", sig := { parameters := [(.array .int)], returnType := none }, accessFlags := 0, code := some k2c0 }
def k2c1 : Code := { maxStack := 8, maxLocals := 6, code := prog_60_method_3_code, exceptionTable := #[], attributes := #[] }
def k2m1 : Method := { name := "pack", desc := "([I[J)Z", sig := { parameters := [(.array .int), (.array .long)], returnType := some .boolean }, accessFlags := 0, code := some k2c1 }
def k2c2 : Code := { maxStack := 8, maxLocals := 13, code := prog_60_method_4_code, exceptionTable := #[], attributes := #[] }
def k2m2 : Method := { name := "repack", desc := "([II[J)Z", sig := { parameters := [(.array .int), .int, (.array .long)], returnType := some .boolean }, accessFlags := 0, code := some k2c2 }
def k2c3 : Code := { maxStack := 7, maxLocals := 7, code := prog_60_method_5_code, exceptionTable := #[], attributes := #[] }
def k2m3 : Method := { name := "unpack", desc := "([JI[I)V", sig := { parameters := [(.array .long), .int, (.array .int)], returnType := none }, accessFlags := 0, code := some k2c3 }
def k2c4 : Code := { maxStack := 7, maxLocals := 4, code := prog_60_method_6_code, exceptionTable := #[], attributes := #[] }
def k2m4 : Method := { name := "widen", desc := "([I)V", sig := { parameters := [(.array .int)], returnType := none }, accessFlags := 0, code := some k2c4 }
def k2c5 : Code := { maxStack := 6, maxLocals := 4, code := prog_60_method_7_code, exceptionTable := #[], attributes := #[] }
def k2m5 : Method := { name := "addExtra", desc := "(II)V", sig := { parameters := [.int, .int], returnType := none }, accessFlags := 2, code := some k2c5 }
def k2c6 : Code := { maxStack := 9, maxLocals := 2, code := prog_60_method_8_code, exceptionTable := #[], attributes := #[] }
def k2m6 : Method := { name := "place", desc := "(I)V", sig := { parameters := [.int], returnType := none }, accessFlags := 2, code := some k2c6 }
def k2c7 : Code := { maxStack := 3, maxLocals := 1, code := prog_60_method_9_code, exceptionTable := #[], attributes := #[] }
def k2m7 : Method := { name := "bits", desc := "(I)I", sig := { parameters := [.int], returnType := some .int }, accessFlags := 10, code := some k2c7 }
/-- com/example/tokenfold/tokenfold/statespace/Packing -/
def k2 : Class := { plain "com/example/tokenfold/tokenfold/statespace/Packing" (some 0) with
  accessFlags := 32
  interfaces := #[]
  cf := some (fileOf pool2 8 #[] #[{ accessFlags := 0, nameIndex := 5, descriptorIndex := 116, attributes := #[] }, { accessFlags := 0, nameIndex := 122, descriptorIndex := 123, attributes := #[] }, { accessFlags := 0, nameIndex := 125, descriptorIndex := 126, attributes := #[] }, { accessFlags := 0, nameIndex := 127, descriptorIndex := 128, attributes := #[] }, { accessFlags := 0, nameIndex := 129, descriptorIndex := 116, attributes := #[] }, { accessFlags := 2, nameIndex := 92, descriptorIndex := 93, attributes := #[] }, { accessFlags := 2, nameIndex := 59, descriptorIndex := 60, attributes := #[] }, { accessFlags := 10, nameIndex := 55, descriptorIndex := 56, attributes := #[] }] 32 2 #[] #[{ accessFlags := 26, nameIndex := 113, descriptorIndex := 78, attributes := #[] }, { accessFlags := 18, nameIndex := 31, descriptorIndex := 12, attributes := #[] }, { accessFlags := 18, nameIndex := 34, descriptorIndex := 12, attributes := #[] }, { accessFlags := 18, nameIndex := 37, descriptorIndex := 25, attributes := #[] }, { accessFlags := 18, nameIndex := 40, descriptorIndex := 12, attributes := #[] }, { accessFlags := 18, nameIndex := 43, descriptorIndex := 12, attributes := #[] }, { accessFlags := 18, nameIndex := 46, descriptorIndex := 12, attributes := #[] }, { accessFlags := 2, nameIndex := 11, descriptorIndex := 12, attributes := #[] }, { accessFlags := 2, nameIndex := 15, descriptorIndex := 12, attributes := #[] }, { accessFlags := 2, nameIndex := 18, descriptorIndex := 12, attributes := #[] }, { accessFlags := 2, nameIndex := 21, descriptorIndex := 12, attributes := #[] }, { accessFlags := 2, nameIndex := 24, descriptorIndex := 25, attributes := #[] }, { accessFlags := 2, nameIndex := 28, descriptorIndex := 12, attributes := #[] }, { accessFlags := 2, nameIndex := 84, descriptorIndex := 78, attributes := #[] }, { accessFlags := 2, nameIndex := 63, descriptorIndex := 64, attributes := #[] }, { accessFlags := 2, nameIndex := 77, descriptorIndex := 78, attributes := #[] }])
  fields := #[{ name := "MOST_BITS", type := .int, accessFlags := 26, slot := 0, constantValue := 0 }, { name := "words", type := (.array .int), accessFlags := 18, slot := 0, constantValue := 0 }, { name := "shifts", type := (.array .int), accessFlags := 18, slot := 1, constantValue := 0 }, { name := "masks", type := (.array .long), accessFlags := 18, slot := 2, constantValue := 0 }, { name := "widths", type := (.array .int), accessFlags := 18, slot := 3, constantValue := 0 }, { name := "firstExtras", type := (.array .int), accessFlags := 18, slot := 4, constantValue := 0 }, { name := "lastExtras", type := (.array .int), accessFlags := 18, slot := 5, constantValue := 0 }, { name := "extraSlots", type := (.array .int), accessFlags := 2, slot := 6, constantValue := 0 }, { name := "extraWords", type := (.array .int), accessFlags := 2, slot := 7, constantValue := 0 }, { name := "extraShifts", type := (.array .int), accessFlags := 2, slot := 8, constantValue := 0 }, { name := "extraLows", type := (.array .int), accessFlags := 2, slot := 9, constantValue := 0 }, { name := "extraMasks", type := (.array .long), accessFlags := 2, slot := 10, constantValue := 0 }, { name := "nextExtras", type := (.array .int), accessFlags := 2, slot := 11, constantValue := 0 }, { name := "extras", type := .int, accessFlags := 2, slot := 12, constantValue := 0 }, { name := "end", type := .long, accessFlags := 2, slot := 13, constantValue := 0 }, { name := "recordWords", type := .int, accessFlags := 2, slot := 14, constantValue := 0 }]
  methods := #[k2m0, k2m1, k2m2, k2m3, k2m4, k2m5, k2m6, k2m7]
  instanceTypes := #[(.array .int), (.array .int), (.array .long), (.array .int), (.array .int), (.array .int), (.array .int), (.array .int), (.array .int), (.array .int), (.array .long), (.array .int), .int, .long, .int]
  staticTypes := #[.int]
  resolved := Array.replicate 132 none
  statics := none }

def pool3 : Array CpInfo := pool [(2, .class_ 4), (1, u "java/lang/Object"), (0, u "<init>"), (0, u "()V"), (6, .methodref 14 15), (0, .class_ 16), (0, .nameAndType 17 18), (0, u "java/util/Arrays"), (0, u "rangeCheck"), (0, u "(III)V"), (55, .class_ 76), (1, u "java/util/Arrays$NaturalOrder"), (36, .class_ 115), (1, u "java/util/Arrays$LegacyMergeSort"), (1, u "Z"), (32, .methodref 151 152), (0, .class_ 153), (0, .nameAndType 154 155), (0, u "java/lang/System"), (0, u "arraycopy"), (0, u "(Ljava/lang/Object;ILjava/lang/Object;II)V"), (146, u "copyOf"), (1, .methodref 305 306), (0, .class_ 307), (0, .nameAndType 308 309), (0, u "java/lang/Math"), (0, u "min"), (0, u "(II)I"), (65, .class_ 376), (0, u "java/util/Arrays$ArrayList"), (68, u "$assertionsDisabled"), (269, u "MIN_ARRAY_SORT_GRAN"), (0, u "I"), (2, u "INSERTIONSORT_THRESHOLD"), (120, u "fill"), (3, u "([JIIJ)V"), (0, u "([II)V"), (25, u "([II)[I"), (0, u "([JI)[J"), (102, .class_ 976), (0, u "java/util/Arrays$ArrayItr")] 52

def k3m0 : Method := { name := "<init>", desc := "()V", sig := { parameters := [], returnType := none }, accessFlags := 2, code := none }
def k3c1 : Code := { maxStack := 4, maxLocals := 3, code := jdk_65_method_30_code, exceptionTable := #[], attributes := #[] }
def k3m1 : Method := { name := "rangeCheck", desc := "(III)V", sig := { parameters := [.int, .int, .int], returnType := none }, accessFlags := 8, code := some k3c1 }
def k3c2 : Code := { maxStack := 4, maxLocals := 6, code := jdk_65_method_102_code, exceptionTable := #[], attributes := #[] }
def k3m2 : Method := { name := "fill", desc := "([JIIJ)V", sig := { parameters := [(.array .long), .int, .int, .long], returnType := none }, accessFlags := 9, code := some k3c2 }
def k3c3 : Code := { maxStack := 3, maxLocals := 4, code := jdk_65_method_103_code, exceptionTable := #[], attributes := #[] }
def k3m3 : Method := { name := "fill", desc := "([II)V", sig := { parameters := [(.array .int), .int], returnType := none }, accessFlags := 9, code := some k3c3 }
def k3c4 : Code := { maxStack := 6, maxLocals := 3, code := jdk_65_method_123_code, exceptionTable := #[], attributes := #[] }
def k3m4 : Method := { name := "copyOf", desc := "([II)[I", sig := { parameters := [(.array .int), .int], returnType := some (.array .int) }, accessFlags := 9, code := some k3c4 }
def k3c5 : Code := { maxStack := 6, maxLocals := 3, code := jdk_65_method_124_code, exceptionTable := #[], attributes := #[] }
def k3m5 : Method := { name := "copyOf", desc := "([JI)[J", sig := { parameters := [(.array .long), .int], returnType := some (.array .long) }, accessFlags := 9, code := some k3c5 }
/-- java/util/Arrays -/
def k3 : Class := { plain "java/util/Arrays" (some 0) with
  accessFlags := 49
  interfaces := #[]
  cf := some (fileOf pool3 14 #[.nestMembers #[975, 375, 113, 74]] #[{ accessFlags := 2, nameIndex := 5, descriptorIndex := 6, attributes := #[] }, { accessFlags := 8, nameIndex := 17, descriptorIndex := 18, attributes := #[] }, { accessFlags := 9, nameIndex := 840, descriptorIndex := 844, attributes := #[] }, { accessFlags := 9, nameIndex := 840, descriptorIndex := 845, attributes := #[] }, { accessFlags := 9, nameIndex := 302, descriptorIndex := 871, attributes := #[] }, { accessFlags := 9, nameIndex := 302, descriptorIndex := 872, attributes := #[] }] 49 2 #[] #[{ accessFlags := 26, nameIndex := 715, descriptorIndex := 716, attributes := #[] }, { accessFlags := 26, nameIndex := 719, descriptorIndex := 716, attributes := #[] }, { accessFlags := 4120, nameIndex := 445, descriptorIndex := 117, attributes := #[] }])
  fields := #[{ name := "MIN_ARRAY_SORT_GRAN", type := .int, accessFlags := 26, slot := 0, constantValue := 0 }, { name := "INSERTIONSORT_THRESHOLD", type := .int, accessFlags := 26, slot := 1, constantValue := 0 }, { name := "$assertionsDisabled", type := .boolean, accessFlags := 4120, slot := 2, constantValue := 0 }]
  methods := #[k3m0, k3m1, k3m2, k3m3, k3m4, k3m5]
  instanceTypes := #[]
  staticTypes := #[.int, .int, .boolean]
  resolved := Array.replicate 1029 none
  statics := none }

def pool4 : Array CpInfo := pool [(1, .class_ 2), (0, u "java/io/Serializable"), (0, .class_ 4), (0, u "java/lang/Object")] 2

/-- java/io/Serializable -/
def k4 : Class := { plain "java/io/Serializable" (some 0) with
  accessFlags := 1537
  interfaces := #[]
  cf := some (fileOf pool4 1 #[] #[] 1537 3 #[] #[])
  fields := #[]
  methods := #[]
  instanceTypes := #[]
  staticTypes := #[]
  resolved := Array.replicate 7 none
  statics := none }

def pool5 : Array CpInfo := pool [(2, .class_ 4), (1, u "java/lang/Object"), (0, u "<init>"), (0, u "()V"), (1, .class_ 10), (1, u "java/lang/Number"), (2, .class_ 14), (0, u "java/io/Serializable"), (0, u "serialVersionUID"), (0, u "J")] 20

def k5m0 : Method := { name := "<init>", desc := "()V", sig := { parameters := [], returnType := none }, accessFlags := 1, code := none }
/-- java/lang/Number -/
def k5 : Class := { plain "java/lang/Number" (some 0) with
  accessFlags := 1057
  interfaces := #[4]
  cf := some (fileOf pool5 8 #[] #[{ accessFlags := 1, nameIndex := 5, descriptorIndex := 6, attributes := #[] }] 1057 2 #[13] #[{ accessFlags := 26, nameIndex := 15, descriptorIndex := 16, attributes := #[] }])
  fields := #[{ name := "serialVersionUID", type := .long, accessFlags := 26, slot := 0, constantValue := 0 }]
  methods := #[k5m0]
  instanceTypes := #[]
  staticTypes := #[.long]
  resolved := Array.replicate 37 none
  statics := none }

def pool6 : Array CpInfo := pool [(1, .class_ 2), (0, u "java/lang/Comparable"), (0, .class_ 4), (0, u "java/lang/Object")] 7

/-- java/lang/Comparable -/
def k6 : Class := { plain "java/lang/Comparable" (some 0) with
  accessFlags := 1537
  interfaces := #[]
  cf := some (fileOf pool6 1 #[] #[] 1537 3 #[] #[])
  fields := #[]
  methods := #[]
  instanceTypes := #[]
  staticTypes := #[]
  resolved := Array.replicate 12 none
  statics := none }

def pool7 : Array CpInfo := pool [(1, .class_ 2), (0, u "java/lang/constant/Constable"), (0, .class_ 4), (0, u "java/lang/Object")] 6

/-- java/lang/constant/Constable -/
def k7 : Class := { plain "java/lang/constant/Constable" (some 0) with
  accessFlags := 1537
  interfaces := #[]
  cf := some (fileOf pool7 1 #[] #[] 1537 3 #[] #[])
  fields := #[]
  methods := #[]
  instanceTypes := #[]
  staticTypes := #[]
  resolved := Array.replicate 11 none
  statics := none }

def pool8 : Array CpInfo := pool [(1, .class_ 2), (0, u "java/lang/constant/ConstantDesc"), (0, .class_ 4), (0, u "java/lang/Object")] 32

/-- java/lang/constant/ConstantDesc -/
def k8 : Class := { plain "java/lang/constant/ConstantDesc" (some 0) with
  accessFlags := 1537
  interfaces := #[]
  cf := some (fileOf pool8 1 #[] #[] 1537 3 #[] #[])
  fields := #[]
  methods := #[]
  instanceTypes := #[]
  staticTypes := #[]
  resolved := Array.replicate 37 none
  statics := none }

def pool9 : Array CpInfo := pool [(1, .class_ 2), (0, u "java/lang/Integer"), (16, u "digits"), (0, u "[C"), (32, u "numberOfLeadingZeros"), (0, u "(I)I"), (30, u "DigitOnes"), (0, u "[B"), (2, u "DigitTens"), (99, .class_ 190), (0, u "java/lang/Integer$IntegerCache"), (3, u "I"), (8, .class_ 204), (0, u "java/lang/Number"), (2, u "value"), (56, .integer 65536), (37, u "TYPE"), (0, u "Ljava/lang/Class;"), (0, .class_ 305), (0, u "java/lang/Comparable"), (0, .class_ 307), (0, u "java/lang/constant/Constable"), (0, .class_ 309), (0, u "java/lang/constant/ConstantDesc"), (0, u "MIN_VALUE"), (1, u "MAX_VALUE"), (3, u "SIZE"), (1, u "BYTES"), (1, u "serialVersionUID"), (0, u "J")] 131

def k9c0 : Code := { maxStack := 3, maxLocals := 2, code := jdk_33_method_47_code, exceptionTable := #[], attributes := #[] }
def k9m0 : Method := { name := "numberOfLeadingZeros", desc := "(I)I", sig := { parameters := [.int], returnType := some .int }, accessFlags := 9, code := some k9c0 }
/-- java/lang/Integer -/
def k9 : Class := { plain "java/lang/Integer" (some 5) with
  accessFlags := 49
  interfaces := #[6, 7, 8]
  cf := some (fileOf pool9 1 #[.nestMembers #[189]] #[{ accessFlags := 9, nameIndex := 53, descriptorIndex := 54, attributes := #[] }] 49 203 #[304, 306, 308] #[{ accessFlags := 25, nameIndex := 310, descriptorIndex := 194, attributes := #[] }, { accessFlags := 25, nameIndex := 312, descriptorIndex := 194, attributes := #[] }, { accessFlags := 25, nameIndex := 302, descriptorIndex := 303, attributes := #[] }, { accessFlags := 24, nameIndex := 19, descriptorIndex := 20, attributes := #[] }, { accessFlags := 24, nameIndex := 89, descriptorIndex := 86, attributes := #[] }, { accessFlags := 24, nameIndex := 85, descriptorIndex := 86, attributes := #[] }, { accessFlags := 18, nameIndex := 207, descriptorIndex := 194, attributes := #[] }, { accessFlags := 25, nameIndex := 316, descriptorIndex := 194, attributes := #[] }, { accessFlags := 25, nameIndex := 318, descriptorIndex := 194, attributes := #[] }, { accessFlags := 26, nameIndex := 320, descriptorIndex := 321, attributes := #[] }])
  fields := #[{ name := "MIN_VALUE", type := .int, accessFlags := 25, slot := 0, constantValue := 0 }, { name := "MAX_VALUE", type := .int, accessFlags := 25, slot := 1, constantValue := 0 }, { name := "TYPE", type := (.object "java/lang/Class"), accessFlags := 25, slot := 2, constantValue := 0 }, { name := "digits", type := (.array .char), accessFlags := 24, slot := 3, constantValue := 0 }, { name := "DigitTens", type := (.array .byte), accessFlags := 24, slot := 4, constantValue := 0 }, { name := "DigitOnes", type := (.array .byte), accessFlags := 24, slot := 5, constantValue := 0 }, { name := "value", type := .int, accessFlags := 18, slot := 0, constantValue := 0 }, { name := "SIZE", type := .int, accessFlags := 25, slot := 6, constantValue := 0 }, { name := "BYTES", type := .int, accessFlags := 25, slot := 7, constantValue := 0 }, { name := "serialVersionUID", type := .long, accessFlags := 26, slot := 8, constantValue := 0 }]
  methods := #[k9m0]
  instanceTypes := #[.int]
  staticTypes := #[.int, .int, (.object "java/lang/Class"), (.array .char), (.array .byte), (.array .byte), .int, .int, .long]
  resolved := Array.replicate 453 none
  statics := none }

def pool10 : Array CpInfo := pool [(1, .class_ 2), (0, u "java/lang/Math"), (1, .class_ 6), (1, u "java/lang/Object"), (0, u "<init>"), (0, u "()V"), (89, .class_ 100), (1, u "java/lang/Math$RandomNumberGeneratorHolder"), (20, u "(JJ)J"), (50, u "negativeZeroFloatBits"), (0, u "J"), (2, u "negativeZeroDoubleBits"), (21, u "max"), (2, u "min"), (43, u "$assertionsDisabled"), (0, u "Z"), (88, u "(II)I"), (2, u "twoToTheDoubleScaleDown"), (0, u "D"), (4, u "twoToTheDoubleScaleUp"), (9, u "E"), (3, u "PI"), (2, u "TAU"), (2, u "DEGREES_TO_RADIANS"), (0, u "RADIANS_TO_DEGREES"), (39, u "toIntExact"), (0, u "(J)I")] 53

def k10m0 : Method := { name := "<init>", desc := "()V", sig := { parameters := [], returnType := none }, accessFlags := 2, code := none }
def k10c1 : Code := { maxStack := 4, maxLocals := 2, code := jdk_29_method_43_code, exceptionTable := #[], attributes := #[] }
def k10m1 : Method := { name := "toIntExact", desc := "(J)I", sig := { parameters := [.long], returnType := some .int }, accessFlags := 9, code := some k10c1 }
def k10c2 : Code := { maxStack := 2, maxLocals := 2, code := jdk_29_method_65_code, exceptionTable := #[], attributes := #[] }
def k10m2 : Method := { name := "max", desc := "(II)I", sig := { parameters := [.int, .int], returnType := some .int }, accessFlags := 9, code := some k10c2 }
def k10c3 : Code := { maxStack := 4, maxLocals := 4, code := jdk_29_method_66_code, exceptionTable := #[], attributes := #[] }
def k10m3 : Method := { name := "max", desc := "(JJ)J", sig := { parameters := [.long, .long], returnType := some .long }, accessFlags := 9, code := some k10c3 }
def k10c4 : Code := { maxStack := 2, maxLocals := 2, code := jdk_29_method_69_code, exceptionTable := #[], attributes := #[] }
def k10m4 : Method := { name := "min", desc := "(II)I", sig := { parameters := [.int, .int], returnType := some .int }, accessFlags := 9, code := some k10c4 }
/-- java/lang/Math -/
def k10 : Class := { plain "java/lang/Math" (some 0) with
  accessFlags := 49
  interfaces := #[]
  cf := some (fileOf pool10 1 #[.nestMembers #[98]] #[{ accessFlags := 2, nameIndex := 7, descriptorIndex := 8, attributes := #[] }, { accessFlags := 9, nameIndex := 405, descriptorIndex := 406, attributes := #[] }, { accessFlags := 9, nameIndex := 198, descriptorIndex := 335, attributes := #[] }, { accessFlags := 9, nameIndex := 198, descriptorIndex := 121, attributes := #[] }, { accessFlags := 9, nameIndex := 201, descriptorIndex := 335, attributes := #[] }] 49 4 #[] #[{ accessFlags := 25, nameIndex := 354, descriptorIndex := 339, attributes := #[] }, { accessFlags := 25, nameIndex := 358, descriptorIndex := 339, attributes := #[] }, { accessFlags := 25, nameIndex := 361, descriptorIndex := 339, attributes := #[] }, { accessFlags := 26, nameIndex := 364, descriptorIndex := 339, attributes := #[] }, { accessFlags := 26, nameIndex := 365, descriptorIndex := 339, attributes := #[] }, { accessFlags := 26, nameIndex := 172, descriptorIndex := 173, attributes := #[] }, { accessFlags := 26, nameIndex := 176, descriptorIndex := 173, attributes := #[] }, { accessFlags := 8, nameIndex := 344, descriptorIndex := 339, attributes := #[] }, { accessFlags := 8, nameIndex := 338, descriptorIndex := 339, attributes := #[] }, { accessFlags := 4120, nameIndex := 245, descriptorIndex := 246, attributes := #[] }])
  fields := #[{ name := "E", type := .double, accessFlags := 25, slot := 0, constantValue := 0 }, { name := "PI", type := .double, accessFlags := 25, slot := 1, constantValue := 0 }, { name := "TAU", type := .double, accessFlags := 25, slot := 2, constantValue := 0 }, { name := "DEGREES_TO_RADIANS", type := .double, accessFlags := 26, slot := 3, constantValue := 0 }, { name := "RADIANS_TO_DEGREES", type := .double, accessFlags := 26, slot := 4, constantValue := 0 }, { name := "negativeZeroFloatBits", type := .long, accessFlags := 26, slot := 5, constantValue := 0 }, { name := "negativeZeroDoubleBits", type := .long, accessFlags := 26, slot := 6, constantValue := 0 }, { name := "twoToTheDoubleScaleUp", type := .double, accessFlags := 8, slot := 7, constantValue := 0 }, { name := "twoToTheDoubleScaleDown", type := .double, accessFlags := 8, slot := 8, constantValue := 0 }, { name := "$assertionsDisabled", type := .boolean, accessFlags := 4120, slot := 9, constantValue := 0 }]
  methods := #[k10m0, k10m1, k10m2, k10m3, k10m4]
  instanceTypes := #[]
  staticTypes := #[.double, .double, .double, .double, .double, .long, .long, .double, .double, .boolean]
  resolved := Array.replicate 460 none
  statics := none }

def pool11 : Array CpInfo := pool [(2, .class_ 4), (1, u "java/lang/Object"), (0, u "<init>"), (0, u "()V"), (1, .class_ 10), (1, u "java/lang/System"), (0, u "allowSecurityManager"), (0, u "I"), (16, u "cons"), (0, u "Ljava/io/Console;"), (77, .class_ 110), (1, u "java/lang/System$CallersHolder"), (43, u "initialErrStream"), (0, u "Ljava/io/PrintStream;"), (19, u "security"), (0, u "Ljava/lang/SecurityManager;"), (31, .class_ 209), (0, u "java/lang/System$1"), (7, u "props"), (0, u "Ljava/util/Properties;"), (2, u "lineSeparator"), (0, u "Ljava/lang/String;"), (96, .class_ 321), (1, u "java/lang/System$LoggerFinder"), (5, .class_ 328), (0, u "java/lang/System$Logger"), (67, u "err"), (2, u "out"), (91, u "notSupportedJnuEncoding"), (15, u "in"), (17, u "initialIn"), (0, u "Ljava/io/InputStream;"), (35, u "bootLayer"), (0, u "Ljava/lang/ModuleLayer;"), (99, .class_ 664), (0, u "java/lang/System$2"), (9, u "NEVER"), (2, u "MAYBE"), (49, u "arraycopy"), (0, u "(Ljava/lang/Object;ILjava/lang/Object;II)V"), (72, .class_ 802), (0, u "java/lang/System$Logger$Level")] 31

def k11m0 : Method := { name := "<init>", desc := "()V", sig := { parameters := [], returnType := none }, accessFlags := 2, code := none }
def k11m1 : Method := { name := "arraycopy", desc := "(Ljava/lang/Object;ILjava/lang/Object;II)V", sig := { parameters := [(.object "java/lang/Object"), .int, (.object "java/lang/Object"), .int, .int], returnType := none }, accessFlags := 265, code := none }
/-- java/lang/System -/
def k11 : Class := { plain "java/lang/System" (some 0) with
  accessFlags := 49
  interfaces := #[]
  cf := some (fileOf pool11 8 #[.nestMembers #[319, 327, 801, 108, 663, 208]] #[{ accessFlags := 2, nameIndex := 5, descriptorIndex := 6, attributes := #[] }, { accessFlags := 265, nameIndex := 727, descriptorIndex := 728, attributes := #[] }] 49 2 #[] #[{ accessFlags := 25, nameIndex := 507, descriptorIndex := 526, attributes := #[] }, { accessFlags := 25, nameIndex := 399, descriptorIndex := 155, attributes := #[] }, { accessFlags := 25, nameIndex := 396, descriptorIndex := 155, attributes := #[] }, { accessFlags := 10, nameIndex := 525, descriptorIndex := 526, attributes := #[] }, { accessFlags := 26, nameIndex := 674, descriptorIndex := 12, attributes := #[] }, { accessFlags := 26, nameIndex := 677, descriptorIndex := 12, attributes := #[] }, { accessFlags := 10, nameIndex := 11, descriptorIndex := 12, attributes := #[] }, { accessFlags := 74, nameIndex := 175, descriptorIndex := 176, attributes := #[] }, { accessFlags := 10, nameIndex := 491, descriptorIndex := 222, attributes := #[] }, { accessFlags := 74, nameIndex := 29, descriptorIndex := 30, attributes := #[] }, { accessFlags := 74, nameIndex := 154, descriptorIndex := 155, attributes := #[] }, { accessFlags := 10, nameIndex := 217, descriptorIndex := 218, attributes := #[] }, { accessFlags := 10, nameIndex := 221, descriptorIndex := 222, attributes := #[] }, { accessFlags := 8, nameIndex := 562, descriptorIndex := 563, attributes := #[] }])
  fields := #[{ name := "in", type := (.object "java/io/InputStream"), accessFlags := 25, slot := 0, constantValue := 0 }, { name := "out", type := (.object "java/io/PrintStream"), accessFlags := 25, slot := 1, constantValue := 0 }, { name := "err", type := (.object "java/io/PrintStream"), accessFlags := 25, slot := 2, constantValue := 0 }, { name := "initialIn", type := (.object "java/io/InputStream"), accessFlags := 10, slot := 3, constantValue := 0 }, { name := "NEVER", type := .int, accessFlags := 26, slot := 4, constantValue := 0 }, { name := "MAYBE", type := .int, accessFlags := 26, slot := 5, constantValue := 0 }, { name := "allowSecurityManager", type := .int, accessFlags := 10, slot := 6, constantValue := 0 }, { name := "security", type := (.object "java/lang/SecurityManager"), accessFlags := 74, slot := 7, constantValue := 0 }, { name := "notSupportedJnuEncoding", type := (.object "java/lang/String"), accessFlags := 10, slot := 8, constantValue := 0 }, { name := "cons", type := (.object "java/io/Console"), accessFlags := 74, slot := 9, constantValue := 0 }, { name := "initialErrStream", type := (.object "java/io/PrintStream"), accessFlags := 74, slot := 10, constantValue := 0 }, { name := "props", type := (.object "java/util/Properties"), accessFlags := 10, slot := 11, constantValue := 0 }, { name := "lineSeparator", type := (.object "java/lang/String"), accessFlags := 10, slot := 12, constantValue := 0 }, { name := "bootLayer", type := (.object "java/lang/ModuleLayer"), accessFlags := 8, slot := 13, constantValue := 0 }]
  methods := #[k11m0, k11m1]
  instanceTypes := #[]
  staticTypes := #[(.object "java/io/InputStream"), (.object "java/io/PrintStream"), (.object "java/io/PrintStream"), (.object "java/io/InputStream"), .int, .int, .int, (.object "java/lang/SecurityManager"), (.object "java/lang/String"), (.object "java/io/Console"), (.object "java/io/PrintStream"), (.object "java/util/Properties"), (.object "java/lang/String"), (.object "java/lang/ModuleLayer")]
  resolved := Array.replicate 834 none
  statics := none }

def pool12 : Array CpInfo := pool [(1, u "java/lang/Cloneable"), (0, .class_ 1), (0, u "java/lang/Object"), (0, .class_ 3)] 3

/-- java/lang/Cloneable -/
def k12 : Class := { plain "java/lang/Cloneable" (some 0) with
  accessFlags := 1537
  interfaces := #[]
  cf := some (fileOf pool12 2 #[] #[] 1537 4 #[] #[])
  fields := #[]
  methods := #[]
  instanceTypes := #[]
  staticTypes := #[]
  resolved := Array.replicate 8 none
  statics := none }

/-- the primitive byte -/
def k13 : Class := { plain "byte" none with kind := .primitive 'B', accessFlags := 0x411 }
/-- [B -/
def k14 : Class := { plain "[B" (some 0) with kind := .array 13 .byte, interfaces := #[12, 4], accessFlags := 1041 }

/-- the primitive int -/
def k15 : Class := { plain "int" none with kind := .primitive 'I', accessFlags := 0x411 }
/-- [I -/
def k16 : Class := { plain "[I" (some 0) with kind := .array 15 .int, interfaces := #[12, 4], accessFlags := 1041 }

/-- the primitive long -/
def k17 : Class := { plain "long" none with kind := .primitive 'J', accessFlags := 0x411 }
/-- [J -/
def k18 : Class := { plain "[J" (some 0) with kind := .array 17 .long, interfaces := #[12, 4], accessFlags := 1041 }

def heap : Heap := #[]
def classes : Array Class := #[k0, k1, k2, k3, k4, k5, k6, k7, k8, k9, k10, k11, k12, k13, k14, k15, k16, k17, k18]
def interned : List (Array UInt16 × Addr) := []
def slotsUsed : Nat := 0
def theMethod : MethodId := ⟨1, 1⟩
def args0 : Array Value := #[.int 9, .int 4, .long 1234, .long 5, .int 7]
def aboutOver (below : List Frame) : State where
  vm := { classes := classes, interned := interned.toArray }
  heap := heap
  slotsUsed := slotsUsed
  threads := #[{ frames := .invoking theMethod args0 :: below }]
def below0 : List Frame := [.native { method := ⟨0, 0⟩, args := #[] }]
def about1 : State := aboutOver below0
def p0 : Program := .bare "" "" ""
def e0 : Env := launch0.env 0 0 0
theorem w_frames : about1.frames = Frame.invoking theMethod args0 :: below0 := rfl
set_option maxRecDepth 65536 in
theorem w_args : argsFit about1.vm theMethod args0 = true := by decide +kernel
set_option maxRecDepth 65536 in
theorem w_heap : heapFits about1 = true := by decide +kernel
set_option maxRecDepth 65536 in
theorem w_runnable : about1.curStatus? = some .runnable := by decide +kernel
set_option maxRecDepth 65536 in
theorem w_alone : about1.alone = true := by decide +kernel
set_option maxRecDepth 65536 in
theorem w_named : about1.methodNamed? x = some theMethod := by decide +kernel
set_option maxRecDepth 65536 in
theorem w_hears : about1.hears theMethod below0 = true := by decide +kernel
set_option maxRecDepth 65536 in
theorem w_ripe : about1.ripe theMethod args0 below0 = true := by decide +kernel
theorem w_running : about1.status = .running := rfl
set_option maxRecDepth 65536 in
theorem w_room : about1.hasRoom e0.platform room_1 = true :=
  launch0.hasRoom_least _ room_1 (by decide +kernel) (by decide +kernel) (by decide +kernel) (by decide +kernel) (by decide +kernel) (by decide +kernel)
theorem allAtoms_all (ts : List Jvm.Cond) (a : Array Jvm.Value) (st : Jvm.State) : (allAtoms ts).before a st = ts.all (fun c => c.before a st) := by
  induction ts with
  | nil => rfl
  | cons c t ih =>
    show (Jvm.Cond.and c (allAtoms t)).before a st = _
    rw [Jvm.Cond.before_and, ih, List.all_cons]
def words1 : List Jvm.Cond := Jvm.Cond.code x code maxLocals ret :: tables_1
/-- a 'code' word, met by the world's own term for the bytes: nothing is compared byte by byte -/
theorem code_word {y : MethodName} {bytes : ByteArray} {mx : Nat} {rt : Option FieldType} {a : Array Value} {s : State} {m : MethodId} {meth : Method} {c : Code} (h1 : s.methodNamed? y = some m) (h2 : s.vm.method? m = some meth) (h3 : meth.code = some c) (h4 : c.code = bytes)
    (h5 : (c.maxLocals == mx && c.exceptionTable.isEmpty && decide (c.maxStack ≤ mostOperands) && decide (meth.sig.returnType = rt) && !meth.locks && decide (parseMethodDescriptor y.desc = some meth.sig)) = true) : (Jvm.Cond.code y bytes mx rt).before a s = true := by
  simp only [Bool.and_eq_true, beq_iff_eq, Bool.not_eq_true', decide_eq_true_eq] at h5
  obtain ⟨⟨⟨⟨⟨g1, g2⟩, g3⟩, g4⟩, g5⟩, g6⟩ := h5
  simp [Cond.before, Cond.holds, Cond.value, h1, h2, h3, h4, g1, g2, g3, g4, g5, g6]
def isCode : Jvm.Cond → Bool
  | .code _ _ _ _ => true
  | _ => false
theorem all_split {L : List Jvm.Cond} {P : Jvm.Cond → Bool} (h1 : L.all (fun c => isCode c || P c) = true) (h2 : ∀ c ∈ L.filter isCode, P c = true) : L.all P = true := by
  refine List.all_eq_true.mpr fun c hc => ?_
  have h := List.all_eq_true.mp h1 c hc
  rcases Bool.eq_false_or_eq_true (isCode c) with hi | hi
  · exact h2 c (List.mem_filter.mpr ⟨hc, hi⟩)
  · simpa [hi] using h
set_option maxRecDepth 65536 in
theorem w_c0 : (Jvm.Cond.code x code maxLocals ret).before args0 about1 = true := code_word (m := ⟨1, 1⟩) (meth := k1m1) (c := k1c1) (by decide +kernel) rfl rfl rfl (by decide +kernel)
set_option maxRecDepth 65536 in
theorem w_c1 : (Jvm.Cond.code ({ cls := "com/example/tokenfold/tokenfold/statespace/PackingRepackPinLaw", name := "c", desc := "(JI)I" } : Jvm.MethodName) method_3_code (4 : Nat) (Option.some Jvm.ClassFile.FieldType.int)).before args0 about1 = true := code_word (m := ⟨1, 2⟩) (meth := k1m2) (c := k1c2) (by decide +kernel) rfl rfl rfl (by decide +kernel)
set_option maxRecDepth 65536 in
theorem w_c2 : (Jvm.Cond.code ({ cls := "com/example/tokenfold/tokenfold/statespace/Packing", name := "<init>", desc := "([I)V" } : Jvm.MethodName) prog_60_method_1_code (5 : Nat) (Option.none : Option Jvm.ClassFile.FieldType)).before args0 about1 = true := code_word (m := ⟨2, 0⟩) (meth := k2m0) (c := k2c0) (by decide +kernel) rfl rfl rfl (by decide +kernel)
set_option maxRecDepth 65536 in
theorem w_c3 : (Jvm.Cond.code ({ cls := "java/lang/Object", name := "<init>", desc := "()V" } : Jvm.MethodName) object_method_1_code (1 : Nat) (Option.none : Option Jvm.ClassFile.FieldType)).before args0 about1 = true := code_word (m := ⟨0, 0⟩) (meth := k0m0) (c := k0c0) (by decide +kernel) rfl rfl rfl (by decide +kernel)
set_option maxRecDepth 65536 in
theorem w_c4 : (Jvm.Cond.code ({ cls := "java/util/Arrays", name := "fill", desc := "([II)V" } : Jvm.MethodName) jdk_65_method_103_code (4 : Nat) (Option.none : Option Jvm.ClassFile.FieldType)).before args0 about1 = true := code_word (m := ⟨3, 3⟩) (meth := k3m3) (c := k3c3) (by decide +kernel) rfl rfl rfl (by decide +kernel)
set_option maxRecDepth 65536 in
theorem w_c5 : (Jvm.Cond.code ({ cls := "com/example/tokenfold/tokenfold/statespace/Packing", name := "bits", desc := "(I)I" } : Jvm.MethodName) prog_60_method_9_code (1 : Nat) (Option.some Jvm.ClassFile.FieldType.int)).before args0 about1 = true := code_word (m := ⟨2, 7⟩) (meth := k2m7) (c := k2c7) (by decide +kernel) rfl rfl rfl (by decide +kernel)
set_option maxRecDepth 65536 in
theorem w_c6 : (Jvm.Cond.code ({ cls := "java/lang/Integer", name := "numberOfLeadingZeros", desc := "(I)I" } : Jvm.MethodName) jdk_33_method_47_code (2 : Nat) (Option.some Jvm.ClassFile.FieldType.int)).before args0 about1 = true := code_word (m := ⟨9, 0⟩) (meth := k9m0) (c := k9c0) (by decide +kernel) rfl rfl rfl (by decide +kernel)
set_option maxRecDepth 65536 in
theorem w_c7 : (Jvm.Cond.code ({ cls := "java/lang/Math", name := "max", desc := "(II)I" } : Jvm.MethodName) jdk_29_method_65_code (2 : Nat) (Option.some Jvm.ClassFile.FieldType.int)).before args0 about1 = true := code_word (m := ⟨10, 2⟩) (meth := k10m2) (c := k10c2) (by decide +kernel) rfl rfl rfl (by decide +kernel)
set_option maxRecDepth 65536 in
theorem w_c8 : (Jvm.Cond.code ({ cls := "com/example/tokenfold/tokenfold/statespace/Packing", name := "place", desc := "(I)V" } : Jvm.MethodName) prog_60_method_8_code (2 : Nat) (Option.none : Option Jvm.ClassFile.FieldType)).before args0 about1 = true := code_word (m := ⟨2, 6⟩) (meth := k2m6) (c := k2c6) (by decide +kernel) rfl rfl rfl (by decide +kernel)
set_option maxRecDepth 65536 in
theorem w_c9 : (Jvm.Cond.code ({ cls := "com/example/tokenfold/tokenfold/statespace/Packing", name := "widen", desc := "([I)V" } : Jvm.MethodName) prog_60_method_6_code (4 : Nat) (Option.none : Option Jvm.ClassFile.FieldType)).before args0 about1 = true := code_word (m := ⟨2, 4⟩) (meth := k2m4) (c := k2c4) (by decide +kernel) rfl rfl rfl (by decide +kernel)
set_option maxRecDepth 65536 in
theorem w_c10 : (Jvm.Cond.code ({ cls := "com/example/tokenfold/tokenfold/statespace/Packing", name := "pack", desc := "([I[J)Z" } : Jvm.MethodName) prog_60_method_3_code (6 : Nat) (Option.some Jvm.ClassFile.FieldType.boolean)).before args0 about1 = true := code_word (m := ⟨2, 1⟩) (meth := k2m1) (c := k2c1) (by decide +kernel) rfl rfl rfl (by decide +kernel)
set_option maxRecDepth 65536 in
theorem w_c11 : (Jvm.Cond.code ({ cls := "java/util/Arrays", name := "fill", desc := "([JIIJ)V" } : Jvm.MethodName) jdk_65_method_102_code (6 : Nat) (Option.none : Option Jvm.ClassFile.FieldType)).before args0 about1 = true := code_word (m := ⟨3, 2⟩) (meth := k3m2) (c := k3c2) (by decide +kernel) rfl rfl rfl (by decide +kernel)
set_option maxRecDepth 65536 in
theorem w_c12 : (Jvm.Cond.code ({ cls := "java/util/Arrays", name := "rangeCheck", desc := "(III)V" } : Jvm.MethodName) jdk_65_method_30_code (3 : Nat) (Option.none : Option Jvm.ClassFile.FieldType)).before args0 about1 = true := code_word (m := ⟨3, 1⟩) (meth := k3m1) (c := k3c1) (by decide +kernel) rfl rfl rfl (by decide +kernel)
set_option maxRecDepth 65536 in
theorem w_c13 : (Jvm.Cond.code ({ cls := "com/example/tokenfold/tokenfold/statespace/Packing", name := "repack", desc := "([II[J)Z" } : Jvm.MethodName) prog_60_method_4_code (13 : Nat) (Option.some Jvm.ClassFile.FieldType.boolean)).before args0 about1 = true := code_word (m := ⟨2, 2⟩) (meth := k2m2) (c := k2c2) (by decide +kernel) rfl rfl rfl (by decide +kernel)
set_option maxRecDepth 65536 in
theorem w_c14 : (Jvm.Cond.code ({ cls := "com/example/tokenfold/tokenfold/statespace/Packing", name := "unpack", desc := "([JI[I)V" } : Jvm.MethodName) prog_60_method_5_code (7 : Nat) (Option.none : Option Jvm.ClassFile.FieldType)).before args0 about1 = true := code_word (m := ⟨2, 3⟩) (meth := k2m3) (c := k2c3) (by decide +kernel) rfl rfl rfl (by decide +kernel)
set_option maxRecDepth 65536 in
theorem w_c15 : (Jvm.Cond.code ({ cls := "java/lang/Math", name := "min", desc := "(II)I" } : Jvm.MethodName) jdk_29_method_69_code (2 : Nat) (Option.some Jvm.ClassFile.FieldType.int)).before args0 about1 = true := code_word (m := ⟨10, 4⟩) (meth := k10m4) (c := k10c4) (by decide +kernel) rfl rfl rfl (by decide +kernel)
set_option maxRecDepth 65536 in
theorem w_c16 : (Jvm.Cond.code ({ cls := "com/example/tokenfold/tokenfold/statespace/Packing", name := "addExtra", desc := "(II)V" } : Jvm.MethodName) prog_60_method_7_code (4 : Nat) (Option.none : Option Jvm.ClassFile.FieldType)).before args0 about1 = true := code_word (m := ⟨2, 5⟩) (meth := k2m5) (c := k2c5) (by decide +kernel) rfl rfl rfl (by decide +kernel)
set_option maxRecDepth 65536 in
theorem w_c17 : (Jvm.Cond.code ({ cls := "java/util/Arrays", name := "copyOf", desc := "([II)[I" } : Jvm.MethodName) jdk_65_method_123_code (3 : Nat) (Option.some (Jvm.ClassFile.FieldType.array Jvm.ClassFile.FieldType.int))).before args0 about1 = true := code_word (m := ⟨3, 4⟩) (meth := k3m4) (c := k3c4) (by decide +kernel) rfl rfl rfl (by decide +kernel)
set_option maxRecDepth 65536 in
theorem w_c18 : (Jvm.Cond.code ({ cls := "java/util/Arrays", name := "copyOf", desc := "([JI)[J" } : Jvm.MethodName) jdk_65_method_124_code (3 : Nat) (Option.some (Jvm.ClassFile.FieldType.array Jvm.ClassFile.FieldType.long))).before args0 about1 = true := code_word (m := ⟨3, 5⟩) (meth := k3m5) (c := k3c5) (by decide +kernel) rfl rfl rfl (by decide +kernel)
set_option maxRecDepth 65536 in
theorem w_c19 : (Jvm.Cond.code ({ cls := "java/lang/Math", name := "max", desc := "(JJ)J" } : Jvm.MethodName) jdk_29_method_66_code (4 : Nat) (Option.some Jvm.ClassFile.FieldType.long)).before args0 about1 = true := code_word (m := ⟨10, 3⟩) (meth := k10m3) (c := k10c3) (by decide +kernel) rfl rfl rfl (by decide +kernel)
set_option maxRecDepth 65536 in
theorem w_c20 : (Jvm.Cond.code ({ cls := "java/lang/Math", name := "toIntExact", desc := "(J)I" } : Jvm.MethodName) jdk_29_method_43_code (2 : Nat) (Option.some Jvm.ClassFile.FieldType.int)).before args0 about1 = true := code_word (m := ⟨10, 1⟩) (meth := k10m1) (c := k10c1) (by decide +kernel) rfl rfl rfl (by decide +kernel)
def codes1 : List Jvm.Cond := [Jvm.Cond.code x code maxLocals ret, Jvm.Cond.code ({ cls := "com/example/tokenfold/tokenfold/statespace/PackingRepackPinLaw", name := "c", desc := "(JI)I" } : Jvm.MethodName) method_3_code (4 : Nat) (Option.some Jvm.ClassFile.FieldType.int), Jvm.Cond.code ({ cls := "com/example/tokenfold/tokenfold/statespace/Packing", name := "<init>", desc := "([I)V" } : Jvm.MethodName) prog_60_method_1_code (5 : Nat) (Option.none : Option Jvm.ClassFile.FieldType), Jvm.Cond.code ({ cls := "java/lang/Object", name := "<init>", desc := "()V" } : Jvm.MethodName) object_method_1_code (1 : Nat) (Option.none : Option Jvm.ClassFile.FieldType), Jvm.Cond.code ({ cls := "java/util/Arrays", name := "fill", desc := "([II)V" } : Jvm.MethodName) jdk_65_method_103_code (4 : Nat) (Option.none : Option Jvm.ClassFile.FieldType), Jvm.Cond.code ({ cls := "com/example/tokenfold/tokenfold/statespace/Packing", name := "bits", desc := "(I)I" } : Jvm.MethodName) prog_60_method_9_code (1 : Nat) (Option.some Jvm.ClassFile.FieldType.int), Jvm.Cond.code ({ cls := "java/lang/Integer", name := "numberOfLeadingZeros", desc := "(I)I" } : Jvm.MethodName) jdk_33_method_47_code (2 : Nat) (Option.some Jvm.ClassFile.FieldType.int), Jvm.Cond.code ({ cls := "java/lang/Math", name := "max", desc := "(II)I" } : Jvm.MethodName) jdk_29_method_65_code (2 : Nat) (Option.some Jvm.ClassFile.FieldType.int), Jvm.Cond.code ({ cls := "com/example/tokenfold/tokenfold/statespace/Packing", name := "place", desc := "(I)V" } : Jvm.MethodName) prog_60_method_8_code (2 : Nat) (Option.none : Option Jvm.ClassFile.FieldType), Jvm.Cond.code ({ cls := "com/example/tokenfold/tokenfold/statespace/Packing", name := "widen", desc := "([I)V" } : Jvm.MethodName) prog_60_method_6_code (4 : Nat) (Option.none : Option Jvm.ClassFile.FieldType), Jvm.Cond.code ({ cls := "com/example/tokenfold/tokenfold/statespace/Packing", name := "pack", desc := "([I[J)Z" } : Jvm.MethodName) prog_60_method_3_code (6 : Nat) (Option.some Jvm.ClassFile.FieldType.boolean), Jvm.Cond.code ({ cls := "java/util/Arrays", name := "fill", desc := "([JIIJ)V" } : Jvm.MethodName) jdk_65_method_102_code (6 : Nat) (Option.none : Option Jvm.ClassFile.FieldType), Jvm.Cond.code ({ cls := "java/util/Arrays", name := "rangeCheck", desc := "(III)V" } : Jvm.MethodName) jdk_65_method_30_code (3 : Nat) (Option.none : Option Jvm.ClassFile.FieldType), Jvm.Cond.code ({ cls := "com/example/tokenfold/tokenfold/statespace/Packing", name := "repack", desc := "([II[J)Z" } : Jvm.MethodName) prog_60_method_4_code (13 : Nat) (Option.some Jvm.ClassFile.FieldType.boolean), Jvm.Cond.code ({ cls := "com/example/tokenfold/tokenfold/statespace/Packing", name := "unpack", desc := "([JI[I)V" } : Jvm.MethodName) prog_60_method_5_code (7 : Nat) (Option.none : Option Jvm.ClassFile.FieldType), Jvm.Cond.code ({ cls := "java/lang/Math", name := "min", desc := "(II)I" } : Jvm.MethodName) jdk_29_method_69_code (2 : Nat) (Option.some Jvm.ClassFile.FieldType.int), Jvm.Cond.code ({ cls := "com/example/tokenfold/tokenfold/statespace/Packing", name := "addExtra", desc := "(II)V" } : Jvm.MethodName) prog_60_method_7_code (4 : Nat) (Option.none : Option Jvm.ClassFile.FieldType), Jvm.Cond.code ({ cls := "java/util/Arrays", name := "copyOf", desc := "([II)[I" } : Jvm.MethodName) jdk_65_method_123_code (3 : Nat) (Option.some (Jvm.ClassFile.FieldType.array Jvm.ClassFile.FieldType.int)), Jvm.Cond.code ({ cls := "java/util/Arrays", name := "copyOf", desc := "([JI)[J" } : Jvm.MethodName) jdk_65_method_124_code (3 : Nat) (Option.some (Jvm.ClassFile.FieldType.array Jvm.ClassFile.FieldType.long)), Jvm.Cond.code ({ cls := "java/lang/Math", name := "max", desc := "(JJ)J" } : Jvm.MethodName) jdk_29_method_66_code (4 : Nat) (Option.some Jvm.ClassFile.FieldType.long), Jvm.Cond.code ({ cls := "java/lang/Math", name := "toIntExact", desc := "(J)I" } : Jvm.MethodName) jdk_29_method_43_code (2 : Nat) (Option.some Jvm.ClassFile.FieldType.int)]
set_option maxRecDepth 65536 in
theorem codes_eq : words1.filter isCode = codes1 := rfl
theorem w_codes : ∀ c ∈ words1.filter isCode, c.before args0 about1 = true := by
  rw [codes_eq]
  intro c hc
  simp only [codes1, List.mem_cons, List.not_mem_nil, or_false] at hc
  rcases hc with rfl | rfl | rfl | rfl | rfl | rfl | rfl | rfl | rfl | rfl | rfl | rfl | rfl | rfl | rfl | rfl | rfl | rfl | rfl | rfl | rfl
  · exact w_c0
  · exact w_c1
  · exact w_c2
  · exact w_c3
  · exact w_c4
  · exact w_c5
  · exact w_c6
  · exact w_c7
  · exact w_c8
  · exact w_c9
  · exact w_c10
  · exact w_c11
  · exact w_c12
  · exact w_c13
  · exact w_c14
  · exact w_c15
  · exact w_c16
  · exact w_c17
  · exact w_c18
  · exact w_c19
  · exact w_c20
set_option maxRecDepth 65536 in
theorem w_t1 : (words1.take 24).all (fun c => isCode c || c.before args0 about1) = true := by decide +kernel
set_option maxRecDepth 65536 in
theorem w_t2 : ((words1.drop 24).take 24).all (fun c => isCode c || c.before args0 about1) = true := by decide +kernel
set_option maxRecDepth 65536 in
theorem w_t3 : (((words1.drop 24).drop 24).take 24).all (fun c => isCode c || c.before args0 about1) = true := by decide +kernel
set_option maxRecDepth 65536 in
theorem w_t4 : ((((words1.drop 24).drop 24).drop 24).take 24).all (fun c => isCode c || c.before args0 about1) = true := by decide +kernel
set_option maxRecDepth 65536 in
theorem w_t5 : ((((words1.drop 24).drop 24).drop 24).drop 24).all (fun c => isCode c || c.before args0 about1) = true := by decide +kernel
theorem w_tables : (allAtoms (Jvm.Cond.code x code maxLocals ret :: tables_1)).before args0 about1 = true := by
  rw [allAtoms_all]
  show words1.all (fun c => c.before args0 about1) = true
  refine all_split ?_ w_codes
  rw [← List.take_append_drop 24 words1, List.all_append, w_t1, ← List.take_append_drop 24 (words1.drop 24), List.all_append, w_t2, ← List.take_append_drop 24 ((words1.drop 24).drop 24), List.all_append, w_t3, ← List.take_append_drop 24 (((words1.drop 24).drop 24).drop 24), List.all_append, w_t4, w_t5]
  rfl
set_option maxRecDepth 65536 in
theorem w_case : (Jvm.Cond.and given_1 narrow_1).before args0 about1 = true := by decide +kernel
theorem w_applies : (headSpec (Jvm.Cond.code x code maxLocals ret :: tables_1) room_1).applies x e0.platform about1 = true :=
  (Spec.applies_iff w_frames).mpr ⟨w_running, w_runnable, w_alone, w_named, w_hears, w_ripe, w_room, w_tables⟩
theorem atStart : AtStart classFile x code maxLocals ret World_1 tables_1 room_1 Calls_1 rest_1 Pre_1 launch0 p0 e0 about1 theMethod args0 below0 :=
  ⟨lists_1, trivial, launch0.admits_env _ _ _, launch0.least_env, fairChoices_fair.cas, fairChoices_fair.clock, w_frames, w_args, w_heap, w_applies, trivial, trivial, w_case⟩
end start1
theorem witness_1 : WitnessClaimed_1 := ⟨start1.p0, start1.e0, start1.about1, start1.theMethod, start1.args0, start1.below0, start1.atStart⟩
end Jvm.Pilot.@@N@@
