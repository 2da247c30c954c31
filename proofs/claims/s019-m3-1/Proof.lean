import JvmDerived
import JvmDerived.Pilot.@@N@@Statement
import JvmDerived.Pilot.@@N@@Code
set_option linter.unusedVariables false
set_option linter.unusedSimpArgs false
namespace Jvm.RoadKit
open Sem ClassFile Op Lib Jvm.Stand Jvm.Free Jvm.LawKit
section New
variable {p : Program} {l : Launch} {e : Env} {R : Room} {s : State} {m : MethodId} {args : Array Value} {below : List Frame} {meth : Method} {c : Code} {T : State} {locs : List Loc} {cells slots : Nat}
theorem retI (X : Stand p l e R s m args below meth c T locs cells slots) (hx : p.tables.exec = Jvm.exec) {pc : Nat} {Ls : Array Slot} {z : Int32} {rest : List Value} (hret : meth.sig.returnType = some .int) (hd : decode c.code pc = .ok (.ireturn, 1)) {fs : List Frame}
    (hl : ∀ (f : JFrame) (acts : List Action), f.method = m → f.locked = none → f.entered = [] → (doReturn e (T.setTop f) acts (some (.int z))).1 = T.setFrames fs) : Steps p.tables e below (T.setTop (mkF m pc Ls (.int z :: rest))) (T.setFrames fs) := by
  have hm' : T.vm.method? m = some meth := X.method'
  have hn : narrow .int (.int z) = .int z := rfl
  show Steps p.tables e below (T.setTop { method := m, pc := pc, locals := Ls, stack := _ :: rest, locked := none }) _
  jvm_step X.here [X.here.top, hx, hd, hm', hret, hn]
  first | (intro acts; rw [hl _ acts rfl rfl rfl]) | rw [hl _ _ rfl rfl rfl]
  exact Steps.refl _
end New
end Jvm.RoadKit
namespace Jvm.Pilot.@@N@@
open Jvm Jvm.ClassFile Sem Op Lib Jvm.Free Jvm.Stand Jvm.LawKit Jvm.RoadKit Bundle Jvm.Pilot.@@N@@.Jvm.D
section OwnKit
variable {Z : State} {a0 : Array Value} {n0 : Nat} {p : Program} {l : Launch} {e : Env} {R : Room} {s : State} {m : MethodId} {args : Array Value} {below : List Frame} {meth : Method} {c : Code} {code : ByteArray} {ml : Nat} {ret : Option FieldType} {y : MethodName} {T : State} {h h' : Heap} {k j : Nat} {Q : Option Value → Heap → Prop} {pc nx tgt : Nat} {Ls : Array Slot} {S : List Value}
/-- Java's shifts -/
abbrev jshl (x q : Int32) : Int32 := x <<< (q &&& 31)
abbrev jshr (x q : Int32) : Int32 := x >>> (q &&& 31)
abbrev jushr (x q : Int32) : Int32 := (x.toUInt32 >>> (q &&& 31).toUInt32).toInt32
abbrev jshlL (x : Int64) (q : Int32) : Int64 := x <<< (q &&& 0x3f).toInt64
abbrev jshrL (x : Int64) (q : Int32) : Int64 := x >>> (q &&& 0x3f).toInt64
abbrev jushrL (x : Int64) (q : Int32) : Int64 := (x.toUInt64 >>> (q &&& 0x3f).toInt64.toUInt64).toInt64
abbrev jbyte (x : Int32) : Int32 := x.toInt8.toInt32
/-- the instruction at pc, and the pc behind it -/
def Dec (code : ByteArray) (pc : Nat) (i : Instr) (len nx : Nat) : Prop := decode code pc = .ok (i, len) ∧ nx = pc + len
/-- a jump at pc: the pc behind it, and where it goes -/
def Jmp (code : ByteArray) (pc : Nat) (i : Instr) (o : Int) (nx tgt : Nat) : Prop := decode code pc = .ok (i, 3) ∧ nx = pc + 3 ∧ 0 ≤ (pc : Int) + o ∧ ((pc : Int) + o).toNat = tgt
/-- where a body's run stands: the heap, the cells and slots made; nothing older than n0 was written -/
def Pos (Z : State) (a0 : Array Value) (n0 : Nat) (p : Program) (l : Launch) (e : Env) (R : Room) (s : State) (m : MethodId) (args : Array Value) (below : List Frame) (meth : Method) (c : Code) (code : ByteArray) (ml : Nat) (ret : Option FieldType) (y : MethodName) (T : State) (h : Heap) (k j : Nat) : Prop :=
  p.tables.exec = Jvm.exec ∧ Z.Warmed39 s.vm ∧ c.code = code ∧ c.maxLocals = ml ∧ meth.sig.returnType = ret ∧ s.vm.findClass y.cls = some m.cls ∧ meth.name = y.name ∧ meth.locks = false ∧ T.heap = h ∧ n0 ≤ h.size ∧ (∀ d ∈ tables_1, d.before a0 Z = true) ∧ ∃ locs, Fr n0 locs ∧ Stand p l e R s m args below meth c T locs k j
/-- from the frame f over T the body comes to its end, and Q says with what -/
def Wp (n0 : Nat) (p : Program) (e : Env) (R : Room) (s : State) (below : List Frame) (Q : Option Value → Heap → Prop) (T : State) (f : JFrame) : Prop :=
  ∃ t o, Steps p.tables e below (T.setTop f) t ∧ t.status = .running ∧ Ended t below o ∧ ∃ v L, o = .returned v ∧ (Fr n0 L ∧ n0 ≤ t.heap.size ∧ Q v t.heap) ∧ FrameEnd s o t L R.cells R.slots
/-- a body's contract at one array of arguments and one heap -/
def Ctr (l : Launch) (Z : State) (n0 : Nat) (y : MethodName) (code : ByteArray) (ml : Nat) (ret : Option FieldType) (R : Room) (ws : List Jvm.Cond) (as : Array Value) (h : Heap) (Q : Option Value → Heap → Prop) : Prop :=
  MetFree l y (head1 (Jvm.Cond.code y code ml ret :: ws) R) (fun a U => a = as ∧ Z.Warmed39 U.vm ∧ U.heap = h) (fun _ _ _ _ _ => True) (fun _ U o U' => ∃ v L, o = .returned v ∧ (Fr n0 L ∧ n0 ≤ U'.heap.size ∧ Q v U'.heap) ∧ FrameEnd U o U' L R.cells R.slots)
/-- an array of n places: place i holds g i; it is no older than n0 -/
def Ba (Z : State) (n0 : Nat) (h : Heap) (a : Addr) (ty : FieldType) (n : Nat) (g : Nat → Value) : Prop :=
  n0 ≤ a ∧ n < 2147483648 ∧ ∃ c : Cell, Arr Z h a c ty ∧ c.slots.size = n ∧ ∀ i, i < n → c.slots[i]? = some (g i)
def bI (b : Nat → Int32) : Nat → Value := fun i => .int (b i)
def bJ (b : Nat → Int64) : Nat → Value := fun i => .long (b i)
def upd {α : Type} (b : Nat → α) (i : Nat) (v : α) : Nat → α := fun q => if q = i then v else b q
theorem upd_at {α : Type} (b : Nat → α) (i : Nat) (v : α) : upd b i v i = v := if_pos rfl
theorem upd_ne {α : Type} (b : Nat → α) {i q : Nat} (v : α) (h : q ≠ i) : upd b i v q = b q := if_neg h
theorem Ba.lt {a : Addr} {ty : FieldType} {n : Nat} {g : Nat → Value} (B : Ba Z n0 h a ty n g) : a < h.size := by obtain ⟨-, -, c, A, -⟩ := B; exact A.lt
theorem Ba.ext {a : Addr} {ty : FieldType} {n : Nat} {g : Nat → Value} (B : Ba Z n0 h a ty n g) (E : Ext h h') : Ba Z n0 h' a ty n g := by obtain ⟨q1, q2, c, A, r⟩ := B; exact ⟨q1, q2, c, A.ext E, r⟩
theorem Ba.keep {a : Addr} {ty : FieldType} {n : Nat} {g : Nat → Value} {ws : List Addr} (B : Ba Z n0 h a ty n g) (K : Keep h h' ws) (q : a ∉ ws) : Ba Z n0 h' a ty n g := by obtain ⟨q1, q2, c, A, r⟩ := B; exact ⟨q1, q2, c, ⟨K.2.1 a c A.1 q, A.2⟩, r⟩
theorem Ba.congr {a : Addr} {ty : FieldType} {n : Nat} {g g' : Nat → Value} (B : Ba Z n0 h a ty n g) (q : ∀ i, i < n → g i = g' i) : Ba Z n0 h a ty n g' := by obtain ⟨q1, q2, c, A, r1, r2⟩ := B; exact ⟨q1, q2, c, A, r1, fun i hi => by rw [r2 i hi, q i hi]⟩
theorem ofNat_toInt {n : Nat} (h : n < 2147483648) : (Int32.ofNat n).toInt = n := Int32.toInt_ofNat_of_lt (by omega)
theorem ofNat_clamp {n : Nat} (h : n < 2147483648) : (Int32.ofNat n).toNatClampNeg = n := by rw [Int32.toNatClampNeg, ofNat_toInt h]; rfl
theorem ofNat_nn {n : Nat} (h : n < 2147483648) : ¬ Int32.ofNat n < 0 := by rw [Int32.lt_iff_toInt_lt, ofNat_toInt h, show (0 : Int32).toInt = 0 from rfl]; omega
theorem ofNat_lt {a b : Nat} (ha : a < 2147483648) (hb : b < 2147483648) : Int32.ofNat a < Int32.ofNat b ↔ a < b := by rw [Int32.lt_iff_toInt_lt, ofNat_toInt ha, ofNat_toInt hb]; omega
theorem eq_ofNat {x : Int32} {n : Nat} (hn : n < 2147483648) (h : x.toInt = n) : x = Int32.ofNat n := Int32.toInt_inj.mp (by rw [h, ofNat_toInt hn])
theorem inb {c : Cell} {n i : Nat} (hn : n < 2147483648) (hc : c.slots.size = n) (hi : i < n) : ¬ (Int32.ofNat i < 0 ∨ c.slots.size ≤ (Int32.ofNat i).toNatClampNeg) := by
  rw [hc, ofNat_clamp (by omega)]
  exact fun q => q.elim (ofNat_nn (by omega)) (fun q => by omega)
theorem Pos.sz (X : Pos Z a0 n0 p l e R s m args below meth c code ml ret y T h k j) : n0 ≤ h.size := X.2.2.2.2.2.2.2.2.2.1
theorem Wp.go {T' : State} {f f' : JFrame} (st : ∀ target, Steps p.tables e below (T'.setTop f') target → Steps p.tables e below (T.setTop f) target) (q : Wp n0 p e R s below Q T' f') : Wp n0 p e R s below Q T f := by
  obtain ⟨t, o, h1, r⟩ := q; exact ⟨t, o, st t h1, r⟩
theorem Wp.cast {f f' : JFrame} (q : f = f') (w : Wp n0 p e R s below Q T f') : Wp n0 p e R s below Q T f := q ▸ w
theorem ctr_of {ws : List Jvm.Cond} {as : Array Value} (hp : plainFor y = true) (hw : ∀ d ∈ tables_1, d.before a0 Z = true) (hn : n0 ≤ h.size)
    (body : ∀ p e s m below meth c T, Pos Z a0 n0 p l e R s m as below meth c code ml ret y T h 0 0 → Wp n0 p e R s below Q T (entryFrame m as ml)) : Ctr l Z n0 y code ml ret R ws as h Q := by
  refine MetFree.of_bodySF hp hisR ?_
  intro p e s m args below meth c s₁ Bd hml0 hP hK
  obtain ⟨rfl, hZ, hh⟩ := hP
  exact body p e s m below meth c s₁ ⟨Bd.exec, hZ, Bd.bytes, hml0, Bd.returns, findClass_of_methodNamed Bd.named, (name_of_methodNamed Bd.named Bd.method).1, Bd.notSynchronized, by rw [← hh, Bd.state]; rfl, hn, hw, [], Fr.nil _, Stand.of_body Bd⟩
theorem w_iadd (X : Pos Z a0 n0 p l e R s m args below meth c code ml ret y T h k j) {x z : Int32} (hd : Dec code pc .iadd 1 nx) (q : Wp n0 p e R s below Q T (mkF m nx Ls (.int (x + z) :: S))) : Wp n0 p e R s below Q T (mkF m pc Ls (.int z :: .int x :: S)) := by
  obtain ⟨hx, hZ, hby, hml, hret, hown, hnm, hlk, eT, hn0, hw, locs, N, Y⟩ := X
  obtain ⟨hd, rfl⟩ := hd
  exact Wp.go (fun _ q => XS.iadd Y.here hx rfl (hb hby hd) rfl q) q
theorem w_isub (X : Pos Z a0 n0 p l e R s m args below meth c code ml ret y T h k j) {x z : Int32} (hd : Dec code pc .isub 1 nx) (q : Wp n0 p e R s below Q T (mkF m nx Ls (.int (x - z) :: S))) : Wp n0 p e R s below Q T (mkF m pc Ls (.int z :: .int x :: S)) := by
  obtain ⟨hx, hZ, hby, hml, hret, hown, hnm, hlk, eT, hn0, hw, locs, N, Y⟩ := X
  obtain ⟨hd, rfl⟩ := hd
  exact Wp.go (fun _ q => XS.isub Y.here hx rfl (hb hby hd) rfl q) q
theorem w_imul (X : Pos Z a0 n0 p l e R s m args below meth c code ml ret y T h k j) {x z : Int32} (hd : Dec code pc .imul 1 nx) (q : Wp n0 p e R s below Q T (mkF m nx Ls (.int (x * z) :: S))) : Wp n0 p e R s below Q T (mkF m pc Ls (.int z :: .int x :: S)) := by
  obtain ⟨hx, hZ, hby, hml, hret, hown, hnm, hlk, eT, hn0, hw, locs, N, Y⟩ := X
  obtain ⟨hd, rfl⟩ := hd
  exact Wp.go (fun _ q => XS.imul Y.here hx rfl (hb hby hd) rfl q) q
theorem w_iand (X : Pos Z a0 n0 p l e R s m args below meth c code ml ret y T h k j) {x z : Int32} (hd : Dec code pc .iand 1 nx) (q : Wp n0 p e R s below Q T (mkF m nx Ls (.int (x &&& z) :: S))) : Wp n0 p e R s below Q T (mkF m pc Ls (.int z :: .int x :: S)) := by
  obtain ⟨hx, hZ, hby, hml, hret, hown, hnm, hlk, eT, hn0, hw, locs, N, Y⟩ := X
  obtain ⟨hd, rfl⟩ := hd
  exact Wp.go (fun _ q => XS.iand Y.here hx rfl (hb hby hd) rfl q) q
theorem w_ior (X : Pos Z a0 n0 p l e R s m args below meth c code ml ret y T h k j) {x z : Int32} (hd : Dec code pc .ior 1 nx) (q : Wp n0 p e R s below Q T (mkF m nx Ls (.int (x ||| z) :: S))) : Wp n0 p e R s below Q T (mkF m pc Ls (.int z :: .int x :: S)) := by
  obtain ⟨hx, hZ, hby, hml, hret, hown, hnm, hlk, eT, hn0, hw, locs, N, Y⟩ := X
  obtain ⟨hd, rfl⟩ := hd
  exact Wp.go (fun _ q => XS.ior Y.here hx rfl (hb hby hd) rfl q) q
theorem w_ixor (X : Pos Z a0 n0 p l e R s m args below meth c code ml ret y T h k j) {x z : Int32} (hd : Dec code pc .ixor 1 nx) (q : Wp n0 p e R s below Q T (mkF m nx Ls (.int (x ^^^ z) :: S))) : Wp n0 p e R s below Q T (mkF m pc Ls (.int z :: .int x :: S)) := by
  obtain ⟨hx, hZ, hby, hml, hret, hown, hnm, hlk, eT, hn0, hw, locs, N, Y⟩ := X
  obtain ⟨hd, rfl⟩ := hd
  exact Wp.go (fun _ q => XS.ixor Y.here hx rfl (hb hby hd) rfl q) q
theorem w_ishl (X : Pos Z a0 n0 p l e R s m args below meth c code ml ret y T h k j) {x z : Int32} (hd : Dec code pc .ishl 1 nx) (q : Wp n0 p e R s below Q T (mkF m nx Ls (.int (jshl x z) :: S))) : Wp n0 p e R s below Q T (mkF m pc Ls (.int z :: .int x :: S)) := by
  obtain ⟨hx, hZ, hby, hml, hret, hown, hnm, hlk, eT, hn0, hw, locs, N, Y⟩ := X
  obtain ⟨hd, rfl⟩ := hd
  exact Wp.go (fun _ q => XS.ishl Y.here hx rfl (hb hby hd) rfl q) q
theorem w_ishr (X : Pos Z a0 n0 p l e R s m args below meth c code ml ret y T h k j) {x z : Int32} (hd : Dec code pc .ishr 1 nx) (q : Wp n0 p e R s below Q T (mkF m nx Ls (.int (jshr x z) :: S))) : Wp n0 p e R s below Q T (mkF m pc Ls (.int z :: .int x :: S)) := by
  obtain ⟨hx, hZ, hby, hml, hret, hown, hnm, hlk, eT, hn0, hw, locs, N, Y⟩ := X
  obtain ⟨hd, rfl⟩ := hd
  exact Wp.go (fun _ q => XS.ishr Y.here hx rfl (hb hby hd) rfl q) q
theorem w_iushr (X : Pos Z a0 n0 p l e R s m args below meth c code ml ret y T h k j) {x z : Int32} (hd : Dec code pc .iushr 1 nx) (q : Wp n0 p e R s below Q T (mkF m nx Ls (.int (jushr x z) :: S))) : Wp n0 p e R s below Q T (mkF m pc Ls (.int z :: .int x :: S)) := by
  obtain ⟨hx, hZ, hby, hml, hret, hown, hnm, hlk, eT, hn0, hw, locs, N, Y⟩ := X
  obtain ⟨hd, rfl⟩ := hd
  exact Wp.go (fun _ q => XS.iushr Y.here hx rfl (hb hby hd) rfl q) q
theorem w_ladd (X : Pos Z a0 n0 p l e R s m args below meth c code ml ret y T h k j) {x z : Int64} (hd : Dec code pc .ladd 1 nx) (q : Wp n0 p e R s below Q T (mkF m nx Ls (.long (x + z) :: S))) : Wp n0 p e R s below Q T (mkF m pc Ls (.long z :: .long x :: S)) := by
  obtain ⟨hx, hZ, hby, hml, hret, hown, hnm, hlk, eT, hn0, hw, locs, N, Y⟩ := X
  obtain ⟨hd, rfl⟩ := hd
  exact Wp.go (fun _ q => XS.ladd Y.here hx rfl (hb hby hd) rfl q) q
theorem w_lsub (X : Pos Z a0 n0 p l e R s m args below meth c code ml ret y T h k j) {x z : Int64} (hd : Dec code pc .lsub 1 nx) (q : Wp n0 p e R s below Q T (mkF m nx Ls (.long (x - z) :: S))) : Wp n0 p e R s below Q T (mkF m pc Ls (.long z :: .long x :: S)) := by
  obtain ⟨hx, hZ, hby, hml, hret, hown, hnm, hlk, eT, hn0, hw, locs, N, Y⟩ := X
  obtain ⟨hd, rfl⟩ := hd
  exact Wp.go (fun _ q => XS.lsub Y.here hx rfl (hb hby hd) rfl q) q
theorem w_lmul (X : Pos Z a0 n0 p l e R s m args below meth c code ml ret y T h k j) {x z : Int64} (hd : Dec code pc .lmul 1 nx) (q : Wp n0 p e R s below Q T (mkF m nx Ls (.long (x * z) :: S))) : Wp n0 p e R s below Q T (mkF m pc Ls (.long z :: .long x :: S)) := by
  obtain ⟨hx, hZ, hby, hml, hret, hown, hnm, hlk, eT, hn0, hw, locs, N, Y⟩ := X
  obtain ⟨hd, rfl⟩ := hd
  exact Wp.go (fun _ q => XS.lmul Y.here hx rfl (hb hby hd) rfl q) q
theorem w_land (X : Pos Z a0 n0 p l e R s m args below meth c code ml ret y T h k j) {x z : Int64} (hd : Dec code pc .land 1 nx) (q : Wp n0 p e R s below Q T (mkF m nx Ls (.long (x &&& z) :: S))) : Wp n0 p e R s below Q T (mkF m pc Ls (.long z :: .long x :: S)) := by
  obtain ⟨hx, hZ, hby, hml, hret, hown, hnm, hlk, eT, hn0, hw, locs, N, Y⟩ := X
  obtain ⟨hd, rfl⟩ := hd
  exact Wp.go (fun _ q => XS.land Y.here hx rfl (hb hby hd) rfl q) q
theorem w_lor (X : Pos Z a0 n0 p l e R s m args below meth c code ml ret y T h k j) {x z : Int64} (hd : Dec code pc .lor 1 nx) (q : Wp n0 p e R s below Q T (mkF m nx Ls (.long (x ||| z) :: S))) : Wp n0 p e R s below Q T (mkF m pc Ls (.long z :: .long x :: S)) := by
  obtain ⟨hx, hZ, hby, hml, hret, hown, hnm, hlk, eT, hn0, hw, locs, N, Y⟩ := X
  obtain ⟨hd, rfl⟩ := hd
  exact Wp.go (fun _ q => XS.lor Y.here hx rfl (hb hby hd) rfl q) q
theorem w_lxor (X : Pos Z a0 n0 p l e R s m args below meth c code ml ret y T h k j) {x z : Int64} (hd : Dec code pc .lxor 1 nx) (q : Wp n0 p e R s below Q T (mkF m nx Ls (.long (x ^^^ z) :: S))) : Wp n0 p e R s below Q T (mkF m pc Ls (.long z :: .long x :: S)) := by
  obtain ⟨hx, hZ, hby, hml, hret, hown, hnm, hlk, eT, hn0, hw, locs, N, Y⟩ := X
  obtain ⟨hd, rfl⟩ := hd
  exact Wp.go (fun _ q => XS.lxor Y.here hx rfl (hb hby hd) rfl q) q
theorem w_lshl (X : Pos Z a0 n0 p l e R s m args below meth c code ml ret y T h k j) {x : Int64} {z : Int32} (hd : Dec code pc .lshl 1 nx) (q : Wp n0 p e R s below Q T (mkF m nx Ls (.long (jshlL x z) :: S))) : Wp n0 p e R s below Q T (mkF m pc Ls (.int z :: .long x :: S)) := by
  obtain ⟨hx, hZ, hby, hml, hret, hown, hnm, hlk, eT, hn0, hw, locs, N, Y⟩ := X
  obtain ⟨hd, rfl⟩ := hd
  exact Wp.go (fun _ q => XS.lshl Y.here hx rfl (hb hby hd) rfl q) q
theorem w_lshr (X : Pos Z a0 n0 p l e R s m args below meth c code ml ret y T h k j) {x : Int64} {z : Int32} (hd : Dec code pc .lshr 1 nx) (q : Wp n0 p e R s below Q T (mkF m nx Ls (.long (jshrL x z) :: S))) : Wp n0 p e R s below Q T (mkF m pc Ls (.int z :: .long x :: S)) := by
  obtain ⟨hx, hZ, hby, hml, hret, hown, hnm, hlk, eT, hn0, hw, locs, N, Y⟩ := X
  obtain ⟨hd, rfl⟩ := hd
  exact Wp.go (fun _ q => XS.lshr Y.here hx rfl (hb hby hd) rfl q) q
theorem w_lushr (X : Pos Z a0 n0 p l e R s m args below meth c code ml ret y T h k j) {x : Int64} {z : Int32} (hd : Dec code pc .lushr 1 nx) (q : Wp n0 p e R s below Q T (mkF m nx Ls (.long (jushrL x z) :: S))) : Wp n0 p e R s below Q T (mkF m pc Ls (.int z :: .long x :: S)) := by
  obtain ⟨hx, hZ, hby, hml, hret, hown, hnm, hlk, eT, hn0, hw, locs, N, Y⟩ := X
  obtain ⟨hd, rfl⟩ := hd
  exact Wp.go (fun _ q => XS.lushr Y.here hx rfl (hb hby hd) rfl q) q
theorem w_idiv (X : Pos Z a0 n0 p l e R s m args below meth c code ml ret y T h k j) {x z : Int32} (hd : Dec code pc .idiv 1 nx) (hz : z ≠ 0) (q : Wp n0 p e R s below Q T (mkF m nx Ls (.int (x / z) :: S))) : Wp n0 p e R s below Q T (mkF m pc Ls (.int z :: .int x :: S)) := by
  obtain ⟨hx, hZ, hby, hml, hret, hown, hnm, hlk, eT, hn0, hw, locs, N, Y⟩ := X
  obtain ⟨hd, rfl⟩ := hd
  exact Wp.go (fun _ q => XS.idiv Y.here hx rfl (hb hby hd) rfl hz q) q
theorem w_irem (X : Pos Z a0 n0 p l e R s m args below meth c code ml ret y T h k j) {x z : Int32} (hd : Dec code pc .irem 1 nx) (hz : z ≠ 0) (q : Wp n0 p e R s below Q T (mkF m nx Ls (.int (x % z) :: S))) : Wp n0 p e R s below Q T (mkF m pc Ls (.int z :: .int x :: S)) := by
  obtain ⟨hx, hZ, hby, hml, hret, hown, hnm, hlk, eT, hn0, hw, locs, N, Y⟩ := X
  obtain ⟨hd, rfl⟩ := hd
  exact Wp.go (fun _ q => iremM Y hx rfl (hb hby hd) rfl hz q) q
theorem w_ldiv (X : Pos Z a0 n0 p l e R s m args below meth c code ml ret y T h k j) {x z : Int64} (hd : Dec code pc .ldiv 1 nx) (hz : z ≠ 0) (q : Wp n0 p e R s below Q T (mkF m nx Ls (.long (x / z) :: S))) : Wp n0 p e R s below Q T (mkF m pc Ls (.long z :: .long x :: S)) := by
  obtain ⟨hx, hZ, hby, hml, hret, hown, hnm, hlk, eT, hn0, hw, locs, N, Y⟩ := X
  obtain ⟨hd, rfl⟩ := hd
  exact Wp.go (fun _ q => XS.ldiv Y.here hx rfl (hb hby hd) rfl hz q) q
theorem w_lrem (X : Pos Z a0 n0 p l e R s m args below meth c code ml ret y T h k j) {x z : Int64} (hd : Dec code pc .lrem 1 nx) (hz : z ≠ 0) (q : Wp n0 p e R s below Q T (mkF m nx Ls (.long (x - (x / z) * z) :: S))) : Wp n0 p e R s below Q T (mkF m pc Ls (.long z :: .long x :: S)) := by
  obtain ⟨hx, hZ, hby, hml, hret, hown, hnm, hlk, eT, hn0, hw, locs, N, Y⟩ := X
  obtain ⟨hd, rfl⟩ := hd
  exact Wp.go (fun _ q => XS.lrem Y.here hx rfl (hb hby hd) rfl hz q) q
theorem w_ineg (X : Pos Z a0 n0 p l e R s m args below meth c code ml ret y T h k j) {x : Int32} (hd : Dec code pc .ineg 1 nx) (q : Wp n0 p e R s below Q T (mkF m nx Ls (.int (-x) :: S))) : Wp n0 p e R s below Q T (mkF m pc Ls (.int x :: S)) := by
  obtain ⟨hx, hZ, hby, hml, hret, hown, hnm, hlk, eT, hn0, hw, locs, N, Y⟩ := X
  obtain ⟨hd, rfl⟩ := hd
  exact Wp.go (fun _ q => XS.ineg Y.here hx rfl (hb hby hd) rfl q) q
theorem w_lneg (X : Pos Z a0 n0 p l e R s m args below meth c code ml ret y T h k j) {x : Int64} (hd : Dec code pc .lneg 1 nx) (q : Wp n0 p e R s below Q T (mkF m nx Ls (.long (-x) :: S))) : Wp n0 p e R s below Q T (mkF m pc Ls (.long x :: S)) := by
  obtain ⟨hx, hZ, hby, hml, hret, hown, hnm, hlk, eT, hn0, hw, locs, N, Y⟩ := X
  obtain ⟨hd, rfl⟩ := hd
  exact Wp.go (fun _ q => XS.lneg Y.here hx rfl (hb hby hd) rfl q) q
theorem w_i2l (X : Pos Z a0 n0 p l e R s m args below meth c code ml ret y T h k j) {x : Int32} (hd : Dec code pc .i2l 1 nx) (q : Wp n0 p e R s below Q T (mkF m nx Ls (.long (x.toInt64) :: S))) : Wp n0 p e R s below Q T (mkF m pc Ls (.int x :: S)) := by
  obtain ⟨hx, hZ, hby, hml, hret, hown, hnm, hlk, eT, hn0, hw, locs, N, Y⟩ := X
  obtain ⟨hd, rfl⟩ := hd
  exact Wp.go (fun _ q => XS.i2l Y.here hx rfl (hb hby hd) rfl q) q
theorem w_l2i (X : Pos Z a0 n0 p l e R s m args below meth c code ml ret y T h k j) {x : Int64} (hd : Dec code pc .l2i 1 nx) (q : Wp n0 p e R s below Q T (mkF m nx Ls (.int (x.toInt32) :: S))) : Wp n0 p e R s below Q T (mkF m pc Ls (.long x :: S)) := by
  obtain ⟨hx, hZ, hby, hml, hret, hown, hnm, hlk, eT, hn0, hw, locs, N, Y⟩ := X
  obtain ⟨hd, rfl⟩ := hd
  exact Wp.go (fun _ q => XS.l2i Y.here hx rfl (hb hby hd) rfl q) q
theorem w_i2b (X : Pos Z a0 n0 p l e R s m args below meth c code ml ret y T h k j) {x : Int32} (hd : Dec code pc .i2b 1 nx) (q : Wp n0 p e R s below Q T (mkF m nx Ls (.int (jbyte x) :: S))) : Wp n0 p e R s below Q T (mkF m pc Ls (.int x :: S)) := by
  obtain ⟨hx, hZ, hby, hml, hret, hown, hnm, hlk, eT, hn0, hw, locs, N, Y⟩ := X
  obtain ⟨hd, rfl⟩ := hd
  exact Wp.go (fun _ q => XS.i2b Y.here hx rfl (hb hby hd) rfl q) q
theorem w_iconst (X : Pos Z a0 n0 p l e R s m args below meth c code ml ret y T h k j) {i : Int} {v : Int32} (hd : Dec code pc (.iconst i) 1 nx) (hv : Int32.ofInt i = v) (q : Wp n0 p e R s below Q T (mkF m nx Ls (.int v :: S))) : Wp n0 p e R s below Q T (mkF m pc Ls S) := by
  obtain ⟨hx, hZ, hby, hml, hret, hown, hnm, hlk, eT, hn0, hw, locs, N, Y⟩ := X
  obtain ⟨hd, rfl⟩ := hd
  subst hv
  exact Wp.go (fun _ q => XS.iconst Y.here hx rfl (hb hby hd) q) q
theorem w_bipush (X : Pos Z a0 n0 p l e R s m args below meth c code ml ret y T h k j) {i : Int} {v : Int32} (hd : Dec code pc (.bipush i) 2 nx) (hv : (Int8.ofInt i).toInt32 = v) (q : Wp n0 p e R s below Q T (mkF m nx Ls (.int v :: S))) : Wp n0 p e R s below Q T (mkF m pc Ls S) := by
  obtain ⟨hx, hZ, hby, hml, hret, hown, hnm, hlk, eT, hn0, hw, locs, N, Y⟩ := X
  obtain ⟨hd, rfl⟩ := hd
  subst hv
  exact Wp.go (fun _ q => XS.bipush Y.here hx rfl (hb hby hd) q) q
theorem w_sipush (X : Pos Z a0 n0 p l e R s m args below meth c code ml ret y T h k j) {i : Int} {v : Int32} (hd : Dec code pc (.sipush i) 3 nx) (hv : (Int16.ofInt i).toInt32 = v) (q : Wp n0 p e R s below Q T (mkF m nx Ls (.int v :: S))) : Wp n0 p e R s below Q T (mkF m pc Ls S) := by
  obtain ⟨hx, hZ, hby, hml, hret, hown, hnm, hlk, eT, hn0, hw, locs, N, Y⟩ := X
  obtain ⟨hd, rfl⟩ := hd
  subst hv
  exact Wp.go (fun _ q => XS.sipush Y.here hx rfl (hb hby hd) q) q
theorem w_lconst0 (X : Pos Z a0 n0 p l e R s m args below meth c code ml ret y T h k j) (hd : Dec code pc (.lconst 0) 1 nx) (q : Wp n0 p e R s below Q T (mkF m nx Ls (.long 0 :: S))) : Wp n0 p e R s below Q T (mkF m pc Ls S) := by
  obtain ⟨hx, hZ, hby, hml, hret, hown, hnm, hlk, eT, hn0, hw, locs, N, Y⟩ := X
  obtain ⟨hd, rfl⟩ := hd
  exact Wp.go (fun _ q => XS.lconst Y.here hx rfl (hb hby hd) q) q
theorem w_lconst1 (X : Pos Z a0 n0 p l e R s m args below meth c code ml ret y T h k j) (hd : Dec code pc (.lconst 1) 1 nx) (q : Wp n0 p e R s below Q T (mkF m nx Ls (.long 1 :: S))) : Wp n0 p e R s below Q T (mkF m pc Ls S) := by
  obtain ⟨hx, hZ, hby, hml, hret, hown, hnm, hlk, eT, hn0, hw, locs, N, Y⟩ := X
  obtain ⟨hd, rfl⟩ := hd
  exact Wp.go (fun _ q => XS.lconst Y.here hx rfl (hb hby hd) q) q
theorem w_null (X : Pos Z a0 n0 p l e R s m args below meth c code ml ret y T h k j) (hd : Dec code pc .aconst_null 1 nx) (q : Wp n0 p e R s below Q T (mkF m nx Ls (.null :: S))) : Wp n0 p e R s below Q T (mkF m pc Ls S) := by
  obtain ⟨hx, hZ, hby, hml, hret, hown, hnm, hlk, eT, hn0, hw, locs, N, Y⟩ := X
  obtain ⟨hd, rfl⟩ := hd
  exact Wp.go (fun _ q => XS.aconstNull Y.here hx rfl (hb hby hd) q) q
theorem w_iloadN (X : Pos Z a0 n0 p l e R s m args below meth c code ml ret y T h k j) {w : Fin 4} {v : Int32} (hd : Dec code pc (.iload_n w) 1 nx) (hl : Ls[w.val]? = some (.val (.int v))) (q : Wp n0 p e R s below Q T (mkF m nx Ls (.int v :: S))) : Wp n0 p e R s below Q T (mkF m pc Ls S) := by
  obtain ⟨hx, hZ, hby, hml, hret, hown, hnm, hlk, eT, hn0, hw, locs, N, Y⟩ := X
  obtain ⟨hd, rfl⟩ := hd
  exact Wp.go (fun _ q => XS.iloadN Y.here hx rfl (hb hby hd) hl q) q
theorem w_iload (X : Pos Z a0 n0 p l e R s m args below meth c code ml ret y T h k j) {w : Nat} {v : Int32} (hd : Dec code pc (.iload w) 2 nx) (hl : Ls[w]? = some (.val (.int v))) (q : Wp n0 p e R s below Q T (mkF m nx Ls (.int v :: S))) : Wp n0 p e R s below Q T (mkF m pc Ls S) := by
  obtain ⟨hx, hZ, hby, hml, hret, hown, hnm, hlk, eT, hn0, hw, locs, N, Y⟩ := X
  obtain ⟨hd, rfl⟩ := hd
  exact Wp.go (fun _ q => XS.iload Y.here hx rfl (hb hby hd) hl q) q
theorem w_lloadN (X : Pos Z a0 n0 p l e R s m args below meth c code ml ret y T h k j) {w : Fin 4} {v : Int64} (hd : Dec code pc (.lload_n w) 1 nx) (hl : Ls[w.val]? = some (.val (.long v))) (q : Wp n0 p e R s below Q T (mkF m nx Ls (.long v :: S))) : Wp n0 p e R s below Q T (mkF m pc Ls S) := by
  obtain ⟨hx, hZ, hby, hml, hret, hown, hnm, hlk, eT, hn0, hw, locs, N, Y⟩ := X
  obtain ⟨hd, rfl⟩ := hd
  exact Wp.go (fun _ q => XS.lloadN Y.here hx rfl (hb hby hd) hl q) q
theorem w_lload (X : Pos Z a0 n0 p l e R s m args below meth c code ml ret y T h k j) {w : Nat} {v : Int64} (hd : Dec code pc (.lload w) 2 nx) (hl : Ls[w]? = some (.val (.long v))) (q : Wp n0 p e R s below Q T (mkF m nx Ls (.long v :: S))) : Wp n0 p e R s below Q T (mkF m pc Ls S) := by
  obtain ⟨hx, hZ, hby, hml, hret, hown, hnm, hlk, eT, hn0, hw, locs, N, Y⟩ := X
  obtain ⟨hd, rfl⟩ := hd
  exact Wp.go (fun _ q => XS.lload Y.here hx rfl (hb hby hd) hl q) q
theorem w_aloadN (X : Pos Z a0 n0 p l e R s m args below meth c code ml ret y T h k j) {w : Fin 4} {v : Value} (hd : Dec code pc (.aload_n w) 1 nx) (hl : Ls[w.val]? = some (.val v)) (hv : v.isRef = true) (q : Wp n0 p e R s below Q T (mkF m nx Ls (v :: S))) : Wp n0 p e R s below Q T (mkF m pc Ls S) := by
  obtain ⟨hx, hZ, hby, hml, hret, hown, hnm, hlk, eT, hn0, hw, locs, N, Y⟩ := X
  obtain ⟨hd, rfl⟩ := hd
  exact Wp.go (fun _ q => XS.aloadN Y.here hx rfl (hb hby hd) hl hv q) q
theorem w_astoreN (X : Pos Z a0 n0 p l e R s m args below meth c code ml ret y T h k j) {w : Fin 4} {v : Value} {l' : Array Slot} (hd : Dec code pc (.astore_n w) 1 nx) (hv : v.isRef = true) (hl : storeLocals Ls w.val v = some l') (q : Wp n0 p e R s below Q T (mkF m nx l' S)) : Wp n0 p e R s below Q T (mkF m pc Ls (v :: S)) := by
  obtain ⟨hx, hZ, hby, hml, hret, hown, hnm, hlk, eT, hn0, hw, locs, N, Y⟩ := X
  obtain ⟨hd, rfl⟩ := hd
  exact Wp.go (fun _ q => XS.astoreN Y.here hx rfl (hb hby hd) rfl hv hl q) q
theorem w_istoreN (X : Pos Z a0 n0 p l e R s m args below meth c code ml ret y T h k j) {w : Fin 4} {v : Int32} {l' : Array Slot} (hd : Dec code pc (.istore_n w) 1 nx) (hl : storeLocals Ls w.val (.int v) = some l') (q : Wp n0 p e R s below Q T (mkF m nx l' S)) : Wp n0 p e R s below Q T (mkF m pc Ls (.int v :: S)) := by
  obtain ⟨hx, hZ, hby, hml, hret, hown, hnm, hlk, eT, hn0, hw, locs, N, Y⟩ := X
  obtain ⟨hd, rfl⟩ := hd
  exact Wp.go (fun _ q => XS.istoreN Y.here hx rfl (hb hby hd) rfl hl q) q
theorem w_istoreNE (X : Pos Z a0 n0 p l e R s m args below meth c code ml ret y T h k j) {w : Fin 4} {v : Int32} {l' : Int32 → Array Slot} (hd : Dec code pc (.istore_n w) 1 nx) (hl : ∀ z, storeLocals Ls w.val (.int z) = some (l' z)) (q : ∀ z, z = v → Wp n0 p e R s below Q T (mkF m nx (l' z) S)) : Wp n0 p e R s below Q T (mkF m pc Ls (.int v :: S)) := w_istoreN X hd (hl v) (q v rfl)
theorem w_lstoreN (X : Pos Z a0 n0 p l e R s m args below meth c code ml ret y T h k j) {w : Fin 4} {v : Int64} {l' : Array Slot} (hd : Dec code pc (.lstore_n w) 1 nx) (hl : storeLocals Ls w.val (.long v) = some l') (q : Wp n0 p e R s below Q T (mkF m nx l' S)) : Wp n0 p e R s below Q T (mkF m pc Ls (.long v :: S)) := by
  obtain ⟨hx, hZ, hby, hml, hret, hown, hnm, hlk, eT, hn0, hw, locs, N, Y⟩ := X
  obtain ⟨hd, rfl⟩ := hd
  exact Wp.go (fun _ q => XS.lstoreN Y.here hx rfl (hb hby hd) rfl hl q) q
theorem w_lstoreNE (X : Pos Z a0 n0 p l e R s m args below meth c code ml ret y T h k j) {w : Fin 4} {v : Int64} {l' : Int64 → Array Slot} (hd : Dec code pc (.lstore_n w) 1 nx) (hl : ∀ z, storeLocals Ls w.val (.long z) = some (l' z)) (q : ∀ z, z = v → Wp n0 p e R s below Q T (mkF m nx (l' z) S)) : Wp n0 p e R s below Q T (mkF m pc Ls (.long v :: S)) := w_lstoreN X hd (hl v) (q v rfl)
theorem w_aload (X : Pos Z a0 n0 p l e R s m args below meth c code ml ret y T h k j) {w : Nat} {v : Value} (hd : Dec code pc (.aload w) 2 nx) (hl : Ls[w]? = some (.val v)) (hv : v.isRef = true) (q : Wp n0 p e R s below Q T (mkF m nx Ls (v :: S))) : Wp n0 p e R s below Q T (mkF m pc Ls S) := by
  obtain ⟨hx, hZ, hby, hml, hret, hown, hnm, hlk, eT, hn0, hw, locs, N, Y⟩ := X
  obtain ⟨hd, rfl⟩ := hd
  exact Wp.go (fun _ q => XS.aload Y.here hx rfl (hb hby hd) hl hv q) q
theorem w_astore (X : Pos Z a0 n0 p l e R s m args below meth c code ml ret y T h k j) {w : Nat} {v : Value} {l' : Array Slot} (hd : Dec code pc (.astore w) 2 nx) (hv : v.isRef = true) (hl : storeLocals Ls w v = some l') (q : Wp n0 p e R s below Q T (mkF m nx l' S)) : Wp n0 p e R s below Q T (mkF m pc Ls (v :: S)) := by
  obtain ⟨hx, hZ, hby, hml, hret, hown, hnm, hlk, eT, hn0, hw, locs, N, Y⟩ := X
  obtain ⟨hd, rfl⟩ := hd
  exact Wp.go (fun _ q => XS.astore Y.here hx rfl (hb hby hd) rfl hv hl q) q
theorem w_istore (X : Pos Z a0 n0 p l e R s m args below meth c code ml ret y T h k j) {w : Nat} {v : Int32} {l' : Array Slot} (hd : Dec code pc (.istore w) 2 nx) (hl : storeLocals Ls w (.int v) = some l') (q : Wp n0 p e R s below Q T (mkF m nx l' S)) : Wp n0 p e R s below Q T (mkF m pc Ls (.int v :: S)) := by
  obtain ⟨hx, hZ, hby, hml, hret, hown, hnm, hlk, eT, hn0, hw, locs, N, Y⟩ := X
  obtain ⟨hd, rfl⟩ := hd
  exact Wp.go (fun _ q => XS.istore Y.here hx rfl (hb hby hd) rfl hl q) q
theorem w_istoreE (X : Pos Z a0 n0 p l e R s m args below meth c code ml ret y T h k j) {w : Nat} {v : Int32} {l' : Int32 → Array Slot} (hd : Dec code pc (.istore w) 2 nx) (hl : ∀ z, storeLocals Ls w (.int z) = some (l' z)) (q : ∀ z, z = v → Wp n0 p e R s below Q T (mkF m nx (l' z) S)) : Wp n0 p e R s below Q T (mkF m pc Ls (.int v :: S)) := w_istore X hd (hl v) (q v rfl)
theorem w_lstore (X : Pos Z a0 n0 p l e R s m args below meth c code ml ret y T h k j) {w : Nat} {v : Int64} {l' : Array Slot} (hd : Dec code pc (.lstore w) 2 nx) (hl : storeLocals Ls w (.long v) = some l') (q : Wp n0 p e R s below Q T (mkF m nx l' S)) : Wp n0 p e R s below Q T (mkF m pc Ls (.long v :: S)) := by
  obtain ⟨hx, hZ, hby, hml, hret, hown, hnm, hlk, eT, hn0, hw, locs, N, Y⟩ := X
  obtain ⟨hd, rfl⟩ := hd
  exact Wp.go (fun _ q => XS.lstore Y.here hx rfl (hb hby hd) rfl hl q) q
theorem w_lstoreE (X : Pos Z a0 n0 p l e R s m args below meth c code ml ret y T h k j) {w : Nat} {v : Int64} {l' : Int64 → Array Slot} (hd : Dec code pc (.lstore w) 2 nx) (hl : ∀ z, storeLocals Ls w (.long z) = some (l' z)) (q : ∀ z, z = v → Wp n0 p e R s below Q T (mkF m nx (l' z) S)) : Wp n0 p e R s below Q T (mkF m pc Ls (.long v :: S)) := w_lstore X hd (hl v) (q v rfl)
theorem w_istoreNS (X : Pos Z a0 n0 p l e R s m args below meth c code ml ret y T h k j) {w : Fin 4} {v : Int32} {l' : Array Slot} {o : Slot} (hd : Dec code pc (.istore_n w) 1 nx) (hold : Ls[w.val]? = some o) (ho : One o) (hl : Ls.setIfInBounds w.val (.val (.int v)) = l') (q : Wp n0 p e R s below Q T (mkF m nx l' S)) : Wp n0 p e R s below Q T (mkF m pc Ls (.int v :: S)) := w_istoreN X hd ((XS.store1 hold ho rfl).trans (congrArg some hl)) q
theorem w_istoreS (X : Pos Z a0 n0 p l e R s m args below meth c code ml ret y T h k j) {w : Nat} {v : Int32} {l' : Array Slot} {o : Slot} (hd : Dec code pc (.istore w) 2 nx) (hold : Ls[w]? = some o) (ho : One o) (hl : Ls.setIfInBounds w (.val (.int v)) = l') (q : Wp n0 p e R s below Q T (mkF m nx l' S)) : Wp n0 p e R s below Q T (mkF m pc Ls (.int v :: S)) := w_istore X hd ((XS.store1 hold ho rfl).trans (congrArg some hl)) q
theorem w_iinc (X : Pos Z a0 n0 p l e R s m args below meth c code ml ret y T h k j) {w : Nat} {i : Int} {d v r : Int32} {l' : Array Slot} (hd : Dec code pc (.iinc w i) 3 nx) (hl : Ls[w]? = some (.val (.int v))) (hi : Int32.ofInt i = d) (hr : v + d = r) (hl' : storeLocals Ls w (.int r) = some l') (q : Wp n0 p e R s below Q T (mkF m nx l' S)) : Wp n0 p e R s below Q T (mkF m pc Ls S) := by
  obtain ⟨hx, hZ, hby, hml, hret, hown, hnm, hlk, eT, hn0, hw, locs, N, Y⟩ := X
  obtain ⟨hd, rfl⟩ := hd
  subst hi hr
  exact Wp.go (fun _ q => XS.iinc Y.here hx rfl (hb hby hd) hl hl' q) q
theorem w_dup (X : Pos Z a0 n0 p l e R s m args below meth c code ml ret y T h k j) {v : Value} (hd : Dec code pc .dup 1 nx) (hv : v.category = 1) (q : Wp n0 p e R s below Q T (mkF m nx Ls (v :: v :: S))) : Wp n0 p e R s below Q T (mkF m pc Ls (v :: S)) := by
  obtain ⟨hx, hZ, hby, hml, hret, hown, hnm, hlk, eT, hn0, hw, locs, N, Y⟩ := X
  obtain ⟨hd, rfl⟩ := hd
  exact Wp.go (fun _ q => XS.dup Y.here hx rfl (hb hby hd) rfl hv q) q
theorem w_pop (X : Pos Z a0 n0 p l e R s m args below meth c code ml ret y T h k j) {v : Value} (hd : Dec code pc .pop 1 nx) (hv : v.category = 1) (q : Wp n0 p e R s below Q T (mkF m nx Ls S)) : Wp n0 p e R s below Q T (mkF m pc Ls (v :: S)) := by
  obtain ⟨hx, hZ, hby, hml, hret, hown, hnm, hlk, eT, hn0, hw, locs, N, Y⟩ := X
  obtain ⟨hd, rfl⟩ := hd
  exact Wp.go (fun _ q => XS.pop Y.here hx rfl (hb hby hd) rfl hv q) q
theorem w_dupX1 (X : Pos Z a0 n0 p l e R s m args below meth c code ml ret y T h k j) {v w : Value} (hd : Dec code pc .dup_x1 1 nx) (hv : v.category = 1) (hw' : w.category = 1) (q : Wp n0 p e R s below Q T (mkF m nx Ls (v :: w :: v :: S))) : Wp n0 p e R s below Q T (mkF m pc Ls (v :: w :: S)) := by
  obtain ⟨hx, hZ, hby, hml, hret, hown, hnm, hlk, eT, hn0, hw, locs, N, Y⟩ := X
  obtain ⟨hd, rfl⟩ := hd
  exact Wp.go (fun _ q => XS.dupX1 Y.here hx rfl (hb hby hd) rfl hv hw' q) q
theorem w_dup2 (X : Pos Z a0 n0 p l e R s m args below meth c code ml ret y T h k j) {v w : Value} (hd : Dec code pc .dup2 1 nx) (hv : v.category = 1) (hw' : w.category = 1) (q : Wp n0 p e R s below Q T (mkF m nx Ls (v :: w :: v :: w :: S))) : Wp n0 p e R s below Q T (mkF m pc Ls (v :: w :: S)) := by
  obtain ⟨hx, hZ, hby, hml, hret, hown, hnm, hlk, eT, hn0, hw, locs, N, Y⟩ := X
  obtain ⟨hd, rfl⟩ := hd
  exact Wp.go (fun _ q => Jvm.Free.XT.dup2 Y.here hx rfl (hb hby hd) rfl hv hw' q) q
theorem w_goto (X : Pos Z a0 n0 p l e R s m args below meth c code ml ret y T h k j) {o : Int} (hd : Jmp code pc (.goto o) o nx tgt) (q : Wp n0 p e R s below Q T (mkF m tgt Ls S)) : Wp n0 p e R s below Q T (mkF m pc Ls S) := by
  obtain ⟨hx, hZ, hby, hml, hret, hown, hnm, hlk, eT, hn0, hw, locs, N, Y⟩ := X
  obtain ⟨hd, -, ho, hp⟩ := hd
  exact Wp.go (fun _ q => XS.goto Y.here hx rfl (pc0 := pc) (pc' := tgt) rfl (hb hby hd) ho hp q) q
theorem w_icmpeq (X : Pos Z a0 n0 p l e R s m args below meth c code ml ret y T h k j) {x z : Int32} {o : Int} (hd : Jmp code pc (.if_icmp .eq o) o nx tgt) (qt : x = z → Wp n0 p e R s below Q T (mkF m tgt Ls S)) (qf : ¬ x = z → Wp n0 p e R s below Q T (mkF m nx Ls S)) : Wp n0 p e R s below Q T (mkF m pc Ls (.int z :: .int x :: S)) := by
  obtain ⟨hx, hZ, hby, hml, hret, hown, hnm, hlk, eT, hn0, hw, locs, N, Y⟩ := X
  obtain ⟨hd, rfl, ho, hp⟩ := hd
  by_cases hc : x = z
  · exact Wp.go (fun _ q => XS.icmpYes Y.here hx rfl (pc0 := pc) (pc' := tgt) rfl (hb hby hd) rfl (Jvm.Free.XT.ii_eq_t hc) ho hp q) (qt hc)
  · exact Wp.go (fun _ q => XS.icmpNo Y.here hx rfl (hb hby hd) rfl (Jvm.Free.XT.ii_eq_f hc) q) (qf hc)
theorem w_ifeq (X : Pos Z a0 n0 p l e R s m args below meth c code ml ret y T h k j) {x : Int32} {o : Int} (hd : Jmp code pc (.ifCond .eq o) o nx tgt) (qt : x = 0 → Wp n0 p e R s below Q T (mkF m tgt Ls S)) (qf : ¬ x = 0 → Wp n0 p e R s below Q T (mkF m nx Ls S)) : Wp n0 p e R s below Q T (mkF m pc Ls (.int x :: S)) := by
  obtain ⟨hx, hZ, hby, hml, hret, hown, hnm, hlk, eT, hn0, hw, locs, N, Y⟩ := X
  obtain ⟨hd, rfl, ho, hp⟩ := hd
  by_cases hc : x = 0
  · exact Wp.go (fun _ q => XS.ifYes Y.here hx rfl (pc0 := pc) (pc' := tgt) rfl (hb hby hd) rfl (Jvm.Free.XT.i0_eq_t hc) ho hp q) (qt hc)
  · exact Wp.go (fun _ q => XS.ifNo Y.here hx rfl (hb hby hd) rfl (Jvm.Free.XT.i0_eq_f hc) q) (qf hc)
theorem w_lcmpeq (X : Pos Z a0 n0 p l e R s m args below meth c code ml ret y T h k j) {x z : Int64} {o : Int} {mid : Nat} (hd0 : Dec code pc .lcmp 1 mid) (hd : Jmp code mid (.ifCond .eq o) o nx tgt) (qt : x = z → Wp n0 p e R s below Q T (mkF m tgt Ls S)) (qf : ¬ x = z → Wp n0 p e R s below Q T (mkF m nx Ls S)) : Wp n0 p e R s below Q T (mkF m pc Ls (.long z :: .long x :: S)) := by
  obtain ⟨hx, hZ, hby, hml, hret, hown, hnm, hlk, eT, hn0, hw, locs, N, Y⟩ := X
  obtain ⟨hd0, rfl⟩ := hd0
  obtain ⟨hd, rfl, ho, hp⟩ := hd
  refine Wp.go (fun _ q => Jvm.Free.XT.lcmp Y.here hx rfl (hb hby hd0) rfl q) ?_
  by_cases hc : x = z
  · exact Wp.go (fun _ q => XS.ifYes Y.here hx rfl (pc0 := pc + 1) (pc' := tgt) rfl (hb hby hd) rfl (Jvm.Free.XT.ll_eq_t hc) ho hp q) (qt hc)
  · exact Wp.go (fun _ q => XS.ifNo Y.here hx rfl (hb hby hd) rfl (Jvm.Free.XT.ll_eq_f hc) q) (qf hc)
theorem w_icmpne (X : Pos Z a0 n0 p l e R s m args below meth c code ml ret y T h k j) {x z : Int32} {o : Int} (hd : Jmp code pc (.if_icmp .ne o) o nx tgt) (qt : ¬ x = z → Wp n0 p e R s below Q T (mkF m tgt Ls S)) (qf : x = z → Wp n0 p e R s below Q T (mkF m nx Ls S)) : Wp n0 p e R s below Q T (mkF m pc Ls (.int z :: .int x :: S)) := by
  obtain ⟨hx, hZ, hby, hml, hret, hown, hnm, hlk, eT, hn0, hw, locs, N, Y⟩ := X
  obtain ⟨hd, rfl, ho, hp⟩ := hd
  by_cases hc : x = z
  · exact Wp.go (fun _ q => XS.icmpNo Y.here hx rfl (hb hby hd) rfl (Jvm.Free.XT.ii_ne_f hc) q) (qf hc)
  · exact Wp.go (fun _ q => XS.icmpYes Y.here hx rfl (pc0 := pc) (pc' := tgt) rfl (hb hby hd) rfl (Jvm.Free.XT.ii_ne_t hc) ho hp q) (qt hc)
theorem w_ifne (X : Pos Z a0 n0 p l e R s m args below meth c code ml ret y T h k j) {x : Int32} {o : Int} (hd : Jmp code pc (.ifCond .ne o) o nx tgt) (qt : ¬ x = 0 → Wp n0 p e R s below Q T (mkF m tgt Ls S)) (qf : x = 0 → Wp n0 p e R s below Q T (mkF m nx Ls S)) : Wp n0 p e R s below Q T (mkF m pc Ls (.int x :: S)) := by
  obtain ⟨hx, hZ, hby, hml, hret, hown, hnm, hlk, eT, hn0, hw, locs, N, Y⟩ := X
  obtain ⟨hd, rfl, ho, hp⟩ := hd
  by_cases hc : x = 0
  · exact Wp.go (fun _ q => XS.ifNo Y.here hx rfl (hb hby hd) rfl (Jvm.Free.XT.i0_ne_f hc) q) (qf hc)
  · exact Wp.go (fun _ q => XS.ifYes Y.here hx rfl (pc0 := pc) (pc' := tgt) rfl (hb hby hd) rfl (Jvm.Free.XT.i0_ne_t hc) ho hp q) (qt hc)
theorem w_lcmpne (X : Pos Z a0 n0 p l e R s m args below meth c code ml ret y T h k j) {x z : Int64} {o : Int} {mid : Nat} (hd0 : Dec code pc .lcmp 1 mid) (hd : Jmp code mid (.ifCond .ne o) o nx tgt) (qt : ¬ x = z → Wp n0 p e R s below Q T (mkF m tgt Ls S)) (qf : x = z → Wp n0 p e R s below Q T (mkF m nx Ls S)) : Wp n0 p e R s below Q T (mkF m pc Ls (.long z :: .long x :: S)) := by
  obtain ⟨hx, hZ, hby, hml, hret, hown, hnm, hlk, eT, hn0, hw, locs, N, Y⟩ := X
  obtain ⟨hd0, rfl⟩ := hd0
  obtain ⟨hd, rfl, ho, hp⟩ := hd
  refine Wp.go (fun _ q => Jvm.Free.XT.lcmp Y.here hx rfl (hb hby hd0) rfl q) ?_
  by_cases hc : x = z
  · exact Wp.go (fun _ q => XS.ifNo Y.here hx rfl (hb hby hd) rfl (Jvm.Free.XT.ll_ne_f hc) q) (qf hc)
  · exact Wp.go (fun _ q => XS.ifYes Y.here hx rfl (pc0 := pc + 1) (pc' := tgt) rfl (hb hby hd) rfl (Jvm.Free.XT.ll_ne_t hc) ho hp q) (qt hc)
theorem w_icmplt (X : Pos Z a0 n0 p l e R s m args below meth c code ml ret y T h k j) {x z : Int32} {o : Int} (hd : Jmp code pc (.if_icmp .lt o) o nx tgt) (qt : x < z → Wp n0 p e R s below Q T (mkF m tgt Ls S)) (qf : ¬ x < z → Wp n0 p e R s below Q T (mkF m nx Ls S)) : Wp n0 p e R s below Q T (mkF m pc Ls (.int z :: .int x :: S)) := by
  obtain ⟨hx, hZ, hby, hml, hret, hown, hnm, hlk, eT, hn0, hw, locs, N, Y⟩ := X
  obtain ⟨hd, rfl, ho, hp⟩ := hd
  by_cases hc : x < z
  · exact Wp.go (fun _ q => XS.icmpYes Y.here hx rfl (pc0 := pc) (pc' := tgt) rfl (hb hby hd) rfl (Jvm.Free.XT.ii_lt_t hc) ho hp q) (qt hc)
  · exact Wp.go (fun _ q => XS.icmpNo Y.here hx rfl (hb hby hd) rfl (Jvm.Free.XT.ii_lt_f hc) q) (qf hc)
theorem w_iflt (X : Pos Z a0 n0 p l e R s m args below meth c code ml ret y T h k j) {x : Int32} {o : Int} (hd : Jmp code pc (.ifCond .lt o) o nx tgt) (qt : x < 0 → Wp n0 p e R s below Q T (mkF m tgt Ls S)) (qf : ¬ x < 0 → Wp n0 p e R s below Q T (mkF m nx Ls S)) : Wp n0 p e R s below Q T (mkF m pc Ls (.int x :: S)) := by
  obtain ⟨hx, hZ, hby, hml, hret, hown, hnm, hlk, eT, hn0, hw, locs, N, Y⟩ := X
  obtain ⟨hd, rfl, ho, hp⟩ := hd
  by_cases hc : x < 0
  · exact Wp.go (fun _ q => XS.ifYes Y.here hx rfl (pc0 := pc) (pc' := tgt) rfl (hb hby hd) rfl (Jvm.Free.XT.i0_lt_t hc) ho hp q) (qt hc)
  · exact Wp.go (fun _ q => XS.ifNo Y.here hx rfl (hb hby hd) rfl (Jvm.Free.XT.i0_lt_f hc) q) (qf hc)
theorem w_lcmplt (X : Pos Z a0 n0 p l e R s m args below meth c code ml ret y T h k j) {x z : Int64} {o : Int} {mid : Nat} (hd0 : Dec code pc .lcmp 1 mid) (hd : Jmp code mid (.ifCond .lt o) o nx tgt) (qt : x < z → Wp n0 p e R s below Q T (mkF m tgt Ls S)) (qf : ¬ x < z → Wp n0 p e R s below Q T (mkF m nx Ls S)) : Wp n0 p e R s below Q T (mkF m pc Ls (.long z :: .long x :: S)) := by
  obtain ⟨hx, hZ, hby, hml, hret, hown, hnm, hlk, eT, hn0, hw, locs, N, Y⟩ := X
  obtain ⟨hd0, rfl⟩ := hd0
  obtain ⟨hd, rfl, ho, hp⟩ := hd
  refine Wp.go (fun _ q => Jvm.Free.XT.lcmp Y.here hx rfl (hb hby hd0) rfl q) ?_
  by_cases hc : x < z
  · exact Wp.go (fun _ q => XS.ifYes Y.here hx rfl (pc0 := pc + 1) (pc' := tgt) rfl (hb hby hd) rfl (Jvm.Free.XT.ll_lt_t hc) ho hp q) (qt hc)
  · exact Wp.go (fun _ q => XS.ifNo Y.here hx rfl (hb hby hd) rfl (Jvm.Free.XT.ll_lt_f hc) q) (qf hc)
theorem w_icmpge (X : Pos Z a0 n0 p l e R s m args below meth c code ml ret y T h k j) {x z : Int32} {o : Int} (hd : Jmp code pc (.if_icmp .ge o) o nx tgt) (qt : ¬ x < z → Wp n0 p e R s below Q T (mkF m tgt Ls S)) (qf : x < z → Wp n0 p e R s below Q T (mkF m nx Ls S)) : Wp n0 p e R s below Q T (mkF m pc Ls (.int z :: .int x :: S)) := by
  obtain ⟨hx, hZ, hby, hml, hret, hown, hnm, hlk, eT, hn0, hw, locs, N, Y⟩ := X
  obtain ⟨hd, rfl, ho, hp⟩ := hd
  by_cases hc : x < z
  · exact Wp.go (fun _ q => XS.icmpNo Y.here hx rfl (hb hby hd) rfl (Jvm.Free.XT.ii_ge_f hc) q) (qf hc)
  · exact Wp.go (fun _ q => XS.icmpYes Y.here hx rfl (pc0 := pc) (pc' := tgt) rfl (hb hby hd) rfl (Jvm.Free.XT.ii_ge_t hc) ho hp q) (qt hc)
theorem w_ifge (X : Pos Z a0 n0 p l e R s m args below meth c code ml ret y T h k j) {x : Int32} {o : Int} (hd : Jmp code pc (.ifCond .ge o) o nx tgt) (qt : ¬ x < 0 → Wp n0 p e R s below Q T (mkF m tgt Ls S)) (qf : x < 0 → Wp n0 p e R s below Q T (mkF m nx Ls S)) : Wp n0 p e R s below Q T (mkF m pc Ls (.int x :: S)) := by
  obtain ⟨hx, hZ, hby, hml, hret, hown, hnm, hlk, eT, hn0, hw, locs, N, Y⟩ := X
  obtain ⟨hd, rfl, ho, hp⟩ := hd
  by_cases hc : x < 0
  · exact Wp.go (fun _ q => XS.ifNo Y.here hx rfl (hb hby hd) rfl (Jvm.Free.XT.i0_ge_f hc) q) (qf hc)
  · exact Wp.go (fun _ q => XS.ifYes Y.here hx rfl (pc0 := pc) (pc' := tgt) rfl (hb hby hd) rfl (Jvm.Free.XT.i0_ge_t hc) ho hp q) (qt hc)
theorem w_lcmpge (X : Pos Z a0 n0 p l e R s m args below meth c code ml ret y T h k j) {x z : Int64} {o : Int} {mid : Nat} (hd0 : Dec code pc .lcmp 1 mid) (hd : Jmp code mid (.ifCond .ge o) o nx tgt) (qt : ¬ x < z → Wp n0 p e R s below Q T (mkF m tgt Ls S)) (qf : x < z → Wp n0 p e R s below Q T (mkF m nx Ls S)) : Wp n0 p e R s below Q T (mkF m pc Ls (.long z :: .long x :: S)) := by
  obtain ⟨hx, hZ, hby, hml, hret, hown, hnm, hlk, eT, hn0, hw, locs, N, Y⟩ := X
  obtain ⟨hd0, rfl⟩ := hd0
  obtain ⟨hd, rfl, ho, hp⟩ := hd
  refine Wp.go (fun _ q => Jvm.Free.XT.lcmp Y.here hx rfl (hb hby hd0) rfl q) ?_
  by_cases hc : x < z
  · exact Wp.go (fun _ q => XS.ifNo Y.here hx rfl (hb hby hd) rfl (Jvm.Free.XT.ll_ge_f hc) q) (qf hc)
  · exact Wp.go (fun _ q => XS.ifYes Y.here hx rfl (pc0 := pc + 1) (pc' := tgt) rfl (hb hby hd) rfl (Jvm.Free.XT.ll_ge_t hc) ho hp q) (qt hc)
theorem w_icmpgt (X : Pos Z a0 n0 p l e R s m args below meth c code ml ret y T h k j) {x z : Int32} {o : Int} (hd : Jmp code pc (.if_icmp .gt o) o nx tgt) (qt : z < x → Wp n0 p e R s below Q T (mkF m tgt Ls S)) (qf : ¬ z < x → Wp n0 p e R s below Q T (mkF m nx Ls S)) : Wp n0 p e R s below Q T (mkF m pc Ls (.int z :: .int x :: S)) := by
  obtain ⟨hx, hZ, hby, hml, hret, hown, hnm, hlk, eT, hn0, hw, locs, N, Y⟩ := X
  obtain ⟨hd, rfl, ho, hp⟩ := hd
  by_cases hc : z < x
  · exact Wp.go (fun _ q => XS.icmpYes Y.here hx rfl (pc0 := pc) (pc' := tgt) rfl (hb hby hd) rfl (Jvm.Free.XT.ii_gt_t hc) ho hp q) (qt hc)
  · exact Wp.go (fun _ q => XS.icmpNo Y.here hx rfl (hb hby hd) rfl (Jvm.Free.XT.ii_gt_f hc) q) (qf hc)
theorem w_ifgt (X : Pos Z a0 n0 p l e R s m args below meth c code ml ret y T h k j) {x : Int32} {o : Int} (hd : Jmp code pc (.ifCond .gt o) o nx tgt) (qt : 0 < x → Wp n0 p e R s below Q T (mkF m tgt Ls S)) (qf : ¬ 0 < x → Wp n0 p e R s below Q T (mkF m nx Ls S)) : Wp n0 p e R s below Q T (mkF m pc Ls (.int x :: S)) := by
  obtain ⟨hx, hZ, hby, hml, hret, hown, hnm, hlk, eT, hn0, hw, locs, N, Y⟩ := X
  obtain ⟨hd, rfl, ho, hp⟩ := hd
  by_cases hc : 0 < x
  · exact Wp.go (fun _ q => XS.ifYes Y.here hx rfl (pc0 := pc) (pc' := tgt) rfl (hb hby hd) rfl (Jvm.Free.XT.i0_gt_t hc) ho hp q) (qt hc)
  · exact Wp.go (fun _ q => XS.ifNo Y.here hx rfl (hb hby hd) rfl (Jvm.Free.XT.i0_gt_f hc) q) (qf hc)
theorem w_lcmpgt (X : Pos Z a0 n0 p l e R s m args below meth c code ml ret y T h k j) {x z : Int64} {o : Int} {mid : Nat} (hd0 : Dec code pc .lcmp 1 mid) (hd : Jmp code mid (.ifCond .gt o) o nx tgt) (qt : z < x → Wp n0 p e R s below Q T (mkF m tgt Ls S)) (qf : ¬ z < x → Wp n0 p e R s below Q T (mkF m nx Ls S)) : Wp n0 p e R s below Q T (mkF m pc Ls (.long z :: .long x :: S)) := by
  obtain ⟨hx, hZ, hby, hml, hret, hown, hnm, hlk, eT, hn0, hw, locs, N, Y⟩ := X
  obtain ⟨hd0, rfl⟩ := hd0
  obtain ⟨hd, rfl, ho, hp⟩ := hd
  refine Wp.go (fun _ q => Jvm.Free.XT.lcmp Y.here hx rfl (hb hby hd0) rfl q) ?_
  by_cases hc : z < x
  · exact Wp.go (fun _ q => XS.ifYes Y.here hx rfl (pc0 := pc + 1) (pc' := tgt) rfl (hb hby hd) rfl (Jvm.Free.XT.ll_gt_t hc) ho hp q) (qt hc)
  · exact Wp.go (fun _ q => XS.ifNo Y.here hx rfl (hb hby hd) rfl (Jvm.Free.XT.ll_gt_f hc) q) (qf hc)
theorem w_icmple (X : Pos Z a0 n0 p l e R s m args below meth c code ml ret y T h k j) {x z : Int32} {o : Int} (hd : Jmp code pc (.if_icmp .le o) o nx tgt) (qt : ¬ z < x → Wp n0 p e R s below Q T (mkF m tgt Ls S)) (qf : z < x → Wp n0 p e R s below Q T (mkF m nx Ls S)) : Wp n0 p e R s below Q T (mkF m pc Ls (.int z :: .int x :: S)) := by
  obtain ⟨hx, hZ, hby, hml, hret, hown, hnm, hlk, eT, hn0, hw, locs, N, Y⟩ := X
  obtain ⟨hd, rfl, ho, hp⟩ := hd
  by_cases hc : z < x
  · exact Wp.go (fun _ q => XS.icmpNo Y.here hx rfl (hb hby hd) rfl (Jvm.Free.XT.ii_le_f hc) q) (qf hc)
  · exact Wp.go (fun _ q => XS.icmpYes Y.here hx rfl (pc0 := pc) (pc' := tgt) rfl (hb hby hd) rfl (Jvm.Free.XT.ii_le_t hc) ho hp q) (qt hc)
theorem w_ifle (X : Pos Z a0 n0 p l e R s m args below meth c code ml ret y T h k j) {x : Int32} {o : Int} (hd : Jmp code pc (.ifCond .le o) o nx tgt) (qt : ¬ 0 < x → Wp n0 p e R s below Q T (mkF m tgt Ls S)) (qf : 0 < x → Wp n0 p e R s below Q T (mkF m nx Ls S)) : Wp n0 p e R s below Q T (mkF m pc Ls (.int x :: S)) := by
  obtain ⟨hx, hZ, hby, hml, hret, hown, hnm, hlk, eT, hn0, hw, locs, N, Y⟩ := X
  obtain ⟨hd, rfl, ho, hp⟩ := hd
  by_cases hc : 0 < x
  · exact Wp.go (fun _ q => XS.ifNo Y.here hx rfl (hb hby hd) rfl (Jvm.Free.XT.i0_le_f hc) q) (qf hc)
  · exact Wp.go (fun _ q => XS.ifYes Y.here hx rfl (pc0 := pc) (pc' := tgt) rfl (hb hby hd) rfl (Jvm.Free.XT.i0_le_t hc) ho hp q) (qt hc)
theorem w_lcmple (X : Pos Z a0 n0 p l e R s m args below meth c code ml ret y T h k j) {x z : Int64} {o : Int} {mid : Nat} (hd0 : Dec code pc .lcmp 1 mid) (hd : Jmp code mid (.ifCond .le o) o nx tgt) (qt : ¬ z < x → Wp n0 p e R s below Q T (mkF m tgt Ls S)) (qf : z < x → Wp n0 p e R s below Q T (mkF m nx Ls S)) : Wp n0 p e R s below Q T (mkF m pc Ls (.long z :: .long x :: S)) := by
  obtain ⟨hx, hZ, hby, hml, hret, hown, hnm, hlk, eT, hn0, hw, locs, N, Y⟩ := X
  obtain ⟨hd0, rfl⟩ := hd0
  obtain ⟨hd, rfl, ho, hp⟩ := hd
  refine Wp.go (fun _ q => Jvm.Free.XT.lcmp Y.here hx rfl (hb hby hd0) rfl q) ?_
  by_cases hc : z < x
  · exact Wp.go (fun _ q => XS.ifNo Y.here hx rfl (hb hby hd) rfl (Jvm.Free.XT.ll_le_f hc) q) (qf hc)
  · exact Wp.go (fun _ q => XS.ifYes Y.here hx rfl (pc0 := pc + 1) (pc' := tgt) rfl (hb hby hd) rfl (Jvm.Free.XT.ll_le_t hc) ho hp q) (qt hc)
theorem w_ldc (X : Pos Z a0 n0 p l e R s m args below meth c code ml ret y T h k j) {i : Nat} {v : Int32} (hd : Dec code pc (.ldc i) 2 nx) (wc : (Jvm.Cond.constant y.cls i v).before a0 Z = true) (q : Wp n0 p e R s below Q T (mkF m nx Ls (.int v :: S))) : Wp n0 p e R s below Q T (mkF m pc Ls S) := by
  obtain ⟨hx, hZ, hby, hml, hret, hown, hnm, hlk, eT, hn0, hw, locs, N, Y⟩ := X
  obtain ⟨hd, rfl⟩ := hd
  exact Wp.go (Y.ldcInt hx hown (mvT hZ wc) rfl (hb hby hd)) q
theorem w_ldc2 (X : Pos Z a0 n0 p l e R s m args below meth c code ml ret y T h k j) {i : Nat} {v : Int64} (hd : Dec code pc (.ldc2_w i) 3 nx) (wc : (Jvm.Cond.constantLong y.cls i v).before a0 Z = true) (q : Wp n0 p e R s below Q T (mkF m nx Ls (.long v :: S))) : Wp n0 p e R s below Q T (mkF m pc Ls S) := by
  obtain ⟨hx, hZ, hby, hml, hret, hown, hnm, hlk, eT, hn0, hw, locs, N, Y⟩ := X
  obtain ⟨hd, rfl⟩ := hd
  exact Wp.go (Y.ldc2Long hx hown (mvT hZ wc) rfl (hb hby hd)) q
theorem w_ldcw (X : Pos Z a0 n0 p l e R s m args below meth c code ml ret y T h k j) {i : Nat} {v : Int32} (hd : Dec code pc (.ldc_w i) 3 nx) (wc : (Jvm.Cond.constant y.cls i v).before a0 Z = true) (q : Wp n0 p e R s below Q T (mkF m nx Ls (.int v :: S))) : Wp n0 p e R s below Q T (mkF m pc Ls S) := by
  obtain ⟨hx, hZ, hby, hml, hret, hown, hnm, hlk, eT, hn0, hw, locs, N, Y⟩ := X
  obtain ⟨hd, rfl⟩ := hd
  exact Wp.go (Y.ldcwInt hx hown (mvT hZ wc) rfl (hb hby hd)) q
theorem w_wiinc (X : Pos Z a0 n0 p l e R s m args below meth c code ml ret y T h k j) {w : Nat} {i : Int} {d v r : Int32} {l' : Array Slot} (hd : Dec code pc (.iinc w i) 6 nx) (hl : Ls[w]? = some (.val (.int v))) (hi : Int32.ofInt i = d) (hr : v + d = r) (hl' : storeLocals Ls w (.int r) = some l') (q : Wp n0 p e R s below Q T (mkF m nx l' S)) : Wp n0 p e R s below Q T (mkF m pc Ls S) := by
  obtain ⟨hx, hZ, hby, hml, hret, hown, hnm, hlk, eT, hn0, hw, locs, N, Y⟩ := X
  obtain ⟨hd, rfl⟩ := hd
  subst hi hr
  refine Wp.go (fun _ q => ?_) q
  have hd' := hb hby hd
  have h := Y.here
  jvm_step h [h.top, hx, hd', hl, hl']
  exact q
theorem w_ireturn (X : Pos Z a0 n0 p l e R s m args below meth c code ml (some .int) y T h k j) {z : Int32} (hd : Dec code pc .ireturn 1 nx) (hk : k ≤ R.cells) (hj : j ≤ R.slots) (hq : Q (some (.int z)) h) : Wp n0 p e R s below Q T (mkF m pc Ls (.int z :: S)) := by
  obtain ⟨hx, hZ, hby, hml, hret, hown, hnm, hlk, eT, hn0, hw, locs, N, Y⟩ := X
  obtain ⟨hd, -⟩ := hd
  obtain ⟨fs, hr, hrun, hended, hW, hsame⟩ := Y.leave (v := (some (.int z))) (fun h => by rw [hret] at h; cases h) hlk
  exact ⟨_, _, retI Y hx hret (hb hby hd) hr, hrun, hended, _, _, rfl, ⟨N, by show n0 ≤ T.heap.size; rw [eT]; exact hn0, by show Q _ T.heap; rw [eT]; exact hq⟩, ⟨_, rfl⟩, hW, hsame.mono hk hj⟩
theorem w_breturn (X : Pos Z a0 n0 p l e R s m args below meth c code ml (some .byte) y T h k j) {z : Int32} (hd : Dec code pc .ireturn 1 nx) (hk : k ≤ R.cells) (hj : j ≤ R.slots) (hq : Q (some (.int (nar .byte z))) h) : Wp n0 p e R s below Q T (mkF m pc Ls (.int z :: S)) := by
  obtain ⟨hx, hZ, hby, hml, hret, hown, hnm, hlk, eT, hn0, hw, locs, N, Y⟩ := X
  obtain ⟨hd, -⟩ := hd
  obtain ⟨fs, hr, hrun, hended, hW, hsame⟩ := Y.leave (v := (some (.int (nar .byte z)))) (fun h => by rw [hret] at h; cases h) hlk
  exact ⟨_, _, retN Y hx (t := .byte) hret (by simp) (hb hby hd) hr, hrun, hended, _, _, rfl, ⟨N, by show n0 ≤ T.heap.size; rw [eT]; exact hn0, by show Q _ T.heap; rw [eT]; exact hq⟩, ⟨_, rfl⟩, hW, hsame.mono hk hj⟩
theorem w_zreturn (X : Pos Z a0 n0 p l e R s m args below meth c code ml (some .boolean) y T h k j) {z : Int32} (hd : Dec code pc .ireturn 1 nx) (hk : k ≤ R.cells) (hj : j ≤ R.slots) (hq : Q (some (.int (nar .boolean z))) h) : Wp n0 p e R s below Q T (mkF m pc Ls (.int z :: S)) := by
  obtain ⟨hx, hZ, hby, hml, hret, hown, hnm, hlk, eT, hn0, hw, locs, N, Y⟩ := X
  obtain ⟨hd, -⟩ := hd
  obtain ⟨fs, hr, hrun, hended, hW, hsame⟩ := Y.leave (v := (some (.int (nar .boolean z)))) (fun h => by rw [hret] at h; cases h) hlk
  exact ⟨_, _, retN Y hx (t := .boolean) hret (by simp) (hb hby hd) hr, hrun, hended, _, _, rfl, ⟨N, by show n0 ≤ T.heap.size; rw [eT]; exact hn0, by show Q _ T.heap; rw [eT]; exact hq⟩, ⟨_, rfl⟩, hW, hsame.mono hk hj⟩
theorem w_lreturn (X : Pos Z a0 n0 p l e R s m args below meth c code ml (some .long) y T h k j) {z : Int64} (hd : Dec code pc .lreturn 1 nx) (hk : k ≤ R.cells) (hj : j ≤ R.slots) (hq : Q (some (.long z)) h) : Wp n0 p e R s below Q T (mkF m pc Ls [.long z]) := by
  obtain ⟨hx, hZ, hby, hml, hret, hown, hnm, hlk, eT, hn0, hw, locs, N, Y⟩ := X
  obtain ⟨hd, -⟩ := hd
  obtain ⟨fs, hr, hrun, hended, hW, hsame⟩ := Y.leave (v := (some (.long z))) (fun h => by rw [hret] at h; cases h) hlk
  exact ⟨_, _, Y.lreturnOut hx hret (hb hby hd) hr, hrun, hended, _, _, rfl, ⟨N, by show n0 ≤ T.heap.size; rw [eT]; exact hn0, by show Q _ T.heap; rw [eT]; exact hq⟩, ⟨_, rfl⟩, hW, hsame.mono hk hj⟩
theorem w_return (X : Pos Z a0 n0 p l e R s m args below meth c code ml none y T h k j)  (hd : Dec code pc .return_ 1 nx) (hk : k ≤ R.cells) (hj : j ≤ R.slots) (hq : Q none h) : Wp n0 p e R s below Q T (mkF m pc Ls []) := by
  obtain ⟨hx, hZ, hby, hml, hret, hown, hnm, hlk, eT, hn0, hw, locs, N, Y⟩ := X
  obtain ⟨hd, -⟩ := hd
  obtain ⟨fs, hr, hrun, hended, hW, hsame⟩ := Y.leave (v := none) (fun _ => rfl) hlk
  exact ⟨_, _, Y.returnOut hx hret (hb hby hd) hr, hrun, hended, _, _, rfl, ⟨N, by show n0 ≤ T.heap.size; rw [eT]; exact hn0, by show Q _ T.heap; rw [eT]; exact hq⟩, ⟨_, rfl⟩, hW, hsame.mono hk hj⟩
theorem w_arraylength (X : Pos Z a0 n0 p l e R s m args below meth c code ml ret y T h k j) {a : Addr} {ty : FieldType} {n : Nat} {g : Nat → Value} (hd : Dec code pc .arraylength 1 nx) (B : Ba Z n0 h a ty n g) (q : Wp n0 p e R s below Q T (mkF m nx Ls (.int (Int32.ofNat n) :: S))) : Wp n0 p e R s below Q T (mkF m pc Ls (.ref a :: S)) := by
  obtain ⟨hx, hZ, hby, hml, hret, hown, hnm, hlk, eT, hn0, hw, locs, N, Y⟩ := X
  obtain ⟨hd, rfl⟩ := hd
  obtain ⟨-, hn, cl, A, hs, -⟩ := B
  subst hs
  exact Wp.go (fun _ q => Y.arraylength hx (g := mkF m pc Ls (.ref a :: S)) (cell := cl) (by rw [eT]; exact A.1) (State.isArrayOf_alike hZ.alike A.2.1) rfl rfl (hb hby hd) _ q) q
theorem w_baload (X : Pos Z a0 n0 p l e R s m args below meth c code ml ret y T h k j) {a : Addr} {n : Nat} {b : Nat → Int32} {x : Int32} (hd : Dec code pc .baload 1 nx) (B : Ba Z n0 h a .byte n (bI b)) (i : Nat) (hi : x = Int32.ofNat i) (hlt : i < n) (q : Wp n0 p e R s below Q T (mkF m nx Ls (.int (b i) :: S))) : Wp n0 p e R s below Q T (mkF m pc Ls (.int x :: .ref a :: S)) := by
  obtain ⟨hx, hZ, hby, hml, hret, hown, hnm, hlk, eT, hn0, hw, locs, N, Y⟩ := X
  obtain ⟨hd, rfl⟩ := hd
  obtain ⟨-, hn, cl, A, hs, hv⟩ := B
  subst hi
  exact Wp.go (fun _ q => Y.baloadBytes hx (g := mkF m pc Ls (.int (Int32.ofNat i) :: .ref a :: S)) (j := Int32.ofNat i) (v := .int (b i)) (by rw [eT]; exact A.1) (State.isArrayOf_alike hZ.alike A.2.1) A.2.2 (inb hn hs hlt) (by rw [ofNat_clamp (by omega)]; exact hv i hlt) rfl rfl (hb hby hd) _ q) q
theorem w_iaload (X : Pos Z a0 n0 p l e R s m args below meth c code ml ret y T h k j) {a : Addr} {n : Nat} {b : Nat → Int32} {x : Int32} (hd : Dec code pc .iaload 1 nx) (B : Ba Z n0 h a .int n (bI b)) (i : Nat) (hi : x = Int32.ofNat i) (hlt : i < n) (q : Wp n0 p e R s below Q T (mkF m nx Ls (.int (b i) :: S))) : Wp n0 p e R s below Q T (mkF m pc Ls (.int x :: .ref a :: S)) := by
  obtain ⟨hx, hZ, hby, hml, hret, hown, hnm, hlk, eT, hn0, hw, locs, N, Y⟩ := X
  obtain ⟨hd, rfl⟩ := hd
  obtain ⟨-, hn, cl, A, hs, hv⟩ := B
  subst hi
  exact Wp.go (fun _ q => Y.iaload hx (g := mkF m pc Ls (.int (Int32.ofNat i) :: .ref a :: S)) (j := Int32.ofNat i) (v := .int (b i)) (by rw [eT]; exact A.1) (State.isArrayOf_alike hZ.alike A.2.1) A.2.2 (inb hn hs hlt) (by rw [ofNat_clamp (by omega)]; exact hv i hlt) rfl rfl (hb hby hd) _ q) q
theorem w_laload (X : Pos Z a0 n0 p l e R s m args below meth c code ml ret y T h k j) {a : Addr} {n : Nat} {b : Nat → Int64} {x : Int32} (hd : Dec code pc .laload 1 nx) (B : Ba Z n0 h a .long n (bJ b)) (i : Nat) (hi : x = Int32.ofNat i) (hlt : i < n) (q : Wp n0 p e R s below Q T (mkF m nx Ls (.long (b i) :: S))) : Wp n0 p e R s below Q T (mkF m pc Ls (.int x :: .ref a :: S)) := by
  obtain ⟨hx, hZ, hby, hml, hret, hown, hnm, hlk, eT, hn0, hw, locs, N, Y⟩ := X
  obtain ⟨hd, rfl⟩ := hd
  obtain ⟨-, hn, cl, A, hs, hv⟩ := B
  subst hi
  exact Wp.go (fun _ q => Y.laload hx (g := mkF m pc Ls (.int (Int32.ofNat i) :: .ref a :: S)) (j := Int32.ofNat i) (v := .long (b i)) (by rw [eT]; exact A.1) (State.isArrayOf_alike hZ.alike A.2.1) A.2.2 (inb hn hs hlt) (by rw [ofNat_clamp (by omega)]; exact hv i hlt) rfl rfl (hb hby hd) _ q) q
theorem w_bastore (X : Pos Z a0 n0 p l e R s m args below meth c code ml ret y T h k j) {a : Addr} {n : Nat} {b : Nat → Int32} {x : Int32} {v : Int32} (hd : Dec code pc .bastore 1 nx) (B : Ba Z n0 h a .byte n (bI b)) (i : Nat) (hi : x = Int32.ofNat i) (hlt : i < n)
    (q : ∀ T' h', Pos Z a0 n0 p l e R s m args below meth c code ml ret y T' h' k j → Keep h h' [a] → Ba Z n0 h' a .byte n (bI (upd b i (jbyte v))) → Wp n0 p e R s below Q T' (mkF m nx Ls S)) : Wp n0 p e R s below Q T (mkF m pc Ls (.int v :: .int x :: .ref a :: S)) := by
  obtain ⟨hx, hZ, hby, hml, hret, hown, hnm, hlk, eT, hn0, hw, locs, N, Y⟩ := X
  obtain ⟨hd, rfl⟩ := hd
  obtain ⟨hna, hn, cl, A, hs, hv⟩ := B
  subst hi
  obtain ⟨T', h', Y', e', W', st⟩ := stB Y hx hZ eT A (j := Int32.ofNat i) (inb hn hs hlt) (g := mkF m pc Ls (.int v :: .int (Int32.ofNat i) :: .ref a :: S)) rfl rfl (hb hby hd)
  refine Wp.go st (q T' h' ⟨hx, hZ, hby, hml, hret, hown, hnm, hlk, e', by rw [W'.size]; exact hn0, hw, _, Fr.snoc Y' N hna, Y'⟩ (Keep.of_wr W') ⟨hna, hn, _, A.same W', (sz_set _ _ _).trans hs, fun q hq => ?_⟩)
  rw [ofNat_clamp (by omega)]
  by_cases hqi : q = i
  · subst hqi
    simp [Cell.setSlot, hs, hq, upd, bI, nar]
  · simp [Cell.setSlot, upd, hqi, bI, Array.getElem?_setIfInBounds_ne (Ne.symm hqi), hv q hq]
theorem w_iastore (X : Pos Z a0 n0 p l e R s m args below meth c code ml ret y T h k j) {a : Addr} {n : Nat} {b : Nat → Int32} {x : Int32} {v : Int32} (hd : Dec code pc .iastore 1 nx) (B : Ba Z n0 h a .int n (bI b)) (i : Nat) (hi : x = Int32.ofNat i) (hlt : i < n)
    (q : ∀ T' h', Pos Z a0 n0 p l e R s m args below meth c code ml ret y T' h' k j → Keep h h' [a] → Ba Z n0 h' a .int n (bI (upd b i (v))) → Wp n0 p e R s below Q T' (mkF m nx Ls S)) : Wp n0 p e R s below Q T (mkF m pc Ls (.int v :: .int x :: .ref a :: S)) := by
  obtain ⟨hx, hZ, hby, hml, hret, hown, hnm, hlk, eT, hn0, hw, locs, N, Y⟩ := X
  obtain ⟨hd, rfl⟩ := hd
  obtain ⟨hna, hn, cl, A, hs, hv⟩ := B
  subst hi
  obtain ⟨T', h', Y', e', W', st⟩ := stI Y hx hZ eT A (j := Int32.ofNat i) (inb hn hs hlt) (g := mkF m pc Ls (.int v :: .int (Int32.ofNat i) :: .ref a :: S)) rfl rfl (hb hby hd)
  refine Wp.go st (q T' h' ⟨hx, hZ, hby, hml, hret, hown, hnm, hlk, e', by rw [W'.size]; exact hn0, hw, _, Fr.snoc Y' N hna, Y'⟩ (Keep.of_wr W') ⟨hna, hn, _, A.same W', (sz_set _ _ _).trans hs, fun q hq => ?_⟩)
  rw [ofNat_clamp (by omega)]
  by_cases hqi : q = i
  · subst hqi
    simp [Cell.setSlot, hs, hq, upd, bI]
  · simp [Cell.setSlot, upd, hqi, bI, Array.getElem?_setIfInBounds_ne (Ne.symm hqi), hv q hq]
theorem w_lastore (X : Pos Z a0 n0 p l e R s m args below meth c code ml ret y T h k j) {a : Addr} {n : Nat} {b : Nat → Int64} {x : Int32} {v : Int64} (hd : Dec code pc .lastore 1 nx) (B : Ba Z n0 h a .long n (bJ b)) (i : Nat) (hi : x = Int32.ofNat i) (hlt : i < n)
    (q : ∀ T' h', Pos Z a0 n0 p l e R s m args below meth c code ml ret y T' h' k j → Keep h h' [a] → Ba Z n0 h' a .long n (bJ (upd b i (v))) → Wp n0 p e R s below Q T' (mkF m nx Ls S)) : Wp n0 p e R s below Q T (mkF m pc Ls (.long v :: .int x :: .ref a :: S)) := by
  obtain ⟨hx, hZ, hby, hml, hret, hown, hnm, hlk, eT, hn0, hw, locs, N, Y⟩ := X
  obtain ⟨hd, rfl⟩ := hd
  obtain ⟨hna, hn, cl, A, hs, hv⟩ := B
  subst hi
  obtain ⟨T', h', Y', e', W', st⟩ := stJ Y hx hZ eT A (j := Int32.ofNat i) (inb hn hs hlt) (g := mkF m pc Ls (.long v :: .int (Int32.ofNat i) :: .ref a :: S)) rfl rfl (hb hby hd)
  refine Wp.go st (q T' h' ⟨hx, hZ, hby, hml, hret, hown, hnm, hlk, e', by rw [W'.size]; exact hn0, hw, _, Fr.snoc Y' N hna, Y'⟩ (Keep.of_wr W') ⟨hna, hn, _, A.same W', (sz_set _ _ _).trans hs, fun q hq => ?_⟩)
  rw [ofNat_clamp (by omega)]
  by_cases hqi : q = i
  · subst hqi
    simp [Cell.setSlot, hs, hq, upd, bJ]
  · simp [Cell.setSlot, upd, hqi, bJ, Array.getElem?_setIfInBounds_ne (Ne.symm hqi), hv q hq]
theorem w_newB (X : Pos Z a0 n0 p l e R s m args below meth c code ml ret y T h k j) {x : Int32} (hd : Dec code pc (.newarray .byte) 2 nx) (wa : (Jvm.Cond.arrayClass .byte).before a0 Z = true) (n cap : Nat) (hx' : x = Int32.ofNat n) (hcap : n ≤ cap) (hb' : cap * 8 ≤ 536870912) (hk : k + 1 ≤ R.cells) (hj : j + cap ≤ R.slots)
    (q : ∀ T' h' a, Pos Z a0 n0 p l e R s m args below meth c code ml ret y T' h' (k + 1) (j + cap) → a = h.size → Ext h h' → Ba Z n0 h' a .byte n (bI fun _ => 0) → Wp n0 p e R s below Q T' (mkF m nx Ls (.ref a :: S))) : Wp n0 p e R s below Q T (mkF m pc Ls (.int x :: S)) := by
  obtain ⟨hx, hZ, hby, hml, hret, hown, hnm, hlk, eT, hn0, hw, locs, N, Y⟩ := X
  obtain ⟨hd, rfl⟩ := hd
  subst hx'
  obtain ⟨T', h', cA, Y', e', E', A', st⟩ := newP Y hx hZ (aty := .byte) wa eT (g := mkF m pc Ls (.int (Int32.ofNat n) :: S)) rfl (hb hby hd) rfl (ofNat_nn (by omega)) (cap := cap) (by rw [ofNat_clamp (by omega)]; exact hcap) hb' hk hj
  refine Wp.go st (q T' h' _ ⟨hx, hZ, hby, hml, hret, hown, hnm, hlk, e', Nat.le_trans hn0 E'.1, hw, _, N, Y'⟩ rfl E' ⟨hn0, by omega, _, A', by rw [sz_new, ofNat_clamp (by omega)], fun i hi => ?_⟩)
  have := get_new (cA := cA) (ty := .byte) (n := Int32.ofNat n) (k := Int32.ofNat i) (by rw [ofNat_clamp (by omega), ofNat_clamp (by omega)]; exact fun q => q.elim (ofNat_nn (by omega)) (fun q => by omega))
  rw [ofNat_clamp (by omega)] at this
  exact this
theorem w_newI (X : Pos Z a0 n0 p l e R s m args below meth c code ml ret y T h k j) {x : Int32} (hd : Dec code pc (.newarray .int) 2 nx) (wa : (Jvm.Cond.arrayClass .int).before a0 Z = true) (n cap : Nat) (hx' : x = Int32.ofNat n) (hcap : n ≤ cap) (hb' : cap * 8 ≤ 536870912) (hk : k + 1 ≤ R.cells) (hj : j + cap ≤ R.slots)
    (q : ∀ T' h' a, Pos Z a0 n0 p l e R s m args below meth c code ml ret y T' h' (k + 1) (j + cap) → a = h.size → Ext h h' → Ba Z n0 h' a .int n (bI fun _ => 0) → Wp n0 p e R s below Q T' (mkF m nx Ls (.ref a :: S))) : Wp n0 p e R s below Q T (mkF m pc Ls (.int x :: S)) := by
  obtain ⟨hx, hZ, hby, hml, hret, hown, hnm, hlk, eT, hn0, hw, locs, N, Y⟩ := X
  obtain ⟨hd, rfl⟩ := hd
  subst hx'
  obtain ⟨T', h', cA, Y', e', E', A', st⟩ := newP Y hx hZ (aty := .int) wa eT (g := mkF m pc Ls (.int (Int32.ofNat n) :: S)) rfl (hb hby hd) rfl (ofNat_nn (by omega)) (cap := cap) (by rw [ofNat_clamp (by omega)]; exact hcap) hb' hk hj
  refine Wp.go st (q T' h' _ ⟨hx, hZ, hby, hml, hret, hown, hnm, hlk, e', Nat.le_trans hn0 E'.1, hw, _, N, Y'⟩ rfl E' ⟨hn0, by omega, _, A', by rw [sz_new, ofNat_clamp (by omega)], fun i hi => ?_⟩)
  have := get_new (cA := cA) (ty := .int) (n := Int32.ofNat n) (k := Int32.ofNat i) (by rw [ofNat_clamp (by omega), ofNat_clamp (by omega)]; exact fun q => q.elim (ofNat_nn (by omega)) (fun q => by omega))
  rw [ofNat_clamp (by omega)] at this
  exact this
theorem w_newJ (X : Pos Z a0 n0 p l e R s m args below meth c code ml ret y T h k j) {x : Int32} (hd : Dec code pc (.newarray .long) 2 nx) (wa : (Jvm.Cond.arrayClass .long).before a0 Z = true) (n cap : Nat) (hx' : x = Int32.ofNat n) (hcap : n ≤ cap) (hb' : cap * 8 ≤ 536870912) (hk : k + 1 ≤ R.cells) (hj : j + cap ≤ R.slots)
    (q : ∀ T' h' a, Pos Z a0 n0 p l e R s m args below meth c code ml ret y T' h' (k + 1) (j + cap) → a = h.size → Ext h h' → Ba Z n0 h' a .long n (bJ fun _ => 0) → Wp n0 p e R s below Q T' (mkF m nx Ls (.ref a :: S))) : Wp n0 p e R s below Q T (mkF m pc Ls (.int x :: S)) := by
  obtain ⟨hx, hZ, hby, hml, hret, hown, hnm, hlk, eT, hn0, hw, locs, N, Y⟩ := X
  obtain ⟨hd, rfl⟩ := hd
  subst hx'
  obtain ⟨T', h', cA, Y', e', E', A', st⟩ := newP Y hx hZ (aty := .long) wa eT (g := mkF m pc Ls (.int (Int32.ofNat n) :: S)) rfl (hb hby hd) rfl (ofNat_nn (by omega)) (cap := cap) (by rw [ofNat_clamp (by omega)]; exact hcap) hb' hk hj
  refine Wp.go st (q T' h' _ ⟨hx, hZ, hby, hml, hret, hown, hnm, hlk, e', Nat.le_trans hn0 E'.1, hw, _, N, Y'⟩ rfl E' ⟨hn0, by omega, _, A', by rw [sz_new, ofNat_clamp (by omega)], fun i hi => ?_⟩)
  have := get_new (cA := cA) (ty := .long) (n := Int32.ofNat n) (k := Int32.ofNat i) (by rw [ofNat_clamp (by omega), ofNat_clamp (by omega)]; exact fun q => q.elim (ofNat_nn (by omega)) (fun q => by omega))
  rw [ofNat_clamp (by omega)] at this
  exact this
theorem w_static (X : Pos Z a0 n0 p l e R s m args below meth c code ml ret y T h k j) {z : MethodName} {cz : ByteArray} {mz : Nat} {rz : Option FieldType} {rm : Room} {Qz : Option Value → Heap → Prop} {ps : List FieldType} {rr : Option FieldType} {i : Nat} {argsL : List Value} (hd : Dec code pc (.invokestatic i) 3 nx) (C : Ctr l Z n0 z cz mz rz rm [] argsL.toArray h Qz) (wl : (Jvm.Cond.methodLink y.cls i z).before a0 Z = true) (ws : (Jvm.Cond.static z).before a0 Z = true) (wi : (Jvm.Cond.initialized z.cls).before a0 Z = true) (wc : (Jvm.Cond.code z cz mz rz).before a0 Z = true)
    (hz : z.cls ≠ "java/lang/invoke/MethodHandle" ∧ z.cls ≠ "java/lang/invoke/VarHandle") (hpd : parseMethodDescriptor z.desc = some ⟨ps, rr⟩) (hlen : argsL.length = ps.length) {S0 : List Value} (hS : S0 = argsL.reverse ++ S) (hsz : Ls.size = ml)
    (hf : rm.frames + 1 ≤ R.frames) (hlo : (S.map fun v => v.category).sum + (mz + 11) + rm.locals ≤ R.locals) (hk : k + rm.cells ≤ R.cells) (hj : j + rm.slots ≤ R.slots)
    (q : ∀ v T' h', Pos Z a0 n0 p l e R s m args below meth c code ml ret y T' h' (k + rm.cells) (j + rm.slots) → Qz v h' → Wp n0 p e R s below Q T' (mkF m nx Ls (v.toList ++ S))) : Wp n0 p e R s below Q T (mkF m pc Ls S0) := by
  obtain ⟨hx, hZ, hby, hml, hret, hown, hnm, hlk, eT, hn0, hw, locs, N, Y⟩ := X
  obtain ⟨hd, rfl⟩ := hd
  obtain ⟨v, _, ⟨T', L', k', j'⟩, -, Y', ⟨Lc, hQ, l1, l2, l3⟩, st⟩ := Jvm.LawKit.callS Y hx (y := z) hown (mvT hZ wl) (mvT hZ ws) (mvT hZ wi) (mvT hZ wc) hz (backOf (W := (S.map fun v => v.category).sum) (Q := fun v h L => Fr n0 L ∧ n0 ≤ h.size ∧ Qz v h) C hZ wc wi hf hlo) (g := mkF m pc Ls S0) rfl (by rw [hml]; exact hsz) (argsL := argsL) (rest := S) (lenOf hpd hlen) hS (by show 2 * 0 + _ ≤ _; omega) (hb hby hd) (fun _ _ => ⟨rfl, eT, hk, hj⟩)
  dsimp only [Pt.U, Pt.locs, Pt.cells, Pt.slots] at Y' l1 l2 l3 st hQ
  subst l1 l2 l3
  obtain ⟨N', hn', hQ⟩ := hQ
  exact Wp.go st (q v T' _ ⟨hx, hZ, hby, hml, hret, hown, hnm, hlk, rfl, hn', hw, _, Fr.app N N', Y'⟩ hQ)
theorem w_virtual (X : Pos Z a0 n0 p l e R s m args below meth c code ml ret y T h k j) {z : MethodName} {cz : ByteArray} {mz : Nat} {rz : Option FieldType} {rm : Room} {Qz : Option Value → Heap → Prop} {ps : List FieldType} {rr : Option FieldType} {i : Nat} {argsL : List Value} {a : Addr} (hd : Dec code pc (.invokevirtual i) 3 nx) (C : Ctr l Z n0 z cz mz rz rm [] (.ref a :: argsL).toArray h Qz) (E : Exa Z h a z.cls) (wl : (Jvm.Cond.methodLink y.cls i z).before a0 Z = true) (wdc : (Jvm.Cond.declares z).before a0 Z = true) (wse : (Jvm.Cond.selects z.cls z z).before a0 Z = true) (wim : (Jvm.Cond.instanceMethod z).before a0 Z = true) (wi : (Jvm.Cond.initialized z.cls).before a0 Z = true) (wc : (Jvm.Cond.code z cz mz rz).before a0 Z = true)
    (hz : z.cls ≠ "java/lang/invoke/MethodHandle" ∧ z.cls ≠ "java/lang/invoke/VarHandle") (hpd : parseMethodDescriptor z.desc = some ⟨ps, rr⟩) (hlen : argsL.length = ps.length) {S0 : List Value} (hS : S0 = argsL.reverse ++ .ref a :: S) (hsz : Ls.size = ml)
    (hf : rm.frames + 1 ≤ R.frames) (hlo : (S.map fun v => v.category).sum + (mz + 11) + rm.locals ≤ R.locals) (hk : k + rm.cells ≤ R.cells) (hj : j + rm.slots ≤ R.slots)
    (q : ∀ v T' h', Pos Z a0 n0 p l e R s m args below meth c code ml ret y T' h' (k + rm.cells) (j + rm.slots) → Qz v h' → Wp n0 p e R s below Q T' (mkF m nx Ls (v.toList ++ S))) : Wp n0 p e R s below Q T (mkF m pc Ls S0) := by
  obtain ⟨hx, hZ, hby, hml, hret, hown, hnm, hlk, eT, hn0, hw, locs, N, Y⟩ := X
  obtain ⟨hd, rfl⟩ := hd
  obtain ⟨cq, kq, qa, qb, qc⟩ := isOf hZ eT E
  have Ctr' := backOf (l := l) (R := R) (p := p) (e := e) (below := below) (s := s) (args := args) (len := 3) (W := (S.map fun v => v.category).sum) (Q := fun v h L => Fr n0 L ∧ n0 ≤ h.size ∧ Qz v h) C hZ wc wi hf hlo
  obtain ⟨v, _, ⟨T', L', k', j'⟩, -, Y', ⟨Lc, hQ, l1, l2, l3⟩, st⟩ := Y.virtualBack hx (y := z) (z := z) hown (mvT hZ wl) (mvT hZ wdc) (notFace_of_selects (args := #[]) (mvT hZ wse)) (mvT hZ wse) (mvT hZ wim) hz Ctr' qa qc (g := mkF m pc Ls S0) rfl (by rw [hml]; exact hsz) (Steps.refl _) (argsL := argsL) (rest := S) (lenOf hpd hlen) hS (by show 2 * 0 + _ ≤ _; omega) (hb hby hd) (fun _ _ => ⟨rfl, eT, hk, hj⟩)
  dsimp only [Pt.U, Pt.locs, Pt.cells, Pt.slots] at Y' l1 l2 l3 st hQ
  subst l1 l2 l3
  obtain ⟨N', hn', hQ⟩ := hQ
  exact Wp.go (fun _ t => st.trans t) (q v T' _ ⟨hx, hZ, hby, hml, hret, hown, hnm, hlk, rfl, hn', hw, _, Fr.app N N', Y'⟩ hQ)
theorem w_special (X : Pos Z a0 n0 p l e R s m args below meth c code ml ret y T h k j) {z : MethodName} {cz : ByteArray} {mz : Nat} {rm : Room} {Qz : Option Value → Heap → Prop} {ps : List FieldType} {rr : Option FieldType} {i : Nat} {argsL : List Value} {a : Addr} (hd : Dec code pc (.invokespecial i) 3 nx) (C : Ctr l Z n0 z cz mz none rm [] (.ref a :: argsL).toArray h Qz) (hz1 : z.name = "<init>") (wl : (Jvm.Cond.methodLink y.cls i z).before a0 Z = true) (wim : (Jvm.Cond.instanceMethod z).before a0 Z = true) (wi : (Jvm.Cond.initialized z.cls).before a0 Z = true) (wc : (Jvm.Cond.code z cz mz none).before a0 Z = true)
    (hz : z.cls ≠ "java/lang/invoke/MethodHandle" ∧ z.cls ≠ "java/lang/invoke/VarHandle") (hpd : parseMethodDescriptor z.desc = some ⟨ps, rr⟩) (hlen : argsL.length = ps.length) {S0 : List Value} (hS : S0 = argsL.reverse ++ .ref a :: S) (hsz : Ls.size = ml)
    (hf : rm.frames + 1 ≤ R.frames) (hlo : (S.map fun v => v.category).sum + (mz + 11) + rm.locals ≤ R.locals) (hk : k + rm.cells ≤ R.cells) (hj : j + rm.slots ≤ R.slots)
    (q : ∀ v T' h', Pos Z a0 n0 p l e R s m args below meth c code ml ret y T' h' (k + rm.cells) (j + rm.slots) → Qz v h' → Wp n0 p e R s below Q T' (mkF m nx Ls (v.toList ++ S))) : Wp n0 p e R s below Q T (mkF m pc Ls S0) := by
  obtain ⟨hx, hZ, hby, hml, hret, hown, hnm, hlk, eT, hn0, hw, locs, N, Y⟩ := X
  obtain ⟨hd, rfl⟩ := hd
  have Ctr' := backOf (l := l) (R := R) (p := p) (e := e) (below := below) (s := s) (args := args) (len := 3) (W := (S.map fun v => v.category).sum) (Q := fun v h L => Fr n0 L ∧ n0 ≤ h.size ∧ Qz v h) C hZ wc wi hf hlo
  obtain ⟨v, _, ⟨T', L', k', j'⟩, -, Y', ⟨Lc, hQ, l1, l2, l3⟩, st⟩ := Y.specialBack hx (y := z) hz1 hown (mvT hZ wl) (mvT hZ wim) (mvT hZ wc) hz Ctr' (g := mkF m pc Ls S0) rfl (by rw [hml]; exact hsz) (Steps.refl _) (a := a) (argsL := argsL) (rest := S) (lenOf hpd hlen) hS (by show 2 * 0 + _ ≤ _; omega) (hb hby hd) (fun _ _ => ⟨rfl, eT, hk, hj⟩)
  dsimp only [Pt.U, Pt.locs, Pt.cells, Pt.slots] at Y' l1 l2 l3 st hQ
  subst l1 l2 l3
  obtain ⟨N', hn', hQ⟩ := hQ
  exact Wp.go (fun _ t => st.trans t) (q v T' _ ⟨hx, hZ, hby, hml, hret, hown, hnm, hlk, rfl, hn', hw, _, Fr.app N N', Y'⟩ hQ)
theorem w_new (X : Pos Z a0 n0 p l e R s m args below meth c code ml ret y T h k j) {i n : Nat} {C : String} (hd : Dec code pc (.new i) 3 nx) (w : (Jvm.Cond.classLink y.cls i C).before a0 Z = true) (wi : (Jvm.Cond.instantiable C n).before a0 Z = true) (wz : (Jvm.Cond.initialized C).before a0 Z = true) (hk : k + 1 ≤ R.cells) (hj : j + n ≤ R.slots)
    (q : ∀ T' h' a, Pos Z a0 n0 p l e R s m args below meth c code ml ret y T' h' (k + 1) (j + n) → a = h.size → n0 ≤ a → Ext h h' → Exa Z h' a C → (∀ {O nm d : String} {ty : FieldType}, Laid Z a0 C O nm d → parseFieldDescriptor d = some ty → Fld Z h' a O nm d (defaultValue ty)) → Wp n0 p e R s below Q T' (mkF m nx Ls (.ref a :: S))) : Wp n0 p e R s below Q T (mkF m pc Ls S) := by
  obtain ⟨hx, hZ, hby, hml, hret, hown, hnm, hlk, eT, hn0, hw, locs, N, Y⟩ := X
  obtain ⟨hd, rfl⟩ := hd
  obtain ⟨T', h', Y', e', E', A', D', -, st⟩ := newO Y hx hZ hown w wi wz eT (g := mkF m pc Ls S) rfl (hb hby hd) hk hj
  exact Wp.go st (q T' h' _ ⟨hx, hZ, hby, hml, hret, hown, hnm, hlk, e', Nat.le_trans hn0 E'.1, hw, _, N, Y'⟩ rfl hn0 E' A' D')
theorem w_getF (X : Pos Z a0 n0 p l e R s m args below meth c code ml ret y T h k j) {i : Nat} {O nm d : String} {a : Addr} {v : Value} (hd : Dec code pc (.getfield i) 3 nx) (w : (Jvm.Cond.fieldLink y.cls i O nm d).before a0 Z = true) (F : Fld Z h a O nm d v)
    (q : ∀ T', Pos Z a0 n0 p l e R s m args below meth c code ml ret y T' h k j → Wp n0 p e R s below Q T' (mkF m nx Ls (v :: S))) : Wp n0 p e R s below Q T (mkF m pc Ls (.ref a :: S)) := by
  obtain ⟨hx, hZ, hby, hml, hret, hown, hnm, hlk, eT, hn0, hw, locs, N, Y⟩ := X
  obtain ⟨hd, rfl⟩ := hd
  obtain ⟨T', Y', e', st⟩ := getF Y hx hZ hown (host := "") (Or.inl w) Via.refl eT F (g := mkF m pc Ls (.ref a :: S)) rfl rfl (hb hby hd)
  exact Wp.go st (q T' ⟨hx, hZ, hby, hml, hret, hown, hnm, hlk, e', hn0, hw, _, N, Y'⟩)
theorem w_putF (X : Pos Z a0 n0 p l e R s m args below meth c code ml ret y T h k j) {i kk : Nat} {C O nm d : String} {ty : FieldType} {a : Addr} {v old : Value} (hd : Dec code pc (.putfield i) 3 nx) (w : (Jvm.Cond.fieldLink y.cls i O nm d).before a0 Z = true) (F : Fld Z h a O nm d old) (E : Exa Z h a C) (hna : n0 ≤ a) (L : (Jvm.Cond.lays C O nm d).before a0 Z = true ∨ ((Jvm.Cond.laysFinal C O nm d).before a0 Z = true ∧ y.cls = O ∧ y.name = "<init>")) (wi : (Jvm.Cond.instantiable C kk).before a0 Z = true) (hty : parseFieldDescriptor d = some ty) (hn : narrow ty v = v) (hf : fits ty v = true)
    (q : ∀ T' h', Pos Z a0 n0 p l e R s m args below meth c code ml ret y T' h' k j → Wr h h' a (Jvm.RoadKit.slotOf Z O nm d) v → Wp n0 p e R s below Q T' (mkF m nx Ls S)) : Wp n0 p e R s below Q T (mkF m pc Ls (v :: .ref a :: S)) := by
  obtain ⟨hx, hZ, hby, hml, hret, hown, hnm, hlk, eT, hn0, hw, locs, N, Y⟩ := X
  obtain ⟨hd, rfl⟩ := hd
  obtain ⟨T', h', Y', e', W', st⟩ := putF Y hx hZ hown (host := "") (Or.inl w) Via.refl eT F E (L.imp id fun q => ⟨q.1, q.2.1, hnm.trans q.2.2⟩) wi hty hn hf (g := mkF m pc Ls (v :: .ref a :: S)) rfl rfl (hb hby hd)
  exact Wp.go st (q T' h' ⟨hx, hZ, hby, hml, hret, hown, hnm, hlk, e', by rw [W'.size]; exact hn0, hw, _, Fr.snoc Y' N hna, Y'⟩ W')
end OwnKit
section OwnInit
variable {Z : State} {a0 : Array Value} {n0 : Nat} {p : Program} {l : Launch} {e : Env} {R : Room} {s : State} {m : MethodId} {args : Array Value} {below : List Frame} {meth : Method} {c : Code} {code : ByteArray} {ml : Nat} {ret : Option FieldType} {y : MethodName} {T : State} {h h' : Heap} {k j : Nat} {Q : Option Value → Heap → Prop} {pc nx tgt : Nat} {Ls : Array Slot} {S : List Value}
theorem w_initO (X : Pos Z a0 n0 p l e R s m args below meth c code ml ret y T h k j) {i : Nat} {a : Addr} (hd : Dec code pc (.invokespecial i) 3 nx) (w1 : (Jvm.Cond.methodLink y.cls i Lib.objectInit).before a0 Z = true) (w2 : (Jvm.Cond.instanceMethod Lib.objectInit).before a0 Z = true) (w3 : (Jvm.Cond.code Lib.objectInit object_method_1_code 1 none).before a0 Z = true) (hsz : Ls.size = ml) (hf : 1 ≤ R.frames) (hlo : (S.map fun v => v.category).sum + 12 ≤ R.locals)
    (q : ∀ T', Pos Z a0 n0 p l e R s m args below meth c code ml ret y T' h k j → Wp n0 p e R s below Q T' (mkF m nx Ls S)) : Wp n0 p e R s below Q T (mkF m pc Ls (.ref a :: S)) := by
  obtain ⟨hx, hZ, hby, hml, hret, hown, hnm, hlk, eT, hn0, hw, locs, N, Y⟩ := X
  obtain ⟨hd, rfl⟩ := hd
  obtain ⟨T', Y', e', st⟩ := initO Y hx hZ hown w1 w2 w3 eT (g := mkF m pc Ls (.ref a :: S)) rfl (by rw [hml]; exact hsz) rfl (hb hby hd) hf (W := (S.map fun v => v.category).sum) (by show 2 * 0 + _ ≤ _; omega) hlo
  exact Wp.go st (q T' ⟨hx, hZ, hby, hml, hret, hown, hnm, hlk, e', hn0, hw, _, N, Y'⟩)
end OwnInit
theorem D0_0 : Dec code 0 (.iload_n 0) 1 1 := ⟨at_0, rfl⟩
theorem D0_1 : Dec code 1 (.iconst 3) 1 2 := ⟨at_1, rfl⟩
theorem D0_2 : Dec code 2 .iand 1 3 := ⟨at_2, rfl⟩
theorem D0_3 : Dec code 3 (.istore 4) 2 5 := ⟨at_3, rfl⟩
theorem D0_5 : Dec code 5 (.iload_n 0) 1 6 := ⟨at_5, rfl⟩
theorem D0_6 : Dec code 6 (.iconst 2) 1 7 := ⟨at_6, rfl⟩
theorem D0_7 : Dec code 7 .iushr 1 8 := ⟨at_7, rfl⟩
theorem D0_8 : Dec code 8 (.iconst 3) 1 9 := ⟨at_8, rfl⟩
theorem D0_9 : Dec code 9 .iand 1 10 := ⟨at_9, rfl⟩
theorem D0_10 : Dec code 10 (.iconst 2) 1 11 := ⟨at_10, rfl⟩
theorem D0_11 : Dec code 11 (.invokestatic 16) 3 14 := ⟨at_11, rfl⟩
theorem D0_14 : Dec code 14 (.istore 5) 2 16 := ⟨at_14, rfl⟩
theorem D0_16 : Dec code 16 (.iload_n 0) 1 17 := ⟨at_16, rfl⟩
theorem D0_17 : Dec code 17 (.iconst 4) 1 18 := ⟨at_17, rfl⟩
theorem D0_18 : Dec code 18 .iushr 1 19 := ⟨at_18, rfl⟩
theorem D0_19 : Dec code 19 (.iconst 3) 1 20 := ⟨at_19, rfl⟩
theorem D0_20 : Dec code 20 .iand 1 21 := ⟨at_20, rfl⟩
theorem D0_21 : Dec code 21 (.iconst 2) 1 22 := ⟨at_21, rfl⟩
theorem D0_22 : Dec code 22 (.invokestatic 16) 3 25 := ⟨at_22, rfl⟩
theorem D0_25 : Dec code 25 (.istore 6) 2 27 := ⟨at_25, rfl⟩
theorem D0_27 : Dec code 27 (.iload_n 0) 1 28 := ⟨at_27, rfl⟩
theorem D0_28 : Dec code 28 (.bipush 6) 2 30 := ⟨at_28, rfl⟩
theorem D0_30 : Dec code 30 .iushr 1 31 := ⟨at_30, rfl⟩
theorem D0_31 : Dec code 31 (.iconst 3) 1 32 := ⟨at_31, rfl⟩
theorem D0_32 : Dec code 32 .iand 1 33 := ⟨at_32, rfl⟩
theorem D0_33 : Dec code 33 (.iconst 2) 1 34 := ⟨at_33, rfl⟩
theorem D0_34 : Dec code 34 (.invokestatic 16) 3 37 := ⟨at_34, rfl⟩
theorem D0_37 : Dec code 37 (.istore 7) 2 39 := ⟨at_37, rfl⟩
theorem D0_39 : Dec code 39 (.new 8) 3 42 := ⟨at_39, rfl⟩
theorem D0_42 : Dec code 42 .dup 1 43 := ⟨at_42, rfl⟩
theorem D0_43 : Dec code 43 (.bipush 6) 2 45 := ⟨at_43, rfl⟩
theorem D0_45 : Dec code 45 (.iload_n 3) 1 46 := ⟨at_45, rfl⟩
theorem D0_46 : Dec code 46 (.bipush 7) 2 48 := ⟨at_46, rfl⟩
theorem D0_48 : Dec code 48 .iand 1 49 := ⟨at_48, rfl⟩
theorem D0_49 : Dec code 49 .iadd 1 50 := ⟨at_49, rfl⟩
theorem D0_50 : Dec code 50 (.invokespecial 22) 3 53 := ⟨at_50, rfl⟩
theorem D0_53 : Dec code 53 (.astore 8) 2 55 := ⟨at_53, rfl⟩
theorem D0_55 : Dec code 55 (.iload 4) 2 57 := ⟨at_55, rfl⟩
theorem D0_57 : Dec code 57 (.iconst 1) 1 58 := ⟨at_57, rfl⟩
theorem D0_58 : Jmp code 58 (.if_icmp .lt 12) 12 61 70 := ⟨at_58, rfl, by decide, by decide⟩
theorem D0_61 : Dec code 61 (.aload 8) 2 63 := ⟨at_61, rfl⟩
theorem D0_63 : Dec code 63 (.iload 5) 2 65 := ⟨at_63, rfl⟩
theorem D0_65 : Dec code 65 (.iload_n 1) 1 66 := ⟨at_65, rfl⟩
theorem D0_66 : Dec code 66 (.iload_n 2) 1 67 := ⟨at_66, rfl⟩
theorem D0_67 : Dec code 67 (.invokestatic 25) 3 70 := ⟨at_67, rfl⟩
theorem D0_70 : Dec code 70 (.iload 4) 2 72 := ⟨at_70, rfl⟩
theorem D0_72 : Dec code 72 (.iconst 2) 1 73 := ⟨at_72, rfl⟩
theorem D0_73 : Jmp code 73 (.if_icmp .lt 12) 12 76 85 := ⟨at_73, rfl, by decide, by decide⟩
theorem D0_76 : Dec code 76 (.aload 8) 2 78 := ⟨at_76, rfl⟩
theorem D0_78 : Dec code 78 (.iload 6) 2 80 := ⟨at_78, rfl⟩
theorem D0_80 : Dec code 80 (.iload_n 1) 1 81 := ⟨at_80, rfl⟩
theorem D0_81 : Dec code 81 (.iload_n 2) 1 82 := ⟨at_81, rfl⟩
theorem D0_82 : Dec code 82 (.invokestatic 25) 3 85 := ⟨at_82, rfl⟩
theorem D0_85 : Dec code 85 (.iload 4) 2 87 := ⟨at_85, rfl⟩
theorem D0_87 : Dec code 87 (.iconst 3) 1 88 := ⟨at_87, rfl⟩
theorem D0_88 : Jmp code 88 (.if_icmp .lt 12) 12 91 100 := ⟨at_88, rfl, by decide, by decide⟩
theorem D0_91 : Dec code 91 (.aload 8) 2 93 := ⟨at_91, rfl⟩
theorem D0_93 : Dec code 93 (.iload 7) 2 95 := ⟨at_93, rfl⟩
theorem D0_95 : Dec code 95 (.iload_n 1) 1 96 := ⟨at_95, rfl⟩
theorem D0_96 : Dec code 96 (.iload_n 2) 1 97 := ⟨at_96, rfl⟩
theorem D0_97 : Dec code 97 (.invokestatic 25) 3 100 := ⟨at_97, rfl⟩
theorem D0_100 : Dec code 100 (.iload 5) 2 102 := ⟨at_100, rfl⟩
theorem D0_102 : Dec code 102 (.istore 9) 2 104 := ⟨at_102, rfl⟩
theorem D0_104 : Dec code 104 (.iload 5) 2 106 := ⟨at_104, rfl⟩
theorem D0_106 : Dec code 106 (.iload 6) 2 108 := ⟨at_106, rfl⟩
theorem D0_108 : Dec code 108 .iadd 1 109 := ⟨at_108, rfl⟩
theorem D0_109 : Dec code 109 (.istore 10) 2 111 := ⟨at_109, rfl⟩
theorem D0_111 : Dec code 111 (.iload 5) 2 113 := ⟨at_111, rfl⟩
theorem D0_113 : Dec code 113 (.iload 6) 2 115 := ⟨at_113, rfl⟩
theorem D0_115 : Dec code 115 .iadd 1 116 := ⟨at_115, rfl⟩
theorem D0_116 : Dec code 116 (.iload 7) 2 118 := ⟨at_116, rfl⟩
theorem D0_118 : Dec code 118 .iadd 1 119 := ⟨at_118, rfl⟩
theorem D0_119 : Dec code 119 (.istore 11) 2 121 := ⟨at_119, rfl⟩
theorem D0_121 : Dec code 121 (.aload 8) 2 123 := ⟨at_121, rfl⟩
theorem D0_123 : Dec code 123 (.iconst 0) 1 124 := ⟨at_123, rfl⟩
theorem D0_124 : Dec code 124 (.invokevirtual 31) 3 127 := ⟨at_124, rfl⟩
theorem D0_127 : Jmp code 127 (.ifCond .ne 7) 7 130 134 := ⟨at_127, rfl, by decide, by decide⟩
theorem D0_130 : Dec code 130 (.iconst 1) 1 131 := ⟨at_130, rfl⟩
theorem D0_131 : Jmp code 131 (.goto 4) 4 134 135 := ⟨at_131, rfl, by decide, by decide⟩
theorem D0_135 : Dec code 135 (.istore 12) 2 137 := ⟨at_135, rfl⟩
theorem D0_137 : Dec code 137 (.iload 4) 2 139 := ⟨at_137, rfl⟩
theorem D0_139 : Dec code 139 (.iconst 1) 1 140 := ⟨at_139, rfl⟩
theorem D0_140 : Jmp code 140 (.if_icmp .lt 26) 26 143 166 := ⟨at_140, rfl, by decide, by decide⟩
theorem D0_143 : Dec code 143 (.iload 12) 2 145 := ⟨at_143, rfl⟩
theorem D0_145 : Jmp code 145 (.ifCond .eq 18) 18 148 163 := ⟨at_145, rfl, by decide, by decide⟩
theorem D0_148 : Dec code 148 (.aload 8) 2 150 := ⟨at_148, rfl⟩
theorem D0_150 : Dec code 150 (.iconst 1) 1 151 := ⟨at_150, rfl⟩
theorem D0_151 : Dec code 151 (.invokevirtual 31) 3 154 := ⟨at_151, rfl⟩
theorem D0_154 : Dec code 154 (.iload 9) 2 156 := ⟨at_154, rfl⟩
theorem D0_156 : Jmp code 156 (.if_icmp .ne 7) 7 159 163 := ⟨at_156, rfl, by decide, by decide⟩
theorem D0_159 : Dec code 159 (.iconst 1) 1 160 := ⟨at_159, rfl⟩
theorem D0_160 : Jmp code 160 (.goto 4) 4 163 164 := ⟨at_160, rfl, by decide, by decide⟩
theorem D0_164 : Dec code 164 (.istore 12) 2 166 := ⟨at_164, rfl⟩
theorem D0_166 : Dec code 166 (.iload 4) 2 168 := ⟨at_166, rfl⟩
theorem D0_168 : Dec code 168 (.iconst 2) 1 169 := ⟨at_168, rfl⟩
theorem D0_169 : Jmp code 169 (.if_icmp .lt 26) 26 172 195 := ⟨at_169, rfl, by decide, by decide⟩
theorem D0_172 : Dec code 172 (.iload 12) 2 174 := ⟨at_172, rfl⟩
theorem D0_174 : Jmp code 174 (.ifCond .eq 18) 18 177 192 := ⟨at_174, rfl, by decide, by decide⟩
theorem D0_177 : Dec code 177 (.aload 8) 2 179 := ⟨at_177, rfl⟩
theorem D0_179 : Dec code 179 (.iconst 2) 1 180 := ⟨at_179, rfl⟩
theorem D0_180 : Dec code 180 (.invokevirtual 31) 3 183 := ⟨at_180, rfl⟩
theorem D0_183 : Dec code 183 (.iload 10) 2 185 := ⟨at_183, rfl⟩
theorem D0_185 : Jmp code 185 (.if_icmp .ne 7) 7 188 192 := ⟨at_185, rfl, by decide, by decide⟩
theorem D0_188 : Dec code 188 (.iconst 1) 1 189 := ⟨at_188, rfl⟩
theorem D0_189 : Jmp code 189 (.goto 4) 4 192 193 := ⟨at_189, rfl, by decide, by decide⟩
theorem D0_193 : Dec code 193 (.istore 12) 2 195 := ⟨at_193, rfl⟩
theorem D0_195 : Dec code 195 (.iload 4) 2 197 := ⟨at_195, rfl⟩
theorem D0_197 : Dec code 197 (.iconst 3) 1 198 := ⟨at_197, rfl⟩
theorem D0_198 : Jmp code 198 (.if_icmp .lt 26) 26 201 224 := ⟨at_198, rfl, by decide, by decide⟩
theorem D0_201 : Dec code 201 (.iload 12) 2 203 := ⟨at_201, rfl⟩
theorem D0_203 : Jmp code 203 (.ifCond .eq 18) 18 206 221 := ⟨at_203, rfl, by decide, by decide⟩
theorem D0_206 : Dec code 206 (.aload 8) 2 208 := ⟨at_206, rfl⟩
theorem D0_208 : Dec code 208 (.iconst 3) 1 209 := ⟨at_208, rfl⟩
theorem D0_209 : Dec code 209 (.invokevirtual 31) 3 212 := ⟨at_209, rfl⟩
theorem D0_212 : Dec code 212 (.iload 11) 2 214 := ⟨at_212, rfl⟩
theorem D0_214 : Jmp code 214 (.if_icmp .ne 7) 7 217 221 := ⟨at_214, rfl, by decide, by decide⟩
theorem D0_217 : Dec code 217 (.iconst 1) 1 218 := ⟨at_217, rfl⟩
theorem D0_218 : Jmp code 218 (.goto 4) 4 221 222 := ⟨at_218, rfl, by decide, by decide⟩
theorem D0_222 : Dec code 222 (.istore 12) 2 224 := ⟨at_222, rfl⟩
theorem D0_224 : Dec code 224 (.iload 12) 2 226 := ⟨at_224, rfl⟩
theorem D0_226 : Dec code 226 .ireturn 1 227 := ⟨at_226, rfl⟩
theorem D1_0 : Dec jdk_29_method_69_code 0 (.iload_n 0) 1 1 := ⟨by decide +kernel, rfl⟩
theorem D1_1 : Dec jdk_29_method_69_code 1 (.iload_n 1) 1 2 := ⟨by decide +kernel, rfl⟩
theorem D1_2 : Jmp jdk_29_method_69_code 2 (.if_icmp .gt 7) 7 5 9 := ⟨by decide +kernel, rfl, by decide, by decide⟩
theorem D1_5 : Dec jdk_29_method_69_code 5 (.iload_n 0) 1 6 := ⟨by decide +kernel, rfl⟩
theorem D1_6 : Jmp jdk_29_method_69_code 6 (.goto 4) 4 9 10 := ⟨by decide +kernel, rfl, by decide, by decide⟩
theorem D1_9 : Dec jdk_29_method_69_code 9 (.iload_n 1) 1 10 := ⟨by decide +kernel, rfl⟩
theorem D1_10 : Dec jdk_29_method_69_code 10 .ireturn 1 11 := ⟨by decide +kernel, rfl⟩
theorem D2_0 : Dec prog_46_method_1_code 0 (.aload_n 0) 1 1 := ⟨by decide +kernel, rfl⟩
theorem D2_1 : Dec prog_46_method_1_code 1 (.invokespecial 3) 3 4 := ⟨by decide +kernel, rfl⟩
theorem D2_4 : Dec prog_46_method_1_code 4 (.aload_n 0) 1 5 := ⟨by decide +kernel, rfl⟩
theorem D2_5 : Dec prog_46_method_1_code 5 (.sipush 1024) 3 8 := ⟨by decide +kernel, rfl⟩
theorem D2_8 : Dec prog_46_method_1_code 8 (.newarray .int) 2 10 := ⟨by decide +kernel, rfl⟩
theorem D2_10 : Dec prog_46_method_1_code 10 (.putfield 11) 3 13 := ⟨by decide +kernel, rfl⟩
theorem D2_13 : Dec prog_46_method_1_code 13 (.aload_n 0) 1 14 := ⟨by decide +kernel, rfl⟩
theorem D2_14 : Dec prog_46_method_1_code 14 (.iload_n 1) 1 15 := ⟨by decide +kernel, rfl⟩
theorem D2_15 : Dec prog_46_method_1_code 15 (.putfield 15) 3 18 := ⟨by decide +kernel, rfl⟩
theorem D2_18 : Dec prog_46_method_1_code 18 (.aload_n 0) 1 19 := ⟨by decide +kernel, rfl⟩
theorem D2_19 : Dec prog_46_method_1_code 19 (.sipush 1024) 3 22 := ⟨by decide +kernel, rfl⟩
theorem D2_22 : Dec prog_46_method_1_code 22 (.iload_n 1) 1 23 := ⟨by decide +kernel, rfl⟩
theorem D2_23 : Dec prog_46_method_1_code 23 (.invokestatic 19) 3 26 := ⟨by decide +kernel, rfl⟩
theorem D2_26 : Dec prog_46_method_1_code 26 (.newarray .int) 2 28 := ⟨by decide +kernel, rfl⟩
theorem D2_28 : Dec prog_46_method_1_code 28 (.putfield 25) 3 31 := ⟨by decide +kernel, rfl⟩
theorem D2_31 : Dec prog_46_method_1_code 31 (.aload_n 0) 1 32 := ⟨by decide +kernel, rfl⟩
theorem D2_32 : Dec prog_46_method_1_code 32 (.aload_n 0) 1 33 := ⟨by decide +kernel, rfl⟩
theorem D2_33 : Dec prog_46_method_1_code 33 (.getfield 25) 3 36 := ⟨by decide +kernel, rfl⟩
theorem D2_36 : Dec prog_46_method_1_code 36 .arraylength 1 37 := ⟨by decide +kernel, rfl⟩
theorem D2_37 : Dec prog_46_method_1_code 37 (.newarray .int) 2 39 := ⟨by decide +kernel, rfl⟩
theorem D2_39 : Dec prog_46_method_1_code 39 (.putfield 28) 3 42 := ⟨by decide +kernel, rfl⟩
theorem D2_42 : Dec prog_46_method_1_code 42 .return_ 1 43 := ⟨by decide +kernel, rfl⟩
theorem D4_0 : Dec prog_46_method_5_code 0 (.iload_n 1) 1 1 := ⟨by decide +kernel, rfl⟩
theorem D4_1 : Dec prog_46_method_5_code 1 (.aload_n 0) 1 2 := ⟨by decide +kernel, rfl⟩
theorem D4_2 : Dec prog_46_method_5_code 2 (.getfield 31) 3 5 := ⟨by decide +kernel, rfl⟩
theorem D4_5 : Jmp prog_46_method_5_code 5 (.if_icmp .ne 10) 10 8 15 := ⟨by decide +kernel, rfl, by decide, by decide⟩
theorem D4_8 : Dec prog_46_method_5_code 8 (.aload_n 0) 1 9 := ⟨by decide +kernel, rfl⟩
theorem D4_9 : Dec prog_46_method_5_code 9 (.getfield 40) 3 12 := ⟨by decide +kernel, rfl⟩
theorem D4_12 : Jmp prog_46_method_5_code 12 (.goto 9) 9 15 21 := ⟨by decide +kernel, rfl, by decide, by decide⟩
theorem D4_15 : Dec prog_46_method_5_code 15 (.aload_n 0) 1 16 := ⟨by decide +kernel, rfl⟩
theorem D4_16 : Dec prog_46_method_5_code 16 (.getfield 11) 3 19 := ⟨by decide +kernel, rfl⟩
theorem D4_19 : Dec prog_46_method_5_code 19 (.iload_n 1) 1 20 := ⟨by decide +kernel, rfl⟩
theorem D4_20 : Dec prog_46_method_5_code 20 .iaload 1 21 := ⟨by decide +kernel, rfl⟩
theorem D4_21 : Dec prog_46_method_5_code 21 .ireturn 1 22 := ⟨by decide +kernel, rfl⟩
theorem D5_0 : Dec method_2_code 0 (.aload_n 0) 1 1 := ⟨by decide +kernel, rfl⟩
theorem D5_1 : Dec method_2_code 1 (.invokevirtual 7) 3 4 := ⟨by decide +kernel, rfl⟩
theorem D5_4 : Dec method_2_code 4 (.iload_n 1) 1 5 := ⟨by decide +kernel, rfl⟩
theorem D5_5 : Dec method_2_code 5 (.iconst 1) 1 6 := ⟨by decide +kernel, rfl⟩
theorem D5_6 : Jmp method_2_code 6 (.if_icmp .lt 9) 9 9 15 := ⟨by decide +kernel, rfl, by decide, by decide⟩
theorem D5_9 : Dec method_2_code 9 (.aload_n 0) 1 10 := ⟨by decide +kernel, rfl⟩
theorem D5_10 : Dec method_2_code 10 (.iload_n 2) 1 11 := ⟨by decide +kernel, rfl⟩
theorem D5_11 : Dec method_2_code 11 (.iload_n 3) 1 12 := ⟨by decide +kernel, rfl⟩
theorem D5_12 : Dec method_2_code 12 (.invokevirtual 12) 3 15 := ⟨by decide +kernel, rfl⟩
theorem D5_15 : Dec method_2_code 15 (.iload_n 1) 1 16 := ⟨by decide +kernel, rfl⟩
theorem D5_16 : Dec method_2_code 16 (.iconst 2) 1 17 := ⟨by decide +kernel, rfl⟩
theorem D5_17 : Jmp method_2_code 17 (.if_icmp .lt 9) 9 20 26 := ⟨by decide +kernel, rfl, by decide, by decide⟩
theorem D5_20 : Dec method_2_code 20 (.aload_n 0) 1 21 := ⟨by decide +kernel, rfl⟩
theorem D5_21 : Dec method_2_code 21 (.iload_n 3) 1 22 := ⟨by decide +kernel, rfl⟩
theorem D5_22 : Dec method_2_code 22 (.iload_n 2) 1 23 := ⟨by decide +kernel, rfl⟩
theorem D5_23 : Dec method_2_code 23 (.invokevirtual 12) 3 26 := ⟨by decide +kernel, rfl⟩
theorem D5_26 : Dec method_2_code 26 .return_ 1 27 := ⟨by decide +kernel, rfl⟩
theorem D6_0 : Dec prog_46_method_2_code 0 (.aload_n 0) 1 1 := ⟨by decide +kernel, rfl⟩
theorem D6_1 : Dec prog_46_method_2_code 1 (.getfield 31) 3 4 := ⟨by decide +kernel, rfl⟩
theorem D6_4 : Dec prog_46_method_2_code 4 (.aload_n 0) 1 5 := ⟨by decide +kernel, rfl⟩
theorem D6_5 : Dec prog_46_method_2_code 5 (.getfield 11) 3 8 := ⟨by decide +kernel, rfl⟩
theorem D6_8 : Dec prog_46_method_2_code 8 .arraylength 1 9 := ⟨by decide +kernel, rfl⟩
theorem D6_9 : Jmp prog_46_method_2_code 9 (.if_icmp .ne 20) 20 12 29 := ⟨by decide +kernel, rfl, by decide, by decide⟩
theorem D6_29 : Dec prog_46_method_2_code 29 (.aload_n 0) 1 30 := ⟨by decide +kernel, rfl⟩
theorem D6_30 : Dec prog_46_method_2_code 30 (.getfield 11) 3 33 := ⟨by decide +kernel, rfl⟩
theorem D6_33 : Dec prog_46_method_2_code 33 (.aload_n 0) 1 34 := ⟨by decide +kernel, rfl⟩
theorem D6_34 : Dec prog_46_method_2_code 34 .dup 1 35 := ⟨by decide +kernel, rfl⟩
theorem D6_35 : Dec prog_46_method_2_code 35 (.getfield 31) 3 38 := ⟨by decide +kernel, rfl⟩
theorem D6_38 : Dec prog_46_method_2_code 38 .dup_x1 1 39 := ⟨by decide +kernel, rfl⟩
theorem D6_39 : Dec prog_46_method_2_code 39 (.iconst 1) 1 40 := ⟨by decide +kernel, rfl⟩
theorem D6_40 : Dec prog_46_method_2_code 40 .iadd 1 41 := ⟨by decide +kernel, rfl⟩
theorem D6_41 : Dec prog_46_method_2_code 41 (.putfield 31) 3 44 := ⟨by decide +kernel, rfl⟩
theorem D6_44 : Dec prog_46_method_2_code 44 (.aload_n 0) 1 45 := ⟨by decide +kernel, rfl⟩
theorem D6_45 : Dec prog_46_method_2_code 45 (.getfield 40) 3 48 := ⟨by decide +kernel, rfl⟩
theorem D6_48 : Dec prog_46_method_2_code 48 .iastore 1 49 := ⟨by decide +kernel, rfl⟩
theorem D6_49 : Dec prog_46_method_2_code 49 .return_ 1 50 := ⟨by decide +kernel, rfl⟩
theorem D7_0 : Dec prog_46_method_3_code 0 (.aload_n 0) 1 1 := ⟨by decide +kernel, rfl⟩
theorem D7_1 : Dec prog_46_method_3_code 1 (.getfield 40) 3 4 := ⟨by decide +kernel, rfl⟩
theorem D7_4 : Dec prog_46_method_3_code 4 (.aload_n 0) 1 5 := ⟨by decide +kernel, rfl⟩
theorem D7_5 : Dec prog_46_method_3_code 5 (.getfield 25) 3 8 := ⟨by decide +kernel, rfl⟩
theorem D7_8 : Dec prog_46_method_3_code 8 .arraylength 1 9 := ⟨by decide +kernel, rfl⟩
theorem D7_9 : Jmp prog_46_method_3_code 9 (.if_icmp .ne 77) 77 12 86 := ⟨by decide +kernel, rfl, by decide, by decide⟩
theorem D7_86 : Dec prog_46_method_3_code 86 (.aload_n 0) 1 87 := ⟨by decide +kernel, rfl⟩
theorem D7_87 : Dec prog_46_method_3_code 87 (.getfield 25) 3 90 := ⟨by decide +kernel, rfl⟩
theorem D7_90 : Dec prog_46_method_3_code 90 (.aload_n 0) 1 91 := ⟨by decide +kernel, rfl⟩
theorem D7_91 : Dec prog_46_method_3_code 91 (.getfield 40) 3 94 := ⟨by decide +kernel, rfl⟩
theorem D7_94 : Dec prog_46_method_3_code 94 (.iload_n 1) 1 95 := ⟨by decide +kernel, rfl⟩
theorem D7_95 : Dec prog_46_method_3_code 95 .iastore 1 96 := ⟨by decide +kernel, rfl⟩
theorem D7_96 : Dec prog_46_method_3_code 96 (.aload_n 0) 1 97 := ⟨by decide +kernel, rfl⟩
theorem D7_97 : Dec prog_46_method_3_code 97 (.getfield 28) 3 100 := ⟨by decide +kernel, rfl⟩
theorem D7_100 : Dec prog_46_method_3_code 100 (.aload_n 0) 1 101 := ⟨by decide +kernel, rfl⟩
theorem D7_101 : Dec prog_46_method_3_code 101 (.getfield 40) 3 104 := ⟨by decide +kernel, rfl⟩
theorem D7_104 : Dec prog_46_method_3_code 104 (.iload_n 2) 1 105 := ⟨by decide +kernel, rfl⟩
theorem D7_105 : Dec prog_46_method_3_code 105 .iastore 1 106 := ⟨by decide +kernel, rfl⟩
theorem D7_106 : Dec prog_46_method_3_code 106 (.aload_n 0) 1 107 := ⟨by decide +kernel, rfl⟩
theorem D7_107 : Dec prog_46_method_3_code 107 .dup 1 108 := ⟨by decide +kernel, rfl⟩
theorem D7_108 : Dec prog_46_method_3_code 108 (.getfield 40) 3 111 := ⟨by decide +kernel, rfl⟩
theorem D7_111 : Dec prog_46_method_3_code 111 (.iconst 1) 1 112 := ⟨by decide +kernel, rfl⟩
theorem D7_112 : Dec prog_46_method_3_code 112 .iadd 1 113 := ⟨by decide +kernel, rfl⟩
theorem D7_113 : Dec prog_46_method_3_code 113 (.putfield 40) 3 116 := ⟨by decide +kernel, rfl⟩
theorem D7_116 : Dec prog_46_method_3_code 116 .return_ 1 117 := ⟨by decide +kernel, rfl⟩
theorem pd_0 : parseMethodDescriptor "(II)I" = some ⟨[.int, .int], some .int⟩ := by decide +kernel
theorem pd_1 : parseMethodDescriptor "()V" = some ⟨[], none⟩ := by decide +kernel
theorem pd_2 : parseMethodDescriptor "(II)V" = some ⟨[.int, .int], none⟩ := by decide +kernel
theorem pd_3 : parseMethodDescriptor "(I)V" = some ⟨[.int], none⟩ := by decide +kernel
theorem pd_4 : parseMethodDescriptor "(I)I" = some ⟨[.int], some .int⟩ := by decide +kernel
theorem pd_5 : parseMethodDescriptor "(Lcom/example/tokenfold/tokenfold/statespace/ArcStore;III)V" = some ⟨[(.object "com/example/tokenfold/tokenfold/statespace/ArcStore"), .int, .int, .int], none⟩ := by decide +kernel
section OwnNums
theorem n_bv (a : Nat) : (Int32.ofNat a).toBitVec = BitVec.ofNat 32 a := rfl
theorem eq_mod {x y : Int32} (h : (x.toInt - y.toInt) % 4294967296 = 0) : x = y := Int32.toInt_inj.mp (by have := rng32 x; have := rng32 y; omega)
theorem eq_modL {x y : Int64} (h : (x.toInt - y.toInt) % 18446744073709551616 = 0) : x = y := Int64.toInt_inj.mp (by have := rng64 x; have := rng64 y; omega)
theorem n_add (a b : Nat) : Int32.ofNat a + Int32.ofNat b = Int32.ofNat (a + b) := (Int32.ofNat_add a b).symm
theorem n_mul (a b : Nat) : Int32.ofNat a * Int32.ofNat b = Int32.ofNat (a * b) := (Int32.ofNat_mul a b).symm
theorem n_sub {a b : Nat} (h : b ≤ a) : Int32.ofNat a - Int32.ofNat b = Int32.ofNat (a - b) := by
  have := n_add (a - b) b
  rw [Nat.sub_add_cancel h] at this
  rw [← this, Int32.add_sub_cancel]
theorem n_and (a b : Nat) : Int32.ofNat a &&& Int32.ofNat b = Int32.ofNat (a &&& b) := by
  apply Int32.toBitVec_inj.mp
  rw [Int32.toBitVec_and, n_bv, n_bv, n_bv]
  exact BitVec.ofNat_and.symm
theorem n_or (a b : Nat) : Int32.ofNat a ||| Int32.ofNat b = Int32.ofNat (a ||| b) := by
  apply Int32.toBitVec_inj.mp
  rw [Int32.toBitVec_or, n_bv, n_bv, n_bv]
  exact BitVec.ofNat_or.symm
theorem n_q {k : Nat} (hk : k < 32) : (Int32.ofNat k).toBitVec.toNat % 32 = k := by
  rw [n_bv, BitVec.toNat_ofNat]; omega
theorem n_q64 {k : Nat} (hk : k < 64) : (Int32.ofNat k).toBitVec.toNat % 64 = k := by
  rw [n_bv, BitVec.toNat_ofNat]; omega
theorem toInt_mod (a : Nat) : ((Int32.ofNat a).toInt - a) % 4294967296 = 0 := by
  have h := bm32 (((BitVec.ofNat 32 a).toNat : Nat) : Int)
  rw [show (Int32.ofNat a).toInt = (BitVec.ofNat 32 a).toInt from rfl, BitVec.toInt_eq_toNat_bmod]
  rw [BitVec.toNat_ofNat] at *
  generalize Int.bmod ((a % 2 ^ 32 : Nat) : Int) (2 ^ 32) = w1 at *
  omega
theorem n_inj {a b : Nat} (ha : a < 2147483648) (hb : b < 2147483648) : Int32.ofNat a = Int32.ofNat b ↔ a = b := ⟨fun h => by have := congrArg Int32.toInt h; rw [ofNat_toInt ha, ofNat_toInt hb] at this; omega, fun h => by rw [h]⟩
theorem n_shl (a : Nat) {k : Nat} (hk : k < 32) : jshl (Int32.ofNat a) (Int32.ofNat k) = Int32.ofNat (a * 2 ^ k) := by
  apply eq_mod
  have h1 : ((jshl (Int32.ofNat a) (Int32.ofNat k)).toInt - (Int32.ofNat a).toInt * ((2 ^ k : Nat) : Int)) % 4294967296 = 0 := c_ishl (Int32.ofNat a) (Int32.ofNat k) k (n_q hk)
  generalize (jshl (Int32.ofNat a) (Int32.ofNat k)).toInt = w1 at *
  have h2 := toInt_mod (a * 2 ^ k)
  have h3 := toInt_mod a
  obtain ⟨q, hq⟩ := Int.dvd_of_emod_eq_zero h3
  have h4 : (Int32.ofNat a).toInt * ((2 ^ k : Nat) : Int) - ((a * 2 ^ k : Nat) : Int) = 4294967296 * (q * ((2 ^ k : Nat) : Int)) := by
    rw [Int.natCast_mul, ← Int.sub_mul, hq, Int.mul_assoc]
  omega
theorem n_ushr0 (x : Int32) : jushr x 0 = x := by
  apply Int32.toBitVec_inj.mp
  simp [jushr]
theorem n_ushr {a k : Nat} (ha : a < 2147483648) (hk : k < 32) : jushr (Int32.ofNat a) (Int32.ofNat k) = Int32.ofNat (a / 2 ^ k) := by
  rcases Nat.eq_zero_or_pos k with rfl | h0
  · rw [Nat.pow_zero, Nat.div_one]; exact n_ushr0 _
  · have hd : a / 2 ^ k ≤ a := Nat.div_le_self _ _
    refine eq_ofNat (by omega) ?_
    rw [c_iushr (Int32.ofNat a) (Int32.ofNat k) k (n_q hk) h0, ofNat_toInt ha, show ((a : Int) % 4294967296) = a by omega]
    exact (Int.natCast_ediv _ _).symm
theorem n_shr {a k : Nat} (ha : a < 2147483648) (hk : k < 32) : jshr (Int32.ofNat a) (Int32.ofNat k) = Int32.ofNat (a / 2 ^ k) := by
  have hd : a / 2 ^ k ≤ a := Nat.div_le_self _ _
  refine eq_ofNat (by omega) ?_
  rw [c_ishr (Int32.ofNat a) (Int32.ofNat k) k (n_q hk), ofNat_toInt ha]
  exact (Int.natCast_ediv _ _).symm
theorem n_low (a k : Nat) : Int32.ofNat a &&& Int32.ofNat (2 ^ k - 1) = Int32.ofNat (a % 2 ^ k) := by rw [n_and, Nat.and_two_pow_sub_one_eq_mod]
theorem n_orlow (a : Nat) {i t : Nat} (ht : t < 2 ^ i) : Int32.ofNat (2 ^ i * a) ||| Int32.ofNat t = Int32.ofNat (2 ^ i * a + t) := by rw [n_or, Nat.two_pow_add_eq_or_of_lt ht]
theorem n_rem {a k : Nat} (ha : a < 2147483648) (h1 : 0 < k) (hk : k < 2147483648) : Int32.ofNat a % Int32.ofNat k = Int32.ofNat (a % k) := by
  have hm := Nat.mod_lt a h1
  refine eq_ofNat (by omega) ?_
  rw [(c_irem (Int32.ofNat a) (Int32.ofNat k) k (ofNat_toInt hk)).1 (by rw [ofNat_toInt ha]; omega), ofNat_toInt ha]
  exact (Int.natCast_emod _ _).symm
theorem n_nn (x : Int32) (h : 0 ≤ x.toInt) : ∃ u : Nat, u < 2147483648 ∧ x = Int32.ofNat u := by
  have := rng32 x
  exact ⟨x.toInt.toNat, by omega, eq_ofNat (by omega) (by omega)⟩
theorem n_mask31 (x : Int32) : ∃ u : Nat, u < 2147483648 ∧ x &&& 2147483647 = Int32.ofNat u := n_nn _ (c_and x 2147483647 (by decide)).1
theorem n_mask (x : Int32) (k : Nat) (hk : k ≤ 31) {m : Int32} (hm : m.toBitVec.toNat = 2 ^ k - 1) : x &&& m = Int32.ofNat ((x.toInt % (2 ^ k : Nat)).toNat) := by
  have h1 : (0 : Int) < ((2 ^ k : Nat) : Int) := by
    have := Nat.two_pow_pos k
    omega
  have h2 : ((2 ^ k : Nat) : Int) ≤ 2147483648 := by
    have : 2 ^ k ≤ 2147483648 := Nat.pow_le_pow_right (n := 2) (by decide) hk
    omega
  have h3 := Int.emod_nonneg x.toInt (Int.ne_of_gt h1)
  have h4 := Int.emod_lt_of_pos x.toInt h1
  exact eq_ofNat (by omega) (by rw [c_mask x m k hk hm]; omega)
theorem jbyte_idem (x : Int32) : jbyte (jbyte x) = jbyte x := by
  have h1 := c_i2b x
  have h2 := c_i2b (jbyte x)
  exact Int32.toInt_inj.mp (by simp only [jbyte] at *; omega)
theorem jbyte_and (x : Int32) (k : Nat) (hk : k ≤ 8) {m : Int32} (hm : m.toBitVec.toNat = 2 ^ k - 1) : jbyte x &&& m = x &&& m := by
  have h1 := (c_i2b x).1
  apply Int32.toInt_inj.mp
  rw [c_mask _ m k (by omega) hm, c_mask _ m k (by omega) hm]
  have : ∃ c : Nat, 256 = 2 ^ k * c := ⟨2 ^ (8 - k), by rw [← Nat.pow_add, show k + (8 - k) = 8 by omega]⟩
  obtain ⟨c, hc⟩ := this
  obtain ⟨q, hq⟩ := Int.dvd_of_emod_eq_zero h1
  have h2 : (jbyte x).toInt = x.toInt + ((2 ^ k : Nat) : Int) * ((c : Int) * q) := by
    have h3 : (256 : Int) = ((2 ^ k : Nat) : Int) * (c : Int) := by rw [← Int.natCast_mul, ← hc]; rfl
    rw [h3, Int.mul_assoc] at hq
    simp only [jbyte]; omega
  rw [h2, Int.add_mul_emod_self_left]
end OwnNums

def Arc (Z : State) (n0 : Nat) (h : Heap) (o : Addr) (v_0 v_1 v_2 v_3 v_4 v_5 : Value) : Prop := n0 ≤ o ∧ Exa Z h o "com/example/tokenfold/tokenfold/statespace/ArcStore" ∧ Fld Z h o "com/example/tokenfold/tokenfold/statespace/ArcStore" "firstArcs" "[I" v_0 ∧ Fld Z h o "com/example/tokenfold/tokenfold/statespace/ArcStore" "capacity" "I" v_1 ∧ Fld Z h o "com/example/tokenfold/tokenfold/statespace/ArcStore" "transitions" "[I" v_2 ∧ Fld Z h o "com/example/tokenfold/tokenfold/statespace/ArcStore" "targets" "[I" v_3 ∧ Fld Z h o "com/example/tokenfold/tokenfold/statespace/ArcStore" "sources" "I" v_4 ∧ Fld Z h o "com/example/tokenfold/tokenfold/statespace/ArcStore" "size" "I" v_5
theorem Arc.ext {Z : State} {n0 : Nat} {h h' : Heap} {o : Addr} {v_0 v_1 v_2 v_3 v_4 v_5 : Value} (O : Arc Z n0 h o v_0 v_1 v_2 v_3 v_4 v_5) (X : Ext h h') : Arc Z n0 h' o v_0 v_1 v_2 v_3 v_4 v_5 := by
  obtain ⟨q0, E, F0, F1, F2, F3, F4, F5⟩ := O
  exact ⟨q0, E.ext X, F0.ext X, F1.ext X, F2.ext X, F3.ext X, F4.ext X, F5.ext X⟩
theorem Arc.keep {Z : State} {n0 : Nat} {h h' : Heap} {o : Addr} {v_0 v_1 v_2 v_3 v_4 v_5 : Value} {ws : List Addr} (O : Arc Z n0 h o v_0 v_1 v_2 v_3 v_4 v_5) (K : Keep h h' ws) (q : o ∉ ws) : Arc Z n0 h' o v_0 v_1 v_2 v_3 v_4 v_5 := by
  obtain ⟨q0, E, F0, F1, F2, F3, F4, F5⟩ := O
  exact ⟨q0, E.keep K, F0.keep K q, F1.keep K q, F2.keep K q, F3.keep K q, F4.keep K q, F5.keep K q⟩
theorem Arc.neB {Z : State} {n0 : Nat} {h : Heap} {o : Addr} {v_0 v_1 v_2 v_3 v_4 v_5 : Value} {a0 : Array Value} {a : Addr} {ty : FieldType} {n : Nat} {g : Nat → Value} (hw : ∀ d ∈ tables_1, d.before a0 Z = true) (O : Arc Z n0 h o v_0 v_1 v_2 v_3 v_4 v_5) (B : Ba Z n0 h a ty n g) : o ≠ a := by
  obtain ⟨-, -, c, A, -⟩ := B
  exact ne_arr O.2.1 (hw _ (List.mem_of_getElem? (i := 5) rfl)) A
theorem Arc.keepB {Z : State} {n0 : Nat} {h h' : Heap} {o : Addr} {v_0 v_1 v_2 v_3 v_4 v_5 : Value} {a0 : Array Value} {a : Addr} {ty : FieldType} {n : Nat} {g : Nat → Value} (hw : ∀ d ∈ tables_1, d.before a0 Z = true) (O : Arc Z n0 h o v_0 v_1 v_2 v_3 v_4 v_5) (B : Ba Z n0 h a ty n g) (K : Keep h h' [a]) : Arc Z n0 h' o v_0 v_1 v_2 v_3 v_4 v_5 := O.keep K (ninS (O.neB hw B) nin0)
theorem Arc.baW {Z : State} {n0 : Nat} {h h' : Heap} {o : Addr} {v_0 v_1 v_2 v_3 v_4 v_5 : Value} {a0 : Array Value} {a : Addr} {ty : FieldType} {n sl : Nat} {v : Value} {g : Nat → Value} (hw : ∀ d ∈ tables_1, d.before a0 Z = true) (O : Arc Z n0 h o v_0 v_1 v_2 v_3 v_4 v_5) (B : Ba Z n0 h a ty n g) (W : Wr h h' o sl v) : Ba Z n0 h' a ty n g := B.keep (Keep.of_wr W) (ninS (Ne.symm (O.neB hw B)) nin0)
theorem Arc.baK {Z : State} {n0 : Nat} {h h' : Heap} {o : Addr} {v_0 v_1 v_2 v_3 v_4 v_5 : Value} {a0 : Array Value} {a : Addr} {ty : FieldType} {n : Nat} {g : Nat → Value} (hw : ∀ d ∈ tables_1, d.before a0 Z = true) (O : Arc Z n0 h o v_0 v_1 v_2 v_3 v_4 v_5) (B : Ba Z n0 h a ty n g) (K : Keep h h' [o]) : Ba Z n0 h' a ty n g := B.keep K (ninS (Ne.symm (O.neB hw B)) nin0)
theorem Arc.put_firstArcs {Z : State} {n0 : Nat} {h h' : Heap} {o : Addr} {v_0 v_1 v_2 v_3 v_4 v_5 : Value} {a0 : Array Value} {v : Value} (hw : ∀ d ∈ tables_1, d.before a0 Z = true) (O : Arc Z n0 h o v_0 v_1 v_2 v_3 v_4 v_5) (W : Wr h h' o (Jvm.RoadKit.slotOf Z "com/example/tokenfold/tokenfold/statespace/ArcStore" "firstArcs" "[I") v) : Arc Z n0 h' o v v_1 v_2 v_3 v_4 v_5 := by
  obtain ⟨q0, E, F0, F1, F2, F3, F4, F5⟩ := O
  exact ⟨q0, E.wr W, (F0.same W), (F1.other W (Or.inr (slot_ne (Or.inr (hw _ (List.mem_of_getElem? (i := 17) rfl))) (Or.inl (hw _ (List.mem_of_getElem? (i := 15) rfl))) (by decide) (t := .int) (t' := (.array .int)) (by decide) (by decide)))), (F2.other W (Or.inr (slot_ne (Or.inl (hw _ (List.mem_of_getElem? (i := 20) rfl))) (Or.inl (hw _ (List.mem_of_getElem? (i := 15) rfl))) (by decide) (t := (.array .int)) (t' := (.array .int)) (by decide) (by decide)))), (F3.other W (Or.inr (slot_ne (Or.inl (hw _ (List.mem_of_getElem? (i := 22) rfl))) (Or.inl (hw _ (List.mem_of_getElem? (i := 15) rfl))) (by decide) (t := (.array .int)) (t' := (.array .int)) (by decide) (by decide)))), (F4.other W (Or.inr (slot_ne (Or.inl (hw _ (List.mem_of_getElem? (i := 29) rfl))) (Or.inl (hw _ (List.mem_of_getElem? (i := 15) rfl))) (by decide) (t := .int) (t' := (.array .int)) (by decide) (by decide)))), (F5.other W (Or.inr (slot_ne (Or.inl (hw _ (List.mem_of_getElem? (i := 31) rfl))) (Or.inl (hw _ (List.mem_of_getElem? (i := 15) rfl))) (by decide) (t := .int) (t' := (.array .int)) (by decide) (by decide))))⟩
theorem Arc.put_capacity {Z : State} {n0 : Nat} {h h' : Heap} {o : Addr} {v_0 v_1 v_2 v_3 v_4 v_5 : Value} {a0 : Array Value} {v : Value} (hw : ∀ d ∈ tables_1, d.before a0 Z = true) (O : Arc Z n0 h o v_0 v_1 v_2 v_3 v_4 v_5) (W : Wr h h' o (Jvm.RoadKit.slotOf Z "com/example/tokenfold/tokenfold/statespace/ArcStore" "capacity" "I") v) : Arc Z n0 h' o v_0 v v_2 v_3 v_4 v_5 := by
  obtain ⟨q0, E, F0, F1, F2, F3, F4, F5⟩ := O
  exact ⟨q0, E.wr W, (F0.other W (Or.inr (slot_ne (Or.inl (hw _ (List.mem_of_getElem? (i := 15) rfl))) (Or.inr (hw _ (List.mem_of_getElem? (i := 17) rfl))) (by decide) (t := (.array .int)) (t' := .int) (by decide) (by decide)))), (F1.same W), (F2.other W (Or.inr (slot_ne (Or.inl (hw _ (List.mem_of_getElem? (i := 20) rfl))) (Or.inr (hw _ (List.mem_of_getElem? (i := 17) rfl))) (by decide) (t := (.array .int)) (t' := .int) (by decide) (by decide)))), (F3.other W (Or.inr (slot_ne (Or.inl (hw _ (List.mem_of_getElem? (i := 22) rfl))) (Or.inr (hw _ (List.mem_of_getElem? (i := 17) rfl))) (by decide) (t := (.array .int)) (t' := .int) (by decide) (by decide)))), (F4.other W (Or.inr (slot_ne (Or.inl (hw _ (List.mem_of_getElem? (i := 29) rfl))) (Or.inr (hw _ (List.mem_of_getElem? (i := 17) rfl))) (by decide) (t := .int) (t' := .int) (by decide) (by decide)))), (F5.other W (Or.inr (slot_ne (Or.inl (hw _ (List.mem_of_getElem? (i := 31) rfl))) (Or.inr (hw _ (List.mem_of_getElem? (i := 17) rfl))) (by decide) (t := .int) (t' := .int) (by decide) (by decide))))⟩
theorem Arc.put_transitions {Z : State} {n0 : Nat} {h h' : Heap} {o : Addr} {v_0 v_1 v_2 v_3 v_4 v_5 : Value} {a0 : Array Value} {v : Value} (hw : ∀ d ∈ tables_1, d.before a0 Z = true) (O : Arc Z n0 h o v_0 v_1 v_2 v_3 v_4 v_5) (W : Wr h h' o (Jvm.RoadKit.slotOf Z "com/example/tokenfold/tokenfold/statespace/ArcStore" "transitions" "[I") v) : Arc Z n0 h' o v_0 v_1 v v_3 v_4 v_5 := by
  obtain ⟨q0, E, F0, F1, F2, F3, F4, F5⟩ := O
  exact ⟨q0, E.wr W, (F0.other W (Or.inr (slot_ne (Or.inl (hw _ (List.mem_of_getElem? (i := 15) rfl))) (Or.inl (hw _ (List.mem_of_getElem? (i := 20) rfl))) (by decide) (t := (.array .int)) (t' := (.array .int)) (by decide) (by decide)))), (F1.other W (Or.inr (slot_ne (Or.inr (hw _ (List.mem_of_getElem? (i := 17) rfl))) (Or.inl (hw _ (List.mem_of_getElem? (i := 20) rfl))) (by decide) (t := .int) (t' := (.array .int)) (by decide) (by decide)))), (F2.same W), (F3.other W (Or.inr (slot_ne (Or.inl (hw _ (List.mem_of_getElem? (i := 22) rfl))) (Or.inl (hw _ (List.mem_of_getElem? (i := 20) rfl))) (by decide) (t := (.array .int)) (t' := (.array .int)) (by decide) (by decide)))), (F4.other W (Or.inr (slot_ne (Or.inl (hw _ (List.mem_of_getElem? (i := 29) rfl))) (Or.inl (hw _ (List.mem_of_getElem? (i := 20) rfl))) (by decide) (t := .int) (t' := (.array .int)) (by decide) (by decide)))), (F5.other W (Or.inr (slot_ne (Or.inl (hw _ (List.mem_of_getElem? (i := 31) rfl))) (Or.inl (hw _ (List.mem_of_getElem? (i := 20) rfl))) (by decide) (t := .int) (t' := (.array .int)) (by decide) (by decide))))⟩
theorem Arc.put_targets {Z : State} {n0 : Nat} {h h' : Heap} {o : Addr} {v_0 v_1 v_2 v_3 v_4 v_5 : Value} {a0 : Array Value} {v : Value} (hw : ∀ d ∈ tables_1, d.before a0 Z = true) (O : Arc Z n0 h o v_0 v_1 v_2 v_3 v_4 v_5) (W : Wr h h' o (Jvm.RoadKit.slotOf Z "com/example/tokenfold/tokenfold/statespace/ArcStore" "targets" "[I") v) : Arc Z n0 h' o v_0 v_1 v_2 v v_4 v_5 := by
  obtain ⟨q0, E, F0, F1, F2, F3, F4, F5⟩ := O
  exact ⟨q0, E.wr W, (F0.other W (Or.inr (slot_ne (Or.inl (hw _ (List.mem_of_getElem? (i := 15) rfl))) (Or.inl (hw _ (List.mem_of_getElem? (i := 22) rfl))) (by decide) (t := (.array .int)) (t' := (.array .int)) (by decide) (by decide)))), (F1.other W (Or.inr (slot_ne (Or.inr (hw _ (List.mem_of_getElem? (i := 17) rfl))) (Or.inl (hw _ (List.mem_of_getElem? (i := 22) rfl))) (by decide) (t := .int) (t' := (.array .int)) (by decide) (by decide)))), (F2.other W (Or.inr (slot_ne (Or.inl (hw _ (List.mem_of_getElem? (i := 20) rfl))) (Or.inl (hw _ (List.mem_of_getElem? (i := 22) rfl))) (by decide) (t := (.array .int)) (t' := (.array .int)) (by decide) (by decide)))), (F3.same W), (F4.other W (Or.inr (slot_ne (Or.inl (hw _ (List.mem_of_getElem? (i := 29) rfl))) (Or.inl (hw _ (List.mem_of_getElem? (i := 22) rfl))) (by decide) (t := .int) (t' := (.array .int)) (by decide) (by decide)))), (F5.other W (Or.inr (slot_ne (Or.inl (hw _ (List.mem_of_getElem? (i := 31) rfl))) (Or.inl (hw _ (List.mem_of_getElem? (i := 22) rfl))) (by decide) (t := .int) (t' := (.array .int)) (by decide) (by decide))))⟩
theorem Arc.put_sources {Z : State} {n0 : Nat} {h h' : Heap} {o : Addr} {v_0 v_1 v_2 v_3 v_4 v_5 : Value} {a0 : Array Value} {v : Value} (hw : ∀ d ∈ tables_1, d.before a0 Z = true) (O : Arc Z n0 h o v_0 v_1 v_2 v_3 v_4 v_5) (W : Wr h h' o (Jvm.RoadKit.slotOf Z "com/example/tokenfold/tokenfold/statespace/ArcStore" "sources" "I") v) : Arc Z n0 h' o v_0 v_1 v_2 v_3 v v_5 := by
  obtain ⟨q0, E, F0, F1, F2, F3, F4, F5⟩ := O
  exact ⟨q0, E.wr W, (F0.other W (Or.inr (slot_ne (Or.inl (hw _ (List.mem_of_getElem? (i := 15) rfl))) (Or.inl (hw _ (List.mem_of_getElem? (i := 29) rfl))) (by decide) (t := (.array .int)) (t' := .int) (by decide) (by decide)))), (F1.other W (Or.inr (slot_ne (Or.inr (hw _ (List.mem_of_getElem? (i := 17) rfl))) (Or.inl (hw _ (List.mem_of_getElem? (i := 29) rfl))) (by decide) (t := .int) (t' := .int) (by decide) (by decide)))), (F2.other W (Or.inr (slot_ne (Or.inl (hw _ (List.mem_of_getElem? (i := 20) rfl))) (Or.inl (hw _ (List.mem_of_getElem? (i := 29) rfl))) (by decide) (t := (.array .int)) (t' := .int) (by decide) (by decide)))), (F3.other W (Or.inr (slot_ne (Or.inl (hw _ (List.mem_of_getElem? (i := 22) rfl))) (Or.inl (hw _ (List.mem_of_getElem? (i := 29) rfl))) (by decide) (t := (.array .int)) (t' := .int) (by decide) (by decide)))), (F4.same W), (F5.other W (Or.inr (slot_ne (Or.inl (hw _ (List.mem_of_getElem? (i := 31) rfl))) (Or.inl (hw _ (List.mem_of_getElem? (i := 29) rfl))) (by decide) (t := .int) (t' := .int) (by decide) (by decide))))⟩
theorem Arc.put_size {Z : State} {n0 : Nat} {h h' : Heap} {o : Addr} {v_0 v_1 v_2 v_3 v_4 v_5 : Value} {a0 : Array Value} {v : Value} (hw : ∀ d ∈ tables_1, d.before a0 Z = true) (O : Arc Z n0 h o v_0 v_1 v_2 v_3 v_4 v_5) (W : Wr h h' o (Jvm.RoadKit.slotOf Z "com/example/tokenfold/tokenfold/statespace/ArcStore" "size" "I") v) : Arc Z n0 h' o v_0 v_1 v_2 v_3 v_4 v := by
  obtain ⟨q0, E, F0, F1, F2, F3, F4, F5⟩ := O
  exact ⟨q0, E.wr W, (F0.other W (Or.inr (slot_ne (Or.inl (hw _ (List.mem_of_getElem? (i := 15) rfl))) (Or.inl (hw _ (List.mem_of_getElem? (i := 31) rfl))) (by decide) (t := (.array .int)) (t' := .int) (by decide) (by decide)))), (F1.other W (Or.inr (slot_ne (Or.inr (hw _ (List.mem_of_getElem? (i := 17) rfl))) (Or.inl (hw _ (List.mem_of_getElem? (i := 31) rfl))) (by decide) (t := .int) (t' := .int) (by decide) (by decide)))), (F2.other W (Or.inr (slot_ne (Or.inl (hw _ (List.mem_of_getElem? (i := 20) rfl))) (Or.inl (hw _ (List.mem_of_getElem? (i := 31) rfl))) (by decide) (t := (.array .int)) (t' := .int) (by decide) (by decide)))), (F3.other W (Or.inr (slot_ne (Or.inl (hw _ (List.mem_of_getElem? (i := 22) rfl))) (Or.inl (hw _ (List.mem_of_getElem? (i := 31) rfl))) (by decide) (t := (.array .int)) (t' := .int) (by decide) (by decide)))), (F4.other W (Or.inr (slot_ne (Or.inl (hw _ (List.mem_of_getElem? (i := 29) rfl))) (Or.inl (hw _ (List.mem_of_getElem? (i := 31) rfl))) (by decide) (t := .int) (t' := .int) (by decide) (by decide)))), (F5.same W)⟩
theorem Arc.new {Z : State} {n0 : Nat} {h : Heap} {o : Addr} {a0 : Array Value} (hw : ∀ d ∈ tables_1, d.before a0 Z = true) (q0 : n0 ≤ o) (E : Exa Z h o "com/example/tokenfold/tokenfold/statespace/ArcStore") (D : ∀ {O nm d : String} {ty : FieldType}, Laid Z a0 "com/example/tokenfold/tokenfold/statespace/ArcStore" O nm d → parseFieldDescriptor d = some ty → Fld Z h o O nm d (defaultValue ty)) : Arc Z n0 h o .null (.int 0) .null .null (.int 0) (.int 0) := ⟨q0, E, D (Or.inl (hw _ (List.mem_of_getElem? (i := 15) rfl))) (ty := (.array .int)) (by decide), D (Or.inr (hw _ (List.mem_of_getElem? (i := 17) rfl))) (ty := .int) (by decide), D (Or.inl (hw _ (List.mem_of_getElem? (i := 20) rfl))) (ty := (.array .int)) (by decide), D (Or.inl (hw _ (List.mem_of_getElem? (i := 22) rfl))) (ty := (.array .int)) (by decide), D (Or.inl (hw _ (List.mem_of_getElem? (i := 29) rfl))) (ty := .int) (by decide), D (Or.inl (hw _ (List.mem_of_getElem? (i := 31) rfl))) (ty := .int) (by decide)⟩
/-- a store: its fields, its three arrays -/
def Sto (Z : State) (n0 : Nat) (h : Heap) (l : Addr) (K c z : Nat) (fa : Nat → Int32) : Prop :=
  ∃ (f tr tg : Addr) (gt gg : Nat → Int32), Arc Z n0 h l (.ref f) (.int (Int32.ofNat K)) (.ref tr) (.ref tg) (.int (Int32.ofNat c)) (.int (Int32.ofNat z)) ∧ Ba Z n0 h f .int 1024 (bI fa) ∧ Ba Z n0 h tr .int K (bI gt) ∧ Ba Z n0 h tg .int K (bI gg) ∧ f ≠ tr ∧ f ≠ tg ∧ tr ≠ tg
theorem Sto.exa {Z : State} {n0 : Nat} {h : Heap} {l : Addr} {K c z : Nat} {fa : Nat → Int32} (S : Sto Z n0 h l K c z fa) : Exa Z h l "com/example/tokenfold/tokenfold/statespace/ArcStore" := by
  obtain ⟨f, tr, tg, gt, gg, O, -⟩ := S; exact O.2.1
theorem own_3 (x : Int32) : ∃ A : Nat, A < 4 ∧ x &&& 3 = Int32.ofNat A := ⟨_, by omega, n_mask x 2 (by decide) (m := 3) (by decide)⟩
theorem own_7 (x : Int32) : ∃ A : Nat, A < 8 ∧ x &&& 7 = Int32.ofNat A := ⟨_, by omega, n_mask x 3 (by decide) (m := 7) (by decide)⟩
theorem ef_1 (m : MethodId) (x1 : Int32) (x2 : Int32) : entryFrame m #[(.int x1), (.int x2)] 2 = mkF m 0 #[.val (.int x1), .val (.int x2)] [] := by first | (simp [entryFrame, mkF, argsToLocals, Value.category]; done) | rfl
set_option maxRecDepth 65536 in
set_option maxHeartbeats 40000000 in
theorem rm1 {l : Launch} {Z : State} {a0 : Array Value} {n0 : Nat} {h : Heap} (hw : ∀ d ∈ tables_1, d.before a0 Z = true) (hn : n0 ≤ h.size) (x1 : Int32) (x2 : Int32) (u1 u2 : Nat) (h1 : u1 < 2147483648) (h2 : u2 < 2147483648) (e1 : x1 = Int32.ofNat u1) (e2 : x2 = Int32.ofNat u2) :
    Ctr l Z n0 (⟨"java/lang/Math", "min", "(II)I"⟩ : MethodName) jdk_29_method_69_code 2 (some .int) ({ frames := 0, cells := 0, slots := 0, locals := 0 } : Room) [] #[(.int x1), (.int x2)] h (fun v h' => v = some (.int (Int32.ofNat (min u1 u2))) ∧ h = h') := by
  refine ctr_of (Jvm.Free.JP.mathPlain rfl (by decide +kernel)) hw hn ?_
  intro p e s m below meth c T X
  refine Wp.cast (ef_1 m x1 x2) ?_
  subst e1 e2
  refine w_iloadN X D1_0 rfl ?_
  refine w_iloadN X D1_1 rfl ?_
  refine w_icmpgt X D1_2 (fun hc2 => ?_) (fun hc2 => ?_)
  · refine w_iloadN X D1_9 rfl ?_
    exact w_ireturn X D1_10 (by decide) (by decide) (⟨by
            have f := (ofNat_lt h2 h1).mp hc2
            rw [Nat.min_eq_right (by omega)], rfl⟩)
  · refine w_iloadN X D1_5 rfl ?_
    refine w_goto X D1_6 ?_
    exact w_ireturn X D1_10 (by decide) (by decide) (⟨by
            have f : ¬ u2 < u1 := fun z => hc2 ((ofNat_lt h2 h1).mpr z)
            rw [Nat.min_eq_left (by omega)], rfl⟩)
theorem ef_2 (m : MethodId) (l0 : Addr) (c0 : Int32) : entryFrame m #[(.ref l0), (.int c0)] 2 = mkF m 0 #[.val (.ref l0), .val (.int c0)] [] := by first | (simp [entryFrame, mkF, argsToLocals, Value.category]; done) | rfl
theorem pn_2 : plainName "com/example/tokenfold/tokenfold/statespace/ArcStore" = true := by first | (simp [plainName, overriddenIn]; done) | decide +kernel
set_option maxRecDepth 65536 in
set_option maxHeartbeats 40000000 in
theorem rm2 {l : Launch} {Z : State} {a0 : Array Value} {n0 : Nat} {h : Heap} (hw : ∀ d ∈ tables_1, d.before a0 Z = true) (hn : n0 ≤ h.size) (l0 : Addr) (c0 : Int32) (K : Nat) (eK : c0 = Int32.ofNat K) (hK : K ≤ 13) (O : Arc Z n0 h l0 .null (.int 0) .null .null (.int 0) (.int 0)) :
    Ctr l Z n0 (⟨"com/example/tokenfold/tokenfold/statespace/ArcStore", "<init>", "(I)V"⟩ : MethodName) prog_46_method_1_code 2 none ({ frames := 1, cells := 3, slots := 1050, locals := 14 } : Room) [] #[(.ref l0), (.int c0)] h (fun v h' => v = none ∧ Sto Z n0 h' l0 K 0 0 (fun _ => 0)) := by
  refine ctr_of (plainFor_of_name pn_2) hw hn ?_
  intro p e s m below meth c T X
  refine Wp.cast (ef_2 m l0 c0) ?_
  subst eK
  refine w_aloadN X D2_0 rfl rfl ?_
  refine w_initO X D2_1 (hw _ (List.mem_of_getElem? (i := 10) rfl)) (hw _ (List.mem_of_getElem? (i := 11) rfl)) (hw _ (List.mem_of_getElem? (i := 12) rfl)) rfl (Nat.le_of_ble_eq_true rfl) (Nat.le_of_ble_eq_true rfl) (fun T1 X1 => ?_)
  refine w_aloadN X1 D2_4 rfl rfl ?_
  refine w_sipush X1 D2_5 (v := (1024 : Int32)) rfl ?_
  refine w_newI X1 D2_8 (hw _ (List.mem_of_getElem? (i := 13) rfl)) 1024 1024 rfl (Nat.le_of_ble_eq_true rfl) (by decide) (Nat.le_of_ble_eq_true rfl) (Nat.le_of_ble_eq_true rfl) (fun T2 h2 a2 X2 g2 E2 B2 => ?_)
  have O_E2 := O.ext E2
  refine w_putF X2 D2_10 (hw _ (List.mem_of_getElem? (i := 14) rfl)) O_E2.2.2.1 O_E2.2.1 O_E2.1 (Or.inl (hw _ (List.mem_of_getElem? (i := 15) rfl))) (hw _ (List.mem_of_getElem? (i := 5) rfl)) (ty := (.array .int)) (by decide) rfl rfl (fun T3 h3 X3 W3 => ?_)
  have O3 := O_E2.put_firstArcs hw W3
  have B2_W3 := O_E2.baW hw B2 W3
  refine w_aloadN X3 D2_13 rfl rfl ?_
  refine w_iloadN X3 D2_14 rfl ?_
  refine w_putF X3 D2_15 (hw _ (List.mem_of_getElem? (i := 16) rfl)) O3.2.2.2.1 O3.2.1 O3.1 (Or.inr ⟨(hw _ (List.mem_of_getElem? (i := 17) rfl)), rfl, rfl⟩) (hw _ (List.mem_of_getElem? (i := 5) rfl)) (ty := .int) (by decide) rfl rfl (fun T4 h4 X4 W4 => ?_)
  have O4 := O3.put_capacity hw W4
  have B2_W4 := O3.baW hw B2_W3 W4
  refine w_aloadN X4 D2_18 rfl rfl ?_
  refine w_sipush X4 D2_19 (v := (1024 : Int32)) rfl ?_
  refine w_iloadN X4 D2_22 rfl ?_
  refine w_static X4 D2_23 (rm1 hw X4.sz _ _ 1024 K (by decide) (by omega) rfl rfl) (hw _ (List.mem_of_getElem? (i := 18) rfl)) (hw _ (List.mem_of_getElem? (i := 1) rfl)) (hw _ (List.mem_of_getElem? (i := 2) rfl)) (hw _ (List.mem_of_getElem? (i := 3) rfl)) (by decide) pd_0 rfl (S := [(.ref l0)]) rfl rfl (Nat.le_of_ble_eq_true rfl) (Nat.le_of_ble_eq_true rfl) (Nat.le_of_ble_eq_true rfl) (Nat.le_of_ble_eq_true rfl) (fun v5 T5 h5 X5 q5 => ?_)
  obtain ⟨rfl, rfl⟩ := q5
  show Wp _ _ _ _ _ _ _ _ (mkF m 26 #[.val (.ref l0), .val (.int (Int32.ofNat K))] [(.int (Int32.ofNat (min 1024 K))), (.ref l0)])
  rw [Nat.min_eq_right (show K ≤ 1024 by omega)]
  refine w_newI X5 D2_26 (hw _ (List.mem_of_getElem? (i := 13) rfl)) K 13 rfl (by omega) (by decide) (Nat.le_of_ble_eq_true rfl) (Nat.le_of_ble_eq_true rfl) (fun T6 h6 a6 X6 g6 E6 B6 => ?_)
  have B2_E6 := B2_W4.ext E6
  have O4_E6 := O4.ext E6
  have hne1 : a2 ≠ a6 := Nat.ne_of_lt (Nat.lt_of_lt_of_le B2_W4.lt (Nat.le_of_eq g6.symm))
  refine w_putF X6 D2_28 (hw _ (List.mem_of_getElem? (i := 19) rfl)) O4_E6.2.2.2.2.1 O4_E6.2.1 O4_E6.1 (Or.inl (hw _ (List.mem_of_getElem? (i := 20) rfl))) (hw _ (List.mem_of_getElem? (i := 5) rfl)) (ty := (.array .int)) (by decide) rfl rfl (fun T7 h7 X7 W7 => ?_)
  have O7 := O4_E6.put_transitions hw W7
  have B2_W7 := O4_E6.baW hw B2_E6 W7
  have B6_W7 := O4_E6.baW hw B6 W7
  refine w_aloadN X7 D2_31 rfl rfl ?_
  refine w_aloadN X7 D2_32 rfl rfl ?_
  refine w_getF X7 D2_33 (hw _ (List.mem_of_getElem? (i := 19) rfl)) O7.2.2.2.2.1 (fun T8 X8 => ?_)
  refine w_arraylength X8 D2_36 B6_W7 ?_
  refine w_newI X8 D2_37 (hw _ (List.mem_of_getElem? (i := 13) rfl)) K 13 rfl (by omega) (by decide) (Nat.le_of_ble_eq_true rfl) (Nat.le_of_ble_eq_true rfl) (fun T9 h9 a9 X9 g9 E9 B9 => ?_)
  have B2_E9 := B2_W7.ext E9
  have B6_E9 := B6_W7.ext E9
  have O7_E9 := O7.ext E9
  have hne2 : a2 ≠ a9 := Nat.ne_of_lt (Nat.lt_of_lt_of_le B2_W7.lt (Nat.le_of_eq g9.symm))
  have hne3 : a6 ≠ a9 := Nat.ne_of_lt (Nat.lt_of_lt_of_le B6_W7.lt (Nat.le_of_eq g9.symm))
  refine w_putF X9 D2_39 (hw _ (List.mem_of_getElem? (i := 21) rfl)) O7_E9.2.2.2.2.2.1 O7_E9.2.1 O7_E9.1 (Or.inl (hw _ (List.mem_of_getElem? (i := 22) rfl))) (hw _ (List.mem_of_getElem? (i := 5) rfl)) (ty := (.array .int)) (by decide) rfl rfl (fun T10 h10 X10 W10 => ?_)
  have O10 := O7_E9.put_targets hw W10
  have B2_W10 := O7_E9.baW hw B2_E9 W10
  have B6_W10 := O7_E9.baW hw B6_E9 W10
  have B9_W10 := O7_E9.baW hw B9 W10
  exact w_return X10 D2_42 (by decide) (by decide) (⟨rfl, a2, a6, a9, _, _, O10, B2_W10, B6_W10, B9_W10, hne1, hne2, hne3⟩)
theorem ef_4 (m : MethodId) (l0 : Addr) (i0 : Int32) : entryFrame m #[(.ref l0), (.int i0)] 2 = mkF m 0 #[.val (.ref l0), .val (.int i0)] [] := by first | (simp [entryFrame, mkF, argsToLocals, Value.category]; done) | rfl
theorem pn_4 : plainName "com/example/tokenfold/tokenfold/statespace/ArcStore" = true := by first | (simp [plainName, overriddenIn]; done) | decide +kernel
set_option maxRecDepth 65536 in
set_option maxHeartbeats 40000000 in
theorem rm4 {l : Launch} {Z : State} {a0 : Array Value} {n0 : Nat} {h : Heap} (hw : ∀ d ∈ tables_1, d.before a0 Z = true) (hn : n0 ≤ h.size) (l0 : Addr) (i0 : Int32) (I : Nat) (r : Int32) (eI : i0 = Int32.ofNat I) (hI : I < 1024) (K c1 z : Nat) (fa : Nat → Int32) (S : Sto Z n0 h l0 K c1 z fa) (hc : c1 < 1024) (hr : (I = c1 ∧ r = Int32.ofNat z) ∨ (I ≠ c1 ∧ r = fa I)) :
    Ctr l Z n0 (⟨"com/example/tokenfold/tokenfold/statespace/ArcStore", "firstArc", "(I)I"⟩ : MethodName) prog_46_method_5_code 2 (some .int) ({ frames := 0, cells := 0, slots := 0, locals := 0 } : Room) [] #[(.ref l0), (.int i0)] h (fun v h' => v = some (.int r) ∧ h = h') := by
  refine ctr_of (plainFor_of_name pn_4) hw hn ?_
  intro p e s m below meth c T X
  refine Wp.cast (ef_4 m l0 i0) ?_
  subst eI
  obtain ⟨f, tr, tg, gt, gg, O, Bf, Bt, Bg, hft, hfg, htg⟩ := S
  refine w_iloadN X D4_0 rfl ?_
  refine w_aloadN X D4_1 rfl rfl ?_
  refine w_getF X D4_2 (hw _ (List.mem_of_getElem? (i := 28) rfl)) O.2.2.2.2.2.2.1 (fun T1 X1 => ?_)
  refine w_icmpne X1 D4_5 (fun hc5 => ?_) (fun hc5 => ?_)
  · refine w_aloadN X1 D4_15 rfl rfl ?_
    refine w_getF X1 D4_16 (hw _ (List.mem_of_getElem? (i := 14) rfl)) O.2.2.1 (fun T2 X2 => ?_)
    refine w_iloadN X2 D4_19 rfl ?_
    refine w_iaload X2 D4_20 Bf I rfl (by omega) ?_
    exact w_ireturn X2 D4_21 (by decide) (by decide) (⟨by
            have hn : I ≠ c1 := fun q => hc5 (by rw [q])
            rcases hr with ⟨q, -⟩ | ⟨-, q⟩
            · exact absurd q hn
            · rw [q], rfl⟩)
  · refine w_aloadN X1 D4_8 rfl rfl ?_
    refine w_getF X1 D4_9 (hw _ (List.mem_of_getElem? (i := 30) rfl)) O.2.2.2.2.2.2.2 (fun T3 X3 => ?_)
    refine w_goto X3 D4_12 ?_
    exact w_ireturn X3 D4_21 (by decide) (by decide) (⟨by
            have hn : I = c1 := (n_inj (by omega) (by omega)).mp hc5
            rcases hr with ⟨-, q⟩ | ⟨q, -⟩
            · rw [q]
            · exact absurd hn q, rfl⟩)
theorem ef_6 (m : MethodId) (l0 : Addr) : entryFrame m #[(.ref l0)] 1 = mkF m 0 #[.val (.ref l0)] [] := by first | (simp [entryFrame, mkF, argsToLocals, Value.category]; done) | rfl
theorem pn_6 : plainName "com/example/tokenfold/tokenfold/statespace/ArcStore" = true := by first | (simp [plainName, overriddenIn]; done) | decide +kernel
set_option maxRecDepth 65536 in
set_option maxHeartbeats 40000000 in
theorem rm6 {l : Launch} {Z : State} {a0 : Array Value} {n0 : Nat} {h : Heap} (hw : ∀ d ∈ tables_1, d.before a0 Z = true) (hn : n0 ≤ h.size) (l0 : Addr) (K c1 z : Nat) (fa : Nat → Int32) (S : Sto Z n0 h l0 K c1 z fa) (hc : c1 < 1024) :
    Ctr l Z n0 (⟨"com/example/tokenfold/tokenfold/statespace/ArcStore", "nextSource", "()V"⟩ : MethodName) prog_46_method_2_code 1 none ({ frames := 0, cells := 0, slots := 0, locals := 0 } : Room) [] #[(.ref l0)] h (fun v h' => v = none ∧ Sto Z n0 h' l0 K (c1 + 1) z (upd fa c1 (Int32.ofNat z))) := by
  refine ctr_of (plainFor_of_name pn_6) hw hn ?_
  intro p e s m below meth c T X
  refine Wp.cast (ef_6 m l0) ?_
  obtain ⟨f, tr, tg, gt, gg, O, Bf, Bt, Bg, hft, hfg, htg⟩ := S
  refine w_aloadN X D6_0 rfl rfl ?_
  refine w_getF X D6_1 (hw _ (List.mem_of_getElem? (i := 28) rfl)) O.2.2.2.2.2.2.1 (fun T1 X1 => ?_)
  refine w_aloadN X1 D6_4 rfl rfl ?_
  refine w_getF X1 D6_5 (hw _ (List.mem_of_getElem? (i := 14) rfl)) O.2.2.1 (fun T2 X2 => ?_)
  refine w_arraylength X2 D6_8 Bf ?_
  refine w_icmpne X2 D6_9 (fun hc9 => ?_) (fun hc9 => by have z1 := (n_inj (a := c1) (b := 1024) (by omega) (by decide)).mp hc9; omega)
  refine w_aloadN X2 D6_29 rfl rfl ?_
  refine w_getF X2 D6_30 (hw _ (List.mem_of_getElem? (i := 14) rfl)) O.2.2.1 (fun T3 X3 => ?_)
  refine w_aloadN X3 D6_33 rfl rfl ?_
  refine w_dup X3 D6_34 rfl ?_
  refine w_getF X3 D6_35 (hw _ (List.mem_of_getElem? (i := 28) rfl)) O.2.2.2.2.2.2.1 (fun T4 X4 => ?_)
  refine w_dupX1 X4 D6_38 rfl rfl ?_
  refine w_iconst X4 D6_39 (v := (1 : Int32)) rfl ?_
  refine w_iadd X4 D6_40 ?_
  rw [show Int32.ofNat c1 + 1 = Int32.ofNat (c1 + 1) from n_add c1 1]
  refine w_putF X4 D6_41 (hw _ (List.mem_of_getElem? (i := 28) rfl)) O.2.2.2.2.2.2.1 O.2.1 O.1 (Or.inl (hw _ (List.mem_of_getElem? (i := 29) rfl))) (hw _ (List.mem_of_getElem? (i := 5) rfl)) (ty := .int) (by decide) rfl rfl (fun T5 h5 X5 W5 => ?_)
  have O5 := O.put_sources hw W5
  have Bf_W5 := O.baW hw Bf W5
  have Bt_W5 := O.baW hw Bt W5
  have Bg_W5 := O.baW hw Bg W5
  refine w_aloadN X5 D6_44 rfl rfl ?_
  refine w_getF X5 D6_45 (hw _ (List.mem_of_getElem? (i := 30) rfl)) O5.2.2.2.2.2.2.2 (fun T6 X6 => ?_)
  refine w_iastore X6 D6_48 Bf_W5 c1 rfl (by omega) (fun T7 h7 X7 K7 B7 => ?_)
  have Bt_K7 := Bt_W5.keep K7 ((ninS (Ne.symm hft) nin0))
  have Bg_K7 := Bg_W5.keep K7 ((ninS (Ne.symm hfg) nin0))
  have O5_K7 := O5.keepB hw Bf_W5 K7
  exact w_return X7 D6_49 (by decide) (by decide) (⟨rfl, f, tr, tg, _, _, O5_K7, B7, Bt_K7, Bg_K7, hft, hfg, htg⟩)
theorem ef_7 (m : MethodId) (l0 : Addr) (x1 : Int32) (x2 : Int32) : entryFrame m #[(.ref l0), (.int x1), (.int x2)] 4 = mkF m 0 #[.val (.ref l0), .val (.int x1), .val (.int x2), .unset] [] := by first | (simp [entryFrame, mkF, argsToLocals, Value.category]; done) | rfl
theorem pn_7 : plainName "com/example/tokenfold/tokenfold/statespace/ArcStore" = true := by first | (simp [plainName, overriddenIn]; done) | decide +kernel
set_option maxRecDepth 65536 in
set_option maxHeartbeats 40000000 in
theorem rm7 {l : Launch} {Z : State} {a0 : Array Value} {n0 : Nat} {h : Heap} (hw : ∀ d ∈ tables_1, d.before a0 Z = true) (hn : n0 ≤ h.size) (l0 : Addr) (x1 : Int32) (x2 : Int32) (K c1 z : Nat) (fa : Nat → Int32) (S : Sto Z n0 h l0 K c1 z fa) (hK : K ≤ 13) (hz : z < K) :
    Ctr l Z n0 (⟨"com/example/tokenfold/tokenfold/statespace/ArcStore", "add", "(II)V"⟩ : MethodName) prog_46_method_3_code 4 none ({ frames := 0, cells := 0, slots := 0, locals := 0 } : Room) [] #[(.ref l0), (.int x1), (.int x2)] h (fun v h' => v = none ∧ Sto Z n0 h' l0 K c1 (z + 1) fa) := by
  refine ctr_of (plainFor_of_name pn_7) hw hn ?_
  intro p e s m below meth c T X
  refine Wp.cast (ef_7 m l0 x1 x2) ?_
  obtain ⟨f, tr, tg, gt, gg, O, Bf, Bt, Bg, hft, hfg, htg⟩ := S
  refine w_aloadN X D7_0 rfl rfl ?_
  refine w_getF X D7_1 (hw _ (List.mem_of_getElem? (i := 30) rfl)) O.2.2.2.2.2.2.2 (fun T1 X1 => ?_)
  refine w_aloadN X1 D7_4 rfl rfl ?_
  refine w_getF X1 D7_5 (hw _ (List.mem_of_getElem? (i := 19) rfl)) O.2.2.2.2.1 (fun T2 X2 => ?_)
  refine w_arraylength X2 D7_8 Bt ?_
  refine w_icmpne X2 D7_9 (fun hc9 => ?_) (fun hc9 => by have z1 := (n_inj (a := z) (b := K) (by omega) (by omega)).mp hc9; omega)
  refine w_aloadN X2 D7_86 rfl rfl ?_
  refine w_getF X2 D7_87 (hw _ (List.mem_of_getElem? (i := 19) rfl)) O.2.2.2.2.1 (fun T3 X3 => ?_)
  refine w_aloadN X3 D7_90 rfl rfl ?_
  refine w_getF X3 D7_91 (hw _ (List.mem_of_getElem? (i := 30) rfl)) O.2.2.2.2.2.2.2 (fun T4 X4 => ?_)
  refine w_iloadN X4 D7_94 rfl ?_
  refine w_iastore X4 D7_95 Bt z rfl (by omega) (fun T5 h5 X5 K5 B5 => ?_)
  have Bf_K5 := Bf.keep K5 ((ninS hft nin0))
  have Bg_K5 := Bg.keep K5 ((ninS (Ne.symm htg) nin0))
  have O_K5 := O.keepB hw Bt K5
  refine w_aloadN X5 D7_96 rfl rfl ?_
  refine w_getF X5 D7_97 (hw _ (List.mem_of_getElem? (i := 21) rfl)) O_K5.2.2.2.2.2.1 (fun T6 X6 => ?_)
  refine w_aloadN X6 D7_100 rfl rfl ?_
  refine w_getF X6 D7_101 (hw _ (List.mem_of_getElem? (i := 30) rfl)) O_K5.2.2.2.2.2.2.2 (fun T7 X7 => ?_)
  refine w_iloadN X7 D7_104 rfl ?_
  refine w_iastore X7 D7_105 Bg_K5 z rfl (by omega) (fun T8 h8 X8 K8 B8 => ?_)
  have Bf_K8 := Bf_K5.keep K8 ((ninS hfg nin0))
  have B5_K8 := B5.keep K8 ((ninS htg nin0))
  have O_K8 := O_K5.keepB hw Bg_K5 K8
  refine w_aloadN X8 D7_106 rfl rfl ?_
  refine w_dup X8 D7_107 rfl ?_
  refine w_getF X8 D7_108 (hw _ (List.mem_of_getElem? (i := 30) rfl)) O_K8.2.2.2.2.2.2.2 (fun T9 X9 => ?_)
  refine w_iconst X9 D7_111 (v := (1 : Int32)) rfl ?_
  refine w_iadd X9 D7_112 ?_
  rw [show Int32.ofNat z + 1 = Int32.ofNat (z + 1) from n_add z 1]
  refine w_putF X9 D7_113 (hw _ (List.mem_of_getElem? (i := 30) rfl)) O_K8.2.2.2.2.2.2.2 O_K8.2.1 O_K8.1 (Or.inl (hw _ (List.mem_of_getElem? (i := 31) rfl))) (hw _ (List.mem_of_getElem? (i := 5) rfl)) (ty := .int) (by decide) rfl rfl (fun T10 h10 X10 W10 => ?_)
  have O10 := O_K8.put_size hw W10
  have Bf_W10 := O_K8.baW hw Bf_K8 W10
  have B5_W10 := O_K8.baW hw B5_K8 W10
  have B8_W10 := O_K8.baW hw B8 W10
  exact w_return X10 D7_116 (by decide) (by decide) (⟨rfl, f, tr, tg, _, _, O10, Bf_W10, B5_W10, B8_W10, hft, hfg, htg⟩)
theorem ef_5 (m : MethodId) (l0 : Addr) (n1 : Int32) (x1 : Int32) (x2 : Int32) : entryFrame m #[(.ref l0), (.int n1), (.int x1), (.int x2)] 4 = mkF m 0 #[.val (.ref l0), .val (.int n1), .val (.int x1), .val (.int x2)] [] := by first | (simp [entryFrame, mkF, argsToLocals, Value.category]; done) | rfl
theorem pn_5 : plainName "com/example/tokenfold/tokenfold/statespace/ArcStoreFirstArcPinLaw" = true := by first | (simp [plainName, overriddenIn]; done) | decide +kernel
set_option maxRecDepth 65536 in
set_option maxHeartbeats 40000000 in
theorem rm5 {l : Launch} {Z : State} {a0 : Array Value} {n0 : Nat} {h : Heap} (hw : ∀ d ∈ tables_1, d.before a0 Z = true) (hn : n0 ≤ h.size) (l0 : Addr) (n1 : Int32) (x1 : Int32) (x2 : Int32) (N : Nat) (eN : n1 = Int32.ofNat N) (hN : N ≤ 2) (K c1 z : Nat) (fa : Nat → Int32) (S : Sto Z n0 h l0 K c1 z fa) (hc : c1 < 1024) (hK : K ≤ 13) (hz : z + N ≤ K) :
    Ctr l Z n0 (⟨"com/example/tokenfold/tokenfold/statespace/ArcStoreFirstArcPinLaw", "begin", "(Lcom/example/tokenfold/tokenfold/statespace/ArcStore;III)V"⟩ : MethodName) method_2_code 4 none ({ frames := 1, cells := 0, slots := 0, locals := 15 } : Room) [] #[(.ref l0), (.int n1), (.int x1), (.int x2)] h (fun v h' => v = none ∧ Sto Z n0 h' l0 K (c1 + 1) (z + N) (upd fa c1 (Int32.ofNat z))) := by
  refine ctr_of (plainFor_of_name pn_5) hw hn ?_
  intro p e s m below meth c T X
  refine Wp.cast (ef_5 m l0 n1 x1 x2) ?_
  subst eN
  refine w_aloadN X D5_0 rfl rfl ?_
  refine w_virtual X D5_1 (rm6 hw X.sz l0 K c1 z fa S hc) S.exa (hw _ (List.mem_of_getElem? (i := 36) rfl)) (hw _ (List.mem_of_getElem? (i := 37) rfl)) (hw _ (List.mem_of_getElem? (i := 39) rfl)) (hw _ (List.mem_of_getElem? (i := 38) rfl)) (hw _ (List.mem_of_getElem? (i := 6) rfl)) (hw _ (List.mem_of_getElem? (i := 40) rfl)) (by decide) pd_1 rfl (S := []) rfl rfl (Nat.le_of_ble_eq_true rfl) (Nat.le_of_ble_eq_true rfl) (Nat.le_of_ble_eq_true rfl) (Nat.le_of_ble_eq_true rfl) (fun v1 T1 h1 X1 q1 => ?_)
  obtain ⟨rfl, S1⟩ := q1
  show Wp _ _ _ _ _ _ _ _ (mkF m 4 #[.val (.ref l0), .val (.int (Int32.ofNat N)), .val (.int x1), .val (.int x2)] [])
  have hNc : N = 0 ∨ N = 1 ∨ N = 2 := by omega
  rcases hNc with rfl | rfl | rfl
  · refine w_iloadN X1 D5_4 rfl ?_
    refine w_iconst X1 D5_5 (v := (1 : Int32)) rfl ?_
    refine w_icmplt X1 D5_6 (fun hc6 => ?_) (fun hc6 => by exact absurd (by decide) hc6)
    refine w_iloadN X1 D5_15 rfl ?_
    refine w_iconst X1 D5_16 (v := (2 : Int32)) rfl ?_
    refine w_icmplt X1 D5_17 (fun hc17 => ?_) (fun hc17 => by exact absurd (by decide) hc17)
    exact w_return X1 D5_26 (by decide) (by decide) (⟨rfl, S1⟩)
  · refine w_iloadN X1 D5_4 rfl ?_
    refine w_iconst X1 D5_5 (v := (1 : Int32)) rfl ?_
    refine w_icmplt X1 D5_6 (fun hc6 => by exact absurd hc6 (by decide)) (fun hc6 => ?_)
    refine w_aloadN X1 D5_9 rfl rfl ?_
    refine w_iloadN X1 D5_10 rfl ?_
    refine w_iloadN X1 D5_11 rfl ?_
    refine w_virtual X1 D5_12 (rm7 hw X1.sz l0 _ _ K (c1 + 1) z _ S1 hK (by omega)) S1.exa (hw _ (List.mem_of_getElem? (i := 41) rfl)) (hw _ (List.mem_of_getElem? (i := 42) rfl)) (hw _ (List.mem_of_getElem? (i := 44) rfl)) (hw _ (List.mem_of_getElem? (i := 43) rfl)) (hw _ (List.mem_of_getElem? (i := 6) rfl)) (hw _ (List.mem_of_getElem? (i := 45) rfl)) (by decide) pd_2 rfl (S := []) rfl rfl (Nat.le_of_ble_eq_true rfl) (Nat.le_of_ble_eq_true rfl) (Nat.le_of_ble_eq_true rfl) (Nat.le_of_ble_eq_true rfl) (fun v2 T2 h2 X2 q2 => ?_)
    obtain ⟨rfl, S2⟩ := q2
    show Wp _ _ _ _ _ _ _ _ (mkF m 15 #[.val (.ref l0), .val (.int (Int32.ofNat 1)), .val (.int x1), .val (.int x2)] [])
    refine w_iloadN X2 D5_15 rfl ?_
    refine w_iconst X2 D5_16 (v := (2 : Int32)) rfl ?_
    refine w_icmplt X2 D5_17 (fun hc17 => ?_) (fun hc17 => by exact absurd (by decide) hc17)
    exact w_return X2 D5_26 (by decide) (by decide) (⟨rfl, S2⟩)
  · refine w_iloadN X1 D5_4 rfl ?_
    refine w_iconst X1 D5_5 (v := (1 : Int32)) rfl ?_
    refine w_icmplt X1 D5_6 (fun hc6 => by exact absurd hc6 (by decide)) (fun hc6 => ?_)
    refine w_aloadN X1 D5_9 rfl rfl ?_
    refine w_iloadN X1 D5_10 rfl ?_
    refine w_iloadN X1 D5_11 rfl ?_
    refine w_virtual X1 D5_12 (rm7 hw X1.sz l0 _ _ K (c1 + 1) z _ S1 hK (by omega)) S1.exa (hw _ (List.mem_of_getElem? (i := 41) rfl)) (hw _ (List.mem_of_getElem? (i := 42) rfl)) (hw _ (List.mem_of_getElem? (i := 44) rfl)) (hw _ (List.mem_of_getElem? (i := 43) rfl)) (hw _ (List.mem_of_getElem? (i := 6) rfl)) (hw _ (List.mem_of_getElem? (i := 45) rfl)) (by decide) pd_2 rfl (S := []) rfl rfl (Nat.le_of_ble_eq_true rfl) (Nat.le_of_ble_eq_true rfl) (Nat.le_of_ble_eq_true rfl) (Nat.le_of_ble_eq_true rfl) (fun v3 T3 h3 X3 q3 => ?_)
    obtain ⟨rfl, S3⟩ := q3
    show Wp _ _ _ _ _ _ _ _ (mkF m 15 #[.val (.ref l0), .val (.int (Int32.ofNat 2)), .val (.int x1), .val (.int x2)] [])
    refine w_iloadN X3 D5_15 rfl ?_
    refine w_iconst X3 D5_16 (v := (2 : Int32)) rfl ?_
    refine w_icmplt X3 D5_17 (fun hc17 => by exact absurd hc17 (by decide)) (fun hc17 => ?_)
    refine w_aloadN X3 D5_20 rfl rfl ?_
    refine w_iloadN X3 D5_21 rfl ?_
    refine w_iloadN X3 D5_22 rfl ?_
    refine w_virtual X3 D5_23 (rm7 hw X3.sz l0 _ _ K (c1 + 1) (z + 1) _ S3 hK (by omega)) S3.exa (hw _ (List.mem_of_getElem? (i := 41) rfl)) (hw _ (List.mem_of_getElem? (i := 42) rfl)) (hw _ (List.mem_of_getElem? (i := 44) rfl)) (hw _ (List.mem_of_getElem? (i := 43) rfl)) (hw _ (List.mem_of_getElem? (i := 6) rfl)) (hw _ (List.mem_of_getElem? (i := 45) rfl)) (by decide) pd_2 rfl (S := []) rfl rfl (Nat.le_of_ble_eq_true rfl) (Nat.le_of_ble_eq_true rfl) (Nat.le_of_ble_eq_true rfl) (Nat.le_of_ble_eq_true rfl) (fun v4 T4 h4 X4 q4 => ?_)
    obtain ⟨rfl, S4⟩ := q4
    show Wp _ _ _ _ _ _ _ _ (mkF m 26 #[.val (.ref l0), .val (.int (Int32.ofNat 2)), .val (.int x1), .val (.int x2)] [])
    exact w_return X4 D5_26 (by decide) (by decide) (⟨rfl, S4⟩)
theorem ef_0 (m : MethodId) (a : Int32) (b : Int32) (c0 : Int32) (d : Int32) : entryFrame m #[(.int a), (.int b), (.int c0), (.int d)] maxLocals = mkF m 0 #[.val (.int a), .val (.int b), .val (.int c0), .val (.int d), .unset, .unset, .unset, .unset, .unset, .unset, .unset, .unset, .unset] [] := by first | (simp [entryFrame, mkF, argsToLocals, Value.category, maxLocals]; done) | rfl
theorem pn_0 : plainName "com/example/tokenfold/tokenfold/statespace/ArcStoreFirstArcPinLaw" = true := by first | (simp [plainName, overriddenIn]; done) | decide +kernel
set_option maxRecDepth 65536 in
set_option maxHeartbeats 40000000 in
theorem rm0 {l : Launch} {Z : State} {a0 : Array Value} {n0 : Nat} {h : Heap} (hw : ∀ d ∈ tables_1, d.before a0 Z = true) (hn : n0 ≤ h.size) (a : Int32) (b : Int32) (c0 : Int32) (d : Int32) :
    Ctr l Z n0 x code maxLocals ret room_1 tables_1 #[(.int a), (.int b), (.int c0), (.int d)] h (fun v h' => v = some (.int 1)) := by
  refine ctr_of (plainFor_of_name pn_0) hw hn ?_
  intro p e s m below meth c T X
  refine Wp.cast (ef_0 m a b c0 d) ?_
  refine w_iloadN X D0_0 rfl ?_
  refine w_iconst X D0_1 (v := (3 : Int32)) rfl ?_
  refine w_iand X D0_2 ?_
  refine w_istoreE X D0_3 (l' := fun z_ => #[.val (.int a), .val (.int b), .val (.int c0), .val (.int d), .val (.int z_), .unset, .unset, .unset, .unset, .unset, .unset, .unset, .unset]) (fun _ => rfl) (fun kk e_kk => ?_)
  obtain ⟨A, hA, eA⟩ := own_3 a
  replace eA := e_kk.trans eA
  subst eA
  refine w_iloadN X D0_5 rfl ?_
  refine w_iconst X D0_6 (v := (2 : Int32)) rfl ?_
  refine w_iushr X D0_7 ?_
  refine w_iconst X D0_8 (v := (3 : Int32)) rfl ?_
  refine w_iand X D0_9 ?_
  refine w_iconst X D0_10 (v := (2 : Int32)) rfl ?_
  obtain ⟨M0, hM0, eM0⟩ := own_3 (jushr a (2 : Int32))
  rw [eM0]
  refine w_static X D0_11 (rm1 hw X.sz _ _ M0 2 (by omega) (by decide) rfl rfl) (hw _ (List.mem_of_getElem? (i := 0) rfl)) (hw _ (List.mem_of_getElem? (i := 1) rfl)) (hw _ (List.mem_of_getElem? (i := 2) rfl)) (hw _ (List.mem_of_getElem? (i := 3) rfl)) (by decide) pd_0 rfl (S := []) rfl rfl (Nat.le_of_ble_eq_true rfl) (Nat.le_of_ble_eq_true rfl) (Nat.le_of_ble_eq_true rfl) (Nat.le_of_ble_eq_true rfl) (fun v1 T1 h1 X1 q1 => ?_)
  obtain ⟨rfl, rfl⟩ := q1
  show Wp _ _ _ _ _ _ _ _ (mkF m 14 #[.val (.int a), .val (.int b), .val (.int c0), .val (.int d), .val (.int (Int32.ofNat A)), .unset, .unset, .unset, .unset, .unset, .unset, .unset, .unset] [(.int (Int32.ofNat (min M0 2)))])
  obtain ⟨N0, eN0⟩ : ∃ q, q = min M0 2 := ⟨_, rfl⟩
  rw [← eN0]
  refine w_istore X1 D0_14 (l' := #[.val (.int a), .val (.int b), .val (.int c0), .val (.int d), .val (.int (Int32.ofNat A)), .val (.int (Int32.ofNat N0)), .unset, .unset, .unset, .unset, .unset, .unset, .unset]) rfl ?_
  refine w_iloadN X1 D0_16 rfl ?_
  refine w_iconst X1 D0_17 (v := (4 : Int32)) rfl ?_
  refine w_iushr X1 D0_18 ?_
  refine w_iconst X1 D0_19 (v := (3 : Int32)) rfl ?_
  refine w_iand X1 D0_20 ?_
  refine w_iconst X1 D0_21 (v := (2 : Int32)) rfl ?_
  obtain ⟨M1, hM1, eM1⟩ := own_3 (jushr a (4 : Int32))
  rw [eM1]
  refine w_static X1 D0_22 (rm1 hw X1.sz _ _ M1 2 (by omega) (by decide) rfl rfl) (hw _ (List.mem_of_getElem? (i := 0) rfl)) (hw _ (List.mem_of_getElem? (i := 1) rfl)) (hw _ (List.mem_of_getElem? (i := 2) rfl)) (hw _ (List.mem_of_getElem? (i := 3) rfl)) (by decide) pd_0 rfl (S := []) rfl rfl (Nat.le_of_ble_eq_true rfl) (Nat.le_of_ble_eq_true rfl) (Nat.le_of_ble_eq_true rfl) (Nat.le_of_ble_eq_true rfl) (fun v2 T2 h2 X2 q2 => ?_)
  obtain ⟨rfl, rfl⟩ := q2
  show Wp _ _ _ _ _ _ _ _ (mkF m 25 #[.val (.int a), .val (.int b), .val (.int c0), .val (.int d), .val (.int (Int32.ofNat A)), .val (.int (Int32.ofNat N0)), .unset, .unset, .unset, .unset, .unset, .unset, .unset] [(.int (Int32.ofNat (min M1 2)))])
  obtain ⟨N1, eN1⟩ : ∃ q, q = min M1 2 := ⟨_, rfl⟩
  rw [← eN1]
  refine w_istore X2 D0_25 (l' := #[.val (.int a), .val (.int b), .val (.int c0), .val (.int d), .val (.int (Int32.ofNat A)), .val (.int (Int32.ofNat N0)), .val (.int (Int32.ofNat N1)), .unset, .unset, .unset, .unset, .unset, .unset]) rfl ?_
  refine w_iloadN X2 D0_27 rfl ?_
  refine w_bipush X2 D0_28 (v := (6 : Int32)) rfl ?_
  refine w_iushr X2 D0_30 ?_
  refine w_iconst X2 D0_31 (v := (3 : Int32)) rfl ?_
  refine w_iand X2 D0_32 ?_
  refine w_iconst X2 D0_33 (v := (2 : Int32)) rfl ?_
  obtain ⟨M2, hM2, eM2⟩ := own_3 (jushr a (6 : Int32))
  rw [eM2]
  refine w_static X2 D0_34 (rm1 hw X2.sz _ _ M2 2 (by omega) (by decide) rfl rfl) (hw _ (List.mem_of_getElem? (i := 0) rfl)) (hw _ (List.mem_of_getElem? (i := 1) rfl)) (hw _ (List.mem_of_getElem? (i := 2) rfl)) (hw _ (List.mem_of_getElem? (i := 3) rfl)) (by decide) pd_0 rfl (S := []) rfl rfl (Nat.le_of_ble_eq_true rfl) (Nat.le_of_ble_eq_true rfl) (Nat.le_of_ble_eq_true rfl) (Nat.le_of_ble_eq_true rfl) (fun v3 T3 h3 X3 q3 => ?_)
  obtain ⟨rfl, rfl⟩ := q3
  show Wp _ _ _ _ _ _ _ _ (mkF m 37 #[.val (.int a), .val (.int b), .val (.int c0), .val (.int d), .val (.int (Int32.ofNat A)), .val (.int (Int32.ofNat N0)), .val (.int (Int32.ofNat N1)), .unset, .unset, .unset, .unset, .unset, .unset] [(.int (Int32.ofNat (min M2 2)))])
  obtain ⟨N2, eN2⟩ : ∃ q, q = min M2 2 := ⟨_, rfl⟩
  rw [← eN2]
  refine w_istore X3 D0_37 (l' := #[.val (.int a), .val (.int b), .val (.int c0), .val (.int d), .val (.int (Int32.ofNat A)), .val (.int (Int32.ofNat N0)), .val (.int (Int32.ofNat N1)), .val (.int (Int32.ofNat N2)), .unset, .unset, .unset, .unset, .unset]) rfl ?_
  refine w_new X3 D0_39 (hw _ (List.mem_of_getElem? (i := 4) rfl)) (hw _ (List.mem_of_getElem? (i := 5) rfl)) (hw _ (List.mem_of_getElem? (i := 6) rfl)) (Nat.le_of_ble_eq_true rfl) (Nat.le_of_ble_eq_true rfl) (fun T4 h4 a4 X4 g4 n4 E4 A4 D4 => ?_)
  have O4 := Arc.new hw n4 A4 D4
  refine w_dup X4 D0_42 rfl ?_
  refine w_bipush X4 D0_43 (v := (6 : Int32)) rfl ?_
  refine w_iloadN X4 D0_45 rfl ?_
  refine w_bipush X4 D0_46 (v := (7 : Int32)) rfl ?_
  refine w_iand X4 D0_48 ?_
  refine w_iadd X4 D0_49 ?_
  obtain ⟨D, hD, eD⟩ := own_7 d
  rw [eD, show (6 : Int32) + Int32.ofNat D = Int32.ofNat (6 + D) from n_add 6 D]
  refine w_special X4 D0_50 (rm2 hw X4.sz a4 _ (6 + D) rfl (by omega) O4) rfl (hw _ (List.mem_of_getElem? (i := 7) rfl)) (hw _ (List.mem_of_getElem? (i := 8) rfl)) (hw _ (List.mem_of_getElem? (i := 6) rfl)) (hw _ (List.mem_of_getElem? (i := 9) rfl)) (by decide) pd_3 rfl (S := [(.ref a4)]) rfl rfl (Nat.le_of_ble_eq_true rfl) (Nat.le_of_ble_eq_true rfl) (Nat.le_of_ble_eq_true rfl) (Nat.le_of_ble_eq_true rfl) (fun v5 T5 h5 X5 q5 => ?_)
  obtain ⟨rfl, S5⟩ := q5
  show Wp _ _ _ _ _ _ _ _ (mkF m 53 #[.val (.int a), .val (.int b), .val (.int c0), .val (.int d), .val (.int (Int32.ofNat A)), .val (.int (Int32.ofNat N0)), .val (.int (Int32.ofNat N1)), .val (.int (Int32.ofNat N2)), .unset, .unset, .unset, .unset, .unset] [(.ref a4)])
  refine w_astore X5 D0_53 (l' := #[.val (.int a), .val (.int b), .val (.int c0), .val (.int d), .val (.int (Int32.ofNat A)), .val (.int (Int32.ofNat N0)), .val (.int (Int32.ofNat N1)), .val (.int (Int32.ofNat N2)), .val (.ref a4), .unset, .unset, .unset, .unset]) rfl rfl ?_
  have hAc : A = 0 ∨ A = 1 ∨ A = 2 ∨ A = 3 := by omega
  rcases hAc with rfl | rfl | rfl | rfl
  · refine w_iload X5 D0_55 rfl ?_
    refine w_iconst X5 D0_57 (v := (1 : Int32)) rfl ?_
    refine w_icmplt X5 D0_58 (fun hc58 => ?_) (fun hc58 => by exact absurd (by decide) hc58)
    refine w_iload X5 D0_70 rfl ?_
    refine w_iconst X5 D0_72 (v := (2 : Int32)) rfl ?_
    refine w_icmplt X5 D0_73 (fun hc73 => ?_) (fun hc73 => by exact absurd (by decide) hc73)
    refine w_iload X5 D0_85 rfl ?_
    refine w_iconst X5 D0_87 (v := (3 : Int32)) rfl ?_
    refine w_icmplt X5 D0_88 (fun hc88 => ?_) (fun hc88 => by exact absurd (by decide) hc88)
    refine w_iload X5 D0_100 rfl ?_
    refine w_istore X5 D0_102 (l' := #[.val (.int a), .val (.int b), .val (.int c0), .val (.int d), .val (.int (Int32.ofNat 0)), .val (.int (Int32.ofNat N0)), .val (.int (Int32.ofNat N1)), .val (.int (Int32.ofNat N2)), .val (.ref a4), .val (.int (Int32.ofNat N0)), .unset, .unset, .unset]) rfl ?_
    refine w_iload X5 D0_104 rfl ?_
    refine w_iload X5 D0_106 rfl ?_
    refine w_iadd X5 D0_108 ?_
    refine w_istore X5 D0_109 (l' := #[.val (.int a), .val (.int b), .val (.int c0), .val (.int d), .val (.int (Int32.ofNat 0)), .val (.int (Int32.ofNat N0)), .val (.int (Int32.ofNat N1)), .val (.int (Int32.ofNat N2)), .val (.ref a4), .val (.int (Int32.ofNat N0)), .val (.int ((Int32.ofNat N0) + (Int32.ofNat N1))), .unset, .unset]) rfl ?_
    refine w_iload X5 D0_111 rfl ?_
    refine w_iload X5 D0_113 rfl ?_
    refine w_iadd X5 D0_115 ?_
    refine w_iload X5 D0_116 rfl ?_
    refine w_iadd X5 D0_118 ?_
    refine w_istore X5 D0_119 (l' := #[.val (.int a), .val (.int b), .val (.int c0), .val (.int d), .val (.int (Int32.ofNat 0)), .val (.int (Int32.ofNat N0)), .val (.int (Int32.ofNat N1)), .val (.int (Int32.ofNat N2)), .val (.ref a4), .val (.int (Int32.ofNat N0)), .val (.int ((Int32.ofNat N0) + (Int32.ofNat N1))), .val (.int (((Int32.ofNat N0) + (Int32.ofNat N1)) + (Int32.ofNat N2))), .unset]) rfl ?_
    refine w_aload X5 D0_121 rfl rfl ?_
    refine w_iconst X5 D0_123 (v := (0 : Int32)) rfl ?_
    refine w_virtual X5 D0_124 (rm4 hw X5.sz a4 _ 0 (Int32.ofNat (0)) rfl (by decide) (6 + D) 0 (0) _ S5 (by decide) (Or.inl ⟨rfl, rfl⟩)) S5.exa (hw _ (List.mem_of_getElem? (i := 23) rfl)) (hw _ (List.mem_of_getElem? (i := 24) rfl)) (hw _ (List.mem_of_getElem? (i := 26) rfl)) (hw _ (List.mem_of_getElem? (i := 25) rfl)) (hw _ (List.mem_of_getElem? (i := 6) rfl)) (hw _ (List.mem_of_getElem? (i := 27) rfl)) (by decide) pd_4 rfl (S := []) rfl rfl (Nat.le_of_ble_eq_true rfl) (Nat.le_of_ble_eq_true rfl) (Nat.le_of_ble_eq_true rfl) (Nat.le_of_ble_eq_true rfl) (fun v6 T6 h6 X6 q6 => ?_)
    obtain ⟨rfl, rfl⟩ := q6
    show Wp _ _ _ _ _ _ _ _ (mkF m 127 #[.val (.int a), .val (.int b), .val (.int c0), .val (.int d), .val (.int (Int32.ofNat 0)), .val (.int (Int32.ofNat N0)), .val (.int (Int32.ofNat N1)), .val (.int (Int32.ofNat N2)), .val (.ref a4), .val (.int (Int32.ofNat N0)), .val (.int ((Int32.ofNat N0) + (Int32.ofNat N1))), .val (.int (((Int32.ofNat N0) + (Int32.ofNat N1)) + (Int32.ofNat N2))), .unset] [(.int (Int32.ofNat (0)))])
    refine w_ifne X6 D0_127 (fun hc127 => by exact absurd rfl hc127) (fun hc127 => ?_)
    refine w_iconst X6 D0_130 (v := (1 : Int32)) rfl ?_
    refine w_goto X6 D0_131 ?_
    refine w_istore X6 D0_135 (l' := #[.val (.int a), .val (.int b), .val (.int c0), .val (.int d), .val (.int (Int32.ofNat 0)), .val (.int (Int32.ofNat N0)), .val (.int (Int32.ofNat N1)), .val (.int (Int32.ofNat N2)), .val (.ref a4), .val (.int (Int32.ofNat N0)), .val (.int ((Int32.ofNat N0) + (Int32.ofNat N1))), .val (.int (((Int32.ofNat N0) + (Int32.ofNat N1)) + (Int32.ofNat N2))), .val (.int (1 : Int32))]) rfl ?_
    refine w_iload X6 D0_137 rfl ?_
    refine w_iconst X6 D0_139 (v := (1 : Int32)) rfl ?_
    refine w_icmplt X6 D0_140 (fun hc140 => ?_) (fun hc140 => by exact absurd (by decide) hc140)
    refine w_iload X6 D0_166 rfl ?_
    refine w_iconst X6 D0_168 (v := (2 : Int32)) rfl ?_
    refine w_icmplt X6 D0_169 (fun hc169 => ?_) (fun hc169 => by exact absurd (by decide) hc169)
    refine w_iload X6 D0_195 rfl ?_
    refine w_iconst X6 D0_197 (v := (3 : Int32)) rfl ?_
    refine w_icmplt X6 D0_198 (fun hc198 => ?_) (fun hc198 => by exact absurd (by decide) hc198)
    refine w_iload X6 D0_224 rfl ?_
    exact w_zreturn X6 D0_226 (by decide) (by decide) (rfl)
  · refine w_iload X5 D0_55 rfl ?_
    refine w_iconst X5 D0_57 (v := (1 : Int32)) rfl ?_
    refine w_icmplt X5 D0_58 (fun hc58 => by exact absurd hc58 (by decide)) (fun hc58 => ?_)
    refine w_aload X5 D0_61 rfl rfl ?_
    refine w_iload X5 D0_63 rfl ?_
    refine w_iloadN X5 D0_65 rfl ?_
    refine w_iloadN X5 D0_66 rfl ?_
    refine w_static X5 D0_67 (rm5 hw X5.sz a4 _ _ _ N0 rfl (by omega) (6 + D) 0 (0) _ S5 (by decide) (by omega) (by omega)) (hw _ (List.mem_of_getElem? (i := 32) rfl)) (hw _ (List.mem_of_getElem? (i := 33) rfl)) (hw _ (List.mem_of_getElem? (i := 34) rfl)) (hw _ (List.mem_of_getElem? (i := 35) rfl)) (by decide) pd_5 rfl (S := []) rfl rfl (Nat.le_of_ble_eq_true rfl) (Nat.le_of_ble_eq_true rfl) (Nat.le_of_ble_eq_true rfl) (Nat.le_of_ble_eq_true rfl) (fun v7 T7 h7 X7 q7 => ?_)
    obtain ⟨rfl, S7⟩ := q7
    show Wp _ _ _ _ _ _ _ _ (mkF m 70 #[.val (.int a), .val (.int b), .val (.int c0), .val (.int d), .val (.int (Int32.ofNat 1)), .val (.int (Int32.ofNat N0)), .val (.int (Int32.ofNat N1)), .val (.int (Int32.ofNat N2)), .val (.ref a4), .unset, .unset, .unset, .unset] [])
    refine w_iload X7 D0_70 rfl ?_
    refine w_iconst X7 D0_72 (v := (2 : Int32)) rfl ?_
    refine w_icmplt X7 D0_73 (fun hc73 => ?_) (fun hc73 => by exact absurd (by decide) hc73)
    refine w_iload X7 D0_85 rfl ?_
    refine w_iconst X7 D0_87 (v := (3 : Int32)) rfl ?_
    refine w_icmplt X7 D0_88 (fun hc88 => ?_) (fun hc88 => by exact absurd (by decide) hc88)
    refine w_iload X7 D0_100 rfl ?_
    refine w_istore X7 D0_102 (l' := #[.val (.int a), .val (.int b), .val (.int c0), .val (.int d), .val (.int (Int32.ofNat 1)), .val (.int (Int32.ofNat N0)), .val (.int (Int32.ofNat N1)), .val (.int (Int32.ofNat N2)), .val (.ref a4), .val (.int (Int32.ofNat N0)), .unset, .unset, .unset]) rfl ?_
    refine w_iload X7 D0_104 rfl ?_
    refine w_iload X7 D0_106 rfl ?_
    refine w_iadd X7 D0_108 ?_
    refine w_istore X7 D0_109 (l' := #[.val (.int a), .val (.int b), .val (.int c0), .val (.int d), .val (.int (Int32.ofNat 1)), .val (.int (Int32.ofNat N0)), .val (.int (Int32.ofNat N1)), .val (.int (Int32.ofNat N2)), .val (.ref a4), .val (.int (Int32.ofNat N0)), .val (.int ((Int32.ofNat N0) + (Int32.ofNat N1))), .unset, .unset]) rfl ?_
    refine w_iload X7 D0_111 rfl ?_
    refine w_iload X7 D0_113 rfl ?_
    refine w_iadd X7 D0_115 ?_
    refine w_iload X7 D0_116 rfl ?_
    refine w_iadd X7 D0_118 ?_
    refine w_istore X7 D0_119 (l' := #[.val (.int a), .val (.int b), .val (.int c0), .val (.int d), .val (.int (Int32.ofNat 1)), .val (.int (Int32.ofNat N0)), .val (.int (Int32.ofNat N1)), .val (.int (Int32.ofNat N2)), .val (.ref a4), .val (.int (Int32.ofNat N0)), .val (.int ((Int32.ofNat N0) + (Int32.ofNat N1))), .val (.int (((Int32.ofNat N0) + (Int32.ofNat N1)) + (Int32.ofNat N2))), .unset]) rfl ?_
    refine w_aload X7 D0_121 rfl rfl ?_
    refine w_iconst X7 D0_123 (v := (0 : Int32)) rfl ?_
    refine w_virtual X7 D0_124 (rm4 hw X7.sz a4 _ 0 (Int32.ofNat (0)) rfl (by decide) (6 + D) 1 (0 + N0) _ S7 (by decide) (Or.inr ⟨by decide, rfl⟩)) S7.exa (hw _ (List.mem_of_getElem? (i := 23) rfl)) (hw _ (List.mem_of_getElem? (i := 24) rfl)) (hw _ (List.mem_of_getElem? (i := 26) rfl)) (hw _ (List.mem_of_getElem? (i := 25) rfl)) (hw _ (List.mem_of_getElem? (i := 6) rfl)) (hw _ (List.mem_of_getElem? (i := 27) rfl)) (by decide) pd_4 rfl (S := []) rfl rfl (Nat.le_of_ble_eq_true rfl) (Nat.le_of_ble_eq_true rfl) (Nat.le_of_ble_eq_true rfl) (Nat.le_of_ble_eq_true rfl) (fun v8 T8 h8 X8 q8 => ?_)
    obtain ⟨rfl, rfl⟩ := q8
    show Wp _ _ _ _ _ _ _ _ (mkF m 127 #[.val (.int a), .val (.int b), .val (.int c0), .val (.int d), .val (.int (Int32.ofNat 1)), .val (.int (Int32.ofNat N0)), .val (.int (Int32.ofNat N1)), .val (.int (Int32.ofNat N2)), .val (.ref a4), .val (.int (Int32.ofNat N0)), .val (.int ((Int32.ofNat N0) + (Int32.ofNat N1))), .val (.int (((Int32.ofNat N0) + (Int32.ofNat N1)) + (Int32.ofNat N2))), .unset] [(.int (Int32.ofNat (0)))])
    refine w_ifne X8 D0_127 (fun hc127 => by exact absurd rfl hc127) (fun hc127 => ?_)
    refine w_iconst X8 D0_130 (v := (1 : Int32)) rfl ?_
    refine w_goto X8 D0_131 ?_
    refine w_istore X8 D0_135 (l' := #[.val (.int a), .val (.int b), .val (.int c0), .val (.int d), .val (.int (Int32.ofNat 1)), .val (.int (Int32.ofNat N0)), .val (.int (Int32.ofNat N1)), .val (.int (Int32.ofNat N2)), .val (.ref a4), .val (.int (Int32.ofNat N0)), .val (.int ((Int32.ofNat N0) + (Int32.ofNat N1))), .val (.int (((Int32.ofNat N0) + (Int32.ofNat N1)) + (Int32.ofNat N2))), .val (.int (1 : Int32))]) rfl ?_
    refine w_iload X8 D0_137 rfl ?_
    refine w_iconst X8 D0_139 (v := (1 : Int32)) rfl ?_
    refine w_icmplt X8 D0_140 (fun hc140 => by exact absurd hc140 (by decide)) (fun hc140 => ?_)
    refine w_iload X8 D0_143 rfl ?_
    refine w_ifeq X8 D0_145 (fun hc145 => by exact absurd hc145 (by decide)) (fun hc145 => ?_)
    refine w_aload X8 D0_148 rfl rfl ?_
    refine w_iconst X8 D0_150 (v := (1 : Int32)) rfl ?_
    refine w_virtual X8 D0_151 (rm4 hw X8.sz a4 _ 1 (Int32.ofNat (0 + N0)) rfl (by decide) (6 + D) 1 (0 + N0) _ S7 (by decide) (Or.inl ⟨rfl, rfl⟩)) S7.exa (hw _ (List.mem_of_getElem? (i := 23) rfl)) (hw _ (List.mem_of_getElem? (i := 24) rfl)) (hw _ (List.mem_of_getElem? (i := 26) rfl)) (hw _ (List.mem_of_getElem? (i := 25) rfl)) (hw _ (List.mem_of_getElem? (i := 6) rfl)) (hw _ (List.mem_of_getElem? (i := 27) rfl)) (by decide) pd_4 rfl (S := []) rfl rfl (Nat.le_of_ble_eq_true rfl) (Nat.le_of_ble_eq_true rfl) (Nat.le_of_ble_eq_true rfl) (Nat.le_of_ble_eq_true rfl) (fun v9 T9 h9 X9 q9 => ?_)
    obtain ⟨rfl, rfl⟩ := q9
    show Wp _ _ _ _ _ _ _ _ (mkF m 154 #[.val (.int a), .val (.int b), .val (.int c0), .val (.int d), .val (.int (Int32.ofNat 1)), .val (.int (Int32.ofNat N0)), .val (.int (Int32.ofNat N1)), .val (.int (Int32.ofNat N2)), .val (.ref a4), .val (.int (Int32.ofNat N0)), .val (.int ((Int32.ofNat N0) + (Int32.ofNat N1))), .val (.int (((Int32.ofNat N0) + (Int32.ofNat N1)) + (Int32.ofNat N2))), .val (.int (1 : Int32))] [(.int (Int32.ofNat (0 + N0)))])
    refine w_iload X9 D0_154 rfl ?_
    refine w_icmpne X9 D0_156 (fun hc156 => by exact absurd (by rw [Nat.zero_add]) hc156) (fun hc156 => ?_)
    refine w_iconst X9 D0_159 (v := (1 : Int32)) rfl ?_
    refine w_goto X9 D0_160 ?_
    refine w_istore X9 D0_164 (l' := #[.val (.int a), .val (.int b), .val (.int c0), .val (.int d), .val (.int (Int32.ofNat 1)), .val (.int (Int32.ofNat N0)), .val (.int (Int32.ofNat N1)), .val (.int (Int32.ofNat N2)), .val (.ref a4), .val (.int (Int32.ofNat N0)), .val (.int ((Int32.ofNat N0) + (Int32.ofNat N1))), .val (.int (((Int32.ofNat N0) + (Int32.ofNat N1)) + (Int32.ofNat N2))), .val (.int (1 : Int32))]) rfl ?_
    refine w_iload X9 D0_166 rfl ?_
    refine w_iconst X9 D0_168 (v := (2 : Int32)) rfl ?_
    refine w_icmplt X9 D0_169 (fun hc169 => ?_) (fun hc169 => by exact absurd (by decide) hc169)
    refine w_iload X9 D0_195 rfl ?_
    refine w_iconst X9 D0_197 (v := (3 : Int32)) rfl ?_
    refine w_icmplt X9 D0_198 (fun hc198 => ?_) (fun hc198 => by exact absurd (by decide) hc198)
    refine w_iload X9 D0_224 rfl ?_
    exact w_zreturn X9 D0_226 (by decide) (by decide) (rfl)
  · refine w_iload X5 D0_55 rfl ?_
    refine w_iconst X5 D0_57 (v := (1 : Int32)) rfl ?_
    refine w_icmplt X5 D0_58 (fun hc58 => by exact absurd hc58 (by decide)) (fun hc58 => ?_)
    refine w_aload X5 D0_61 rfl rfl ?_
    refine w_iload X5 D0_63 rfl ?_
    refine w_iloadN X5 D0_65 rfl ?_
    refine w_iloadN X5 D0_66 rfl ?_
    refine w_static X5 D0_67 (rm5 hw X5.sz a4 _ _ _ N0 rfl (by omega) (6 + D) 0 (0) _ S5 (by decide) (by omega) (by omega)) (hw _ (List.mem_of_getElem? (i := 32) rfl)) (hw _ (List.mem_of_getElem? (i := 33) rfl)) (hw _ (List.mem_of_getElem? (i := 34) rfl)) (hw _ (List.mem_of_getElem? (i := 35) rfl)) (by decide) pd_5 rfl (S := []) rfl rfl (Nat.le_of_ble_eq_true rfl) (Nat.le_of_ble_eq_true rfl) (Nat.le_of_ble_eq_true rfl) (Nat.le_of_ble_eq_true rfl) (fun v10 T10 h10 X10 q10 => ?_)
    obtain ⟨rfl, S10⟩ := q10
    show Wp _ _ _ _ _ _ _ _ (mkF m 70 #[.val (.int a), .val (.int b), .val (.int c0), .val (.int d), .val (.int (Int32.ofNat 2)), .val (.int (Int32.ofNat N0)), .val (.int (Int32.ofNat N1)), .val (.int (Int32.ofNat N2)), .val (.ref a4), .unset, .unset, .unset, .unset] [])
    refine w_iload X10 D0_70 rfl ?_
    refine w_iconst X10 D0_72 (v := (2 : Int32)) rfl ?_
    refine w_icmplt X10 D0_73 (fun hc73 => by exact absurd hc73 (by decide)) (fun hc73 => ?_)
    refine w_aload X10 D0_76 rfl rfl ?_
    refine w_iload X10 D0_78 rfl ?_
    refine w_iloadN X10 D0_80 rfl ?_
    refine w_iloadN X10 D0_81 rfl ?_
    refine w_static X10 D0_82 (rm5 hw X10.sz a4 _ _ _ N1 rfl (by omega) (6 + D) 1 (0 + N0) _ S10 (by decide) (by omega) (by omega)) (hw _ (List.mem_of_getElem? (i := 32) rfl)) (hw _ (List.mem_of_getElem? (i := 33) rfl)) (hw _ (List.mem_of_getElem? (i := 34) rfl)) (hw _ (List.mem_of_getElem? (i := 35) rfl)) (by decide) pd_5 rfl (S := []) rfl rfl (Nat.le_of_ble_eq_true rfl) (Nat.le_of_ble_eq_true rfl) (Nat.le_of_ble_eq_true rfl) (Nat.le_of_ble_eq_true rfl) (fun v11 T11 h11 X11 q11 => ?_)
    obtain ⟨rfl, S11⟩ := q11
    show Wp _ _ _ _ _ _ _ _ (mkF m 85 #[.val (.int a), .val (.int b), .val (.int c0), .val (.int d), .val (.int (Int32.ofNat 2)), .val (.int (Int32.ofNat N0)), .val (.int (Int32.ofNat N1)), .val (.int (Int32.ofNat N2)), .val (.ref a4), .unset, .unset, .unset, .unset] [])
    refine w_iload X11 D0_85 rfl ?_
    refine w_iconst X11 D0_87 (v := (3 : Int32)) rfl ?_
    refine w_icmplt X11 D0_88 (fun hc88 => ?_) (fun hc88 => by exact absurd (by decide) hc88)
    refine w_iload X11 D0_100 rfl ?_
    refine w_istore X11 D0_102 (l' := #[.val (.int a), .val (.int b), .val (.int c0), .val (.int d), .val (.int (Int32.ofNat 2)), .val (.int (Int32.ofNat N0)), .val (.int (Int32.ofNat N1)), .val (.int (Int32.ofNat N2)), .val (.ref a4), .val (.int (Int32.ofNat N0)), .unset, .unset, .unset]) rfl ?_
    refine w_iload X11 D0_104 rfl ?_
    refine w_iload X11 D0_106 rfl ?_
    refine w_iadd X11 D0_108 ?_
    refine w_istore X11 D0_109 (l' := #[.val (.int a), .val (.int b), .val (.int c0), .val (.int d), .val (.int (Int32.ofNat 2)), .val (.int (Int32.ofNat N0)), .val (.int (Int32.ofNat N1)), .val (.int (Int32.ofNat N2)), .val (.ref a4), .val (.int (Int32.ofNat N0)), .val (.int ((Int32.ofNat N0) + (Int32.ofNat N1))), .unset, .unset]) rfl ?_
    refine w_iload X11 D0_111 rfl ?_
    refine w_iload X11 D0_113 rfl ?_
    refine w_iadd X11 D0_115 ?_
    refine w_iload X11 D0_116 rfl ?_
    refine w_iadd X11 D0_118 ?_
    refine w_istore X11 D0_119 (l' := #[.val (.int a), .val (.int b), .val (.int c0), .val (.int d), .val (.int (Int32.ofNat 2)), .val (.int (Int32.ofNat N0)), .val (.int (Int32.ofNat N1)), .val (.int (Int32.ofNat N2)), .val (.ref a4), .val (.int (Int32.ofNat N0)), .val (.int ((Int32.ofNat N0) + (Int32.ofNat N1))), .val (.int (((Int32.ofNat N0) + (Int32.ofNat N1)) + (Int32.ofNat N2))), .unset]) rfl ?_
    refine w_aload X11 D0_121 rfl rfl ?_
    refine w_iconst X11 D0_123 (v := (0 : Int32)) rfl ?_
    refine w_virtual X11 D0_124 (rm4 hw X11.sz a4 _ 0 (Int32.ofNat (0)) rfl (by decide) (6 + D) 2 (0 + N0 + N1) _ S11 (by decide) (Or.inr ⟨by decide, rfl⟩)) S11.exa (hw _ (List.mem_of_getElem? (i := 23) rfl)) (hw _ (List.mem_of_getElem? (i := 24) rfl)) (hw _ (List.mem_of_getElem? (i := 26) rfl)) (hw _ (List.mem_of_getElem? (i := 25) rfl)) (hw _ (List.mem_of_getElem? (i := 6) rfl)) (hw _ (List.mem_of_getElem? (i := 27) rfl)) (by decide) pd_4 rfl (S := []) rfl rfl (Nat.le_of_ble_eq_true rfl) (Nat.le_of_ble_eq_true rfl) (Nat.le_of_ble_eq_true rfl) (Nat.le_of_ble_eq_true rfl) (fun v12 T12 h12 X12 q12 => ?_)
    obtain ⟨rfl, rfl⟩ := q12
    show Wp _ _ _ _ _ _ _ _ (mkF m 127 #[.val (.int a), .val (.int b), .val (.int c0), .val (.int d), .val (.int (Int32.ofNat 2)), .val (.int (Int32.ofNat N0)), .val (.int (Int32.ofNat N1)), .val (.int (Int32.ofNat N2)), .val (.ref a4), .val (.int (Int32.ofNat N0)), .val (.int ((Int32.ofNat N0) + (Int32.ofNat N1))), .val (.int (((Int32.ofNat N0) + (Int32.ofNat N1)) + (Int32.ofNat N2))), .unset] [(.int (Int32.ofNat (0)))])
    refine w_ifne X12 D0_127 (fun hc127 => by exact absurd rfl hc127) (fun hc127 => ?_)
    refine w_iconst X12 D0_130 (v := (1 : Int32)) rfl ?_
    refine w_goto X12 D0_131 ?_
    refine w_istore X12 D0_135 (l' := #[.val (.int a), .val (.int b), .val (.int c0), .val (.int d), .val (.int (Int32.ofNat 2)), .val (.int (Int32.ofNat N0)), .val (.int (Int32.ofNat N1)), .val (.int (Int32.ofNat N2)), .val (.ref a4), .val (.int (Int32.ofNat N0)), .val (.int ((Int32.ofNat N0) + (Int32.ofNat N1))), .val (.int (((Int32.ofNat N0) + (Int32.ofNat N1)) + (Int32.ofNat N2))), .val (.int (1 : Int32))]) rfl ?_
    refine w_iload X12 D0_137 rfl ?_
    refine w_iconst X12 D0_139 (v := (1 : Int32)) rfl ?_
    refine w_icmplt X12 D0_140 (fun hc140 => by exact absurd hc140 (by decide)) (fun hc140 => ?_)
    refine w_iload X12 D0_143 rfl ?_
    refine w_ifeq X12 D0_145 (fun hc145 => by exact absurd hc145 (by decide)) (fun hc145 => ?_)
    refine w_aload X12 D0_148 rfl rfl ?_
    refine w_iconst X12 D0_150 (v := (1 : Int32)) rfl ?_
    refine w_virtual X12 D0_151 (rm4 hw X12.sz a4 _ 1 (Int32.ofNat (0 + N0)) rfl (by decide) (6 + D) 2 (0 + N0 + N1) _ S11 (by decide) (Or.inr ⟨by decide, rfl⟩)) S11.exa (hw _ (List.mem_of_getElem? (i := 23) rfl)) (hw _ (List.mem_of_getElem? (i := 24) rfl)) (hw _ (List.mem_of_getElem? (i := 26) rfl)) (hw _ (List.mem_of_getElem? (i := 25) rfl)) (hw _ (List.mem_of_getElem? (i := 6) rfl)) (hw _ (List.mem_of_getElem? (i := 27) rfl)) (by decide) pd_4 rfl (S := []) rfl rfl (Nat.le_of_ble_eq_true rfl) (Nat.le_of_ble_eq_true rfl) (Nat.le_of_ble_eq_true rfl) (Nat.le_of_ble_eq_true rfl) (fun v13 T13 h13 X13 q13 => ?_)
    obtain ⟨rfl, rfl⟩ := q13
    show Wp _ _ _ _ _ _ _ _ (mkF m 154 #[.val (.int a), .val (.int b), .val (.int c0), .val (.int d), .val (.int (Int32.ofNat 2)), .val (.int (Int32.ofNat N0)), .val (.int (Int32.ofNat N1)), .val (.int (Int32.ofNat N2)), .val (.ref a4), .val (.int (Int32.ofNat N0)), .val (.int ((Int32.ofNat N0) + (Int32.ofNat N1))), .val (.int (((Int32.ofNat N0) + (Int32.ofNat N1)) + (Int32.ofNat N2))), .val (.int (1 : Int32))] [(.int (Int32.ofNat (0 + N0)))])
    refine w_iload X13 D0_154 rfl ?_
    refine w_icmpne X13 D0_156 (fun hc156 => by exact absurd (by rw [Nat.zero_add]) hc156) (fun hc156 => ?_)
    refine w_iconst X13 D0_159 (v := (1 : Int32)) rfl ?_
    refine w_goto X13 D0_160 ?_
    refine w_istore X13 D0_164 (l' := #[.val (.int a), .val (.int b), .val (.int c0), .val (.int d), .val (.int (Int32.ofNat 2)), .val (.int (Int32.ofNat N0)), .val (.int (Int32.ofNat N1)), .val (.int (Int32.ofNat N2)), .val (.ref a4), .val (.int (Int32.ofNat N0)), .val (.int ((Int32.ofNat N0) + (Int32.ofNat N1))), .val (.int (((Int32.ofNat N0) + (Int32.ofNat N1)) + (Int32.ofNat N2))), .val (.int (1 : Int32))]) rfl ?_
    refine w_iload X13 D0_166 rfl ?_
    refine w_iconst X13 D0_168 (v := (2 : Int32)) rfl ?_
    refine w_icmplt X13 D0_169 (fun hc169 => by exact absurd hc169 (by decide)) (fun hc169 => ?_)
    refine w_iload X13 D0_172 rfl ?_
    refine w_ifeq X13 D0_174 (fun hc174 => by exact absurd hc174 (by decide)) (fun hc174 => ?_)
    refine w_aload X13 D0_177 rfl rfl ?_
    refine w_iconst X13 D0_179 (v := (2 : Int32)) rfl ?_
    refine w_virtual X13 D0_180 (rm4 hw X13.sz a4 _ 2 (Int32.ofNat (0 + N0 + N1)) rfl (by decide) (6 + D) 2 (0 + N0 + N1) _ S11 (by decide) (Or.inl ⟨rfl, rfl⟩)) S11.exa (hw _ (List.mem_of_getElem? (i := 23) rfl)) (hw _ (List.mem_of_getElem? (i := 24) rfl)) (hw _ (List.mem_of_getElem? (i := 26) rfl)) (hw _ (List.mem_of_getElem? (i := 25) rfl)) (hw _ (List.mem_of_getElem? (i := 6) rfl)) (hw _ (List.mem_of_getElem? (i := 27) rfl)) (by decide) pd_4 rfl (S := []) rfl rfl (Nat.le_of_ble_eq_true rfl) (Nat.le_of_ble_eq_true rfl) (Nat.le_of_ble_eq_true rfl) (Nat.le_of_ble_eq_true rfl) (fun v14 T14 h14 X14 q14 => ?_)
    obtain ⟨rfl, rfl⟩ := q14
    show Wp _ _ _ _ _ _ _ _ (mkF m 183 #[.val (.int a), .val (.int b), .val (.int c0), .val (.int d), .val (.int (Int32.ofNat 2)), .val (.int (Int32.ofNat N0)), .val (.int (Int32.ofNat N1)), .val (.int (Int32.ofNat N2)), .val (.ref a4), .val (.int (Int32.ofNat N0)), .val (.int ((Int32.ofNat N0) + (Int32.ofNat N1))), .val (.int (((Int32.ofNat N0) + (Int32.ofNat N1)) + (Int32.ofNat N2))), .val (.int (1 : Int32))] [(.int (Int32.ofNat (0 + N0 + N1)))])
    refine w_iload X14 D0_183 rfl ?_
    refine w_icmpne X14 D0_185 (fun hc185 => by exact absurd (by rw [Nat.zero_add, n_add]) hc185) (fun hc185 => ?_)
    refine w_iconst X14 D0_188 (v := (1 : Int32)) rfl ?_
    refine w_goto X14 D0_189 ?_
    refine w_istore X14 D0_193 (l' := #[.val (.int a), .val (.int b), .val (.int c0), .val (.int d), .val (.int (Int32.ofNat 2)), .val (.int (Int32.ofNat N0)), .val (.int (Int32.ofNat N1)), .val (.int (Int32.ofNat N2)), .val (.ref a4), .val (.int (Int32.ofNat N0)), .val (.int ((Int32.ofNat N0) + (Int32.ofNat N1))), .val (.int (((Int32.ofNat N0) + (Int32.ofNat N1)) + (Int32.ofNat N2))), .val (.int (1 : Int32))]) rfl ?_
    refine w_iload X14 D0_195 rfl ?_
    refine w_iconst X14 D0_197 (v := (3 : Int32)) rfl ?_
    refine w_icmplt X14 D0_198 (fun hc198 => ?_) (fun hc198 => by exact absurd (by decide) hc198)
    refine w_iload X14 D0_224 rfl ?_
    exact w_zreturn X14 D0_226 (by decide) (by decide) (rfl)
  · refine w_iload X5 D0_55 rfl ?_
    refine w_iconst X5 D0_57 (v := (1 : Int32)) rfl ?_
    refine w_icmplt X5 D0_58 (fun hc58 => by exact absurd hc58 (by decide)) (fun hc58 => ?_)
    refine w_aload X5 D0_61 rfl rfl ?_
    refine w_iload X5 D0_63 rfl ?_
    refine w_iloadN X5 D0_65 rfl ?_
    refine w_iloadN X5 D0_66 rfl ?_
    refine w_static X5 D0_67 (rm5 hw X5.sz a4 _ _ _ N0 rfl (by omega) (6 + D) 0 (0) _ S5 (by decide) (by omega) (by omega)) (hw _ (List.mem_of_getElem? (i := 32) rfl)) (hw _ (List.mem_of_getElem? (i := 33) rfl)) (hw _ (List.mem_of_getElem? (i := 34) rfl)) (hw _ (List.mem_of_getElem? (i := 35) rfl)) (by decide) pd_5 rfl (S := []) rfl rfl (Nat.le_of_ble_eq_true rfl) (Nat.le_of_ble_eq_true rfl) (Nat.le_of_ble_eq_true rfl) (Nat.le_of_ble_eq_true rfl) (fun v15 T15 h15 X15 q15 => ?_)
    obtain ⟨rfl, S15⟩ := q15
    show Wp _ _ _ _ _ _ _ _ (mkF m 70 #[.val (.int a), .val (.int b), .val (.int c0), .val (.int d), .val (.int (Int32.ofNat 3)), .val (.int (Int32.ofNat N0)), .val (.int (Int32.ofNat N1)), .val (.int (Int32.ofNat N2)), .val (.ref a4), .unset, .unset, .unset, .unset] [])
    refine w_iload X15 D0_70 rfl ?_
    refine w_iconst X15 D0_72 (v := (2 : Int32)) rfl ?_
    refine w_icmplt X15 D0_73 (fun hc73 => by exact absurd hc73 (by decide)) (fun hc73 => ?_)
    refine w_aload X15 D0_76 rfl rfl ?_
    refine w_iload X15 D0_78 rfl ?_
    refine w_iloadN X15 D0_80 rfl ?_
    refine w_iloadN X15 D0_81 rfl ?_
    refine w_static X15 D0_82 (rm5 hw X15.sz a4 _ _ _ N1 rfl (by omega) (6 + D) 1 (0 + N0) _ S15 (by decide) (by omega) (by omega)) (hw _ (List.mem_of_getElem? (i := 32) rfl)) (hw _ (List.mem_of_getElem? (i := 33) rfl)) (hw _ (List.mem_of_getElem? (i := 34) rfl)) (hw _ (List.mem_of_getElem? (i := 35) rfl)) (by decide) pd_5 rfl (S := []) rfl rfl (Nat.le_of_ble_eq_true rfl) (Nat.le_of_ble_eq_true rfl) (Nat.le_of_ble_eq_true rfl) (Nat.le_of_ble_eq_true rfl) (fun v16 T16 h16 X16 q16 => ?_)
    obtain ⟨rfl, S16⟩ := q16
    show Wp _ _ _ _ _ _ _ _ (mkF m 85 #[.val (.int a), .val (.int b), .val (.int c0), .val (.int d), .val (.int (Int32.ofNat 3)), .val (.int (Int32.ofNat N0)), .val (.int (Int32.ofNat N1)), .val (.int (Int32.ofNat N2)), .val (.ref a4), .unset, .unset, .unset, .unset] [])
    refine w_iload X16 D0_85 rfl ?_
    refine w_iconst X16 D0_87 (v := (3 : Int32)) rfl ?_
    refine w_icmplt X16 D0_88 (fun hc88 => by exact absurd hc88 (by decide)) (fun hc88 => ?_)
    refine w_aload X16 D0_91 rfl rfl ?_
    refine w_iload X16 D0_93 rfl ?_
    refine w_iloadN X16 D0_95 rfl ?_
    refine w_iloadN X16 D0_96 rfl ?_
    refine w_static X16 D0_97 (rm5 hw X16.sz a4 _ _ _ N2 rfl (by omega) (6 + D) 2 (0 + N0 + N1) _ S16 (by decide) (by omega) (by omega)) (hw _ (List.mem_of_getElem? (i := 32) rfl)) (hw _ (List.mem_of_getElem? (i := 33) rfl)) (hw _ (List.mem_of_getElem? (i := 34) rfl)) (hw _ (List.mem_of_getElem? (i := 35) rfl)) (by decide) pd_5 rfl (S := []) rfl rfl (Nat.le_of_ble_eq_true rfl) (Nat.le_of_ble_eq_true rfl) (Nat.le_of_ble_eq_true rfl) (Nat.le_of_ble_eq_true rfl) (fun v17 T17 h17 X17 q17 => ?_)
    obtain ⟨rfl, S17⟩ := q17
    show Wp _ _ _ _ _ _ _ _ (mkF m 100 #[.val (.int a), .val (.int b), .val (.int c0), .val (.int d), .val (.int (Int32.ofNat 3)), .val (.int (Int32.ofNat N0)), .val (.int (Int32.ofNat N1)), .val (.int (Int32.ofNat N2)), .val (.ref a4), .unset, .unset, .unset, .unset] [])
    refine w_iload X17 D0_100 rfl ?_
    refine w_istore X17 D0_102 (l' := #[.val (.int a), .val (.int b), .val (.int c0), .val (.int d), .val (.int (Int32.ofNat 3)), .val (.int (Int32.ofNat N0)), .val (.int (Int32.ofNat N1)), .val (.int (Int32.ofNat N2)), .val (.ref a4), .val (.int (Int32.ofNat N0)), .unset, .unset, .unset]) rfl ?_
    refine w_iload X17 D0_104 rfl ?_
    refine w_iload X17 D0_106 rfl ?_
    refine w_iadd X17 D0_108 ?_
    refine w_istore X17 D0_109 (l' := #[.val (.int a), .val (.int b), .val (.int c0), .val (.int d), .val (.int (Int32.ofNat 3)), .val (.int (Int32.ofNat N0)), .val (.int (Int32.ofNat N1)), .val (.int (Int32.ofNat N2)), .val (.ref a4), .val (.int (Int32.ofNat N0)), .val (.int ((Int32.ofNat N0) + (Int32.ofNat N1))), .unset, .unset]) rfl ?_
    refine w_iload X17 D0_111 rfl ?_
    refine w_iload X17 D0_113 rfl ?_
    refine w_iadd X17 D0_115 ?_
    refine w_iload X17 D0_116 rfl ?_
    refine w_iadd X17 D0_118 ?_
    refine w_istore X17 D0_119 (l' := #[.val (.int a), .val (.int b), .val (.int c0), .val (.int d), .val (.int (Int32.ofNat 3)), .val (.int (Int32.ofNat N0)), .val (.int (Int32.ofNat N1)), .val (.int (Int32.ofNat N2)), .val (.ref a4), .val (.int (Int32.ofNat N0)), .val (.int ((Int32.ofNat N0) + (Int32.ofNat N1))), .val (.int (((Int32.ofNat N0) + (Int32.ofNat N1)) + (Int32.ofNat N2))), .unset]) rfl ?_
    refine w_aload X17 D0_121 rfl rfl ?_
    refine w_iconst X17 D0_123 (v := (0 : Int32)) rfl ?_
    refine w_virtual X17 D0_124 (rm4 hw X17.sz a4 _ 0 (Int32.ofNat (0)) rfl (by decide) (6 + D) 3 (0 + N0 + N1 + N2) _ S17 (by decide) (Or.inr ⟨by decide, rfl⟩)) S17.exa (hw _ (List.mem_of_getElem? (i := 23) rfl)) (hw _ (List.mem_of_getElem? (i := 24) rfl)) (hw _ (List.mem_of_getElem? (i := 26) rfl)) (hw _ (List.mem_of_getElem? (i := 25) rfl)) (hw _ (List.mem_of_getElem? (i := 6) rfl)) (hw _ (List.mem_of_getElem? (i := 27) rfl)) (by decide) pd_4 rfl (S := []) rfl rfl (Nat.le_of_ble_eq_true rfl) (Nat.le_of_ble_eq_true rfl) (Nat.le_of_ble_eq_true rfl) (Nat.le_of_ble_eq_true rfl) (fun v18 T18 h18 X18 q18 => ?_)
    obtain ⟨rfl, rfl⟩ := q18
    show Wp _ _ _ _ _ _ _ _ (mkF m 127 #[.val (.int a), .val (.int b), .val (.int c0), .val (.int d), .val (.int (Int32.ofNat 3)), .val (.int (Int32.ofNat N0)), .val (.int (Int32.ofNat N1)), .val (.int (Int32.ofNat N2)), .val (.ref a4), .val (.int (Int32.ofNat N0)), .val (.int ((Int32.ofNat N0) + (Int32.ofNat N1))), .val (.int (((Int32.ofNat N0) + (Int32.ofNat N1)) + (Int32.ofNat N2))), .unset] [(.int (Int32.ofNat (0)))])
    refine w_ifne X18 D0_127 (fun hc127 => by exact absurd rfl hc127) (fun hc127 => ?_)
    refine w_iconst X18 D0_130 (v := (1 : Int32)) rfl ?_
    refine w_goto X18 D0_131 ?_
    refine w_istore X18 D0_135 (l' := #[.val (.int a), .val (.int b), .val (.int c0), .val (.int d), .val (.int (Int32.ofNat 3)), .val (.int (Int32.ofNat N0)), .val (.int (Int32.ofNat N1)), .val (.int (Int32.ofNat N2)), .val (.ref a4), .val (.int (Int32.ofNat N0)), .val (.int ((Int32.ofNat N0) + (Int32.ofNat N1))), .val (.int (((Int32.ofNat N0) + (Int32.ofNat N1)) + (Int32.ofNat N2))), .val (.int (1 : Int32))]) rfl ?_
    refine w_iload X18 D0_137 rfl ?_
    refine w_iconst X18 D0_139 (v := (1 : Int32)) rfl ?_
    refine w_icmplt X18 D0_140 (fun hc140 => by exact absurd hc140 (by decide)) (fun hc140 => ?_)
    refine w_iload X18 D0_143 rfl ?_
    refine w_ifeq X18 D0_145 (fun hc145 => by exact absurd hc145 (by decide)) (fun hc145 => ?_)
    refine w_aload X18 D0_148 rfl rfl ?_
    refine w_iconst X18 D0_150 (v := (1 : Int32)) rfl ?_
    refine w_virtual X18 D0_151 (rm4 hw X18.sz a4 _ 1 (Int32.ofNat (0 + N0)) rfl (by decide) (6 + D) 3 (0 + N0 + N1 + N2) _ S17 (by decide) (Or.inr ⟨by decide, rfl⟩)) S17.exa (hw _ (List.mem_of_getElem? (i := 23) rfl)) (hw _ (List.mem_of_getElem? (i := 24) rfl)) (hw _ (List.mem_of_getElem? (i := 26) rfl)) (hw _ (List.mem_of_getElem? (i := 25) rfl)) (hw _ (List.mem_of_getElem? (i := 6) rfl)) (hw _ (List.mem_of_getElem? (i := 27) rfl)) (by decide) pd_4 rfl (S := []) rfl rfl (Nat.le_of_ble_eq_true rfl) (Nat.le_of_ble_eq_true rfl) (Nat.le_of_ble_eq_true rfl) (Nat.le_of_ble_eq_true rfl) (fun v19 T19 h19 X19 q19 => ?_)
    obtain ⟨rfl, rfl⟩ := q19
    show Wp _ _ _ _ _ _ _ _ (mkF m 154 #[.val (.int a), .val (.int b), .val (.int c0), .val (.int d), .val (.int (Int32.ofNat 3)), .val (.int (Int32.ofNat N0)), .val (.int (Int32.ofNat N1)), .val (.int (Int32.ofNat N2)), .val (.ref a4), .val (.int (Int32.ofNat N0)), .val (.int ((Int32.ofNat N0) + (Int32.ofNat N1))), .val (.int (((Int32.ofNat N0) + (Int32.ofNat N1)) + (Int32.ofNat N2))), .val (.int (1 : Int32))] [(.int (Int32.ofNat (0 + N0)))])
    refine w_iload X19 D0_154 rfl ?_
    refine w_icmpne X19 D0_156 (fun hc156 => by exact absurd (by rw [Nat.zero_add]) hc156) (fun hc156 => ?_)
    refine w_iconst X19 D0_159 (v := (1 : Int32)) rfl ?_
    refine w_goto X19 D0_160 ?_
    refine w_istore X19 D0_164 (l' := #[.val (.int a), .val (.int b), .val (.int c0), .val (.int d), .val (.int (Int32.ofNat 3)), .val (.int (Int32.ofNat N0)), .val (.int (Int32.ofNat N1)), .val (.int (Int32.ofNat N2)), .val (.ref a4), .val (.int (Int32.ofNat N0)), .val (.int ((Int32.ofNat N0) + (Int32.ofNat N1))), .val (.int (((Int32.ofNat N0) + (Int32.ofNat N1)) + (Int32.ofNat N2))), .val (.int (1 : Int32))]) rfl ?_
    refine w_iload X19 D0_166 rfl ?_
    refine w_iconst X19 D0_168 (v := (2 : Int32)) rfl ?_
    refine w_icmplt X19 D0_169 (fun hc169 => by exact absurd hc169 (by decide)) (fun hc169 => ?_)
    refine w_iload X19 D0_172 rfl ?_
    refine w_ifeq X19 D0_174 (fun hc174 => by exact absurd hc174 (by decide)) (fun hc174 => ?_)
    refine w_aload X19 D0_177 rfl rfl ?_
    refine w_iconst X19 D0_179 (v := (2 : Int32)) rfl ?_
    refine w_virtual X19 D0_180 (rm4 hw X19.sz a4 _ 2 (Int32.ofNat (0 + N0 + N1)) rfl (by decide) (6 + D) 3 (0 + N0 + N1 + N2) _ S17 (by decide) (Or.inr ⟨by decide, rfl⟩)) S17.exa (hw _ (List.mem_of_getElem? (i := 23) rfl)) (hw _ (List.mem_of_getElem? (i := 24) rfl)) (hw _ (List.mem_of_getElem? (i := 26) rfl)) (hw _ (List.mem_of_getElem? (i := 25) rfl)) (hw _ (List.mem_of_getElem? (i := 6) rfl)) (hw _ (List.mem_of_getElem? (i := 27) rfl)) (by decide) pd_4 rfl (S := []) rfl rfl (Nat.le_of_ble_eq_true rfl) (Nat.le_of_ble_eq_true rfl) (Nat.le_of_ble_eq_true rfl) (Nat.le_of_ble_eq_true rfl) (fun v20 T20 h20 X20 q20 => ?_)
    obtain ⟨rfl, rfl⟩ := q20
    show Wp _ _ _ _ _ _ _ _ (mkF m 183 #[.val (.int a), .val (.int b), .val (.int c0), .val (.int d), .val (.int (Int32.ofNat 3)), .val (.int (Int32.ofNat N0)), .val (.int (Int32.ofNat N1)), .val (.int (Int32.ofNat N2)), .val (.ref a4), .val (.int (Int32.ofNat N0)), .val (.int ((Int32.ofNat N0) + (Int32.ofNat N1))), .val (.int (((Int32.ofNat N0) + (Int32.ofNat N1)) + (Int32.ofNat N2))), .val (.int (1 : Int32))] [(.int (Int32.ofNat (0 + N0 + N1)))])
    refine w_iload X20 D0_183 rfl ?_
    refine w_icmpne X20 D0_185 (fun hc185 => by exact absurd (by rw [Nat.zero_add, n_add]) hc185) (fun hc185 => ?_)
    refine w_iconst X20 D0_188 (v := (1 : Int32)) rfl ?_
    refine w_goto X20 D0_189 ?_
    refine w_istore X20 D0_193 (l' := #[.val (.int a), .val (.int b), .val (.int c0), .val (.int d), .val (.int (Int32.ofNat 3)), .val (.int (Int32.ofNat N0)), .val (.int (Int32.ofNat N1)), .val (.int (Int32.ofNat N2)), .val (.ref a4), .val (.int (Int32.ofNat N0)), .val (.int ((Int32.ofNat N0) + (Int32.ofNat N1))), .val (.int (((Int32.ofNat N0) + (Int32.ofNat N1)) + (Int32.ofNat N2))), .val (.int (1 : Int32))]) rfl ?_
    refine w_iload X20 D0_195 rfl ?_
    refine w_iconst X20 D0_197 (v := (3 : Int32)) rfl ?_
    refine w_icmplt X20 D0_198 (fun hc198 => by exact absurd hc198 (by decide)) (fun hc198 => ?_)
    refine w_iload X20 D0_201 rfl ?_
    refine w_ifeq X20 D0_203 (fun hc203 => by exact absurd hc203 (by decide)) (fun hc203 => ?_)
    refine w_aload X20 D0_206 rfl rfl ?_
    refine w_iconst X20 D0_208 (v := (3 : Int32)) rfl ?_
    refine w_virtual X20 D0_209 (rm4 hw X20.sz a4 _ 3 (Int32.ofNat (0 + N0 + N1 + N2)) rfl (by decide) (6 + D) 3 (0 + N0 + N1 + N2) _ S17 (by decide) (Or.inl ⟨rfl, rfl⟩)) S17.exa (hw _ (List.mem_of_getElem? (i := 23) rfl)) (hw _ (List.mem_of_getElem? (i := 24) rfl)) (hw _ (List.mem_of_getElem? (i := 26) rfl)) (hw _ (List.mem_of_getElem? (i := 25) rfl)) (hw _ (List.mem_of_getElem? (i := 6) rfl)) (hw _ (List.mem_of_getElem? (i := 27) rfl)) (by decide) pd_4 rfl (S := []) rfl rfl (Nat.le_of_ble_eq_true rfl) (Nat.le_of_ble_eq_true rfl) (Nat.le_of_ble_eq_true rfl) (Nat.le_of_ble_eq_true rfl) (fun v21 T21 h21 X21 q21 => ?_)
    obtain ⟨rfl, rfl⟩ := q21
    show Wp _ _ _ _ _ _ _ _ (mkF m 212 #[.val (.int a), .val (.int b), .val (.int c0), .val (.int d), .val (.int (Int32.ofNat 3)), .val (.int (Int32.ofNat N0)), .val (.int (Int32.ofNat N1)), .val (.int (Int32.ofNat N2)), .val (.ref a4), .val (.int (Int32.ofNat N0)), .val (.int ((Int32.ofNat N0) + (Int32.ofNat N1))), .val (.int (((Int32.ofNat N0) + (Int32.ofNat N1)) + (Int32.ofNat N2))), .val (.int (1 : Int32))] [(.int (Int32.ofNat (0 + N0 + N1 + N2)))])
    refine w_iload X21 D0_212 rfl ?_
    refine w_icmpne X21 D0_214 (fun hc214 => by exact absurd (by rw [Nat.zero_add, n_add, n_add]) hc214) (fun hc214 => ?_)
    refine w_iconst X21 D0_217 (v := (1 : Int32)) rfl ?_
    refine w_goto X21 D0_218 ?_
    refine w_istore X21 D0_222 (l' := #[.val (.int a), .val (.int b), .val (.int c0), .val (.int d), .val (.int (Int32.ofNat 3)), .val (.int (Int32.ofNat N0)), .val (.int (Int32.ofNat N1)), .val (.int (Int32.ofNat N2)), .val (.ref a4), .val (.int (Int32.ofNat N0)), .val (.int ((Int32.ofNat N0) + (Int32.ofNat N1))), .val (.int (((Int32.ofNat N0) + (Int32.ofNat N1)) + (Int32.ofNat N2))), .val (.int (1 : Int32))]) rfl ?_
    refine w_iload X21 D0_224 rfl ?_
    exact w_zreturn X21 D0_226 (by decide) (by decide) (rfl)
set_option maxRecDepth 65536 in
set_option maxHeartbeats 40000000 in
theorem comes_1 {Post : Tables → Env → Array Value → State → Outcome → State → Prop} (hpost : ∀ tb e args s v u, (limb_1_1.after args s (.returned v) u = true ∧ limb_1_2.after args s (.returned v) u = true ∧ True) → FrameEnd s (.returned v) u (Jvm.fieldLocs frame_1_writes args s ++ Jvm.arrayLocs frame_1_arrays args s ++ Jvm.staticLocs frame_1_statics s) 16 2176 → Post tb e args s (.returned v) u) :
    ArmFor flags0 classFile x code maxLocals ret World_1 tables_1 room_1 Calls_1 rest_1 Pre_1 Post := by
  intro l hfl _ _ p e ha hc hk s m args below hf hA hF happ hP
  obtain ⟨hcalls, hrest, hpre⟩ := hP
  obtain ⟨-, -, -, hnamed, -, -, -, hat⟩ := (Spec.applies_iff hf).mp happ
  obtain ⟨hg, hn⟩ := and_e (Cond.before_iff.mp (show (Jvm.Cond.and given_1 narrow_1).before args s = true from hpre))
  obtain ⟨hcount, g0⟩ := and_e hg
  obtain ⟨ga0, g1⟩ := and_e g0
  obtain ⟨ga1, g2⟩ := and_e g1
  obtain ⟨ga2, g3⟩ := and_e g2
  obtain ⟨w0, w1, w2, w3, rfl⟩ : ∃ w0 w1 w2 w3 : Value, args = #[w0, w1, w2, w3] := by
    have hs : args.size = 4 := by simpa [Cond.value, given_1] using hcount
    obtain ⟨L⟩ := args
    match L, hs with
    | [w0, w1, w2, w3], _ => exact ⟨w0, w1, w2, w3, rfl⟩
  have hw := fun d (hd : d ∈ tables_1) => atoms_spec (ws := Jvm.Cond.code x code maxLocals ret :: tables_1) hat d (List.mem_cons_of_mem _ hd)
  obtain ⟨i0, ei0⟩ := is_v ga0
  obtain rfl : w0 = (.int i0) := Option.some.inj ei0
  obtain ⟨i1, ei1⟩ := is_v ga1
  obtain rfl : w1 = (.int i1) := Option.some.inj ei1
  obtain ⟨i2, ei2⟩ := is_v ga2
  obtain rfl : w2 = (.int i2) := Option.some.inj ei2
  obtain ⟨i3, ei3⟩ := is_v g3
  obtain rfl : w3 = (.int i3) := Option.some.inj ei3
  obtain ⟨n, o, h1, h2, h3, _, L, rfl, ⟨N, -, rfl⟩, hq⟩ := rm0 (l := l) (Z := s) (n0 := s.heap.size) (h := s.heap) hw (Nat.le_refl _) i0 i1 i2 i3 p e ha hc hk s m _ below hf ((Spec.applies_iff_loose hf).mp happ).1 ⟨rfl, State.Warmed39.refl s, rfl⟩ trivial
  refine ⟨n, _, h1, h2, h3, hpost _ _ _ _ _ _ ⟨Cond.after_iff.mpr rfl, Cond.after_iff.mpr (eq_i res_at (Term.int_eval (1)) rfl), trivial⟩ ⟨hq.1, hq.2.1, (hq.2.2.sift fun y hy => Or.inr (N y hy)).mono (by decide) (by decide)⟩⟩
theorem main_1_1 : Claimed_1_1 := comes_1 fun _ _ _ _ _ _ h hF => ⟨h.1, hF⟩
theorem main_1_2 : Claimed_1_2 := comes_1 fun _ _ _ _ _ _ h hF => ⟨h.2.1, hF⟩
end Jvm.Pilot.@@N@@
namespace Jvm.Pilot.@@N@@
open Jvm Jvm.ClassFile Sem Op Lib Jvm.Free Jvm.Stand Jvm.Pilot.@@N@@.Jvm.D
/-! MADE BY PROGRAM (witnessworld.py) out of the Statement's table words and the real class files: 10 classes; the members and pool entries that the words name. The judged class is class 1, her method 2. -/
namespace start1
open Jvm.ClassFile
def u (s : String) : CpInfo := .utf8 (stringToUtf16 s)
/-- a pool by its gaps: so many unusable entries, then the entry; so many at the end -/
def gap : Nat → List CpInfo → List CpInfo
  | 0, r => r
  | n + 1, r => .unusable :: gap n r
def poolList (es : List (Nat × CpInfo)) (last : Nat) : List CpInfo := es.foldr (fun e r => gap e.1 (e.2 :: r)) (gap last [])
def pool (es : List (Nat × CpInfo)) (last : Nat) : Array CpInfo := ⟨poolList es last⟩
def fileOf (pool : Array CpInfo) (this : Nat) (attrs : Array Attribute := #[]) (ms : Array MethodInfo := #[]) (fl : Nat := 33) (sup : Nat := 0) (ifs : Array Nat := #[]) (fds : Array FieldInfo := #[]) : ClassFile where
  minorVersion := 0
  majorVersion := 65
  constantPool := pool
  accessFlags := fl
  thisClass := this
  superClass := sup
  interfaces := ifs
  fields := fds
  methods := ms
  attributes := attrs
def plain (name : String) (sup : Option ClassId) : Class where
  name := name
  kind := .ordinary
  loader := none
  accessFlags := 33
  super := sup
  interfaces := #[]
  cf := none
  fields := #[]
  methods := #[]
  instanceTypes := #[]
  staticTypes := #[]
  resolved := #[]
  callSites := []
  init := .initialized
  statics := none
  mirror := none

def pool0 : Array CpInfo := pool [(5, u "<init>"), (0, u "()V"), (1, .class_ 10), (1, u "java/lang/Object")] 113

def k0c0 : Code := { maxStack := 0, maxLocals := 1, code := object_method_1_code, exceptionTable := #[], attributes := #[] }
def k0m0 : Method := { name := "<init>", desc := "()V", sig := { parameters := [], returnType := none }, accessFlags := 1, code := some k0c0 }
/-- java/lang/Object -/
def k0 : Class := { plain "java/lang/Object" none with
  accessFlags := 33
  interfaces := #[]
  cf := some (fileOf pool0 8 #[] #[{ accessFlags := 1, nameIndex := 5, descriptorIndex := 6, attributes := #[] }] 33 0 #[] #[])
  fields := #[]
  methods := #[k0m0]
  instanceTypes := #[]
  staticTypes := #[]
  resolved := Array.replicate 124 none
  statics := none }

def pool1 : Array CpInfo := pool [(2, .class_ 4), (1, u "java/lang/Object"), (0, u "<init>"), (0, u "()V"), (0, .methodref 8 9), (0, .class_ 10), (0, .nameAndType 11 6), (0, u "com/example/tokenfold/tokenfold/statespace/ArcStore"), (0, u "nextSource"), (0, .methodref 8 13), (0, .nameAndType 14 15), (0, u "add"), (0, u "(II)V"), (0, .methodref 17 18), (0, .class_ 19), (0, .nameAndType 20 21), (0, u "java/lang/Math"), (0, u "min"), (0, u "(II)I"), (0, .methodref 8 23), (0, .nameAndType 5 24), (0, u "(I)V"), (0, .methodref 26 27), (0, .class_ 28), (0, .nameAndType 29 30), (0, u "com/example/tokenfold/tokenfold/statespace/ArcStoreFirstArcPinLaw"), (0, u "begin"), (0, u "(Lcom/example/tokenfold/tokenfold/statespace/ArcStore;III)V"), (0, .methodref 8 32), (0, .nameAndType 33 34), (0, u "firstArc"), (0, u "(I)I"), (6, u "law"), (0, u "(IIII)Z")] 2

def k1m0 : Method := { name := "<init>", desc := "()V", sig := { parameters := [], returnType := none }, accessFlags := 2, code := none }
def k1c1 : Code := { maxStack := 3, maxLocals := 4, code := method_2_code, exceptionTable := #[], attributes := #[] }
def k1m1 : Method := { name := "begin", desc := "(Lcom/example/tokenfold/tokenfold/statespace/ArcStore;III)V", sig := { parameters := [(.object "com/example/tokenfold/tokenfold/statespace/ArcStore"), .int, .int, .int], returnType := none }, accessFlags := 10, code := some k1c1 }
def k1c2 : Code := { maxStack := 5, maxLocals := 13, code := code, exceptionTable := #[], attributes := #[] }
def k1m2 : Method := { name := "law", desc := "(IIII)Z", sig := { parameters := [.int, .int, .int, .int], returnType := some .boolean }, accessFlags := 9, code := some k1c2 }
/-- com/example/tokenfold/tokenfold/statespace/ArcStoreFirstArcPinLaw -/
def k1 : Class := { plain "com/example/tokenfold/tokenfold/statespace/ArcStoreFirstArcPinLaw" (some 0) with
  accessFlags := 49
  interfaces := #[]
  cf := some (fileOf pool1 26 #[] #[{ accessFlags := 2, nameIndex := 5, descriptorIndex := 6, attributes := #[] }, { accessFlags := 10, nameIndex := 29, descriptorIndex := 30, attributes := #[] }, { accessFlags := 9, nameIndex := 41, descriptorIndex := 42, attributes := #[] }] 49 2 #[] #[])
  fields := #[]
  methods := #[k1m0, k1m1, k1m2]
  instanceTypes := #[]
  staticTypes := #[]
  resolved := Array.replicate 45 none
  statics := none }

def pool2 : Array CpInfo := pool [(1, .class_ 2), (0, u "java/lang/Math"), (1, .class_ 6), (1, u "java/lang/Object"), (0, u "<init>"), (0, u "()V"), (89, .class_ 100), (1, u "java/lang/Math$RandomNumberGeneratorHolder"), (71, u "negativeZeroFloatBits"), (0, u "J"), (2, u "negativeZeroDoubleBits"), (24, u "min"), (43, u "$assertionsDisabled"), (0, u "Z"), (88, u "(II)I"), (2, u "twoToTheDoubleScaleDown"), (0, u "D"), (4, u "twoToTheDoubleScaleUp"), (9, u "E"), (3, u "PI"), (2, u "TAU"), (2, u "DEGREES_TO_RADIANS"), (0, u "RADIANS_TO_DEGREES")] 94

def k2m0 : Method := { name := "<init>", desc := "()V", sig := { parameters := [], returnType := none }, accessFlags := 2, code := none }
def k2c1 : Code := { maxStack := 2, maxLocals := 2, code := jdk_29_method_69_code, exceptionTable := #[], attributes := #[] }
def k2m1 : Method := { name := "min", desc := "(II)I", sig := { parameters := [.int, .int], returnType := some .int }, accessFlags := 9, code := some k2c1 }
/-- java/lang/Math -/
def k2 : Class := { plain "java/lang/Math" (some 0) with
  accessFlags := 49
  interfaces := #[]
  cf := some (fileOf pool2 1 #[.nestMembers #[98]] #[{ accessFlags := 2, nameIndex := 7, descriptorIndex := 8, attributes := #[] }, { accessFlags := 9, nameIndex := 201, descriptorIndex := 335, attributes := #[] }] 49 4 #[] #[{ accessFlags := 25, nameIndex := 354, descriptorIndex := 339, attributes := #[] }, { accessFlags := 25, nameIndex := 358, descriptorIndex := 339, attributes := #[] }, { accessFlags := 25, nameIndex := 361, descriptorIndex := 339, attributes := #[] }, { accessFlags := 26, nameIndex := 364, descriptorIndex := 339, attributes := #[] }, { accessFlags := 26, nameIndex := 365, descriptorIndex := 339, attributes := #[] }, { accessFlags := 26, nameIndex := 172, descriptorIndex := 173, attributes := #[] }, { accessFlags := 26, nameIndex := 176, descriptorIndex := 173, attributes := #[] }, { accessFlags := 8, nameIndex := 344, descriptorIndex := 339, attributes := #[] }, { accessFlags := 8, nameIndex := 338, descriptorIndex := 339, attributes := #[] }, { accessFlags := 4120, nameIndex := 245, descriptorIndex := 246, attributes := #[] }])
  fields := #[{ name := "E", type := .double, accessFlags := 25, slot := 0, constantValue := 0 }, { name := "PI", type := .double, accessFlags := 25, slot := 1, constantValue := 0 }, { name := "TAU", type := .double, accessFlags := 25, slot := 2, constantValue := 0 }, { name := "DEGREES_TO_RADIANS", type := .double, accessFlags := 26, slot := 3, constantValue := 0 }, { name := "RADIANS_TO_DEGREES", type := .double, accessFlags := 26, slot := 4, constantValue := 0 }, { name := "negativeZeroFloatBits", type := .long, accessFlags := 26, slot := 5, constantValue := 0 }, { name := "negativeZeroDoubleBits", type := .long, accessFlags := 26, slot := 6, constantValue := 0 }, { name := "twoToTheDoubleScaleUp", type := .double, accessFlags := 8, slot := 7, constantValue := 0 }, { name := "twoToTheDoubleScaleDown", type := .double, accessFlags := 8, slot := 8, constantValue := 0 }, { name := "$assertionsDisabled", type := .boolean, accessFlags := 4120, slot := 9, constantValue := 0 }]
  methods := #[k2m0, k2m1]
  instanceTypes := #[]
  staticTypes := #[.double, .double, .double, .double, .double, .long, .long, .double, .double, .boolean]
  resolved := Array.replicate 460 none
  statics := none }

def pool3 : Array CpInfo := pool [(3, .methodref 4 5), (0, .class_ 6), (0, .nameAndType 7 8), (0, u "java/lang/Object"), (0, u "<init>"), (0, u "()V"), (0, .class_ 10), (0, u "com/example/tokenfold/tokenfold/statespace/ArcStore"), (0, .fieldref 9 12), (0, .nameAndType 13 14), (0, u "firstArcs"), (0, u "[I"), (0, .fieldref 9 16), (0, .nameAndType 17 18), (0, u "capacity"), (0, u "I"), (0, .methodref 20 21), (0, .class_ 22), (0, .nameAndType 23 24), (0, u "java/lang/Math"), (0, u "min"), (0, u "(II)I"), (0, .fieldref 9 26), (0, .nameAndType 27 14), (0, u "transitions"), (0, .fieldref 9 29), (0, .nameAndType 30 14), (0, u "targets"), (0, .fieldref 9 32), (0, .nameAndType 33 18), (0, u "sources"), (6, .fieldref 9 41), (0, .nameAndType 42 18), (0, u "size"), (15, .long 2), (4, u "CAPACITY"), (2, u "FIRST_SIZE"), (1, u "(I)V"), (2, u "nextSource"), (1, u "add"), (0, u "(II)V"), (2, u "firstArc"), (0, u "(I)I")] 20

def k3c0 : Code := { maxStack := 3, maxLocals := 2, code := prog_46_method_1_code, exceptionTable := #[], attributes := #[] }
def k3m0 : Method := { name := "<init>", desc := "(I)V", sig := { parameters := [.int], returnType := none }, accessFlags := 0, code := some k3c0 }
def k3c1 : Code := { maxStack := 5, maxLocals := 1, code := prog_46_method_2_code, exceptionTable := #[], attributes := #[] }
def k3m1 : Method := { name := "nextSource", desc := "()V", sig := { parameters := [], returnType := none }, accessFlags := 0, code := some k3c1 }
def k3c2 : Code := { maxStack := 4, maxLocals := 4, code := prog_46_method_3_code, exceptionTable := #[], attributes := #[] }
def k3m2 : Method := { name := "add", desc := "(II)V", sig := { parameters := [.int, .int], returnType := none }, accessFlags := 0, code := some k3c2 }
def k3c3 : Code := { maxStack := 2, maxLocals := 2, code := prog_46_method_5_code, exceptionTable := #[], attributes := #[] }
def k3m3 : Method := { name := "firstArc", desc := "(I)I", sig := { parameters := [.int], returnType := some .int }, accessFlags := 0, code := some k3c3 }
/-- com/example/tokenfold/tokenfold/statespace/ArcStore -/
def k3 : Class := { plain "com/example/tokenfold/tokenfold/statespace/ArcStore" (some 0) with
  accessFlags := 32
  interfaces := #[]
  cf := some (fileOf pool3 9 #[] #[{ accessFlags := 0, nameIndex := 7, descriptorIndex := 68, attributes := #[] }, { accessFlags := 0, nameIndex := 71, descriptorIndex := 8, attributes := #[] }, { accessFlags := 0, nameIndex := 73, descriptorIndex := 74, attributes := #[] }, { accessFlags := 0, nameIndex := 77, descriptorIndex := 78, attributes := #[] }] 32 4 #[] #[{ accessFlags := 24, nameIndex := 63, descriptorIndex := 18, attributes := #[] }, { accessFlags := 26, nameIndex := 66, descriptorIndex := 18, attributes := #[] }, { accessFlags := 18, nameIndex := 17, descriptorIndex := 18, attributes := #[] }, { accessFlags := 2, nameIndex := 27, descriptorIndex := 14, attributes := #[] }, { accessFlags := 2, nameIndex := 30, descriptorIndex := 14, attributes := #[] }, { accessFlags := 2, nameIndex := 42, descriptorIndex := 18, attributes := #[] }, { accessFlags := 2, nameIndex := 13, descriptorIndex := 14, attributes := #[] }, { accessFlags := 2, nameIndex := 33, descriptorIndex := 18, attributes := #[] }])
  fields := #[{ name := "CAPACITY", type := .int, accessFlags := 24, slot := 0, constantValue := 0 }, { name := "FIRST_SIZE", type := .int, accessFlags := 26, slot := 1, constantValue := 0 }, { name := "capacity", type := .int, accessFlags := 18, slot := 0, constantValue := 0 }, { name := "transitions", type := (.array .int), accessFlags := 2, slot := 1, constantValue := 0 }, { name := "targets", type := (.array .int), accessFlags := 2, slot := 2, constantValue := 0 }, { name := "size", type := .int, accessFlags := 2, slot := 3, constantValue := 0 }, { name := "firstArcs", type := (.array .int), accessFlags := 2, slot := 4, constantValue := 0 }, { name := "sources", type := .int, accessFlags := 2, slot := 5, constantValue := 0 }]
  methods := #[k3m0, k3m1, k3m2, k3m3]
  instanceTypes := #[.int, (.array .int), (.array .int), .int, (.array .int), .int]
  staticTypes := #[.int, .int]
  resolved := Array.replicate 99 none
  statics := none }

def pool4 : Array CpInfo := pool [(1, u "java/lang/Cloneable"), (0, .class_ 1), (0, u "java/lang/Object"), (0, .class_ 3)] 3

/-- java/lang/Cloneable -/
def k4 : Class := { plain "java/lang/Cloneable" (some 0) with
  accessFlags := 1537
  interfaces := #[]
  cf := some (fileOf pool4 2 #[] #[] 1537 4 #[] #[])
  fields := #[]
  methods := #[]
  instanceTypes := #[]
  staticTypes := #[]
  resolved := Array.replicate 8 none
  statics := none }

def pool5 : Array CpInfo := pool [(1, u "java/io/Serializable"), (0, .class_ 1), (0, u "java/lang/Object"), (0, .class_ 3)] 3

/-- java/io/Serializable -/
def k5 : Class := { plain "java/io/Serializable" (some 0) with
  accessFlags := 1537
  interfaces := #[]
  cf := some (fileOf pool5 2 #[] #[] 1537 4 #[] #[])
  fields := #[]
  methods := #[]
  instanceTypes := #[]
  staticTypes := #[]
  resolved := Array.replicate 8 none
  statics := none }

/-- the primitive byte -/
def k6 : Class := { plain "byte" none with kind := .primitive 'B', accessFlags := 0x411 }
/-- [B -/
def k7 : Class := { plain "[B" (some 0) with kind := .array 6 .byte, interfaces := #[4, 5], accessFlags := 1041 }

/-- the primitive int -/
def k8 : Class := { plain "int" none with kind := .primitive 'I', accessFlags := 0x411 }
/-- [I -/
def k9 : Class := { plain "[I" (some 0) with kind := .array 8 .int, interfaces := #[4, 5], accessFlags := 1041 }

def heap : Heap := #[]
def classes : Array Class := #[k0, k1, k2, k3, k4, k5, k6, k7, k8, k9]
def interned : List (Array UInt16 × Addr) := []
def slotsUsed : Nat := 0
def theMethod : MethodId := ⟨1, 2⟩
def args0 : Array Value := #[.int 27, .int 2, .int 3, .int 4]
def aboutOver (below : List Frame) : State where
  vm := { classes := classes, interned := interned.toArray }
  heap := heap
  slotsUsed := slotsUsed
  threads := #[{ frames := .invoking theMethod args0 :: below }]
def below0 : List Frame := [.native { method := ⟨0, 0⟩, args := #[] }]
def about1 : State := aboutOver below0
def p0 : Program := .bare "" "" ""
def e0 : Env := launch0.env 0 0 0
theorem w_frames : about1.frames = Frame.invoking theMethod args0 :: below0 := rfl
set_option maxRecDepth 65536 in
theorem w_args : argsFit about1.vm theMethod args0 = true := by decide +kernel
set_option maxRecDepth 65536 in
theorem w_heap : heapFits about1 = true := by decide +kernel
set_option maxRecDepth 65536 in
theorem w_runnable : about1.curStatus? = some .runnable := by decide +kernel
set_option maxRecDepth 65536 in
theorem w_alone : about1.alone = true := by decide +kernel
set_option maxRecDepth 65536 in
theorem w_named : about1.methodNamed? x = some theMethod := by decide +kernel
set_option maxRecDepth 65536 in
theorem w_hears : about1.hears theMethod below0 = true := by decide +kernel
set_option maxRecDepth 65536 in
theorem w_ripe : about1.ripe theMethod args0 below0 = true := by decide +kernel
theorem w_running : about1.status = .running := rfl
set_option maxRecDepth 65536 in
theorem w_room : about1.hasRoom e0.platform room_1 = true :=
  launch0.hasRoom_least _ room_1 (by decide +kernel) (by decide +kernel) (by decide +kernel) (by decide +kernel) (by decide +kernel) (by decide +kernel)
theorem allAtoms_all (ts : List Jvm.Cond) (a : Array Jvm.Value) (st : Jvm.State) : (allAtoms ts).before a st = ts.all (fun c => c.before a st) := by
  induction ts with
  | nil => rfl
  | cons c t ih =>
    show (Jvm.Cond.and c (allAtoms t)).before a st = _
    rw [Jvm.Cond.before_and, ih, List.all_cons]
def words1 : List Jvm.Cond := Jvm.Cond.code x code maxLocals ret :: tables_1
/-- a 'code' word, met by the world's own term for the bytes: nothing is compared byte by byte -/
theorem code_word {y : MethodName} {bytes : ByteArray} {mx : Nat} {rt : Option FieldType} {a : Array Value} {s : State} {m : MethodId} {meth : Method} {c : Code} (h1 : s.methodNamed? y = some m) (h2 : s.vm.method? m = some meth) (h3 : meth.code = some c) (h4 : c.code = bytes)
    (h5 : (c.maxLocals == mx && c.exceptionTable.isEmpty && decide (c.maxStack ≤ mostOperands) && decide (meth.sig.returnType = rt) && !meth.locks && decide (parseMethodDescriptor y.desc = some meth.sig)) = true) : (Jvm.Cond.code y bytes mx rt).before a s = true := by
  simp only [Bool.and_eq_true, beq_iff_eq, Bool.not_eq_true', decide_eq_true_eq] at h5
  obtain ⟨⟨⟨⟨⟨g1, g2⟩, g3⟩, g4⟩, g5⟩, g6⟩ := h5
  simp [Cond.before, Cond.holds, Cond.value, h1, h2, h3, h4, g1, g2, g3, g4, g5, g6]
def isCode : Jvm.Cond → Bool
  | .code _ _ _ _ => true
  | _ => false
theorem all_split {L : List Jvm.Cond} {P : Jvm.Cond → Bool} (h1 : L.all (fun c => isCode c || P c) = true) (h2 : ∀ c ∈ L.filter isCode, P c = true) : L.all P = true := by
  refine List.all_eq_true.mpr fun c hc => ?_
  have h := List.all_eq_true.mp h1 c hc
  rcases Bool.eq_false_or_eq_true (isCode c) with hi | hi
  · exact h2 c (List.mem_filter.mpr ⟨hc, hi⟩)
  · simpa [hi] using h
set_option maxRecDepth 65536 in
theorem w_c0 : (Jvm.Cond.code x code maxLocals ret).before args0 about1 = true := code_word (m := ⟨1, 2⟩) (meth := k1m2) (c := k1c2) (by decide +kernel) rfl rfl rfl (by decide +kernel)
set_option maxRecDepth 65536 in
theorem w_c1 : (Jvm.Cond.code ({ cls := "java/lang/Math", name := "min", desc := "(II)I" } : Jvm.MethodName) jdk_29_method_69_code (2 : Nat) (Option.some Jvm.ClassFile.FieldType.int)).before args0 about1 = true := code_word (m := ⟨2, 1⟩) (meth := k2m1) (c := k2c1) (by decide +kernel) rfl rfl rfl (by decide +kernel)
set_option maxRecDepth 65536 in
theorem w_c2 : (Jvm.Cond.code ({ cls := "com/example/tokenfold/tokenfold/statespace/ArcStore", name := "<init>", desc := "(I)V" } : Jvm.MethodName) prog_46_method_1_code (2 : Nat) (Option.none : Option Jvm.ClassFile.FieldType)).before args0 about1 = true := code_word (m := ⟨3, 0⟩) (meth := k3m0) (c := k3c0) (by decide +kernel) rfl rfl rfl (by decide +kernel)
set_option maxRecDepth 65536 in
theorem w_c3 : (Jvm.Cond.code ({ cls := "java/lang/Object", name := "<init>", desc := "()V" } : Jvm.MethodName) object_method_1_code (1 : Nat) (Option.none : Option Jvm.ClassFile.FieldType)).before args0 about1 = true := code_word (m := ⟨0, 0⟩) (meth := k0m0) (c := k0c0) (by decide +kernel) rfl rfl rfl (by decide +kernel)
set_option maxRecDepth 65536 in
theorem w_c4 : (Jvm.Cond.code ({ cls := "com/example/tokenfold/tokenfold/statespace/ArcStore", name := "firstArc", desc := "(I)I" } : Jvm.MethodName) prog_46_method_5_code (2 : Nat) (Option.some Jvm.ClassFile.FieldType.int)).before args0 about1 = true := code_word (m := ⟨3, 3⟩) (meth := k3m3) (c := k3c3) (by decide +kernel) rfl rfl rfl (by decide +kernel)
set_option maxRecDepth 65536 in
theorem w_c5 : (Jvm.Cond.code ({ cls := "com/example/tokenfold/tokenfold/statespace/ArcStoreFirstArcPinLaw", name := "begin", desc := "(Lcom/example/tokenfold/tokenfold/statespace/ArcStore;III)V" } : Jvm.MethodName) method_2_code (4 : Nat) (Option.none : Option Jvm.ClassFile.FieldType)).before args0 about1 = true := code_word (m := ⟨1, 1⟩) (meth := k1m1) (c := k1c1) (by decide +kernel) rfl rfl rfl (by decide +kernel)
set_option maxRecDepth 65536 in
theorem w_c6 : (Jvm.Cond.code ({ cls := "com/example/tokenfold/tokenfold/statespace/ArcStore", name := "nextSource", desc := "()V" } : Jvm.MethodName) prog_46_method_2_code (1 : Nat) (Option.none : Option Jvm.ClassFile.FieldType)).before args0 about1 = true := code_word (m := ⟨3, 1⟩) (meth := k3m1) (c := k3c1) (by decide +kernel) rfl rfl rfl (by decide +kernel)
set_option maxRecDepth 65536 in
theorem w_c7 : (Jvm.Cond.code ({ cls := "com/example/tokenfold/tokenfold/statespace/ArcStore", name := "add", desc := "(II)V" } : Jvm.MethodName) prog_46_method_3_code (4 : Nat) (Option.none : Option Jvm.ClassFile.FieldType)).before args0 about1 = true := code_word (m := ⟨3, 2⟩) (meth := k3m2) (c := k3c2) (by decide +kernel) rfl rfl rfl (by decide +kernel)
def codes1 : List Jvm.Cond := [Jvm.Cond.code x code maxLocals ret, Jvm.Cond.code ({ cls := "java/lang/Math", name := "min", desc := "(II)I" } : Jvm.MethodName) jdk_29_method_69_code (2 : Nat) (Option.some Jvm.ClassFile.FieldType.int), Jvm.Cond.code ({ cls := "com/example/tokenfold/tokenfold/statespace/ArcStore", name := "<init>", desc := "(I)V" } : Jvm.MethodName) prog_46_method_1_code (2 : Nat) (Option.none : Option Jvm.ClassFile.FieldType), Jvm.Cond.code ({ cls := "java/lang/Object", name := "<init>", desc := "()V" } : Jvm.MethodName) object_method_1_code (1 : Nat) (Option.none : Option Jvm.ClassFile.FieldType), Jvm.Cond.code ({ cls := "com/example/tokenfold/tokenfold/statespace/ArcStore", name := "firstArc", desc := "(I)I" } : Jvm.MethodName) prog_46_method_5_code (2 : Nat) (Option.some Jvm.ClassFile.FieldType.int), Jvm.Cond.code ({ cls := "com/example/tokenfold/tokenfold/statespace/ArcStoreFirstArcPinLaw", name := "begin", desc := "(Lcom/example/tokenfold/tokenfold/statespace/ArcStore;III)V" } : Jvm.MethodName) method_2_code (4 : Nat) (Option.none : Option Jvm.ClassFile.FieldType), Jvm.Cond.code ({ cls := "com/example/tokenfold/tokenfold/statespace/ArcStore", name := "nextSource", desc := "()V" } : Jvm.MethodName) prog_46_method_2_code (1 : Nat) (Option.none : Option Jvm.ClassFile.FieldType), Jvm.Cond.code ({ cls := "com/example/tokenfold/tokenfold/statespace/ArcStore", name := "add", desc := "(II)V" } : Jvm.MethodName) prog_46_method_3_code (4 : Nat) (Option.none : Option Jvm.ClassFile.FieldType)]
set_option maxRecDepth 65536 in
theorem codes_eq : words1.filter isCode = codes1 := rfl
theorem w_codes : ∀ c ∈ words1.filter isCode, c.before args0 about1 = true := by
  rw [codes_eq]
  intro c hc
  simp only [codes1, List.mem_cons, List.not_mem_nil, or_false] at hc
  rcases hc with rfl | rfl | rfl | rfl | rfl | rfl | rfl | rfl
  · exact w_c0
  · exact w_c1
  · exact w_c2
  · exact w_c3
  · exact w_c4
  · exact w_c5
  · exact w_c6
  · exact w_c7
set_option maxRecDepth 65536 in
theorem w_t1 : (words1.take 24).all (fun c => isCode c || c.before args0 about1) = true := by decide +kernel
set_option maxRecDepth 65536 in
theorem w_t2 : (words1.drop 24).all (fun c => isCode c || c.before args0 about1) = true := by decide +kernel
theorem w_tables : (allAtoms (Jvm.Cond.code x code maxLocals ret :: tables_1)).before args0 about1 = true := by
  rw [allAtoms_all]
  show words1.all (fun c => c.before args0 about1) = true
  refine all_split ?_ w_codes
  rw [← List.take_append_drop 24 words1, List.all_append, w_t1, w_t2]
  rfl
set_option maxRecDepth 65536 in
theorem w_case : (Jvm.Cond.and given_1 narrow_1).before args0 about1 = true := by decide +kernel
theorem w_applies : (headSpec (Jvm.Cond.code x code maxLocals ret :: tables_1) room_1).applies x e0.platform about1 = true :=
  (Spec.applies_iff w_frames).mpr ⟨w_running, w_runnable, w_alone, w_named, w_hears, w_ripe, w_room, w_tables⟩
theorem atStart : AtStart classFile x code maxLocals ret World_1 tables_1 room_1 Calls_1 rest_1 Pre_1 launch0 p0 e0 about1 theMethod args0 below0 :=
  ⟨lists_1, trivial, launch0.admits_env _ _ _, launch0.least_env, fairChoices_fair.cas, fairChoices_fair.clock, w_frames, w_args, w_heap, w_applies, trivial, trivial, w_case⟩
end start1
theorem witness_1 : WitnessClaimed_1 := ⟨start1.p0, start1.e0, start1.about1, start1.theMethod, start1.args0, start1.below0, start1.atStart⟩
end Jvm.Pilot.@@N@@
