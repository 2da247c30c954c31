import JvmDerived
import JvmDerived.Pilot.@@N@@Statement
import JvmDerived.Pilot.@@N@@Code
set_option linter.unusedVariables false
set_option linter.unusedSimpArgs false
namespace Jvm.RoadKit
open Sem ClassFile Op Lib Jvm.Stand Jvm.Free Jvm.LawKit
section New
variable {p : Program} {l : Launch} {e : Env} {R : Room} {s : State} {m : MethodId} {args : Array Value} {below : List Frame} {meth : Method} {c : Code} {T : State} {locs : List Loc} {cells slots : Nat}
theorem retI (X : Stand p l e R s m args below meth c T locs cells slots) (hx : p.tables.exec = Jvm.exec) {pc : Nat} {Ls : Array Slot} {z : Int32} {rest : List Value} (hret : meth.sig.returnType = some .int) (hd : decode c.code pc = .ok (.ireturn, 1)) {fs : List Frame}
    (hl : ∀ (f : JFrame) (acts : List Action), f.method = m → f.locked = none → f.entered = [] → (doReturn e (T.setTop f) acts (some (.int z))).1 = T.setFrames fs) : Steps p.tables e below (T.setTop (mkF m pc Ls (.int z :: rest))) (T.setFrames fs) := by
  have hm' : T.vm.method? m = some meth := X.method'
  have hn : narrow .int (.int z) = .int z := rfl
  show Steps p.tables e below (T.setTop { method := m, pc := pc, locals := Ls, stack := _ :: rest, locked := none }) _
  jvm_step X.here [X.here.top, hx, hd, hm', hret, hn]
  first | (intro acts; rw [hl _ acts rfl rfl rfl]) | rw [hl _ _ rfl rfl rfl]
  exact Steps.refl _
end New
end Jvm.RoadKit
namespace Jvm.Pilot.@@N@@
open Jvm Jvm.ClassFile Sem Op Lib Jvm.Free Jvm.Stand Jvm.LawKit Jvm.RoadKit Bundle Jvm.Pilot.@@N@@.Jvm.D
section OwnKit
variable {Z : State} {a0 : Array Value} {n0 : Nat} {p : Program} {l : Launch} {e : Env} {R : Room} {s : State} {m : MethodId} {args : Array Value} {below : List Frame} {meth : Method} {c : Code} {code : ByteArray} {ml : Nat} {ret : Option FieldType} {y : MethodName} {T : State} {h h' : Heap} {k j : Nat} {Q : Option Value → Heap → Prop} {pc nx tgt : Nat} {Ls : Array Slot} {S : List Value}
/-- Java's shifts -/
abbrev jshl (x q : Int32) : Int32 := x <<< (q &&& 31)
abbrev jshr (x q : Int32) : Int32 := x >>> (q &&& 31)
abbrev jushr (x q : Int32) : Int32 := (x.toUInt32 >>> (q &&& 31).toUInt32).toInt32
abbrev jshlL (x : Int64) (q : Int32) : Int64 := x <<< (q &&& 0x3f).toInt64
abbrev jshrL (x : Int64) (q : Int32) : Int64 := x >>> (q &&& 0x3f).toInt64
abbrev jushrL (x : Int64) (q : Int32) : Int64 := (x.toUInt64 >>> (q &&& 0x3f).toInt64.toUInt64).toInt64
abbrev jbyte (x : Int32) : Int32 := x.toInt8.toInt32
/-- the instruction at pc, and the pc behind it -/
def Dec (code : ByteArray) (pc : Nat) (i : Instr) (len nx : Nat) : Prop := decode code pc = .ok (i, len) ∧ nx = pc + len
/-- a jump at pc: the pc behind it, and where it goes -/
def Jmp (code : ByteArray) (pc : Nat) (i : Instr) (o : Int) (nx tgt : Nat) : Prop := decode code pc = .ok (i, 3) ∧ nx = pc + 3 ∧ 0 ≤ (pc : Int) + o ∧ ((pc : Int) + o).toNat = tgt
/-- where a body's run stands: the heap, the cells and slots made; nothing older than n0 was written -/
def Pos (Z : State) (a0 : Array Value) (n0 : Nat) (p : Program) (l : Launch) (e : Env) (R : Room) (s : State) (m : MethodId) (args : Array Value) (below : List Frame) (meth : Method) (c : Code) (code : ByteArray) (ml : Nat) (ret : Option FieldType) (y : MethodName) (T : State) (h : Heap) (k j : Nat) : Prop :=
  p.tables.exec = Jvm.exec ∧ Z.Warmed39 s.vm ∧ c.code = code ∧ c.maxLocals = ml ∧ meth.sig.returnType = ret ∧ s.vm.findClass y.cls = some m.cls ∧ meth.name = y.name ∧ meth.locks = false ∧ T.heap = h ∧ n0 ≤ h.size ∧ (∀ d ∈ tables_1, d.before a0 Z = true) ∧ ∃ locs, Fr n0 locs ∧ Stand p l e R s m args below meth c T locs k j
/-- from the frame f over T the body comes to its end, and Q says with what -/
def Wp (n0 : Nat) (p : Program) (e : Env) (R : Room) (s : State) (below : List Frame) (Q : Option Value → Heap → Prop) (T : State) (f : JFrame) : Prop :=
  ∃ t o, Steps p.tables e below (T.setTop f) t ∧ t.status = .running ∧ Ended t below o ∧ ∃ v L, o = .returned v ∧ (Fr n0 L ∧ n0 ≤ t.heap.size ∧ Q v t.heap) ∧ FrameEnd s o t L R.cells R.slots
/-- a body's contract at one array of arguments and one heap -/
def Ctr (l : Launch) (Z : State) (n0 : Nat) (y : MethodName) (code : ByteArray) (ml : Nat) (ret : Option FieldType) (R : Room) (ws : List Jvm.Cond) (as : Array Value) (h : Heap) (Q : Option Value → Heap → Prop) : Prop :=
  MetFree l y (head1 (Jvm.Cond.code y code ml ret :: ws) R) (fun a U => a = as ∧ Z.Warmed39 U.vm ∧ U.heap = h) (fun _ _ _ _ _ => True) (fun _ U o U' => ∃ v L, o = .returned v ∧ (Fr n0 L ∧ n0 ≤ U'.heap.size ∧ Q v U'.heap) ∧ FrameEnd U o U' L R.cells R.slots)
/-- an array of n places: place i holds g i; it is no older than n0 -/
def Ba (Z : State) (n0 : Nat) (h : Heap) (a : Addr) (ty : FieldType) (n : Nat) (g : Nat → Value) : Prop :=
  n0 ≤ a ∧ n < 2147483648 ∧ ∃ c : Cell, Arr Z h a c ty ∧ c.slots.size = n ∧ ∀ i, i < n → c.slots[i]? = some (g i)
def bI (b : Nat → Int32) : Nat → Value := fun i => .int (b i)
def bJ (b : Nat → Int64) : Nat → Value := fun i => .long (b i)
def upd {α : Type} (b : Nat → α) (i : Nat) (v : α) : Nat → α := fun q => if q = i then v else b q
theorem upd_at {α : Type} (b : Nat → α) (i : Nat) (v : α) : upd b i v i = v := if_pos rfl
theorem upd_ne {α : Type} (b : Nat → α) {i q : Nat} (v : α) (h : q ≠ i) : upd b i v q = b q := if_neg h
theorem Ba.lt {a : Addr} {ty : FieldType} {n : Nat} {g : Nat → Value} (B : Ba Z n0 h a ty n g) : a < h.size := by obtain ⟨-, -, c, A, -⟩ := B; exact A.lt
theorem Ba.ext {a : Addr} {ty : FieldType} {n : Nat} {g : Nat → Value} (B : Ba Z n0 h a ty n g) (E : Ext h h') : Ba Z n0 h' a ty n g := by obtain ⟨q1, q2, c, A, r⟩ := B; exact ⟨q1, q2, c, A.ext E, r⟩
theorem Ba.keep {a : Addr} {ty : FieldType} {n : Nat} {g : Nat → Value} {ws : List Addr} (B : Ba Z n0 h a ty n g) (K : Keep h h' ws) (q : a ∉ ws) : Ba Z n0 h' a ty n g := by obtain ⟨q1, q2, c, A, r⟩ := B; exact ⟨q1, q2, c, ⟨K.2.1 a c A.1 q, A.2⟩, r⟩
theorem Ba.congr {a : Addr} {ty : FieldType} {n : Nat} {g g' : Nat → Value} (B : Ba Z n0 h a ty n g) (q : ∀ i, i < n → g i = g' i) : Ba Z n0 h a ty n g' := by obtain ⟨q1, q2, c, A, r1, r2⟩ := B; exact ⟨q1, q2, c, A, r1, fun i hi => by rw [r2 i hi, q i hi]⟩
theorem ofNat_toInt {n : Nat} (h : n < 2147483648) : (Int32.ofNat n).toInt = n := Int32.toInt_ofNat_of_lt (by omega)
theorem ofNat_clamp {n : Nat} (h : n < 2147483648) : (Int32.ofNat n).toNatClampNeg = n := by rw [Int32.toNatClampNeg, ofNat_toInt h]; rfl
theorem ofNat_nn {n : Nat} (h : n < 2147483648) : ¬ Int32.ofNat n < 0 := by rw [Int32.lt_iff_toInt_lt, ofNat_toInt h, show (0 : Int32).toInt = 0 from rfl]; omega
theorem ofNat_lt {a b : Nat} (ha : a < 2147483648) (hb : b < 2147483648) : Int32.ofNat a < Int32.ofNat b ↔ a < b := by rw [Int32.lt_iff_toInt_lt, ofNat_toInt ha, ofNat_toInt hb]; omega
theorem eq_ofNat {x : Int32} {n : Nat} (hn : n < 2147483648) (h : x.toInt = n) : x = Int32.ofNat n := Int32.toInt_inj.mp (by rw [h, ofNat_toInt hn])
theorem inb {c : Cell} {n i : Nat} (hn : n < 2147483648) (hc : c.slots.size = n) (hi : i < n) : ¬ (Int32.ofNat i < 0 ∨ c.slots.size ≤ (Int32.ofNat i).toNatClampNeg) := by
  rw [hc, ofNat_clamp (by omega)]
  exact fun q => q.elim (ofNat_nn (by omega)) (fun q => by omega)
theorem Pos.sz (X : Pos Z a0 n0 p l e R s m args below meth c code ml ret y T h k j) : n0 ≤ h.size := X.2.2.2.2.2.2.2.2.2.1
theorem Wp.go {T' : State} {f f' : JFrame} (st : ∀ target, Steps p.tables e below (T'.setTop f') target → Steps p.tables e below (T.setTop f) target) (q : Wp n0 p e R s below Q T' f') : Wp n0 p e R s below Q T f := by
  obtain ⟨t, o, h1, r⟩ := q; exact ⟨t, o, st t h1, r⟩
theorem Wp.cast {f f' : JFrame} (q : f = f') (w : Wp n0 p e R s below Q T f') : Wp n0 p e R s below Q T f := q ▸ w
theorem ctr_of {ws : List Jvm.Cond} {as : Array Value} (hp : plainFor y = true) (hw : ∀ d ∈ tables_1, d.before a0 Z = true) (hn : n0 ≤ h.size)
    (body : ∀ p e s m below meth c T, Pos Z a0 n0 p l e R s m as below meth c code ml ret y T h 0 0 → Wp n0 p e R s below Q T (entryFrame m as ml)) : Ctr l Z n0 y code ml ret R ws as h Q := by
  refine MetFree.of_bodySF hp hisR ?_
  intro p e s m args below meth c s₁ Bd hml0 hP hK
  obtain ⟨rfl, hZ, hh⟩ := hP
  exact body p e s m below meth c s₁ ⟨Bd.exec, hZ, Bd.bytes, hml0, Bd.returns, findClass_of_methodNamed Bd.named, (name_of_methodNamed Bd.named Bd.method).1, Bd.notSynchronized, by rw [← hh, Bd.state]; rfl, hn, hw, [], Fr.nil _, Stand.of_body Bd⟩
theorem w_iadd (X : Pos Z a0 n0 p l e R s m args below meth c code ml ret y T h k j) {x z : Int32} (hd : Dec code pc .iadd 1 nx) (q : Wp n0 p e R s below Q T (mkF m nx Ls (.int (x + z) :: S))) : Wp n0 p e R s below Q T (mkF m pc Ls (.int z :: .int x :: S)) := by
  obtain ⟨hx, hZ, hby, hml, hret, hown, hnm, hlk, eT, hn0, hw, locs, N, Y⟩ := X
  obtain ⟨hd, rfl⟩ := hd
  exact Wp.go (fun _ q => XS.iadd Y.here hx rfl (hb hby hd) rfl q) q
theorem w_isub (X : Pos Z a0 n0 p l e R s m args below meth c code ml ret y T h k j) {x z : Int32} (hd : Dec code pc .isub 1 nx) (q : Wp n0 p e R s below Q T (mkF m nx Ls (.int (x - z) :: S))) : Wp n0 p e R s below Q T (mkF m pc Ls (.int z :: .int x :: S)) := by
  obtain ⟨hx, hZ, hby, hml, hret, hown, hnm, hlk, eT, hn0, hw, locs, N, Y⟩ := X
  obtain ⟨hd, rfl⟩ := hd
  exact Wp.go (fun _ q => XS.isub Y.here hx rfl (hb hby hd) rfl q) q
theorem w_imul (X : Pos Z a0 n0 p l e R s m args below meth c code ml ret y T h k j) {x z : Int32} (hd : Dec code pc .imul 1 nx) (q : Wp n0 p e R s below Q T (mkF m nx Ls (.int (x * z) :: S))) : Wp n0 p e R s below Q T (mkF m pc Ls (.int z :: .int x :: S)) := by
  obtain ⟨hx, hZ, hby, hml, hret, hown, hnm, hlk, eT, hn0, hw, locs, N, Y⟩ := X
  obtain ⟨hd, rfl⟩ := hd
  exact Wp.go (fun _ q => XS.imul Y.here hx rfl (hb hby hd) rfl q) q
theorem w_iand (X : Pos Z a0 n0 p l e R s m args below meth c code ml ret y T h k j) {x z : Int32} (hd : Dec code pc .iand 1 nx) (q : Wp n0 p e R s below Q T (mkF m nx Ls (.int (x &&& z) :: S))) : Wp n0 p e R s below Q T (mkF m pc Ls (.int z :: .int x :: S)) := by
  obtain ⟨hx, hZ, hby, hml, hret, hown, hnm, hlk, eT, hn0, hw, locs, N, Y⟩ := X
  obtain ⟨hd, rfl⟩ := hd
  exact Wp.go (fun _ q => XS.iand Y.here hx rfl (hb hby hd) rfl q) q
theorem w_ior (X : Pos Z a0 n0 p l e R s m args below meth c code ml ret y T h k j) {x z : Int32} (hd : Dec code pc .ior 1 nx) (q : Wp n0 p e R s below Q T (mkF m nx Ls (.int (x ||| z) :: S))) : Wp n0 p e R s below Q T (mkF m pc Ls (.int z :: .int x :: S)) := by
  obtain ⟨hx, hZ, hby, hml, hret, hown, hnm, hlk, eT, hn0, hw, locs, N, Y⟩ := X
  obtain ⟨hd, rfl⟩ := hd
  exact Wp.go (fun _ q => XS.ior Y.here hx rfl (hb hby hd) rfl q) q
theorem w_ixor (X : Pos Z a0 n0 p l e R s m args below meth c code ml ret y T h k j) {x z : Int32} (hd : Dec code pc .ixor 1 nx) (q : Wp n0 p e R s below Q T (mkF m nx Ls (.int (x ^^^ z) :: S))) : Wp n0 p e R s below Q T (mkF m pc Ls (.int z :: .int x :: S)) := by
  obtain ⟨hx, hZ, hby, hml, hret, hown, hnm, hlk, eT, hn0, hw, locs, N, Y⟩ := X
  obtain ⟨hd, rfl⟩ := hd
  exact Wp.go (fun _ q => XS.ixor Y.here hx rfl (hb hby hd) rfl q) q
theorem w_ishl (X : Pos Z a0 n0 p l e R s m args below meth c code ml ret y T h k j) {x z : Int32} (hd : Dec code pc .ishl 1 nx) (q : Wp n0 p e R s below Q T (mkF m nx Ls (.int (jshl x z) :: S))) : Wp n0 p e R s below Q T (mkF m pc Ls (.int z :: .int x :: S)) := by
  obtain ⟨hx, hZ, hby, hml, hret, hown, hnm, hlk, eT, hn0, hw, locs, N, Y⟩ := X
  obtain ⟨hd, rfl⟩ := hd
  exact Wp.go (fun _ q => XS.ishl Y.here hx rfl (hb hby hd) rfl q) q
theorem w_ishr (X : Pos Z a0 n0 p l e R s m args below meth c code ml ret y T h k j) {x z : Int32} (hd : Dec code pc .ishr 1 nx) (q : Wp n0 p e R s below Q T (mkF m nx Ls (.int (jshr x z) :: S))) : Wp n0 p e R s below Q T (mkF m pc Ls (.int z :: .int x :: S)) := by
  obtain ⟨hx, hZ, hby, hml, hret, hown, hnm, hlk, eT, hn0, hw, locs, N, Y⟩ := X
  obtain ⟨hd, rfl⟩ := hd
  exact Wp.go (fun _ q => XS.ishr Y.here hx rfl (hb hby hd) rfl q) q
theorem w_iushr (X : Pos Z a0 n0 p l e R s m args below meth c code ml ret y T h k j) {x z : Int32} (hd : Dec code pc .iushr 1 nx) (q : Wp n0 p e R s below Q T (mkF m nx Ls (.int (jushr x z) :: S))) : Wp n0 p e R s below Q T (mkF m pc Ls (.int z :: .int x :: S)) := by
  obtain ⟨hx, hZ, hby, hml, hret, hown, hnm, hlk, eT, hn0, hw, locs, N, Y⟩ := X
  obtain ⟨hd, rfl⟩ := hd
  exact Wp.go (fun _ q => XS.iushr Y.here hx rfl (hb hby hd) rfl q) q
theorem w_ladd (X : Pos Z a0 n0 p l e R s m args below meth c code ml ret y T h k j) {x z : Int64} (hd : Dec code pc .ladd 1 nx) (q : Wp n0 p e R s below Q T (mkF m nx Ls (.long (x + z) :: S))) : Wp n0 p e R s below Q T (mkF m pc Ls (.long z :: .long x :: S)) := by
  obtain ⟨hx, hZ, hby, hml, hret, hown, hnm, hlk, eT, hn0, hw, locs, N, Y⟩ := X
  obtain ⟨hd, rfl⟩ := hd
  exact Wp.go (fun _ q => XS.ladd Y.here hx rfl (hb hby hd) rfl q) q
theorem w_lsub (X : Pos Z a0 n0 p l e R s m args below meth c code ml ret y T h k j) {x z : Int64} (hd : Dec code pc .lsub 1 nx) (q : Wp n0 p e R s below Q T (mkF m nx Ls (.long (x - z) :: S))) : Wp n0 p e R s below Q T (mkF m pc Ls (.long z :: .long x :: S)) := by
  obtain ⟨hx, hZ, hby, hml, hret, hown, hnm, hlk, eT, hn0, hw, locs, N, Y⟩ := X
  obtain ⟨hd, rfl⟩ := hd
  exact Wp.go (fun _ q => XS.lsub Y.here hx rfl (hb hby hd) rfl q) q
theorem w_lmul (X : Pos Z a0 n0 p l e R s m args below meth c code ml ret y T h k j) {x z : Int64} (hd : Dec code pc .lmul 1 nx) (q : Wp n0 p e R s below Q T (mkF m nx Ls (.long (x * z) :: S))) : Wp n0 p e R s below Q T (mkF m pc Ls (.long z :: .long x :: S)) := by
  obtain ⟨hx, hZ, hby, hml, hret, hown, hnm, hlk, eT, hn0, hw, locs, N, Y⟩ := X
  obtain ⟨hd, rfl⟩ := hd
  exact Wp.go (fun _ q => XS.lmul Y.here hx rfl (hb hby hd) rfl q) q
theorem w_land (X : Pos Z a0 n0 p l e R s m args below meth c code ml ret y T h k j) {x z : Int64} (hd : Dec code pc .land 1 nx) (q : Wp n0 p e R s below Q T (mkF m nx Ls (.long (x &&& z) :: S))) : Wp n0 p e R s below Q T (mkF m pc Ls (.long z :: .long x :: S)) := by
  obtain ⟨hx, hZ, hby, hml, hret, hown, hnm, hlk, eT, hn0, hw, locs, N, Y⟩ := X
  obtain ⟨hd, rfl⟩ := hd
  exact Wp.go (fun _ q => XS.land Y.here hx rfl (hb hby hd) rfl q) q
theorem w_lor (X : Pos Z a0 n0 p l e R s m args below meth c code ml ret y T h k j) {x z : Int64} (hd : Dec code pc .lor 1 nx) (q : Wp n0 p e R s below Q T (mkF m nx Ls (.long (x ||| z) :: S))) : Wp n0 p e R s below Q T (mkF m pc Ls (.long z :: .long x :: S)) := by
  obtain ⟨hx, hZ, hby, hml, hret, hown, hnm, hlk, eT, hn0, hw, locs, N, Y⟩ := X
  obtain ⟨hd, rfl⟩ := hd
  exact Wp.go (fun _ q => XS.lor Y.here hx rfl (hb hby hd) rfl q) q
theorem w_lxor (X : Pos Z a0 n0 p l e R s m args below meth c code ml ret y T h k j) {x z : Int64} (hd : Dec code pc .lxor 1 nx) (q : Wp n0 p e R s below Q T (mkF m nx Ls (.long (x ^^^ z) :: S))) : Wp n0 p e R s below Q T (mkF m pc Ls (.long z :: .long x :: S)) := by
  obtain ⟨hx, hZ, hby, hml, hret, hown, hnm, hlk, eT, hn0, hw, locs, N, Y⟩ := X
  obtain ⟨hd, rfl⟩ := hd
  exact Wp.go (fun _ q => XS.lxor Y.here hx rfl (hb hby hd) rfl q) q
theorem w_lshl (X : Pos Z a0 n0 p l e R s m args below meth c code ml ret y T h k j) {x : Int64} {z : Int32} (hd : Dec code pc .lshl 1 nx) (q : Wp n0 p e R s below Q T (mkF m nx Ls (.long (jshlL x z) :: S))) : Wp n0 p e R s below Q T (mkF m pc Ls (.int z :: .long x :: S)) := by
  obtain ⟨hx, hZ, hby, hml, hret, hown, hnm, hlk, eT, hn0, hw, locs, N, Y⟩ := X
  obtain ⟨hd, rfl⟩ := hd
  exact Wp.go (fun _ q => XS.lshl Y.here hx rfl (hb hby hd) rfl q) q
theorem w_lshr (X : Pos Z a0 n0 p l e R s m args below meth c code ml ret y T h k j) {x : Int64} {z : Int32} (hd : Dec code pc .lshr 1 nx) (q : Wp n0 p e R s below Q T (mkF m nx Ls (.long (jshrL x z) :: S))) : Wp n0 p e R s below Q T (mkF m pc Ls (.int z :: .long x :: S)) := by
  obtain ⟨hx, hZ, hby, hml, hret, hown, hnm, hlk, eT, hn0, hw, locs, N, Y⟩ := X
  obtain ⟨hd, rfl⟩ := hd
  exact Wp.go (fun _ q => XS.lshr Y.here hx rfl (hb hby hd) rfl q) q
theorem w_lushr (X : Pos Z a0 n0 p l e R s m args below meth c code ml ret y T h k j) {x : Int64} {z : Int32} (hd : Dec code pc .lushr 1 nx) (q : Wp n0 p e R s below Q T (mkF m nx Ls (.long (jushrL x z) :: S))) : Wp n0 p e R s below Q T (mkF m pc Ls (.int z :: .long x :: S)) := by
  obtain ⟨hx, hZ, hby, hml, hret, hown, hnm, hlk, eT, hn0, hw, locs, N, Y⟩ := X
  obtain ⟨hd, rfl⟩ := hd
  exact Wp.go (fun _ q => XS.lushr Y.here hx rfl (hb hby hd) rfl q) q
theorem w_idiv (X : Pos Z a0 n0 p l e R s m args below meth c code ml ret y T h k j) {x z : Int32} (hd : Dec code pc .idiv 1 nx) (hz : z ≠ 0) (q : Wp n0 p e R s below Q T (mkF m nx Ls (.int (x / z) :: S))) : Wp n0 p e R s below Q T (mkF m pc Ls (.int z :: .int x :: S)) := by
  obtain ⟨hx, hZ, hby, hml, hret, hown, hnm, hlk, eT, hn0, hw, locs, N, Y⟩ := X
  obtain ⟨hd, rfl⟩ := hd
  exact Wp.go (fun _ q => XS.idiv Y.here hx rfl (hb hby hd) rfl hz q) q
theorem w_irem (X : Pos Z a0 n0 p l e R s m args below meth c code ml ret y T h k j) {x z : Int32} (hd : Dec code pc .irem 1 nx) (hz : z ≠ 0) (q : Wp n0 p e R s below Q T (mkF m nx Ls (.int (x % z) :: S))) : Wp n0 p e R s below Q T (mkF m pc Ls (.int z :: .int x :: S)) := by
  obtain ⟨hx, hZ, hby, hml, hret, hown, hnm, hlk, eT, hn0, hw, locs, N, Y⟩ := X
  obtain ⟨hd, rfl⟩ := hd
  exact Wp.go (fun _ q => iremM Y hx rfl (hb hby hd) rfl hz q) q
theorem w_ldiv (X : Pos Z a0 n0 p l e R s m args below meth c code ml ret y T h k j) {x z : Int64} (hd : Dec code pc .ldiv 1 nx) (hz : z ≠ 0) (q : Wp n0 p e R s below Q T (mkF m nx Ls (.long (x / z) :: S))) : Wp n0 p e R s below Q T (mkF m pc Ls (.long z :: .long x :: S)) := by
  obtain ⟨hx, hZ, hby, hml, hret, hown, hnm, hlk, eT, hn0, hw, locs, N, Y⟩ := X
  obtain ⟨hd, rfl⟩ := hd
  exact Wp.go (fun _ q => XS.ldiv Y.here hx rfl (hb hby hd) rfl hz q) q
theorem w_lrem (X : Pos Z a0 n0 p l e R s m args below meth c code ml ret y T h k j) {x z : Int64} (hd : Dec code pc .lrem 1 nx) (hz : z ≠ 0) (q : Wp n0 p e R s below Q T (mkF m nx Ls (.long (x - (x / z) * z) :: S))) : Wp n0 p e R s below Q T (mkF m pc Ls (.long z :: .long x :: S)) := by
  obtain ⟨hx, hZ, hby, hml, hret, hown, hnm, hlk, eT, hn0, hw, locs, N, Y⟩ := X
  obtain ⟨hd, rfl⟩ := hd
  exact Wp.go (fun _ q => XS.lrem Y.here hx rfl (hb hby hd) rfl hz q) q
theorem w_ineg (X : Pos Z a0 n0 p l e R s m args below meth c code ml ret y T h k j) {x : Int32} (hd : Dec code pc .ineg 1 nx) (q : Wp n0 p e R s below Q T (mkF m nx Ls (.int (-x) :: S))) : Wp n0 p e R s below Q T (mkF m pc Ls (.int x :: S)) := by
  obtain ⟨hx, hZ, hby, hml, hret, hown, hnm, hlk, eT, hn0, hw, locs, N, Y⟩ := X
  obtain ⟨hd, rfl⟩ := hd
  exact Wp.go (fun _ q => XS.ineg Y.here hx rfl (hb hby hd) rfl q) q
theorem w_lneg (X : Pos Z a0 n0 p l e R s m args below meth c code ml ret y T h k j) {x : Int64} (hd : Dec code pc .lneg 1 nx) (q : Wp n0 p e R s below Q T (mkF m nx Ls (.long (-x) :: S))) : Wp n0 p e R s below Q T (mkF m pc Ls (.long x :: S)) := by
  obtain ⟨hx, hZ, hby, hml, hret, hown, hnm, hlk, eT, hn0, hw, locs, N, Y⟩ := X
  obtain ⟨hd, rfl⟩ := hd
  exact Wp.go (fun _ q => XS.lneg Y.here hx rfl (hb hby hd) rfl q) q
theorem w_i2l (X : Pos Z a0 n0 p l e R s m args below meth c code ml ret y T h k j) {x : Int32} (hd : Dec code pc .i2l 1 nx) (q : Wp n0 p e R s below Q T (mkF m nx Ls (.long (x.toInt64) :: S))) : Wp n0 p e R s below Q T (mkF m pc Ls (.int x :: S)) := by
  obtain ⟨hx, hZ, hby, hml, hret, hown, hnm, hlk, eT, hn0, hw, locs, N, Y⟩ := X
  obtain ⟨hd, rfl⟩ := hd
  exact Wp.go (fun _ q => XS.i2l Y.here hx rfl (hb hby hd) rfl q) q
theorem w_l2i (X : Pos Z a0 n0 p l e R s m args below meth c code ml ret y T h k j) {x : Int64} (hd : Dec code pc .l2i 1 nx) (q : Wp n0 p e R s below Q T (mkF m nx Ls (.int (x.toInt32) :: S))) : Wp n0 p e R s below Q T (mkF m pc Ls (.long x :: S)) := by
  obtain ⟨hx, hZ, hby, hml, hret, hown, hnm, hlk, eT, hn0, hw, locs, N, Y⟩ := X
  obtain ⟨hd, rfl⟩ := hd
  exact Wp.go (fun _ q => XS.l2i Y.here hx rfl (hb hby hd) rfl q) q
theorem w_i2b (X : Pos Z a0 n0 p l e R s m args below meth c code ml ret y T h k j) {x : Int32} (hd : Dec code pc .i2b 1 nx) (q : Wp n0 p e R s below Q T (mkF m nx Ls (.int (jbyte x) :: S))) : Wp n0 p e R s below Q T (mkF m pc Ls (.int x :: S)) := by
  obtain ⟨hx, hZ, hby, hml, hret, hown, hnm, hlk, eT, hn0, hw, locs, N, Y⟩ := X
  obtain ⟨hd, rfl⟩ := hd
  exact Wp.go (fun _ q => XS.i2b Y.here hx rfl (hb hby hd) rfl q) q
theorem w_iconst (X : Pos Z a0 n0 p l e R s m args below meth c code ml ret y T h k j) {i : Int} {v : Int32} (hd : Dec code pc (.iconst i) 1 nx) (hv : Int32.ofInt i = v) (q : Wp n0 p e R s below Q T (mkF m nx Ls (.int v :: S))) : Wp n0 p e R s below Q T (mkF m pc Ls S) := by
  obtain ⟨hx, hZ, hby, hml, hret, hown, hnm, hlk, eT, hn0, hw, locs, N, Y⟩ := X
  obtain ⟨hd, rfl⟩ := hd
  subst hv
  exact Wp.go (fun _ q => XS.iconst Y.here hx rfl (hb hby hd) q) q
theorem w_bipush (X : Pos Z a0 n0 p l e R s m args below meth c code ml ret y T h k j) {i : Int} {v : Int32} (hd : Dec code pc (.bipush i) 2 nx) (hv : (Int8.ofInt i).toInt32 = v) (q : Wp n0 p e R s below Q T (mkF m nx Ls (.int v :: S))) : Wp n0 p e R s below Q T (mkF m pc Ls S) := by
  obtain ⟨hx, hZ, hby, hml, hret, hown, hnm, hlk, eT, hn0, hw, locs, N, Y⟩ := X
  obtain ⟨hd, rfl⟩ := hd
  subst hv
  exact Wp.go (fun _ q => XS.bipush Y.here hx rfl (hb hby hd) q) q
theorem w_sipush (X : Pos Z a0 n0 p l e R s m args below meth c code ml ret y T h k j) {i : Int} {v : Int32} (hd : Dec code pc (.sipush i) 3 nx) (hv : (Int16.ofInt i).toInt32 = v) (q : Wp n0 p e R s below Q T (mkF m nx Ls (.int v :: S))) : Wp n0 p e R s below Q T (mkF m pc Ls S) := by
  obtain ⟨hx, hZ, hby, hml, hret, hown, hnm, hlk, eT, hn0, hw, locs, N, Y⟩ := X
  obtain ⟨hd, rfl⟩ := hd
  subst hv
  exact Wp.go (fun _ q => XS.sipush Y.here hx rfl (hb hby hd) q) q
theorem w_lconst0 (X : Pos Z a0 n0 p l e R s m args below meth c code ml ret y T h k j) (hd : Dec code pc (.lconst 0) 1 nx) (q : Wp n0 p e R s below Q T (mkF m nx Ls (.long 0 :: S))) : Wp n0 p e R s below Q T (mkF m pc Ls S) := by
  obtain ⟨hx, hZ, hby, hml, hret, hown, hnm, hlk, eT, hn0, hw, locs, N, Y⟩ := X
  obtain ⟨hd, rfl⟩ := hd
  exact Wp.go (fun _ q => XS.lconst Y.here hx rfl (hb hby hd) q) q
theorem w_lconst1 (X : Pos Z a0 n0 p l e R s m args below meth c code ml ret y T h k j) (hd : Dec code pc (.lconst 1) 1 nx) (q : Wp n0 p e R s below Q T (mkF m nx Ls (.long 1 :: S))) : Wp n0 p e R s below Q T (mkF m pc Ls S) := by
  obtain ⟨hx, hZ, hby, hml, hret, hown, hnm, hlk, eT, hn0, hw, locs, N, Y⟩ := X
  obtain ⟨hd, rfl⟩ := hd
  exact Wp.go (fun _ q => XS.lconst Y.here hx rfl (hb hby hd) q) q
theorem w_null (X : Pos Z a0 n0 p l e R s m args below meth c code ml ret y T h k j) (hd : Dec code pc .aconst_null 1 nx) (q : Wp n0 p e R s below Q T (mkF m nx Ls (.null :: S))) : Wp n0 p e R s below Q T (mkF m pc Ls S) := by
  obtain ⟨hx, hZ, hby, hml, hret, hown, hnm, hlk, eT, hn0, hw, locs, N, Y⟩ := X
  obtain ⟨hd, rfl⟩ := hd
  exact Wp.go (fun _ q => XS.aconstNull Y.here hx rfl (hb hby hd) q) q
theorem w_iloadN (X : Pos Z a0 n0 p l e R s m args below meth c code ml ret y T h k j) {w : Fin 4} {v : Int32} (hd : Dec code pc (.iload_n w) 1 nx) (hl : Ls[w.val]? = some (.val (.int v))) (q : Wp n0 p e R s below Q T (mkF m nx Ls (.int v :: S))) : Wp n0 p e R s below Q T (mkF m pc Ls S) := by
  obtain ⟨hx, hZ, hby, hml, hret, hown, hnm, hlk, eT, hn0, hw, locs, N, Y⟩ := X
  obtain ⟨hd, rfl⟩ := hd
  exact Wp.go (fun _ q => XS.iloadN Y.here hx rfl (hb hby hd) hl q) q
theorem w_iload (X : Pos Z a0 n0 p l e R s m args below meth c code ml ret y T h k j) {w : Nat} {v : Int32} (hd : Dec code pc (.iload w) 2 nx) (hl : Ls[w]? = some (.val (.int v))) (q : Wp n0 p e R s below Q T (mkF m nx Ls (.int v :: S))) : Wp n0 p e R s below Q T (mkF m pc Ls S) := by
  obtain ⟨hx, hZ, hby, hml, hret, hown, hnm, hlk, eT, hn0, hw, locs, N, Y⟩ := X
  obtain ⟨hd, rfl⟩ := hd
  exact Wp.go (fun _ q => XS.iload Y.here hx rfl (hb hby hd) hl q) q
theorem w_lloadN (X : Pos Z a0 n0 p l e R s m args below meth c code ml ret y T h k j) {w : Fin 4} {v : Int64} (hd : Dec code pc (.lload_n w) 1 nx) (hl : Ls[w.val]? = some (.val (.long v))) (q : Wp n0 p e R s below Q T (mkF m nx Ls (.long v :: S))) : Wp n0 p e R s below Q T (mkF m pc Ls S) := by
  obtain ⟨hx, hZ, hby, hml, hret, hown, hnm, hlk, eT, hn0, hw, locs, N, Y⟩ := X
  obtain ⟨hd, rfl⟩ := hd
  exact Wp.go (fun _ q => XS.lloadN Y.here hx rfl (hb hby hd) hl q) q
theorem w_lload (X : Pos Z a0 n0 p l e R s m args below meth c code ml ret y T h k j) {w : Nat} {v : Int64} (hd : Dec code pc (.lload w) 2 nx) (hl : Ls[w]? = some (.val (.long v))) (q : Wp n0 p e R s below Q T (mkF m nx Ls (.long v :: S))) : Wp n0 p e R s below Q T (mkF m pc Ls S) := by
  obtain ⟨hx, hZ, hby, hml, hret, hown, hnm, hlk, eT, hn0, hw, locs, N, Y⟩ := X
  obtain ⟨hd, rfl⟩ := hd
  exact Wp.go (fun _ q => XS.lload Y.here hx rfl (hb hby hd) hl q) q
theorem w_aloadN (X : Pos Z a0 n0 p l e R s m args below meth c code ml ret y T h k j) {w : Fin 4} {v : Value} (hd : Dec code pc (.aload_n w) 1 nx) (hl : Ls[w.val]? = some (.val v)) (hv : v.isRef = true) (q : Wp n0 p e R s below Q T (mkF m nx Ls (v :: S))) : Wp n0 p e R s below Q T (mkF m pc Ls S) := by
  obtain ⟨hx, hZ, hby, hml, hret, hown, hnm, hlk, eT, hn0, hw, locs, N, Y⟩ := X
  obtain ⟨hd, rfl⟩ := hd
  exact Wp.go (fun _ q => XS.aloadN Y.here hx rfl (hb hby hd) hl hv q) q
theorem w_astoreN (X : Pos Z a0 n0 p l e R s m args below meth c code ml ret y T h k j) {w : Fin 4} {v : Value} {l' : Array Slot} (hd : Dec code pc (.astore_n w) 1 nx) (hv : v.isRef = true) (hl : storeLocals Ls w.val v = some l') (q : Wp n0 p e R s below Q T (mkF m nx l' S)) : Wp n0 p e R s below Q T (mkF m pc Ls (v :: S)) := by
  obtain ⟨hx, hZ, hby, hml, hret, hown, hnm, hlk, eT, hn0, hw, locs, N, Y⟩ := X
  obtain ⟨hd, rfl⟩ := hd
  exact Wp.go (fun _ q => XS.astoreN Y.here hx rfl (hb hby hd) rfl hv hl q) q
theorem w_istoreN (X : Pos Z a0 n0 p l e R s m args below meth c code ml ret y T h k j) {w : Fin 4} {v : Int32} {l' : Array Slot} (hd : Dec code pc (.istore_n w) 1 nx) (hl : storeLocals Ls w.val (.int v) = some l') (q : Wp n0 p e R s below Q T (mkF m nx l' S)) : Wp n0 p e R s below Q T (mkF m pc Ls (.int v :: S)) := by
  obtain ⟨hx, hZ, hby, hml, hret, hown, hnm, hlk, eT, hn0, hw, locs, N, Y⟩ := X
  obtain ⟨hd, rfl⟩ := hd
  exact Wp.go (fun _ q => XS.istoreN Y.here hx rfl (hb hby hd) rfl hl q) q
theorem w_istoreNE (X : Pos Z a0 n0 p l e R s m args below meth c code ml ret y T h k j) {w : Fin 4} {v : Int32} {l' : Int32 → Array Slot} (hd : Dec code pc (.istore_n w) 1 nx) (hl : ∀ z, storeLocals Ls w.val (.int z) = some (l' z)) (q : ∀ z, z = v → Wp n0 p e R s below Q T (mkF m nx (l' z) S)) : Wp n0 p e R s below Q T (mkF m pc Ls (.int v :: S)) := w_istoreN X hd (hl v) (q v rfl)
theorem w_lstoreN (X : Pos Z a0 n0 p l e R s m args below meth c code ml ret y T h k j) {w : Fin 4} {v : Int64} {l' : Array Slot} (hd : Dec code pc (.lstore_n w) 1 nx) (hl : storeLocals Ls w.val (.long v) = some l') (q : Wp n0 p e R s below Q T (mkF m nx l' S)) : Wp n0 p e R s below Q T (mkF m pc Ls (.long v :: S)) := by
  obtain ⟨hx, hZ, hby, hml, hret, hown, hnm, hlk, eT, hn0, hw, locs, N, Y⟩ := X
  obtain ⟨hd, rfl⟩ := hd
  exact Wp.go (fun _ q => XS.lstoreN Y.here hx rfl (hb hby hd) rfl hl q) q
theorem w_lstoreNE (X : Pos Z a0 n0 p l e R s m args below meth c code ml ret y T h k j) {w : Fin 4} {v : Int64} {l' : Int64 → Array Slot} (hd : Dec code pc (.lstore_n w) 1 nx) (hl : ∀ z, storeLocals Ls w.val (.long z) = some (l' z)) (q : ∀ z, z = v → Wp n0 p e R s below Q T (mkF m nx (l' z) S)) : Wp n0 p e R s below Q T (mkF m pc Ls (.long v :: S)) := w_lstoreN X hd (hl v) (q v rfl)
theorem w_aload (X : Pos Z a0 n0 p l e R s m args below meth c code ml ret y T h k j) {w : Nat} {v : Value} (hd : Dec code pc (.aload w) 2 nx) (hl : Ls[w]? = some (.val v)) (hv : v.isRef = true) (q : Wp n0 p e R s below Q T (mkF m nx Ls (v :: S))) : Wp n0 p e R s below Q T (mkF m pc Ls S) := by
  obtain ⟨hx, hZ, hby, hml, hret, hown, hnm, hlk, eT, hn0, hw, locs, N, Y⟩ := X
  obtain ⟨hd, rfl⟩ := hd
  exact Wp.go (fun _ q => XS.aload Y.here hx rfl (hb hby hd) hl hv q) q
theorem w_astore (X : Pos Z a0 n0 p l e R s m args below meth c code ml ret y T h k j) {w : Nat} {v : Value} {l' : Array Slot} (hd : Dec code pc (.astore w) 2 nx) (hv : v.isRef = true) (hl : storeLocals Ls w v = some l') (q : Wp n0 p e R s below Q T (mkF m nx l' S)) : Wp n0 p e R s below Q T (mkF m pc Ls (v :: S)) := by
  obtain ⟨hx, hZ, hby, hml, hret, hown, hnm, hlk, eT, hn0, hw, locs, N, Y⟩ := X
  obtain ⟨hd, rfl⟩ := hd
  exact Wp.go (fun _ q => XS.astore Y.here hx rfl (hb hby hd) rfl hv hl q) q
theorem w_istore (X : Pos Z a0 n0 p l e R s m args below meth c code ml ret y T h k j) {w : Nat} {v : Int32} {l' : Array Slot} (hd : Dec code pc (.istore w) 2 nx) (hl : storeLocals Ls w (.int v) = some l') (q : Wp n0 p e R s below Q T (mkF m nx l' S)) : Wp n0 p e R s below Q T (mkF m pc Ls (.int v :: S)) := by
  obtain ⟨hx, hZ, hby, hml, hret, hown, hnm, hlk, eT, hn0, hw, locs, N, Y⟩ := X
  obtain ⟨hd, rfl⟩ := hd
  exact Wp.go (fun _ q => XS.istore Y.here hx rfl (hb hby hd) rfl hl q) q
theorem w_istoreE (X : Pos Z a0 n0 p l e R s m args below meth c code ml ret y T h k j) {w : Nat} {v : Int32} {l' : Int32 → Array Slot} (hd : Dec code pc (.istore w) 2 nx) (hl : ∀ z, storeLocals Ls w (.int z) = some (l' z)) (q : ∀ z, z = v → Wp n0 p e R s below Q T (mkF m nx (l' z) S)) : Wp n0 p e R s below Q T (mkF m pc Ls (.int v :: S)) := w_istore X hd (hl v) (q v rfl)
theorem w_lstore (X : Pos Z a0 n0 p l e R s m args below meth c code ml ret y T h k j) {w : Nat} {v : Int64} {l' : Array Slot} (hd : Dec code pc (.lstore w) 2 nx) (hl : storeLocals Ls w (.long v) = some l') (q : Wp n0 p e R s below Q T (mkF m nx l' S)) : Wp n0 p e R s below Q T (mkF m pc Ls (.long v :: S)) := by
  obtain ⟨hx, hZ, hby, hml, hret, hown, hnm, hlk, eT, hn0, hw, locs, N, Y⟩ := X
  obtain ⟨hd, rfl⟩ := hd
  exact Wp.go (fun _ q => XS.lstore Y.here hx rfl (hb hby hd) rfl hl q) q
theorem w_lstoreE (X : Pos Z a0 n0 p l e R s m args below meth c code ml ret y T h k j) {w : Nat} {v : Int64} {l' : Int64 → Array Slot} (hd : Dec code pc (.lstore w) 2 nx) (hl : ∀ z, storeLocals Ls w (.long z) = some (l' z)) (q : ∀ z, z = v → Wp n0 p e R s below Q T (mkF m nx (l' z) S)) : Wp n0 p e R s below Q T (mkF m pc Ls (.long v :: S)) := w_lstore X hd (hl v) (q v rfl)
theorem w_istoreNS (X : Pos Z a0 n0 p l e R s m args below meth c code ml ret y T h k j) {w : Fin 4} {v : Int32} {l' : Array Slot} {o : Slot} (hd : Dec code pc (.istore_n w) 1 nx) (hold : Ls[w.val]? = some o) (ho : One o) (hl : Ls.setIfInBounds w.val (.val (.int v)) = l') (q : Wp n0 p e R s below Q T (mkF m nx l' S)) : Wp n0 p e R s below Q T (mkF m pc Ls (.int v :: S)) := w_istoreN X hd ((XS.store1 hold ho rfl).trans (congrArg some hl)) q
theorem w_istoreS (X : Pos Z a0 n0 p l e R s m args below meth c code ml ret y T h k j) {w : Nat} {v : Int32} {l' : Array Slot} {o : Slot} (hd : Dec code pc (.istore w) 2 nx) (hold : Ls[w]? = some o) (ho : One o) (hl : Ls.setIfInBounds w (.val (.int v)) = l') (q : Wp n0 p e R s below Q T (mkF m nx l' S)) : Wp n0 p e R s below Q T (mkF m pc Ls (.int v :: S)) := w_istore X hd ((XS.store1 hold ho rfl).trans (congrArg some hl)) q
theorem w_iinc (X : Pos Z a0 n0 p l e R s m args below meth c code ml ret y T h k j) {w : Nat} {i : Int} {d v r : Int32} {l' : Array Slot} (hd : Dec code pc (.iinc w i) 3 nx) (hl : Ls[w]? = some (.val (.int v))) (hi : Int32.ofInt i = d) (hr : v + d = r) (hl' : storeLocals Ls w (.int r) = some l') (q : Wp n0 p e R s below Q T (mkF m nx l' S)) : Wp n0 p e R s below Q T (mkF m pc Ls S) := by
  obtain ⟨hx, hZ, hby, hml, hret, hown, hnm, hlk, eT, hn0, hw, locs, N, Y⟩ := X
  obtain ⟨hd, rfl⟩ := hd
  subst hi hr
  exact Wp.go (fun _ q => XS.iinc Y.here hx rfl (hb hby hd) hl hl' q) q
theorem w_dup (X : Pos Z a0 n0 p l e R s m args below meth c code ml ret y T h k j) {v : Value} (hd : Dec code pc .dup 1 nx) (hv : v.category = 1) (q : Wp n0 p e R s below Q T (mkF m nx Ls (v :: v :: S))) : Wp n0 p e R s below Q T (mkF m pc Ls (v :: S)) := by
  obtain ⟨hx, hZ, hby, hml, hret, hown, hnm, hlk, eT, hn0, hw, locs, N, Y⟩ := X
  obtain ⟨hd, rfl⟩ := hd
  exact Wp.go (fun _ q => XS.dup Y.here hx rfl (hb hby hd) rfl hv q) q
theorem w_pop (X : Pos Z a0 n0 p l e R s m args below meth c code ml ret y T h k j) {v : Value} (hd : Dec code pc .pop 1 nx) (hv : v.category = 1) (q : Wp n0 p e R s below Q T (mkF m nx Ls S)) : Wp n0 p e R s below Q T (mkF m pc Ls (v :: S)) := by
  obtain ⟨hx, hZ, hby, hml, hret, hown, hnm, hlk, eT, hn0, hw, locs, N, Y⟩ := X
  obtain ⟨hd, rfl⟩ := hd
  exact Wp.go (fun _ q => XS.pop Y.here hx rfl (hb hby hd) rfl hv q) q
theorem w_dupX1 (X : Pos Z a0 n0 p l e R s m args below meth c code ml ret y T h k j) {v w : Value} (hd : Dec code pc .dup_x1 1 nx) (hv : v.category = 1) (hw' : w.category = 1) (q : Wp n0 p e R s below Q T (mkF m nx Ls (v :: w :: v :: S))) : Wp n0 p e R s below Q T (mkF m pc Ls (v :: w :: S)) := by
  obtain ⟨hx, hZ, hby, hml, hret, hown, hnm, hlk, eT, hn0, hw, locs, N, Y⟩ := X
  obtain ⟨hd, rfl⟩ := hd
  exact Wp.go (fun _ q => XS.dupX1 Y.here hx rfl (hb hby hd) rfl hv hw' q) q
theorem w_dup2 (X : Pos Z a0 n0 p l e R s m args below meth c code ml ret y T h k j) {v w : Value} (hd : Dec code pc .dup2 1 nx) (hv : v.category = 1) (hw' : w.category = 1) (q : Wp n0 p e R s below Q T (mkF m nx Ls (v :: w :: v :: w :: S))) : Wp n0 p e R s below Q T (mkF m pc Ls (v :: w :: S)) := by
  obtain ⟨hx, hZ, hby, hml, hret, hown, hnm, hlk, eT, hn0, hw, locs, N, Y⟩ := X
  obtain ⟨hd, rfl⟩ := hd
  exact Wp.go (fun _ q => Jvm.Free.XT.dup2 Y.here hx rfl (hb hby hd) rfl hv hw' q) q
theorem w_goto (X : Pos Z a0 n0 p l e R s m args below meth c code ml ret y T h k j) {o : Int} (hd : Jmp code pc (.goto o) o nx tgt) (q : Wp n0 p e R s below Q T (mkF m tgt Ls S)) : Wp n0 p e R s below Q T (mkF m pc Ls S) := by
  obtain ⟨hx, hZ, hby, hml, hret, hown, hnm, hlk, eT, hn0, hw, locs, N, Y⟩ := X
  obtain ⟨hd, -, ho, hp⟩ := hd
  exact Wp.go (fun _ q => XS.goto Y.here hx rfl (pc0 := pc) (pc' := tgt) rfl (hb hby hd) ho hp q) q
theorem w_icmpeq (X : Pos Z a0 n0 p l e R s m args below meth c code ml ret y T h k j) {x z : Int32} {o : Int} (hd : Jmp code pc (.if_icmp .eq o) o nx tgt) (qt : x = z → Wp n0 p e R s below Q T (mkF m tgt Ls S)) (qf : ¬ x = z → Wp n0 p e R s below Q T (mkF m nx Ls S)) : Wp n0 p e R s below Q T (mkF m pc Ls (.int z :: .int x :: S)) := by
  obtain ⟨hx, hZ, hby, hml, hret, hown, hnm, hlk, eT, hn0, hw, locs, N, Y⟩ := X
  obtain ⟨hd, rfl, ho, hp⟩ := hd
  by_cases hc : x = z
  · exact Wp.go (fun _ q => XS.icmpYes Y.here hx rfl (pc0 := pc) (pc' := tgt) rfl (hb hby hd) rfl (Jvm.Free.XT.ii_eq_t hc) ho hp q) (qt hc)
  · exact Wp.go (fun _ q => XS.icmpNo Y.here hx rfl (hb hby hd) rfl (Jvm.Free.XT.ii_eq_f hc) q) (qf hc)
theorem w_ifeq (X : Pos Z a0 n0 p l e R s m args below meth c code ml ret y T h k j) {x : Int32} {o : Int} (hd : Jmp code pc (.ifCond .eq o) o nx tgt) (qt : x = 0 → Wp n0 p e R s below Q T (mkF m tgt Ls S)) (qf : ¬ x = 0 → Wp n0 p e R s below Q T (mkF m nx Ls S)) : Wp n0 p e R s below Q T (mkF m pc Ls (.int x :: S)) := by
  obtain ⟨hx, hZ, hby, hml, hret, hown, hnm, hlk, eT, hn0, hw, locs, N, Y⟩ := X
  obtain ⟨hd, rfl, ho, hp⟩ := hd
  by_cases hc : x = 0
  · exact Wp.go (fun _ q => XS.ifYes Y.here hx rfl (pc0 := pc) (pc' := tgt) rfl (hb hby hd) rfl (Jvm.Free.XT.i0_eq_t hc) ho hp q) (qt hc)
  · exact Wp.go (fun _ q => XS.ifNo Y.here hx rfl (hb hby hd) rfl (Jvm.Free.XT.i0_eq_f hc) q) (qf hc)
theorem w_lcmpeq (X : Pos Z a0 n0 p l e R s m args below meth c code ml ret y T h k j) {x z : Int64} {o : Int} {mid : Nat} (hd0 : Dec code pc .lcmp 1 mid) (hd : Jmp code mid (.ifCond .eq o) o nx tgt) (qt : x = z → Wp n0 p e R s below Q T (mkF m tgt Ls S)) (qf : ¬ x = z → Wp n0 p e R s below Q T (mkF m nx Ls S)) : Wp n0 p e R s below Q T (mkF m pc Ls (.long z :: .long x :: S)) := by
  obtain ⟨hx, hZ, hby, hml, hret, hown, hnm, hlk, eT, hn0, hw, locs, N, Y⟩ := X
  obtain ⟨hd0, rfl⟩ := hd0
  obtain ⟨hd, rfl, ho, hp⟩ := hd
  refine Wp.go (fun _ q => Jvm.Free.XT.lcmp Y.here hx rfl (hb hby hd0) rfl q) ?_
  by_cases hc : x = z
  · exact Wp.go (fun _ q => XS.ifYes Y.here hx rfl (pc0 := pc + 1) (pc' := tgt) rfl (hb hby hd) rfl (Jvm.Free.XT.ll_eq_t hc) ho hp q) (qt hc)
  · exact Wp.go (fun _ q => XS.ifNo Y.here hx rfl (hb hby hd) rfl (Jvm.Free.XT.ll_eq_f hc) q) (qf hc)
theorem w_icmpne (X : Pos Z a0 n0 p l e R s m args below meth c code ml ret y T h k j) {x z : Int32} {o : Int} (hd : Jmp code pc (.if_icmp .ne o) o nx tgt) (qt : ¬ x = z → Wp n0 p e R s below Q T (mkF m tgt Ls S)) (qf : x = z → Wp n0 p e R s below Q T (mkF m nx Ls S)) : Wp n0 p e R s below Q T (mkF m pc Ls (.int z :: .int x :: S)) := by
  obtain ⟨hx, hZ, hby, hml, hret, hown, hnm, hlk, eT, hn0, hw, locs, N, Y⟩ := X
  obtain ⟨hd, rfl, ho, hp⟩ := hd
  by_cases hc : x = z
  · exact Wp.go (fun _ q => XS.icmpNo Y.here hx rfl (hb hby hd) rfl (Jvm.Free.XT.ii_ne_f hc) q) (qf hc)
  · exact Wp.go (fun _ q => XS.icmpYes Y.here hx rfl (pc0 := pc) (pc' := tgt) rfl (hb hby hd) rfl (Jvm.Free.XT.ii_ne_t hc) ho hp q) (qt hc)
theorem w_ifne (X : Pos Z a0 n0 p l e R s m args below meth c code ml ret y T h k j) {x : Int32} {o : Int} (hd : Jmp code pc (.ifCond .ne o) o nx tgt) (qt : ¬ x = 0 → Wp n0 p e R s below Q T (mkF m tgt Ls S)) (qf : x = 0 → Wp n0 p e R s below Q T (mkF m nx Ls S)) : Wp n0 p e R s below Q T (mkF m pc Ls (.int x :: S)) := by
  obtain ⟨hx, hZ, hby, hml, hret, hown, hnm, hlk, eT, hn0, hw, locs, N, Y⟩ := X
  obtain ⟨hd, rfl, ho, hp⟩ := hd
  by_cases hc : x = 0
  · exact Wp.go (fun _ q => XS.ifNo Y.here hx rfl (hb hby hd) rfl (Jvm.Free.XT.i0_ne_f hc) q) (qf hc)
  · exact Wp.go (fun _ q => XS.ifYes Y.here hx rfl (pc0 := pc) (pc' := tgt) rfl (hb hby hd) rfl (Jvm.Free.XT.i0_ne_t hc) ho hp q) (qt hc)
theorem w_lcmpne (X : Pos Z a0 n0 p l e R s m args below meth c code ml ret y T h k j) {x z : Int64} {o : Int} {mid : Nat} (hd0 : Dec code pc .lcmp 1 mid) (hd : Jmp code mid (.ifCond .ne o) o nx tgt) (qt : ¬ x = z → Wp n0 p e R s below Q T (mkF m tgt Ls S)) (qf : x = z → Wp n0 p e R s below Q T (mkF m nx Ls S)) : Wp n0 p e R s below Q T (mkF m pc Ls (.long z :: .long x :: S)) := by
  obtain ⟨hx, hZ, hby, hml, hret, hown, hnm, hlk, eT, hn0, hw, locs, N, Y⟩ := X
  obtain ⟨hd0, rfl⟩ := hd0
  obtain ⟨hd, rfl, ho, hp⟩ := hd
  refine Wp.go (fun _ q => Jvm.Free.XT.lcmp Y.here hx rfl (hb hby hd0) rfl q) ?_
  by_cases hc : x = z
  · exact Wp.go (fun _ q => XS.ifNo Y.here hx rfl (hb hby hd) rfl (Jvm.Free.XT.ll_ne_f hc) q) (qf hc)
  · exact Wp.go (fun _ q => XS.ifYes Y.here hx rfl (pc0 := pc + 1) (pc' := tgt) rfl (hb hby hd) rfl (Jvm.Free.XT.ll_ne_t hc) ho hp q) (qt hc)
theorem w_icmplt (X : Pos Z a0 n0 p l e R s m args below meth c code ml ret y T h k j) {x z : Int32} {o : Int} (hd : Jmp code pc (.if_icmp .lt o) o nx tgt) (qt : x < z → Wp n0 p e R s below Q T (mkF m tgt Ls S)) (qf : ¬ x < z → Wp n0 p e R s below Q T (mkF m nx Ls S)) : Wp n0 p e R s below Q T (mkF m pc Ls (.int z :: .int x :: S)) := by
  obtain ⟨hx, hZ, hby, hml, hret, hown, hnm, hlk, eT, hn0, hw, locs, N, Y⟩ := X
  obtain ⟨hd, rfl, ho, hp⟩ := hd
  by_cases hc : x < z
  · exact Wp.go (fun _ q => XS.icmpYes Y.here hx rfl (pc0 := pc) (pc' := tgt) rfl (hb hby hd) rfl (Jvm.Free.XT.ii_lt_t hc) ho hp q) (qt hc)
  · exact Wp.go (fun _ q => XS.icmpNo Y.here hx rfl (hb hby hd) rfl (Jvm.Free.XT.ii_lt_f hc) q) (qf hc)
theorem w_iflt (X : Pos Z a0 n0 p l e R s m args below meth c code ml ret y T h k j) {x : Int32} {o : Int} (hd : Jmp code pc (.ifCond .lt o) o nx tgt) (qt : x < 0 → Wp n0 p e R s below Q T (mkF m tgt Ls S)) (qf : ¬ x < 0 → Wp n0 p e R s below Q T (mkF m nx Ls S)) : Wp n0 p e R s below Q T (mkF m pc Ls (.int x :: S)) := by
  obtain ⟨hx, hZ, hby, hml, hret, hown, hnm, hlk, eT, hn0, hw, locs, N, Y⟩ := X
  obtain ⟨hd, rfl, ho, hp⟩ := hd
  by_cases hc : x < 0
  · exact Wp.go (fun _ q => XS.ifYes Y.here hx rfl (pc0 := pc) (pc' := tgt) rfl (hb hby hd) rfl (Jvm.Free.XT.i0_lt_t hc) ho hp q) (qt hc)
  · exact Wp.go (fun _ q => XS.ifNo Y.here hx rfl (hb hby hd) rfl (Jvm.Free.XT.i0_lt_f hc) q) (qf hc)
theorem w_lcmplt (X : Pos Z a0 n0 p l e R s m args below meth c code ml ret y T h k j) {x z : Int64} {o : Int} {mid : Nat} (hd0 : Dec code pc .lcmp 1 mid) (hd : Jmp code mid (.ifCond .lt o) o nx tgt) (qt : x < z → Wp n0 p e R s below Q T (mkF m tgt Ls S)) (qf : ¬ x < z → Wp n0 p e R s below Q T (mkF m nx Ls S)) : Wp n0 p e R s below Q T (mkF m pc Ls (.long z :: .long x :: S)) := by
  obtain ⟨hx, hZ, hby, hml, hret, hown, hnm, hlk, eT, hn0, hw, locs, N, Y⟩ := X
  obtain ⟨hd0, rfl⟩ := hd0
  obtain ⟨hd, rfl, ho, hp⟩ := hd
  refine Wp.go (fun _ q => Jvm.Free.XT.lcmp Y.here hx rfl (hb hby hd0) rfl q) ?_
  by_cases hc : x < z
  · exact Wp.go (fun _ q => XS.ifYes Y.here hx rfl (pc0 := pc + 1) (pc' := tgt) rfl (hb hby hd) rfl (Jvm.Free.XT.ll_lt_t hc) ho hp q) (qt hc)
  · exact Wp.go (fun _ q => XS.ifNo Y.here hx rfl (hb hby hd) rfl (Jvm.Free.XT.ll_lt_f hc) q) (qf hc)
theorem w_icmpge (X : Pos Z a0 n0 p l e R s m args below meth c code ml ret y T h k j) {x z : Int32} {o : Int} (hd : Jmp code pc (.if_icmp .ge o) o nx tgt) (qt : ¬ x < z → Wp n0 p e R s below Q T (mkF m tgt Ls S)) (qf : x < z → Wp n0 p e R s below Q T (mkF m nx Ls S)) : Wp n0 p e R s below Q T (mkF m pc Ls (.int z :: .int x :: S)) := by
  obtain ⟨hx, hZ, hby, hml, hret, hown, hnm, hlk, eT, hn0, hw, locs, N, Y⟩ := X
  obtain ⟨hd, rfl, ho, hp⟩ := hd
  by_cases hc : x < z
  · exact Wp.go (fun _ q => XS.icmpNo Y.here hx rfl (hb hby hd) rfl (Jvm.Free.XT.ii_ge_f hc) q) (qf hc)
  · exact Wp.go (fun _ q => XS.icmpYes Y.here hx rfl (pc0 := pc) (pc' := tgt) rfl (hb hby hd) rfl (Jvm.Free.XT.ii_ge_t hc) ho hp q) (qt hc)
theorem w_ifge (X : Pos Z a0 n0 p l e R s m args below meth c code ml ret y T h k j) {x : Int32} {o : Int} (hd : Jmp code pc (.ifCond .ge o) o nx tgt) (qt : ¬ x < 0 → Wp n0 p e R s below Q T (mkF m tgt Ls S)) (qf : x < 0 → Wp n0 p e R s below Q T (mkF m nx Ls S)) : Wp n0 p e R s below Q T (mkF m pc Ls (.int x :: S)) := by
  obtain ⟨hx, hZ, hby, hml, hret, hown, hnm, hlk, eT, hn0, hw, locs, N, Y⟩ := X
  obtain ⟨hd, rfl, ho, hp⟩ := hd
  by_cases hc : x < 0
  · exact Wp.go (fun _ q => XS.ifNo Y.here hx rfl (hb hby hd) rfl (Jvm.Free.XT.i0_ge_f hc) q) (qf hc)
  · exact Wp.go (fun _ q => XS.ifYes Y.here hx rfl (pc0 := pc) (pc' := tgt) rfl (hb hby hd) rfl (Jvm.Free.XT.i0_ge_t hc) ho hp q) (qt hc)
theorem w_lcmpge (X : Pos Z a0 n0 p l e R s m args below meth c code ml ret y T h k j) {x z : Int64} {o : Int} {mid : Nat} (hd0 : Dec code pc .lcmp 1 mid) (hd : Jmp code mid (.ifCond .ge o) o nx tgt) (qt : ¬ x < z → Wp n0 p e R s below Q T (mkF m tgt Ls S)) (qf : x < z → Wp n0 p e R s below Q T (mkF m nx Ls S)) : Wp n0 p e R s below Q T (mkF m pc Ls (.long z :: .long x :: S)) := by
  obtain ⟨hx, hZ, hby, hml, hret, hown, hnm, hlk, eT, hn0, hw, locs, N, Y⟩ := X
  obtain ⟨hd0, rfl⟩ := hd0
  obtain ⟨hd, rfl, ho, hp⟩ := hd
  refine Wp.go (fun _ q => Jvm.Free.XT.lcmp Y.here hx rfl (hb hby hd0) rfl q) ?_
  by_cases hc : x < z
  · exact Wp.go (fun _ q => XS.ifNo Y.here hx rfl (hb hby hd) rfl (Jvm.Free.XT.ll_ge_f hc) q) (qf hc)
  · exact Wp.go (fun _ q => XS.ifYes Y.here hx rfl (pc0 := pc + 1) (pc' := tgt) rfl (hb hby hd) rfl (Jvm.Free.XT.ll_ge_t hc) ho hp q) (qt hc)
theorem w_icmpgt (X : Pos Z a0 n0 p l e R s m args below meth c code ml ret y T h k j) {x z : Int32} {o : Int} (hd : Jmp code pc (.if_icmp .gt o) o nx tgt) (qt : z < x → Wp n0 p e R s below Q T (mkF m tgt Ls S)) (qf : ¬ z < x → Wp n0 p e R s below Q T (mkF m nx Ls S)) : Wp n0 p e R s below Q T (mkF m pc Ls (.int z :: .int x :: S)) := by
  obtain ⟨hx, hZ, hby, hml, hret, hown, hnm, hlk, eT, hn0, hw, locs, N, Y⟩ := X
  obtain ⟨hd, rfl, ho, hp⟩ := hd
  by_cases hc : z < x
  · exact Wp.go (fun _ q => XS.icmpYes Y.here hx rfl (pc0 := pc) (pc' := tgt) rfl (hb hby hd) rfl (Jvm.Free.XT.ii_gt_t hc) ho hp q) (qt hc)
  · exact Wp.go (fun _ q => XS.icmpNo Y.here hx rfl (hb hby hd) rfl (Jvm.Free.XT.ii_gt_f hc) q) (qf hc)
theorem w_ifgt (X : Pos Z a0 n0 p l e R s m args below meth c code ml ret y T h k j) {x : Int32} {o : Int} (hd : Jmp code pc (.ifCond .gt o) o nx tgt) (qt : 0 < x → Wp n0 p e R s below Q T (mkF m tgt Ls S)) (qf : ¬ 0 < x → Wp n0 p e R s below Q T (mkF m nx Ls S)) : Wp n0 p e R s below Q T (mkF m pc Ls (.int x :: S)) := by
  obtain ⟨hx, hZ, hby, hml, hret, hown, hnm, hlk, eT, hn0, hw, locs, N, Y⟩ := X
  obtain ⟨hd, rfl, ho, hp⟩ := hd
  by_cases hc : 0 < x
  · exact Wp.go (fun _ q => XS.ifYes Y.here hx rfl (pc0 := pc) (pc' := tgt) rfl (hb hby hd) rfl (Jvm.Free.XT.i0_gt_t hc) ho hp q) (qt hc)
  · exact Wp.go (fun _ q => XS.ifNo Y.here hx rfl (hb hby hd) rfl (Jvm.Free.XT.i0_gt_f hc) q) (qf hc)
theorem w_lcmpgt (X : Pos Z a0 n0 p l e R s m args below meth c code ml ret y T h k j) {x z : Int64} {o : Int} {mid : Nat} (hd0 : Dec code pc .lcmp 1 mid) (hd : Jmp code mid (.ifCond .gt o) o nx tgt) (qt : z < x → Wp n0 p e R s below Q T (mkF m tgt Ls S)) (qf : ¬ z < x → Wp n0 p e R s below Q T (mkF m nx Ls S)) : Wp n0 p e R s below Q T (mkF m pc Ls (.long z :: .long x :: S)) := by
  obtain ⟨hx, hZ, hby, hml, hret, hown, hnm, hlk, eT, hn0, hw, locs, N, Y⟩ := X
  obtain ⟨hd0, rfl⟩ := hd0
  obtain ⟨hd, rfl, ho, hp⟩ := hd
  refine Wp.go (fun _ q => Jvm.Free.XT.lcmp Y.here hx rfl (hb hby hd0) rfl q) ?_
  by_cases hc : z < x
  · exact Wp.go (fun _ q => XS.ifYes Y.here hx rfl (pc0 := pc + 1) (pc' := tgt) rfl (hb hby hd) rfl (Jvm.Free.XT.ll_gt_t hc) ho hp q) (qt hc)
  · exact Wp.go (fun _ q => XS.ifNo Y.here hx rfl (hb hby hd) rfl (Jvm.Free.XT.ll_gt_f hc) q) (qf hc)
theorem w_icmple (X : Pos Z a0 n0 p l e R s m args below meth c code ml ret y T h k j) {x z : Int32} {o : Int} (hd : Jmp code pc (.if_icmp .le o) o nx tgt) (qt : ¬ z < x → Wp n0 p e R s below Q T (mkF m tgt Ls S)) (qf : z < x → Wp n0 p e R s below Q T (mkF m nx Ls S)) : Wp n0 p e R s below Q T (mkF m pc Ls (.int z :: .int x :: S)) := by
  obtain ⟨hx, hZ, hby, hml, hret, hown, hnm, hlk, eT, hn0, hw, locs, N, Y⟩ := X
  obtain ⟨hd, rfl, ho, hp⟩ := hd
  by_cases hc : z < x
  · exact Wp.go (fun _ q => XS.icmpNo Y.here hx rfl (hb hby hd) rfl (Jvm.Free.XT.ii_le_f hc) q) (qf hc)
  · exact Wp.go (fun _ q => XS.icmpYes Y.here hx rfl (pc0 := pc) (pc' := tgt) rfl (hb hby hd) rfl (Jvm.Free.XT.ii_le_t hc) ho hp q) (qt hc)
theorem w_ifle (X : Pos Z a0 n0 p l e R s m args below meth c code ml ret y T h k j) {x : Int32} {o : Int} (hd : Jmp code pc (.ifCond .le o) o nx tgt) (qt : ¬ 0 < x → Wp n0 p e R s below Q T (mkF m tgt Ls S)) (qf : 0 < x → Wp n0 p e R s below Q T (mkF m nx Ls S)) : Wp n0 p e R s below Q T (mkF m pc Ls (.int x :: S)) := by
  obtain ⟨hx, hZ, hby, hml, hret, hown, hnm, hlk, eT, hn0, hw, locs, N, Y⟩ := X
  obtain ⟨hd, rfl, ho, hp⟩ := hd
  by_cases hc : 0 < x
  · exact Wp.go (fun _ q => XS.ifNo Y.here hx rfl (hb hby hd) rfl (Jvm.Free.XT.i0_le_f hc) q) (qf hc)
  · exact Wp.go (fun _ q => XS.ifYes Y.here hx rfl (pc0 := pc) (pc' := tgt) rfl (hb hby hd) rfl (Jvm.Free.XT.i0_le_t hc) ho hp q) (qt hc)
theorem w_lcmple (X : Pos Z a0 n0 p l e R s m args below meth c code ml ret y T h k j) {x z : Int64} {o : Int} {mid : Nat} (hd0 : Dec code pc .lcmp 1 mid) (hd : Jmp code mid (.ifCond .le o) o nx tgt) (qt : ¬ z < x → Wp n0 p e R s below Q T (mkF m tgt Ls S)) (qf : z < x → Wp n0 p e R s below Q T (mkF m nx Ls S)) : Wp n0 p e R s below Q T (mkF m pc Ls (.long z :: .long x :: S)) := by
  obtain ⟨hx, hZ, hby, hml, hret, hown, hnm, hlk, eT, hn0, hw, locs, N, Y⟩ := X
  obtain ⟨hd0, rfl⟩ := hd0
  obtain ⟨hd, rfl, ho, hp⟩ := hd
  refine Wp.go (fun _ q => Jvm.Free.XT.lcmp Y.here hx rfl (hb hby hd0) rfl q) ?_
  by_cases hc : z < x
  · exact Wp.go (fun _ q => XS.ifNo Y.here hx rfl (hb hby hd) rfl (Jvm.Free.XT.ll_le_f hc) q) (qf hc)
  · exact Wp.go (fun _ q => XS.ifYes Y.here hx rfl (pc0 := pc + 1) (pc' := tgt) rfl (hb hby hd) rfl (Jvm.Free.XT.ll_le_t hc) ho hp q) (qt hc)
theorem w_ldc (X : Pos Z a0 n0 p l e R s m args below meth c code ml ret y T h k j) {i : Nat} {v : Int32} (hd : Dec code pc (.ldc i) 2 nx) (wc : (Jvm.Cond.constant y.cls i v).before a0 Z = true) (q : Wp n0 p e R s below Q T (mkF m nx Ls (.int v :: S))) : Wp n0 p e R s below Q T (mkF m pc Ls S) := by
  obtain ⟨hx, hZ, hby, hml, hret, hown, hnm, hlk, eT, hn0, hw, locs, N, Y⟩ := X
  obtain ⟨hd, rfl⟩ := hd
  exact Wp.go (Y.ldcInt hx hown (mvT hZ wc) rfl (hb hby hd)) q
theorem w_ldc2 (X : Pos Z a0 n0 p l e R s m args below meth c code ml ret y T h k j) {i : Nat} {v : Int64} (hd : Dec code pc (.ldc2_w i) 3 nx) (wc : (Jvm.Cond.constantLong y.cls i v).before a0 Z = true) (q : Wp n0 p e R s below Q T (mkF m nx Ls (.long v :: S))) : Wp n0 p e R s below Q T (mkF m pc Ls S) := by
  obtain ⟨hx, hZ, hby, hml, hret, hown, hnm, hlk, eT, hn0, hw, locs, N, Y⟩ := X
  obtain ⟨hd, rfl⟩ := hd
  exact Wp.go (Y.ldc2Long hx hown (mvT hZ wc) rfl (hb hby hd)) q
theorem w_ldcw (X : Pos Z a0 n0 p l e R s m args below meth c code ml ret y T h k j) {i : Nat} {v : Int32} (hd : Dec code pc (.ldc_w i) 3 nx) (wc : (Jvm.Cond.constant y.cls i v).before a0 Z = true) (q : Wp n0 p e R s below Q T (mkF m nx Ls (.int v :: S))) : Wp n0 p e R s below Q T (mkF m pc Ls S) := by
  obtain ⟨hx, hZ, hby, hml, hret, hown, hnm, hlk, eT, hn0, hw, locs, N, Y⟩ := X
  obtain ⟨hd, rfl⟩ := hd
  exact Wp.go (Y.ldcwInt hx hown (mvT hZ wc) rfl (hb hby hd)) q
theorem w_wiinc (X : Pos Z a0 n0 p l e R s m args below meth c code ml ret y T h k j) {w : Nat} {i : Int} {d v r : Int32} {l' : Array Slot} (hd : Dec code pc (.iinc w i) 6 nx) (hl : Ls[w]? = some (.val (.int v))) (hi : Int32.ofInt i = d) (hr : v + d = r) (hl' : storeLocals Ls w (.int r) = some l') (q : Wp n0 p e R s below Q T (mkF m nx l' S)) : Wp n0 p e R s below Q T (mkF m pc Ls S) := by
  obtain ⟨hx, hZ, hby, hml, hret, hown, hnm, hlk, eT, hn0, hw, locs, N, Y⟩ := X
  obtain ⟨hd, rfl⟩ := hd
  subst hi hr
  refine Wp.go (fun _ q => ?_) q
  have hd' := hb hby hd
  have h := Y.here
  jvm_step h [h.top, hx, hd', hl, hl']
  exact q
theorem w_ireturn (X : Pos Z a0 n0 p l e R s m args below meth c code ml (some .int) y T h k j) {z : Int32} (hd : Dec code pc .ireturn 1 nx) (hk : k ≤ R.cells) (hj : j ≤ R.slots) (hq : Q (some (.int z)) h) : Wp n0 p e R s below Q T (mkF m pc Ls (.int z :: S)) := by
  obtain ⟨hx, hZ, hby, hml, hret, hown, hnm, hlk, eT, hn0, hw, locs, N, Y⟩ := X
  obtain ⟨hd, -⟩ := hd
  obtain ⟨fs, hr, hrun, hended, hW, hsame⟩ := Y.leave (v := (some (.int z))) (fun h => by rw [hret] at h; cases h) hlk
  exact ⟨_, _, retI Y hx hret (hb hby hd) hr, hrun, hended, _, _, rfl, ⟨N, by show n0 ≤ T.heap.size; rw [eT]; exact hn0, by show Q _ T.heap; rw [eT]; exact hq⟩, ⟨_, rfl⟩, hW, hsame.mono hk hj⟩
theorem w_breturn (X : Pos Z a0 n0 p l e R s m args below meth c code ml (some .byte) y T h k j) {z : Int32} (hd : Dec code pc .ireturn 1 nx) (hk : k ≤ R.cells) (hj : j ≤ R.slots) (hq : Q (some (.int (nar .byte z))) h) : Wp n0 p e R s below Q T (mkF m pc Ls (.int z :: S)) := by
  obtain ⟨hx, hZ, hby, hml, hret, hown, hnm, hlk, eT, hn0, hw, locs, N, Y⟩ := X
  obtain ⟨hd, -⟩ := hd
  obtain ⟨fs, hr, hrun, hended, hW, hsame⟩ := Y.leave (v := (some (.int (nar .byte z)))) (fun h => by rw [hret] at h; cases h) hlk
  exact ⟨_, _, retN Y hx (t := .byte) hret (by simp) (hb hby hd) hr, hrun, hended, _, _, rfl, ⟨N, by show n0 ≤ T.heap.size; rw [eT]; exact hn0, by show Q _ T.heap; rw [eT]; exact hq⟩, ⟨_, rfl⟩, hW, hsame.mono hk hj⟩
theorem w_zreturn (X : Pos Z a0 n0 p l e R s m args below meth c code ml (some .boolean) y T h k j) {z : Int32} (hd : Dec code pc .ireturn 1 nx) (hk : k ≤ R.cells) (hj : j ≤ R.slots) (hq : Q (some (.int (nar .boolean z))) h) : Wp n0 p e R s below Q T (mkF m pc Ls (.int z :: S)) := by
  obtain ⟨hx, hZ, hby, hml, hret, hown, hnm, hlk, eT, hn0, hw, locs, N, Y⟩ := X
  obtain ⟨hd, -⟩ := hd
  obtain ⟨fs, hr, hrun, hended, hW, hsame⟩ := Y.leave (v := (some (.int (nar .boolean z)))) (fun h => by rw [hret] at h; cases h) hlk
  exact ⟨_, _, retN Y hx (t := .boolean) hret (by simp) (hb hby hd) hr, hrun, hended, _, _, rfl, ⟨N, by show n0 ≤ T.heap.size; rw [eT]; exact hn0, by show Q _ T.heap; rw [eT]; exact hq⟩, ⟨_, rfl⟩, hW, hsame.mono hk hj⟩
theorem w_lreturn (X : Pos Z a0 n0 p l e R s m args below meth c code ml (some .long) y T h k j) {z : Int64} (hd : Dec code pc .lreturn 1 nx) (hk : k ≤ R.cells) (hj : j ≤ R.slots) (hq : Q (some (.long z)) h) : Wp n0 p e R s below Q T (mkF m pc Ls [.long z]) := by
  obtain ⟨hx, hZ, hby, hml, hret, hown, hnm, hlk, eT, hn0, hw, locs, N, Y⟩ := X
  obtain ⟨hd, -⟩ := hd
  obtain ⟨fs, hr, hrun, hended, hW, hsame⟩ := Y.leave (v := (some (.long z))) (fun h => by rw [hret] at h; cases h) hlk
  exact ⟨_, _, Y.lreturnOut hx hret (hb hby hd) hr, hrun, hended, _, _, rfl, ⟨N, by show n0 ≤ T.heap.size; rw [eT]; exact hn0, by show Q _ T.heap; rw [eT]; exact hq⟩, ⟨_, rfl⟩, hW, hsame.mono hk hj⟩
theorem w_return (X : Pos Z a0 n0 p l e R s m args below meth c code ml none y T h k j)  (hd : Dec code pc .return_ 1 nx) (hk : k ≤ R.cells) (hj : j ≤ R.slots) (hq : Q none h) : Wp n0 p e R s below Q T (mkF m pc Ls []) := by
  obtain ⟨hx, hZ, hby, hml, hret, hown, hnm, hlk, eT, hn0, hw, locs, N, Y⟩ := X
  obtain ⟨hd, -⟩ := hd
  obtain ⟨fs, hr, hrun, hended, hW, hsame⟩ := Y.leave (v := none) (fun _ => rfl) hlk
  exact ⟨_, _, Y.returnOut hx hret (hb hby hd) hr, hrun, hended, _, _, rfl, ⟨N, by show n0 ≤ T.heap.size; rw [eT]; exact hn0, by show Q _ T.heap; rw [eT]; exact hq⟩, ⟨_, rfl⟩, hW, hsame.mono hk hj⟩
theorem w_arraylength (X : Pos Z a0 n0 p l e R s m args below meth c code ml ret y T h k j) {a : Addr} {ty : FieldType} {n : Nat} {g : Nat → Value} (hd : Dec code pc .arraylength 1 nx) (B : Ba Z n0 h a ty n g) (q : Wp n0 p e R s below Q T (mkF m nx Ls (.int (Int32.ofNat n) :: S))) : Wp n0 p e R s below Q T (mkF m pc Ls (.ref a :: S)) := by
  obtain ⟨hx, hZ, hby, hml, hret, hown, hnm, hlk, eT, hn0, hw, locs, N, Y⟩ := X
  obtain ⟨hd, rfl⟩ := hd
  obtain ⟨-, hn, cl, A, hs, -⟩ := B
  subst hs
  exact Wp.go (fun _ q => Y.arraylength hx (g := mkF m pc Ls (.ref a :: S)) (cell := cl) (by rw [eT]; exact A.1) (State.isArrayOf_alike hZ.alike A.2.1) rfl rfl (hb hby hd) _ q) q
theorem w_baload (X : Pos Z a0 n0 p l e R s m args below meth c code ml ret y T h k j) {a : Addr} {n : Nat} {b : Nat → Int32} {x : Int32} (hd : Dec code pc .baload 1 nx) (B : Ba Z n0 h a .byte n (bI b)) (i : Nat) (hi : x = Int32.ofNat i) (hlt : i < n) (q : Wp n0 p e R s below Q T (mkF m nx Ls (.int (b i) :: S))) : Wp n0 p e R s below Q T (mkF m pc Ls (.int x :: .ref a :: S)) := by
  obtain ⟨hx, hZ, hby, hml, hret, hown, hnm, hlk, eT, hn0, hw, locs, N, Y⟩ := X
  obtain ⟨hd, rfl⟩ := hd
  obtain ⟨-, hn, cl, A, hs, hv⟩ := B
  subst hi
  exact Wp.go (fun _ q => Y.baloadBytes hx (g := mkF m pc Ls (.int (Int32.ofNat i) :: .ref a :: S)) (j := Int32.ofNat i) (v := .int (b i)) (by rw [eT]; exact A.1) (State.isArrayOf_alike hZ.alike A.2.1) A.2.2 (inb hn hs hlt) (by rw [ofNat_clamp (by omega)]; exact hv i hlt) rfl rfl (hb hby hd) _ q) q
theorem w_iaload (X : Pos Z a0 n0 p l e R s m args below meth c code ml ret y T h k j) {a : Addr} {n : Nat} {b : Nat → Int32} {x : Int32} (hd : Dec code pc .iaload 1 nx) (B : Ba Z n0 h a .int n (bI b)) (i : Nat) (hi : x = Int32.ofNat i) (hlt : i < n) (q : Wp n0 p e R s below Q T (mkF m nx Ls (.int (b i) :: S))) : Wp n0 p e R s below Q T (mkF m pc Ls (.int x :: .ref a :: S)) := by
  obtain ⟨hx, hZ, hby, hml, hret, hown, hnm, hlk, eT, hn0, hw, locs, N, Y⟩ := X
  obtain ⟨hd, rfl⟩ := hd
  obtain ⟨-, hn, cl, A, hs, hv⟩ := B
  subst hi
  exact Wp.go (fun _ q => Y.iaload hx (g := mkF m pc Ls (.int (Int32.ofNat i) :: .ref a :: S)) (j := Int32.ofNat i) (v := .int (b i)) (by rw [eT]; exact A.1) (State.isArrayOf_alike hZ.alike A.2.1) A.2.2 (inb hn hs hlt) (by rw [ofNat_clamp (by omega)]; exact hv i hlt) rfl rfl (hb hby hd) _ q) q
theorem w_laload (X : Pos Z a0 n0 p l e R s m args below meth c code ml ret y T h k j) {a : Addr} {n : Nat} {b : Nat → Int64} {x : Int32} (hd : Dec code pc .laload 1 nx) (B : Ba Z n0 h a .long n (bJ b)) (i : Nat) (hi : x = Int32.ofNat i) (hlt : i < n) (q : Wp n0 p e R s below Q T (mkF m nx Ls (.long (b i) :: S))) : Wp n0 p e R s below Q T (mkF m pc Ls (.int x :: .ref a :: S)) := by
  obtain ⟨hx, hZ, hby, hml, hret, hown, hnm, hlk, eT, hn0, hw, locs, N, Y⟩ := X
  obtain ⟨hd, rfl⟩ := hd
  obtain ⟨-, hn, cl, A, hs, hv⟩ := B
  subst hi
  exact Wp.go (fun _ q => Y.laload hx (g := mkF m pc Ls (.int (Int32.ofNat i) :: .ref a :: S)) (j := Int32.ofNat i) (v := .long (b i)) (by rw [eT]; exact A.1) (State.isArrayOf_alike hZ.alike A.2.1) A.2.2 (inb hn hs hlt) (by rw [ofNat_clamp (by omega)]; exact hv i hlt) rfl rfl (hb hby hd) _ q) q
theorem w_bastore (X : Pos Z a0 n0 p l e R s m args below meth c code ml ret y T h k j) {a : Addr} {n : Nat} {b : Nat → Int32} {x : Int32} {v : Int32} (hd : Dec code pc .bastore 1 nx) (B : Ba Z n0 h a .byte n (bI b)) (i : Nat) (hi : x = Int32.ofNat i) (hlt : i < n)
    (q : ∀ T' h', Pos Z a0 n0 p l e R s m args below meth c code ml ret y T' h' k j → Keep h h' [a] → Ba Z n0 h' a .byte n (bI (upd b i (jbyte v))) → Wp n0 p e R s below Q T' (mkF m nx Ls S)) : Wp n0 p e R s below Q T (mkF m pc Ls (.int v :: .int x :: .ref a :: S)) := by
  obtain ⟨hx, hZ, hby, hml, hret, hown, hnm, hlk, eT, hn0, hw, locs, N, Y⟩ := X
  obtain ⟨hd, rfl⟩ := hd
  obtain ⟨hna, hn, cl, A, hs, hv⟩ := B
  subst hi
  obtain ⟨T', h', Y', e', W', st⟩ := stB Y hx hZ eT A (j := Int32.ofNat i) (inb hn hs hlt) (g := mkF m pc Ls (.int v :: .int (Int32.ofNat i) :: .ref a :: S)) rfl rfl (hb hby hd)
  refine Wp.go st (q T' h' ⟨hx, hZ, hby, hml, hret, hown, hnm, hlk, e', by rw [W'.size]; exact hn0, hw, _, Fr.snoc Y' N hna, Y'⟩ (Keep.of_wr W') ⟨hna, hn, _, A.same W', (sz_set _ _ _).trans hs, fun q hq => ?_⟩)
  rw [ofNat_clamp (by omega)]
  by_cases hqi : q = i
  · subst hqi
    simp [Cell.setSlot, hs, hq, upd, bI, nar]
  · simp [Cell.setSlot, upd, hqi, bI, Array.getElem?_setIfInBounds_ne (Ne.symm hqi), hv q hq]
theorem w_iastore (X : Pos Z a0 n0 p l e R s m args below meth c code ml ret y T h k j) {a : Addr} {n : Nat} {b : Nat → Int32} {x : Int32} {v : Int32} (hd : Dec code pc .iastore 1 nx) (B : Ba Z n0 h a .int n (bI b)) (i : Nat) (hi : x = Int32.ofNat i) (hlt : i < n)
    (q : ∀ T' h', Pos Z a0 n0 p l e R s m args below meth c code ml ret y T' h' k j → Keep h h' [a] → Ba Z n0 h' a .int n (bI (upd b i (v))) → Wp n0 p e R s below Q T' (mkF m nx Ls S)) : Wp n0 p e R s below Q T (mkF m pc Ls (.int v :: .int x :: .ref a :: S)) := by
  obtain ⟨hx, hZ, hby, hml, hret, hown, hnm, hlk, eT, hn0, hw, locs, N, Y⟩ := X
  obtain ⟨hd, rfl⟩ := hd
  obtain ⟨hna, hn, cl, A, hs, hv⟩ := B
  subst hi
  obtain ⟨T', h', Y', e', W', st⟩ := stI Y hx hZ eT A (j := Int32.ofNat i) (inb hn hs hlt) (g := mkF m pc Ls (.int v :: .int (Int32.ofNat i) :: .ref a :: S)) rfl rfl (hb hby hd)
  refine Wp.go st (q T' h' ⟨hx, hZ, hby, hml, hret, hown, hnm, hlk, e', by rw [W'.size]; exact hn0, hw, _, Fr.snoc Y' N hna, Y'⟩ (Keep.of_wr W') ⟨hna, hn, _, A.same W', (sz_set _ _ _).trans hs, fun q hq => ?_⟩)
  rw [ofNat_clamp (by omega)]
  by_cases hqi : q = i
  · subst hqi
    simp [Cell.setSlot, hs, hq, upd, bI]
  · simp [Cell.setSlot, upd, hqi, bI, Array.getElem?_setIfInBounds_ne (Ne.symm hqi), hv q hq]
theorem w_lastore (X : Pos Z a0 n0 p l e R s m args below meth c code ml ret y T h k j) {a : Addr} {n : Nat} {b : Nat → Int64} {x : Int32} {v : Int64} (hd : Dec code pc .lastore 1 nx) (B : Ba Z n0 h a .long n (bJ b)) (i : Nat) (hi : x = Int32.ofNat i) (hlt : i < n)
    (q : ∀ T' h', Pos Z a0 n0 p l e R s m args below meth c code ml ret y T' h' k j → Keep h h' [a] → Ba Z n0 h' a .long n (bJ (upd b i (v))) → Wp n0 p e R s below Q T' (mkF m nx Ls S)) : Wp n0 p e R s below Q T (mkF m pc Ls (.long v :: .int x :: .ref a :: S)) := by
  obtain ⟨hx, hZ, hby, hml, hret, hown, hnm, hlk, eT, hn0, hw, locs, N, Y⟩ := X
  obtain ⟨hd, rfl⟩ := hd
  obtain ⟨hna, hn, cl, A, hs, hv⟩ := B
  subst hi
  obtain ⟨T', h', Y', e', W', st⟩ := stJ Y hx hZ eT A (j := Int32.ofNat i) (inb hn hs hlt) (g := mkF m pc Ls (.long v :: .int (Int32.ofNat i) :: .ref a :: S)) rfl rfl (hb hby hd)
  refine Wp.go st (q T' h' ⟨hx, hZ, hby, hml, hret, hown, hnm, hlk, e', by rw [W'.size]; exact hn0, hw, _, Fr.snoc Y' N hna, Y'⟩ (Keep.of_wr W') ⟨hna, hn, _, A.same W', (sz_set _ _ _).trans hs, fun q hq => ?_⟩)
  rw [ofNat_clamp (by omega)]
  by_cases hqi : q = i
  · subst hqi
    simp [Cell.setSlot, hs, hq, upd, bJ]
  · simp [Cell.setSlot, upd, hqi, bJ, Array.getElem?_setIfInBounds_ne (Ne.symm hqi), hv q hq]
theorem w_newB (X : Pos Z a0 n0 p l e R s m args below meth c code ml ret y T h k j) {x : Int32} (hd : Dec code pc (.newarray .byte) 2 nx) (wa : (Jvm.Cond.arrayClass .byte).before a0 Z = true) (n cap : Nat) (hx' : x = Int32.ofNat n) (hcap : n ≤ cap) (hb' : cap * 8 ≤ 536870912) (hk : k + 1 ≤ R.cells) (hj : j + cap ≤ R.slots)
    (q : ∀ T' h' a, Pos Z a0 n0 p l e R s m args below meth c code ml ret y T' h' (k + 1) (j + cap) → a = h.size → Ext h h' → Ba Z n0 h' a .byte n (bI fun _ => 0) → Wp n0 p e R s below Q T' (mkF m nx Ls (.ref a :: S))) : Wp n0 p e R s below Q T (mkF m pc Ls (.int x :: S)) := by
  obtain ⟨hx, hZ, hby, hml, hret, hown, hnm, hlk, eT, hn0, hw, locs, N, Y⟩ := X
  obtain ⟨hd, rfl⟩ := hd
  subst hx'
  obtain ⟨T', h', cA, Y', e', E', A', st⟩ := newP Y hx hZ (aty := .byte) wa eT (g := mkF m pc Ls (.int (Int32.ofNat n) :: S)) rfl (hb hby hd) rfl (ofNat_nn (by omega)) (cap := cap) (by rw [ofNat_clamp (by omega)]; exact hcap) hb' hk hj
  refine Wp.go st (q T' h' _ ⟨hx, hZ, hby, hml, hret, hown, hnm, hlk, e', Nat.le_trans hn0 E'.1, hw, _, N, Y'⟩ rfl E' ⟨hn0, by omega, _, A', by rw [sz_new, ofNat_clamp (by omega)], fun i hi => ?_⟩)
  have := get_new (cA := cA) (ty := .byte) (n := Int32.ofNat n) (k := Int32.ofNat i) (by rw [ofNat_clamp (by omega), ofNat_clamp (by omega)]; exact fun q => q.elim (ofNat_nn (by omega)) (fun q => by omega))
  rw [ofNat_clamp (by omega)] at this
  exact this
theorem w_newI (X : Pos Z a0 n0 p l e R s m args below meth c code ml ret y T h k j) {x : Int32} (hd : Dec code pc (.newarray .int) 2 nx) (wa : (Jvm.Cond.arrayClass .int).before a0 Z = true) (n cap : Nat) (hx' : x = Int32.ofNat n) (hcap : n ≤ cap) (hb' : cap * 8 ≤ 536870912) (hk : k + 1 ≤ R.cells) (hj : j + cap ≤ R.slots)
    (q : ∀ T' h' a, Pos Z a0 n0 p l e R s m args below meth c code ml ret y T' h' (k + 1) (j + cap) → a = h.size → Ext h h' → Ba Z n0 h' a .int n (bI fun _ => 0) → Wp n0 p e R s below Q T' (mkF m nx Ls (.ref a :: S))) : Wp n0 p e R s below Q T (mkF m pc Ls (.int x :: S)) := by
  obtain ⟨hx, hZ, hby, hml, hret, hown, hnm, hlk, eT, hn0, hw, locs, N, Y⟩ := X
  obtain ⟨hd, rfl⟩ := hd
  subst hx'
  obtain ⟨T', h', cA, Y', e', E', A', st⟩ := newP Y hx hZ (aty := .int) wa eT (g := mkF m pc Ls (.int (Int32.ofNat n) :: S)) rfl (hb hby hd) rfl (ofNat_nn (by omega)) (cap := cap) (by rw [ofNat_clamp (by omega)]; exact hcap) hb' hk hj
  refine Wp.go st (q T' h' _ ⟨hx, hZ, hby, hml, hret, hown, hnm, hlk, e', Nat.le_trans hn0 E'.1, hw, _, N, Y'⟩ rfl E' ⟨hn0, by omega, _, A', by rw [sz_new, ofNat_clamp (by omega)], fun i hi => ?_⟩)
  have := get_new (cA := cA) (ty := .int) (n := Int32.ofNat n) (k := Int32.ofNat i) (by rw [ofNat_clamp (by omega), ofNat_clamp (by omega)]; exact fun q => q.elim (ofNat_nn (by omega)) (fun q => by omega))
  rw [ofNat_clamp (by omega)] at this
  exact this
theorem w_newJ (X : Pos Z a0 n0 p l e R s m args below meth c code ml ret y T h k j) {x : Int32} (hd : Dec code pc (.newarray .long) 2 nx) (wa : (Jvm.Cond.arrayClass .long).before a0 Z = true) (n cap : Nat) (hx' : x = Int32.ofNat n) (hcap : n ≤ cap) (hb' : cap * 8 ≤ 536870912) (hk : k + 1 ≤ R.cells) (hj : j + cap ≤ R.slots)
    (q : ∀ T' h' a, Pos Z a0 n0 p l e R s m args below meth c code ml ret y T' h' (k + 1) (j + cap) → a = h.size → Ext h h' → Ba Z n0 h' a .long n (bJ fun _ => 0) → Wp n0 p e R s below Q T' (mkF m nx Ls (.ref a :: S))) : Wp n0 p e R s below Q T (mkF m pc Ls (.int x :: S)) := by
  obtain ⟨hx, hZ, hby, hml, hret, hown, hnm, hlk, eT, hn0, hw, locs, N, Y⟩ := X
  obtain ⟨hd, rfl⟩ := hd
  subst hx'
  obtain ⟨T', h', cA, Y', e', E', A', st⟩ := newP Y hx hZ (aty := .long) wa eT (g := mkF m pc Ls (.int (Int32.ofNat n) :: S)) rfl (hb hby hd) rfl (ofNat_nn (by omega)) (cap := cap) (by rw [ofNat_clamp (by omega)]; exact hcap) hb' hk hj
  refine Wp.go st (q T' h' _ ⟨hx, hZ, hby, hml, hret, hown, hnm, hlk, e', Nat.le_trans hn0 E'.1, hw, _, N, Y'⟩ rfl E' ⟨hn0, by omega, _, A', by rw [sz_new, ofNat_clamp (by omega)], fun i hi => ?_⟩)
  have := get_new (cA := cA) (ty := .long) (n := Int32.ofNat n) (k := Int32.ofNat i) (by rw [ofNat_clamp (by omega), ofNat_clamp (by omega)]; exact fun q => q.elim (ofNat_nn (by omega)) (fun q => by omega))
  rw [ofNat_clamp (by omega)] at this
  exact this
theorem w_static (X : Pos Z a0 n0 p l e R s m args below meth c code ml ret y T h k j) {z : MethodName} {cz : ByteArray} {mz : Nat} {rz : Option FieldType} {rm : Room} {Qz : Option Value → Heap → Prop} {ps : List FieldType} {rr : Option FieldType} {i : Nat} {argsL : List Value} (hd : Dec code pc (.invokestatic i) 3 nx) (C : Ctr l Z n0 z cz mz rz rm [] argsL.toArray h Qz) (wl : (Jvm.Cond.methodLink y.cls i z).before a0 Z = true) (ws : (Jvm.Cond.static z).before a0 Z = true) (wi : (Jvm.Cond.initialized z.cls).before a0 Z = true) (wc : (Jvm.Cond.code z cz mz rz).before a0 Z = true)
    (hz : z.cls ≠ "java/lang/invoke/MethodHandle" ∧ z.cls ≠ "java/lang/invoke/VarHandle") (hpd : parseMethodDescriptor z.desc = some ⟨ps, rr⟩) (hlen : argsL.length = ps.length) {S0 : List Value} (hS : S0 = argsL.reverse ++ S) (hsz : Ls.size = ml)
    (hf : rm.frames + 1 ≤ R.frames) (hlo : (S.map fun v => v.category).sum + (mz + 11) + rm.locals ≤ R.locals) (hk : k + rm.cells ≤ R.cells) (hj : j + rm.slots ≤ R.slots)
    (q : ∀ v T' h', Pos Z a0 n0 p l e R s m args below meth c code ml ret y T' h' (k + rm.cells) (j + rm.slots) → Qz v h' → Wp n0 p e R s below Q T' (mkF m nx Ls (v.toList ++ S))) : Wp n0 p e R s below Q T (mkF m pc Ls S0) := by
  obtain ⟨hx, hZ, hby, hml, hret, hown, hnm, hlk, eT, hn0, hw, locs, N, Y⟩ := X
  obtain ⟨hd, rfl⟩ := hd
  obtain ⟨v, _, ⟨T', L', k', j'⟩, -, Y', ⟨Lc, hQ, l1, l2, l3⟩, st⟩ := Jvm.LawKit.callS Y hx (y := z) hown (mvT hZ wl) (mvT hZ ws) (mvT hZ wi) (mvT hZ wc) hz (backOf (W := (S.map fun v => v.category).sum) (Q := fun v h L => Fr n0 L ∧ n0 ≤ h.size ∧ Qz v h) C hZ wc wi hf hlo) (g := mkF m pc Ls S0) rfl (by rw [hml]; exact hsz) (argsL := argsL) (rest := S) (lenOf hpd hlen) hS (by show 2 * 0 + _ ≤ _; omega) (hb hby hd) (fun _ _ => ⟨rfl, eT, hk, hj⟩)
  dsimp only [Pt.U, Pt.locs, Pt.cells, Pt.slots] at Y' l1 l2 l3 st hQ
  subst l1 l2 l3
  obtain ⟨N', hn', hQ⟩ := hQ
  exact Wp.go st (q v T' _ ⟨hx, hZ, hby, hml, hret, hown, hnm, hlk, rfl, hn', hw, _, Fr.app N N', Y'⟩ hQ)
theorem w_virtual (X : Pos Z a0 n0 p l e R s m args below meth c code ml ret y T h k j) {z : MethodName} {cz : ByteArray} {mz : Nat} {rz : Option FieldType} {rm : Room} {Qz : Option Value → Heap → Prop} {ps : List FieldType} {rr : Option FieldType} {i : Nat} {argsL : List Value} {a : Addr} (hd : Dec code pc (.invokevirtual i) 3 nx) (C : Ctr l Z n0 z cz mz rz rm [] (.ref a :: argsL).toArray h Qz) (E : Exa Z h a z.cls) (wl : (Jvm.Cond.methodLink y.cls i z).before a0 Z = true) (wdc : (Jvm.Cond.declares z).before a0 Z = true) (wse : (Jvm.Cond.selects z.cls z z).before a0 Z = true) (wim : (Jvm.Cond.instanceMethod z).before a0 Z = true) (wi : (Jvm.Cond.initialized z.cls).before a0 Z = true) (wc : (Jvm.Cond.code z cz mz rz).before a0 Z = true)
    (hz : z.cls ≠ "java/lang/invoke/MethodHandle" ∧ z.cls ≠ "java/lang/invoke/VarHandle") (hpd : parseMethodDescriptor z.desc = some ⟨ps, rr⟩) (hlen : argsL.length = ps.length) {S0 : List Value} (hS : S0 = argsL.reverse ++ .ref a :: S) (hsz : Ls.size = ml)
    (hf : rm.frames + 1 ≤ R.frames) (hlo : (S.map fun v => v.category).sum + (mz + 11) + rm.locals ≤ R.locals) (hk : k + rm.cells ≤ R.cells) (hj : j + rm.slots ≤ R.slots)
    (q : ∀ v T' h', Pos Z a0 n0 p l e R s m args below meth c code ml ret y T' h' (k + rm.cells) (j + rm.slots) → Qz v h' → Wp n0 p e R s below Q T' (mkF m nx Ls (v.toList ++ S))) : Wp n0 p e R s below Q T (mkF m pc Ls S0) := by
  obtain ⟨hx, hZ, hby, hml, hret, hown, hnm, hlk, eT, hn0, hw, locs, N, Y⟩ := X
  obtain ⟨hd, rfl⟩ := hd
  obtain ⟨cq, kq, qa, qb, qc⟩ := isOf hZ eT E
  have Ctr' := backOf (l := l) (R := R) (p := p) (e := e) (below := below) (s := s) (args := args) (len := 3) (W := (S.map fun v => v.category).sum) (Q := fun v h L => Fr n0 L ∧ n0 ≤ h.size ∧ Qz v h) C hZ wc wi hf hlo
  obtain ⟨v, _, ⟨T', L', k', j'⟩, -, Y', ⟨Lc, hQ, l1, l2, l3⟩, st⟩ := Y.virtualBack hx (y := z) (z := z) hown (mvT hZ wl) (mvT hZ wdc) (notFace_of_selects (args := #[]) (mvT hZ wse)) (mvT hZ wse) (mvT hZ wim) hz Ctr' qa qc (g := mkF m pc Ls S0) rfl (by rw [hml]; exact hsz) (Steps.refl _) (argsL := argsL) (rest := S) (lenOf hpd hlen) hS (by show 2 * 0 + _ ≤ _; omega) (hb hby hd) (fun _ _ => ⟨rfl, eT, hk, hj⟩)
  dsimp only [Pt.U, Pt.locs, Pt.cells, Pt.slots] at Y' l1 l2 l3 st hQ
  subst l1 l2 l3
  obtain ⟨N', hn', hQ⟩ := hQ
  exact Wp.go (fun _ t => st.trans t) (q v T' _ ⟨hx, hZ, hby, hml, hret, hown, hnm, hlk, rfl, hn', hw, _, Fr.app N N', Y'⟩ hQ)
theorem w_special (X : Pos Z a0 n0 p l e R s m args below meth c code ml ret y T h k j) {z : MethodName} {cz : ByteArray} {mz : Nat} {rm : Room} {Qz : Option Value → Heap → Prop} {ps : List FieldType} {rr : Option FieldType} {i : Nat} {argsL : List Value} {a : Addr} (hd : Dec code pc (.invokespecial i) 3 nx) (C : Ctr l Z n0 z cz mz none rm [] (.ref a :: argsL).toArray h Qz) (hz1 : z.name = "<init>") (wl : (Jvm.Cond.methodLink y.cls i z).before a0 Z = true) (wim : (Jvm.Cond.instanceMethod z).before a0 Z = true) (wi : (Jvm.Cond.initialized z.cls).before a0 Z = true) (wc : (Jvm.Cond.code z cz mz none).before a0 Z = true)
    (hz : z.cls ≠ "java/lang/invoke/MethodHandle" ∧ z.cls ≠ "java/lang/invoke/VarHandle") (hpd : parseMethodDescriptor z.desc = some ⟨ps, rr⟩) (hlen : argsL.length = ps.length) {S0 : List Value} (hS : S0 = argsL.reverse ++ .ref a :: S) (hsz : Ls.size = ml)
    (hf : rm.frames + 1 ≤ R.frames) (hlo : (S.map fun v => v.category).sum + (mz + 11) + rm.locals ≤ R.locals) (hk : k + rm.cells ≤ R.cells) (hj : j + rm.slots ≤ R.slots)
    (q : ∀ v T' h', Pos Z a0 n0 p l e R s m args below meth c code ml ret y T' h' (k + rm.cells) (j + rm.slots) → Qz v h' → Wp n0 p e R s below Q T' (mkF m nx Ls (v.toList ++ S))) : Wp n0 p e R s below Q T (mkF m pc Ls S0) := by
  obtain ⟨hx, hZ, hby, hml, hret, hown, hnm, hlk, eT, hn0, hw, locs, N, Y⟩ := X
  obtain ⟨hd, rfl⟩ := hd
  have Ctr' := backOf (l := l) (R := R) (p := p) (e := e) (below := below) (s := s) (args := args) (len := 3) (W := (S.map fun v => v.category).sum) (Q := fun v h L => Fr n0 L ∧ n0 ≤ h.size ∧ Qz v h) C hZ wc wi hf hlo
  obtain ⟨v, _, ⟨T', L', k', j'⟩, -, Y', ⟨Lc, hQ, l1, l2, l3⟩, st⟩ := Y.specialBack hx (y := z) hz1 hown (mvT hZ wl) (mvT hZ wim) (mvT hZ wc) hz Ctr' (g := mkF m pc Ls S0) rfl (by rw [hml]; exact hsz) (Steps.refl _) (a := a) (argsL := argsL) (rest := S) (lenOf hpd hlen) hS (by show 2 * 0 + _ ≤ _; omega) (hb hby hd) (fun _ _ => ⟨rfl, eT, hk, hj⟩)
  dsimp only [Pt.U, Pt.locs, Pt.cells, Pt.slots] at Y' l1 l2 l3 st hQ
  subst l1 l2 l3
  obtain ⟨N', hn', hQ⟩ := hQ
  exact Wp.go (fun _ t => st.trans t) (q v T' _ ⟨hx, hZ, hby, hml, hret, hown, hnm, hlk, rfl, hn', hw, _, Fr.app N N', Y'⟩ hQ)
theorem w_new (X : Pos Z a0 n0 p l e R s m args below meth c code ml ret y T h k j) {i n : Nat} {C : String} (hd : Dec code pc (.new i) 3 nx) (w : (Jvm.Cond.classLink y.cls i C).before a0 Z = true) (wi : (Jvm.Cond.instantiable C n).before a0 Z = true) (wz : (Jvm.Cond.initialized C).before a0 Z = true) (hk : k + 1 ≤ R.cells) (hj : j + n ≤ R.slots)
    (q : ∀ T' h' a, Pos Z a0 n0 p l e R s m args below meth c code ml ret y T' h' (k + 1) (j + n) → a = h.size → n0 ≤ a → Ext h h' → Exa Z h' a C → (∀ {O nm d : String} {ty : FieldType}, Laid Z a0 C O nm d → parseFieldDescriptor d = some ty → Fld Z h' a O nm d (defaultValue ty)) → Wp n0 p e R s below Q T' (mkF m nx Ls (.ref a :: S))) : Wp n0 p e R s below Q T (mkF m pc Ls S) := by
  obtain ⟨hx, hZ, hby, hml, hret, hown, hnm, hlk, eT, hn0, hw, locs, N, Y⟩ := X
  obtain ⟨hd, rfl⟩ := hd
  obtain ⟨T', h', Y', e', E', A', D', -, st⟩ := newO Y hx hZ hown w wi wz eT (g := mkF m pc Ls S) rfl (hb hby hd) hk hj
  exact Wp.go st (q T' h' _ ⟨hx, hZ, hby, hml, hret, hown, hnm, hlk, e', Nat.le_trans hn0 E'.1, hw, _, N, Y'⟩ rfl hn0 E' A' D')
theorem w_getF (X : Pos Z a0 n0 p l e R s m args below meth c code ml ret y T h k j) {i : Nat} {O nm d : String} {a : Addr} {v : Value} (hd : Dec code pc (.getfield i) 3 nx) (w : (Jvm.Cond.fieldLink y.cls i O nm d).before a0 Z = true) (F : Fld Z h a O nm d v)
    (q : ∀ T', Pos Z a0 n0 p l e R s m args below meth c code ml ret y T' h k j → Wp n0 p e R s below Q T' (mkF m nx Ls (v :: S))) : Wp n0 p e R s below Q T (mkF m pc Ls (.ref a :: S)) := by
  obtain ⟨hx, hZ, hby, hml, hret, hown, hnm, hlk, eT, hn0, hw, locs, N, Y⟩ := X
  obtain ⟨hd, rfl⟩ := hd
  obtain ⟨T', Y', e', st⟩ := getF Y hx hZ hown (host := "") (Or.inl w) Via.refl eT F (g := mkF m pc Ls (.ref a :: S)) rfl rfl (hb hby hd)
  exact Wp.go st (q T' ⟨hx, hZ, hby, hml, hret, hown, hnm, hlk, e', hn0, hw, _, N, Y'⟩)
theorem w_putF (X : Pos Z a0 n0 p l e R s m args below meth c code ml ret y T h k j) {i kk : Nat} {C O nm d : String} {ty : FieldType} {a : Addr} {v old : Value} (hd : Dec code pc (.putfield i) 3 nx) (w : (Jvm.Cond.fieldLink y.cls i O nm d).before a0 Z = true) (F : Fld Z h a O nm d old) (E : Exa Z h a C) (hna : n0 ≤ a) (L : (Jvm.Cond.lays C O nm d).before a0 Z = true ∨ ((Jvm.Cond.laysFinal C O nm d).before a0 Z = true ∧ y.cls = O ∧ y.name = "<init>")) (wi : (Jvm.Cond.instantiable C kk).before a0 Z = true) (hty : parseFieldDescriptor d = some ty) (hn : narrow ty v = v) (hf : fits ty v = true)
    (q : ∀ T' h', Pos Z a0 n0 p l e R s m args below meth c code ml ret y T' h' k j → Wr h h' a (Jvm.RoadKit.slotOf Z O nm d) v → Wp n0 p e R s below Q T' (mkF m nx Ls S)) : Wp n0 p e R s below Q T (mkF m pc Ls (v :: .ref a :: S)) := by
  obtain ⟨hx, hZ, hby, hml, hret, hown, hnm, hlk, eT, hn0, hw, locs, N, Y⟩ := X
  obtain ⟨hd, rfl⟩ := hd
  obtain ⟨T', h', Y', e', W', st⟩ := putF Y hx hZ hown (host := "") (Or.inl w) Via.refl eT F E (L.imp id fun q => ⟨q.1, q.2.1, hnm.trans q.2.2⟩) wi hty hn hf (g := mkF m pc Ls (v :: .ref a :: S)) rfl rfl (hb hby hd)
  exact Wp.go st (q T' h' ⟨hx, hZ, hby, hml, hret, hown, hnm, hlk, e', by rw [W'.size]; exact hn0, hw, _, Fr.snoc Y' N hna, Y'⟩ W')
end OwnKit
theorem D0_0 : Dec code 0 (.iload 5) 2 2 := ⟨at_0, rfl⟩
theorem D0_2 : Dec code 2 (.iconst 1) 1 3 := ⟨at_2, rfl⟩
theorem D0_3 : Dec code 3 .iand 1 4 := ⟨at_3, rfl⟩
theorem D0_4 : Dec code 4 (.istore 6) 2 6 := ⟨at_4, rfl⟩
theorem D0_6 : Dec code 6 (.iload 6) 2 8 := ⟨at_6, rfl⟩
theorem D0_8 : Dec code 8 (.iconst 1) 1 9 := ⟨at_8, rfl⟩
theorem D0_9 : Dec code 9 .iadd 1 10 := ⟨at_9, rfl⟩
theorem D0_10 : Dec code 10 (.iload 5) 2 12 := ⟨at_10, rfl⟩
theorem D0_12 : Dec code 12 (.iconst 1) 1 13 := ⟨at_12, rfl⟩
theorem D0_13 : Dec code 13 .iushr 1 14 := ⟨at_13, rfl⟩
theorem D0_14 : Dec code 14 (.bipush 7) 2 16 := ⟨at_14, rfl⟩
theorem D0_16 : Dec code 16 .iand 1 17 := ⟨at_16, rfl⟩
theorem D0_17 : Dec code 17 .iadd 1 18 := ⟨at_17, rfl⟩
theorem D0_18 : Dec code 18 (.bipush 6) 2 20 := ⟨at_18, rfl⟩
theorem D0_20 : Dec code 20 (.invokestatic 7) 3 23 := ⟨at_20, rfl⟩
theorem D0_23 : Dec code 23 (.istore 7) 2 25 := ⟨at_23, rfl⟩
theorem D0_25 : Dec code 25 (.bipush 6) 2 27 := ⟨at_25, rfl⟩
theorem D0_27 : Dec code 27 (.newarray .byte) 2 29 := ⟨at_27, rfl⟩
theorem D0_29 : Dec code 29 (.astore 8) 2 31 := ⟨at_29, rfl⟩
theorem D0_31 : Dec code 31 (.aload 8) 2 33 := ⟨at_31, rfl⟩
theorem D0_33 : Dec code 33 (.iconst 0) 1 34 := ⟨at_33, rfl⟩
theorem D0_34 : Dec code 34 (.iload 4) 2 36 := ⟨at_34, rfl⟩
theorem D0_36 : Dec code 36 .i2b 1 37 := ⟨at_36, rfl⟩
theorem D0_37 : Dec code 37 .bastore 1 38 := ⟨at_37, rfl⟩
theorem D0_38 : Dec code 38 (.aload 8) 2 40 := ⟨at_38, rfl⟩
theorem D0_40 : Dec code 40 (.iconst 1) 1 41 := ⟨at_40, rfl⟩
theorem D0_41 : Dec code 41 (.iload 4) 2 43 := ⟨at_41, rfl⟩
theorem D0_43 : Dec code 43 .i2b 1 44 := ⟨at_43, rfl⟩
theorem D0_44 : Dec code 44 .bastore 1 45 := ⟨at_44, rfl⟩
theorem D0_45 : Dec code 45 (.aload 8) 2 47 := ⟨at_45, rfl⟩
theorem D0_47 : Dec code 47 (.iconst 2) 1 48 := ⟨at_47, rfl⟩
theorem D0_48 : Dec code 48 (.iload 4) 2 50 := ⟨at_48, rfl⟩
theorem D0_50 : Dec code 50 .i2b 1 51 := ⟨at_50, rfl⟩
theorem D0_51 : Dec code 51 .bastore 1 52 := ⟨at_51, rfl⟩
theorem D0_52 : Dec code 52 (.aload 8) 2 54 := ⟨at_52, rfl⟩
theorem D0_54 : Dec code 54 (.iconst 3) 1 55 := ⟨at_54, rfl⟩
theorem D0_55 : Dec code 55 (.iload 4) 2 57 := ⟨at_55, rfl⟩
theorem D0_57 : Dec code 57 .i2b 1 58 := ⟨at_57, rfl⟩
theorem D0_58 : Dec code 58 .bastore 1 59 := ⟨at_58, rfl⟩
theorem D0_59 : Dec code 59 (.aload 8) 2 61 := ⟨at_59, rfl⟩
theorem D0_61 : Dec code 61 (.iconst 4) 1 62 := ⟨at_61, rfl⟩
theorem D0_62 : Dec code 62 (.iload 4) 2 64 := ⟨at_62, rfl⟩
theorem D0_64 : Dec code 64 .i2b 1 65 := ⟨at_64, rfl⟩
theorem D0_65 : Dec code 65 .bastore 1 66 := ⟨at_65, rfl⟩
theorem D0_66 : Dec code 66 (.aload 8) 2 68 := ⟨at_66, rfl⟩
theorem D0_68 : Dec code 68 (.iconst 5) 1 69 := ⟨at_68, rfl⟩
theorem D0_69 : Dec code 69 (.iload 4) 2 71 := ⟨at_69, rfl⟩
theorem D0_71 : Dec code 71 .i2b 1 72 := ⟨at_71, rfl⟩
theorem D0_72 : Dec code 72 .bastore 1 73 := ⟨at_72, rfl⟩
theorem D0_73 : Dec code 73 (.aload 8) 2 75 := ⟨at_73, rfl⟩
theorem D0_75 : Dec code 75 (.iload 6) 2 77 := ⟨at_75, rfl⟩
theorem D0_77 : Dec code 77 (.iload_n 0) 1 78 := ⟨at_77, rfl⟩
theorem D0_78 : Dec code 78 .i2b 1 79 := ⟨at_78, rfl⟩
theorem D0_79 : Dec code 79 .bastore 1 80 := ⟨at_79, rfl⟩
theorem D0_80 : Dec code 80 (.aload 8) 2 82 := ⟨at_80, rfl⟩
theorem D0_82 : Dec code 82 (.iload 6) 2 84 := ⟨at_82, rfl⟩
theorem D0_84 : Dec code 84 (.iconst 1) 1 85 := ⟨at_84, rfl⟩
theorem D0_85 : Dec code 85 .iadd 1 86 := ⟨at_85, rfl⟩
theorem D0_86 : Dec code 86 (.iload_n 1) 1 87 := ⟨at_86, rfl⟩
theorem D0_87 : Dec code 87 .i2b 1 88 := ⟨at_87, rfl⟩
theorem D0_88 : Dec code 88 .bastore 1 89 := ⟨at_88, rfl⟩
theorem D0_89 : Dec code 89 (.aload 8) 2 91 := ⟨at_89, rfl⟩
theorem D0_91 : Dec code 91 (.iload 6) 2 93 := ⟨at_91, rfl⟩
theorem D0_93 : Dec code 93 (.iconst 2) 1 94 := ⟨at_93, rfl⟩
theorem D0_94 : Dec code 94 .iadd 1 95 := ⟨at_94, rfl⟩
theorem D0_95 : Dec code 95 (.iload_n 2) 1 96 := ⟨at_95, rfl⟩
theorem D0_96 : Dec code 96 .i2b 1 97 := ⟨at_96, rfl⟩
theorem D0_97 : Dec code 97 .bastore 1 98 := ⟨at_97, rfl⟩
theorem D0_98 : Dec code 98 (.aload 8) 2 100 := ⟨at_98, rfl⟩
theorem D0_100 : Dec code 100 (.iload 6) 2 102 := ⟨at_100, rfl⟩
theorem D0_102 : Dec code 102 (.iconst 3) 1 103 := ⟨at_102, rfl⟩
theorem D0_103 : Dec code 103 .iadd 1 104 := ⟨at_103, rfl⟩
theorem D0_104 : Dec code 104 (.iload_n 3) 1 105 := ⟨at_104, rfl⟩
theorem D0_105 : Dec code 105 .i2b 1 106 := ⟨at_105, rfl⟩
theorem D0_106 : Dec code 106 .bastore 1 107 := ⟨at_106, rfl⟩
theorem D0_107 : Dec code 107 (.iload_n 0) 1 108 := ⟨at_107, rfl⟩
theorem D0_108 : Dec code 108 (.sipush 255) 3 111 := ⟨at_108, rfl⟩
theorem D0_111 : Dec code 111 .iand 1 112 := ⟨at_111, rfl⟩
theorem D0_112 : Dec code 112 (.istore 9) 2 114 := ⟨at_112, rfl⟩
theorem D0_114 : Dec code 114 (.iload 9) 2 116 := ⟨at_114, rfl⟩
theorem D0_116 : Dec code 116 (.sipush 192) 3 119 := ⟨at_116, rfl⟩
theorem D0_119 : Jmp code 119 (.if_icmp .ge 13) 13 122 132 := ⟨at_119, rfl, by decide, by decide⟩
theorem D0_122 : Dec code 122 (.iconst 0) 1 123 := ⟨at_122, rfl⟩
theorem D0_123 : Dec code 123 (.istore 10) 2 125 := ⟨at_123, rfl⟩
theorem D0_125 : Dec code 125 (.iload 9) 2 127 := ⟨at_125, rfl⟩
theorem D0_127 : Dec code 127 (.istore 11) 2 129 := ⟨at_127, rfl⟩
theorem D0_129 : Jmp code 129 (.goto 57) 57 132 186 := ⟨at_129, rfl, by decide, by decide⟩
theorem D0_132 : Dec code 132 (.iload 9) 2 134 := ⟨at_132, rfl⟩
theorem D0_134 : Dec code 134 (.sipush 224) 3 137 := ⟨at_134, rfl⟩
theorem D0_137 : Jmp code 137 (.if_icmp .ge 17) 17 140 154 := ⟨at_137, rfl, by decide, by decide⟩
theorem D0_140 : Dec code 140 (.iconst 1) 1 141 := ⟨at_140, rfl⟩
theorem D0_141 : Dec code 141 (.istore 10) 2 143 := ⟨at_141, rfl⟩
theorem D0_143 : Dec code 143 (.iload 9) 2 145 := ⟨at_143, rfl⟩
theorem D0_145 : Dec code 145 (.sipush 192) 3 148 := ⟨at_145, rfl⟩
theorem D0_148 : Dec code 148 .isub 1 149 := ⟨at_148, rfl⟩
theorem D0_149 : Dec code 149 (.istore 11) 2 151 := ⟨at_149, rfl⟩
theorem D0_151 : Jmp code 151 (.goto 35) 35 154 186 := ⟨at_151, rfl, by decide, by decide⟩
theorem D0_154 : Dec code 154 (.iload 9) 2 156 := ⟨at_154, rfl⟩
theorem D0_156 : Dec code 156 (.sipush 240) 3 159 := ⟨at_156, rfl⟩
theorem D0_159 : Jmp code 159 (.if_icmp .ge 17) 17 162 176 := ⟨at_159, rfl, by decide, by decide⟩
theorem D0_162 : Dec code 162 (.iconst 2) 1 163 := ⟨at_162, rfl⟩
theorem D0_163 : Dec code 163 (.istore 10) 2 165 := ⟨at_163, rfl⟩
theorem D0_165 : Dec code 165 (.iload 9) 2 167 := ⟨at_165, rfl⟩
theorem D0_167 : Dec code 167 (.sipush 224) 3 170 := ⟨at_167, rfl⟩
theorem D0_170 : Dec code 170 .isub 1 171 := ⟨at_170, rfl⟩
theorem D0_171 : Dec code 171 (.istore 11) 2 173 := ⟨at_171, rfl⟩
theorem D0_173 : Jmp code 173 (.goto 13) 13 176 186 := ⟨at_173, rfl, by decide, by decide⟩
theorem D0_176 : Dec code 176 (.iconst 3) 1 177 := ⟨at_176, rfl⟩
theorem D0_177 : Dec code 177 (.istore 10) 2 179 := ⟨at_177, rfl⟩
theorem D0_179 : Dec code 179 (.iload 9) 2 181 := ⟨at_179, rfl⟩
theorem D0_181 : Dec code 181 (.bipush 7) 2 183 := ⟨at_181, rfl⟩
theorem D0_183 : Dec code 183 .iand 1 184 := ⟨at_183, rfl⟩
theorem D0_184 : Dec code 184 (.istore 11) 2 186 := ⟨at_184, rfl⟩
theorem D0_186 : Dec code 186 (.iload 10) 2 188 := ⟨at_186, rfl⟩
theorem D0_188 : Dec code 188 (.iload 7) 2 190 := ⟨at_188, rfl⟩
theorem D0_190 : Dec code 190 (.iload 6) 2 192 := ⟨at_190, rfl⟩
theorem D0_192 : Dec code 192 .isub 1 193 := ⟨at_192, rfl⟩
theorem D0_193 : Dec code 193 (.iconst 1) 1 194 := ⟨at_193, rfl⟩
theorem D0_194 : Dec code 194 .isub 1 195 := ⟨at_194, rfl⟩
theorem D0_195 : Dec code 195 (.invokestatic 7) 3 198 := ⟨at_195, rfl⟩
theorem D0_198 : Dec code 198 (.istore 12) 2 200 := ⟨at_198, rfl⟩
theorem D0_200 : Dec code 200 (.iload_n 1) 1 201 := ⟨at_200, rfl⟩
theorem D0_201 : Dec code 201 (.bipush 63) 2 203 := ⟨at_201, rfl⟩
theorem D0_203 : Dec code 203 .iand 1 204 := ⟨at_203, rfl⟩
theorem D0_204 : Dec code 204 (.istore 13) 2 206 := ⟨at_204, rfl⟩
theorem D0_206 : Dec code 206 (.iload_n 2) 1 207 := ⟨at_206, rfl⟩
theorem D0_207 : Dec code 207 (.bipush 63) 2 209 := ⟨at_207, rfl⟩
theorem D0_209 : Dec code 209 .iand 1 210 := ⟨at_209, rfl⟩
theorem D0_210 : Dec code 210 (.istore 14) 2 212 := ⟨at_210, rfl⟩
theorem D0_212 : Dec code 212 (.iload_n 3) 1 213 := ⟨at_212, rfl⟩
theorem D0_213 : Dec code 213 (.bipush 63) 2 215 := ⟨at_213, rfl⟩
theorem D0_215 : Dec code 215 .iand 1 216 := ⟨at_215, rfl⟩
theorem D0_216 : Dec code 216 (.istore 15) 2 218 := ⟨at_216, rfl⟩
theorem D0_218 : Dec code 218 (.iload 12) 2 220 := ⟨at_218, rfl⟩
theorem D0_220 : Jmp code 220 (.ifCond .ne 10) 10 223 230 := ⟨at_220, rfl, by decide, by decide⟩
theorem D0_223 : Dec code 223 (.iload 11) 2 225 := ⟨at_223, rfl⟩
theorem D0_225 : Dec code 225 (.istore 16) 2 227 := ⟨at_225, rfl⟩
theorem D0_227 : Jmp code 227 (.goto 71) 71 230 298 := ⟨at_227, rfl, by decide, by decide⟩
theorem D0_230 : Dec code 230 (.iload 12) 2 232 := ⟨at_230, rfl⟩
theorem D0_232 : Dec code 232 (.iconst 1) 1 233 := ⟨at_232, rfl⟩
theorem D0_233 : Jmp code 233 (.if_icmp .ne 16) 16 236 249 := ⟨at_233, rfl, by decide, by decide⟩
theorem D0_236 : Dec code 236 (.iload 11) 2 238 := ⟨at_236, rfl⟩
theorem D0_238 : Dec code 238 (.bipush 64) 2 240 := ⟨at_238, rfl⟩
theorem D0_240 : Dec code 240 .imul 1 241 := ⟨at_240, rfl⟩
theorem D0_241 : Dec code 241 (.iload 13) 2 243 := ⟨at_241, rfl⟩
theorem D0_243 : Dec code 243 .iadd 1 244 := ⟨at_243, rfl⟩
theorem D0_244 : Dec code 244 (.istore 16) 2 246 := ⟨at_244, rfl⟩
theorem D0_246 : Jmp code 246 (.goto 52) 52 249 298 := ⟨at_246, rfl, by decide, by decide⟩
theorem D0_249 : Dec code 249 (.iload 12) 2 251 := ⟨at_249, rfl⟩
theorem D0_251 : Dec code 251 (.iconst 2) 1 252 := ⟨at_251, rfl⟩
theorem D0_252 : Jmp code 252 (.if_icmp .ne 23) 23 255 275 := ⟨at_252, rfl, by decide, by decide⟩
theorem D0_255 : Dec code 255 (.iload 11) 2 257 := ⟨at_255, rfl⟩
theorem D0_257 : Dec code 257 (.sipush 4096) 3 260 := ⟨at_257, rfl⟩
theorem D0_260 : Dec code 260 .imul 1 261 := ⟨at_260, rfl⟩
theorem D0_261 : Dec code 261 (.iload 13) 2 263 := ⟨at_261, rfl⟩
theorem D0_263 : Dec code 263 (.bipush 64) 2 265 := ⟨at_263, rfl⟩
theorem D0_265 : Dec code 265 .imul 1 266 := ⟨at_265, rfl⟩
theorem D0_266 : Dec code 266 .iadd 1 267 := ⟨at_266, rfl⟩
theorem D0_267 : Dec code 267 (.iload 14) 2 269 := ⟨at_267, rfl⟩
theorem D0_269 : Dec code 269 .iadd 1 270 := ⟨at_269, rfl⟩
theorem D0_270 : Dec code 270 (.istore 16) 2 272 := ⟨at_270, rfl⟩
theorem D0_272 : Jmp code 272 (.goto 26) 26 275 298 := ⟨at_272, rfl, by decide, by decide⟩
theorem D0_275 : Dec code 275 (.iload 11) 2 277 := ⟨at_275, rfl⟩
theorem D0_277 : Dec code 277 (.ldc 13) 2 279 := ⟨at_277, rfl⟩
theorem D0_279 : Dec code 279 .imul 1 280 := ⟨at_279, rfl⟩
theorem D0_280 : Dec code 280 (.iload 13) 2 282 := ⟨at_280, rfl⟩
theorem D0_282 : Dec code 282 (.sipush 4096) 3 285 := ⟨at_282, rfl⟩
theorem D0_285 : Dec code 285 .imul 1 286 := ⟨at_285, rfl⟩
theorem D0_286 : Dec code 286 .iadd 1 287 := ⟨at_286, rfl⟩
theorem D0_287 : Dec code 287 (.iload 14) 2 289 := ⟨at_287, rfl⟩
theorem D0_289 : Dec code 289 (.bipush 64) 2 291 := ⟨at_289, rfl⟩
theorem D0_291 : Dec code 291 .imul 1 292 := ⟨at_291, rfl⟩
theorem D0_292 : Dec code 292 .iadd 1 293 := ⟨at_292, rfl⟩
theorem D0_293 : Dec code 293 (.iload 15) 2 295 := ⟨at_293, rfl⟩
theorem D0_295 : Dec code 295 .iadd 1 296 := ⟨at_295, rfl⟩
theorem D0_296 : Dec code 296 (.istore 16) 2 298 := ⟨at_296, rfl⟩
theorem D0_298 : Dec code 298 (.aload 8) 2 300 := ⟨at_298, rfl⟩
theorem D0_300 : Dec code 300 (.iload 6) 2 302 := ⟨at_300, rfl⟩
theorem D0_302 : Dec code 302 (.iload 7) 2 304 := ⟨at_302, rfl⟩
theorem D0_304 : Dec code 304 (.invokestatic 14) 3 307 := ⟨at_304, rfl⟩
theorem D0_307 : Dec code 307 (.iload 16) 2 309 := ⟨at_307, rfl⟩
theorem D0_309 : Jmp code 309 (.if_icmp .ne 7) 7 312 316 := ⟨at_309, rfl, by decide, by decide⟩
theorem D0_312 : Dec code 312 (.iconst 1) 1 313 := ⟨at_312, rfl⟩
theorem D0_313 : Jmp code 313 (.goto 4) 4 316 317 := ⟨at_313, rfl, by decide, by decide⟩
theorem D0_317 : Dec code 317 .ireturn 1 318 := ⟨at_317, rfl⟩
theorem D1_0 : Dec jdk_29_method_69_code 0 (.iload_n 0) 1 1 := ⟨by decide +kernel, rfl⟩
theorem D1_1 : Dec jdk_29_method_69_code 1 (.iload_n 1) 1 2 := ⟨by decide +kernel, rfl⟩
theorem D1_2 : Jmp jdk_29_method_69_code 2 (.if_icmp .gt 7) 7 5 9 := ⟨by decide +kernel, rfl, by decide, by decide⟩
theorem D1_5 : Dec jdk_29_method_69_code 5 (.iload_n 0) 1 6 := ⟨by decide +kernel, rfl⟩
theorem D1_6 : Jmp jdk_29_method_69_code 6 (.goto 4) 4 9 10 := ⟨by decide +kernel, rfl, by decide, by decide⟩
theorem D1_9 : Dec jdk_29_method_69_code 9 (.iload_n 1) 1 10 := ⟨by decide +kernel, rfl⟩
theorem D1_10 : Dec jdk_29_method_69_code 10 .ireturn 1 11 := ⟨by decide +kernel, rfl⟩
theorem D2_0 : Dec prog_210_method_4_code 0 (.aload_n 0) 1 1 := ⟨by decide +kernel, rfl⟩
theorem D2_1 : Dec prog_210_method_4_code 1 (.iload_n 1) 1 2 := ⟨by decide +kernel, rfl⟩
theorem D2_2 : Dec prog_210_method_4_code 2 .baload 1 3 := ⟨by decide +kernel, rfl⟩
theorem D2_3 : Dec prog_210_method_4_code 3 (.sipush 255) 3 6 := ⟨by decide +kernel, rfl⟩
theorem D2_6 : Dec prog_210_method_4_code 6 .iand 1 7 := ⟨by decide +kernel, rfl⟩
theorem D2_7 : Dec prog_210_method_4_code 7 (.istore_n 3) 1 8 := ⟨by decide +kernel, rfl⟩
theorem D2_8 : Dec prog_210_method_4_code 8 (.iload_n 3) 1 9 := ⟨by decide +kernel, rfl⟩
theorem D2_9 : Dec prog_210_method_4_code 9 (.sipush 192) 3 12 := ⟨by decide +kernel, rfl⟩
theorem D2_12 : Jmp prog_210_method_4_code 12 (.if_icmp .ge 12) 12 15 24 := ⟨by decide +kernel, rfl, by decide, by decide⟩
theorem D2_15 : Dec prog_210_method_4_code 15 (.iconst 0) 1 16 := ⟨by decide +kernel, rfl⟩
theorem D2_16 : Dec prog_210_method_4_code 16 (.istore 4) 2 18 := ⟨by decide +kernel, rfl⟩
theorem D2_18 : Dec prog_210_method_4_code 18 (.iload_n 3) 1 19 := ⟨by decide +kernel, rfl⟩
theorem D2_19 : Dec prog_210_method_4_code 19 (.istore 5) 2 21 := ⟨by decide +kernel, rfl⟩
theorem D2_21 : Jmp prog_210_method_4_code 21 (.goto 50) 50 24 71 := ⟨by decide +kernel, rfl, by decide, by decide⟩
theorem D2_24 : Dec prog_210_method_4_code 24 (.iload_n 3) 1 25 := ⟨by decide +kernel, rfl⟩
theorem D2_25 : Dec prog_210_method_4_code 25 (.sipush 224) 3 28 := ⟨by decide +kernel, rfl⟩
theorem D2_28 : Jmp prog_210_method_4_code 28 (.if_icmp .ge 15) 15 31 43 := ⟨by decide +kernel, rfl, by decide, by decide⟩
theorem D2_31 : Dec prog_210_method_4_code 31 (.iconst 1) 1 32 := ⟨by decide +kernel, rfl⟩
theorem D2_32 : Dec prog_210_method_4_code 32 (.istore 4) 2 34 := ⟨by decide +kernel, rfl⟩
theorem D2_34 : Dec prog_210_method_4_code 34 (.iload_n 3) 1 35 := ⟨by decide +kernel, rfl⟩
theorem D2_35 : Dec prog_210_method_4_code 35 (.bipush 31) 2 37 := ⟨by decide +kernel, rfl⟩
theorem D2_37 : Dec prog_210_method_4_code 37 .iand 1 38 := ⟨by decide +kernel, rfl⟩
theorem D2_38 : Dec prog_210_method_4_code 38 (.istore 5) 2 40 := ⟨by decide +kernel, rfl⟩
theorem D2_40 : Jmp prog_210_method_4_code 40 (.goto 31) 31 43 71 := ⟨by decide +kernel, rfl, by decide, by decide⟩
theorem D2_43 : Dec prog_210_method_4_code 43 (.iload_n 3) 1 44 := ⟨by decide +kernel, rfl⟩
theorem D2_44 : Dec prog_210_method_4_code 44 (.sipush 240) 3 47 := ⟨by decide +kernel, rfl⟩
theorem D2_47 : Jmp prog_210_method_4_code 47 (.if_icmp .ge 15) 15 50 62 := ⟨by decide +kernel, rfl, by decide, by decide⟩
theorem D2_50 : Dec prog_210_method_4_code 50 (.iconst 2) 1 51 := ⟨by decide +kernel, rfl⟩
theorem D2_51 : Dec prog_210_method_4_code 51 (.istore 4) 2 53 := ⟨by decide +kernel, rfl⟩
theorem D2_53 : Dec prog_210_method_4_code 53 (.iload_n 3) 1 54 := ⟨by decide +kernel, rfl⟩
theorem D2_54 : Dec prog_210_method_4_code 54 (.bipush 15) 2 56 := ⟨by decide +kernel, rfl⟩
theorem D2_56 : Dec prog_210_method_4_code 56 .iand 1 57 := ⟨by decide +kernel, rfl⟩
theorem D2_57 : Dec prog_210_method_4_code 57 (.istore 5) 2 59 := ⟨by decide +kernel, rfl⟩
theorem D2_59 : Jmp prog_210_method_4_code 59 (.goto 12) 12 62 71 := ⟨by decide +kernel, rfl, by decide, by decide⟩
theorem D2_62 : Dec prog_210_method_4_code 62 (.iconst 3) 1 63 := ⟨by decide +kernel, rfl⟩
theorem D2_63 : Dec prog_210_method_4_code 63 (.istore 4) 2 65 := ⟨by decide +kernel, rfl⟩
theorem D2_65 : Dec prog_210_method_4_code 65 (.iload_n 3) 1 66 := ⟨by decide +kernel, rfl⟩
theorem D2_66 : Dec prog_210_method_4_code 66 (.bipush 7) 2 68 := ⟨by decide +kernel, rfl⟩
theorem D2_68 : Dec prog_210_method_4_code 68 .iand 1 69 := ⟨by decide +kernel, rfl⟩
theorem D2_69 : Dec prog_210_method_4_code 69 (.istore 5) 2 71 := ⟨by decide +kernel, rfl⟩
theorem D2_71 : Dec prog_210_method_4_code 71 (.iload_n 1) 1 72 := ⟨by decide +kernel, rfl⟩
theorem D2_72 : Dec prog_210_method_4_code 72 (.iconst 1) 1 73 := ⟨by decide +kernel, rfl⟩
theorem D2_73 : Dec prog_210_method_4_code 73 .iadd 1 74 := ⟨by decide +kernel, rfl⟩
theorem D2_74 : Dec prog_210_method_4_code 74 (.istore 6) 2 76 := ⟨by decide +kernel, rfl⟩
theorem D2_76 : Dec prog_210_method_4_code 76 (.iload 6) 2 78 := ⟨by decide +kernel, rfl⟩
theorem D2_78 : Dec prog_210_method_4_code 78 (.iload_n 1) 1 79 := ⟨by decide +kernel, rfl⟩
theorem D2_79 : Dec prog_210_method_4_code 79 (.iload 4) 2 81 := ⟨by decide +kernel, rfl⟩
theorem D2_81 : Dec prog_210_method_4_code 81 .iadd 1 82 := ⟨by decide +kernel, rfl⟩
theorem D2_82 : Jmp prog_210_method_4_code 82 (.if_icmp .gt 30) 30 85 112 := ⟨by decide +kernel, rfl, by decide, by decide⟩
theorem D2_85 : Dec prog_210_method_4_code 85 (.iload 6) 2 87 := ⟨by decide +kernel, rfl⟩
theorem D2_87 : Dec prog_210_method_4_code 87 (.iload_n 2) 1 88 := ⟨by decide +kernel, rfl⟩
theorem D2_88 : Jmp prog_210_method_4_code 88 (.if_icmp .ge 24) 24 91 112 := ⟨by decide +kernel, rfl, by decide, by decide⟩
theorem D2_91 : Dec prog_210_method_4_code 91 (.iload 5) 2 93 := ⟨by decide +kernel, rfl⟩
theorem D2_93 : Dec prog_210_method_4_code 93 (.bipush 6) 2 95 := ⟨by decide +kernel, rfl⟩
theorem D2_95 : Dec prog_210_method_4_code 95 .ishl 1 96 := ⟨by decide +kernel, rfl⟩
theorem D2_96 : Dec prog_210_method_4_code 96 (.aload_n 0) 1 97 := ⟨by decide +kernel, rfl⟩
theorem D2_97 : Dec prog_210_method_4_code 97 (.iload 6) 2 99 := ⟨by decide +kernel, rfl⟩
theorem D2_99 : Dec prog_210_method_4_code 99 .baload 1 100 := ⟨by decide +kernel, rfl⟩
theorem D2_100 : Dec prog_210_method_4_code 100 (.bipush 63) 2 102 := ⟨by decide +kernel, rfl⟩
theorem D2_102 : Dec prog_210_method_4_code 102 .iand 1 103 := ⟨by decide +kernel, rfl⟩
theorem D2_103 : Dec prog_210_method_4_code 103 .ior 1 104 := ⟨by decide +kernel, rfl⟩
theorem D2_104 : Dec prog_210_method_4_code 104 (.istore 5) 2 106 := ⟨by decide +kernel, rfl⟩
theorem D2_106 : Dec prog_210_method_4_code 106 (.iinc 6 1) 3 109 := ⟨by decide +kernel, rfl⟩
theorem D2_109 : Jmp prog_210_method_4_code 109 (.goto (-33)) (-33) 112 76 := ⟨by decide +kernel, rfl, by decide, by decide⟩
theorem D2_112 : Dec prog_210_method_4_code 112 (.iload 5) 2 114 := ⟨by decide +kernel, rfl⟩
theorem D2_114 : Dec prog_210_method_4_code 114 .ireturn 1 115 := ⟨by decide +kernel, rfl⟩
theorem pd_0 : parseMethodDescriptor "(II)I" = some ⟨[.int, .int], some .int⟩ := by decide +kernel
theorem pd_1 : parseMethodDescriptor "([BII)I" = some ⟨[(.array .byte), .int, .int], some .int⟩ := by decide +kernel
section OwnNums
theorem n_bv (a : Nat) : (Int32.ofNat a).toBitVec = BitVec.ofNat 32 a := rfl
theorem eq_mod {x y : Int32} (h : (x.toInt - y.toInt) % 4294967296 = 0) : x = y := Int32.toInt_inj.mp (by have := rng32 x; have := rng32 y; omega)
theorem eq_modL {x y : Int64} (h : (x.toInt - y.toInt) % 18446744073709551616 = 0) : x = y := Int64.toInt_inj.mp (by have := rng64 x; have := rng64 y; omega)
theorem n_add (a b : Nat) : Int32.ofNat a + Int32.ofNat b = Int32.ofNat (a + b) := (Int32.ofNat_add a b).symm
theorem n_mul (a b : Nat) : Int32.ofNat a * Int32.ofNat b = Int32.ofNat (a * b) := (Int32.ofNat_mul a b).symm
theorem n_sub {a b : Nat} (h : b ≤ a) : Int32.ofNat a - Int32.ofNat b = Int32.ofNat (a - b) := by
  have := n_add (a - b) b
  rw [Nat.sub_add_cancel h] at this
  rw [← this, Int32.add_sub_cancel]
theorem n_and (a b : Nat) : Int32.ofNat a &&& Int32.ofNat b = Int32.ofNat (a &&& b) := by
  apply Int32.toBitVec_inj.mp
  rw [Int32.toBitVec_and, n_bv, n_bv, n_bv]
  exact BitVec.ofNat_and.symm
theorem n_or (a b : Nat) : Int32.ofNat a ||| Int32.ofNat b = Int32.ofNat (a ||| b) := by
  apply Int32.toBitVec_inj.mp
  rw [Int32.toBitVec_or, n_bv, n_bv, n_bv]
  exact BitVec.ofNat_or.symm
theorem n_q {k : Nat} (hk : k < 32) : (Int32.ofNat k).toBitVec.toNat % 32 = k := by
  rw [n_bv, BitVec.toNat_ofNat]; omega
theorem n_q64 {k : Nat} (hk : k < 64) : (Int32.ofNat k).toBitVec.toNat % 64 = k := by
  rw [n_bv, BitVec.toNat_ofNat]; omega
theorem toInt_mod (a : Nat) : ((Int32.ofNat a).toInt - a) % 4294967296 = 0 := by
  have h := bm32 (((BitVec.ofNat 32 a).toNat : Nat) : Int)
  rw [show (Int32.ofNat a).toInt = (BitVec.ofNat 32 a).toInt from rfl, BitVec.toInt_eq_toNat_bmod]
  rw [BitVec.toNat_ofNat] at *
  generalize Int.bmod ((a % 2 ^ 32 : Nat) : Int) (2 ^ 32) = w1 at *
  omega
theorem n_inj {a b : Nat} (ha : a < 2147483648) (hb : b < 2147483648) : Int32.ofNat a = Int32.ofNat b ↔ a = b := ⟨fun h => by have := congrArg Int32.toInt h; rw [ofNat_toInt ha, ofNat_toInt hb] at this; omega, fun h => by rw [h]⟩
theorem n_shl (a : Nat) {k : Nat} (hk : k < 32) : jshl (Int32.ofNat a) (Int32.ofNat k) = Int32.ofNat (a * 2 ^ k) := by
  apply eq_mod
  have h1 : ((jshl (Int32.ofNat a) (Int32.ofNat k)).toInt - (Int32.ofNat a).toInt * ((2 ^ k : Nat) : Int)) % 4294967296 = 0 := c_ishl (Int32.ofNat a) (Int32.ofNat k) k (n_q hk)
  generalize (jshl (Int32.ofNat a) (Int32.ofNat k)).toInt = w1 at *
  have h2 := toInt_mod (a * 2 ^ k)
  have h3 := toInt_mod a
  obtain ⟨q, hq⟩ := Int.dvd_of_emod_eq_zero h3
  have h4 : (Int32.ofNat a).toInt * ((2 ^ k : Nat) : Int) - ((a * 2 ^ k : Nat) : Int) = 4294967296 * (q * ((2 ^ k : Nat) : Int)) := by
    rw [Int.natCast_mul, ← Int.sub_mul, hq, Int.mul_assoc]
  omega
theorem n_ushr0 (x : Int32) : jushr x 0 = x := by
  apply Int32.toBitVec_inj.mp
  simp [jushr]
theorem n_ushr {a k : Nat} (ha : a < 2147483648) (hk : k < 32) : jushr (Int32.ofNat a) (Int32.ofNat k) = Int32.ofNat (a / 2 ^ k) := by
  rcases Nat.eq_zero_or_pos k with rfl | h0
  · rw [Nat.pow_zero, Nat.div_one]; exact n_ushr0 _
  · have hd : a / 2 ^ k ≤ a := Nat.div_le_self _ _
    refine eq_ofNat (by omega) ?_
    rw [c_iushr (Int32.ofNat a) (Int32.ofNat k) k (n_q hk) h0, ofNat_toInt ha, show ((a : Int) % 4294967296) = a by omega]
    exact (Int.natCast_ediv _ _).symm
theorem n_shr {a k : Nat} (ha : a < 2147483648) (hk : k < 32) : jshr (Int32.ofNat a) (Int32.ofNat k) = Int32.ofNat (a / 2 ^ k) := by
  have hd : a / 2 ^ k ≤ a := Nat.div_le_self _ _
  refine eq_ofNat (by omega) ?_
  rw [c_ishr (Int32.ofNat a) (Int32.ofNat k) k (n_q hk), ofNat_toInt ha]
  exact (Int.natCast_ediv _ _).symm
theorem n_low (a k : Nat) : Int32.ofNat a &&& Int32.ofNat (2 ^ k - 1) = Int32.ofNat (a % 2 ^ k) := by rw [n_and, Nat.and_two_pow_sub_one_eq_mod]
theorem n_orlow (a : Nat) {i t : Nat} (ht : t < 2 ^ i) : Int32.ofNat (2 ^ i * a) ||| Int32.ofNat t = Int32.ofNat (2 ^ i * a + t) := by rw [n_or, Nat.two_pow_add_eq_or_of_lt ht]
theorem n_rem {a k : Nat} (ha : a < 2147483648) (h1 : 0 < k) (hk : k < 2147483648) : Int32.ofNat a % Int32.ofNat k = Int32.ofNat (a % k) := by
  have hm := Nat.mod_lt a h1
  refine eq_ofNat (by omega) ?_
  rw [(c_irem (Int32.ofNat a) (Int32.ofNat k) k (ofNat_toInt hk)).1 (by rw [ofNat_toInt ha]; omega), ofNat_toInt ha]
  exact (Int.natCast_emod _ _).symm
theorem n_nn (x : Int32) (h : 0 ≤ x.toInt) : ∃ u : Nat, u < 2147483648 ∧ x = Int32.ofNat u := by
  have := rng32 x
  exact ⟨x.toInt.toNat, by omega, eq_ofNat (by omega) (by omega)⟩
theorem n_mask31 (x : Int32) : ∃ u : Nat, u < 2147483648 ∧ x &&& 2147483647 = Int32.ofNat u := n_nn _ (c_and x 2147483647 (by decide)).1
theorem n_mask (x : Int32) (k : Nat) (hk : k ≤ 31) {m : Int32} (hm : m.toBitVec.toNat = 2 ^ k - 1) : x &&& m = Int32.ofNat ((x.toInt % (2 ^ k : Nat)).toNat) := by
  have h1 : (0 : Int) < ((2 ^ k : Nat) : Int) := by
    have := Nat.two_pow_pos k
    omega
  have h2 : ((2 ^ k : Nat) : Int) ≤ 2147483648 := by
    have : 2 ^ k ≤ 2147483648 := Nat.pow_le_pow_right (n := 2) (by decide) hk
    omega
  have h3 := Int.emod_nonneg x.toInt (Int.ne_of_gt h1)
  have h4 := Int.emod_lt_of_pos x.toInt h1
  exact eq_ofNat (by omega) (by rw [c_mask x m k hk hm]; omega)
theorem jbyte_idem (x : Int32) : jbyte (jbyte x) = jbyte x := by
  have h1 := c_i2b x
  have h2 := c_i2b (jbyte x)
  exact Int32.toInt_inj.mp (by simp only [jbyte] at *; omega)
theorem jbyte_and (x : Int32) (k : Nat) (hk : k ≤ 8) {m : Int32} (hm : m.toBitVec.toNat = 2 ^ k - 1) : jbyte x &&& m = x &&& m := by
  have h1 := (c_i2b x).1
  apply Int32.toInt_inj.mp
  rw [c_mask _ m k (by omega) hm, c_mask _ m k (by omega) hm]
  have : ∃ c : Nat, 256 = 2 ^ k * c := ⟨2 ^ (8 - k), by rw [← Nat.pow_add, show k + (8 - k) = 8 by omega]⟩
  obtain ⟨c, hc⟩ := this
  obtain ⟨q, hq⟩ := Int.dvd_of_emod_eq_zero h1
  have h2 : (jbyte x).toInt = x.toInt + ((2 ^ k : Nat) : Int) * ((c : Int) * q) := by
    have h3 : (256 : Int) = ((2 ^ k : Nat) : Int) * (c : Int) := by rw [← Int.natCast_mul, ← hc]; rfl
    rw [h3, Int.mul_assoc] at hq
    simp only [jbyte]; omega
  rw [h2, Int.add_mul_emod_self_left]
end OwnNums

def mo (l : Nat) : Nat := if l < 192 then 0 else if l < 224 then 1 else if l < 240 then 2 else 3
def hd (l : Nat) : Nat := if l < 192 then l else if l < 224 then l % 32 else if l < 240 then l % 16 else l % 8
/-- the low six bits -/
def d6 (x : Int32) : Nat := (x.toInt % (2 ^ 6 : Nat)).toNat
theorem and63 (x : Int32) : x &&& 63 = Int32.ofNat (d6 x) := n_mask x 6 (by decide) (m := 63) (by decide)
theorem d6_lt (x : Int32) : d6 x < 2 ^ 6 := by unfold d6; omega
theorem d6_byte (x : Int32) : d6 (jbyte (jbyte x)) = d6 x := by
  have h1 := and63 (jbyte (jbyte x))
  rw [jbyte_idem, jbyte_and x 6 (by decide) (by decide), and63 x] at h1
  have h2 := d6_lt (jbyte (jbyte x)); have h3 := d6_lt x
  exact ((n_inj (by omega) (by omega)).mp (by rw [jbyte_idem] at h2 ⊢; exact h1)).symm
/-- k turns of the loop from place i on -/
def cl (g : Nat → Int32) : Nat → Nat → Nat → Nat
  | 0, c, _ => c
  | k + 1, c, i => cl g k (64 * c + d6 (g i)) (i + 1)
theorem own_turn (c : Nat) (x : Int32) : jshl (Int32.ofNat c) 6 ||| (x &&& 63) = Int32.ofNat (64 * c + d6 x) := by
  rw [show jshl (Int32.ofNat c) 6 = Int32.ofNat (c * 2 ^ 6) from n_shl c (k := 6) (by decide), and63, Nat.mul_comm, n_orlow _ (d6_lt x)]
theorem mo_le (l : Nat) : mo l ≤ 3 := by
  unfold mo
  repeat' split
  all_goals omega
theorem own_255 (x : Int32) : ∃ l : Nat, l < 256 ∧ x &&& 255 = Int32.ofNat l := ⟨_, by omega, n_mask x 8 (by decide) (m := 255) (by decide)⟩
theorem own_pos (x : Int32) : ∃ P : Nat, P < 2 ∧ x &&& 1 = Int32.ofNat P := ⟨_, by omega, n_mask x 1 (by decide) (m := 1) (by decide)⟩
theorem own_7 (x : Int32) : ∃ s : Nat, s < 8 ∧ x &&& 7 = Int32.ofNat s := ⟨_, by omega, n_mask x 3 (by decide) (m := 7) (by decide)⟩
theorem ef_1 (m : MethodId) (x1 : Int32) (x2 : Int32) : entryFrame m #[(.int x1), (.int x2)] 2 = mkF m 0 #[.val (.int x1), .val (.int x2)] [] := by first | (simp [entryFrame, mkF, argsToLocals, Value.category]; done) | rfl
set_option maxRecDepth 65536 in
set_option maxHeartbeats 40000000 in
theorem rm1 {l : Launch} {Z : State} {a0 : Array Value} {n0 : Nat} {h : Heap} (hw : ∀ d ∈ tables_1, d.before a0 Z = true) (hn : n0 ≤ h.size) (x1 : Int32) (x2 : Int32) (u1 u2 : Nat) (h1 : u1 < 2147483648) (h2 : u2 < 2147483648) (e1 : x1 = Int32.ofNat u1) (e2 : x2 = Int32.ofNat u2) :
    Ctr l Z n0 (⟨"java/lang/Math", "min", "(II)I"⟩ : MethodName) jdk_29_method_69_code 2 (some .int) ({ frames := 0, cells := 0, slots := 0, locals := 0 } : Room) [] #[(.int x1), (.int x2)] h (fun v h' => v = some (.int (Int32.ofNat (min u1 u2))) ∧ h = h') := by
  refine ctr_of (Jvm.Free.JP.mathPlain rfl (by decide +kernel)) hw hn ?_
  intro p e s m below meth c T X
  refine Wp.cast (ef_1 m x1 x2) ?_
  subst e1 e2
  refine w_iloadN X D1_0 rfl ?_
  refine w_iloadN X D1_1 rfl ?_
  refine w_icmpgt X D1_2 (fun hc2 => ?_) (fun hc2 => ?_)
  · refine w_iloadN X D1_9 rfl ?_
    exact w_ireturn X D1_10 (by decide) (by decide) (⟨by
            have f := (ofNat_lt h2 h1).mp hc2
            rw [Nat.min_eq_right (by omega)], rfl⟩)
  · refine w_iloadN X D1_5 rfl ?_
    refine w_goto X D1_6 ?_
    exact w_ireturn X D1_10 (by decide) (by decide) (⟨by
            have f : ¬ u2 < u1 := fun z => hc2 ((ofNat_lt h2 h1).mpr z)
            rw [Nat.min_eq_left (by omega)], rfl⟩)
set_option maxRecDepth 65536 in
set_option maxHeartbeats 40000000 in
theorem loop2 {Z : State} {a0 : Array Value} {n0 : Nat} {p : Program} {l : Launch} {e : Env} {R : Room} {s : State} {m : MethodId} {args : Array Value} {below : List Frame} {meth : Method} {c : Code} {T : State} {h : Heap} {k j : Nat} {Q : Option Value → Heap → Prop} (X : Pos Z a0 n0 p l e R s m args below meth c prog_210_method_4_code 7 (some .int) (⟨"nestrel/json/text/Utf8", "codePointAt", "([BII)I"⟩ : MethodName) T h k j) (a : Addr) (P M q : Nat) (ld : Int32) (g : Nat → Int32) (hP : P < 2) (hM : M ≤ 6) (hq : q ≤ 3) (B : Ba Z n0 h a .byte 6 (bI g)) : ∀ (k c1 i : Nat), i + k = P + 1 + min q (M - P - 1) → P + 1 ≤ i → P + 1 ≤ M →
    (∀ i', Wp n0 p e R s below Q T (mkF m 112 #[.val (.ref a), .val (.int (Int32.ofNat P)), .val (.int (Int32.ofNat M)), .val (.int ld), .val (.int (Int32.ofNat q)), .val (.int (Int32.ofNat (cl g k c1 i))), .val (.int i')] [])) → Wp n0 p e R s below Q T (mkF m 76 #[.val (.ref a), .val (.int (Int32.ofNat P)), .val (.int (Int32.ofNat M)), .val (.int ld), .val (.int (Int32.ofNat q)), .val (.int (Int32.ofNat c1)), .val (.int (Int32.ofNat i))] []) := by
  intro k
  induction k with
  | zero =>
    intro c1 i hi hi' hPM Q1
    refine w_iload X D2_76 rfl ?_
    refine w_iloadN X D2_78 rfl ?_
    refine w_iload X D2_79 rfl ?_
    refine w_iadd X D2_81 ?_
    rw [n_add]
    refine w_icmpgt X D2_82 (fun hc82 => ?_) (fun hc82 => ?_)
    · exact Q1 _
    · refine w_iload X D2_85 rfl ?_
      refine w_iloadN X D2_87 rfl ?_
      refine w_icmpge X D2_88 (fun hc88 => ?_) (fun hc88 => by have z1 := (ofNat_lt (by omega) (by omega)).mp hc88; have z2 : ¬ P + q < i := (fun z => hc82 ((ofNat_lt (by omega) (by omega)).mpr z)); omega)
      exact Q1 _
  | succ k ih =>
    intro c1 i hi hi' hPM Q1
    refine w_iload X D2_76 rfl ?_
    refine w_iloadN X D2_78 rfl ?_
    refine w_iload X D2_79 rfl ?_
    refine w_iadd X D2_81 ?_
    rw [n_add]
    refine w_icmpgt X D2_82 (fun hc82 => by have z1 := (ofNat_lt (by omega) (by omega)).mp hc82; omega) (fun hc82 => ?_)
    refine w_iload X D2_85 rfl ?_
    refine w_iloadN X D2_87 rfl ?_
    refine w_icmpge X D2_88 (fun hc88 => by have z1 : ¬ i < M := (fun z => hc88 ((ofNat_lt (by omega) (by omega)).mpr z)); omega) (fun hc88 => ?_)
    refine w_iload X D2_91 rfl ?_
    refine w_bipush X D2_93 (v := (6 : Int32)) rfl ?_
    refine w_ishl X D2_95 ?_
    refine w_aloadN X D2_96 rfl rfl ?_
    refine w_iload X D2_97 rfl ?_
    refine w_baload X D2_99 B i rfl (by omega) ?_
    refine w_bipush X D2_100 (v := (63 : Int32)) rfl ?_
    refine w_iand X D2_102 ?_
    refine w_ior X D2_103 ?_
    rw [own_turn]
    refine w_istore X D2_104 (l' := #[.val (.ref a), .val (.int (Int32.ofNat P)), .val (.int (Int32.ofNat M)), .val (.int ld), .val (.int (Int32.ofNat q)), .val (.int (Int32.ofNat (64 * c1 + d6 (g i)))), .val (.int (Int32.ofNat i))]) rfl ?_
    refine w_iinc X D2_106 (d := (1 : Int32)) (r := (Int32.ofNat (i + 1))) (l' := #[.val (.ref a), .val (.int (Int32.ofNat P)), .val (.int (Int32.ofNat M)), .val (.int ld), .val (.int (Int32.ofNat q)), .val (.int (Int32.ofNat (64 * c1 + d6 (g i)))), .val (.int (Int32.ofNat (i + 1)))]) rfl rfl (n_add _ _) rfl ?_
    refine w_goto X D2_109 ?_
    exact ih (64 * c1 + d6 (g i)) (i + 1) (by omega) (by omega) hPM Q1
theorem ef_2 (m : MethodId) (a : Addr) (p0 : Int32) (m0 : Int32) : entryFrame m #[(.ref a), (.int p0), (.int m0)] 7 = mkF m 0 #[.val (.ref a), .val (.int p0), .val (.int m0), .unset, .unset, .unset, .unset] [] := by first | (simp [entryFrame, mkF, argsToLocals, Value.category]; done) | rfl
theorem pn_2 : plainName "nestrel/json/text/Utf8" = true := by first | (simp [plainName, overriddenIn]; done) | decide +kernel
set_option maxRecDepth 65536 in
set_option maxHeartbeats 40000000 in
theorem rm2 {l : Launch} {Z : State} {a0 : Array Value} {n0 : Nat} {h : Heap} (hw : ∀ d ∈ tables_1, d.before a0 Z = true) (hn : n0 ≤ h.size) (a : Addr) (p0 : Int32) (m0 : Int32) (P M l0 : Nat) (g : Nat → Int32) (eP : p0 = Int32.ofNat P) (eM : m0 = Int32.ofNat M) (hP : P < 2) (hM : M ≤ 6) (hPM : P + 1 ≤ M) (hl : l0 < 256) (el : g P &&& 255 = Int32.ofNat l0) (B : Ba Z n0 h a .byte 6 (bI g)) :
    Ctr l Z n0 (⟨"nestrel/json/text/Utf8", "codePointAt", "([BII)I"⟩ : MethodName) prog_210_method_4_code 7 (some .int) ({ frames := 0, cells := 0, slots := 0, locals := 0 } : Room) [] #[(.ref a), (.int p0), (.int m0)] h (fun v h' => v = some (.int (Int32.ofNat (cl g (min (mo l0) (M - P - 1)) (hd l0) (P + 1)))) ∧ h = h') := by
  refine ctr_of (plainFor_of_name pn_2) hw hn ?_
  intro p e s m below meth c T X
  refine Wp.cast (ef_2 m a p0 m0) ?_
  subst eP eM
  refine w_aloadN X D2_0 rfl rfl ?_
  refine w_iloadN X D2_1 rfl ?_
  refine w_baload X D2_2 B P rfl (by omega) ?_
  refine w_sipush X D2_3 (v := (255 : Int32)) rfl ?_
  refine w_iand X D2_6 ?_
  rw [el]
  refine w_istoreN X D2_7 (l' := #[.val (.ref a), .val (.int (Int32.ofNat P)), .val (.int (Int32.ofNat M)), .val (.int (Int32.ofNat l0)), .unset, .unset, .unset]) rfl ?_
  refine w_iloadN X D2_8 rfl ?_
  refine w_sipush X D2_9 (v := (192 : Int32)) rfl ?_
  refine w_icmpge X D2_12 (fun hc12 => ?_) (fun hc12 => ?_)
  · refine w_iloadN X D2_24 rfl ?_
    refine w_sipush X D2_25 (v := (224 : Int32)) rfl ?_
    refine w_icmpge X D2_28 (fun hc28 => ?_) (fun hc28 => ?_)
    · refine w_iloadN X D2_43 rfl ?_
      refine w_sipush X D2_44 (v := (240 : Int32)) rfl ?_
      refine w_icmpge X D2_47 (fun hc47 => ?_) (fun hc47 => ?_)
      · refine w_iconst X D2_62 (v := (3 : Int32)) rfl ?_
        refine w_istore X D2_63 (l' := #[.val (.ref a), .val (.int (Int32.ofNat P)), .val (.int (Int32.ofNat M)), .val (.int (Int32.ofNat l0)), .val (.int (3 : Int32)), .unset, .unset]) rfl ?_
        refine w_iloadN X D2_65 rfl ?_
        refine w_bipush X D2_66 (v := (7 : Int32)) rfl ?_
        refine w_iand X D2_68 ?_
        refine w_istore X D2_69 (l' := #[.val (.ref a), .val (.int (Int32.ofNat P)), .val (.int (Int32.ofNat M)), .val (.int (Int32.ofNat l0)), .val (.int (3 : Int32)), .val (.int ((Int32.ofNat l0) &&& (7 : Int32))), .unset]) rfl ?_
        have f12 : ¬ l0 < 192 := fun z => hc12 ((ofNat_lt (b := 192) (by omega) (by decide)).mpr z)
        have f28 : ¬ l0 < 224 := fun z => hc28 ((ofNat_lt (b := 224) (by omega) (by decide)).mpr z)
        have f47 : ¬ l0 < 240 := fun z => hc47 ((ofNat_lt (b := 240) (by omega) (by decide)).mpr z)
        have em : mo l0 = 3 := by rw [mo, if_neg f12, if_neg f28, if_neg f47]
        have eh : hd l0 = l0 % 8 := by rw [hd, if_neg f12, if_neg f28, if_neg f47]
        rw [show Int32.ofNat l0 &&& (7 : Int32) = Int32.ofNat (l0 % 8) from n_low l0 3]
        refine w_iloadN X D2_71 rfl ?_
        refine w_iconst X D2_72 (v := (1 : Int32)) rfl ?_
        refine w_iadd X D2_73 ?_
        rw [show Int32.ofNat P + 1 = Int32.ofNat (P + 1) from n_add P 1]
        refine w_istore X D2_74 (l' := #[.val (.ref a), .val (.int (Int32.ofNat P)), .val (.int (Int32.ofNat M)), .val (.int (Int32.ofNat l0)), .val (.int (3 : Int32)), .val (.int (Int32.ofNat (l0 % 8))), .val (.int (Int32.ofNat (P + 1)))]) rfl ?_
        refine loop2 X a P M 3 _ g hP hM (by decide) B (min 3 (M - P - 1)) (l0 % 8) (P + 1) rfl (Nat.le_refl _) hPM (fun i' => ?_)
        refine w_iload X D2_112 rfl ?_
        exact w_ireturn X D2_114 (by decide) (by decide) (⟨by rw [em, eh], rfl⟩)
      · refine w_iconst X D2_50 (v := (2 : Int32)) rfl ?_
        refine w_istore X D2_51 (l' := #[.val (.ref a), .val (.int (Int32.ofNat P)), .val (.int (Int32.ofNat M)), .val (.int (Int32.ofNat l0)), .val (.int (2 : Int32)), .unset, .unset]) rfl ?_
        refine w_iloadN X D2_53 rfl ?_
        refine w_bipush X D2_54 (v := (15 : Int32)) rfl ?_
        refine w_iand X D2_56 ?_
        refine w_istore X D2_57 (l' := #[.val (.ref a), .val (.int (Int32.ofNat P)), .val (.int (Int32.ofNat M)), .val (.int (Int32.ofNat l0)), .val (.int (2 : Int32)), .val (.int ((Int32.ofNat l0) &&& (15 : Int32))), .unset]) rfl ?_
        refine w_goto X D2_59 ?_
        have f12 : ¬ l0 < 192 := fun z => hc12 ((ofNat_lt (b := 192) (by omega) (by decide)).mpr z)
        have f28 : ¬ l0 < 224 := fun z => hc28 ((ofNat_lt (b := 224) (by omega) (by decide)).mpr z)
        have f47 : l0 < 240 := (ofNat_lt (b := 240) (by omega) (by decide)).mp hc47
        have em : mo l0 = 2 := by rw [mo, if_neg f12, if_neg f28, if_pos f47]
        have eh : hd l0 = l0 % 16 := by rw [hd, if_neg f12, if_neg f28, if_pos f47]
        rw [show Int32.ofNat l0 &&& (15 : Int32) = Int32.ofNat (l0 % 16) from n_low l0 4]
        refine w_iloadN X D2_71 rfl ?_
        refine w_iconst X D2_72 (v := (1 : Int32)) rfl ?_
        refine w_iadd X D2_73 ?_
        rw [show Int32.ofNat P + 1 = Int32.ofNat (P + 1) from n_add P 1]
        refine w_istore X D2_74 (l' := #[.val (.ref a), .val (.int (Int32.ofNat P)), .val (.int (Int32.ofNat M)), .val (.int (Int32.ofNat l0)), .val (.int (2 : Int32)), .val (.int (Int32.ofNat (l0 % 16))), .val (.int (Int32.ofNat (P + 1)))]) rfl ?_
        refine loop2 X a P M 2 _ g hP hM (by decide) B (min 2 (M - P - 1)) (l0 % 16) (P + 1) rfl (Nat.le_refl _) hPM (fun i' => ?_)
        refine w_iload X D2_112 rfl ?_
        exact w_ireturn X D2_114 (by decide) (by decide) (⟨by rw [em, eh], rfl⟩)
    · refine w_iconst X D2_31 (v := (1 : Int32)) rfl ?_
      refine w_istore X D2_32 (l' := #[.val (.ref a), .val (.int (Int32.ofNat P)), .val (.int (Int32.ofNat M)), .val (.int (Int32.ofNat l0)), .val (.int (1 : Int32)), .unset, .unset]) rfl ?_
      refine w_iloadN X D2_34 rfl ?_
      refine w_bipush X D2_35 (v := (31 : Int32)) rfl ?_
      refine w_iand X D2_37 ?_
      refine w_istore X D2_38 (l' := #[.val (.ref a), .val (.int (Int32.ofNat P)), .val (.int (Int32.ofNat M)), .val (.int (Int32.ofNat l0)), .val (.int (1 : Int32)), .val (.int ((Int32.ofNat l0) &&& (31 : Int32))), .unset]) rfl ?_
      refine w_goto X D2_40 ?_
      have f12 : ¬ l0 < 192 := fun z => hc12 ((ofNat_lt (b := 192) (by omega) (by decide)).mpr z)
      have f28 : l0 < 224 := (ofNat_lt (b := 224) (by omega) (by decide)).mp hc28
      have em : mo l0 = 1 := by rw [mo, if_neg f12, if_pos f28]
      have eh : hd l0 = l0 % 32 := by rw [hd, if_neg f12, if_pos f28]
      rw [show Int32.ofNat l0 &&& (31 : Int32) = Int32.ofNat (l0 % 32) from n_low l0 5]
      refine w_iloadN X D2_71 rfl ?_
      refine w_iconst X D2_72 (v := (1 : Int32)) rfl ?_
      refine w_iadd X D2_73 ?_
      rw [show Int32.ofNat P + 1 = Int32.ofNat (P + 1) from n_add P 1]
      refine w_istore X D2_74 (l' := #[.val (.ref a), .val (.int (Int32.ofNat P)), .val (.int (Int32.ofNat M)), .val (.int (Int32.ofNat l0)), .val (.int (1 : Int32)), .val (.int (Int32.ofNat (l0 % 32))), .val (.int (Int32.ofNat (P + 1)))]) rfl ?_
      refine loop2 X a P M 1 _ g hP hM (by decide) B (min 1 (M - P - 1)) (l0 % 32) (P + 1) rfl (Nat.le_refl _) hPM (fun i' => ?_)
      refine w_iload X D2_112 rfl ?_
      exact w_ireturn X D2_114 (by decide) (by decide) (⟨by rw [em, eh], rfl⟩)
  · refine w_iconst X D2_15 (v := (0 : Int32)) rfl ?_
    refine w_istore X D2_16 (l' := #[.val (.ref a), .val (.int (Int32.ofNat P)), .val (.int (Int32.ofNat M)), .val (.int (Int32.ofNat l0)), .val (.int (0 : Int32)), .unset, .unset]) rfl ?_
    refine w_iloadN X D2_18 rfl ?_
    refine w_istore X D2_19 (l' := #[.val (.ref a), .val (.int (Int32.ofNat P)), .val (.int (Int32.ofNat M)), .val (.int (Int32.ofNat l0)), .val (.int (0 : Int32)), .val (.int (Int32.ofNat l0)), .unset]) rfl ?_
    refine w_goto X D2_21 ?_
    have f12 : l0 < 192 := (ofNat_lt (b := 192) (by omega) (by decide)).mp hc12
    have em : mo l0 = 0 := by rw [mo, if_pos f12]
    have eh : hd l0 = l0 := by rw [hd, if_pos f12]
    refine w_iloadN X D2_71 rfl ?_
    refine w_iconst X D2_72 (v := (1 : Int32)) rfl ?_
    refine w_iadd X D2_73 ?_
    rw [show Int32.ofNat P + 1 = Int32.ofNat (P + 1) from n_add P 1]
    refine w_istore X D2_74 (l' := #[.val (.ref a), .val (.int (Int32.ofNat P)), .val (.int (Int32.ofNat M)), .val (.int (Int32.ofNat l0)), .val (.int (0 : Int32)), .val (.int (Int32.ofNat (l0))), .val (.int (Int32.ofNat (P + 1)))]) rfl ?_
    refine loop2 X a P M 0 _ g hP hM (by decide) B (min 0 (M - P - 1)) (l0) (P + 1) rfl (Nat.le_refl _) hPM (fun i' => ?_)
    refine w_iload X D2_112 rfl ?_
    exact w_ireturn X D2_114 (by decide) (by decide) (⟨by rw [em, eh], rfl⟩)
set_option maxRecDepth 65536 in
set_option maxHeartbeats 40000000 in
theorem law2 {Z : State} {a0 : Array Value} {n0 : Nat} {p : Program} {l : Launch} {e : Env} {s : State} {m : MethodId} {args : Array Value} {below : List Frame} {meth : Method} {c : Code} {T : State} {h : Heap}  (hw : ∀ d ∈ tables_1, d.before a0 Z = true) (X : Pos Z a0 n0 p l e room_1 s m args below meth c code maxLocals ret x T h 1 6) (a b c0 d e0 f : Int32) (t : Addr) (P M l0 : Nat) (g : Nat → Int32) (hP : P < 2) (hM : M ≤ 6) (hPM : P + 1 ≤ M) (hl : l0 < 256) (el : g P &&& 255 = Int32.ofNat l0) (B : Ba Z n0 h t .byte 6 (bI g)) (g1 : d6 (g (P + 1)) = d6 b) (g2 : d6 (g (P + 2)) = d6 c0) (g3 : d6 (g (P + 3)) = d6 d) : Wp n0 p e room_1 s below (fun v _ => v = some (.int 1)) T (mkF m 186 #[.val (.int a), .val (.int b), .val (.int c0), .val (.int d), .val (.int e0), .val (.int f), .val (.int (Int32.ofNat P)), .val (.int (Int32.ofNat M)), .val (.ref t), .val (.int (Int32.ofNat l0)), .val (.int (Int32.ofNat (mo l0))), .val (.int (Int32.ofNat (hd l0))), .unset, .unset, .unset, .unset, .unset] []) := by
  have hm := mo_le l0
  refine w_iload X D0_186 rfl ?_
  refine w_iload X D0_188 rfl ?_
  refine w_iload X D0_190 rfl ?_
  refine w_isub X D0_192 ?_
  rw [n_sub (show P ≤ M by omega)]
  refine w_iconst X D0_193 (v := (1 : Int32)) rfl ?_
  refine w_isub X D0_194 ?_
  rw [show Int32.ofNat (M - P) - 1 = Int32.ofNat (M - P - 1) from n_sub (b := 1) (by omega)]
  refine w_static X D0_195 (rm1 hw X.sz _ _ (mo l0) (M - P - 1) (by omega) (by omega) rfl rfl) (hw _ (List.mem_of_getElem? (i := 0) rfl)) (hw _ (List.mem_of_getElem? (i := 1) rfl)) (hw _ (List.mem_of_getElem? (i := 2) rfl)) (hw _ (List.mem_of_getElem? (i := 3) rfl)) (by decide) pd_0 rfl (S := []) rfl rfl (Nat.le_of_ble_eq_true rfl) (Nat.le_of_ble_eq_true rfl) (Nat.le_of_ble_eq_true rfl) (Nat.le_of_ble_eq_true rfl) (fun v1 T1 h1 X1 q1 => ?_)
  obtain ⟨rfl, rfl⟩ := q1
  show Wp _ _ _ _ _ _ _ _ (mkF m 198 #[.val (.int a), .val (.int b), .val (.int c0), .val (.int d), .val (.int e0), .val (.int f), .val (.int (Int32.ofNat P)), .val (.int (Int32.ofNat M)), .val (.ref t), .val (.int (Int32.ofNat l0)), .val (.int (Int32.ofNat (mo l0))), .val (.int (Int32.ofNat (hd l0))), .unset, .unset, .unset, .unset, .unset] [(.int (Int32.ofNat (min (mo l0) (M - P - 1))))])
  refine w_istore X1 D0_198 (l' := #[.val (.int a), .val (.int b), .val (.int c0), .val (.int d), .val (.int e0), .val (.int f), .val (.int (Int32.ofNat P)), .val (.int (Int32.ofNat M)), .val (.ref t), .val (.int (Int32.ofNat l0)), .val (.int (Int32.ofNat (mo l0))), .val (.int (Int32.ofNat (hd l0))), .val (.int (Int32.ofNat (min (mo l0) (M - P - 1)))), .unset, .unset, .unset, .unset]) rfl ?_
  refine w_iloadN X1 D0_200 rfl ?_
  refine w_bipush X1 D0_201 (v := (63 : Int32)) rfl ?_
  refine w_iand X1 D0_203 ?_
  rw [and63 b]
  refine w_istore X1 D0_204 (l' := #[.val (.int a), .val (.int b), .val (.int c0), .val (.int d), .val (.int e0), .val (.int f), .val (.int (Int32.ofNat P)), .val (.int (Int32.ofNat M)), .val (.ref t), .val (.int (Int32.ofNat l0)), .val (.int (Int32.ofNat (mo l0))), .val (.int (Int32.ofNat (hd l0))), .val (.int (Int32.ofNat (min (mo l0) (M - P - 1)))), .val (.int (Int32.ofNat (d6 b))), .unset, .unset, .unset]) rfl ?_
  refine w_iloadN X1 D0_206 rfl ?_
  refine w_bipush X1 D0_207 (v := (63 : Int32)) rfl ?_
  refine w_iand X1 D0_209 ?_
  rw [and63 c0]
  refine w_istore X1 D0_210 (l' := #[.val (.int a), .val (.int b), .val (.int c0), .val (.int d), .val (.int e0), .val (.int f), .val (.int (Int32.ofNat P)), .val (.int (Int32.ofNat M)), .val (.ref t), .val (.int (Int32.ofNat l0)), .val (.int (Int32.ofNat (mo l0))), .val (.int (Int32.ofNat (hd l0))), .val (.int (Int32.ofNat (min (mo l0) (M - P - 1)))), .val (.int (Int32.ofNat (d6 b))), .val (.int (Int32.ofNat (d6 c0))), .unset, .unset]) rfl ?_
  refine w_iloadN X1 D0_212 rfl ?_
  refine w_bipush X1 D0_213 (v := (63 : Int32)) rfl ?_
  refine w_iand X1 D0_215 ?_
  rw [and63 d]
  refine w_istore X1 D0_216 (l' := #[.val (.int a), .val (.int b), .val (.int c0), .val (.int d), .val (.int e0), .val (.int f), .val (.int (Int32.ofNat P)), .val (.int (Int32.ofNat M)), .val (.ref t), .val (.int (Int32.ofNat l0)), .val (.int (Int32.ofNat (mo l0))), .val (.int (Int32.ofNat (hd l0))), .val (.int (Int32.ofNat (min (mo l0) (M - P - 1)))), .val (.int (Int32.ofNat (d6 b))), .val (.int (Int32.ofNat (d6 c0))), .val (.int (Int32.ofNat (d6 d))), .unset]) rfl ?_
  obtain ⟨K, hK⟩ : ∃ K, K = min (mo l0) (M - P - 1) := ⟨_, rfl⟩
  have hK3 : K = 0 ∨ K = 1 ∨ K = 2 ∨ K = 3 := by omega
  rw [← hK]
  rcases hK3 with rfl | rfl | rfl | rfl
  · refine w_iload X1 D0_218 rfl ?_
    refine w_ifne X1 D0_220 (fun hc220 => by exact absurd rfl hc220) (fun hc220 => ?_)
    refine w_iload X1 D0_223 rfl ?_
    refine w_istore X1 D0_225 (l' := #[.val (.int a), .val (.int b), .val (.int c0), .val (.int d), .val (.int e0), .val (.int f), .val (.int (Int32.ofNat P)), .val (.int (Int32.ofNat M)), .val (.ref t), .val (.int (Int32.ofNat l0)), .val (.int (Int32.ofNat (mo l0))), .val (.int (Int32.ofNat (hd l0))), .val (.int (Int32.ofNat 0)), .val (.int (Int32.ofNat (d6 b))), .val (.int (Int32.ofNat (d6 c0))), .val (.int (Int32.ofNat (d6 d))), .val (.int (Int32.ofNat (hd l0)))]) rfl ?_
    refine w_goto X1 D0_227 ?_
    refine w_aload X1 D0_298 rfl rfl ?_
    refine w_iload X1 D0_300 rfl ?_
    refine w_iload X1 D0_302 rfl ?_
    refine w_static X1 D0_304 (rm2 hw X1.sz t _ _ P M l0 g rfl rfl hP hM hPM hl el B) (hw _ (List.mem_of_getElem? (i := 5) rfl)) (hw _ (List.mem_of_getElem? (i := 6) rfl)) (hw _ (List.mem_of_getElem? (i := 7) rfl)) (hw _ (List.mem_of_getElem? (i := 8) rfl)) (by decide) pd_1 rfl (S := []) rfl rfl (Nat.le_of_ble_eq_true rfl) (Nat.le_of_ble_eq_true rfl) (Nat.le_of_ble_eq_true rfl) (Nat.le_of_ble_eq_true rfl) (fun v2 T2 h2 X2 q2 => ?_)
    obtain ⟨rfl, rfl⟩ := q2
    show Wp _ _ _ _ _ _ _ _ (mkF m 307 #[.val (.int a), .val (.int b), .val (.int c0), .val (.int d), .val (.int e0), .val (.int f), .val (.int (Int32.ofNat P)), .val (.int (Int32.ofNat M)), .val (.ref t), .val (.int (Int32.ofNat l0)), .val (.int (Int32.ofNat (mo l0))), .val (.int (Int32.ofNat (hd l0))), .val (.int (Int32.ofNat 0)), .val (.int (Int32.ofNat (d6 b))), .val (.int (Int32.ofNat (d6 c0))), .val (.int (Int32.ofNat (d6 d))), .val (.int (Int32.ofNat (hd l0)))] [(.int (Int32.ofNat (cl g (min (mo l0) (M - P - 1)) (hd l0) (P + 1))))])
    refine w_iload X2 D0_307 rfl ?_
    refine w_icmpne X2 D0_309 (fun hc309 => by exact absurd (by rw [← hK]; rfl) hc309) (fun hc309 => ?_)
    refine w_iconst X2 D0_312 (v := (1 : Int32)) rfl ?_
    refine w_goto X2 D0_313 ?_
    exact w_zreturn X2 D0_317 (by decide) (by decide) (rfl)
  · refine w_iload X1 D0_218 rfl ?_
    refine w_ifne X1 D0_220 (fun hc220 => ?_) (fun hc220 => by exact absurd hc220 (by decide))
    refine w_iload X1 D0_230 rfl ?_
    refine w_iconst X1 D0_232 (v := (1 : Int32)) rfl ?_
    refine w_icmpne X1 D0_233 (fun hc233 => by exact absurd rfl hc233) (fun hc233 => ?_)
    refine w_iload X1 D0_236 rfl ?_
    refine w_bipush X1 D0_238 (v := (64 : Int32)) rfl ?_
    refine w_imul X1 D0_240 ?_
    refine w_iload X1 D0_241 rfl ?_
    refine w_iadd X1 D0_243 ?_
    refine w_istore X1 D0_244 (l' := #[.val (.int a), .val (.int b), .val (.int c0), .val (.int d), .val (.int e0), .val (.int f), .val (.int (Int32.ofNat P)), .val (.int (Int32.ofNat M)), .val (.ref t), .val (.int (Int32.ofNat l0)), .val (.int (Int32.ofNat (mo l0))), .val (.int (Int32.ofNat (hd l0))), .val (.int (Int32.ofNat 1)), .val (.int (Int32.ofNat (d6 b))), .val (.int (Int32.ofNat (d6 c0))), .val (.int (Int32.ofNat (d6 d))), .val (.int (((Int32.ofNat (hd l0)) * (64 : Int32)) + (Int32.ofNat (d6 b))))]) rfl ?_
    refine w_goto X1 D0_246 ?_
    refine w_aload X1 D0_298 rfl rfl ?_
    refine w_iload X1 D0_300 rfl ?_
    refine w_iload X1 D0_302 rfl ?_
    refine w_static X1 D0_304 (rm2 hw X1.sz t _ _ P M l0 g rfl rfl hP hM hPM hl el B) (hw _ (List.mem_of_getElem? (i := 5) rfl)) (hw _ (List.mem_of_getElem? (i := 6) rfl)) (hw _ (List.mem_of_getElem? (i := 7) rfl)) (hw _ (List.mem_of_getElem? (i := 8) rfl)) (by decide) pd_1 rfl (S := []) rfl rfl (Nat.le_of_ble_eq_true rfl) (Nat.le_of_ble_eq_true rfl) (Nat.le_of_ble_eq_true rfl) (Nat.le_of_ble_eq_true rfl) (fun v3 T3 h3 X3 q3 => ?_)
    obtain ⟨rfl, rfl⟩ := q3
    show Wp _ _ _ _ _ _ _ _ (mkF m 307 #[.val (.int a), .val (.int b), .val (.int c0), .val (.int d), .val (.int e0), .val (.int f), .val (.int (Int32.ofNat P)), .val (.int (Int32.ofNat M)), .val (.ref t), .val (.int (Int32.ofNat l0)), .val (.int (Int32.ofNat (mo l0))), .val (.int (Int32.ofNat (hd l0))), .val (.int (Int32.ofNat 1)), .val (.int (Int32.ofNat (d6 b))), .val (.int (Int32.ofNat (d6 c0))), .val (.int (Int32.ofNat (d6 d))), .val (.int (((Int32.ofNat (hd l0)) * (64 : Int32)) + (Int32.ofNat (d6 b))))] [(.int (Int32.ofNat (cl g (min (mo l0) (M - P - 1)) (hd l0) (P + 1))))])
    refine w_iload X3 D0_307 rfl ?_
    refine w_icmpne X3 D0_309 (fun hc309 => by exact absurd (by rw [← hK]; simp only [cl, g1]; rw [show Int32.ofNat (hd l0) * 64 = Int32.ofNat (hd l0 * 64) from n_mul _ 64, n_add]; congr 1; omega) hc309) (fun hc309 => ?_)
    refine w_iconst X3 D0_312 (v := (1 : Int32)) rfl ?_
    refine w_goto X3 D0_313 ?_
    exact w_zreturn X3 D0_317 (by decide) (by decide) (rfl)
  · refine w_iload X1 D0_218 rfl ?_
    refine w_ifne X1 D0_220 (fun hc220 => ?_) (fun hc220 => by exact absurd hc220 (by decide))
    refine w_iload X1 D0_230 rfl ?_
    refine w_iconst X1 D0_232 (v := (1 : Int32)) rfl ?_
    refine w_icmpne X1 D0_233 (fun hc233 => ?_) (fun hc233 => by exact absurd hc233 (by decide))
    refine w_iload X1 D0_249 rfl ?_
    refine w_iconst X1 D0_251 (v := (2 : Int32)) rfl ?_
    refine w_icmpne X1 D0_252 (fun hc252 => by exact absurd rfl hc252) (fun hc252 => ?_)
    refine w_iload X1 D0_255 rfl ?_
    refine w_sipush X1 D0_257 (v := (4096 : Int32)) rfl ?_
    refine w_imul X1 D0_260 ?_
    refine w_iload X1 D0_261 rfl ?_
    refine w_bipush X1 D0_263 (v := (64 : Int32)) rfl ?_
    refine w_imul X1 D0_265 ?_
    refine w_iadd X1 D0_266 ?_
    refine w_iload X1 D0_267 rfl ?_
    refine w_iadd X1 D0_269 ?_
    refine w_istore X1 D0_270 (l' := #[.val (.int a), .val (.int b), .val (.int c0), .val (.int d), .val (.int e0), .val (.int f), .val (.int (Int32.ofNat P)), .val (.int (Int32.ofNat M)), .val (.ref t), .val (.int (Int32.ofNat l0)), .val (.int (Int32.ofNat (mo l0))), .val (.int (Int32.ofNat (hd l0))), .val (.int (Int32.ofNat 2)), .val (.int (Int32.ofNat (d6 b))), .val (.int (Int32.ofNat (d6 c0))), .val (.int (Int32.ofNat (d6 d))), .val (.int ((((Int32.ofNat (hd l0)) * (4096 : Int32)) + ((Int32.ofNat (d6 b)) * (64 : Int32))) + (Int32.ofNat (d6 c0))))]) rfl ?_
    refine w_goto X1 D0_272 ?_
    refine w_aload X1 D0_298 rfl rfl ?_
    refine w_iload X1 D0_300 rfl ?_
    refine w_iload X1 D0_302 rfl ?_
    refine w_static X1 D0_304 (rm2 hw X1.sz t _ _ P M l0 g rfl rfl hP hM hPM hl el B) (hw _ (List.mem_of_getElem? (i := 5) rfl)) (hw _ (List.mem_of_getElem? (i := 6) rfl)) (hw _ (List.mem_of_getElem? (i := 7) rfl)) (hw _ (List.mem_of_getElem? (i := 8) rfl)) (by decide) pd_1 rfl (S := []) rfl rfl (Nat.le_of_ble_eq_true rfl) (Nat.le_of_ble_eq_true rfl) (Nat.le_of_ble_eq_true rfl) (Nat.le_of_ble_eq_true rfl) (fun v4 T4 h4 X4 q4 => ?_)
    obtain ⟨rfl, rfl⟩ := q4
    show Wp _ _ _ _ _ _ _ _ (mkF m 307 #[.val (.int a), .val (.int b), .val (.int c0), .val (.int d), .val (.int e0), .val (.int f), .val (.int (Int32.ofNat P)), .val (.int (Int32.ofNat M)), .val (.ref t), .val (.int (Int32.ofNat l0)), .val (.int (Int32.ofNat (mo l0))), .val (.int (Int32.ofNat (hd l0))), .val (.int (Int32.ofNat 2)), .val (.int (Int32.ofNat (d6 b))), .val (.int (Int32.ofNat (d6 c0))), .val (.int (Int32.ofNat (d6 d))), .val (.int ((((Int32.ofNat (hd l0)) * (4096 : Int32)) + ((Int32.ofNat (d6 b)) * (64 : Int32))) + (Int32.ofNat (d6 c0))))] [(.int (Int32.ofNat (cl g (min (mo l0) (M - P - 1)) (hd l0) (P + 1))))])
    refine w_iload X4 D0_307 rfl ?_
    refine w_icmpne X4 D0_309 (fun hc309 => by exact absurd (by rw [← hK]; simp only [cl, g1, show P + 1 + 1 = P + 2 from rfl, g2]; rw [show Int32.ofNat (hd l0) * 4096 = Int32.ofNat (hd l0 * 4096) from n_mul _ 4096, show Int32.ofNat (d6 b) * 64 = Int32.ofNat (d6 b * 64) from n_mul _ 64, n_add, n_add]; congr 1; omega) hc309) (fun hc309 => ?_)
    refine w_iconst X4 D0_312 (v := (1 : Int32)) rfl ?_
    refine w_goto X4 D0_313 ?_
    exact w_zreturn X4 D0_317 (by decide) (by decide) (rfl)
  · refine w_iload X1 D0_218 rfl ?_
    refine w_ifne X1 D0_220 (fun hc220 => ?_) (fun hc220 => by exact absurd hc220 (by decide))
    refine w_iload X1 D0_230 rfl ?_
    refine w_iconst X1 D0_232 (v := (1 : Int32)) rfl ?_
    refine w_icmpne X1 D0_233 (fun hc233 => ?_) (fun hc233 => by exact absurd hc233 (by decide))
    refine w_iload X1 D0_249 rfl ?_
    refine w_iconst X1 D0_251 (v := (2 : Int32)) rfl ?_
    refine w_icmpne X1 D0_252 (fun hc252 => ?_) (fun hc252 => by exact absurd hc252 (by decide))
    refine w_iload X1 D0_275 rfl ?_
    refine w_ldc X1 D0_277 (hw _ (List.mem_of_getElem? (i := 9) rfl)) ?_
    refine w_imul X1 D0_279 ?_
    refine w_iload X1 D0_280 rfl ?_
    refine w_sipush X1 D0_282 (v := (4096 : Int32)) rfl ?_
    refine w_imul X1 D0_285 ?_
    refine w_iadd X1 D0_286 ?_
    refine w_iload X1 D0_287 rfl ?_
    refine w_bipush X1 D0_289 (v := (64 : Int32)) rfl ?_
    refine w_imul X1 D0_291 ?_
    refine w_iadd X1 D0_292 ?_
    refine w_iload X1 D0_293 rfl ?_
    refine w_iadd X1 D0_295 ?_
    refine w_istore X1 D0_296 (l' := #[.val (.int a), .val (.int b), .val (.int c0), .val (.int d), .val (.int e0), .val (.int f), .val (.int (Int32.ofNat P)), .val (.int (Int32.ofNat M)), .val (.ref t), .val (.int (Int32.ofNat l0)), .val (.int (Int32.ofNat (mo l0))), .val (.int (Int32.ofNat (hd l0))), .val (.int (Int32.ofNat 3)), .val (.int (Int32.ofNat (d6 b))), .val (.int (Int32.ofNat (d6 c0))), .val (.int (Int32.ofNat (d6 d))), .val (.int (((((Int32.ofNat (hd l0)) * (262144 : Int32)) + ((Int32.ofNat (d6 b)) * (4096 : Int32))) + ((Int32.ofNat (d6 c0)) * (64 : Int32))) + (Int32.ofNat (d6 d))))]) rfl ?_
    refine w_aload X1 D0_298 rfl rfl ?_
    refine w_iload X1 D0_300 rfl ?_
    refine w_iload X1 D0_302 rfl ?_
    refine w_static X1 D0_304 (rm2 hw X1.sz t _ _ P M l0 g rfl rfl hP hM hPM hl el B) (hw _ (List.mem_of_getElem? (i := 5) rfl)) (hw _ (List.mem_of_getElem? (i := 6) rfl)) (hw _ (List.mem_of_getElem? (i := 7) rfl)) (hw _ (List.mem_of_getElem? (i := 8) rfl)) (by decide) pd_1 rfl (S := []) rfl rfl (Nat.le_of_ble_eq_true rfl) (Nat.le_of_ble_eq_true rfl) (Nat.le_of_ble_eq_true rfl) (Nat.le_of_ble_eq_true rfl) (fun v5 T5 h5 X5 q5 => ?_)
    obtain ⟨rfl, rfl⟩ := q5
    show Wp _ _ _ _ _ _ _ _ (mkF m 307 #[.val (.int a), .val (.int b), .val (.int c0), .val (.int d), .val (.int e0), .val (.int f), .val (.int (Int32.ofNat P)), .val (.int (Int32.ofNat M)), .val (.ref t), .val (.int (Int32.ofNat l0)), .val (.int (Int32.ofNat (mo l0))), .val (.int (Int32.ofNat (hd l0))), .val (.int (Int32.ofNat 3)), .val (.int (Int32.ofNat (d6 b))), .val (.int (Int32.ofNat (d6 c0))), .val (.int (Int32.ofNat (d6 d))), .val (.int (((((Int32.ofNat (hd l0)) * (262144 : Int32)) + ((Int32.ofNat (d6 b)) * (4096 : Int32))) + ((Int32.ofNat (d6 c0)) * (64 : Int32))) + (Int32.ofNat (d6 d))))] [(.int (Int32.ofNat (cl g (min (mo l0) (M - P - 1)) (hd l0) (P + 1))))])
    refine w_iload X5 D0_307 rfl ?_
    refine w_icmpne X5 D0_309 (fun hc309 => by exact absurd (by rw [← hK]; simp only [cl, g1, show P + 1 + 1 = P + 2 from rfl, g2, show P + 2 + 1 = P + 3 from rfl, g3]; rw [show Int32.ofNat (hd l0) * 262144 = Int32.ofNat (hd l0 * 262144) from n_mul _ 262144, show Int32.ofNat (d6 b) * 4096 = Int32.ofNat (d6 b * 4096) from n_mul _ 4096, show Int32.ofNat (d6 c0) * 64 = Int32.ofNat (d6 c0 * 64) from n_mul _ 64, n_add, n_add, n_add]; congr 1; omega) hc309) (fun hc309 => ?_)
    refine w_iconst X5 D0_312 (v := (1 : Int32)) rfl ?_
    refine w_goto X5 D0_313 ?_
    exact w_zreturn X5 D0_317 (by decide) (by decide) (rfl)
theorem ef_0 (m : MethodId) (a : Int32) (b : Int32) (c0 : Int32) (d : Int32) (e0 : Int32) (f : Int32) : entryFrame m #[(.int a), (.int b), (.int c0), (.int d), (.int e0), (.int f)] maxLocals = mkF m 0 #[.val (.int a), .val (.int b), .val (.int c0), .val (.int d), .val (.int e0), .val (.int f), .unset, .unset, .unset, .unset, .unset, .unset, .unset, .unset, .unset, .unset, .unset] [] := by first | (simp [entryFrame, mkF, argsToLocals, Value.category, maxLocals]; done) | rfl
theorem pn_0 : plainName "nestrel/json/text/Utf8CodePointAtPinLaw" = true := by first | (simp [plainName, overriddenIn]; done) | decide +kernel
set_option maxRecDepth 65536 in
set_option maxHeartbeats 40000000 in
theorem rm0 {l : Launch} {Z : State} {a0 : Array Value} {n0 : Nat} {h : Heap} (hw : ∀ d ∈ tables_1, d.before a0 Z = true) (hn : n0 ≤ h.size) (a : Int32) (b : Int32) (c0 : Int32) (d : Int32) (e0 : Int32) (f : Int32) :
    Ctr l Z n0 x code maxLocals ret room_1 tables_1 #[(.int a), (.int b), (.int c0), (.int d), (.int e0), (.int f)] h (fun v h' => v = some (.int 1)) := by
  refine ctr_of (plainFor_of_name pn_0) hw hn ?_
  intro p e s m below meth c T X
  refine Wp.cast (ef_0 m a b c0 d e0 f) ?_
  refine w_iload X D0_0 rfl ?_
  refine w_iconst X D0_2 (v := (1 : Int32)) rfl ?_
  refine w_iand X D0_3 ?_
  refine w_istoreE X D0_4 (l' := fun z_ => #[.val (.int a), .val (.int b), .val (.int c0), .val (.int d), .val (.int e0), .val (.int f), .val (.int z_), .unset, .unset, .unset, .unset, .unset, .unset, .unset, .unset, .unset, .unset]) (fun _ => rfl) (fun p1 e_p1 => ?_)
  obtain ⟨P, hP, eP⟩ := own_pos f
  rw [← e_p1] at eP
  subst eP
  refine w_iload X D0_6 rfl ?_
  refine w_iconst X D0_8 (v := (1 : Int32)) rfl ?_
  refine w_iadd X D0_9 ?_
  refine w_iload X D0_10 rfl ?_
  refine w_iconst X D0_12 (v := (1 : Int32)) rfl ?_
  refine w_iushr X D0_13 ?_
  refine w_bipush X D0_14 (v := (7 : Int32)) rfl ?_
  refine w_iand X D0_16 ?_
  refine w_iadd X D0_17 ?_
  obtain ⟨s8, hs8, es8⟩ := own_7 (jushr f 1)
  rw [es8, show Int32.ofNat P + 1 = Int32.ofNat (P + 1) from n_add P 1, n_add]
  refine w_bipush X D0_18 (v := (6 : Int32)) rfl ?_
  refine w_static X D0_20 (rm1 hw X.sz _ _ (P + 1 + s8) 6 (by omega) (by decide) rfl rfl) (hw _ (List.mem_of_getElem? (i := 0) rfl)) (hw _ (List.mem_of_getElem? (i := 1) rfl)) (hw _ (List.mem_of_getElem? (i := 2) rfl)) (hw _ (List.mem_of_getElem? (i := 3) rfl)) (by decide) pd_0 rfl (S := []) rfl rfl (Nat.le_of_ble_eq_true rfl) (Nat.le_of_ble_eq_true rfl) (Nat.le_of_ble_eq_true rfl) (Nat.le_of_ble_eq_true rfl) (fun v1 T1 h1 X1 q1 => ?_)
  obtain ⟨rfl, rfl⟩ := q1
  show Wp _ _ _ _ _ _ _ _ (mkF m 23 #[.val (.int a), .val (.int b), .val (.int c0), .val (.int d), .val (.int e0), .val (.int f), .val (.int (Int32.ofNat P)), .unset, .unset, .unset, .unset, .unset, .unset, .unset, .unset, .unset, .unset] [(.int (Int32.ofNat (min (P + 1 + s8) 6)))])
  refine w_istore X1 D0_23 (l' := #[.val (.int a), .val (.int b), .val (.int c0), .val (.int d), .val (.int e0), .val (.int f), .val (.int (Int32.ofNat P)), .val (.int (Int32.ofNat (min (P + 1 + s8) 6))), .unset, .unset, .unset, .unset, .unset, .unset, .unset, .unset, .unset]) rfl ?_
  obtain ⟨M, hM⟩ : ∃ M, M = min (P + 1 + s8) 6 := ⟨_, rfl⟩
  rw [← hM]
  refine w_bipush X1 D0_25 (v := (6 : Int32)) rfl ?_
  refine w_newB X1 D0_27 (hw _ (List.mem_of_getElem? (i := 4) rfl)) 6 6 rfl (Nat.le_of_ble_eq_true rfl) (by decide) (Nat.le_of_ble_eq_true rfl) (Nat.le_of_ble_eq_true rfl) (fun T2 h2 a2 X2 g2 E2 B2 => ?_)
  refine w_astore X2 D0_29 (l' := #[.val (.int a), .val (.int b), .val (.int c0), .val (.int d), .val (.int e0), .val (.int f), .val (.int (Int32.ofNat P)), .val (.int (Int32.ofNat M)), .val (.ref a2), .unset, .unset, .unset, .unset, .unset, .unset, .unset, .unset]) rfl rfl ?_
  refine w_aload X2 D0_31 rfl rfl ?_
  refine w_iconst X2 D0_33 (v := (0 : Int32)) rfl ?_
  refine w_iload X2 D0_34 rfl ?_
  refine w_i2b X2 D0_36 ?_
  refine w_bastore X2 D0_37 B2 0 rfl (by decide) (fun T3 h3 X3 K3 B3 => ?_)
  refine w_aload X3 D0_38 rfl rfl ?_
  refine w_iconst X3 D0_40 (v := (1 : Int32)) rfl ?_
  refine w_iload X3 D0_41 rfl ?_
  refine w_i2b X3 D0_43 ?_
  refine w_bastore X3 D0_44 B3 1 rfl (by decide) (fun T4 h4 X4 K4 B4 => ?_)
  refine w_aload X4 D0_45 rfl rfl ?_
  refine w_iconst X4 D0_47 (v := (2 : Int32)) rfl ?_
  refine w_iload X4 D0_48 rfl ?_
  refine w_i2b X4 D0_50 ?_
  refine w_bastore X4 D0_51 B4 2 rfl (by decide) (fun T5 h5 X5 K5 B5 => ?_)
  refine w_aload X5 D0_52 rfl rfl ?_
  refine w_iconst X5 D0_54 (v := (3 : Int32)) rfl ?_
  refine w_iload X5 D0_55 rfl ?_
  refine w_i2b X5 D0_57 ?_
  refine w_bastore X5 D0_58 B5 3 rfl (by decide) (fun T6 h6 X6 K6 B6 => ?_)
  refine w_aload X6 D0_59 rfl rfl ?_
  refine w_iconst X6 D0_61 (v := (4 : Int32)) rfl ?_
  refine w_iload X6 D0_62 rfl ?_
  refine w_i2b X6 D0_64 ?_
  refine w_bastore X6 D0_65 B6 4 rfl (by decide) (fun T7 h7 X7 K7 B7 => ?_)
  refine w_aload X7 D0_66 rfl rfl ?_
  refine w_iconst X7 D0_68 (v := (5 : Int32)) rfl ?_
  refine w_iload X7 D0_69 rfl ?_
  refine w_i2b X7 D0_71 ?_
  refine w_bastore X7 D0_72 B7 5 rfl (by decide) (fun T8 h8 X8 K8 B8 => ?_)
  refine w_aload X8 D0_73 rfl rfl ?_
  refine w_iload X8 D0_75 rfl ?_
  refine w_iloadN X8 D0_77 rfl ?_
  refine w_i2b X8 D0_78 ?_
  refine w_bastore X8 D0_79 B8 P rfl (by omega) (fun T9 h9 X9 K9 B9 => ?_)
  refine w_aload X9 D0_80 rfl rfl ?_
  refine w_iload X9 D0_82 rfl ?_
  refine w_iconst X9 D0_84 (v := (1 : Int32)) rfl ?_
  refine w_iadd X9 D0_85 ?_
  refine w_iloadN X9 D0_86 rfl ?_
  refine w_i2b X9 D0_87 ?_
  refine w_bastore X9 D0_88 B9 (P + 1) (n_add P 1) (by omega) (fun T10 h10 X10 K10 B10 => ?_)
  refine w_aload X10 D0_89 rfl rfl ?_
  refine w_iload X10 D0_91 rfl ?_
  refine w_iconst X10 D0_93 (v := (2 : Int32)) rfl ?_
  refine w_iadd X10 D0_94 ?_
  refine w_iloadN X10 D0_95 rfl ?_
  refine w_i2b X10 D0_96 ?_
  refine w_bastore X10 D0_97 B10 (P + 2) (n_add P 2) (by omega) (fun T11 h11 X11 K11 B11 => ?_)
  refine w_aload X11 D0_98 rfl rfl ?_
  refine w_iload X11 D0_100 rfl ?_
  refine w_iconst X11 D0_102 (v := (3 : Int32)) rfl ?_
  refine w_iadd X11 D0_103 ?_
  refine w_iloadN X11 D0_104 rfl ?_
  refine w_i2b X11 D0_105 ?_
  refine w_bastore X11 D0_106 B11 (P + 3) (n_add P 3) (by omega) (fun T12 h12 X12 K12 B12 => ?_)
  obtain ⟨g, eg⟩ : ∃ g : Nat → Int32, g = (upd (upd (upd (upd (upd (upd (upd (upd (upd (upd (fun _ => 0) 0 (jbyte (jbyte e0))) 1 (jbyte (jbyte e0))) 2 (jbyte (jbyte e0))) 3 (jbyte (jbyte e0))) 4 (jbyte (jbyte e0))) 5 (jbyte (jbyte e0))) P (jbyte (jbyte a))) (P + 1) (jbyte (jbyte b))) (P + 2) (jbyte (jbyte c0))) (P + 3) (jbyte (jbyte d))) := ⟨_, rfl⟩
  have Bg : Ba Z n0 h12 a2 .byte 6 (bI g) := by rw [eg]; exact B12
  have g0 : g P = jbyte (jbyte a) := by rw [eg, upd_ne _ _ (by omega), upd_ne _ _ (by omega), upd_ne _ _ (by omega), upd_at]
  have g1 : d6 (g (P + 1)) = d6 b := by rw [eg, upd_ne _ _ (by omega), upd_ne _ _ (by omega), upd_at, d6_byte]
  have g2 : d6 (g (P + 2)) = d6 c0 := by rw [eg, upd_ne _ _ (by omega), upd_at, d6_byte]
  have g3 : d6 (g (P + 3)) = d6 d := by rw [eg, upd_at, d6_byte]
  obtain ⟨l0, hl, el⟩ := own_255 a
  have el' : g P &&& 255 = Int32.ofNat l0 := by rw [g0, jbyte_idem, jbyte_and a 8 (by decide) (by decide), el]
  refine w_iloadN X12 D0_107 rfl ?_
  refine w_sipush X12 D0_108 (v := (255 : Int32)) rfl ?_
  refine w_iand X12 D0_111 ?_
  rw [el]
  refine w_istore X12 D0_112 (l' := #[.val (.int a), .val (.int b), .val (.int c0), .val (.int d), .val (.int e0), .val (.int f), .val (.int (Int32.ofNat P)), .val (.int (Int32.ofNat M)), .val (.ref a2), .val (.int (Int32.ofNat l0)), .unset, .unset, .unset, .unset, .unset, .unset, .unset]) rfl ?_
  refine w_iload X12 D0_114 rfl ?_
  refine w_sipush X12 D0_116 (v := (192 : Int32)) rfl ?_
  refine w_icmpge X12 D0_119 (fun hc119 => ?_) (fun hc119 => ?_)
  · refine w_iload X12 D0_132 rfl ?_
    refine w_sipush X12 D0_134 (v := (224 : Int32)) rfl ?_
    refine w_icmpge X12 D0_137 (fun hc137 => ?_) (fun hc137 => ?_)
    · refine w_iload X12 D0_154 rfl ?_
      refine w_sipush X12 D0_156 (v := (240 : Int32)) rfl ?_
      refine w_icmpge X12 D0_159 (fun hc159 => ?_) (fun hc159 => ?_)
      · refine w_iconst X12 D0_176 (v := (3 : Int32)) rfl ?_
        refine w_istore X12 D0_177 (l' := #[.val (.int a), .val (.int b), .val (.int c0), .val (.int d), .val (.int e0), .val (.int f), .val (.int (Int32.ofNat P)), .val (.int (Int32.ofNat M)), .val (.ref a2), .val (.int (Int32.ofNat l0)), .val (.int (3 : Int32)), .unset, .unset, .unset, .unset, .unset, .unset]) rfl ?_
        refine w_iload X12 D0_179 rfl ?_
        refine w_bipush X12 D0_181 (v := (7 : Int32)) rfl ?_
        refine w_iand X12 D0_183 ?_
        refine w_istore X12 D0_184 (l' := #[.val (.int a), .val (.int b), .val (.int c0), .val (.int d), .val (.int e0), .val (.int f), .val (.int (Int32.ofNat P)), .val (.int (Int32.ofNat M)), .val (.ref a2), .val (.int (Int32.ofNat l0)), .val (.int (3 : Int32)), .val (.int ((Int32.ofNat l0) &&& (7 : Int32))), .unset, .unset, .unset, .unset, .unset]) rfl ?_
        have f119 : ¬ l0 < 192 := fun z => hc119 ((ofNat_lt (b := 192) (by omega) (by decide)).mpr z)
        have f137 : ¬ l0 < 224 := fun z => hc137 ((ofNat_lt (b := 224) (by omega) (by decide)).mpr z)
        have f159 : ¬ l0 < 240 := fun z => hc159 ((ofNat_lt (b := 240) (by omega) (by decide)).mpr z)
        have q := law2 hw X12 a b c0 d e0 f a2 P M l0 g hP (by omega) (by omega) hl el' Bg g1 g2 g3
        rw [show mo l0 = 3 by rw [mo, if_neg f119, if_neg f137, if_neg f159], show hd l0 = l0 % 8 by rw [hd, if_neg f119, if_neg f137, if_neg f159]] at q
        rw [show Int32.ofNat l0 &&& 7 = Int32.ofNat (l0 % 8) from n_low l0 3]
        exact q
      · refine w_iconst X12 D0_162 (v := (2 : Int32)) rfl ?_
        refine w_istore X12 D0_163 (l' := #[.val (.int a), .val (.int b), .val (.int c0), .val (.int d), .val (.int e0), .val (.int f), .val (.int (Int32.ofNat P)), .val (.int (Int32.ofNat M)), .val (.ref a2), .val (.int (Int32.ofNat l0)), .val (.int (2 : Int32)), .unset, .unset, .unset, .unset, .unset, .unset]) rfl ?_
        refine w_iload X12 D0_165 rfl ?_
        refine w_sipush X12 D0_167 (v := (224 : Int32)) rfl ?_
        refine w_isub X12 D0_170 ?_
        refine w_istore X12 D0_171 (l' := #[.val (.int a), .val (.int b), .val (.int c0), .val (.int d), .val (.int e0), .val (.int f), .val (.int (Int32.ofNat P)), .val (.int (Int32.ofNat M)), .val (.ref a2), .val (.int (Int32.ofNat l0)), .val (.int (2 : Int32)), .val (.int ((Int32.ofNat l0) - (224 : Int32))), .unset, .unset, .unset, .unset, .unset]) rfl ?_
        refine w_goto X12 D0_173 ?_
        have f119 : ¬ l0 < 192 := fun z => hc119 ((ofNat_lt (b := 192) (by omega) (by decide)).mpr z)
        have f137 : ¬ l0 < 224 := fun z => hc137 ((ofNat_lt (b := 224) (by omega) (by decide)).mpr z)
        have f159 : l0 < 240 := (ofNat_lt (b := 240) (by omega) (by decide)).mp hc159
        have q := law2 hw X12 a b c0 d e0 f a2 P M l0 g hP (by omega) (by omega) hl el' Bg g1 g2 g3
        rw [show mo l0 = 2 by rw [mo, if_neg f119, if_neg f137, if_pos f159], show hd l0 = l0 % 16 by rw [hd, if_neg f119, if_neg f137, if_pos f159]] at q
        rw [show Int32.ofNat l0 - 224 = Int32.ofNat (l0 % 16) from (n_sub (b := 224) (by omega)).trans (by congr 1; omega)]
        exact q
    · refine w_iconst X12 D0_140 (v := (1 : Int32)) rfl ?_
      refine w_istore X12 D0_141 (l' := #[.val (.int a), .val (.int b), .val (.int c0), .val (.int d), .val (.int e0), .val (.int f), .val (.int (Int32.ofNat P)), .val (.int (Int32.ofNat M)), .val (.ref a2), .val (.int (Int32.ofNat l0)), .val (.int (1 : Int32)), .unset, .unset, .unset, .unset, .unset, .unset]) rfl ?_
      refine w_iload X12 D0_143 rfl ?_
      refine w_sipush X12 D0_145 (v := (192 : Int32)) rfl ?_
      refine w_isub X12 D0_148 ?_
      refine w_istore X12 D0_149 (l' := #[.val (.int a), .val (.int b), .val (.int c0), .val (.int d), .val (.int e0), .val (.int f), .val (.int (Int32.ofNat P)), .val (.int (Int32.ofNat M)), .val (.ref a2), .val (.int (Int32.ofNat l0)), .val (.int (1 : Int32)), .val (.int ((Int32.ofNat l0) - (192 : Int32))), .unset, .unset, .unset, .unset, .unset]) rfl ?_
      refine w_goto X12 D0_151 ?_
      have f119 : ¬ l0 < 192 := fun z => hc119 ((ofNat_lt (b := 192) (by omega) (by decide)).mpr z)
      have f137 : l0 < 224 := (ofNat_lt (b := 224) (by omega) (by decide)).mp hc137
      have q := law2 hw X12 a b c0 d e0 f a2 P M l0 g hP (by omega) (by omega) hl el' Bg g1 g2 g3
      rw [show mo l0 = 1 by rw [mo, if_neg f119, if_pos f137], show hd l0 = l0 % 32 by rw [hd, if_neg f119, if_pos f137]] at q
      rw [show Int32.ofNat l0 - 192 = Int32.ofNat (l0 % 32) from (n_sub (b := 192) (by omega)).trans (by congr 1; omega)]
      exact q
  · refine w_iconst X12 D0_122 (v := (0 : Int32)) rfl ?_
    refine w_istore X12 D0_123 (l' := #[.val (.int a), .val (.int b), .val (.int c0), .val (.int d), .val (.int e0), .val (.int f), .val (.int (Int32.ofNat P)), .val (.int (Int32.ofNat M)), .val (.ref a2), .val (.int (Int32.ofNat l0)), .val (.int (0 : Int32)), .unset, .unset, .unset, .unset, .unset, .unset]) rfl ?_
    refine w_iload X12 D0_125 rfl ?_
    refine w_istore X12 D0_127 (l' := #[.val (.int a), .val (.int b), .val (.int c0), .val (.int d), .val (.int e0), .val (.int f), .val (.int (Int32.ofNat P)), .val (.int (Int32.ofNat M)), .val (.ref a2), .val (.int (Int32.ofNat l0)), .val (.int (0 : Int32)), .val (.int (Int32.ofNat l0)), .unset, .unset, .unset, .unset, .unset]) rfl ?_
    refine w_goto X12 D0_129 ?_
    have f119 : l0 < 192 := (ofNat_lt (b := 192) (by omega) (by decide)).mp hc119
    have q := law2 hw X12 a b c0 d e0 f a2 P M l0 g hP (by omega) (by omega) hl el' Bg g1 g2 g3
    rw [show mo l0 = 0 by rw [mo, if_pos f119], show hd l0 = l0 by rw [hd, if_pos f119]] at q
    exact q
set_option maxRecDepth 65536 in
set_option maxHeartbeats 40000000 in
theorem comes_1 {Post : Tables → Env → Array Value → State → Outcome → State → Prop} (hpost : ∀ tb e args s v u, (limb_1_1.after args s (.returned v) u = true ∧ limb_1_2.after args s (.returned v) u = true ∧ True) → FrameEnd s (.returned v) u (Jvm.fieldLocs frame_1_writes args s ++ Jvm.arrayLocs frame_1_arrays args s ++ Jvm.staticLocs frame_1_statics s) 16 128 → Post tb e args s (.returned v) u) :
    ArmFor flags0 classFile x code maxLocals ret World_1 tables_1 room_1 Calls_1 rest_1 Pre_1 Post := by
  intro l hfl _ _ p e ha hc hk s m args below hf hA hF happ hP
  obtain ⟨hcalls, hrest, hpre⟩ := hP
  obtain ⟨-, -, -, hnamed, -, -, -, hat⟩ := (Spec.applies_iff hf).mp happ
  obtain ⟨hg, hn⟩ := and_e (Cond.before_iff.mp (show (Jvm.Cond.and given_1 narrow_1).before args s = true from hpre))
  obtain ⟨hcount, g0⟩ := and_e hg
  obtain ⟨ga0, g1⟩ := and_e g0
  obtain ⟨ga1, g2⟩ := and_e g1
  obtain ⟨ga2, g3⟩ := and_e g2
  obtain ⟨ga3, g4⟩ := and_e g3
  obtain ⟨ga4, g5⟩ := and_e g4
  obtain ⟨w0, w1, w2, w3, w4, w5, rfl⟩ : ∃ w0 w1 w2 w3 w4 w5 : Value, args = #[w0, w1, w2, w3, w4, w5] := by
    have hs : args.size = 6 := by simpa [Cond.value, given_1] using hcount
    obtain ⟨L⟩ := args
    match L, hs with
    | [w0, w1, w2, w3, w4, w5], _ => exact ⟨w0, w1, w2, w3, w4, w5, rfl⟩
  have hw := fun d (hd : d ∈ tables_1) => atoms_spec (ws := Jvm.Cond.code x code maxLocals ret :: tables_1) hat d (List.mem_cons_of_mem _ hd)
  obtain ⟨i0, ei0⟩ := is_v ga0
  obtain rfl : w0 = (.int i0) := Option.some.inj ei0
  obtain ⟨i1, ei1⟩ := is_v ga1
  obtain rfl : w1 = (.int i1) := Option.some.inj ei1
  obtain ⟨i2, ei2⟩ := is_v ga2
  obtain rfl : w2 = (.int i2) := Option.some.inj ei2
  obtain ⟨i3, ei3⟩ := is_v ga3
  obtain rfl : w3 = (.int i3) := Option.some.inj ei3
  obtain ⟨i4, ei4⟩ := is_v ga4
  obtain rfl : w4 = (.int i4) := Option.some.inj ei4
  obtain ⟨i5, ei5⟩ := is_v g5
  obtain rfl : w5 = (.int i5) := Option.some.inj ei5
  obtain ⟨n, o, h1, h2, h3, _, L, rfl, ⟨N, -, rfl⟩, hq⟩ := rm0 (l := l) (Z := s) (n0 := s.heap.size) (h := s.heap) hw (Nat.le_refl _) i0 i1 i2 i3 i4 i5 p e ha hc hk s m _ below hf ((Spec.applies_iff_loose hf).mp happ).1 ⟨rfl, State.Warmed39.refl s, rfl⟩ trivial
  refine ⟨n, _, h1, h2, h3, hpost _ _ _ _ _ _ ⟨Cond.after_iff.mpr rfl, Cond.after_iff.mpr (eq_i res_at (Term.int_eval (1)) rfl), trivial⟩ ⟨hq.1, hq.2.1, (hq.2.2.sift fun y hy => Or.inr (N y hy)).mono (by decide) (by decide)⟩⟩
theorem main_1_1 : Claimed_1_1 := comes_1 fun _ _ _ _ _ _ h hF => ⟨h.1, hF⟩
theorem main_1_2 : Claimed_1_2 := comes_1 fun _ _ _ _ _ _ h hF => ⟨h.2.1, hF⟩
end Jvm.Pilot.@@N@@
namespace Jvm.Pilot.@@N@@
open Jvm Jvm.ClassFile Sem Op Lib Jvm.Free Jvm.Stand Jvm.Pilot.@@N@@.Jvm.D
/-! MADE BY PROGRAM (witnessworld.py) out of the Statement's table words and the real class files: 10 classes; the members and pool entries that the words name. The judged class is class 1, her method 1. -/
namespace start1
open Jvm.ClassFile
def u (s : String) : CpInfo := .utf8 (stringToUtf16 s)
/-- a pool by its gaps: so many unusable entries, then the entry; so many at the end -/
def gap : Nat → List CpInfo → List CpInfo
  | 0, r => r
  | n + 1, r => .unusable :: gap n r
def poolList (es : List (Nat × CpInfo)) (last : Nat) : List CpInfo := es.foldr (fun e r => gap e.1 (e.2 :: r)) (gap last [])
def pool (es : List (Nat × CpInfo)) (last : Nat) : Array CpInfo := ⟨poolList es last⟩
def fileOf (pool : Array CpInfo) (this : Nat) (attrs : Array Attribute := #[]) (ms : Array MethodInfo := #[]) (fl : Nat := 33) (sup : Nat := 0) (ifs : Array Nat := #[]) (fds : Array FieldInfo := #[]) : ClassFile where
  minorVersion := 0
  majorVersion := 65
  constantPool := pool
  accessFlags := fl
  thisClass := this
  superClass := sup
  interfaces := ifs
  fields := fds
  methods := ms
  attributes := attrs
def plain (name : String) (sup : Option ClassId) : Class where
  name := name
  kind := .ordinary
  loader := none
  accessFlags := 33
  super := sup
  interfaces := #[]
  cf := none
  fields := #[]
  methods := #[]
  instanceTypes := #[]
  staticTypes := #[]
  resolved := #[]
  callSites := []
  init := .initialized
  statics := none
  mirror := none

def pool0 : Array CpInfo := pool [(5, u "<init>"), (0, u "()V"), (1, .class_ 10), (1, u "java/lang/Object")] 113

def k0m0 : Method := { name := "<init>", desc := "()V", sig := { parameters := [], returnType := none }, accessFlags := 1, code := none }
/-- java/lang/Object -/
def k0 : Class := { plain "java/lang/Object" none with
  accessFlags := 33
  interfaces := #[]
  cf := some (fileOf pool0 8 #[] #[{ accessFlags := 1, nameIndex := 5, descriptorIndex := 6, attributes := #[] }] 33 0 #[] #[])
  fields := #[]
  methods := #[k0m0]
  instanceTypes := #[]
  staticTypes := #[]
  resolved := Array.replicate 124 none
  statics := none }

def pool1 : Array CpInfo := pool [(2, .class_ 4), (1, u "java/lang/Object"), (0, u "<init>"), (0, u "()V"), (0, .methodref 8 9), (0, .class_ 10), (0, .nameAndType 11 12), (0, u "java/lang/Math"), (0, u "min"), (0, u "(II)I"), (0, .integer 262144), (0, .methodref 15 16), (0, .class_ 17), (0, .nameAndType 18 19), (0, u "nestrel/json/text/Utf8"), (0, u "codePointAt"), (0, u "([BII)I"), (0, .class_ 21), (0, u "nestrel/json/text/Utf8CodePointAtPinLaw"), (2, u "law"), (0, u "(IIIIII)Z")] 5

def k1m0 : Method := { name := "<init>", desc := "()V", sig := { parameters := [], returnType := none }, accessFlags := 1, code := none }
def k1c1 : Code := { maxStack := 3, maxLocals := 17, code := code, exceptionTable := #[], attributes := #[] }
def k1m1 : Method := { name := "law", desc := "(IIIIII)Z", sig := { parameters := [.int, .int, .int, .int, .int, .int], returnType := some .boolean }, accessFlags := 9, code := some k1c1 }
/-- nestrel/json/text/Utf8CodePointAtPinLaw -/
def k1 : Class := { plain "nestrel/json/text/Utf8CodePointAtPinLaw" (some 0) with
  accessFlags := 49
  interfaces := #[]
  cf := some (fileOf pool1 20 #[] #[{ accessFlags := 1, nameIndex := 5, descriptorIndex := 6, attributes := #[] }, { accessFlags := 9, nameIndex := 24, descriptorIndex := 25, attributes := #[] }] 49 2 #[] #[])
  fields := #[]
  methods := #[k1m0, k1m1]
  instanceTypes := #[]
  staticTypes := #[]
  resolved := Array.replicate 31 none
  statics := none }

def pool2 : Array CpInfo := pool [(1, .class_ 2), (0, u "java/lang/Math"), (1, .class_ 6), (1, u "java/lang/Object"), (0, u "<init>"), (0, u "()V"), (89, .class_ 100), (1, u "java/lang/Math$RandomNumberGeneratorHolder"), (71, u "negativeZeroFloatBits"), (0, u "J"), (2, u "negativeZeroDoubleBits"), (24, u "min"), (43, u "$assertionsDisabled"), (0, u "Z"), (88, u "(II)I"), (2, u "twoToTheDoubleScaleDown"), (0, u "D"), (4, u "twoToTheDoubleScaleUp"), (9, u "E"), (3, u "PI"), (2, u "TAU"), (2, u "DEGREES_TO_RADIANS"), (0, u "RADIANS_TO_DEGREES")] 94

def k2m0 : Method := { name := "<init>", desc := "()V", sig := { parameters := [], returnType := none }, accessFlags := 2, code := none }
def k2c1 : Code := { maxStack := 2, maxLocals := 2, code := jdk_29_method_69_code, exceptionTable := #[], attributes := #[] }
def k2m1 : Method := { name := "min", desc := "(II)I", sig := { parameters := [.int, .int], returnType := some .int }, accessFlags := 9, code := some k2c1 }
/-- java/lang/Math -/
def k2 : Class := { plain "java/lang/Math" (some 0) with
  accessFlags := 49
  interfaces := #[]
  cf := some (fileOf pool2 1 #[.nestMembers #[98]] #[{ accessFlags := 2, nameIndex := 7, descriptorIndex := 8, attributes := #[] }, { accessFlags := 9, nameIndex := 201, descriptorIndex := 335, attributes := #[] }] 49 4 #[] #[{ accessFlags := 25, nameIndex := 354, descriptorIndex := 339, attributes := #[] }, { accessFlags := 25, nameIndex := 358, descriptorIndex := 339, attributes := #[] }, { accessFlags := 25, nameIndex := 361, descriptorIndex := 339, attributes := #[] }, { accessFlags := 26, nameIndex := 364, descriptorIndex := 339, attributes := #[] }, { accessFlags := 26, nameIndex := 365, descriptorIndex := 339, attributes := #[] }, { accessFlags := 26, nameIndex := 172, descriptorIndex := 173, attributes := #[] }, { accessFlags := 26, nameIndex := 176, descriptorIndex := 173, attributes := #[] }, { accessFlags := 8, nameIndex := 344, descriptorIndex := 339, attributes := #[] }, { accessFlags := 8, nameIndex := 338, descriptorIndex := 339, attributes := #[] }, { accessFlags := 4120, nameIndex := 245, descriptorIndex := 246, attributes := #[] }])
  fields := #[{ name := "E", type := .double, accessFlags := 25, slot := 0, constantValue := 0 }, { name := "PI", type := .double, accessFlags := 25, slot := 1, constantValue := 0 }, { name := "TAU", type := .double, accessFlags := 25, slot := 2, constantValue := 0 }, { name := "DEGREES_TO_RADIANS", type := .double, accessFlags := 26, slot := 3, constantValue := 0 }, { name := "RADIANS_TO_DEGREES", type := .double, accessFlags := 26, slot := 4, constantValue := 0 }, { name := "negativeZeroFloatBits", type := .long, accessFlags := 26, slot := 5, constantValue := 0 }, { name := "negativeZeroDoubleBits", type := .long, accessFlags := 26, slot := 6, constantValue := 0 }, { name := "twoToTheDoubleScaleUp", type := .double, accessFlags := 8, slot := 7, constantValue := 0 }, { name := "twoToTheDoubleScaleDown", type := .double, accessFlags := 8, slot := 8, constantValue := 0 }, { name := "$assertionsDisabled", type := .boolean, accessFlags := 4120, slot := 9, constantValue := 0 }]
  methods := #[k2m0, k2m1]
  instanceTypes := #[]
  staticTypes := #[.double, .double, .double, .double, .double, .long, .long, .double, .double, .boolean]
  resolved := Array.replicate 460 none
  statics := none }

def pool3 : Array CpInfo := pool [(4, .class_ 6), (1, u "java/lang/Object"), (0, u "<init>"), (0, u "()V"), (0, .class_ 10), (0, u "nestrel/json/text/Utf8"), (8, u "WORDS"), (0, u "Ljava/lang/invoke/VarHandle;"), (41, u "codePointAt"), (25, u "MAX_BYTES"), (0, u "I"), (2, u "TOO_LONG"), (0, u "Ljava/lang/String;"), (0, u "HIGH_BITS"), (0, u "J"), (0, u "SHORT"), (7, u "([BII)I")] 5

def k3m0 : Method := { name := "<init>", desc := "()V", sig := { parameters := [], returnType := none }, accessFlags := 2, code := none }
def k3c1 : Code := { maxStack := 3, maxLocals := 7, code := prog_210_method_4_code, exceptionTable := #[], attributes := #[] }
def k3m1 : Method := { name := "codePointAt", desc := "([BII)I", sig := { parameters := [(.array .byte), .int, .int], returnType := some .int }, accessFlags := 8, code := some k3c1 }
/-- nestrel/json/text/Utf8 -/
def k3 : Class := { plain "nestrel/json/text/Utf8" (some 0) with
  accessFlags := 49
  interfaces := #[]
  cf := some (fileOf pool3 9 #[] #[{ accessFlags := 2, nameIndex := 7, descriptorIndex := 8, attributes := #[] }, { accessFlags := 8, nameIndex := 62, descriptorIndex := 104, attributes := #[] }] 49 4 #[] #[{ accessFlags := 25, nameIndex := 88, descriptorIndex := 89, attributes := #[] }, { accessFlags := 26, nameIndex := 92, descriptorIndex := 93, attributes := #[] }, { accessFlags := 26, nameIndex := 19, descriptorIndex := 20, attributes := #[] }, { accessFlags := 26, nameIndex := 94, descriptorIndex := 95, attributes := #[] }, { accessFlags := 26, nameIndex := 96, descriptorIndex := 89, attributes := #[] }])
  fields := #[{ name := "MAX_BYTES", type := .int, accessFlags := 25, slot := 0, constantValue := 0 }, { name := "TOO_LONG", type := (.object "java/lang/String"), accessFlags := 26, slot := 1, constantValue := 0 }, { name := "WORDS", type := (.object "java/lang/invoke/VarHandle"), accessFlags := 26, slot := 2, constantValue := 0 }, { name := "HIGH_BITS", type := .long, accessFlags := 26, slot := 3, constantValue := 0 }, { name := "SHORT", type := .int, accessFlags := 26, slot := 4, constantValue := 0 }]
  methods := #[k3m0, k3m1]
  instanceTypes := #[]
  staticTypes := #[.int, (.object "java/lang/String"), (.object "java/lang/invoke/VarHandle"), .long, .int]
  resolved := Array.replicate 110 none
  statics := none }

def pool4 : Array CpInfo := pool [(1, u "java/lang/Cloneable"), (0, .class_ 1), (0, u "java/lang/Object"), (0, .class_ 3)] 3

/-- java/lang/Cloneable -/
def k4 : Class := { plain "java/lang/Cloneable" (some 0) with
  accessFlags := 1537
  interfaces := #[]
  cf := some (fileOf pool4 2 #[] #[] 1537 4 #[] #[])
  fields := #[]
  methods := #[]
  instanceTypes := #[]
  staticTypes := #[]
  resolved := Array.replicate 8 none
  statics := none }

def pool5 : Array CpInfo := pool [(1, u "java/io/Serializable"), (0, .class_ 1), (0, u "java/lang/Object"), (0, .class_ 3)] 3

/-- java/io/Serializable -/
def k5 : Class := { plain "java/io/Serializable" (some 0) with
  accessFlags := 1537
  interfaces := #[]
  cf := some (fileOf pool5 2 #[] #[] 1537 4 #[] #[])
  fields := #[]
  methods := #[]
  instanceTypes := #[]
  staticTypes := #[]
  resolved := Array.replicate 8 none
  statics := none }

/-- the primitive byte -/
def k6 : Class := { plain "byte" none with kind := .primitive 'B', accessFlags := 0x411 }
/-- [B -/
def k7 : Class := { plain "[B" (some 0) with kind := .array 6 .byte, interfaces := #[4, 5], accessFlags := 1041 }

/-- the primitive int -/
def k8 : Class := { plain "int" none with kind := .primitive 'I', accessFlags := 0x411 }
/-- [I -/
def k9 : Class := { plain "[I" (some 0) with kind := .array 8 .int, interfaces := #[4, 5], accessFlags := 1041 }

def heap : Heap := #[]
def classes : Array Class := #[k0, k1, k2, k3, k4, k5, k6, k7, k8, k9]
def interned : List (Array UInt16 × Addr) := []
def slotsUsed : Nat := 0
def theMethod : MethodId := ⟨1, 1⟩
def args0 : Array Value := #[.int 200, .int 129, .int 130, .int 131, .int 5, .int 7]
def aboutOver (below : List Frame) : State where
  vm := { classes := classes, interned := interned.toArray }
  heap := heap
  slotsUsed := slotsUsed
  threads := #[{ frames := .invoking theMethod args0 :: below }]
def below0 : List Frame := [.native { method := ⟨0, 0⟩, args := #[] }]
def about1 : State := aboutOver below0
def p0 : Program := .bare "" "" ""
def e0 : Env := launch0.env 0 0 0
theorem w_frames : about1.frames = Frame.invoking theMethod args0 :: below0 := rfl
set_option maxRecDepth 65536 in
theorem w_args : argsFit about1.vm theMethod args0 = true := by decide +kernel
set_option maxRecDepth 65536 in
theorem w_heap : heapFits about1 = true := by decide +kernel
set_option maxRecDepth 65536 in
theorem w_runnable : about1.curStatus? = some .runnable := by decide +kernel
set_option maxRecDepth 65536 in
theorem w_alone : about1.alone = true := by decide +kernel
set_option maxRecDepth 65536 in
theorem w_named : about1.methodNamed? x = some theMethod := by decide +kernel
set_option maxRecDepth 65536 in
theorem w_hears : about1.hears theMethod below0 = true := by decide +kernel
set_option maxRecDepth 65536 in
theorem w_ripe : about1.ripe theMethod args0 below0 = true := by decide +kernel
theorem w_running : about1.status = .running := rfl
set_option maxRecDepth 65536 in
theorem w_room : about1.hasRoom e0.platform room_1 = true :=
  launch0.hasRoom_least _ room_1 (by decide +kernel) (by decide +kernel) (by decide +kernel) (by decide +kernel) (by decide +kernel) (by decide +kernel)
theorem allAtoms_all (ts : List Jvm.Cond) (a : Array Jvm.Value) (st : Jvm.State) : (allAtoms ts).before a st = ts.all (fun c => c.before a st) := by
  induction ts with
  | nil => rfl
  | cons c t ih =>
    show (Jvm.Cond.and c (allAtoms t)).before a st = _
    rw [Jvm.Cond.before_and, ih, List.all_cons]
def words1 : List Jvm.Cond := Jvm.Cond.code x code maxLocals ret :: tables_1
/-- a 'code' word, met by the world's own term for the bytes: nothing is compared byte by byte -/
theorem code_word {y : MethodName} {bytes : ByteArray} {mx : Nat} {rt : Option FieldType} {a : Array Value} {s : State} {m : MethodId} {meth : Method} {c : Code} (h1 : s.methodNamed? y = some m) (h2 : s.vm.method? m = some meth) (h3 : meth.code = some c) (h4 : c.code = bytes)
    (h5 : (c.maxLocals == mx && c.exceptionTable.isEmpty && decide (c.maxStack ≤ mostOperands) && decide (meth.sig.returnType = rt) && !meth.locks && decide (parseMethodDescriptor y.desc = some meth.sig)) = true) : (Jvm.Cond.code y bytes mx rt).before a s = true := by
  simp only [Bool.and_eq_true, beq_iff_eq, Bool.not_eq_true', decide_eq_true_eq] at h5
  obtain ⟨⟨⟨⟨⟨g1, g2⟩, g3⟩, g4⟩, g5⟩, g6⟩ := h5
  simp [Cond.before, Cond.holds, Cond.value, h1, h2, h3, h4, g1, g2, g3, g4, g5, g6]
def isCode : Jvm.Cond → Bool
  | .code _ _ _ _ => true
  | _ => false
theorem all_split {L : List Jvm.Cond} {P : Jvm.Cond → Bool} (h1 : L.all (fun c => isCode c || P c) = true) (h2 : ∀ c ∈ L.filter isCode, P c = true) : L.all P = true := by
  refine List.all_eq_true.mpr fun c hc => ?_
  have h := List.all_eq_true.mp h1 c hc
  rcases Bool.eq_false_or_eq_true (isCode c) with hi | hi
  · exact h2 c (List.mem_filter.mpr ⟨hc, hi⟩)
  · simpa [hi] using h
set_option maxRecDepth 65536 in
theorem w_c0 : (Jvm.Cond.code x code maxLocals ret).before args0 about1 = true := code_word (m := ⟨1, 1⟩) (meth := k1m1) (c := k1c1) (by decide +kernel) rfl rfl rfl (by decide +kernel)
set_option maxRecDepth 65536 in
theorem w_c1 : (Jvm.Cond.code ({ cls := "java/lang/Math", name := "min", desc := "(II)I" } : Jvm.MethodName) jdk_29_method_69_code (2 : Nat) (Option.some Jvm.ClassFile.FieldType.int)).before args0 about1 = true := code_word (m := ⟨2, 1⟩) (meth := k2m1) (c := k2c1) (by decide +kernel) rfl rfl rfl (by decide +kernel)
set_option maxRecDepth 65536 in
theorem w_c2 : (Jvm.Cond.code ({ cls := "nestrel/json/text/Utf8", name := "codePointAt", desc := "([BII)I" } : Jvm.MethodName) prog_210_method_4_code (7 : Nat) (Option.some Jvm.ClassFile.FieldType.int)).before args0 about1 = true := code_word (m := ⟨3, 1⟩) (meth := k3m1) (c := k3c1) (by decide +kernel) rfl rfl rfl (by decide +kernel)
def codes1 : List Jvm.Cond := [Jvm.Cond.code x code maxLocals ret, Jvm.Cond.code ({ cls := "java/lang/Math", name := "min", desc := "(II)I" } : Jvm.MethodName) jdk_29_method_69_code (2 : Nat) (Option.some Jvm.ClassFile.FieldType.int), Jvm.Cond.code ({ cls := "nestrel/json/text/Utf8", name := "codePointAt", desc := "([BII)I" } : Jvm.MethodName) prog_210_method_4_code (7 : Nat) (Option.some Jvm.ClassFile.FieldType.int)]
set_option maxRecDepth 65536 in
theorem codes_eq : words1.filter isCode = codes1 := rfl
theorem w_codes : ∀ c ∈ words1.filter isCode, c.before args0 about1 = true := by
  rw [codes_eq]
  intro c hc
  simp only [codes1, List.mem_cons, List.not_mem_nil, or_false] at hc
  rcases hc with rfl | rfl | rfl
  · exact w_c0
  · exact w_c1
  · exact w_c2
set_option maxRecDepth 65536 in
theorem w_t1 : words1.all (fun c => isCode c || c.before args0 about1) = true := by decide +kernel
theorem w_tables : (allAtoms (Jvm.Cond.code x code maxLocals ret :: tables_1)).before args0 about1 = true := by
  rw [allAtoms_all]
  show words1.all (fun c => c.before args0 about1) = true
  refine all_split ?_ w_codes
  rw [w_t1]
set_option maxRecDepth 65536 in
theorem w_case : (Jvm.Cond.and given_1 narrow_1).before args0 about1 = true := by decide +kernel
theorem w_applies : (headSpec (Jvm.Cond.code x code maxLocals ret :: tables_1) room_1).applies x e0.platform about1 = true :=
  (Spec.applies_iff w_frames).mpr ⟨w_running, w_runnable, w_alone, w_named, w_hears, w_ripe, w_room, w_tables⟩
theorem atStart : AtStart classFile x code maxLocals ret World_1 tables_1 room_1 Calls_1 rest_1 Pre_1 launch0 p0 e0 about1 theMethod args0 below0 :=
  ⟨lists_1, trivial, launch0.admits_env _ _ _, launch0.least_env, fairChoices_fair.cas, fairChoices_fair.clock, w_frames, w_args, w_heap, w_applies, trivial, trivial, w_case⟩
end start1
theorem witness_1 : WitnessClaimed_1 := ⟨start1.p0, start1.e0, start1.about1, start1.theMethod, start1.args0, start1.below0, start1.atStart⟩
end Jvm.Pilot.@@N@@
