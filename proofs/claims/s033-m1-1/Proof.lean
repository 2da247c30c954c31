import JvmDerived
import JvmDerived.Pilot.@@N@@Statement
import JvmDerived.Pilot.@@N@@Code
set_option linter.unusedVariables false
set_option linter.unusedSimpArgs false
namespace Jvm.RoadKit
open Sem ClassFile Op Lib Jvm.Stand Jvm.Free Jvm.LawKit
section New
variable {p : Program} {l : Launch} {e : Env} {R : Room} {s : State} {m : MethodId} {args : Array Value} {below : List Frame} {meth : Method} {c : Code} {T : State} {locs : List Loc} {cells slots : Nat}
theorem retI (X : Stand p l e R s m args below meth c T locs cells slots) (hx : p.tables.exec = Jvm.exec) {pc : Nat} {Ls : Array Slot} {z : Int32} {rest : List Value} (hret : meth.sig.returnType = some .int) (hd : decode c.code pc = .ok (.ireturn, 1)) {fs : List Frame}
    (hl : ∀ (f : JFrame) (acts : List Action), f.method = m → f.locked = none → f.entered = [] → (doReturn e (T.setTop f) acts (some (.int z))).1 = T.setFrames fs) : Steps p.tables e below (T.setTop (mkF m pc Ls (.int z :: rest))) (T.setFrames fs) := by
  have hm' : T.vm.method? m = some meth := X.method'
  have hn : narrow .int (.int z) = .int z := rfl
  show Steps p.tables e below (T.setTop { method := m, pc := pc, locals := Ls, stack := _ :: rest, locked := none }) _
  jvm_step X.here [X.here.top, hx, hd, hm', hret, hn]
  first | (intro acts; rw [hl _ acts rfl rfl rfl]) | rw [hl _ _ rfl rfl rfl]
  exact Steps.refl _
end New
end Jvm.RoadKit
namespace Jvm.Pilot.@@N@@
open Jvm Jvm.ClassFile Sem Op Lib Jvm.Free Jvm.Stand Jvm.LawKit Jvm.RoadKit Bundle Jvm.Pilot.@@N@@.Jvm.D
section OwnKit
variable {Z : State} {a0 : Array Value} {n0 : Nat} {p : Program} {l : Launch} {e : Env} {R : Room} {s : State} {m : MethodId} {args : Array Value} {below : List Frame} {meth : Method} {c : Code} {code : ByteArray} {ml : Nat} {ret : Option FieldType} {y : MethodName} {T : State} {h h' : Heap} {k j : Nat} {Q : Option Value → Heap → Prop} {pc nx tgt : Nat} {Ls : Array Slot} {S : List Value}
/-- Java's shifts -/
abbrev jshl (x q : Int32) : Int32 := x <<< (q &&& 31)
abbrev jshr (x q : Int32) : Int32 := x >>> (q &&& 31)
abbrev jushr (x q : Int32) : Int32 := (x.toUInt32 >>> (q &&& 31).toUInt32).toInt32
abbrev jshlL (x : Int64) (q : Int32) : Int64 := x <<< (q &&& 0x3f).toInt64
abbrev jshrL (x : Int64) (q : Int32) : Int64 := x >>> (q &&& 0x3f).toInt64
abbrev jushrL (x : Int64) (q : Int32) : Int64 := (x.toUInt64 >>> (q &&& 0x3f).toInt64.toUInt64).toInt64
abbrev jbyte (x : Int32) : Int32 := x.toInt8.toInt32
/-- the instruction at pc, and the pc behind it -/
def Dec (code : ByteArray) (pc : Nat) (i : Instr) (len nx : Nat) : Prop := decode code pc = .ok (i, len) ∧ nx = pc + len
/-- a jump at pc: the pc behind it, and where it goes -/
def Jmp (code : ByteArray) (pc : Nat) (i : Instr) (o : Int) (nx tgt : Nat) : Prop := decode code pc = .ok (i, 3) ∧ nx = pc + 3 ∧ 0 ≤ (pc : Int) + o ∧ ((pc : Int) + o).toNat = tgt
/-- where a body's run stands: the heap, the cells and slots made; nothing older than n0 was written -/
def Pos (Z : State) (a0 : Array Value) (n0 : Nat) (p : Program) (l : Launch) (e : Env) (R : Room) (s : State) (m : MethodId) (args : Array Value) (below : List Frame) (meth : Method) (c : Code) (code : ByteArray) (ml : Nat) (ret : Option FieldType) (y : MethodName) (T : State) (h : Heap) (k j : Nat) : Prop :=
  p.tables.exec = Jvm.exec ∧ Z.Warmed39 s.vm ∧ c.code = code ∧ c.maxLocals = ml ∧ meth.sig.returnType = ret ∧ s.vm.findClass y.cls = some m.cls ∧ meth.name = y.name ∧ meth.locks = false ∧ T.heap = h ∧ n0 ≤ h.size ∧ (∀ d ∈ tables_1, d.before a0 Z = true) ∧ ∃ locs, Fr n0 locs ∧ Stand p l e R s m args below meth c T locs k j
/-- from the frame f over T the body comes to its end, and Q says with what -/
def Wp (n0 : Nat) (p : Program) (e : Env) (R : Room) (s : State) (below : List Frame) (Q : Option Value → Heap → Prop) (T : State) (f : JFrame) : Prop :=
  ∃ t o, Steps p.tables e below (T.setTop f) t ∧ t.status = .running ∧ Ended t below o ∧ ∃ v L, o = .returned v ∧ (Fr n0 L ∧ n0 ≤ t.heap.size ∧ Q v t.heap) ∧ FrameEnd s o t L R.cells R.slots
/-- a body's contract at one array of arguments and one heap -/
def Ctr (l : Launch) (Z : State) (n0 : Nat) (y : MethodName) (code : ByteArray) (ml : Nat) (ret : Option FieldType) (R : Room) (ws : List Jvm.Cond) (as : Array Value) (h : Heap) (Q : Option Value → Heap → Prop) : Prop :=
  MetFree l y (head1 (Jvm.Cond.code y code ml ret :: ws) R) (fun a U => a = as ∧ Z.Warmed39 U.vm ∧ U.heap = h) (fun _ _ _ _ _ => True) (fun _ U o U' => ∃ v L, o = .returned v ∧ (Fr n0 L ∧ n0 ≤ U'.heap.size ∧ Q v U'.heap) ∧ FrameEnd U o U' L R.cells R.slots)
/-- an array of n places: place i holds g i; it is no older than n0 -/
def Ba (Z : State) (n0 : Nat) (h : Heap) (a : Addr) (ty : FieldType) (n : Nat) (g : Nat → Value) : Prop :=
  n0 ≤ a ∧ n < 2147483648 ∧ ∃ c : Cell, Arr Z h a c ty ∧ c.slots.size = n ∧ ∀ i, i < n → c.slots[i]? = some (g i)
def bI (b : Nat → Int32) : Nat → Value := fun i => .int (b i)
def bJ (b : Nat → Int64) : Nat → Value := fun i => .long (b i)
def upd {α : Type} (b : Nat → α) (i : Nat) (v : α) : Nat → α := fun q => if q = i then v else b q
theorem upd_at {α : Type} (b : Nat → α) (i : Nat) (v : α) : upd b i v i = v := if_pos rfl
theorem upd_ne {α : Type} (b : Nat → α) {i q : Nat} (v : α) (h : q ≠ i) : upd b i v q = b q := if_neg h
theorem Ba.lt {a : Addr} {ty : FieldType} {n : Nat} {g : Nat → Value} (B : Ba Z n0 h a ty n g) : a < h.size := by obtain ⟨-, -, c, A, -⟩ := B; exact A.lt
theorem Ba.ext {a : Addr} {ty : FieldType} {n : Nat} {g : Nat → Value} (B : Ba Z n0 h a ty n g) (E : Ext h h') : Ba Z n0 h' a ty n g := by obtain ⟨q1, q2, c, A, r⟩ := B; exact ⟨q1, q2, c, A.ext E, r⟩
theorem Ba.keep {a : Addr} {ty : FieldType} {n : Nat} {g : Nat → Value} {ws : List Addr} (B : Ba Z n0 h a ty n g) (K : Keep h h' ws) (q : a ∉ ws) : Ba Z n0 h' a ty n g := by obtain ⟨q1, q2, c, A, r⟩ := B; exact ⟨q1, q2, c, ⟨K.2.1 a c A.1 q, A.2⟩, r⟩
theorem Ba.congr {a : Addr} {ty : FieldType} {n : Nat} {g g' : Nat → Value} (B : Ba Z n0 h a ty n g) (q : ∀ i, i < n → g i = g' i) : Ba Z n0 h a ty n g' := by obtain ⟨q1, q2, c, A, r1, r2⟩ := B; exact ⟨q1, q2, c, A, r1, fun i hi => by rw [r2 i hi, q i hi]⟩
theorem ofNat_toInt {n : Nat} (h : n < 2147483648) : (Int32.ofNat n).toInt = n := Int32.toInt_ofNat_of_lt (by omega)
theorem ofNat_clamp {n : Nat} (h : n < 2147483648) : (Int32.ofNat n).toNatClampNeg = n := by rw [Int32.toNatClampNeg, ofNat_toInt h]; rfl
theorem ofNat_nn {n : Nat} (h : n < 2147483648) : ¬ Int32.ofNat n < 0 := by rw [Int32.lt_iff_toInt_lt, ofNat_toInt h, show (0 : Int32).toInt = 0 from rfl]; omega
theorem ofNat_lt {a b : Nat} (ha : a < 2147483648) (hb : b < 2147483648) : Int32.ofNat a < Int32.ofNat b ↔ a < b := by rw [Int32.lt_iff_toInt_lt, ofNat_toInt ha, ofNat_toInt hb]; omega
theorem eq_ofNat {x : Int32} {n : Nat} (hn : n < 2147483648) (h : x.toInt = n) : x = Int32.ofNat n := Int32.toInt_inj.mp (by rw [h, ofNat_toInt hn])
theorem inb {c : Cell} {n i : Nat} (hn : n < 2147483648) (hc : c.slots.size = n) (hi : i < n) : ¬ (Int32.ofNat i < 0 ∨ c.slots.size ≤ (Int32.ofNat i).toNatClampNeg) := by
  rw [hc, ofNat_clamp (by omega)]
  exact fun q => q.elim (ofNat_nn (by omega)) (fun q => by omega)
theorem Pos.sz (X : Pos Z a0 n0 p l e R s m args below meth c code ml ret y T h k j) : n0 ≤ h.size := X.2.2.2.2.2.2.2.2.2.1
theorem Wp.go {T' : State} {f f' : JFrame} (st : ∀ target, Steps p.tables e below (T'.setTop f') target → Steps p.tables e below (T.setTop f) target) (q : Wp n0 p e R s below Q T' f') : Wp n0 p e R s below Q T f := by
  obtain ⟨t, o, h1, r⟩ := q; exact ⟨t, o, st t h1, r⟩
theorem Wp.cast {f f' : JFrame} (q : f = f') (w : Wp n0 p e R s below Q T f') : Wp n0 p e R s below Q T f := q ▸ w
theorem ctr_of {ws : List Jvm.Cond} {as : Array Value} (hp : plainFor y = true) (hw : ∀ d ∈ tables_1, d.before a0 Z = true) (hn : n0 ≤ h.size)
    (body : ∀ p e s m below meth c T, Pos Z a0 n0 p l e R s m as below meth c code ml ret y T h 0 0 → Wp n0 p e R s below Q T (entryFrame m as ml)) : Ctr l Z n0 y code ml ret R ws as h Q := by
  refine MetFree.of_bodySF hp hisR ?_
  intro p e s m args below meth c s₁ Bd hml0 hP hK
  obtain ⟨rfl, hZ, hh⟩ := hP
  exact body p e s m below meth c s₁ ⟨Bd.exec, hZ, Bd.bytes, hml0, Bd.returns, findClass_of_methodNamed Bd.named, (name_of_methodNamed Bd.named Bd.method).1, Bd.notSynchronized, by rw [← hh, Bd.state]; rfl, hn, hw, [], Fr.nil _, Stand.of_body Bd⟩
theorem w_iadd (X : Pos Z a0 n0 p l e R s m args below meth c code ml ret y T h k j) {x z : Int32} (hd : Dec code pc .iadd 1 nx) (q : Wp n0 p e R s below Q T (mkF m nx Ls (.int (x + z) :: S))) : Wp n0 p e R s below Q T (mkF m pc Ls (.int z :: .int x :: S)) := by
  obtain ⟨hx, hZ, hby, hml, hret, hown, hnm, hlk, eT, hn0, hw, locs, N, Y⟩ := X
  obtain ⟨hd, rfl⟩ := hd
  exact Wp.go (fun _ q => XS.iadd Y.here hx rfl (hb hby hd) rfl q) q
theorem w_isub (X : Pos Z a0 n0 p l e R s m args below meth c code ml ret y T h k j) {x z : Int32} (hd : Dec code pc .isub 1 nx) (q : Wp n0 p e R s below Q T (mkF m nx Ls (.int (x - z) :: S))) : Wp n0 p e R s below Q T (mkF m pc Ls (.int z :: .int x :: S)) := by
  obtain ⟨hx, hZ, hby, hml, hret, hown, hnm, hlk, eT, hn0, hw, locs, N, Y⟩ := X
  obtain ⟨hd, rfl⟩ := hd
  exact Wp.go (fun _ q => XS.isub Y.here hx rfl (hb hby hd) rfl q) q
theorem w_imul (X : Pos Z a0 n0 p l e R s m args below meth c code ml ret y T h k j) {x z : Int32} (hd : Dec code pc .imul 1 nx) (q : Wp n0 p e R s below Q T (mkF m nx Ls (.int (x * z) :: S))) : Wp n0 p e R s below Q T (mkF m pc Ls (.int z :: .int x :: S)) := by
  obtain ⟨hx, hZ, hby, hml, hret, hown, hnm, hlk, eT, hn0, hw, locs, N, Y⟩ := X
  obtain ⟨hd, rfl⟩ := hd
  exact Wp.go (fun _ q => XS.imul Y.here hx rfl (hb hby hd) rfl q) q
theorem w_iand (X : Pos Z a0 n0 p l e R s m args below meth c code ml ret y T h k j) {x z : Int32} (hd : Dec code pc .iand 1 nx) (q : Wp n0 p e R s below Q T (mkF m nx Ls (.int (x &&& z) :: S))) : Wp n0 p e R s below Q T (mkF m pc Ls (.int z :: .int x :: S)) := by
  obtain ⟨hx, hZ, hby, hml, hret, hown, hnm, hlk, eT, hn0, hw, locs, N, Y⟩ := X
  obtain ⟨hd, rfl⟩ := hd
  exact Wp.go (fun _ q => XS.iand Y.here hx rfl (hb hby hd) rfl q) q
theorem w_ior (X : Pos Z a0 n0 p l e R s m args below meth c code ml ret y T h k j) {x z : Int32} (hd : Dec code pc .ior 1 nx) (q : Wp n0 p e R s below Q T (mkF m nx Ls (.int (x ||| z) :: S))) : Wp n0 p e R s below Q T (mkF m pc Ls (.int z :: .int x :: S)) := by
  obtain ⟨hx, hZ, hby, hml, hret, hown, hnm, hlk, eT, hn0, hw, locs, N, Y⟩ := X
  obtain ⟨hd, rfl⟩ := hd
  exact Wp.go (fun _ q => XS.ior Y.here hx rfl (hb hby hd) rfl q) q
theorem w_ixor (X : Pos Z a0 n0 p l e R s m args below meth c code ml ret y T h k j) {x z : Int32} (hd : Dec code pc .ixor 1 nx) (q : Wp n0 p e R s below Q T (mkF m nx Ls (.int (x ^^^ z) :: S))) : Wp n0 p e R s below Q T (mkF m pc Ls (.int z :: .int x :: S)) := by
  obtain ⟨hx, hZ, hby, hml, hret, hown, hnm, hlk, eT, hn0, hw, locs, N, Y⟩ := X
  obtain ⟨hd, rfl⟩ := hd
  exact Wp.go (fun _ q => XS.ixor Y.here hx rfl (hb hby hd) rfl q) q
theorem w_ishl (X : Pos Z a0 n0 p l e R s m args below meth c code ml ret y T h k j) {x z : Int32} (hd : Dec code pc .ishl 1 nx) (q : Wp n0 p e R s below Q T (mkF m nx Ls (.int (jshl x z) :: S))) : Wp n0 p e R s below Q T (mkF m pc Ls (.int z :: .int x :: S)) := by
  obtain ⟨hx, hZ, hby, hml, hret, hown, hnm, hlk, eT, hn0, hw, locs, N, Y⟩ := X
  obtain ⟨hd, rfl⟩ := hd
  exact Wp.go (fun _ q => XS.ishl Y.here hx rfl (hb hby hd) rfl q) q
theorem w_ishr (X : Pos Z a0 n0 p l e R s m args below meth c code ml ret y T h k j) {x z : Int32} (hd : Dec code pc .ishr 1 nx) (q : Wp n0 p e R s below Q T (mkF m nx Ls (.int (jshr x z) :: S))) : Wp n0 p e R s below Q T (mkF m pc Ls (.int z :: .int x :: S)) := by
  obtain ⟨hx, hZ, hby, hml, hret, hown, hnm, hlk, eT, hn0, hw, locs, N, Y⟩ := X
  obtain ⟨hd, rfl⟩ := hd
  exact Wp.go (fun _ q => XS.ishr Y.here hx rfl (hb hby hd) rfl q) q
theorem w_iushr (X : Pos Z a0 n0 p l e R s m args below meth c code ml ret y T h k j) {x z : Int32} (hd : Dec code pc .iushr 1 nx) (q : Wp n0 p e R s below Q T (mkF m nx Ls (.int (jushr x z) :: S))) : Wp n0 p e R s below Q T (mkF m pc Ls (.int z :: .int x :: S)) := by
  obtain ⟨hx, hZ, hby, hml, hret, hown, hnm, hlk, eT, hn0, hw, locs, N, Y⟩ := X
  obtain ⟨hd, rfl⟩ := hd
  exact Wp.go (fun _ q => XS.iushr Y.here hx rfl (hb hby hd) rfl q) q
theorem w_ladd (X : Pos Z a0 n0 p l e R s m args below meth c code ml ret y T h k j) {x z : Int64} (hd : Dec code pc .ladd 1 nx) (q : Wp n0 p e R s below Q T (mkF m nx Ls (.long (x + z) :: S))) : Wp n0 p e R s below Q T (mkF m pc Ls (.long z :: .long x :: S)) := by
  obtain ⟨hx, hZ, hby, hml, hret, hown, hnm, hlk, eT, hn0, hw, locs, N, Y⟩ := X
  obtain ⟨hd, rfl⟩ := hd
  exact Wp.go (fun _ q => XS.ladd Y.here hx rfl (hb hby hd) rfl q) q
theorem w_lsub (X : Pos Z a0 n0 p l e R s m args below meth c code ml ret y T h k j) {x z : Int64} (hd : Dec code pc .lsub 1 nx) (q : Wp n0 p e R s below Q T (mkF m nx Ls (.long (x - z) :: S))) : Wp n0 p e R s below Q T (mkF m pc Ls (.long z :: .long x :: S)) := by
  obtain ⟨hx, hZ, hby, hml, hret, hown, hnm, hlk, eT, hn0, hw, locs, N, Y⟩ := X
  obtain ⟨hd, rfl⟩ := hd
  exact Wp.go (fun _ q => XS.lsub Y.here hx rfl (hb hby hd) rfl q) q
theorem w_lmul (X : Pos Z a0 n0 p l e R s m args below meth c code ml ret y T h k j) {x z : Int64} (hd : Dec code pc .lmul 1 nx) (q : Wp n0 p e R s below Q T (mkF m nx Ls (.long (x * z) :: S))) : Wp n0 p e R s below Q T (mkF m pc Ls (.long z :: .long x :: S)) := by
  obtain ⟨hx, hZ, hby, hml, hret, hown, hnm, hlk, eT, hn0, hw, locs, N, Y⟩ := X
  obtain ⟨hd, rfl⟩ := hd
  exact Wp.go (fun _ q => XS.lmul Y.here hx rfl (hb hby hd) rfl q) q
theorem w_land (X : Pos Z a0 n0 p l e R s m args below meth c code ml ret y T h k j) {x z : Int64} (hd : Dec code pc .land 1 nx) (q : Wp n0 p e R s below Q T (mkF m nx Ls (.long (x &&& z) :: S))) : Wp n0 p e R s below Q T (mkF m pc Ls (.long z :: .long x :: S)) := by
  obtain ⟨hx, hZ, hby, hml, hret, hown, hnm, hlk, eT, hn0, hw, locs, N, Y⟩ := X
  obtain ⟨hd, rfl⟩ := hd
  exact Wp.go (fun _ q => XS.land Y.here hx rfl (hb hby hd) rfl q) q
theorem w_lor (X : Pos Z a0 n0 p l e R s m args below meth c code ml ret y T h k j) {x z : Int64} (hd : Dec code pc .lor 1 nx) (q : Wp n0 p e R s below Q T (mkF m nx Ls (.long (x ||| z) :: S))) : Wp n0 p e R s below Q T (mkF m pc Ls (.long z :: .long x :: S)) := by
  obtain ⟨hx, hZ, hby, hml, hret, hown, hnm, hlk, eT, hn0, hw, locs, N, Y⟩ := X
  obtain ⟨hd, rfl⟩ := hd
  exact Wp.go (fun _ q => XS.lor Y.here hx rfl (hb hby hd) rfl q) q
theorem w_lxor (X : Pos Z a0 n0 p l e R s m args below meth c code ml ret y T h k j) {x z : Int64} (hd : Dec code pc .lxor 1 nx) (q : Wp n0 p e R s below Q T (mkF m nx Ls (.long (x ^^^ z) :: S))) : Wp n0 p e R s below Q T (mkF m pc Ls (.long z :: .long x :: S)) := by
  obtain ⟨hx, hZ, hby, hml, hret, hown, hnm, hlk, eT, hn0, hw, locs, N, Y⟩ := X
  obtain ⟨hd, rfl⟩ := hd
  exact Wp.go (fun _ q => XS.lxor Y.here hx rfl (hb hby hd) rfl q) q
theorem w_lshl (X : Pos Z a0 n0 p l e R s m args below meth c code ml ret y T h k j) {x : Int64} {z : Int32} (hd : Dec code pc .lshl 1 nx) (q : Wp n0 p e R s below Q T (mkF m nx Ls (.long (jshlL x z) :: S))) : Wp n0 p e R s below Q T (mkF m pc Ls (.int z :: .long x :: S)) := by
  obtain ⟨hx, hZ, hby, hml, hret, hown, hnm, hlk, eT, hn0, hw, locs, N, Y⟩ := X
  obtain ⟨hd, rfl⟩ := hd
  exact Wp.go (fun _ q => XS.lshl Y.here hx rfl (hb hby hd) rfl q) q
theorem w_lshr (X : Pos Z a0 n0 p l e R s m args below meth c code ml ret y T h k j) {x : Int64} {z : Int32} (hd : Dec code pc .lshr 1 nx) (q : Wp n0 p e R s below Q T (mkF m nx Ls (.long (jshrL x z) :: S))) : Wp n0 p e R s below Q T (mkF m pc Ls (.int z :: .long x :: S)) := by
  obtain ⟨hx, hZ, hby, hml, hret, hown, hnm, hlk, eT, hn0, hw, locs, N, Y⟩ := X
  obtain ⟨hd, rfl⟩ := hd
  exact Wp.go (fun _ q => XS.lshr Y.here hx rfl (hb hby hd) rfl q) q
theorem w_lushr (X : Pos Z a0 n0 p l e R s m args below meth c code ml ret y T h k j) {x : Int64} {z : Int32} (hd : Dec code pc .lushr 1 nx) (q : Wp n0 p e R s below Q T (mkF m nx Ls (.long (jushrL x z) :: S))) : Wp n0 p e R s below Q T (mkF m pc Ls (.int z :: .long x :: S)) := by
  obtain ⟨hx, hZ, hby, hml, hret, hown, hnm, hlk, eT, hn0, hw, locs, N, Y⟩ := X
  obtain ⟨hd, rfl⟩ := hd
  exact Wp.go (fun _ q => XS.lushr Y.here hx rfl (hb hby hd) rfl q) q
theorem w_idiv (X : Pos Z a0 n0 p l e R s m args below meth c code ml ret y T h k j) {x z : Int32} (hd : Dec code pc .idiv 1 nx) (hz : z ≠ 0) (q : Wp n0 p e R s below Q T (mkF m nx Ls (.int (x / z) :: S))) : Wp n0 p e R s below Q T (mkF m pc Ls (.int z :: .int x :: S)) := by
  obtain ⟨hx, hZ, hby, hml, hret, hown, hnm, hlk, eT, hn0, hw, locs, N, Y⟩ := X
  obtain ⟨hd, rfl⟩ := hd
  exact Wp.go (fun _ q => XS.idiv Y.here hx rfl (hb hby hd) rfl hz q) q
theorem w_irem (X : Pos Z a0 n0 p l e R s m args below meth c code ml ret y T h k j) {x z : Int32} (hd : Dec code pc .irem 1 nx) (hz : z ≠ 0) (q : Wp n0 p e R s below Q T (mkF m nx Ls (.int (x % z) :: S))) : Wp n0 p e R s below Q T (mkF m pc Ls (.int z :: .int x :: S)) := by
  obtain ⟨hx, hZ, hby, hml, hret, hown, hnm, hlk, eT, hn0, hw, locs, N, Y⟩ := X
  obtain ⟨hd, rfl⟩ := hd
  exact Wp.go (fun _ q => iremM Y hx rfl (hb hby hd) rfl hz q) q
theorem w_ldiv (X : Pos Z a0 n0 p l e R s m args below meth c code ml ret y T h k j) {x z : Int64} (hd : Dec code pc .ldiv 1 nx) (hz : z ≠ 0) (q : Wp n0 p e R s below Q T (mkF m nx Ls (.long (x / z) :: S))) : Wp n0 p e R s below Q T (mkF m pc Ls (.long z :: .long x :: S)) := by
  obtain ⟨hx, hZ, hby, hml, hret, hown, hnm, hlk, eT, hn0, hw, locs, N, Y⟩ := X
  obtain ⟨hd, rfl⟩ := hd
  exact Wp.go (fun _ q => XS.ldiv Y.here hx rfl (hb hby hd) rfl hz q) q
theorem w_lrem (X : Pos Z a0 n0 p l e R s m args below meth c code ml ret y T h k j) {x z : Int64} (hd : Dec code pc .lrem 1 nx) (hz : z ≠ 0) (q : Wp n0 p e R s below Q T (mkF m nx Ls (.long (x - (x / z) * z) :: S))) : Wp n0 p e R s below Q T (mkF m pc Ls (.long z :: .long x :: S)) := by
  obtain ⟨hx, hZ, hby, hml, hret, hown, hnm, hlk, eT, hn0, hw, locs, N, Y⟩ := X
  obtain ⟨hd, rfl⟩ := hd
  exact Wp.go (fun _ q => XS.lrem Y.here hx rfl (hb hby hd) rfl hz q) q
theorem w_ineg (X : Pos Z a0 n0 p l e R s m args below meth c code ml ret y T h k j) {x : Int32} (hd : Dec code pc .ineg 1 nx) (q : Wp n0 p e R s below Q T (mkF m nx Ls (.int (-x) :: S))) : Wp n0 p e R s below Q T (mkF m pc Ls (.int x :: S)) := by
  obtain ⟨hx, hZ, hby, hml, hret, hown, hnm, hlk, eT, hn0, hw, locs, N, Y⟩ := X
  obtain ⟨hd, rfl⟩ := hd
  exact Wp.go (fun _ q => XS.ineg Y.here hx rfl (hb hby hd) rfl q) q
theorem w_lneg (X : Pos Z a0 n0 p l e R s m args below meth c code ml ret y T h k j) {x : Int64} (hd : Dec code pc .lneg 1 nx) (q : Wp n0 p e R s below Q T (mkF m nx Ls (.long (-x) :: S))) : Wp n0 p e R s below Q T (mkF m pc Ls (.long x :: S)) := by
  obtain ⟨hx, hZ, hby, hml, hret, hown, hnm, hlk, eT, hn0, hw, locs, N, Y⟩ := X
  obtain ⟨hd, rfl⟩ := hd
  exact Wp.go (fun _ q => XS.lneg Y.here hx rfl (hb hby hd) rfl q) q
theorem w_i2l (X : Pos Z a0 n0 p l e R s m args below meth c code ml ret y T h k j) {x : Int32} (hd : Dec code pc .i2l 1 nx) (q : Wp n0 p e R s below Q T (mkF m nx Ls (.long (x.toInt64) :: S))) : Wp n0 p e R s below Q T (mkF m pc Ls (.int x :: S)) := by
  obtain ⟨hx, hZ, hby, hml, hret, hown, hnm, hlk, eT, hn0, hw, locs, N, Y⟩ := X
  obtain ⟨hd, rfl⟩ := hd
  exact Wp.go (fun _ q => XS.i2l Y.here hx rfl (hb hby hd) rfl q) q
theorem w_l2i (X : Pos Z a0 n0 p l e R s m args below meth c code ml ret y T h k j) {x : Int64} (hd : Dec code pc .l2i 1 nx) (q : Wp n0 p e R s below Q T (mkF m nx Ls (.int (x.toInt32) :: S))) : Wp n0 p e R s below Q T (mkF m pc Ls (.long x :: S)) := by
  obtain ⟨hx, hZ, hby, hml, hret, hown, hnm, hlk, eT, hn0, hw, locs, N, Y⟩ := X
  obtain ⟨hd, rfl⟩ := hd
  exact Wp.go (fun _ q => XS.l2i Y.here hx rfl (hb hby hd) rfl q) q
theorem w_i2b (X : Pos Z a0 n0 p l e R s m args below meth c code ml ret y T h k j) {x : Int32} (hd : Dec code pc .i2b 1 nx) (q : Wp n0 p e R s below Q T (mkF m nx Ls (.int (jbyte x) :: S))) : Wp n0 p e R s below Q T (mkF m pc Ls (.int x :: S)) := by
  obtain ⟨hx, hZ, hby, hml, hret, hown, hnm, hlk, eT, hn0, hw, locs, N, Y⟩ := X
  obtain ⟨hd, rfl⟩ := hd
  exact Wp.go (fun _ q => XS.i2b Y.here hx rfl (hb hby hd) rfl q) q
theorem w_iconst (X : Pos Z a0 n0 p l e R s m args below meth c code ml ret y T h k j) {i : Int} {v : Int32} (hd : Dec code pc (.iconst i) 1 nx) (hv : Int32.ofInt i = v) (q : Wp n0 p e R s below Q T (mkF m nx Ls (.int v :: S))) : Wp n0 p e R s below Q T (mkF m pc Ls S) := by
  obtain ⟨hx, hZ, hby, hml, hret, hown, hnm, hlk, eT, hn0, hw, locs, N, Y⟩ := X
  obtain ⟨hd, rfl⟩ := hd
  subst hv
  exact Wp.go (fun _ q => XS.iconst Y.here hx rfl (hb hby hd) q) q
theorem w_bipush (X : Pos Z a0 n0 p l e R s m args below meth c code ml ret y T h k j) {i : Int} {v : Int32} (hd : Dec code pc (.bipush i) 2 nx) (hv : (Int8.ofInt i).toInt32 = v) (q : Wp n0 p e R s below Q T (mkF m nx Ls (.int v :: S))) : Wp n0 p e R s below Q T (mkF m pc Ls S) := by
  obtain ⟨hx, hZ, hby, hml, hret, hown, hnm, hlk, eT, hn0, hw, locs, N, Y⟩ := X
  obtain ⟨hd, rfl⟩ := hd
  subst hv
  exact Wp.go (fun _ q => XS.bipush Y.here hx rfl (hb hby hd) q) q
theorem w_sipush (X : Pos Z a0 n0 p l e R s m args below meth c code ml ret y T h k j) {i : Int} {v : Int32} (hd : Dec code pc (.sipush i) 3 nx) (hv : (Int16.ofInt i).toInt32 = v) (q : Wp n0 p e R s below Q T (mkF m nx Ls (.int v :: S))) : Wp n0 p e R s below Q T (mkF m pc Ls S) := by
  obtain ⟨hx, hZ, hby, hml, hret, hown, hnm, hlk, eT, hn0, hw, locs, N, Y⟩ := X
  obtain ⟨hd, rfl⟩ := hd
  subst hv
  exact Wp.go (fun _ q => XS.sipush Y.here hx rfl (hb hby hd) q) q
theorem w_lconst0 (X : Pos Z a0 n0 p l e R s m args below meth c code ml ret y T h k j) (hd : Dec code pc (.lconst 0) 1 nx) (q : Wp n0 p e R s below Q T (mkF m nx Ls (.long 0 :: S))) : Wp n0 p e R s below Q T (mkF m pc Ls S) := by
  obtain ⟨hx, hZ, hby, hml, hret, hown, hnm, hlk, eT, hn0, hw, locs, N, Y⟩ := X
  obtain ⟨hd, rfl⟩ := hd
  exact Wp.go (fun _ q => XS.lconst Y.here hx rfl (hb hby hd) q) q
theorem w_lconst1 (X : Pos Z a0 n0 p l e R s m args below meth c code ml ret y T h k j) (hd : Dec code pc (.lconst 1) 1 nx) (q : Wp n0 p e R s below Q T (mkF m nx Ls (.long 1 :: S))) : Wp n0 p e R s below Q T (mkF m pc Ls S) := by
  obtain ⟨hx, hZ, hby, hml, hret, hown, hnm, hlk, eT, hn0, hw, locs, N, Y⟩ := X
  obtain ⟨hd, rfl⟩ := hd
  exact Wp.go (fun _ q => XS.lconst Y.here hx rfl (hb hby hd) q) q
theorem w_null (X : Pos Z a0 n0 p l e R s m args below meth c code ml ret y T h k j) (hd : Dec code pc .aconst_null 1 nx) (q : Wp n0 p e R s below Q T (mkF m nx Ls (.null :: S))) : Wp n0 p e R s below Q T (mkF m pc Ls S) := by
  obtain ⟨hx, hZ, hby, hml, hret, hown, hnm, hlk, eT, hn0, hw, locs, N, Y⟩ := X
  obtain ⟨hd, rfl⟩ := hd
  exact Wp.go (fun _ q => XS.aconstNull Y.here hx rfl (hb hby hd) q) q
theorem w_iloadN (X : Pos Z a0 n0 p l e R s m args below meth c code ml ret y T h k j) {w : Fin 4} {v : Int32} (hd : Dec code pc (.iload_n w) 1 nx) (hl : Ls[w.val]? = some (.val (.int v))) (q : Wp n0 p e R s below Q T (mkF m nx Ls (.int v :: S))) : Wp n0 p e R s below Q T (mkF m pc Ls S) := by
  obtain ⟨hx, hZ, hby, hml, hret, hown, hnm, hlk, eT, hn0, hw, locs, N, Y⟩ := X
  obtain ⟨hd, rfl⟩ := hd
  exact Wp.go (fun _ q => XS.iloadN Y.here hx rfl (hb hby hd) hl q) q
theorem w_iload (X : Pos Z a0 n0 p l e R s m args below meth c code ml ret y T h k j) {w : Nat} {v : Int32} (hd : Dec code pc (.iload w) 2 nx) (hl : Ls[w]? = some (.val (.int v))) (q : Wp n0 p e R s below Q T (mkF m nx Ls (.int v :: S))) : Wp n0 p e R s below Q T (mkF m pc Ls S) := by
  obtain ⟨hx, hZ, hby, hml, hret, hown, hnm, hlk, eT, hn0, hw, locs, N, Y⟩ := X
  obtain ⟨hd, rfl⟩ := hd
  exact Wp.go (fun _ q => XS.iload Y.here hx rfl (hb hby hd) hl q) q
theorem w_lloadN (X : Pos Z a0 n0 p l e R s m args below meth c code ml ret y T h k j) {w : Fin 4} {v : Int64} (hd : Dec code pc (.lload_n w) 1 nx) (hl : Ls[w.val]? = some (.val (.long v))) (q : Wp n0 p e R s below Q T (mkF m nx Ls (.long v :: S))) : Wp n0 p e R s below Q T (mkF m pc Ls S) := by
  obtain ⟨hx, hZ, hby, hml, hret, hown, hnm, hlk, eT, hn0, hw, locs, N, Y⟩ := X
  obtain ⟨hd, rfl⟩ := hd
  exact Wp.go (fun _ q => XS.lloadN Y.here hx rfl (hb hby hd) hl q) q
theorem w_lload (X : Pos Z a0 n0 p l e R s m args below meth c code ml ret y T h k j) {w : Nat} {v : Int64} (hd : Dec code pc (.lload w) 2 nx) (hl : Ls[w]? = some (.val (.long v))) (q : Wp n0 p e R s below Q T (mkF m nx Ls (.long v :: S))) : Wp n0 p e R s below Q T (mkF m pc Ls S) := by
  obtain ⟨hx, hZ, hby, hml, hret, hown, hnm, hlk, eT, hn0, hw, locs, N, Y⟩ := X
  obtain ⟨hd, rfl⟩ := hd
  exact Wp.go (fun _ q => XS.lload Y.here hx rfl (hb hby hd) hl q) q
theorem w_aloadN (X : Pos Z a0 n0 p l e R s m args below meth c code ml ret y T h k j) {w : Fin 4} {v : Value} (hd : Dec code pc (.aload_n w) 1 nx) (hl : Ls[w.val]? = some (.val v)) (hv : v.isRef = true) (q : Wp n0 p e R s below Q T (mkF m nx Ls (v :: S))) : Wp n0 p e R s below Q T (mkF m pc Ls S) := by
  obtain ⟨hx, hZ, hby, hml, hret, hown, hnm, hlk, eT, hn0, hw, locs, N, Y⟩ := X
  obtain ⟨hd, rfl⟩ := hd
  exact Wp.go (fun _ q => XS.aloadN Y.here hx rfl (hb hby hd) hl hv q) q
theorem w_astoreN (X : Pos Z a0 n0 p l e R s m args below meth c code ml ret y T h k j) {w : Fin 4} {v : Value} {l' : Array Slot} (hd : Dec code pc (.astore_n w) 1 nx) (hv : v.isRef = true) (hl : storeLocals Ls w.val v = some l') (q : Wp n0 p e R s below Q T (mkF m nx l' S)) : Wp n0 p e R s below Q T (mkF m pc Ls (v :: S)) := by
  obtain ⟨hx, hZ, hby, hml, hret, hown, hnm, hlk, eT, hn0, hw, locs, N, Y⟩ := X
  obtain ⟨hd, rfl⟩ := hd
  exact Wp.go (fun _ q => XS.astoreN Y.here hx rfl (hb hby hd) rfl hv hl q) q
theorem w_istoreN (X : Pos Z a0 n0 p l e R s m args below meth c code ml ret y T h k j) {w : Fin 4} {v : Int32} {l' : Array Slot} (hd : Dec code pc (.istore_n w) 1 nx) (hl : storeLocals Ls w.val (.int v) = some l') (q : Wp n0 p e R s below Q T (mkF m nx l' S)) : Wp n0 p e R s below Q T (mkF m pc Ls (.int v :: S)) := by
  obtain ⟨hx, hZ, hby, hml, hret, hown, hnm, hlk, eT, hn0, hw, locs, N, Y⟩ := X
  obtain ⟨hd, rfl⟩ := hd
  exact Wp.go (fun _ q => XS.istoreN Y.here hx rfl (hb hby hd) rfl hl q) q
theorem w_istoreNE (X : Pos Z a0 n0 p l e R s m args below meth c code ml ret y T h k j) {w : Fin 4} {v : Int32} {l' : Int32 → Array Slot} (hd : Dec code pc (.istore_n w) 1 nx) (hl : ∀ z, storeLocals Ls w.val (.int z) = some (l' z)) (q : ∀ z, z = v → Wp n0 p e R s below Q T (mkF m nx (l' z) S)) : Wp n0 p e R s below Q T (mkF m pc Ls (.int v :: S)) := w_istoreN X hd (hl v) (q v rfl)
theorem w_lstoreN (X : Pos Z a0 n0 p l e R s m args below meth c code ml ret y T h k j) {w : Fin 4} {v : Int64} {l' : Array Slot} (hd : Dec code pc (.lstore_n w) 1 nx) (hl : storeLocals Ls w.val (.long v) = some l') (q : Wp n0 p e R s below Q T (mkF m nx l' S)) : Wp n0 p e R s below Q T (mkF m pc Ls (.long v :: S)) := by
  obtain ⟨hx, hZ, hby, hml, hret, hown, hnm, hlk, eT, hn0, hw, locs, N, Y⟩ := X
  obtain ⟨hd, rfl⟩ := hd
  exact Wp.go (fun _ q => XS.lstoreN Y.here hx rfl (hb hby hd) rfl hl q) q
theorem w_lstoreNE (X : Pos Z a0 n0 p l e R s m args below meth c code ml ret y T h k j) {w : Fin 4} {v : Int64} {l' : Int64 → Array Slot} (hd : Dec code pc (.lstore_n w) 1 nx) (hl : ∀ z, storeLocals Ls w.val (.long z) = some (l' z)) (q : ∀ z, z = v → Wp n0 p e R s below Q T (mkF m nx (l' z) S)) : Wp n0 p e R s below Q T (mkF m pc Ls (.long v :: S)) := w_lstoreN X hd (hl v) (q v rfl)
theorem w_aload (X : Pos Z a0 n0 p l e R s m args below meth c code ml ret y T h k j) {w : Nat} {v : Value} (hd : Dec code pc (.aload w) 2 nx) (hl : Ls[w]? = some (.val v)) (hv : v.isRef = true) (q : Wp n0 p e R s below Q T (mkF m nx Ls (v :: S))) : Wp n0 p e R s below Q T (mkF m pc Ls S) := by
  obtain ⟨hx, hZ, hby, hml, hret, hown, hnm, hlk, eT, hn0, hw, locs, N, Y⟩ := X
  obtain ⟨hd, rfl⟩ := hd
  exact Wp.go (fun _ q => XS.aload Y.here hx rfl (hb hby hd) hl hv q) q
theorem w_astore (X : Pos Z a0 n0 p l e R s m args below meth c code ml ret y T h k j) {w : Nat} {v : Value} {l' : Array Slot} (hd : Dec code pc (.astore w) 2 nx) (hv : v.isRef = true) (hl : storeLocals Ls w v = some l') (q : Wp n0 p e R s below Q T (mkF m nx l' S)) : Wp n0 p e R s below Q T (mkF m pc Ls (v :: S)) := by
  obtain ⟨hx, hZ, hby, hml, hret, hown, hnm, hlk, eT, hn0, hw, locs, N, Y⟩ := X
  obtain ⟨hd, rfl⟩ := hd
  exact Wp.go (fun _ q => XS.astore Y.here hx rfl (hb hby hd) rfl hv hl q) q
theorem w_istore (X : Pos Z a0 n0 p l e R s m args below meth c code ml ret y T h k j) {w : Nat} {v : Int32} {l' : Array Slot} (hd : Dec code pc (.istore w) 2 nx) (hl : storeLocals Ls w (.int v) = some l') (q : Wp n0 p e R s below Q T (mkF m nx l' S)) : Wp n0 p e R s below Q T (mkF m pc Ls (.int v :: S)) := by
  obtain ⟨hx, hZ, hby, hml, hret, hown, hnm, hlk, eT, hn0, hw, locs, N, Y⟩ := X
  obtain ⟨hd, rfl⟩ := hd
  exact Wp.go (fun _ q => XS.istore Y.here hx rfl (hb hby hd) rfl hl q) q
theorem w_istoreE (X : Pos Z a0 n0 p l e R s m args below meth c code ml ret y T h k j) {w : Nat} {v : Int32} {l' : Int32 → Array Slot} (hd : Dec code pc (.istore w) 2 nx) (hl : ∀ z, storeLocals Ls w (.int z) = some (l' z)) (q : ∀ z, z = v → Wp n0 p e R s below Q T (mkF m nx (l' z) S)) : Wp n0 p e R s below Q T (mkF m pc Ls (.int v :: S)) := w_istore X hd (hl v) (q v rfl)
theorem w_lstore (X : Pos Z a0 n0 p l e R s m args below meth c code ml ret y T h k j) {w : Nat} {v : Int64} {l' : Array Slot} (hd : Dec code pc (.lstore w) 2 nx) (hl : storeLocals Ls w (.long v) = some l') (q : Wp n0 p e R s below Q T (mkF m nx l' S)) : Wp n0 p e R s below Q T (mkF m pc Ls (.long v :: S)) := by
  obtain ⟨hx, hZ, hby, hml, hret, hown, hnm, hlk, eT, hn0, hw, locs, N, Y⟩ := X
  obtain ⟨hd, rfl⟩ := hd
  exact Wp.go (fun _ q => XS.lstore Y.here hx rfl (hb hby hd) rfl hl q) q
theorem w_lstoreE (X : Pos Z a0 n0 p l e R s m args below meth c code ml ret y T h k j) {w : Nat} {v : Int64} {l' : Int64 → Array Slot} (hd : Dec code pc (.lstore w) 2 nx) (hl : ∀ z, storeLocals Ls w (.long z) = some (l' z)) (q : ∀ z, z = v → Wp n0 p e R s below Q T (mkF m nx (l' z) S)) : Wp n0 p e R s below Q T (mkF m pc Ls (.long v :: S)) := w_lstore X hd (hl v) (q v rfl)
theorem w_istoreNS (X : Pos Z a0 n0 p l e R s m args below meth c code ml ret y T h k j) {w : Fin 4} {v : Int32} {l' : Array Slot} {o : Slot} (hd : Dec code pc (.istore_n w) 1 nx) (hold : Ls[w.val]? = some o) (ho : One o) (hl : Ls.setIfInBounds w.val (.val (.int v)) = l') (q : Wp n0 p e R s below Q T (mkF m nx l' S)) : Wp n0 p e R s below Q T (mkF m pc Ls (.int v :: S)) := w_istoreN X hd ((XS.store1 hold ho rfl).trans (congrArg some hl)) q
theorem w_istoreS (X : Pos Z a0 n0 p l e R s m args below meth c code ml ret y T h k j) {w : Nat} {v : Int32} {l' : Array Slot} {o : Slot} (hd : Dec code pc (.istore w) 2 nx) (hold : Ls[w]? = some o) (ho : One o) (hl : Ls.setIfInBounds w (.val (.int v)) = l') (q : Wp n0 p e R s below Q T (mkF m nx l' S)) : Wp n0 p e R s below Q T (mkF m pc Ls (.int v :: S)) := w_istore X hd ((XS.store1 hold ho rfl).trans (congrArg some hl)) q
theorem w_iinc (X : Pos Z a0 n0 p l e R s m args below meth c code ml ret y T h k j) {w : Nat} {i : Int} {d v r : Int32} {l' : Array Slot} (hd : Dec code pc (.iinc w i) 3 nx) (hl : Ls[w]? = some (.val (.int v))) (hi : Int32.ofInt i = d) (hr : v + d = r) (hl' : storeLocals Ls w (.int r) = some l') (q : Wp n0 p e R s below Q T (mkF m nx l' S)) : Wp n0 p e R s below Q T (mkF m pc Ls S) := by
  obtain ⟨hx, hZ, hby, hml, hret, hown, hnm, hlk, eT, hn0, hw, locs, N, Y⟩ := X
  obtain ⟨hd, rfl⟩ := hd
  subst hi hr
  exact Wp.go (fun _ q => XS.iinc Y.here hx rfl (hb hby hd) hl hl' q) q
theorem w_dup (X : Pos Z a0 n0 p l e R s m args below meth c code ml ret y T h k j) {v : Value} (hd : Dec code pc .dup 1 nx) (hv : v.category = 1) (q : Wp n0 p e R s below Q T (mkF m nx Ls (v :: v :: S))) : Wp n0 p e R s below Q T (mkF m pc Ls (v :: S)) := by
  obtain ⟨hx, hZ, hby, hml, hret, hown, hnm, hlk, eT, hn0, hw, locs, N, Y⟩ := X
  obtain ⟨hd, rfl⟩ := hd
  exact Wp.go (fun _ q => XS.dup Y.here hx rfl (hb hby hd) rfl hv q) q
theorem w_pop (X : Pos Z a0 n0 p l e R s m args below meth c code ml ret y T h k j) {v : Value} (hd : Dec code pc .pop 1 nx) (hv : v.category = 1) (q : Wp n0 p e R s below Q T (mkF m nx Ls S)) : Wp n0 p e R s below Q T (mkF m pc Ls (v :: S)) := by
  obtain ⟨hx, hZ, hby, hml, hret, hown, hnm, hlk, eT, hn0, hw, locs, N, Y⟩ := X
  obtain ⟨hd, rfl⟩ := hd
  exact Wp.go (fun _ q => XS.pop Y.here hx rfl (hb hby hd) rfl hv q) q
theorem w_dupX1 (X : Pos Z a0 n0 p l e R s m args below meth c code ml ret y T h k j) {v w : Value} (hd : Dec code pc .dup_x1 1 nx) (hv : v.category = 1) (hw' : w.category = 1) (q : Wp n0 p e R s below Q T (mkF m nx Ls (v :: w :: v :: S))) : Wp n0 p e R s below Q T (mkF m pc Ls (v :: w :: S)) := by
  obtain ⟨hx, hZ, hby, hml, hret, hown, hnm, hlk, eT, hn0, hw, locs, N, Y⟩ := X
  obtain ⟨hd, rfl⟩ := hd
  exact Wp.go (fun _ q => XS.dupX1 Y.here hx rfl (hb hby hd) rfl hv hw' q) q
theorem w_dup2 (X : Pos Z a0 n0 p l e R s m args below meth c code ml ret y T h k j) {v w : Value} (hd : Dec code pc .dup2 1 nx) (hv : v.category = 1) (hw' : w.category = 1) (q : Wp n0 p e R s below Q T (mkF m nx Ls (v :: w :: v :: w :: S))) : Wp n0 p e R s below Q T (mkF m pc Ls (v :: w :: S)) := by
  obtain ⟨hx, hZ, hby, hml, hret, hown, hnm, hlk, eT, hn0, hw, locs, N, Y⟩ := X
  obtain ⟨hd, rfl⟩ := hd
  exact Wp.go (fun _ q => Jvm.Free.XT.dup2 Y.here hx rfl (hb hby hd) rfl hv hw' q) q
theorem w_goto (X : Pos Z a0 n0 p l e R s m args below meth c code ml ret y T h k j) {o : Int} (hd : Jmp code pc (.goto o) o nx tgt) (q : Wp n0 p e R s below Q T (mkF m tgt Ls S)) : Wp n0 p e R s below Q T (mkF m pc Ls S) := by
  obtain ⟨hx, hZ, hby, hml, hret, hown, hnm, hlk, eT, hn0, hw, locs, N, Y⟩ := X
  obtain ⟨hd, -, ho, hp⟩ := hd
  exact Wp.go (fun _ q => XS.goto Y.here hx rfl (pc0 := pc) (pc' := tgt) rfl (hb hby hd) ho hp q) q
theorem w_icmpeq (X : Pos Z a0 n0 p l e R s m args below meth c code ml ret y T h k j) {x z : Int32} {o : Int} (hd : Jmp code pc (.if_icmp .eq o) o nx tgt) (qt : x = z → Wp n0 p e R s below Q T (mkF m tgt Ls S)) (qf : ¬ x = z → Wp n0 p e R s below Q T (mkF m nx Ls S)) : Wp n0 p e R s below Q T (mkF m pc Ls (.int z :: .int x :: S)) := by
  obtain ⟨hx, hZ, hby, hml, hret, hown, hnm, hlk, eT, hn0, hw, locs, N, Y⟩ := X
  obtain ⟨hd, rfl, ho, hp⟩ := hd
  by_cases hc : x = z
  · exact Wp.go (fun _ q => XS.icmpYes Y.here hx rfl (pc0 := pc) (pc' := tgt) rfl (hb hby hd) rfl (Jvm.Free.XT.ii_eq_t hc) ho hp q) (qt hc)
  · exact Wp.go (fun _ q => XS.icmpNo Y.here hx rfl (hb hby hd) rfl (Jvm.Free.XT.ii_eq_f hc) q) (qf hc)
theorem w_ifeq (X : Pos Z a0 n0 p l e R s m args below meth c code ml ret y T h k j) {x : Int32} {o : Int} (hd : Jmp code pc (.ifCond .eq o) o nx tgt) (qt : x = 0 → Wp n0 p e R s below Q T (mkF m tgt Ls S)) (qf : ¬ x = 0 → Wp n0 p e R s below Q T (mkF m nx Ls S)) : Wp n0 p e R s below Q T (mkF m pc Ls (.int x :: S)) := by
  obtain ⟨hx, hZ, hby, hml, hret, hown, hnm, hlk, eT, hn0, hw, locs, N, Y⟩ := X
  obtain ⟨hd, rfl, ho, hp⟩ := hd
  by_cases hc : x = 0
  · exact Wp.go (fun _ q => XS.ifYes Y.here hx rfl (pc0 := pc) (pc' := tgt) rfl (hb hby hd) rfl (Jvm.Free.XT.i0_eq_t hc) ho hp q) (qt hc)
  · exact Wp.go (fun _ q => XS.ifNo Y.here hx rfl (hb hby hd) rfl (Jvm.Free.XT.i0_eq_f hc) q) (qf hc)
theorem w_lcmpeq (X : Pos Z a0 n0 p l e R s m args below meth c code ml ret y T h k j) {x z : Int64} {o : Int} {mid : Nat} (hd0 : Dec code pc .lcmp 1 mid) (hd : Jmp code mid (.ifCond .eq o) o nx tgt) (qt : x = z → Wp n0 p e R s below Q T (mkF m tgt Ls S)) (qf : ¬ x = z → Wp n0 p e R s below Q T (mkF m nx Ls S)) : Wp n0 p e R s below Q T (mkF m pc Ls (.long z :: .long x :: S)) := by
  obtain ⟨hx, hZ, hby, hml, hret, hown, hnm, hlk, eT, hn0, hw, locs, N, Y⟩ := X
  obtain ⟨hd0, rfl⟩ := hd0
  obtain ⟨hd, rfl, ho, hp⟩ := hd
  refine Wp.go (fun _ q => Jvm.Free.XT.lcmp Y.here hx rfl (hb hby hd0) rfl q) ?_
  by_cases hc : x = z
  · exact Wp.go (fun _ q => XS.ifYes Y.here hx rfl (pc0 := pc + 1) (pc' := tgt) rfl (hb hby hd) rfl (Jvm.Free.XT.ll_eq_t hc) ho hp q) (qt hc)
  · exact Wp.go (fun _ q => XS.ifNo Y.here hx rfl (hb hby hd) rfl (Jvm.Free.XT.ll_eq_f hc) q) (qf hc)
theorem w_icmpne (X : Pos Z a0 n0 p l e R s m args below meth c code ml ret y T h k j) {x z : Int32} {o : Int} (hd : Jmp code pc (.if_icmp .ne o) o nx tgt) (qt : ¬ x = z → Wp n0 p e R s below Q T (mkF m tgt Ls S)) (qf : x = z → Wp n0 p e R s below Q T (mkF m nx Ls S)) : Wp n0 p e R s below Q T (mkF m pc Ls (.int z :: .int x :: S)) := by
  obtain ⟨hx, hZ, hby, hml, hret, hown, hnm, hlk, eT, hn0, hw, locs, N, Y⟩ := X
  obtain ⟨hd, rfl, ho, hp⟩ := hd
  by_cases hc : x = z
  · exact Wp.go (fun _ q => XS.icmpNo Y.here hx rfl (hb hby hd) rfl (Jvm.Free.XT.ii_ne_f hc) q) (qf hc)
  · exact Wp.go (fun _ q => XS.icmpYes Y.here hx rfl (pc0 := pc) (pc' := tgt) rfl (hb hby hd) rfl (Jvm.Free.XT.ii_ne_t hc) ho hp q) (qt hc)
theorem w_ifne (X : Pos Z a0 n0 p l e R s m args below meth c code ml ret y T h k j) {x : Int32} {o : Int} (hd : Jmp code pc (.ifCond .ne o) o nx tgt) (qt : ¬ x = 0 → Wp n0 p e R s below Q T (mkF m tgt Ls S)) (qf : x = 0 → Wp n0 p e R s below Q T (mkF m nx Ls S)) : Wp n0 p e R s below Q T (mkF m pc Ls (.int x :: S)) := by
  obtain ⟨hx, hZ, hby, hml, hret, hown, hnm, hlk, eT, hn0, hw, locs, N, Y⟩ := X
  obtain ⟨hd, rfl, ho, hp⟩ := hd
  by_cases hc : x = 0
  · exact Wp.go (fun _ q => XS.ifNo Y.here hx rfl (hb hby hd) rfl (Jvm.Free.XT.i0_ne_f hc) q) (qf hc)
  · exact Wp.go (fun _ q => XS.ifYes Y.here hx rfl (pc0 := pc) (pc' := tgt) rfl (hb hby hd) rfl (Jvm.Free.XT.i0_ne_t hc) ho hp q) (qt hc)
theorem w_lcmpne (X : Pos Z a0 n0 p l e R s m args below meth c code ml ret y T h k j) {x z : Int64} {o : Int} {mid : Nat} (hd0 : Dec code pc .lcmp 1 mid) (hd : Jmp code mid (.ifCond .ne o) o nx tgt) (qt : ¬ x = z → Wp n0 p e R s below Q T (mkF m tgt Ls S)) (qf : x = z → Wp n0 p e R s below Q T (mkF m nx Ls S)) : Wp n0 p e R s below Q T (mkF m pc Ls (.long z :: .long x :: S)) := by
  obtain ⟨hx, hZ, hby, hml, hret, hown, hnm, hlk, eT, hn0, hw, locs, N, Y⟩ := X
  obtain ⟨hd0, rfl⟩ := hd0
  obtain ⟨hd, rfl, ho, hp⟩ := hd
  refine Wp.go (fun _ q => Jvm.Free.XT.lcmp Y.here hx rfl (hb hby hd0) rfl q) ?_
  by_cases hc : x = z
  · exact Wp.go (fun _ q => XS.ifNo Y.here hx rfl (hb hby hd) rfl (Jvm.Free.XT.ll_ne_f hc) q) (qf hc)
  · exact Wp.go (fun _ q => XS.ifYes Y.here hx rfl (pc0 := pc + 1) (pc' := tgt) rfl (hb hby hd) rfl (Jvm.Free.XT.ll_ne_t hc) ho hp q) (qt hc)
theorem w_icmplt (X : Pos Z a0 n0 p l e R s m args below meth c code ml ret y T h k j) {x z : Int32} {o : Int} (hd : Jmp code pc (.if_icmp .lt o) o nx tgt) (qt : x < z → Wp n0 p e R s below Q T (mkF m tgt Ls S)) (qf : ¬ x < z → Wp n0 p e R s below Q T (mkF m nx Ls S)) : Wp n0 p e R s below Q T (mkF m pc Ls (.int z :: .int x :: S)) := by
  obtain ⟨hx, hZ, hby, hml, hret, hown, hnm, hlk, eT, hn0, hw, locs, N, Y⟩ := X
  obtain ⟨hd, rfl, ho, hp⟩ := hd
  by_cases hc : x < z
  · exact Wp.go (fun _ q => XS.icmpYes Y.here hx rfl (pc0 := pc) (pc' := tgt) rfl (hb hby hd) rfl (Jvm.Free.XT.ii_lt_t hc) ho hp q) (qt hc)
  · exact Wp.go (fun _ q => XS.icmpNo Y.here hx rfl (hb hby hd) rfl (Jvm.Free.XT.ii_lt_f hc) q) (qf hc)
theorem w_iflt (X : Pos Z a0 n0 p l e R s m args below meth c code ml ret y T h k j) {x : Int32} {o : Int} (hd : Jmp code pc (.ifCond .lt o) o nx tgt) (qt : x < 0 → Wp n0 p e R s below Q T (mkF m tgt Ls S)) (qf : ¬ x < 0 → Wp n0 p e R s below Q T (mkF m nx Ls S)) : Wp n0 p e R s below Q T (mkF m pc Ls (.int x :: S)) := by
  obtain ⟨hx, hZ, hby, hml, hret, hown, hnm, hlk, eT, hn0, hw, locs, N, Y⟩ := X
  obtain ⟨hd, rfl, ho, hp⟩ := hd
  by_cases hc : x < 0
  · exact Wp.go (fun _ q => XS.ifYes Y.here hx rfl (pc0 := pc) (pc' := tgt) rfl (hb hby hd) rfl (Jvm.Free.XT.i0_lt_t hc) ho hp q) (qt hc)
  · exact Wp.go (fun _ q => XS.ifNo Y.here hx rfl (hb hby hd) rfl (Jvm.Free.XT.i0_lt_f hc) q) (qf hc)
theorem w_lcmplt (X : Pos Z a0 n0 p l e R s m args below meth c code ml ret y T h k j) {x z : Int64} {o : Int} {mid : Nat} (hd0 : Dec code pc .lcmp 1 mid) (hd : Jmp code mid (.ifCond .lt o) o nx tgt) (qt : x < z → Wp n0 p e R s below Q T (mkF m tgt Ls S)) (qf : ¬ x < z → Wp n0 p e R s below Q T (mkF m nx Ls S)) : Wp n0 p e R s below Q T (mkF m pc Ls (.long z :: .long x :: S)) := by
  obtain ⟨hx, hZ, hby, hml, hret, hown, hnm, hlk, eT, hn0, hw, locs, N, Y⟩ := X
  obtain ⟨hd0, rfl⟩ := hd0
  obtain ⟨hd, rfl, ho, hp⟩ := hd
  refine Wp.go (fun _ q => Jvm.Free.XT.lcmp Y.here hx rfl (hb hby hd0) rfl q) ?_
  by_cases hc : x < z
  · exact Wp.go (fun _ q => XS.ifYes Y.here hx rfl (pc0 := pc + 1) (pc' := tgt) rfl (hb hby hd) rfl (Jvm.Free.XT.ll_lt_t hc) ho hp q) (qt hc)
  · exact Wp.go (fun _ q => XS.ifNo Y.here hx rfl (hb hby hd) rfl (Jvm.Free.XT.ll_lt_f hc) q) (qf hc)
theorem w_icmpge (X : Pos Z a0 n0 p l e R s m args below meth c code ml ret y T h k j) {x z : Int32} {o : Int} (hd : Jmp code pc (.if_icmp .ge o) o nx tgt) (qt : ¬ x < z → Wp n0 p e R s below Q T (mkF m tgt Ls S)) (qf : x < z → Wp n0 p e R s below Q T (mkF m nx Ls S)) : Wp n0 p e R s below Q T (mkF m pc Ls (.int z :: .int x :: S)) := by
  obtain ⟨hx, hZ, hby, hml, hret, hown, hnm, hlk, eT, hn0, hw, locs, N, Y⟩ := X
  obtain ⟨hd, rfl, ho, hp⟩ := hd
  by_cases hc : x < z
  · exact Wp.go (fun _ q => XS.icmpNo Y.here hx rfl (hb hby hd) rfl (Jvm.Free.XT.ii_ge_f hc) q) (qf hc)
  · exact Wp.go (fun _ q => XS.icmpYes Y.here hx rfl (pc0 := pc) (pc' := tgt) rfl (hb hby hd) rfl (Jvm.Free.XT.ii_ge_t hc) ho hp q) (qt hc)
theorem w_ifge (X : Pos Z a0 n0 p l e R s m args below meth c code ml ret y T h k j) {x : Int32} {o : Int} (hd : Jmp code pc (.ifCond .ge o) o nx tgt) (qt : ¬ x < 0 → Wp n0 p e R s below Q T (mkF m tgt Ls S)) (qf : x < 0 → Wp n0 p e R s below Q T (mkF m nx Ls S)) : Wp n0 p e R s below Q T (mkF m pc Ls (.int x :: S)) := by
  obtain ⟨hx, hZ, hby, hml, hret, hown, hnm, hlk, eT, hn0, hw, locs, N, Y⟩ := X
  obtain ⟨hd, rfl, ho, hp⟩ := hd
  by_cases hc : x < 0
  · exact Wp.go (fun _ q => XS.ifNo Y.here hx rfl (hb hby hd) rfl (Jvm.Free.XT.i0_ge_f hc) q) (qf hc)
  · exact Wp.go (fun _ q => XS.ifYes Y.here hx rfl (pc0 := pc) (pc' := tgt) rfl (hb hby hd) rfl (Jvm.Free.XT.i0_ge_t hc) ho hp q) (qt hc)
theorem w_lcmpge (X : Pos Z a0 n0 p l e R s m args below meth c code ml ret y T h k j) {x z : Int64} {o : Int} {mid : Nat} (hd0 : Dec code pc .lcmp 1 mid) (hd : Jmp code mid (.ifCond .ge o) o nx tgt) (qt : ¬ x < z → Wp n0 p e R s below Q T (mkF m tgt Ls S)) (qf : x < z → Wp n0 p e R s below Q T (mkF m nx Ls S)) : Wp n0 p e R s below Q T (mkF m pc Ls (.long z :: .long x :: S)) := by
  obtain ⟨hx, hZ, hby, hml, hret, hown, hnm, hlk, eT, hn0, hw, locs, N, Y⟩ := X
  obtain ⟨hd0, rfl⟩ := hd0
  obtain ⟨hd, rfl, ho, hp⟩ := hd
  refine Wp.go (fun _ q => Jvm.Free.XT.lcmp Y.here hx rfl (hb hby hd0) rfl q) ?_
  by_cases hc : x < z
  · exact Wp.go (fun _ q => XS.ifNo Y.here hx rfl (hb hby hd) rfl (Jvm.Free.XT.ll_ge_f hc) q) (qf hc)
  · exact Wp.go (fun _ q => XS.ifYes Y.here hx rfl (pc0 := pc + 1) (pc' := tgt) rfl (hb hby hd) rfl (Jvm.Free.XT.ll_ge_t hc) ho hp q) (qt hc)
theorem w_icmpgt (X : Pos Z a0 n0 p l e R s m args below meth c code ml ret y T h k j) {x z : Int32} {o : Int} (hd : Jmp code pc (.if_icmp .gt o) o nx tgt) (qt : z < x → Wp n0 p e R s below Q T (mkF m tgt Ls S)) (qf : ¬ z < x → Wp n0 p e R s below Q T (mkF m nx Ls S)) : Wp n0 p e R s below Q T (mkF m pc Ls (.int z :: .int x :: S)) := by
  obtain ⟨hx, hZ, hby, hml, hret, hown, hnm, hlk, eT, hn0, hw, locs, N, Y⟩ := X
  obtain ⟨hd, rfl, ho, hp⟩ := hd
  by_cases hc : z < x
  · exact Wp.go (fun _ q => XS.icmpYes Y.here hx rfl (pc0 := pc) (pc' := tgt) rfl (hb hby hd) rfl (Jvm.Free.XT.ii_gt_t hc) ho hp q) (qt hc)
  · exact Wp.go (fun _ q => XS.icmpNo Y.here hx rfl (hb hby hd) rfl (Jvm.Free.XT.ii_gt_f hc) q) (qf hc)
theorem w_ifgt (X : Pos Z a0 n0 p l e R s m args below meth c code ml ret y T h k j) {x : Int32} {o : Int} (hd : Jmp code pc (.ifCond .gt o) o nx tgt) (qt : 0 < x → Wp n0 p e R s below Q T (mkF m tgt Ls S)) (qf : ¬ 0 < x → Wp n0 p e R s below Q T (mkF m nx Ls S)) : Wp n0 p e R s below Q T (mkF m pc Ls (.int x :: S)) := by
  obtain ⟨hx, hZ, hby, hml, hret, hown, hnm, hlk, eT, hn0, hw, locs, N, Y⟩ := X
  obtain ⟨hd, rfl, ho, hp⟩ := hd
  by_cases hc : 0 < x
  · exact Wp.go (fun _ q => XS.ifYes Y.here hx rfl (pc0 := pc) (pc' := tgt) rfl (hb hby hd) rfl (Jvm.Free.XT.i0_gt_t hc) ho hp q) (qt hc)
  · exact Wp.go (fun _ q => XS.ifNo Y.here hx rfl (hb hby hd) rfl (Jvm.Free.XT.i0_gt_f hc) q) (qf hc)
theorem w_lcmpgt (X : Pos Z a0 n0 p l e R s m args below meth c code ml ret y T h k j) {x z : Int64} {o : Int} {mid : Nat} (hd0 : Dec code pc .lcmp 1 mid) (hd : Jmp code mid (.ifCond .gt o) o nx tgt) (qt : z < x → Wp n0 p e R s below Q T (mkF m tgt Ls S)) (qf : ¬ z < x → Wp n0 p e R s below Q T (mkF m nx Ls S)) : Wp n0 p e R s below Q T (mkF m pc Ls (.long z :: .long x :: S)) := by
  obtain ⟨hx, hZ, hby, hml, hret, hown, hnm, hlk, eT, hn0, hw, locs, N, Y⟩ := X
  obtain ⟨hd0, rfl⟩ := hd0
  obtain ⟨hd, rfl, ho, hp⟩ := hd
  refine Wp.go (fun _ q => Jvm.Free.XT.lcmp Y.here hx rfl (hb hby hd0) rfl q) ?_
  by_cases hc : z < x
  · exact Wp.go (fun _ q => XS.ifYes Y.here hx rfl (pc0 := pc + 1) (pc' := tgt) rfl (hb hby hd) rfl (Jvm.Free.XT.ll_gt_t hc) ho hp q) (qt hc)
  · exact Wp.go (fun _ q => XS.ifNo Y.here hx rfl (hb hby hd) rfl (Jvm.Free.XT.ll_gt_f hc) q) (qf hc)
theorem w_icmple (X : Pos Z a0 n0 p l e R s m args below meth c code ml ret y T h k j) {x z : Int32} {o : Int} (hd : Jmp code pc (.if_icmp .le o) o nx tgt) (qt : ¬ z < x → Wp n0 p e R s below Q T (mkF m tgt Ls S)) (qf : z < x → Wp n0 p e R s below Q T (mkF m nx Ls S)) : Wp n0 p e R s below Q T (mkF m pc Ls (.int z :: .int x :: S)) := by
  obtain ⟨hx, hZ, hby, hml, hret, hown, hnm, hlk, eT, hn0, hw, locs, N, Y⟩ := X
  obtain ⟨hd, rfl, ho, hp⟩ := hd
  by_cases hc : z < x
  · exact Wp.go (fun _ q => XS.icmpNo Y.here hx rfl (hb hby hd) rfl (Jvm.Free.XT.ii_le_f hc) q) (qf hc)
  · exact Wp.go (fun _ q => XS.icmpYes Y.here hx rfl (pc0 := pc) (pc' := tgt) rfl (hb hby hd) rfl (Jvm.Free.XT.ii_le_t hc) ho hp q) (qt hc)
theorem w_ifle (X : Pos Z a0 n0 p l e R s m args below meth c code ml ret y T h k j) {x : Int32} {o : Int} (hd : Jmp code pc (.ifCond .le o) o nx tgt) (qt : ¬ 0 < x → Wp n0 p e R s below Q T (mkF m tgt Ls S)) (qf : 0 < x → Wp n0 p e R s below Q T (mkF m nx Ls S)) : Wp n0 p e R s below Q T (mkF m pc Ls (.int x :: S)) := by
  obtain ⟨hx, hZ, hby, hml, hret, hown, hnm, hlk, eT, hn0, hw, locs, N, Y⟩ := X
  obtain ⟨hd, rfl, ho, hp⟩ := hd
  by_cases hc : 0 < x
  · exact Wp.go (fun _ q => XS.ifNo Y.here hx rfl (hb hby hd) rfl (Jvm.Free.XT.i0_le_f hc) q) (qf hc)
  · exact Wp.go (fun _ q => XS.ifYes Y.here hx rfl (pc0 := pc) (pc' := tgt) rfl (hb hby hd) rfl (Jvm.Free.XT.i0_le_t hc) ho hp q) (qt hc)
theorem w_lcmple (X : Pos Z a0 n0 p l e R s m args below meth c code ml ret y T h k j) {x z : Int64} {o : Int} {mid : Nat} (hd0 : Dec code pc .lcmp 1 mid) (hd : Jmp code mid (.ifCond .le o) o nx tgt) (qt : ¬ z < x → Wp n0 p e R s below Q T (mkF m tgt Ls S)) (qf : z < x → Wp n0 p e R s below Q T (mkF m nx Ls S)) : Wp n0 p e R s below Q T (mkF m pc Ls (.long z :: .long x :: S)) := by
  obtain ⟨hx, hZ, hby, hml, hret, hown, hnm, hlk, eT, hn0, hw, locs, N, Y⟩ := X
  obtain ⟨hd0, rfl⟩ := hd0
  obtain ⟨hd, rfl, ho, hp⟩ := hd
  refine Wp.go (fun _ q => Jvm.Free.XT.lcmp Y.here hx rfl (hb hby hd0) rfl q) ?_
  by_cases hc : z < x
  · exact Wp.go (fun _ q => XS.ifNo Y.here hx rfl (hb hby hd) rfl (Jvm.Free.XT.ll_le_f hc) q) (qf hc)
  · exact Wp.go (fun _ q => XS.ifYes Y.here hx rfl (pc0 := pc + 1) (pc' := tgt) rfl (hb hby hd) rfl (Jvm.Free.XT.ll_le_t hc) ho hp q) (qt hc)
theorem w_ldc (X : Pos Z a0 n0 p l e R s m args below meth c code ml ret y T h k j) {i : Nat} {v : Int32} (hd : Dec code pc (.ldc i) 2 nx) (wc : (Jvm.Cond.constant y.cls i v).before a0 Z = true) (q : Wp n0 p e R s below Q T (mkF m nx Ls (.int v :: S))) : Wp n0 p e R s below Q T (mkF m pc Ls S) := by
  obtain ⟨hx, hZ, hby, hml, hret, hown, hnm, hlk, eT, hn0, hw, locs, N, Y⟩ := X
  obtain ⟨hd, rfl⟩ := hd
  exact Wp.go (Y.ldcInt hx hown (mvT hZ wc) rfl (hb hby hd)) q
theorem w_ldc2 (X : Pos Z a0 n0 p l e R s m args below meth c code ml ret y T h k j) {i : Nat} {v : Int64} (hd : Dec code pc (.ldc2_w i) 3 nx) (wc : (Jvm.Cond.constantLong y.cls i v).before a0 Z = true) (q : Wp n0 p e R s below Q T (mkF m nx Ls (.long v :: S))) : Wp n0 p e R s below Q T (mkF m pc Ls S) := by
  obtain ⟨hx, hZ, hby, hml, hret, hown, hnm, hlk, eT, hn0, hw, locs, N, Y⟩ := X
  obtain ⟨hd, rfl⟩ := hd
  exact Wp.go (Y.ldc2Long hx hown (mvT hZ wc) rfl (hb hby hd)) q
theorem w_ldcw (X : Pos Z a0 n0 p l e R s m args below meth c code ml ret y T h k j) {i : Nat} {v : Int32} (hd : Dec code pc (.ldc_w i) 3 nx) (wc : (Jvm.Cond.constant y.cls i v).before a0 Z = true) (q : Wp n0 p e R s below Q T (mkF m nx Ls (.int v :: S))) : Wp n0 p e R s below Q T (mkF m pc Ls S) := by
  obtain ⟨hx, hZ, hby, hml, hret, hown, hnm, hlk, eT, hn0, hw, locs, N, Y⟩ := X
  obtain ⟨hd, rfl⟩ := hd
  exact Wp.go (Y.ldcwInt hx hown (mvT hZ wc) rfl (hb hby hd)) q
theorem w_wiinc (X : Pos Z a0 n0 p l e R s m args below meth c code ml ret y T h k j) {w : Nat} {i : Int} {d v r : Int32} {l' : Array Slot} (hd : Dec code pc (.iinc w i) 6 nx) (hl : Ls[w]? = some (.val (.int v))) (hi : Int32.ofInt i = d) (hr : v + d = r) (hl' : storeLocals Ls w (.int r) = some l') (q : Wp n0 p e R s below Q T (mkF m nx l' S)) : Wp n0 p e R s below Q T (mkF m pc Ls S) := by
  obtain ⟨hx, hZ, hby, hml, hret, hown, hnm, hlk, eT, hn0, hw, locs, N, Y⟩ := X
  obtain ⟨hd, rfl⟩ := hd
  subst hi hr
  refine Wp.go (fun _ q => ?_) q
  have hd' := hb hby hd
  have h := Y.here
  jvm_step h [h.top, hx, hd', hl, hl']
  exact q
theorem w_ireturn (X : Pos Z a0 n0 p l e R s m args below meth c code ml (some .int) y T h k j) {z : Int32} (hd : Dec code pc .ireturn 1 nx) (hk : k ≤ R.cells) (hj : j ≤ R.slots) (hq : Q (some (.int z)) h) : Wp n0 p e R s below Q T (mkF m pc Ls (.int z :: S)) := by
  obtain ⟨hx, hZ, hby, hml, hret, hown, hnm, hlk, eT, hn0, hw, locs, N, Y⟩ := X
  obtain ⟨hd, -⟩ := hd
  obtain ⟨fs, hr, hrun, hended, hW, hsame⟩ := Y.leave (v := (some (.int z))) (fun h => by rw [hret] at h; cases h) hlk
  exact ⟨_, _, retI Y hx hret (hb hby hd) hr, hrun, hended, _, _, rfl, ⟨N, by show n0 ≤ T.heap.size; rw [eT]; exact hn0, by show Q _ T.heap; rw [eT]; exact hq⟩, ⟨_, rfl⟩, hW, hsame.mono hk hj⟩
theorem w_breturn (X : Pos Z a0 n0 p l e R s m args below meth c code ml (some .byte) y T h k j) {z : Int32} (hd : Dec code pc .ireturn 1 nx) (hk : k ≤ R.cells) (hj : j ≤ R.slots) (hq : Q (some (.int (nar .byte z))) h) : Wp n0 p e R s below Q T (mkF m pc Ls (.int z :: S)) := by
  obtain ⟨hx, hZ, hby, hml, hret, hown, hnm, hlk, eT, hn0, hw, locs, N, Y⟩ := X
  obtain ⟨hd, -⟩ := hd
  obtain ⟨fs, hr, hrun, hended, hW, hsame⟩ := Y.leave (v := (some (.int (nar .byte z)))) (fun h => by rw [hret] at h; cases h) hlk
  exact ⟨_, _, retN Y hx (t := .byte) hret (by simp) (hb hby hd) hr, hrun, hended, _, _, rfl, ⟨N, by show n0 ≤ T.heap.size; rw [eT]; exact hn0, by show Q _ T.heap; rw [eT]; exact hq⟩, ⟨_, rfl⟩, hW, hsame.mono hk hj⟩
theorem w_zreturn (X : Pos Z a0 n0 p l e R s m args below meth c code ml (some .boolean) y T h k j) {z : Int32} (hd : Dec code pc .ireturn 1 nx) (hk : k ≤ R.cells) (hj : j ≤ R.slots) (hq : Q (some (.int (nar .boolean z))) h) : Wp n0 p e R s below Q T (mkF m pc Ls (.int z :: S)) := by
  obtain ⟨hx, hZ, hby, hml, hret, hown, hnm, hlk, eT, hn0, hw, locs, N, Y⟩ := X
  obtain ⟨hd, -⟩ := hd
  obtain ⟨fs, hr, hrun, hended, hW, hsame⟩ := Y.leave (v := (some (.int (nar .boolean z)))) (fun h => by rw [hret] at h; cases h) hlk
  exact ⟨_, _, retN Y hx (t := .boolean) hret (by simp) (hb hby hd) hr, hrun, hended, _, _, rfl, ⟨N, by show n0 ≤ T.heap.size; rw [eT]; exact hn0, by show Q _ T.heap; rw [eT]; exact hq⟩, ⟨_, rfl⟩, hW, hsame.mono hk hj⟩
theorem w_lreturn (X : Pos Z a0 n0 p l e R s m args below meth c code ml (some .long) y T h k j) {z : Int64} (hd : Dec code pc .lreturn 1 nx) (hk : k ≤ R.cells) (hj : j ≤ R.slots) (hq : Q (some (.long z)) h) : Wp n0 p e R s below Q T (mkF m pc Ls [.long z]) := by
  obtain ⟨hx, hZ, hby, hml, hret, hown, hnm, hlk, eT, hn0, hw, locs, N, Y⟩ := X
  obtain ⟨hd, -⟩ := hd
  obtain ⟨fs, hr, hrun, hended, hW, hsame⟩ := Y.leave (v := (some (.long z))) (fun h => by rw [hret] at h; cases h) hlk
  exact ⟨_, _, Y.lreturnOut hx hret (hb hby hd) hr, hrun, hended, _, _, rfl, ⟨N, by show n0 ≤ T.heap.size; rw [eT]; exact hn0, by show Q _ T.heap; rw [eT]; exact hq⟩, ⟨_, rfl⟩, hW, hsame.mono hk hj⟩
theorem w_return (X : Pos Z a0 n0 p l e R s m args below meth c code ml none y T h k j)  (hd : Dec code pc .return_ 1 nx) (hk : k ≤ R.cells) (hj : j ≤ R.slots) (hq : Q none h) : Wp n0 p e R s below Q T (mkF m pc Ls []) := by
  obtain ⟨hx, hZ, hby, hml, hret, hown, hnm, hlk, eT, hn0, hw, locs, N, Y⟩ := X
  obtain ⟨hd, -⟩ := hd
  obtain ⟨fs, hr, hrun, hended, hW, hsame⟩ := Y.leave (v := none) (fun _ => rfl) hlk
  exact ⟨_, _, Y.returnOut hx hret (hb hby hd) hr, hrun, hended, _, _, rfl, ⟨N, by show n0 ≤ T.heap.size; rw [eT]; exact hn0, by show Q _ T.heap; rw [eT]; exact hq⟩, ⟨_, rfl⟩, hW, hsame.mono hk hj⟩
theorem w_arraylength (X : Pos Z a0 n0 p l e R s m args below meth c code ml ret y T h k j) {a : Addr} {ty : FieldType} {n : Nat} {g : Nat → Value} (hd : Dec code pc .arraylength 1 nx) (B : Ba Z n0 h a ty n g) (q : Wp n0 p e R s below Q T (mkF m nx Ls (.int (Int32.ofNat n) :: S))) : Wp n0 p e R s below Q T (mkF m pc Ls (.ref a :: S)) := by
  obtain ⟨hx, hZ, hby, hml, hret, hown, hnm, hlk, eT, hn0, hw, locs, N, Y⟩ := X
  obtain ⟨hd, rfl⟩ := hd
  obtain ⟨-, hn, cl, A, hs, -⟩ := B
  subst hs
  exact Wp.go (fun _ q => Y.arraylength hx (g := mkF m pc Ls (.ref a :: S)) (cell := cl) (by rw [eT]; exact A.1) (State.isArrayOf_alike hZ.alike A.2.1) rfl rfl (hb hby hd) _ q) q
theorem w_baload (X : Pos Z a0 n0 p l e R s m args below meth c code ml ret y T h k j) {a : Addr} {n : Nat} {b : Nat → Int32} {x : Int32} (hd : Dec code pc .baload 1 nx) (B : Ba Z n0 h a .byte n (bI b)) (i : Nat) (hi : x = Int32.ofNat i) (hlt : i < n) (q : Wp n0 p e R s below Q T (mkF m nx Ls (.int (b i) :: S))) : Wp n0 p e R s below Q T (mkF m pc Ls (.int x :: .ref a :: S)) := by
  obtain ⟨hx, hZ, hby, hml, hret, hown, hnm, hlk, eT, hn0, hw, locs, N, Y⟩ := X
  obtain ⟨hd, rfl⟩ := hd
  obtain ⟨-, hn, cl, A, hs, hv⟩ := B
  subst hi
  exact Wp.go (fun _ q => Y.baloadBytes hx (g := mkF m pc Ls (.int (Int32.ofNat i) :: .ref a :: S)) (j := Int32.ofNat i) (v := .int (b i)) (by rw [eT]; exact A.1) (State.isArrayOf_alike hZ.alike A.2.1) A.2.2 (inb hn hs hlt) (by rw [ofNat_clamp (by omega)]; exact hv i hlt) rfl rfl (hb hby hd) _ q) q
theorem w_iaload (X : Pos Z a0 n0 p l e R s m args below meth c code ml ret y T h k j) {a : Addr} {n : Nat} {b : Nat → Int32} {x : Int32} (hd : Dec code pc .iaload 1 nx) (B : Ba Z n0 h a .int n (bI b)) (i : Nat) (hi : x = Int32.ofNat i) (hlt : i < n) (q : Wp n0 p e R s below Q T (mkF m nx Ls (.int (b i) :: S))) : Wp n0 p e R s below Q T (mkF m pc Ls (.int x :: .ref a :: S)) := by
  obtain ⟨hx, hZ, hby, hml, hret, hown, hnm, hlk, eT, hn0, hw, locs, N, Y⟩ := X
  obtain ⟨hd, rfl⟩ := hd
  obtain ⟨-, hn, cl, A, hs, hv⟩ := B
  subst hi
  exact Wp.go (fun _ q => Y.iaload hx (g := mkF m pc Ls (.int (Int32.ofNat i) :: .ref a :: S)) (j := Int32.ofNat i) (v := .int (b i)) (by rw [eT]; exact A.1) (State.isArrayOf_alike hZ.alike A.2.1) A.2.2 (inb hn hs hlt) (by rw [ofNat_clamp (by omega)]; exact hv i hlt) rfl rfl (hb hby hd) _ q) q
theorem w_laload (X : Pos Z a0 n0 p l e R s m args below meth c code ml ret y T h k j) {a : Addr} {n : Nat} {b : Nat → Int64} {x : Int32} (hd : Dec code pc .laload 1 nx) (B : Ba Z n0 h a .long n (bJ b)) (i : Nat) (hi : x = Int32.ofNat i) (hlt : i < n) (q : Wp n0 p e R s below Q T (mkF m nx Ls (.long (b i) :: S))) : Wp n0 p e R s below Q T (mkF m pc Ls (.int x :: .ref a :: S)) := by
  obtain ⟨hx, hZ, hby, hml, hret, hown, hnm, hlk, eT, hn0, hw, locs, N, Y⟩ := X
  obtain ⟨hd, rfl⟩ := hd
  obtain ⟨-, hn, cl, A, hs, hv⟩ := B
  subst hi
  exact Wp.go (fun _ q => Y.laload hx (g := mkF m pc Ls (.int (Int32.ofNat i) :: .ref a :: S)) (j := Int32.ofNat i) (v := .long (b i)) (by rw [eT]; exact A.1) (State.isArrayOf_alike hZ.alike A.2.1) A.2.2 (inb hn hs hlt) (by rw [ofNat_clamp (by omega)]; exact hv i hlt) rfl rfl (hb hby hd) _ q) q
theorem w_bastore (X : Pos Z a0 n0 p l e R s m args below meth c code ml ret y T h k j) {a : Addr} {n : Nat} {b : Nat → Int32} {x : Int32} {v : Int32} (hd : Dec code pc .bastore 1 nx) (B : Ba Z n0 h a .byte n (bI b)) (i : Nat) (hi : x = Int32.ofNat i) (hlt : i < n)
    (q : ∀ T' h', Pos Z a0 n0 p l e R s m args below meth c code ml ret y T' h' k j → Keep h h' [a] → Ba Z n0 h' a .byte n (bI (upd b i (jbyte v))) → Wp n0 p e R s below Q T' (mkF m nx Ls S)) : Wp n0 p e R s below Q T (mkF m pc Ls (.int v :: .int x :: .ref a :: S)) := by
  obtain ⟨hx, hZ, hby, hml, hret, hown, hnm, hlk, eT, hn0, hw, locs, N, Y⟩ := X
  obtain ⟨hd, rfl⟩ := hd
  obtain ⟨hna, hn, cl, A, hs, hv⟩ := B
  subst hi
  obtain ⟨T', h', Y', e', W', st⟩ := stB Y hx hZ eT A (j := Int32.ofNat i) (inb hn hs hlt) (g := mkF m pc Ls (.int v :: .int (Int32.ofNat i) :: .ref a :: S)) rfl rfl (hb hby hd)
  refine Wp.go st (q T' h' ⟨hx, hZ, hby, hml, hret, hown, hnm, hlk, e', by rw [W'.size]; exact hn0, hw, _, Fr.snoc Y' N hna, Y'⟩ (Keep.of_wr W') ⟨hna, hn, _, A.same W', (sz_set _ _ _).trans hs, fun q hq => ?_⟩)
  rw [ofNat_clamp (by omega)]
  by_cases hqi : q = i
  · subst hqi
    simp [Cell.setSlot, hs, hq, upd, bI, nar]
  · simp [Cell.setSlot, upd, hqi, bI, Array.getElem?_setIfInBounds_ne (Ne.symm hqi), hv q hq]
theorem w_iastore (X : Pos Z a0 n0 p l e R s m args below meth c code ml ret y T h k j) {a : Addr} {n : Nat} {b : Nat → Int32} {x : Int32} {v : Int32} (hd : Dec code pc .iastore 1 nx) (B : Ba Z n0 h a .int n (bI b)) (i : Nat) (hi : x = Int32.ofNat i) (hlt : i < n)
    (q : ∀ T' h', Pos Z a0 n0 p l e R s m args below meth c code ml ret y T' h' k j → Keep h h' [a] → Ba Z n0 h' a .int n (bI (upd b i (v))) → Wp n0 p e R s below Q T' (mkF m nx Ls S)) : Wp n0 p e R s below Q T (mkF m pc Ls (.int v :: .int x :: .ref a :: S)) := by
  obtain ⟨hx, hZ, hby, hml, hret, hown, hnm, hlk, eT, hn0, hw, locs, N, Y⟩ := X
  obtain ⟨hd, rfl⟩ := hd
  obtain ⟨hna, hn, cl, A, hs, hv⟩ := B
  subst hi
  obtain ⟨T', h', Y', e', W', st⟩ := stI Y hx hZ eT A (j := Int32.ofNat i) (inb hn hs hlt) (g := mkF m pc Ls (.int v :: .int (Int32.ofNat i) :: .ref a :: S)) rfl rfl (hb hby hd)
  refine Wp.go st (q T' h' ⟨hx, hZ, hby, hml, hret, hown, hnm, hlk, e', by rw [W'.size]; exact hn0, hw, _, Fr.snoc Y' N hna, Y'⟩ (Keep.of_wr W') ⟨hna, hn, _, A.same W', (sz_set _ _ _).trans hs, fun q hq => ?_⟩)
  rw [ofNat_clamp (by omega)]
  by_cases hqi : q = i
  · subst hqi
    simp [Cell.setSlot, hs, hq, upd, bI]
  · simp [Cell.setSlot, upd, hqi, bI, Array.getElem?_setIfInBounds_ne (Ne.symm hqi), hv q hq]
theorem w_lastore (X : Pos Z a0 n0 p l e R s m args below meth c code ml ret y T h k j) {a : Addr} {n : Nat} {b : Nat → Int64} {x : Int32} {v : Int64} (hd : Dec code pc .lastore 1 nx) (B : Ba Z n0 h a .long n (bJ b)) (i : Nat) (hi : x = Int32.ofNat i) (hlt : i < n)
    (q : ∀ T' h', Pos Z a0 n0 p l e R s m args below meth c code ml ret y T' h' k j → Keep h h' [a] → Ba Z n0 h' a .long n (bJ (upd b i (v))) → Wp n0 p e R s below Q T' (mkF m nx Ls S)) : Wp n0 p e R s below Q T (mkF m pc Ls (.long v :: .int x :: .ref a :: S)) := by
  obtain ⟨hx, hZ, hby, hml, hret, hown, hnm, hlk, eT, hn0, hw, locs, N, Y⟩ := X
  obtain ⟨hd, rfl⟩ := hd
  obtain ⟨hna, hn, cl, A, hs, hv⟩ := B
  subst hi
  obtain ⟨T', h', Y', e', W', st⟩ := stJ Y hx hZ eT A (j := Int32.ofNat i) (inb hn hs hlt) (g := mkF m pc Ls (.long v :: .int (Int32.ofNat i) :: .ref a :: S)) rfl rfl (hb hby hd)
  refine Wp.go st (q T' h' ⟨hx, hZ, hby, hml, hret, hown, hnm, hlk, e', by rw [W'.size]; exact hn0, hw, _, Fr.snoc Y' N hna, Y'⟩ (Keep.of_wr W') ⟨hna, hn, _, A.same W', (sz_set _ _ _).trans hs, fun q hq => ?_⟩)
  rw [ofNat_clamp (by omega)]
  by_cases hqi : q = i
  · subst hqi
    simp [Cell.setSlot, hs, hq, upd, bJ]
  · simp [Cell.setSlot, upd, hqi, bJ, Array.getElem?_setIfInBounds_ne (Ne.symm hqi), hv q hq]
theorem w_newB (X : Pos Z a0 n0 p l e R s m args below meth c code ml ret y T h k j) {x : Int32} (hd : Dec code pc (.newarray .byte) 2 nx) (wa : (Jvm.Cond.arrayClass .byte).before a0 Z = true) (n cap : Nat) (hx' : x = Int32.ofNat n) (hcap : n ≤ cap) (hb' : cap * 8 ≤ 536870912) (hk : k + 1 ≤ R.cells) (hj : j + cap ≤ R.slots)
    (q : ∀ T' h' a, Pos Z a0 n0 p l e R s m args below meth c code ml ret y T' h' (k + 1) (j + cap) → a = h.size → Ext h h' → Ba Z n0 h' a .byte n (bI fun _ => 0) → Wp n0 p e R s below Q T' (mkF m nx Ls (.ref a :: S))) : Wp n0 p e R s below Q T (mkF m pc Ls (.int x :: S)) := by
  obtain ⟨hx, hZ, hby, hml, hret, hown, hnm, hlk, eT, hn0, hw, locs, N, Y⟩ := X
  obtain ⟨hd, rfl⟩ := hd
  subst hx'
  obtain ⟨T', h', cA, Y', e', E', A', st⟩ := newP Y hx hZ (aty := .byte) wa eT (g := mkF m pc Ls (.int (Int32.ofNat n) :: S)) rfl (hb hby hd) rfl (ofNat_nn (by omega)) (cap := cap) (by rw [ofNat_clamp (by omega)]; exact hcap) hb' hk hj
  refine Wp.go st (q T' h' _ ⟨hx, hZ, hby, hml, hret, hown, hnm, hlk, e', Nat.le_trans hn0 E'.1, hw, _, N, Y'⟩ rfl E' ⟨hn0, by omega, _, A', by rw [sz_new, ofNat_clamp (by omega)], fun i hi => ?_⟩)
  have := get_new (cA := cA) (ty := .byte) (n := Int32.ofNat n) (k := Int32.ofNat i) (by rw [ofNat_clamp (by omega), ofNat_clamp (by omega)]; exact fun q => q.elim (ofNat_nn (by omega)) (fun q => by omega))
  rw [ofNat_clamp (by omega)] at this
  exact this
theorem w_newI (X : Pos Z a0 n0 p l e R s m args below meth c code ml ret y T h k j) {x : Int32} (hd : Dec code pc (.newarray .int) 2 nx) (wa : (Jvm.Cond.arrayClass .int).before a0 Z = true) (n cap : Nat) (hx' : x = Int32.ofNat n) (hcap : n ≤ cap) (hb' : cap * 8 ≤ 536870912) (hk : k + 1 ≤ R.cells) (hj : j + cap ≤ R.slots)
    (q : ∀ T' h' a, Pos Z a0 n0 p l e R s m args below meth c code ml ret y T' h' (k + 1) (j + cap) → a = h.size → Ext h h' → Ba Z n0 h' a .int n (bI fun _ => 0) → Wp n0 p e R s below Q T' (mkF m nx Ls (.ref a :: S))) : Wp n0 p e R s below Q T (mkF m pc Ls (.int x :: S)) := by
  obtain ⟨hx, hZ, hby, hml, hret, hown, hnm, hlk, eT, hn0, hw, locs, N, Y⟩ := X
  obtain ⟨hd, rfl⟩ := hd
  subst hx'
  obtain ⟨T', h', cA, Y', e', E', A', st⟩ := newP Y hx hZ (aty := .int) wa eT (g := mkF m pc Ls (.int (Int32.ofNat n) :: S)) rfl (hb hby hd) rfl (ofNat_nn (by omega)) (cap := cap) (by rw [ofNat_clamp (by omega)]; exact hcap) hb' hk hj
  refine Wp.go st (q T' h' _ ⟨hx, hZ, hby, hml, hret, hown, hnm, hlk, e', Nat.le_trans hn0 E'.1, hw, _, N, Y'⟩ rfl E' ⟨hn0, by omega, _, A', by rw [sz_new, ofNat_clamp (by omega)], fun i hi => ?_⟩)
  have := get_new (cA := cA) (ty := .int) (n := Int32.ofNat n) (k := Int32.ofNat i) (by rw [ofNat_clamp (by omega), ofNat_clamp (by omega)]; exact fun q => q.elim (ofNat_nn (by omega)) (fun q => by omega))
  rw [ofNat_clamp (by omega)] at this
  exact this
theorem w_newJ (X : Pos Z a0 n0 p l e R s m args below meth c code ml ret y T h k j) {x : Int32} (hd : Dec code pc (.newarray .long) 2 nx) (wa : (Jvm.Cond.arrayClass .long).before a0 Z = true) (n cap : Nat) (hx' : x = Int32.ofNat n) (hcap : n ≤ cap) (hb' : cap * 8 ≤ 536870912) (hk : k + 1 ≤ R.cells) (hj : j + cap ≤ R.slots)
    (q : ∀ T' h' a, Pos Z a0 n0 p l e R s m args below meth c code ml ret y T' h' (k + 1) (j + cap) → a = h.size → Ext h h' → Ba Z n0 h' a .long n (bJ fun _ => 0) → Wp n0 p e R s below Q T' (mkF m nx Ls (.ref a :: S))) : Wp n0 p e R s below Q T (mkF m pc Ls (.int x :: S)) := by
  obtain ⟨hx, hZ, hby, hml, hret, hown, hnm, hlk, eT, hn0, hw, locs, N, Y⟩ := X
  obtain ⟨hd, rfl⟩ := hd
  subst hx'
  obtain ⟨T', h', cA, Y', e', E', A', st⟩ := newP Y hx hZ (aty := .long) wa eT (g := mkF m pc Ls (.int (Int32.ofNat n) :: S)) rfl (hb hby hd) rfl (ofNat_nn (by omega)) (cap := cap) (by rw [ofNat_clamp (by omega)]; exact hcap) hb' hk hj
  refine Wp.go st (q T' h' _ ⟨hx, hZ, hby, hml, hret, hown, hnm, hlk, e', Nat.le_trans hn0 E'.1, hw, _, N, Y'⟩ rfl E' ⟨hn0, by omega, _, A', by rw [sz_new, ofNat_clamp (by omega)], fun i hi => ?_⟩)
  have := get_new (cA := cA) (ty := .long) (n := Int32.ofNat n) (k := Int32.ofNat i) (by rw [ofNat_clamp (by omega), ofNat_clamp (by omega)]; exact fun q => q.elim (ofNat_nn (by omega)) (fun q => by omega))
  rw [ofNat_clamp (by omega)] at this
  exact this
theorem w_static (X : Pos Z a0 n0 p l e R s m args below meth c code ml ret y T h k j) {z : MethodName} {cz : ByteArray} {mz : Nat} {rz : Option FieldType} {rm : Room} {Qz : Option Value → Heap → Prop} {ps : List FieldType} {rr : Option FieldType} {i : Nat} {argsL : List Value} (hd : Dec code pc (.invokestatic i) 3 nx) (C : Ctr l Z n0 z cz mz rz rm [] argsL.toArray h Qz) (wl : (Jvm.Cond.methodLink y.cls i z).before a0 Z = true) (ws : (Jvm.Cond.static z).before a0 Z = true) (wi : (Jvm.Cond.initialized z.cls).before a0 Z = true) (wc : (Jvm.Cond.code z cz mz rz).before a0 Z = true)
    (hz : z.cls ≠ "java/lang/invoke/MethodHandle" ∧ z.cls ≠ "java/lang/invoke/VarHandle") (hpd : parseMethodDescriptor z.desc = some ⟨ps, rr⟩) (hlen : argsL.length = ps.length) {S0 : List Value} (hS : S0 = argsL.reverse ++ S) (hsz : Ls.size = ml)
    (hf : rm.frames + 1 ≤ R.frames) (hlo : (S.map fun v => v.category).sum + (mz + 11) + rm.locals ≤ R.locals) (hk : k + rm.cells ≤ R.cells) (hj : j + rm.slots ≤ R.slots)
    (q : ∀ v T' h', Pos Z a0 n0 p l e R s m args below meth c code ml ret y T' h' (k + rm.cells) (j + rm.slots) → Qz v h' → Wp n0 p e R s below Q T' (mkF m nx Ls (v.toList ++ S))) : Wp n0 p e R s below Q T (mkF m pc Ls S0) := by
  obtain ⟨hx, hZ, hby, hml, hret, hown, hnm, hlk, eT, hn0, hw, locs, N, Y⟩ := X
  obtain ⟨hd, rfl⟩ := hd
  obtain ⟨v, _, ⟨T', L', k', j'⟩, -, Y', ⟨Lc, hQ, l1, l2, l3⟩, st⟩ := Jvm.LawKit.callS Y hx (y := z) hown (mvT hZ wl) (mvT hZ ws) (mvT hZ wi) (mvT hZ wc) hz (backOf (W := (S.map fun v => v.category).sum) (Q := fun v h L => Fr n0 L ∧ n0 ≤ h.size ∧ Qz v h) C hZ wc wi hf hlo) (g := mkF m pc Ls S0) rfl (by rw [hml]; exact hsz) (argsL := argsL) (rest := S) (lenOf hpd hlen) hS (by show 2 * 0 + _ ≤ _; omega) (hb hby hd) (fun _ _ => ⟨rfl, eT, hk, hj⟩)
  dsimp only [Pt.U, Pt.locs, Pt.cells, Pt.slots] at Y' l1 l2 l3 st hQ
  subst l1 l2 l3
  obtain ⟨N', hn', hQ⟩ := hQ
  exact Wp.go st (q v T' _ ⟨hx, hZ, hby, hml, hret, hown, hnm, hlk, rfl, hn', hw, _, Fr.app N N', Y'⟩ hQ)
theorem w_virtual (X : Pos Z a0 n0 p l e R s m args below meth c code ml ret y T h k j) {z : MethodName} {cz : ByteArray} {mz : Nat} {rz : Option FieldType} {rm : Room} {Qz : Option Value → Heap → Prop} {ps : List FieldType} {rr : Option FieldType} {i : Nat} {argsL : List Value} {a : Addr} (hd : Dec code pc (.invokevirtual i) 3 nx) (C : Ctr l Z n0 z cz mz rz rm [] (.ref a :: argsL).toArray h Qz) (E : Exa Z h a z.cls) (wl : (Jvm.Cond.methodLink y.cls i z).before a0 Z = true) (wdc : (Jvm.Cond.declares z).before a0 Z = true) (wse : (Jvm.Cond.selects z.cls z z).before a0 Z = true) (wim : (Jvm.Cond.instanceMethod z).before a0 Z = true) (wi : (Jvm.Cond.initialized z.cls).before a0 Z = true) (wc : (Jvm.Cond.code z cz mz rz).before a0 Z = true)
    (hz : z.cls ≠ "java/lang/invoke/MethodHandle" ∧ z.cls ≠ "java/lang/invoke/VarHandle") (hpd : parseMethodDescriptor z.desc = some ⟨ps, rr⟩) (hlen : argsL.length = ps.length) {S0 : List Value} (hS : S0 = argsL.reverse ++ .ref a :: S) (hsz : Ls.size = ml)
    (hf : rm.frames + 1 ≤ R.frames) (hlo : (S.map fun v => v.category).sum + (mz + 11) + rm.locals ≤ R.locals) (hk : k + rm.cells ≤ R.cells) (hj : j + rm.slots ≤ R.slots)
    (q : ∀ v T' h', Pos Z a0 n0 p l e R s m args below meth c code ml ret y T' h' (k + rm.cells) (j + rm.slots) → Qz v h' → Wp n0 p e R s below Q T' (mkF m nx Ls (v.toList ++ S))) : Wp n0 p e R s below Q T (mkF m pc Ls S0) := by
  obtain ⟨hx, hZ, hby, hml, hret, hown, hnm, hlk, eT, hn0, hw, locs, N, Y⟩ := X
  obtain ⟨hd, rfl⟩ := hd
  obtain ⟨cq, kq, qa, qb, qc⟩ := isOf hZ eT E
  have Ctr' := backOf (l := l) (R := R) (p := p) (e := e) (below := below) (s := s) (args := args) (len := 3) (W := (S.map fun v => v.category).sum) (Q := fun v h L => Fr n0 L ∧ n0 ≤ h.size ∧ Qz v h) C hZ wc wi hf hlo
  obtain ⟨v, _, ⟨T', L', k', j'⟩, -, Y', ⟨Lc, hQ, l1, l2, l3⟩, st⟩ := Y.virtualBack hx (y := z) (z := z) hown (mvT hZ wl) (mvT hZ wdc) (notFace_of_selects (args := #[]) (mvT hZ wse)) (mvT hZ wse) (mvT hZ wim) hz Ctr' qa qc (g := mkF m pc Ls S0) rfl (by rw [hml]; exact hsz) (Steps.refl _) (argsL := argsL) (rest := S) (lenOf hpd hlen) hS (by show 2 * 0 + _ ≤ _; omega) (hb hby hd) (fun _ _ => ⟨rfl, eT, hk, hj⟩)
  dsimp only [Pt.U, Pt.locs, Pt.cells, Pt.slots] at Y' l1 l2 l3 st hQ
  subst l1 l2 l3
  obtain ⟨N', hn', hQ⟩ := hQ
  exact Wp.go (fun _ t => st.trans t) (q v T' _ ⟨hx, hZ, hby, hml, hret, hown, hnm, hlk, rfl, hn', hw, _, Fr.app N N', Y'⟩ hQ)
theorem w_special (X : Pos Z a0 n0 p l e R s m args below meth c code ml ret y T h k j) {z : MethodName} {cz : ByteArray} {mz : Nat} {rm : Room} {Qz : Option Value → Heap → Prop} {ps : List FieldType} {rr : Option FieldType} {i : Nat} {argsL : List Value} {a : Addr} (hd : Dec code pc (.invokespecial i) 3 nx) (C : Ctr l Z n0 z cz mz none rm [] (.ref a :: argsL).toArray h Qz) (hz1 : z.name = "<init>") (wl : (Jvm.Cond.methodLink y.cls i z).before a0 Z = true) (wim : (Jvm.Cond.instanceMethod z).before a0 Z = true) (wi : (Jvm.Cond.initialized z.cls).before a0 Z = true) (wc : (Jvm.Cond.code z cz mz none).before a0 Z = true)
    (hz : z.cls ≠ "java/lang/invoke/MethodHandle" ∧ z.cls ≠ "java/lang/invoke/VarHandle") (hpd : parseMethodDescriptor z.desc = some ⟨ps, rr⟩) (hlen : argsL.length = ps.length) {S0 : List Value} (hS : S0 = argsL.reverse ++ .ref a :: S) (hsz : Ls.size = ml)
    (hf : rm.frames + 1 ≤ R.frames) (hlo : (S.map fun v => v.category).sum + (mz + 11) + rm.locals ≤ R.locals) (hk : k + rm.cells ≤ R.cells) (hj : j + rm.slots ≤ R.slots)
    (q : ∀ v T' h', Pos Z a0 n0 p l e R s m args below meth c code ml ret y T' h' (k + rm.cells) (j + rm.slots) → Qz v h' → Wp n0 p e R s below Q T' (mkF m nx Ls (v.toList ++ S))) : Wp n0 p e R s below Q T (mkF m pc Ls S0) := by
  obtain ⟨hx, hZ, hby, hml, hret, hown, hnm, hlk, eT, hn0, hw, locs, N, Y⟩ := X
  obtain ⟨hd, rfl⟩ := hd
  have Ctr' := backOf (l := l) (R := R) (p := p) (e := e) (below := below) (s := s) (args := args) (len := 3) (W := (S.map fun v => v.category).sum) (Q := fun v h L => Fr n0 L ∧ n0 ≤ h.size ∧ Qz v h) C hZ wc wi hf hlo
  obtain ⟨v, _, ⟨T', L', k', j'⟩, -, Y', ⟨Lc, hQ, l1, l2, l3⟩, st⟩ := Y.specialBack hx (y := z) hz1 hown (mvT hZ wl) (mvT hZ wim) (mvT hZ wc) hz Ctr' (g := mkF m pc Ls S0) rfl (by rw [hml]; exact hsz) (Steps.refl _) (a := a) (argsL := argsL) (rest := S) (lenOf hpd hlen) hS (by show 2 * 0 + _ ≤ _; omega) (hb hby hd) (fun _ _ => ⟨rfl, eT, hk, hj⟩)
  dsimp only [Pt.U, Pt.locs, Pt.cells, Pt.slots] at Y' l1 l2 l3 st hQ
  subst l1 l2 l3
  obtain ⟨N', hn', hQ⟩ := hQ
  exact Wp.go (fun _ t => st.trans t) (q v T' _ ⟨hx, hZ, hby, hml, hret, hown, hnm, hlk, rfl, hn', hw, _, Fr.app N N', Y'⟩ hQ)
theorem w_new (X : Pos Z a0 n0 p l e R s m args below meth c code ml ret y T h k j) {i n : Nat} {C : String} (hd : Dec code pc (.new i) 3 nx) (w : (Jvm.Cond.classLink y.cls i C).before a0 Z = true) (wi : (Jvm.Cond.instantiable C n).before a0 Z = true) (wz : (Jvm.Cond.initialized C).before a0 Z = true) (hk : k + 1 ≤ R.cells) (hj : j + n ≤ R.slots)
    (q : ∀ T' h' a, Pos Z a0 n0 p l e R s m args below meth c code ml ret y T' h' (k + 1) (j + n) → a = h.size → n0 ≤ a → Ext h h' → Exa Z h' a C → (∀ {O nm d : String} {ty : FieldType}, Laid Z a0 C O nm d → parseFieldDescriptor d = some ty → Fld Z h' a O nm d (defaultValue ty)) → Wp n0 p e R s below Q T' (mkF m nx Ls (.ref a :: S))) : Wp n0 p e R s below Q T (mkF m pc Ls S) := by
  obtain ⟨hx, hZ, hby, hml, hret, hown, hnm, hlk, eT, hn0, hw, locs, N, Y⟩ := X
  obtain ⟨hd, rfl⟩ := hd
  obtain ⟨T', h', Y', e', E', A', D', -, st⟩ := newO Y hx hZ hown w wi wz eT (g := mkF m pc Ls S) rfl (hb hby hd) hk hj
  exact Wp.go st (q T' h' _ ⟨hx, hZ, hby, hml, hret, hown, hnm, hlk, e', Nat.le_trans hn0 E'.1, hw, _, N, Y'⟩ rfl hn0 E' A' D')
theorem w_getF (X : Pos Z a0 n0 p l e R s m args below meth c code ml ret y T h k j) {i : Nat} {O nm d : String} {a : Addr} {v : Value} (hd : Dec code pc (.getfield i) 3 nx) (w : (Jvm.Cond.fieldLink y.cls i O nm d).before a0 Z = true) (F : Fld Z h a O nm d v)
    (q : ∀ T', Pos Z a0 n0 p l e R s m args below meth c code ml ret y T' h k j → Wp n0 p e R s below Q T' (mkF m nx Ls (v :: S))) : Wp n0 p e R s below Q T (mkF m pc Ls (.ref a :: S)) := by
  obtain ⟨hx, hZ, hby, hml, hret, hown, hnm, hlk, eT, hn0, hw, locs, N, Y⟩ := X
  obtain ⟨hd, rfl⟩ := hd
  obtain ⟨T', Y', e', st⟩ := getF Y hx hZ hown (host := "") (Or.inl w) Via.refl eT F (g := mkF m pc Ls (.ref a :: S)) rfl rfl (hb hby hd)
  exact Wp.go st (q T' ⟨hx, hZ, hby, hml, hret, hown, hnm, hlk, e', hn0, hw, _, N, Y'⟩)
theorem w_putF (X : Pos Z a0 n0 p l e R s m args below meth c code ml ret y T h k j) {i kk : Nat} {C O nm d : String} {ty : FieldType} {a : Addr} {v old : Value} (hd : Dec code pc (.putfield i) 3 nx) (w : (Jvm.Cond.fieldLink y.cls i O nm d).before a0 Z = true) (F : Fld Z h a O nm d old) (E : Exa Z h a C) (hna : n0 ≤ a) (L : (Jvm.Cond.lays C O nm d).before a0 Z = true ∨ ((Jvm.Cond.laysFinal C O nm d).before a0 Z = true ∧ y.cls = O ∧ y.name = "<init>")) (wi : (Jvm.Cond.instantiable C kk).before a0 Z = true) (hty : parseFieldDescriptor d = some ty) (hn : narrow ty v = v) (hf : fits ty v = true)
    (q : ∀ T' h', Pos Z a0 n0 p l e R s m args below meth c code ml ret y T' h' k j → Wr h h' a (Jvm.RoadKit.slotOf Z O nm d) v → Wp n0 p e R s below Q T' (mkF m nx Ls S)) : Wp n0 p e R s below Q T (mkF m pc Ls (v :: .ref a :: S)) := by
  obtain ⟨hx, hZ, hby, hml, hret, hown, hnm, hlk, eT, hn0, hw, locs, N, Y⟩ := X
  obtain ⟨hd, rfl⟩ := hd
  obtain ⟨T', h', Y', e', W', st⟩ := putF Y hx hZ hown (host := "") (Or.inl w) Via.refl eT F E (L.imp id fun q => ⟨q.1, q.2.1, hnm.trans q.2.2⟩) wi hty hn hf (g := mkF m pc Ls (v :: .ref a :: S)) rfl rfl (hb hby hd)
  exact Wp.go st (q T' h' ⟨hx, hZ, hby, hml, hret, hown, hnm, hlk, e', by rw [W'.size]; exact hn0, hw, _, Fr.snoc Y' N hna, Y'⟩ W')
end OwnKit
theorem D0_0 : Dec code 0 (.lload_n 0) 1 1 := ⟨at_0, rfl⟩
theorem D0_1 : Dec code 1 (.ldc2_w 7) 3 4 := ⟨at_1, rfl⟩
theorem D0_4 : Dec code 4 .land 1 5 := ⟨at_4, rfl⟩
theorem D0_5 : Dec code 5 (.lstore 6) 2 7 := ⟨at_5, rfl⟩
theorem D0_7 : Dec code 7 (.lload_n 2) 1 8 := ⟨at_7, rfl⟩
theorem D0_8 : Dec code 8 (.ldc2_w 7) 3 11 := ⟨at_8, rfl⟩
theorem D0_11 : Dec code 11 .land 1 12 := ⟨at_11, rfl⟩
theorem D0_12 : Dec code 12 (.lstore 8) 2 14 := ⟨at_12, rfl⟩
theorem D0_14 : Dec code 14 (.iload 4) 2 16 := ⟨at_14, rfl⟩
theorem D0_16 : Dec code 16 (.iconst 1) 1 17 := ⟨at_16, rfl⟩
theorem D0_17 : Dec code 17 .iand 1 18 := ⟨at_17, rfl⟩
theorem D0_18 : Jmp code 18 (.ifCond .eq 30) 30 21 48 := ⟨at_18, rfl, by decide, by decide⟩
theorem D0_21 : Dec code 21 (.lload 6) 2 23 := ⟨at_21, rfl⟩
theorem D0_23 : Dec code 23 (.lstore 10) 2 25 := ⟨at_23, rfl⟩
theorem D0_25 : Dec code 25 (.lload 6) 2 27 := ⟨at_25, rfl⟩
theorem D0_27 : Dec code 27 (.lload 6) 2 29 := ⟨at_27, rfl⟩
theorem D0_29 : Dec code 29 (.lload 8) 2 31 := ⟨at_29, rfl⟩
theorem D0_31 : Dec code 31 (.iload 4) 2 33 := ⟨at_31, rfl⟩
theorem D0_33 : Dec code 33 (.iconst 1) 1 34 := ⟨at_33, rfl⟩
theorem D0_34 : Dec code 34 .iushr 1 35 := ⟨at_34, rfl⟩
theorem D0_35 : Dec code 35 (.bipush 63) 2 37 := ⟨at_35, rfl⟩
theorem D0_37 : Dec code 37 .iand 1 38 := ⟨at_37, rfl⟩
theorem D0_38 : Dec code 38 .lushr 1 39 := ⟨at_38, rfl⟩
theorem D0_39 : Dec code 39 (.invokestatic 9) 3 42 := ⟨at_39, rfl⟩
theorem D0_42 : Dec code 42 .lsub 1 43 := ⟨at_42, rfl⟩
theorem D0_43 : Dec code 43 (.lstore 12) 2 45 := ⟨at_43, rfl⟩
theorem D0_45 : Jmp code 45 (.goto 21) 21 48 66 := ⟨at_45, rfl, by decide, by decide⟩
theorem D0_48 : Dec code 48 (.lload 6) 2 50 := ⟨at_48, rfl⟩
theorem D0_50 : Dec code 50 (.lload 8) 2 52 := ⟨at_50, rfl⟩
theorem D0_52 : Dec code 52 (.invokestatic 15) 3 55 := ⟨at_52, rfl⟩
theorem D0_55 : Dec code 55 (.lstore 10) 2 57 := ⟨at_55, rfl⟩
theorem D0_57 : Dec code 57 (.lload 6) 2 59 := ⟨at_57, rfl⟩
theorem D0_59 : Dec code 59 (.lload 8) 2 61 := ⟨at_59, rfl⟩
theorem D0_61 : Dec code 61 (.invokestatic 9) 3 64 := ⟨at_61, rfl⟩
theorem D0_64 : Dec code 64 (.lstore 12) 2 66 := ⟨at_64, rfl⟩
theorem D0_66 : Dec code 66 (.iload 5) 2 68 := ⟨at_66, rfl⟩
theorem D0_68 : Dec code 68 (.iconst 3) 1 69 := ⟨at_68, rfl⟩
theorem D0_69 : Dec code 69 .iand 1 70 := ⟨at_69, rfl⟩
theorem D0_70 : Dec code 70 (.istore 14) 2 72 := ⟨at_70, rfl⟩
theorem D0_72 : Dec code 72 (.iload 5) 2 74 := ⟨at_72, rfl⟩
theorem D0_74 : Dec code 74 (.iconst 2) 1 75 := ⟨at_74, rfl⟩
theorem D0_75 : Dec code 75 .iushr 1 76 := ⟨at_75, rfl⟩
theorem D0_76 : Dec code 76 (.iconst 3) 1 77 := ⟨at_76, rfl⟩
theorem D0_77 : Dec code 77 .iand 1 78 := ⟨at_77, rfl⟩
theorem D0_78 : Dec code 78 (.istore 15) 2 80 := ⟨at_78, rfl⟩
theorem D0_80 : Dec code 80 (.iload 5) 2 82 := ⟨at_80, rfl⟩
theorem D0_82 : Dec code 82 (.iconst 4) 1 83 := ⟨at_82, rfl⟩
theorem D0_83 : Dec code 83 .iushr 1 84 := ⟨at_83, rfl⟩
theorem D0_84 : Dec code 84 (.iconst 3) 1 85 := ⟨at_84, rfl⟩
theorem D0_85 : Dec code 85 .iand 1 86 := ⟨at_85, rfl⟩
theorem D0_86 : Dec code 86 (.istore 16) 2 88 := ⟨at_86, rfl⟩
theorem D0_88 : Dec code 88 (.bipush 16) 2 90 := ⟨at_88, rfl⟩
theorem D0_90 : Dec code 90 (.newarray .byte) 2 92 := ⟨at_90, rfl⟩
theorem D0_92 : Dec code 92 (.astore 17) 2 94 := ⟨at_92, rfl⟩
theorem D0_94 : Dec code 94 (.bipush 16) 2 96 := ⟨at_94, rfl⟩
theorem D0_96 : Dec code 96 (.newarray .byte) 2 98 := ⟨at_96, rfl⟩
theorem D0_98 : Dec code 98 (.astore 18) 2 100 := ⟨at_98, rfl⟩
theorem D0_100 : Dec code 100 (.bipush 16) 2 102 := ⟨at_100, rfl⟩
theorem D0_102 : Dec code 102 (.newarray .byte) 2 104 := ⟨at_102, rfl⟩
theorem D0_104 : Dec code 104 (.astore 19) 2 106 := ⟨at_104, rfl⟩
theorem D0_106 : Dec code 106 (.lload 10) 2 108 := ⟨at_106, rfl⟩
theorem D0_108 : Dec code 108 (.aload 17) 2 110 := ⟨at_108, rfl⟩
theorem D0_110 : Dec code 110 (.iload 14) 2 112 := ⟨at_110, rfl⟩
theorem D0_112 : Dec code 112 (.invokestatic 18) 3 115 := ⟨at_112, rfl⟩
theorem D0_115 : Dec code 115 (.istore 20) 2 117 := ⟨at_115, rfl⟩
theorem D0_117 : Dec code 117 (.lload 12) 2 119 := ⟨at_117, rfl⟩
theorem D0_119 : Dec code 119 (.aload 18) 2 121 := ⟨at_119, rfl⟩
theorem D0_121 : Dec code 121 (.iload 15) 2 123 := ⟨at_121, rfl⟩
theorem D0_123 : Dec code 123 (.invokestatic 18) 3 126 := ⟨at_123, rfl⟩
theorem D0_126 : Dec code 126 (.istore 21) 2 128 := ⟨at_126, rfl⟩
theorem D0_128 : Dec code 128 (.aload 17) 2 130 := ⟨at_128, rfl⟩
theorem D0_130 : Dec code 130 (.iload 14) 2 132 := ⟨at_130, rfl⟩
theorem D0_132 : Dec code 132 (.iload 20) 2 134 := ⟨at_132, rfl⟩
theorem D0_134 : Dec code 134 (.aload 18) 2 136 := ⟨at_134, rfl⟩
theorem D0_136 : Dec code 136 (.iload 15) 2 138 := ⟨at_136, rfl⟩
theorem D0_138 : Dec code 138 (.iload 21) 2 140 := ⟨at_138, rfl⟩
theorem D0_140 : Dec code 140 (.aload 19) 2 142 := ⟨at_140, rfl⟩
theorem D0_142 : Dec code 142 (.iload 16) 2 144 := ⟨at_142, rfl⟩
theorem D0_144 : Dec code 144 (.invokestatic 24) 3 147 := ⟨at_144, rfl⟩
theorem D0_147 : Dec code 147 (.istore 22) 2 149 := ⟨at_147, rfl⟩
theorem D0_149 : Dec code 149 (.lload 10) 2 151 := ⟨at_149, rfl⟩
theorem D0_151 : Dec code 151 (.lload 12) 2 153 := ⟨at_151, rfl⟩
theorem D0_153 : Dec code 153 .lsub 1 154 := ⟨at_153, rfl⟩
theorem D0_154 : Dec code 154 (.lstore 23) 2 156 := ⟨at_154, rfl⟩
theorem D0_156 : Dec code 156 (.iload 22) 2 158 := ⟨at_156, rfl⟩
theorem D0_158 : Dec code 158 (.iload 16) 2 160 := ⟨at_158, rfl⟩
theorem D0_160 : Dec code 160 (.lload 23) 2 162 := ⟨at_160, rfl⟩
theorem D0_162 : Dec code 162 (.invokestatic 28) 3 165 := ⟨at_162, rfl⟩
theorem D0_165 : Dec code 165 .iadd 1 166 := ⟨at_165, rfl⟩
theorem D0_166 : Jmp code 166 (.if_icmp .eq 5) 5 169 171 := ⟨at_166, rfl, by decide, by decide⟩
theorem D0_171 : Dec code 171 (.aload 19) 2 173 := ⟨at_171, rfl⟩
theorem D0_173 : Dec code 173 (.iload 16) 2 175 := ⟨at_173, rfl⟩
theorem D0_175 : Dec code 175 (.iload 22) 2 177 := ⟨at_175, rfl⟩
theorem D0_177 : Dec code 177 (.invokestatic 32) 3 180 := ⟨at_177, rfl⟩
theorem D0_180 : Dec code 180 (.lload 23) 2 182 := ⟨at_180, rfl⟩
theorem D0_182 : Dec code 182 .lcmp 1 183 := ⟨at_182, rfl⟩
theorem D0_183 : Jmp code 183 (.ifCond .eq 5) 5 186 188 := ⟨at_183, rfl, by decide, by decide⟩
theorem D0_188 : Dec code 188 (.aload 19) 2 190 := ⟨at_188, rfl⟩
theorem D0_190 : Dec code 190 (.iload 16) 2 192 := ⟨at_190, rfl⟩
theorem D0_192 : Dec code 192 (.invokestatic 36) 3 195 := ⟨at_192, rfl⟩
theorem D0_195 : Dec code 195 (.iload 22) 2 197 := ⟨at_195, rfl⟩
theorem D0_197 : Jmp code 197 (.if_icmp .ne 7) 7 200 204 := ⟨at_197, rfl, by decide, by decide⟩
theorem D0_200 : Dec code 200 (.iconst 1) 1 201 := ⟨at_200, rfl⟩
theorem D0_201 : Jmp code 201 (.goto 4) 4 204 205 := ⟨at_201, rfl, by decide, by decide⟩
theorem D0_205 : Dec code 205 .ireturn 1 206 := ⟨at_205, rfl⟩
theorem D1_0 : Dec jdk_29_method_66_code 0 (.lload_n 0) 1 1 := ⟨by decide +kernel, rfl⟩
theorem D1_1 : Dec jdk_29_method_66_code 1 (.lload_n 2) 1 2 := ⟨by decide +kernel, rfl⟩
theorem D1_2 : Dec jdk_29_method_66_code 2 .lcmp 1 3 := ⟨by decide +kernel, rfl⟩
theorem D1_3 : Jmp jdk_29_method_66_code 3 (.ifCond .lt 7) 7 6 10 := ⟨by decide +kernel, rfl, by decide, by decide⟩
theorem D1_6 : Dec jdk_29_method_66_code 6 (.lload_n 0) 1 7 := ⟨by decide +kernel, rfl⟩
theorem D1_7 : Jmp jdk_29_method_66_code 7 (.goto 4) 4 10 11 := ⟨by decide +kernel, rfl, by decide, by decide⟩
theorem D1_10 : Dec jdk_29_method_66_code 10 (.lload_n 2) 1 11 := ⟨by decide +kernel, rfl⟩
theorem D1_11 : Dec jdk_29_method_66_code 11 .lreturn 1 12 := ⟨by decide +kernel, rfl⟩
theorem D2_0 : Dec jdk_29_method_70_code 0 (.lload_n 0) 1 1 := ⟨by decide +kernel, rfl⟩
theorem D2_1 : Dec jdk_29_method_70_code 1 (.lload_n 2) 1 2 := ⟨by decide +kernel, rfl⟩
theorem D2_2 : Dec jdk_29_method_70_code 2 .lcmp 1 3 := ⟨by decide +kernel, rfl⟩
theorem D2_3 : Jmp jdk_29_method_70_code 3 (.ifCond .gt 7) 7 6 10 := ⟨by decide +kernel, rfl, by decide, by decide⟩
theorem D2_6 : Dec jdk_29_method_70_code 6 (.lload_n 0) 1 7 := ⟨by decide +kernel, rfl⟩
theorem D2_7 : Jmp jdk_29_method_70_code 7 (.goto 4) 4 10 11 := ⟨by decide +kernel, rfl, by decide, by decide⟩
theorem D2_10 : Dec jdk_29_method_70_code 10 (.lload_n 2) 1 11 := ⟨by decide +kernel, rfl⟩
theorem D2_11 : Dec jdk_29_method_70_code 11 .lreturn 1 12 := ⟨by decide +kernel, rfl⟩
theorem D3_0 : Dec prog_1_method_4_code 0 (.lload_n 0) 1 1 := ⟨by decide +kernel, rfl⟩
theorem D3_1 : Dec prog_1_method_4_code 1 (.lstore 4) 2 3 := ⟨by decide +kernel, rfl⟩
theorem D3_3 : Dec prog_1_method_4_code 3 (.iload_n 3) 1 4 := ⟨by decide +kernel, rfl⟩
theorem D3_4 : Dec prog_1_method_4_code 4 (.istore 6) 2 6 := ⟨by decide +kernel, rfl⟩
theorem D3_6 : Dec prog_1_method_4_code 6 (.lload 4) 2 8 := ⟨by decide +kernel, rfl⟩
theorem D3_8 : Dec prog_1_method_4_code 8 (.ldc2_w 25) 3 11 := ⟨by decide +kernel, rfl⟩
theorem D3_11 : Dec prog_1_method_4_code 11 .lcmp 1 12 := ⟨by decide +kernel, rfl⟩
theorem D3_12 : Jmp prog_1_method_4_code 12 (.ifCond .le 32) 32 15 44 := ⟨by decide +kernel, rfl, by decide, by decide⟩
theorem D3_15 : Dec prog_1_method_4_code 15 (.aload_n 2) 1 16 := ⟨by decide +kernel, rfl⟩
theorem D3_16 : Dec prog_1_method_4_code 16 (.iload 6) 2 18 := ⟨by decide +kernel, rfl⟩
theorem D3_18 : Dec prog_1_method_4_code 18 (.lload 4) 2 20 := ⟨by decide +kernel, rfl⟩
theorem D3_20 : Dec prog_1_method_4_code 20 (.ldc2_w 25) 3 23 := ⟨by decide +kernel, rfl⟩
theorem D3_23 : Dec prog_1_method_4_code 23 .land 1 24 := ⟨by decide +kernel, rfl⟩
theorem D3_24 : Dec prog_1_method_4_code 24 (.ldc2_w 27) 3 27 := ⟨by decide +kernel, rfl⟩
theorem D3_27 : Dec prog_1_method_4_code 27 .lor 1 28 := ⟨by decide +kernel, rfl⟩
theorem D3_28 : Dec prog_1_method_4_code 28 .l2i 1 29 := ⟨by decide +kernel, rfl⟩
theorem D3_29 : Dec prog_1_method_4_code 29 .i2b 1 30 := ⟨by decide +kernel, rfl⟩
theorem D3_30 : Dec prog_1_method_4_code 30 .bastore 1 31 := ⟨by decide +kernel, rfl⟩
theorem D3_31 : Dec prog_1_method_4_code 31 (.lload 4) 2 33 := ⟨by decide +kernel, rfl⟩
theorem D3_33 : Dec prog_1_method_4_code 33 (.bipush 7) 2 35 := ⟨by decide +kernel, rfl⟩
theorem D3_35 : Dec prog_1_method_4_code 35 .lushr 1 36 := ⟨by decide +kernel, rfl⟩
theorem D3_36 : Dec prog_1_method_4_code 36 (.lstore 4) 2 38 := ⟨by decide +kernel, rfl⟩
theorem D3_38 : Dec prog_1_method_4_code 38 (.iinc 6 1) 3 41 := ⟨by decide +kernel, rfl⟩
theorem D3_41 : Jmp prog_1_method_4_code 41 (.goto (-35)) (-35) 44 6 := ⟨by decide +kernel, rfl, by decide, by decide⟩
theorem D3_44 : Dec prog_1_method_4_code 44 (.aload_n 2) 1 45 := ⟨by decide +kernel, rfl⟩
theorem D3_45 : Dec prog_1_method_4_code 45 (.iload 6) 2 47 := ⟨by decide +kernel, rfl⟩
theorem D3_47 : Dec prog_1_method_4_code 47 (.lload 4) 2 49 := ⟨by decide +kernel, rfl⟩
theorem D3_49 : Dec prog_1_method_4_code 49 .l2i 1 50 := ⟨by decide +kernel, rfl⟩
theorem D3_50 : Dec prog_1_method_4_code 50 .i2b 1 51 := ⟨by decide +kernel, rfl⟩
theorem D3_51 : Dec prog_1_method_4_code 51 .bastore 1 52 := ⟨by decide +kernel, rfl⟩
theorem D3_52 : Dec prog_1_method_4_code 52 (.iload 6) 2 54 := ⟨by decide +kernel, rfl⟩
theorem D3_54 : Dec prog_1_method_4_code 54 (.iconst 1) 1 55 := ⟨by decide +kernel, rfl⟩
theorem D3_55 : Dec prog_1_method_4_code 55 .iadd 1 56 := ⟨by decide +kernel, rfl⟩
theorem D3_56 : Dec prog_1_method_4_code 56 .ireturn 1 57 := ⟨by decide +kernel, rfl⟩
theorem D4_0 : Dec prog_1_method_11_code 0 (.iload_n 2) 1 1 := ⟨by decide +kernel, rfl⟩
theorem D4_1 : Dec prog_1_method_11_code 1 (.iload_n 1) 1 2 := ⟨by decide +kernel, rfl⟩
theorem D4_2 : Dec prog_1_method_11_code 2 .isub 1 3 := ⟨by decide +kernel, rfl⟩
theorem D4_3 : Dec prog_1_method_11_code 3 (.istore 8) 2 5 := ⟨by decide +kernel, rfl⟩
theorem D4_5 : Dec prog_1_method_11_code 5 (.iload 5) 2 7 := ⟨by decide +kernel, rfl⟩
theorem D4_7 : Dec prog_1_method_11_code 7 (.iload 4) 2 9 := ⟨by decide +kernel, rfl⟩
theorem D4_9 : Dec prog_1_method_11_code 9 .isub 1 10 := ⟨by decide +kernel, rfl⟩
theorem D4_10 : Dec prog_1_method_11_code 10 (.istore 9) 2 12 := ⟨by decide +kernel, rfl⟩
theorem D4_12 : Dec prog_1_method_11_code 12 (.iconst 0) 1 13 := ⟨by decide +kernel, rfl⟩
theorem D4_13 : Dec prog_1_method_11_code 13 (.istore 10) 2 15 := ⟨by decide +kernel, rfl⟩
theorem D4_15 : Dec prog_1_method_11_code 15 (.iconst 0) 1 16 := ⟨by decide +kernel, rfl⟩
theorem D4_16 : Dec prog_1_method_11_code 16 (.istore 11) 2 18 := ⟨by decide +kernel, rfl⟩
theorem D4_18 : Dec prog_1_method_11_code 18 (.iload 11) 2 20 := ⟨by decide +kernel, rfl⟩
theorem D4_20 : Dec prog_1_method_11_code 20 (.iload 8) 2 22 := ⟨by decide +kernel, rfl⟩
theorem D4_22 : Jmp prog_1_method_11_code 22 (.if_icmp .ge 77) 77 25 99 := ⟨by decide +kernel, rfl, by decide, by decide⟩
theorem D4_25 : Dec prog_1_method_11_code 25 (.aload_n 0) 1 26 := ⟨by decide +kernel, rfl⟩
theorem D4_26 : Dec prog_1_method_11_code 26 (.iload_n 1) 1 27 := ⟨by decide +kernel, rfl⟩
theorem D4_27 : Dec prog_1_method_11_code 27 (.iload 11) 2 29 := ⟨by decide +kernel, rfl⟩
theorem D4_29 : Dec prog_1_method_11_code 29 .iadd 1 30 := ⟨by decide +kernel, rfl⟩
theorem D4_30 : Dec prog_1_method_11_code 30 .baload 1 31 := ⟨by decide +kernel, rfl⟩
theorem D4_31 : Dec prog_1_method_11_code 31 (.bipush 127) 2 33 := ⟨by decide +kernel, rfl⟩
theorem D4_33 : Dec prog_1_method_11_code 33 .iand 1 34 := ⟨by decide +kernel, rfl⟩
theorem D4_34 : Dec prog_1_method_11_code 34 (.iload 10) 2 36 := ⟨by decide +kernel, rfl⟩
theorem D4_36 : Dec prog_1_method_11_code 36 .isub 1 37 := ⟨by decide +kernel, rfl⟩
theorem D4_37 : Dec prog_1_method_11_code 37 (.istore 12) 2 39 := ⟨by decide +kernel, rfl⟩
theorem D4_39 : Dec prog_1_method_11_code 39 (.iload 11) 2 41 := ⟨by decide +kernel, rfl⟩
theorem D4_41 : Dec prog_1_method_11_code 41 (.iload 9) 2 43 := ⟨by decide +kernel, rfl⟩
theorem D4_43 : Jmp prog_1_method_11_code 43 (.if_icmp .ge 18) 18 46 61 := ⟨by decide +kernel, rfl, by decide, by decide⟩
theorem D4_46 : Dec prog_1_method_11_code 46 (.iload 12) 2 48 := ⟨by decide +kernel, rfl⟩
theorem D4_48 : Dec prog_1_method_11_code 48 (.aload_n 3) 1 49 := ⟨by decide +kernel, rfl⟩
theorem D4_49 : Dec prog_1_method_11_code 49 (.iload 4) 2 51 := ⟨by decide +kernel, rfl⟩
theorem D4_51 : Dec prog_1_method_11_code 51 (.iload 11) 2 53 := ⟨by decide +kernel, rfl⟩
theorem D4_53 : Dec prog_1_method_11_code 53 .iadd 1 54 := ⟨by decide +kernel, rfl⟩
theorem D4_54 : Dec prog_1_method_11_code 54 .baload 1 55 := ⟨by decide +kernel, rfl⟩
theorem D4_55 : Dec prog_1_method_11_code 55 (.bipush 127) 2 57 := ⟨by decide +kernel, rfl⟩
theorem D4_57 : Dec prog_1_method_11_code 57 .iand 1 58 := ⟨by decide +kernel, rfl⟩
theorem D4_58 : Dec prog_1_method_11_code 58 .isub 1 59 := ⟨by decide +kernel, rfl⟩
theorem D4_59 : Dec prog_1_method_11_code 59 (.istore 12) 2 61 := ⟨by decide +kernel, rfl⟩
theorem D4_61 : Dec prog_1_method_11_code 61 (.iconst 0) 1 62 := ⟨by decide +kernel, rfl⟩
theorem D4_62 : Dec prog_1_method_11_code 62 (.istore 10) 2 64 := ⟨by decide +kernel, rfl⟩
theorem D4_64 : Dec prog_1_method_11_code 64 (.iload 12) 2 66 := ⟨by decide +kernel, rfl⟩
theorem D4_66 : Jmp prog_1_method_11_code 66 (.ifCond .ge 12) 12 69 78 := ⟨by decide +kernel, rfl, by decide, by decide⟩
theorem D4_69 : Dec prog_1_method_11_code 69 (.iinc 12 128) 6 75 := ⟨by decide +kernel, rfl⟩
theorem D4_75 : Dec prog_1_method_11_code 75 (.iconst 1) 1 76 := ⟨by decide +kernel, rfl⟩
theorem D4_76 : Dec prog_1_method_11_code 76 (.istore 10) 2 78 := ⟨by decide +kernel, rfl⟩
theorem D4_78 : Dec prog_1_method_11_code 78 (.aload 6) 2 80 := ⟨by decide +kernel, rfl⟩
theorem D4_80 : Dec prog_1_method_11_code 80 (.iload 7) 2 82 := ⟨by decide +kernel, rfl⟩
theorem D4_82 : Dec prog_1_method_11_code 82 (.iload 11) 2 84 := ⟨by decide +kernel, rfl⟩
theorem D4_84 : Dec prog_1_method_11_code 84 .iadd 1 85 := ⟨by decide +kernel, rfl⟩
theorem D4_85 : Dec prog_1_method_11_code 85 (.iload 12) 2 87 := ⟨by decide +kernel, rfl⟩
theorem D4_87 : Dec prog_1_method_11_code 87 (.sipush 128) 3 90 := ⟨by decide +kernel, rfl⟩
theorem D4_90 : Dec prog_1_method_11_code 90 .ior 1 91 := ⟨by decide +kernel, rfl⟩
theorem D4_91 : Dec prog_1_method_11_code 91 .i2b 1 92 := ⟨by decide +kernel, rfl⟩
theorem D4_92 : Dec prog_1_method_11_code 92 .bastore 1 93 := ⟨by decide +kernel, rfl⟩
theorem D4_93 : Dec prog_1_method_11_code 93 (.iinc 11 1) 3 96 := ⟨by decide +kernel, rfl⟩
theorem D4_96 : Jmp prog_1_method_11_code 96 (.goto (-78)) (-78) 99 18 := ⟨by decide +kernel, rfl, by decide, by decide⟩
theorem D4_99 : Dec prog_1_method_11_code 99 (.iload 8) 2 101 := ⟨by decide +kernel, rfl⟩
theorem D4_101 : Dec prog_1_method_11_code 101 (.istore 11) 2 103 := ⟨by decide +kernel, rfl⟩
theorem D4_103 : Dec prog_1_method_11_code 103 (.iload 11) 2 105 := ⟨by decide +kernel, rfl⟩
theorem D4_105 : Dec prog_1_method_11_code 105 (.iconst 1) 1 106 := ⟨by decide +kernel, rfl⟩
theorem D4_106 : Jmp prog_1_method_11_code 106 (.if_icmp .le 25) 25 109 131 := ⟨by decide +kernel, rfl, by decide, by decide⟩
theorem D4_109 : Dec prog_1_method_11_code 109 (.aload 6) 2 111 := ⟨by decide +kernel, rfl⟩
theorem D4_111 : Dec prog_1_method_11_code 111 (.iload 7) 2 113 := ⟨by decide +kernel, rfl⟩
theorem D4_113 : Dec prog_1_method_11_code 113 (.iload 11) 2 115 := ⟨by decide +kernel, rfl⟩
theorem D4_115 : Dec prog_1_method_11_code 115 .iadd 1 116 := ⟨by decide +kernel, rfl⟩
theorem D4_116 : Dec prog_1_method_11_code 116 (.iconst 1) 1 117 := ⟨by decide +kernel, rfl⟩
theorem D4_117 : Dec prog_1_method_11_code 117 .isub 1 118 := ⟨by decide +kernel, rfl⟩
theorem D4_118 : Dec prog_1_method_11_code 118 .baload 1 119 := ⟨by decide +kernel, rfl⟩
theorem D4_119 : Dec prog_1_method_11_code 119 (.bipush 127) 2 121 := ⟨by decide +kernel, rfl⟩
theorem D4_121 : Dec prog_1_method_11_code 121 .iand 1 122 := ⟨by decide +kernel, rfl⟩
theorem D4_122 : Jmp prog_1_method_11_code 122 (.ifCond .ne 9) 9 125 131 := ⟨by decide +kernel, rfl, by decide, by decide⟩
theorem D4_125 : Dec prog_1_method_11_code 125 (.iinc 11 (-1)) 3 128 := ⟨by decide +kernel, rfl⟩
theorem D4_128 : Jmp prog_1_method_11_code 128 (.goto (-25)) (-25) 131 103 := ⟨by decide +kernel, rfl, by decide, by decide⟩
theorem D4_131 : Dec prog_1_method_11_code 131 (.aload 6) 2 133 := ⟨by decide +kernel, rfl⟩
theorem D4_133 : Dec prog_1_method_11_code 133 (.iload 7) 2 135 := ⟨by decide +kernel, rfl⟩
theorem D4_135 : Dec prog_1_method_11_code 135 (.iload 11) 2 137 := ⟨by decide +kernel, rfl⟩
theorem D4_137 : Dec prog_1_method_11_code 137 .iadd 1 138 := ⟨by decide +kernel, rfl⟩
theorem D4_138 : Dec prog_1_method_11_code 138 (.iconst 1) 1 139 := ⟨by decide +kernel, rfl⟩
theorem D4_139 : Dec prog_1_method_11_code 139 .isub 1 140 := ⟨by decide +kernel, rfl⟩
theorem D4_140 : Dec prog_1_method_11_code 140 .dup2 1 141 := ⟨by decide +kernel, rfl⟩
theorem D4_141 : Dec prog_1_method_11_code 141 .baload 1 142 := ⟨by decide +kernel, rfl⟩
theorem D4_142 : Dec prog_1_method_11_code 142 (.bipush 127) 2 144 := ⟨by decide +kernel, rfl⟩
theorem D4_144 : Dec prog_1_method_11_code 144 .iand 1 145 := ⟨by decide +kernel, rfl⟩
theorem D4_145 : Dec prog_1_method_11_code 145 .i2b 1 146 := ⟨by decide +kernel, rfl⟩
theorem D4_146 : Dec prog_1_method_11_code 146 .bastore 1 147 := ⟨by decide +kernel, rfl⟩
theorem D4_147 : Dec prog_1_method_11_code 147 (.iload 7) 2 149 := ⟨by decide +kernel, rfl⟩
theorem D4_149 : Dec prog_1_method_11_code 149 (.iload 11) 2 151 := ⟨by decide +kernel, rfl⟩
theorem D4_151 : Dec prog_1_method_11_code 151 .iadd 1 152 := ⟨by decide +kernel, rfl⟩
theorem D4_152 : Dec prog_1_method_11_code 152 .ireturn 1 153 := ⟨by decide +kernel, rfl⟩
theorem D5_0 : Dec prog_1_method_5_code 0 (.iconst 1) 1 1 := ⟨by decide +kernel, rfl⟩
theorem D5_1 : Dec prog_1_method_5_code 1 (.bipush 64) 2 3 := ⟨by decide +kernel, rfl⟩
theorem D5_3 : Dec prog_1_method_5_code 3 (.lload_n 0) 1 4 := ⟨by decide +kernel, rfl⟩
theorem D5_4 : Dec prog_1_method_5_code 4 (.invokestatic 31) 3 7 := ⟨by decide +kernel, rfl⟩
theorem D5_7 : Dec prog_1_method_5_code 7 .isub 1 8 := ⟨by decide +kernel, rfl⟩
theorem D5_8 : Dec prog_1_method_5_code 8 (.bipush 7) 2 10 := ⟨by decide +kernel, rfl⟩
theorem D5_10 : Dec prog_1_method_5_code 10 .iadd 1 11 := ⟨by decide +kernel, rfl⟩
theorem D5_11 : Dec prog_1_method_5_code 11 (.iconst 1) 1 12 := ⟨by decide +kernel, rfl⟩
theorem D5_12 : Dec prog_1_method_5_code 12 .isub 1 13 := ⟨by decide +kernel, rfl⟩
theorem D5_13 : Dec prog_1_method_5_code 13 (.bipush 7) 2 15 := ⟨by decide +kernel, rfl⟩
theorem D5_15 : Dec prog_1_method_5_code 15 .idiv 1 16 := ⟨by decide +kernel, rfl⟩
theorem D5_16 : Dec prog_1_method_5_code 16 (.invokestatic 15) 3 19 := ⟨by decide +kernel, rfl⟩
theorem D5_19 : Dec prog_1_method_5_code 19 .ireturn 1 20 := ⟨by decide +kernel, rfl⟩
theorem D6_0 : Dec jdk_35_method_48_code 0 (.lload_n 0) 1 1 := ⟨by decide +kernel, rfl⟩
theorem D6_1 : Dec jdk_35_method_48_code 1 (.bipush 32) 2 3 := ⟨by decide +kernel, rfl⟩
theorem D6_3 : Dec jdk_35_method_48_code 3 .lushr 1 4 := ⟨by decide +kernel, rfl⟩
theorem D6_4 : Dec jdk_35_method_48_code 4 .l2i 1 5 := ⟨by decide +kernel, rfl⟩
theorem D6_5 : Dec jdk_35_method_48_code 5 (.istore_n 2) 1 6 := ⟨by decide +kernel, rfl⟩
theorem D6_6 : Dec jdk_35_method_48_code 6 (.iload_n 2) 1 7 := ⟨by decide +kernel, rfl⟩
theorem D6_7 : Jmp jdk_35_method_48_code 7 (.ifCond .ne 14) 14 10 21 := ⟨by decide +kernel, rfl, by decide, by decide⟩
theorem D6_10 : Dec jdk_35_method_48_code 10 (.bipush 32) 2 12 := ⟨by decide +kernel, rfl⟩
theorem D6_12 : Dec jdk_35_method_48_code 12 (.lload_n 0) 1 13 := ⟨by decide +kernel, rfl⟩
theorem D6_13 : Dec jdk_35_method_48_code 13 .l2i 1 14 := ⟨by decide +kernel, rfl⟩
theorem D6_14 : Dec jdk_35_method_48_code 14 (.invokestatic 308) 3 17 := ⟨by decide +kernel, rfl⟩
theorem D6_17 : Dec jdk_35_method_48_code 17 .iadd 1 18 := ⟨by decide +kernel, rfl⟩
theorem D6_18 : Jmp jdk_35_method_48_code 18 (.goto 7) 7 21 25 := ⟨by decide +kernel, rfl, by decide, by decide⟩
theorem D6_21 : Dec jdk_35_method_48_code 21 (.iload_n 2) 1 22 := ⟨by decide +kernel, rfl⟩
theorem D6_22 : Dec jdk_35_method_48_code 22 (.invokestatic 308) 3 25 := ⟨by decide +kernel, rfl⟩
theorem D6_25 : Dec jdk_35_method_48_code 25 .ireturn 1 26 := ⟨by decide +kernel, rfl⟩
theorem D7_0 : Dec jdk_33_method_47_code 0 (.iload_n 0) 1 1 := ⟨by decide +kernel, rfl⟩
theorem D7_1 : Jmp jdk_33_method_47_code 1 (.ifCond .gt 14) 14 4 15 := ⟨by decide +kernel, rfl, by decide, by decide⟩
theorem D7_4 : Dec jdk_33_method_47_code 4 (.iload_n 0) 1 5 := ⟨by decide +kernel, rfl⟩
theorem D7_5 : Jmp jdk_33_method_47_code 5 (.ifCond .ne 8) 8 8 13 := ⟨by decide +kernel, rfl, by decide, by decide⟩
theorem D7_8 : Dec jdk_33_method_47_code 8 (.bipush 32) 2 10 := ⟨by decide +kernel, rfl⟩
theorem D7_10 : Jmp jdk_33_method_47_code 10 (.goto 4) 4 13 14 := ⟨by decide +kernel, rfl, by decide, by decide⟩
theorem D7_13 : Dec jdk_33_method_47_code 13 (.iconst 0) 1 14 := ⟨by decide +kernel, rfl⟩
theorem D7_14 : Dec jdk_33_method_47_code 14 .ireturn 1 15 := ⟨by decide +kernel, rfl⟩
theorem D7_15 : Dec jdk_33_method_47_code 15 (.bipush 31) 2 17 := ⟨by decide +kernel, rfl⟩
theorem D7_17 : Dec jdk_33_method_47_code 17 (.istore_n 1) 1 18 := ⟨by decide +kernel, rfl⟩
theorem D7_18 : Dec jdk_33_method_47_code 18 (.iload_n 0) 1 19 := ⟨by decide +kernel, rfl⟩
theorem D7_19 : Dec jdk_33_method_47_code 19 (.ldc_w 264) 3 22 := ⟨by decide +kernel, rfl⟩
theorem D7_22 : Jmp jdk_33_method_47_code 22 (.if_icmp .lt 11) 11 25 33 := ⟨by decide +kernel, rfl, by decide, by decide⟩
theorem D7_25 : Dec jdk_33_method_47_code 25 (.iinc 1 (-16)) 3 28 := ⟨by decide +kernel, rfl⟩
theorem D7_28 : Dec jdk_33_method_47_code 28 (.iload_n 0) 1 29 := ⟨by decide +kernel, rfl⟩
theorem D7_29 : Dec jdk_33_method_47_code 29 (.bipush 16) 2 31 := ⟨by decide +kernel, rfl⟩
theorem D7_31 : Dec jdk_33_method_47_code 31 .iushr 1 32 := ⟨by decide +kernel, rfl⟩
theorem D7_32 : Dec jdk_33_method_47_code 32 (.istore_n 0) 1 33 := ⟨by decide +kernel, rfl⟩
theorem D7_33 : Dec jdk_33_method_47_code 33 (.iload_n 0) 1 34 := ⟨by decide +kernel, rfl⟩
theorem D7_34 : Dec jdk_33_method_47_code 34 (.sipush 256) 3 37 := ⟨by decide +kernel, rfl⟩
theorem D7_37 : Jmp jdk_33_method_47_code 37 (.if_icmp .lt 11) 11 40 48 := ⟨by decide +kernel, rfl, by decide, by decide⟩
theorem D7_40 : Dec jdk_33_method_47_code 40 (.iinc 1 (-8)) 3 43 := ⟨by decide +kernel, rfl⟩
theorem D7_43 : Dec jdk_33_method_47_code 43 (.iload_n 0) 1 44 := ⟨by decide +kernel, rfl⟩
theorem D7_44 : Dec jdk_33_method_47_code 44 (.bipush 8) 2 46 := ⟨by decide +kernel, rfl⟩
theorem D7_46 : Dec jdk_33_method_47_code 46 .iushr 1 47 := ⟨by decide +kernel, rfl⟩
theorem D7_47 : Dec jdk_33_method_47_code 47 (.istore_n 0) 1 48 := ⟨by decide +kernel, rfl⟩
theorem D7_48 : Dec jdk_33_method_47_code 48 (.iload_n 0) 1 49 := ⟨by decide +kernel, rfl⟩
theorem D7_49 : Dec jdk_33_method_47_code 49 (.bipush 16) 2 51 := ⟨by decide +kernel, rfl⟩
theorem D7_51 : Jmp jdk_33_method_47_code 51 (.if_icmp .lt 10) 10 54 61 := ⟨by decide +kernel, rfl, by decide, by decide⟩
theorem D7_54 : Dec jdk_33_method_47_code 54 (.iinc 1 (-4)) 3 57 := ⟨by decide +kernel, rfl⟩
theorem D7_57 : Dec jdk_33_method_47_code 57 (.iload_n 0) 1 58 := ⟨by decide +kernel, rfl⟩
theorem D7_58 : Dec jdk_33_method_47_code 58 (.iconst 4) 1 59 := ⟨by decide +kernel, rfl⟩
theorem D7_59 : Dec jdk_33_method_47_code 59 .iushr 1 60 := ⟨by decide +kernel, rfl⟩
theorem D7_60 : Dec jdk_33_method_47_code 60 (.istore_n 0) 1 61 := ⟨by decide +kernel, rfl⟩
theorem D7_61 : Dec jdk_33_method_47_code 61 (.iload_n 0) 1 62 := ⟨by decide +kernel, rfl⟩
theorem D7_62 : Dec jdk_33_method_47_code 62 (.iconst 4) 1 63 := ⟨by decide +kernel, rfl⟩
theorem D7_63 : Jmp jdk_33_method_47_code 63 (.if_icmp .lt 10) 10 66 73 := ⟨by decide +kernel, rfl, by decide, by decide⟩
theorem D7_66 : Dec jdk_33_method_47_code 66 (.iinc 1 (-2)) 3 69 := ⟨by decide +kernel, rfl⟩
theorem D7_69 : Dec jdk_33_method_47_code 69 (.iload_n 0) 1 70 := ⟨by decide +kernel, rfl⟩
theorem D7_70 : Dec jdk_33_method_47_code 70 (.iconst 2) 1 71 := ⟨by decide +kernel, rfl⟩
theorem D7_71 : Dec jdk_33_method_47_code 71 .iushr 1 72 := ⟨by decide +kernel, rfl⟩
theorem D7_72 : Dec jdk_33_method_47_code 72 (.istore_n 0) 1 73 := ⟨by decide +kernel, rfl⟩
theorem D7_73 : Dec jdk_33_method_47_code 73 (.iload_n 1) 1 74 := ⟨by decide +kernel, rfl⟩
theorem D7_74 : Dec jdk_33_method_47_code 74 (.iload_n 0) 1 75 := ⟨by decide +kernel, rfl⟩
theorem D7_75 : Dec jdk_33_method_47_code 75 (.iconst 1) 1 76 := ⟨by decide +kernel, rfl⟩
theorem D7_76 : Dec jdk_33_method_47_code 76 .iushr 1 77 := ⟨by decide +kernel, rfl⟩
theorem D7_77 : Dec jdk_33_method_47_code 77 .isub 1 78 := ⟨by decide +kernel, rfl⟩
theorem D7_78 : Dec jdk_33_method_47_code 78 .ireturn 1 79 := ⟨by decide +kernel, rfl⟩
theorem D8_0 : Dec jdk_29_method_65_code 0 (.iload_n 0) 1 1 := ⟨by decide +kernel, rfl⟩
theorem D8_1 : Dec jdk_29_method_65_code 1 (.iload_n 1) 1 2 := ⟨by decide +kernel, rfl⟩
theorem D8_2 : Jmp jdk_29_method_65_code 2 (.if_icmp .lt 7) 7 5 9 := ⟨by decide +kernel, rfl, by decide, by decide⟩
theorem D8_5 : Dec jdk_29_method_65_code 5 (.iload_n 0) 1 6 := ⟨by decide +kernel, rfl⟩
theorem D8_6 : Jmp jdk_29_method_65_code 6 (.goto 4) 4 9 10 := ⟨by decide +kernel, rfl, by decide, by decide⟩
theorem D8_9 : Dec jdk_29_method_65_code 9 (.iload_n 1) 1 10 := ⟨by decide +kernel, rfl⟩
theorem D8_10 : Dec jdk_29_method_65_code 10 .ireturn 1 11 := ⟨by decide +kernel, rfl⟩
theorem D9_0 : Dec prog_1_method_7_code 0 (.lconst 0) 1 1 := ⟨by decide +kernel, rfl⟩
theorem D9_1 : Dec prog_1_method_7_code 1 (.lstore_n 3) 1 2 := ⟨by decide +kernel, rfl⟩
theorem D9_2 : Dec prog_1_method_7_code 2 (.iload_n 2) 1 3 := ⟨by decide +kernel, rfl⟩
theorem D9_3 : Dec prog_1_method_7_code 3 (.iconst 1) 1 4 := ⟨by decide +kernel, rfl⟩
theorem D9_4 : Dec prog_1_method_7_code 4 .isub 1 5 := ⟨by decide +kernel, rfl⟩
theorem D9_5 : Dec prog_1_method_7_code 5 (.istore 5) 2 7 := ⟨by decide +kernel, rfl⟩
theorem D9_7 : Dec prog_1_method_7_code 7 (.iload 5) 2 9 := ⟨by decide +kernel, rfl⟩
theorem D9_9 : Dec prog_1_method_7_code 9 (.iload_n 1) 1 10 := ⟨by decide +kernel, rfl⟩
theorem D9_10 : Jmp prog_1_method_7_code 10 (.if_icmp .lt 23) 23 13 33 := ⟨by decide +kernel, rfl, by decide, by decide⟩
theorem D9_13 : Dec prog_1_method_7_code 13 (.lload_n 3) 1 14 := ⟨by decide +kernel, rfl⟩
theorem D9_14 : Dec prog_1_method_7_code 14 (.bipush 7) 2 16 := ⟨by decide +kernel, rfl⟩
theorem D9_16 : Dec prog_1_method_7_code 16 .lshl 1 17 := ⟨by decide +kernel, rfl⟩
theorem D9_17 : Dec prog_1_method_7_code 17 (.aload_n 0) 1 18 := ⟨by decide +kernel, rfl⟩
theorem D9_18 : Dec prog_1_method_7_code 18 (.iload 5) 2 20 := ⟨by decide +kernel, rfl⟩
theorem D9_20 : Dec prog_1_method_7_code 20 .baload 1 21 := ⟨by decide +kernel, rfl⟩
theorem D9_21 : Dec prog_1_method_7_code 21 (.bipush 127) 2 23 := ⟨by decide +kernel, rfl⟩
theorem D9_23 : Dec prog_1_method_7_code 23 .iand 1 24 := ⟨by decide +kernel, rfl⟩
theorem D9_24 : Dec prog_1_method_7_code 24 .i2l 1 25 := ⟨by decide +kernel, rfl⟩
theorem D9_25 : Dec prog_1_method_7_code 25 .lor 1 26 := ⟨by decide +kernel, rfl⟩
theorem D9_26 : Dec prog_1_method_7_code 26 (.lstore_n 3) 1 27 := ⟨by decide +kernel, rfl⟩
theorem D9_27 : Dec prog_1_method_7_code 27 (.iinc 5 (-1)) 3 30 := ⟨by decide +kernel, rfl⟩
theorem D9_30 : Jmp prog_1_method_7_code 30 (.goto (-23)) (-23) 33 7 := ⟨by decide +kernel, rfl, by decide, by decide⟩
theorem D9_33 : Dec prog_1_method_7_code 33 (.lload_n 3) 1 34 := ⟨by decide +kernel, rfl⟩
theorem D9_34 : Dec prog_1_method_7_code 34 .lreturn 1 35 := ⟨by decide +kernel, rfl⟩
theorem D10_0 : Dec prog_1_method_2_code 0 (.iload_n 1) 1 1 := ⟨by decide +kernel, rfl⟩
theorem D10_1 : Dec prog_1_method_2_code 1 (.istore_n 2) 1 2 := ⟨by decide +kernel, rfl⟩
theorem D10_2 : Dec prog_1_method_2_code 2 (.aload_n 0) 1 3 := ⟨by decide +kernel, rfl⟩
theorem D10_3 : Dec prog_1_method_2_code 3 (.iload_n 2) 1 4 := ⟨by decide +kernel, rfl⟩
theorem D10_4 : Dec prog_1_method_2_code 4 .baload 1 5 := ⟨by decide +kernel, rfl⟩
theorem D10_5 : Dec prog_1_method_2_code 5 (.sipush 128) 3 8 := ⟨by decide +kernel, rfl⟩
theorem D10_8 : Dec prog_1_method_2_code 8 .iand 1 9 := ⟨by decide +kernel, rfl⟩
theorem D10_9 : Jmp prog_1_method_2_code 9 (.ifCond .eq 9) 9 12 18 := ⟨by decide +kernel, rfl, by decide, by decide⟩
theorem D10_12 : Dec prog_1_method_2_code 12 (.iinc 2 1) 3 15 := ⟨by decide +kernel, rfl⟩
theorem D10_15 : Jmp prog_1_method_2_code 15 (.goto (-13)) (-13) 18 2 := ⟨by decide +kernel, rfl, by decide, by decide⟩
theorem D10_18 : Dec prog_1_method_2_code 18 (.iload_n 2) 1 19 := ⟨by decide +kernel, rfl⟩
theorem D10_19 : Dec prog_1_method_2_code 19 (.iconst 1) 1 20 := ⟨by decide +kernel, rfl⟩
theorem D10_20 : Dec prog_1_method_2_code 20 .iadd 1 21 := ⟨by decide +kernel, rfl⟩
theorem D10_21 : Dec prog_1_method_2_code 21 .ireturn 1 22 := ⟨by decide +kernel, rfl⟩
theorem pd_0 : parseMethodDescriptor "(I)I" = some ⟨[.int], some .int⟩ := by decide +kernel
theorem pd_1 : parseMethodDescriptor "(J)I" = some ⟨[.long], some .int⟩ := by decide +kernel
theorem pd_2 : parseMethodDescriptor "(II)I" = some ⟨[.int, .int], some .int⟩ := by decide +kernel
theorem pd_3 : parseMethodDescriptor "(J[BI)I" = some ⟨[.long, (.array .byte), .int], some .int⟩ := by decide +kernel
theorem pd_4 : parseMethodDescriptor "([BII[BII[BI)I" = some ⟨[(.array .byte), .int, .int, (.array .byte), .int, .int, (.array .byte), .int], some .int⟩ := by decide +kernel
theorem pd_5 : parseMethodDescriptor "([BII)J" = some ⟨[(.array .byte), .int, .int], some .long⟩ := by decide +kernel
theorem pd_6 : parseMethodDescriptor "([BI)I" = some ⟨[(.array .byte), .int], some .int⟩ := by decide +kernel
theorem pd_7 : parseMethodDescriptor "(JJ)J" = some ⟨[.long, .long], some .long⟩ := by decide +kernel
section OwnNums
theorem n_bv (a : Nat) : (Int32.ofNat a).toBitVec = BitVec.ofNat 32 a := rfl
theorem eq_mod {x y : Int32} (h : (x.toInt - y.toInt) % 4294967296 = 0) : x = y := Int32.toInt_inj.mp (by have := rng32 x; have := rng32 y; omega)
theorem eq_modL {x y : Int64} (h : (x.toInt - y.toInt) % 18446744073709551616 = 0) : x = y := Int64.toInt_inj.mp (by have := rng64 x; have := rng64 y; omega)
theorem n_add (a b : Nat) : Int32.ofNat a + Int32.ofNat b = Int32.ofNat (a + b) := (Int32.ofNat_add a b).symm
theorem n_mul (a b : Nat) : Int32.ofNat a * Int32.ofNat b = Int32.ofNat (a * b) := (Int32.ofNat_mul a b).symm
theorem n_sub {a b : Nat} (h : b ≤ a) : Int32.ofNat a - Int32.ofNat b = Int32.ofNat (a - b) := by
  have := n_add (a - b) b
  rw [Nat.sub_add_cancel h] at this
  rw [← this, Int32.add_sub_cancel]
theorem n_and (a b : Nat) : Int32.ofNat a &&& Int32.ofNat b = Int32.ofNat (a &&& b) := by
  apply Int32.toBitVec_inj.mp
  rw [Int32.toBitVec_and, n_bv, n_bv, n_bv]
  exact BitVec.ofNat_and.symm
theorem n_or (a b : Nat) : Int32.ofNat a ||| Int32.ofNat b = Int32.ofNat (a ||| b) := by
  apply Int32.toBitVec_inj.mp
  rw [Int32.toBitVec_or, n_bv, n_bv, n_bv]
  exact BitVec.ofNat_or.symm
theorem n_q {k : Nat} (hk : k < 32) : (Int32.ofNat k).toBitVec.toNat % 32 = k := by
  rw [n_bv, BitVec.toNat_ofNat]; omega
theorem n_q64 {k : Nat} (hk : k < 64) : (Int32.ofNat k).toBitVec.toNat % 64 = k := by
  rw [n_bv, BitVec.toNat_ofNat]; omega
theorem toInt_mod (a : Nat) : ((Int32.ofNat a).toInt - a) % 4294967296 = 0 := by
  have h := bm32 (((BitVec.ofNat 32 a).toNat : Nat) : Int)
  rw [show (Int32.ofNat a).toInt = (BitVec.ofNat 32 a).toInt from rfl, BitVec.toInt_eq_toNat_bmod]
  rw [BitVec.toNat_ofNat] at *
  generalize Int.bmod ((a % 2 ^ 32 : Nat) : Int) (2 ^ 32) = w1 at *
  omega
theorem n_inj {a b : Nat} (ha : a < 2147483648) (hb : b < 2147483648) : Int32.ofNat a = Int32.ofNat b ↔ a = b := ⟨fun h => by have := congrArg Int32.toInt h; rw [ofNat_toInt ha, ofNat_toInt hb] at this; omega, fun h => by rw [h]⟩
theorem n_shl (a : Nat) {k : Nat} (hk : k < 32) : jshl (Int32.ofNat a) (Int32.ofNat k) = Int32.ofNat (a * 2 ^ k) := by
  apply eq_mod
  have h1 : ((jshl (Int32.ofNat a) (Int32.ofNat k)).toInt - (Int32.ofNat a).toInt * ((2 ^ k : Nat) : Int)) % 4294967296 = 0 := c_ishl (Int32.ofNat a) (Int32.ofNat k) k (n_q hk)
  generalize (jshl (Int32.ofNat a) (Int32.ofNat k)).toInt = w1 at *
  have h2 := toInt_mod (a * 2 ^ k)
  have h3 := toInt_mod a
  obtain ⟨q, hq⟩ := Int.dvd_of_emod_eq_zero h3
  have h4 : (Int32.ofNat a).toInt * ((2 ^ k : Nat) : Int) - ((a * 2 ^ k : Nat) : Int) = 4294967296 * (q * ((2 ^ k : Nat) : Int)) := by
    rw [Int.natCast_mul, ← Int.sub_mul, hq, Int.mul_assoc]
  omega
theorem n_ushr0 (x : Int32) : jushr x 0 = x := by
  apply Int32.toBitVec_inj.mp
  simp [jushr]
theorem n_ushr {a k : Nat} (ha : a < 2147483648) (hk : k < 32) : jushr (Int32.ofNat a) (Int32.ofNat k) = Int32.ofNat (a / 2 ^ k) := by
  rcases Nat.eq_zero_or_pos k with rfl | h0
  · rw [Nat.pow_zero, Nat.div_one]; exact n_ushr0 _
  · have hd : a / 2 ^ k ≤ a := Nat.div_le_self _ _
    refine eq_ofNat (by omega) ?_
    rw [c_iushr (Int32.ofNat a) (Int32.ofNat k) k (n_q hk) h0, ofNat_toInt ha, show ((a : Int) % 4294967296) = a by omega]
    exact (Int.natCast_ediv _ _).symm
theorem n_shr {a k : Nat} (ha : a < 2147483648) (hk : k < 32) : jshr (Int32.ofNat a) (Int32.ofNat k) = Int32.ofNat (a / 2 ^ k) := by
  have hd : a / 2 ^ k ≤ a := Nat.div_le_self _ _
  refine eq_ofNat (by omega) ?_
  rw [c_ishr (Int32.ofNat a) (Int32.ofNat k) k (n_q hk), ofNat_toInt ha]
  exact (Int.natCast_ediv _ _).symm
theorem n_low (a k : Nat) : Int32.ofNat a &&& Int32.ofNat (2 ^ k - 1) = Int32.ofNat (a % 2 ^ k) := by rw [n_and, Nat.and_two_pow_sub_one_eq_mod]
theorem n_orlow (a : Nat) {i t : Nat} (ht : t < 2 ^ i) : Int32.ofNat (2 ^ i * a) ||| Int32.ofNat t = Int32.ofNat (2 ^ i * a + t) := by rw [n_or, Nat.two_pow_add_eq_or_of_lt ht]
theorem n_rem {a k : Nat} (ha : a < 2147483648) (h1 : 0 < k) (hk : k < 2147483648) : Int32.ofNat a % Int32.ofNat k = Int32.ofNat (a % k) := by
  have hm := Nat.mod_lt a h1
  refine eq_ofNat (by omega) ?_
  rw [(c_irem (Int32.ofNat a) (Int32.ofNat k) k (ofNat_toInt hk)).1 (by rw [ofNat_toInt ha]; omega), ofNat_toInt ha]
  exact (Int.natCast_emod _ _).symm
theorem n_nn (x : Int32) (h : 0 ≤ x.toInt) : ∃ u : Nat, u < 2147483648 ∧ x = Int32.ofNat u := by
  have := rng32 x
  exact ⟨x.toInt.toNat, by omega, eq_ofNat (by omega) (by omega)⟩
theorem n_mask31 (x : Int32) : ∃ u : Nat, u < 2147483648 ∧ x &&& 2147483647 = Int32.ofNat u := n_nn _ (c_and x 2147483647 (by decide)).1
theorem n_mask (x : Int32) (k : Nat) (hk : k ≤ 31) {m : Int32} (hm : m.toBitVec.toNat = 2 ^ k - 1) : x &&& m = Int32.ofNat ((x.toInt % (2 ^ k : Nat)).toNat) := by
  have h1 : (0 : Int) < ((2 ^ k : Nat) : Int) := by
    have := Nat.two_pow_pos k
    omega
  have h2 : ((2 ^ k : Nat) : Int) ≤ 2147483648 := by
    have : 2 ^ k ≤ 2147483648 := Nat.pow_le_pow_right (n := 2) (by decide) hk
    omega
  have h3 := Int.emod_nonneg x.toInt (Int.ne_of_gt h1)
  have h4 := Int.emod_lt_of_pos x.toInt h1
  exact eq_ofNat (by omega) (by rw [c_mask x m k hk hm]; omega)
theorem jbyte_idem (x : Int32) : jbyte (jbyte x) = jbyte x := by
  have h1 := c_i2b x
  have h2 := c_i2b (jbyte x)
  exact Int32.toInt_inj.mp (by simp only [jbyte] at *; omega)
theorem jbyte_and (x : Int32) (k : Nat) (hk : k ≤ 8) {m : Int32} (hm : m.toBitVec.toNat = 2 ^ k - 1) : jbyte x &&& m = x &&& m := by
  have h1 := (c_i2b x).1
  apply Int32.toInt_inj.mp
  rw [c_mask _ m k (by omega) hm, c_mask _ m k (by omega) hm]
  have : ∃ c : Nat, 256 = 2 ^ k * c := ⟨2 ^ (8 - k), by rw [← Nat.pow_add, show k + (8 - k) = 8 by omega]⟩
  obtain ⟨c, hc⟩ := this
  obtain ⟨q, hq⟩ := Int.dvd_of_emod_eq_zero h1
  have h2 : (jbyte x).toInt = x.toInt + ((2 ^ k : Nat) : Int) * ((c : Int) * q) := by
    have h3 : (256 : Int) = ((2 ^ k : Nat) : Int) * (c : Int) := by rw [← Int.natCast_mul, ← hc]; rfl
    rw [h3, Int.mul_assoc] at hq
    simp only [jbyte]; omega
  rw [h2, Int.add_mul_emod_self_left]
end OwnNums
section OwnNumsL
theorem nl_bv (a : Nat) : (Int64.ofNat a).toBitVec = BitVec.ofNat 64 a := rfl
theorem ofNatL_toInt {n : Nat} (h : n < 9223372036854775808) : (Int64.ofNat n).toInt = n := Int64.toInt_ofNat_of_lt (by omega)
theorem eq_ofNatL {x : Int64} {n : Nat} (hn : n < 9223372036854775808) (h : x.toInt = n) : x = Int64.ofNat n := Int64.toInt_inj.mp (by rw [h, ofNatL_toInt hn])
theorem nL_add (a b : Nat) : Int64.ofNat a + Int64.ofNat b = Int64.ofNat (a + b) := (Int64.ofNat_add a b).symm
theorem nL_mul (a b : Nat) : Int64.ofNat a * Int64.ofNat b = Int64.ofNat (a * b) := (Int64.ofNat_mul a b).symm
theorem nL_sub {a b : Nat} (h : b ≤ a) : Int64.ofNat a - Int64.ofNat b = Int64.ofNat (a - b) := by
  have := nL_add (a - b) b
  rw [Nat.sub_add_cancel h] at this
  rw [← this, Int64.add_sub_cancel]
theorem nL_and (a b : Nat) : Int64.ofNat a &&& Int64.ofNat b = Int64.ofNat (a &&& b) := by
  apply Int64.toBitVec_inj.mp
  rw [Int64.toBitVec_and, nl_bv, nl_bv, nl_bv]
  exact BitVec.ofNat_and.symm
theorem nL_or (a b : Nat) : Int64.ofNat a ||| Int64.ofNat b = Int64.ofNat (a ||| b) := by
  apply Int64.toBitVec_inj.mp
  rw [Int64.toBitVec_or, nl_bv, nl_bv, nl_bv]
  exact BitVec.ofNat_or.symm
theorem nL_inj {a b : Nat} (ha : a < 9223372036854775808) (hb : b < 9223372036854775808) : Int64.ofNat a = Int64.ofNat b ↔ a = b := ⟨fun h => by have := congrArg Int64.toInt h; rw [ofNatL_toInt ha, ofNatL_toInt hb] at this; omega, fun h => by rw [h]⟩
theorem nL_lt {a b : Nat} (ha : a < 9223372036854775808) (hb : b < 9223372036854775808) : Int64.ofNat a < Int64.ofNat b ↔ a < b := by rw [Int64.lt_iff_toInt_lt, ofNatL_toInt ha, ofNatL_toInt hb]; omega
theorem toInt_modL (a : Nat) : ((Int64.ofNat a).toInt - a) % 18446744073709551616 = 0 := by
  have h := bm64 (((BitVec.ofNat 64 a).toNat : Nat) : Int)
  rw [show (Int64.ofNat a).toInt = (BitVec.ofNat 64 a).toInt from rfl, BitVec.toInt_eq_toNat_bmod]
  rw [BitVec.toNat_ofNat] at *
  generalize Int.bmod ((a % 2 ^ 64 : Nat) : Int) (2 ^ 64) = w1 at *
  omega
theorem nL_shl (a : Nat) {k : Nat} (hk : k < 64) : jshlL (Int64.ofNat a) (Int32.ofNat k) = Int64.ofNat (a * 2 ^ k) := by
  apply eq_modL
  have h1 : ((jshlL (Int64.ofNat a) (Int32.ofNat k)).toInt - (Int64.ofNat a).toInt * ((2 ^ k : Nat) : Int)) % 18446744073709551616 = 0 := c_lshl (Int64.ofNat a) (Int32.ofNat k) k (n_q64 hk)
  generalize (jshlL (Int64.ofNat a) (Int32.ofNat k)).toInt = w1 at *
  have h2 := toInt_modL (a * 2 ^ k)
  have h3 := toInt_modL a
  obtain ⟨q, hq⟩ := Int.dvd_of_emod_eq_zero h3
  have h4 : (Int64.ofNat a).toInt * ((2 ^ k : Nat) : Int) - ((a * 2 ^ k : Nat) : Int) = 18446744073709551616 * (q * ((2 ^ k : Nat) : Int)) := by
    rw [Int.natCast_mul, ← Int.sub_mul, hq, Int.mul_assoc]
  omega
theorem nL_ushr0 (x : Int64) : jushrL x 0 = x := by
  apply Int64.toBitVec_inj.mp
  simp [jushrL]
theorem nL_ushr {a k : Nat} (ha : a < 9223372036854775808) (hk : k < 64) : jushrL (Int64.ofNat a) (Int32.ofNat k) = Int64.ofNat (a / 2 ^ k) := by
  rcases Nat.eq_zero_or_pos k with rfl | h0
  · rw [Nat.pow_zero, Nat.div_one]; exact nL_ushr0 _
  · have hd : a / 2 ^ k ≤ a := Nat.div_le_self _ _
    refine eq_ofNatL (by omega) ?_
    rw [c_lushr (Int64.ofNat a) (Int32.ofNat k) k (n_q64 hk) h0, ofNatL_toInt ha, show ((a : Int) % 18446744073709551616) = a by omega]
    exact (Int.natCast_ediv _ _).symm
theorem nL_low (a k : Nat) : Int64.ofNat a &&& Int64.ofNat (2 ^ k - 1) = Int64.ofNat (a % 2 ^ k) := by rw [nL_and, Nat.and_two_pow_sub_one_eq_mod]
theorem nL_orlow (a : Nat) {i t : Nat} (ht : t < 2 ^ i) : Int64.ofNat (2 ^ i * a) ||| Int64.ofNat t = Int64.ofNat (2 ^ i * a + t) := by rw [nL_or, Nat.two_pow_add_eq_or_of_lt ht]
theorem n_i2l {a : Nat} (h : a < 2147483648) : (Int32.ofNat a).toInt64 = Int64.ofNat a := eq_ofNatL (by omega) (by rw [c_i2l, ofNat_toInt h])
theorem n_l2i (a : Nat) : (Int64.ofNat a).toInt32 = Int32.ofNat a := by
  apply eq_mod
  have h1 := c_l2i (Int64.ofNat a)
  have h2 := toInt_modL a
  have h3 := toInt_mod a
  omega
theorem nL_nn (x : Int64) (h : 0 ≤ x.toInt) : ∃ u : Nat, u < 9223372036854775808 ∧ x = Int64.ofNat u := by
  have := rng64 x
  exact ⟨x.toInt.toNat, by omega, eq_ofNatL (by omega) (by omega)⟩
end OwnNumsL

/-- write on the array's values -/
def pl : Nat → (Nat → Int32) → Nat → Nat → (Nat → Int32)
  | 0, g, A, u => upd g A (jbyte (jbyte (Int32.ofNat u)))
  | n + 1, g, A, u => if u < 128 then upd g A (jbyte (jbyte (Int32.ofNat u))) else pl n (upd g A (jbyte (jbyte (Int32.ofNat (128 + u % 128))))) (A + 1) (u / 128)
def sz : Nat → Nat → Nat
  | 0, _ => 1
  | n + 1, u => if u < 128 then 1 else sz n (u / 128) + 1
theorem sz_pos : ∀ n u, 1 ≤ sz n u
  | 0, _ => Nat.le_refl _
  | n + 1, u => by rw [sz]; split <;> omega
theorem sz_le : ∀ n u, sz n u ≤ n + 1
  | 0, _ => Nat.le_refl _
  | n + 1, u => by have := sz_le n (u / 128); rw [sz]; split <;> omega
def dig (u k N : Nat) : Nat := if k + 1 < N then 128 + u / 128 ^ k % 128 else u / 128 ^ k % 128
theorem pl_at : ∀ (n : Nat) (g : Nat → Int32) (A u I : Nat), u < 128 ^ (n + 1) → pl n g A u I = if I < A ∨ A + sz n u ≤ I then g I else jbyte (Int32.ofNat (dig u (I - A) (sz n u))) := by
  intro n
  have base : ∀ (g : Nat → Int32) (A u I : Nat), u < 128 → upd g A (jbyte (jbyte (Int32.ofNat u))) I = if I < A ∨ A + 1 ≤ I then g I else jbyte (Int32.ofNat (dig u (I - A) 1)) := by
    intro g A u I hu
    by_cases hI : I = A
    · subst hI
      rw [upd_at, if_neg (by omega), dig, if_neg (by omega), Nat.sub_self, Nat.pow_zero, Nat.div_one, jbyte_idem, Nat.mod_eq_of_lt hu]
    · rw [upd_ne _ _ hI, if_pos (by omega)]
  induction n with
  | zero => intro g A u I hu; exact base g A u I (by simpa using hu)
  | succ n ih =>
    intro g A u I hu
    by_cases h1 : u < 128
    · rw [pl, if_pos h1, sz, if_pos h1]; exact base g A u I h1
    · rw [Nat.pow_succ] at hu
      have hp := sz_pos n (u / 128)
      rw [pl, if_neg h1, sz, if_neg h1, ih _ _ _ _ (by omega)]
      by_cases hA : I < A
      · rw [if_pos (by omega), if_pos (by omega), upd_ne _ _ (by omega)]
      · by_cases hI : I = A
        · subst hI
          rw [if_pos (by omega), if_neg (by omega), upd_at, dig, if_pos (by omega), Nat.sub_self, Nat.pow_zero, Nat.div_one, jbyte_idem]
        · by_cases h2 : A + 1 + sz n (u / 128) ≤ I
          · rw [if_pos (by omega), if_pos (by omega), upd_ne _ _ hI]
          · rw [if_neg (by omega), if_neg (by omega)]
            have e1 : u / 128 / 128 ^ (I - (A + 1)) = u / 128 ^ (I - A) := by
              rw [Nat.div_div_eq_div_mul, show I - A = (I - (A + 1)) + 1 by omega, Nat.pow_succ, Nat.mul_comm]
            simp only [dig, e1]
            by_cases h3 : I - A + 1 < sz n (u / 128) + 1
            · rw [if_pos h3, if_pos (by omega)]
            · rw [if_neg h3, if_neg (by omega)]
theorem own_more (u : Nat) : Int64.ofNat (u % 2 ^ 7) ||| 128 = Int64.ofNat (128 + u % 128) := by
  rw [Int64.or_comm]; exact nL_orlow (i := 7) 1 (Nat.mod_lt _ (by decide))
theorem own_at (x : Int32) : ∃ A : Nat, A < 4 ∧ x &&& 3 = Int32.ofNat A := ⟨_, by omega, n_mask x 2 (by decide) (m := 3) (by decide)⟩
theorem own_63 (x : Int64) : ∃ u : Nat, u < 9223372036854775808 ∧ x &&& 9223372036854775807 = Int64.ofNat u := nL_nn _ (by rw [c_maskL x _ 63 (by decide) (by decide)]; omega)
/-- the low seven bits -/
def d7 (x : Int32) : Nat := (x.toInt % (2 ^ 7 : Nat)).toNat
theorem and127 (x : Int32) : x &&& 127 = Int32.ofNat (d7 x) := n_mask x 7 (by decide) (m := 127) (by decide)
theorem d7_lt (x : Int32) : d7 x < 128 := by unfold d7; omega
theorem d7_i2l (x : Int32) : (x &&& 127).toInt64 = Int64.ofNat (d7 x) := by rw [and127, n_i2l (by have := d7_lt x; omega)]
theorem d7_of {x : Int32} {n : Nat} (hn : n < 128) (h : x &&& 127 = Int32.ofNat n) : d7 x = n := by
  rw [and127] at h
  exact (n_inj (by have := d7_lt x; omega) (by omega)).mp h
theorem d7_byte (n : Nat) : d7 (jbyte (Int32.ofNat n)) = n % 128 := by
  refine d7_of (Nat.mod_lt _ (by decide)) ?_
  rw [jbyte_and _ 7 (by decide) (by decide)]; exact n_low n 7
/-- the k-th digit of a number -/
def dgt (u k : Nat) : Nat := u / 2 ^ (7 * k) % 128
theorem dgt_lt (u k : Nat) : dgt u k < 128 := Nat.mod_lt _ (by decide)
def sm (d : Nat → Nat) : Nat → Nat
  | 0 => 0
  | n + 1 => sm d n + 2 ^ (7 * n) * d n
theorem pow7 (n : Nat) : 2 ^ (7 * (n + 1)) = 128 * 2 ^ (7 * n) := by rw [show 7 * (n + 1) = 7 + 7 * n by omega, Nat.pow_add]
theorem sm_lt (d : Nat → Nat) (hd : ∀ k, d k < 128) : ∀ n, sm d n < 2 ^ (7 * n)
  | 0 => by simp [sm]
  | n + 1 => by
    have h1 := sm_lt d hd n
    have h2 : 2 ^ (7 * n) * d n ≤ 2 ^ (7 * n) * 127 := Nat.mul_le_mul_left _ (by have := hd n; omega)
    rw [sm, pow7]; omega
theorem sm_congr {d d' : Nat → Nat} : ∀ n, (∀ k, k < n → d k = d' k) → sm d n = sm d' n
  | 0, _ => rfl
  | n + 1, h => by rw [sm, sm, sm_congr n (fun k hk => h k (by omega)), h n (by omega)]
theorem sm_dgt (u : Nat) : ∀ n, sm (dgt u) n = u % 2 ^ (7 * n)
  | 0 => by simp [sm, Nat.mod_one]
  | n + 1 => by
    rw [sm, sm_dgt u n, dgt, pow7, Nat.mul_comm 128, Nat.mod_mul]
theorem sm_zero (d : Nat → Nat) (N : Nat) : ∀ r, (∀ k, N ≤ k → k < N + r → d k = 0) → sm d (N + r) = sm d N
  | 0, _ => rfl
  | r + 1, h => by rw [← Nat.add_assoc, sm, h (N + r) (by omega) (by omega), Nat.mul_zero, Nat.add_zero]; exact sm_zero d N r (fun k h1 h2 => h k h1 (by omega))
/-- the borrow ahead of digit i, and the i-th digit of the difference -/
def bo (a b : Nat) : Nat → Nat
  | 0 => 0
  | i + 1 => if dgt a i < dgt b i + bo a b i then 1 else 0
def ed (a b i : Nat) : Nat := dgt a i + 128 * bo a b (i + 1) - dgt b i - bo a b i
theorem bo_le (a b : Nat) : ∀ i, bo a b i ≤ 1
  | 0 => Nat.zero_le _
  | i + 1 => by rw [bo]; split <;> omega
theorem ed_eq (a b i : Nat) : ed a b i + dgt b i + bo a b i = dgt a i + 128 * bo a b (i + 1) ∧ ed a b i < 128 := by
  have h1 := dgt_lt a i; have h2 := dgt_lt b i; have h3 := bo_le a b i
  unfold ed
  rw [bo]
  split <;> omega
theorem own_inv (a b : Nat) : ∀ n, sm (ed a b) n + sm (dgt b) n = sm (dgt a) n + 2 ^ (7 * n) * bo a b n
  | 0 => by simp [sm, bo]
  | n + 1 => by
    have h1 := own_inv a b n
    have h2 := (ed_eq a b n).1
    rw [sm, sm, sm, pow7]
    have h3 : 2 ^ (7 * n) * ed a b n + 2 ^ (7 * n) * dgt b n + 2 ^ (7 * n) * bo a b n = 2 ^ (7 * n) * dgt a n + 128 * 2 ^ (7 * n) * bo a b (n + 1) := by
      rw [← Nat.mul_add, ← Nat.mul_add, h2, Nat.mul_add, Nat.mul_left_comm, Nat.mul_assoc]
    omega
theorem own_diff (a b N : Nat) (hab : b ≤ a) (ha : a < 2 ^ (7 * N)) : sm (ed a b) N = a - b := by
  have h1 := own_inv a b N
  rw [sm_dgt, sm_dgt, Nat.mod_eq_of_lt ha, Nat.mod_eq_of_lt (Nat.lt_of_le_of_lt hab ha)] at h1
  have h2 := sm_lt (ed a b) (fun k => (ed_eq a b k).2) N
  have h3 := bo_le a b N
  rcases Nat.lt_or_ge (bo a b N) 1 with h | h
  · rw [show bo a b N = 0 by omega, Nat.mul_zero] at h1; omega
  · rw [show bo a b N = 1 by omega, Nat.mul_one] at h1; omega
/-- the length behind the trimming -/
def tr (a b : Nat) : Nat → Nat
  | 0 => 0
  | 1 => 1
  | t + 2 => if ed a b (t + 1) = 0 then tr a b (t + 1) else t + 2
theorem tr_spec (a b : Nat) : ∀ t, 1 ≤ t → 1 ≤ tr a b t ∧ tr a b t ≤ t ∧ (∀ k, tr a b t ≤ k → k < t → ed a b k = 0) ∧ (tr a b t = 1 ∨ ed a b (tr a b t - 1) ≠ 0)
  | 0, h => absurd h (by decide)
  | 1, _ => ⟨Nat.le_refl _, Nat.le_refl _, fun k h1 h2 => absurd h2 (Nat.not_lt.mpr h1), Or.inl rfl⟩
  | t + 2, _ => by
    have ih := tr_spec a b (t + 1) (by omega)
    by_cases h : ed a b (t + 1) = 0
    · rw [tr, if_pos h]
      refine ⟨ih.1, by omega, fun k h1 h2 => ?_, ih.2.2.2⟩
      by_cases hk : k = t + 1
      · rw [hk]; exact h
      · exact ih.2.2.1 k h1 (by omega)
    · rw [tr, if_neg h]
      exact ⟨by omega, Nat.le_refl _, fun k h1 h2 => by omega, Or.inr (by simpa using h)⟩
theorem own_len (a b N : Nat) (hN : 1 ≤ N) (hab : b ≤ a) (ha : a < 2 ^ (7 * N)) : sm (ed a b) (tr a b N) = a - b ∧ a - b < 2 ^ (7 * tr a b N) ∧ (tr a b N = 1 ∨ 2 ^ (7 * (tr a b N - 1)) ≤ a - b) := by
  obtain ⟨h1, h2, h3, h4⟩ := tr_spec a b N hN
  have e1 : sm (ed a b) (tr a b N) = a - b := by
    have e0 := sm_zero (ed a b) (tr a b N) (N - tr a b N) (fun k q1 q2 => h3 k q1 (by omega))
    rw [show tr a b N + (N - tr a b N) = N by omega] at e0
    rw [← own_diff a b N hab ha, e0]
  refine ⟨e1, ?_, ?_⟩
  · rw [← e1]; exact sm_lt _ (fun k => (ed_eq a b k).2) _
  · rcases h4 with h4 | h4
    · exact Or.inl h4
    · right
      rw [← e1, show tr a b N = (tr a b N - 1) + 1 by omega, sm, Nat.add_sub_cancel]
      have : 2 ^ (7 * (tr a b N - 1)) * 1 ≤ 2 ^ (7 * (tr a b N - 1)) * ed a b (tr a b N - 1) := Nat.mul_le_mul_left _ (by omega)
      omega
/-- the m digits from place i on -/
def hv (g : Nat → Int32) : Nat → Nat → Nat
  | _, 0 => 0
  | i, m + 1 => d7 (g i) + 128 * hv g (i + 1) m
theorem own_turn (v : Nat) (x : Int32) : jshlL (Int64.ofNat v) 7 ||| Int64.ofNat (d7 x) = Int64.ofNat (d7 x + 128 * v) := by
  rw [show jshlL (Int64.ofNat v) 7 = Int64.ofNat (v * 2 ^ 7) from nL_shl v (k := 7) (by decide), Nat.mul_comm, nL_orlow _ (d7_lt x), Nat.add_comm]
theorem sm_split (d : Nat → Nat) : ∀ n, sm d (n + 1) = d 0 + 128 * sm (fun q => d (q + 1)) n
  | 0 => by simp [sm]
  | n + 1 => by
    rw [sm, sm_split d n, sm, pow7]
    have : 128 * 2 ^ (7 * n) * d (n + 1) = 128 * (2 ^ (7 * n) * d (n + 1)) := Nat.mul_assoc _ _ _
    omega
theorem hv_sm (g : Nat → Int32) : ∀ m i, hv g i m = sm (fun q => d7 (g (i + q))) m
  | 0, _ => rfl
  | m + 1, i => by
    rw [hv, sm_split, hv_sm g m (i + 1), Nat.add_zero]
    congr 2; exact sm_congr _ (fun k _ => by rw [show i + 1 + k = i + (k + 1) by omega])
/-- diff's bytes behind i turns -/
def gd (a b AT : Nat) (g : Nat → Int32) : Nat → (Nat → Int32)
  | 0 => g
  | i + 1 => upd (gd a b AT g i) (AT + i) (jbyte (jbyte (Int32.ofNat (ed a b i) ||| 128)))
theorem gd_at (a b AT : Nat) (g : Nat → Int32) : ∀ n k, k < n → gd a b AT g n (AT + k) = jbyte (Int32.ofNat (128 + ed a b k))
  | 0, k, h => by omega
  | n + 1, k, h => by
    rw [gd]
    by_cases hk : k = n
    · subst hk
      rw [upd_at, jbyte_idem, Int32.or_comm, show (128 : Int32) ||| Int32.ofNat (ed a b k) = Int32.ofNat (128 + ed a b k) from n_orlow (i := 7) 1 (ed_eq a b k).2]
    · rw [upd_ne _ _ (by omega)]; exact gd_at a b AT g n k (by omega)
theorem d7_gd (a b AT : Nat) (g : Nat → Int32) (n k : Nat) (h : k < n) : d7 (gd a b AT g n (AT + k)) = ed a b k := by
  rw [gd_at a b AT g n k h, d7_byte]; have := (ed_eq a b k).2; omega
/-- diff's bytes at the end -/
def gz (a b AT N : Nat) (g : Nat → Int32) : Nat → Int32 := upd (gd a b AT g N) (AT + tr a b N - 1) (jbyte (jbyte (Int32.ofNat (ed a b (tr a b N - 1)))))
theorem own_hv (a b AT N : Nat) (g : Nat → Int32) (hN : 1 ≤ N) (hab : b ≤ a) (ha : a < 2 ^ (7 * N)) : hv (gz a b AT N g) AT (tr a b N) = a - b := by
  obtain ⟨h1, h2, h3, h4⟩ := tr_spec a b N hN
  rw [hv_sm, ← (own_len a b N hN hab ha).1]
  refine sm_congr _ (fun k hk => ?_)
  rw [gz]
  by_cases hq : AT + k = AT + tr a b N - 1
  · rw [hq, upd_at, jbyte_idem, d7_byte, show k = tr a b N - 1 by omega]; have := (ed_eq a b (tr a b N - 1)).2; omega
  · rw [upd_ne _ _ hq]; exact d7_gd a b AT g N k (by omega)
theorem own_128 {n : Nat} (hn : n < 128) : jbyte (Int32.ofNat (128 + n)) &&& 128 = 128 ∧ jbyte (Int32.ofNat n) &&& 128 = 0 := by
  have e1 : (255 : Int32) &&& 128 = 128 := by decide
  have f : ∀ x : Int32, jbyte x &&& 128 = (x &&& 255) &&& 128 := fun x => by rw [show jbyte x &&& 128 = jbyte x &&& (255 &&& 128) by rw [e1], ← Int32.and_assoc, jbyte_and _ 8 (by decide) (by decide)]
  have d : ∀ t, t < 128 → (128 + t) &&& 128 = 128 ∧ t &&& 128 = 0 := by decide
  refine ⟨?_, ?_⟩
  · rw [f, show Int32.ofNat (128 + n) &&& 255 = Int32.ofNat ((128 + n) % 2 ^ 8) from n_low _ 8, Nat.mod_eq_of_lt (by omega)]
    exact (n_and (128 + n) 128).trans (by rw [(d n hn).1]; rfl)
  · rw [f, show Int32.ofNat n &&& 255 = Int32.ofNat (n % 2 ^ 8) from n_low _ 8, Nat.mod_eq_of_lt (by omega)]
    exact (n_and n 128).trans (by rw [(d n hn).2]; rfl)
theorem own_flags (a b AT N : Nat) (g : Nat → Int32) (hN : 1 ≤ N) : (∀ k, k + 1 < tr a b N → ¬ gz a b AT N g (AT + k) &&& 128 = 0) ∧ gz a b AT N g (AT + (tr a b N - 1)) &&& 128 = 0 := by
  obtain ⟨h1, h2, h3, h4⟩ := tr_spec a b N hN
  refine ⟨fun k hk q => ?_, ?_⟩
  · rw [gz, upd_ne _ _ (by omega), gd_at a b AT g N k (by omega), (own_128 (ed_eq a b k).2).1] at q
    exact absurd q (by decide)
  · rw [gz, show AT + (tr a b N - 1) = AT + tr a b N - 1 by omega, upd_at, jbyte_idem]
    exact (own_128 (ed_eq a b _).2).2
/-- a digit's difference, as an int -/
theorem own_sub {x y z : Nat} (hx : x < 1000) (hy : y < 1000) (hz : z < 1000) : (Int32.ofNat x - Int32.ofNat y - Int32.ofNat z).toInt = (x : Int) - y - z := by
  have h1 := c_isub (Int32.ofNat x) (Int32.ofNat y)
  have h2 := c_isub (Int32.ofNat x - Int32.ofNat y) (Int32.ofNat z)
  have h3 := rng32 (Int32.ofNat x - Int32.ofNat y - Int32.ofNat z)
  have h4 := rng32 (Int32.ofNat x - Int32.ofNat y)
  rw [ofNat_toInt (by omega), ofNat_toInt (by omega)] at h1
  rw [ofNat_toInt (by omega)] at h2
  omega
theorem neg_iff {x : Int32} : x < 0 ↔ x.toInt < 0 := by rw [Int32.lt_iff_toInt_lt]; rfl
theorem own_bl (D : Nat) (hD : D < 9223372036854775808) : ∃ bl, bl ≤ 63 ∧ D < 2 ^ bl ∧ (bl = 0 ∨ 2 ^ (bl - 1) ≤ D) := by
  by_cases h : D = 0
  · exact ⟨0, by omega, by rw [h]; decide, Or.inl rfl⟩
  · refine ⟨D.log2 + 1, ?_, Nat.lt_log2_self, Or.inr (by rw [Nat.add_sub_cancel]; exact Nat.log2_self_le h)⟩
    have := (Nat.log2_lt h (k := 63)).mpr hD
    omega
theorem own_uniq {u bl t : Nat} (h1 : u < 2 ^ bl) (h2 : bl = 0 ∨ 2 ^ (bl - 1) ≤ u) (h3 : 2 ^ t ≤ u) (h4 : u < 2 ^ (t + 1)) : bl = t + 1 := by
  have a1 : t < bl := (Nat.pow_lt_pow_iff_right (a := 2) (by decide)).mp (Nat.lt_of_le_of_lt h3 h1)
  rcases h2 with h2 | h2
  · omega
  · have a2 : bl - 1 < t + 1 := (Nat.pow_lt_pow_iff_right (a := 2) (by decide)).mp (Nat.lt_of_le_of_lt h2 h4)
    omega
theorem n_div {a k : Nat} (ha : a < 2147483648) (h1 : 1 < k) (hk : k < 2147483648) : Int32.ofNat a / Int32.ofNat k = Int32.ofNat (a / k) := by
  have hd : a / k ≤ a := Nat.div_le_self _ _
  refine eq_ofNat (by omega) ?_
  rw [(c_idiv (Int32.ofNat a) (Int32.ofNat k) k (ofNat_toInt hk) (fun q => by have := congrArg Int32.toInt q; rw [ofNat_toInt hk, show (-1 : Int32).toInt = -1 from rfl] at this; omega)).1 (by rw [ofNat_toInt ha]; omega), ofNat_toInt ha]
  exact (Int.natCast_ediv _ _).symm
theorem own_sz {u : Nat} : ∀ n u, u < 128 ^ (n + 1) → u < 2 ^ (7 * sz n u)
  | 0, u, h => by simpa [sz] using h
  | n + 1, u, h => by
    rw [sz]
    split
    · rename_i q; simpa using q
    · rw [Nat.pow_succ] at h
      have := own_sz (u := u) n (u / 128) (by omega)
      rw [pow7]; omega
theorem pow128 (k : Nat) : 2 ^ (7 * k) = 128 ^ k := by rw [Nat.pow_mul]
/-- what write leaves, digit by digit -/
theorem own_dig (u A : Nat) (f : Nat → Int32) (hu : u < 9223372036854775808) (k : Nat) (hk : k < sz 8 u) : d7 (pl 8 f A u (A + k)) = dgt u k := by
  rw [pl_at 8 _ A u (A + k) (by omega), if_neg (by omega), d7_byte, Nat.add_sub_cancel_left, dig, dgt, pow128]
  split <;> omega
theorem ef_1 (m : MethodId) (x1 : Int64) (x2 : Int64) : entryFrame m #[(.long x1), (.long x2)] 4 = mkF m 0 #[.val (.long x1), .second, .val (.long x2), .second] [] := by first | (simp [entryFrame, mkF, argsToLocals, Value.category]; done) | rfl
set_option maxRecDepth 65536 in
set_option maxHeartbeats 40000000 in
theorem rmMaxL {l : Launch} {Z : State} {a0 : Array Value} {n0 : Nat} {h : Heap} (hw : ∀ d ∈ tables_1, d.before a0 Z = true) (hn : n0 ≤ h.size) (x1 : Int64) (x2 : Int64) (u1 u2 : Nat) (h1 : u1 < 9223372036854775808) (h2 : u2 < 9223372036854775808) (e1 : x1 = Int64.ofNat u1) (e2 : x2 = Int64.ofNat u2) :
    Ctr l Z n0 (⟨"java/lang/Math", "max", "(JJ)J"⟩ : MethodName) jdk_29_method_66_code 4 (some .long) ({ frames := 0, cells := 0, slots := 0, locals := 0 } : Room) [] #[(.long x1), (.long x2)] h (fun v h' => v = some (.long (Int64.ofNat (max u1 u2))) ∧ h = h') := by
  refine ctr_of (Jvm.Free.JP.mathPlain rfl (by decide +kernel)) hw hn ?_
  intro p e s m below meth c T X
  refine Wp.cast (ef_1 m x1 x2) ?_
  subst e1 e2
  refine w_lloadN X D1_0 rfl ?_
  refine w_lloadN X D1_1 rfl ?_
  refine w_lcmplt X D1_2 D1_3 (fun hc3 => ?_) (fun hc3 => ?_)
  · refine w_lloadN X D1_10 rfl ?_
    exact w_lreturn X D1_11 (by decide) (by decide) (⟨by
            have f := (nL_lt h1 h2).mp hc3
            rw [Nat.max_eq_right (by omega)], rfl⟩)
  · refine w_lloadN X D1_6 rfl ?_
    refine w_goto X D1_7 ?_
    exact w_lreturn X D1_11 (by decide) (by decide) (⟨by
            have f : ¬ u1 < u2 := fun z => hc3 ((nL_lt h1 h2).mpr z)
            rw [Nat.max_eq_left (by omega)], rfl⟩)
theorem ef_2 (m : MethodId) (x1 : Int64) (x2 : Int64) : entryFrame m #[(.long x1), (.long x2)] 4 = mkF m 0 #[.val (.long x1), .second, .val (.long x2), .second] [] := by first | (simp [entryFrame, mkF, argsToLocals, Value.category]; done) | rfl
set_option maxRecDepth 65536 in
set_option maxHeartbeats 40000000 in
theorem rmMinL {l : Launch} {Z : State} {a0 : Array Value} {n0 : Nat} {h : Heap} (hw : ∀ d ∈ tables_1, d.before a0 Z = true) (hn : n0 ≤ h.size) (x1 : Int64) (x2 : Int64) (u1 u2 : Nat) (h1 : u1 < 9223372036854775808) (h2 : u2 < 9223372036854775808) (e1 : x1 = Int64.ofNat u1) (e2 : x2 = Int64.ofNat u2) :
    Ctr l Z n0 (⟨"java/lang/Math", "min", "(JJ)J"⟩ : MethodName) jdk_29_method_70_code 4 (some .long) ({ frames := 0, cells := 0, slots := 0, locals := 0 } : Room) [] #[(.long x1), (.long x2)] h (fun v h' => v = some (.long (Int64.ofNat (min u1 u2))) ∧ h = h') := by
  refine ctr_of (Jvm.Free.JP.mathPlain rfl (by decide +kernel)) hw hn ?_
  intro p e s m below meth c T X
  refine Wp.cast (ef_2 m x1 x2) ?_
  subst e1 e2
  refine w_lloadN X D2_0 rfl ?_
  refine w_lloadN X D2_1 rfl ?_
  refine w_lcmpgt X D2_2 D2_3 (fun hc3 => ?_) (fun hc3 => ?_)
  · refine w_lloadN X D2_10 rfl ?_
    exact w_lreturn X D2_11 (by decide) (by decide) (⟨by
            have f := (nL_lt h2 h1).mp hc3
            rw [Nat.min_eq_right (by omega)], rfl⟩)
  · refine w_lloadN X D2_6 rfl ?_
    refine w_goto X D2_7 ?_
    exact w_lreturn X D2_11 (by decide) (by decide) (⟨by
            have f : ¬ u2 < u1 := fun z => hc3 ((nL_lt h2 h1).mpr z)
            rw [Nat.min_eq_left (by omega)], rfl⟩)
theorem ef_8 (m : MethodId) (x1 : Int32) (x2 : Int32) : entryFrame m #[(.int x1), (.int x2)] 2 = mkF m 0 #[.val (.int x1), .val (.int x2)] [] := by first | (simp [entryFrame, mkF, argsToLocals, Value.category]; done) | rfl
set_option maxRecDepth 65536 in
set_option maxHeartbeats 40000000 in
theorem rmMax {l : Launch} {Z : State} {a0 : Array Value} {n0 : Nat} {h : Heap} (hw : ∀ d ∈ tables_1, d.before a0 Z = true) (hn : n0 ≤ h.size) (x1 : Int32) (x2 : Int32) (u1 u2 : Nat) (h1 : u1 < 2147483648) (h2 : u2 < 2147483648) (e1 : x1 = Int32.ofNat u1) (e2 : x2 = Int32.ofNat u2) :
    Ctr l Z n0 (⟨"java/lang/Math", "max", "(II)I"⟩ : MethodName) jdk_29_method_65_code 2 (some .int) ({ frames := 0, cells := 0, slots := 0, locals := 0 } : Room) [] #[(.int x1), (.int x2)] h (fun v h' => v = some (.int (Int32.ofNat (max u1 u2))) ∧ h = h') := by
  refine ctr_of (Jvm.Free.JP.mathPlain rfl (by decide +kernel)) hw hn ?_
  intro p e s m below meth c T X
  refine Wp.cast (ef_8 m x1 x2) ?_
  subst e1 e2
  refine w_iloadN X D8_0 rfl ?_
  refine w_iloadN X D8_1 rfl ?_
  refine w_icmplt X D8_2 (fun hc2 => ?_) (fun hc2 => ?_)
  · refine w_iloadN X D8_9 rfl ?_
    exact w_ireturn X D8_10 (by decide) (by decide) (⟨by
            have f := (ofNat_lt h1 h2).mp hc2
            rw [Nat.max_eq_right (by omega)], rfl⟩)
  · refine w_iloadN X D8_5 rfl ?_
    refine w_goto X D8_6 ?_
    exact w_ireturn X D8_10 (by decide) (by decide) (⟨by
            have f : ¬ u1 < u2 := fun z => hc2 ((ofNat_lt h1 h2).mpr z)
            rw [Nat.max_eq_left (by omega)], rfl⟩)
set_option maxRecDepth 65536 in
set_option maxHeartbeats 40000000 in
theorem loopW {Z : State} {a0 : Array Value} {n0 : Nat} {p : Program} {l : Launch} {e : Env} {R : Room} {s : State} {m : MethodId} {args : Array Value} {below : List Frame} {meth : Method} {c : Code} {k j : Nat} {Q : Option Value → Heap → Prop} (hw : ∀ d ∈ tables_1, d.before a0 Z = true) (hk : k ≤ R.cells) (hj : j ≤ R.slots) (a : Addr) (u0 : Int64) (at0 : Int32) (N : Nat) : ∀ (n A u : Nat) (g : Nat → Int32) (T : State) (h : Heap), u < 128 ^ (n + 1) → u < 9223372036854775808 → A + n < N → A + n < 1000 → Pos Z a0 n0 p l e R s m args below meth c prog_1_method_4_code 7 (some .int) (⟨"com/example/reducer/reducer/analysis/Base128", "write", "(J[BI)I"⟩ : MethodName) T h k j → Ba Z n0 h a .byte N (bI g) →
    (∀ h', Keep h h' [a] → Ba Z n0 h' a .byte N (bI (pl n g A u)) → Q (some (.int (Int32.ofNat (A + sz n u)))) h') → Wp n0 p e R s below Q T (mkF m 6 #[.val (.long u0), .second, .val (.ref a), .val (.int at0), .val (.long (Int64.ofNat u)), .second, .val (.int (Int32.ofNat A))] []) := by
  intro n
  induction n with
  | zero =>
    intro A u g T h hu hu' hA hA' X B q
    have hu1 : u < 128 := by simpa using hu
    refine w_lload X D3_6 rfl ?_
    refine w_ldc2 X D3_8 (hw _ (List.mem_of_getElem? (i := 13) rfl)) ?_
    refine w_lcmple X D3_11 D3_12 (fun hc12 => ?_) (fun hc12 => by have z1 := (nL_lt (a := 127) (by decide) hu').mp hc12; omega)
    refine w_aloadN X D3_44 rfl rfl ?_
    refine w_iload X D3_45 rfl ?_
    refine w_lload X D3_47 rfl ?_
    refine w_l2i X D3_49 ?_
    rw [n_l2i]
    refine w_i2b X D3_50 ?_
    refine w_bastore X D3_51 B A rfl (by omega) (fun T1 h1 X1 K1 B1 => ?_)
    refine w_iload X1 D3_52 rfl ?_
    refine w_iconst X1 D3_54 (v := (1 : Int32)) rfl ?_
    refine w_iadd X1 D3_55 ?_
    rw [show Int32.ofNat A + 1 = Int32.ofNat (A + 1) from n_add A 1]
    exact w_ireturn X1 D3_56 hk hj (q _ K1 B1)
  | succ n ih =>
    intro A u g T h hu hu' hA hA' X B q
    rw [Nat.pow_succ] at hu
    refine w_lload X D3_6 rfl ?_
    refine w_ldc2 X D3_8 (hw _ (List.mem_of_getElem? (i := 13) rfl)) ?_
    refine w_lcmple X D3_11 D3_12 (fun hc12 => ?_) (fun hc12 => ?_)
    · refine w_aloadN X D3_44 rfl rfl ?_
      refine w_iload X D3_45 rfl ?_
      refine w_lload X D3_47 rfl ?_
      refine w_l2i X D3_49 ?_
      rw [n_l2i]
      refine w_i2b X D3_50 ?_
      refine w_bastore X D3_51 B A rfl (by omega) (fun T1 h1 X1 K1 B1 => ?_)
      refine w_iload X1 D3_52 rfl ?_
      refine w_iconst X1 D3_54 (v := (1 : Int32)) rfl ?_
      refine w_iadd X1 D3_55 ?_
      rw [show Int32.ofNat A + 1 = Int32.ofNat (A + 1) from n_add A 1]
      exact w_ireturn X1 D3_56 hk hj (by
                have hu1 : u < 128 := Nat.lt_of_not_le fun z => hc12 ((nL_lt (a := 127) (by decide) hu').mpr (by omega))
                have q' := q _ K1
                rw [pl, if_pos hu1, sz, if_pos hu1] at q'
                exact q' B1)
    · refine w_aloadN X D3_15 rfl rfl ?_
      refine w_iload X D3_16 rfl ?_
      refine w_lload X D3_18 rfl ?_
      refine w_ldc2 X D3_20 (hw _ (List.mem_of_getElem? (i := 13) rfl)) ?_
      refine w_land X D3_23 ?_
      rw [show Int64.ofNat u &&& 127 = Int64.ofNat (u % 2 ^ 7) from nL_low u 7]
      refine w_ldc2 X D3_24 (hw _ (List.mem_of_getElem? (i := 38) rfl)) ?_
      refine w_lor X D3_27 ?_
      rw [own_more]
      refine w_l2i X D3_28 ?_
      rw [n_l2i]
      refine w_i2b X D3_29 ?_
      refine w_bastore X D3_30 B A rfl (by omega) (fun T2 h2 X2 K2 B2 => ?_)
      refine w_lload X2 D3_31 rfl ?_
      refine w_bipush X2 D3_33 (v := (7 : Int32)) rfl ?_
      refine w_lushr X2 D3_35 ?_
      refine w_lstore X2 D3_36 (l' := #[.val (.long u0), .second, .val (.ref a), .val (.int at0), .val (.long (jushrL (Int64.ofNat u) (7 : Int32))), .second, .val (.int (Int32.ofNat A))]) rfl ?_
      refine w_iinc X2 D3_38 (d := (1 : Int32)) (r := (Int32.ofNat (A + 1))) (l' := #[.val (.long u0), .second, .val (.ref a), .val (.int at0), .val (.long (jushrL (Int64.ofNat u) (7 : Int32))), .second, .val (.int (Int32.ofNat (A + 1)))]) rfl rfl (n_add _ _) rfl ?_
      refine w_goto X2 D3_41 ?_
      rw [show jushrL (Int64.ofNat u) 7 = Int64.ofNat (u / 128) from nL_ushr hu' (k := 7) (by decide)]
      have hu1 : ¬ u < 128 := fun q => by have z1 := (nL_lt (a := 127) (by decide) hu').mp hc12; omega
      refine ih (A + 1) (u / 128) _ T2 h2 (by omega) (by omega) (by omega) (by omega) X2 B2 (fun h' K B => ?_)
      have q' := q h' (K2.trans K (fun x hx => Or.inl hx))
      rw [pl, if_neg hu1, sz, if_neg hu1, show A + (sz n (u / 128) + 1) = A + 1 + sz n (u / 128) by omega] at q'
      exact q' B
theorem ef_3 (m : MethodId) (u0 : Int64) (a : Addr) (at0 : Int32) : entryFrame m #[(.long u0), (.ref a), (.int at0)] 7 = mkF m 0 #[.val (.long u0), .second, .val (.ref a), .val (.int at0), .unset, .unset, .unset] [] := by first | (simp [entryFrame, mkF, argsToLocals, Value.category]; done) | rfl
theorem pn_3 : plainName "com/example/reducer/reducer/analysis/Base128" = true := by first | (simp [plainName, overriddenIn]; done) | decide +kernel
set_option maxRecDepth 65536 in
set_option maxHeartbeats 40000000 in
theorem rmW {l : Launch} {Z : State} {a0 : Array Value} {n0 : Nat} {h : Heap} (hw : ∀ d ∈ tables_1, d.before a0 Z = true) (hn : n0 ≤ h.size) (u0 : Int64) (a : Addr) (at0 : Int32) (A u : Nat) (g : Nat → Int32) (eu : u0 = Int64.ofNat u) (eA : at0 = Int32.ofNat A) (hA : A < 4) (hu : u < 9223372036854775808) (B : Ba Z n0 h a .byte 16 (bI g)) :
    Ctr l Z n0 (⟨"com/example/reducer/reducer/analysis/Base128", "write", "(J[BI)I"⟩ : MethodName) prog_1_method_4_code 7 (some .int) ({ frames := 0, cells := 0, slots := 0, locals := 0 } : Room) [] #[(.long u0), (.ref a), (.int at0)] h (fun v h' => v = some (.int (Int32.ofNat (A + sz 8 u))) ∧ Keep h h' [a] ∧ Ba Z n0 h' a .byte 16 (bI (pl 8 g A u))) := by
  refine ctr_of (plainFor_of_name pn_3) hw hn ?_
  intro p e s m below meth c T X
  refine Wp.cast (ef_3 m u0 a at0) ?_
  subst eA eu
  refine w_lloadN X D3_0 rfl ?_
  refine w_lstore X D3_1 (l' := #[.val (.long (Int64.ofNat u)), .second, .val (.ref a), .val (.int (Int32.ofNat A)), .val (.long (Int64.ofNat u)), .second, .unset]) rfl ?_
  refine w_iloadN X D3_3 rfl ?_
  refine w_istore X D3_4 (l' := #[.val (.long (Int64.ofNat u)), .second, .val (.ref a), .val (.int (Int32.ofNat A)), .val (.long (Int64.ofNat u)), .second, .val (.int (Int32.ofNat A))]) rfl ?_
  exact loopW hw (by decide) (by decide) a _ _ 16 8 A u g T h (by omega) hu (by omega) (by omega) X B (fun h' K B => ⟨rfl, K, B⟩)
set_option maxRecDepth 65536 in
set_option maxHeartbeats 40000000 in
theorem loopS {Z : State} {a0 : Array Value} {n0 : Nat} {p : Program} {l : Launch} {e : Env} {R : Room} {s : State} {m : MethodId} {args : Array Value} {below : List Frame} {meth : Method} {c : Code} {k j : Nat} {Q : Option Value → Heap → Prop} (lf rt df : Addr) (la0 rb0 : Int32) (LF RF AT Nl Nr a b : Nat) (gl gr g : Nat → Int32) (hLF : LF + Nl ≤ 16) (hRF : RF + Nr ≤ 16) (hAT : AT + Nl ≤ 16) (hl : ∀ k, k < Nl → d7 (gl (LF + k)) = dgt a k) (hr : ∀ k, k < Nr → d7 (gr (RF + k)) = dgt b k) (hz : ∀ k, Nr ≤ k → dgt b k = 0) (n1 : lf ≠ df) (n2 : rt ≠ df) : ∀ r i (T : State) (h : Heap) (s12 : Slot), i + r = Nl → Jvm.RoadKit.One s12 → Pos Z a0 n0 p l e R s m args below meth c prog_1_method_11_code 13 (some .int) (⟨"com/example/reducer/reducer/analysis/Base128", "subtract", "([BII[BII[BI)I"⟩ : MethodName) T h k j → Ba Z n0 h lf .byte 16 (bI gl) → Ba Z n0 h rt .byte 16 (bI gr) → Ba Z n0 h df .byte 16 (bI (gd a b AT g i)) →
    (∀ T' h' i' s', Pos Z a0 n0 p l e R s m args below meth c prog_1_method_11_code 13 (some .int) (⟨"com/example/reducer/reducer/analysis/Base128", "subtract", "([BII[BII[BI)I"⟩ : MethodName) T' h' k j → Ba Z n0 h' df .byte 16 (bI (gd a b AT g Nl)) → Jvm.RoadKit.One s' → Wp n0 p e R s below Q T' (mkF m 99 #[.val (.ref lf), .val (.int (Int32.ofNat LF)), .val (.int la0), .val (.ref rt), .val (.int (Int32.ofNat RF)), .val (.int rb0), .val (.ref df), .val (.int (Int32.ofNat AT)), .val (.int (Int32.ofNat Nl)), .val (.int (Int32.ofNat Nr)), .val (.int (Int32.ofNat (bo a b Nl))), .val (.int i'), s'] [])) → Wp n0 p e R s below Q T (mkF m 18 #[.val (.ref lf), .val (.int (Int32.ofNat LF)), .val (.int la0), .val (.ref rt), .val (.int (Int32.ofNat RF)), .val (.int rb0), .val (.ref df), .val (.int (Int32.ofNat AT)), .val (.int (Int32.ofNat Nl)), .val (.int (Int32.ofNat Nr)), .val (.int (Int32.ofNat (bo a b i))), .val (.int (Int32.ofNat i)), s12] []) := by
  intro r
  induction r with
  | zero =>
    intro i T h s12 hi h_s12 X Bl Br Bd q
    obtain rfl : i = Nl := by omega
    refine w_iload X D4_18 rfl ?_
    refine w_iload X D4_20 rfl ?_
    refine w_icmpge X D4_22 (fun hc22 => ?_) (fun hc22 => by exact absurd hc22 (Int32.lt_irrefl))
    exact q _ _ _ _ X Bd h_s12
  | succ r ih =>
    intro i T h s12 hi h_s12 X Bl Br Bd q
    have hA := dgt_lt a i
    have hB := dgt_lt b i
    have hbo := bo_le a b i
    have hed := ed_eq a b i
    refine w_iload X D4_18 rfl ?_
    refine w_iload X D4_20 rfl ?_
    refine w_icmpge X D4_22 (fun hc22 => by have z : ¬ i < Nl := (fun z => hc22 ((ofNat_lt (by omega) (by omega)).mpr z)); omega) (fun hc22 => ?_)
    refine w_aloadN X D4_25 rfl rfl ?_
    refine w_iloadN X D4_26 rfl ?_
    refine w_iload X D4_27 rfl ?_
    refine w_iadd X D4_29 ?_
    refine w_baload X D4_30 Bl (LF + i) (n_add LF i) (by omega) ?_
    refine w_bipush X D4_31 (v := (127 : Int32)) rfl ?_
    refine w_iand X D4_33 ?_
    rw [and127, hl i (by omega)]
    refine w_iload X D4_34 rfl ?_
    refine w_isub X D4_36 ?_
    refine w_istoreS X D4_37 (l' := #[.val (.ref lf), .val (.int (Int32.ofNat LF)), .val (.int la0), .val (.ref rt), .val (.int (Int32.ofNat RF)), .val (.int rb0), .val (.ref df), .val (.int (Int32.ofNat AT)), .val (.int (Int32.ofNat Nl)), .val (.int (Int32.ofNat Nr)), .val (.int (Int32.ofNat (bo a b i))), .val (.int (Int32.ofNat i)), .val (.int ((Int32.ofNat (dgt a i)) - (Int32.ofNat (bo a b i))))]) rfl h_s12 rfl ?_
    refine w_iload X D4_39 rfl ?_
    refine w_iload X D4_41 rfl ?_
    refine w_icmpge X D4_43 (fun hc43 => ?_) (fun hc43 => ?_)
    · have hiN : Nr ≤ i := Nat.le_of_not_lt fun z => hc43 ((ofNat_lt (by omega) (by omega)).mpr z)
      rw [show Int32.ofNat (dgt a i) - Int32.ofNat (bo a b i) = (Int32.ofNat (dgt a i) - Int32.ofNat (bo a b i) - Int32.ofNat (dgt b i)) by rw [hz i hiN]; exact (Int32.sub_zero _).symm]
      refine w_iconst X D4_61 (v := (0 : Int32)) rfl ?_
      refine w_istore X D4_62 (l' := #[.val (.ref lf), .val (.int (Int32.ofNat LF)), .val (.int la0), .val (.ref rt), .val (.int (Int32.ofNat RF)), .val (.int rb0), .val (.ref df), .val (.int (Int32.ofNat AT)), .val (.int (Int32.ofNat Nl)), .val (.int (Int32.ofNat Nr)), .val (.int (0 : Int32)), .val (.int (Int32.ofNat i)), .val (.int (Int32.ofNat (dgt a i) - Int32.ofNat (bo a b i) - Int32.ofNat (dgt b i)))]) rfl ?_
      refine w_iload X D4_64 rfl ?_
      refine w_ifge X D4_66 (fun hc66 => ?_) (fun hc66 => ?_)
      · have hneg : ¬ (Int32.ofNat (dgt a i) - Int32.ofNat (bo a b i) - Int32.ofNat (dgt b i)).toInt < 0 := fun z => hc66 (neg_iff.mpr z)
        rw [own_sub (by omega) (by omega) (by omega)] at hneg
        have hb1 : bo a b (i + 1) = 0 := by rw [bo, if_neg (by omega)]
        rw [show (Int32.ofNat (dgt a i) - Int32.ofNat (bo a b i) - Int32.ofNat (dgt b i)) = Int32.ofNat (ed a b i) from eq_ofNat (by omega) (by rw [own_sub (by omega) (by omega) (by omega)]; omega)]
        rw [show (0 : Int32) = Int32.ofNat (bo a b (i + 1)) by rw [hb1]; rfl]
        refine w_aload X D4_78 rfl rfl ?_
        refine w_iload X D4_80 rfl ?_
        refine w_iload X D4_82 rfl ?_
        refine w_iadd X D4_84 ?_
        refine w_iload X D4_85 rfl ?_
        refine w_sipush X D4_87 (v := (128 : Int32)) rfl ?_
        refine w_ior X D4_90 ?_
        refine w_i2b X D4_91 ?_
        refine w_bastore X D4_92 Bd (AT + i) (n_add AT i) (by omega) (fun T1 h1 X1 K1 B1 => ?_)
        have Bl_K1 := Bl.keep K1 ((ninS n1 nin0))
        have Br_K1 := Br.keep K1 ((ninS n2 nin0))
        refine w_iinc X1 D4_93 (d := (1 : Int32)) (r := (Int32.ofNat (i + 1))) (l' := #[.val (.ref lf), .val (.int (Int32.ofNat LF)), .val (.int la0), .val (.ref rt), .val (.int (Int32.ofNat RF)), .val (.int rb0), .val (.ref df), .val (.int (Int32.ofNat AT)), .val (.int (Int32.ofNat Nl)), .val (.int (Int32.ofNat Nr)), .val (.int (Int32.ofNat (bo a b (i + 1)))), .val (.int (Int32.ofNat (i + 1))), .val (.int (Int32.ofNat (ed a b i)))]) rfl rfl (n_add _ _) rfl ?_
        refine w_goto X1 D4_96 ?_
        exact ih (i + 1) _ _ _ (by omega) (One.val rfl) X1 Bl_K1 Br_K1 B1 q
      · have hneg := neg_iff.mp hc66
        rw [own_sub (by omega) (by omega) (by omega)] at hneg
        have hb1 : bo a b (i + 1) = 1 := by rw [bo, if_pos (by omega)]
        refine w_wiinc X D4_69 (d := (128 : Int32)) (r := (Int32.ofNat (ed a b i))) (l' := #[.val (.ref lf), .val (.int (Int32.ofNat LF)), .val (.int la0), .val (.ref rt), .val (.int (Int32.ofNat RF)), .val (.int rb0), .val (.ref df), .val (.int (Int32.ofNat AT)), .val (.int (Int32.ofNat Nl)), .val (.int (Int32.ofNat Nr)), .val (.int (0 : Int32)), .val (.int (Int32.ofNat i)), .val (.int (Int32.ofNat (ed a b i)))]) rfl rfl (by
                refine eq_ofNat (by omega) ?_
                have z1 := c_iadd (Int32.ofNat (dgt a i) - Int32.ofNat (bo a b i) - Int32.ofNat (dgt b i)) 128
                have z2 := rng32 ((Int32.ofNat (dgt a i) - Int32.ofNat (bo a b i) - Int32.ofNat (dgt b i)) + 128)
                rw [own_sub (by omega) (by omega) (by omega), show (128 : Int32).toInt = 128 from rfl] at z1
                omega) rfl ?_
        refine w_iconst X D4_75 (v := (1 : Int32)) rfl ?_
        refine w_istore X D4_76 (l' := #[.val (.ref lf), .val (.int (Int32.ofNat LF)), .val (.int la0), .val (.ref rt), .val (.int (Int32.ofNat RF)), .val (.int rb0), .val (.ref df), .val (.int (Int32.ofNat AT)), .val (.int (Int32.ofNat Nl)), .val (.int (Int32.ofNat Nr)), .val (.int (1 : Int32)), .val (.int (Int32.ofNat i)), .val (.int (Int32.ofNat (ed a b i)))]) rfl ?_
        rw [show (1 : Int32) = Int32.ofNat (bo a b (i + 1)) by rw [hb1]; rfl]
        refine w_aload X D4_78 rfl rfl ?_
        refine w_iload X D4_80 rfl ?_
        refine w_iload X D4_82 rfl ?_
        refine w_iadd X D4_84 ?_
        refine w_iload X D4_85 rfl ?_
        refine w_sipush X D4_87 (v := (128 : Int32)) rfl ?_
        refine w_ior X D4_90 ?_
        refine w_i2b X D4_91 ?_
        refine w_bastore X D4_92 Bd (AT + i) (n_add AT i) (by omega) (fun T2 h2 X2 K2 B2 => ?_)
        have Bl_K2 := Bl.keep K2 ((ninS n1 nin0))
        have Br_K2 := Br.keep K2 ((ninS n2 nin0))
        refine w_iinc X2 D4_93 (d := (1 : Int32)) (r := (Int32.ofNat (i + 1))) (l' := #[.val (.ref lf), .val (.int (Int32.ofNat LF)), .val (.int la0), .val (.ref rt), .val (.int (Int32.ofNat RF)), .val (.int rb0), .val (.ref df), .val (.int (Int32.ofNat AT)), .val (.int (Int32.ofNat Nl)), .val (.int (Int32.ofNat Nr)), .val (.int (Int32.ofNat (bo a b (i + 1)))), .val (.int (Int32.ofNat (i + 1))), .val (.int (Int32.ofNat (ed a b i)))]) rfl rfl (n_add _ _) rfl ?_
        refine w_goto X2 D4_96 ?_
        exact ih (i + 1) _ _ _ (by omega) (One.val rfl) X2 Bl_K2 Br_K2 B2 q
    · have hiN : i < Nr := (ofNat_lt (by omega) (by omega)).mp hc43
      refine w_iload X D4_46 rfl ?_
      refine w_aloadN X D4_48 rfl rfl ?_
      refine w_iload X D4_49 rfl ?_
      refine w_iload X D4_51 rfl ?_
      refine w_iadd X D4_53 ?_
      refine w_baload X D4_54 Br (RF + i) (n_add RF i) (by omega) ?_
      refine w_bipush X D4_55 (v := (127 : Int32)) rfl ?_
      refine w_iand X D4_57 ?_
      rw [and127, hr i hiN]
      refine w_isub X D4_58 ?_
      refine w_istore X D4_59 (l' := #[.val (.ref lf), .val (.int (Int32.ofNat LF)), .val (.int la0), .val (.ref rt), .val (.int (Int32.ofNat RF)), .val (.int rb0), .val (.ref df), .val (.int (Int32.ofNat AT)), .val (.int (Int32.ofNat Nl)), .val (.int (Int32.ofNat Nr)), .val (.int (Int32.ofNat (bo a b i))), .val (.int (Int32.ofNat i)), .val (.int (((Int32.ofNat (dgt a i)) - (Int32.ofNat (bo a b i))) - (Int32.ofNat (dgt b i))))]) rfl ?_
      refine w_iconst X D4_61 (v := (0 : Int32)) rfl ?_
      refine w_istore X D4_62 (l' := #[.val (.ref lf), .val (.int (Int32.ofNat LF)), .val (.int la0), .val (.ref rt), .val (.int (Int32.ofNat RF)), .val (.int rb0), .val (.ref df), .val (.int (Int32.ofNat AT)), .val (.int (Int32.ofNat Nl)), .val (.int (Int32.ofNat Nr)), .val (.int (0 : Int32)), .val (.int (Int32.ofNat i)), .val (.int (((Int32.ofNat (dgt a i)) - (Int32.ofNat (bo a b i))) - (Int32.ofNat (dgt b i))))]) rfl ?_
      refine w_iload X D4_64 rfl ?_
      refine w_ifge X D4_66 (fun hc66 => ?_) (fun hc66 => ?_)
      · have hneg : ¬ (Int32.ofNat (dgt a i) - Int32.ofNat (bo a b i) - Int32.ofNat (dgt b i)).toInt < 0 := fun z => hc66 (neg_iff.mpr z)
        rw [own_sub (by omega) (by omega) (by omega)] at hneg
        have hb1 : bo a b (i + 1) = 0 := by rw [bo, if_neg (by omega)]
        rw [show (Int32.ofNat (dgt a i) - Int32.ofNat (bo a b i) - Int32.ofNat (dgt b i)) = Int32.ofNat (ed a b i) from eq_ofNat (by omega) (by rw [own_sub (by omega) (by omega) (by omega)]; omega)]
        rw [show (0 : Int32) = Int32.ofNat (bo a b (i + 1)) by rw [hb1]; rfl]
        refine w_aload X D4_78 rfl rfl ?_
        refine w_iload X D4_80 rfl ?_
        refine w_iload X D4_82 rfl ?_
        refine w_iadd X D4_84 ?_
        refine w_iload X D4_85 rfl ?_
        refine w_sipush X D4_87 (v := (128 : Int32)) rfl ?_
        refine w_ior X D4_90 ?_
        refine w_i2b X D4_91 ?_
        refine w_bastore X D4_92 Bd (AT + i) (n_add AT i) (by omega) (fun T3 h3 X3 K3 B3 => ?_)
        have Bl_K3 := Bl.keep K3 ((ninS n1 nin0))
        have Br_K3 := Br.keep K3 ((ninS n2 nin0))
        refine w_iinc X3 D4_93 (d := (1 : Int32)) (r := (Int32.ofNat (i + 1))) (l' := #[.val (.ref lf), .val (.int (Int32.ofNat LF)), .val (.int la0), .val (.ref rt), .val (.int (Int32.ofNat RF)), .val (.int rb0), .val (.ref df), .val (.int (Int32.ofNat AT)), .val (.int (Int32.ofNat Nl)), .val (.int (Int32.ofNat Nr)), .val (.int (Int32.ofNat (bo a b (i + 1)))), .val (.int (Int32.ofNat (i + 1))), .val (.int (Int32.ofNat (ed a b i)))]) rfl rfl (n_add _ _) rfl ?_
        refine w_goto X3 D4_96 ?_
        exact ih (i + 1) _ _ _ (by omega) (One.val rfl) X3 Bl_K3 Br_K3 B3 q
      · have hneg := neg_iff.mp hc66
        rw [own_sub (by omega) (by omega) (by omega)] at hneg
        have hb1 : bo a b (i + 1) = 1 := by rw [bo, if_pos (by omega)]
        refine w_wiinc X D4_69 (d := (128 : Int32)) (r := (Int32.ofNat (ed a b i))) (l' := #[.val (.ref lf), .val (.int (Int32.ofNat LF)), .val (.int la0), .val (.ref rt), .val (.int (Int32.ofNat RF)), .val (.int rb0), .val (.ref df), .val (.int (Int32.ofNat AT)), .val (.int (Int32.ofNat Nl)), .val (.int (Int32.ofNat Nr)), .val (.int (0 : Int32)), .val (.int (Int32.ofNat i)), .val (.int (Int32.ofNat (ed a b i)))]) rfl rfl (by
                refine eq_ofNat (by omega) ?_
                have z1 := c_iadd (Int32.ofNat (dgt a i) - Int32.ofNat (bo a b i) - Int32.ofNat (dgt b i)) 128
                have z2 := rng32 ((Int32.ofNat (dgt a i) - Int32.ofNat (bo a b i) - Int32.ofNat (dgt b i)) + 128)
                rw [own_sub (by omega) (by omega) (by omega), show (128 : Int32).toInt = 128 from rfl] at z1
                omega) rfl ?_
        refine w_iconst X D4_75 (v := (1 : Int32)) rfl ?_
        refine w_istore X D4_76 (l' := #[.val (.ref lf), .val (.int (Int32.ofNat LF)), .val (.int la0), .val (.ref rt), .val (.int (Int32.ofNat RF)), .val (.int rb0), .val (.ref df), .val (.int (Int32.ofNat AT)), .val (.int (Int32.ofNat Nl)), .val (.int (Int32.ofNat Nr)), .val (.int (1 : Int32)), .val (.int (Int32.ofNat i)), .val (.int (Int32.ofNat (ed a b i)))]) rfl ?_
        rw [show (1 : Int32) = Int32.ofNat (bo a b (i + 1)) by rw [hb1]; rfl]
        refine w_aload X D4_78 rfl rfl ?_
        refine w_iload X D4_80 rfl ?_
        refine w_iload X D4_82 rfl ?_
        refine w_iadd X D4_84 ?_
        refine w_iload X D4_85 rfl ?_
        refine w_sipush X D4_87 (v := (128 : Int32)) rfl ?_
        refine w_ior X D4_90 ?_
        refine w_i2b X D4_91 ?_
        refine w_bastore X D4_92 Bd (AT + i) (n_add AT i) (by omega) (fun T4 h4 X4 K4 B4 => ?_)
        have Bl_K4 := Bl.keep K4 ((ninS n1 nin0))
        have Br_K4 := Br.keep K4 ((ninS n2 nin0))
        refine w_iinc X4 D4_93 (d := (1 : Int32)) (r := (Int32.ofNat (i + 1))) (l' := #[.val (.ref lf), .val (.int (Int32.ofNat LF)), .val (.int la0), .val (.ref rt), .val (.int (Int32.ofNat RF)), .val (.int rb0), .val (.ref df), .val (.int (Int32.ofNat AT)), .val (.int (Int32.ofNat Nl)), .val (.int (Int32.ofNat Nr)), .val (.int (Int32.ofNat (bo a b (i + 1)))), .val (.int (Int32.ofNat (i + 1))), .val (.int (Int32.ofNat (ed a b i)))]) rfl rfl (n_add _ _) rfl ?_
        refine w_goto X4 D4_96 ?_
        exact ih (i + 1) _ _ _ (by omega) (One.val rfl) X4 Bl_K4 Br_K4 B4 q
set_option maxRecDepth 65536 in
set_option maxHeartbeats 40000000 in
theorem loopT {Z : State} {a0 : Array Value} {n0 : Nat} {p : Program} {l : Launch} {e : Env} {R : Room} {s : State} {m : MethodId} {args : Array Value} {below : List Frame} {meth : Method} {c : Code} {T : State} {h : Heap} {k j : Nat} {Q : Option Value → Heap → Prop} (X : Pos Z a0 n0 p l e R s m args below meth c prog_1_method_11_code 13 (some .int) (⟨"com/example/reducer/reducer/analysis/Base128", "subtract", "([BII[BII[BI)I"⟩ : MethodName) T h k j) (lf rt df : Addr) (la0 rb0 bz : Int32) (LF RF AT Nl Nr a b : Nat) (g : Nat → Int32) (s12 : Slot) (hAT : AT + Nl ≤ 16) (Bd : Ba Z n0 h df .byte 16 (bI (gd a b AT g Nl))) : ∀ t, t + 1 ≤ Nl → Wp n0 p e R s below Q T (mkF m 131 #[.val (.ref lf), .val (.int (Int32.ofNat LF)), .val (.int la0), .val (.ref rt), .val (.int (Int32.ofNat RF)), .val (.int rb0), .val (.ref df), .val (.int (Int32.ofNat AT)), .val (.int (Int32.ofNat Nl)), .val (.int (Int32.ofNat Nr)), .val (.int bz), .val (.int (Int32.ofNat (tr a b (t + 1)))), s12] []) → Wp n0 p e R s below Q T (mkF m 103 #[.val (.ref lf), .val (.int (Int32.ofNat LF)), .val (.int la0), .val (.ref rt), .val (.int (Int32.ofNat RF)), .val (.int rb0), .val (.ref df), .val (.int (Int32.ofNat AT)), .val (.int (Int32.ofNat Nl)), .val (.int (Int32.ofNat Nr)), .val (.int bz), .val (.int (Int32.ofNat (t + 1))), s12] []) := by
  intro t
  induction t with
  | zero =>
    intro ht q
    refine w_iload X D4_103 rfl ?_
    refine w_iconst X D4_105 (v := (1 : Int32)) rfl ?_
    refine w_icmple X D4_106 (fun hc106 => ?_) (fun hc106 => by exact absurd hc106 (by decide))
    exact q
  | succ t ih =>
    intro ht q
    refine w_iload X D4_103 rfl ?_
    refine w_iconst X D4_105 (v := (1 : Int32)) rfl ?_
    refine w_icmple X D4_106 (fun hc106 => by exact absurd ((ofNat_lt (a := 1) (by decide) (by omega)).mpr (by omega)) hc106) (fun hc106 => ?_)
    refine w_aload X D4_109 rfl rfl ?_
    refine w_iload X D4_111 rfl ?_
    refine w_iload X D4_113 rfl ?_
    refine w_iadd X D4_115 ?_
    refine w_iconst X D4_116 (v := (1 : Int32)) rfl ?_
    refine w_isub X D4_117 ?_
    refine w_baload X D4_118 Bd (AT + (t + 1)) (by rw [n_add]; exact n_sub (b := 1) (by omega)) (by omega) ?_
    refine w_bipush X D4_119 (v := (127 : Int32)) rfl ?_
    refine w_iand X D4_121 ?_
    rw [and127, d7_gd a b AT g Nl (t + 1) (by omega)]
    refine w_ifne X D4_122 (fun hc122 => ?_) (fun hc122 => ?_)
    · have e1 : ¬ ed a b (t + 1) = 0 := fun z => hc122 (by rw [z]; rfl)
      rw [tr, if_neg e1] at q
      exact q
    · refine w_iinc X D4_125 (d := (-1 : Int32)) (r := (Int32.ofNat (t + 1))) (l' := #[.val (.ref lf), .val (.int (Int32.ofNat LF)), .val (.int la0), .val (.ref rt), .val (.int (Int32.ofNat RF)), .val (.int rb0), .val (.ref df), .val (.int (Int32.ofNat AT)), .val (.int (Int32.ofNat Nl)), .val (.int (Int32.ofNat Nr)), .val (.int bz), .val (.int (Int32.ofNat (t + 1))), s12]) rfl rfl ((Int32.sub_eq_add_neg _ _).symm.trans (n_sub (b := 1) (by omega))) rfl ?_
      refine w_goto X D4_128 ?_
      have e1 : ed a b (t + 1) = 0 := (n_inj (b := 0) (by have := (ed_eq a b (t + 1)).2; omega) (by decide)).mp hc122
      rw [tr, if_pos e1] at q
      exact ih (by omega) q
theorem ef_4 (m : MethodId) (lf : Addr) (lf0 : Int32) (la0 : Int32) (rt : Addr) (rf0 : Int32) (rb0 : Int32) (df : Addr) (at0 : Int32) : entryFrame m #[(.ref lf), (.int lf0), (.int la0), (.ref rt), (.int rf0), (.int rb0), (.ref df), (.int at0)] 13 = mkF m 0 #[.val (.ref lf), .val (.int lf0), .val (.int la0), .val (.ref rt), .val (.int rf0), .val (.int rb0), .val (.ref df), .val (.int at0), .unset, .unset, .unset, .unset, .unset] [] := by first | (simp [entryFrame, mkF, argsToLocals, Value.category]; done) | rfl
theorem pn_4 : plainName "com/example/reducer/reducer/analysis/Base128" = true := by first | (simp [plainName, overriddenIn]; done) | decide +kernel
set_option maxRecDepth 65536 in
set_option maxHeartbeats 40000000 in
theorem rmS {l : Launch} {Z : State} {a0 : Array Value} {n0 : Nat} {h : Heap} (hw : ∀ d ∈ tables_1, d.before a0 Z = true) (hn : n0 ≤ h.size) (lf : Addr) (lf0 : Int32) (la0 : Int32) (rt : Addr) (rf0 : Int32) (rb0 : Int32) (df : Addr) (at0 : Int32) (LF RF AT Nl Nr a b : Nat) (gl gr g : Nat → Int32) (hLF : LF + Nl ≤ 16) (hRF : RF + Nr ≤ 16) (hAT : AT + Nl ≤ 16) (hl : ∀ k, k < Nl → d7 (gl (LF + k)) = dgt a k) (hr : ∀ k, k < Nr → d7 (gr (RF + k)) = dgt b k) (hz : ∀ k, Nr ≤ k → dgt b k = 0) (n1 : lf ≠ df) (n2 : rt ≠ df) (e1 : lf0 = Int32.ofNat LF) (e2 : la0 = Int32.ofNat (LF + Nl)) (e3 : rf0 = Int32.ofNat RF) (e4 : rb0 = Int32.ofNat (RF + Nr)) (e5 : at0 = Int32.ofNat AT) (hN : 1 ≤ Nl) (Bl : Ba Z n0 h lf .byte 16 (bI gl)) (Br : Ba Z n0 h rt .byte 16 (bI gr)) (Bd : Ba Z n0 h df .byte 16 (bI g)) :
    Ctr l Z n0 (⟨"com/example/reducer/reducer/analysis/Base128", "subtract", "([BII[BII[BI)I"⟩ : MethodName) prog_1_method_11_code 13 (some .int) ({ frames := 0, cells := 0, slots := 0, locals := 0 } : Room) [] #[(.ref lf), (.int lf0), (.int la0), (.ref rt), (.int rf0), (.int rb0), (.ref df), (.int at0)] h (fun v h' => v = some (.int (Int32.ofNat (AT + tr a b Nl))) ∧ Ba Z n0 h' df .byte 16 (bI (gz a b AT Nl g))) := by
  refine ctr_of (plainFor_of_name pn_4) hw hn ?_
  intro p e s m below meth c T X
  refine Wp.cast (ef_4 m lf lf0 la0 rt rf0 rb0 df at0) ?_
  subst e1 e2 e3 e4 e5
  refine w_iloadN X D4_0 rfl ?_
  refine w_iloadN X D4_1 rfl ?_
  refine w_isub X D4_2 ?_
  rw [show Int32.ofNat (LF + Nl) - Int32.ofNat LF = Int32.ofNat Nl from (n_sub (by omega)).trans (by congr 1; omega)]
  refine w_istore X D4_3 (l' := #[.val (.ref lf), .val (.int (Int32.ofNat LF)), .val (.int (Int32.ofNat (LF + Nl))), .val (.ref rt), .val (.int (Int32.ofNat RF)), .val (.int (Int32.ofNat (RF + Nr))), .val (.ref df), .val (.int (Int32.ofNat AT)), .val (.int (Int32.ofNat Nl)), .unset, .unset, .unset, .unset]) rfl ?_
  refine w_iload X D4_5 rfl ?_
  refine w_iload X D4_7 rfl ?_
  refine w_isub X D4_9 ?_
  rw [show Int32.ofNat (RF + Nr) - Int32.ofNat RF = Int32.ofNat Nr from (n_sub (by omega)).trans (by congr 1; omega)]
  refine w_istore X D4_10 (l' := #[.val (.ref lf), .val (.int (Int32.ofNat LF)), .val (.int (Int32.ofNat (LF + Nl))), .val (.ref rt), .val (.int (Int32.ofNat RF)), .val (.int (Int32.ofNat (RF + Nr))), .val (.ref df), .val (.int (Int32.ofNat AT)), .val (.int (Int32.ofNat Nl)), .val (.int (Int32.ofNat Nr)), .unset, .unset, .unset]) rfl ?_
  refine w_iconst X D4_12 (v := (0 : Int32)) rfl ?_
  refine w_istore X D4_13 (l' := #[.val (.ref lf), .val (.int (Int32.ofNat LF)), .val (.int (Int32.ofNat (LF + Nl))), .val (.ref rt), .val (.int (Int32.ofNat RF)), .val (.int (Int32.ofNat (RF + Nr))), .val (.ref df), .val (.int (Int32.ofNat AT)), .val (.int (Int32.ofNat Nl)), .val (.int (Int32.ofNat Nr)), .val (.int (0 : Int32)), .unset, .unset]) rfl ?_
  refine w_iconst X D4_15 (v := (0 : Int32)) rfl ?_
  refine w_istore X D4_16 (l' := #[.val (.ref lf), .val (.int (Int32.ofNat LF)), .val (.int (Int32.ofNat (LF + Nl))), .val (.ref rt), .val (.int (Int32.ofNat RF)), .val (.int (Int32.ofNat (RF + Nr))), .val (.ref df), .val (.int (Int32.ofNat AT)), .val (.int (Int32.ofNat Nl)), .val (.int (Int32.ofNat Nr)), .val (.int (0 : Int32)), .val (.int (0 : Int32)), .unset]) rfl ?_
  refine loopS lf rt df _ _ LF RF AT Nl Nr a b gl gr g hLF hRF hAT hl hr hz n1 n2 Nl 0 _ _ _ (by omega) One.u X Bl Br Bd (fun T9 h9 i9 s9 X9 B9 o9 => ?_)
  refine w_iload X9 D4_99 rfl ?_
  refine w_istore X9 D4_101 (l' := #[.val (.ref lf), .val (.int (Int32.ofNat LF)), .val (.int (Int32.ofNat (LF + Nl))), .val (.ref rt), .val (.int (Int32.ofNat RF)), .val (.int (Int32.ofNat (RF + Nr))), .val (.ref df), .val (.int (Int32.ofNat AT)), .val (.int (Int32.ofNat Nl)), .val (.int (Int32.ofNat Nr)), .val (.int (Int32.ofNat (bo a b Nl))), .val (.int (Int32.ofNat Nl)), s9]) rfl ?_
  obtain ⟨t, rfl⟩ : ∃ t, Nl = t + 1 := ⟨Nl - 1, by omega⟩
  refine loopT X9 lf rt df _ _ _ LF RF AT (t + 1) Nr a b g s9 hAT B9 t (Nat.le_refl _) ?_
  have htr := tr_spec a b (t + 1) (by omega)
  refine w_aload X9 D4_131 rfl rfl ?_
  refine w_iload X9 D4_133 rfl ?_
  refine w_iload X9 D4_135 rfl ?_
  refine w_iadd X9 D4_137 ?_
  refine w_iconst X9 D4_138 (v := (1 : Int32)) rfl ?_
  refine w_isub X9 D4_139 ?_
  refine w_dup2 X9 D4_140 rfl rfl ?_
  refine w_baload X9 D4_141 B9 (AT + (tr a b (t + 1)) - 1) (by rw [n_add]; exact n_sub (b := 1) (by omega)) (by omega) ?_
  refine w_bipush X9 D4_142 (v := (127 : Int32)) rfl ?_
  refine w_iand X9 D4_144 ?_
  rw [and127, show AT + (tr a b (t + 1)) - 1 = AT + ((tr a b (t + 1)) - 1) by omega, d7_gd a b AT g (t + 1) _ (by omega)]
  refine w_i2b X9 D4_145 ?_
  refine w_bastore X9 D4_146 B9 (AT + (tr a b (t + 1)) - 1) (by rw [n_add]; exact n_sub (b := 1) (by omega)) (by omega) (fun T21 h21 X21 K21 B21 => ?_)
  refine w_iload X21 D4_147 rfl ?_
  refine w_iload X21 D4_149 rfl ?_
  refine w_iadd X21 D4_151 ?_
  rw [n_add]
  exact w_ireturn X21 D4_152 (by decide) (by decide) (⟨rfl, B21⟩)
theorem ef_7 (m : MethodId) (x1 : Int32) : entryFrame m #[(.int x1)] 2 = mkF m 0 #[.val (.int x1), .unset] [] := by first | (simp [entryFrame, mkF, argsToLocals, Value.category]; done) | rfl
theorem pn_7 : plainName "java/lang/Integer" = true := by first | (simp [plainName, overriddenIn]; done) | decide +kernel
set_option maxRecDepth 65536 in
set_option maxHeartbeats 40000000 in
theorem rmZ {l : Launch} {Z : State} {a0 : Array Value} {n0 : Nat} {h : Heap} (hw : ∀ d ∈ tables_1, d.before a0 Z = true) (hn : n0 ≤ h.size) (x1 : Int32) (u bl : Nat) (e1 : x1 = Int32.ofNat u) (hu : u < 4294967296) (h1 : u < 2 ^ bl) (h2 : bl = 0 ∨ 2 ^ (bl - 1) ≤ u) :
    Ctr l Z n0 (⟨"java/lang/Integer", "numberOfLeadingZeros", "(I)I"⟩ : MethodName) jdk_33_method_47_code 2 (some .int) ({ frames := 0, cells := 0, slots := 0, locals := 0 } : Room) [] #[(.int x1)] h (fun v h' => v = some (.int (Int32.ofNat (32 - bl))) ∧ h = h') := by
  refine ctr_of (plainFor_of_name pn_7) hw hn ?_
  intro p e s m below meth c T X
  refine Wp.cast (ef_7 m x1) ?_
  subst e1
  by_cases hp : u < 2147483648
  · refine w_iloadN X D7_0 rfl ?_
    refine w_ifgt X D7_1 (fun hc1 => ?_) (fun hc1 => ?_)
    · refine w_bipush X D7_15 (v := (31 : Int32)) rfl ?_
      refine w_istoreN X D7_17 (l' := #[.val (.int (Int32.ofNat u)), .val (.int (31 : Int32))]) rfl ?_
      have Fp : 0 < u := by have z := Int32.lt_iff_toInt_lt.mp hc1; rw [ofNat_toInt hp, show (0 : Int32).toInt = 0 from rfl] at z; omega
      refine w_iloadN X D7_18 rfl ?_
      refine w_ldcw X D7_19 (hw _ (List.mem_of_getElem? (i := 28) rfl)) ?_
      refine w_icmplt X D7_22 (fun hc22 => ?_) (fun hc22 => ?_)
      · have F22 : u < 65536 := (ofNat_lt (b := 65536) (by omega) (by decide)).mp hc22
        refine w_iloadN X D7_33 rfl ?_
        refine w_sipush X D7_34 (v := (256 : Int32)) rfl ?_
        refine w_icmplt X D7_37 (fun hc37 => ?_) (fun hc37 => ?_)
        · have F37 : u < 256 := (ofNat_lt (b := 256) (by omega) (by decide)).mp hc37
          refine w_iloadN X D7_48 rfl ?_
          refine w_bipush X D7_49 (v := (16 : Int32)) rfl ?_
          refine w_icmplt X D7_51 (fun hc51 => ?_) (fun hc51 => ?_)
          · have F51 : u < 16 := (ofNat_lt (b := 16) (by omega) (by decide)).mp hc51
            refine w_iloadN X D7_61 rfl ?_
            refine w_iconst X D7_62 (v := (4 : Int32)) rfl ?_
            refine w_icmplt X D7_63 (fun hc63 => ?_) (fun hc63 => ?_)
            · have F63 : u < 4 := (ofNat_lt (b := 4) (by omega) (by decide)).mp hc63
              refine w_iloadN X D7_73 rfl ?_
              refine w_iloadN X D7_74 rfl ?_
              refine w_iconst X D7_75 (v := (1 : Int32)) rfl ?_
              refine w_iushr X D7_76 ?_
              rw [show jushr (Int32.ofNat u) 1 = Int32.ofNat (u / 2) from n_ushr (k := 1) (by omega) (by decide)]
              refine w_isub X D7_77 ?_
              exact w_ireturn X D7_78 (by decide) (by decide) (⟨by
                                by_cases hy : (u / 2) = 0
                                · rw [hy, own_uniq h1 h2 (t := 0) (by omega) (by omega)]; rfl
                                · rw [show (u / 2) = 1 by omega, own_uniq h1 h2 (t := 1) (by omega) (by omega)]; rfl, rfl⟩)
            · have F63 : ¬ u < 4 := fun z => hc63 ((ofNat_lt (b := 4) (by omega) (by decide)).mpr z)
              refine w_iinc X D7_66 (d := (-2 : Int32)) (r := (29 : Int32)) (l' := #[.val (.int (Int32.ofNat u)), .val (.int (29 : Int32))]) rfl rfl (by decide) rfl ?_
              refine w_iloadN X D7_69 rfl ?_
              refine w_iconst X D7_70 (v := (2 : Int32)) rfl ?_
              refine w_iushr X D7_71 ?_
              rw [show jushr (Int32.ofNat u) 2 = Int32.ofNat (u / 4) from n_ushr (k := 2) (by omega) (by decide)]
              refine w_istoreN X D7_72 (l' := #[.val (.int (Int32.ofNat (u / 4))), .val (.int (29 : Int32))]) rfl ?_
              refine w_iloadN X D7_73 rfl ?_
              refine w_iloadN X D7_74 rfl ?_
              refine w_iconst X D7_75 (v := (1 : Int32)) rfl ?_
              refine w_iushr X D7_76 ?_
              rw [show jushr (Int32.ofNat (u / 4)) 1 = Int32.ofNat ((u / 4) / 2) from n_ushr (k := 1) (by omega) (by decide)]
              refine w_isub X D7_77 ?_
              exact w_ireturn X D7_78 (by decide) (by decide) (⟨by
                                by_cases hy : ((u / 4) / 2) = 0
                                · rw [hy, own_uniq h1 h2 (t := 2) (by omega) (by omega)]; rfl
                                · rw [show ((u / 4) / 2) = 1 by omega, own_uniq h1 h2 (t := 3) (by omega) (by omega)]; rfl, rfl⟩)
          · have F51 : ¬ u < 16 := fun z => hc51 ((ofNat_lt (b := 16) (by omega) (by decide)).mpr z)
            refine w_iinc X D7_54 (d := (-4 : Int32)) (r := (27 : Int32)) (l' := #[.val (.int (Int32.ofNat u)), .val (.int (27 : Int32))]) rfl rfl (by decide) rfl ?_
            refine w_iloadN X D7_57 rfl ?_
            refine w_iconst X D7_58 (v := (4 : Int32)) rfl ?_
            refine w_iushr X D7_59 ?_
            rw [show jushr (Int32.ofNat u) 4 = Int32.ofNat (u / 16) from n_ushr (k := 4) (by omega) (by decide)]
            refine w_istoreN X D7_60 (l' := #[.val (.int (Int32.ofNat (u / 16))), .val (.int (27 : Int32))]) rfl ?_
            refine w_iloadN X D7_61 rfl ?_
            refine w_iconst X D7_62 (v := (4 : Int32)) rfl ?_
            refine w_icmplt X D7_63 (fun hc63 => ?_) (fun hc63 => ?_)
            · have F63 : (u / 16) < 4 := (ofNat_lt (b := 4) (by omega) (by decide)).mp hc63
              refine w_iloadN X D7_73 rfl ?_
              refine w_iloadN X D7_74 rfl ?_
              refine w_iconst X D7_75 (v := (1 : Int32)) rfl ?_
              refine w_iushr X D7_76 ?_
              rw [show jushr (Int32.ofNat (u / 16)) 1 = Int32.ofNat ((u / 16) / 2) from n_ushr (k := 1) (by omega) (by decide)]
              refine w_isub X D7_77 ?_
              exact w_ireturn X D7_78 (by decide) (by decide) (⟨by
                                by_cases hy : ((u / 16) / 2) = 0
                                · rw [hy, own_uniq h1 h2 (t := 4) (by omega) (by omega)]; rfl
                                · rw [show ((u / 16) / 2) = 1 by omega, own_uniq h1 h2 (t := 5) (by omega) (by omega)]; rfl, rfl⟩)
            · have F63 : ¬ (u / 16) < 4 := fun z => hc63 ((ofNat_lt (b := 4) (by omega) (by decide)).mpr z)
              refine w_iinc X D7_66 (d := (-2 : Int32)) (r := (25 : Int32)) (l' := #[.val (.int (Int32.ofNat (u / 16))), .val (.int (25 : Int32))]) rfl rfl (by decide) rfl ?_
              refine w_iloadN X D7_69 rfl ?_
              refine w_iconst X D7_70 (v := (2 : Int32)) rfl ?_
              refine w_iushr X D7_71 ?_
              rw [show jushr (Int32.ofNat (u / 16)) 2 = Int32.ofNat ((u / 16) / 4) from n_ushr (k := 2) (by omega) (by decide)]
              refine w_istoreN X D7_72 (l' := #[.val (.int (Int32.ofNat ((u / 16) / 4))), .val (.int (25 : Int32))]) rfl ?_
              refine w_iloadN X D7_73 rfl ?_
              refine w_iloadN X D7_74 rfl ?_
              refine w_iconst X D7_75 (v := (1 : Int32)) rfl ?_
              refine w_iushr X D7_76 ?_
              rw [show jushr (Int32.ofNat ((u / 16) / 4)) 1 = Int32.ofNat (((u / 16) / 4) / 2) from n_ushr (k := 1) (by omega) (by decide)]
              refine w_isub X D7_77 ?_
              exact w_ireturn X D7_78 (by decide) (by decide) (⟨by
                                by_cases hy : (((u / 16) / 4) / 2) = 0
                                · rw [hy, own_uniq h1 h2 (t := 6) (by omega) (by omega)]; rfl
                                · rw [show (((u / 16) / 4) / 2) = 1 by omega, own_uniq h1 h2 (t := 7) (by omega) (by omega)]; rfl, rfl⟩)
        · have F37 : ¬ u < 256 := fun z => hc37 ((ofNat_lt (b := 256) (by omega) (by decide)).mpr z)
          refine w_iinc X D7_40 (d := (-8 : Int32)) (r := (23 : Int32)) (l' := #[.val (.int (Int32.ofNat u)), .val (.int (23 : Int32))]) rfl rfl (by decide) rfl ?_
          refine w_iloadN X D7_43 rfl ?_
          refine w_bipush X D7_44 (v := (8 : Int32)) rfl ?_
          refine w_iushr X D7_46 ?_
          rw [show jushr (Int32.ofNat u) 8 = Int32.ofNat (u / 256) from n_ushr (k := 8) (by omega) (by decide)]
          refine w_istoreN X D7_47 (l' := #[.val (.int (Int32.ofNat (u / 256))), .val (.int (23 : Int32))]) rfl ?_
          refine w_iloadN X D7_48 rfl ?_
          refine w_bipush X D7_49 (v := (16 : Int32)) rfl ?_
          refine w_icmplt X D7_51 (fun hc51 => ?_) (fun hc51 => ?_)
          · have F51 : (u / 256) < 16 := (ofNat_lt (b := 16) (by omega) (by decide)).mp hc51
            refine w_iloadN X D7_61 rfl ?_
            refine w_iconst X D7_62 (v := (4 : Int32)) rfl ?_
            refine w_icmplt X D7_63 (fun hc63 => ?_) (fun hc63 => ?_)
            · have F63 : (u / 256) < 4 := (ofNat_lt (b := 4) (by omega) (by decide)).mp hc63
              refine w_iloadN X D7_73 rfl ?_
              refine w_iloadN X D7_74 rfl ?_
              refine w_iconst X D7_75 (v := (1 : Int32)) rfl ?_
              refine w_iushr X D7_76 ?_
              rw [show jushr (Int32.ofNat (u / 256)) 1 = Int32.ofNat ((u / 256) / 2) from n_ushr (k := 1) (by omega) (by decide)]
              refine w_isub X D7_77 ?_
              exact w_ireturn X D7_78 (by decide) (by decide) (⟨by
                                by_cases hy : ((u / 256) / 2) = 0
                                · rw [hy, own_uniq h1 h2 (t := 8) (by omega) (by omega)]; rfl
                                · rw [show ((u / 256) / 2) = 1 by omega, own_uniq h1 h2 (t := 9) (by omega) (by omega)]; rfl, rfl⟩)
            · have F63 : ¬ (u / 256) < 4 := fun z => hc63 ((ofNat_lt (b := 4) (by omega) (by decide)).mpr z)
              refine w_iinc X D7_66 (d := (-2 : Int32)) (r := (21 : Int32)) (l' := #[.val (.int (Int32.ofNat (u / 256))), .val (.int (21 : Int32))]) rfl rfl (by decide) rfl ?_
              refine w_iloadN X D7_69 rfl ?_
              refine w_iconst X D7_70 (v := (2 : Int32)) rfl ?_
              refine w_iushr X D7_71 ?_
              rw [show jushr (Int32.ofNat (u / 256)) 2 = Int32.ofNat ((u / 256) / 4) from n_ushr (k := 2) (by omega) (by decide)]
              refine w_istoreN X D7_72 (l' := #[.val (.int (Int32.ofNat ((u / 256) / 4))), .val (.int (21 : Int32))]) rfl ?_
              refine w_iloadN X D7_73 rfl ?_
              refine w_iloadN X D7_74 rfl ?_
              refine w_iconst X D7_75 (v := (1 : Int32)) rfl ?_
              refine w_iushr X D7_76 ?_
              rw [show jushr (Int32.ofNat ((u / 256) / 4)) 1 = Int32.ofNat (((u / 256) / 4) / 2) from n_ushr (k := 1) (by omega) (by decide)]
              refine w_isub X D7_77 ?_
              exact w_ireturn X D7_78 (by decide) (by decide) (⟨by
                                by_cases hy : (((u / 256) / 4) / 2) = 0
                                · rw [hy, own_uniq h1 h2 (t := 10) (by omega) (by omega)]; rfl
                                · rw [show (((u / 256) / 4) / 2) = 1 by omega, own_uniq h1 h2 (t := 11) (by omega) (by omega)]; rfl, rfl⟩)
          · have F51 : ¬ (u / 256) < 16 := fun z => hc51 ((ofNat_lt (b := 16) (by omega) (by decide)).mpr z)
            refine w_iinc X D7_54 (d := (-4 : Int32)) (r := (19 : Int32)) (l' := #[.val (.int (Int32.ofNat (u / 256))), .val (.int (19 : Int32))]) rfl rfl (by decide) rfl ?_
            refine w_iloadN X D7_57 rfl ?_
            refine w_iconst X D7_58 (v := (4 : Int32)) rfl ?_
            refine w_iushr X D7_59 ?_
            rw [show jushr (Int32.ofNat (u / 256)) 4 = Int32.ofNat ((u / 256) / 16) from n_ushr (k := 4) (by omega) (by decide)]
            refine w_istoreN X D7_60 (l' := #[.val (.int (Int32.ofNat ((u / 256) / 16))), .val (.int (19 : Int32))]) rfl ?_
            refine w_iloadN X D7_61 rfl ?_
            refine w_iconst X D7_62 (v := (4 : Int32)) rfl ?_
            refine w_icmplt X D7_63 (fun hc63 => ?_) (fun hc63 => ?_)
            · have F63 : ((u / 256) / 16) < 4 := (ofNat_lt (b := 4) (by omega) (by decide)).mp hc63
              refine w_iloadN X D7_73 rfl ?_
              refine w_iloadN X D7_74 rfl ?_
              refine w_iconst X D7_75 (v := (1 : Int32)) rfl ?_
              refine w_iushr X D7_76 ?_
              rw [show jushr (Int32.ofNat ((u / 256) / 16)) 1 = Int32.ofNat (((u / 256) / 16) / 2) from n_ushr (k := 1) (by omega) (by decide)]
              refine w_isub X D7_77 ?_
              exact w_ireturn X D7_78 (by decide) (by decide) (⟨by
                                by_cases hy : (((u / 256) / 16) / 2) = 0
                                · rw [hy, own_uniq h1 h2 (t := 12) (by omega) (by omega)]; rfl
                                · rw [show (((u / 256) / 16) / 2) = 1 by omega, own_uniq h1 h2 (t := 13) (by omega) (by omega)]; rfl, rfl⟩)
            · have F63 : ¬ ((u / 256) / 16) < 4 := fun z => hc63 ((ofNat_lt (b := 4) (by omega) (by decide)).mpr z)
              refine w_iinc X D7_66 (d := (-2 : Int32)) (r := (17 : Int32)) (l' := #[.val (.int (Int32.ofNat ((u / 256) / 16))), .val (.int (17 : Int32))]) rfl rfl (by decide) rfl ?_
              refine w_iloadN X D7_69 rfl ?_
              refine w_iconst X D7_70 (v := (2 : Int32)) rfl ?_
              refine w_iushr X D7_71 ?_
              rw [show jushr (Int32.ofNat ((u / 256) / 16)) 2 = Int32.ofNat (((u / 256) / 16) / 4) from n_ushr (k := 2) (by omega) (by decide)]
              refine w_istoreN X D7_72 (l' := #[.val (.int (Int32.ofNat (((u / 256) / 16) / 4))), .val (.int (17 : Int32))]) rfl ?_
              refine w_iloadN X D7_73 rfl ?_
              refine w_iloadN X D7_74 rfl ?_
              refine w_iconst X D7_75 (v := (1 : Int32)) rfl ?_
              refine w_iushr X D7_76 ?_
              rw [show jushr (Int32.ofNat (((u / 256) / 16) / 4)) 1 = Int32.ofNat ((((u / 256) / 16) / 4) / 2) from n_ushr (k := 1) (by omega) (by decide)]
              refine w_isub X D7_77 ?_
              exact w_ireturn X D7_78 (by decide) (by decide) (⟨by
                                by_cases hy : ((((u / 256) / 16) / 4) / 2) = 0
                                · rw [hy, own_uniq h1 h2 (t := 14) (by omega) (by omega)]; rfl
                                · rw [show ((((u / 256) / 16) / 4) / 2) = 1 by omega, own_uniq h1 h2 (t := 15) (by omega) (by omega)]; rfl, rfl⟩)
      · have F22 : ¬ u < 65536 := fun z => hc22 ((ofNat_lt (b := 65536) (by omega) (by decide)).mpr z)
        refine w_iinc X D7_25 (d := (-16 : Int32)) (r := (15 : Int32)) (l' := #[.val (.int (Int32.ofNat u)), .val (.int (15 : Int32))]) rfl rfl (by decide) rfl ?_
        refine w_iloadN X D7_28 rfl ?_
        refine w_bipush X D7_29 (v := (16 : Int32)) rfl ?_
        refine w_iushr X D7_31 ?_
        rw [show jushr (Int32.ofNat u) 16 = Int32.ofNat (u / 65536) from n_ushr (k := 16) (by omega) (by decide)]
        refine w_istoreN X D7_32 (l' := #[.val (.int (Int32.ofNat (u / 65536))), .val (.int (15 : Int32))]) rfl ?_
        refine w_iloadN X D7_33 rfl ?_
        refine w_sipush X D7_34 (v := (256 : Int32)) rfl ?_
        refine w_icmplt X D7_37 (fun hc37 => ?_) (fun hc37 => ?_)
        · have F37 : (u / 65536) < 256 := (ofNat_lt (b := 256) (by omega) (by decide)).mp hc37
          refine w_iloadN X D7_48 rfl ?_
          refine w_bipush X D7_49 (v := (16 : Int32)) rfl ?_
          refine w_icmplt X D7_51 (fun hc51 => ?_) (fun hc51 => ?_)
          · have F51 : (u / 65536) < 16 := (ofNat_lt (b := 16) (by omega) (by decide)).mp hc51
            refine w_iloadN X D7_61 rfl ?_
            refine w_iconst X D7_62 (v := (4 : Int32)) rfl ?_
            refine w_icmplt X D7_63 (fun hc63 => ?_) (fun hc63 => ?_)
            · have F63 : (u / 65536) < 4 := (ofNat_lt (b := 4) (by omega) (by decide)).mp hc63
              refine w_iloadN X D7_73 rfl ?_
              refine w_iloadN X D7_74 rfl ?_
              refine w_iconst X D7_75 (v := (1 : Int32)) rfl ?_
              refine w_iushr X D7_76 ?_
              rw [show jushr (Int32.ofNat (u / 65536)) 1 = Int32.ofNat ((u / 65536) / 2) from n_ushr (k := 1) (by omega) (by decide)]
              refine w_isub X D7_77 ?_
              exact w_ireturn X D7_78 (by decide) (by decide) (⟨by
                                by_cases hy : ((u / 65536) / 2) = 0
                                · rw [hy, own_uniq h1 h2 (t := 16) (by omega) (by omega)]; rfl
                                · rw [show ((u / 65536) / 2) = 1 by omega, own_uniq h1 h2 (t := 17) (by omega) (by omega)]; rfl, rfl⟩)
            · have F63 : ¬ (u / 65536) < 4 := fun z => hc63 ((ofNat_lt (b := 4) (by omega) (by decide)).mpr z)
              refine w_iinc X D7_66 (d := (-2 : Int32)) (r := (13 : Int32)) (l' := #[.val (.int (Int32.ofNat (u / 65536))), .val (.int (13 : Int32))]) rfl rfl (by decide) rfl ?_
              refine w_iloadN X D7_69 rfl ?_
              refine w_iconst X D7_70 (v := (2 : Int32)) rfl ?_
              refine w_iushr X D7_71 ?_
              rw [show jushr (Int32.ofNat (u / 65536)) 2 = Int32.ofNat ((u / 65536) / 4) from n_ushr (k := 2) (by omega) (by decide)]
              refine w_istoreN X D7_72 (l' := #[.val (.int (Int32.ofNat ((u / 65536) / 4))), .val (.int (13 : Int32))]) rfl ?_
              refine w_iloadN X D7_73 rfl ?_
              refine w_iloadN X D7_74 rfl ?_
              refine w_iconst X D7_75 (v := (1 : Int32)) rfl ?_
              refine w_iushr X D7_76 ?_
              rw [show jushr (Int32.ofNat ((u / 65536) / 4)) 1 = Int32.ofNat (((u / 65536) / 4) / 2) from n_ushr (k := 1) (by omega) (by decide)]
              refine w_isub X D7_77 ?_
              exact w_ireturn X D7_78 (by decide) (by decide) (⟨by
                                by_cases hy : (((u / 65536) / 4) / 2) = 0
                                · rw [hy, own_uniq h1 h2 (t := 18) (by omega) (by omega)]; rfl
                                · rw [show (((u / 65536) / 4) / 2) = 1 by omega, own_uniq h1 h2 (t := 19) (by omega) (by omega)]; rfl, rfl⟩)
          · have F51 : ¬ (u / 65536) < 16 := fun z => hc51 ((ofNat_lt (b := 16) (by omega) (by decide)).mpr z)
            refine w_iinc X D7_54 (d := (-4 : Int32)) (r := (11 : Int32)) (l' := #[.val (.int (Int32.ofNat (u / 65536))), .val (.int (11 : Int32))]) rfl rfl (by decide) rfl ?_
            refine w_iloadN X D7_57 rfl ?_
            refine w_iconst X D7_58 (v := (4 : Int32)) rfl ?_
            refine w_iushr X D7_59 ?_
            rw [show jushr (Int32.ofNat (u / 65536)) 4 = Int32.ofNat ((u / 65536) / 16) from n_ushr (k := 4) (by omega) (by decide)]
            refine w_istoreN X D7_60 (l' := #[.val (.int (Int32.ofNat ((u / 65536) / 16))), .val (.int (11 : Int32))]) rfl ?_
            refine w_iloadN X D7_61 rfl ?_
            refine w_iconst X D7_62 (v := (4 : Int32)) rfl ?_
            refine w_icmplt X D7_63 (fun hc63 => ?_) (fun hc63 => ?_)
            · have F63 : ((u / 65536) / 16) < 4 := (ofNat_lt (b := 4) (by omega) (by decide)).mp hc63
              refine w_iloadN X D7_73 rfl ?_
              refine w_iloadN X D7_74 rfl ?_
              refine w_iconst X D7_75 (v := (1 : Int32)) rfl ?_
              refine w_iushr X D7_76 ?_
              rw [show jushr (Int32.ofNat ((u / 65536) / 16)) 1 = Int32.ofNat (((u / 65536) / 16) / 2) from n_ushr (k := 1) (by omega) (by decide)]
              refine w_isub X D7_77 ?_
              exact w_ireturn X D7_78 (by decide) (by decide) (⟨by
                                by_cases hy : (((u / 65536) / 16) / 2) = 0
                                · rw [hy, own_uniq h1 h2 (t := 20) (by omega) (by omega)]; rfl
                                · rw [show (((u / 65536) / 16) / 2) = 1 by omega, own_uniq h1 h2 (t := 21) (by omega) (by omega)]; rfl, rfl⟩)
            · have F63 : ¬ ((u / 65536) / 16) < 4 := fun z => hc63 ((ofNat_lt (b := 4) (by omega) (by decide)).mpr z)
              refine w_iinc X D7_66 (d := (-2 : Int32)) (r := (9 : Int32)) (l' := #[.val (.int (Int32.ofNat ((u / 65536) / 16))), .val (.int (9 : Int32))]) rfl rfl (by decide) rfl ?_
              refine w_iloadN X D7_69 rfl ?_
              refine w_iconst X D7_70 (v := (2 : Int32)) rfl ?_
              refine w_iushr X D7_71 ?_
              rw [show jushr (Int32.ofNat ((u / 65536) / 16)) 2 = Int32.ofNat (((u / 65536) / 16) / 4) from n_ushr (k := 2) (by omega) (by decide)]
              refine w_istoreN X D7_72 (l' := #[.val (.int (Int32.ofNat (((u / 65536) / 16) / 4))), .val (.int (9 : Int32))]) rfl ?_
              refine w_iloadN X D7_73 rfl ?_
              refine w_iloadN X D7_74 rfl ?_
              refine w_iconst X D7_75 (v := (1 : Int32)) rfl ?_
              refine w_iushr X D7_76 ?_
              rw [show jushr (Int32.ofNat (((u / 65536) / 16) / 4)) 1 = Int32.ofNat ((((u / 65536) / 16) / 4) / 2) from n_ushr (k := 1) (by omega) (by decide)]
              refine w_isub X D7_77 ?_
              exact w_ireturn X D7_78 (by decide) (by decide) (⟨by
                                by_cases hy : ((((u / 65536) / 16) / 4) / 2) = 0
                                · rw [hy, own_uniq h1 h2 (t := 22) (by omega) (by omega)]; rfl
                                · rw [show ((((u / 65536) / 16) / 4) / 2) = 1 by omega, own_uniq h1 h2 (t := 23) (by omega) (by omega)]; rfl, rfl⟩)
        · have F37 : ¬ (u / 65536) < 256 := fun z => hc37 ((ofNat_lt (b := 256) (by omega) (by decide)).mpr z)
          refine w_iinc X D7_40 (d := (-8 : Int32)) (r := (7 : Int32)) (l' := #[.val (.int (Int32.ofNat (u / 65536))), .val (.int (7 : Int32))]) rfl rfl (by decide) rfl ?_
          refine w_iloadN X D7_43 rfl ?_
          refine w_bipush X D7_44 (v := (8 : Int32)) rfl ?_
          refine w_iushr X D7_46 ?_
          rw [show jushr (Int32.ofNat (u / 65536)) 8 = Int32.ofNat ((u / 65536) / 256) from n_ushr (k := 8) (by omega) (by decide)]
          refine w_istoreN X D7_47 (l' := #[.val (.int (Int32.ofNat ((u / 65536) / 256))), .val (.int (7 : Int32))]) rfl ?_
          refine w_iloadN X D7_48 rfl ?_
          refine w_bipush X D7_49 (v := (16 : Int32)) rfl ?_
          refine w_icmplt X D7_51 (fun hc51 => ?_) (fun hc51 => ?_)
          · have F51 : ((u / 65536) / 256) < 16 := (ofNat_lt (b := 16) (by omega) (by decide)).mp hc51
            refine w_iloadN X D7_61 rfl ?_
            refine w_iconst X D7_62 (v := (4 : Int32)) rfl ?_
            refine w_icmplt X D7_63 (fun hc63 => ?_) (fun hc63 => ?_)
            · have F63 : ((u / 65536) / 256) < 4 := (ofNat_lt (b := 4) (by omega) (by decide)).mp hc63
              refine w_iloadN X D7_73 rfl ?_
              refine w_iloadN X D7_74 rfl ?_
              refine w_iconst X D7_75 (v := (1 : Int32)) rfl ?_
              refine w_iushr X D7_76 ?_
              rw [show jushr (Int32.ofNat ((u / 65536) / 256)) 1 = Int32.ofNat (((u / 65536) / 256) / 2) from n_ushr (k := 1) (by omega) (by decide)]
              refine w_isub X D7_77 ?_
              exact w_ireturn X D7_78 (by decide) (by decide) (⟨by
                                by_cases hy : (((u / 65536) / 256) / 2) = 0
                                · rw [hy, own_uniq h1 h2 (t := 24) (by omega) (by omega)]; rfl
                                · rw [show (((u / 65536) / 256) / 2) = 1 by omega, own_uniq h1 h2 (t := 25) (by omega) (by omega)]; rfl, rfl⟩)
            · have F63 : ¬ ((u / 65536) / 256) < 4 := fun z => hc63 ((ofNat_lt (b := 4) (by omega) (by decide)).mpr z)
              refine w_iinc X D7_66 (d := (-2 : Int32)) (r := (5 : Int32)) (l' := #[.val (.int (Int32.ofNat ((u / 65536) / 256))), .val (.int (5 : Int32))]) rfl rfl (by decide) rfl ?_
              refine w_iloadN X D7_69 rfl ?_
              refine w_iconst X D7_70 (v := (2 : Int32)) rfl ?_
              refine w_iushr X D7_71 ?_
              rw [show jushr (Int32.ofNat ((u / 65536) / 256)) 2 = Int32.ofNat (((u / 65536) / 256) / 4) from n_ushr (k := 2) (by omega) (by decide)]
              refine w_istoreN X D7_72 (l' := #[.val (.int (Int32.ofNat (((u / 65536) / 256) / 4))), .val (.int (5 : Int32))]) rfl ?_
              refine w_iloadN X D7_73 rfl ?_
              refine w_iloadN X D7_74 rfl ?_
              refine w_iconst X D7_75 (v := (1 : Int32)) rfl ?_
              refine w_iushr X D7_76 ?_
              rw [show jushr (Int32.ofNat (((u / 65536) / 256) / 4)) 1 = Int32.ofNat ((((u / 65536) / 256) / 4) / 2) from n_ushr (k := 1) (by omega) (by decide)]
              refine w_isub X D7_77 ?_
              exact w_ireturn X D7_78 (by decide) (by decide) (⟨by
                                by_cases hy : ((((u / 65536) / 256) / 4) / 2) = 0
                                · rw [hy, own_uniq h1 h2 (t := 26) (by omega) (by omega)]; rfl
                                · rw [show ((((u / 65536) / 256) / 4) / 2) = 1 by omega, own_uniq h1 h2 (t := 27) (by omega) (by omega)]; rfl, rfl⟩)
          · have F51 : ¬ ((u / 65536) / 256) < 16 := fun z => hc51 ((ofNat_lt (b := 16) (by omega) (by decide)).mpr z)
            refine w_iinc X D7_54 (d := (-4 : Int32)) (r := (3 : Int32)) (l' := #[.val (.int (Int32.ofNat ((u / 65536) / 256))), .val (.int (3 : Int32))]) rfl rfl (by decide) rfl ?_
            refine w_iloadN X D7_57 rfl ?_
            refine w_iconst X D7_58 (v := (4 : Int32)) rfl ?_
            refine w_iushr X D7_59 ?_
            rw [show jushr (Int32.ofNat ((u / 65536) / 256)) 4 = Int32.ofNat (((u / 65536) / 256) / 16) from n_ushr (k := 4) (by omega) (by decide)]
            refine w_istoreN X D7_60 (l' := #[.val (.int (Int32.ofNat (((u / 65536) / 256) / 16))), .val (.int (3 : Int32))]) rfl ?_
            refine w_iloadN X D7_61 rfl ?_
            refine w_iconst X D7_62 (v := (4 : Int32)) rfl ?_
            refine w_icmplt X D7_63 (fun hc63 => ?_) (fun hc63 => ?_)
            · have F63 : (((u / 65536) / 256) / 16) < 4 := (ofNat_lt (b := 4) (by omega) (by decide)).mp hc63
              refine w_iloadN X D7_73 rfl ?_
              refine w_iloadN X D7_74 rfl ?_
              refine w_iconst X D7_75 (v := (1 : Int32)) rfl ?_
              refine w_iushr X D7_76 ?_
              rw [show jushr (Int32.ofNat (((u / 65536) / 256) / 16)) 1 = Int32.ofNat ((((u / 65536) / 256) / 16) / 2) from n_ushr (k := 1) (by omega) (by decide)]
              refine w_isub X D7_77 ?_
              exact w_ireturn X D7_78 (by decide) (by decide) (⟨by
                                by_cases hy : ((((u / 65536) / 256) / 16) / 2) = 0
                                · rw [hy, own_uniq h1 h2 (t := 28) (by omega) (by omega)]; rfl
                                · rw [show ((((u / 65536) / 256) / 16) / 2) = 1 by omega, own_uniq h1 h2 (t := 29) (by omega) (by omega)]; rfl, rfl⟩)
            · have F63 : ¬ (((u / 65536) / 256) / 16) < 4 := fun z => hc63 ((ofNat_lt (b := 4) (by omega) (by decide)).mpr z)
              refine w_iinc X D7_66 (d := (-2 : Int32)) (r := (1 : Int32)) (l' := #[.val (.int (Int32.ofNat (((u / 65536) / 256) / 16))), .val (.int (1 : Int32))]) rfl rfl (by decide) rfl ?_
              refine w_iloadN X D7_69 rfl ?_
              refine w_iconst X D7_70 (v := (2 : Int32)) rfl ?_
              refine w_iushr X D7_71 ?_
              rw [show jushr (Int32.ofNat (((u / 65536) / 256) / 16)) 2 = Int32.ofNat ((((u / 65536) / 256) / 16) / 4) from n_ushr (k := 2) (by omega) (by decide)]
              refine w_istoreN X D7_72 (l' := #[.val (.int (Int32.ofNat ((((u / 65536) / 256) / 16) / 4))), .val (.int (1 : Int32))]) rfl ?_
              refine w_iloadN X D7_73 rfl ?_
              refine w_iloadN X D7_74 rfl ?_
              refine w_iconst X D7_75 (v := (1 : Int32)) rfl ?_
              refine w_iushr X D7_76 ?_
              rw [show jushr (Int32.ofNat ((((u / 65536) / 256) / 16) / 4)) 1 = Int32.ofNat (((((u / 65536) / 256) / 16) / 4) / 2) from n_ushr (k := 1) (by omega) (by decide)]
              refine w_isub X D7_77 ?_
              exact w_ireturn X D7_78 (by decide) (by decide) (⟨by
                                by_cases hy : (((((u / 65536) / 256) / 16) / 4) / 2) = 0
                                · rw [hy, own_uniq h1 h2 (t := 30) (by omega) (by omega)]; rfl
                                · rw [show (((((u / 65536) / 256) / 16) / 4) / 2) = 1 by omega, own_uniq h1 h2 (t := 31) (by omega) (by omega)]; rfl, rfl⟩)
    · refine w_iloadN X D7_4 rfl ?_
      refine w_ifne X D7_5 (fun hc5 => by exact absurd (Int32.lt_iff_toInt_lt.mpr (by rw [ofNat_toInt hp, show (0 : Int32).toInt = 0 from rfl]; have : ¬ u = 0 := (fun z => hc5 (by rw [z]; rfl)); omega)) hc1) (fun hc5 => ?_)
      refine w_bipush X D7_8 (v := (32 : Int32)) rfl ?_
      refine w_goto X D7_10 ?_
      exact w_ireturn X D7_14 (by decide) (by decide) (⟨by
                have z : u = 0 := (n_inj (b := 0) hp (by decide)).mp hc5
                rcases h2 with h2 | h2
                · rw [h2]; rfl
                · have := Nat.two_pow_pos (bl - 1); omega, rfl⟩)
  · have hneg : (Int32.ofNat u).toInt < 0 := by have z1 := toInt_mod u; have z2 := rng32 (Int32.ofNat u); omega
    refine w_iloadN X D7_0 rfl ?_
    refine w_ifgt X D7_1 (fun hc1 => by exact absurd (Int32.lt_iff_toInt_lt.mp hc1) (by rw [show (0 : Int32).toInt = 0 from rfl]; omega)) (fun hc1 => ?_)
    refine w_iloadN X D7_4 rfl ?_
    refine w_ifne X D7_5 (fun hc5 => ?_) (fun hc5 => by rw [hc5] at hneg; exact absurd hneg (by decide))
    refine w_iconst X D7_13 (v := (0 : Int32)) rfl ?_
    exact w_ireturn X D7_14 (by decide) (by decide) (⟨by rw [own_uniq h1 h2 (t := 31) (by omega) (by omega)]; rfl, rfl⟩)
theorem ef_6 (m : MethodId) (x1 : Int64) : entryFrame m #[(.long x1)] 3 = mkF m 0 #[.val (.long x1), .second, .unset] [] := by first | (simp [entryFrame, mkF, argsToLocals, Value.category]; done) | rfl
theorem pn_6 : plainName "java/lang/Long" = true := by first | (simp [plainName, overriddenIn]; done) | decide +kernel
set_option maxRecDepth 65536 in
set_option maxHeartbeats 40000000 in
theorem rmY {l : Launch} {Z : State} {a0 : Array Value} {n0 : Nat} {h : Heap} (hw : ∀ d ∈ tables_1, d.before a0 Z = true) (hn : n0 ≤ h.size) (x1 : Int64) (u bl : Nat) (e1 : x1 = Int64.ofNat u) (hu : u < 9223372036854775808) (hb : bl ≤ 63) (y1 : u < 2 ^ bl) (y2 : bl = 0 ∨ 2 ^ (bl - 1) ≤ u) :
    Ctr l Z n0 (⟨"java/lang/Long", "numberOfLeadingZeros", "(J)I"⟩ : MethodName) jdk_35_method_48_code 3 (some .int) ({ frames := 1, cells := 0, slots := 0, locals := 14 } : Room) [] #[(.long x1)] h (fun v h' => v = some (.int (Int32.ofNat (64 - bl))) ∧ h = h') := by
  refine ctr_of (plainFor_of_name pn_6) hw hn ?_
  intro p e s m below meth c T X
  refine Wp.cast (ef_6 m x1) ?_
  subst e1
  refine w_lloadN X D6_0 rfl ?_
  refine w_bipush X D6_1 (v := (32 : Int32)) rfl ?_
  refine w_lushr X D6_3 ?_
  refine w_l2i X D6_4 ?_
  rw [show jushrL (Int64.ofNat u) 32 = Int64.ofNat (u / 4294967296) from nL_ushr hu (k := 32) (by decide), n_l2i]
  refine w_istoreN X D6_5 (l' := #[.val (.long (Int64.ofNat u)), .second, .val (.int (Int32.ofNat (u / 4294967296)))]) rfl ?_
  refine w_iloadN X D6_6 rfl ?_
  refine w_ifne X D6_7 (fun hc7 => ?_) (fun hc7 => ?_)
  · refine w_iloadN X D6_21 rfl ?_
    have hz : ¬ u / 4294967296 = 0 := fun z => hc7 (by rw [z]; rfl)
    have hbl : 32 < bl := Nat.lt_of_not_le fun z => by
      have z1 : 2 ^ bl ≤ 2 ^ 32 := Nat.pow_le_pow_right (by decide) z
      omega
    have p1 : 2 ^ bl = 2 ^ (bl - 32) * 4294967296 := by rw [show bl = (bl - 32) + 32 by omega, Nat.pow_add, Nat.add_sub_cancel]
    have p2 : 2 ^ (bl - 1) = 2 ^ (bl - 32 - 1) * 4294967296 := by rw [show bl - 1 = (bl - 32 - 1) + 32 by omega, Nat.pow_add]
    refine w_static X D6_22 (rmZ hw X.sz _ (u / 4294967296) (bl - 32) rfl (by omega) (by omega) (Or.inr (by rcases y2 with y2 | y2 <;> omega))) (hw _ (List.mem_of_getElem? (i := 24) rfl)) (hw _ (List.mem_of_getElem? (i := 25) rfl)) (hw _ (List.mem_of_getElem? (i := 26) rfl)) (hw _ (List.mem_of_getElem? (i := 27) rfl)) (by decide) pd_0 rfl (S := []) rfl rfl (Nat.le_of_ble_eq_true rfl) (Nat.le_of_ble_eq_true rfl) (Nat.le_of_ble_eq_true rfl) (Nat.le_of_ble_eq_true rfl) (fun v1 T1 h1 X1 q1 => ?_)
    obtain ⟨rfl, rfl⟩ := q1
    show Wp _ _ _ _ _ _ _ _ (mkF m 25 #[.val (.long (Int64.ofNat u)), .second, .val (.int (Int32.ofNat (u / 4294967296)))] [(.int (Int32.ofNat (32 - (bl - 32))))])
    exact w_ireturn X1 D6_25 (by decide) (by decide) (⟨by rw [show 64 - bl = 32 - (bl - 32) by omega], rfl⟩)
  · have hz : u / 4294967296 = 0 := (n_inj (b := 0) (by omega) (by decide)).mp hc7
    refine w_bipush X D6_10 (v := (32 : Int32)) rfl ?_
    refine w_lloadN X D6_12 rfl ?_
    refine w_l2i X D6_13 ?_
    rw [n_l2i]
    refine w_static X D6_14 (rmZ hw X.sz _ u bl rfl (by omega) y1 y2) (hw _ (List.mem_of_getElem? (i := 24) rfl)) (hw _ (List.mem_of_getElem? (i := 25) rfl)) (hw _ (List.mem_of_getElem? (i := 26) rfl)) (hw _ (List.mem_of_getElem? (i := 27) rfl)) (by decide) pd_0 rfl (S := [(.int (32 : Int32))]) rfl rfl (Nat.le_of_ble_eq_true rfl) (Nat.le_of_ble_eq_true rfl) (Nat.le_of_ble_eq_true rfl) (Nat.le_of_ble_eq_true rfl) (fun v2 T2 h2 X2 q2 => ?_)
    obtain ⟨rfl, rfl⟩ := q2
    show Wp _ _ _ _ _ _ _ _ (mkF m 17 #[.val (.long (Int64.ofNat u)), .second, .val (.int (Int32.ofNat (u / 4294967296)))] [(.int (Int32.ofNat (32 - bl))), (.int (32 : Int32))])
    have hbl : bl ≤ 32 := Nat.le_of_not_lt fun z => by
      rcases y2 with y2 | y2
      · omega
      · have z1 : 2 ^ 32 ≤ 2 ^ (bl - 1) := Nat.pow_le_pow_right (by decide) (by omega)
        omega
    refine w_iadd X2 D6_17 ?_
    refine w_goto X2 D6_18 ?_
    exact w_ireturn X2 D6_25 (by decide) (by decide) (⟨by rw [show (32 : Int32) + Int32.ofNat (32 - bl) = Int32.ofNat (32 + (32 - bl)) from n_add 32 _, show 64 - bl = 32 + (32 - bl) by omega], rfl⟩)
theorem ef_5 (m : MethodId) (x1 : Int64) : entryFrame m #[(.long x1)] 2 = mkF m 0 #[.val (.long x1), .second] [] := by first | (simp [entryFrame, mkF, argsToLocals, Value.category]; done) | rfl
theorem pn_5 : plainName "com/example/reducer/reducer/analysis/Base128" = true := by first | (simp [plainName, overriddenIn]; done) | decide +kernel
set_option maxRecDepth 65536 in
set_option maxHeartbeats 40000000 in
theorem rmL {l : Launch} {Z : State} {a0 : Array Value} {n0 : Nat} {h : Heap} (hw : ∀ d ∈ tables_1, d.before a0 Z = true) (hn : n0 ≤ h.size) (x1 : Int64) (u N : Nat) (e1 : x1 = Int64.ofNat u) (hu : u < 9223372036854775808) (hN : 1 ≤ N) (y1 : u < 2 ^ (7 * N)) (y2 : N = 1 ∨ 2 ^ (7 * (N - 1)) ≤ u) :
    Ctr l Z n0 (⟨"com/example/reducer/reducer/analysis/Base128", "length", "(J)I"⟩ : MethodName) prog_1_method_5_code 2 (some .int) ({ frames := 2, cells := 0, slots := 0, locals := 30 } : Room) [] #[(.long x1)] h (fun v h' => v = some (.int (Int32.ofNat N)) ∧ h = h') := by
  refine ctr_of (plainFor_of_name pn_5) hw hn ?_
  intro p e s m below meth c T X
  refine Wp.cast (ef_5 m x1) ?_
  subst e1
  obtain ⟨bl, hb, b1, b2⟩ := own_bl u hu
  refine w_iconst X D5_0 (v := (1 : Int32)) rfl ?_
  refine w_bipush X D5_1 (v := (64 : Int32)) rfl ?_
  refine w_lloadN X D5_3 rfl ?_
  refine w_static X D5_4 (rmY hw X.sz _ u bl rfl hu hb b1 b2) (hw _ (List.mem_of_getElem? (i := 20) rfl)) (hw _ (List.mem_of_getElem? (i := 21) rfl)) (hw _ (List.mem_of_getElem? (i := 22) rfl)) (hw _ (List.mem_of_getElem? (i := 23) rfl)) (by decide) pd_1 rfl (S := [(.int (64 : Int32)), (.int (1 : Int32))]) rfl rfl (Nat.le_of_ble_eq_true rfl) (Nat.le_of_ble_eq_true rfl) (Nat.le_of_ble_eq_true rfl) (Nat.le_of_ble_eq_true rfl) (fun v1 T1 h1 X1 q1 => ?_)
  obtain ⟨rfl, rfl⟩ := q1
  show Wp _ _ _ _ _ _ _ _ (mkF m 7 #[.val (.long (Int64.ofNat u)), .second] [(.int (Int32.ofNat (64 - bl))), (.int (64 : Int32)), (.int (1 : Int32))])
  refine w_isub X1 D5_7 ?_
  rw [show (64 : Int32) - Int32.ofNat (64 - bl) = Int32.ofNat bl from (n_sub (a := 64) (by omega)).trans (by congr 1; omega)]
  refine w_bipush X1 D5_8 (v := (7 : Int32)) rfl ?_
  refine w_iadd X1 D5_10 ?_
  refine w_iconst X1 D5_11 (v := (1 : Int32)) rfl ?_
  refine w_isub X1 D5_12 ?_
  rw [show Int32.ofNat bl + 7 - 1 = Int32.ofNat (bl + 6) from (congrArg (· - 1) (n_add bl 7)).trans (n_sub (b := 1) (by omega))]
  refine w_bipush X1 D5_13 (v := (7 : Int32)) rfl ?_
  refine w_idiv X1 D5_15 (by decide) ?_
  rw [show Int32.ofNat (bl + 6) / 7 = Int32.ofNat ((bl + 6) / 7) from n_div (k := 7) (by omega) (by decide) (by decide)]
  have q1 : bl ≤ 7 * N := Nat.le_of_not_lt fun z => by
    rcases b2 with b2 | b2
    · omega
    · have z1 : 2 ^ (7 * N) ≤ 2 ^ (bl - 1) := Nat.pow_le_pow_right (by decide) (by omega)
      omega
  have q2 : N = 1 ∨ 7 * (N - 1) < bl := y2.imp id fun y2 => (Nat.pow_lt_pow_iff_right (a := 2) (by decide)).mp (Nat.lt_of_le_of_lt y2 b1)
  refine w_static X1 D5_16 (rmMax hw X1.sz _ _ 1 ((bl + 6) / 7) (by decide) (by omega) rfl rfl) (hw _ (List.mem_of_getElem? (i := 29) rfl)) (hw _ (List.mem_of_getElem? (i := 30) rfl)) (hw _ (List.mem_of_getElem? (i := 3) rfl)) (hw _ (List.mem_of_getElem? (i := 31) rfl)) (by decide) pd_2 rfl (S := []) rfl rfl (Nat.le_of_ble_eq_true rfl) (Nat.le_of_ble_eq_true rfl) (Nat.le_of_ble_eq_true rfl) (Nat.le_of_ble_eq_true rfl) (fun v2 T2 h2 X2 q2 => ?_)
  obtain ⟨rfl, rfl⟩ := q2
  show Wp _ _ _ _ _ _ _ _ (mkF m 19 #[.val (.long (Int64.ofNat u)), .second] [(.int (Int32.ofNat (max 1 ((bl + 6) / 7))))])
  exact w_ireturn X2 D5_19 (by decide) (by decide) (⟨by rw [show max 1 ((bl + 6) / 7) = N by omega], rfl⟩)
theorem pred_lt {F : Nat} (h : F < 2147483648) : Int32.ofNat F - 1 < Int32.ofNat F := by
  have h1 := c_isub (Int32.ofNat F) 1
  have h2 := rng32 (Int32.ofNat F - 1)
  rw [Int32.lt_iff_toInt_lt]
  rw [ofNat_toInt h, show (1 : Int32).toInt = 1 from rfl] at *
  omega
set_option maxRecDepth 65536 in
set_option maxHeartbeats 40000000 in
theorem loopV {Z : State} {a0 : Array Value} {n0 : Nat} {p : Program} {l : Launch} {e : Env} {R : Room} {s : State} {m : MethodId} {args : Array Value} {below : List Frame} {meth : Method} {c : Code} {T : State} {h : Heap} {k j : Nat} {Q : Option Value → Heap → Prop} (X : Pos Z a0 n0 p l e R s m args below meth c prog_1_method_7_code 6 (some .long) (⟨"com/example/reducer/reducer/analysis/Base128", "longValue", "([BII)J"⟩ : MethodName) T h k j) (a : Addr) (t0 : Int32) (F N : Nat) (g : Nat → Int32) (hF : F + N ≤ 16) (B : Ba Z n0 h a .byte 16 (bI g)) (q : ∀ z, Wp n0 p e R s below Q T (mkF m 33 #[.val (.ref a), .val (.int (Int32.ofNat F)), .val (.int t0), .val (.long (Int64.ofNat (hv g F N))), .second, .val (.int z)] [])) : ∀ i, i ≤ N → Wp n0 p e R s below Q T (mkF m 7 #[.val (.ref a), .val (.int (Int32.ofNat F)), .val (.int t0), .val (.long (Int64.ofNat (hv g (F + i) (N - i)))), .second, .val (.int (Int32.ofNat (F + i) - (1 : Int32)))] []) := by
  intro i
  induction i with
  | zero =>
    intro hi
    refine w_iload X D9_7 rfl ?_
    refine w_iloadN X D9_9 rfl ?_
    refine w_icmplt X D9_10 (fun hc10 => ?_) (fun hc10 => by exact absurd (pred_lt (F := F + 0) (by omega)) hc10)
    exact q _
  | succ i ih =>
    intro hi
    rw [show Int32.ofNat (F + (i + 1)) - (1 : Int32) = Int32.ofNat (F + i) from n_sub (b := 1) (by omega)]
    refine w_iload X D9_7 rfl ?_
    refine w_iloadN X D9_9 rfl ?_
    refine w_icmplt X D9_10 (fun hc10 => by have z1 := (ofNat_lt (by omega) (by omega)).mp hc10; omega) (fun hc10 => ?_)
    refine w_lloadN X D9_13 rfl ?_
    refine w_bipush X D9_14 (v := (7 : Int32)) rfl ?_
    refine w_lshl X D9_16 ?_
    refine w_aloadN X D9_17 rfl rfl ?_
    refine w_iload X D9_18 rfl ?_
    refine w_baload X D9_20 B (F + i) rfl (by omega) ?_
    refine w_bipush X D9_21 (v := (127 : Int32)) rfl ?_
    refine w_iand X D9_23 ?_
    refine w_i2l X D9_24 ?_
    refine w_lor X D9_25 ?_
    rw [d7_i2l, own_turn]
    refine w_lstoreN X D9_26 (l' := #[.val (.ref a), .val (.int (Int32.ofNat F)), .val (.int t0), .val (.long (Int64.ofNat (d7 (g (F + i)) + 128 * hv g (F + (i + 1)) (N - (i + 1))))), .second, .val (.int (Int32.ofNat (F + i)))]) rfl ?_
    refine w_iinc X D9_27 (d := (-1 : Int32)) (r := (Int32.ofNat (F + i) - (1 : Int32))) (l' := #[.val (.ref a), .val (.int (Int32.ofNat F)), .val (.int t0), .val (.long (Int64.ofNat (d7 (g (F + i)) + 128 * hv g (F + (i + 1)) (N - (i + 1))))), .second, .val (.int (Int32.ofNat (F + i) - (1 : Int32)))]) rfl rfl ((Int32.sub_eq_add_neg _ _).symm) rfl ?_
    refine w_goto X D9_30 ?_
    have e1 : d7 (g (F + i)) + 128 * hv g (F + (i + 1)) (N - (i + 1)) = hv g (F + i) (N - i) := by
      rw [show N - i = N - (i + 1) + 1 by omega]; rfl
    rw [e1]
    exact ih (by omega)
theorem ef_9 (m : MethodId) (a : Addr) (f0 : Int32) (t0 : Int32) : entryFrame m #[(.ref a), (.int f0), (.int t0)] 6 = mkF m 0 #[.val (.ref a), .val (.int f0), .val (.int t0), .unset, .unset, .unset] [] := by first | (simp [entryFrame, mkF, argsToLocals, Value.category]; done) | rfl
theorem pn_9 : plainName "com/example/reducer/reducer/analysis/Base128" = true := by first | (simp [plainName, overriddenIn]; done) | decide +kernel
set_option maxRecDepth 65536 in
set_option maxHeartbeats 40000000 in
theorem rmV {l : Launch} {Z : State} {a0 : Array Value} {n0 : Nat} {h : Heap} (hw : ∀ d ∈ tables_1, d.before a0 Z = true) (hn : n0 ≤ h.size) (a : Addr) (f0 : Int32) (t0 : Int32) (F N : Nat) (g : Nat → Int32) (eF : f0 = Int32.ofNat F) (eT : t0 = Int32.ofNat (F + N)) (hF : F + N ≤ 16) (B : Ba Z n0 h a .byte 16 (bI g)) :
    Ctr l Z n0 (⟨"com/example/reducer/reducer/analysis/Base128", "longValue", "([BII)J"⟩ : MethodName) prog_1_method_7_code 6 (some .long) ({ frames := 0, cells := 0, slots := 0, locals := 0 } : Room) [] #[(.ref a), (.int f0), (.int t0)] h (fun v h' => v = some (.long (Int64.ofNat (hv g F N))) ∧ h = h') := by
  refine ctr_of (plainFor_of_name pn_9) hw hn ?_
  intro p e s m below meth c T X
  refine Wp.cast (ef_9 m a f0 t0) ?_
  subst eF eT
  refine w_lconst0 X D9_0 ?_
  refine w_lstoreN X D9_1 (l' := #[.val (.ref a), .val (.int (Int32.ofNat F)), .val (.int (Int32.ofNat (F + N))), .val (.long (0 : Int64)), .second, .unset]) rfl ?_
  refine w_iloadN X D9_2 rfl ?_
  refine w_iconst X D9_3 (v := (1 : Int32)) rfl ?_
  refine w_isub X D9_4 ?_
  refine w_istore X D9_5 (l' := #[.val (.ref a), .val (.int (Int32.ofNat F)), .val (.int (Int32.ofNat (F + N))), .val (.long (0 : Int64)), .second, .val (.int ((Int32.ofNat (F + N)) - (1 : Int32)))]) rfl ?_
  refine Wp.cast (by rw [Nat.sub_self]; rfl) (loopV X a _ F N g hF B (fun z => ?_) N (Nat.le_refl _))
  refine w_lloadN X D9_33 rfl ?_
  exact w_lreturn X D9_34 (by decide) (by decide) (⟨rfl, rfl⟩)
set_option maxRecDepth 65536 in
set_option maxHeartbeats 40000000 in
theorem loopX {Z : State} {a0 : Array Value} {n0 : Nat} {p : Program} {l : Launch} {e : Env} {R : Room} {s : State} {m : MethodId} {args : Array Value} {below : List Frame} {meth : Method} {c : Code} {T : State} {h : Heap} {k j : Nat} {Q : Option Value → Heap → Prop} (X : Pos Z a0 n0 p l e R s m args below meth c prog_1_method_2_code 3 (some .int) (⟨"com/example/reducer/reducer/analysis/Base128", "end", "([BI)I"⟩ : MethodName) T h k j) (hk : k ≤ R.cells) (hj : j ≤ R.slots) (a : Addr) (f0 : Int32) (F N : Nat) (g : Nat → Int32) (hF : F + (N + 1) ≤ 16) (B : Ba Z n0 h a .byte 16 (bI g)) (hm : ∀ k, k < N → ¬ g (F + k) &&& 128 = 0) (hl : g (F + N) &&& 128 = 0) (hq : Q (some (.int (Int32.ofNat (F + (N + 1))))) h) : ∀ r i, i + r = N → Wp n0 p e R s below Q T (mkF m 2 #[.val (.ref a), .val (.int f0), .val (.int (Int32.ofNat (F + i)))] []) := by
  intro r
  induction r with
  | zero =>
    intro i hi
    obtain rfl : i = N := by omega
    refine w_aloadN X D10_2 rfl rfl ?_
    refine w_iloadN X D10_3 rfl ?_
    refine w_baload X D10_4 B (F + i) rfl (by omega) ?_
    refine w_sipush X D10_5 (v := (128 : Int32)) rfl ?_
    refine w_iand X D10_8 ?_
    refine w_ifeq X D10_9 (fun hc9 => ?_) (fun hc9 => by exact absurd hl hc9)
    refine w_iloadN X D10_18 rfl ?_
    refine w_iconst X D10_19 (v := (1 : Int32)) rfl ?_
    refine w_iadd X D10_20 ?_
    rw [show Int32.ofNat (F + i) + 1 = Int32.ofNat (F + (i + 1)) from n_add _ 1]
    exact w_ireturn X D10_21 hk hj (hq)
  | succ r ih =>
    intro i hi
    refine w_aloadN X D10_2 rfl rfl ?_
    refine w_iloadN X D10_3 rfl ?_
    refine w_baload X D10_4 B (F + i) rfl (by omega) ?_
    refine w_sipush X D10_5 (v := (128 : Int32)) rfl ?_
    refine w_iand X D10_8 ?_
    refine w_ifeq X D10_9 (fun hc9 => by exact absurd hc9 (hm i (by omega))) (fun hc9 => ?_)
    refine w_iinc X D10_12 (d := (1 : Int32)) (r := (Int32.ofNat (F + (i + 1)))) (l' := #[.val (.ref a), .val (.int f0), .val (.int (Int32.ofNat (F + (i + 1))))]) rfl rfl (n_add (F + i) 1) rfl ?_
    refine w_goto X D10_15 ?_
    exact ih (i + 1) (by omega)
theorem ef_10 (m : MethodId) (a : Addr) (f0 : Int32) : entryFrame m #[(.ref a), (.int f0)] 3 = mkF m 0 #[.val (.ref a), .val (.int f0), .unset] [] := by first | (simp [entryFrame, mkF, argsToLocals, Value.category]; done) | rfl
theorem pn_10 : plainName "com/example/reducer/reducer/analysis/Base128" = true := by first | (simp [plainName, overriddenIn]; done) | decide +kernel
set_option maxRecDepth 65536 in
set_option maxHeartbeats 40000000 in
theorem rmX {l : Launch} {Z : State} {a0 : Array Value} {n0 : Nat} {h : Heap} (hw : ∀ d ∈ tables_1, d.before a0 Z = true) (hn : n0 ≤ h.size) (a : Addr) (f0 : Int32) (F N : Nat) (g : Nat → Int32) (eF : f0 = Int32.ofNat F) (hF : F + (N + 1) ≤ 16) (B : Ba Z n0 h a .byte 16 (bI g)) (hm : ∀ k, k < N → ¬ g (F + k) &&& 128 = 0) (hl : g (F + N) &&& 128 = 0) :
    Ctr l Z n0 (⟨"com/example/reducer/reducer/analysis/Base128", "end", "([BI)I"⟩ : MethodName) prog_1_method_2_code 3 (some .int) ({ frames := 0, cells := 0, slots := 0, locals := 0 } : Room) [] #[(.ref a), (.int f0)] h (fun v h' => v = some (.int (Int32.ofNat (F + (N + 1)))) ∧ h = h') := by
  refine ctr_of (plainFor_of_name pn_10) hw hn ?_
  intro p e s m below meth c T X
  refine Wp.cast (ef_10 m a f0) ?_
  subst eF
  refine w_iloadN X D10_0 rfl ?_
  refine w_istoreN X D10_1 (l' := #[.val (.ref a), .val (.int (Int32.ofNat F)), .val (.int (Int32.ofNat F))]) rfl ?_
  exact loopX X (by decide) (by decide) a _ F N g hF B hm hl ⟨rfl, rfl⟩ N 0 (by omega)
set_option maxRecDepth 65536 in
set_option maxHeartbeats 40000000 in
theorem law2 {Z : State} {a0 : Array Value} {n0 : Nat} {p : Program} {l : Launch} {e : Env} {s : State} {m : MethodId} {args : Array Value} {below : List Frame} {meth : Method} {c : Code} {T : State} {h : Heap}  (hw : ∀ d ∈ tables_1, d.before a0 Z = true) (X : Pos Z a0 n0 p l e room_1 s m args below meth c code maxLocals ret x T h 0 0) (x1 x2 : Int64) (md of : Int32) (pp qq : Int64) (a b : Nat) (ha : a < 9223372036854775808) (hab : b ≤ a) : Wp n0 p e room_1 s below (fun v _ => v = some (.int 1)) T (mkF m 66 #[.val (.long x1), .second, .val (.long x2), .second, .val (.int md), .val (.int of), .val (.long pp), .second, .val (.long qq), .second, .val (.long (Int64.ofNat a)), .second, .val (.long (Int64.ofNat b)), .second, .unset, .unset, .unset, .unset, .unset, .unset, .unset, .unset, .unset, .unset, .unset] []) := by
  have hb' : b < 9223372036854775808 := by omega
  refine w_iload X D0_66 rfl ?_
  refine w_iconst X D0_68 (v := (3 : Int32)) rfl ?_
  refine w_iand X D0_69 ?_
  obtain ⟨LF, hLF, eLF⟩ := own_at of
  rw [eLF]
  refine w_istore X D0_70 (l' := #[.val (.long x1), .second, .val (.long x2), .second, .val (.int md), .val (.int of), .val (.long pp), .second, .val (.long qq), .second, .val (.long (Int64.ofNat a)), .second, .val (.long (Int64.ofNat b)), .second, .val (.int (Int32.ofNat LF)), .unset, .unset, .unset, .unset, .unset, .unset, .unset, .unset, .unset, .unset]) rfl ?_
  refine w_iload X D0_72 rfl ?_
  refine w_iconst X D0_74 (v := (2 : Int32)) rfl ?_
  refine w_iushr X D0_75 ?_
  refine w_iconst X D0_76 (v := (3 : Int32)) rfl ?_
  refine w_iand X D0_77 ?_
  obtain ⟨RF, hRF, eRF⟩ := own_at (jushr of 2)
  rw [eRF]
  refine w_istore X D0_78 (l' := #[.val (.long x1), .second, .val (.long x2), .second, .val (.int md), .val (.int of), .val (.long pp), .second, .val (.long qq), .second, .val (.long (Int64.ofNat a)), .second, .val (.long (Int64.ofNat b)), .second, .val (.int (Int32.ofNat LF)), .val (.int (Int32.ofNat RF)), .unset, .unset, .unset, .unset, .unset, .unset, .unset, .unset, .unset]) rfl ?_
  refine w_iload X D0_80 rfl ?_
  refine w_iconst X D0_82 (v := (4 : Int32)) rfl ?_
  refine w_iushr X D0_83 ?_
  refine w_iconst X D0_84 (v := (3 : Int32)) rfl ?_
  refine w_iand X D0_85 ?_
  obtain ⟨AT, hAT, eAT⟩ := own_at (jushr of 4)
  rw [eAT]
  refine w_istore X D0_86 (l' := #[.val (.long x1), .second, .val (.long x2), .second, .val (.int md), .val (.int of), .val (.long pp), .second, .val (.long qq), .second, .val (.long (Int64.ofNat a)), .second, .val (.long (Int64.ofNat b)), .second, .val (.int (Int32.ofNat LF)), .val (.int (Int32.ofNat RF)), .val (.int (Int32.ofNat AT)), .unset, .unset, .unset, .unset, .unset, .unset, .unset, .unset]) rfl ?_
  refine w_bipush X D0_88 (v := (16 : Int32)) rfl ?_
  refine w_newB X D0_90 (hw _ (List.mem_of_getElem? (i := 8) rfl)) 16 16 rfl (Nat.le_of_ble_eq_true rfl) (by decide) (Nat.le_of_ble_eq_true rfl) (Nat.le_of_ble_eq_true rfl) (fun T1 h1 a1 X1 g1 E1 B1 => ?_)
  refine w_astore X1 D0_92 (l' := #[.val (.long x1), .second, .val (.long x2), .second, .val (.int md), .val (.int of), .val (.long pp), .second, .val (.long qq), .second, .val (.long (Int64.ofNat a)), .second, .val (.long (Int64.ofNat b)), .second, .val (.int (Int32.ofNat LF)), .val (.int (Int32.ofNat RF)), .val (.int (Int32.ofNat AT)), .val (.ref a1), .unset, .unset, .unset, .unset, .unset, .unset, .unset]) rfl rfl ?_
  refine w_bipush X1 D0_94 (v := (16 : Int32)) rfl ?_
  refine w_newB X1 D0_96 (hw _ (List.mem_of_getElem? (i := 8) rfl)) 16 16 rfl (Nat.le_of_ble_eq_true rfl) (by decide) (Nat.le_of_ble_eq_true rfl) (Nat.le_of_ble_eq_true rfl) (fun T2 h2 a2 X2 g2 E2 B2 => ?_)
  have ne_a1_a2 : a1 ≠ a2 := Nat.ne_of_lt (Nat.lt_of_lt_of_le B1.lt (Nat.le_of_eq g2.symm))
  have B1_E2 := B1.ext E2
  refine w_astore X2 D0_98 (l' := #[.val (.long x1), .second, .val (.long x2), .second, .val (.int md), .val (.int of), .val (.long pp), .second, .val (.long qq), .second, .val (.long (Int64.ofNat a)), .second, .val (.long (Int64.ofNat b)), .second, .val (.int (Int32.ofNat LF)), .val (.int (Int32.ofNat RF)), .val (.int (Int32.ofNat AT)), .val (.ref a1), .val (.ref a2), .unset, .unset, .unset, .unset, .unset, .unset]) rfl rfl ?_
  refine w_bipush X2 D0_100 (v := (16 : Int32)) rfl ?_
  refine w_newB X2 D0_102 (hw _ (List.mem_of_getElem? (i := 8) rfl)) 16 16 rfl (Nat.le_of_ble_eq_true rfl) (by decide) (Nat.le_of_ble_eq_true rfl) (Nat.le_of_ble_eq_true rfl) (fun T3 h3 a3 X3 g3 E3 B3 => ?_)
  have ne_a1_a3 : a1 ≠ a3 := Nat.ne_of_lt (Nat.lt_of_lt_of_le B1_E2.lt (Nat.le_of_eq g3.symm))
  have ne_a2_a3 : a2 ≠ a3 := Nat.ne_of_lt (Nat.lt_of_lt_of_le B2.lt (Nat.le_of_eq g3.symm))
  have B1_E3 := B1_E2.ext E3
  have B2_E3 := B2.ext E3
  refine w_astore X3 D0_104 (l' := #[.val (.long x1), .second, .val (.long x2), .second, .val (.int md), .val (.int of), .val (.long pp), .second, .val (.long qq), .second, .val (.long (Int64.ofNat a)), .second, .val (.long (Int64.ofNat b)), .second, .val (.int (Int32.ofNat LF)), .val (.int (Int32.ofNat RF)), .val (.int (Int32.ofNat AT)), .val (.ref a1), .val (.ref a2), .val (.ref a3), .unset, .unset, .unset, .unset, .unset]) rfl rfl ?_
  refine w_lload X3 D0_106 rfl ?_
  refine w_aload X3 D0_108 rfl rfl ?_
  refine w_iload X3 D0_110 rfl ?_
  refine w_static X3 D0_112 (rmW hw X3.sz _ a1 _ LF a _ rfl rfl hLF ha B1_E3) (hw _ (List.mem_of_getElem? (i := 9) rfl)) (hw _ (List.mem_of_getElem? (i := 10) rfl)) (hw _ (List.mem_of_getElem? (i := 11) rfl)) (hw _ (List.mem_of_getElem? (i := 12) rfl)) (by decide) pd_3 rfl (S := []) rfl rfl (Nat.le_of_ble_eq_true rfl) (Nat.le_of_ble_eq_true rfl) (Nat.le_of_ble_eq_true rfl) (Nat.le_of_ble_eq_true rfl) (fun v4 T4 h4 X4 q4 => ?_)
  obtain ⟨rfl, K4, B4⟩ := q4
  have B2_K4 := B2_E3.keep K4 ((ninS (Ne.symm ne_a1_a2) nin0))
  have B3_K4 := B3.keep K4 ((ninS (Ne.symm ne_a1_a3) nin0))
  show Wp _ _ _ _ _ _ _ _ (mkF m 115 #[.val (.long x1), .second, .val (.long x2), .second, .val (.int md), .val (.int of), .val (.long pp), .second, .val (.long qq), .second, .val (.long (Int64.ofNat a)), .second, .val (.long (Int64.ofNat b)), .second, .val (.int (Int32.ofNat LF)), .val (.int (Int32.ofNat RF)), .val (.int (Int32.ofNat AT)), .val (.ref a1), .val (.ref a2), .val (.ref a3), .unset, .unset, .unset, .unset, .unset] [(.int (Int32.ofNat (LF + sz 8 a)))])
  refine w_istore X4 D0_115 (l' := #[.val (.long x1), .second, .val (.long x2), .second, .val (.int md), .val (.int of), .val (.long pp), .second, .val (.long qq), .second, .val (.long (Int64.ofNat a)), .second, .val (.long (Int64.ofNat b)), .second, .val (.int (Int32.ofNat LF)), .val (.int (Int32.ofNat RF)), .val (.int (Int32.ofNat AT)), .val (.ref a1), .val (.ref a2), .val (.ref a3), .val (.int (Int32.ofNat (LF + sz 8 a))), .unset, .unset, .unset, .unset]) rfl ?_
  refine w_lload X4 D0_117 rfl ?_
  refine w_aload X4 D0_119 rfl rfl ?_
  refine w_iload X4 D0_121 rfl ?_
  refine w_static X4 D0_123 (rmW hw X4.sz _ a2 _ RF b _ rfl rfl hRF hb' B2_K4) (hw _ (List.mem_of_getElem? (i := 9) rfl)) (hw _ (List.mem_of_getElem? (i := 10) rfl)) (hw _ (List.mem_of_getElem? (i := 11) rfl)) (hw _ (List.mem_of_getElem? (i := 12) rfl)) (by decide) pd_3 rfl (S := []) rfl rfl (Nat.le_of_ble_eq_true rfl) (Nat.le_of_ble_eq_true rfl) (Nat.le_of_ble_eq_true rfl) (Nat.le_of_ble_eq_true rfl) (fun v5 T5 h5 X5 q5 => ?_)
  obtain ⟨rfl, K5, B5⟩ := q5
  have B4_K5 := B4.keep K5 ((ninS ne_a1_a2 nin0))
  have B3_K5 := B3_K4.keep K5 ((ninS (Ne.symm ne_a2_a3) nin0))
  show Wp _ _ _ _ _ _ _ _ (mkF m 126 #[.val (.long x1), .second, .val (.long x2), .second, .val (.int md), .val (.int of), .val (.long pp), .second, .val (.long qq), .second, .val (.long (Int64.ofNat a)), .second, .val (.long (Int64.ofNat b)), .second, .val (.int (Int32.ofNat LF)), .val (.int (Int32.ofNat RF)), .val (.int (Int32.ofNat AT)), .val (.ref a1), .val (.ref a2), .val (.ref a3), .val (.int (Int32.ofNat (LF + sz 8 a))), .unset, .unset, .unset, .unset] [(.int (Int32.ofNat (RF + sz 8 b)))])
  refine w_istore X5 D0_126 (l' := #[.val (.long x1), .second, .val (.long x2), .second, .val (.int md), .val (.int of), .val (.long pp), .second, .val (.long qq), .second, .val (.long (Int64.ofNat a)), .second, .val (.long (Int64.ofNat b)), .second, .val (.int (Int32.ofNat LF)), .val (.int (Int32.ofNat RF)), .val (.int (Int32.ofNat AT)), .val (.ref a1), .val (.ref a2), .val (.ref a3), .val (.int (Int32.ofNat (LF + sz 8 a))), .val (.int (Int32.ofNat (RF + sz 8 b))), .unset, .unset, .unset]) rfl ?_
  refine w_aload X5 D0_128 rfl rfl ?_
  refine w_iload X5 D0_130 rfl ?_
  refine w_iload X5 D0_132 rfl ?_
  refine w_aload X5 D0_134 rfl rfl ?_
  refine w_iload X5 D0_136 rfl ?_
  refine w_iload X5 D0_138 rfl ?_
  refine w_aload X5 D0_140 rfl rfl ?_
  refine w_iload X5 D0_142 rfl ?_
  have s1 := sz_pos 8 a
  have s2 := sz_le 8 a
  have s3 := sz_le 8 b
  have hz : ∀ k, sz 8 b ≤ k → dgt b k = 0 := fun k hk => by
    have z1 := own_sz (u := b) 8 b (by omega)
    have z2 : 2 ^ (7 * sz 8 b) ≤ 2 ^ (7 * k) := Nat.pow_le_pow_right (by decide) (by omega)
    rw [dgt, Nat.div_eq_of_lt (by omega)]
  refine w_static X5 D0_144 (rmS hw X5.sz a1 _ _ a2 _ _ a3 _ LF RF AT (sz 8 a) (sz 8 b) a b _ _ _ (by omega) (by omega) (by omega) (fun k hk => own_dig a LF _ ha k hk) (fun k hk => own_dig b RF _ hb' k hk) hz ne_a1_a3 ne_a2_a3 rfl rfl rfl rfl rfl s1 B4_K5 B5 B3_K5) (hw _ (List.mem_of_getElem? (i := 14) rfl)) (hw _ (List.mem_of_getElem? (i := 15) rfl)) (hw _ (List.mem_of_getElem? (i := 11) rfl)) (hw _ (List.mem_of_getElem? (i := 16) rfl)) (by decide) pd_4 rfl (S := []) rfl rfl (Nat.le_of_ble_eq_true rfl) (Nat.le_of_ble_eq_true rfl) (Nat.le_of_ble_eq_true rfl) (Nat.le_of_ble_eq_true rfl) (fun v6 T6 h6 X6 q6 => ?_)
  obtain ⟨rfl, Bz⟩ := q6
  show Wp _ _ _ _ _ _ _ _ (mkF m 147 #[.val (.long x1), .second, .val (.long x2), .second, .val (.int md), .val (.int of), .val (.long pp), .second, .val (.long qq), .second, .val (.long (Int64.ofNat a)), .second, .val (.long (Int64.ofNat b)), .second, .val (.int (Int32.ofNat LF)), .val (.int (Int32.ofNat RF)), .val (.int (Int32.ofNat AT)), .val (.ref a1), .val (.ref a2), .val (.ref a3), .val (.int (Int32.ofNat (LF + sz 8 a))), .val (.int (Int32.ofNat (RF + sz 8 b))), .unset, .unset, .unset] [(.int (Int32.ofNat (AT + tr a b (sz 8 a))))])
  have haz := own_sz (u := a) 8 a (by omega)
  have htr := tr_spec a b (sz 8 a) s1
  have hln := own_len a b (sz 8 a) s1 hab haz
  refine w_istore X6 D0_147 (l' := #[.val (.long x1), .second, .val (.long x2), .second, .val (.int md), .val (.int of), .val (.long pp), .second, .val (.long qq), .second, .val (.long (Int64.ofNat a)), .second, .val (.long (Int64.ofNat b)), .second, .val (.int (Int32.ofNat LF)), .val (.int (Int32.ofNat RF)), .val (.int (Int32.ofNat AT)), .val (.ref a1), .val (.ref a2), .val (.ref a3), .val (.int (Int32.ofNat (LF + sz 8 a))), .val (.int (Int32.ofNat (RF + sz 8 b))), .val (.int (Int32.ofNat (AT + tr a b (sz 8 a)))), .unset, .unset]) rfl ?_
  refine w_lload X6 D0_149 rfl ?_
  refine w_lload X6 D0_151 rfl ?_
  refine w_lsub X6 D0_153 ?_
  rw [nL_sub hab]
  refine w_lstore X6 D0_154 (l' := #[.val (.long x1), .second, .val (.long x2), .second, .val (.int md), .val (.int of), .val (.long pp), .second, .val (.long qq), .second, .val (.long (Int64.ofNat a)), .second, .val (.long (Int64.ofNat b)), .second, .val (.int (Int32.ofNat LF)), .val (.int (Int32.ofNat RF)), .val (.int (Int32.ofNat AT)), .val (.ref a1), .val (.ref a2), .val (.ref a3), .val (.int (Int32.ofNat (LF + sz 8 a))), .val (.int (Int32.ofNat (RF + sz 8 b))), .val (.int (Int32.ofNat (AT + tr a b (sz 8 a)))), .val (.long (Int64.ofNat (a - b))), .second]) rfl ?_
  refine w_iload X6 D0_156 rfl ?_
  refine w_iload X6 D0_158 rfl ?_
  refine w_lload X6 D0_160 rfl ?_
  refine w_static X6 D0_162 (rmL hw X6.sz _ (a - b) (tr a b (sz 8 a)) rfl (by omega) htr.1 hln.2.1 hln.2.2) (hw _ (List.mem_of_getElem? (i := 17) rfl)) (hw _ (List.mem_of_getElem? (i := 18) rfl)) (hw _ (List.mem_of_getElem? (i := 11) rfl)) (hw _ (List.mem_of_getElem? (i := 19) rfl)) (by decide) pd_1 rfl (S := [(.int (Int32.ofNat AT)), (.int (Int32.ofNat (AT + tr a b (sz 8 a))))]) rfl rfl (Nat.le_of_ble_eq_true rfl) (Nat.le_of_ble_eq_true rfl) (Nat.le_of_ble_eq_true rfl) (Nat.le_of_ble_eq_true rfl) (fun v7 T7 h7 X7 q7 => ?_)
  obtain ⟨rfl, rfl⟩ := q7
  show Wp _ _ _ _ _ _ _ _ (mkF m 165 #[.val (.long x1), .second, .val (.long x2), .second, .val (.int md), .val (.int of), .val (.long pp), .second, .val (.long qq), .second, .val (.long (Int64.ofNat a)), .second, .val (.long (Int64.ofNat b)), .second, .val (.int (Int32.ofNat LF)), .val (.int (Int32.ofNat RF)), .val (.int (Int32.ofNat AT)), .val (.ref a1), .val (.ref a2), .val (.ref a3), .val (.int (Int32.ofNat (LF + sz 8 a))), .val (.int (Int32.ofNat (RF + sz 8 b))), .val (.int (Int32.ofNat (AT + tr a b (sz 8 a)))), .val (.long (Int64.ofNat (a - b))), .second] [(.int (Int32.ofNat (tr a b (sz 8 a)))), (.int (Int32.ofNat AT)), (.int (Int32.ofNat (AT + tr a b (sz 8 a))))])
  refine w_iadd X7 D0_165 ?_
  refine w_icmpeq X7 D0_166 (fun hc166 => ?_) (fun hc166 => by exact absurd (n_add _ _).symm hc166)
  refine w_aload X7 D0_171 rfl rfl ?_
  refine w_iload X7 D0_173 rfl ?_
  refine w_iload X7 D0_175 rfl ?_
  refine w_static X7 D0_177 (rmV hw X7.sz _ _ _ AT (tr a b (sz 8 a)) _ rfl rfl (by omega) Bz) (hw _ (List.mem_of_getElem? (i := 32) rfl)) (hw _ (List.mem_of_getElem? (i := 33) rfl)) (hw _ (List.mem_of_getElem? (i := 11) rfl)) (hw _ (List.mem_of_getElem? (i := 34) rfl)) (by decide) pd_5 rfl (S := []) rfl rfl (Nat.le_of_ble_eq_true rfl) (Nat.le_of_ble_eq_true rfl) (Nat.le_of_ble_eq_true rfl) (Nat.le_of_ble_eq_true rfl) (fun v8 T8 h8 X8 q8 => ?_)
  obtain ⟨rfl, rfl⟩ := q8
  show Wp _ _ _ _ _ _ _ _ (mkF m 180 #[.val (.long x1), .second, .val (.long x2), .second, .val (.int md), .val (.int of), .val (.long pp), .second, .val (.long qq), .second, .val (.long (Int64.ofNat a)), .second, .val (.long (Int64.ofNat b)), .second, .val (.int (Int32.ofNat LF)), .val (.int (Int32.ofNat RF)), .val (.int (Int32.ofNat AT)), .val (.ref a1), .val (.ref a2), .val (.ref a3), .val (.int (Int32.ofNat (LF + sz 8 a))), .val (.int (Int32.ofNat (RF + sz 8 b))), .val (.int (Int32.ofNat (AT + tr a b (sz 8 a)))), .val (.long (Int64.ofNat (a - b))), .second] [(.long (Int64.ofNat (hv (gz a b AT (sz 8 a) (fun _ => 0)) AT (tr a b (sz 8 a)))))])
  refine w_lload X8 D0_180 rfl ?_
  refine w_lcmpeq X8 D0_182 D0_183 (fun hc183 => ?_) (fun hc183 => by exact absurd (congrArg Int64.ofNat (own_hv a b AT (sz 8 a) (fun _ => 0) s1 hab haz)) hc183)
  refine w_aload X8 D0_188 rfl rfl ?_
  refine w_iload X8 D0_190 rfl ?_
  have hfl := own_flags a b AT (sz 8 a) (fun _ => 0) s1
  refine w_static X8 D0_192 (rmX hw X8.sz _ _ AT (tr a b (sz 8 a) - 1) _ rfl (by omega) Bz (fun k hk => hfl.1 k (by omega)) hfl.2) (hw _ (List.mem_of_getElem? (i := 35) rfl)) (hw _ (List.mem_of_getElem? (i := 36) rfl)) (hw _ (List.mem_of_getElem? (i := 11) rfl)) (hw _ (List.mem_of_getElem? (i := 37) rfl)) (by decide) pd_6 rfl (S := []) rfl rfl (Nat.le_of_ble_eq_true rfl) (Nat.le_of_ble_eq_true rfl) (Nat.le_of_ble_eq_true rfl) (Nat.le_of_ble_eq_true rfl) (fun v9 T9 h9 X9 q9 => ?_)
  obtain ⟨rfl, rfl⟩ := q9
  show Wp _ _ _ _ _ _ _ _ (mkF m 195 #[.val (.long x1), .second, .val (.long x2), .second, .val (.int md), .val (.int of), .val (.long pp), .second, .val (.long qq), .second, .val (.long (Int64.ofNat a)), .second, .val (.long (Int64.ofNat b)), .second, .val (.int (Int32.ofNat LF)), .val (.int (Int32.ofNat RF)), .val (.int (Int32.ofNat AT)), .val (.ref a1), .val (.ref a2), .val (.ref a3), .val (.int (Int32.ofNat (LF + sz 8 a))), .val (.int (Int32.ofNat (RF + sz 8 b))), .val (.int (Int32.ofNat (AT + tr a b (sz 8 a)))), .val (.long (Int64.ofNat (a - b))), .second] [(.int (Int32.ofNat (AT + (tr a b (sz 8 a) - 1 + 1))))])
  rw [show tr a b (sz 8 a) - 1 + 1 = tr a b (sz 8 a) by omega]
  refine w_iload X9 D0_195 rfl ?_
  refine w_icmpne X9 D0_197 (fun hc197 => by exact absurd rfl hc197) (fun hc197 => ?_)
  refine w_iconst X9 D0_200 (v := (1 : Int32)) rfl ?_
  refine w_goto X9 D0_201 ?_
  exact w_zreturn X9 D0_205 (by decide) (by decide) (rfl)
theorem ef_0 (m : MethodId) (x1 : Int64) (x2 : Int64) (md : Int32) (of : Int32) : entryFrame m #[(.long x1), (.long x2), (.int md), (.int of)] maxLocals = mkF m 0 #[.val (.long x1), .second, .val (.long x2), .second, .val (.int md), .val (.int of), .unset, .unset, .unset, .unset, .unset, .unset, .unset, .unset, .unset, .unset, .unset, .unset, .unset, .unset, .unset, .unset, .unset, .unset, .unset] [] := by first | (simp [entryFrame, mkF, argsToLocals, Value.category, maxLocals]; done) | rfl
theorem pn_0 : plainName "com/example/reducer/reducer/analysis/Base128SubtractPinLaw" = true := by first | (simp [plainName, overriddenIn]; done) | decide +kernel
set_option maxRecDepth 65536 in
set_option maxHeartbeats 40000000 in
theorem rm0 {l : Launch} {Z : State} {a0 : Array Value} {n0 : Nat} {h : Heap} (hw : ∀ d ∈ tables_1, d.before a0 Z = true) (hn : n0 ≤ h.size) (x1 : Int64) (x2 : Int64) (md : Int32) (of : Int32) :
    Ctr l Z n0 x code maxLocals ret room_1 tables_1 #[(.long x1), (.long x2), (.int md), (.int of)] h (fun v h' => v = some (.int 1)) := by
  refine ctr_of (plainFor_of_name pn_0) hw hn ?_
  intro p e s m below meth c T X
  refine Wp.cast (ef_0 m x1 x2 md of) ?_
  refine w_lloadN X D0_0 rfl ?_
  refine w_ldc2 X D0_1 (hw _ (List.mem_of_getElem? (i := 0) rfl)) ?_
  refine w_land X D0_4 ?_
  obtain ⟨Pn, hPn, ePn⟩ := own_63 x1
  rw [ePn]
  refine w_lstore X D0_5 (l' := #[.val (.long x1), .second, .val (.long x2), .second, .val (.int md), .val (.int of), .val (.long (Int64.ofNat Pn)), .second, .unset, .unset, .unset, .unset, .unset, .unset, .unset, .unset, .unset, .unset, .unset, .unset, .unset, .unset, .unset, .unset, .unset]) rfl ?_
  refine w_lloadN X D0_7 rfl ?_
  refine w_ldc2 X D0_8 (hw _ (List.mem_of_getElem? (i := 0) rfl)) ?_
  refine w_land X D0_11 ?_
  obtain ⟨Qn, hQn, eQn⟩ := own_63 x2
  rw [eQn]
  refine w_lstore X D0_12 (l' := #[.val (.long x1), .second, .val (.long x2), .second, .val (.int md), .val (.int of), .val (.long (Int64.ofNat Pn)), .second, .val (.long (Int64.ofNat Qn)), .second, .unset, .unset, .unset, .unset, .unset, .unset, .unset, .unset, .unset, .unset, .unset, .unset, .unset, .unset, .unset]) rfl ?_
  refine w_iload X D0_14 rfl ?_
  refine w_iconst X D0_16 (v := (1 : Int32)) rfl ?_
  refine w_iand X D0_17 ?_
  refine w_ifeq X D0_18 (fun hc18 => ?_) (fun hc18 => ?_)
  · refine w_lload X D0_48 rfl ?_
    refine w_lload X D0_50 rfl ?_
    refine w_static X D0_52 (rmMaxL hw X.sz _ _ Pn Qn hPn hQn rfl rfl) (hw _ (List.mem_of_getElem? (i := 1) rfl)) (hw _ (List.mem_of_getElem? (i := 2) rfl)) (hw _ (List.mem_of_getElem? (i := 3) rfl)) (hw _ (List.mem_of_getElem? (i := 4) rfl)) (by decide) pd_7 rfl (S := []) rfl rfl (Nat.le_of_ble_eq_true rfl) (Nat.le_of_ble_eq_true rfl) (Nat.le_of_ble_eq_true rfl) (Nat.le_of_ble_eq_true rfl) (fun v1 T1 h1 X1 q1 => ?_)
    obtain ⟨rfl, rfl⟩ := q1
    show Wp _ _ _ _ _ _ _ _ (mkF m 55 #[.val (.long x1), .second, .val (.long x2), .second, .val (.int md), .val (.int of), .val (.long (Int64.ofNat Pn)), .second, .val (.long (Int64.ofNat Qn)), .second, .unset, .unset, .unset, .unset, .unset, .unset, .unset, .unset, .unset, .unset, .unset, .unset, .unset, .unset, .unset] [(.long (Int64.ofNat (max Pn Qn)))])
    refine w_lstore X1 D0_55 (l' := #[.val (.long x1), .second, .val (.long x2), .second, .val (.int md), .val (.int of), .val (.long (Int64.ofNat Pn)), .second, .val (.long (Int64.ofNat Qn)), .second, .val (.long (Int64.ofNat (max Pn Qn))), .second, .unset, .unset, .unset, .unset, .unset, .unset, .unset, .unset, .unset, .unset, .unset, .unset, .unset]) rfl ?_
    refine w_lload X1 D0_57 rfl ?_
    refine w_lload X1 D0_59 rfl ?_
    refine w_static X1 D0_61 (rmMinL hw X1.sz _ _ Pn Qn hPn (by omega) rfl rfl) (hw _ (List.mem_of_getElem? (i := 5) rfl)) (hw _ (List.mem_of_getElem? (i := 6) rfl)) (hw _ (List.mem_of_getElem? (i := 3) rfl)) (hw _ (List.mem_of_getElem? (i := 7) rfl)) (by decide) pd_7 rfl (S := []) rfl rfl (Nat.le_of_ble_eq_true rfl) (Nat.le_of_ble_eq_true rfl) (Nat.le_of_ble_eq_true rfl) (Nat.le_of_ble_eq_true rfl) (fun v2 T2 h2 X2 q2 => ?_)
    obtain ⟨rfl, rfl⟩ := q2
    show Wp _ _ _ _ _ _ _ _ (mkF m 64 #[.val (.long x1), .second, .val (.long x2), .second, .val (.int md), .val (.int of), .val (.long (Int64.ofNat Pn)), .second, .val (.long (Int64.ofNat Qn)), .second, .val (.long (Int64.ofNat (max Pn Qn))), .second, .unset, .unset, .unset, .unset, .unset, .unset, .unset, .unset, .unset, .unset, .unset, .unset, .unset] [(.long (Int64.ofNat (min Pn Qn)))])
    refine w_lstore X2 D0_64 (l' := #[.val (.long x1), .second, .val (.long x2), .second, .val (.int md), .val (.int of), .val (.long (Int64.ofNat Pn)), .second, .val (.long (Int64.ofNat Qn)), .second, .val (.long (Int64.ofNat (max Pn Qn))), .second, .val (.long (Int64.ofNat (min Pn Qn))), .second, .unset, .unset, .unset, .unset, .unset, .unset, .unset, .unset, .unset, .unset, .unset]) rfl ?_
    exact law2 hw X2 x1 x2 md of _ _ (max Pn Qn) (min Pn Qn) (by omega) (by omega)
  · refine w_lload X D0_21 rfl ?_
    refine w_lstore X D0_23 (l' := #[.val (.long x1), .second, .val (.long x2), .second, .val (.int md), .val (.int of), .val (.long (Int64.ofNat Pn)), .second, .val (.long (Int64.ofNat Qn)), .second, .val (.long (Int64.ofNat Pn)), .second, .unset, .unset, .unset, .unset, .unset, .unset, .unset, .unset, .unset, .unset, .unset, .unset, .unset]) rfl ?_
    refine w_lload X D0_25 rfl ?_
    refine w_lload X D0_27 rfl ?_
    refine w_lload X D0_29 rfl ?_
    refine w_iload X D0_31 rfl ?_
    refine w_iconst X D0_33 (v := (1 : Int32)) rfl ?_
    refine w_iushr X D0_34 ?_
    refine w_bipush X D0_35 (v := (63 : Int32)) rfl ?_
    refine w_iand X D0_37 ?_
    refine w_lushr X D0_38 ?_
    obtain ⟨s6, hs6, es6⟩ : ∃ s6 : Nat, s6 < 64 ∧ jushr md 1 &&& 63 = Int32.ofNat s6 := ⟨_, by omega, n_mask (jushr md 1) 6 (by decide) (m := 63) (by decide)⟩
    have hdv := Nat.div_le_self Qn (2 ^ s6)
    rw [es6, nL_ushr hQn hs6]
    refine w_static X D0_39 (rmMinL hw X.sz _ _ Pn (Qn / 2 ^ s6) hPn (by omega) rfl rfl) (hw _ (List.mem_of_getElem? (i := 5) rfl)) (hw _ (List.mem_of_getElem? (i := 6) rfl)) (hw _ (List.mem_of_getElem? (i := 3) rfl)) (hw _ (List.mem_of_getElem? (i := 7) rfl)) (by decide) pd_7 rfl (S := [(.long (Int64.ofNat Pn))]) rfl rfl (Nat.le_of_ble_eq_true rfl) (Nat.le_of_ble_eq_true rfl) (Nat.le_of_ble_eq_true rfl) (Nat.le_of_ble_eq_true rfl) (fun v3 T3 h3 X3 q3 => ?_)
    obtain ⟨rfl, rfl⟩ := q3
    show Wp _ _ _ _ _ _ _ _ (mkF m 42 #[.val (.long x1), .second, .val (.long x2), .second, .val (.int md), .val (.int of), .val (.long (Int64.ofNat Pn)), .second, .val (.long (Int64.ofNat Qn)), .second, .val (.long (Int64.ofNat Pn)), .second, .unset, .unset, .unset, .unset, .unset, .unset, .unset, .unset, .unset, .unset, .unset, .unset, .unset] [(.long (Int64.ofNat (min Pn (Qn / 2 ^ s6)))), (.long (Int64.ofNat Pn))])
    refine w_lsub X3 D0_42 ?_
    rw [nL_sub (show min Pn (Qn / 2 ^ s6) ≤ Pn by omega)]
    refine w_lstore X3 D0_43 (l' := #[.val (.long x1), .second, .val (.long x2), .second, .val (.int md), .val (.int of), .val (.long (Int64.ofNat Pn)), .second, .val (.long (Int64.ofNat Qn)), .second, .val (.long (Int64.ofNat Pn)), .second, .val (.long (Int64.ofNat (Pn - min Pn (Qn / 2 ^ s6)))), .second, .unset, .unset, .unset, .unset, .unset, .unset, .unset, .unset, .unset, .unset, .unset]) rfl ?_
    refine w_goto X3 D0_45 ?_
    exact law2 hw X3 x1 x2 md of _ _ Pn (Pn - min Pn (Qn / 2 ^ s6)) hPn (Nat.sub_le _ _)
set_option maxRecDepth 65536 in
set_option maxHeartbeats 40000000 in
theorem comes_1 {Post : Tables → Env → Array Value → State → Outcome → State → Prop} (hpost : ∀ tb e args s v u, (limb_1_1.after args s (.returned v) u = true ∧ limb_1_2.after args s (.returned v) u = true ∧ True) → FrameEnd s (.returned v) u (Jvm.fieldLocs frame_1_writes args s ++ Jvm.arrayLocs frame_1_arrays args s ++ Jvm.staticLocs frame_1_statics s) 16 192 → Post tb e args s (.returned v) u) :
    ArmFor flags0 classFile x code maxLocals ret World_1 tables_1 room_1 Calls_1 rest_1 Pre_1 Post := by
  intro l hfl _ _ p e ha hc hk s m args below hf hA hF happ hP
  obtain ⟨hcalls, hrest, hpre⟩ := hP
  obtain ⟨-, -, -, hnamed, -, -, -, hat⟩ := (Spec.applies_iff hf).mp happ
  obtain ⟨hg, hn⟩ := and_e (Cond.before_iff.mp (show (Jvm.Cond.and given_1 narrow_1).before args s = true from hpre))
  obtain ⟨hcount, g0⟩ := and_e hg
  obtain ⟨ga0, g1⟩ := and_e g0
  obtain ⟨ga1, g2⟩ := and_e g1
  obtain ⟨ga2, g3⟩ := and_e g2
  obtain ⟨w0, w1, w2, w3, rfl⟩ : ∃ w0 w1 w2 w3 : Value, args = #[w0, w1, w2, w3] := by
    have hs : args.size = 4 := by simpa [Cond.value, given_1] using hcount
    obtain ⟨L⟩ := args
    match L, hs with
    | [w0, w1, w2, w3], _ => exact ⟨w0, w1, w2, w3, rfl⟩
  have hw := fun d (hd : d ∈ tables_1) => atoms_spec (ws := Jvm.Cond.code x code maxLocals ret :: tables_1) hat d (List.mem_cons_of_mem _ hd)
  obtain ⟨i0, ei0⟩ := isL_v ga0
  obtain rfl : w0 = (.long i0) := Option.some.inj ei0
  obtain ⟨i1, ei1⟩ := isL_v ga1
  obtain rfl : w1 = (.long i1) := Option.some.inj ei1
  obtain ⟨i2, ei2⟩ := is_v ga2
  obtain rfl : w2 = (.int i2) := Option.some.inj ei2
  obtain ⟨i3, ei3⟩ := is_v g3
  obtain rfl : w3 = (.int i3) := Option.some.inj ei3
  obtain ⟨n, o, h1, h2, h3, _, L, rfl, ⟨N, -, rfl⟩, hq⟩ := rm0 (l := l) (Z := s) (n0 := s.heap.size) (h := s.heap) hw (Nat.le_refl _) i0 i1 i2 i3 p e ha hc hk s m _ below hf ((Spec.applies_iff_loose hf).mp happ).1 ⟨rfl, State.Warmed39.refl s, rfl⟩ trivial
  refine ⟨n, _, h1, h2, h3, hpost _ _ _ _ _ _ ⟨Cond.after_iff.mpr rfl, Cond.after_iff.mpr (eq_i res_at (Term.int_eval (1)) rfl), trivial⟩ ⟨hq.1, hq.2.1, (hq.2.2.sift fun y hy => Or.inr (N y hy)).mono (by decide) (by decide)⟩⟩
theorem main_1_1 : Claimed_1_1 := comes_1 fun _ _ _ _ _ _ h hF => ⟨h.1, hF⟩
theorem main_1_2 : Claimed_1_2 := comes_1 fun _ _ _ _ _ _ h hF => ⟨h.2.1, hF⟩
end Jvm.Pilot.@@N@@
namespace Jvm.Pilot.@@N@@
open Jvm Jvm.ClassFile Sem Op Lib Jvm.Free Jvm.Stand Jvm.Pilot.@@N@@.Jvm.D
/-! MADE BY PROGRAM (witnessworld.py) out of the Statement's table words and the real class files: 16 classes; the members and pool entries that the words name. The judged class is class 1, her method 1. -/
namespace start1
open Jvm.ClassFile
def u (s : String) : CpInfo := .utf8 (stringToUtf16 s)
/-- a pool by its gaps: so many unusable entries, then the entry; so many at the end -/
def gap : Nat → List CpInfo → List CpInfo
  | 0, r => r
  | n + 1, r => .unusable :: gap n r
def poolList (es : List (Nat × CpInfo)) (last : Nat) : List CpInfo := es.foldr (fun e r => gap e.1 (e.2 :: r)) (gap last [])
def pool (es : List (Nat × CpInfo)) (last : Nat) : Array CpInfo := ⟨poolList es last⟩
def fileOf (pool : Array CpInfo) (this : Nat) (attrs : Array Attribute := #[]) (ms : Array MethodInfo := #[]) (fl : Nat := 33) (sup : Nat := 0) (ifs : Array Nat := #[]) (fds : Array FieldInfo := #[]) : ClassFile where
  minorVersion := 0
  majorVersion := 65
  constantPool := pool
  accessFlags := fl
  thisClass := this
  superClass := sup
  interfaces := ifs
  fields := fds
  methods := ms
  attributes := attrs
def plain (name : String) (sup : Option ClassId) : Class where
  name := name
  kind := .ordinary
  loader := none
  accessFlags := 33
  super := sup
  interfaces := #[]
  cf := none
  fields := #[]
  methods := #[]
  instanceTypes := #[]
  staticTypes := #[]
  resolved := #[]
  callSites := []
  init := .initialized
  statics := none
  mirror := none

def pool0 : Array CpInfo := pool [(5, u "<init>"), (0, u "()V"), (1, .class_ 10), (1, u "java/lang/Object")] 113

def k0m0 : Method := { name := "<init>", desc := "()V", sig := { parameters := [], returnType := none }, accessFlags := 1, code := none }
/-- java/lang/Object -/
def k0 : Class := { plain "java/lang/Object" none with
  accessFlags := 33
  interfaces := #[]
  cf := some (fileOf pool0 8 #[] #[{ accessFlags := 1, nameIndex := 5, descriptorIndex := 6, attributes := #[] }] 33 0 #[] #[])
  fields := #[]
  methods := #[k0m0]
  instanceTypes := #[]
  staticTypes := #[]
  resolved := Array.replicate 124 none
  statics := none }

def pool1 : Array CpInfo := pool [(2, .class_ 4), (1, u "java/lang/Object"), (0, u "<init>"), (0, u "()V"), (0, .long 9223372036854775807), (1, .methodref 10 11), (0, .class_ 12), (0, .nameAndType 13 14), (0, u "java/lang/Math"), (0, u "min"), (0, u "(JJ)J"), (0, .methodref 10 16), (0, .nameAndType 17 14), (0, u "max"), (0, .methodref 19 20), (0, .class_ 21), (0, .nameAndType 22 23), (0, u "com/example/reducer/reducer/analysis/Base128"), (0, u "write"), (0, u "(J[BI)I"), (0, .methodref 19 25), (0, .nameAndType 26 27), (0, u "subtract"), (0, u "([BII[BII[BI)I"), (0, .methodref 19 29), (0, .nameAndType 30 31), (0, u "length"), (0, u "(J)I"), (0, .methodref 19 33), (0, .nameAndType 34 35), (0, u "longValue"), (0, u "([BII)J"), (0, .methodref 19 37), (0, .nameAndType 38 39), (0, u "end"), (0, u "([BI)I"), (0, .class_ 41), (0, u "com/example/reducer/reducer/analysis/Base128SubtractPinLaw"), (2, u "law"), (0, u "(JJII)Z")] 5

def k1m0 : Method := { name := "<init>", desc := "()V", sig := { parameters := [], returnType := none }, accessFlags := 2, code := none }
def k1c1 : Code := { maxStack := 8, maxLocals := 25, code := code, exceptionTable := #[], attributes := #[] }
def k1m1 : Method := { name := "law", desc := "(JJII)Z", sig := { parameters := [.long, .long, .int, .int], returnType := some .boolean }, accessFlags := 9, code := some k1c1 }
/-- com/example/reducer/reducer/analysis/Base128SubtractPinLaw -/
def k1 : Class := { plain "com/example/reducer/reducer/analysis/Base128SubtractPinLaw" (some 0) with
  accessFlags := 49
  interfaces := #[]
  cf := some (fileOf pool1 40 #[] #[{ accessFlags := 2, nameIndex := 5, descriptorIndex := 6, attributes := #[] }, { accessFlags := 9, nameIndex := 44, descriptorIndex := 45, attributes := #[] }] 49 2 #[] #[])
  fields := #[]
  methods := #[k1m0, k1m1]
  instanceTypes := #[]
  staticTypes := #[]
  resolved := Array.replicate 51 none
  statics := none }

def pool2 : Array CpInfo := pool [(1, .class_ 2), (0, u "java/lang/Math"), (1, .class_ 6), (1, u "java/lang/Object"), (0, u "<init>"), (0, u "()V"), (89, .class_ 100), (1, u "java/lang/Math$RandomNumberGeneratorHolder"), (20, u "(JJ)J"), (50, u "negativeZeroFloatBits"), (0, u "J"), (2, u "negativeZeroDoubleBits"), (21, u "max"), (2, u "min"), (43, u "$assertionsDisabled"), (0, u "Z"), (88, u "(II)I"), (2, u "twoToTheDoubleScaleDown"), (0, u "D"), (4, u "twoToTheDoubleScaleUp"), (9, u "E"), (3, u "PI"), (2, u "TAU"), (2, u "DEGREES_TO_RADIANS"), (0, u "RADIANS_TO_DEGREES")] 94

def k2m0 : Method := { name := "<init>", desc := "()V", sig := { parameters := [], returnType := none }, accessFlags := 2, code := none }
def k2c1 : Code := { maxStack := 2, maxLocals := 2, code := jdk_29_method_65_code, exceptionTable := #[], attributes := #[] }
def k2m1 : Method := { name := "max", desc := "(II)I", sig := { parameters := [.int, .int], returnType := some .int }, accessFlags := 9, code := some k2c1 }
def k2c2 : Code := { maxStack := 4, maxLocals := 4, code := jdk_29_method_66_code, exceptionTable := #[], attributes := #[] }
def k2m2 : Method := { name := "max", desc := "(JJ)J", sig := { parameters := [.long, .long], returnType := some .long }, accessFlags := 9, code := some k2c2 }
def k2c3 : Code := { maxStack := 4, maxLocals := 4, code := jdk_29_method_70_code, exceptionTable := #[], attributes := #[] }
def k2m3 : Method := { name := "min", desc := "(JJ)J", sig := { parameters := [.long, .long], returnType := some .long }, accessFlags := 9, code := some k2c3 }
/-- java/lang/Math -/
def k2 : Class := { plain "java/lang/Math" (some 0) with
  accessFlags := 49
  interfaces := #[]
  cf := some (fileOf pool2 1 #[.nestMembers #[98]] #[{ accessFlags := 2, nameIndex := 7, descriptorIndex := 8, attributes := #[] }, { accessFlags := 9, nameIndex := 198, descriptorIndex := 335, attributes := #[] }, { accessFlags := 9, nameIndex := 198, descriptorIndex := 121, attributes := #[] }, { accessFlags := 9, nameIndex := 201, descriptorIndex := 121, attributes := #[] }] 49 4 #[] #[{ accessFlags := 25, nameIndex := 354, descriptorIndex := 339, attributes := #[] }, { accessFlags := 25, nameIndex := 358, descriptorIndex := 339, attributes := #[] }, { accessFlags := 25, nameIndex := 361, descriptorIndex := 339, attributes := #[] }, { accessFlags := 26, nameIndex := 364, descriptorIndex := 339, attributes := #[] }, { accessFlags := 26, nameIndex := 365, descriptorIndex := 339, attributes := #[] }, { accessFlags := 26, nameIndex := 172, descriptorIndex := 173, attributes := #[] }, { accessFlags := 26, nameIndex := 176, descriptorIndex := 173, attributes := #[] }, { accessFlags := 8, nameIndex := 344, descriptorIndex := 339, attributes := #[] }, { accessFlags := 8, nameIndex := 338, descriptorIndex := 339, attributes := #[] }, { accessFlags := 4120, nameIndex := 245, descriptorIndex := 246, attributes := #[] }])
  fields := #[{ name := "E", type := .double, accessFlags := 25, slot := 0, constantValue := 0 }, { name := "PI", type := .double, accessFlags := 25, slot := 1, constantValue := 0 }, { name := "TAU", type := .double, accessFlags := 25, slot := 2, constantValue := 0 }, { name := "DEGREES_TO_RADIANS", type := .double, accessFlags := 26, slot := 3, constantValue := 0 }, { name := "RADIANS_TO_DEGREES", type := .double, accessFlags := 26, slot := 4, constantValue := 0 }, { name := "negativeZeroFloatBits", type := .long, accessFlags := 26, slot := 5, constantValue := 0 }, { name := "negativeZeroDoubleBits", type := .long, accessFlags := 26, slot := 6, constantValue := 0 }, { name := "twoToTheDoubleScaleUp", type := .double, accessFlags := 8, slot := 7, constantValue := 0 }, { name := "twoToTheDoubleScaleDown", type := .double, accessFlags := 8, slot := 8, constantValue := 0 }, { name := "$assertionsDisabled", type := .boolean, accessFlags := 4120, slot := 9, constantValue := 0 }]
  methods := #[k2m0, k2m1, k2m2, k2m3]
  instanceTypes := #[]
  staticTypes := #[.double, .double, .double, .double, .double, .long, .long, .double, .double, .boolean]
  resolved := Array.replicate 460 none
  statics := none }

def pool3 : Array CpInfo := pool [(2, .class_ 4), (1, u "java/lang/Object"), (0, u "<init>"), (0, u "()V"), (0, .class_ 8), (0, u "com/example/reducer/reducer/analysis/Base128"), (6, .methodref 16 17), (0, .class_ 18), (0, .nameAndType 19 20), (0, u "java/lang/Math"), (0, u "max"), (0, u "(II)I"), (4, .long 127), (1, .long 128), (1, .class_ 30), (0, u "java/lang/Long"), (0, .methodref 29 32), (0, .nameAndType 33 34), (0, u "numberOfLeadingZeros"), (0, u "(J)I"), (10, u "LONG_DIGITS"), (0, u "I"), (2, u "DIGIT"), (1, u "MORE"), (1, u "BITS"), (3, u "end"), (0, u "([BI)I"), (5, u "write"), (0, u "(J[BI)I"), (0, u "length"), (2, u "longValue"), (0, u "([BII)J"), (2, u "([BII[BII[BI)I"), (2, u "subtract")] 2

def k3m0 : Method := { name := "<init>", desc := "()V", sig := { parameters := [], returnType := none }, accessFlags := 2, code := none }
def k3c1 : Code := { maxStack := 2, maxLocals := 3, code := prog_1_method_2_code, exceptionTable := #[], attributes := #[] }
def k3m1 : Method := { name := "end", desc := "([BI)I", sig := { parameters := [(.array .byte), .int], returnType := some .int }, accessFlags := 8, code := some k3c1 }
def k3c2 : Code := { maxStack := 6, maxLocals := 7, code := prog_1_method_4_code, exceptionTable := #[], attributes := #[] }
def k3m2 : Method := { name := "write", desc := "(J[BI)I", sig := { parameters := [.long, (.array .byte), .int], returnType := some .int }, accessFlags := 8, code := some k3c2 }
def k3c3 : Code := { maxStack := 4, maxLocals := 2, code := prog_1_method_5_code, exceptionTable := #[], attributes := #[] }
def k3m3 : Method := { name := "length", desc := "(J)I", sig := { parameters := [.long], returnType := some .int }, accessFlags := 8, code := some k3c3 }
def k3c4 : Code := { maxStack := 4, maxLocals := 6, code := prog_1_method_7_code, exceptionTable := #[], attributes := #[] }
def k3m4 : Method := { name := "longValue", desc := "([BII)J", sig := { parameters := [(.array .byte), .int, .int], returnType := some .long }, accessFlags := 8, code := some k3c4 }
def k3c5 : Code := { maxStack := 4, maxLocals := 13, code := prog_1_method_11_code, exceptionTable := #[], attributes := #[] }
def k3m5 : Method := { name := "subtract", desc := "([BII[BII[BI)I", sig := { parameters := [(.array .byte), .int, .int, (.array .byte), .int, .int, (.array .byte), .int], returnType := some .int }, accessFlags := 8, code := some k3c5 }
/-- com/example/reducer/reducer/analysis/Base128 -/
def k3 : Class := { plain "com/example/reducer/reducer/analysis/Base128" (some 0) with
  accessFlags := 32
  interfaces := #[]
  cf := some (fileOf pool3 7 #[] #[{ accessFlags := 2, nameIndex := 5, descriptorIndex := 6, attributes := #[] }, { accessFlags := 8, nameIndex := 57, descriptorIndex := 58, attributes := #[] }, { accessFlags := 8, nameIndex := 64, descriptorIndex := 65, attributes := #[] }, { accessFlags := 8, nameIndex := 66, descriptorIndex := 34, attributes := #[] }, { accessFlags := 8, nameIndex := 69, descriptorIndex := 70, attributes := #[] }, { accessFlags := 8, nameIndex := 76, descriptorIndex := 73, attributes := #[] }] 32 2 #[] #[{ accessFlags := 24, nameIndex := 45, descriptorIndex := 46, attributes := #[] }, { accessFlags := 26, nameIndex := 49, descriptorIndex := 46, attributes := #[] }, { accessFlags := 26, nameIndex := 51, descriptorIndex := 46, attributes := #[] }, { accessFlags := 26, nameIndex := 53, descriptorIndex := 46, attributes := #[] }])
  fields := #[{ name := "LONG_DIGITS", type := .int, accessFlags := 24, slot := 0, constantValue := 0 }, { name := "DIGIT", type := .int, accessFlags := 26, slot := 1, constantValue := 0 }, { name := "MORE", type := .int, accessFlags := 26, slot := 2, constantValue := 0 }, { name := "BITS", type := .int, accessFlags := 26, slot := 3, constantValue := 0 }]
  methods := #[k3m0, k3m1, k3m2, k3m3, k3m4, k3m5]
  instanceTypes := #[]
  staticTypes := #[.int, .int, .int, .int]
  resolved := Array.replicate 79 none
  statics := none }

def pool4 : Array CpInfo := pool [(1, .class_ 2), (0, u "java/io/Serializable"), (0, .class_ 4), (0, u "java/lang/Object")] 2

/-- java/io/Serializable -/
def k4 : Class := { plain "java/io/Serializable" (some 0) with
  accessFlags := 1537
  interfaces := #[]
  cf := some (fileOf pool4 1 #[] #[] 1537 3 #[] #[])
  fields := #[]
  methods := #[]
  instanceTypes := #[]
  staticTypes := #[]
  resolved := Array.replicate 7 none
  statics := none }

def pool5 : Array CpInfo := pool [(2, .class_ 4), (1, u "java/lang/Object"), (0, u "<init>"), (0, u "()V"), (1, .class_ 10), (1, u "java/lang/Number"), (2, .class_ 14), (0, u "java/io/Serializable"), (0, u "serialVersionUID"), (0, u "J")] 20

def k5m0 : Method := { name := "<init>", desc := "()V", sig := { parameters := [], returnType := none }, accessFlags := 1, code := none }
/-- java/lang/Number -/
def k5 : Class := { plain "java/lang/Number" (some 0) with
  accessFlags := 1057
  interfaces := #[4]
  cf := some (fileOf pool5 8 #[] #[{ accessFlags := 1, nameIndex := 5, descriptorIndex := 6, attributes := #[] }] 1057 2 #[13] #[{ accessFlags := 26, nameIndex := 15, descriptorIndex := 16, attributes := #[] }])
  fields := #[{ name := "serialVersionUID", type := .long, accessFlags := 26, slot := 0, constantValue := 0 }]
  methods := #[k5m0]
  instanceTypes := #[]
  staticTypes := #[.long]
  resolved := Array.replicate 37 none
  statics := none }

def pool6 : Array CpInfo := pool [(1, .class_ 2), (0, u "java/lang/Comparable"), (0, .class_ 4), (0, u "java/lang/Object")] 7

/-- java/lang/Comparable -/
def k6 : Class := { plain "java/lang/Comparable" (some 0) with
  accessFlags := 1537
  interfaces := #[]
  cf := some (fileOf pool6 1 #[] #[] 1537 3 #[] #[])
  fields := #[]
  methods := #[]
  instanceTypes := #[]
  staticTypes := #[]
  resolved := Array.replicate 12 none
  statics := none }

def pool7 : Array CpInfo := pool [(1, .class_ 2), (0, u "java/lang/constant/Constable"), (0, .class_ 4), (0, u "java/lang/Object")] 6

/-- java/lang/constant/Constable -/
def k7 : Class := { plain "java/lang/constant/Constable" (some 0) with
  accessFlags := 1537
  interfaces := #[]
  cf := some (fileOf pool7 1 #[] #[] 1537 3 #[] #[])
  fields := #[]
  methods := #[]
  instanceTypes := #[]
  staticTypes := #[]
  resolved := Array.replicate 11 none
  statics := none }

def pool8 : Array CpInfo := pool [(1, .class_ 2), (0, u "java/lang/constant/ConstantDesc"), (0, .class_ 4), (0, u "java/lang/Object")] 32

/-- java/lang/constant/ConstantDesc -/
def k8 : Class := { plain "java/lang/constant/ConstantDesc" (some 0) with
  accessFlags := 1537
  interfaces := #[]
  cf := some (fileOf pool8 1 #[] #[] 1537 3 #[] #[])
  fields := #[]
  methods := #[]
  instanceTypes := #[]
  staticTypes := #[]
  resolved := Array.replicate 37 none
  statics := none }

def pool9 : Array CpInfo := pool [(1, .class_ 2), (0, u "java/lang/Long"), (15, .class_ 20), (1, u "java/lang/Integer"), (79, u "numberOfLeadingZeros"), (0, u "(J)I"), (133, .class_ 237), (1, u "java/lang/Long$LongCache"), (33, .class_ 272), (0, u "java/lang/Number"), (2, u "value"), (0, u "J"), (31, .methodref 18 309), (0, .nameAndType 100 310), (0, u "(I)I"), (50, u "TYPE"), (0, u "Ljava/lang/Class;"), (0, .class_ 364), (0, u "java/lang/Comparable"), (0, .class_ 366), (0, u "java/lang/constant/Constable"), (0, .class_ 368), (0, u "java/lang/constant/ConstantDesc"), (0, u "MIN_VALUE"), (1, u "MAX_VALUE"), (4, u "SIZE"), (0, u "I"), (1, u "BYTES"), (1, u "serialVersionUID")] 142

def k9c0 : Code := { maxStack := 3, maxLocals := 3, code := jdk_35_method_48_code, exceptionTable := #[], attributes := #[] }
def k9m0 : Method := { name := "numberOfLeadingZeros", desc := "(J)I", sig := { parameters := [.long], returnType := some .int }, accessFlags := 9, code := some k9c0 }
/-- java/lang/Long -/
def k9 : Class := { plain "java/lang/Long" (some 5) with
  accessFlags := 49
  interfaces := #[6, 7, 8]
  cf := some (fileOf pool9 1 #[.nestMembers #[235]] #[{ accessFlags := 9, nameIndex := 100, descriptorIndex := 101, attributes := #[] }] 49 271 #[363, 365, 367] #[{ accessFlags := 25, nameIndex := 369, descriptorIndex := 276, attributes := #[] }, { accessFlags := 25, nameIndex := 371, descriptorIndex := 276, attributes := #[] }, { accessFlags := 25, nameIndex := 361, descriptorIndex := 362, attributes := #[] }, { accessFlags := 18, nameIndex := 275, descriptorIndex := 276, attributes := #[] }, { accessFlags := 25, nameIndex := 376, descriptorIndex := 377, attributes := #[] }, { accessFlags := 25, nameIndex := 379, descriptorIndex := 377, attributes := #[] }, { accessFlags := 26, nameIndex := 381, descriptorIndex := 276, attributes := #[] }])
  fields := #[{ name := "MIN_VALUE", type := .long, accessFlags := 25, slot := 0, constantValue := 0 }, { name := "MAX_VALUE", type := .long, accessFlags := 25, slot := 1, constantValue := 0 }, { name := "TYPE", type := (.object "java/lang/Class"), accessFlags := 25, slot := 2, constantValue := 0 }, { name := "value", type := .long, accessFlags := 18, slot := 0, constantValue := 0 }, { name := "SIZE", type := .int, accessFlags := 25, slot := 3, constantValue := 0 }, { name := "BYTES", type := .int, accessFlags := 25, slot := 4, constantValue := 0 }, { name := "serialVersionUID", type := .long, accessFlags := 26, slot := 5, constantValue := 0 }]
  methods := #[k9m0]
  instanceTypes := #[.long]
  staticTypes := #[.long, .long, (.object "java/lang/Class"), .int, .int, .long]
  resolved := Array.replicate 524 none
  statics := none }

def pool10 : Array CpInfo := pool [(1, .class_ 2), (0, u "java/lang/Integer"), (16, u "digits"), (0, u "[C"), (32, u "numberOfLeadingZeros"), (0, u "(I)I"), (30, u "DigitOnes"), (0, u "[B"), (2, u "DigitTens"), (99, .class_ 190), (0, u "java/lang/Integer$IntegerCache"), (3, u "I"), (8, .class_ 204), (0, u "java/lang/Number"), (2, u "value"), (56, .integer 65536), (37, u "TYPE"), (0, u "Ljava/lang/Class;"), (0, .class_ 305), (0, u "java/lang/Comparable"), (0, .class_ 307), (0, u "java/lang/constant/Constable"), (0, .class_ 309), (0, u "java/lang/constant/ConstantDesc"), (0, u "MIN_VALUE"), (1, u "MAX_VALUE"), (3, u "SIZE"), (1, u "BYTES"), (1, u "serialVersionUID"), (0, u "J")] 131

def k10c0 : Code := { maxStack := 3, maxLocals := 2, code := jdk_33_method_47_code, exceptionTable := #[], attributes := #[] }
def k10m0 : Method := { name := "numberOfLeadingZeros", desc := "(I)I", sig := { parameters := [.int], returnType := some .int }, accessFlags := 9, code := some k10c0 }
/-- java/lang/Integer -/
def k10 : Class := { plain "java/lang/Integer" (some 5) with
  accessFlags := 49
  interfaces := #[6, 7, 8]
  cf := some (fileOf pool10 1 #[.nestMembers #[189]] #[{ accessFlags := 9, nameIndex := 53, descriptorIndex := 54, attributes := #[] }] 49 203 #[304, 306, 308] #[{ accessFlags := 25, nameIndex := 310, descriptorIndex := 194, attributes := #[] }, { accessFlags := 25, nameIndex := 312, descriptorIndex := 194, attributes := #[] }, { accessFlags := 25, nameIndex := 302, descriptorIndex := 303, attributes := #[] }, { accessFlags := 24, nameIndex := 19, descriptorIndex := 20, attributes := #[] }, { accessFlags := 24, nameIndex := 89, descriptorIndex := 86, attributes := #[] }, { accessFlags := 24, nameIndex := 85, descriptorIndex := 86, attributes := #[] }, { accessFlags := 18, nameIndex := 207, descriptorIndex := 194, attributes := #[] }, { accessFlags := 25, nameIndex := 316, descriptorIndex := 194, attributes := #[] }, { accessFlags := 25, nameIndex := 318, descriptorIndex := 194, attributes := #[] }, { accessFlags := 26, nameIndex := 320, descriptorIndex := 321, attributes := #[] }])
  fields := #[{ name := "MIN_VALUE", type := .int, accessFlags := 25, slot := 0, constantValue := 0 }, { name := "MAX_VALUE", type := .int, accessFlags := 25, slot := 1, constantValue := 0 }, { name := "TYPE", type := (.object "java/lang/Class"), accessFlags := 25, slot := 2, constantValue := 0 }, { name := "digits", type := (.array .char), accessFlags := 24, slot := 3, constantValue := 0 }, { name := "DigitTens", type := (.array .byte), accessFlags := 24, slot := 4, constantValue := 0 }, { name := "DigitOnes", type := (.array .byte), accessFlags := 24, slot := 5, constantValue := 0 }, { name := "value", type := .int, accessFlags := 18, slot := 0, constantValue := 0 }, { name := "SIZE", type := .int, accessFlags := 25, slot := 6, constantValue := 0 }, { name := "BYTES", type := .int, accessFlags := 25, slot := 7, constantValue := 0 }, { name := "serialVersionUID", type := .long, accessFlags := 26, slot := 8, constantValue := 0 }]
  methods := #[k10m0]
  instanceTypes := #[.int]
  staticTypes := #[.int, .int, (.object "java/lang/Class"), (.array .char), (.array .byte), (.array .byte), .int, .int, .long]
  resolved := Array.replicate 453 none
  statics := none }

def pool11 : Array CpInfo := pool [(1, u "java/lang/Cloneable"), (0, .class_ 1), (0, u "java/lang/Object"), (0, .class_ 3)] 3

/-- java/lang/Cloneable -/
def k11 : Class := { plain "java/lang/Cloneable" (some 0) with
  accessFlags := 1537
  interfaces := #[]
  cf := some (fileOf pool11 2 #[] #[] 1537 4 #[] #[])
  fields := #[]
  methods := #[]
  instanceTypes := #[]
  staticTypes := #[]
  resolved := Array.replicate 8 none
  statics := none }

/-- the primitive byte -/
def k12 : Class := { plain "byte" none with kind := .primitive 'B', accessFlags := 0x411 }
/-- [B -/
def k13 : Class := { plain "[B" (some 0) with kind := .array 12 .byte, interfaces := #[11, 4], accessFlags := 1041 }

/-- the primitive int -/
def k14 : Class := { plain "int" none with kind := .primitive 'I', accessFlags := 0x411 }
/-- [I -/
def k15 : Class := { plain "[I" (some 0) with kind := .array 14 .int, interfaces := #[11, 4], accessFlags := 1041 }

def heap : Heap := #[]
def classes : Array Class := #[k0, k1, k2, k3, k4, k5, k6, k7, k8, k9, k10, k11, k12, k13, k14, k15]
def interned : List (Array UInt16 × Addr) := []
def slotsUsed : Nat := 0
def theMethod : MethodId := ⟨1, 1⟩
def args0 : Array Value := #[.long 1000, .long 77, .int 3, .int 5]
def aboutOver (below : List Frame) : State where
  vm := { classes := classes, interned := interned.toArray }
  heap := heap
  slotsUsed := slotsUsed
  threads := #[{ frames := .invoking theMethod args0 :: below }]
def below0 : List Frame := [.native { method := ⟨0, 0⟩, args := #[] }]
def about1 : State := aboutOver below0
def p0 : Program := .bare "" "" ""
def e0 : Env := launch0.env 0 0 0
theorem w_frames : about1.frames = Frame.invoking theMethod args0 :: below0 := rfl
set_option maxRecDepth 65536 in
theorem w_args : argsFit about1.vm theMethod args0 = true := by decide +kernel
set_option maxRecDepth 65536 in
theorem w_heap : heapFits about1 = true := by decide +kernel
set_option maxRecDepth 65536 in
theorem w_runnable : about1.curStatus? = some .runnable := by decide +kernel
set_option maxRecDepth 65536 in
theorem w_alone : about1.alone = true := by decide +kernel
set_option maxRecDepth 65536 in
theorem w_named : about1.methodNamed? x = some theMethod := by decide +kernel
set_option maxRecDepth 65536 in
theorem w_hears : about1.hears theMethod below0 = true := by decide +kernel
set_option maxRecDepth 65536 in
theorem w_ripe : about1.ripe theMethod args0 below0 = true := by decide +kernel
theorem w_running : about1.status = .running := rfl
set_option maxRecDepth 65536 in
theorem w_room : about1.hasRoom e0.platform room_1 = true :=
  launch0.hasRoom_least _ room_1 (by decide +kernel) (by decide +kernel) (by decide +kernel) (by decide +kernel) (by decide +kernel) (by decide +kernel)
theorem allAtoms_all (ts : List Jvm.Cond) (a : Array Jvm.Value) (st : Jvm.State) : (allAtoms ts).before a st = ts.all (fun c => c.before a st) := by
  induction ts with
  | nil => rfl
  | cons c t ih =>
    show (Jvm.Cond.and c (allAtoms t)).before a st = _
    rw [Jvm.Cond.before_and, ih, List.all_cons]
def words1 : List Jvm.Cond := Jvm.Cond.code x code maxLocals ret :: tables_1
/-- a 'code' word, met by the world's own term for the bytes: nothing is compared byte by byte -/
theorem code_word {y : MethodName} {bytes : ByteArray} {mx : Nat} {rt : Option FieldType} {a : Array Value} {s : State} {m : MethodId} {meth : Method} {c : Code} (h1 : s.methodNamed? y = some m) (h2 : s.vm.method? m = some meth) (h3 : meth.code = some c) (h4 : c.code = bytes)
    (h5 : (c.maxLocals == mx && c.exceptionTable.isEmpty && decide (c.maxStack ≤ mostOperands) && decide (meth.sig.returnType = rt) && !meth.locks && decide (parseMethodDescriptor y.desc = some meth.sig)) = true) : (Jvm.Cond.code y bytes mx rt).before a s = true := by
  simp only [Bool.and_eq_true, beq_iff_eq, Bool.not_eq_true', decide_eq_true_eq] at h5
  obtain ⟨⟨⟨⟨⟨g1, g2⟩, g3⟩, g4⟩, g5⟩, g6⟩ := h5
  simp [Cond.before, Cond.holds, Cond.value, h1, h2, h3, h4, g1, g2, g3, g4, g5, g6]
def isCode : Jvm.Cond → Bool
  | .code _ _ _ _ => true
  | _ => false
theorem all_split {L : List Jvm.Cond} {P : Jvm.Cond → Bool} (h1 : L.all (fun c => isCode c || P c) = true) (h2 : ∀ c ∈ L.filter isCode, P c = true) : L.all P = true := by
  refine List.all_eq_true.mpr fun c hc => ?_
  have h := List.all_eq_true.mp h1 c hc
  rcases Bool.eq_false_or_eq_true (isCode c) with hi | hi
  · exact h2 c (List.mem_filter.mpr ⟨hc, hi⟩)
  · simpa [hi] using h
set_option maxRecDepth 65536 in
theorem w_c0 : (Jvm.Cond.code x code maxLocals ret).before args0 about1 = true := code_word (m := ⟨1, 1⟩) (meth := k1m1) (c := k1c1) (by decide +kernel) rfl rfl rfl (by decide +kernel)
set_option maxRecDepth 65536 in
theorem w_c1 : (Jvm.Cond.code ({ cls := "java/lang/Math", name := "max", desc := "(JJ)J" } : Jvm.MethodName) jdk_29_method_66_code (4 : Nat) (Option.some Jvm.ClassFile.FieldType.long)).before args0 about1 = true := code_word (m := ⟨2, 2⟩) (meth := k2m2) (c := k2c2) (by decide +kernel) rfl rfl rfl (by decide +kernel)
set_option maxRecDepth 65536 in
theorem w_c2 : (Jvm.Cond.code ({ cls := "java/lang/Math", name := "min", desc := "(JJ)J" } : Jvm.MethodName) jdk_29_method_70_code (4 : Nat) (Option.some Jvm.ClassFile.FieldType.long)).before args0 about1 = true := code_word (m := ⟨2, 3⟩) (meth := k2m3) (c := k2c3) (by decide +kernel) rfl rfl rfl (by decide +kernel)
set_option maxRecDepth 65536 in
theorem w_c3 : (Jvm.Cond.code ({ cls := "com/example/reducer/reducer/analysis/Base128", name := "write", desc := "(J[BI)I" } : Jvm.MethodName) prog_1_method_4_code (7 : Nat) (Option.some Jvm.ClassFile.FieldType.int)).before args0 about1 = true := code_word (m := ⟨3, 2⟩) (meth := k3m2) (c := k3c2) (by decide +kernel) rfl rfl rfl (by decide +kernel)
set_option maxRecDepth 65536 in
theorem w_c4 : (Jvm.Cond.code ({ cls := "com/example/reducer/reducer/analysis/Base128", name := "subtract", desc := "([BII[BII[BI)I" } : Jvm.MethodName) prog_1_method_11_code (13 : Nat) (Option.some Jvm.ClassFile.FieldType.int)).before args0 about1 = true := code_word (m := ⟨3, 5⟩) (meth := k3m5) (c := k3c5) (by decide +kernel) rfl rfl rfl (by decide +kernel)
set_option maxRecDepth 65536 in
theorem w_c5 : (Jvm.Cond.code ({ cls := "com/example/reducer/reducer/analysis/Base128", name := "length", desc := "(J)I" } : Jvm.MethodName) prog_1_method_5_code (2 : Nat) (Option.some Jvm.ClassFile.FieldType.int)).before args0 about1 = true := code_word (m := ⟨3, 3⟩) (meth := k3m3) (c := k3c3) (by decide +kernel) rfl rfl rfl (by decide +kernel)
set_option maxRecDepth 65536 in
theorem w_c6 : (Jvm.Cond.code ({ cls := "java/lang/Long", name := "numberOfLeadingZeros", desc := "(J)I" } : Jvm.MethodName) jdk_35_method_48_code (3 : Nat) (Option.some Jvm.ClassFile.FieldType.int)).before args0 about1 = true := code_word (m := ⟨9, 0⟩) (meth := k9m0) (c := k9c0) (by decide +kernel) rfl rfl rfl (by decide +kernel)
set_option maxRecDepth 65536 in
theorem w_c7 : (Jvm.Cond.code ({ cls := "java/lang/Integer", name := "numberOfLeadingZeros", desc := "(I)I" } : Jvm.MethodName) jdk_33_method_47_code (2 : Nat) (Option.some Jvm.ClassFile.FieldType.int)).before args0 about1 = true := code_word (m := ⟨10, 0⟩) (meth := k10m0) (c := k10c0) (by decide +kernel) rfl rfl rfl (by decide +kernel)
set_option maxRecDepth 65536 in
theorem w_c8 : (Jvm.Cond.code ({ cls := "java/lang/Math", name := "max", desc := "(II)I" } : Jvm.MethodName) jdk_29_method_65_code (2 : Nat) (Option.some Jvm.ClassFile.FieldType.int)).before args0 about1 = true := code_word (m := ⟨2, 1⟩) (meth := k2m1) (c := k2c1) (by decide +kernel) rfl rfl rfl (by decide +kernel)
set_option maxRecDepth 65536 in
theorem w_c9 : (Jvm.Cond.code ({ cls := "com/example/reducer/reducer/analysis/Base128", name := "longValue", desc := "([BII)J" } : Jvm.MethodName) prog_1_method_7_code (6 : Nat) (Option.some Jvm.ClassFile.FieldType.long)).before args0 about1 = true := code_word (m := ⟨3, 4⟩) (meth := k3m4) (c := k3c4) (by decide +kernel) rfl rfl rfl (by decide +kernel)
set_option maxRecDepth 65536 in
theorem w_c10 : (Jvm.Cond.code ({ cls := "com/example/reducer/reducer/analysis/Base128", name := "end", desc := "([BI)I" } : Jvm.MethodName) prog_1_method_2_code (3 : Nat) (Option.some Jvm.ClassFile.FieldType.int)).before args0 about1 = true := code_word (m := ⟨3, 1⟩) (meth := k3m1) (c := k3c1) (by decide +kernel) rfl rfl rfl (by decide +kernel)
def codes1 : List Jvm.Cond := [Jvm.Cond.code x code maxLocals ret, Jvm.Cond.code ({ cls := "java/lang/Math", name := "max", desc := "(JJ)J" } : Jvm.MethodName) jdk_29_method_66_code (4 : Nat) (Option.some Jvm.ClassFile.FieldType.long), Jvm.Cond.code ({ cls := "java/lang/Math", name := "min", desc := "(JJ)J" } : Jvm.MethodName) jdk_29_method_70_code (4 : Nat) (Option.some Jvm.ClassFile.FieldType.long), Jvm.Cond.code ({ cls := "com/example/reducer/reducer/analysis/Base128", name := "write", desc := "(J[BI)I" } : Jvm.MethodName) prog_1_method_4_code (7 : Nat) (Option.some Jvm.ClassFile.FieldType.int), Jvm.Cond.code ({ cls := "com/example/reducer/reducer/analysis/Base128", name := "subtract", desc := "([BII[BII[BI)I" } : Jvm.MethodName) prog_1_method_11_code (13 : Nat) (Option.some Jvm.ClassFile.FieldType.int), Jvm.Cond.code ({ cls := "com/example/reducer/reducer/analysis/Base128", name := "length", desc := "(J)I" } : Jvm.MethodName) prog_1_method_5_code (2 : Nat) (Option.some Jvm.ClassFile.FieldType.int), Jvm.Cond.code ({ cls := "java/lang/Long", name := "numberOfLeadingZeros", desc := "(J)I" } : Jvm.MethodName) jdk_35_method_48_code (3 : Nat) (Option.some Jvm.ClassFile.FieldType.int), Jvm.Cond.code ({ cls := "java/lang/Integer", name := "numberOfLeadingZeros", desc := "(I)I" } : Jvm.MethodName) jdk_33_method_47_code (2 : Nat) (Option.some Jvm.ClassFile.FieldType.int), Jvm.Cond.code ({ cls := "java/lang/Math", name := "max", desc := "(II)I" } : Jvm.MethodName) jdk_29_method_65_code (2 : Nat) (Option.some Jvm.ClassFile.FieldType.int), Jvm.Cond.code ({ cls := "com/example/reducer/reducer/analysis/Base128", name := "longValue", desc := "([BII)J" } : Jvm.MethodName) prog_1_method_7_code (6 : Nat) (Option.some Jvm.ClassFile.FieldType.long), Jvm.Cond.code ({ cls := "com/example/reducer/reducer/analysis/Base128", name := "end", desc := "([BI)I" } : Jvm.MethodName) prog_1_method_2_code (3 : Nat) (Option.some Jvm.ClassFile.FieldType.int)]
set_option maxRecDepth 65536 in
theorem codes_eq : words1.filter isCode = codes1 := rfl
theorem w_codes : ∀ c ∈ words1.filter isCode, c.before args0 about1 = true := by
  rw [codes_eq]
  intro c hc
  simp only [codes1, List.mem_cons, List.not_mem_nil, or_false] at hc
  rcases hc with rfl | rfl | rfl | rfl | rfl | rfl | rfl | rfl | rfl | rfl | rfl
  · exact w_c0
  · exact w_c1
  · exact w_c2
  · exact w_c3
  · exact w_c4
  · exact w_c5
  · exact w_c6
  · exact w_c7
  · exact w_c8
  · exact w_c9
  · exact w_c10
set_option maxRecDepth 65536 in
theorem w_t1 : (words1.take 24).all (fun c => isCode c || c.before args0 about1) = true := by decide +kernel
set_option maxRecDepth 65536 in
theorem w_t2 : (words1.drop 24).all (fun c => isCode c || c.before args0 about1) = true := by decide +kernel
theorem w_tables : (allAtoms (Jvm.Cond.code x code maxLocals ret :: tables_1)).before args0 about1 = true := by
  rw [allAtoms_all]
  show words1.all (fun c => c.before args0 about1) = true
  refine all_split ?_ w_codes
  rw [← List.take_append_drop 24 words1, List.all_append, w_t1, w_t2]
  rfl
set_option maxRecDepth 65536 in
theorem w_case : (Jvm.Cond.and given_1 narrow_1).before args0 about1 = true := by decide +kernel
theorem w_applies : (headSpec (Jvm.Cond.code x code maxLocals ret :: tables_1) room_1).applies x e0.platform about1 = true :=
  (Spec.applies_iff w_frames).mpr ⟨w_running, w_runnable, w_alone, w_named, w_hears, w_ripe, w_room, w_tables⟩
theorem atStart : AtStart classFile x code maxLocals ret World_1 tables_1 room_1 Calls_1 rest_1 Pre_1 launch0 p0 e0 about1 theMethod args0 below0 :=
  ⟨lists_1, trivial, launch0.admits_env _ _ _, launch0.least_env, fairChoices_fair.cas, fairChoices_fair.clock, w_frames, w_args, w_heap, w_applies, trivial, trivial, w_case⟩
end start1
theorem witness_1 : WitnessClaimed_1 := ⟨start1.p0, start1.e0, start1.about1, start1.theMethod, start1.args0, start1.below0, start1.atStart⟩
end Jvm.Pilot.@@N@@
