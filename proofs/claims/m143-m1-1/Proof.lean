import JvmDerived
import JvmDerived.Pilot.@@N@@Statement
import JvmDerived.Pilot.@@N@@Code
set_option linter.unusedVariables false
set_option linter.unusedSimpArgs false
namespace Jvm.Pilot.@@N@@
open Jvm Jvm.ClassFile Sem Op Lib Jvm.Free Jvm.Stand Jvm.LawKit Jvm.RoadKit Bundle Jvm.Pilot.@@N@@.Jvm.D
/-- where the walk of one body stands, and what it knows throughout -/
def own_S (p : Program) (l : Launch) (e : Env) (R : Room) (s : State) (m : MethodId) (av : Array Value) (below : List Frame) (meth : Method) (c : Code) (Z : State) (y : MethodName) (co : ByteArray) (ml : Nat) (rt : Option FieldType) (n0 : Nat) (T : State) (ce sl : Nat) (h : Heap) : Prop :=
  (p.tables.exec = Jvm.exec ∧ c.code = co ∧ c.maxLocals = ml ∧ s.vm.findClass y.cls = some m.cls ∧ meth.name = y.name ∧ meth.sig.returnType = rt ∧ meth.locks = false ∧ Z.Warmed39 s.vm) ∧
  ∃ locs, Stand p l e R s m av below meth c T locs ce sl ∧ Fr n0 locs ∧ T.heap = h ∧ n0 ≤ s.heap.size
/-- from T at the frame g the run comes to a return of which Q holds -/
def own_Fin (p : Program) (e : Env) (below : List Frame) (s : State) (n0 : Nat) (Q : Option Value → Heap → Prop) (k n : Nat) (T : State) (g : JFrame) : Prop :=
  ∃ t o, Steps p.tables e below (T.setTop g) t ∧ t.status = .running ∧ Ended t below o ∧ ∃ v L, o = .returned v ∧ (Fr n0 L ∧ Q v t.heap) ∧ FrameEnd s o t L k n
/-- a body's contract -/
def own_Met (l : Launch) (Z : State) (y : MethodName) (co : ByteArray) (ml : Nat) (rt : Option FieldType) (ws : List Jvm.Cond) (rm : Room) (av : Array Value) (h0 : Heap) (n0 : Nat) (Q : Option Value → Heap → Prop) : Prop :=
  MetFree l y (head1 (Jvm.Cond.code y co ml rt :: ws) rm) (fun a U => a = av ∧ Z.Warmed39 U.vm ∧ U.heap = h0) (fun _ _ _ _ _ => True) (fun _ U o U' => ∃ v L, o = .returned v ∧ (Fr n0 L ∧ Q v U'.heap) ∧ FrameEnd U o U' L rm.cells rm.slots)
section Own
variable {p : Program} {l : Launch} {e : Env} {R : Room} {s : State} {m : MethodId} {av : Array Value} {below : List Frame} {meth : Method} {c : Code} {Z : State} {y : MethodName} {co : ByteArray} {ml : Nat} {rt : Option FieldType} {n0 : Nat} {T : State} {ce sl : Nat} {h : Heap} {Q : Option Value → Heap → Prop} {k n : Nat} {a0 : Array Value} {pc : Nat} {Ls : Array Slot} {st : List Value}
theorem own_met {ws : List Jvm.Cond} {rm : Room} {h0 : Heap} (hp : plainFor y = true) (hn : n0 ≤ h0.size)
    (H : ∀ (p : Program) (e : Env) (s : State) (m : MethodId) (below : List Frame) (meth : Method) (c : Code) (T : State), own_S p l e rm s m av below meth c Z y co ml rt n0 T 0 0 h0 → own_Fin p e below s n0 Q rm.cells rm.slots T (entryFrame m av ml)) : own_Met l Z y co ml rt ws rm av h0 n0 Q := by
  refine MetFree.of_bodySF hp hisR ?_
  intro p e s m args below meth c s₁ Bd hml0 hP hK
  obtain ⟨rfl, hZ, hh⟩ := hP
  have e0 : s₁.heap = h0 := by rw [← hh, Bd.state]; rfl
  exact H p e s m below meth c s₁ ⟨⟨Bd.exec, Bd.bytes, hml0, findClass_of_methodNamed Bd.named, (name_of_methodNamed Bd.named Bd.method).1, Bd.returns, BodyLoose.notSynchronized Bd, hZ⟩, [], Stand.of_body Bd, Fr.nil n0, e0, by rw [hh]; exact hn⟩
theorem own_go {T T' : State} {g g' : JFrame} (st : ∀ target, Steps p.tables e below (T'.setTop g') target → Steps p.tables e below (T.setTop g) target) (H : own_Fin p e below s n0 Q k n T' g') : own_Fin p e below s n0 Q k n T g := by
  obtain ⟨t, o, h1, r⟩ := H
  exact ⟨t, o, st t h1, r⟩
theorem own_goT {T T' : State} {g g' : JFrame} (st : Steps p.tables e below (T.setTop g) (T'.setTop g')) (H : own_Fin p e below s n0 Q k n T' g') : own_Fin p e below s n0 Q k n T g := by
  obtain ⟨t, o, h1, r⟩ := H
  exact ⟨t, o, st.trans h1, r⟩
theorem own_cast {g g' : JFrame} (q : g = g') (H : own_Fin p e below s n0 Q k n T g') : own_Fin p e below s n0 Q k n T g := q ▸ H
theorem own_size (X : own_S p l e R s m av below meth c Z y co ml rt n0 T ce sl h) : n0 ≤ h.size := by
  obtain ⟨-, locs, X, -, rfl, hn⟩ := X
  exact Nat.le_trans hn X.same.2.1
theorem own_wider (X : own_S p l e R s m av below meth c Z y co ml rt n0 T ce sl h) {ce' sl' : Nat} (h1 : ce ≤ ce') (h2 : sl ≤ sl') : own_S p l e R s m av below meth c Z y co ml rt n0 T ce' sl' h := by
  obtain ⟨C, locs, X, r⟩ := X
  exact ⟨C, locs, X.more h1 h2, r⟩
/-- numbers: from Int to the ints' own order -/
theorem own_cLt {x y : Int32} {a b : Int} (hx : x.toInt = a) (hy : y.toInt = b) (q : a < b) : x < y := by rw [Int32.lt_iff_toInt_lt, hx, hy]; exact q
theorem own_cGe {x y : Int32} {a b : Int} (hx : x.toInt = a) (hy : y.toInt = b) (q : ¬ a < b) : ¬ x < y := by rw [Int32.lt_iff_toInt_lt, hx, hy]; exact q
theorem own_cEq {x y : Int32} {a b : Int} (hx : x.toInt = a) (hy : y.toInt = b) (q : a = b) : x = y := Int32.toInt_inj.mp (by rw [hx, hy]; exact q)
theorem own_cNe {x y : Int32} {a b : Int} (hx : x.toInt = a) (hy : y.toInt = b) (q : ¬ a = b) : ¬ x = y := fun r => q (by rw [← hx, ← hy, r])
theorem own_cEqJ {x y : Int64} {a b : Int} (hx : x.toInt = a) (hy : y.toInt = b) (q : a = b) : x = y := Int64.toInt_inj.mp (by rw [hx, hy]; exact q)
theorem own_nzI {y : Int32} (q : y.toInt ≠ 0) : y ≠ 0 := fun r => q (by rw [r]; rfl)
theorem own_nzJ {y : Int64} (q : y.toInt ≠ 0) : y ≠ 0 := fun r => q (by rw [r]; rfl)
theorem own_lLt {x y : Int64} {a b : Int} (hx : x.toInt = a) (hy : y.toInt = b) (q : a < b) : lcmpW x y < 0 := (lw_lt x y).mpr (by rw [Int64.lt_iff_toInt_lt, hx, hy]; exact q)
theorem own_lGe {x y : Int64} {a b : Int} (hx : x.toInt = a) (hy : y.toInt = b) (q : ¬ a < b) : ¬ lcmpW x y < 0 := fun r => q (by have := (lw_lt x y).mp r; rw [Int64.lt_iff_toInt_lt, hx, hy] at this; exact this)
theorem own_lGt {x y : Int64} {a b : Int} (hx : x.toInt = a) (hy : y.toInt = b) (q : b < a) : 0 < lcmpW x y := (lw_gt x y).mpr (by rw [Int64.lt_iff_toInt_lt, hx, hy]; exact q)
theorem own_lLe {x y : Int64} {a b : Int} (hx : x.toInt = a) (hy : y.toInt = b) (q : ¬ b < a) : ¬ 0 < lcmpW x y := fun r => q (by have := (lw_gt x y).mp r; rw [Int64.lt_iff_toInt_lt, hx, hy] at this; exact this)
theorem own_lEq {x y : Int64} {a b : Int} (hx : x.toInt = a) (hy : y.toInt = b) (q : a = b) : lcmpW x y = 0 := (lw_eq x y).mpr (Int64.toInt_inj.mp (by rw [hx, hy]; exact q))
theorem own_lNe {x y : Int64} {a b : Int} (hx : x.toInt = a) (hy : y.toInt = b) (q : ¬ a = b) : ¬ lcmpW x y = 0 := fun r => q (by rw [← hx, ← hy, (lw_eq x y).mp r])
theorem own_emod_le {a b : Int} (h1 : 0 ≤ a) (h2 : 0 < b) : a % b ≤ a := by
  by_cases q : a < b
  · rw [Int.emod_eq_of_lt h1 q]; omega
  · have := Int.emod_lt_of_pos a h2; omega
theorem own_i2b2 (x : Int32) : x.toInt8.toInt32.toInt8.toInt32 = x.toInt8.toInt32 := by
  have h1 := c_i2b x
  have h2 := c_i2b x.toInt8.toInt32
  apply Int32.toInt_inj.mp; omega
theorem own_and1 (x : Int32) (h : x = 0 ∨ x = 1) : x &&& 1 = x := by rcases h with rfl | rfl <;> rfl
theorem own_aloadN (X : own_S p l e R s m av below meth c Z y co ml rt n0 T ce sl h) {i : Fin 4} {v : Value} (hd : decode co pc = .ok (.aload_n i, 1)) (hl : Ls[i.val]? = some (.val v)) (hv : v.isRef = true) (H : own_Fin p e below s n0 Q k n T (mkF m (pc + 1) Ls (v :: st))) : own_Fin p e below s n0 Q k n T (mkF m pc Ls (st)) := by
  obtain ⟨⟨hx, hby, -⟩, locs, X, -⟩ := X
  exact own_go (fun _ q => XS.aloadN X.here hx rfl (hb hby hd) hl hv q) H
theorem own_aload (X : own_S p l e R s m av below meth c Z y co ml rt n0 T ce sl h) {i : Nat} {v : Value} (hd : decode co pc = .ok (.aload i, 2)) (hl : Ls[i]? = some (.val v)) (hv : v.isRef = true) (H : own_Fin p e below s n0 Q k n T (mkF m (pc + 2) Ls (v :: st))) : own_Fin p e below s n0 Q k n T (mkF m pc Ls (st)) := by
  obtain ⟨⟨hx, hby, -⟩, locs, X, -⟩ := X
  exact own_go (fun _ q => XS.aload X.here hx rfl (hb hby hd) hl hv q) H
theorem own_iloadN (X : own_S p l e R s m av below meth c Z y co ml rt n0 T ce sl h) {i : Fin 4} {v : Int32} (hd : decode co pc = .ok (.iload_n i, 1)) (hl : Ls[i.val]? = some (.val (.int v))) (H : own_Fin p e below s n0 Q k n T (mkF m (pc + 1) Ls (.int v :: st))) : own_Fin p e below s n0 Q k n T (mkF m pc Ls (st)) := by
  obtain ⟨⟨hx, hby, -⟩, locs, X, -⟩ := X
  exact own_go (fun _ q => XS.iloadN X.here hx rfl (hb hby hd) hl q) H
theorem own_iload (X : own_S p l e R s m av below meth c Z y co ml rt n0 T ce sl h) {i : Nat} {v : Int32} (hd : decode co pc = .ok (.iload i, 2)) (hl : Ls[i]? = some (.val (.int v))) (H : own_Fin p e below s n0 Q k n T (mkF m (pc + 2) Ls (.int v :: st))) : own_Fin p e below s n0 Q k n T (mkF m pc Ls (st)) := by
  obtain ⟨⟨hx, hby, -⟩, locs, X, -⟩ := X
  exact own_go (fun _ q => XS.iload X.here hx rfl (hb hby hd) hl q) H
theorem own_lloadN (X : own_S p l e R s m av below meth c Z y co ml rt n0 T ce sl h) {i : Fin 4} {v : Int64} (hd : decode co pc = .ok (.lload_n i, 1)) (hl : Ls[i.val]? = some (.val (.long v))) (H : own_Fin p e below s n0 Q k n T (mkF m (pc + 1) Ls (.long v :: st))) : own_Fin p e below s n0 Q k n T (mkF m pc Ls (st)) := by
  obtain ⟨⟨hx, hby, -⟩, locs, X, -⟩ := X
  exact own_go (fun _ q => XS.lloadN X.here hx rfl (hb hby hd) hl q) H
theorem own_lload (X : own_S p l e R s m av below meth c Z y co ml rt n0 T ce sl h) {i : Nat} {v : Int64} (hd : decode co pc = .ok (.lload i, 2)) (hl : Ls[i]? = some (.val (.long v))) (H : own_Fin p e below s n0 Q k n T (mkF m (pc + 2) Ls (.long v :: st))) : own_Fin p e below s n0 Q k n T (mkF m pc Ls (st)) := by
  obtain ⟨⟨hx, hby, -⟩, locs, X, -⟩ := X
  exact own_go (fun _ q => XS.lload X.here hx rfl (hb hby hd) hl q) H
theorem own_istoreN (X : own_S p l e R s m av below meth c Z y co ml rt n0 T ce sl h) {i : Fin 4} {v : Int32} {L' : Array Slot} (hd : decode co pc = .ok (.istore_n i, 1)) (hl : storeLocals Ls i.val (.int v) = some L') (H : own_Fin p e below s n0 Q k n T (mkF m (pc + 1) L' (st))) : own_Fin p e below s n0 Q k n T (mkF m pc Ls (.int v :: st)) := by
  obtain ⟨⟨hx, hby, -⟩, locs, X, -⟩ := X
  exact own_go (fun _ q => XS.istoreN X.here hx rfl (hb hby hd) rfl hl q) H
theorem own_istore (X : own_S p l e R s m av below meth c Z y co ml rt n0 T ce sl h) {i : Nat} {v : Int32} {L' : Array Slot} (hd : decode co pc = .ok (.istore i, 2)) (hl : storeLocals Ls i (.int v) = some L') (H : own_Fin p e below s n0 Q k n T (mkF m (pc + 2) L' (st))) : own_Fin p e below s n0 Q k n T (mkF m pc Ls (.int v :: st)) := by
  obtain ⟨⟨hx, hby, -⟩, locs, X, -⟩ := X
  exact own_go (fun _ q => XS.istore X.here hx rfl (hb hby hd) rfl hl q) H
theorem own_lstoreN (X : own_S p l e R s m av below meth c Z y co ml rt n0 T ce sl h) {i : Fin 4} {v : Int64} {L' : Array Slot} (hd : decode co pc = .ok (.lstore_n i, 1)) (hl : storeLocals Ls i.val (.long v) = some L') (H : own_Fin p e below s n0 Q k n T (mkF m (pc + 1) L' (st))) : own_Fin p e below s n0 Q k n T (mkF m pc Ls (.long v :: st)) := by
  obtain ⟨⟨hx, hby, -⟩, locs, X, -⟩ := X
  exact own_go (fun _ q => XS.lstoreN X.here hx rfl (hb hby hd) rfl hl q) H
theorem own_lstore (X : own_S p l e R s m av below meth c Z y co ml rt n0 T ce sl h) {i : Nat} {v : Int64} {L' : Array Slot} (hd : decode co pc = .ok (.lstore i, 2)) (hl : storeLocals Ls i (.long v) = some L') (H : own_Fin p e below s n0 Q k n T (mkF m (pc + 2) L' (st))) : own_Fin p e below s n0 Q k n T (mkF m pc Ls (.long v :: st)) := by
  obtain ⟨⟨hx, hby, -⟩, locs, X, -⟩ := X
  exact own_go (fun _ q => XS.lstore X.here hx rfl (hb hby hd) rfl hl q) H
theorem own_astoreN (X : own_S p l e R s m av below meth c Z y co ml rt n0 T ce sl h) {i : Fin 4} {v : Value} {L' : Array Slot} (hd : decode co pc = .ok (.astore_n i, 1)) (hv : v.isRef = true) (hl : storeLocals Ls i.val v = some L') (H : own_Fin p e below s n0 Q k n T (mkF m (pc + 1) L' (st))) : own_Fin p e below s n0 Q k n T (mkF m pc Ls (v :: st)) := by
  obtain ⟨⟨hx, hby, -⟩, locs, X, -⟩ := X
  exact own_go (fun _ q => XS.astoreN X.here hx rfl (hb hby hd) rfl hv hl q) H
theorem own_astore (X : own_S p l e R s m av below meth c Z y co ml rt n0 T ce sl h) {i : Nat} {v : Value} {L' : Array Slot} (hd : decode co pc = .ok (.astore i, 2)) (hv : v.isRef = true) (hl : storeLocals Ls i v = some L') (H : own_Fin p e below s n0 Q k n T (mkF m (pc + 2) L' (st))) : own_Fin p e below s n0 Q k n T (mkF m pc Ls (v :: st)) := by
  obtain ⟨⟨hx, hby, -⟩, locs, X, -⟩ := X
  exact own_go (fun _ q => XS.astore X.here hx rfl (hb hby hd) rfl hv hl q) H
theorem own_iconst (X : own_S p l e R s m av below meth c Z y co ml rt n0 T ce sl h) {i : Int} (z : Int32) (hd : decode co pc = .ok (.iconst i, 1)) (hz : Int32.ofInt i = z) (H : own_Fin p e below s n0 Q k n T (mkF m (pc + 1) Ls (.int z :: st))) : own_Fin p e below s n0 Q k n T (mkF m pc Ls (st)) := by
  obtain ⟨⟨hx, hby, -⟩, locs, X, -⟩ := X
  exact own_go (fun _ q => XS.iconst X.here hx rfl (hb hby hd) (by rw [hz]; exact q)) H
theorem own_bipush (X : own_S p l e R s m av below meth c Z y co ml rt n0 T ce sl h) {i : Int} (z : Int32) (hd : decode co pc = .ok (.bipush i, 2)) (hz : (Int8.ofInt i).toInt32 = z) (H : own_Fin p e below s n0 Q k n T (mkF m (pc + 2) Ls (.int z :: st))) : own_Fin p e below s n0 Q k n T (mkF m pc Ls (st)) := by
  obtain ⟨⟨hx, hby, -⟩, locs, X, -⟩ := X
  exact own_go (fun _ q => XS.bipush X.here hx rfl (hb hby hd) (by rw [hz]; exact q)) H
theorem own_sipush (X : own_S p l e R s m av below meth c Z y co ml rt n0 T ce sl h) {i : Int} (z : Int32) (hd : decode co pc = .ok (.sipush i, 3)) (hz : (Int16.ofInt i).toInt32 = z) (H : own_Fin p e below s n0 Q k n T (mkF m (pc + 3) Ls (.int z :: st))) : own_Fin p e below s n0 Q k n T (mkF m pc Ls (st)) := by
  obtain ⟨⟨hx, hby, -⟩, locs, X, -⟩ := X
  exact own_go (fun _ q => XS.sipush X.here hx rfl (hb hby hd) (by rw [hz]; exact q)) H
theorem own_lconst0 (X : own_S p l e R s m av below meth c Z y co ml rt n0 T ce sl h) (hd : decode co pc = .ok (.lconst 0, 1)) (H : own_Fin p e below s n0 Q k n T (mkF m (pc + 1) Ls (.long 0 :: st))) : own_Fin p e below s n0 Q k n T (mkF m pc Ls (st)) := by
  obtain ⟨⟨hx, hby, -⟩, locs, X, -⟩ := X
  exact own_go (fun _ q => XS.lconst X.here hx rfl (hb hby hd) q) H
theorem own_lconst1 (X : own_S p l e R s m av below meth c Z y co ml rt n0 T ce sl h) (hd : decode co pc = .ok (.lconst 1, 1)) (H : own_Fin p e below s n0 Q k n T (mkF m (pc + 1) Ls (.long 1 :: st))) : own_Fin p e below s n0 Q k n T (mkF m pc Ls (st)) := by
  obtain ⟨⟨hx, hby, -⟩, locs, X, -⟩ := X
  exact own_go (fun _ q => XS.lconst X.here hx rfl (hb hby hd) q) H
theorem own_aconstNull (X : own_S p l e R s m av below meth c Z y co ml rt n0 T ce sl h) (hd : decode co pc = .ok (.aconst_null, 1)) (H : own_Fin p e below s n0 Q k n T (mkF m (pc + 1) Ls (.null :: st))) : own_Fin p e below s n0 Q k n T (mkF m pc Ls (st)) := by
  obtain ⟨⟨hx, hby, -⟩, locs, X, -⟩ := X
  exact own_go (fun _ q => XS.aconstNull X.here hx rfl (hb hby hd) q) H
theorem own_iaddE (X : own_S p l e R s m av below meth c Z y co ml rt n0 T ce sl h) {x : Int32} {y' : Int32} (hd : decode co pc = .ok (.iadd, 1)) (z : Int32) (hz : x + y' = z) (H : own_Fin p e below s n0 Q k n T (mkF m (pc + 1) Ls (.int z :: st))) : own_Fin p e below s n0 Q k n T (mkF m pc Ls (.int y' :: .int x :: st)) := by
  subst hz
  obtain ⟨⟨hx, hby, -⟩, locs, X, -⟩ := X
  exact own_go (fun _ q => XS.iadd X.here hx rfl (hb hby hd) rfl q) H
theorem own_iaddV (X : own_S p l e R s m av below meth c Z y co ml rt n0 T ce sl h) {x : Int32} {y' : Int32} (a b : Int) (hd : decode co pc = .ok (.iadd, 1)) (hxa : x.toInt = a) (hyb : y'.toInt = b) (H : ∀ v : Int32, x + y' = v → (v.toInt - (a + b)) % 4294967296 = 0 → -2147483648 ≤ v.toInt → v.toInt < 2147483648 → own_Fin p e below s n0 Q k n T (mkF m (pc + 1) Ls (.int v :: st))) : own_Fin p e below s n0 Q k n T (mkF m pc Ls (.int y' :: .int x :: st)) := by
  exact own_iaddE X hd _ rfl (H _ rfl (by subst hxa hyb; exact c_iadd x y') (rng32 _).1 (rng32 _).2)
theorem own_isubE (X : own_S p l e R s m av below meth c Z y co ml rt n0 T ce sl h) {x : Int32} {y' : Int32} (hd : decode co pc = .ok (.isub, 1)) (z : Int32) (hz : x - y' = z) (H : own_Fin p e below s n0 Q k n T (mkF m (pc + 1) Ls (.int z :: st))) : own_Fin p e below s n0 Q k n T (mkF m pc Ls (.int y' :: .int x :: st)) := by
  subst hz
  obtain ⟨⟨hx, hby, -⟩, locs, X, -⟩ := X
  exact own_go (fun _ q => XS.isub X.here hx rfl (hb hby hd) rfl q) H
theorem own_isubV (X : own_S p l e R s m av below meth c Z y co ml rt n0 T ce sl h) {x : Int32} {y' : Int32} (a b : Int) (hd : decode co pc = .ok (.isub, 1)) (hxa : x.toInt = a) (hyb : y'.toInt = b) (H : ∀ v : Int32, x - y' = v → (v.toInt - (a - b)) % 4294967296 = 0 → -2147483648 ≤ v.toInt → v.toInt < 2147483648 → own_Fin p e below s n0 Q k n T (mkF m (pc + 1) Ls (.int v :: st))) : own_Fin p e below s n0 Q k n T (mkF m pc Ls (.int y' :: .int x :: st)) := by
  exact own_isubE X hd _ rfl (H _ rfl (by subst hxa hyb; exact c_isub x y') (rng32 _).1 (rng32 _).2)
theorem own_imulE (X : own_S p l e R s m av below meth c Z y co ml rt n0 T ce sl h) {x : Int32} {y' : Int32} (hd : decode co pc = .ok (.imul, 1)) (z : Int32) (hz : x * y' = z) (H : own_Fin p e below s n0 Q k n T (mkF m (pc + 1) Ls (.int z :: st))) : own_Fin p e below s n0 Q k n T (mkF m pc Ls (.int y' :: .int x :: st)) := by
  subst hz
  obtain ⟨⟨hx, hby, -⟩, locs, X, -⟩ := X
  exact own_go (fun _ q => XS.imul X.here hx rfl (hb hby hd) rfl q) H
theorem own_imulV (X : own_S p l e R s m av below meth c Z y co ml rt n0 T ce sl h) {x : Int32} {y' : Int32} (a b : Int) (hd : decode co pc = .ok (.imul, 1)) (hxa : x.toInt = a) (hyb : y'.toInt = b) (H : ∀ v : Int32, x * y' = v → (v.toInt - (a * b)) % 4294967296 = 0 → -2147483648 ≤ v.toInt → v.toInt < 2147483648 → own_Fin p e below s n0 Q k n T (mkF m (pc + 1) Ls (.int v :: st))) : own_Fin p e below s n0 Q k n T (mkF m pc Ls (.int y' :: .int x :: st)) := by
  exact own_imulE X hd _ rfl (H _ rfl (by subst hxa hyb; exact c_imul x y') (rng32 _).1 (rng32 _).2)
theorem own_iandE (X : own_S p l e R s m av below meth c Z y co ml rt n0 T ce sl h) {x : Int32} {y' : Int32} (hd : decode co pc = .ok (.iand, 1)) (z : Int32) (hz : x &&& y' = z) (H : own_Fin p e below s n0 Q k n T (mkF m (pc + 1) Ls (.int z :: st))) : own_Fin p e below s n0 Q k n T (mkF m pc Ls (.int y' :: .int x :: st)) := by
  subst hz
  obtain ⟨⟨hx, hby, -⟩, locs, X, -⟩ := X
  exact own_go (fun _ q => XS.iand X.here hx rfl (hb hby hd) rfl q) H
theorem own_iandV (X : own_S p l e R s m av below meth c Z y co ml rt n0 T ce sl h) {x : Int32} {y' : Int32}  (hd : decode co pc = .ok (.iand, 1))  (H : ∀ v : Int32, x &&& y' = v → -2147483648 ≤ v.toInt → v.toInt < 2147483648 → own_Fin p e below s n0 Q k n T (mkF m (pc + 1) Ls (.int v :: st))) : own_Fin p e below s n0 Q k n T (mkF m pc Ls (.int y' :: .int x :: st)) := by
  exact own_iandE X hd _ rfl (H _ rfl (rng32 _).1 (rng32 _).2)
theorem own_iandM (X : own_S p l e R s m av below meth c Z y co ml rt n0 T ce sl h) {x : Int32} {y' : Int32} (a : Int) (kk : Nat) (P : Int) (hd : decode co pc = .ok (.iand, 1)) (hxa : x.toInt = a) (hk : kk ≤ 31) (hm : y'.toBitVec.toNat = 2 ^ kk - 1) (hP : ((2 ^ kk : Nat) : Int) = P) (H : ∀ v : Int32, x &&& y' = v → v.toInt = a % P → -2147483648 ≤ v.toInt → v.toInt < 2147483648 → own_Fin p e below s n0 Q k n T (mkF m (pc + 1) Ls (.int v :: st))) : own_Fin p e below s n0 Q k n T (mkF m pc Ls (.int y' :: .int x :: st)) := by
  exact own_iandE X hd _ rfl (H _ rfl (by subst hxa hP; exact c_mask x y' kk hk hm) (rng32 _).1 (rng32 _).2)
theorem own_iandB (X : own_S p l e R s m av below meth c Z y co ml rt n0 T ce sl h) {x : Int32} {y' : Int32} (b : Int) (hd : decode co pc = .ok (.iand, 1)) (hyb : y'.toInt = b) (hb0 : 0 ≤ b) (H : ∀ v : Int32, x &&& y' = v → 0 ≤ v.toInt ∧ v.toInt ≤ b → -2147483648 ≤ v.toInt → v.toInt < 2147483648 → own_Fin p e below s n0 Q k n T (mkF m (pc + 1) Ls (.int v :: st))) : own_Fin p e below s n0 Q k n T (mkF m pc Ls (.int y' :: .int x :: st)) := by
  exact own_iandE X hd _ rfl (H _ rfl (by subst hyb; exact c_and x y' hb0) (rng32 _).1 (rng32 _).2)
theorem own_iorE (X : own_S p l e R s m av below meth c Z y co ml rt n0 T ce sl h) {x : Int32} {y' : Int32} (hd : decode co pc = .ok (.ior, 1)) (z : Int32) (hz : x ||| y' = z) (H : own_Fin p e below s n0 Q k n T (mkF m (pc + 1) Ls (.int z :: st))) : own_Fin p e below s n0 Q k n T (mkF m pc Ls (.int y' :: .int x :: st)) := by
  subst hz
  obtain ⟨⟨hx, hby, -⟩, locs, X, -⟩ := X
  exact own_go (fun _ q => XS.ior X.here hx rfl (hb hby hd) rfl q) H
theorem own_iorV (X : own_S p l e R s m av below meth c Z y co ml rt n0 T ce sl h) {x : Int32} {y' : Int32}  (hd : decode co pc = .ok (.ior, 1))  (H : ∀ v : Int32, x ||| y' = v → -2147483648 ≤ v.toInt → v.toInt < 2147483648 → own_Fin p e below s n0 Q k n T (mkF m (pc + 1) Ls (.int v :: st))) : own_Fin p e below s n0 Q k n T (mkF m pc Ls (.int y' :: .int x :: st)) := by
  exact own_iorE X hd _ rfl (H _ rfl (rng32 _).1 (rng32 _).2)
theorem own_iorM (X : own_S p l e R s m av below meth c Z y co ml rt n0 T ce sl h) {x : Int32} {y' : Int32} (a b : Int) (kk : Nat) (P : Int) (hd : decode co pc = .ok (.ior, 1)) (hxa : x.toInt = a) (hyb : y'.toInt = b) (hk : kk ≤ 31) (hP : P = ((2 ^ kk : Nat) : Int)) (q1 : a % P = 0) (q2 : 0 ≤ b) (q3 : b < P) (H : ∀ v : Int32, x ||| y' = v → (v.toInt - (a + b)) % 4294967296 = 0 → -2147483648 ≤ v.toInt → v.toInt < 2147483648 → own_Fin p e below s n0 Q k n T (mkF m (pc + 1) Ls (.int v :: st))) : own_Fin p e below s n0 Q k n T (mkF m pc Ls (.int y' :: .int x :: st)) := by
  exact own_iorE X hd _ rfl (H _ rfl (by subst hxa hyb; exact c_or x y' kk hk P hP q1 q2 q3) (rng32 _).1 (rng32 _).2)
theorem own_iorR (X : own_S p l e R s m av below meth c Z y co ml rt n0 T ce sl h) {x : Int32} {y' : Int32} (a b : Int) (kk : Nat) (P : Int) (hd : decode co pc = .ok (.ior, 1)) (hxa : x.toInt = a) (hyb : y'.toInt = b) (hk : kk ≤ 31) (hP : P = ((2 ^ kk : Nat) : Int)) (q1 : b % P = 0) (q2 : 0 ≤ a) (q3 : a < P) (H : ∀ v : Int32, x ||| y' = v → (v.toInt - (a + b)) % 4294967296 = 0 → -2147483648 ≤ v.toInt → v.toInt < 2147483648 → own_Fin p e below s n0 Q k n T (mkF m (pc + 1) Ls (.int v :: st))) : own_Fin p e below s n0 Q k n T (mkF m pc Ls (.int y' :: .int x :: st)) := by
  exact own_iorE X hd _ rfl (H _ rfl (by subst hxa hyb; have q := c_or y' x kk hk P hP q1 q2 q3; rw [Int32.or_comm] at q; omega) (rng32 _).1 (rng32 _).2)
theorem own_ixorE (X : own_S p l e R s m av below meth c Z y co ml rt n0 T ce sl h) {x : Int32} {y' : Int32} (hd : decode co pc = .ok (.ixor, 1)) (z : Int32) (hz : x ^^^ y' = z) (H : own_Fin p e below s n0 Q k n T (mkF m (pc + 1) Ls (.int z :: st))) : own_Fin p e below s n0 Q k n T (mkF m pc Ls (.int y' :: .int x :: st)) := by
  subst hz
  obtain ⟨⟨hx, hby, -⟩, locs, X, -⟩ := X
  exact own_go (fun _ q => XS.ixor X.here hx rfl (hb hby hd) rfl q) H
theorem own_ixorV (X : own_S p l e R s m av below meth c Z y co ml rt n0 T ce sl h) {x : Int32} {y' : Int32}  (hd : decode co pc = .ok (.ixor, 1))  (H : ∀ v : Int32, x ^^^ y' = v → -2147483648 ≤ v.toInt → v.toInt < 2147483648 → own_Fin p e below s n0 Q k n T (mkF m (pc + 1) Ls (.int v :: st))) : own_Fin p e below s n0 Q k n T (mkF m pc Ls (.int y' :: .int x :: st)) := by
  exact own_ixorE X hd _ rfl (H _ rfl (rng32 _).1 (rng32 _).2)
theorem own_ishlE (X : own_S p l e R s m av below meth c Z y co ml rt n0 T ce sl h) {x : Int32} {y' : Int32} (hd : decode co pc = .ok (.ishl, 1)) (z : Int32) (hz : x <<< (y' &&& 31) = z) (H : own_Fin p e below s n0 Q k n T (mkF m (pc + 1) Ls (.int z :: st))) : own_Fin p e below s n0 Q k n T (mkF m pc Ls (.int y' :: .int x :: st)) := by
  subst hz
  obtain ⟨⟨hx, hby, -⟩, locs, X, -⟩ := X
  exact own_go (fun _ q => XS.ishl X.here hx rfl (hb hby hd) rfl q) H
theorem own_ishlV (X : own_S p l e R s m av below meth c Z y co ml rt n0 T ce sl h) {x : Int32} {y' : Int32}  (hd : decode co pc = .ok (.ishl, 1))  (H : ∀ v : Int32, x <<< (y' &&& 31) = v → -2147483648 ≤ v.toInt → v.toInt < 2147483648 → own_Fin p e below s n0 Q k n T (mkF m (pc + 1) Ls (.int v :: st))) : own_Fin p e below s n0 Q k n T (mkF m pc Ls (.int y' :: .int x :: st)) := by
  exact own_ishlE X hd _ rfl (H _ rfl (rng32 _).1 (rng32 _).2)
theorem own_ishlK (X : own_S p l e R s m av below meth c Z y co ml rt n0 T ce sl h) {x : Int32} {y' : Int32} (a : Int) (kk : Nat) (P : Int) (hd : decode co pc = .ok (.ishl, 1)) (hxa : x.toInt = a) (hk : y'.toBitVec.toNat % 32 = kk) (hP : ((2 ^ kk : Nat) : Int) = P) (H : ∀ v : Int32, x <<< (y' &&& 31) = v → (v.toInt - a * P) % 4294967296 = 0 → -2147483648 ≤ v.toInt → v.toInt < 2147483648 → own_Fin p e below s n0 Q k n T (mkF m (pc + 1) Ls (.int v :: st))) : own_Fin p e below s n0 Q k n T (mkF m pc Ls (.int y' :: .int x :: st)) := by
  exact own_ishlE X hd _ rfl (H _ rfl (by subst hxa hP; exact c_ishl x y' kk hk) (rng32 _).1 (rng32 _).2)
theorem own_ishrE (X : own_S p l e R s m av below meth c Z y co ml rt n0 T ce sl h) {x : Int32} {y' : Int32} (hd : decode co pc = .ok (.ishr, 1)) (z : Int32) (hz : x >>> (y' &&& 31) = z) (H : own_Fin p e below s n0 Q k n T (mkF m (pc + 1) Ls (.int z :: st))) : own_Fin p e below s n0 Q k n T (mkF m pc Ls (.int y' :: .int x :: st)) := by
  subst hz
  obtain ⟨⟨hx, hby, -⟩, locs, X, -⟩ := X
  exact own_go (fun _ q => XS.ishr X.here hx rfl (hb hby hd) rfl q) H
theorem own_ishrV (X : own_S p l e R s m av below meth c Z y co ml rt n0 T ce sl h) {x : Int32} {y' : Int32}  (hd : decode co pc = .ok (.ishr, 1))  (H : ∀ v : Int32, x >>> (y' &&& 31) = v → -2147483648 ≤ v.toInt → v.toInt < 2147483648 → own_Fin p e below s n0 Q k n T (mkF m (pc + 1) Ls (.int v :: st))) : own_Fin p e below s n0 Q k n T (mkF m pc Ls (.int y' :: .int x :: st)) := by
  exact own_ishrE X hd _ rfl (H _ rfl (rng32 _).1 (rng32 _).2)
theorem own_ishrK (X : own_S p l e R s m av below meth c Z y co ml rt n0 T ce sl h) {x : Int32} {y' : Int32} (a : Int) (kk : Nat) (P : Int) (hd : decode co pc = .ok (.ishr, 1)) (hxa : x.toInt = a) (hk : y'.toBitVec.toNat % 32 = kk) (hP : ((2 ^ kk : Nat) : Int) = P) (H : ∀ v : Int32, x >>> (y' &&& 31) = v → v.toInt = a / P → -2147483648 ≤ v.toInt → v.toInt < 2147483648 → own_Fin p e below s n0 Q k n T (mkF m (pc + 1) Ls (.int v :: st))) : own_Fin p e below s n0 Q k n T (mkF m pc Ls (.int y' :: .int x :: st)) := by
  exact own_ishrE X hd _ rfl (H _ rfl (by subst hxa hP; exact c_ishr x y' kk hk) (rng32 _).1 (rng32 _).2)
theorem own_iushrE (X : own_S p l e R s m av below meth c Z y co ml rt n0 T ce sl h) {x : Int32} {y' : Int32} (hd : decode co pc = .ok (.iushr, 1)) (z : Int32) (hz : (x.toUInt32 >>> (y' &&& 31).toUInt32).toInt32 = z) (H : own_Fin p e below s n0 Q k n T (mkF m (pc + 1) Ls (.int z :: st))) : own_Fin p e below s n0 Q k n T (mkF m pc Ls (.int y' :: .int x :: st)) := by
  subst hz
  obtain ⟨⟨hx, hby, -⟩, locs, X, -⟩ := X
  exact own_go (fun _ q => XS.iushr X.here hx rfl (hb hby hd) rfl q) H
theorem own_iushrV (X : own_S p l e R s m av below meth c Z y co ml rt n0 T ce sl h) {x : Int32} {y' : Int32}  (hd : decode co pc = .ok (.iushr, 1))  (H : ∀ v : Int32, (x.toUInt32 >>> (y' &&& 31).toUInt32).toInt32 = v → -2147483648 ≤ v.toInt → v.toInt < 2147483648 → own_Fin p e below s n0 Q k n T (mkF m (pc + 1) Ls (.int v :: st))) : own_Fin p e below s n0 Q k n T (mkF m pc Ls (.int y' :: .int x :: st)) := by
  exact own_iushrE X hd _ rfl (H _ rfl (rng32 _).1 (rng32 _).2)
theorem own_iushrK (X : own_S p l e R s m av below meth c Z y co ml rt n0 T ce sl h) {x : Int32} {y' : Int32} (a : Int) (kk : Nat) (P : Int) (hd : decode co pc = .ok (.iushr, 1)) (hxa : x.toInt = a) (hk : y'.toBitVec.toNat % 32 = kk) (hP : ((2 ^ kk : Nat) : Int) = P) (hk0 : 0 < kk) (H : ∀ v : Int32, (x.toUInt32 >>> (y' &&& 31).toUInt32).toInt32 = v → v.toInt = (a % 4294967296) / P → -2147483648 ≤ v.toInt → v.toInt < 2147483648 → own_Fin p e below s n0 Q k n T (mkF m (pc + 1) Ls (.int v :: st))) : own_Fin p e below s n0 Q k n T (mkF m pc Ls (.int y' :: .int x :: st)) := by
  exact own_iushrE X hd _ rfl (H _ rfl (by subst hxa hP; exact c_iushr x y' kk hk hk0) (rng32 _).1 (rng32 _).2)
theorem own_laddE (X : own_S p l e R s m av below meth c Z y co ml rt n0 T ce sl h) {x : Int64} {y' : Int64} (hd : decode co pc = .ok (.ladd, 1)) (z : Int64) (hz : x + y' = z) (H : own_Fin p e below s n0 Q k n T (mkF m (pc + 1) Ls (.long z :: st))) : own_Fin p e below s n0 Q k n T (mkF m pc Ls (.long y' :: .long x :: st)) := by
  subst hz
  obtain ⟨⟨hx, hby, -⟩, locs, X, -⟩ := X
  exact own_go (fun _ q => XS.ladd X.here hx rfl (hb hby hd) rfl q) H
theorem own_laddV (X : own_S p l e R s m av below meth c Z y co ml rt n0 T ce sl h) {x : Int64} {y' : Int64} (a b : Int) (hd : decode co pc = .ok (.ladd, 1)) (hxa : x.toInt = a) (hyb : y'.toInt = b) (H : ∀ v : Int64, x + y' = v → (v.toInt - (a + b)) % 18446744073709551616 = 0 → -9223372036854775808 ≤ v.toInt → v.toInt < 9223372036854775808 → own_Fin p e below s n0 Q k n T (mkF m (pc + 1) Ls (.long v :: st))) : own_Fin p e below s n0 Q k n T (mkF m pc Ls (.long y' :: .long x :: st)) := by
  exact own_laddE X hd _ rfl (H _ rfl (by subst hxa hyb; exact c_ladd x y') (rng64 _).1 (rng64 _).2)
theorem own_lsubE (X : own_S p l e R s m av below meth c Z y co ml rt n0 T ce sl h) {x : Int64} {y' : Int64} (hd : decode co pc = .ok (.lsub, 1)) (z : Int64) (hz : x - y' = z) (H : own_Fin p e below s n0 Q k n T (mkF m (pc + 1) Ls (.long z :: st))) : own_Fin p e below s n0 Q k n T (mkF m pc Ls (.long y' :: .long x :: st)) := by
  subst hz
  obtain ⟨⟨hx, hby, -⟩, locs, X, -⟩ := X
  exact own_go (fun _ q => XS.lsub X.here hx rfl (hb hby hd) rfl q) H
theorem own_lsubV (X : own_S p l e R s m av below meth c Z y co ml rt n0 T ce sl h) {x : Int64} {y' : Int64} (a b : Int) (hd : decode co pc = .ok (.lsub, 1)) (hxa : x.toInt = a) (hyb : y'.toInt = b) (H : ∀ v : Int64, x - y' = v → (v.toInt - (a - b)) % 18446744073709551616 = 0 → -9223372036854775808 ≤ v.toInt → v.toInt < 9223372036854775808 → own_Fin p e below s n0 Q k n T (mkF m (pc + 1) Ls (.long v :: st))) : own_Fin p e below s n0 Q k n T (mkF m pc Ls (.long y' :: .long x :: st)) := by
  exact own_lsubE X hd _ rfl (H _ rfl (by subst hxa hyb; exact c_lsub x y') (rng64 _).1 (rng64 _).2)
theorem own_lmulE (X : own_S p l e R s m av below meth c Z y co ml rt n0 T ce sl h) {x : Int64} {y' : Int64} (hd : decode co pc = .ok (.lmul, 1)) (z : Int64) (hz : x * y' = z) (H : own_Fin p e below s n0 Q k n T (mkF m (pc + 1) Ls (.long z :: st))) : own_Fin p e below s n0 Q k n T (mkF m pc Ls (.long y' :: .long x :: st)) := by
  subst hz
  obtain ⟨⟨hx, hby, -⟩, locs, X, -⟩ := X
  exact own_go (fun _ q => XS.lmul X.here hx rfl (hb hby hd) rfl q) H
theorem own_lmulV (X : own_S p l e R s m av below meth c Z y co ml rt n0 T ce sl h) {x : Int64} {y' : Int64} (a b : Int) (hd : decode co pc = .ok (.lmul, 1)) (hxa : x.toInt = a) (hyb : y'.toInt = b) (H : ∀ v : Int64, x * y' = v → (v.toInt - (a * b)) % 18446744073709551616 = 0 → -9223372036854775808 ≤ v.toInt → v.toInt < 9223372036854775808 → own_Fin p e below s n0 Q k n T (mkF m (pc + 1) Ls (.long v :: st))) : own_Fin p e below s n0 Q k n T (mkF m pc Ls (.long y' :: .long x :: st)) := by
  exact own_lmulE X hd _ rfl (H _ rfl (by subst hxa hyb; exact c_lmul x y') (rng64 _).1 (rng64 _).2)
theorem own_landE (X : own_S p l e R s m av below meth c Z y co ml rt n0 T ce sl h) {x : Int64} {y' : Int64} (hd : decode co pc = .ok (.land, 1)) (z : Int64) (hz : x &&& y' = z) (H : own_Fin p e below s n0 Q k n T (mkF m (pc + 1) Ls (.long z :: st))) : own_Fin p e below s n0 Q k n T (mkF m pc Ls (.long y' :: .long x :: st)) := by
  subst hz
  obtain ⟨⟨hx, hby, -⟩, locs, X, -⟩ := X
  exact own_go (fun _ q => XS.land X.here hx rfl (hb hby hd) rfl q) H
theorem own_landV (X : own_S p l e R s m av below meth c Z y co ml rt n0 T ce sl h) {x : Int64} {y' : Int64}  (hd : decode co pc = .ok (.land, 1))  (H : ∀ v : Int64, x &&& y' = v → -9223372036854775808 ≤ v.toInt → v.toInt < 9223372036854775808 → own_Fin p e below s n0 Q k n T (mkF m (pc + 1) Ls (.long v :: st))) : own_Fin p e below s n0 Q k n T (mkF m pc Ls (.long y' :: .long x :: st)) := by
  exact own_landE X hd _ rfl (H _ rfl (rng64 _).1 (rng64 _).2)
theorem own_landM (X : own_S p l e R s m av below meth c Z y co ml rt n0 T ce sl h) {x : Int64} {y' : Int64} (a : Int) (kk : Nat) (P : Int) (hd : decode co pc = .ok (.land, 1)) (hxa : x.toInt = a) (hk : kk ≤ 63) (hm : y'.toBitVec.toNat = 2 ^ kk - 1) (hP : ((2 ^ kk : Nat) : Int) = P) (H : ∀ v : Int64, x &&& y' = v → v.toInt = a % P → -9223372036854775808 ≤ v.toInt → v.toInt < 9223372036854775808 → own_Fin p e below s n0 Q k n T (mkF m (pc + 1) Ls (.long v :: st))) : own_Fin p e below s n0 Q k n T (mkF m pc Ls (.long y' :: .long x :: st)) := by
  exact own_landE X hd _ rfl (H _ rfl (by subst hxa hP; exact c_maskL x y' kk hk hm) (rng64 _).1 (rng64 _).2)
theorem own_lorE (X : own_S p l e R s m av below meth c Z y co ml rt n0 T ce sl h) {x : Int64} {y' : Int64} (hd : decode co pc = .ok (.lor, 1)) (z : Int64) (hz : x ||| y' = z) (H : own_Fin p e below s n0 Q k n T (mkF m (pc + 1) Ls (.long z :: st))) : own_Fin p e below s n0 Q k n T (mkF m pc Ls (.long y' :: .long x :: st)) := by
  subst hz
  obtain ⟨⟨hx, hby, -⟩, locs, X, -⟩ := X
  exact own_go (fun _ q => XS.lor X.here hx rfl (hb hby hd) rfl q) H
theorem own_lorV (X : own_S p l e R s m av below meth c Z y co ml rt n0 T ce sl h) {x : Int64} {y' : Int64}  (hd : decode co pc = .ok (.lor, 1))  (H : ∀ v : Int64, x ||| y' = v → -9223372036854775808 ≤ v.toInt → v.toInt < 9223372036854775808 → own_Fin p e below s n0 Q k n T (mkF m (pc + 1) Ls (.long v :: st))) : own_Fin p e below s n0 Q k n T (mkF m pc Ls (.long y' :: .long x :: st)) := by
  exact own_lorE X hd _ rfl (H _ rfl (rng64 _).1 (rng64 _).2)
theorem own_lxorE (X : own_S p l e R s m av below meth c Z y co ml rt n0 T ce sl h) {x : Int64} {y' : Int64} (hd : decode co pc = .ok (.lxor, 1)) (z : Int64) (hz : x ^^^ y' = z) (H : own_Fin p e below s n0 Q k n T (mkF m (pc + 1) Ls (.long z :: st))) : own_Fin p e below s n0 Q k n T (mkF m pc Ls (.long y' :: .long x :: st)) := by
  subst hz
  obtain ⟨⟨hx, hby, -⟩, locs, X, -⟩ := X
  exact own_go (fun _ q => XS.lxor X.here hx rfl (hb hby hd) rfl q) H
theorem own_lxorV (X : own_S p l e R s m av below meth c Z y co ml rt n0 T ce sl h) {x : Int64} {y' : Int64}  (hd : decode co pc = .ok (.lxor, 1))  (H : ∀ v : Int64, x ^^^ y' = v → -9223372036854775808 ≤ v.toInt → v.toInt < 9223372036854775808 → own_Fin p e below s n0 Q k n T (mkF m (pc + 1) Ls (.long v :: st))) : own_Fin p e below s n0 Q k n T (mkF m pc Ls (.long y' :: .long x :: st)) := by
  exact own_lxorE X hd _ rfl (H _ rfl (rng64 _).1 (rng64 _).2)
theorem own_lshlE (X : own_S p l e R s m av below meth c Z y co ml rt n0 T ce sl h) {x : Int64} {y' : Int32} (hd : decode co pc = .ok (.lshl, 1)) (z : Int64) (hz : x <<< (y' &&& 0x3f).toInt64 = z) (H : own_Fin p e below s n0 Q k n T (mkF m (pc + 1) Ls (.long z :: st))) : own_Fin p e below s n0 Q k n T (mkF m pc Ls (.int y' :: .long x :: st)) := by
  subst hz
  obtain ⟨⟨hx, hby, -⟩, locs, X, -⟩ := X
  exact own_go (fun _ q => XS.lshl X.here hx rfl (hb hby hd) rfl q) H
theorem own_lshlV (X : own_S p l e R s m av below meth c Z y co ml rt n0 T ce sl h) {x : Int64} {y' : Int32}  (hd : decode co pc = .ok (.lshl, 1))  (H : ∀ v : Int64, x <<< (y' &&& 0x3f).toInt64 = v → -9223372036854775808 ≤ v.toInt → v.toInt < 9223372036854775808 → own_Fin p e below s n0 Q k n T (mkF m (pc + 1) Ls (.long v :: st))) : own_Fin p e below s n0 Q k n T (mkF m pc Ls (.int y' :: .long x :: st)) := by
  exact own_lshlE X hd _ rfl (H _ rfl (rng64 _).1 (rng64 _).2)
theorem own_lshlK (X : own_S p l e R s m av below meth c Z y co ml rt n0 T ce sl h) {x : Int64} {y' : Int32} (a : Int) (kk : Nat) (P : Int) (hd : decode co pc = .ok (.lshl, 1)) (hxa : x.toInt = a) (hk : y'.toBitVec.toNat % 64 = kk) (hP : ((2 ^ kk : Nat) : Int) = P) (H : ∀ v : Int64, x <<< (y' &&& 0x3f).toInt64 = v → (v.toInt - a * P) % 18446744073709551616 = 0 → -9223372036854775808 ≤ v.toInt → v.toInt < 9223372036854775808 → own_Fin p e below s n0 Q k n T (mkF m (pc + 1) Ls (.long v :: st))) : own_Fin p e below s n0 Q k n T (mkF m pc Ls (.int y' :: .long x :: st)) := by
  exact own_lshlE X hd _ rfl (H _ rfl (by subst hxa hP; exact c_lshl x y' kk hk) (rng64 _).1 (rng64 _).2)
theorem own_lshrE (X : own_S p l e R s m av below meth c Z y co ml rt n0 T ce sl h) {x : Int64} {y' : Int32} (hd : decode co pc = .ok (.lshr, 1)) (z : Int64) (hz : x >>> (y' &&& 0x3f).toInt64 = z) (H : own_Fin p e below s n0 Q k n T (mkF m (pc + 1) Ls (.long z :: st))) : own_Fin p e below s n0 Q k n T (mkF m pc Ls (.int y' :: .long x :: st)) := by
  subst hz
  obtain ⟨⟨hx, hby, -⟩, locs, X, -⟩ := X
  exact own_go (fun _ q => XS.lshr X.here hx rfl (hb hby hd) rfl q) H
theorem own_lshrV (X : own_S p l e R s m av below meth c Z y co ml rt n0 T ce sl h) {x : Int64} {y' : Int32}  (hd : decode co pc = .ok (.lshr, 1))  (H : ∀ v : Int64, x >>> (y' &&& 0x3f).toInt64 = v → -9223372036854775808 ≤ v.toInt → v.toInt < 9223372036854775808 → own_Fin p e below s n0 Q k n T (mkF m (pc + 1) Ls (.long v :: st))) : own_Fin p e below s n0 Q k n T (mkF m pc Ls (.int y' :: .long x :: st)) := by
  exact own_lshrE X hd _ rfl (H _ rfl (rng64 _).1 (rng64 _).2)
theorem own_lshrK (X : own_S p l e R s m av below meth c Z y co ml rt n0 T ce sl h) {x : Int64} {y' : Int32} (a : Int) (kk : Nat) (P : Int) (hd : decode co pc = .ok (.lshr, 1)) (hxa : x.toInt = a) (hk : y'.toBitVec.toNat % 64 = kk) (hP : ((2 ^ kk : Nat) : Int) = P) (H : ∀ v : Int64, x >>> (y' &&& 0x3f).toInt64 = v → v.toInt = a / P → -9223372036854775808 ≤ v.toInt → v.toInt < 9223372036854775808 → own_Fin p e below s n0 Q k n T (mkF m (pc + 1) Ls (.long v :: st))) : own_Fin p e below s n0 Q k n T (mkF m pc Ls (.int y' :: .long x :: st)) := by
  exact own_lshrE X hd _ rfl (H _ rfl (by subst hxa hP; exact c_lshr x y' kk hk) (rng64 _).1 (rng64 _).2)
theorem own_lushrE (X : own_S p l e R s m av below meth c Z y co ml rt n0 T ce sl h) {x : Int64} {y' : Int32} (hd : decode co pc = .ok (.lushr, 1)) (z : Int64) (hz : (x.toUInt64 >>> (y' &&& 0x3f).toInt64.toUInt64).toInt64 = z) (H : own_Fin p e below s n0 Q k n T (mkF m (pc + 1) Ls (.long z :: st))) : own_Fin p e below s n0 Q k n T (mkF m pc Ls (.int y' :: .long x :: st)) := by
  subst hz
  obtain ⟨⟨hx, hby, -⟩, locs, X, -⟩ := X
  exact own_go (fun _ q => XS.lushr X.here hx rfl (hb hby hd) rfl q) H
theorem own_lushrV (X : own_S p l e R s m av below meth c Z y co ml rt n0 T ce sl h) {x : Int64} {y' : Int32}  (hd : decode co pc = .ok (.lushr, 1))  (H : ∀ v : Int64, (x.toUInt64 >>> (y' &&& 0x3f).toInt64.toUInt64).toInt64 = v → -9223372036854775808 ≤ v.toInt → v.toInt < 9223372036854775808 → own_Fin p e below s n0 Q k n T (mkF m (pc + 1) Ls (.long v :: st))) : own_Fin p e below s n0 Q k n T (mkF m pc Ls (.int y' :: .long x :: st)) := by
  exact own_lushrE X hd _ rfl (H _ rfl (rng64 _).1 (rng64 _).2)
theorem own_lushrK (X : own_S p l e R s m av below meth c Z y co ml rt n0 T ce sl h) {x : Int64} {y' : Int32} (a : Int) (kk : Nat) (P : Int) (hd : decode co pc = .ok (.lushr, 1)) (hxa : x.toInt = a) (hk : y'.toBitVec.toNat % 64 = kk) (hP : ((2 ^ kk : Nat) : Int) = P) (hk0 : 0 < kk) (H : ∀ v : Int64, (x.toUInt64 >>> (y' &&& 0x3f).toInt64.toUInt64).toInt64 = v → v.toInt = (a % 18446744073709551616) / P → -9223372036854775808 ≤ v.toInt → v.toInt < 9223372036854775808 → own_Fin p e below s n0 Q k n T (mkF m (pc + 1) Ls (.long v :: st))) : own_Fin p e below s n0 Q k n T (mkF m pc Ls (.int y' :: .long x :: st)) := by
  exact own_lushrE X hd _ rfl (H _ rfl (by subst hxa hP; exact c_lushr x y' kk hk hk0) (rng64 _).1 (rng64 _).2)
theorem own_iremE (X : own_S p l e R s m av below meth c Z y co ml rt n0 T ce sl h) {x : Int32} {y' : Int32} (hd : decode co pc = .ok (.irem, 1)) (hnz : y' ≠ 0) (z : Int32) (hz : x % y' = z) (H : own_Fin p e below s n0 Q k n T (mkF m (pc + 1) Ls (.int z :: st))) : own_Fin p e below s n0 Q k n T (mkF m pc Ls (.int y' :: .int x :: st)) := by
  subst hz
  obtain ⟨⟨hx, hby, -⟩, locs, X, -⟩ := X
  exact own_go (fun _ q => iremM X hx rfl (hb hby hd) rfl hnz q) H
theorem own_iremV (X : own_S p l e R s m av below meth c Z y co ml rt n0 T ce sl h) {x : Int32} {y' : Int32}  (hd : decode co pc = .ok (.irem, 1)) (hnz : y' ≠ 0)  (H : ∀ v : Int32, x % y' = v → -2147483648 ≤ v.toInt → v.toInt < 2147483648 → own_Fin p e below s n0 Q k n T (mkF m (pc + 1) Ls (.int v :: st))) : own_Fin p e below s n0 Q k n T (mkF m pc Ls (.int y' :: .int x :: st)) := by
  exact own_iremE X hd hnz _ rfl (H _ rfl (rng32 _).1 (rng32 _).2)
theorem own_iremK (X : own_S p l e R s m av below meth c Z y co ml rt n0 T ce sl h) {x : Int32} {y' : Int32} (a b : Int) (hd : decode co pc = .ok (.irem, 1)) (hnz : y' ≠ 0) (hxa : x.toInt = a) (hyb : y'.toInt = b) (H : ∀ v : Int32, x % y' = v → (0 ≤ a → v.toInt = a % b) ∧ (a < 0 → v.toInt = -((-a) % b)) → -2147483648 ≤ v.toInt → v.toInt < 2147483648 → own_Fin p e below s n0 Q k n T (mkF m (pc + 1) Ls (.int v :: st))) : own_Fin p e below s n0 Q k n T (mkF m pc Ls (.int y' :: .int x :: st)) := by
  exact own_iremE X hd hnz _ rfl (H _ rfl (by subst hxa; exact c_irem x y' b hyb) (rng32 _).1 (rng32 _).2)
theorem own_iremB (X : own_S p l e R s m av below meth c Z y co ml rt n0 T ce sl h) {x : Int32} {y' : Int32} (a b : Int) (hd : decode co pc = .ok (.irem, 1)) (hnz : y' ≠ 0) (hxa : x.toInt = a) (hyb : y'.toInt = b) (q1 : 0 ≤ a) (q2 : 0 < b) (H : ∀ v : Int32, x % y' = v → 0 ≤ v.toInt ∧ v.toInt < b ∧ v.toInt ≤ a → -2147483648 ≤ v.toInt → v.toInt < 2147483648 → own_Fin p e below s n0 Q k n T (mkF m (pc + 1) Ls (.int v :: st))) : own_Fin p e below s n0 Q k n T (mkF m pc Ls (.int y' :: .int x :: st)) := by
  exact own_iremE X hd hnz _ rfl (H _ rfl (by subst hxa hyb; have q := (c_iremV x y').1 q1 q2; exact ⟨q.1, q.2.1, q.2.2.1⟩) (rng32 _).1 (rng32 _).2)
theorem own_lremE (X : own_S p l e R s m av below meth c Z y co ml rt n0 T ce sl h) {x : Int64} {y' : Int64} (hd : decode co pc = .ok (.lrem, 1)) (hnz : y' ≠ 0) (z : Int64) (hz : x % y' = z) (H : own_Fin p e below s n0 Q k n T (mkF m (pc + 1) Ls (.long z :: st))) : own_Fin p e below s n0 Q k n T (mkF m pc Ls (.long y' :: .long x :: st)) := by
  subst hz
  obtain ⟨⟨hx, hby, -⟩, locs, X, -⟩ := X
  exact own_go (fun _ q => XS.lrem X.here hx rfl (hb hby hd) rfl hnz (by rw [lrem_mod]; exact q)) H
theorem own_lremV (X : own_S p l e R s m av below meth c Z y co ml rt n0 T ce sl h) {x : Int64} {y' : Int64}  (hd : decode co pc = .ok (.lrem, 1)) (hnz : y' ≠ 0)  (H : ∀ v : Int64, x % y' = v → -9223372036854775808 ≤ v.toInt → v.toInt < 9223372036854775808 → own_Fin p e below s n0 Q k n T (mkF m (pc + 1) Ls (.long v :: st))) : own_Fin p e below s n0 Q k n T (mkF m pc Ls (.long y' :: .long x :: st)) := by
  exact own_lremE X hd hnz _ rfl (H _ rfl (rng64 _).1 (rng64 _).2)
theorem own_lremK (X : own_S p l e R s m av below meth c Z y co ml rt n0 T ce sl h) {x : Int64} {y' : Int64} (a b : Int) (hd : decode co pc = .ok (.lrem, 1)) (hnz : y' ≠ 0) (hxa : x.toInt = a) (hyb : y'.toInt = b) (H : ∀ v : Int64, x % y' = v → (0 ≤ a → v.toInt = a % b) ∧ (a < 0 → v.toInt = -((-a) % b)) → -9223372036854775808 ≤ v.toInt → v.toInt < 9223372036854775808 → own_Fin p e below s n0 Q k n T (mkF m (pc + 1) Ls (.long v :: st))) : own_Fin p e below s n0 Q k n T (mkF m pc Ls (.long y' :: .long x :: st)) := by
  exact own_lremE X hd hnz _ rfl (H _ rfl (by subst hxa; have q := c_lrem x y' b hyb; rw [lrem_mod] at q; exact q) (rng64 _).1 (rng64 _).2)
theorem own_lremB (X : own_S p l e R s m av below meth c Z y co ml rt n0 T ce sl h) {x : Int64} {y' : Int64} (a b : Int) (hd : decode co pc = .ok (.lrem, 1)) (hnz : y' ≠ 0) (hxa : x.toInt = a) (hyb : y'.toInt = b) (q1 : 0 ≤ a) (q2 : 0 < b) (H : ∀ v : Int64, x % y' = v → 0 ≤ v.toInt ∧ v.toInt < b ∧ v.toInt ≤ a → -9223372036854775808 ≤ v.toInt → v.toInt < 9223372036854775808 → own_Fin p e below s n0 Q k n T (mkF m (pc + 1) Ls (.long v :: st))) : own_Fin p e below s n0 Q k n T (mkF m pc Ls (.long y' :: .long x :: st)) := by
  exact own_lremE X hd hnz _ rfl (H _ rfl (by subst hxa hyb; have q := (c_lrem x y' _ rfl).1 q1; rw [lrem_mod] at q; rw [q]; exact ⟨Int.emod_nonneg _ (by omega), Int.emod_lt_of_pos _ q2, own_emod_le q1 q2⟩) (rng64 _).1 (rng64 _).2)
theorem own_i2lE (X : own_S p l e R s m av below meth c Z y co ml rt n0 T ce sl h) {x : Int32} (hd : decode co pc = .ok (.i2l, 1)) (z : Int64) (hz : x.toInt64 = z) (H : own_Fin p e below s n0 Q k n T (mkF m (pc + 1) Ls (.long z :: st))) : own_Fin p e below s n0 Q k n T (mkF m pc Ls (.int x :: st)) := by
  subst hz
  obtain ⟨⟨hx, hby, -⟩, locs, X, -⟩ := X
  exact own_go (fun _ q => XS.i2l X.here hx rfl (hb hby hd) rfl q) H
theorem own_i2lV (X : own_S p l e R s m av below meth c Z y co ml rt n0 T ce sl h) {x : Int32} (a : Int) (hd : decode co pc = .ok (.i2l, 1)) (hxa : x.toInt = a) (H : ∀ v : Int64, x.toInt64 = v → v.toInt = a → -9223372036854775808 ≤ v.toInt → v.toInt < 9223372036854775808 → own_Fin p e below s n0 Q k n T (mkF m (pc + 1) Ls (.long v :: st))) : own_Fin p e below s n0 Q k n T (mkF m pc Ls (.int x :: st)) := by
  exact own_i2lE X hd _ rfl (H _ rfl (by subst hxa; exact c_i2l x) (rng64 _).1 (rng64 _).2)
theorem own_l2iE (X : own_S p l e R s m av below meth c Z y co ml rt n0 T ce sl h) {x : Int64} (hd : decode co pc = .ok (.l2i, 1)) (z : Int32) (hz : x.toInt32 = z) (H : own_Fin p e below s n0 Q k n T (mkF m (pc + 1) Ls (.int z :: st))) : own_Fin p e below s n0 Q k n T (mkF m pc Ls (.long x :: st)) := by
  subst hz
  obtain ⟨⟨hx, hby, -⟩, locs, X, -⟩ := X
  exact own_go (fun _ q => XS.l2i X.here hx rfl (hb hby hd) rfl q) H
theorem own_l2iV (X : own_S p l e R s m av below meth c Z y co ml rt n0 T ce sl h) {x : Int64} (a : Int) (hd : decode co pc = .ok (.l2i, 1)) (hxa : x.toInt = a) (H : ∀ v : Int32, x.toInt32 = v → (v.toInt - a) % 4294967296 = 0 → -2147483648 ≤ v.toInt → v.toInt < 2147483648 → own_Fin p e below s n0 Q k n T (mkF m (pc + 1) Ls (.int v :: st))) : own_Fin p e below s n0 Q k n T (mkF m pc Ls (.long x :: st)) := by
  exact own_l2iE X hd _ rfl (H _ rfl (by subst hxa; exact c_l2i x) (rng32 _).1 (rng32 _).2)
theorem own_i2bE (X : own_S p l e R s m av below meth c Z y co ml rt n0 T ce sl h) {x : Int32} (hd : decode co pc = .ok (.i2b, 1)) (z : Int32) (hz : x.toInt8.toInt32 = z) (H : own_Fin p e below s n0 Q k n T (mkF m (pc + 1) Ls (.int z :: st))) : own_Fin p e below s n0 Q k n T (mkF m pc Ls (.int x :: st)) := by
  subst hz
  obtain ⟨⟨hx, hby, -⟩, locs, X, -⟩ := X
  exact own_go (fun _ q => XS.i2b X.here hx rfl (hb hby hd) rfl q) H
theorem own_i2bV (X : own_S p l e R s m av below meth c Z y co ml rt n0 T ce sl h) {x : Int32} (a : Int) (hd : decode co pc = .ok (.i2b, 1)) (hxa : x.toInt = a) (H : ∀ v : Int32, x.toInt8.toInt32 = v → (v.toInt - a) % 256 = 0 ∧ -128 ≤ v.toInt ∧ v.toInt < 128 → -2147483648 ≤ v.toInt → v.toInt < 2147483648 → own_Fin p e below s n0 Q k n T (mkF m (pc + 1) Ls (.int v :: st))) : own_Fin p e below s n0 Q k n T (mkF m pc Ls (.int x :: st)) := by
  exact own_i2bE X hd _ rfl (H _ rfl (by subst hxa; exact c_i2b x) (rng32 _).1 (rng32 _).2)
theorem own_i2sE (X : own_S p l e R s m av below meth c Z y co ml rt n0 T ce sl h) {x : Int32} (hd : decode co pc = .ok (.i2s, 1)) (z : Int32) (hz : x.toInt16.toInt32 = z) (H : own_Fin p e below s n0 Q k n T (mkF m (pc + 1) Ls (.int z :: st))) : own_Fin p e below s n0 Q k n T (mkF m pc Ls (.int x :: st)) := by
  subst hz
  obtain ⟨⟨hx, hby, -⟩, locs, X, -⟩ := X
  exact own_go (fun _ q => XS.i2s X.here hx rfl (hb hby hd) rfl q) H
theorem own_i2sV (X : own_S p l e R s m av below meth c Z y co ml rt n0 T ce sl h) {x : Int32} (a : Int) (hd : decode co pc = .ok (.i2s, 1)) (hxa : x.toInt = a) (H : ∀ v : Int32, x.toInt16.toInt32 = v → (v.toInt - a) % 65536 = 0 ∧ -32768 ≤ v.toInt ∧ v.toInt < 32768 → -2147483648 ≤ v.toInt → v.toInt < 2147483648 → own_Fin p e below s n0 Q k n T (mkF m (pc + 1) Ls (.int v :: st))) : own_Fin p e below s n0 Q k n T (mkF m pc Ls (.int x :: st)) := by
  exact own_i2sE X hd _ rfl (H _ rfl (by subst hxa; exact c_i2s x) (rng32 _).1 (rng32 _).2)
theorem own_i2cE (X : own_S p l e R s m av below meth c Z y co ml rt n0 T ce sl h) {x : Int32} (hd : decode co pc = .ok (.i2c, 1)) (z : Int32) (hz : x.toUInt32.toUInt16.toUInt32.toInt32 = z) (H : own_Fin p e below s n0 Q k n T (mkF m (pc + 1) Ls (.int z :: st))) : own_Fin p e below s n0 Q k n T (mkF m pc Ls (.int x :: st)) := by
  subst hz
  obtain ⟨⟨hx, hby, -⟩, locs, X, -⟩ := X
  exact own_go (fun _ q => XS.i2c X.here hx rfl (hb hby hd) rfl q) H
theorem own_i2cV (X : own_S p l e R s m av below meth c Z y co ml rt n0 T ce sl h) {x : Int32} (a : Int) (hd : decode co pc = .ok (.i2c, 1)) (hxa : x.toInt = a) (H : ∀ v : Int32, x.toUInt32.toUInt16.toUInt32.toInt32 = v → (v.toInt - a) % 65536 = 0 ∧ 0 ≤ v.toInt ∧ v.toInt < 65536 → -2147483648 ≤ v.toInt → v.toInt < 2147483648 → own_Fin p e below s n0 Q k n T (mkF m (pc + 1) Ls (.int v :: st))) : own_Fin p e below s n0 Q k n T (mkF m pc Ls (.int x :: st)) := by
  exact own_i2cE X hd _ rfl (H _ rfl (by subst hxa; exact c_i2c x) (rng32 _).1 (rng32 _).2)
theorem own_lcmp (X : own_S p l e R s m av below meth c Z y co ml rt n0 T ce sl h) {x y' : Int64} (hd : decode co pc = .ok (.lcmp, 1)) (H : own_Fin p e below s n0 Q k n T (mkF m (pc + 1) Ls (.int (lcmpW x y') :: st))) : own_Fin p e below s n0 Q k n T (mkF m pc Ls (.long y' :: .long x :: st)) := by
  obtain ⟨⟨hx, hby, -⟩, locs, X, -⟩ := X
  exact own_go (fun _ q => XS.lcmp X.here hx rfl (hb hby hd) rfl q) H
theorem own_dup (X : own_S p l e R s m av below meth c Z y co ml rt n0 T ce sl h) {v : Value} (hd : decode co pc = .ok (.dup, 1)) (hv : v.category = 1) (H : own_Fin p e below s n0 Q k n T (mkF m (pc + 1) Ls (v :: v :: st))) : own_Fin p e below s n0 Q k n T (mkF m pc Ls (v :: st)) := by
  obtain ⟨⟨hx, hby, -⟩, locs, X, -⟩ := X
  exact own_go (fun _ q => XS.dup X.here hx rfl (hb hby hd) rfl hv q) H
theorem own_dupX1 (X : own_S p l e R s m av below meth c Z y co ml rt n0 T ce sl h) {v w : Value} (hd : decode co pc = .ok (.dup_x1, 1)) (hv : v.category = 1) (hw : w.category = 1) (H : own_Fin p e below s n0 Q k n T (mkF m (pc + 1) Ls (v :: w :: v :: st))) : own_Fin p e below s n0 Q k n T (mkF m pc Ls (v :: w :: st)) := by
  obtain ⟨⟨hx, hby, -⟩, locs, X, -⟩ := X
  exact own_go (fun _ q => XS.dupX1 X.here hx rfl (hb hby hd) rfl hv hw q) H
theorem own_pop (X : own_S p l e R s m av below meth c Z y co ml rt n0 T ce sl h) {v : Value} (hd : decode co pc = .ok (.pop, 1)) (hv : v.category = 1) (H : own_Fin p e below s n0 Q k n T (mkF m (pc + 1) Ls (st))) : own_Fin p e below s n0 Q k n T (mkF m pc Ls (v :: st)) := by
  obtain ⟨⟨hx, hby, -⟩, locs, X, -⟩ := X
  exact own_go (fun _ q => XS.pop X.here hx rfl (hb hby hd) rfl hv q) H
theorem own_iinc (X : own_S p l e R s m av below meth c Z y co ml rt n0 T ce sl h) {i : Nat} {z : Int} {x z' : Int32} {L' : Array Slot} (hd : decode co pc = .ok (.iinc i z, 3)) (hl : Ls[i]? = some (.val (.int x))) (hz : Int32.ofInt z = z') (hl' : storeLocals Ls i (.int (x + z')) = some L') (H : own_Fin p e below s n0 Q k n T (mkF m (pc + 3) L' (st))) : own_Fin p e below s n0 Q k n T (mkF m pc Ls (st)) := by
  obtain ⟨⟨hx, hby, -⟩, locs, X, -⟩ := X
  exact own_go (fun _ q => XS.iinc X.here hx rfl (hb hby hd) hl (by rw [hz]; exact hl') q) H
theorem own_goto (X : own_S p l e R s m av below meth c Z y co ml rt n0 T ce sl h) {o : Int} (pc' : Nat) (hd : decode co pc = .ok (.goto o, 3)) (ho : 0 ≤ (pc : Int) + o) (hp : ((pc : Int) + o).toNat = pc') (H : own_Fin p e below s n0 Q k n T (mkF m pc' Ls (st))) : own_Fin p e below s n0 Q k n T (mkF m pc Ls (st)) := by
  obtain ⟨⟨hx, hby, -⟩, locs, X, -⟩ := X
  exact own_go (fun _ q => XS.goto X.here hx rfl rfl (hb hby hd) ho hp q) H
theorem own_icmpYes (X : own_S p l e R s m av below meth c Z y co ml rt n0 T ce sl h) {cd : ClassFile.Cond} {o : Int} {x y' : Int32} (pc' : Nat) (hd : decode co pc = .ok (.if_icmp cd o, 3)) (hc : if_icmp.holds cd x y' = true) (ho : 0 ≤ (pc : Int) + o) (hp : ((pc : Int) + o).toNat = pc') (H : own_Fin p e below s n0 Q k n T (mkF m pc' Ls (st))) : own_Fin p e below s n0 Q k n T (mkF m pc Ls (.int y' :: .int x :: st)) := by
  obtain ⟨⟨hx, hby, -⟩, locs, X, -⟩ := X
  exact own_go (fun _ q => XS.icmpYes X.here hx rfl rfl (hb hby hd) rfl hc ho hp q) H
theorem own_icmpNo (X : own_S p l e R s m av below meth c Z y co ml rt n0 T ce sl h) {cd : ClassFile.Cond} {o : Int} {x y' : Int32} (hd : decode co pc = .ok (.if_icmp cd o, 3)) (hc : if_icmp.holds cd x y' = false) (H : own_Fin p e below s n0 Q k n T (mkF m (pc + 3) Ls (st))) : own_Fin p e below s n0 Q k n T (mkF m pc Ls (.int y' :: .int x :: st)) := by
  obtain ⟨⟨hx, hby, -⟩, locs, X, -⟩ := X
  exact own_go (fun _ q => XS.icmpNo X.here hx rfl (hb hby hd) rfl hc q) H
theorem own_ifYes (X : own_S p l e R s m av below meth c Z y co ml rt n0 T ce sl h) {cd : ClassFile.Cond} {o : Int} {x : Int32} (pc' : Nat) (hd : decode co pc = .ok (.ifCond cd o, 3)) (hc : ifCond.holds cd x = true) (ho : 0 ≤ (pc : Int) + o) (hp : ((pc : Int) + o).toNat = pc') (H : own_Fin p e below s n0 Q k n T (mkF m pc' Ls (st))) : own_Fin p e below s n0 Q k n T (mkF m pc Ls (.int x :: st)) := by
  obtain ⟨⟨hx, hby, -⟩, locs, X, -⟩ := X
  exact own_go (fun _ q => XS.ifYes X.here hx rfl rfl (hb hby hd) rfl hc ho hp q) H
theorem own_ifNo (X : own_S p l e R s m av below meth c Z y co ml rt n0 T ce sl h) {cd : ClassFile.Cond} {o : Int} {x : Int32} (hd : decode co pc = .ok (.ifCond cd o, 3)) (hc : ifCond.holds cd x = false) (H : own_Fin p e below s n0 Q k n T (mkF m (pc + 3) Ls (st))) : own_Fin p e below s n0 Q k n T (mkF m pc Ls (.int x :: st)) := by
  obtain ⟨⟨hx, hby, -⟩, locs, X, -⟩ := X
  exact own_go (fun _ q => XS.ifNo X.here hx rfl (hb hby hd) rfl hc q) H
theorem own_ifnullYes (X : own_S p l e R s m av below meth c Z y co ml rt n0 T ce sl h) {o : Int} (pc' : Nat) (hd : decode co pc = .ok (.ifnull o, 3)) (ho : 0 ≤ (pc : Int) + o) (hp : ((pc : Int) + o).toNat = pc') (H : own_Fin p e below s n0 Q k n T (mkF m pc' Ls (st))) : own_Fin p e below s n0 Q k n T (mkF m pc Ls (.null :: st)) := by
  obtain ⟨⟨hx, hby, -⟩, locs, X, -⟩ := X
  exact own_go (fun _ q => XS.ifnullYes X.here hx rfl rfl (hb hby hd) rfl ho hp q) H
theorem own_ifnullNo (X : own_S p l e R s m av below meth c Z y co ml rt n0 T ce sl h) {o : Int} {b : Addr} (hd : decode co pc = .ok (.ifnull o, 3)) (H : own_Fin p e below s n0 Q k n T (mkF m (pc + 3) Ls (st))) : own_Fin p e below s n0 Q k n T (mkF m pc Ls (.ref b :: st)) := by
  obtain ⟨⟨hx, hby, -⟩, locs, X, -⟩ := X
  exact own_go (fun _ q => XS.ifnullNo X.here hx rfl (hb hby hd) rfl q) H
theorem own_ifnonnullYes (X : own_S p l e R s m av below meth c Z y co ml rt n0 T ce sl h) {o : Int} {b : Addr} (pc' : Nat) (hd : decode co pc = .ok (.ifnonnull o, 3)) (ho : 0 ≤ (pc : Int) + o) (hp : ((pc : Int) + o).toNat = pc') (H : own_Fin p e below s n0 Q k n T (mkF m pc' Ls (st))) : own_Fin p e below s n0 Q k n T (mkF m pc Ls (.ref b :: st)) := by
  obtain ⟨⟨hx, hby, -⟩, locs, X, -⟩ := X
  exact own_go (fun _ q => XS.ifnonnullYes X.here hx rfl rfl (hb hby hd) rfl ho hp q) H
theorem own_ifnonnullNo (X : own_S p l e R s m av below meth c Z y co ml rt n0 T ce sl h) {o : Int} (hd : decode co pc = .ok (.ifnonnull o, 3)) (H : own_Fin p e below s n0 Q k n T (mkF m (pc + 3) Ls (st))) : own_Fin p e below s n0 Q k n T (mkF m pc Ls (.null :: st)) := by
  obtain ⟨⟨hx, hby, -⟩, locs, X, -⟩ := X
  exact own_go (fun _ q => XS.ifnonnullNo X.here hx rfl (hb hby hd) rfl q) H
theorem own_dup2 (X : own_S p l e R s m av below meth c Z y co ml rt n0 T ce sl h) {v w : Value} (hd : decode co pc = .ok (.dup2, 1)) (hv : v.category = 1) (hw : w.category = 1) (H : own_Fin p e below s n0 Q k n T (mkF m (pc + 1) Ls (v :: w :: v :: w :: st))) : own_Fin p e below s n0 Q k n T (mkF m pc Ls (v :: w :: st)) := by
  obtain ⟨⟨hx, hby, -⟩, locs, X, -⟩ := X
  exact own_go (fun _ q => XT.dup2 X.here hx rfl (hb hby hd) rfl hv hw q) H
theorem own_tswOut (X : own_S p l e R s m av below meth c Z y co ml rt n0 T ce sl h) {df lo hi : Int} {offs : Array Int} {len : Nat} {x : Int32} (pc' : Nat) (hd : decode co pc = .ok (.tableswitch df lo hi offs, len)) (hc : x.toInt < lo ∨ x.toInt > hi) (ho : 0 ≤ (pc : Int) + df) (hp : ((pc : Int) + df).toNat = pc') (H : own_Fin p e below s n0 Q k n T (mkF m pc' Ls st)) : own_Fin p e below s n0 Q k n T (mkF m pc Ls (.int x :: st)) := by
  obtain ⟨⟨hx, hby, -⟩, locs, X, -⟩ := X
  exact own_go (fun _ q => XS.tswOut X.here hx rfl rfl (hb hby hd) rfl hc ho hp q) H
theorem own_tswIn (X : own_S p l e R s m av below meth c Z y co ml rt n0 T ce sl h) {df lo hi o : Int} {offs : Array Int} {len : Nat} {x : Int32} (pc' : Nat) (hd : decode co pc = .ok (.tableswitch df lo hi offs, len)) (hc : ¬ (x.toInt < lo ∨ x.toInt > hi)) (hof : offs[(x.toInt - lo).toNat]? = some o) (ho : 0 ≤ (pc : Int) + o) (hp : ((pc : Int) + o).toNat = pc') (H : own_Fin p e below s n0 Q k n T (mkF m pc' Ls st)) : own_Fin p e below s n0 Q k n T (mkF m pc Ls (.int x :: st)) := by
  obtain ⟨⟨hx, hby, -⟩, locs, X, -⟩ := X
  exact own_go (fun _ q => XS.tswIn X.here hx rfl rfl (hb hby hd) rfl hc hof ho hp q) H
theorem own_all_offs {offs : Array Int} {o : Int} {i k : Nat} (h : ∀ j, j < k → offs[j]? = some o) (hi : i < k) : offs[i]? = some o := h i hi
theorem own_iincW (X : own_S p l e R s m av below meth c Z y co ml rt n0 T ce sl h) {i : Nat} {z : Int} {x z' : Int32} {L' : Array Slot} (hd : decode co pc = .ok (.iinc i z, 6)) (hl : Ls[i]? = some (.val (.int x))) (hz : Int32.ofInt z = z') (hl' : storeLocals Ls i (.int (x + z')) = some L') (H : own_Fin p e below s n0 Q k n T (mkF m (pc + 6) L' st)) : own_Fin p e below s n0 Q k n T (mkF m pc Ls st) := by
  subst hz
  obtain ⟨⟨hx, hby, -⟩, locs, X, -⟩ := X
  have hd' := hb hby hd
  refine own_go (fun target q => ?_) H
  jvm_step X.here [X.here.top, hx, hd', hl, hl']
  exact q
theorem own_ldc (X : own_S p l e R s m av below meth c Z y co ml rt n0 T ce sl h) {ix : Nat} {z : Int32} (w : (Jvm.Cond.constant y.cls ix z).before a0 Z = true) (hd : decode co pc = .ok (.ldc ix, 2)) (H : own_Fin p e below s n0 Q k n T (mkF m (pc + 2) Ls (.int z :: st))) : own_Fin p e below s n0 Q k n T (mkF m pc Ls st) := by
  obtain ⟨⟨hx, hby, -, hown, -, -, -, hZ⟩, locs, X, -⟩ := X
  exact own_go (X.ldcInt hx hown (mvT hZ w) (g := mkF m pc Ls st) rfl (hb hby hd)) H
theorem own_ldc2 (X : own_S p l e R s m av below meth c Z y co ml rt n0 T ce sl h) {ix : Nat} {z : Int64} (w : (Jvm.Cond.constantLong y.cls ix z).before a0 Z = true) (hd : decode co pc = .ok (.ldc2_w ix, 3)) (H : own_Fin p e below s n0 Q k n T (mkF m (pc + 3) Ls (.long z :: st))) : own_Fin p e below s n0 Q k n T (mkF m pc Ls st) := by
  obtain ⟨⟨hx, hby, -, hown, -, -, -, hZ⟩, locs, X, -⟩ := X
  exact own_go (X.ldc2Long hx hown (mvT hZ w) (g := mkF m pc Ls st) rfl (hb hby hd)) H
/-- the five returns -/
theorem own_ret (X : own_S p l e R s m av below meth c Z y co ml rt n0 T ce sl h) {t : FieldType} {i : Instr} {w w' : Value} (hrt : rt = some t) (hn : narrow t w' = w') (hst : ∀ {fs : List Frame} {locs : List Loc}, Stand p l e R s m av below meth c T locs ce sl → p.tables.exec = Jvm.exec → meth.sig.returnType = some t → decode c.code pc = .ok (i, 1) →
      (∀ (f : JFrame) (acts : List Action), f.method = m → f.locked = none → f.entered = [] → (doReturn e (T.setTop f) acts (some w')).1 = T.setFrames fs) → Steps p.tables e below (T.setTop (mkF m pc Ls (w :: st))) (T.setFrames fs))
    (hd : decode co pc = .ok (i, 1)) (hk : ce ≤ k) (hk' : sl ≤ n) (q : Q (some w') h) : own_Fin p e below s n0 Q k n T (mkF m pc Ls (w :: st)) := by
  obtain ⟨⟨hx, hby, -, -, -, hret, hlk, hZ⟩, locs, X, N, eh, -⟩ := X
  obtain ⟨fs, hr, hrun, hended, hW, hsame⟩ := X.leave (v := some w') (fun h => by rw [hret, hrt] at h; cases h) hlk
  exact ⟨_, _, hst X hx (by rw [hret, hrt]) (hb hby hd) hr, hrun, hended, _, _, rfl, ⟨N, by rw [show (T.setFrames fs).heap = h from eh]; exact q⟩, ⟨_, rfl⟩, hW, hsame.mono hk hk'⟩
theorem own_retI (X : own_S p l e R s m av below meth c Z y co ml (some .int) n0 T ce sl h) {z : Int32} (hd : decode co pc = .ok (.ireturn, 1)) (hk : ce ≤ k) (hk' : sl ≤ n) (q : Q (some (.int z)) h) : own_Fin p e below s n0 Q k n T (mkF m pc Ls (.int z :: st)) :=
  own_ret X rfl rfl (fun X hx hret hd hl => retOut X hx hret rfl (Or.inl ⟨rfl, Or.inl rfl, z, rfl⟩) hd hl) hd hk hk' q
theorem own_retN {t : FieldType} (X : own_S p l e R s m av below meth c Z y co ml (some t) n0 T ce sl h) {z z' : Int32} (ht : t = .boolean ∨ t = .byte ∨ t = .char ∨ t = .short) (hz : nar t z = z') (hz' : nar t z' = z') (hd : decode co pc = .ok (.ireturn, 1)) (hk : ce ≤ k) (hk' : sl ≤ n) (q : Q (some (.int z')) h) : own_Fin p e below s n0 Q k n T (mkF m pc Ls (.int z :: st)) :=
  own_ret X rfl (by rcases ht with rfl | rfl | rfl | rfl <;> exact congrArg Value.int hz') (fun X hx hret hd hl => retN X hx hret ht hd (by rw [hz]; exact hl)) hd hk hk' q
theorem own_retJ (X : own_S p l e R s m av below meth c Z y co ml (some .long) n0 T ce sl h) {z : Int64} (hd : decode co pc = .ok (.lreturn, 1)) (hk : ce ≤ k) (hk' : sl ≤ n) (q : Q (some (.long z)) h) : own_Fin p e below s n0 Q k n T (mkF m pc Ls (.long z :: st)) :=
  own_ret X rfl rfl (fun X hx hret hd hl => retOut X hx hret rfl (Or.inr (Or.inl ⟨rfl, rfl, z, rfl⟩)) hd hl) hd hk hk' q
theorem own_retR {t : FieldType} (X : own_S p l e R s m av below meth c Z y co ml (some t) n0 T ce sl h) {w : Value} (ht : t.isReference = true) (hw : w.isRef = true) (hd : decode co pc = .ok (.areturn, 1)) (hk : ce ≤ k) (hk' : sl ≤ n) (q : Q (some w) h) : own_Fin p e below s n0 Q k n T (mkF m pc Ls (w :: st)) :=
  have hn : narrow t w = w := by cases t <;> first | (cases ht; done) | rfl
  own_ret X rfl hn (fun X hx hret hd hl => retOut X hx hret hn (Or.inr (Or.inr (Or.inr (Or.inr ⟨rfl, ht, hw⟩)))) hd hl) hd hk hk' q
theorem own_retV (X : own_S p l e R s m av below meth c Z y co ml none n0 T ce sl h) (hd : decode co pc = .ok (.return_, 1)) (hk : ce ≤ k) (hk' : sl ≤ n) (q : Q none h) : own_Fin p e below s n0 Q k n T (mkF m pc Ls []) := by
  obtain ⟨⟨hx, hby, -, -, -, hret, hlk, hZ⟩, locs, X, N, eh, -⟩ := X
  obtain ⟨fs, hr, hrun, hended, hW, hsame⟩ := X.leave (v := none) (fun _ => rfl) hlk
  exact ⟨_, _, X.returnOut hx hret (hb hby hd) hr, hrun, hended, _, _, rfl, ⟨N, by rw [show (T.setFrames fs).heap = h from eh]; exact q⟩, ⟨_, rfl⟩, hW, hsame.mono hk hk'⟩
/-- a static call by its contract -/
theorem own_callS (X : own_S p l e R s m av below meth c Z y co ml rt n0 T ce sl h) {ix : Nat} {y' : MethodName} {co' : ByteArray} {ml' W : Nat} {rt' : Option FieldType} {rm : Room} {Q' : Option Value → Heap → Prop} {argsL rest stk : List Value}
    (w1 : (Jvm.Cond.methodLink y.cls ix y').before a0 Z = true) (w2 : (Jvm.Cond.static y').before a0 Z = true) (w3 : (Jvm.Cond.initialized y'.cls).before a0 Z = true) (w4 : (Jvm.Cond.code y' co' ml' rt').before a0 Z = true) (hy : y'.cls ≠ "java/lang/invoke/MethodHandle" ∧ y'.cls ≠ "java/lang/invoke/VarHandle")
    (M : own_Met l Z y' co' ml' rt' [] rm argsL.toArray h n0 Q') (hf : rm.frames + 1 ≤ R.frames) (hlo : W + (ml' + 11) + rm.locals ≤ R.locals) (hce : ce + rm.cells ≤ R.cells) (hsl : sl + rm.slots ≤ R.slots)
    (hL : Ls.size = ml) (hlen : ∀ sig, parseMethodDescriptor y'.desc = some sig → argsL.length = sig.parameters.length) (hs : stk = argsL.reverse ++ rest) (hW : (rest.map fun v => v.category).sum ≤ W) (hd : decode co pc = .ok (.invokestatic ix, 3))
    (H : ∀ T' h' v, own_S p l e R s m av below meth c Z y co ml rt n0 T' (ce + rm.cells) (sl + rm.slots) h' → Q' v h' → own_Fin p e below s n0 Q k n T' (mkF m (pc + 3) Ls (v.toList ++ rest))) : own_Fin p e below s n0 Q k n T (mkF m pc Ls stk) := by
  obtain ⟨C, locs, X, N, eh, hn⟩ := X
  obtain ⟨hx, hby, hml, hown, -, -, -, hZ⟩ := id C
  obtain ⟨v, _, ⟨T', L', k', n'⟩, -, X', ⟨Lc, ⟨hN, hQ⟩, l1, l2, l3⟩, st'⟩ := Jvm.LawKit.callS X hx (y := y') hown (mvT hZ w1) (mvT hZ w2) (mvT hZ w3) (mvT hZ w4) hy (backOf (Q := fun v h' L => Fr n0 L ∧ Q' v h') (W := W) M hZ w4 w3 hf hlo) (g := mkF m pc Ls stk) rfl (by rw [hml]; exact hL) (argsL := argsL) (rest := rest) hlen hs (by show 2 * 0 + _ ≤ _; omega) (hb hby hd) (fun _ _ => ⟨rfl, eh, hce, hsl⟩)
  dsimp only [Pt.U, Pt.locs, Pt.cells, Pt.slots] at X' l1 l2 l3 st' hQ
  subst l1 l2 l3
  exact own_go st' (H T' T'.heap v ⟨C, _, X', N.app hN, rfl, hn⟩ hQ)
/-- the forms of a contract's promise, and how a call goes on -/
def own_QI (P : Int32 → Heap → Prop) (v : Option Value) (h : Heap) : Prop := ∃ z, v = some (.int z) ∧ P z h
def own_QJ (P : Int64 → Heap → Prop) (v : Option Value) (h : Heap) : Prop := ∃ z, v = some (.long z) ∧ P z h
def own_QR (P : Value → Heap → Prop) (v : Option Value) (h : Heap) : Prop := ∃ z, v = some z ∧ P z h
def own_QV (P : Heap → Prop) (v : Option Value) (h : Heap) : Prop := v = none ∧ P h
theorem own_contI {P : Int32 → Prop} {h0 : Heap} (H : ∀ T' (z : Int32), own_S p l e R s m av below meth c Z y co ml rt n0 T' ce sl h0 → P z → own_Fin p e below s n0 Q k n T' (mkF m pc Ls (.int z :: st))) :
    ∀ T' h' v, own_S p l e R s m av below meth c Z y co ml rt n0 T' ce sl h' → own_QI (fun z h => P z ∧ h = h0) v h' → own_Fin p e below s n0 Q k n T' (mkF m pc Ls (v.toList ++ st)) := by
  rintro T' h' v X ⟨z, rfl, hz, rfl⟩; exact H T' z X hz
theorem own_contJ {P : Int64 → Prop} {h0 : Heap} (H : ∀ T' (z : Int64), own_S p l e R s m av below meth c Z y co ml rt n0 T' ce sl h0 → P z → own_Fin p e below s n0 Q k n T' (mkF m pc Ls (.long z :: st))) :
    ∀ T' h' v, own_S p l e R s m av below meth c Z y co ml rt n0 T' ce sl h' → own_QJ (fun z h => P z ∧ h = h0) v h' → own_Fin p e below s n0 Q k n T' (mkF m pc Ls (v.toList ++ st)) := by
  rintro T' h' v X ⟨z, rfl, hz, rfl⟩; exact H T' z X hz
theorem own_contR {P : Value → Prop} {h0 : Heap} (H : ∀ T' (z : Value), own_S p l e R s m av below meth c Z y co ml rt n0 T' ce sl h0 → P z → own_Fin p e below s n0 Q k n T' (mkF m pc Ls (z :: st))) :
    ∀ T' h' v, own_S p l e R s m av below meth c Z y co ml rt n0 T' ce sl h' → own_QR (fun z h => P z ∧ h = h0) v h' → own_Fin p e below s n0 Q k n T' (mkF m pc Ls (v.toList ++ st)) := by
  rintro T' h' v X ⟨z, rfl, hz, rfl⟩; exact H T' z X hz
theorem own_contIH {P : Int32 → Heap → Prop} (H : ∀ T' h' (z : Int32), own_S p l e R s m av below meth c Z y co ml rt n0 T' ce sl h' → P z h' → own_Fin p e below s n0 Q k n T' (mkF m pc Ls (.int z :: st))) :
    ∀ T' h' v, own_S p l e R s m av below meth c Z y co ml rt n0 T' ce sl h' → own_QI P v h' → own_Fin p e below s n0 Q k n T' (mkF m pc Ls (v.toList ++ st)) := by
  rintro T' h' v X ⟨z, rfl, hz⟩; exact H T' h' z X hz
theorem own_contRH {P : Value → Heap → Prop} (H : ∀ T' h' (z : Value), own_S p l e R s m av below meth c Z y co ml rt n0 T' ce sl h' → P z h' → own_Fin p e below s n0 Q k n T' (mkF m pc Ls (z :: st))) :
    ∀ T' h' v, own_S p l e R s m av below meth c Z y co ml rt n0 T' ce sl h' → own_QR P v h' → own_Fin p e below s n0 Q k n T' (mkF m pc Ls (v.toList ++ st)) := by
  rintro T' h' v X ⟨z, rfl, hz⟩; exact H T' h' z X hz
theorem own_contV {P : Prop} {h0 : Heap} (H : ∀ T', own_S p l e R s m av below meth c Z y co ml rt n0 T' ce sl h0 → P → own_Fin p e below s n0 Q k n T' (mkF m pc Ls st)) :
    ∀ T' h' v, own_S p l e R s m av below meth c Z y co ml rt n0 T' ce sl h' → own_QV (fun h => P ∧ h = h0) v h' → own_Fin p e below s n0 Q k n T' (mkF m pc Ls (v.toList ++ st)) := by
  rintro T' h' v X ⟨rfl, hz, rfl⟩; exact H T' X hz
theorem own_contVH {P : Heap → Prop} (H : ∀ T' h', own_S p l e R s m av below meth c Z y co ml rt n0 T' ce sl h' → P h' → own_Fin p e below s n0 Q k n T' (mkF m pc Ls st)) :
    ∀ T' h' v, own_S p l e R s m av below meth c Z y co ml rt n0 T' ce sl h' → own_QV P v h' → own_Fin p e below s n0 Q k n T' (mkF m pc Ls (v.toList ++ st)) := by
  rintro T' h' v X ⟨rfl, hz⟩; exact H T' h' X hz
/-- fields, new, Object.<init>, the other calls -/
theorem own_getF (X : own_S p l e R s m av below meth c Z y co ml rt n0 T ce sl h) {R0 O nm d host : String} {ix : Nat} {a : Addr} {v : Value} (w : (Jvm.Cond.fieldLink y.cls ix R0 nm d).before a0 Z = true ∨ (Jvm.Cond.fieldLinkNest y.cls ix R0 nm d host).before a0 Z = true) (via : Via Z R0 O nm d) (F : Fld Z h a O nm d v) (hd : decode co pc = .ok (.getfield ix, 3))
    (H : ∀ T', own_S p l e R s m av below meth c Z y co ml rt n0 T' ce sl h → own_Fin p e below s n0 Q k n T' (mkF m (pc + 3) Ls (v :: st))) : own_Fin p e below s n0 Q k n T (mkF m pc Ls (.ref a :: st)) := by
  obtain ⟨C, locs, X, N, eh, hn⟩ := X
  obtain ⟨hx, hby, hml, hown, -, -, -, hZ⟩ := id C
  obtain ⟨T', X', e', st'⟩ := getF X hx hZ hown w via eh F (g := mkF m pc Ls (.ref a :: st)) rfl rfl (hb hby hd)
  exact own_go st' (H T' ⟨C, _, X', N, e', hn⟩)
theorem own_putF (X : own_S p l e R s m av below meth c Z y co ml rt n0 T ce sl h) {R0 O nm d host K : String} {ix kk : Nat} {ty : FieldType} {a : Addr} {v old : Value} (w : (Jvm.Cond.fieldLink y.cls ix R0 nm d).before a0 Z = true ∨ (Jvm.Cond.fieldLinkNest y.cls ix R0 nm d host).before a0 Z = true) (via : Via Z R0 O nm d) (F : Fld Z h a O nm d old) (E : Exa Z h a K)
    (Lw : (Jvm.Cond.lays K O nm d).before a0 Z = true ∨ ((Jvm.Cond.laysFinal K O nm d).before a0 Z = true ∧ y.cls = O ∧ y.name = "<init>")) (wi : (Jvm.Cond.instantiable K kk).before a0 Z = true) (hty : parseFieldDescriptor d = some ty) (hnw : narrow ty v = v) (hft : fits ty v = true) (ge : n0 ≤ a) (hd : decode co pc = .ok (.putfield ix, 3))
    (H : ∀ T' h', own_S p l e R s m av below meth c Z y co ml rt n0 T' ce sl h' → Wr h h' a (Jvm.RoadKit.slotOf Z O nm d) v → own_Fin p e below s n0 Q k n T' (mkF m (pc + 3) Ls st)) : own_Fin p e below s n0 Q k n T (mkF m pc Ls (v :: .ref a :: st)) := by
  obtain ⟨C, locs, X, N, eh, hn⟩ := X
  obtain ⟨hx, hby, hml, hown, hnm, -, -, hZ⟩ := id C
  obtain ⟨T', h', X', e', W, st'⟩ := putF X hx hZ hown w via eh F E (Lw.imp id fun q => ⟨q.1, q.2.1, hnm.trans q.2.2⟩) wi hty hnw hft (g := mkF m pc Ls (v :: .ref a :: st)) rfl rfl (hb hby hd)
  exact own_go st' (H T' h' ⟨C, _, X', Fr.snoc X' N ge, e', hn⟩ W)
theorem own_putFZ (X : own_S p l e R s m av below meth c Z y co ml rt n0 T ce sl h) {R0 O nm d K : String} {ix kk : Nat} {ty : FieldType} {a : Addr} {v v' old : Value} (w : (Jvm.Cond.fieldLink y.cls ix R0 nm d).before a0 Z = true) (via : Via Z R0 O nm d) (F : Fld Z h a O nm d old) (E : Exa Z h a K)
    (Lw : (Jvm.Cond.lays K O nm d).before a0 Z = true ∨ ((Jvm.Cond.laysFinal K O nm d).before a0 Z = true ∧ y.cls = O ∧ y.name = "<init>")) (wi : (Jvm.Cond.instantiable K kk).before a0 Z = true) (hty : parseFieldDescriptor d = some ty) (hnw : narrow ty v = v') (hft : fits ty v' = true) (ge : n0 ≤ a) (hd : decode co pc = .ok (.putfield ix, 3))
    (H : ∀ T' h', own_S p l e R s m av below meth c Z y co ml rt n0 T' ce sl h' → Wr h h' a (Jvm.RoadKit.slotOf Z O nm d) v' → own_Fin p e below s n0 Q k n T' (mkF m (pc + 3) Ls st)) : own_Fin p e below s n0 Q k n T (mkF m pc Ls (v :: .ref a :: st)) := by
  obtain ⟨C, locs, X, N, eh, hn⟩ := X
  obtain ⟨hx, hby, hml, hown, hnm, -, -, hZ⟩ := id C
  obtain ⟨T', h', X', e', W, st'⟩ := putFN X hx hZ hown w via eh F E (Lw.imp id fun q => ⟨q.1, q.2.1, hnm.trans q.2.2⟩) wi hty hnw hft (g := mkF m pc Ls (v :: .ref a :: st)) rfl rfl (hb hby hd)
  exact own_go st' (H T' h' ⟨C, _, X', Fr.snoc X' N ge, e', hn⟩ W)
theorem own_newO (X : own_S p l e R s m av below meth c Z y co ml rt n0 T ce sl h) {K : String} {ix nn : Nat} (w : (Jvm.Cond.classLink y.cls ix K).before a0 Z = true) (wi : (Jvm.Cond.instantiable K nn).before a0 Z = true) (wz : (Jvm.Cond.initialized K).before a0 Z = true) (hd : decode co pc = .ok (.new ix, 3)) (hc : ce + 1 ≤ R.cells) (hs : sl + nn ≤ R.slots)
    (H : ∀ T' h' (b : Addr), b = h.size → n0 ≤ b → own_S p l e R s m av below meth c Z y co ml rt n0 T' (ce + 1) (sl + nn) h' → Ext h h' → Exa Z h' b K → (∀ {O nm d : String} {ty : FieldType}, Laid Z a0 K O nm d → parseFieldDescriptor d = some ty → Fld Z h' b O nm d (defaultValue ty)) → own_Fin p e below s n0 Q k n T' (mkF m (pc + 3) Ls (.ref b :: st))) : own_Fin p e below s n0 Q k n T (mkF m pc Ls st) := by
  have hz := own_size X
  obtain ⟨C, locs, X, N, eh, hn⟩ := X
  obtain ⟨hx, hby, hml, hown, hnm, -, -, hZ⟩ := id C
  obtain ⟨T', h', X', e', E, A, D, -, st'⟩ := newO X hx hZ hown w wi wz eh (g := mkF m pc Ls st) rfl (hb hby hd) hc hs
  exact own_go st' (H T' h' _ rfl hz ⟨C, _, X', N, e', hn⟩ E A D)
/-- a constructor by its contract -/
theorem own_callI (X : own_S p l e R s m av below meth c Z y co ml rt n0 T ce sl h) {ix : Nat} {y' : MethodName} {co' : ByteArray} {ml' W : Nat} {rm : Room} {Q' : Option Value → Heap → Prop} {a : Addr} {argsL rest stk : List Value} (hi : y'.name = "<init>")
    (w1 : (Jvm.Cond.methodLink y.cls ix y').before a0 Z = true) (w2 : (Jvm.Cond.instanceMethod y').before a0 Z = true) (w3 : (Jvm.Cond.initialized y'.cls).before a0 Z = true) (w4 : (Jvm.Cond.code y' co' ml' none).before a0 Z = true) (hy : y'.cls ≠ "java/lang/invoke/MethodHandle" ∧ y'.cls ≠ "java/lang/invoke/VarHandle")
    (M : own_Met l Z y' co' ml' none [] rm (.ref a :: argsL).toArray h n0 Q') (hf : rm.frames + 1 ≤ R.frames) (hlo : W + (ml' + 11) + rm.locals ≤ R.locals) (hce : ce + rm.cells ≤ R.cells) (hsl : sl + rm.slots ≤ R.slots)
    (hL : Ls.size = ml) (hlen : ∀ sig, parseMethodDescriptor y'.desc = some sig → argsL.length = sig.parameters.length) (hs : stk = argsL.reverse ++ .ref a :: rest) (hW : (rest.map fun v => v.category).sum ≤ W) (hd : decode co pc = .ok (.invokespecial ix, 3))
    (H : ∀ T' h' v, own_S p l e R s m av below meth c Z y co ml rt n0 T' (ce + rm.cells) (sl + rm.slots) h' → Q' v h' → own_Fin p e below s n0 Q k n T' (mkF m (pc + 3) Ls (v.toList ++ rest))) : own_Fin p e below s n0 Q k n T (mkF m pc Ls stk) := by
  obtain ⟨C, locs, X, N, eh, hn⟩ := X
  obtain ⟨hx, hby, hml, hown, -, -, -, hZ⟩ := id C
  obtain ⟨v, _, ⟨T', L', k', n'⟩, -, X', ⟨Lc, ⟨hN, hQ⟩, l1, l2, l3⟩, st'⟩ := X.specialBack hx (y := y') hi hown (mvT hZ w1) (mvT hZ w2) (mvT hZ w4) hy (backOf (Q := fun v h' L => Fr n0 L ∧ Q' v h') (W := W) M hZ w4 w3 hf hlo) (g := mkF m pc Ls stk) rfl (by rw [hml]; exact hL) (Steps.refl _) (a := a) (argsL := argsL) (rest := rest) hlen hs (by show 2 * 0 + _ ≤ _; omega) (hb hby hd) (fun _ _ => ⟨rfl, eh, hce, hsl⟩)
  dsimp only [Pt.U, Pt.locs, Pt.cells, Pt.slots] at X' l1 l2 l3 st' hQ
  subst l1 l2 l3
  exact own_goT st' (H T' T'.heap v ⟨C, _, X', N.app hN, rfl, hn⟩ hQ)
/-- an instance method by its contract -/
theorem own_callV (X : own_S p l e R s m av below meth c Z y co ml rt n0 T ce sl h) {ix : Nat} {K : String} {y' : MethodName} {co' : ByteArray} {ml' W : Nat} {rt' : Option FieldType} {rm : Room} {Q' : Option Value → Heap → Prop} {a : Addr} {argsL rest stk : List Value}
    (w1 : (Jvm.Cond.methodLink y.cls ix y').before a0 Z = true) (w2 : (Jvm.Cond.declares y').before a0 Z = true) (w3 : (Jvm.Cond.selects K y' y').before a0 Z = true) (w5 : (Jvm.Cond.instanceMethod y').before a0 Z = true) (w6 : (Jvm.Cond.initialized y'.cls).before a0 Z = true) (w4 : (Jvm.Cond.code y' co' ml' rt').before a0 Z = true) (hK : K = y'.cls) (hy : y'.cls ≠ "java/lang/invoke/MethodHandle" ∧ y'.cls ≠ "java/lang/invoke/VarHandle")
    (M : own_Met l Z y' co' ml' rt' [] rm (.ref a :: argsL).toArray h n0 Q') (E : Exa Z h a K) (hf : rm.frames + 1 ≤ R.frames) (hlo : W + (ml' + 11) + rm.locals ≤ R.locals) (hce : ce + rm.cells ≤ R.cells) (hsl : sl + rm.slots ≤ R.slots)
    (hL : Ls.size = ml) (hlen : ∀ sig, parseMethodDescriptor y'.desc = some sig → argsL.length = sig.parameters.length) (hs : stk = argsL.reverse ++ .ref a :: rest) (hW : (rest.map fun v => v.category).sum ≤ W) (hd : decode co pc = .ok (.invokevirtual ix, 3))
    (H : ∀ T' h' v, own_S p l e R s m av below meth c Z y co ml rt n0 T' (ce + rm.cells) (sl + rm.slots) h' → Q' v h' → own_Fin p e below s n0 Q k n T' (mkF m (pc + 3) Ls (v.toList ++ rest))) : own_Fin p e below s n0 Q k n T (mkF m pc Ls stk) := by
  subst hK
  obtain ⟨C, locs, X, N, eh, hn⟩ := X
  obtain ⟨hx, hby, hml, hown, -, -, -, hZ⟩ := id C
  obtain ⟨cq, kq, qa, qb, qc⟩ := isOf (T := T) hZ eh E
  obtain ⟨v, _, ⟨T', L', k', n'⟩, -, X', ⟨Lc, ⟨hN, hQ⟩, l1, l2, l3⟩, st'⟩ := X.virtualBack hx (y := y') (z := y') hown (mvT hZ w1) (mvT hZ w2) (notFace_of_selects (args := #[]) (mvT hZ w3)) (mvT hZ w3) (mvT hZ w5) hy (backOf (Q := fun v h' L => Fr n0 L ∧ Q' v h') (W := W) M hZ w4 w6 hf hlo) qa qc (g := mkF m pc Ls stk) rfl (by rw [hml]; exact hL) (Steps.refl _) (argsL := argsL) (rest := rest) hlen hs (by show 2 * 0 + _ ≤ _; omega) (hb hby hd) (fun _ _ => ⟨rfl, eh, hce, hsl⟩)
  dsimp only [Pt.U, Pt.locs, Pt.cells, Pt.slots] at X' l1 l2 l3 st' hQ
  subst l1 l2 l3
  exact own_goT st' (H T' T'.heap v ⟨C, _, X', N.app hN, rfl, hn⟩ hQ)
/-- an array of ints (bytes, chars ..) of N places: place j holds f j -/
def own_AI (Z : State) (h : Heap) (a : Addr) (ty : FieldType) (N : Int32) (f : Int32 → Int32) : Prop := ∃ c : Cell, Arr Z h a c ty ∧ c.slots.size = N.toNatClampNeg ∧ ¬ N < 0 ∧ ∀ j : Int32, ¬ j < 0 → j < N → c.slots[j.toNatClampNeg]? = some (.int (f j)) ∧ fits ty (.int (f j)) = true
def own_AJ (Z : State) (h : Heap) (a : Addr) (N : Int32) (f : Int32 → Int64) : Prop := ∃ c : Cell, Arr Z h a c .long ∧ c.slots.size = N.toNatClampNeg ∧ ¬ N < 0 ∧ ∀ j : Int32, ¬ j < 0 → j < N → c.slots[j.toNatClampNeg]? = some (.long (f j))
def own_upd {α : Type} (f : Int32 → α) (j : Int32) (x : α) : Int32 → α := fun q => if q = j then x else f q
theorem own_upd_hit {α : Type} (f : Int32 → α) (j : Int32) (x : α) : own_upd f j x j = x := if_pos rfl
theorem own_upd_miss {α : Type} {f : Int32 → α} {j i : Int32} {x : α} (q : ¬ i = j) : own_upd f j x i = f i := if_neg q
theorem own_upd_yes {α : Type} {f : Int32 → α} {j i : Int32} {x : α} (q : i = j) : own_upd f j x i = x := if_pos q
theorem own_nat {i j : Int32} (hi : ¬ i < 0) (hj : ¬ j < 0) (ne : ¬ i = j) : i.toNatClampNeg ≠ j.toNatClampNeg := fun q => ne (Int32.toInt_inj.mp (by rw [nat_of hi, nat_of hj, q]))
theorem own_inb {cl : Cell} {j N : Int32} (S : cl.slots.size = N.toNatClampNeg) (h0 : ¬ j < 0) (h1 : j < N) : ¬ (j < 0 ∨ cl.slots.size ≤ j.toNatClampNeg) := inb_of S ⟨h0, h1⟩
section Facts
variable {h' : Heap} {a b : Addr} {ty : FieldType} {N : Int32} {f : Int32 → Int32} {g : Int32 → Int64} {i : Nat} {v : Value} {ws : List Addr}
theorem own_AI.lt (F : own_AI Z h a ty N f) : a < h.size := by obtain ⟨c, A, -⟩ := F; exact A.lt
theorem own_AI.ext (F : own_AI Z h a ty N f) (E : Ext h h') : own_AI Z h' a ty N f := by obtain ⟨c, A, r⟩ := F; exact ⟨c, A.ext E, r⟩
theorem own_AI.other (F : own_AI Z h b ty N f) (W : Wr h h' a i v) (q : b ≠ a) : own_AI Z h' b ty N f := by obtain ⟨c, A, r⟩ := F; exact ⟨c, A.other W q, r⟩
theorem own_AI.keep (F : own_AI Z h a ty N f) (K : Keep h h' ws) (q : a ∉ ws) : own_AI Z h' a ty N f := by obtain ⟨c, A, r⟩ := F; exact ⟨c, ⟨K.2.1 a c A.1 q, A.2⟩, r⟩
theorem own_AI.nn (F : own_AI Z h a ty N f) : ¬ N < 0 := by obtain ⟨c, -, -, r, -⟩ := F; exact r
theorem own_AI.fit (F : own_AI Z h a ty N f) {j : Int32} (h0 : ¬ j < 0) (h1 : j < N) : fits ty (.int (f j)) = true := by obtain ⟨c, -, -, -, r⟩ := F; exact (r j h0 h1).2
theorem own_AI.set (F : own_AI Z h a ty N f) {j x : Int32} (h0 : ¬ j < 0) (h1 : j < N) (W : Wr h h' a j.toNatClampNeg (.int x)) (hf : fits ty (.int x) = true) : own_AI Z h' a ty N (own_upd f j x) := by
  obtain ⟨c, A, S, hN, r⟩ := F
  refine ⟨_, A.same W, (sz_set _ _ _).trans S, hN, fun q q0 q1 => ?_⟩
  by_cases e : q = j
  · subst e; rw [own_upd_hit]; exact ⟨get_hit (own_inb S h0 h1) rfl, hf⟩
  · rw [own_upd_miss e, get_miss h0 q0 e]; exact r q q0 q1
theorem own_AI.eqv (F : own_AI Z h a ty N f) {f' : Int32 → Int32} (q : ∀ j : Int32, ¬ j < 0 → j < N → f j = f' j) : own_AI Z h a ty N f' := by
  obtain ⟨c, A, S, hN, r⟩ := F
  exact ⟨c, A, S, hN, fun j h0 h1 => by rw [← q j h0 h1]; exact r j h0 h1⟩
theorem own_AJ.lt (F : own_AJ Z h a N g) : a < h.size := by obtain ⟨c, A, -⟩ := F; exact A.lt
theorem own_AJ.ext (F : own_AJ Z h a N g) (E : Ext h h') : own_AJ Z h' a N g := by obtain ⟨c, A, r⟩ := F; exact ⟨c, A.ext E, r⟩
theorem own_AJ.other (F : own_AJ Z h b N g) (W : Wr h h' a i v) (q : b ≠ a) : own_AJ Z h' b N g := by obtain ⟨c, A, r⟩ := F; exact ⟨c, A.other W q, r⟩
theorem own_AJ.keep (F : own_AJ Z h a N g) (K : Keep h h' ws) (q : a ∉ ws) : own_AJ Z h' a N g := by obtain ⟨c, A, r⟩ := F; exact ⟨c, ⟨K.2.1 a c A.1 q, A.2⟩, r⟩
theorem own_AJ.set (F : own_AJ Z h a N g) {j : Int32} {x : Int64} (h0 : ¬ j < 0) (h1 : j < N) (W : Wr h h' a j.toNatClampNeg (.long x)) : own_AJ Z h' a N (own_upd g j x) := by
  obtain ⟨c, A, S, hN, r⟩ := F
  refine ⟨_, A.same W, (sz_set _ _ _).trans S, hN, fun q q0 q1 => ?_⟩
  by_cases e : q = j
  · subst e; rw [own_upd_hit]; exact get_hit (own_inb S h0 h1) rfl
  · rw [own_upd_miss e, get_miss h0 q0 e]; exact r q q0 q1
theorem own_ne_ai {K : String} {kk : Nat} (E : Exa Z h a K) (wi : (Jvm.Cond.instantiable K kk).before a0 Z = true) (F : own_AI Z h b ty N f) : a ≠ b := by obtain ⟨c, A, -⟩ := F; exact ne_arr E wi A
theorem own_ne_aj {K : String} {kk : Nat} (E : Exa Z h a K) (wi : (Jvm.Cond.instantiable K kk).before a0 Z = true) (F : own_AJ Z h b N g) : a ≠ b := by obtain ⟨c, A, -⟩ := F; exact ne_arr E wi A
end Facts
theorem own_byteR {z : Int32} (hf : fits .byte (.int z) = true) : -128 ≤ z.toInt ∧ z.toInt < 128 := by
  simp only [fits, Bool.and_eq_true, decide_eq_true_eq, Int32.le_iff_toInt_le, show (-128 : Int32).toInt = -128 from by decide, show (127 : Int32).toInt = 127 from by decide] at hf
  omega
theorem own_alen (X : own_S p l e R s m av below meth c Z y co ml rt n0 T ce sl h) {a : Addr} {ty : FieldType} {N : Int32} {f : Int32 → Int32} (A : own_AI Z h a ty N f) (hd : decode co pc = .ok (.arraylength, 1)) (H : own_Fin p e below s n0 Q k n T (mkF m (pc + 1) Ls (.int N :: st))) : own_Fin p e below s n0 Q k n T (mkF m pc Ls (.ref a :: st)) := by
  obtain ⟨⟨hx, hby, -, -, -, -, -, hZ⟩, locs, X, -, eh, -⟩ := X
  obtain ⟨cl, A, S, hN, -⟩ := A
  refine own_go (fun _ q => X.arraylength hx (by rw [eh]; exact A.1) (State.isArrayOf_alike hZ.alike A.2.1) (g := mkF m pc Ls (.ref a :: st)) rfl rfl (hb hby hd) _ ?_) H
  rw [len_of S hN]; exact q
theorem own_alenJ (X : own_S p l e R s m av below meth c Z y co ml rt n0 T ce sl h) {a : Addr} {N : Int32} {f : Int32 → Int64} (A : own_AJ Z h a N f) (hd : decode co pc = .ok (.arraylength, 1)) (H : own_Fin p e below s n0 Q k n T (mkF m (pc + 1) Ls (.int N :: st))) : own_Fin p e below s n0 Q k n T (mkF m pc Ls (.ref a :: st)) := by
  obtain ⟨⟨hx, hby, -, -, -, -, -, hZ⟩, locs, X, -, eh, -⟩ := X
  obtain ⟨cl, A, S, hN, -⟩ := A
  refine own_go (fun _ q => X.arraylength hx (by rw [eh]; exact A.1) (State.isArrayOf_alike hZ.alike A.2.1) (g := mkF m pc Ls (.ref a :: st)) rfl rfl (hb hby hd) _ ?_) H
  rw [len_of S hN]; exact q
theorem own_iaload (X : own_S p l e R s m av below meth c Z y co ml rt n0 T ce sl h) {a : Addr} {N j : Int32} {f : Int32 → Int32} (A : own_AI Z h a .int N f) (h0 : ¬ j < 0) (h1 : j < N) (hd : decode co pc = .ok (.iaload, 1)) (H : ∀ v, f j = v → -2147483648 ≤ v.toInt → v.toInt < 2147483648 → own_Fin p e below s n0 Q k n T (mkF m (pc + 1) Ls (.int v :: st))) : own_Fin p e below s n0 Q k n T (mkF m pc Ls (.int j :: .ref a :: st)) := by
  obtain ⟨⟨hx, hby, -, -, -, -, -, hZ⟩, locs, X, -, eh, -⟩ := X
  obtain ⟨cl, A, S, hN, r⟩ := A
  exact own_go (fun _ q => X.iaload hx (by rw [eh]; exact A.1) (State.isArrayOf_alike hZ.alike A.2.1) A.2.2 (own_inb S h0 h1) (r j h0 h1).1 (g := mkF m pc Ls (.int j :: .ref a :: st)) rfl rfl (hb hby hd) _ q) (H _ rfl (rng32 _).1 (rng32 _).2)
theorem own_baload (X : own_S p l e R s m av below meth c Z y co ml rt n0 T ce sl h) {a : Addr} {N j : Int32} {f : Int32 → Int32} (A : own_AI Z h a .byte N f) (h0 : ¬ j < 0) (h1 : j < N) (hd : decode co pc = .ok (.baload, 1)) (H : ∀ v, f j = v → -128 ≤ v.toInt → v.toInt < 128 → own_Fin p e below s n0 Q k n T (mkF m (pc + 1) Ls (.int v :: st))) : own_Fin p e below s n0 Q k n T (mkF m pc Ls (.int j :: .ref a :: st)) := by
  obtain ⟨⟨hx, hby, -, -, -, -, -, hZ⟩, locs, X, -, eh, -⟩ := X
  obtain ⟨cl, A, S, hN, r⟩ := A
  exact own_go (fun _ q => X.baloadBytes hx (by rw [eh]; exact A.1) (State.isArrayOf_alike hZ.alike A.2.1) A.2.2 (own_inb S h0 h1) (r j h0 h1).1 (g := mkF m pc Ls (.int j :: .ref a :: st)) rfl rfl (hb hby hd) _ q) (H _ rfl (own_byteR (r j h0 h1).2).1 (own_byteR (r j h0 h1).2).2)
theorem own_laload (X : own_S p l e R s m av below meth c Z y co ml rt n0 T ce sl h) {a : Addr} {N j : Int32} {f : Int32 → Int64} (A : own_AJ Z h a N f) (h0 : ¬ j < 0) (h1 : j < N) (hd : decode co pc = .ok (.laload, 1)) (H : ∀ v, f j = v → -9223372036854775808 ≤ v.toInt → v.toInt < 9223372036854775808 → own_Fin p e below s n0 Q k n T (mkF m (pc + 1) Ls (.long v :: st))) : own_Fin p e below s n0 Q k n T (mkF m pc Ls (.int j :: .ref a :: st)) := by
  obtain ⟨⟨hx, hby, -, -, -, -, -, hZ⟩, locs, X, -, eh, -⟩ := X
  obtain ⟨cl, A, S, hN, r⟩ := A
  exact own_go (fun _ q => X.laload hx (by rw [eh]; exact A.1) (State.isArrayOf_alike hZ.alike A.2.1) A.2.2 (own_inb S h0 h1) (r j h0 h1) (g := mkF m pc Ls (.int j :: .ref a :: st)) rfl rfl (hb hby hd) _ q) (H _ rfl (rng64 _).1 (rng64 _).2)
theorem own_bastore (X : own_S p l e R s m av below meth c Z y co ml rt n0 T ce sl h) {a : Addr} {N j x x' : Int32} {f : Int32 → Int32} (A : own_AI Z h a .byte N f) (h0 : ¬ j < 0) (h1 : j < N) (ge : n0 ≤ a) (hx' : x.toInt8.toInt32 = x') (hd : decode co pc = .ok (.bastore, 1))
    (H : ∀ T' h', own_S p l e R s m av below meth c Z y co ml rt n0 T' ce sl h' → ∀ f', f' = own_upd f j x' → own_AI Z h' a .byte N f' → Wr h h' a j.toNatClampNeg (.int x') → own_Fin p e below s n0 Q k n T' (mkF m (pc + 1) Ls st)) : own_Fin p e below s n0 Q k n T (mkF m pc Ls (.int x :: .int j :: .ref a :: st)) := by
  obtain ⟨C, locs, X, N', eh, hn⟩ := X
  obtain ⟨hx, hby, hml, hown, -, -, -, hZ⟩ := id C
  obtain ⟨cl, A', S, hN, r⟩ := id A
  obtain ⟨T', h', X', e', W, st'⟩ := stB X hx hZ eh A' (j := j) (own_inb S h0 h1) (g := mkF m pc Ls (.int x :: .int j :: .ref a :: st)) rfl rfl (hb hby hd)
  have W' : Wr h h' a j.toNatClampNeg (.int x') := by rw [← hx']; exact W
  exact own_go st' (H T' h' ⟨C, _, X', Fr.snoc X' N' ge, e', hn⟩ _ rfl (A.set h0 h1 W' (by rw [← hx']; exact fits_nar_byte x)) W')
theorem own_iastore (X : own_S p l e R s m av below meth c Z y co ml rt n0 T ce sl h) {a : Addr} {N j x : Int32} {f : Int32 → Int32} (A : own_AI Z h a .int N f) (h0 : ¬ j < 0) (h1 : j < N) (ge : n0 ≤ a) (hd : decode co pc = .ok (.iastore, 1))
    (H : ∀ T' h', own_S p l e R s m av below meth c Z y co ml rt n0 T' ce sl h' → ∀ f', f' = own_upd f j x → own_AI Z h' a .int N f' → Wr h h' a j.toNatClampNeg (.int x) → own_Fin p e below s n0 Q k n T' (mkF m (pc + 1) Ls st)) : own_Fin p e below s n0 Q k n T (mkF m pc Ls (.int x :: .int j :: .ref a :: st)) := by
  obtain ⟨C, locs, X, N', eh, hn⟩ := X
  obtain ⟨hx, hby, hml, hown, -, -, -, hZ⟩ := id C
  obtain ⟨cl, A', S, hN, r⟩ := id A
  obtain ⟨T', h', X', e', W, st'⟩ := stI X hx hZ eh A' (j := j) (own_inb S h0 h1) (g := mkF m pc Ls (.int x :: .int j :: .ref a :: st)) rfl rfl (hb hby hd)
  exact own_go st' (H T' h' ⟨C, _, X', Fr.snoc X' N' ge, e', hn⟩ _ rfl (A.set h0 h1 W rfl) W)
theorem own_lastore (X : own_S p l e R s m av below meth c Z y co ml rt n0 T ce sl h) {a : Addr} {N j : Int32} {x : Int64} {f : Int32 → Int64} (A : own_AJ Z h a N f) (h0 : ¬ j < 0) (h1 : j < N) (ge : n0 ≤ a) (hd : decode co pc = .ok (.lastore, 1))
    (H : ∀ T' h', own_S p l e R s m av below meth c Z y co ml rt n0 T' ce sl h' → ∀ f', f' = own_upd f j x → own_AJ Z h' a N f' → Wr h h' a j.toNatClampNeg (.long x) → own_Fin p e below s n0 Q k n T' (mkF m (pc + 1) Ls st)) : own_Fin p e below s n0 Q k n T (mkF m pc Ls (.long x :: .int j :: .ref a :: st)) := by
  obtain ⟨C, locs, X, N', eh, hn⟩ := X
  obtain ⟨hx, hby, hml, hown, -, -, -, hZ⟩ := id C
  obtain ⟨cl, A', S, hN, r⟩ := id A
  obtain ⟨T', h', X', e', W, st'⟩ := stJ X hx hZ eh A' (j := j) (own_inb S h0 h1) (g := mkF m pc Ls (.long x :: .int j :: .ref a :: st)) rfl rfl (hb hby hd)
  exact own_go st' (H T' h' ⟨C, _, X', Fr.snoc X' N' ge, e', hn⟩ _ rfl (A.set h0 h1 W) W)
theorem own_newP (X : own_S p l e R s m av below meth c Z y co ml rt n0 T ce sl h) {aty : ArrayType} {N : Int32} {cap : Nat} (w : (Jvm.Cond.arrayClass (newarray.typeOf aty)).before a0 Z = true) (hty : defaultValue (newarray.typeOf aty) = .int 0 ∧ fits (newarray.typeOf aty) (.int 0) = true) (hN : ¬ N < 0) (hcap : N.toNatClampNeg ≤ cap) (hb' : cap * 8 ≤ 536870912) (hc : ce + 1 ≤ R.cells) (hs : sl + cap ≤ R.slots) (hd : decode co pc = .ok (.newarray aty, 2))
    (H : ∀ T' h' (b : Addr), b = h.size → n0 ≤ b → own_S p l e R s m av below meth c Z y co ml rt n0 T' (ce + 1) (sl + cap) h' → Ext h h' → ∀ f' : Int32 → Int32, f' = (fun _ => 0) → own_AI Z h' b (newarray.typeOf aty) N f' → own_Fin p e below s n0 Q k n T' (mkF m (pc + 2) Ls (.ref b :: st))) : own_Fin p e below s n0 Q k n T (mkF m pc Ls (.int N :: st)) := by
  have hz := own_size X
  obtain ⟨C, locs, X, N', eh, hn⟩ := X
  obtain ⟨hx, hby, hml, hown, hnm, -, -, hZ⟩ := id C
  obtain ⟨T', h', cA, X', e', E, A, st'⟩ := newP X hx hZ w eh (g := mkF m pc Ls (.int N :: st)) rfl (hb hby hd) rfl hN hcap hb' hc hs
  refine own_go st' (H T' h' _ rfl hz ⟨C, _, X', N', e', hn⟩ E _ rfl ⟨_, A, sz_new _ _ _, hN, fun j h0 h1 => ⟨?_, hty.2⟩⟩)
  rw [get_new (fun q => own_inb (sz_new cA (newarray.typeOf aty) N) h0 h1 (q.imp id fun r => by rw [sz_new]; exact r)), hty.1]
theorem own_newJ (X : own_S p l e R s m av below meth c Z y co ml rt n0 T ce sl h) {N : Int32} {cap : Nat} (w : (Jvm.Cond.arrayClass .long).before a0 Z = true) (hN : ¬ N < 0) (hcap : N.toNatClampNeg ≤ cap) (hb' : cap * 8 ≤ 536870912) (hc : ce + 1 ≤ R.cells) (hs : sl + cap ≤ R.slots) (hd : decode co pc = .ok (.newarray .long, 2))
    (H : ∀ T' h' (b : Addr), b = h.size → n0 ≤ b → own_S p l e R s m av below meth c Z y co ml rt n0 T' (ce + 1) (sl + cap) h' → Ext h h' → ∀ f' : Int32 → Int64, f' = (fun _ => 0) → own_AJ Z h' b N f' → own_Fin p e below s n0 Q k n T' (mkF m (pc + 2) Ls (.ref b :: st))) : own_Fin p e below s n0 Q k n T (mkF m pc Ls (.int N :: st)) := by
  have hz := own_size X
  obtain ⟨C, locs, X, N', eh, hn⟩ := X
  obtain ⟨hx, hby, hml, hown, hnm, -, -, hZ⟩ := id C
  obtain ⟨T', h', cA, X', e', E, A, st'⟩ := newP (aty := .long) X hx hZ w eh (g := mkF m pc Ls (.int N :: st)) rfl (hb hby hd) rfl hN hcap hb' hc hs
  refine own_go st' (H T' h' _ rfl hz ⟨C, _, X', N', e', hn⟩ E _ rfl ⟨_, A, sz_new _ _ _, hN, fun j h0 h1 => ?_⟩)
  exact get_new (fun q => own_inb (sz_new cA .long N) h0 h1 (q.imp id fun r => by rw [sz_new]; exact r))
end Own
def own_wt (b : Int) : Int := if b < -64 then 0 else if b < 0 ∧ -16 ≤ b then 2 else 1
def own_sm (f : Int32 → Int32) : Nat → Int → Int
  | 0, _ => 0
  | n + 1, t => own_wt (f (Int32.ofInt t)).toInt + own_sm f n (t + 1)
theorem own_sm_add (f : Int32 → Int32) : ∀ (a b : Nat) (t : Int), own_sm f (a + b) t = own_sm f a t + own_sm f b (t + a)
  | 0, b, t => by simp [own_sm]
  | a + 1, b, t => by
    rw [show a + 1 + b = (a + b) + 1 from by omega]
    simp only [own_sm]
    rw [own_sm_add f a b (t + 1), show t + 1 + (a : Int) = t + ((a + 1 : Nat) : Int) from by omega]
    omega
theorem own_ofInt {j : Int32} {t : Int} (q : j.toInt = t) : Int32.ofInt t = j := by rw [← q]; exact Int32.ofInt_toInt j
theorem own_toOf {t : Int} (h1 : -2147483648 ≤ t) (h2 : t < 2147483648) : (Int32.ofInt t).toInt = t := by
  rw [Int32.toInt_ofInt]; show t.bmod 4294967296 = t; exact Int.bmod_eq_of_le (by omega) (by omega)
theorem own_sm_congr (f f' : Int32 → Int32) : ∀ (n : Nat) (t : Int), (∀ j : Int, t ≤ j → j < t + n → f (Int32.ofInt j) = f' (Int32.ofInt j)) → own_sm f n t = own_sm f' n t
  | 0, _, _ => rfl
  | n + 1, t, q => by
    simp only [own_sm]
    rw [q t (by omega) (by omega), own_sm_congr f f' n (t + 1) (fun j h1 h2 => q j (by omega) (by omega))]
theorem own_wt_c {b : Int} (h : b < -64) : own_wt b = 0 := if_pos h
theorem own_wt_4 {b : Int} (h1 : b < 0) (h2 : -16 ≤ b) : own_wt b = 2 := by unfold own_wt; rw [if_neg (by omega), if_pos ⟨h1, h2⟩]
theorem own_wt_1 {b : Int} (h : ¬ b < -64) (h2 : ¬ (b < 0 ∧ -16 ≤ b)) : own_wt b = 1 := by unfold own_wt; rw [if_neg h, if_neg h2]
theorem ef_rm1 (m : MethodId) (q : Int32) : entryFrame m #[(.int q)] 4 = mkF m 0 #[.val (.int q), .unset, .unset, .unset] [] := by first | (simp [entryFrame, mkF, argsToLocals, Value.category]; done) | rfl
theorem d1_0 : decode method_2_code 0 = .ok (.iload_n 0, 1) := by decide +kernel
theorem d1_1 : decode method_2_code 1 = .ok (.iconst 3, 1) := by decide +kernel
theorem d1_2 : decode method_2_code 2 = .ok (.iand, 1) := by decide +kernel
theorem d1_3 : decode method_2_code 3 = .ok (.istore_n 1, 1) := by decide +kernel
theorem d1_4 : decode method_2_code 4 = .ok (.iload_n 0, 1) := by decide +kernel
theorem d1_5 : decode method_2_code 5 = .ok (.iconst 2, 1) := by decide +kernel
theorem d1_6 : decode method_2_code 6 = .ok (.iushr, 1) := by decide +kernel
theorem d1_7 : decode method_2_code 7 = .ok (.istore_n 2, 1) := by decide +kernel
theorem d1_8 : decode method_2_code 8 = .ok (.iload_n 1, 1) := by decide +kernel
theorem d1_9 : decode method_2_code 9 = .ok (.ifCond .ne 8, 3) := by decide +kernel
theorem d1_12 : decode method_2_code 12 = .ok (.iload_n 2, 1) := by decide +kernel
theorem d1_13 : decode method_2_code 13 = .ok (.bipush 127, 2) := by decide +kernel
theorem d1_15 : decode method_2_code 15 = .ok (.iand, 1) := by decide +kernel
theorem d1_16 : decode method_2_code 16 = .ok (.ireturn, 1) := by decide +kernel
theorem d1_17 : decode method_2_code 17 = .ok (.iload_n 1, 1) := by decide +kernel
theorem d1_18 : decode method_2_code 18 = .ok (.iconst 1, 1) := by decide +kernel
theorem d1_19 : decode method_2_code 19 = .ok (.if_icmp .ne 13, 3) := by decide +kernel
theorem d1_22 : decode method_2_code 22 = .ok (.sipush 128, 3) := by decide +kernel
theorem d1_25 : decode method_2_code 25 = .ok (.iload_n 2, 1) := by decide +kernel
theorem d1_26 : decode method_2_code 26 = .ok (.sipush 1920, 3) := by decide +kernel
theorem d1_29 : decode method_2_code 29 = .ok (.irem, 1) := by decide +kernel
theorem d1_30 : decode method_2_code 30 = .ok (.iadd, 1) := by decide +kernel
theorem d1_31 : decode method_2_code 31 = .ok (.ireturn, 1) := by decide +kernel
theorem d1_32 : decode method_2_code 32 = .ok (.iload_n 1, 1) := by decide +kernel
theorem d1_33 : decode method_2_code 33 = .ok (.iconst 2, 1) := by decide +kernel
theorem d1_34 : decode method_2_code 34 = .ok (.if_icmp .ne 32, 3) := by decide +kernel
theorem d1_37 : decode method_2_code 37 = .ok (.sipush 2048, 3) := by decide +kernel
theorem d1_40 : decode method_2_code 40 = .ok (.iload_n 2, 1) := by decide +kernel
theorem d1_41 : decode method_2_code 41 = .ok (.ldc 7, 2) := by decide +kernel
theorem d1_43 : decode method_2_code 43 = .ok (.irem, 1) := by decide +kernel
theorem d1_44 : decode method_2_code 44 = .ok (.iadd, 1) := by decide +kernel
theorem d1_45 : decode method_2_code 45 = .ok (.istore_n 3, 1) := by decide +kernel
theorem d1_46 : decode method_2_code 46 = .ok (.iload_n 3, 1) := by decide +kernel
theorem d1_47 : decode method_2_code 47 = .ok (.ldc 8, 2) := by decide +kernel
theorem d1_49 : decode method_2_code 49 = .ok (.if_icmp .lt 15, 3) := by decide +kernel
theorem d1_64 : decode method_2_code 64 = .ok (.iload_n 3, 1) := by decide +kernel
theorem d1_65 : decode method_2_code 65 = .ok (.ireturn, 1) := by decide +kernel
theorem d1_52 : decode method_2_code 52 = .ok (.iload_n 3, 1) := by decide +kernel
theorem d1_53 : decode method_2_code 53 = .ok (.ldc 9, 2) := by decide +kernel
theorem d1_55 : decode method_2_code 55 = .ok (.if_icmp .gt 9, 3) := by decide +kernel
theorem d1_58 : decode method_2_code 58 = .ok (.iinc 3 (-2048), 6) := by decide +kernel
theorem d1_66 : decode method_2_code 66 = .ok (.ldc 10, 2) := by decide +kernel
theorem d1_68 : decode method_2_code 68 = .ok (.iload_n 2, 1) := by decide +kernel
theorem d1_69 : decode method_2_code 69 = .ok (.ldc 11, 2) := by decide +kernel
theorem d1_71 : decode method_2_code 71 = .ok (.irem, 1) := by decide +kernel
theorem d1_72 : decode method_2_code 72 = .ok (.iadd, 1) := by decide +kernel
theorem d1_73 : decode method_2_code 73 = .ok (.ireturn, 1) := by decide +kernel
theorem pn_1 : plainFor (⟨"com/example/shelfmark/shelfmark/impl/Utf8CharCountPinLaw", "codePoint", "(I)I"⟩ : MethodName) = true := plainFor_of_name (show plainName "com/example/shelfmark/shelfmark/impl/Utf8CharCountPinLaw" = true from by first | (simp [plainName, overriddenIn]; done) | decide +kernel)
set_option maxRecDepth 65536 in
set_option maxHeartbeats 40000000 in
theorem rm1 (l : Launch) (Z : State) (a0 : Array Value) (hw : ∀ d ∈ tables_1, d.before a0 Z = true) (ws : List Jvm.Cond) (q : Int32) (h0 : Heap) (n0 : Nat) (hn0 : n0 ≤ h0.size) :
    own_Met l Z (⟨"com/example/shelfmark/shelfmark/impl/Utf8CharCountPinLaw", "codePoint", "(I)I"⟩ : MethodName) method_2_code 4 (some .int) ws ({ frames := 0, cells := 0, slots := 0, locals := 0 } : Room) #[(.int q)] h0 n0 (own_QI fun z h => (0 ≤ z.toInt ∧ z.toInt < 1114112) ∧ h = h0) := by
  refine own_met pn_1 hn0 (fun p e s m below meth c T X => ?_)
  refine own_cast (ef_rm1 m q) ?_
  have r_q := rng32 q
  refine own_iloadN X d1_0 rfl ?_
  refine own_iconst X (3) d1_1 rfl ?_
  refine own_iandM X (q.toInt) 2 4 d1_2 rfl (by decide) (by decide) (by decide) (fun v1 hv1 cv1 lv1 uv1 => ?_)
  refine own_istoreN X d1_3 (L' := #[.val (.int q), .val (.int v1), .unset, .unset]) rfl ?_
  refine own_iloadN X d1_4 rfl ?_
  refine own_iconst X (2) d1_5 rfl ?_
  refine own_iushrK X (q.toInt) 2 4 d1_6 rfl (by decide) (by decide) (by decide) (fun v2 hv2 cv2 lv2 uv2 => ?_)
  refine own_istoreN X d1_7 (L' := #[.val (.int q), .val (.int v1), .val (.int v2), .unset]) rfl ?_
  refine own_iloadN X d1_8 rfl ?_
  by_cases hc3 : v1.toInt = 0
  · refine own_ifNo X d1_9 ((if0 _ _).trans (teq (own_cEq (a := v1.toInt) (b := 0) rfl rfl hc3)).2) ?_
    refine own_iloadN X d1_12 rfl ?_
    refine own_bipush X (127) d1_13 rfl ?_
    refine own_iandM X (v2.toInt) 7 128 d1_15 rfl (by decide) (by decide) (by decide) (fun v4 hv4 cv4 lv4 uv4 => ?_)
    refine own_retI X d1_16 (by decide) (by decide) ⟨_, rfl, ?_⟩
    exact ⟨⟨by omega, by omega⟩, rfl⟩
  · refine own_ifYes X (pc := 9) (pc' := 17) d1_9 ((if0 _ _).trans (feq (own_cNe (a := v1.toInt) (b := 0) rfl rfl hc3)).2) (by decide) (by decide) ?_
    refine own_iloadN X d1_17 rfl ?_
    refine own_iconst X (1) d1_18 rfl ?_
    by_cases hc5 : v1.toInt = 1
    · refine own_icmpNo X d1_19 (teq (own_cEq (a := v1.toInt) (b := 1) rfl rfl hc5)).2 ?_
      refine own_sipush X (128) d1_22 rfl ?_
      refine own_iloadN X d1_25 rfl ?_
      refine own_sipush X (1920) d1_26 rfl ?_
      refine own_iremK X (v2.toInt) (1920) d1_29 (by decide) rfl rfl (fun v6 hv6 cv6 lv6 uv6 => ?_)
      refine own_iaddV X (128) (v6.toInt) d1_30 rfl rfl (fun v7 hv7 cv7 lv7 uv7 => ?_)
      refine own_retI X d1_31 (by decide) (by decide) ⟨_, rfl, ?_⟩
      exact ⟨⟨by omega, by omega⟩, rfl⟩
    · refine own_icmpYes X (pc := 19) (pc' := 32) d1_19 (feq (own_cNe (a := v1.toInt) (b := 1) rfl rfl hc5)).2 (by decide) (by decide) ?_
      refine own_iloadN X d1_32 rfl ?_
      refine own_iconst X (2) d1_33 rfl ?_
      by_cases hc8 : v1.toInt = 2
      · refine own_icmpNo X d1_34 (teq (own_cEq (a := v1.toInt) (b := 2) rfl rfl hc8)).2 ?_
        refine own_sipush X (2048) d1_37 rfl ?_
        refine own_iloadN X d1_40 rfl ?_
        refine own_ldc X (hw _ (List.mem_of_getElem? (i := 7) rfl)) d1_41 ?_
        refine own_iremK X (v2.toInt) (63488) d1_43 (by decide) rfl rfl (fun v9 hv9 cv9 lv9 uv9 => ?_)
        refine own_iaddV X (2048) (v9.toInt) d1_44 rfl rfl (fun v10 hv10 cv10 lv10 uv10 => ?_)
        refine own_istoreN X d1_45 (L' := #[.val (.int q), .val (.int v1), .val (.int v2), .val (.int v10)]) rfl ?_
        refine own_iloadN X d1_46 rfl ?_
        refine own_ldc X (hw _ (List.mem_of_getElem? (i := 8) rfl)) d1_47 ?_
        by_cases hc11 : v10.toInt < 55296
        · refine own_icmpYes X (pc := 49) (pc' := 64) d1_49 (tlt (own_cLt (a := v10.toInt) (b := 55296) rfl rfl hc11)).1 (by decide) (by decide) ?_
          refine own_iloadN X d1_64 rfl ?_
          refine own_retI X d1_65 (by decide) (by decide) ⟨_, rfl, ?_⟩
          exact ⟨⟨by omega, by omega⟩, rfl⟩
        · refine own_icmpNo X d1_49 (flt (own_cGe (a := v10.toInt) (b := 55296) rfl rfl hc11)).1 ?_
          refine own_iloadN X d1_52 rfl ?_
          refine own_ldc X (hw _ (List.mem_of_getElem? (i := 19) rfl)) d1_53 ?_
          by_cases hc12 : 57343 < v10.toInt
          · refine own_icmpYes X (pc := 55) (pc' := 64) d1_55 (tlt (own_cLt (a := 57343) (b := v10.toInt) rfl rfl hc12)).2.2.1 (by decide) (by decide) ?_
            refine own_iloadN X d1_64 rfl ?_
            refine own_retI X d1_65 (by decide) (by decide) ⟨_, rfl, ?_⟩
            exact ⟨⟨by omega, by omega⟩, rfl⟩
          · refine own_icmpNo X d1_55 (flt (own_cGe (a := 57343) (b := v10.toInt) rfl rfl hc12)).2.2.1 ?_
            refine own_iincW X d1_58 rfl rfl (L' := #[.val (.int q), .val (.int v1), .val (.int v2), .val (.int (v10 + (-2048 : Int32)))]) rfl ?_
            obtain ⟨v13, hv13⟩ : ∃ w, v10 + (-2048 : Int32) = w := ⟨_, rfl⟩
            rw [hv13]
            have cv13 : (v13.toInt - (v10.toInt + (-2048))) % 4294967296 = 0 := by rw [← hv13]; exact c_iadd v10 (-2048 : Int32)
            have lv13 := rng32 v13
            refine own_iloadN X d1_64 rfl ?_
            refine own_retI X d1_65 (by decide) (by decide) ⟨_, rfl, ?_⟩
            exact ⟨⟨by omega, by omega⟩, rfl⟩
      · refine own_icmpYes X (pc := 34) (pc' := 66) d1_34 (feq (own_cNe (a := v1.toInt) (b := 2) rfl rfl hc8)).2 (by decide) (by decide) ?_
        refine own_ldc X (hw _ (List.mem_of_getElem? (i := 5) rfl)) d1_66 ?_
        refine own_iloadN X d1_68 rfl ?_
        refine own_ldc X (hw _ (List.mem_of_getElem? (i := 6) rfl)) d1_69 ?_
        refine own_iremK X (v2.toInt) (1048576) d1_71 (by decide) rfl rfl (fun v14 hv14 cv14 lv14 uv14 => ?_)
        refine own_iaddV X (65536) (v14.toInt) d1_72 rfl rfl (fun v15 hv15 cv15 lv15 uv15 => ?_)
        refine own_retI X d1_73 (by decide) (by decide) ⟨_, rfl, ?_⟩
        exact ⟨⟨by omega, by omega⟩, rfl⟩
theorem ef_rm4 (m : MethodId) (q : Int32) : entryFrame m #[(.int q)] 1 = mkF m 0 #[.val (.int q)] [] := by first | (simp [entryFrame, mkF, argsToLocals, Value.category]; done) | rfl
theorem d4_0 : decode method_4_code 0 = .ok (.iload_n 0, 1) := by decide +kernel
theorem d4_1 : decode method_4_code 1 = .ok (.ldc 10, 2) := by decide +kernel
theorem d4_3 : decode method_4_code 3 = .ok (.if_icmp .lt 7, 3) := by decide +kernel
theorem d4_10 : decode method_4_code 10 = .ok (.iconst 1, 1) := by decide +kernel
theorem d4_11 : decode method_4_code 11 = .ok (.ireturn, 1) := by decide +kernel
theorem d4_6 : decode method_4_code 6 = .ok (.iconst 2, 1) := by decide +kernel
theorem d4_7 : decode method_4_code 7 = .ok (.goto 4, 3) := by decide +kernel
theorem pn_4 : plainFor (⟨"com/example/shelfmark/shelfmark/impl/Utf8CharCountPinLaw", "chars", "(I)I"⟩ : MethodName) = true := plainFor_of_name (show plainName "com/example/shelfmark/shelfmark/impl/Utf8CharCountPinLaw" = true from by first | (simp [plainName, overriddenIn]; done) | decide +kernel)
set_option maxRecDepth 65536 in
set_option maxHeartbeats 40000000 in
theorem rm4 (l : Launch) (Z : State) (a0 : Array Value) (hw : ∀ d ∈ tables_1, d.before a0 Z = true) (ws : List Jvm.Cond) (q : Int32) (h0 : Heap) (n0 : Nat) (hn0 : n0 ≤ h0.size) :
    own_Met l Z (⟨"com/example/shelfmark/shelfmark/impl/Utf8CharCountPinLaw", "chars", "(I)I"⟩ : MethodName) method_4_code 1 (some .int) ws ({ frames := 0, cells := 0, slots := 0, locals := 0 } : Room) #[(.int q)] h0 n0 (own_QI fun z h => (z.toInt = (if q.toInt < 65536 then 1 else 2)) ∧ h = h0) := by
  refine own_met pn_4 hn0 (fun p e s m below meth c T X => ?_)
  refine own_cast (ef_rm4 m q) ?_
  have r_q := rng32 q
  refine own_iloadN X d4_0 rfl ?_
  refine own_ldc X (hw _ (List.mem_of_getElem? (i := 5) rfl)) d4_1 ?_
  by_cases hc1 : q.toInt < 65536
  · refine own_icmpYes X (pc := 3) (pc' := 10) d4_3 (tlt (own_cLt (a := q.toInt) (b := 65536) rfl rfl hc1)).1 (by decide) (by decide) ?_
    refine own_iconst X (1) d4_10 rfl ?_
    refine own_retI X d4_11 (by decide) (by decide) ⟨_, rfl, ?_⟩
    exact ⟨(if_pos (by omega)).symm, rfl⟩
  · refine own_icmpNo X d4_3 (flt (own_cGe (a := q.toInt) (b := 65536) rfl rfl hc1)).1 ?_
    refine own_iconst X (2) d4_6 rfl ?_
    refine own_goto X (pc := 7) (pc' := 11) d4_7 (by decide) (by decide) ?_
    refine own_retI X d4_11 (by decide) (by decide) ⟨_, rfl, ?_⟩
    exact ⟨(if_neg (by omega)).symm, rfl⟩
theorem ef_rm3 (m : MethodId) (o : Addr) (q : Int32) (q2 : Int32) : entryFrame m #[(.ref o), (.int q), (.int q2)] 3 = mkF m 0 #[.val (.ref o), .val (.int q), .val (.int q2)] [] := by first | (simp [entryFrame, mkF, argsToLocals, Value.category]; done) | rfl
theorem d3_0 : decode method_3_code 0 = .ok (.iload_n 2, 1) := by decide +kernel
theorem d3_1 : decode method_3_code 1 = .ok (.sipush 128, 3) := by decide +kernel
theorem d3_4 : decode method_3_code 4 = .ok (.if_icmp .ge 12, 3) := by decide +kernel
theorem d3_7 : decode method_3_code 7 = .ok (.aload_n 0, 1) := by decide +kernel
theorem d3_8 : decode method_3_code 8 = .ok (.iload_n 1, 1) := by decide +kernel
theorem d3_9 : decode method_3_code 9 = .ok (.iload_n 2, 1) := by decide +kernel
theorem d3_10 : decode method_3_code 10 = .ok (.i2b, 1) := by decide +kernel
theorem d3_11 : decode method_3_code 11 = .ok (.bastore, 1) := by decide +kernel
theorem d3_12 : decode method_3_code 12 = .ok (.iload_n 1, 1) := by decide +kernel
theorem d3_13 : decode method_3_code 13 = .ok (.iconst 1, 1) := by decide +kernel
theorem d3_14 : decode method_3_code 14 = .ok (.iadd, 1) := by decide +kernel
theorem d3_15 : decode method_3_code 15 = .ok (.ireturn, 1) := by decide +kernel
theorem d3_16 : decode method_3_code 16 = .ok (.iload_n 2, 1) := by decide +kernel
theorem d3_17 : decode method_3_code 17 = .ok (.sipush 2048, 3) := by decide +kernel
theorem d3_20 : decode method_3_code 20 = .ok (.if_icmp .ge 33, 3) := by decide +kernel
theorem d3_23 : decode method_3_code 23 = .ok (.aload_n 0, 1) := by decide +kernel
theorem d3_24 : decode method_3_code 24 = .ok (.iload_n 1, 1) := by decide +kernel
theorem d3_25 : decode method_3_code 25 = .ok (.sipush 192, 3) := by decide +kernel
theorem d3_28 : decode method_3_code 28 = .ok (.iload_n 2, 1) := by decide +kernel
theorem d3_29 : decode method_3_code 29 = .ok (.bipush 6, 2) := by decide +kernel
theorem d3_31 : decode method_3_code 31 = .ok (.ishr, 1) := by decide +kernel
theorem d3_32 : decode method_3_code 32 = .ok (.ior, 1) := by decide +kernel
theorem d3_33 : decode method_3_code 33 = .ok (.i2b, 1) := by decide +kernel
theorem d3_34 : decode method_3_code 34 = .ok (.bastore, 1) := by decide +kernel
theorem d3_35 : decode method_3_code 35 = .ok (.aload_n 0, 1) := by decide +kernel
theorem d3_36 : decode method_3_code 36 = .ok (.iload_n 1, 1) := by decide +kernel
theorem d3_37 : decode method_3_code 37 = .ok (.iconst 1, 1) := by decide +kernel
theorem d3_38 : decode method_3_code 38 = .ok (.iadd, 1) := by decide +kernel
theorem d3_39 : decode method_3_code 39 = .ok (.sipush 128, 3) := by decide +kernel
theorem d3_42 : decode method_3_code 42 = .ok (.iload_n 2, 1) := by decide +kernel
theorem d3_43 : decode method_3_code 43 = .ok (.bipush 63, 2) := by decide +kernel
theorem d3_45 : decode method_3_code 45 = .ok (.iand, 1) := by decide +kernel
theorem d3_46 : decode method_3_code 46 = .ok (.ior, 1) := by decide +kernel
theorem d3_47 : decode method_3_code 47 = .ok (.i2b, 1) := by decide +kernel
theorem d3_48 : decode method_3_code 48 = .ok (.bastore, 1) := by decide +kernel
theorem d3_49 : decode method_3_code 49 = .ok (.iload_n 1, 1) := by decide +kernel
theorem d3_50 : decode method_3_code 50 = .ok (.iconst 2, 1) := by decide +kernel
theorem d3_51 : decode method_3_code 51 = .ok (.iadd, 1) := by decide +kernel
theorem d3_52 : decode method_3_code 52 = .ok (.ireturn, 1) := by decide +kernel
theorem d3_53 : decode method_3_code 53 = .ok (.iload_n 2, 1) := by decide +kernel
theorem d3_54 : decode method_3_code 54 = .ok (.ldc 10, 2) := by decide +kernel
theorem d3_56 : decode method_3_code 56 = .ok (.if_icmp .ge 50, 3) := by decide +kernel
theorem d3_59 : decode method_3_code 59 = .ok (.aload_n 0, 1) := by decide +kernel
theorem d3_60 : decode method_3_code 60 = .ok (.iload_n 1, 1) := by decide +kernel
theorem d3_61 : decode method_3_code 61 = .ok (.sipush 224, 3) := by decide +kernel
theorem d3_64 : decode method_3_code 64 = .ok (.iload_n 2, 1) := by decide +kernel
theorem d3_65 : decode method_3_code 65 = .ok (.bipush 12, 2) := by decide +kernel
theorem d3_67 : decode method_3_code 67 = .ok (.ishr, 1) := by decide +kernel
theorem d3_68 : decode method_3_code 68 = .ok (.ior, 1) := by decide +kernel
theorem d3_69 : decode method_3_code 69 = .ok (.i2b, 1) := by decide +kernel
theorem d3_70 : decode method_3_code 70 = .ok (.bastore, 1) := by decide +kernel
theorem d3_71 : decode method_3_code 71 = .ok (.aload_n 0, 1) := by decide +kernel
theorem d3_72 : decode method_3_code 72 = .ok (.iload_n 1, 1) := by decide +kernel
theorem d3_73 : decode method_3_code 73 = .ok (.iconst 1, 1) := by decide +kernel
theorem d3_74 : decode method_3_code 74 = .ok (.iadd, 1) := by decide +kernel
theorem d3_75 : decode method_3_code 75 = .ok (.sipush 128, 3) := by decide +kernel
theorem d3_78 : decode method_3_code 78 = .ok (.iload_n 2, 1) := by decide +kernel
theorem d3_79 : decode method_3_code 79 = .ok (.bipush 6, 2) := by decide +kernel
theorem d3_81 : decode method_3_code 81 = .ok (.ishr, 1) := by decide +kernel
theorem d3_82 : decode method_3_code 82 = .ok (.bipush 63, 2) := by decide +kernel
theorem d3_84 : decode method_3_code 84 = .ok (.iand, 1) := by decide +kernel
theorem d3_85 : decode method_3_code 85 = .ok (.ior, 1) := by decide +kernel
theorem d3_86 : decode method_3_code 86 = .ok (.i2b, 1) := by decide +kernel
theorem d3_87 : decode method_3_code 87 = .ok (.bastore, 1) := by decide +kernel
theorem d3_88 : decode method_3_code 88 = .ok (.aload_n 0, 1) := by decide +kernel
theorem d3_89 : decode method_3_code 89 = .ok (.iload_n 1, 1) := by decide +kernel
theorem d3_90 : decode method_3_code 90 = .ok (.iconst 2, 1) := by decide +kernel
theorem d3_91 : decode method_3_code 91 = .ok (.iadd, 1) := by decide +kernel
theorem d3_92 : decode method_3_code 92 = .ok (.sipush 128, 3) := by decide +kernel
theorem d3_95 : decode method_3_code 95 = .ok (.iload_n 2, 1) := by decide +kernel
theorem d3_96 : decode method_3_code 96 = .ok (.bipush 63, 2) := by decide +kernel
theorem d3_98 : decode method_3_code 98 = .ok (.iand, 1) := by decide +kernel
theorem d3_99 : decode method_3_code 99 = .ok (.ior, 1) := by decide +kernel
theorem d3_100 : decode method_3_code 100 = .ok (.i2b, 1) := by decide +kernel
theorem d3_101 : decode method_3_code 101 = .ok (.bastore, 1) := by decide +kernel
theorem d3_102 : decode method_3_code 102 = .ok (.iload_n 1, 1) := by decide +kernel
theorem d3_103 : decode method_3_code 103 = .ok (.iconst 3, 1) := by decide +kernel
theorem d3_104 : decode method_3_code 104 = .ok (.iadd, 1) := by decide +kernel
theorem d3_105 : decode method_3_code 105 = .ok (.ireturn, 1) := by decide +kernel
theorem d3_106 : decode method_3_code 106 = .ok (.aload_n 0, 1) := by decide +kernel
theorem d3_107 : decode method_3_code 107 = .ok (.iload_n 1, 1) := by decide +kernel
theorem d3_108 : decode method_3_code 108 = .ok (.sipush 240, 3) := by decide +kernel
theorem d3_111 : decode method_3_code 111 = .ok (.iload_n 2, 1) := by decide +kernel
theorem d3_112 : decode method_3_code 112 = .ok (.bipush 18, 2) := by decide +kernel
theorem d3_114 : decode method_3_code 114 = .ok (.ishr, 1) := by decide +kernel
theorem d3_115 : decode method_3_code 115 = .ok (.ior, 1) := by decide +kernel
theorem d3_116 : decode method_3_code 116 = .ok (.i2b, 1) := by decide +kernel
theorem d3_117 : decode method_3_code 117 = .ok (.bastore, 1) := by decide +kernel
theorem d3_118 : decode method_3_code 118 = .ok (.aload_n 0, 1) := by decide +kernel
theorem d3_119 : decode method_3_code 119 = .ok (.iload_n 1, 1) := by decide +kernel
theorem d3_120 : decode method_3_code 120 = .ok (.iconst 1, 1) := by decide +kernel
theorem d3_121 : decode method_3_code 121 = .ok (.iadd, 1) := by decide +kernel
theorem d3_122 : decode method_3_code 122 = .ok (.sipush 128, 3) := by decide +kernel
theorem d3_125 : decode method_3_code 125 = .ok (.iload_n 2, 1) := by decide +kernel
theorem d3_126 : decode method_3_code 126 = .ok (.bipush 12, 2) := by decide +kernel
theorem d3_128 : decode method_3_code 128 = .ok (.ishr, 1) := by decide +kernel
theorem d3_129 : decode method_3_code 129 = .ok (.bipush 63, 2) := by decide +kernel
theorem d3_131 : decode method_3_code 131 = .ok (.iand, 1) := by decide +kernel
theorem d3_132 : decode method_3_code 132 = .ok (.ior, 1) := by decide +kernel
theorem d3_133 : decode method_3_code 133 = .ok (.i2b, 1) := by decide +kernel
theorem d3_134 : decode method_3_code 134 = .ok (.bastore, 1) := by decide +kernel
theorem d3_135 : decode method_3_code 135 = .ok (.aload_n 0, 1) := by decide +kernel
theorem d3_136 : decode method_3_code 136 = .ok (.iload_n 1, 1) := by decide +kernel
theorem d3_137 : decode method_3_code 137 = .ok (.iconst 2, 1) := by decide +kernel
theorem d3_138 : decode method_3_code 138 = .ok (.iadd, 1) := by decide +kernel
theorem d3_139 : decode method_3_code 139 = .ok (.sipush 128, 3) := by decide +kernel
theorem d3_142 : decode method_3_code 142 = .ok (.iload_n 2, 1) := by decide +kernel
theorem d3_143 : decode method_3_code 143 = .ok (.bipush 6, 2) := by decide +kernel
theorem d3_145 : decode method_3_code 145 = .ok (.ishr, 1) := by decide +kernel
theorem d3_146 : decode method_3_code 146 = .ok (.bipush 63, 2) := by decide +kernel
theorem d3_148 : decode method_3_code 148 = .ok (.iand, 1) := by decide +kernel
theorem d3_149 : decode method_3_code 149 = .ok (.ior, 1) := by decide +kernel
theorem d3_150 : decode method_3_code 150 = .ok (.i2b, 1) := by decide +kernel
theorem d3_151 : decode method_3_code 151 = .ok (.bastore, 1) := by decide +kernel
theorem d3_152 : decode method_3_code 152 = .ok (.aload_n 0, 1) := by decide +kernel
theorem d3_153 : decode method_3_code 153 = .ok (.iload_n 1, 1) := by decide +kernel
theorem d3_154 : decode method_3_code 154 = .ok (.iconst 3, 1) := by decide +kernel
theorem d3_155 : decode method_3_code 155 = .ok (.iadd, 1) := by decide +kernel
theorem d3_156 : decode method_3_code 156 = .ok (.sipush 128, 3) := by decide +kernel
theorem d3_159 : decode method_3_code 159 = .ok (.iload_n 2, 1) := by decide +kernel
theorem d3_160 : decode method_3_code 160 = .ok (.bipush 63, 2) := by decide +kernel
theorem d3_162 : decode method_3_code 162 = .ok (.iand, 1) := by decide +kernel
theorem d3_163 : decode method_3_code 163 = .ok (.ior, 1) := by decide +kernel
theorem d3_164 : decode method_3_code 164 = .ok (.i2b, 1) := by decide +kernel
theorem d3_165 : decode method_3_code 165 = .ok (.bastore, 1) := by decide +kernel
theorem d3_166 : decode method_3_code 166 = .ok (.iload_n 1, 1) := by decide +kernel
theorem d3_167 : decode method_3_code 167 = .ok (.iconst 4, 1) := by decide +kernel
theorem d3_168 : decode method_3_code 168 = .ok (.iadd, 1) := by decide +kernel
theorem d3_169 : decode method_3_code 169 = .ok (.ireturn, 1) := by decide +kernel
theorem pn_3 : plainFor (⟨"com/example/shelfmark/shelfmark/impl/Utf8CharCountPinLaw", "encode", "([BII)I"⟩ : MethodName) = true := plainFor_of_name (show plainName "com/example/shelfmark/shelfmark/impl/Utf8CharCountPinLaw" = true from by first | (simp [plainName, overriddenIn]; done) | decide +kernel)
set_option maxRecDepth 65536 in
set_option maxHeartbeats 40000000 in
theorem rm3 (l : Launch) (Z : State) (a0 : Array Value) (hw : ∀ d ∈ tables_1, d.before a0 Z = true) (ws : List Jvm.Cond) (o : Addr) (q : Int32) (q2 : Int32) (f : Int32 → Int32) (N : Int32) (h0 : Heap) (n0 : Nat) (hn0 : n0 ≤ h0.size) (A_o : own_AI Z h0 o .byte N f) (ge_o : n0 ≤ o) (h1 : 0 ≤ q.toInt) (h2 : q.toInt + 4 ≤ N.toInt) (h3 : 0 ≤ q2.toInt) (h4 : q2.toInt < 1114112) :
    own_Met l Z (⟨"com/example/shelfmark/shelfmark/impl/Utf8CharCountPinLaw", "encode", "([BII)I"⟩ : MethodName) method_3_code 3 (some .int) ws ({ frames := 0, cells := 0, slots := 0, locals := 0 } : Room) #[(.ref o), (.int q), (.int q2)] h0 n0 (own_QI fun z h => ∃ (f' : Int32 → Int32) (d : Nat), d ≤ 4 ∧ own_AI Z h o .byte N f' ∧ Keep h0 h [o] ∧ z.toInt = q.toInt + d ∧ (∀ j : Int32, (j.toInt < q.toInt ∨ q.toInt + d ≤ j.toInt) → f' j = f j) ∧ own_sm f' d q.toInt = (if q2.toInt < 65536 then 1 else 2)) := by
  refine own_met pn_3 hn0 (fun p e s m below meth c T X => ?_)
  refine own_cast (ef_rm3 m o q q2) ?_
  have r_q := rng32 q
  have r_q2 := rng32 q2
  have r_N := rng32 N
  have K := Keep.refl h0 [o]
  refine own_iloadN X d3_0 rfl ?_
  refine own_sipush X (128) d3_1 rfl ?_
  by_cases hc1 : q2.toInt < 128
  · refine own_icmpNo X d3_4 (tlt (own_cLt (a := q2.toInt) (b := 128) rfl rfl hc1)).2.1 ?_
    refine own_aloadN X d3_7 rfl rfl ?_
    refine own_iloadN X d3_8 rfl ?_
    refine own_iloadN X d3_9 rfl ?_
    refine own_i2bV X (q2.toInt) d3_10 rfl (fun v2 hv2 cv2 lv2 uv2 => ?_)
    refine own_bastore X A_o (own_cGe (a := q.toInt) (b := 0) rfl rfl (by omega)) (own_cLt (a := q.toInt) (b := N.toInt) rfl rfl (by omega)) ge_o (x' := v2) (by rw [← hv2]; exact own_i2b2 _) d3_11 (fun T h X f3 hf3 A_o W => ?_)
    have K := K.wr W (Or.inl (List.mem_of_getElem? (i := 0) rfl))
    refine own_iloadN X d3_12 rfl ?_
    refine own_iconst X (1) d3_13 rfl ?_
    refine own_iaddV X (q.toInt) (1) d3_14 rfl rfl (fun v4 hv4 cv4 lv4 uv4 => ?_)
    refine own_retI X d3_15 (by decide) (by decide) ⟨_, rfl, ?_⟩
    refine ⟨f3, 1, by decide, A_o, K, by omega, fun j hj => ?_, ?_⟩
    · rw [hf3, own_upd_miss (own_cNe (a := j.toInt) (b := q.toInt) rfl rfl (by omega))]
    · simp only [own_sm]
      rw [own_ofInt (j := q) (t := q.toInt) (by omega), show f3 q = v2 from by rw [hf3, own_upd_hit]]
      rw [own_wt_1 (b := v2.toInt) (by omega) (by omega), if_pos (by omega)]
      all_goals first | rfl | omega | decide
  · refine own_icmpYes X (pc := 4) (pc' := 16) d3_4 (flt (own_cGe (a := q2.toInt) (b := 128) rfl rfl hc1)).2.1 (by decide) (by decide) ?_
    refine own_iloadN X d3_16 rfl ?_
    refine own_sipush X (2048) d3_17 rfl ?_
    by_cases hc5 : q2.toInt < 2048
    · refine own_icmpNo X d3_20 (tlt (own_cLt (a := q2.toInt) (b := 2048) rfl rfl hc5)).2.1 ?_
      refine own_aloadN X d3_23 rfl rfl ?_
      refine own_iloadN X d3_24 rfl ?_
      refine own_sipush X (192) d3_25 rfl ?_
      refine own_iloadN X d3_28 rfl ?_
      refine own_bipush X (6) d3_29 rfl ?_
      refine own_ishrK X (q2.toInt) 6 64 d3_31 rfl (by decide) (by decide) (fun v6 hv6 cv6 lv6 uv6 => ?_)
      refine own_iorM X (192) (v6.toInt) 5 32 d3_32 rfl rfl (by decide) (by decide) (by decide) (by omega) (by omega) (fun v7 hv7 cv7 lv7 uv7 => ?_)
      refine own_i2bV X (v7.toInt) d3_33 rfl (fun v8 hv8 cv8 lv8 uv8 => ?_)
      refine own_bastore X A_o (own_cGe (a := q.toInt) (b := 0) rfl rfl (by omega)) (own_cLt (a := q.toInt) (b := N.toInt) rfl rfl (by omega)) ge_o (x' := v8) (by rw [← hv8]; exact own_i2b2 _) d3_34 (fun T h X f9 hf9 A_o W => ?_)
      have K := K.wr W (Or.inl (List.mem_of_getElem? (i := 0) rfl))
      refine own_aloadN X d3_35 rfl rfl ?_
      refine own_iloadN X d3_36 rfl ?_
      refine own_iconst X (1) d3_37 rfl ?_
      refine own_iaddV X (q.toInt) (1) d3_38 rfl rfl (fun v10 hv10 cv10 lv10 uv10 => ?_)
      refine own_sipush X (128) d3_39 rfl ?_
      refine own_iloadN X d3_42 rfl ?_
      refine own_bipush X (63) d3_43 rfl ?_
      refine own_iandM X (q2.toInt) 6 64 d3_45 rfl (by decide) (by decide) (by decide) (fun v11 hv11 cv11 lv11 uv11 => ?_)
      refine own_iorM X (128) (v11.toInt) 6 64 d3_46 rfl rfl (by decide) (by decide) (by decide) (by omega) (by omega) (fun v12 hv12 cv12 lv12 uv12 => ?_)
      refine own_i2bV X (v12.toInt) d3_47 rfl (fun v13 hv13 cv13 lv13 uv13 => ?_)
      refine own_bastore X A_o (own_cGe (a := v10.toInt) (b := 0) rfl rfl (by omega)) (own_cLt (a := v10.toInt) (b := N.toInt) rfl rfl (by omega)) ge_o (x' := v13) (by rw [← hv13]; exact own_i2b2 _) d3_48 (fun T h X f14 hf14 A_o W => ?_)
      have K := K.wr W (Or.inl (List.mem_of_getElem? (i := 0) rfl))
      refine own_iloadN X d3_49 rfl ?_
      refine own_iconst X (2) d3_50 rfl ?_
      refine own_iaddV X (q.toInt) (2) d3_51 rfl rfl (fun v15 hv15 cv15 lv15 uv15 => ?_)
      refine own_retI X d3_52 (by decide) (by decide) ⟨_, rfl, ?_⟩
      refine ⟨f14, 2, by decide, A_o, K, by omega, fun j hj => ?_, ?_⟩
      · rw [hf14, own_upd_miss (own_cNe (a := j.toInt) (b := v10.toInt) rfl rfl (by omega)), hf9, own_upd_miss (own_cNe (a := j.toInt) (b := q.toInt) rfl rfl (by omega))]
      · simp only [own_sm]
        rw [own_ofInt (j := q) (t := q.toInt) (by omega), show f14 q = v8 from by rw [hf14, own_upd_miss (own_cNe (a := q.toInt) (b := v10.toInt) rfl rfl (by omega)), hf9, own_upd_hit]]
        rw [own_ofInt (j := v10) (t := q.toInt + 1) (by omega), show f14 v10 = v13 from by rw [hf14, own_upd_hit]]
        rw [own_wt_1 (b := v8.toInt) (by omega) (by omega), own_wt_c (b := v13.toInt) (by omega), if_pos (by omega)]
        all_goals first | rfl | omega | decide
    · refine own_icmpYes X (pc := 20) (pc' := 53) d3_20 (flt (own_cGe (a := q2.toInt) (b := 2048) rfl rfl hc5)).2.1 (by decide) (by decide) ?_
      refine own_iloadN X d3_53 rfl ?_
      refine own_ldc X (hw _ (List.mem_of_getElem? (i := 5) rfl)) d3_54 ?_
      by_cases hc16 : q2.toInt < 65536
      · refine own_icmpNo X d3_56 (tlt (own_cLt (a := q2.toInt) (b := 65536) rfl rfl hc16)).2.1 ?_
        refine own_aloadN X d3_59 rfl rfl ?_
        refine own_iloadN X d3_60 rfl ?_
        refine own_sipush X (224) d3_61 rfl ?_
        refine own_iloadN X d3_64 rfl ?_
        refine own_bipush X (12) d3_65 rfl ?_
        refine own_ishrK X (q2.toInt) 12 4096 d3_67 rfl (by decide) (by decide) (fun v17 hv17 cv17 lv17 uv17 => ?_)
        refine own_iorM X (224) (v17.toInt) 4 16 d3_68 rfl rfl (by decide) (by decide) (by decide) (by omega) (by omega) (fun v18 hv18 cv18 lv18 uv18 => ?_)
        refine own_i2bV X (v18.toInt) d3_69 rfl (fun v19 hv19 cv19 lv19 uv19 => ?_)
        refine own_bastore X A_o (own_cGe (a := q.toInt) (b := 0) rfl rfl (by omega)) (own_cLt (a := q.toInt) (b := N.toInt) rfl rfl (by omega)) ge_o (x' := v19) (by rw [← hv19]; exact own_i2b2 _) d3_70 (fun T h X f20 hf20 A_o W => ?_)
        have K := K.wr W (Or.inl (List.mem_of_getElem? (i := 0) rfl))
        refine own_aloadN X d3_71 rfl rfl ?_
        refine own_iloadN X d3_72 rfl ?_
        refine own_iconst X (1) d3_73 rfl ?_
        refine own_iaddV X (q.toInt) (1) d3_74 rfl rfl (fun v21 hv21 cv21 lv21 uv21 => ?_)
        refine own_sipush X (128) d3_75 rfl ?_
        refine own_iloadN X d3_78 rfl ?_
        refine own_bipush X (6) d3_79 rfl ?_
        refine own_ishrK X (q2.toInt) 6 64 d3_81 rfl (by decide) (by decide) (fun v22 hv22 cv22 lv22 uv22 => ?_)
        refine own_bipush X (63) d3_82 rfl ?_
        refine own_iandM X (v22.toInt) 6 64 d3_84 rfl (by decide) (by decide) (by decide) (fun v23 hv23 cv23 lv23 uv23 => ?_)
        refine own_iorM X (128) (v23.toInt) 6 64 d3_85 rfl rfl (by decide) (by decide) (by decide) (by omega) (by omega) (fun v24 hv24 cv24 lv24 uv24 => ?_)
        refine own_i2bV X (v24.toInt) d3_86 rfl (fun v25 hv25 cv25 lv25 uv25 => ?_)
        refine own_bastore X A_o (own_cGe (a := v21.toInt) (b := 0) rfl rfl (by omega)) (own_cLt (a := v21.toInt) (b := N.toInt) rfl rfl (by omega)) ge_o (x' := v25) (by rw [← hv25]; exact own_i2b2 _) d3_87 (fun T h X f26 hf26 A_o W => ?_)
        have K := K.wr W (Or.inl (List.mem_of_getElem? (i := 0) rfl))
        refine own_aloadN X d3_88 rfl rfl ?_
        refine own_iloadN X d3_89 rfl ?_
        refine own_iconst X (2) d3_90 rfl ?_
        refine own_iaddV X (q.toInt) (2) d3_91 rfl rfl (fun v27 hv27 cv27 lv27 uv27 => ?_)
        refine own_sipush X (128) d3_92 rfl ?_
        refine own_iloadN X d3_95 rfl ?_
        refine own_bipush X (63) d3_96 rfl ?_
        refine own_iandM X (q2.toInt) 6 64 d3_98 rfl (by decide) (by decide) (by decide) (fun v28 hv28 cv28 lv28 uv28 => ?_)
        refine own_iorM X (128) (v28.toInt) 6 64 d3_99 rfl rfl (by decide) (by decide) (by decide) (by omega) (by omega) (fun v29 hv29 cv29 lv29 uv29 => ?_)
        refine own_i2bV X (v29.toInt) d3_100 rfl (fun v30 hv30 cv30 lv30 uv30 => ?_)
        refine own_bastore X A_o (own_cGe (a := v27.toInt) (b := 0) rfl rfl (by omega)) (own_cLt (a := v27.toInt) (b := N.toInt) rfl rfl (by omega)) ge_o (x' := v30) (by rw [← hv30]; exact own_i2b2 _) d3_101 (fun T h X f31 hf31 A_o W => ?_)
        have K := K.wr W (Or.inl (List.mem_of_getElem? (i := 0) rfl))
        refine own_iloadN X d3_102 rfl ?_
        refine own_iconst X (3) d3_103 rfl ?_
        refine own_iaddV X (q.toInt) (3) d3_104 rfl rfl (fun v32 hv32 cv32 lv32 uv32 => ?_)
        refine own_retI X d3_105 (by decide) (by decide) ⟨_, rfl, ?_⟩
        refine ⟨f31, 3, by decide, A_o, K, by omega, fun j hj => ?_, ?_⟩
        · rw [hf31, own_upd_miss (own_cNe (a := j.toInt) (b := v27.toInt) rfl rfl (by omega)), hf26, own_upd_miss (own_cNe (a := j.toInt) (b := v21.toInt) rfl rfl (by omega)), hf20, own_upd_miss (own_cNe (a := j.toInt) (b := q.toInt) rfl rfl (by omega))]
        · simp only [own_sm]
          rw [own_ofInt (j := q) (t := q.toInt) (by omega), show f31 q = v19 from by rw [hf31, own_upd_miss (own_cNe (a := q.toInt) (b := v27.toInt) rfl rfl (by omega)), hf26, own_upd_miss (own_cNe (a := q.toInt) (b := v21.toInt) rfl rfl (by omega)), hf20, own_upd_hit]]
          rw [own_ofInt (j := v21) (t := q.toInt + 1) (by omega), show f31 v21 = v25 from by rw [hf31, own_upd_miss (own_cNe (a := v21.toInt) (b := v27.toInt) rfl rfl (by omega)), hf26, own_upd_hit]]
          rw [own_ofInt (j := v27) (t := q.toInt + 1 + 1) (by omega), show f31 v27 = v30 from by rw [hf31, own_upd_hit]]
          rw [own_wt_1 (b := v19.toInt) (by omega) (by omega), own_wt_c (b := v25.toInt) (by omega), own_wt_c (b := v30.toInt) (by omega), if_pos (by omega)]
          all_goals first | rfl | omega | decide
      · refine own_icmpYes X (pc := 56) (pc' := 106) d3_56 (flt (own_cGe (a := q2.toInt) (b := 65536) rfl rfl hc16)).2.1 (by decide) (by decide) ?_
        refine own_aloadN X d3_106 rfl rfl ?_
        refine own_iloadN X d3_107 rfl ?_
        refine own_sipush X (240) d3_108 rfl ?_
        refine own_iloadN X d3_111 rfl ?_
        refine own_bipush X (18) d3_112 rfl ?_
        refine own_ishrK X (q2.toInt) 18 262144 d3_114 rfl (by decide) (by decide) (fun v33 hv33 cv33 lv33 uv33 => ?_)
        refine own_iorM X (240) (v33.toInt) 3 8 d3_115 rfl rfl (by decide) (by decide) (by decide) (by omega) (by omega) (fun v34 hv34 cv34 lv34 uv34 => ?_)
        refine own_i2bV X (v34.toInt) d3_116 rfl (fun v35 hv35 cv35 lv35 uv35 => ?_)
        refine own_bastore X A_o (own_cGe (a := q.toInt) (b := 0) rfl rfl (by omega)) (own_cLt (a := q.toInt) (b := N.toInt) rfl rfl (by omega)) ge_o (x' := v35) (by rw [← hv35]; exact own_i2b2 _) d3_117 (fun T h X f36 hf36 A_o W => ?_)
        have K := K.wr W (Or.inl (List.mem_of_getElem? (i := 0) rfl))
        refine own_aloadN X d3_118 rfl rfl ?_
        refine own_iloadN X d3_119 rfl ?_
        refine own_iconst X (1) d3_120 rfl ?_
        refine own_iaddV X (q.toInt) (1) d3_121 rfl rfl (fun v37 hv37 cv37 lv37 uv37 => ?_)
        refine own_sipush X (128) d3_122 rfl ?_
        refine own_iloadN X d3_125 rfl ?_
        refine own_bipush X (12) d3_126 rfl ?_
        refine own_ishrK X (q2.toInt) 12 4096 d3_128 rfl (by decide) (by decide) (fun v38 hv38 cv38 lv38 uv38 => ?_)
        refine own_bipush X (63) d3_129 rfl ?_
        refine own_iandM X (v38.toInt) 6 64 d3_131 rfl (by decide) (by decide) (by decide) (fun v39 hv39 cv39 lv39 uv39 => ?_)
        refine own_iorM X (128) (v39.toInt) 6 64 d3_132 rfl rfl (by decide) (by decide) (by decide) (by omega) (by omega) (fun v40 hv40 cv40 lv40 uv40 => ?_)
        refine own_i2bV X (v40.toInt) d3_133 rfl (fun v41 hv41 cv41 lv41 uv41 => ?_)
        refine own_bastore X A_o (own_cGe (a := v37.toInt) (b := 0) rfl rfl (by omega)) (own_cLt (a := v37.toInt) (b := N.toInt) rfl rfl (by omega)) ge_o (x' := v41) (by rw [← hv41]; exact own_i2b2 _) d3_134 (fun T h X f42 hf42 A_o W => ?_)
        have K := K.wr W (Or.inl (List.mem_of_getElem? (i := 0) rfl))
        refine own_aloadN X d3_135 rfl rfl ?_
        refine own_iloadN X d3_136 rfl ?_
        refine own_iconst X (2) d3_137 rfl ?_
        refine own_iaddV X (q.toInt) (2) d3_138 rfl rfl (fun v43 hv43 cv43 lv43 uv43 => ?_)
        refine own_sipush X (128) d3_139 rfl ?_
        refine own_iloadN X d3_142 rfl ?_
        refine own_bipush X (6) d3_143 rfl ?_
        refine own_ishrK X (q2.toInt) 6 64 d3_145 rfl (by decide) (by decide) (fun v44 hv44 cv44 lv44 uv44 => ?_)
        refine own_bipush X (63) d3_146 rfl ?_
        refine own_iandM X (v44.toInt) 6 64 d3_148 rfl (by decide) (by decide) (by decide) (fun v45 hv45 cv45 lv45 uv45 => ?_)
        refine own_iorM X (128) (v45.toInt) 6 64 d3_149 rfl rfl (by decide) (by decide) (by decide) (by omega) (by omega) (fun v46 hv46 cv46 lv46 uv46 => ?_)
        refine own_i2bV X (v46.toInt) d3_150 rfl (fun v47 hv47 cv47 lv47 uv47 => ?_)
        refine own_bastore X A_o (own_cGe (a := v43.toInt) (b := 0) rfl rfl (by omega)) (own_cLt (a := v43.toInt) (b := N.toInt) rfl rfl (by omega)) ge_o (x' := v47) (by rw [← hv47]; exact own_i2b2 _) d3_151 (fun T h X f48 hf48 A_o W => ?_)
        have K := K.wr W (Or.inl (List.mem_of_getElem? (i := 0) rfl))
        refine own_aloadN X d3_152 rfl rfl ?_
        refine own_iloadN X d3_153 rfl ?_
        refine own_iconst X (3) d3_154 rfl ?_
        refine own_iaddV X (q.toInt) (3) d3_155 rfl rfl (fun v49 hv49 cv49 lv49 uv49 => ?_)
        refine own_sipush X (128) d3_156 rfl ?_
        refine own_iloadN X d3_159 rfl ?_
        refine own_bipush X (63) d3_160 rfl ?_
        refine own_iandM X (q2.toInt) 6 64 d3_162 rfl (by decide) (by decide) (by decide) (fun v50 hv50 cv50 lv50 uv50 => ?_)
        refine own_iorM X (128) (v50.toInt) 6 64 d3_163 rfl rfl (by decide) (by decide) (by decide) (by omega) (by omega) (fun v51 hv51 cv51 lv51 uv51 => ?_)
        refine own_i2bV X (v51.toInt) d3_164 rfl (fun v52 hv52 cv52 lv52 uv52 => ?_)
        refine own_bastore X A_o (own_cGe (a := v49.toInt) (b := 0) rfl rfl (by omega)) (own_cLt (a := v49.toInt) (b := N.toInt) rfl rfl (by omega)) ge_o (x' := v52) (by rw [← hv52]; exact own_i2b2 _) d3_165 (fun T h X f53 hf53 A_o W => ?_)
        have K := K.wr W (Or.inl (List.mem_of_getElem? (i := 0) rfl))
        refine own_iloadN X d3_166 rfl ?_
        refine own_iconst X (4) d3_167 rfl ?_
        refine own_iaddV X (q.toInt) (4) d3_168 rfl rfl (fun v54 hv54 cv54 lv54 uv54 => ?_)
        refine own_retI X d3_169 (by decide) (by decide) ⟨_, rfl, ?_⟩
        refine ⟨f53, 4, by decide, A_o, K, by omega, fun j hj => ?_, ?_⟩
        · rw [hf53, own_upd_miss (own_cNe (a := j.toInt) (b := v49.toInt) rfl rfl (by omega)), hf48, own_upd_miss (own_cNe (a := j.toInt) (b := v43.toInt) rfl rfl (by omega)), hf42, own_upd_miss (own_cNe (a := j.toInt) (b := v37.toInt) rfl rfl (by omega)), hf36, own_upd_miss (own_cNe (a := j.toInt) (b := q.toInt) rfl rfl (by omega))]
        · simp only [own_sm]
          rw [own_ofInt (j := q) (t := q.toInt) (by omega), show f53 q = v35 from by rw [hf53, own_upd_miss (own_cNe (a := q.toInt) (b := v49.toInt) rfl rfl (by omega)), hf48, own_upd_miss (own_cNe (a := q.toInt) (b := v43.toInt) rfl rfl (by omega)), hf42, own_upd_miss (own_cNe (a := q.toInt) (b := v37.toInt) rfl rfl (by omega)), hf36, own_upd_hit]]
          rw [own_ofInt (j := v37) (t := q.toInt + 1) (by omega), show f53 v37 = v41 from by rw [hf53, own_upd_miss (own_cNe (a := v37.toInt) (b := v49.toInt) rfl rfl (by omega)), hf48, own_upd_miss (own_cNe (a := v37.toInt) (b := v43.toInt) rfl rfl (by omega)), hf42, own_upd_hit]]
          rw [own_ofInt (j := v43) (t := q.toInt + 1 + 1) (by omega), show f53 v43 = v47 from by rw [hf53, own_upd_miss (own_cNe (a := v43.toInt) (b := v49.toInt) rfl rfl (by omega)), hf48, own_upd_hit]]
          rw [own_ofInt (j := v49) (t := q.toInt + 1 + 1 + 1) (by omega), show f53 v49 = v52 from by rw [hf53, own_upd_hit]]
          rw [own_wt_4 (b := v35.toInt) (by omega) (by omega), own_wt_c (b := v41.toInt) (by omega), own_wt_c (b := v47.toInt) (by omega), own_wt_c (b := v52.toInt) (by omega), if_neg (by omega)]
          all_goals first | rfl | omega | decide
theorem d2_7 : decode prog_88_method_7_code 7 = .ok (.iload 4, 2) := by decide +kernel
theorem d2_9 : decode prog_88_method_7_code 9 = .ok (.iload_n 2, 1) := by decide +kernel
theorem d2_10 : decode prog_88_method_7_code 10 = .ok (.if_icmp .ge 43, 3) := by decide +kernel
theorem d2_53 : decode prog_88_method_7_code 53 = .ok (.iload_n 3, 1) := by decide +kernel
theorem d2_54 : decode prog_88_method_7_code 54 = .ok (.ireturn, 1) := by decide +kernel
theorem d2_13 : decode prog_88_method_7_code 13 = .ok (.aload_n 0, 1) := by decide +kernel
theorem d2_14 : decode prog_88_method_7_code 14 = .ok (.iload 4, 2) := by decide +kernel
theorem d2_16 : decode prog_88_method_7_code 16 = .ok (.baload, 1) := by decide +kernel
theorem d2_17 : decode prog_88_method_7_code 17 = .ok (.bipush (-64), 2) := by decide +kernel
theorem d2_19 : decode prog_88_method_7_code 19 = .ok (.if_icmp .ge 9, 3) := by decide +kernel
theorem d2_22 : decode prog_88_method_7_code 22 = .ok (.iinc 3 (-1), 3) := by decide +kernel
theorem d2_25 : decode prog_88_method_7_code 25 = .ok (.goto 22, 3) := by decide +kernel
theorem d2_47 : decode prog_88_method_7_code 47 = .ok (.iinc 4 1, 3) := by decide +kernel
theorem d2_50 : decode prog_88_method_7_code 50 = .ok (.goto (-43), 3) := by decide +kernel
theorem d2_28 : decode prog_88_method_7_code 28 = .ok (.aload_n 0, 1) := by decide +kernel
theorem d2_29 : decode prog_88_method_7_code 29 = .ok (.iload 4, 2) := by decide +kernel
theorem d2_31 : decode prog_88_method_7_code 31 = .ok (.baload, 1) := by decide +kernel
theorem d2_32 : decode prog_88_method_7_code 32 = .ok (.ifCond .ge 15, 3) := by decide +kernel
theorem d2_35 : decode prog_88_method_7_code 35 = .ok (.aload_n 0, 1) := by decide +kernel
theorem d2_36 : decode prog_88_method_7_code 36 = .ok (.iload 4, 2) := by decide +kernel
theorem d2_38 : decode prog_88_method_7_code 38 = .ok (.baload, 1) := by decide +kernel
theorem d2_39 : decode prog_88_method_7_code 39 = .ok (.bipush (-16), 2) := by decide +kernel
theorem d2_41 : decode prog_88_method_7_code 41 = .ok (.if_icmp .lt 6, 3) := by decide +kernel
theorem d2_44 : decode prog_88_method_7_code 44 = .ok (.iinc 3 1, 3) := by decide +kernel
set_option maxRecDepth 65536 in
set_option maxHeartbeats 40000000 in
theorem own_loop (d : Nat) : ∀ {p : Program} {l : Launch} {e : Env} {R : Room} {s : State} {m : MethodId} {av : Array Value} {below : List Frame} {meth : Method} {c : Code} {Z : State} {n0 : Nat} {Q : Option Value → Heap → Prop} {k n : Nat} {T : State} {ce sl : Nat} {h : Heap} {a0 : Array Value} (hw : ∀ d ∈ tables_1, d.before a0 Z = true) (o : Addr) (q1 q2 cn i : Int32) (f : Int32 → Int32) (N : Int32) (X : own_S p l e R s m av below meth c Z (⟨"com/example/shelfmark/shelfmark/impl/Utf8", "charCount", "([BII)I"⟩ : MethodName) prog_88_method_7_code 5 (some .int) n0 T ce sl h) (A_o : own_AI Z h o .byte N f) (h1 : 0 ≤ i.toInt) (h2 : q2.toInt = i.toInt + d) (h3 : q2.toInt ≤ N.toInt) (h4 : -1000 ≤ cn.toInt - d) (h5 : cn.toInt + d ≤ 1000) (hk : ce ≤ k) (hk' : sl ≤ n)
    (HQ : ∀ z : Int32, z.toInt = cn.toInt + own_sm f d i.toInt - d → Q (some (.int z)) h), own_Fin p e below s n0 Q k n T (mkF m 7 #[.val (.ref o), .val (.int q1), .val (.int q2), .val (.int cn), .val (.int i)] []) := by
  induction d with
  | zero =>
    intro p l e R s m av below meth c Z n0 Q k n T ce sl h a0 hw o q1 q2 cn i f N X A_o h1 h2 h3 h4 h5 hk hk' HQ
    have r_i := rng32 i
    have r_N := rng32 N
    have r_q2 := rng32 q2
    have r_cn := rng32 cn
    refine own_iload X d2_7 rfl ?_
    refine own_iloadN X d2_9 rfl ?_
    have hc1 : ¬ (i.toInt < q2.toInt) := by omega
    refine own_icmpYes X (pc := 10) (pc' := 53) d2_10 (flt (own_cGe (a := i.toInt) (b := q2.toInt) rfl rfl hc1)).2.1 (by decide) (by decide) ?_
    refine own_iloadN X d2_53 rfl ?_
    refine own_retI X d2_54 hk hk' ?_
    exact HQ _ (by simp only [own_sm]; omega)
  | succ d ih =>
    intro p l e R s m av below meth c Z n0 Q k n T ce sl h a0 hw o q1 q2 cn i f N X A_o h1 h2 h3 h4 h5 hk hk' HQ
    have r_i := rng32 i
    have r_N := rng32 N
    have r_q2 := rng32 q2
    have r_cn := rng32 cn
    refine own_iload X d2_7 rfl ?_
    refine own_iloadN X d2_9 rfl ?_
    have hc1 : i.toInt < q2.toInt := by omega
    refine own_icmpNo X d2_10 (tlt (own_cLt (a := i.toInt) (b := q2.toInt) rfl rfl hc1)).2.1 ?_
    refine own_aloadN X d2_13 rfl rfl ?_
    refine own_iload X d2_14 rfl ?_
    refine own_baload X A_o (own_cGe (a := i.toInt) (b := 0) rfl rfl (by omega)) (own_cLt (a := i.toInt) (b := N.toInt) rfl rfl (by omega)) d2_16 (fun v2 hv2 lv2 uv2 => ?_)
    refine own_bipush X (-64) d2_17 rfl ?_
    by_cases hc3 : v2.toInt < (-64)
    · refine own_icmpNo X d2_19 (tlt (own_cLt (a := v2.toInt) (b := (-64)) rfl rfl hc3)).2.1 ?_
      refine own_iinc X d2_22 rfl rfl (L' := #[.val (.ref o), .val (.int q1), .val (.int q2), .val (.int (cn + (-1 : Int32))), .val (.int i)]) rfl ?_
      obtain ⟨v4, hv4⟩ : ∃ w, cn + (-1 : Int32) = w := ⟨_, rfl⟩
      rw [hv4]
      have cv4 : (v4.toInt - (cn.toInt + (-1))) % 4294967296 = 0 := by rw [← hv4]; exact c_iadd cn (-1 : Int32)
      have lv4 := rng32 v4
      refine own_goto X (pc := 25) (pc' := 47) d2_25 (by decide) (by decide) ?_
      refine own_iinc X d2_47 rfl rfl (L' := #[.val (.ref o), .val (.int q1), .val (.int q2), .val (.int v4), .val (.int (i + (1 : Int32)))]) rfl ?_
      obtain ⟨v5, hv5⟩ : ∃ w, i + (1 : Int32) = w := ⟨_, rfl⟩
      rw [hv5]
      have cv5 : (v5.toInt - (i.toInt + 1)) % 4294967296 = 0 := by rw [← hv5]; exact c_iadd i (1 : Int32)
      have lv5 := rng32 v5
      refine own_goto X (pc := 50) (pc' := 7) d2_50 (by decide) (by decide) ?_
      refine ih hw o q1 q2 v4 v5 f N X A_o (by omega) (by omega) (by omega) (by omega) (by omega) hk hk' (fun z hz => HQ z ?_)
      simp only [own_sm]
      rw [own_ofInt (j := i) (t := i.toInt) rfl, hv2, show i.toInt + 1 = v5.toInt from by omega]
      rw [own_wt_c (by omega)]
      omega
    · refine own_icmpYes X (pc := 19) (pc' := 28) d2_19 (flt (own_cGe (a := v2.toInt) (b := (-64)) rfl rfl hc3)).2.1 (by decide) (by decide) ?_
      refine own_aloadN X d2_28 rfl rfl ?_
      refine own_iload X d2_29 rfl ?_
      refine own_baload X A_o (own_cGe (a := i.toInt) (b := 0) rfl rfl (by omega)) (own_cLt (a := i.toInt) (b := N.toInt) rfl rfl (by omega)) d2_31 (fun v6 hv6 lv6 uv6 => ?_)
      have hrdv6 : v6.toInt = v2.toInt := by rw [← hv6, ← hv2]
      by_cases hc7 : v6.toInt < 0
      · refine own_ifNo X d2_32 ((if0 _ _).trans (tlt (own_cLt (a := v6.toInt) (b := 0) rfl rfl hc7)).2.1) ?_
        refine own_aloadN X d2_35 rfl rfl ?_
        refine own_iload X d2_36 rfl ?_
        refine own_baload X A_o (own_cGe (a := i.toInt) (b := 0) rfl rfl (by omega)) (own_cLt (a := i.toInt) (b := N.toInt) rfl rfl (by omega)) d2_38 (fun v8 hv8 lv8 uv8 => ?_)
        have hrdv8 : v8.toInt = v2.toInt := by rw [← hv8, ← hv2]
        refine own_bipush X (-16) d2_39 rfl ?_
        by_cases hc9 : v8.toInt < (-16)
        · refine own_icmpYes X (pc := 41) (pc' := 47) d2_41 (tlt (own_cLt (a := v8.toInt) (b := (-16)) rfl rfl hc9)).1 (by decide) (by decide) ?_
          refine own_iinc X d2_47 rfl rfl (L' := #[.val (.ref o), .val (.int q1), .val (.int q2), .val (.int cn), .val (.int (i + (1 : Int32)))]) rfl ?_
          obtain ⟨v10, hv10⟩ : ∃ w, i + (1 : Int32) = w := ⟨_, rfl⟩
          rw [hv10]
          have cv10 : (v10.toInt - (i.toInt + 1)) % 4294967296 = 0 := by rw [← hv10]; exact c_iadd i (1 : Int32)
          have lv10 := rng32 v10
          refine own_goto X (pc := 50) (pc' := 7) d2_50 (by decide) (by decide) ?_
          refine ih hw o q1 q2 cn v10 f N X A_o (by omega) (by omega) (by omega) (by omega) (by omega) hk hk' (fun z hz => HQ z ?_)
          simp only [own_sm]
          rw [own_ofInt (j := i) (t := i.toInt) rfl, hv2, show i.toInt + 1 = v10.toInt from by omega]
          rw [own_wt_1 (by omega) (by omega)]
          omega
        · refine own_icmpNo X d2_41 (flt (own_cGe (a := v8.toInt) (b := (-16)) rfl rfl hc9)).1 ?_
          refine own_iinc X d2_44 rfl rfl (L' := #[.val (.ref o), .val (.int q1), .val (.int q2), .val (.int (cn + (1 : Int32))), .val (.int i)]) rfl ?_
          obtain ⟨v11, hv11⟩ : ∃ w, cn + (1 : Int32) = w := ⟨_, rfl⟩
          rw [hv11]
          have cv11 : (v11.toInt - (cn.toInt + 1)) % 4294967296 = 0 := by rw [← hv11]; exact c_iadd cn (1 : Int32)
          have lv11 := rng32 v11
          refine own_iinc X d2_47 rfl rfl (L' := #[.val (.ref o), .val (.int q1), .val (.int q2), .val (.int v11), .val (.int (i + (1 : Int32)))]) rfl ?_
          obtain ⟨v12, hv12⟩ : ∃ w, i + (1 : Int32) = w := ⟨_, rfl⟩
          rw [hv12]
          have cv12 : (v12.toInt - (i.toInt + 1)) % 4294967296 = 0 := by rw [← hv12]; exact c_iadd i (1 : Int32)
          have lv12 := rng32 v12
          refine own_goto X (pc := 50) (pc' := 7) d2_50 (by decide) (by decide) ?_
          refine ih hw o q1 q2 v11 v12 f N X A_o (by omega) (by omega) (by omega) (by omega) (by omega) hk hk' (fun z hz => HQ z ?_)
          simp only [own_sm]
          rw [own_ofInt (j := i) (t := i.toInt) rfl, hv2, show i.toInt + 1 = v12.toInt from by omega]
          rw [own_wt_4 (by omega) (by omega)]
          omega
      · refine own_ifYes X (pc := 32) (pc' := 47) d2_32 ((if0 _ _).trans (flt (own_cGe (a := v6.toInt) (b := 0) rfl rfl hc7)).2.1) (by decide) (by decide) ?_
        refine own_iinc X d2_47 rfl rfl (L' := #[.val (.ref o), .val (.int q1), .val (.int q2), .val (.int cn), .val (.int (i + (1 : Int32)))]) rfl ?_
        obtain ⟨v13, hv13⟩ : ∃ w, i + (1 : Int32) = w := ⟨_, rfl⟩
        rw [hv13]
        have cv13 : (v13.toInt - (i.toInt + 1)) % 4294967296 = 0 := by rw [← hv13]; exact c_iadd i (1 : Int32)
        have lv13 := rng32 v13
        refine own_goto X (pc := 50) (pc' := 7) d2_50 (by decide) (by decide) ?_
        refine ih hw o q1 q2 cn v13 f N X A_o (by omega) (by omega) (by omega) (by omega) (by omega) hk hk' (fun z hz => HQ z ?_)
        simp only [own_sm]
        rw [own_ofInt (j := i) (t := i.toInt) rfl, hv2, show i.toInt + 1 = v13.toInt from by omega]
        rw [own_wt_1 (by omega) (by omega)]
        omega
theorem ef_rm2 (m : MethodId) (o : Addr) (q1 : Int32) (q2 : Int32) : entryFrame m #[(.ref o), (.int q1), (.int q2)] 5 = mkF m 0 #[.val (.ref o), .val (.int q1), .val (.int q2), .unset, .unset] [] := by first | (simp [entryFrame, mkF, argsToLocals, Value.category]; done) | rfl
theorem d2_0 : decode prog_88_method_7_code 0 = .ok (.iload_n 2, 1) := by decide +kernel
theorem d2_1 : decode prog_88_method_7_code 1 = .ok (.iload_n 1, 1) := by decide +kernel
theorem d2_2 : decode prog_88_method_7_code 2 = .ok (.isub, 1) := by decide +kernel
theorem d2_3 : decode prog_88_method_7_code 3 = .ok (.istore_n 3, 1) := by decide +kernel
theorem d2_4 : decode prog_88_method_7_code 4 = .ok (.iload_n 1, 1) := by decide +kernel
theorem d2_5 : decode prog_88_method_7_code 5 = .ok (.istore 4, 2) := by decide +kernel
theorem pn_2 : plainFor (⟨"com/example/shelfmark/shelfmark/impl/Utf8", "charCount", "([BII)I"⟩ : MethodName) = true := plainFor_of_name (show plainName "com/example/shelfmark/shelfmark/impl/Utf8" = true from by first | (simp [plainName, overriddenIn]; done) | decide +kernel)
set_option maxRecDepth 65536 in
set_option maxHeartbeats 40000000 in
theorem rm2 (l : Launch) (Z : State) (a0 : Array Value) (hw : ∀ d ∈ tables_1, d.before a0 Z = true) (ws : List Jvm.Cond) (o : Addr) (q1 : Int32) (q2 : Int32) (f : Int32 → Int32) (N : Int32) (d : Nat) (h0 : Heap) (n0 : Nat) (hn0 : n0 ≤ h0.size) (A_o : own_AI Z h0 o .byte N f) (h1 : 0 ≤ q1.toInt) (h2 : q2.toInt = q1.toInt + d) (h3 : q2.toInt ≤ N.toInt) (h4 : d ≤ 100) :
    own_Met l Z (⟨"com/example/shelfmark/shelfmark/impl/Utf8", "charCount", "([BII)I"⟩ : MethodName) prog_88_method_7_code 5 (some .int) ws ({ frames := 0, cells := 0, slots := 0, locals := 0 } : Room) #[(.ref o), (.int q1), (.int q2)] h0 n0 (own_QI fun z h => (z.toInt = own_sm f d q1.toInt) ∧ h = h0) := by
  refine own_met pn_2 hn0 (fun p e s m below meth c T X => ?_)
  refine own_cast (ef_rm2 m o q1 q2) ?_
  have r_q1 := rng32 q1
  have r_q2 := rng32 q2
  have r_N := rng32 N
  refine own_iloadN X d2_0 rfl ?_
  refine own_iloadN X d2_1 rfl ?_
  refine own_isubV X (q2.toInt) (q1.toInt) d2_2 rfl rfl (fun v1 hv1 cv1 lv1 uv1 => ?_)
  refine own_istoreN X d2_3 (L' := #[.val (.ref o), .val (.int q1), .val (.int q2), .val (.int v1), .unset]) rfl ?_
  refine own_iloadN X d2_4 rfl ?_
  refine own_istore X d2_5 (L' := #[.val (.ref o), .val (.int q1), .val (.int q2), .val (.int v1), .val (.int q1)]) rfl ?_
  exact own_loop d hw o q1 q2 v1 q1 f N X A_o h1 h2 h3 (by omega) (by omega) (by decide) (by decide) (fun z hz => ⟨z, rfl, by omega, rfl⟩)
theorem ef_rm0 (m : MethodId) (x0 : Int32) (x1 : Int32) (x2 : Int32) (x3 : Int32) (x4 : Int32) : entryFrame m #[(.int x0), (.int x1), (.int x2), (.int x3), (.int x4)] maxLocals = mkF m 0 #[.val (.int x0), .val (.int x1), .val (.int x2), .val (.int x3), .val (.int x4), .unset, .unset, .unset, .unset, .unset, .unset, .unset, .unset] [] := by first | (simp [entryFrame, mkF, argsToLocals, Value.category, maxLocals]; done) | rfl
theorem pd_0 : parseMethodDescriptor "(I)I" = some ⟨[.int], some .int⟩ := by decide +kernel
theorem pd_2 : parseMethodDescriptor "([BII)I" = some ⟨[(.array .byte), .int, .int], some .int⟩ := by decide +kernel
theorem pn_0 : plainFor x = true := plainFor_of_name (show plainName "com/example/shelfmark/shelfmark/impl/Utf8CharCountPinLaw" = true from by first | (simp [plainName, overriddenIn]; done) | decide +kernel)
set_option maxRecDepth 65536 in
set_option maxHeartbeats 40000000 in
theorem rm0 (l : Launch) (Z : State) (a0 : Array Value) (hw : ∀ d ∈ tables_1, d.before a0 Z = true) (ws : List Jvm.Cond) (x0 : Int32) (x1 : Int32) (x2 : Int32) (x3 : Int32) (x4 : Int32) (h0 : Heap) (n0 : Nat) (hn0 : n0 ≤ h0.size) :
    own_Met l Z x code maxLocals ret ws room_1 #[(.int x0), (.int x1), (.int x2), (.int x3), (.int x4)] h0 n0 (own_QI fun z h => z = 1) := by
  refine own_met pn_0 hn0 (fun p e s m below meth c T X => ?_)
  refine own_cast (ef_rm0 m x0 x1 x2 x3 x4) ?_
  change own_S p l e room_1 s m _ below meth c Z x code maxLocals (some .boolean) n0 T 0 0 h0 at X
  have r_x0 := rng32 x0
  have r_x1 := rng32 x1
  have r_x2 := rng32 x2
  have r_x3 := rng32 x3
  have r_x4 := rng32 x4
  refine own_bipush X (18) at_0 rfl ?_
  refine own_newP X (cap := 18) (hw _ (List.mem_of_getElem? (i := 0) rfl)) (by decide) (by decide) (by decide) (by decide) (by decide) (by decide) at_2 (fun T h b1 hb_b1 ge_b1 X E f1 hf1 A_b1 => ?_)
  have A_b1 : own_AI Z h b1 .byte (18 : Int32) f1 := A_b1
  refine own_astore X at_4 rfl (L' := #[.val (.int x0), .val (.int x1), .val (.int x2), .val (.int x3), .val (.int x4), .val (.ref b1), .unset, .unset, .unset, .unset, .unset, .unset, .unset]) rfl ?_
  refine own_aload X at_6 rfl rfl ?_
  refine own_iconst X (0) at_8 rfl ?_
  refine own_iloadN X at_9 rfl ?_
  refine own_i2bV X (x3.toInt) at_10 rfl (fun v2 hv2 cv2 lv2 uv2 => ?_)
  refine own_bastore X A_b1 (own_cGe (a := 0) (b := 0) rfl rfl (by omega)) (own_cLt (a := 0) (b := 18) rfl rfl (by omega)) ge_b1 (x' := v2) (by rw [← hv2]; exact own_i2b2 _) at_11 (fun T h X f3 hf3 A_b1 W => ?_)
  refine own_aload X at_12 rfl rfl ?_
  refine own_iconst X (1) at_14 rfl ?_
  refine own_iloadN X at_15 rfl ?_
  refine own_bipush X (8) at_16 rfl ?_
  refine own_iushrK X (x3.toInt) 8 256 at_18 rfl (by decide) (by decide) (by decide) (fun v4 hv4 cv4 lv4 uv4 => ?_)
  refine own_i2bV X (v4.toInt) at_19 rfl (fun v5 hv5 cv5 lv5 uv5 => ?_)
  refine own_bastore X A_b1 (own_cGe (a := 1) (b := 0) rfl rfl (by omega)) (own_cLt (a := 1) (b := 18) rfl rfl (by omega)) ge_b1 (x' := v5) (by rw [← hv5]; exact own_i2b2 _) at_20 (fun T h X f6 hf6 A_b1 W => ?_)
  refine own_aload X at_21 rfl rfl ?_
  refine own_iconst X (2) at_23 rfl ?_
  refine own_iloadN X at_24 rfl ?_
  refine own_bipush X (16) at_25 rfl ?_
  refine own_iushrK X (x3.toInt) 16 65536 at_27 rfl (by decide) (by decide) (by decide) (fun v7 hv7 cv7 lv7 uv7 => ?_)
  refine own_i2bV X (v7.toInt) at_28 rfl (fun v8 hv8 cv8 lv8 uv8 => ?_)
  refine own_bastore X A_b1 (own_cGe (a := 2) (b := 0) rfl rfl (by omega)) (own_cLt (a := 2) (b := 18) rfl rfl (by omega)) ge_b1 (x' := v8) (by rw [← hv8]; exact own_i2b2 _) at_29 (fun T h X f9 hf9 A_b1 W => ?_)
  refine own_iloadN X at_30 rfl ?_
  refine own_bipush X (24) at_31 rfl ?_
  refine own_iushrK X (x3.toInt) 24 16777216 at_33 rfl (by decide) (by decide) (by decide) (fun v10 hv10 cv10 lv10 uv10 => ?_)
  refine own_iconst X (3) at_34 rfl ?_
  refine own_iandM X (v10.toInt) 2 4 at_35 rfl (by decide) (by decide) (by decide) (fun v11 hv11 cv11 lv11 uv11 => ?_)
  refine own_istore X at_36 (L' := #[.val (.int x0), .val (.int x1), .val (.int x2), .val (.int x3), .val (.int x4), .val (.ref b1), .val (.int v11), .unset, .unset, .unset, .unset, .unset, .unset]) rfl ?_
  refine own_iload X at_38 rfl ?_
  refine own_bipush X (24) at_40 rfl ?_
  refine own_iushrK X (x4.toInt) 24 16777216 at_42 rfl (by decide) (by decide) (by decide) (fun v12 hv12 cv12 lv12 uv12 => ?_)
  refine own_iconst X (3) at_43 rfl ?_
  refine own_iandM X (v12.toInt) 2 4 at_44 rfl (by decide) (by decide) (by decide) (fun v13 hv13 cv13 lv13 uv13 => ?_)
  refine own_istore X at_45 (L' := #[.val (.int x0), .val (.int x1), .val (.int x2), .val (.int x3), .val (.int x4), .val (.ref b1), .val (.int v11), .val (.int v13), .unset, .unset, .unset, .unset, .unset]) rfl ?_
  refine own_iloadN X at_47 rfl ?_
  refine own_callS X (W := 0) (argsL := [(.int x0)]) (rest := []) (hw _ (List.mem_of_getElem? (i := 1) rfl)) (hw _ (List.mem_of_getElem? (i := 2) rfl)) (hw _ (List.mem_of_getElem? (i := 3) rfl)) (hw _ (List.mem_of_getElem? (i := 4) rfl)) (by decide) (rm1 l Z a0 hw [] x0 h n0 (own_size X)) (by decide) (by decide) (by decide) (by decide) rfl (lenOf pd_0 rfl) rfl (Nat.le_of_eq rfl) at_48 (own_contI fun T v14 X hq14 => ?_)
  obtain ⟨hl14, hu14⟩ := hq14
  refine own_istore X at_51 (L' := #[.val (.int x0), .val (.int x1), .val (.int x2), .val (.int x3), .val (.int x4), .val (.ref b1), .val (.int v11), .val (.int v13), .val (.int v14), .unset, .unset, .unset, .unset]) rfl ?_
  refine own_iloadN X at_53 rfl ?_
  refine own_callS X (W := 0) (argsL := [(.int x1)]) (rest := []) (hw _ (List.mem_of_getElem? (i := 1) rfl)) (hw _ (List.mem_of_getElem? (i := 2) rfl)) (hw _ (List.mem_of_getElem? (i := 3) rfl)) (hw _ (List.mem_of_getElem? (i := 4) rfl)) (by decide) (rm1 l Z a0 hw [] x1 h n0 (own_size X)) (by decide) (by decide) (by decide) (by decide) rfl (lenOf pd_0 rfl) rfl (Nat.le_of_eq rfl) at_54 (own_contI fun T v15 X hq15 => ?_)
  obtain ⟨hl15, hu15⟩ := hq15
  refine own_istore X at_57 (L' := #[.val (.int x0), .val (.int x1), .val (.int x2), .val (.int x3), .val (.int x4), .val (.ref b1), .val (.int v11), .val (.int v13), .val (.int v14), .val (.int v15), .unset, .unset, .unset]) rfl ?_
  refine own_iloadN X at_59 rfl ?_
  refine own_callS X (W := 0) (argsL := [(.int x2)]) (rest := []) (hw _ (List.mem_of_getElem? (i := 1) rfl)) (hw _ (List.mem_of_getElem? (i := 2) rfl)) (hw _ (List.mem_of_getElem? (i := 3) rfl)) (hw _ (List.mem_of_getElem? (i := 4) rfl)) (by decide) (rm1 l Z a0 hw [] x2 h n0 (own_size X)) (by decide) (by decide) (by decide) (by decide) rfl (lenOf pd_0 rfl) rfl (Nat.le_of_eq rfl) at_60 (own_contI fun T v16 X hq16 => ?_)
  obtain ⟨hl16, hu16⟩ := hq16
  refine own_istore X at_63 (L' := #[.val (.int x0), .val (.int x1), .val (.int x2), .val (.int x3), .val (.int x4), .val (.ref b1), .val (.int v11), .val (.int v13), .val (.int v14), .val (.int v15), .val (.int v16), .unset, .unset]) rfl ?_
  refine own_iload X at_65 rfl ?_
  refine own_istore X at_67 (L' := #[.val (.int x0), .val (.int x1), .val (.int x2), .val (.int x3), .val (.int x4), .val (.ref b1), .val (.int v11), .val (.int v13), .val (.int v14), .val (.int v15), .val (.int v16), .val (.int v11), .unset]) rfl ?_
  refine own_iconst X (0) at_69 rfl ?_
  refine own_istore X at_70 (L' := #[.val (.int x0), .val (.int x1), .val (.int x2), .val (.int x3), .val (.int x4), .val (.ref b1), .val (.int v11), .val (.int v13), .val (.int v14), .val (.int v15), .val (.int v16), .val (.int v11), .val (.int (0 : Int32))]) rfl ?_
  refine own_iload X at_72 rfl ?_
  refine own_iconst X (1) at_74 rfl ?_
  by_cases hc17 : v13.toInt < 1
  · refine own_icmpYes X (pc := 75) (pc' := 99) at_75 (tlt (own_cLt (a := v13.toInt) (b := 1) rfl rfl hc17)).1 (by decide) (by decide) ?_
    refine own_iload X at_99 rfl ?_
    refine own_iconst X (2) at_101 rfl ?_
    have hc18 : v13.toInt < 2 := by omega
    refine own_icmpYes X (pc := 102) (pc' := 126) at_102 (tlt (own_cLt (a := v13.toInt) (b := 2) rfl rfl hc18)).1 (by decide) (by decide) ?_
    refine own_iload X at_126 rfl ?_
    refine own_iconst X (3) at_128 rfl ?_
    have hc19 : v13.toInt < 3 := by omega
    refine own_icmpYes X (pc := 129) (pc' := 153) at_129 (tlt (own_cLt (a := v13.toInt) (b := 3) rfl rfl hc19)).1 (by decide) (by decide) ?_
    refine own_aload X at_153 rfl rfl ?_
    refine own_iload X at_155 rfl ?_
    refine own_iload X at_157 rfl ?_
    refine own_i2bV X (x4.toInt) at_159 rfl (fun v20 hv20 cv20 lv20 uv20 => ?_)
    refine own_bastore X A_b1 (own_cGe (a := v11.toInt) (b := 0) rfl rfl (by omega)) (own_cLt (a := v11.toInt) (b := 18) rfl rfl (by omega)) ge_b1 (x' := v20) (by rw [← hv20]; exact own_i2b2 _) at_160 (fun T h X f21 hf21 A_b1 W => ?_)
    refine own_aload X at_161 rfl rfl ?_
    refine own_iload X at_163 rfl ?_
    refine own_iconst X (1) at_165 rfl ?_
    refine own_iaddV X (v11.toInt) (1) at_166 rfl rfl (fun v22 hv22 cv22 lv22 uv22 => ?_)
    refine own_iload X at_167 rfl ?_
    refine own_bipush X (8) at_169 rfl ?_
    refine own_iushrK X (x4.toInt) 8 256 at_171 rfl (by decide) (by decide) (by decide) (fun v23 hv23 cv23 lv23 uv23 => ?_)
    refine own_i2bV X (v23.toInt) at_172 rfl (fun v24 hv24 cv24 lv24 uv24 => ?_)
    refine own_bastore X A_b1 (own_cGe (a := v22.toInt) (b := 0) rfl rfl (by omega)) (own_cLt (a := v22.toInt) (b := 18) rfl rfl (by omega)) ge_b1 (x' := v24) (by rw [← hv24]; exact own_i2b2 _) at_173 (fun T h X f25 hf25 A_b1 W => ?_)
    refine own_aload X at_174 rfl rfl ?_
    refine own_iload X at_176 rfl ?_
    refine own_iconst X (2) at_178 rfl ?_
    refine own_iaddV X (v11.toInt) (2) at_179 rfl rfl (fun v26 hv26 cv26 lv26 uv26 => ?_)
    refine own_iload X at_180 rfl ?_
    refine own_bipush X (16) at_182 rfl ?_
    refine own_iushrK X (x4.toInt) 16 65536 at_184 rfl (by decide) (by decide) (by decide) (fun v27 hv27 cv27 lv27 uv27 => ?_)
    refine own_i2bV X (v27.toInt) at_185 rfl (fun v28 hv28 cv28 lv28 uv28 => ?_)
    refine own_bastore X A_b1 (own_cGe (a := v26.toInt) (b := 0) rfl rfl (by omega)) (own_cLt (a := v26.toInt) (b := 18) rfl rfl (by omega)) ge_b1 (x' := v28) (by rw [← hv28]; exact own_i2b2 _) at_186 (fun T h X f29 hf29 A_b1 W => ?_)
    refine own_aload X at_187 rfl rfl ?_
    refine own_iload X at_189 rfl ?_
    refine own_iload X at_191 rfl ?_
    refine own_callS X (W := 0) (argsL := [(.ref b1), (.int v11), (.int v11)]) (rest := []) (hw _ (List.mem_of_getElem? (i := 9) rfl)) (hw _ (List.mem_of_getElem? (i := 10) rfl)) (hw _ (List.mem_of_getElem? (i := 11) rfl)) (hw _ (List.mem_of_getElem? (i := 12) rfl)) (by decide) (rm2 l Z a0 hw [] b1 v11 v11 f29 18 (0) h n0 (own_size X) A_b1 (by omega) (by omega) (by show _ ≤ (18 : Int); omega) (by omega)) (by decide) (by decide) (by decide) (by decide) rfl (lenOf pd_2 rfl) rfl (Nat.le_of_eq rfl) at_193 (own_contI fun T v30 X hq30 => ?_)
    have hfin : ∀ j : Int, v11.toInt ≤ j → j < v11.toInt → f29 (Int32.ofInt j) = f9 (Int32.ofInt j) := by
      intro j hj1 hj2
      have hjo := own_toOf (t := j) (by omega) (by omega)
      rw [hf29, own_upd_miss (own_cNe (a := j) (b := v26.toInt) hjo rfl (by omega)), hf25, own_upd_miss (own_cNe (a := j) (b := v22.toInt) hjo rfl (by omega)), hf21, own_upd_miss (own_cNe (a := j) (b := v11.toInt) hjo rfl (by omega))]
    rw [show own_sm f29 0 v11.toInt = 0 from rfl] at hq30
    refine own_iload X at_196 rfl ?_
    have hc31 : v30.toInt = 0 := by omega
    refine own_icmpNo X at_198 (teq (own_cEq (a := v30.toInt) (b := 0) rfl rfl hc31)).2 ?_
    refine own_iconst X (1) at_201 rfl ?_
    refine own_goto X (pc := 202) (pc' := 206) at_202 (by decide) (by decide) ?_
    refine own_retN (t := .boolean) X (z' := (1 : Int32)) (Or.inl rfl) rfl rfl at_206 (by decide) (by decide) ⟨_, rfl, ?_⟩
    rfl
  · refine own_icmpNo X at_75 (flt (own_cGe (a := v13.toInt) (b := 1) rfl rfl hc17)).1 ?_
    refine own_aload X at_78 rfl rfl ?_
    refine own_iload X at_80 rfl ?_
    refine own_iload X at_82 rfl ?_
    refine own_callS X (W := 0) (argsL := [(.ref b1), (.int v11), (.int v14)]) (rest := []) (hw _ (List.mem_of_getElem? (i := 13) rfl)) (hw _ (List.mem_of_getElem? (i := 14) rfl)) (hw _ (List.mem_of_getElem? (i := 3) rfl)) (hw _ (List.mem_of_getElem? (i := 15) rfl)) (by decide) (rm3 l Z a0 hw [] b1 v11 v14 f9 18 h n0 (own_size X) A_b1 ge_b1 (by omega) (by show _ ≤ (18 : Int); omega) (by omega) (by omega)) (by decide) (by decide) (by decide) (by decide) rfl (lenOf pd_2 rfl) rfl (Nat.le_of_eq rfl) at_84 (own_contIH fun T h v32 X hq32 => ?_)
    obtain ⟨g32, d32, hd32, A_n, Kc, hz32, hfr32, hsm32⟩ := hq32
    have A_b1 := A_n
    refine own_istore X at_87 (L' := #[.val (.int x0), .val (.int x1), .val (.int x2), .val (.int x3), .val (.int x4), .val (.ref b1), .val (.int v11), .val (.int v13), .val (.int v14), .val (.int v15), .val (.int v16), .val (.int v32), .val (.int (0 : Int32))]) rfl ?_
    refine own_iload X at_89 rfl ?_
    refine own_iload X at_91 rfl ?_
    refine own_callS X (W := 1) (argsL := [(.int v14)]) (rest := [(.int (0 : Int32))]) (hw _ (List.mem_of_getElem? (i := 16) rfl)) (hw _ (List.mem_of_getElem? (i := 17) rfl)) (hw _ (List.mem_of_getElem? (i := 3) rfl)) (hw _ (List.mem_of_getElem? (i := 18) rfl)) (by decide) (rm4 l Z a0 hw [] v14 h n0 (own_size X)) (by decide) (by decide) (by decide) (by decide) rfl (lenOf pd_0 rfl) rfl (Nat.le_of_eq rfl) at_93 (own_contI fun T v33 X hq33 => ?_)
    refine own_iaddV X (0) (v33.toInt) at_96 rfl rfl (fun v34 hv34 cv34 lv34 uv34 => ?_)
    refine own_istore X at_97 (L' := #[.val (.int x0), .val (.int x1), .val (.int x2), .val (.int x3), .val (.int x4), .val (.ref b1), .val (.int v11), .val (.int v13), .val (.int v14), .val (.int v15), .val (.int v16), .val (.int v32), .val (.int v34)]) rfl ?_
    refine own_iload X at_99 rfl ?_
    refine own_iconst X (2) at_101 rfl ?_
    by_cases hc35 : v13.toInt < 2
    · refine own_icmpYes X (pc := 102) (pc' := 126) at_102 (tlt (own_cLt (a := v13.toInt) (b := 2) rfl rfl hc35)).1 (by decide) (by decide) ?_
      refine own_iload X at_126 rfl ?_
      refine own_iconst X (3) at_128 rfl ?_
      have hc36 : v13.toInt < 3 := by omega
      refine own_icmpYes X (pc := 129) (pc' := 153) at_129 (tlt (own_cLt (a := v13.toInt) (b := 3) rfl rfl hc36)).1 (by decide) (by decide) ?_
      refine own_aload X at_153 rfl rfl ?_
      refine own_iload X at_155 rfl ?_
      refine own_iload X at_157 rfl ?_
      refine own_i2bV X (x4.toInt) at_159 rfl (fun v37 hv37 cv37 lv37 uv37 => ?_)
      refine own_bastore X A_b1 (own_cGe (a := v32.toInt) (b := 0) rfl rfl (by omega)) (own_cLt (a := v32.toInt) (b := 18) rfl rfl (by omega)) ge_b1 (x' := v37) (by rw [← hv37]; exact own_i2b2 _) at_160 (fun T h X f38 hf38 A_b1 W => ?_)
      refine own_aload X at_161 rfl rfl ?_
      refine own_iload X at_163 rfl ?_
      refine own_iconst X (1) at_165 rfl ?_
      refine own_iaddV X (v32.toInt) (1) at_166 rfl rfl (fun v39 hv39 cv39 lv39 uv39 => ?_)
      refine own_iload X at_167 rfl ?_
      refine own_bipush X (8) at_169 rfl ?_
      refine own_iushrK X (x4.toInt) 8 256 at_171 rfl (by decide) (by decide) (by decide) (fun v40 hv40 cv40 lv40 uv40 => ?_)
      refine own_i2bV X (v40.toInt) at_172 rfl (fun v41 hv41 cv41 lv41 uv41 => ?_)
      refine own_bastore X A_b1 (own_cGe (a := v39.toInt) (b := 0) rfl rfl (by omega)) (own_cLt (a := v39.toInt) (b := 18) rfl rfl (by omega)) ge_b1 (x' := v41) (by rw [← hv41]; exact own_i2b2 _) at_173 (fun T h X f42 hf42 A_b1 W => ?_)
      refine own_aload X at_174 rfl rfl ?_
      refine own_iload X at_176 rfl ?_
      refine own_iconst X (2) at_178 rfl ?_
      refine own_iaddV X (v32.toInt) (2) at_179 rfl rfl (fun v43 hv43 cv43 lv43 uv43 => ?_)
      refine own_iload X at_180 rfl ?_
      refine own_bipush X (16) at_182 rfl ?_
      refine own_iushrK X (x4.toInt) 16 65536 at_184 rfl (by decide) (by decide) (by decide) (fun v44 hv44 cv44 lv44 uv44 => ?_)
      refine own_i2bV X (v44.toInt) at_185 rfl (fun v45 hv45 cv45 lv45 uv45 => ?_)
      refine own_bastore X A_b1 (own_cGe (a := v43.toInt) (b := 0) rfl rfl (by omega)) (own_cLt (a := v43.toInt) (b := 18) rfl rfl (by omega)) ge_b1 (x' := v45) (by rw [← hv45]; exact own_i2b2 _) at_186 (fun T h X f46 hf46 A_b1 W => ?_)
      refine own_aload X at_187 rfl rfl ?_
      refine own_iload X at_189 rfl ?_
      refine own_iload X at_191 rfl ?_
      refine own_callS X (W := 0) (argsL := [(.ref b1), (.int v11), (.int v32)]) (rest := []) (hw _ (List.mem_of_getElem? (i := 9) rfl)) (hw _ (List.mem_of_getElem? (i := 10) rfl)) (hw _ (List.mem_of_getElem? (i := 11) rfl)) (hw _ (List.mem_of_getElem? (i := 12) rfl)) (by decide) (rm2 l Z a0 hw [] b1 v11 v32 f46 18 (d32) h n0 (own_size X) A_b1 (by omega) (by omega) (by show _ ≤ (18 : Int); omega) (by omega)) (by decide) (by decide) (by decide) (by decide) rfl (lenOf pd_2 rfl) rfl (Nat.le_of_eq rfl) at_193 (own_contI fun T v47 X hq47 => ?_)
      have hfin : ∀ j : Int, v11.toInt ≤ j → j < v32.toInt → f46 (Int32.ofInt j) = g32 (Int32.ofInt j) := by
        intro j hj1 hj2
        have hjo := own_toOf (t := j) (by omega) (by omega)
        rw [hf46, own_upd_miss (own_cNe (a := j) (b := v43.toInt) hjo rfl (by omega)), hf42, own_upd_miss (own_cNe (a := j) (b := v39.toInt) hjo rfl (by omega)), hf38, own_upd_miss (own_cNe (a := j) (b := v32.toInt) hjo rfl (by omega))]
      have hs32 : own_sm f46 d32 v11.toInt = own_sm g32 d32 v11.toInt := own_sm_congr _ _ _ _ (fun j hj1 hj2 => by
        have hjo := own_toOf (t := j) (by omega) (by omega)
        rw [hfin j (by omega) (by omega)])
      rw [hs32, hsm32] at hq47
      refine own_iload X at_196 rfl ?_
      have hc48 : v47.toInt = v34.toInt := by omega
      refine own_icmpNo X at_198 (teq (own_cEq (a := v47.toInt) (b := v34.toInt) rfl rfl hc48)).2 ?_
      refine own_iconst X (1) at_201 rfl ?_
      refine own_goto X (pc := 202) (pc' := 206) at_202 (by decide) (by decide) ?_
      refine own_retN (t := .boolean) X (z' := (1 : Int32)) (Or.inl rfl) rfl rfl at_206 (by decide) (by decide) ⟨_, rfl, ?_⟩
      rfl
    · refine own_icmpNo X at_102 (flt (own_cGe (a := v13.toInt) (b := 2) rfl rfl hc35)).1 ?_
      refine own_aload X at_105 rfl rfl ?_
      refine own_iload X at_107 rfl ?_
      refine own_iload X at_109 rfl ?_
      refine own_callS X (W := 0) (argsL := [(.ref b1), (.int v32), (.int v15)]) (rest := []) (hw _ (List.mem_of_getElem? (i := 13) rfl)) (hw _ (List.mem_of_getElem? (i := 14) rfl)) (hw _ (List.mem_of_getElem? (i := 3) rfl)) (hw _ (List.mem_of_getElem? (i := 15) rfl)) (by decide) (rm3 l Z a0 hw [] b1 v32 v15 g32 18 h n0 (own_size X) A_b1 ge_b1 (by omega) (by show _ ≤ (18 : Int); omega) (by omega) (by omega)) (by decide) (by decide) (by decide) (by decide) rfl (lenOf pd_2 rfl) rfl (Nat.le_of_eq rfl) at_111 (own_contIH fun T h v49 X hq49 => ?_)
      obtain ⟨g49, d49, hd49, A_n, Kc, hz49, hfr49, hsm49⟩ := hq49
      have A_b1 := A_n
      refine own_istore X at_114 (L' := #[.val (.int x0), .val (.int x1), .val (.int x2), .val (.int x3), .val (.int x4), .val (.ref b1), .val (.int v11), .val (.int v13), .val (.int v14), .val (.int v15), .val (.int v16), .val (.int v49), .val (.int v34)]) rfl ?_
      refine own_iload X at_116 rfl ?_
      refine own_iload X at_118 rfl ?_
      refine own_callS X (W := 1) (argsL := [(.int v15)]) (rest := [(.int v34)]) (hw _ (List.mem_of_getElem? (i := 16) rfl)) (hw _ (List.mem_of_getElem? (i := 17) rfl)) (hw _ (List.mem_of_getElem? (i := 3) rfl)) (hw _ (List.mem_of_getElem? (i := 18) rfl)) (by decide) (rm4 l Z a0 hw [] v15 h n0 (own_size X)) (by decide) (by decide) (by decide) (by decide) rfl (lenOf pd_0 rfl) rfl (Nat.le_of_eq rfl) at_120 (own_contI fun T v50 X hq50 => ?_)
      refine own_iaddV X (v34.toInt) (v50.toInt) at_123 rfl rfl (fun v51 hv51 cv51 lv51 uv51 => ?_)
      refine own_istore X at_124 (L' := #[.val (.int x0), .val (.int x1), .val (.int x2), .val (.int x3), .val (.int x4), .val (.ref b1), .val (.int v11), .val (.int v13), .val (.int v14), .val (.int v15), .val (.int v16), .val (.int v49), .val (.int v51)]) rfl ?_
      refine own_iload X at_126 rfl ?_
      refine own_iconst X (3) at_128 rfl ?_
      by_cases hc52 : v13.toInt < 3
      · refine own_icmpYes X (pc := 129) (pc' := 153) at_129 (tlt (own_cLt (a := v13.toInt) (b := 3) rfl rfl hc52)).1 (by decide) (by decide) ?_
        refine own_aload X at_153 rfl rfl ?_
        refine own_iload X at_155 rfl ?_
        refine own_iload X at_157 rfl ?_
        refine own_i2bV X (x4.toInt) at_159 rfl (fun v53 hv53 cv53 lv53 uv53 => ?_)
        refine own_bastore X A_b1 (own_cGe (a := v49.toInt) (b := 0) rfl rfl (by omega)) (own_cLt (a := v49.toInt) (b := 18) rfl rfl (by omega)) ge_b1 (x' := v53) (by rw [← hv53]; exact own_i2b2 _) at_160 (fun T h X f54 hf54 A_b1 W => ?_)
        refine own_aload X at_161 rfl rfl ?_
        refine own_iload X at_163 rfl ?_
        refine own_iconst X (1) at_165 rfl ?_
        refine own_iaddV X (v49.toInt) (1) at_166 rfl rfl (fun v55 hv55 cv55 lv55 uv55 => ?_)
        refine own_iload X at_167 rfl ?_
        refine own_bipush X (8) at_169 rfl ?_
        refine own_iushrK X (x4.toInt) 8 256 at_171 rfl (by decide) (by decide) (by decide) (fun v56 hv56 cv56 lv56 uv56 => ?_)
        refine own_i2bV X (v56.toInt) at_172 rfl (fun v57 hv57 cv57 lv57 uv57 => ?_)
        refine own_bastore X A_b1 (own_cGe (a := v55.toInt) (b := 0) rfl rfl (by omega)) (own_cLt (a := v55.toInt) (b := 18) rfl rfl (by omega)) ge_b1 (x' := v57) (by rw [← hv57]; exact own_i2b2 _) at_173 (fun T h X f58 hf58 A_b1 W => ?_)
        refine own_aload X at_174 rfl rfl ?_
        refine own_iload X at_176 rfl ?_
        refine own_iconst X (2) at_178 rfl ?_
        refine own_iaddV X (v49.toInt) (2) at_179 rfl rfl (fun v59 hv59 cv59 lv59 uv59 => ?_)
        refine own_iload X at_180 rfl ?_
        refine own_bipush X (16) at_182 rfl ?_
        refine own_iushrK X (x4.toInt) 16 65536 at_184 rfl (by decide) (by decide) (by decide) (fun v60 hv60 cv60 lv60 uv60 => ?_)
        refine own_i2bV X (v60.toInt) at_185 rfl (fun v61 hv61 cv61 lv61 uv61 => ?_)
        refine own_bastore X A_b1 (own_cGe (a := v59.toInt) (b := 0) rfl rfl (by omega)) (own_cLt (a := v59.toInt) (b := 18) rfl rfl (by omega)) ge_b1 (x' := v61) (by rw [← hv61]; exact own_i2b2 _) at_186 (fun T h X f62 hf62 A_b1 W => ?_)
        refine own_aload X at_187 rfl rfl ?_
        refine own_iload X at_189 rfl ?_
        refine own_iload X at_191 rfl ?_
        refine own_callS X (W := 0) (argsL := [(.ref b1), (.int v11), (.int v49)]) (rest := []) (hw _ (List.mem_of_getElem? (i := 9) rfl)) (hw _ (List.mem_of_getElem? (i := 10) rfl)) (hw _ (List.mem_of_getElem? (i := 11) rfl)) (hw _ (List.mem_of_getElem? (i := 12) rfl)) (by decide) (rm2 l Z a0 hw [] b1 v11 v49 f62 18 (d32 + d49) h n0 (own_size X) A_b1 (by omega) (by omega) (by show _ ≤ (18 : Int); omega) (by omega)) (by decide) (by decide) (by decide) (by decide) rfl (lenOf pd_2 rfl) rfl (Nat.le_of_eq rfl) at_193 (own_contI fun T v63 X hq63 => ?_)
        have hfin : ∀ j : Int, v11.toInt ≤ j → j < v49.toInt → f62 (Int32.ofInt j) = g49 (Int32.ofInt j) := by
          intro j hj1 hj2
          have hjo := own_toOf (t := j) (by omega) (by omega)
          rw [hf62, own_upd_miss (own_cNe (a := j) (b := v59.toInt) hjo rfl (by omega)), hf58, own_upd_miss (own_cNe (a := j) (b := v55.toInt) hjo rfl (by omega)), hf54, own_upd_miss (own_cNe (a := j) (b := v49.toInt) hjo rfl (by omega))]
        have hs32 : own_sm f62 d32 v11.toInt = own_sm g32 d32 v11.toInt := own_sm_congr _ _ _ _ (fun j hj1 hj2 => by
          have hjo := own_toOf (t := j) (by omega) (by omega)
          rw [hfin j (by omega) (by omega), hfr49 _ (by rw [hjo]; omega)])
        have hs49 : own_sm f62 d49 v32.toInt = own_sm g49 d49 v32.toInt := own_sm_congr _ _ _ _ (fun j hj1 hj2 => by
          have hjo := own_toOf (t := j) (by omega) (by omega)
          rw [hfin j (by omega) (by omega)])
        rw [own_sm_add, show v11.toInt + (d32 : Int) = v32.toInt from by omega, hs32, hs49, hsm32, hsm49] at hq63
        refine own_iload X at_196 rfl ?_
        have hc64 : v63.toInt = v51.toInt := by omega
        refine own_icmpNo X at_198 (teq (own_cEq (a := v63.toInt) (b := v51.toInt) rfl rfl hc64)).2 ?_
        refine own_iconst X (1) at_201 rfl ?_
        refine own_goto X (pc := 202) (pc' := 206) at_202 (by decide) (by decide) ?_
        refine own_retN (t := .boolean) X (z' := (1 : Int32)) (Or.inl rfl) rfl rfl at_206 (by decide) (by decide) ⟨_, rfl, ?_⟩
        rfl
      · refine own_icmpNo X at_129 (flt (own_cGe (a := v13.toInt) (b := 3) rfl rfl hc52)).1 ?_
        refine own_aload X at_132 rfl rfl ?_
        refine own_iload X at_134 rfl ?_
        refine own_iload X at_136 rfl ?_
        refine own_callS X (W := 0) (argsL := [(.ref b1), (.int v49), (.int v16)]) (rest := []) (hw _ (List.mem_of_getElem? (i := 13) rfl)) (hw _ (List.mem_of_getElem? (i := 14) rfl)) (hw _ (List.mem_of_getElem? (i := 3) rfl)) (hw _ (List.mem_of_getElem? (i := 15) rfl)) (by decide) (rm3 l Z a0 hw [] b1 v49 v16 g49 18 h n0 (own_size X) A_b1 ge_b1 (by omega) (by show _ ≤ (18 : Int); omega) (by omega) (by omega)) (by decide) (by decide) (by decide) (by decide) rfl (lenOf pd_2 rfl) rfl (Nat.le_of_eq rfl) at_138 (own_contIH fun T h v65 X hq65 => ?_)
        obtain ⟨g65, d65, hd65, A_n, Kc, hz65, hfr65, hsm65⟩ := hq65
        have A_b1 := A_n
        refine own_istore X at_141 (L' := #[.val (.int x0), .val (.int x1), .val (.int x2), .val (.int x3), .val (.int x4), .val (.ref b1), .val (.int v11), .val (.int v13), .val (.int v14), .val (.int v15), .val (.int v16), .val (.int v65), .val (.int v51)]) rfl ?_
        refine own_iload X at_143 rfl ?_
        refine own_iload X at_145 rfl ?_
        refine own_callS X (W := 1) (argsL := [(.int v16)]) (rest := [(.int v51)]) (hw _ (List.mem_of_getElem? (i := 16) rfl)) (hw _ (List.mem_of_getElem? (i := 17) rfl)) (hw _ (List.mem_of_getElem? (i := 3) rfl)) (hw _ (List.mem_of_getElem? (i := 18) rfl)) (by decide) (rm4 l Z a0 hw [] v16 h n0 (own_size X)) (by decide) (by decide) (by decide) (by decide) rfl (lenOf pd_0 rfl) rfl (Nat.le_of_eq rfl) at_147 (own_contI fun T v66 X hq66 => ?_)
        refine own_iaddV X (v51.toInt) (v66.toInt) at_150 rfl rfl (fun v67 hv67 cv67 lv67 uv67 => ?_)
        refine own_istore X at_151 (L' := #[.val (.int x0), .val (.int x1), .val (.int x2), .val (.int x3), .val (.int x4), .val (.ref b1), .val (.int v11), .val (.int v13), .val (.int v14), .val (.int v15), .val (.int v16), .val (.int v65), .val (.int v67)]) rfl ?_
        refine own_aload X at_153 rfl rfl ?_
        refine own_iload X at_155 rfl ?_
        refine own_iload X at_157 rfl ?_
        refine own_i2bV X (x4.toInt) at_159 rfl (fun v68 hv68 cv68 lv68 uv68 => ?_)
        refine own_bastore X A_b1 (own_cGe (a := v65.toInt) (b := 0) rfl rfl (by omega)) (own_cLt (a := v65.toInt) (b := 18) rfl rfl (by omega)) ge_b1 (x' := v68) (by rw [← hv68]; exact own_i2b2 _) at_160 (fun T h X f69 hf69 A_b1 W => ?_)
        refine own_aload X at_161 rfl rfl ?_
        refine own_iload X at_163 rfl ?_
        refine own_iconst X (1) at_165 rfl ?_
        refine own_iaddV X (v65.toInt) (1) at_166 rfl rfl (fun v70 hv70 cv70 lv70 uv70 => ?_)
        refine own_iload X at_167 rfl ?_
        refine own_bipush X (8) at_169 rfl ?_
        refine own_iushrK X (x4.toInt) 8 256 at_171 rfl (by decide) (by decide) (by decide) (fun v71 hv71 cv71 lv71 uv71 => ?_)
        refine own_i2bV X (v71.toInt) at_172 rfl (fun v72 hv72 cv72 lv72 uv72 => ?_)
        refine own_bastore X A_b1 (own_cGe (a := v70.toInt) (b := 0) rfl rfl (by omega)) (own_cLt (a := v70.toInt) (b := 18) rfl rfl (by omega)) ge_b1 (x' := v72) (by rw [← hv72]; exact own_i2b2 _) at_173 (fun T h X f73 hf73 A_b1 W => ?_)
        refine own_aload X at_174 rfl rfl ?_
        refine own_iload X at_176 rfl ?_
        refine own_iconst X (2) at_178 rfl ?_
        refine own_iaddV X (v65.toInt) (2) at_179 rfl rfl (fun v74 hv74 cv74 lv74 uv74 => ?_)
        refine own_iload X at_180 rfl ?_
        refine own_bipush X (16) at_182 rfl ?_
        refine own_iushrK X (x4.toInt) 16 65536 at_184 rfl (by decide) (by decide) (by decide) (fun v75 hv75 cv75 lv75 uv75 => ?_)
        refine own_i2bV X (v75.toInt) at_185 rfl (fun v76 hv76 cv76 lv76 uv76 => ?_)
        refine own_bastore X A_b1 (own_cGe (a := v74.toInt) (b := 0) rfl rfl (by omega)) (own_cLt (a := v74.toInt) (b := 18) rfl rfl (by omega)) ge_b1 (x' := v76) (by rw [← hv76]; exact own_i2b2 _) at_186 (fun T h X f77 hf77 A_b1 W => ?_)
        refine own_aload X at_187 rfl rfl ?_
        refine own_iload X at_189 rfl ?_
        refine own_iload X at_191 rfl ?_
        refine own_callS X (W := 0) (argsL := [(.ref b1), (.int v11), (.int v65)]) (rest := []) (hw _ (List.mem_of_getElem? (i := 9) rfl)) (hw _ (List.mem_of_getElem? (i := 10) rfl)) (hw _ (List.mem_of_getElem? (i := 11) rfl)) (hw _ (List.mem_of_getElem? (i := 12) rfl)) (by decide) (rm2 l Z a0 hw [] b1 v11 v65 f77 18 (d32 + d49 + d65) h n0 (own_size X) A_b1 (by omega) (by omega) (by show _ ≤ (18 : Int); omega) (by omega)) (by decide) (by decide) (by decide) (by decide) rfl (lenOf pd_2 rfl) rfl (Nat.le_of_eq rfl) at_193 (own_contI fun T v78 X hq78 => ?_)
        have hfin : ∀ j : Int, v11.toInt ≤ j → j < v65.toInt → f77 (Int32.ofInt j) = g65 (Int32.ofInt j) := by
          intro j hj1 hj2
          have hjo := own_toOf (t := j) (by omega) (by omega)
          rw [hf77, own_upd_miss (own_cNe (a := j) (b := v74.toInt) hjo rfl (by omega)), hf73, own_upd_miss (own_cNe (a := j) (b := v70.toInt) hjo rfl (by omega)), hf69, own_upd_miss (own_cNe (a := j) (b := v65.toInt) hjo rfl (by omega))]
        have hs32 : own_sm f77 d32 v11.toInt = own_sm g32 d32 v11.toInt := own_sm_congr _ _ _ _ (fun j hj1 hj2 => by
          have hjo := own_toOf (t := j) (by omega) (by omega)
          rw [hfin j (by omega) (by omega), hfr65 _ (by rw [hjo]; omega), hfr49 _ (by rw [hjo]; omega)])
        have hs49 : own_sm f77 d49 v32.toInt = own_sm g49 d49 v32.toInt := own_sm_congr _ _ _ _ (fun j hj1 hj2 => by
          have hjo := own_toOf (t := j) (by omega) (by omega)
          rw [hfin j (by omega) (by omega), hfr65 _ (by rw [hjo]; omega)])
        have hs65 : own_sm f77 d65 v49.toInt = own_sm g65 d65 v49.toInt := own_sm_congr _ _ _ _ (fun j hj1 hj2 => by
          have hjo := own_toOf (t := j) (by omega) (by omega)
          rw [hfin j (by omega) (by omega)])
        rw [own_sm_add, own_sm_add, show v11.toInt + ((d32 + d49 : Nat) : Int) = v49.toInt from by omega, show v11.toInt + (d32 : Int) = v32.toInt from by omega, hs32, hs49, hs65, hsm32, hsm49, hsm65] at hq78
        refine own_iload X at_196 rfl ?_
        have hc79 : v78.toInt = v67.toInt := by omega
        refine own_icmpNo X at_198 (teq (own_cEq (a := v78.toInt) (b := v67.toInt) rfl rfl hc79)).2 ?_
        refine own_iconst X (1) at_201 rfl ?_
        refine own_goto X (pc := 202) (pc' := 206) at_202 (by decide) (by decide) ?_
        refine own_retN (t := .boolean) X (z' := (1 : Int32)) (Or.inl rfl) rfl rfl at_206 (by decide) (by decide) ⟨_, rfl, ?_⟩
        rfl
set_option maxRecDepth 65536 in
set_option maxHeartbeats 40000000 in
theorem comes_1 {Post : Tables → Env → Array Value → State → Outcome → State → Prop} (hpost : ∀ tb e args s v u, (limb_1_1.after args s (.returned v) u = true ∧ limb_1_2.after args s (.returned v) u = true ∧ True) → FrameEnd s (.returned v) u (Jvm.fieldLocs frame_1_writes args s ++ Jvm.arrayLocs frame_1_arrays args s ++ Jvm.staticLocs frame_1_statics s) 16 128 → Post tb e args s (.returned v) u) :
    ArmFor flags0 classFile x code maxLocals ret World_1 tables_1 room_1 Calls_1 rest_1 Pre_1 Post := by
  intro l hfl _ _ p e ha hc hk s m args below hf hA hF happ hP
  obtain ⟨hcalls, hrest, hpre⟩ := hP
  obtain ⟨-, -, -, hnamed, -, -, -, hat⟩ := (Spec.applies_iff hf).mp happ
  obtain ⟨hg, hn⟩ := and_e (Cond.before_iff.mp (show (Jvm.Cond.and given_1 narrow_1).before args s = true from hpre))
  obtain ⟨gcount, gt0⟩ := and_e hg
  obtain ⟨ga0, gt1⟩ := and_e gt0
  obtain ⟨ga1, gt2⟩ := and_e gt1
  obtain ⟨ga2, gt3⟩ := and_e gt2
  obtain ⟨ga3, gt4⟩ := and_e gt3
  obtain ⟨w0, w1, w2, w3, w4, rfl⟩ : ∃ w0 w1 w2 w3 w4 : Value, args = #[w0, w1, w2, w3, w4] := by
    have hs : args.size = 5 := by simpa [Cond.value, given_1] using gcount
    obtain ⟨L⟩ := args
    match L, hs with
    | [w0, w1, w2, w3, w4], _ => exact ⟨w0, w1, w2, w3, w4, rfl⟩
  have hw := fun d (hd : d ∈ tables_1) => atoms_spec (ws := Jvm.Cond.code x code maxLocals ret :: tables_1) hat d (List.mem_cons_of_mem _ hd)
  obtain ⟨i0, ei0⟩ := is_v ga0
  obtain rfl : w0 = (.int i0) := Option.some.inj ei0
  obtain ⟨i1, ei1⟩ := is_v ga1
  obtain rfl : w1 = (.int i1) := Option.some.inj ei1
  obtain ⟨i2, ei2⟩ := is_v ga2
  obtain rfl : w2 = (.int i2) := Option.some.inj ei2
  obtain ⟨i3, ei3⟩ := is_v ga3
  obtain rfl : w3 = (.int i3) := Option.some.inj ei3
  obtain ⟨i4, ei4⟩ := is_v gt4
  obtain rfl : w4 = (.int i4) := Option.some.inj ei4
  obtain ⟨n, o, h1, h2, h3, _, L, rfl, ⟨N, z, rfl, hz⟩, hq⟩ := rm0 l s _ hw tables_1 i0 i1 i2 i3 i4 s.heap s.heap.size (Nat.le_refl _) p e ha hc hk s m _ below hf ((Spec.applies_iff_loose hf).mp happ).1 ⟨rfl, State.Warmed39.refl s, rfl⟩ trivial
  subst hz
  refine ⟨n, _, h1, h2, h3, hpost _ _ _ _ _ _ ⟨Cond.after_iff.mpr rfl, Cond.after_iff.mpr (eq_i res_at (Term.int_eval (1)) rfl), trivial⟩ ⟨hq.1, hq.2.1, (hq.2.2.sift fun y hy => Or.inr (N y hy)).mono (by decide) (by decide)⟩⟩
theorem main_1_1 : Claimed_1_1 := comes_1 fun _ _ _ _ _ _ h hF => ⟨h.1, hF⟩
theorem main_1_2 : Claimed_1_2 := comes_1 fun _ _ _ _ _ _ h hF => ⟨h.2.1, hF⟩
end Jvm.Pilot.@@N@@
namespace Jvm.Pilot.@@N@@
open Jvm Jvm.ClassFile Sem Op Lib Jvm.Free Jvm.Stand Jvm.Pilot.@@N@@.Jvm.D
/-! MADE BY PROGRAM (witnessworld.py) out of the Statement's table words and the real class files: 9 classes; the members and pool entries that the words name. The judged class is class 1, her method 4. -/
namespace start1
open Jvm.ClassFile
def u (s : String) : CpInfo := .utf8 (stringToUtf16 s)
/-- a pool by its gaps: so many unusable entries, then the entry; so many at the end -/
def gap : Nat → List CpInfo → List CpInfo
  | 0, r => r
  | n + 1, r => .unusable :: gap n r
def poolList (es : List (Nat × CpInfo)) (last : Nat) : List CpInfo := es.foldr (fun e r => gap e.1 (e.2 :: r)) (gap last [])
def pool (es : List (Nat × CpInfo)) (last : Nat) : Array CpInfo := ⟨poolList es last⟩
def fileOf (pool : Array CpInfo) (this : Nat) (attrs : Array Attribute := #[]) (ms : Array MethodInfo := #[]) (fl : Nat := 33) (sup : Nat := 0) (ifs : Array Nat := #[]) (fds : Array FieldInfo := #[]) : ClassFile where
  minorVersion := 0
  majorVersion := 65
  constantPool := pool
  accessFlags := fl
  thisClass := this
  superClass := sup
  interfaces := ifs
  fields := fds
  methods := ms
  attributes := attrs
def plain (name : String) (sup : Option ClassId) : Class where
  name := name
  kind := .ordinary
  loader := none
  accessFlags := 33
  super := sup
  interfaces := #[]
  cf := none
  fields := #[]
  methods := #[]
  instanceTypes := #[]
  staticTypes := #[]
  resolved := #[]
  callSites := []
  init := .initialized
  statics := none
  mirror := none

def pool0 : Array CpInfo := pool [(5, u "<init>"), (0, u "()V"), (1, .class_ 10), (1, u "java/lang/Object")] 113

def k0m0 : Method := { name := "<init>", desc := "()V", sig := { parameters := [], returnType := none }, accessFlags := 1, code := none }
/-- java/lang/Object -/
def k0 : Class := { plain "java/lang/Object" none with
  accessFlags := 33
  interfaces := #[]
  cf := some (fileOf pool0 8 #[] #[{ accessFlags := 1, nameIndex := 5, descriptorIndex := 6, attributes := #[] }] 33 0 #[] #[])
  fields := #[]
  methods := #[k0m0]
  instanceTypes := #[]
  staticTypes := #[]
  resolved := Array.replicate 124 none
  statics := none }

def pool1 : Array CpInfo := pool [(2, .class_ 4), (1, u "java/lang/Object"), (0, u "<init>"), (0, u "()V"), (0, .integer 63488), (0, .integer 55296), (0, .integer 57343), (0, .integer 65536), (0, .integer 1048576), (0, .methodref 13 14), (0, .class_ 15), (0, .nameAndType 16 17), (0, u "com/example/shelfmark/shelfmark/impl/Utf8CharCountPinLaw"), (0, u "codePoint"), (0, u "(I)I"), (0, .methodref 13 19), (0, .nameAndType 20 21), (0, u "encode"), (0, u "([BII)I"), (0, .methodref 13 23), (0, .nameAndType 24 17), (0, u "chars"), (0, .methodref 26 27), (0, .class_ 28), (0, .nameAndType 29 21), (0, u "com/example/shelfmark/shelfmark/impl/Utf8"), (0, u "charCount"), (3, u "law"), (0, u "(IIIII)Z")] 4

def k1m0 : Method := { name := "<init>", desc := "()V", sig := { parameters := [], returnType := none }, accessFlags := 2, code := none }
def k1c1 : Code := { maxStack := 3, maxLocals := 4, code := method_2_code, exceptionTable := #[], attributes := #[] }
def k1m1 : Method := { name := "codePoint", desc := "(I)I", sig := { parameters := [.int], returnType := some .int }, accessFlags := 10, code := some k1c1 }
def k1c2 : Code := { maxStack := 5, maxLocals := 3, code := method_3_code, exceptionTable := #[], attributes := #[] }
def k1m2 : Method := { name := "encode", desc := "([BII)I", sig := { parameters := [(.array .byte), .int, .int], returnType := some .int }, accessFlags := 10, code := some k1c2 }
def k1c3 : Code := { maxStack := 2, maxLocals := 1, code := method_4_code, exceptionTable := #[], attributes := #[] }
def k1m3 : Method := { name := "chars", desc := "(I)I", sig := { parameters := [.int], returnType := some .int }, accessFlags := 10, code := some k1c3 }
def k1c4 : Code := { maxStack := 4, maxLocals := 13, code := code, exceptionTable := #[], attributes := #[] }
def k1m4 : Method := { name := "law", desc := "(IIIII)Z", sig := { parameters := [.int, .int, .int, .int, .int], returnType := some .boolean }, accessFlags := 9, code := some k1c4 }
/-- com/example/shelfmark/shelfmark/impl/Utf8CharCountPinLaw -/
def k1 : Class := { plain "com/example/shelfmark/shelfmark/impl/Utf8CharCountPinLaw" (some 0) with
  accessFlags := 49
  interfaces := #[]
  cf := some (fileOf pool1 13 #[] #[{ accessFlags := 2, nameIndex := 5, descriptorIndex := 6, attributes := #[] }, { accessFlags := 10, nameIndex := 16, descriptorIndex := 17, attributes := #[] }, { accessFlags := 10, nameIndex := 20, descriptorIndex := 21, attributes := #[] }, { accessFlags := 10, nameIndex := 24, descriptorIndex := 17, attributes := #[] }, { accessFlags := 9, nameIndex := 33, descriptorIndex := 34, attributes := #[] }] 49 2 #[] #[])
  fields := #[]
  methods := #[k1m0, k1m1, k1m2, k1m3, k1m4]
  instanceTypes := #[]
  staticTypes := #[]
  resolved := Array.replicate 39 none
  statics := none }

def pool2 : Array CpInfo := pool [(3, .class_ 4), (0, u "com/example/shelfmark/shelfmark/impl/Utf8"), (1, .class_ 8), (1, u "java/lang/Object"), (0, u "<init>"), (0, u "()V"), (21, u "([BII)I"), (3, u "POWERS_OF_31"), (0, u "[I"), (40, u "charCount"), (93, u "MAX_SEQUENCE_BYTES"), (0, u "I"), (2, u "MAX_ARRAY_LENGTH"), (1, u "MOST_DECODED_AT_ONCE"), (0, u "MOST_ENCODED_AT_ONCE"), (0, u "PIECE")] 16

def k2m0 : Method := { name := "<init>", desc := "()V", sig := { parameters := [], returnType := none }, accessFlags := 2, code := none }
def k2c1 : Code := { maxStack := 2, maxLocals := 5, code := prog_88_method_7_code, exceptionTable := #[], attributes := #[] }
def k2m1 : Method := { name := "charCount", desc := "([BII)I", sig := { parameters := [(.array .byte), .int, .int], returnType := some .int }, accessFlags := 8, code := some k2c1 }
/-- com/example/shelfmark/shelfmark/impl/Utf8 -/
def k2 : Class := { plain "com/example/shelfmark/shelfmark/impl/Utf8" (some 0) with
  accessFlags := 48
  interfaces := #[]
  cf := some (fileOf pool2 3 #[] #[{ accessFlags := 2, nameIndex := 9, descriptorIndex := 10, attributes := #[] }, { accessFlags := 8, nameIndex := 78, descriptorIndex := 32, attributes := #[] }] 48 6 #[] #[{ accessFlags := 24, nameIndex := 172, descriptorIndex := 173, attributes := #[] }, { accessFlags := 24, nameIndex := 176, descriptorIndex := 173, attributes := #[] }, { accessFlags := 26, nameIndex := 178, descriptorIndex := 173, attributes := #[] }, { accessFlags := 26, nameIndex := 179, descriptorIndex := 173, attributes := #[] }, { accessFlags := 26, nameIndex := 180, descriptorIndex := 173, attributes := #[] }, { accessFlags := 26, nameIndex := 36, descriptorIndex := 37, attributes := #[] }])
  fields := #[{ name := "MAX_SEQUENCE_BYTES", type := .int, accessFlags := 24, slot := 0, constantValue := 0 }, { name := "MAX_ARRAY_LENGTH", type := .int, accessFlags := 24, slot := 1, constantValue := 0 }, { name := "MOST_DECODED_AT_ONCE", type := .int, accessFlags := 26, slot := 2, constantValue := 0 }, { name := "MOST_ENCODED_AT_ONCE", type := .int, accessFlags := 26, slot := 3, constantValue := 0 }, { name := "PIECE", type := .int, accessFlags := 26, slot := 4, constantValue := 0 }, { name := "POWERS_OF_31", type := (.array .int), accessFlags := 26, slot := 5, constantValue := 0 }]
  methods := #[k2m0, k2m1]
  instanceTypes := #[]
  staticTypes := #[.int, .int, .int, .int, .int, (.array .int)]
  resolved := Array.replicate 197 none
  statics := none }

def pool3 : Array CpInfo := pool [(1, u "java/lang/Cloneable"), (0, .class_ 1), (0, u "java/lang/Object"), (0, .class_ 3)] 3

/-- java/lang/Cloneable -/
def k3 : Class := { plain "java/lang/Cloneable" (some 0) with
  accessFlags := 1537
  interfaces := #[]
  cf := some (fileOf pool3 2 #[] #[] 1537 4 #[] #[])
  fields := #[]
  methods := #[]
  instanceTypes := #[]
  staticTypes := #[]
  resolved := Array.replicate 8 none
  statics := none }

def pool4 : Array CpInfo := pool [(1, u "java/io/Serializable"), (0, .class_ 1), (0, u "java/lang/Object"), (0, .class_ 3)] 3

/-- java/io/Serializable -/
def k4 : Class := { plain "java/io/Serializable" (some 0) with
  accessFlags := 1537
  interfaces := #[]
  cf := some (fileOf pool4 2 #[] #[] 1537 4 #[] #[])
  fields := #[]
  methods := #[]
  instanceTypes := #[]
  staticTypes := #[]
  resolved := Array.replicate 8 none
  statics := none }

/-- the primitive byte -/
def k5 : Class := { plain "byte" none with kind := .primitive 'B', accessFlags := 0x411 }
/-- [B -/
def k6 : Class := { plain "[B" (some 0) with kind := .array 5 .byte, interfaces := #[3, 4], accessFlags := 1041 }

/-- the primitive int -/
def k7 : Class := { plain "int" none with kind := .primitive 'I', accessFlags := 0x411 }
/-- [I -/
def k8 : Class := { plain "[I" (some 0) with kind := .array 7 .int, interfaces := #[3, 4], accessFlags := 1041 }

def heap : Heap := #[]
def classes : Array Class := #[k0, k1, k2, k3, k4, k5, k6, k7, k8]
def interned : List (Array UInt16 × Addr) := []
def slotsUsed : Nat := 0
def theMethod : MethodId := ⟨1, 4⟩
def args0 : Array Value := #[.int 50, .int 7, .int 9, .int 1, .int 2]
def aboutOver (below : List Frame) : State where
  vm := { classes := classes, interned := interned.toArray }
  heap := heap
  slotsUsed := slotsUsed
  threads := #[{ frames := .invoking theMethod args0 :: below }]
def below0 : List Frame := [.native { method := ⟨0, 0⟩, args := #[] }]
def about1 : State := aboutOver below0
def p0 : Program := .bare "" "" ""
def e0 : Env := launch0.env 0 0 0
theorem w_frames : about1.frames = Frame.invoking theMethod args0 :: below0 := rfl
set_option maxRecDepth 65536 in
theorem w_args : argsFit about1.vm theMethod args0 = true := by decide +kernel
set_option maxRecDepth 65536 in
theorem w_heap : heapFits about1 = true := by decide +kernel
set_option maxRecDepth 65536 in
theorem w_runnable : about1.curStatus? = some .runnable := by decide +kernel
set_option maxRecDepth 65536 in
theorem w_alone : about1.alone = true := by decide +kernel
set_option maxRecDepth 65536 in
theorem w_named : about1.methodNamed? x = some theMethod := by decide +kernel
set_option maxRecDepth 65536 in
theorem w_hears : about1.hears theMethod below0 = true := by decide +kernel
set_option maxRecDepth 65536 in
theorem w_ripe : about1.ripe theMethod args0 below0 = true := by decide +kernel
theorem w_running : about1.status = .running := rfl
set_option maxRecDepth 65536 in
theorem w_room : about1.hasRoom e0.platform room_1 = true :=
  launch0.hasRoom_least _ room_1 (by decide +kernel) (by decide +kernel) (by decide +kernel) (by decide +kernel) (by decide +kernel) (by decide +kernel)
theorem allAtoms_all (ts : List Jvm.Cond) (a : Array Jvm.Value) (st : Jvm.State) : (allAtoms ts).before a st = ts.all (fun c => c.before a st) := by
  induction ts with
  | nil => rfl
  | cons c t ih =>
    show (Jvm.Cond.and c (allAtoms t)).before a st = _
    rw [Jvm.Cond.before_and, ih, List.all_cons]
def words1 : List Jvm.Cond := Jvm.Cond.code x code maxLocals ret :: tables_1
/-- a 'code' word, met by the world's own term for the bytes: nothing is compared byte by byte -/
theorem code_word {y : MethodName} {bytes : ByteArray} {mx : Nat} {rt : Option FieldType} {a : Array Value} {s : State} {m : MethodId} {meth : Method} {c : Code} (h1 : s.methodNamed? y = some m) (h2 : s.vm.method? m = some meth) (h3 : meth.code = some c) (h4 : c.code = bytes)
    (h5 : (c.maxLocals == mx && c.exceptionTable.isEmpty && decide (c.maxStack ≤ mostOperands) && decide (meth.sig.returnType = rt) && !meth.locks && decide (parseMethodDescriptor y.desc = some meth.sig)) = true) : (Jvm.Cond.code y bytes mx rt).before a s = true := by
  simp only [Bool.and_eq_true, beq_iff_eq, Bool.not_eq_true', decide_eq_true_eq] at h5
  obtain ⟨⟨⟨⟨⟨g1, g2⟩, g3⟩, g4⟩, g5⟩, g6⟩ := h5
  simp [Cond.before, Cond.holds, Cond.value, h1, h2, h3, h4, g1, g2, g3, g4, g5, g6]
def isCode : Jvm.Cond → Bool
  | .code _ _ _ _ => true
  | _ => false
theorem all_split {L : List Jvm.Cond} {P : Jvm.Cond → Bool} (h1 : L.all (fun c => isCode c || P c) = true) (h2 : ∀ c ∈ L.filter isCode, P c = true) : L.all P = true := by
  refine List.all_eq_true.mpr fun c hc => ?_
  have h := List.all_eq_true.mp h1 c hc
  rcases Bool.eq_false_or_eq_true (isCode c) with hi | hi
  · exact h2 c (List.mem_filter.mpr ⟨hc, hi⟩)
  · simpa [hi] using h
set_option maxRecDepth 65536 in
theorem w_c0 : (Jvm.Cond.code x code maxLocals ret).before args0 about1 = true := code_word (m := ⟨1, 4⟩) (meth := k1m4) (c := k1c4) (by decide +kernel) rfl rfl rfl (by decide +kernel)
set_option maxRecDepth 65536 in
theorem w_c1 : (Jvm.Cond.code ({ cls := "com/example/shelfmark/shelfmark/impl/Utf8CharCountPinLaw", name := "codePoint", desc := "(I)I" } : Jvm.MethodName) method_2_code (4 : Nat) (Option.some Jvm.ClassFile.FieldType.int)).before args0 about1 = true := code_word (m := ⟨1, 1⟩) (meth := k1m1) (c := k1c1) (by decide +kernel) rfl rfl rfl (by decide +kernel)
set_option maxRecDepth 65536 in
theorem w_c2 : (Jvm.Cond.code ({ cls := "com/example/shelfmark/shelfmark/impl/Utf8", name := "charCount", desc := "([BII)I" } : Jvm.MethodName) prog_88_method_7_code (5 : Nat) (Option.some Jvm.ClassFile.FieldType.int)).before args0 about1 = true := code_word (m := ⟨2, 1⟩) (meth := k2m1) (c := k2c1) (by decide +kernel) rfl rfl rfl (by decide +kernel)
set_option maxRecDepth 65536 in
theorem w_c3 : (Jvm.Cond.code ({ cls := "com/example/shelfmark/shelfmark/impl/Utf8CharCountPinLaw", name := "encode", desc := "([BII)I" } : Jvm.MethodName) method_3_code (3 : Nat) (Option.some Jvm.ClassFile.FieldType.int)).before args0 about1 = true := code_word (m := ⟨1, 2⟩) (meth := k1m2) (c := k1c2) (by decide +kernel) rfl rfl rfl (by decide +kernel)
set_option maxRecDepth 65536 in
theorem w_c4 : (Jvm.Cond.code ({ cls := "com/example/shelfmark/shelfmark/impl/Utf8CharCountPinLaw", name := "chars", desc := "(I)I" } : Jvm.MethodName) method_4_code (1 : Nat) (Option.some Jvm.ClassFile.FieldType.int)).before args0 about1 = true := code_word (m := ⟨1, 3⟩) (meth := k1m3) (c := k1c3) (by decide +kernel) rfl rfl rfl (by decide +kernel)
def codes1 : List Jvm.Cond := [Jvm.Cond.code x code maxLocals ret, Jvm.Cond.code ({ cls := "com/example/shelfmark/shelfmark/impl/Utf8CharCountPinLaw", name := "codePoint", desc := "(I)I" } : Jvm.MethodName) method_2_code (4 : Nat) (Option.some Jvm.ClassFile.FieldType.int), Jvm.Cond.code ({ cls := "com/example/shelfmark/shelfmark/impl/Utf8", name := "charCount", desc := "([BII)I" } : Jvm.MethodName) prog_88_method_7_code (5 : Nat) (Option.some Jvm.ClassFile.FieldType.int), Jvm.Cond.code ({ cls := "com/example/shelfmark/shelfmark/impl/Utf8CharCountPinLaw", name := "encode", desc := "([BII)I" } : Jvm.MethodName) method_3_code (3 : Nat) (Option.some Jvm.ClassFile.FieldType.int), Jvm.Cond.code ({ cls := "com/example/shelfmark/shelfmark/impl/Utf8CharCountPinLaw", name := "chars", desc := "(I)I" } : Jvm.MethodName) method_4_code (1 : Nat) (Option.some Jvm.ClassFile.FieldType.int)]
set_option maxRecDepth 65536 in
theorem codes_eq : words1.filter isCode = codes1 := rfl
theorem w_codes : ∀ c ∈ words1.filter isCode, c.before args0 about1 = true := by
  rw [codes_eq]
  intro c hc
  simp only [codes1, List.mem_cons, List.not_mem_nil, or_false] at hc
  rcases hc with rfl | rfl | rfl | rfl | rfl
  · exact w_c0
  · exact w_c1
  · exact w_c2
  · exact w_c3
  · exact w_c4
set_option maxRecDepth 65536 in
theorem w_t1 : words1.all (fun c => isCode c || c.before args0 about1) = true := by decide +kernel
theorem w_tables : (allAtoms (Jvm.Cond.code x code maxLocals ret :: tables_1)).before args0 about1 = true := by
  rw [allAtoms_all]
  show words1.all (fun c => c.before args0 about1) = true
  refine all_split ?_ w_codes
  rw [w_t1]
set_option maxRecDepth 65536 in
theorem w_case : (Jvm.Cond.and given_1 narrow_1).before args0 about1 = true := by decide +kernel
theorem w_applies : (headSpec (Jvm.Cond.code x code maxLocals ret :: tables_1) room_1).applies x e0.platform about1 = true :=
  (Spec.applies_iff w_frames).mpr ⟨w_running, w_runnable, w_alone, w_named, w_hears, w_ripe, w_room, w_tables⟩
theorem atStart : AtStart classFile x code maxLocals ret World_1 tables_1 room_1 Calls_1 rest_1 Pre_1 launch0 p0 e0 about1 theMethod args0 below0 :=
  ⟨lists_1, trivial, launch0.admits_env _ _ _, launch0.least_env, fairChoices_fair.cas, fairChoices_fair.clock, w_frames, w_args, w_heap, w_applies, trivial, trivial, w_case⟩
end start1
theorem witness_1 : WitnessClaimed_1 := ⟨start1.p0, start1.e0, start1.about1, start1.theMethod, start1.args0, start1.below0, start1.atStart⟩
end Jvm.Pilot.@@N@@
