import JvmDerived
import JvmDerived.Pilot.@@N@@Statement
import JvmDerived.Pilot.@@N@@Code
set_option linter.unusedVariables false
set_option linter.unusedSimpArgs false
namespace Jvm.Pilot.@@N@@
open Jvm Jvm.ClassFile Sem Op Lib Jvm.Free Jvm.Stand Jvm.LawKit Jvm.RoadKit Bundle Jvm.Pilot.@@N@@.Jvm.D
/-- where the walk of one body stands, and what it knows throughout -/
def own_S (p : Program) (l : Launch) (e : Env) (R : Room) (s : State) (m : MethodId) (av : Array Value) (below : List Frame) (meth : Method) (c : Code) (Z : State) (y : MethodName) (co : ByteArray) (ml : Nat) (rt : Option FieldType) (n0 : Nat) (T : State) (ce sl : Nat) (h : Heap) : Prop :=
  (p.tables.exec = Jvm.exec ∧ c.code = co ∧ c.maxLocals = ml ∧ s.vm.findClass y.cls = some m.cls ∧ meth.name = y.name ∧ meth.sig.returnType = rt ∧ meth.locks = false ∧ Z.Warmed39 s.vm) ∧
  ∃ locs, Stand p l e R s m av below meth c T locs ce sl ∧ Fr n0 locs ∧ T.heap = h ∧ n0 ≤ s.heap.size
/-- from T at the frame g the run comes to a return of which Q holds -/
def own_Fin (p : Program) (e : Env) (below : List Frame) (s : State) (n0 : Nat) (Q : Option Value → Heap → Prop) (k n : Nat) (T : State) (g : JFrame) : Prop :=
  ∃ t o, Steps p.tables e below (T.setTop g) t ∧ t.status = .running ∧ Ended t below o ∧ ∃ v L, o = .returned v ∧ (Fr n0 L ∧ Q v t.heap) ∧ FrameEnd s o t L k n
/-- a body's contract -/
def own_Met (l : Launch) (Z : State) (y : MethodName) (co : ByteArray) (ml : Nat) (rt : Option FieldType) (ws : List Jvm.Cond) (rm : Room) (av : Array Value) (h0 : Heap) (n0 : Nat) (Q : Option Value → Heap → Prop) : Prop :=
  MetFree l y (head1 (Jvm.Cond.code y co ml rt :: ws) rm) (fun a U => a = av ∧ Z.Warmed39 U.vm ∧ U.heap = h0) (fun _ _ _ _ _ => True) (fun _ U o U' => ∃ v L, o = .returned v ∧ (Fr n0 L ∧ Q v U'.heap) ∧ FrameEnd U o U' L rm.cells rm.slots)
section Own
variable {p : Program} {l : Launch} {e : Env} {R : Room} {s : State} {m : MethodId} {av : Array Value} {below : List Frame} {meth : Method} {c : Code} {Z : State} {y : MethodName} {co : ByteArray} {ml : Nat} {rt : Option FieldType} {n0 : Nat} {T : State} {ce sl : Nat} {h : Heap} {Q : Option Value → Heap → Prop} {k n : Nat} {a0 : Array Value} {pc : Nat} {Ls : Array Slot} {st : List Value}
theorem own_met {ws : List Jvm.Cond} {rm : Room} {h0 : Heap} (hp : plainFor y = true) (hn : n0 ≤ h0.size)
    (H : ∀ (p : Program) (e : Env) (s : State) (m : MethodId) (below : List Frame) (meth : Method) (c : Code) (T : State), own_S p l e rm s m av below meth c Z y co ml rt n0 T 0 0 h0 → own_Fin p e below s n0 Q rm.cells rm.slots T (entryFrame m av ml)) : own_Met l Z y co ml rt ws rm av h0 n0 Q := by
  refine MetFree.of_bodySF hp hisR ?_
  intro p e s m args below meth c s₁ Bd hml0 hP hK
  obtain ⟨rfl, hZ, hh⟩ := hP
  have e0 : s₁.heap = h0 := by rw [← hh, Bd.state]; rfl
  exact H p e s m below meth c s₁ ⟨⟨Bd.exec, Bd.bytes, hml0, findClass_of_methodNamed Bd.named, (name_of_methodNamed Bd.named Bd.method).1, Bd.returns, BodyLoose.notSynchronized Bd, hZ⟩, [], Stand.of_body Bd, Fr.nil n0, e0, by rw [hh]; exact hn⟩
theorem own_go {T T' : State} {g g' : JFrame} (st : ∀ target, Steps p.tables e below (T'.setTop g') target → Steps p.tables e below (T.setTop g) target) (H : own_Fin p e below s n0 Q k n T' g') : own_Fin p e below s n0 Q k n T g := by
  obtain ⟨t, o, h1, r⟩ := H
  exact ⟨t, o, st t h1, r⟩
theorem own_goT {T T' : State} {g g' : JFrame} (st : Steps p.tables e below (T.setTop g) (T'.setTop g')) (H : own_Fin p e below s n0 Q k n T' g') : own_Fin p e below s n0 Q k n T g := by
  obtain ⟨t, o, h1, r⟩ := H
  exact ⟨t, o, st.trans h1, r⟩
theorem own_cast {g g' : JFrame} (q : g = g') (H : own_Fin p e below s n0 Q k n T g') : own_Fin p e below s n0 Q k n T g := q ▸ H
theorem own_size (X : own_S p l e R s m av below meth c Z y co ml rt n0 T ce sl h) : n0 ≤ h.size := by
  obtain ⟨-, locs, X, -, rfl, hn⟩ := X
  exact Nat.le_trans hn X.same.2.1
theorem own_wider (X : own_S p l e R s m av below meth c Z y co ml rt n0 T ce sl h) {ce' sl' : Nat} (h1 : ce ≤ ce') (h2 : sl ≤ sl') : own_S p l e R s m av below meth c Z y co ml rt n0 T ce' sl' h := by
  obtain ⟨C, locs, X, r⟩ := X
  exact ⟨C, locs, X.more h1 h2, r⟩
/-- numbers: from Int to the ints' own order -/
theorem own_cLt {x y : Int32} {a b : Int} (hx : x.toInt = a) (hy : y.toInt = b) (q : a < b) : x < y := by rw [Int32.lt_iff_toInt_lt, hx, hy]; exact q
theorem own_cGe {x y : Int32} {a b : Int} (hx : x.toInt = a) (hy : y.toInt = b) (q : ¬ a < b) : ¬ x < y := by rw [Int32.lt_iff_toInt_lt, hx, hy]; exact q
theorem own_cEq {x y : Int32} {a b : Int} (hx : x.toInt = a) (hy : y.toInt = b) (q : a = b) : x = y := Int32.toInt_inj.mp (by rw [hx, hy]; exact q)
theorem own_cNe {x y : Int32} {a b : Int} (hx : x.toInt = a) (hy : y.toInt = b) (q : ¬ a = b) : ¬ x = y := fun r => q (by rw [← hx, ← hy, r])
theorem own_cEqJ {x y : Int64} {a b : Int} (hx : x.toInt = a) (hy : y.toInt = b) (q : a = b) : x = y := Int64.toInt_inj.mp (by rw [hx, hy]; exact q)
theorem own_nzI {y : Int32} (q : y.toInt ≠ 0) : y ≠ 0 := fun r => q (by rw [r]; rfl)
theorem own_nzJ {y : Int64} (q : y.toInt ≠ 0) : y ≠ 0 := fun r => q (by rw [r]; rfl)
theorem own_lLt {x y : Int64} {a b : Int} (hx : x.toInt = a) (hy : y.toInt = b) (q : a < b) : lcmpW x y < 0 := (lw_lt x y).mpr (by rw [Int64.lt_iff_toInt_lt, hx, hy]; exact q)
theorem own_lGe {x y : Int64} {a b : Int} (hx : x.toInt = a) (hy : y.toInt = b) (q : ¬ a < b) : ¬ lcmpW x y < 0 := fun r => q (by have := (lw_lt x y).mp r; rw [Int64.lt_iff_toInt_lt, hx, hy] at this; exact this)
theorem own_lGt {x y : Int64} {a b : Int} (hx : x.toInt = a) (hy : y.toInt = b) (q : b < a) : 0 < lcmpW x y := (lw_gt x y).mpr (by rw [Int64.lt_iff_toInt_lt, hx, hy]; exact q)
theorem own_lLe {x y : Int64} {a b : Int} (hx : x.toInt = a) (hy : y.toInt = b) (q : ¬ b < a) : ¬ 0 < lcmpW x y := fun r => q (by have := (lw_gt x y).mp r; rw [Int64.lt_iff_toInt_lt, hx, hy] at this; exact this)
theorem own_lEq {x y : Int64} {a b : Int} (hx : x.toInt = a) (hy : y.toInt = b) (q : a = b) : lcmpW x y = 0 := (lw_eq x y).mpr (Int64.toInt_inj.mp (by rw [hx, hy]; exact q))
theorem own_lNe {x y : Int64} {a b : Int} (hx : x.toInt = a) (hy : y.toInt = b) (q : ¬ a = b) : ¬ lcmpW x y = 0 := fun r => q (by rw [← hx, ← hy, (lw_eq x y).mp r])
theorem own_emod_le {a b : Int} (h1 : 0 ≤ a) (h2 : 0 < b) : a % b ≤ a := by
  by_cases q : a < b
  · rw [Int.emod_eq_of_lt h1 q]; omega
  · have := Int.emod_lt_of_pos a h2; omega
theorem own_i2b2 (x : Int32) : x.toInt8.toInt32.toInt8.toInt32 = x.toInt8.toInt32 := by
  have h1 := c_i2b x
  have h2 := c_i2b x.toInt8.toInt32
  apply Int32.toInt_inj.mp; omega
theorem own_and1 (x : Int32) (h : x = 0 ∨ x = 1) : x &&& 1 = x := by rcases h with rfl | rfl <;> rfl
theorem own_aloadN (X : own_S p l e R s m av below meth c Z y co ml rt n0 T ce sl h) {i : Fin 4} {v : Value} (hd : decode co pc = .ok (.aload_n i, 1)) (hl : Ls[i.val]? = some (.val v)) (hv : v.isRef = true) (H : own_Fin p e below s n0 Q k n T (mkF m (pc + 1) Ls (v :: st))) : own_Fin p e below s n0 Q k n T (mkF m pc Ls (st)) := by
  obtain ⟨⟨hx, hby, -⟩, locs, X, -⟩ := X
  exact own_go (fun _ q => XS.aloadN X.here hx rfl (hb hby hd) hl hv q) H
theorem own_aload (X : own_S p l e R s m av below meth c Z y co ml rt n0 T ce sl h) {i : Nat} {v : Value} (hd : decode co pc = .ok (.aload i, 2)) (hl : Ls[i]? = some (.val v)) (hv : v.isRef = true) (H : own_Fin p e below s n0 Q k n T (mkF m (pc + 2) Ls (v :: st))) : own_Fin p e below s n0 Q k n T (mkF m pc Ls (st)) := by
  obtain ⟨⟨hx, hby, -⟩, locs, X, -⟩ := X
  exact own_go (fun _ q => XS.aload X.here hx rfl (hb hby hd) hl hv q) H
theorem own_iloadN (X : own_S p l e R s m av below meth c Z y co ml rt n0 T ce sl h) {i : Fin 4} {v : Int32} (hd : decode co pc = .ok (.iload_n i, 1)) (hl : Ls[i.val]? = some (.val (.int v))) (H : own_Fin p e below s n0 Q k n T (mkF m (pc + 1) Ls (.int v :: st))) : own_Fin p e below s n0 Q k n T (mkF m pc Ls (st)) := by
  obtain ⟨⟨hx, hby, -⟩, locs, X, -⟩ := X
  exact own_go (fun _ q => XS.iloadN X.here hx rfl (hb hby hd) hl q) H
theorem own_iload (X : own_S p l e R s m av below meth c Z y co ml rt n0 T ce sl h) {i : Nat} {v : Int32} (hd : decode co pc = .ok (.iload i, 2)) (hl : Ls[i]? = some (.val (.int v))) (H : own_Fin p e below s n0 Q k n T (mkF m (pc + 2) Ls (.int v :: st))) : own_Fin p e below s n0 Q k n T (mkF m pc Ls (st)) := by
  obtain ⟨⟨hx, hby, -⟩, locs, X, -⟩ := X
  exact own_go (fun _ q => XS.iload X.here hx rfl (hb hby hd) hl q) H
theorem own_lloadN (X : own_S p l e R s m av below meth c Z y co ml rt n0 T ce sl h) {i : Fin 4} {v : Int64} (hd : decode co pc = .ok (.lload_n i, 1)) (hl : Ls[i.val]? = some (.val (.long v))) (H : own_Fin p e below s n0 Q k n T (mkF m (pc + 1) Ls (.long v :: st))) : own_Fin p e below s n0 Q k n T (mkF m pc Ls (st)) := by
  obtain ⟨⟨hx, hby, -⟩, locs, X, -⟩ := X
  exact own_go (fun _ q => XS.lloadN X.here hx rfl (hb hby hd) hl q) H
theorem own_lload (X : own_S p l e R s m av below meth c Z y co ml rt n0 T ce sl h) {i : Nat} {v : Int64} (hd : decode co pc = .ok (.lload i, 2)) (hl : Ls[i]? = some (.val (.long v))) (H : own_Fin p e below s n0 Q k n T (mkF m (pc + 2) Ls (.long v :: st))) : own_Fin p e below s n0 Q k n T (mkF m pc Ls (st)) := by
  obtain ⟨⟨hx, hby, -⟩, locs, X, -⟩ := X
  exact own_go (fun _ q => XS.lload X.here hx rfl (hb hby hd) hl q) H
theorem own_istoreN (X : own_S p l e R s m av below meth c Z y co ml rt n0 T ce sl h) {i : Fin 4} {v : Int32} {L' : Array Slot} (hd : decode co pc = .ok (.istore_n i, 1)) (hl : storeLocals Ls i.val (.int v) = some L') (H : own_Fin p e below s n0 Q k n T (mkF m (pc + 1) L' (st))) : own_Fin p e below s n0 Q k n T (mkF m pc Ls (.int v :: st)) := by
  obtain ⟨⟨hx, hby, -⟩, locs, X, -⟩ := X
  exact own_go (fun _ q => XS.istoreN X.here hx rfl (hb hby hd) rfl hl q) H
theorem own_istore (X : own_S p l e R s m av below meth c Z y co ml rt n0 T ce sl h) {i : Nat} {v : Int32} {L' : Array Slot} (hd : decode co pc = .ok (.istore i, 2)) (hl : storeLocals Ls i (.int v) = some L') (H : own_Fin p e below s n0 Q k n T (mkF m (pc + 2) L' (st))) : own_Fin p e below s n0 Q k n T (mkF m pc Ls (.int v :: st)) := by
  obtain ⟨⟨hx, hby, -⟩, locs, X, -⟩ := X
  exact own_go (fun _ q => XS.istore X.here hx rfl (hb hby hd) rfl hl q) H
theorem own_lstoreN (X : own_S p l e R s m av below meth c Z y co ml rt n0 T ce sl h) {i : Fin 4} {v : Int64} {L' : Array Slot} (hd : decode co pc = .ok (.lstore_n i, 1)) (hl : storeLocals Ls i.val (.long v) = some L') (H : own_Fin p e below s n0 Q k n T (mkF m (pc + 1) L' (st))) : own_Fin p e below s n0 Q k n T (mkF m pc Ls (.long v :: st)) := by
  obtain ⟨⟨hx, hby, -⟩, locs, X, -⟩ := X
  exact own_go (fun _ q => XS.lstoreN X.here hx rfl (hb hby hd) rfl hl q) H
theorem own_lstore (X : own_S p l e R s m av below meth c Z y co ml rt n0 T ce sl h) {i : Nat} {v : Int64} {L' : Array Slot} (hd : decode co pc = .ok (.lstore i, 2)) (hl : storeLocals Ls i (.long v) = some L') (H : own_Fin p e below s n0 Q k n T (mkF m (pc + 2) L' (st))) : own_Fin p e below s n0 Q k n T (mkF m pc Ls (.long v :: st)) := by
  obtain ⟨⟨hx, hby, -⟩, locs, X, -⟩ := X
  exact own_go (fun _ q => XS.lstore X.here hx rfl (hb hby hd) rfl hl q) H
theorem own_astoreN (X : own_S p l e R s m av below meth c Z y co ml rt n0 T ce sl h) {i : Fin 4} {v : Value} {L' : Array Slot} (hd : decode co pc = .ok (.astore_n i, 1)) (hv : v.isRef = true) (hl : storeLocals Ls i.val v = some L') (H : own_Fin p e below s n0 Q k n T (mkF m (pc + 1) L' (st))) : own_Fin p e below s n0 Q k n T (mkF m pc Ls (v :: st)) := by
  obtain ⟨⟨hx, hby, -⟩, locs, X, -⟩ := X
  exact own_go (fun _ q => XS.astoreN X.here hx rfl (hb hby hd) rfl hv hl q) H
theorem own_astore (X : own_S p l e R s m av below meth c Z y co ml rt n0 T ce sl h) {i : Nat} {v : Value} {L' : Array Slot} (hd : decode co pc = .ok (.astore i, 2)) (hv : v.isRef = true) (hl : storeLocals Ls i v = some L') (H : own_Fin p e below s n0 Q k n T (mkF m (pc + 2) L' (st))) : own_Fin p e below s n0 Q k n T (mkF m pc Ls (v :: st)) := by
  obtain ⟨⟨hx, hby, -⟩, locs, X, -⟩ := X
  exact own_go (fun _ q => XS.astore X.here hx rfl (hb hby hd) rfl hv hl q) H
theorem own_iconst (X : own_S p l e R s m av below meth c Z y co ml rt n0 T ce sl h) {i : Int} (z : Int32) (hd : decode co pc = .ok (.iconst i, 1)) (hz : Int32.ofInt i = z) (H : own_Fin p e below s n0 Q k n T (mkF m (pc + 1) Ls (.int z :: st))) : own_Fin p e below s n0 Q k n T (mkF m pc Ls (st)) := by
  obtain ⟨⟨hx, hby, -⟩, locs, X, -⟩ := X
  exact own_go (fun _ q => XS.iconst X.here hx rfl (hb hby hd) (by rw [hz]; exact q)) H
theorem own_bipush (X : own_S p l e R s m av below meth c Z y co ml rt n0 T ce sl h) {i : Int} (z : Int32) (hd : decode co pc = .ok (.bipush i, 2)) (hz : (Int8.ofInt i).toInt32 = z) (H : own_Fin p e below s n0 Q k n T (mkF m (pc + 2) Ls (.int z :: st))) : own_Fin p e below s n0 Q k n T (mkF m pc Ls (st)) := by
  obtain ⟨⟨hx, hby, -⟩, locs, X, -⟩ := X
  exact own_go (fun _ q => XS.bipush X.here hx rfl (hb hby hd) (by rw [hz]; exact q)) H
theorem own_sipush (X : own_S p l e R s m av below meth c Z y co ml rt n0 T ce sl h) {i : Int} (z : Int32) (hd : decode co pc = .ok (.sipush i, 3)) (hz : (Int16.ofInt i).toInt32 = z) (H : own_Fin p e below s n0 Q k n T (mkF m (pc + 3) Ls (.int z :: st))) : own_Fin p e below s n0 Q k n T (mkF m pc Ls (st)) := by
  obtain ⟨⟨hx, hby, -⟩, locs, X, -⟩ := X
  exact own_go (fun _ q => XS.sipush X.here hx rfl (hb hby hd) (by rw [hz]; exact q)) H
theorem own_lconst0 (X : own_S p l e R s m av below meth c Z y co ml rt n0 T ce sl h) (hd : decode co pc = .ok (.lconst 0, 1)) (H : own_Fin p e below s n0 Q k n T (mkF m (pc + 1) Ls (.long 0 :: st))) : own_Fin p e below s n0 Q k n T (mkF m pc Ls (st)) := by
  obtain ⟨⟨hx, hby, -⟩, locs, X, -⟩ := X
  exact own_go (fun _ q => XS.lconst X.here hx rfl (hb hby hd) q) H
theorem own_lconst1 (X : own_S p l e R s m av below meth c Z y co ml rt n0 T ce sl h) (hd : decode co pc = .ok (.lconst 1, 1)) (H : own_Fin p e below s n0 Q k n T (mkF m (pc + 1) Ls (.long 1 :: st))) : own_Fin p e below s n0 Q k n T (mkF m pc Ls (st)) := by
  obtain ⟨⟨hx, hby, -⟩, locs, X, -⟩ := X
  exact own_go (fun _ q => XS.lconst X.here hx rfl (hb hby hd) q) H
theorem own_aconstNull (X : own_S p l e R s m av below meth c Z y co ml rt n0 T ce sl h) (hd : decode co pc = .ok (.aconst_null, 1)) (H : own_Fin p e below s n0 Q k n T (mkF m (pc + 1) Ls (.null :: st))) : own_Fin p e below s n0 Q k n T (mkF m pc Ls (st)) := by
  obtain ⟨⟨hx, hby, -⟩, locs, X, -⟩ := X
  exact own_go (fun _ q => XS.aconstNull X.here hx rfl (hb hby hd) q) H
theorem own_iaddE (X : own_S p l e R s m av below meth c Z y co ml rt n0 T ce sl h) {x : Int32} {y' : Int32} (hd : decode co pc = .ok (.iadd, 1)) (z : Int32) (hz : x + y' = z) (H : own_Fin p e below s n0 Q k n T (mkF m (pc + 1) Ls (.int z :: st))) : own_Fin p e below s n0 Q k n T (mkF m pc Ls (.int y' :: .int x :: st)) := by
  subst hz
  obtain ⟨⟨hx, hby, -⟩, locs, X, -⟩ := X
  exact own_go (fun _ q => XS.iadd X.here hx rfl (hb hby hd) rfl q) H
theorem own_iaddV (X : own_S p l e R s m av below meth c Z y co ml rt n0 T ce sl h) {x : Int32} {y' : Int32} (a b : Int) (hd : decode co pc = .ok (.iadd, 1)) (hxa : x.toInt = a) (hyb : y'.toInt = b) (H : ∀ v : Int32, x + y' = v → (v.toInt - (a + b)) % 4294967296 = 0 → -2147483648 ≤ v.toInt → v.toInt < 2147483648 → own_Fin p e below s n0 Q k n T (mkF m (pc + 1) Ls (.int v :: st))) : own_Fin p e below s n0 Q k n T (mkF m pc Ls (.int y' :: .int x :: st)) := by
  exact own_iaddE X hd _ rfl (H _ rfl (by subst hxa hyb; exact c_iadd x y') (rng32 _).1 (rng32 _).2)
theorem own_isubE (X : own_S p l e R s m av below meth c Z y co ml rt n0 T ce sl h) {x : Int32} {y' : Int32} (hd : decode co pc = .ok (.isub, 1)) (z : Int32) (hz : x - y' = z) (H : own_Fin p e below s n0 Q k n T (mkF m (pc + 1) Ls (.int z :: st))) : own_Fin p e below s n0 Q k n T (mkF m pc Ls (.int y' :: .int x :: st)) := by
  subst hz
  obtain ⟨⟨hx, hby, -⟩, locs, X, -⟩ := X
  exact own_go (fun _ q => XS.isub X.here hx rfl (hb hby hd) rfl q) H
theorem own_isubV (X : own_S p l e R s m av below meth c Z y co ml rt n0 T ce sl h) {x : Int32} {y' : Int32} (a b : Int) (hd : decode co pc = .ok (.isub, 1)) (hxa : x.toInt = a) (hyb : y'.toInt = b) (H : ∀ v : Int32, x - y' = v → (v.toInt - (a - b)) % 4294967296 = 0 → -2147483648 ≤ v.toInt → v.toInt < 2147483648 → own_Fin p e below s n0 Q k n T (mkF m (pc + 1) Ls (.int v :: st))) : own_Fin p e below s n0 Q k n T (mkF m pc Ls (.int y' :: .int x :: st)) := by
  exact own_isubE X hd _ rfl (H _ rfl (by subst hxa hyb; exact c_isub x y') (rng32 _).1 (rng32 _).2)
theorem own_imulE (X : own_S p l e R s m av below meth c Z y co ml rt n0 T ce sl h) {x : Int32} {y' : Int32} (hd : decode co pc = .ok (.imul, 1)) (z : Int32) (hz : x * y' = z) (H : own_Fin p e below s n0 Q k n T (mkF m (pc + 1) Ls (.int z :: st))) : own_Fin p e below s n0 Q k n T (mkF m pc Ls (.int y' :: .int x :: st)) := by
  subst hz
  obtain ⟨⟨hx, hby, -⟩, locs, X, -⟩ := X
  exact own_go (fun _ q => XS.imul X.here hx rfl (hb hby hd) rfl q) H
theorem own_imulV (X : own_S p l e R s m av below meth c Z y co ml rt n0 T ce sl h) {x : Int32} {y' : Int32} (a b : Int) (hd : decode co pc = .ok (.imul, 1)) (hxa : x.toInt = a) (hyb : y'.toInt = b) (H : ∀ v : Int32, x * y' = v → (v.toInt - (a * b)) % 4294967296 = 0 → -2147483648 ≤ v.toInt → v.toInt < 2147483648 → own_Fin p e below s n0 Q k n T (mkF m (pc + 1) Ls (.int v :: st))) : own_Fin p e below s n0 Q k n T (mkF m pc Ls (.int y' :: .int x :: st)) := by
  exact own_imulE X hd _ rfl (H _ rfl (by subst hxa hyb; exact c_imul x y') (rng32 _).1 (rng32 _).2)
theorem own_iandE (X : own_S p l e R s m av below meth c Z y co ml rt n0 T ce sl h) {x : Int32} {y' : Int32} (hd : decode co pc = .ok (.iand, 1)) (z : Int32) (hz : x &&& y' = z) (H : own_Fin p e below s n0 Q k n T (mkF m (pc + 1) Ls (.int z :: st))) : own_Fin p e below s n0 Q k n T (mkF m pc Ls (.int y' :: .int x :: st)) := by
  subst hz
  obtain ⟨⟨hx, hby, -⟩, locs, X, -⟩ := X
  exact own_go (fun _ q => XS.iand X.here hx rfl (hb hby hd) rfl q) H
theorem own_iandV (X : own_S p l e R s m av below meth c Z y co ml rt n0 T ce sl h) {x : Int32} {y' : Int32}  (hd : decode co pc = .ok (.iand, 1))  (H : ∀ v : Int32, x &&& y' = v → -2147483648 ≤ v.toInt → v.toInt < 2147483648 → own_Fin p e below s n0 Q k n T (mkF m (pc + 1) Ls (.int v :: st))) : own_Fin p e below s n0 Q k n T (mkF m pc Ls (.int y' :: .int x :: st)) := by
  exact own_iandE X hd _ rfl (H _ rfl (rng32 _).1 (rng32 _).2)
theorem own_iandM (X : own_S p l e R s m av below meth c Z y co ml rt n0 T ce sl h) {x : Int32} {y' : Int32} (a : Int) (kk : Nat) (P : Int) (hd : decode co pc = .ok (.iand, 1)) (hxa : x.toInt = a) (hk : kk ≤ 31) (hm : y'.toBitVec.toNat = 2 ^ kk - 1) (hP : ((2 ^ kk : Nat) : Int) = P) (H : ∀ v : Int32, x &&& y' = v → v.toInt = a % P → -2147483648 ≤ v.toInt → v.toInt < 2147483648 → own_Fin p e below s n0 Q k n T (mkF m (pc + 1) Ls (.int v :: st))) : own_Fin p e below s n0 Q k n T (mkF m pc Ls (.int y' :: .int x :: st)) := by
  exact own_iandE X hd _ rfl (H _ rfl (by subst hxa hP; exact c_mask x y' kk hk hm) (rng32 _).1 (rng32 _).2)
theorem own_iandB (X : own_S p l e R s m av below meth c Z y co ml rt n0 T ce sl h) {x : Int32} {y' : Int32} (b : Int) (hd : decode co pc = .ok (.iand, 1)) (hyb : y'.toInt = b) (hb0 : 0 ≤ b) (H : ∀ v : Int32, x &&& y' = v → 0 ≤ v.toInt ∧ v.toInt ≤ b → -2147483648 ≤ v.toInt → v.toInt < 2147483648 → own_Fin p e below s n0 Q k n T (mkF m (pc + 1) Ls (.int v :: st))) : own_Fin p e below s n0 Q k n T (mkF m pc Ls (.int y' :: .int x :: st)) := by
  exact own_iandE X hd _ rfl (H _ rfl (by subst hyb; exact c_and x y' hb0) (rng32 _).1 (rng32 _).2)
theorem own_iorE (X : own_S p l e R s m av below meth c Z y co ml rt n0 T ce sl h) {x : Int32} {y' : Int32} (hd : decode co pc = .ok (.ior, 1)) (z : Int32) (hz : x ||| y' = z) (H : own_Fin p e below s n0 Q k n T (mkF m (pc + 1) Ls (.int z :: st))) : own_Fin p e below s n0 Q k n T (mkF m pc Ls (.int y' :: .int x :: st)) := by
  subst hz
  obtain ⟨⟨hx, hby, -⟩, locs, X, -⟩ := X
  exact own_go (fun _ q => XS.ior X.here hx rfl (hb hby hd) rfl q) H
theorem own_iorV (X : own_S p l e R s m av below meth c Z y co ml rt n0 T ce sl h) {x : Int32} {y' : Int32}  (hd : decode co pc = .ok (.ior, 1))  (H : ∀ v : Int32, x ||| y' = v → -2147483648 ≤ v.toInt → v.toInt < 2147483648 → own_Fin p e below s n0 Q k n T (mkF m (pc + 1) Ls (.int v :: st))) : own_Fin p e below s n0 Q k n T (mkF m pc Ls (.int y' :: .int x :: st)) := by
  exact own_iorE X hd _ rfl (H _ rfl (rng32 _).1 (rng32 _).2)
theorem own_iorM (X : own_S p l e R s m av below meth c Z y co ml rt n0 T ce sl h) {x : Int32} {y' : Int32} (a b : Int) (kk : Nat) (P : Int) (hd : decode co pc = .ok (.ior, 1)) (hxa : x.toInt = a) (hyb : y'.toInt = b) (hk : kk ≤ 31) (hP : P = ((2 ^ kk : Nat) : Int)) (q1 : a % P = 0) (q2 : 0 ≤ b) (q3 : b < P) (H : ∀ v : Int32, x ||| y' = v → (v.toInt - (a + b)) % 4294967296 = 0 → -2147483648 ≤ v.toInt → v.toInt < 2147483648 → own_Fin p e below s n0 Q k n T (mkF m (pc + 1) Ls (.int v :: st))) : own_Fin p e below s n0 Q k n T (mkF m pc Ls (.int y' :: .int x :: st)) := by
  exact own_iorE X hd _ rfl (H _ rfl (by subst hxa hyb; exact c_or x y' kk hk P hP q1 q2 q3) (rng32 _).1 (rng32 _).2)
theorem own_iorR (X : own_S p l e R s m av below meth c Z y co ml rt n0 T ce sl h) {x : Int32} {y' : Int32} (a b : Int) (kk : Nat) (P : Int) (hd : decode co pc = .ok (.ior, 1)) (hxa : x.toInt = a) (hyb : y'.toInt = b) (hk : kk ≤ 31) (hP : P = ((2 ^ kk : Nat) : Int)) (q1 : b % P = 0) (q2 : 0 ≤ a) (q3 : a < P) (H : ∀ v : Int32, x ||| y' = v → (v.toInt - (a + b)) % 4294967296 = 0 → -2147483648 ≤ v.toInt → v.toInt < 2147483648 → own_Fin p e below s n0 Q k n T (mkF m (pc + 1) Ls (.int v :: st))) : own_Fin p e below s n0 Q k n T (mkF m pc Ls (.int y' :: .int x :: st)) := by
  exact own_iorE X hd _ rfl (H _ rfl (by subst hxa hyb; have q := c_or y' x kk hk P hP q1 q2 q3; rw [Int32.or_comm] at q; omega) (rng32 _).1 (rng32 _).2)
theorem own_ixorE (X : own_S p l e R s m av below meth c Z y co ml rt n0 T ce sl h) {x : Int32} {y' : Int32} (hd : decode co pc = .ok (.ixor, 1)) (z : Int32) (hz : x ^^^ y' = z) (H : own_Fin p e below s n0 Q k n T (mkF m (pc + 1) Ls (.int z :: st))) : own_Fin p e below s n0 Q k n T (mkF m pc Ls (.int y' :: .int x :: st)) := by
  subst hz
  obtain ⟨⟨hx, hby, -⟩, locs, X, -⟩ := X
  exact own_go (fun _ q => XS.ixor X.here hx rfl (hb hby hd) rfl q) H
theorem own_ixorV (X : own_S p l e R s m av below meth c Z y co ml rt n0 T ce sl h) {x : Int32} {y' : Int32}  (hd : decode co pc = .ok (.ixor, 1))  (H : ∀ v : Int32, x ^^^ y' = v → -2147483648 ≤ v.toInt → v.toInt < 2147483648 → own_Fin p e below s n0 Q k n T (mkF m (pc + 1) Ls (.int v :: st))) : own_Fin p e below s n0 Q k n T (mkF m pc Ls (.int y' :: .int x :: st)) := by
  exact own_ixorE X hd _ rfl (H _ rfl (rng32 _).1 (rng32 _).2)
theorem own_ishlE (X : own_S p l e R s m av below meth c Z y co ml rt n0 T ce sl h) {x : Int32} {y' : Int32} (hd : decode co pc = .ok (.ishl, 1)) (z : Int32) (hz : x <<< (y' &&& 31) = z) (H : own_Fin p e below s n0 Q k n T (mkF m (pc + 1) Ls (.int z :: st))) : own_Fin p e below s n0 Q k n T (mkF m pc Ls (.int y' :: .int x :: st)) := by
  subst hz
  obtain ⟨⟨hx, hby, -⟩, locs, X, -⟩ := X
  exact own_go (fun _ q => XS.ishl X.here hx rfl (hb hby hd) rfl q) H
theorem own_ishlV (X : own_S p l e R s m av below meth c Z y co ml rt n0 T ce sl h) {x : Int32} {y' : Int32}  (hd : decode co pc = .ok (.ishl, 1))  (H : ∀ v : Int32, x <<< (y' &&& 31) = v → -2147483648 ≤ v.toInt → v.toInt < 2147483648 → own_Fin p e below s n0 Q k n T (mkF m (pc + 1) Ls (.int v :: st))) : own_Fin p e below s n0 Q k n T (mkF m pc Ls (.int y' :: .int x :: st)) := by
  exact own_ishlE X hd _ rfl (H _ rfl (rng32 _).1 (rng32 _).2)
theorem own_ishlK (X : own_S p l e R s m av below meth c Z y co ml rt n0 T ce sl h) {x : Int32} {y' : Int32} (a : Int) (kk : Nat) (P : Int) (hd : decode co pc = .ok (.ishl, 1)) (hxa : x.toInt = a) (hk : y'.toBitVec.toNat % 32 = kk) (hP : ((2 ^ kk : Nat) : Int) = P) (H : ∀ v : Int32, x <<< (y' &&& 31) = v → (v.toInt - a * P) % 4294967296 = 0 → -2147483648 ≤ v.toInt → v.toInt < 2147483648 → own_Fin p e below s n0 Q k n T (mkF m (pc + 1) Ls (.int v :: st))) : own_Fin p e below s n0 Q k n T (mkF m pc Ls (.int y' :: .int x :: st)) := by
  exact own_ishlE X hd _ rfl (H _ rfl (by subst hxa hP; exact c_ishl x y' kk hk) (rng32 _).1 (rng32 _).2)
theorem own_ishrE (X : own_S p l e R s m av below meth c Z y co ml rt n0 T ce sl h) {x : Int32} {y' : Int32} (hd : decode co pc = .ok (.ishr, 1)) (z : Int32) (hz : x >>> (y' &&& 31) = z) (H : own_Fin p e below s n0 Q k n T (mkF m (pc + 1) Ls (.int z :: st))) : own_Fin p e below s n0 Q k n T (mkF m pc Ls (.int y' :: .int x :: st)) := by
  subst hz
  obtain ⟨⟨hx, hby, -⟩, locs, X, -⟩ := X
  exact own_go (fun _ q => XS.ishr X.here hx rfl (hb hby hd) rfl q) H
theorem own_ishrV (X : own_S p l e R s m av below meth c Z y co ml rt n0 T ce sl h) {x : Int32} {y' : Int32}  (hd : decode co pc = .ok (.ishr, 1))  (H : ∀ v : Int32, x >>> (y' &&& 31) = v → -2147483648 ≤ v.toInt → v.toInt < 2147483648 → own_Fin p e below s n0 Q k n T (mkF m (pc + 1) Ls (.int v :: st))) : own_Fin p e below s n0 Q k n T (mkF m pc Ls (.int y' :: .int x :: st)) := by
  exact own_ishrE X hd _ rfl (H _ rfl (rng32 _).1 (rng32 _).2)
theorem own_ishrK (X : own_S p l e R s m av below meth c Z y co ml rt n0 T ce sl h) {x : Int32} {y' : Int32} (a : Int) (kk : Nat) (P : Int) (hd : decode co pc = .ok (.ishr, 1)) (hxa : x.toInt = a) (hk : y'.toBitVec.toNat % 32 = kk) (hP : ((2 ^ kk : Nat) : Int) = P) (H : ∀ v : Int32, x >>> (y' &&& 31) = v → v.toInt = a / P → -2147483648 ≤ v.toInt → v.toInt < 2147483648 → own_Fin p e below s n0 Q k n T (mkF m (pc + 1) Ls (.int v :: st))) : own_Fin p e below s n0 Q k n T (mkF m pc Ls (.int y' :: .int x :: st)) := by
  exact own_ishrE X hd _ rfl (H _ rfl (by subst hxa hP; exact c_ishr x y' kk hk) (rng32 _).1 (rng32 _).2)
theorem own_iushrE (X : own_S p l e R s m av below meth c Z y co ml rt n0 T ce sl h) {x : Int32} {y' : Int32} (hd : decode co pc = .ok (.iushr, 1)) (z : Int32) (hz : (x.toUInt32 >>> (y' &&& 31).toUInt32).toInt32 = z) (H : own_Fin p e below s n0 Q k n T (mkF m (pc + 1) Ls (.int z :: st))) : own_Fin p e below s n0 Q k n T (mkF m pc Ls (.int y' :: .int x :: st)) := by
  subst hz
  obtain ⟨⟨hx, hby, -⟩, locs, X, -⟩ := X
  exact own_go (fun _ q => XS.iushr X.here hx rfl (hb hby hd) rfl q) H
theorem own_iushrV (X : own_S p l e R s m av below meth c Z y co ml rt n0 T ce sl h) {x : Int32} {y' : Int32}  (hd : decode co pc = .ok (.iushr, 1))  (H : ∀ v : Int32, (x.toUInt32 >>> (y' &&& 31).toUInt32).toInt32 = v → -2147483648 ≤ v.toInt → v.toInt < 2147483648 → own_Fin p e below s n0 Q k n T (mkF m (pc + 1) Ls (.int v :: st))) : own_Fin p e below s n0 Q k n T (mkF m pc Ls (.int y' :: .int x :: st)) := by
  exact own_iushrE X hd _ rfl (H _ rfl (rng32 _).1 (rng32 _).2)
theorem own_iushrK (X : own_S p l e R s m av below meth c Z y co ml rt n0 T ce sl h) {x : Int32} {y' : Int32} (a : Int) (kk : Nat) (P : Int) (hd : decode co pc = .ok (.iushr, 1)) (hxa : x.toInt = a) (hk : y'.toBitVec.toNat % 32 = kk) (hP : ((2 ^ kk : Nat) : Int) = P) (hk0 : 0 < kk) (H : ∀ v : Int32, (x.toUInt32 >>> (y' &&& 31).toUInt32).toInt32 = v → v.toInt = (a % 4294967296) / P → -2147483648 ≤ v.toInt → v.toInt < 2147483648 → own_Fin p e below s n0 Q k n T (mkF m (pc + 1) Ls (.int v :: st))) : own_Fin p e below s n0 Q k n T (mkF m pc Ls (.int y' :: .int x :: st)) := by
  exact own_iushrE X hd _ rfl (H _ rfl (by subst hxa hP; exact c_iushr x y' kk hk hk0) (rng32 _).1 (rng32 _).2)
theorem own_laddE (X : own_S p l e R s m av below meth c Z y co ml rt n0 T ce sl h) {x : Int64} {y' : Int64} (hd : decode co pc = .ok (.ladd, 1)) (z : Int64) (hz : x + y' = z) (H : own_Fin p e below s n0 Q k n T (mkF m (pc + 1) Ls (.long z :: st))) : own_Fin p e below s n0 Q k n T (mkF m pc Ls (.long y' :: .long x :: st)) := by
  subst hz
  obtain ⟨⟨hx, hby, -⟩, locs, X, -⟩ := X
  exact own_go (fun _ q => XS.ladd X.here hx rfl (hb hby hd) rfl q) H
theorem own_laddV (X : own_S p l e R s m av below meth c Z y co ml rt n0 T ce sl h) {x : Int64} {y' : Int64} (a b : Int) (hd : decode co pc = .ok (.ladd, 1)) (hxa : x.toInt = a) (hyb : y'.toInt = b) (H : ∀ v : Int64, x + y' = v → (v.toInt - (a + b)) % 18446744073709551616 = 0 → -9223372036854775808 ≤ v.toInt → v.toInt < 9223372036854775808 → own_Fin p e below s n0 Q k n T (mkF m (pc + 1) Ls (.long v :: st))) : own_Fin p e below s n0 Q k n T (mkF m pc Ls (.long y' :: .long x :: st)) := by
  exact own_laddE X hd _ rfl (H _ rfl (by subst hxa hyb; exact c_ladd x y') (rng64 _).1 (rng64 _).2)
theorem own_lsubE (X : own_S p l e R s m av below meth c Z y co ml rt n0 T ce sl h) {x : Int64} {y' : Int64} (hd : decode co pc = .ok (.lsub, 1)) (z : Int64) (hz : x - y' = z) (H : own_Fin p e below s n0 Q k n T (mkF m (pc + 1) Ls (.long z :: st))) : own_Fin p e below s n0 Q k n T (mkF m pc Ls (.long y' :: .long x :: st)) := by
  subst hz
  obtain ⟨⟨hx, hby, -⟩, locs, X, -⟩ := X
  exact own_go (fun _ q => XS.lsub X.here hx rfl (hb hby hd) rfl q) H
theorem own_lsubV (X : own_S p l e R s m av below meth c Z y co ml rt n0 T ce sl h) {x : Int64} {y' : Int64} (a b : Int) (hd : decode co pc = .ok (.lsub, 1)) (hxa : x.toInt = a) (hyb : y'.toInt = b) (H : ∀ v : Int64, x - y' = v → (v.toInt - (a - b)) % 18446744073709551616 = 0 → -9223372036854775808 ≤ v.toInt → v.toInt < 9223372036854775808 → own_Fin p e below s n0 Q k n T (mkF m (pc + 1) Ls (.long v :: st))) : own_Fin p e below s n0 Q k n T (mkF m pc Ls (.long y' :: .long x :: st)) := by
  exact own_lsubE X hd _ rfl (H _ rfl (by subst hxa hyb; exact c_lsub x y') (rng64 _).1 (rng64 _).2)
theorem own_lmulE (X : own_S p l e R s m av below meth c Z y co ml rt n0 T ce sl h) {x : Int64} {y' : Int64} (hd : decode co pc = .ok (.lmul, 1)) (z : Int64) (hz : x * y' = z) (H : own_Fin p e below s n0 Q k n T (mkF m (pc + 1) Ls (.long z :: st))) : own_Fin p e below s n0 Q k n T (mkF m pc Ls (.long y' :: .long x :: st)) := by
  subst hz
  obtain ⟨⟨hx, hby, -⟩, locs, X, -⟩ := X
  exact own_go (fun _ q => XS.lmul X.here hx rfl (hb hby hd) rfl q) H
theorem own_lmulV (X : own_S p l e R s m av below meth c Z y co ml rt n0 T ce sl h) {x : Int64} {y' : Int64} (a b : Int) (hd : decode co pc = .ok (.lmul, 1)) (hxa : x.toInt = a) (hyb : y'.toInt = b) (H : ∀ v : Int64, x * y' = v → (v.toInt - (a * b)) % 18446744073709551616 = 0 → -9223372036854775808 ≤ v.toInt → v.toInt < 9223372036854775808 → own_Fin p e below s n0 Q k n T (mkF m (pc + 1) Ls (.long v :: st))) : own_Fin p e below s n0 Q k n T (mkF m pc Ls (.long y' :: .long x :: st)) := by
  exact own_lmulE X hd _ rfl (H _ rfl (by subst hxa hyb; exact c_lmul x y') (rng64 _).1 (rng64 _).2)
theorem own_landE (X : own_S p l e R s m av below meth c Z y co ml rt n0 T ce sl h) {x : Int64} {y' : Int64} (hd : decode co pc = .ok (.land, 1)) (z : Int64) (hz : x &&& y' = z) (H : own_Fin p e below s n0 Q k n T (mkF m (pc + 1) Ls (.long z :: st))) : own_Fin p e below s n0 Q k n T (mkF m pc Ls (.long y' :: .long x :: st)) := by
  subst hz
  obtain ⟨⟨hx, hby, -⟩, locs, X, -⟩ := X
  exact own_go (fun _ q => XS.land X.here hx rfl (hb hby hd) rfl q) H
theorem own_landV (X : own_S p l e R s m av below meth c Z y co ml rt n0 T ce sl h) {x : Int64} {y' : Int64}  (hd : decode co pc = .ok (.land, 1))  (H : ∀ v : Int64, x &&& y' = v → -9223372036854775808 ≤ v.toInt → v.toInt < 9223372036854775808 → own_Fin p e below s n0 Q k n T (mkF m (pc + 1) Ls (.long v :: st))) : own_Fin p e below s n0 Q k n T (mkF m pc Ls (.long y' :: .long x :: st)) := by
  exact own_landE X hd _ rfl (H _ rfl (rng64 _).1 (rng64 _).2)
theorem own_landM (X : own_S p l e R s m av below meth c Z y co ml rt n0 T ce sl h) {x : Int64} {y' : Int64} (a : Int) (kk : Nat) (P : Int) (hd : decode co pc = .ok (.land, 1)) (hxa : x.toInt = a) (hk : kk ≤ 63) (hm : y'.toBitVec.toNat = 2 ^ kk - 1) (hP : ((2 ^ kk : Nat) : Int) = P) (H : ∀ v : Int64, x &&& y' = v → v.toInt = a % P → -9223372036854775808 ≤ v.toInt → v.toInt < 9223372036854775808 → own_Fin p e below s n0 Q k n T (mkF m (pc + 1) Ls (.long v :: st))) : own_Fin p e below s n0 Q k n T (mkF m pc Ls (.long y' :: .long x :: st)) := by
  exact own_landE X hd _ rfl (H _ rfl (by subst hxa hP; exact c_maskL x y' kk hk hm) (rng64 _).1 (rng64 _).2)
theorem own_lorE (X : own_S p l e R s m av below meth c Z y co ml rt n0 T ce sl h) {x : Int64} {y' : Int64} (hd : decode co pc = .ok (.lor, 1)) (z : Int64) (hz : x ||| y' = z) (H : own_Fin p e below s n0 Q k n T (mkF m (pc + 1) Ls (.long z :: st))) : own_Fin p e below s n0 Q k n T (mkF m pc Ls (.long y' :: .long x :: st)) := by
  subst hz
  obtain ⟨⟨hx, hby, -⟩, locs, X, -⟩ := X
  exact own_go (fun _ q => XS.lor X.here hx rfl (hb hby hd) rfl q) H
theorem own_lorV (X : own_S p l e R s m av below meth c Z y co ml rt n0 T ce sl h) {x : Int64} {y' : Int64}  (hd : decode co pc = .ok (.lor, 1))  (H : ∀ v : Int64, x ||| y' = v → -9223372036854775808 ≤ v.toInt → v.toInt < 9223372036854775808 → own_Fin p e below s n0 Q k n T (mkF m (pc + 1) Ls (.long v :: st))) : own_Fin p e below s n0 Q k n T (mkF m pc Ls (.long y' :: .long x :: st)) := by
  exact own_lorE X hd _ rfl (H _ rfl (rng64 _).1 (rng64 _).2)
theorem own_lxorE (X : own_S p l e R s m av below meth c Z y co ml rt n0 T ce sl h) {x : Int64} {y' : Int64} (hd : decode co pc = .ok (.lxor, 1)) (z : Int64) (hz : x ^^^ y' = z) (H : own_Fin p e below s n0 Q k n T (mkF m (pc + 1) Ls (.long z :: st))) : own_Fin p e below s n0 Q k n T (mkF m pc Ls (.long y' :: .long x :: st)) := by
  subst hz
  obtain ⟨⟨hx, hby, -⟩, locs, X, -⟩ := X
  exact own_go (fun _ q => XS.lxor X.here hx rfl (hb hby hd) rfl q) H
theorem own_lxorV (X : own_S p l e R s m av below meth c Z y co ml rt n0 T ce sl h) {x : Int64} {y' : Int64}  (hd : decode co pc = .ok (.lxor, 1))  (H : ∀ v : Int64, x ^^^ y' = v → -9223372036854775808 ≤ v.toInt → v.toInt < 9223372036854775808 → own_Fin p e below s n0 Q k n T (mkF m (pc + 1) Ls (.long v :: st))) : own_Fin p e below s n0 Q k n T (mkF m pc Ls (.long y' :: .long x :: st)) := by
  exact own_lxorE X hd _ rfl (H _ rfl (rng64 _).1 (rng64 _).2)
theorem own_lshlE (X : own_S p l e R s m av below meth c Z y co ml rt n0 T ce sl h) {x : Int64} {y' : Int32} (hd : decode co pc = .ok (.lshl, 1)) (z : Int64) (hz : x <<< (y' &&& 0x3f).toInt64 = z) (H : own_Fin p e below s n0 Q k n T (mkF m (pc + 1) Ls (.long z :: st))) : own_Fin p e below s n0 Q k n T (mkF m pc Ls (.int y' :: .long x :: st)) := by
  subst hz
  obtain ⟨⟨hx, hby, -⟩, locs, X, -⟩ := X
  exact own_go (fun _ q => XS.lshl X.here hx rfl (hb hby hd) rfl q) H
theorem own_lshlV (X : own_S p l e R s m av below meth c Z y co ml rt n0 T ce sl h) {x : Int64} {y' : Int32}  (hd : decode co pc = .ok (.lshl, 1))  (H : ∀ v : Int64, x <<< (y' &&& 0x3f).toInt64 = v → -9223372036854775808 ≤ v.toInt → v.toInt < 9223372036854775808 → own_Fin p e below s n0 Q k n T (mkF m (pc + 1) Ls (.long v :: st))) : own_Fin p e below s n0 Q k n T (mkF m pc Ls (.int y' :: .long x :: st)) := by
  exact own_lshlE X hd _ rfl (H _ rfl (rng64 _).1 (rng64 _).2)
theorem own_lshlK (X : own_S p l e R s m av below meth c Z y co ml rt n0 T ce sl h) {x : Int64} {y' : Int32} (a : Int) (kk : Nat) (P : Int) (hd : decode co pc = .ok (.lshl, 1)) (hxa : x.toInt = a) (hk : y'.toBitVec.toNat % 64 = kk) (hP : ((2 ^ kk : Nat) : Int) = P) (H : ∀ v : Int64, x <<< (y' &&& 0x3f).toInt64 = v → (v.toInt - a * P) % 18446744073709551616 = 0 → -9223372036854775808 ≤ v.toInt → v.toInt < 9223372036854775808 → own_Fin p e below s n0 Q k n T (mkF m (pc + 1) Ls (.long v :: st))) : own_Fin p e below s n0 Q k n T (mkF m pc Ls (.int y' :: .long x :: st)) := by
  exact own_lshlE X hd _ rfl (H _ rfl (by subst hxa hP; exact c_lshl x y' kk hk) (rng64 _).1 (rng64 _).2)
theorem own_lshrE (X : own_S p l e R s m av below meth c Z y co ml rt n0 T ce sl h) {x : Int64} {y' : Int32} (hd : decode co pc = .ok (.lshr, 1)) (z : Int64) (hz : x >>> (y' &&& 0x3f).toInt64 = z) (H : own_Fin p e below s n0 Q k n T (mkF m (pc + 1) Ls (.long z :: st))) : own_Fin p e below s n0 Q k n T (mkF m pc Ls (.int y' :: .long x :: st)) := by
  subst hz
  obtain ⟨⟨hx, hby, -⟩, locs, X, -⟩ := X
  exact own_go (fun _ q => XS.lshr X.here hx rfl (hb hby hd) rfl q) H
theorem own_lshrV (X : own_S p l e R s m av below meth c Z y co ml rt n0 T ce sl h) {x : Int64} {y' : Int32}  (hd : decode co pc = .ok (.lshr, 1))  (H : ∀ v : Int64, x >>> (y' &&& 0x3f).toInt64 = v → -9223372036854775808 ≤ v.toInt → v.toInt < 9223372036854775808 → own_Fin p e below s n0 Q k n T (mkF m (pc + 1) Ls (.long v :: st))) : own_Fin p e below s n0 Q k n T (mkF m pc Ls (.int y' :: .long x :: st)) := by
  exact own_lshrE X hd _ rfl (H _ rfl (rng64 _).1 (rng64 _).2)
theorem own_lshrK (X : own_S p l e R s m av below meth c Z y co ml rt n0 T ce sl h) {x : Int64} {y' : Int32} (a : Int) (kk : Nat) (P : Int) (hd : decode co pc = .ok (.lshr, 1)) (hxa : x.toInt = a) (hk : y'.toBitVec.toNat % 64 = kk) (hP : ((2 ^ kk : Nat) : Int) = P) (H : ∀ v : Int64, x >>> (y' &&& 0x3f).toInt64 = v → v.toInt = a / P → -9223372036854775808 ≤ v.toInt → v.toInt < 9223372036854775808 → own_Fin p e below s n0 Q k n T (mkF m (pc + 1) Ls (.long v :: st))) : own_Fin p e below s n0 Q k n T (mkF m pc Ls (.int y' :: .long x :: st)) := by
  exact own_lshrE X hd _ rfl (H _ rfl (by subst hxa hP; exact c_lshr x y' kk hk) (rng64 _).1 (rng64 _).2)
theorem own_lushrE (X : own_S p l e R s m av below meth c Z y co ml rt n0 T ce sl h) {x : Int64} {y' : Int32} (hd : decode co pc = .ok (.lushr, 1)) (z : Int64) (hz : (x.toUInt64 >>> (y' &&& 0x3f).toInt64.toUInt64).toInt64 = z) (H : own_Fin p e below s n0 Q k n T (mkF m (pc + 1) Ls (.long z :: st))) : own_Fin p e below s n0 Q k n T (mkF m pc Ls (.int y' :: .long x :: st)) := by
  subst hz
  obtain ⟨⟨hx, hby, -⟩, locs, X, -⟩ := X
  exact own_go (fun _ q => XS.lushr X.here hx rfl (hb hby hd) rfl q) H
theorem own_lushrV (X : own_S p l e R s m av below meth c Z y co ml rt n0 T ce sl h) {x : Int64} {y' : Int32}  (hd : decode co pc = .ok (.lushr, 1))  (H : ∀ v : Int64, (x.toUInt64 >>> (y' &&& 0x3f).toInt64.toUInt64).toInt64 = v → -9223372036854775808 ≤ v.toInt → v.toInt < 9223372036854775808 → own_Fin p e below s n0 Q k n T (mkF m (pc + 1) Ls (.long v :: st))) : own_Fin p e below s n0 Q k n T (mkF m pc Ls (.int y' :: .long x :: st)) := by
  exact own_lushrE X hd _ rfl (H _ rfl (rng64 _).1 (rng64 _).2)
theorem own_lushrK (X : own_S p l e R s m av below meth c Z y co ml rt n0 T ce sl h) {x : Int64} {y' : Int32} (a : Int) (kk : Nat) (P : Int) (hd : decode co pc = .ok (.lushr, 1)) (hxa : x.toInt = a) (hk : y'.toBitVec.toNat % 64 = kk) (hP : ((2 ^ kk : Nat) : Int) = P) (hk0 : 0 < kk) (H : ∀ v : Int64, (x.toUInt64 >>> (y' &&& 0x3f).toInt64.toUInt64).toInt64 = v → v.toInt = (a % 18446744073709551616) / P → -9223372036854775808 ≤ v.toInt → v.toInt < 9223372036854775808 → own_Fin p e below s n0 Q k n T (mkF m (pc + 1) Ls (.long v :: st))) : own_Fin p e below s n0 Q k n T (mkF m pc Ls (.int y' :: .long x :: st)) := by
  exact own_lushrE X hd _ rfl (H _ rfl (by subst hxa hP; exact c_lushr x y' kk hk hk0) (rng64 _).1 (rng64 _).2)
theorem own_iremE (X : own_S p l e R s m av below meth c Z y co ml rt n0 T ce sl h) {x : Int32} {y' : Int32} (hd : decode co pc = .ok (.irem, 1)) (hnz : y' ≠ 0) (z : Int32) (hz : x % y' = z) (H : own_Fin p e below s n0 Q k n T (mkF m (pc + 1) Ls (.int z :: st))) : own_Fin p e below s n0 Q k n T (mkF m pc Ls (.int y' :: .int x :: st)) := by
  subst hz
  obtain ⟨⟨hx, hby, -⟩, locs, X, -⟩ := X
  exact own_go (fun _ q => iremM X hx rfl (hb hby hd) rfl hnz q) H
theorem own_iremV (X : own_S p l e R s m av below meth c Z y co ml rt n0 T ce sl h) {x : Int32} {y' : Int32}  (hd : decode co pc = .ok (.irem, 1)) (hnz : y' ≠ 0)  (H : ∀ v : Int32, x % y' = v → -2147483648 ≤ v.toInt → v.toInt < 2147483648 → own_Fin p e below s n0 Q k n T (mkF m (pc + 1) Ls (.int v :: st))) : own_Fin p e below s n0 Q k n T (mkF m pc Ls (.int y' :: .int x :: st)) := by
  exact own_iremE X hd hnz _ rfl (H _ rfl (rng32 _).1 (rng32 _).2)
theorem own_iremK (X : own_S p l e R s m av below meth c Z y co ml rt n0 T ce sl h) {x : Int32} {y' : Int32} (a b : Int) (hd : decode co pc = .ok (.irem, 1)) (hnz : y' ≠ 0) (hxa : x.toInt = a) (hyb : y'.toInt = b) (H : ∀ v : Int32, x % y' = v → (0 ≤ a → v.toInt = a % b) ∧ (a < 0 → v.toInt = -((-a) % b)) → -2147483648 ≤ v.toInt → v.toInt < 2147483648 → own_Fin p e below s n0 Q k n T (mkF m (pc + 1) Ls (.int v :: st))) : own_Fin p e below s n0 Q k n T (mkF m pc Ls (.int y' :: .int x :: st)) := by
  exact own_iremE X hd hnz _ rfl (H _ rfl (by subst hxa; exact c_irem x y' b hyb) (rng32 _).1 (rng32 _).2)
theorem own_iremB (X : own_S p l e R s m av below meth c Z y co ml rt n0 T ce sl h) {x : Int32} {y' : Int32} (a b : Int) (hd : decode co pc = .ok (.irem, 1)) (hnz : y' ≠ 0) (hxa : x.toInt = a) (hyb : y'.toInt = b) (q1 : 0 ≤ a) (q2 : 0 < b) (H : ∀ v : Int32, x % y' = v → 0 ≤ v.toInt ∧ v.toInt < b ∧ v.toInt ≤ a → -2147483648 ≤ v.toInt → v.toInt < 2147483648 → own_Fin p e below s n0 Q k n T (mkF m (pc + 1) Ls (.int v :: st))) : own_Fin p e below s n0 Q k n T (mkF m pc Ls (.int y' :: .int x :: st)) := by
  exact own_iremE X hd hnz _ rfl (H _ rfl (by subst hxa hyb; have q := (c_iremV x y').1 q1 q2; exact ⟨q.1, q.2.1, q.2.2.1⟩) (rng32 _).1 (rng32 _).2)
theorem own_lremE (X : own_S p l e R s m av below meth c Z y co ml rt n0 T ce sl h) {x : Int64} {y' : Int64} (hd : decode co pc = .ok (.lrem, 1)) (hnz : y' ≠ 0) (z : Int64) (hz : x % y' = z) (H : own_Fin p e below s n0 Q k n T (mkF m (pc + 1) Ls (.long z :: st))) : own_Fin p e below s n0 Q k n T (mkF m pc Ls (.long y' :: .long x :: st)) := by
  subst hz
  obtain ⟨⟨hx, hby, -⟩, locs, X, -⟩ := X
  exact own_go (fun _ q => XS.lrem X.here hx rfl (hb hby hd) rfl hnz (by rw [lrem_mod]; exact q)) H
theorem own_lremV (X : own_S p l e R s m av below meth c Z y co ml rt n0 T ce sl h) {x : Int64} {y' : Int64}  (hd : decode co pc = .ok (.lrem, 1)) (hnz : y' ≠ 0)  (H : ∀ v : Int64, x % y' = v → -9223372036854775808 ≤ v.toInt → v.toInt < 9223372036854775808 → own_Fin p e below s n0 Q k n T (mkF m (pc + 1) Ls (.long v :: st))) : own_Fin p e below s n0 Q k n T (mkF m pc Ls (.long y' :: .long x :: st)) := by
  exact own_lremE X hd hnz _ rfl (H _ rfl (rng64 _).1 (rng64 _).2)
theorem own_lremK (X : own_S p l e R s m av below meth c Z y co ml rt n0 T ce sl h) {x : Int64} {y' : Int64} (a b : Int) (hd : decode co pc = .ok (.lrem, 1)) (hnz : y' ≠ 0) (hxa : x.toInt = a) (hyb : y'.toInt = b) (H : ∀ v : Int64, x % y' = v → (0 ≤ a → v.toInt = a % b) ∧ (a < 0 → v.toInt = -((-a) % b)) → -9223372036854775808 ≤ v.toInt → v.toInt < 9223372036854775808 → own_Fin p e below s n0 Q k n T (mkF m (pc + 1) Ls (.long v :: st))) : own_Fin p e below s n0 Q k n T (mkF m pc Ls (.long y' :: .long x :: st)) := by
  exact own_lremE X hd hnz _ rfl (H _ rfl (by subst hxa; have q := c_lrem x y' b hyb; rw [lrem_mod] at q; exact q) (rng64 _).1 (rng64 _).2)
theorem own_lremB (X : own_S p l e R s m av below meth c Z y co ml rt n0 T ce sl h) {x : Int64} {y' : Int64} (a b : Int) (hd : decode co pc = .ok (.lrem, 1)) (hnz : y' ≠ 0) (hxa : x.toInt = a) (hyb : y'.toInt = b) (q1 : 0 ≤ a) (q2 : 0 < b) (H : ∀ v : Int64, x % y' = v → 0 ≤ v.toInt ∧ v.toInt < b ∧ v.toInt ≤ a → -9223372036854775808 ≤ v.toInt → v.toInt < 9223372036854775808 → own_Fin p e below s n0 Q k n T (mkF m (pc + 1) Ls (.long v :: st))) : own_Fin p e below s n0 Q k n T (mkF m pc Ls (.long y' :: .long x :: st)) := by
  exact own_lremE X hd hnz _ rfl (H _ rfl (by subst hxa hyb; have q := (c_lrem x y' _ rfl).1 q1; rw [lrem_mod] at q; rw [q]; exact ⟨Int.emod_nonneg _ (by omega), Int.emod_lt_of_pos _ q2, own_emod_le q1 q2⟩) (rng64 _).1 (rng64 _).2)
theorem own_i2lE (X : own_S p l e R s m av below meth c Z y co ml rt n0 T ce sl h) {x : Int32} (hd : decode co pc = .ok (.i2l, 1)) (z : Int64) (hz : x.toInt64 = z) (H : own_Fin p e below s n0 Q k n T (mkF m (pc + 1) Ls (.long z :: st))) : own_Fin p e below s n0 Q k n T (mkF m pc Ls (.int x :: st)) := by
  subst hz
  obtain ⟨⟨hx, hby, -⟩, locs, X, -⟩ := X
  exact own_go (fun _ q => XS.i2l X.here hx rfl (hb hby hd) rfl q) H
theorem own_i2lV (X : own_S p l e R s m av below meth c Z y co ml rt n0 T ce sl h) {x : Int32} (a : Int) (hd : decode co pc = .ok (.i2l, 1)) (hxa : x.toInt = a) (H : ∀ v : Int64, x.toInt64 = v → v.toInt = a → -9223372036854775808 ≤ v.toInt → v.toInt < 9223372036854775808 → own_Fin p e below s n0 Q k n T (mkF m (pc + 1) Ls (.long v :: st))) : own_Fin p e below s n0 Q k n T (mkF m pc Ls (.int x :: st)) := by
  exact own_i2lE X hd _ rfl (H _ rfl (by subst hxa; exact c_i2l x) (rng64 _).1 (rng64 _).2)
theorem own_l2iE (X : own_S p l e R s m av below meth c Z y co ml rt n0 T ce sl h) {x : Int64} (hd : decode co pc = .ok (.l2i, 1)) (z : Int32) (hz : x.toInt32 = z) (H : own_Fin p e below s n0 Q k n T (mkF m (pc + 1) Ls (.int z :: st))) : own_Fin p e below s n0 Q k n T (mkF m pc Ls (.long x :: st)) := by
  subst hz
  obtain ⟨⟨hx, hby, -⟩, locs, X, -⟩ := X
  exact own_go (fun _ q => XS.l2i X.here hx rfl (hb hby hd) rfl q) H
theorem own_l2iV (X : own_S p l e R s m av below meth c Z y co ml rt n0 T ce sl h) {x : Int64} (a : Int) (hd : decode co pc = .ok (.l2i, 1)) (hxa : x.toInt = a) (H : ∀ v : Int32, x.toInt32 = v → (v.toInt - a) % 4294967296 = 0 → -2147483648 ≤ v.toInt → v.toInt < 2147483648 → own_Fin p e below s n0 Q k n T (mkF m (pc + 1) Ls (.int v :: st))) : own_Fin p e below s n0 Q k n T (mkF m pc Ls (.long x :: st)) := by
  exact own_l2iE X hd _ rfl (H _ rfl (by subst hxa; exact c_l2i x) (rng32 _).1 (rng32 _).2)
theorem own_i2bE (X : own_S p l e R s m av below meth c Z y co ml rt n0 T ce sl h) {x : Int32} (hd : decode co pc = .ok (.i2b, 1)) (z : Int32) (hz : x.toInt8.toInt32 = z) (H : own_Fin p e below s n0 Q k n T (mkF m (pc + 1) Ls (.int z :: st))) : own_Fin p e below s n0 Q k n T (mkF m pc Ls (.int x :: st)) := by
  subst hz
  obtain ⟨⟨hx, hby, -⟩, locs, X, -⟩ := X
  exact own_go (fun _ q => XS.i2b X.here hx rfl (hb hby hd) rfl q) H
theorem own_i2bV (X : own_S p l e R s m av below meth c Z y co ml rt n0 T ce sl h) {x : Int32} (a : Int) (hd : decode co pc = .ok (.i2b, 1)) (hxa : x.toInt = a) (H : ∀ v : Int32, x.toInt8.toInt32 = v → (v.toInt - a) % 256 = 0 ∧ -128 ≤ v.toInt ∧ v.toInt < 128 → -2147483648 ≤ v.toInt → v.toInt < 2147483648 → own_Fin p e below s n0 Q k n T (mkF m (pc + 1) Ls (.int v :: st))) : own_Fin p e below s n0 Q k n T (mkF m pc Ls (.int x :: st)) := by
  exact own_i2bE X hd _ rfl (H _ rfl (by subst hxa; exact c_i2b x) (rng32 _).1 (rng32 _).2)
theorem own_i2sE (X : own_S p l e R s m av below meth c Z y co ml rt n0 T ce sl h) {x : Int32} (hd : decode co pc = .ok (.i2s, 1)) (z : Int32) (hz : x.toInt16.toInt32 = z) (H : own_Fin p e below s n0 Q k n T (mkF m (pc + 1) Ls (.int z :: st))) : own_Fin p e below s n0 Q k n T (mkF m pc Ls (.int x :: st)) := by
  subst hz
  obtain ⟨⟨hx, hby, -⟩, locs, X, -⟩ := X
  exact own_go (fun _ q => XS.i2s X.here hx rfl (hb hby hd) rfl q) H
theorem own_i2sV (X : own_S p l e R s m av below meth c Z y co ml rt n0 T ce sl h) {x : Int32} (a : Int) (hd : decode co pc = .ok (.i2s, 1)) (hxa : x.toInt = a) (H : ∀ v : Int32, x.toInt16.toInt32 = v → (v.toInt - a) % 65536 = 0 ∧ -32768 ≤ v.toInt ∧ v.toInt < 32768 → -2147483648 ≤ v.toInt → v.toInt < 2147483648 → own_Fin p e below s n0 Q k n T (mkF m (pc + 1) Ls (.int v :: st))) : own_Fin p e below s n0 Q k n T (mkF m pc Ls (.int x :: st)) := by
  exact own_i2sE X hd _ rfl (H _ rfl (by subst hxa; exact c_i2s x) (rng32 _).1 (rng32 _).2)
theorem own_i2cE (X : own_S p l e R s m av below meth c Z y co ml rt n0 T ce sl h) {x : Int32} (hd : decode co pc = .ok (.i2c, 1)) (z : Int32) (hz : x.toUInt32.toUInt16.toUInt32.toInt32 = z) (H : own_Fin p e below s n0 Q k n T (mkF m (pc + 1) Ls (.int z :: st))) : own_Fin p e below s n0 Q k n T (mkF m pc Ls (.int x :: st)) := by
  subst hz
  obtain ⟨⟨hx, hby, -⟩, locs, X, -⟩ := X
  exact own_go (fun _ q => XS.i2c X.here hx rfl (hb hby hd) rfl q) H
theorem own_i2cV (X : own_S p l e R s m av below meth c Z y co ml rt n0 T ce sl h) {x : Int32} (a : Int) (hd : decode co pc = .ok (.i2c, 1)) (hxa : x.toInt = a) (H : ∀ v : Int32, x.toUInt32.toUInt16.toUInt32.toInt32 = v → (v.toInt - a) % 65536 = 0 ∧ 0 ≤ v.toInt ∧ v.toInt < 65536 → -2147483648 ≤ v.toInt → v.toInt < 2147483648 → own_Fin p e below s n0 Q k n T (mkF m (pc + 1) Ls (.int v :: st))) : own_Fin p e below s n0 Q k n T (mkF m pc Ls (.int x :: st)) := by
  exact own_i2cE X hd _ rfl (H _ rfl (by subst hxa; exact c_i2c x) (rng32 _).1 (rng32 _).2)
theorem own_lcmp (X : own_S p l e R s m av below meth c Z y co ml rt n0 T ce sl h) {x y' : Int64} (hd : decode co pc = .ok (.lcmp, 1)) (H : own_Fin p e below s n0 Q k n T (mkF m (pc + 1) Ls (.int (lcmpW x y') :: st))) : own_Fin p e below s n0 Q k n T (mkF m pc Ls (.long y' :: .long x :: st)) := by
  obtain ⟨⟨hx, hby, -⟩, locs, X, -⟩ := X
  exact own_go (fun _ q => XS.lcmp X.here hx rfl (hb hby hd) rfl q) H
theorem own_dup (X : own_S p l e R s m av below meth c Z y co ml rt n0 T ce sl h) {v : Value} (hd : decode co pc = .ok (.dup, 1)) (hv : v.category = 1) (H : own_Fin p e below s n0 Q k n T (mkF m (pc + 1) Ls (v :: v :: st))) : own_Fin p e below s n0 Q k n T (mkF m pc Ls (v :: st)) := by
  obtain ⟨⟨hx, hby, -⟩, locs, X, -⟩ := X
  exact own_go (fun _ q => XS.dup X.here hx rfl (hb hby hd) rfl hv q) H
theorem own_dupX1 (X : own_S p l e R s m av below meth c Z y co ml rt n0 T ce sl h) {v w : Value} (hd : decode co pc = .ok (.dup_x1, 1)) (hv : v.category = 1) (hw : w.category = 1) (H : own_Fin p e below s n0 Q k n T (mkF m (pc + 1) Ls (v :: w :: v :: st))) : own_Fin p e below s n0 Q k n T (mkF m pc Ls (v :: w :: st)) := by
  obtain ⟨⟨hx, hby, -⟩, locs, X, -⟩ := X
  exact own_go (fun _ q => XS.dupX1 X.here hx rfl (hb hby hd) rfl hv hw q) H
theorem own_pop (X : own_S p l e R s m av below meth c Z y co ml rt n0 T ce sl h) {v : Value} (hd : decode co pc = .ok (.pop, 1)) (hv : v.category = 1) (H : own_Fin p e below s n0 Q k n T (mkF m (pc + 1) Ls (st))) : own_Fin p e below s n0 Q k n T (mkF m pc Ls (v :: st)) := by
  obtain ⟨⟨hx, hby, -⟩, locs, X, -⟩ := X
  exact own_go (fun _ q => XS.pop X.here hx rfl (hb hby hd) rfl hv q) H
theorem own_iinc (X : own_S p l e R s m av below meth c Z y co ml rt n0 T ce sl h) {i : Nat} {z : Int} {x z' : Int32} {L' : Array Slot} (hd : decode co pc = .ok (.iinc i z, 3)) (hl : Ls[i]? = some (.val (.int x))) (hz : Int32.ofInt z = z') (hl' : storeLocals Ls i (.int (x + z')) = some L') (H : own_Fin p e below s n0 Q k n T (mkF m (pc + 3) L' (st))) : own_Fin p e below s n0 Q k n T (mkF m pc Ls (st)) := by
  obtain ⟨⟨hx, hby, -⟩, locs, X, -⟩ := X
  exact own_go (fun _ q => XS.iinc X.here hx rfl (hb hby hd) hl (by rw [hz]; exact hl') q) H
theorem own_goto (X : own_S p l e R s m av below meth c Z y co ml rt n0 T ce sl h) {o : Int} (pc' : Nat) (hd : decode co pc = .ok (.goto o, 3)) (ho : 0 ≤ (pc : Int) + o) (hp : ((pc : Int) + o).toNat = pc') (H : own_Fin p e below s n0 Q k n T (mkF m pc' Ls (st))) : own_Fin p e below s n0 Q k n T (mkF m pc Ls (st)) := by
  obtain ⟨⟨hx, hby, -⟩, locs, X, -⟩ := X
  exact own_go (fun _ q => XS.goto X.here hx rfl rfl (hb hby hd) ho hp q) H
theorem own_icmpYes (X : own_S p l e R s m av below meth c Z y co ml rt n0 T ce sl h) {cd : ClassFile.Cond} {o : Int} {x y' : Int32} (pc' : Nat) (hd : decode co pc = .ok (.if_icmp cd o, 3)) (hc : if_icmp.holds cd x y' = true) (ho : 0 ≤ (pc : Int) + o) (hp : ((pc : Int) + o).toNat = pc') (H : own_Fin p e below s n0 Q k n T (mkF m pc' Ls (st))) : own_Fin p e below s n0 Q k n T (mkF m pc Ls (.int y' :: .int x :: st)) := by
  obtain ⟨⟨hx, hby, -⟩, locs, X, -⟩ := X
  exact own_go (fun _ q => XS.icmpYes X.here hx rfl rfl (hb hby hd) rfl hc ho hp q) H
theorem own_icmpNo (X : own_S p l e R s m av below meth c Z y co ml rt n0 T ce sl h) {cd : ClassFile.Cond} {o : Int} {x y' : Int32} (hd : decode co pc = .ok (.if_icmp cd o, 3)) (hc : if_icmp.holds cd x y' = false) (H : own_Fin p e below s n0 Q k n T (mkF m (pc + 3) Ls (st))) : own_Fin p e below s n0 Q k n T (mkF m pc Ls (.int y' :: .int x :: st)) := by
  obtain ⟨⟨hx, hby, -⟩, locs, X, -⟩ := X
  exact own_go (fun _ q => XS.icmpNo X.here hx rfl (hb hby hd) rfl hc q) H
theorem own_ifYes (X : own_S p l e R s m av below meth c Z y co ml rt n0 T ce sl h) {cd : ClassFile.Cond} {o : Int} {x : Int32} (pc' : Nat) (hd : decode co pc = .ok (.ifCond cd o, 3)) (hc : ifCond.holds cd x = true) (ho : 0 ≤ (pc : Int) + o) (hp : ((pc : Int) + o).toNat = pc') (H : own_Fin p e below s n0 Q k n T (mkF m pc' Ls (st))) : own_Fin p e below s n0 Q k n T (mkF m pc Ls (.int x :: st)) := by
  obtain ⟨⟨hx, hby, -⟩, locs, X, -⟩ := X
  exact own_go (fun _ q => XS.ifYes X.here hx rfl rfl (hb hby hd) rfl hc ho hp q) H
theorem own_ifNo (X : own_S p l e R s m av below meth c Z y co ml rt n0 T ce sl h) {cd : ClassFile.Cond} {o : Int} {x : Int32} (hd : decode co pc = .ok (.ifCond cd o, 3)) (hc : ifCond.holds cd x = false) (H : own_Fin p e below s n0 Q k n T (mkF m (pc + 3) Ls (st))) : own_Fin p e below s n0 Q k n T (mkF m pc Ls (.int x :: st)) := by
  obtain ⟨⟨hx, hby, -⟩, locs, X, -⟩ := X
  exact own_go (fun _ q => XS.ifNo X.here hx rfl (hb hby hd) rfl hc q) H
theorem own_ifnullYes (X : own_S p l e R s m av below meth c Z y co ml rt n0 T ce sl h) {o : Int} (pc' : Nat) (hd : decode co pc = .ok (.ifnull o, 3)) (ho : 0 ≤ (pc : Int) + o) (hp : ((pc : Int) + o).toNat = pc') (H : own_Fin p e below s n0 Q k n T (mkF m pc' Ls (st))) : own_Fin p e below s n0 Q k n T (mkF m pc Ls (.null :: st)) := by
  obtain ⟨⟨hx, hby, -⟩, locs, X, -⟩ := X
  exact own_go (fun _ q => XS.ifnullYes X.here hx rfl rfl (hb hby hd) rfl ho hp q) H
theorem own_ifnullNo (X : own_S p l e R s m av below meth c Z y co ml rt n0 T ce sl h) {o : Int} {b : Addr} (hd : decode co pc = .ok (.ifnull o, 3)) (H : own_Fin p e below s n0 Q k n T (mkF m (pc + 3) Ls (st))) : own_Fin p e below s n0 Q k n T (mkF m pc Ls (.ref b :: st)) := by
  obtain ⟨⟨hx, hby, -⟩, locs, X, -⟩ := X
  exact own_go (fun _ q => XS.ifnullNo X.here hx rfl (hb hby hd) rfl q) H
theorem own_ifnonnullYes (X : own_S p l e R s m av below meth c Z y co ml rt n0 T ce sl h) {o : Int} {b : Addr} (pc' : Nat) (hd : decode co pc = .ok (.ifnonnull o, 3)) (ho : 0 ≤ (pc : Int) + o) (hp : ((pc : Int) + o).toNat = pc') (H : own_Fin p e below s n0 Q k n T (mkF m pc' Ls (st))) : own_Fin p e below s n0 Q k n T (mkF m pc Ls (.ref b :: st)) := by
  obtain ⟨⟨hx, hby, -⟩, locs, X, -⟩ := X
  exact own_go (fun _ q => XS.ifnonnullYes X.here hx rfl rfl (hb hby hd) rfl ho hp q) H
theorem own_ifnonnullNo (X : own_S p l e R s m av below meth c Z y co ml rt n0 T ce sl h) {o : Int} (hd : decode co pc = .ok (.ifnonnull o, 3)) (H : own_Fin p e below s n0 Q k n T (mkF m (pc + 3) Ls (st))) : own_Fin p e below s n0 Q k n T (mkF m pc Ls (.null :: st)) := by
  obtain ⟨⟨hx, hby, -⟩, locs, X, -⟩ := X
  exact own_go (fun _ q => XS.ifnonnullNo X.here hx rfl (hb hby hd) rfl q) H
theorem own_dup2 (X : own_S p l e R s m av below meth c Z y co ml rt n0 T ce sl h) {v w : Value} (hd : decode co pc = .ok (.dup2, 1)) (hv : v.category = 1) (hw : w.category = 1) (H : own_Fin p e below s n0 Q k n T (mkF m (pc + 1) Ls (v :: w :: v :: w :: st))) : own_Fin p e below s n0 Q k n T (mkF m pc Ls (v :: w :: st)) := by
  obtain ⟨⟨hx, hby, -⟩, locs, X, -⟩ := X
  exact own_go (fun _ q => XT.dup2 X.here hx rfl (hb hby hd) rfl hv hw q) H
theorem own_tswOut (X : own_S p l e R s m av below meth c Z y co ml rt n0 T ce sl h) {df lo hi : Int} {offs : Array Int} {len : Nat} {x : Int32} (pc' : Nat) (hd : decode co pc = .ok (.tableswitch df lo hi offs, len)) (hc : x.toInt < lo ∨ x.toInt > hi) (ho : 0 ≤ (pc : Int) + df) (hp : ((pc : Int) + df).toNat = pc') (H : own_Fin p e below s n0 Q k n T (mkF m pc' Ls st)) : own_Fin p e below s n0 Q k n T (mkF m pc Ls (.int x :: st)) := by
  obtain ⟨⟨hx, hby, -⟩, locs, X, -⟩ := X
  exact own_go (fun _ q => XS.tswOut X.here hx rfl rfl (hb hby hd) rfl hc ho hp q) H
theorem own_tswIn (X : own_S p l e R s m av below meth c Z y co ml rt n0 T ce sl h) {df lo hi o : Int} {offs : Array Int} {len : Nat} {x : Int32} (pc' : Nat) (hd : decode co pc = .ok (.tableswitch df lo hi offs, len)) (hc : ¬ (x.toInt < lo ∨ x.toInt > hi)) (hof : offs[(x.toInt - lo).toNat]? = some o) (ho : 0 ≤ (pc : Int) + o) (hp : ((pc : Int) + o).toNat = pc') (H : own_Fin p e below s n0 Q k n T (mkF m pc' Ls st)) : own_Fin p e below s n0 Q k n T (mkF m pc Ls (.int x :: st)) := by
  obtain ⟨⟨hx, hby, -⟩, locs, X, -⟩ := X
  exact own_go (fun _ q => XS.tswIn X.here hx rfl rfl (hb hby hd) rfl hc hof ho hp q) H
theorem own_all_offs {offs : Array Int} {o : Int} {i k : Nat} (h : ∀ j, j < k → offs[j]? = some o) (hi : i < k) : offs[i]? = some o := h i hi
theorem own_iincW (X : own_S p l e R s m av below meth c Z y co ml rt n0 T ce sl h) {i : Nat} {z : Int} {x z' : Int32} {L' : Array Slot} (hd : decode co pc = .ok (.iinc i z, 6)) (hl : Ls[i]? = some (.val (.int x))) (hz : Int32.ofInt z = z') (hl' : storeLocals Ls i (.int (x + z')) = some L') (H : own_Fin p e below s n0 Q k n T (mkF m (pc + 6) L' st)) : own_Fin p e below s n0 Q k n T (mkF m pc Ls st) := by
  subst hz
  obtain ⟨⟨hx, hby, -⟩, locs, X, -⟩ := X
  have hd' := hb hby hd
  refine own_go (fun target q => ?_) H
  jvm_step X.here [X.here.top, hx, hd', hl, hl']
  exact q
theorem own_ldc (X : own_S p l e R s m av below meth c Z y co ml rt n0 T ce sl h) {ix : Nat} {z : Int32} (w : (Jvm.Cond.constant y.cls ix z).before a0 Z = true) (hd : decode co pc = .ok (.ldc ix, 2)) (H : own_Fin p e below s n0 Q k n T (mkF m (pc + 2) Ls (.int z :: st))) : own_Fin p e below s n0 Q k n T (mkF m pc Ls st) := by
  obtain ⟨⟨hx, hby, -, hown, -, -, -, hZ⟩, locs, X, -⟩ := X
  exact own_go (X.ldcInt hx hown (mvT hZ w) (g := mkF m pc Ls st) rfl (hb hby hd)) H
theorem own_ldc2 (X : own_S p l e R s m av below meth c Z y co ml rt n0 T ce sl h) {ix : Nat} {z : Int64} (w : (Jvm.Cond.constantLong y.cls ix z).before a0 Z = true) (hd : decode co pc = .ok (.ldc2_w ix, 3)) (H : own_Fin p e below s n0 Q k n T (mkF m (pc + 3) Ls (.long z :: st))) : own_Fin p e below s n0 Q k n T (mkF m pc Ls st) := by
  obtain ⟨⟨hx, hby, -, hown, -, -, -, hZ⟩, locs, X, -⟩ := X
  exact own_go (X.ldc2Long hx hown (mvT hZ w) (g := mkF m pc Ls st) rfl (hb hby hd)) H
/-- the five returns -/
theorem own_ret (X : own_S p l e R s m av below meth c Z y co ml rt n0 T ce sl h) {t : FieldType} {i : Instr} {w w' : Value} (hrt : rt = some t) (hn : narrow t w' = w') (hst : ∀ {fs : List Frame} {locs : List Loc}, Stand p l e R s m av below meth c T locs ce sl → p.tables.exec = Jvm.exec → meth.sig.returnType = some t → decode c.code pc = .ok (i, 1) →
      (∀ (f : JFrame) (acts : List Action), f.method = m → f.locked = none → f.entered = [] → (doReturn e (T.setTop f) acts (some w')).1 = T.setFrames fs) → Steps p.tables e below (T.setTop (mkF m pc Ls (w :: st))) (T.setFrames fs))
    (hd : decode co pc = .ok (i, 1)) (hk : ce ≤ k) (hk' : sl ≤ n) (q : Q (some w') h) : own_Fin p e below s n0 Q k n T (mkF m pc Ls (w :: st)) := by
  obtain ⟨⟨hx, hby, -, -, -, hret, hlk, hZ⟩, locs, X, N, eh, -⟩ := X
  obtain ⟨fs, hr, hrun, hended, hW, hsame⟩ := X.leave (v := some w') (fun h => by rw [hret, hrt] at h; cases h) hlk
  exact ⟨_, _, hst X hx (by rw [hret, hrt]) (hb hby hd) hr, hrun, hended, _, _, rfl, ⟨N, by rw [show (T.setFrames fs).heap = h from eh]; exact q⟩, ⟨_, rfl⟩, hW, hsame.mono hk hk'⟩
theorem own_retI (X : own_S p l e R s m av below meth c Z y co ml (some .int) n0 T ce sl h) {z : Int32} (hd : decode co pc = .ok (.ireturn, 1)) (hk : ce ≤ k) (hk' : sl ≤ n) (q : Q (some (.int z)) h) : own_Fin p e below s n0 Q k n T (mkF m pc Ls (.int z :: st)) :=
  own_ret X rfl rfl (fun X hx hret hd hl => retOut X hx hret rfl (Or.inl ⟨rfl, Or.inl rfl, z, rfl⟩) hd hl) hd hk hk' q
theorem own_retN {t : FieldType} (X : own_S p l e R s m av below meth c Z y co ml (some t) n0 T ce sl h) {z z' : Int32} (ht : t = .boolean ∨ t = .byte ∨ t = .char ∨ t = .short) (hz : nar t z = z') (hz' : nar t z' = z') (hd : decode co pc = .ok (.ireturn, 1)) (hk : ce ≤ k) (hk' : sl ≤ n) (q : Q (some (.int z')) h) : own_Fin p e below s n0 Q k n T (mkF m pc Ls (.int z :: st)) :=
  own_ret X rfl (by rcases ht with rfl | rfl | rfl | rfl <;> exact congrArg Value.int hz') (fun X hx hret hd hl => retN X hx hret ht hd (by rw [hz]; exact hl)) hd hk hk' q
theorem own_retJ (X : own_S p l e R s m av below meth c Z y co ml (some .long) n0 T ce sl h) {z : Int64} (hd : decode co pc = .ok (.lreturn, 1)) (hk : ce ≤ k) (hk' : sl ≤ n) (q : Q (some (.long z)) h) : own_Fin p e below s n0 Q k n T (mkF m pc Ls (.long z :: st)) :=
  own_ret X rfl rfl (fun X hx hret hd hl => retOut X hx hret rfl (Or.inr (Or.inl ⟨rfl, rfl, z, rfl⟩)) hd hl) hd hk hk' q
theorem own_retR {t : FieldType} (X : own_S p l e R s m av below meth c Z y co ml (some t) n0 T ce sl h) {w : Value} (ht : t.isReference = true) (hw : w.isRef = true) (hd : decode co pc = .ok (.areturn, 1)) (hk : ce ≤ k) (hk' : sl ≤ n) (q : Q (some w) h) : own_Fin p e below s n0 Q k n T (mkF m pc Ls (w :: st)) :=
  have hn : narrow t w = w := by cases t <;> first | (cases ht; done) | rfl
  own_ret X rfl hn (fun X hx hret hd hl => retOut X hx hret hn (Or.inr (Or.inr (Or.inr (Or.inr ⟨rfl, ht, hw⟩)))) hd hl) hd hk hk' q
theorem own_retV (X : own_S p l e R s m av below meth c Z y co ml none n0 T ce sl h) (hd : decode co pc = .ok (.return_, 1)) (hk : ce ≤ k) (hk' : sl ≤ n) (q : Q none h) : own_Fin p e below s n0 Q k n T (mkF m pc Ls []) := by
  obtain ⟨⟨hx, hby, -, -, -, hret, hlk, hZ⟩, locs, X, N, eh, -⟩ := X
  obtain ⟨fs, hr, hrun, hended, hW, hsame⟩ := X.leave (v := none) (fun _ => rfl) hlk
  exact ⟨_, _, X.returnOut hx hret (hb hby hd) hr, hrun, hended, _, _, rfl, ⟨N, by rw [show (T.setFrames fs).heap = h from eh]; exact q⟩, ⟨_, rfl⟩, hW, hsame.mono hk hk'⟩
/-- a static call by its contract -/
theorem own_callS (X : own_S p l e R s m av below meth c Z y co ml rt n0 T ce sl h) {ix : Nat} {y' : MethodName} {co' : ByteArray} {ml' W : Nat} {rt' : Option FieldType} {rm : Room} {Q' : Option Value → Heap → Prop} {argsL rest stk : List Value}
    (w1 : (Jvm.Cond.methodLink y.cls ix y').before a0 Z = true) (w2 : (Jvm.Cond.static y').before a0 Z = true) (w3 : (Jvm.Cond.initialized y'.cls).before a0 Z = true) (w4 : (Jvm.Cond.code y' co' ml' rt').before a0 Z = true) (hy : y'.cls ≠ "java/lang/invoke/MethodHandle" ∧ y'.cls ≠ "java/lang/invoke/VarHandle")
    (M : own_Met l Z y' co' ml' rt' [] rm argsL.toArray h n0 Q') (hf : rm.frames + 1 ≤ R.frames) (hlo : W + (ml' + 11) + rm.locals ≤ R.locals) (hce : ce + rm.cells ≤ R.cells) (hsl : sl + rm.slots ≤ R.slots)
    (hL : Ls.size = ml) (hlen : ∀ sig, parseMethodDescriptor y'.desc = some sig → argsL.length = sig.parameters.length) (hs : stk = argsL.reverse ++ rest) (hW : (rest.map fun v => v.category).sum ≤ W) (hd : decode co pc = .ok (.invokestatic ix, 3))
    (H : ∀ T' h' v, own_S p l e R s m av below meth c Z y co ml rt n0 T' (ce + rm.cells) (sl + rm.slots) h' → Q' v h' → own_Fin p e below s n0 Q k n T' (mkF m (pc + 3) Ls (v.toList ++ rest))) : own_Fin p e below s n0 Q k n T (mkF m pc Ls stk) := by
  obtain ⟨C, locs, X, N, eh, hn⟩ := X
  obtain ⟨hx, hby, hml, hown, -, -, -, hZ⟩ := id C
  obtain ⟨v, _, ⟨T', L', k', n'⟩, -, X', ⟨Lc, ⟨hN, hQ⟩, l1, l2, l3⟩, st'⟩ := Jvm.LawKit.callS X hx (y := y') hown (mvT hZ w1) (mvT hZ w2) (mvT hZ w3) (mvT hZ w4) hy (backOf (Q := fun v h' L => Fr n0 L ∧ Q' v h') (W := W) M hZ w4 w3 hf hlo) (g := mkF m pc Ls stk) rfl (by rw [hml]; exact hL) (argsL := argsL) (rest := rest) hlen hs (by show 2 * 0 + _ ≤ _; omega) (hb hby hd) (fun _ _ => ⟨rfl, eh, hce, hsl⟩)
  dsimp only [Pt.U, Pt.locs, Pt.cells, Pt.slots] at X' l1 l2 l3 st' hQ
  subst l1 l2 l3
  exact own_go st' (H T' T'.heap v ⟨C, _, X', N.app hN, rfl, hn⟩ hQ)
/-- the forms of a contract's promise, and how a call goes on -/
def own_QI (P : Int32 → Heap → Prop) (v : Option Value) (h : Heap) : Prop := ∃ z, v = some (.int z) ∧ P z h
def own_QJ (P : Int64 → Heap → Prop) (v : Option Value) (h : Heap) : Prop := ∃ z, v = some (.long z) ∧ P z h
def own_QR (P : Value → Heap → Prop) (v : Option Value) (h : Heap) : Prop := ∃ z, v = some z ∧ P z h
def own_QV (P : Heap → Prop) (v : Option Value) (h : Heap) : Prop := v = none ∧ P h
theorem own_contI {P : Int32 → Prop} {h0 : Heap} (H : ∀ T' (z : Int32), own_S p l e R s m av below meth c Z y co ml rt n0 T' ce sl h0 → P z → own_Fin p e below s n0 Q k n T' (mkF m pc Ls (.int z :: st))) :
    ∀ T' h' v, own_S p l e R s m av below meth c Z y co ml rt n0 T' ce sl h' → own_QI (fun z h => P z ∧ h = h0) v h' → own_Fin p e below s n0 Q k n T' (mkF m pc Ls (v.toList ++ st)) := by
  rintro T' h' v X ⟨z, rfl, hz, rfl⟩; exact H T' z X hz
theorem own_contJ {P : Int64 → Prop} {h0 : Heap} (H : ∀ T' (z : Int64), own_S p l e R s m av below meth c Z y co ml rt n0 T' ce sl h0 → P z → own_Fin p e below s n0 Q k n T' (mkF m pc Ls (.long z :: st))) :
    ∀ T' h' v, own_S p l e R s m av below meth c Z y co ml rt n0 T' ce sl h' → own_QJ (fun z h => P z ∧ h = h0) v h' → own_Fin p e below s n0 Q k n T' (mkF m pc Ls (v.toList ++ st)) := by
  rintro T' h' v X ⟨z, rfl, hz, rfl⟩; exact H T' z X hz
theorem own_contR {P : Value → Prop} {h0 : Heap} (H : ∀ T' (z : Value), own_S p l e R s m av below meth c Z y co ml rt n0 T' ce sl h0 → P z → own_Fin p e below s n0 Q k n T' (mkF m pc Ls (z :: st))) :
    ∀ T' h' v, own_S p l e R s m av below meth c Z y co ml rt n0 T' ce sl h' → own_QR (fun z h => P z ∧ h = h0) v h' → own_Fin p e below s n0 Q k n T' (mkF m pc Ls (v.toList ++ st)) := by
  rintro T' h' v X ⟨z, rfl, hz, rfl⟩; exact H T' z X hz
theorem own_contIH {P : Int32 → Heap → Prop} (H : ∀ T' h' (z : Int32), own_S p l e R s m av below meth c Z y co ml rt n0 T' ce sl h' → P z h' → own_Fin p e below s n0 Q k n T' (mkF m pc Ls (.int z :: st))) :
    ∀ T' h' v, own_S p l e R s m av below meth c Z y co ml rt n0 T' ce sl h' → own_QI P v h' → own_Fin p e below s n0 Q k n T' (mkF m pc Ls (v.toList ++ st)) := by
  rintro T' h' v X ⟨z, rfl, hz⟩; exact H T' h' z X hz
theorem own_contRH {P : Value → Heap → Prop} (H : ∀ T' h' (z : Value), own_S p l e R s m av below meth c Z y co ml rt n0 T' ce sl h' → P z h' → own_Fin p e below s n0 Q k n T' (mkF m pc Ls (z :: st))) :
    ∀ T' h' v, own_S p l e R s m av below meth c Z y co ml rt n0 T' ce sl h' → own_QR P v h' → own_Fin p e below s n0 Q k n T' (mkF m pc Ls (v.toList ++ st)) := by
  rintro T' h' v X ⟨z, rfl, hz⟩; exact H T' h' z X hz
theorem own_contV {P : Prop} {h0 : Heap} (H : ∀ T', own_S p l e R s m av below meth c Z y co ml rt n0 T' ce sl h0 → P → own_Fin p e below s n0 Q k n T' (mkF m pc Ls st)) :
    ∀ T' h' v, own_S p l e R s m av below meth c Z y co ml rt n0 T' ce sl h' → own_QV (fun h => P ∧ h = h0) v h' → own_Fin p e below s n0 Q k n T' (mkF m pc Ls (v.toList ++ st)) := by
  rintro T' h' v X ⟨rfl, hz, rfl⟩; exact H T' X hz
theorem own_contVH {P : Heap → Prop} (H : ∀ T' h', own_S p l e R s m av below meth c Z y co ml rt n0 T' ce sl h' → P h' → own_Fin p e below s n0 Q k n T' (mkF m pc Ls st)) :
    ∀ T' h' v, own_S p l e R s m av below meth c Z y co ml rt n0 T' ce sl h' → own_QV P v h' → own_Fin p e below s n0 Q k n T' (mkF m pc Ls (v.toList ++ st)) := by
  rintro T' h' v X ⟨rfl, hz⟩; exact H T' h' X hz
/-- fields, new, Object.<init>, the other calls -/
theorem own_getF (X : own_S p l e R s m av below meth c Z y co ml rt n0 T ce sl h) {R0 O nm d host : String} {ix : Nat} {a : Addr} {v : Value} (w : (Jvm.Cond.fieldLink y.cls ix R0 nm d).before a0 Z = true ∨ (Jvm.Cond.fieldLinkNest y.cls ix R0 nm d host).before a0 Z = true) (via : Via Z R0 O nm d) (F : Fld Z h a O nm d v) (hd : decode co pc = .ok (.getfield ix, 3))
    (H : ∀ T', own_S p l e R s m av below meth c Z y co ml rt n0 T' ce sl h → own_Fin p e below s n0 Q k n T' (mkF m (pc + 3) Ls (v :: st))) : own_Fin p e below s n0 Q k n T (mkF m pc Ls (.ref a :: st)) := by
  obtain ⟨C, locs, X, N, eh, hn⟩ := X
  obtain ⟨hx, hby, hml, hown, -, -, -, hZ⟩ := id C
  obtain ⟨T', X', e', st'⟩ := getF X hx hZ hown w via eh F (g := mkF m pc Ls (.ref a :: st)) rfl rfl (hb hby hd)
  exact own_go st' (H T' ⟨C, _, X', N, e', hn⟩)
theorem own_putF (X : own_S p l e R s m av below meth c Z y co ml rt n0 T ce sl h) {R0 O nm d host K : String} {ix kk : Nat} {ty : FieldType} {a : Addr} {v old : Value} (w : (Jvm.Cond.fieldLink y.cls ix R0 nm d).before a0 Z = true ∨ (Jvm.Cond.fieldLinkNest y.cls ix R0 nm d host).before a0 Z = true) (via : Via Z R0 O nm d) (F : Fld Z h a O nm d old) (E : Exa Z h a K)
    (Lw : (Jvm.Cond.lays K O nm d).before a0 Z = true ∨ ((Jvm.Cond.laysFinal K O nm d).before a0 Z = true ∧ y.cls = O ∧ y.name = "<init>")) (wi : (Jvm.Cond.instantiable K kk).before a0 Z = true) (hty : parseFieldDescriptor d = some ty) (hnw : narrow ty v = v) (hft : fits ty v = true) (ge : n0 ≤ a) (hd : decode co pc = .ok (.putfield ix, 3))
    (H : ∀ T' h', own_S p l e R s m av below meth c Z y co ml rt n0 T' ce sl h' → Wr h h' a (Jvm.RoadKit.slotOf Z O nm d) v → own_Fin p e below s n0 Q k n T' (mkF m (pc + 3) Ls st)) : own_Fin p e below s n0 Q k n T (mkF m pc Ls (v :: .ref a :: st)) := by
  obtain ⟨C, locs, X, N, eh, hn⟩ := X
  obtain ⟨hx, hby, hml, hown, hnm, -, -, hZ⟩ := id C
  obtain ⟨T', h', X', e', W, st'⟩ := putF X hx hZ hown w via eh F E (Lw.imp id fun q => ⟨q.1, q.2.1, hnm.trans q.2.2⟩) wi hty hnw hft (g := mkF m pc Ls (v :: .ref a :: st)) rfl rfl (hb hby hd)
  exact own_go st' (H T' h' ⟨C, _, X', Fr.snoc X' N ge, e', hn⟩ W)
theorem own_putFZ (X : own_S p l e R s m av below meth c Z y co ml rt n0 T ce sl h) {R0 O nm d K : String} {ix kk : Nat} {ty : FieldType} {a : Addr} {v v' old : Value} (w : (Jvm.Cond.fieldLink y.cls ix R0 nm d).before a0 Z = true) (via : Via Z R0 O nm d) (F : Fld Z h a O nm d old) (E : Exa Z h a K)
    (Lw : (Jvm.Cond.lays K O nm d).before a0 Z = true ∨ ((Jvm.Cond.laysFinal K O nm d).before a0 Z = true ∧ y.cls = O ∧ y.name = "<init>")) (wi : (Jvm.Cond.instantiable K kk).before a0 Z = true) (hty : parseFieldDescriptor d = some ty) (hnw : narrow ty v = v') (hft : fits ty v' = true) (ge : n0 ≤ a) (hd : decode co pc = .ok (.putfield ix, 3))
    (H : ∀ T' h', own_S p l e R s m av below meth c Z y co ml rt n0 T' ce sl h' → Wr h h' a (Jvm.RoadKit.slotOf Z O nm d) v' → own_Fin p e below s n0 Q k n T' (mkF m (pc + 3) Ls st)) : own_Fin p e below s n0 Q k n T (mkF m pc Ls (v :: .ref a :: st)) := by
  obtain ⟨C, locs, X, N, eh, hn⟩ := X
  obtain ⟨hx, hby, hml, hown, hnm, -, -, hZ⟩ := id C
  obtain ⟨T', h', X', e', W, st'⟩ := putFN X hx hZ hown w via eh F E (Lw.imp id fun q => ⟨q.1, q.2.1, hnm.trans q.2.2⟩) wi hty hnw hft (g := mkF m pc Ls (v :: .ref a :: st)) rfl rfl (hb hby hd)
  exact own_go st' (H T' h' ⟨C, _, X', Fr.snoc X' N ge, e', hn⟩ W)
theorem own_newO (X : own_S p l e R s m av below meth c Z y co ml rt n0 T ce sl h) {K : String} {ix nn : Nat} (w : (Jvm.Cond.classLink y.cls ix K).before a0 Z = true) (wi : (Jvm.Cond.instantiable K nn).before a0 Z = true) (wz : (Jvm.Cond.initialized K).before a0 Z = true) (hd : decode co pc = .ok (.new ix, 3)) (hc : ce + 1 ≤ R.cells) (hs : sl + nn ≤ R.slots)
    (H : ∀ T' h' (b : Addr), b = h.size → n0 ≤ b → own_S p l e R s m av below meth c Z y co ml rt n0 T' (ce + 1) (sl + nn) h' → Ext h h' → Exa Z h' b K → (∀ {O nm d : String} {ty : FieldType}, Laid Z a0 K O nm d → parseFieldDescriptor d = some ty → Fld Z h' b O nm d (defaultValue ty)) → own_Fin p e below s n0 Q k n T' (mkF m (pc + 3) Ls (.ref b :: st))) : own_Fin p e below s n0 Q k n T (mkF m pc Ls st) := by
  have hz := own_size X
  obtain ⟨C, locs, X, N, eh, hn⟩ := X
  obtain ⟨hx, hby, hml, hown, hnm, -, -, hZ⟩ := id C
  obtain ⟨T', h', X', e', E, A, D, -, st'⟩ := newO X hx hZ hown w wi wz eh (g := mkF m pc Ls st) rfl (hb hby hd) hc hs
  exact own_go st' (H T' h' _ rfl hz ⟨C, _, X', N, e', hn⟩ E A D)
/-- a constructor by its contract -/
theorem own_callI (X : own_S p l e R s m av below meth c Z y co ml rt n0 T ce sl h) {ix : Nat} {y' : MethodName} {co' : ByteArray} {ml' W : Nat} {rm : Room} {Q' : Option Value → Heap → Prop} {a : Addr} {argsL rest stk : List Value} (hi : y'.name = "<init>")
    (w1 : (Jvm.Cond.methodLink y.cls ix y').before a0 Z = true) (w2 : (Jvm.Cond.instanceMethod y').before a0 Z = true) (w3 : (Jvm.Cond.initialized y'.cls).before a0 Z = true) (w4 : (Jvm.Cond.code y' co' ml' none).before a0 Z = true) (hy : y'.cls ≠ "java/lang/invoke/MethodHandle" ∧ y'.cls ≠ "java/lang/invoke/VarHandle")
    (M : own_Met l Z y' co' ml' none [] rm (.ref a :: argsL).toArray h n0 Q') (hf : rm.frames + 1 ≤ R.frames) (hlo : W + (ml' + 11) + rm.locals ≤ R.locals) (hce : ce + rm.cells ≤ R.cells) (hsl : sl + rm.slots ≤ R.slots)
    (hL : Ls.size = ml) (hlen : ∀ sig, parseMethodDescriptor y'.desc = some sig → argsL.length = sig.parameters.length) (hs : stk = argsL.reverse ++ .ref a :: rest) (hW : (rest.map fun v => v.category).sum ≤ W) (hd : decode co pc = .ok (.invokespecial ix, 3))
    (H : ∀ T' h' v, own_S p l e R s m av below meth c Z y co ml rt n0 T' (ce + rm.cells) (sl + rm.slots) h' → Q' v h' → own_Fin p e below s n0 Q k n T' (mkF m (pc + 3) Ls (v.toList ++ rest))) : own_Fin p e below s n0 Q k n T (mkF m pc Ls stk) := by
  obtain ⟨C, locs, X, N, eh, hn⟩ := X
  obtain ⟨hx, hby, hml, hown, -, -, -, hZ⟩ := id C
  obtain ⟨v, _, ⟨T', L', k', n'⟩, -, X', ⟨Lc, ⟨hN, hQ⟩, l1, l2, l3⟩, st'⟩ := X.specialBack hx (y := y') hi hown (mvT hZ w1) (mvT hZ w2) (mvT hZ w4) hy (backOf (Q := fun v h' L => Fr n0 L ∧ Q' v h') (W := W) M hZ w4 w3 hf hlo) (g := mkF m pc Ls stk) rfl (by rw [hml]; exact hL) (Steps.refl _) (a := a) (argsL := argsL) (rest := rest) hlen hs (by show 2 * 0 + _ ≤ _; omega) (hb hby hd) (fun _ _ => ⟨rfl, eh, hce, hsl⟩)
  dsimp only [Pt.U, Pt.locs, Pt.cells, Pt.slots] at X' l1 l2 l3 st' hQ
  subst l1 l2 l3
  exact own_goT st' (H T' T'.heap v ⟨C, _, X', N.app hN, rfl, hn⟩ hQ)
/-- an instance method by its contract -/
theorem own_callV (X : own_S p l e R s m av below meth c Z y co ml rt n0 T ce sl h) {ix : Nat} {K : String} {y' : MethodName} {co' : ByteArray} {ml' W : Nat} {rt' : Option FieldType} {rm : Room} {Q' : Option Value → Heap → Prop} {a : Addr} {argsL rest stk : List Value}
    (w1 : (Jvm.Cond.methodLink y.cls ix y').before a0 Z = true) (w2 : (Jvm.Cond.declares y').before a0 Z = true) (w3 : (Jvm.Cond.selects K y' y').before a0 Z = true) (w5 : (Jvm.Cond.instanceMethod y').before a0 Z = true) (w6 : (Jvm.Cond.initialized y'.cls).before a0 Z = true) (w4 : (Jvm.Cond.code y' co' ml' rt').before a0 Z = true) (hK : K = y'.cls) (hy : y'.cls ≠ "java/lang/invoke/MethodHandle" ∧ y'.cls ≠ "java/lang/invoke/VarHandle")
    (M : own_Met l Z y' co' ml' rt' [] rm (.ref a :: argsL).toArray h n0 Q') (E : Exa Z h a K) (hf : rm.frames + 1 ≤ R.frames) (hlo : W + (ml' + 11) + rm.locals ≤ R.locals) (hce : ce + rm.cells ≤ R.cells) (hsl : sl + rm.slots ≤ R.slots)
    (hL : Ls.size = ml) (hlen : ∀ sig, parseMethodDescriptor y'.desc = some sig → argsL.length = sig.parameters.length) (hs : stk = argsL.reverse ++ .ref a :: rest) (hW : (rest.map fun v => v.category).sum ≤ W) (hd : decode co pc = .ok (.invokevirtual ix, 3))
    (H : ∀ T' h' v, own_S p l e R s m av below meth c Z y co ml rt n0 T' (ce + rm.cells) (sl + rm.slots) h' → Q' v h' → own_Fin p e below s n0 Q k n T' (mkF m (pc + 3) Ls (v.toList ++ rest))) : own_Fin p e below s n0 Q k n T (mkF m pc Ls stk) := by
  subst hK
  obtain ⟨C, locs, X, N, eh, hn⟩ := X
  obtain ⟨hx, hby, hml, hown, -, -, -, hZ⟩ := id C
  obtain ⟨cq, kq, qa, qb, qc⟩ := isOf (T := T) hZ eh E
  obtain ⟨v, _, ⟨T', L', k', n'⟩, -, X', ⟨Lc, ⟨hN, hQ⟩, l1, l2, l3⟩, st'⟩ := X.virtualBack hx (y := y') (z := y') hown (mvT hZ w1) (mvT hZ w2) (notFace_of_selects (args := #[]) (mvT hZ w3)) (mvT hZ w3) (mvT hZ w5) hy (backOf (Q := fun v h' L => Fr n0 L ∧ Q' v h') (W := W) M hZ w4 w6 hf hlo) qa qc (g := mkF m pc Ls stk) rfl (by rw [hml]; exact hL) (Steps.refl _) (argsL := argsL) (rest := rest) hlen hs (by show 2 * 0 + _ ≤ _; omega) (hb hby hd) (fun _ _ => ⟨rfl, eh, hce, hsl⟩)
  dsimp only [Pt.U, Pt.locs, Pt.cells, Pt.slots] at X' l1 l2 l3 st' hQ
  subst l1 l2 l3
  exact own_goT st' (H T' T'.heap v ⟨C, _, X', N.app hN, rfl, hn⟩ hQ)
/-- an array of ints (bytes, chars ..) of N places: place j holds f j -/
def own_AI (Z : State) (h : Heap) (a : Addr) (ty : FieldType) (N : Int32) (f : Int32 → Int32) : Prop := ∃ c : Cell, Arr Z h a c ty ∧ c.slots.size = N.toNatClampNeg ∧ ¬ N < 0 ∧ ∀ j : Int32, ¬ j < 0 → j < N → c.slots[j.toNatClampNeg]? = some (.int (f j)) ∧ fits ty (.int (f j)) = true
def own_AJ (Z : State) (h : Heap) (a : Addr) (N : Int32) (f : Int32 → Int64) : Prop := ∃ c : Cell, Arr Z h a c .long ∧ c.slots.size = N.toNatClampNeg ∧ ¬ N < 0 ∧ ∀ j : Int32, ¬ j < 0 → j < N → c.slots[j.toNatClampNeg]? = some (.long (f j))
def own_upd {α : Type} (f : Int32 → α) (j : Int32) (x : α) : Int32 → α := fun q => if q = j then x else f q
theorem own_upd_hit {α : Type} (f : Int32 → α) (j : Int32) (x : α) : own_upd f j x j = x := if_pos rfl
theorem own_upd_miss {α : Type} {f : Int32 → α} {j i : Int32} {x : α} (q : ¬ i = j) : own_upd f j x i = f i := if_neg q
theorem own_upd_yes {α : Type} {f : Int32 → α} {j i : Int32} {x : α} (q : i = j) : own_upd f j x i = x := if_pos q
theorem own_nat {i j : Int32} (hi : ¬ i < 0) (hj : ¬ j < 0) (ne : ¬ i = j) : i.toNatClampNeg ≠ j.toNatClampNeg := fun q => ne (Int32.toInt_inj.mp (by rw [nat_of hi, nat_of hj, q]))
theorem own_inb {cl : Cell} {j N : Int32} (S : cl.slots.size = N.toNatClampNeg) (h0 : ¬ j < 0) (h1 : j < N) : ¬ (j < 0 ∨ cl.slots.size ≤ j.toNatClampNeg) := inb_of S ⟨h0, h1⟩
section Facts
variable {h' : Heap} {a b : Addr} {ty : FieldType} {N : Int32} {f : Int32 → Int32} {g : Int32 → Int64} {i : Nat} {v : Value} {ws : List Addr}
theorem own_AI.lt (F : own_AI Z h a ty N f) : a < h.size := by obtain ⟨c, A, -⟩ := F; exact A.lt
theorem own_AI.ext (F : own_AI Z h a ty N f) (E : Ext h h') : own_AI Z h' a ty N f := by obtain ⟨c, A, r⟩ := F; exact ⟨c, A.ext E, r⟩
theorem own_AI.other (F : own_AI Z h b ty N f) (W : Wr h h' a i v) (q : b ≠ a) : own_AI Z h' b ty N f := by obtain ⟨c, A, r⟩ := F; exact ⟨c, A.other W q, r⟩
theorem own_AI.keep (F : own_AI Z h a ty N f) (K : Keep h h' ws) (q : a ∉ ws) : own_AI Z h' a ty N f := by obtain ⟨c, A, r⟩ := F; exact ⟨c, ⟨K.2.1 a c A.1 q, A.2⟩, r⟩
theorem own_AI.nn (F : own_AI Z h a ty N f) : ¬ N < 0 := by obtain ⟨c, -, -, r, -⟩ := F; exact r
theorem own_AI.fit (F : own_AI Z h a ty N f) {j : Int32} (h0 : ¬ j < 0) (h1 : j < N) : fits ty (.int (f j)) = true := by obtain ⟨c, -, -, -, r⟩ := F; exact (r j h0 h1).2
theorem own_AI.set (F : own_AI Z h a ty N f) {j x : Int32} (h0 : ¬ j < 0) (h1 : j < N) (W : Wr h h' a j.toNatClampNeg (.int x)) (hf : fits ty (.int x) = true) : own_AI Z h' a ty N (own_upd f j x) := by
  obtain ⟨c, A, S, hN, r⟩ := F
  refine ⟨_, A.same W, (sz_set _ _ _).trans S, hN, fun q q0 q1 => ?_⟩
  by_cases e : q = j
  · subst e; rw [own_upd_hit]; exact ⟨get_hit (own_inb S h0 h1) rfl, hf⟩
  · rw [own_upd_miss e, get_miss h0 q0 e]; exact r q q0 q1
theorem own_AI.eqv (F : own_AI Z h a ty N f) {f' : Int32 → Int32} (q : ∀ j : Int32, ¬ j < 0 → j < N → f j = f' j) : own_AI Z h a ty N f' := by
  obtain ⟨c, A, S, hN, r⟩ := F
  exact ⟨c, A, S, hN, fun j h0 h1 => by rw [← q j h0 h1]; exact r j h0 h1⟩
theorem own_AJ.lt (F : own_AJ Z h a N g) : a < h.size := by obtain ⟨c, A, -⟩ := F; exact A.lt
theorem own_AJ.ext (F : own_AJ Z h a N g) (E : Ext h h') : own_AJ Z h' a N g := by obtain ⟨c, A, r⟩ := F; exact ⟨c, A.ext E, r⟩
theorem own_AJ.other (F : own_AJ Z h b N g) (W : Wr h h' a i v) (q : b ≠ a) : own_AJ Z h' b N g := by obtain ⟨c, A, r⟩ := F; exact ⟨c, A.other W q, r⟩
theorem own_AJ.keep (F : own_AJ Z h a N g) (K : Keep h h' ws) (q : a ∉ ws) : own_AJ Z h' a N g := by obtain ⟨c, A, r⟩ := F; exact ⟨c, ⟨K.2.1 a c A.1 q, A.2⟩, r⟩
theorem own_AJ.set (F : own_AJ Z h a N g) {j : Int32} {x : Int64} (h0 : ¬ j < 0) (h1 : j < N) (W : Wr h h' a j.toNatClampNeg (.long x)) : own_AJ Z h' a N (own_upd g j x) := by
  obtain ⟨c, A, S, hN, r⟩ := F
  refine ⟨_, A.same W, (sz_set _ _ _).trans S, hN, fun q q0 q1 => ?_⟩
  by_cases e : q = j
  · subst e; rw [own_upd_hit]; exact get_hit (own_inb S h0 h1) rfl
  · rw [own_upd_miss e, get_miss h0 q0 e]; exact r q q0 q1
theorem own_ne_ai {K : String} {kk : Nat} (E : Exa Z h a K) (wi : (Jvm.Cond.instantiable K kk).before a0 Z = true) (F : own_AI Z h b ty N f) : a ≠ b := by obtain ⟨c, A, -⟩ := F; exact ne_arr E wi A
theorem own_ne_aj {K : String} {kk : Nat} (E : Exa Z h a K) (wi : (Jvm.Cond.instantiable K kk).before a0 Z = true) (F : own_AJ Z h b N g) : a ≠ b := by obtain ⟨c, A, -⟩ := F; exact ne_arr E wi A
end Facts
theorem own_byteR {z : Int32} (hf : fits .byte (.int z) = true) : -128 ≤ z.toInt ∧ z.toInt < 128 := by
  simp only [fits, Bool.and_eq_true, decide_eq_true_eq, Int32.le_iff_toInt_le, show (-128 : Int32).toInt = -128 from by decide, show (127 : Int32).toInt = 127 from by decide] at hf
  omega
theorem own_alen (X : own_S p l e R s m av below meth c Z y co ml rt n0 T ce sl h) {a : Addr} {ty : FieldType} {N : Int32} {f : Int32 → Int32} (A : own_AI Z h a ty N f) (hd : decode co pc = .ok (.arraylength, 1)) (H : own_Fin p e below s n0 Q k n T (mkF m (pc + 1) Ls (.int N :: st))) : own_Fin p e below s n0 Q k n T (mkF m pc Ls (.ref a :: st)) := by
  obtain ⟨⟨hx, hby, -, -, -, -, -, hZ⟩, locs, X, -, eh, -⟩ := X
  obtain ⟨cl, A, S, hN, -⟩ := A
  refine own_go (fun _ q => X.arraylength hx (by rw [eh]; exact A.1) (State.isArrayOf_alike hZ.alike A.2.1) (g := mkF m pc Ls (.ref a :: st)) rfl rfl (hb hby hd) _ ?_) H
  rw [len_of S hN]; exact q
theorem own_alenJ (X : own_S p l e R s m av below meth c Z y co ml rt n0 T ce sl h) {a : Addr} {N : Int32} {f : Int32 → Int64} (A : own_AJ Z h a N f) (hd : decode co pc = .ok (.arraylength, 1)) (H : own_Fin p e below s n0 Q k n T (mkF m (pc + 1) Ls (.int N :: st))) : own_Fin p e below s n0 Q k n T (mkF m pc Ls (.ref a :: st)) := by
  obtain ⟨⟨hx, hby, -, -, -, -, -, hZ⟩, locs, X, -, eh, -⟩ := X
  obtain ⟨cl, A, S, hN, -⟩ := A
  refine own_go (fun _ q => X.arraylength hx (by rw [eh]; exact A.1) (State.isArrayOf_alike hZ.alike A.2.1) (g := mkF m pc Ls (.ref a :: st)) rfl rfl (hb hby hd) _ ?_) H
  rw [len_of S hN]; exact q
theorem own_iaload (X : own_S p l e R s m av below meth c Z y co ml rt n0 T ce sl h) {a : Addr} {N j : Int32} {f : Int32 → Int32} (A : own_AI Z h a .int N f) (h0 : ¬ j < 0) (h1 : j < N) (hd : decode co pc = .ok (.iaload, 1)) (H : ∀ v, f j = v → -2147483648 ≤ v.toInt → v.toInt < 2147483648 → own_Fin p e below s n0 Q k n T (mkF m (pc + 1) Ls (.int v :: st))) : own_Fin p e below s n0 Q k n T (mkF m pc Ls (.int j :: .ref a :: st)) := by
  obtain ⟨⟨hx, hby, -, -, -, -, -, hZ⟩, locs, X, -, eh, -⟩ := X
  obtain ⟨cl, A, S, hN, r⟩ := A
  exact own_go (fun _ q => X.iaload hx (by rw [eh]; exact A.1) (State.isArrayOf_alike hZ.alike A.2.1) A.2.2 (own_inb S h0 h1) (r j h0 h1).1 (g := mkF m pc Ls (.int j :: .ref a :: st)) rfl rfl (hb hby hd) _ q) (H _ rfl (rng32 _).1 (rng32 _).2)
theorem own_baload (X : own_S p l e R s m av below meth c Z y co ml rt n0 T ce sl h) {a : Addr} {N j : Int32} {f : Int32 → Int32} (A : own_AI Z h a .byte N f) (h0 : ¬ j < 0) (h1 : j < N) (hd : decode co pc = .ok (.baload, 1)) (H : ∀ v, f j = v → -128 ≤ v.toInt → v.toInt < 128 → own_Fin p e below s n0 Q k n T (mkF m (pc + 1) Ls (.int v :: st))) : own_Fin p e below s n0 Q k n T (mkF m pc Ls (.int j :: .ref a :: st)) := by
  obtain ⟨⟨hx, hby, -, -, -, -, -, hZ⟩, locs, X, -, eh, -⟩ := X
  obtain ⟨cl, A, S, hN, r⟩ := A
  exact own_go (fun _ q => X.baloadBytes hx (by rw [eh]; exact A.1) (State.isArrayOf_alike hZ.alike A.2.1) A.2.2 (own_inb S h0 h1) (r j h0 h1).1 (g := mkF m pc Ls (.int j :: .ref a :: st)) rfl rfl (hb hby hd) _ q) (H _ rfl (own_byteR (r j h0 h1).2).1 (own_byteR (r j h0 h1).2).2)
theorem own_laload (X : own_S p l e R s m av below meth c Z y co ml rt n0 T ce sl h) {a : Addr} {N j : Int32} {f : Int32 → Int64} (A : own_AJ Z h a N f) (h0 : ¬ j < 0) (h1 : j < N) (hd : decode co pc = .ok (.laload, 1)) (H : ∀ v, f j = v → -9223372036854775808 ≤ v.toInt → v.toInt < 9223372036854775808 → own_Fin p e below s n0 Q k n T (mkF m (pc + 1) Ls (.long v :: st))) : own_Fin p e below s n0 Q k n T (mkF m pc Ls (.int j :: .ref a :: st)) := by
  obtain ⟨⟨hx, hby, -, -, -, -, -, hZ⟩, locs, X, -, eh, -⟩ := X
  obtain ⟨cl, A, S, hN, r⟩ := A
  exact own_go (fun _ q => X.laload hx (by rw [eh]; exact A.1) (State.isArrayOf_alike hZ.alike A.2.1) A.2.2 (own_inb S h0 h1) (r j h0 h1) (g := mkF m pc Ls (.int j :: .ref a :: st)) rfl rfl (hb hby hd) _ q) (H _ rfl (rng64 _).1 (rng64 _).2)
theorem own_bastore (X : own_S p l e R s m av below meth c Z y co ml rt n0 T ce sl h) {a : Addr} {N j x x' : Int32} {f : Int32 → Int32} (A : own_AI Z h a .byte N f) (h0 : ¬ j < 0) (h1 : j < N) (ge : n0 ≤ a) (hx' : x.toInt8.toInt32 = x') (hd : decode co pc = .ok (.bastore, 1))
    (H : ∀ T' h', own_S p l e R s m av below meth c Z y co ml rt n0 T' ce sl h' → ∀ f', f' = own_upd f j x' → own_AI Z h' a .byte N f' → Wr h h' a j.toNatClampNeg (.int x') → own_Fin p e below s n0 Q k n T' (mkF m (pc + 1) Ls st)) : own_Fin p e below s n0 Q k n T (mkF m pc Ls (.int x :: .int j :: .ref a :: st)) := by
  obtain ⟨C, locs, X, N', eh, hn⟩ := X
  obtain ⟨hx, hby, hml, hown, -, -, -, hZ⟩ := id C
  obtain ⟨cl, A', S, hN, r⟩ := id A
  obtain ⟨T', h', X', e', W, st'⟩ := stB X hx hZ eh A' (j := j) (own_inb S h0 h1) (g := mkF m pc Ls (.int x :: .int j :: .ref a :: st)) rfl rfl (hb hby hd)
  have W' : Wr h h' a j.toNatClampNeg (.int x') := by rw [← hx']; exact W
  exact own_go st' (H T' h' ⟨C, _, X', Fr.snoc X' N' ge, e', hn⟩ _ rfl (A.set h0 h1 W' (by rw [← hx']; exact fits_nar_byte x)) W')
theorem own_iastore (X : own_S p l e R s m av below meth c Z y co ml rt n0 T ce sl h) {a : Addr} {N j x : Int32} {f : Int32 → Int32} (A : own_AI Z h a .int N f) (h0 : ¬ j < 0) (h1 : j < N) (ge : n0 ≤ a) (hd : decode co pc = .ok (.iastore, 1))
    (H : ∀ T' h', own_S p l e R s m av below meth c Z y co ml rt n0 T' ce sl h' → ∀ f', f' = own_upd f j x → own_AI Z h' a .int N f' → Wr h h' a j.toNatClampNeg (.int x) → own_Fin p e below s n0 Q k n T' (mkF m (pc + 1) Ls st)) : own_Fin p e below s n0 Q k n T (mkF m pc Ls (.int x :: .int j :: .ref a :: st)) := by
  obtain ⟨C, locs, X, N', eh, hn⟩ := X
  obtain ⟨hx, hby, hml, hown, -, -, -, hZ⟩ := id C
  obtain ⟨cl, A', S, hN, r⟩ := id A
  obtain ⟨T', h', X', e', W, st'⟩ := stI X hx hZ eh A' (j := j) (own_inb S h0 h1) (g := mkF m pc Ls (.int x :: .int j :: .ref a :: st)) rfl rfl (hb hby hd)
  exact own_go st' (H T' h' ⟨C, _, X', Fr.snoc X' N' ge, e', hn⟩ _ rfl (A.set h0 h1 W rfl) W)
theorem own_lastore (X : own_S p l e R s m av below meth c Z y co ml rt n0 T ce sl h) {a : Addr} {N j : Int32} {x : Int64} {f : Int32 → Int64} (A : own_AJ Z h a N f) (h0 : ¬ j < 0) (h1 : j < N) (ge : n0 ≤ a) (hd : decode co pc = .ok (.lastore, 1))
    (H : ∀ T' h', own_S p l e R s m av below meth c Z y co ml rt n0 T' ce sl h' → ∀ f', f' = own_upd f j x → own_AJ Z h' a N f' → Wr h h' a j.toNatClampNeg (.long x) → own_Fin p e below s n0 Q k n T' (mkF m (pc + 1) Ls st)) : own_Fin p e below s n0 Q k n T (mkF m pc Ls (.long x :: .int j :: .ref a :: st)) := by
  obtain ⟨C, locs, X, N', eh, hn⟩ := X
  obtain ⟨hx, hby, hml, hown, -, -, -, hZ⟩ := id C
  obtain ⟨cl, A', S, hN, r⟩ := id A
  obtain ⟨T', h', X', e', W, st'⟩ := stJ X hx hZ eh A' (j := j) (own_inb S h0 h1) (g := mkF m pc Ls (.long x :: .int j :: .ref a :: st)) rfl rfl (hb hby hd)
  exact own_go st' (H T' h' ⟨C, _, X', Fr.snoc X' N' ge, e', hn⟩ _ rfl (A.set h0 h1 W) W)
theorem own_newP (X : own_S p l e R s m av below meth c Z y co ml rt n0 T ce sl h) {aty : ArrayType} {N : Int32} {cap : Nat} (w : (Jvm.Cond.arrayClass (newarray.typeOf aty)).before a0 Z = true) (hty : defaultValue (newarray.typeOf aty) = .int 0 ∧ fits (newarray.typeOf aty) (.int 0) = true) (hN : ¬ N < 0) (hcap : N.toNatClampNeg ≤ cap) (hb' : cap * 8 ≤ 536870912) (hc : ce + 1 ≤ R.cells) (hs : sl + cap ≤ R.slots) (hd : decode co pc = .ok (.newarray aty, 2))
    (H : ∀ T' h' (b : Addr), b = h.size → n0 ≤ b → own_S p l e R s m av below meth c Z y co ml rt n0 T' (ce + 1) (sl + cap) h' → Ext h h' → ∀ f' : Int32 → Int32, f' = (fun _ => 0) → own_AI Z h' b (newarray.typeOf aty) N f' → own_Fin p e below s n0 Q k n T' (mkF m (pc + 2) Ls (.ref b :: st))) : own_Fin p e below s n0 Q k n T (mkF m pc Ls (.int N :: st)) := by
  have hz := own_size X
  obtain ⟨C, locs, X, N', eh, hn⟩ := X
  obtain ⟨hx, hby, hml, hown, hnm, -, -, hZ⟩ := id C
  obtain ⟨T', h', cA, X', e', E, A, st'⟩ := newP X hx hZ w eh (g := mkF m pc Ls (.int N :: st)) rfl (hb hby hd) rfl hN hcap hb' hc hs
  refine own_go st' (H T' h' _ rfl hz ⟨C, _, X', N', e', hn⟩ E _ rfl ⟨_, A, sz_new _ _ _, hN, fun j h0 h1 => ⟨?_, hty.2⟩⟩)
  rw [get_new (fun q => own_inb (sz_new cA (newarray.typeOf aty) N) h0 h1 (q.imp id fun r => by rw [sz_new]; exact r)), hty.1]
theorem own_newJ (X : own_S p l e R s m av below meth c Z y co ml rt n0 T ce sl h) {N : Int32} {cap : Nat} (w : (Jvm.Cond.arrayClass .long).before a0 Z = true) (hN : ¬ N < 0) (hcap : N.toNatClampNeg ≤ cap) (hb' : cap * 8 ≤ 536870912) (hc : ce + 1 ≤ R.cells) (hs : sl + cap ≤ R.slots) (hd : decode co pc = .ok (.newarray .long, 2))
    (H : ∀ T' h' (b : Addr), b = h.size → n0 ≤ b → own_S p l e R s m av below meth c Z y co ml rt n0 T' (ce + 1) (sl + cap) h' → Ext h h' → ∀ f' : Int32 → Int64, f' = (fun _ => 0) → own_AJ Z h' b N f' → own_Fin p e below s n0 Q k n T' (mkF m (pc + 2) Ls (.ref b :: st))) : own_Fin p e below s n0 Q k n T (mkF m pc Ls (.int N :: st)) := by
  have hz := own_size X
  obtain ⟨C, locs, X, N', eh, hn⟩ := X
  obtain ⟨hx, hby, hml, hown, hnm, -, -, hZ⟩ := id C
  obtain ⟨T', h', cA, X', e', E, A, st'⟩ := newP (aty := .long) X hx hZ w eh (g := mkF m pc Ls (.int N :: st)) rfl (hb hby hd) rfl hN hcap hb' hc hs
  refine own_go st' (H T' h' _ rfl hz ⟨C, _, X', N', e', hn⟩ E _ rfl ⟨_, A, sz_new _ _ _, hN, fun j h0 h1 => ?_⟩)
  exact get_new (fun q => own_inb (sz_new cA .long N) h0 h1 (q.imp id fun r => by rw [sz_new]; exact r))
end Own
theorem own_xorN : ∀ n : Nat, n < 2048 → 2048 ≤ (55296 + n) ^^^ 8192 ∧ (55296 + n) ^^^ 8192 < 65536 := by decide +kernel
theorem own_toNat (x : Int32) (h : 0 ≤ x.toInt) : (x.toBitVec.toNat : Int) = x.toInt := by
  have e : x.toInt = x.toBitVec.toInt := rfl
  rw [e, BitVec.toInt_eq_toNat_cond] at h ⊢
  have := x.toBitVec.isLt
  split at h <;> rename_i q <;> simp only [q, if_true, if_false] <;> omega
theorem own_ofNat (x : Int32) (h : x.toBitVec.toNat < 2147483648) : x.toInt = (x.toBitVec.toNat : Int) := by
  have e : x.toInt = x.toBitVec.toInt := rfl
  rw [e, BitVec.toInt_eq_toNat_cond, if_pos (by omega)]
theorem own_xor (x v : Int32) (hx : x ^^^ (8192 : Int32) = v) (h1 : 55296 ≤ x.toInt) (h2 : x.toInt ≤ 57343) : 2048 ≤ v.toInt ∧ v.toInt < 65536 := by
  have hn := own_toNat x (by omega)
  obtain ⟨n, en⟩ : ∃ n, x.toBitVec.toNat = 55296 + n := ⟨x.toBitVec.toNat - 55296, by omega⟩
  have hv : v.toBitVec.toNat = (55296 + n) ^^^ 8192 := by rw [← hx, Int32.toBitVec_xor, BitVec.toNat_xor, en]; rfl
  have q := own_xorN n (by omega)
  rw [own_ofNat v (by omega), hv]
  omega
theorem ef_rm1_1 (m : MethodId) (o : Addr) (q : Int32) : entryFrame m #[(.ref o), (.int q), (.int (1 : Int32))] 5 = mkF m 0 #[.val (.ref o), .val (.int q), .val (.int (1 : Int32)), .unset, .unset] [] := by first | (simp [entryFrame, mkF, argsToLocals, Value.category]; done) | rfl
theorem d1_0 : decode prog_88_method_4_code 0 = .ok (.iload_n 2, 1) := by decide +kernel
theorem d1_1 : decode prog_88_method_4_code 1 = .ok (.iconst 1, 1) := by decide +kernel
theorem d1_2 : decode prog_88_method_4_code 2 = .ok (.if_icmp .ne 9, 3) := by decide +kernel
theorem d1_5 : decode prog_88_method_4_code 5 = .ok (.aload_n 0, 1) := by decide +kernel
theorem d1_6 : decode prog_88_method_4_code 6 = .ok (.iload_n 1, 1) := by decide +kernel
theorem d1_7 : decode prog_88_method_4_code 7 = .ok (.baload, 1) := by decide +kernel
theorem d1_8 : decode prog_88_method_4_code 8 = .ok (.goto 11, 3) := by decide +kernel
theorem d1_19 : decode prog_88_method_4_code 19 = .ok (.istore_n 3, 1) := by decide +kernel
theorem d1_20 : decode prog_88_method_4_code 20 = .ok (.iconst 1, 1) := by decide +kernel
theorem d1_21 : decode prog_88_method_4_code 21 = .ok (.istore 4, 2) := by decide +kernel
theorem d1_23 : decode prog_88_method_4_code 23 = .ok (.iload 4, 2) := by decide +kernel
theorem d1_25 : decode prog_88_method_4_code 25 = .ok (.iload_n 2, 1) := by decide +kernel
theorem d1_26 : decode prog_88_method_4_code 26 = .ok (.if_icmp .ge 24, 3) := by decide +kernel
theorem d1_50 : decode prog_88_method_4_code 50 = .ok (.iload_n 3, 1) := by decide +kernel
theorem d1_51 : decode prog_88_method_4_code 51 = .ok (.ireturn, 1) := by decide +kernel
theorem pn_1 : plainFor (⟨"com/example/shelfmark/shelfmark/impl/Utf8", "wellFormedCodePointAt", "([BII)I"⟩ : MethodName) = true := plainFor_of_name (show plainName "com/example/shelfmark/shelfmark/impl/Utf8" = true from by first | (simp [plainName, overriddenIn]; done) | decide +kernel)
set_option maxRecDepth 65536 in
set_option maxHeartbeats 40000000 in
theorem rm1_1 (l : Launch) (Z : State) (a0 : Array Value) (hw : ∀ d ∈ tables_1, d.before a0 Z = true) (ws : List Jvm.Cond) (o : Addr) (q : Int32) (f : Int32 → Int32) (N : Int32) (h0 : Heap) (n0 : Nat) (hn0 : n0 ≤ h0.size) (A_o : own_AI Z h0 o .byte N f) (hq0 : 0 ≤ q.toInt) (hqN : q.toInt + 1 ≤ N.toInt) :
    own_Met l Z (⟨"com/example/shelfmark/shelfmark/impl/Utf8", "wellFormedCodePointAt", "([BII)I"⟩ : MethodName) prog_88_method_4_code 5 (some .int) ws ({ frames := 0, cells := 0, slots := 0, locals := 0 } : Room) #[(.ref o), (.int q), (.int (1 : Int32))] h0 n0 (own_QI fun z h => (z.toInt = (f q).toInt) ∧ h = h0) := by
  refine own_met pn_1 hn0 (fun p e s m below meth c T X => ?_)
  refine own_cast (ef_rm1_1 m o q) ?_
  have r_q := rng32 q
  have r_N := rng32 N
  refine own_iloadN X d1_0 rfl ?_
  refine own_iconst X (1) d1_1 rfl ?_
  refine own_icmpNo X d1_2 (teq (own_cEq (a := 1) (b := 1) rfl rfl (by decide))).2 ?_
  refine own_aloadN X d1_5 rfl rfl ?_
  refine own_iloadN X d1_6 rfl ?_
  refine own_baload X A_o (own_cGe (a := q.toInt) (b := 0) rfl rfl (by omega)) (own_cLt (a := q.toInt) (b := N.toInt) rfl rfl (by omega)) d1_7 (fun v1 hv1 lv1 uv1 => ?_)
  refine own_goto X (pc := 8) (pc' := 19) d1_8 (by decide) (by decide) ?_
  refine own_istoreN X d1_19 (L' := #[.val (.ref o), .val (.int q), .val (.int (1 : Int32)), .val (.int v1), .unset]) rfl ?_
  refine own_iconst X (1) d1_20 rfl ?_
  refine own_istore X d1_21 (L' := #[.val (.ref o), .val (.int q), .val (.int (1 : Int32)), .val (.int v1), .val (.int (1 : Int32))]) rfl ?_
  refine own_iload X d1_23 rfl ?_
  refine own_iloadN X d1_25 rfl ?_
  refine own_icmpYes X (pc := 26) (pc' := 50) d1_26 (flt (own_cGe (a := 1) (b := 1) rfl rfl (by decide))).2.1 (by decide) (by decide) ?_
  refine own_iloadN X d1_50 rfl ?_
  refine own_retI X d1_51 (by decide) (by decide) ⟨_, rfl, ?_⟩
  exact ⟨by have x0 := congrArg Int32.toInt hv1; omega, rfl⟩
theorem ef_rm1_2 (m : MethodId) (o : Addr) (q : Int32) : entryFrame m #[(.ref o), (.int q), (.int (2 : Int32))] 5 = mkF m 0 #[.val (.ref o), .val (.int q), .val (.int (2 : Int32)), .unset, .unset] [] := by first | (simp [entryFrame, mkF, argsToLocals, Value.category]; done) | rfl
theorem d1_11 : decode prog_88_method_4_code 11 = .ok (.aload_n 0, 1) := by decide +kernel
theorem d1_12 : decode prog_88_method_4_code 12 = .ok (.iload_n 1, 1) := by decide +kernel
theorem d1_13 : decode prog_88_method_4_code 13 = .ok (.baload, 1) := by decide +kernel
theorem d1_14 : decode prog_88_method_4_code 14 = .ok (.bipush 127, 2) := by decide +kernel
theorem d1_16 : decode prog_88_method_4_code 16 = .ok (.iload_n 2, 1) := by decide +kernel
theorem d1_17 : decode prog_88_method_4_code 17 = .ok (.ishr, 1) := by decide +kernel
theorem d1_18 : decode prog_88_method_4_code 18 = .ok (.iand, 1) := by decide +kernel
theorem d1_29 : decode prog_88_method_4_code 29 = .ok (.iload_n 3, 1) := by decide +kernel
theorem d1_30 : decode prog_88_method_4_code 30 = .ok (.bipush 6, 2) := by decide +kernel
theorem d1_32 : decode prog_88_method_4_code 32 = .ok (.ishl, 1) := by decide +kernel
theorem d1_33 : decode prog_88_method_4_code 33 = .ok (.aload_n 0, 1) := by decide +kernel
theorem d1_34 : decode prog_88_method_4_code 34 = .ok (.iload_n 1, 1) := by decide +kernel
theorem d1_35 : decode prog_88_method_4_code 35 = .ok (.iload 4, 2) := by decide +kernel
theorem d1_37 : decode prog_88_method_4_code 37 = .ok (.iadd, 1) := by decide +kernel
theorem d1_38 : decode prog_88_method_4_code 38 = .ok (.baload, 1) := by decide +kernel
theorem d1_39 : decode prog_88_method_4_code 39 = .ok (.bipush 63, 2) := by decide +kernel
theorem d1_41 : decode prog_88_method_4_code 41 = .ok (.iand, 1) := by decide +kernel
theorem d1_42 : decode prog_88_method_4_code 42 = .ok (.ior, 1) := by decide +kernel
theorem d1_43 : decode prog_88_method_4_code 43 = .ok (.istore_n 3, 1) := by decide +kernel
theorem d1_44 : decode prog_88_method_4_code 44 = .ok (.iinc 4 1, 3) := by decide +kernel
theorem d1_47 : decode prog_88_method_4_code 47 = .ok (.goto (-24), 3) := by decide +kernel
set_option maxRecDepth 65536 in
set_option maxHeartbeats 40000000 in
theorem rm1_2 (l : Launch) (Z : State) (a0 : Array Value) (hw : ∀ d ∈ tables_1, d.before a0 Z = true) (ws : List Jvm.Cond) (o : Addr) (q : Int32) (f : Int32 → Int32) (N : Int32) (q1 : Int32) (h0 : Heap) (n0 : Nat) (hn0 : n0 ≤ h0.size) (A_o : own_AI Z h0 o .byte N f) (hq0 : 0 ≤ q.toInt) (hqN : q.toInt + 2 ≤ N.toInt) (hq1 : q + 1 = q1) :
    own_Met l Z (⟨"com/example/shelfmark/shelfmark/impl/Utf8", "wellFormedCodePointAt", "([BII)I"⟩ : MethodName) prog_88_method_4_code 5 (some .int) ws ({ frames := 0, cells := 0, slots := 0, locals := 0 } : Room) #[(.ref o), (.int q), (.int (2 : Int32))] h0 n0 (own_QI fun z h => (z.toInt = (f q).toInt % 32 * 64 + (f q1).toInt % 64) ∧ h = h0) := by
  refine own_met pn_1 hn0 (fun p e s m below meth c T X => ?_)
  refine own_cast (ef_rm1_2 m o q) ?_
  have r_q := rng32 q
  have r_N := rng32 N
  have r_q1 := rng32 q1
  have c_q1 : (q1.toInt - (q.toInt + 1)) % 4294967296 = 0 := by rw [← hq1]; exact c_iadd q 1
  refine own_iloadN X d1_0 rfl ?_
  refine own_iconst X (1) d1_1 rfl ?_
  refine own_icmpYes X (pc := 2) (pc' := 11) d1_2 (feq (own_cNe (a := 2) (b := 1) rfl rfl (by decide))).2 (by decide) (by decide) ?_
  refine own_aloadN X d1_11 rfl rfl ?_
  refine own_iloadN X d1_12 rfl ?_
  refine own_baload X A_o (own_cGe (a := q.toInt) (b := 0) rfl rfl (by omega)) (own_cLt (a := q.toInt) (b := N.toInt) rfl rfl (by omega)) d1_13 (fun v1 hv1 lv1 uv1 => ?_)
  refine own_bipush X (127) d1_14 rfl ?_
  refine own_iloadN X d1_16 rfl ?_
  refine own_ishrE X d1_17 (31 : Int32) (by decide) ?_
  refine own_iandM X (v1.toInt) 5 32 d1_18 rfl (by decide) (by decide) (by decide) (fun v2 hv2 cv2 lv2 uv2 => ?_)
  refine own_istoreN X d1_19 (L' := #[.val (.ref o), .val (.int q), .val (.int (2 : Int32)), .val (.int v2), .unset]) rfl ?_
  refine own_iconst X (1) d1_20 rfl ?_
  refine own_istore X d1_21 (L' := #[.val (.ref o), .val (.int q), .val (.int (2 : Int32)), .val (.int v2), .val (.int (1 : Int32))]) rfl ?_
  refine own_iload X d1_23 rfl ?_
  refine own_iloadN X d1_25 rfl ?_
  refine own_icmpNo X d1_26 (tlt (own_cLt (a := 1) (b := 2) rfl rfl (by decide))).2.1 ?_
  refine own_iloadN X d1_29 rfl ?_
  refine own_bipush X (6) d1_30 rfl ?_
  refine own_ishlK X (v2.toInt) 6 64 d1_32 rfl (by decide) (by decide) (fun v3 hv3 cv3 lv3 uv3 => ?_)
  refine own_aloadN X d1_33 rfl rfl ?_
  refine own_iloadN X d1_34 rfl ?_
  refine own_iload X d1_35 rfl ?_
  refine own_iaddE X d1_37 q1 (hq1) ?_
  refine own_baload X A_o (own_cGe (a := q1.toInt) (b := 0) rfl rfl (by omega)) (own_cLt (a := q1.toInt) (b := N.toInt) rfl rfl (by omega)) d1_38 (fun v4 hv4 lv4 uv4 => ?_)
  refine own_bipush X (63) d1_39 rfl ?_
  refine own_iandM X (v4.toInt) 6 64 d1_41 rfl (by decide) (by decide) (by decide) (fun v5 hv5 cv5 lv5 uv5 => ?_)
  refine own_iorM X (v3.toInt) (v5.toInt) 6 64 d1_42 rfl rfl (by decide) (by decide) (by omega) (by omega) (by omega) (fun v6 hv6 cv6 lv6 uv6 => ?_)
  refine own_istoreN X d1_43 (L' := #[.val (.ref o), .val (.int q), .val (.int (2 : Int32)), .val (.int v6), .val (.int (1 : Int32))]) rfl ?_
  refine own_iinc X d1_44 rfl rfl (L' := #[.val (.ref o), .val (.int q), .val (.int (2 : Int32)), .val (.int v6), .val (.int (2 : Int32))]) rfl ?_
  refine own_goto X (pc := 47) (pc' := 23) d1_47 (by decide) (by decide) ?_
  refine own_iload X d1_23 rfl ?_
  refine own_iloadN X d1_25 rfl ?_
  refine own_icmpYes X (pc := 26) (pc' := 50) d1_26 (flt (own_cGe (a := 2) (b := 2) rfl rfl (by decide))).2.1 (by decide) (by decide) ?_
  refine own_iloadN X d1_50 rfl ?_
  refine own_retI X d1_51 (by decide) (by decide) ⟨_, rfl, ?_⟩
  exact ⟨by have x0 := congrArg Int32.toInt hv1; have x1 := congrArg Int32.toInt hv4; omega, rfl⟩
theorem ef_rm1_3 (m : MethodId) (o : Addr) (q : Int32) : entryFrame m #[(.ref o), (.int q), (.int (3 : Int32))] 5 = mkF m 0 #[.val (.ref o), .val (.int q), .val (.int (3 : Int32)), .unset, .unset] [] := by first | (simp [entryFrame, mkF, argsToLocals, Value.category]; done) | rfl
set_option maxRecDepth 65536 in
set_option maxHeartbeats 40000000 in
theorem rm1_3 (l : Launch) (Z : State) (a0 : Array Value) (hw : ∀ d ∈ tables_1, d.before a0 Z = true) (ws : List Jvm.Cond) (o : Addr) (q : Int32) (f : Int32 → Int32) (N : Int32) (q1 : Int32) (q2 : Int32) (h0 : Heap) (n0 : Nat) (hn0 : n0 ≤ h0.size) (A_o : own_AI Z h0 o .byte N f) (hq0 : 0 ≤ q.toInt) (hqN : q.toInt + 3 ≤ N.toInt) (hq1 : q + 1 = q1) (hq2 : q + 2 = q2) :
    own_Met l Z (⟨"com/example/shelfmark/shelfmark/impl/Utf8", "wellFormedCodePointAt", "([BII)I"⟩ : MethodName) prog_88_method_4_code 5 (some .int) ws ({ frames := 0, cells := 0, slots := 0, locals := 0 } : Room) #[(.ref o), (.int q), (.int (3 : Int32))] h0 n0 (own_QI fun z h => (z.toInt = ((f q).toInt % 16 * 64 + (f q1).toInt % 64) * 64 + (f q2).toInt % 64) ∧ h = h0) := by
  refine own_met pn_1 hn0 (fun p e s m below meth c T X => ?_)
  refine own_cast (ef_rm1_3 m o q) ?_
  have r_q := rng32 q
  have r_N := rng32 N
  have r_q1 := rng32 q1
  have r_q2 := rng32 q2
  have c_q1 : (q1.toInt - (q.toInt + 1)) % 4294967296 = 0 := by rw [← hq1]; exact c_iadd q 1
  have c_q2 : (q2.toInt - (q.toInt + 2)) % 4294967296 = 0 := by rw [← hq2]; exact c_iadd q 2
  refine own_iloadN X d1_0 rfl ?_
  refine own_iconst X (1) d1_1 rfl ?_
  refine own_icmpYes X (pc := 2) (pc' := 11) d1_2 (feq (own_cNe (a := 3) (b := 1) rfl rfl (by decide))).2 (by decide) (by decide) ?_
  refine own_aloadN X d1_11 rfl rfl ?_
  refine own_iloadN X d1_12 rfl ?_
  refine own_baload X A_o (own_cGe (a := q.toInt) (b := 0) rfl rfl (by omega)) (own_cLt (a := q.toInt) (b := N.toInt) rfl rfl (by omega)) d1_13 (fun v1 hv1 lv1 uv1 => ?_)
  refine own_bipush X (127) d1_14 rfl ?_
  refine own_iloadN X d1_16 rfl ?_
  refine own_ishrE X d1_17 (15 : Int32) (by decide) ?_
  refine own_iandM X (v1.toInt) 4 16 d1_18 rfl (by decide) (by decide) (by decide) (fun v2 hv2 cv2 lv2 uv2 => ?_)
  refine own_istoreN X d1_19 (L' := #[.val (.ref o), .val (.int q), .val (.int (3 : Int32)), .val (.int v2), .unset]) rfl ?_
  refine own_iconst X (1) d1_20 rfl ?_
  refine own_istore X d1_21 (L' := #[.val (.ref o), .val (.int q), .val (.int (3 : Int32)), .val (.int v2), .val (.int (1 : Int32))]) rfl ?_
  refine own_iload X d1_23 rfl ?_
  refine own_iloadN X d1_25 rfl ?_
  refine own_icmpNo X d1_26 (tlt (own_cLt (a := 1) (b := 3) rfl rfl (by decide))).2.1 ?_
  refine own_iloadN X d1_29 rfl ?_
  refine own_bipush X (6) d1_30 rfl ?_
  refine own_ishlK X (v2.toInt) 6 64 d1_32 rfl (by decide) (by decide) (fun v3 hv3 cv3 lv3 uv3 => ?_)
  refine own_aloadN X d1_33 rfl rfl ?_
  refine own_iloadN X d1_34 rfl ?_
  refine own_iload X d1_35 rfl ?_
  refine own_iaddE X d1_37 q1 (hq1) ?_
  refine own_baload X A_o (own_cGe (a := q1.toInt) (b := 0) rfl rfl (by omega)) (own_cLt (a := q1.toInt) (b := N.toInt) rfl rfl (by omega)) d1_38 (fun v4 hv4 lv4 uv4 => ?_)
  refine own_bipush X (63) d1_39 rfl ?_
  refine own_iandM X (v4.toInt) 6 64 d1_41 rfl (by decide) (by decide) (by decide) (fun v5 hv5 cv5 lv5 uv5 => ?_)
  refine own_iorM X (v3.toInt) (v5.toInt) 6 64 d1_42 rfl rfl (by decide) (by decide) (by omega) (by omega) (by omega) (fun v6 hv6 cv6 lv6 uv6 => ?_)
  refine own_istoreN X d1_43 (L' := #[.val (.ref o), .val (.int q), .val (.int (3 : Int32)), .val (.int v6), .val (.int (1 : Int32))]) rfl ?_
  refine own_iinc X d1_44 rfl rfl (L' := #[.val (.ref o), .val (.int q), .val (.int (3 : Int32)), .val (.int v6), .val (.int (2 : Int32))]) rfl ?_
  refine own_goto X (pc := 47) (pc' := 23) d1_47 (by decide) (by decide) ?_
  refine own_iload X d1_23 rfl ?_
  refine own_iloadN X d1_25 rfl ?_
  refine own_icmpNo X d1_26 (tlt (own_cLt (a := 2) (b := 3) rfl rfl (by decide))).2.1 ?_
  refine own_iloadN X d1_29 rfl ?_
  refine own_bipush X (6) d1_30 rfl ?_
  refine own_ishlK X (v6.toInt) 6 64 d1_32 rfl (by decide) (by decide) (fun v7 hv7 cv7 lv7 uv7 => ?_)
  refine own_aloadN X d1_33 rfl rfl ?_
  refine own_iloadN X d1_34 rfl ?_
  refine own_iload X d1_35 rfl ?_
  refine own_iaddE X d1_37 q2 (hq2) ?_
  refine own_baload X A_o (own_cGe (a := q2.toInt) (b := 0) rfl rfl (by omega)) (own_cLt (a := q2.toInt) (b := N.toInt) rfl rfl (by omega)) d1_38 (fun v8 hv8 lv8 uv8 => ?_)
  refine own_bipush X (63) d1_39 rfl ?_
  refine own_iandM X (v8.toInt) 6 64 d1_41 rfl (by decide) (by decide) (by decide) (fun v9 hv9 cv9 lv9 uv9 => ?_)
  refine own_iorM X (v7.toInt) (v9.toInt) 6 64 d1_42 rfl rfl (by decide) (by decide) (by omega) (by omega) (by omega) (fun v10 hv10 cv10 lv10 uv10 => ?_)
  refine own_istoreN X d1_43 (L' := #[.val (.ref o), .val (.int q), .val (.int (3 : Int32)), .val (.int v10), .val (.int (2 : Int32))]) rfl ?_
  refine own_iinc X d1_44 rfl rfl (L' := #[.val (.ref o), .val (.int q), .val (.int (3 : Int32)), .val (.int v10), .val (.int (3 : Int32))]) rfl ?_
  refine own_goto X (pc := 47) (pc' := 23) d1_47 (by decide) (by decide) ?_
  refine own_iload X d1_23 rfl ?_
  refine own_iloadN X d1_25 rfl ?_
  refine own_icmpYes X (pc := 26) (pc' := 50) d1_26 (flt (own_cGe (a := 3) (b := 3) rfl rfl (by decide))).2.1 (by decide) (by decide) ?_
  refine own_iloadN X d1_50 rfl ?_
  refine own_retI X d1_51 (by decide) (by decide) ⟨_, rfl, ?_⟩
  exact ⟨by have x0 := congrArg Int32.toInt hv1; have x1 := congrArg Int32.toInt hv4; have x2 := congrArg Int32.toInt hv8; omega, rfl⟩
theorem ef_rm1_4 (m : MethodId) (o : Addr) (q : Int32) : entryFrame m #[(.ref o), (.int q), (.int (4 : Int32))] 5 = mkF m 0 #[.val (.ref o), .val (.int q), .val (.int (4 : Int32)), .unset, .unset] [] := by first | (simp [entryFrame, mkF, argsToLocals, Value.category]; done) | rfl
set_option maxRecDepth 65536 in
set_option maxHeartbeats 40000000 in
theorem rm1_4 (l : Launch) (Z : State) (a0 : Array Value) (hw : ∀ d ∈ tables_1, d.before a0 Z = true) (ws : List Jvm.Cond) (o : Addr) (q : Int32) (f : Int32 → Int32) (N : Int32) (q1 : Int32) (q2 : Int32) (q3 : Int32) (h0 : Heap) (n0 : Nat) (hn0 : n0 ≤ h0.size) (A_o : own_AI Z h0 o .byte N f) (hq0 : 0 ≤ q.toInt) (hqN : q.toInt + 4 ≤ N.toInt) (hq1 : q + 1 = q1) (hq2 : q + 2 = q2) (hq3 : q + 3 = q3) :
    own_Met l Z (⟨"com/example/shelfmark/shelfmark/impl/Utf8", "wellFormedCodePointAt", "([BII)I"⟩ : MethodName) prog_88_method_4_code 5 (some .int) ws ({ frames := 0, cells := 0, slots := 0, locals := 0 } : Room) #[(.ref o), (.int q), (.int (4 : Int32))] h0 n0 (own_QI fun z h => (z.toInt = (((f q).toInt % 8 * 64 + (f q1).toInt % 64) * 64 + (f q2).toInt % 64) * 64 + (f q3).toInt % 64) ∧ h = h0) := by
  refine own_met pn_1 hn0 (fun p e s m below meth c T X => ?_)
  refine own_cast (ef_rm1_4 m o q) ?_
  have r_q := rng32 q
  have r_N := rng32 N
  have r_q1 := rng32 q1
  have r_q2 := rng32 q2
  have r_q3 := rng32 q3
  have c_q1 : (q1.toInt - (q.toInt + 1)) % 4294967296 = 0 := by rw [← hq1]; exact c_iadd q 1
  have c_q2 : (q2.toInt - (q.toInt + 2)) % 4294967296 = 0 := by rw [← hq2]; exact c_iadd q 2
  have c_q3 : (q3.toInt - (q.toInt + 3)) % 4294967296 = 0 := by rw [← hq3]; exact c_iadd q 3
  refine own_iloadN X d1_0 rfl ?_
  refine own_iconst X (1) d1_1 rfl ?_
  refine own_icmpYes X (pc := 2) (pc' := 11) d1_2 (feq (own_cNe (a := 4) (b := 1) rfl rfl (by decide))).2 (by decide) (by decide) ?_
  refine own_aloadN X d1_11 rfl rfl ?_
  refine own_iloadN X d1_12 rfl ?_
  refine own_baload X A_o (own_cGe (a := q.toInt) (b := 0) rfl rfl (by omega)) (own_cLt (a := q.toInt) (b := N.toInt) rfl rfl (by omega)) d1_13 (fun v1 hv1 lv1 uv1 => ?_)
  refine own_bipush X (127) d1_14 rfl ?_
  refine own_iloadN X d1_16 rfl ?_
  refine own_ishrE X d1_17 (7 : Int32) (by decide) ?_
  refine own_iandM X (v1.toInt) 3 8 d1_18 rfl (by decide) (by decide) (by decide) (fun v2 hv2 cv2 lv2 uv2 => ?_)
  refine own_istoreN X d1_19 (L' := #[.val (.ref o), .val (.int q), .val (.int (4 : Int32)), .val (.int v2), .unset]) rfl ?_
  refine own_iconst X (1) d1_20 rfl ?_
  refine own_istore X d1_21 (L' := #[.val (.ref o), .val (.int q), .val (.int (4 : Int32)), .val (.int v2), .val (.int (1 : Int32))]) rfl ?_
  refine own_iload X d1_23 rfl ?_
  refine own_iloadN X d1_25 rfl ?_
  refine own_icmpNo X d1_26 (tlt (own_cLt (a := 1) (b := 4) rfl rfl (by decide))).2.1 ?_
  refine own_iloadN X d1_29 rfl ?_
  refine own_bipush X (6) d1_30 rfl ?_
  refine own_ishlK X (v2.toInt) 6 64 d1_32 rfl (by decide) (by decide) (fun v3 hv3 cv3 lv3 uv3 => ?_)
  refine own_aloadN X d1_33 rfl rfl ?_
  refine own_iloadN X d1_34 rfl ?_
  refine own_iload X d1_35 rfl ?_
  refine own_iaddE X d1_37 q1 (hq1) ?_
  refine own_baload X A_o (own_cGe (a := q1.toInt) (b := 0) rfl rfl (by omega)) (own_cLt (a := q1.toInt) (b := N.toInt) rfl rfl (by omega)) d1_38 (fun v4 hv4 lv4 uv4 => ?_)
  refine own_bipush X (63) d1_39 rfl ?_
  refine own_iandM X (v4.toInt) 6 64 d1_41 rfl (by decide) (by decide) (by decide) (fun v5 hv5 cv5 lv5 uv5 => ?_)
  refine own_iorM X (v3.toInt) (v5.toInt) 6 64 d1_42 rfl rfl (by decide) (by decide) (by omega) (by omega) (by omega) (fun v6 hv6 cv6 lv6 uv6 => ?_)
  refine own_istoreN X d1_43 (L' := #[.val (.ref o), .val (.int q), .val (.int (4 : Int32)), .val (.int v6), .val (.int (1 : Int32))]) rfl ?_
  refine own_iinc X d1_44 rfl rfl (L' := #[.val (.ref o), .val (.int q), .val (.int (4 : Int32)), .val (.int v6), .val (.int (2 : Int32))]) rfl ?_
  refine own_goto X (pc := 47) (pc' := 23) d1_47 (by decide) (by decide) ?_
  refine own_iload X d1_23 rfl ?_
  refine own_iloadN X d1_25 rfl ?_
  refine own_icmpNo X d1_26 (tlt (own_cLt (a := 2) (b := 4) rfl rfl (by decide))).2.1 ?_
  refine own_iloadN X d1_29 rfl ?_
  refine own_bipush X (6) d1_30 rfl ?_
  refine own_ishlK X (v6.toInt) 6 64 d1_32 rfl (by decide) (by decide) (fun v7 hv7 cv7 lv7 uv7 => ?_)
  refine own_aloadN X d1_33 rfl rfl ?_
  refine own_iloadN X d1_34 rfl ?_
  refine own_iload X d1_35 rfl ?_
  refine own_iaddE X d1_37 q2 (hq2) ?_
  refine own_baload X A_o (own_cGe (a := q2.toInt) (b := 0) rfl rfl (by omega)) (own_cLt (a := q2.toInt) (b := N.toInt) rfl rfl (by omega)) d1_38 (fun v8 hv8 lv8 uv8 => ?_)
  refine own_bipush X (63) d1_39 rfl ?_
  refine own_iandM X (v8.toInt) 6 64 d1_41 rfl (by decide) (by decide) (by decide) (fun v9 hv9 cv9 lv9 uv9 => ?_)
  refine own_iorM X (v7.toInt) (v9.toInt) 6 64 d1_42 rfl rfl (by decide) (by decide) (by omega) (by omega) (by omega) (fun v10 hv10 cv10 lv10 uv10 => ?_)
  refine own_istoreN X d1_43 (L' := #[.val (.ref o), .val (.int q), .val (.int (4 : Int32)), .val (.int v10), .val (.int (2 : Int32))]) rfl ?_
  refine own_iinc X d1_44 rfl rfl (L' := #[.val (.ref o), .val (.int q), .val (.int (4 : Int32)), .val (.int v10), .val (.int (3 : Int32))]) rfl ?_
  refine own_goto X (pc := 47) (pc' := 23) d1_47 (by decide) (by decide) ?_
  refine own_iload X d1_23 rfl ?_
  refine own_iloadN X d1_25 rfl ?_
  refine own_icmpNo X d1_26 (tlt (own_cLt (a := 3) (b := 4) rfl rfl (by decide))).2.1 ?_
  refine own_iloadN X d1_29 rfl ?_
  refine own_bipush X (6) d1_30 rfl ?_
  refine own_ishlK X (v10.toInt) 6 64 d1_32 rfl (by decide) (by decide) (fun v11 hv11 cv11 lv11 uv11 => ?_)
  refine own_aloadN X d1_33 rfl rfl ?_
  refine own_iloadN X d1_34 rfl ?_
  refine own_iload X d1_35 rfl ?_
  refine own_iaddE X d1_37 q3 (hq3) ?_
  refine own_baload X A_o (own_cGe (a := q3.toInt) (b := 0) rfl rfl (by omega)) (own_cLt (a := q3.toInt) (b := N.toInt) rfl rfl (by omega)) d1_38 (fun v12 hv12 lv12 uv12 => ?_)
  refine own_bipush X (63) d1_39 rfl ?_
  refine own_iandM X (v12.toInt) 6 64 d1_41 rfl (by decide) (by decide) (by decide) (fun v13 hv13 cv13 lv13 uv13 => ?_)
  refine own_iorM X (v11.toInt) (v13.toInt) 6 64 d1_42 rfl rfl (by decide) (by decide) (by omega) (by omega) (by omega) (fun v14 hv14 cv14 lv14 uv14 => ?_)
  refine own_istoreN X d1_43 (L' := #[.val (.ref o), .val (.int q), .val (.int (4 : Int32)), .val (.int v14), .val (.int (3 : Int32))]) rfl ?_
  refine own_iinc X d1_44 rfl rfl (L' := #[.val (.ref o), .val (.int q), .val (.int (4 : Int32)), .val (.int v14), .val (.int (4 : Int32))]) rfl ?_
  refine own_goto X (pc := 47) (pc' := 23) d1_47 (by decide) (by decide) ?_
  refine own_iload X d1_23 rfl ?_
  refine own_iloadN X d1_25 rfl ?_
  refine own_icmpYes X (pc := 26) (pc' := 50) d1_26 (flt (own_cGe (a := 4) (b := 4) rfl rfl (by decide))).2.1 (by decide) (by decide) ?_
  refine own_iloadN X d1_50 rfl ?_
  refine own_retI X d1_51 (by decide) (by decide) ⟨_, rfl, ?_⟩
  exact ⟨by have x0 := congrArg Int32.toInt hv1; have x1 := congrArg Int32.toInt hv4; have x2 := congrArg Int32.toInt hv8; have x3 := congrArg Int32.toInt hv12; omega, rfl⟩
theorem ef_rm0 (m : MethodId) (x0 : Int32) (x1 : Int32) (x2 : Int32) (x3 : Int32) : entryFrame m #[(.int x0), (.int x1), (.int x2), (.int x3)] maxLocals = mkF m 0 #[.val (.int x0), .val (.int x1), .val (.int x2), .val (.int x3), .unset, .unset, .unset, .unset, .unset] [] := by first | (simp [entryFrame, mkF, argsToLocals, Value.category, maxLocals]; done) | rfl
theorem pd_1 : parseMethodDescriptor "([BII)I" = some ⟨[(.array .byte), .int, .int], some .int⟩ := by decide +kernel
theorem pn_0 : plainFor x = true := plainFor_of_name (show plainName "com/example/shelfmark/shelfmark/impl/Utf8WellFormedCodePointAtPinLaw" = true from by first | (simp [plainName, overriddenIn]; done) | decide +kernel)
set_option maxRecDepth 65536 in
set_option maxHeartbeats 40000000 in
theorem rm0 (l : Launch) (Z : State) (a0 : Array Value) (hw : ∀ d ∈ tables_1, d.before a0 Z = true) (ws : List Jvm.Cond) (x0 : Int32) (x1 : Int32) (x2 : Int32) (x3 : Int32) (h0 : Heap) (n0 : Nat) (hn0 : n0 ≤ h0.size) :
    own_Met l Z x code maxLocals ret ws room_1 #[(.int x0), (.int x1), (.int x2), (.int x3)] h0 n0 (own_QI fun z h => z = 1) := by
  refine own_met pn_0 hn0 (fun p e s m below meth c T X => ?_)
  refine own_cast (ef_rm0 m x0 x1 x2 x3) ?_
  change own_S p l e room_1 s m _ below meth c Z x code maxLocals (some .boolean) n0 T 0 0 h0 at X
  have r_x0 := rng32 x0
  have r_x1 := rng32 x1
  have r_x2 := rng32 x2
  have r_x3 := rng32 x3
  refine own_iloadN X at_0 rfl ?_
  refine own_iconst X (3) at_1 rfl ?_
  refine own_iandM X (x1.toInt) 2 4 at_2 rfl (by decide) (by decide) (by decide) (fun v1 hv1 cv1 lv1 uv1 => ?_)
  refine own_iconst X (1) at_3 rfl ?_
  refine own_iaddV X (v1.toInt) (1) at_4 rfl rfl (fun v2 hv2 cv2 lv2 uv2 => ?_)
  refine own_istore X at_5 (L' := #[.val (.int x0), .val (.int x1), .val (.int x2), .val (.int x3), .val (.int v2), .unset, .unset, .unset, .unset]) rfl ?_
  rcases (show v2.toInt = 1 ∨ v2.toInt = 2 ∨ v2.toInt = 3 ∨ v2.toInt = 4 from by omega) with hs | hs | hs | hs
  · obtain rfl : v2 = (1 : Int32) := own_cEq (a := v2.toInt) (b := 1) rfl rfl hs
    refine own_iloadN X at_7 rfl ?_
    refine own_ldc X (hw _ (List.mem_of_getElem? (i := 0) rfl)) at_8 ?_
    refine own_iandM X (x0.toInt) 31 2147483648 at_10 rfl (by decide) (by decide) (by decide) (fun v3 hv3 cv3 lv3 uv3 => ?_)
    refine own_istore X at_11 (L' := #[.val (.int x0), .val (.int x1), .val (.int x2), .val (.int x3), .val (.int (1 : Int32)), .val (.int v3), .unset, .unset, .unset]) rfl ?_
    refine own_iload X at_13 rfl ?_
    refine own_iconst X (1) at_15 rfl ?_
    refine own_icmpNo X at_16 (teq (own_cEq (a := 1) (b := 1) rfl rfl (by decide))).2 ?_
    refine own_iloadN X at_19 rfl ?_
    refine own_bipush X (127) at_20 rfl ?_
    refine own_iandM X (x0.toInt) 7 128 at_22 rfl (by decide) (by decide) (by decide) (fun v4 hv4 cv4 lv4 uv4 => ?_)
    refine own_istore X at_23 (L' := #[.val (.int x0), .val (.int x1), .val (.int x2), .val (.int x3), .val (.int (1 : Int32)), .val (.int v3), .val (.int v4), .unset, .unset]) rfl ?_
    refine own_goto X (pc := 25) (pc' := 101) at_25 (by decide) (by decide) ?_
    refine own_iloadN X at_101 rfl ?_
    refine own_ldc X (hw _ (List.mem_of_getElem? (i := 0) rfl)) at_102 ?_
    refine own_iandM X (x2.toInt) 31 2147483648 at_104 rfl (by decide) (by decide) (by decide) (fun v5 hv5 cv5 lv5 uv5 => ?_)
    refine own_bipush X (7) at_105 rfl ?_
    refine own_iload X at_107 rfl ?_
    refine own_isubE X at_109 (6 : Int32) (by decide) ?_
    refine own_iremK X (v5.toInt) (6) at_110 (by decide) rfl rfl (fun v6 hv6 cv6 lv6 uv6 => ?_)
    refine own_istore X at_111 (L' := #[.val (.int x0), .val (.int x1), .val (.int x2), .val (.int x3), .val (.int (1 : Int32)), .val (.int v3), .val (.int v4), .val (.int v6), .unset]) rfl ?_
    refine own_bipush X (6) at_113 rfl ?_
    refine own_newP X (cap := 6) (hw _ (List.mem_of_getElem? (i := 3) rfl)) (by decide) (by decide) (by decide) (by decide) (by decide) (by decide) at_115 (fun T h b7 hb_b7 ge_b7 X E f7 hf7 A_b7 => ?_)
    have A_b7 : own_AI Z h b7 .byte (6 : Int32) f7 := A_b7
    refine own_astore X at_117 rfl (L' := #[.val (.int x0), .val (.int x1), .val (.int x2), .val (.int x3), .val (.int (1 : Int32)), .val (.int v3), .val (.int v4), .val (.int v6), .val (.ref b7)]) rfl ?_
    refine own_aload X at_119 rfl rfl ?_
    refine own_iconst X (0) at_121 rfl ?_
    refine own_iloadN X at_122 rfl ?_
    refine own_bipush X (127) at_123 rfl ?_
    refine own_iandM X (x3.toInt) 7 128 at_125 rfl (by decide) (by decide) (by decide) (fun v8 hv8 cv8 lv8 uv8 => ?_)
    refine own_i2bV X (v8.toInt) at_126 rfl (fun v9 hv9 cv9 lv9 uv9 => ?_)
    refine own_bastore X A_b7 (own_cGe (a := 0) (b := 0) rfl rfl (by omega)) (own_cLt (a := 0) (b := 6) rfl rfl (by omega)) ge_b7 (x' := v9) (by rw [← hv9]; exact own_i2b2 _) at_127 (fun T h X f10 hf10 A_b7 W => ?_)
    refine own_aload X at_128 rfl rfl ?_
    refine own_iconst X (1) at_130 rfl ?_
    refine own_iloadN X at_131 rfl ?_
    refine own_iconst X (5) at_132 rfl ?_
    refine own_iushrK X (x3.toInt) 5 32 at_133 rfl (by decide) (by decide) (by decide) (fun v11 hv11 cv11 lv11 uv11 => ?_)
    refine own_bipush X (127) at_134 rfl ?_
    refine own_iandM X (v11.toInt) 7 128 at_136 rfl (by decide) (by decide) (by decide) (fun v12 hv12 cv12 lv12 uv12 => ?_)
    refine own_i2bV X (v12.toInt) at_137 rfl (fun v13 hv13 cv13 lv13 uv13 => ?_)
    refine own_bastore X A_b7 (own_cGe (a := 1) (b := 0) rfl rfl (by omega)) (own_cLt (a := 1) (b := 6) rfl rfl (by omega)) ge_b7 (x' := v13) (by rw [← hv13]; exact own_i2b2 _) at_138 (fun T h X f14 hf14 A_b7 W => ?_)
    refine own_aload X at_139 rfl rfl ?_
    refine own_iconst X (2) at_141 rfl ?_
    refine own_iloadN X at_142 rfl ?_
    refine own_bipush X (10) at_143 rfl ?_
    refine own_iushrK X (x3.toInt) 10 1024 at_145 rfl (by decide) (by decide) (by decide) (fun v15 hv15 cv15 lv15 uv15 => ?_)
    refine own_bipush X (127) at_146 rfl ?_
    refine own_iandM X (v15.toInt) 7 128 at_148 rfl (by decide) (by decide) (by decide) (fun v16 hv16 cv16 lv16 uv16 => ?_)
    refine own_i2bV X (v16.toInt) at_149 rfl (fun v17 hv17 cv17 lv17 uv17 => ?_)
    refine own_bastore X A_b7 (own_cGe (a := 2) (b := 0) rfl rfl (by omega)) (own_cLt (a := 2) (b := 6) rfl rfl (by omega)) ge_b7 (x' := v17) (by rw [← hv17]; exact own_i2b2 _) at_150 (fun T h X f18 hf18 A_b7 W => ?_)
    refine own_aload X at_151 rfl rfl ?_
    refine own_iconst X (3) at_153 rfl ?_
    refine own_iloadN X at_154 rfl ?_
    refine own_bipush X (15) at_155 rfl ?_
    refine own_iushrK X (x3.toInt) 15 32768 at_157 rfl (by decide) (by decide) (by decide) (fun v19 hv19 cv19 lv19 uv19 => ?_)
    refine own_bipush X (127) at_158 rfl ?_
    refine own_iandM X (v19.toInt) 7 128 at_160 rfl (by decide) (by decide) (by decide) (fun v20 hv20 cv20 lv20 uv20 => ?_)
    refine own_i2bV X (v20.toInt) at_161 rfl (fun v21 hv21 cv21 lv21 uv21 => ?_)
    refine own_bastore X A_b7 (own_cGe (a := 3) (b := 0) rfl rfl (by omega)) (own_cLt (a := 3) (b := 6) rfl rfl (by omega)) ge_b7 (x' := v21) (by rw [← hv21]; exact own_i2b2 _) at_162 (fun T h X f22 hf22 A_b7 W => ?_)
    refine own_aload X at_163 rfl rfl ?_
    refine own_iconst X (4) at_165 rfl ?_
    refine own_iloadN X at_166 rfl ?_
    refine own_bipush X (20) at_167 rfl ?_
    refine own_iushrK X (x3.toInt) 20 1048576 at_169 rfl (by decide) (by decide) (by decide) (fun v23 hv23 cv23 lv23 uv23 => ?_)
    refine own_bipush X (127) at_170 rfl ?_
    refine own_iandM X (v23.toInt) 7 128 at_172 rfl (by decide) (by decide) (by decide) (fun v24 hv24 cv24 lv24 uv24 => ?_)
    refine own_i2bV X (v24.toInt) at_173 rfl (fun v25 hv25 cv25 lv25 uv25 => ?_)
    refine own_bastore X A_b7 (own_cGe (a := 4) (b := 0) rfl rfl (by omega)) (own_cLt (a := 4) (b := 6) rfl rfl (by omega)) ge_b7 (x' := v25) (by rw [← hv25]; exact own_i2b2 _) at_174 (fun T h X f26 hf26 A_b7 W => ?_)
    refine own_aload X at_175 rfl rfl ?_
    refine own_iconst X (5) at_177 rfl ?_
    refine own_iloadN X at_178 rfl ?_
    refine own_bipush X (25) at_179 rfl ?_
    refine own_iushrK X (x3.toInt) 25 33554432 at_181 rfl (by decide) (by decide) (by decide) (fun v27 hv27 cv27 lv27 uv27 => ?_)
    refine own_bipush X (127) at_182 rfl ?_
    refine own_iandM X (v27.toInt) 7 128 at_184 rfl (by decide) (by decide) (by decide) (fun v28 hv28 cv28 lv28 uv28 => ?_)
    refine own_i2bV X (v28.toInt) at_185 rfl (fun v29 hv29 cv29 lv29 uv29 => ?_)
    refine own_bastore X A_b7 (own_cGe (a := 5) (b := 0) rfl rfl (by omega)) (own_cLt (a := 5) (b := 6) rfl rfl (by omega)) ge_b7 (x' := v29) (by rw [← hv29]; exact own_i2b2 _) at_186 (fun T h X f30 hf30 A_b7 W => ?_)
    refine own_iload X at_187 rfl ?_
    refine own_iconst X (1) at_189 rfl ?_
    refine own_icmpNo X at_190 (teq (own_cEq (a := 1) (b := 1) rfl rfl (by decide))).2 ?_
    refine own_aload X at_193 rfl rfl ?_
    refine own_iload X at_195 rfl ?_
    refine own_iload X at_197 rfl ?_
    refine own_i2bV X (v4.toInt) at_199 rfl (fun v31 hv31 cv31 lv31 uv31 => ?_)
    refine own_bastore X A_b7 (own_cGe (a := v6.toInt) (b := 0) rfl rfl (by omega)) (own_cLt (a := v6.toInt) (b := 6) rfl rfl (by omega)) ge_b7 (x' := v31) (by rw [← hv31]; exact own_i2b2 _) at_200 (fun T h X f32 hf32 A_b7 W => ?_)
    refine own_goto X (pc := 201) (pc' := 378) at_201 (by decide) (by decide) ?_
    refine own_aload X at_378 rfl rfl ?_
    refine own_iload X at_380 rfl ?_
    refine own_iload X at_382 rfl ?_
    refine own_callS X (W := 0) (argsL := [(.ref b7), (.int v6), (.int (1 : Int32))]) (rest := []) (hw _ (List.mem_of_getElem? (i := 4) rfl)) (hw _ (List.mem_of_getElem? (i := 5) rfl)) (hw _ (List.mem_of_getElem? (i := 6) rfl)) (hw _ (List.mem_of_getElem? (i := 7) rfl)) (by decide) (rm1_1 l Z a0 hw [] b7 v6 f32 6 h n0 (own_size X) A_b7 (by omega) (by show _ ≤ (6 : Int); omega)) (by decide) (by decide) (by decide) (by decide) rfl (lenOf pd_1 rfl) rfl (Nat.le_of_eq rfl) at_384 (own_contI fun T v33 X hq33 => ?_)
    have e33_0 : (f32 v6).toInt = v31.toInt := by rw [hf32, own_upd_hit]
    rw [e33_0] at hq33
    refine own_iload X at_387 rfl ?_
    have hc34 : v33.toInt = v4.toInt := by omega
    refine own_icmpNo X at_389 (teq (own_cEq (a := v33.toInt) (b := v4.toInt) rfl rfl hc34)).2 ?_
    refine own_iconst X (1) at_392 rfl ?_
    refine own_goto X (pc := 393) (pc' := 397) at_393 (by decide) (by decide) ?_
    refine own_retN (t := .boolean) X (z' := (1 : Int32)) (Or.inl rfl) rfl rfl at_397 (by decide) (by decide) ⟨_, rfl, ?_⟩
    rfl
  · obtain rfl : v2 = (2 : Int32) := own_cEq (a := v2.toInt) (b := 2) rfl rfl hs
    refine own_iloadN X at_7 rfl ?_
    refine own_ldc X (hw _ (List.mem_of_getElem? (i := 0) rfl)) at_8 ?_
    refine own_iandM X (x0.toInt) 31 2147483648 at_10 rfl (by decide) (by decide) (by decide) (fun v35 hv35 cv35 lv35 uv35 => ?_)
    refine own_istore X at_11 (L' := #[.val (.int x0), .val (.int x1), .val (.int x2), .val (.int x3), .val (.int (2 : Int32)), .val (.int v35), .unset, .unset, .unset]) rfl ?_
    refine own_iload X at_13 rfl ?_
    refine own_iconst X (1) at_15 rfl ?_
    refine own_icmpYes X (pc := 16) (pc' := 28) at_16 (feq (own_cNe (a := 2) (b := 1) rfl rfl (by decide))).2 (by decide) (by decide) ?_
    refine own_iload X at_28 rfl ?_
    refine own_iconst X (2) at_30 rfl ?_
    refine own_icmpNo X at_31 (teq (own_cEq (a := 2) (b := 2) rfl rfl (by decide))).2 ?_
    refine own_iload X at_34 rfl ?_
    refine own_sipush X (1920) at_36 rfl ?_
    refine own_iremK X (v35.toInt) (1920) at_39 (by decide) rfl rfl (fun v36 hv36 cv36 lv36 uv36 => ?_)
    refine own_sipush X (128) at_40 rfl ?_
    refine own_iaddV X (v36.toInt) (128) at_43 rfl rfl (fun v37 hv37 cv37 lv37 uv37 => ?_)
    refine own_istore X at_44 (L' := #[.val (.int x0), .val (.int x1), .val (.int x2), .val (.int x3), .val (.int (2 : Int32)), .val (.int v35), .val (.int v37), .unset, .unset]) rfl ?_
    refine own_goto X (pc := 46) (pc' := 101) at_46 (by decide) (by decide) ?_
    refine own_iloadN X at_101 rfl ?_
    refine own_ldc X (hw _ (List.mem_of_getElem? (i := 0) rfl)) at_102 ?_
    refine own_iandM X (x2.toInt) 31 2147483648 at_104 rfl (by decide) (by decide) (by decide) (fun v38 hv38 cv38 lv38 uv38 => ?_)
    refine own_bipush X (7) at_105 rfl ?_
    refine own_iload X at_107 rfl ?_
    refine own_isubE X at_109 (5 : Int32) (by decide) ?_
    refine own_iremK X (v38.toInt) (5) at_110 (by decide) rfl rfl (fun v39 hv39 cv39 lv39 uv39 => ?_)
    refine own_istore X at_111 (L' := #[.val (.int x0), .val (.int x1), .val (.int x2), .val (.int x3), .val (.int (2 : Int32)), .val (.int v35), .val (.int v37), .val (.int v39), .unset]) rfl ?_
    refine own_bipush X (6) at_113 rfl ?_
    refine own_newP X (cap := 6) (hw _ (List.mem_of_getElem? (i := 3) rfl)) (by decide) (by decide) (by decide) (by decide) (by decide) (by decide) at_115 (fun T h b40 hb_b40 ge_b40 X E f40 hf40 A_b40 => ?_)
    have A_b40 : own_AI Z h b40 .byte (6 : Int32) f40 := A_b40
    refine own_astore X at_117 rfl (L' := #[.val (.int x0), .val (.int x1), .val (.int x2), .val (.int x3), .val (.int (2 : Int32)), .val (.int v35), .val (.int v37), .val (.int v39), .val (.ref b40)]) rfl ?_
    refine own_aload X at_119 rfl rfl ?_
    refine own_iconst X (0) at_121 rfl ?_
    refine own_iloadN X at_122 rfl ?_
    refine own_bipush X (127) at_123 rfl ?_
    refine own_iandM X (x3.toInt) 7 128 at_125 rfl (by decide) (by decide) (by decide) (fun v41 hv41 cv41 lv41 uv41 => ?_)
    refine own_i2bV X (v41.toInt) at_126 rfl (fun v42 hv42 cv42 lv42 uv42 => ?_)
    refine own_bastore X A_b40 (own_cGe (a := 0) (b := 0) rfl rfl (by omega)) (own_cLt (a := 0) (b := 6) rfl rfl (by omega)) ge_b40 (x' := v42) (by rw [← hv42]; exact own_i2b2 _) at_127 (fun T h X f43 hf43 A_b40 W => ?_)
    refine own_aload X at_128 rfl rfl ?_
    refine own_iconst X (1) at_130 rfl ?_
    refine own_iloadN X at_131 rfl ?_
    refine own_iconst X (5) at_132 rfl ?_
    refine own_iushrK X (x3.toInt) 5 32 at_133 rfl (by decide) (by decide) (by decide) (fun v44 hv44 cv44 lv44 uv44 => ?_)
    refine own_bipush X (127) at_134 rfl ?_
    refine own_iandM X (v44.toInt) 7 128 at_136 rfl (by decide) (by decide) (by decide) (fun v45 hv45 cv45 lv45 uv45 => ?_)
    refine own_i2bV X (v45.toInt) at_137 rfl (fun v46 hv46 cv46 lv46 uv46 => ?_)
    refine own_bastore X A_b40 (own_cGe (a := 1) (b := 0) rfl rfl (by omega)) (own_cLt (a := 1) (b := 6) rfl rfl (by omega)) ge_b40 (x' := v46) (by rw [← hv46]; exact own_i2b2 _) at_138 (fun T h X f47 hf47 A_b40 W => ?_)
    refine own_aload X at_139 rfl rfl ?_
    refine own_iconst X (2) at_141 rfl ?_
    refine own_iloadN X at_142 rfl ?_
    refine own_bipush X (10) at_143 rfl ?_
    refine own_iushrK X (x3.toInt) 10 1024 at_145 rfl (by decide) (by decide) (by decide) (fun v48 hv48 cv48 lv48 uv48 => ?_)
    refine own_bipush X (127) at_146 rfl ?_
    refine own_iandM X (v48.toInt) 7 128 at_148 rfl (by decide) (by decide) (by decide) (fun v49 hv49 cv49 lv49 uv49 => ?_)
    refine own_i2bV X (v49.toInt) at_149 rfl (fun v50 hv50 cv50 lv50 uv50 => ?_)
    refine own_bastore X A_b40 (own_cGe (a := 2) (b := 0) rfl rfl (by omega)) (own_cLt (a := 2) (b := 6) rfl rfl (by omega)) ge_b40 (x' := v50) (by rw [← hv50]; exact own_i2b2 _) at_150 (fun T h X f51 hf51 A_b40 W => ?_)
    refine own_aload X at_151 rfl rfl ?_
    refine own_iconst X (3) at_153 rfl ?_
    refine own_iloadN X at_154 rfl ?_
    refine own_bipush X (15) at_155 rfl ?_
    refine own_iushrK X (x3.toInt) 15 32768 at_157 rfl (by decide) (by decide) (by decide) (fun v52 hv52 cv52 lv52 uv52 => ?_)
    refine own_bipush X (127) at_158 rfl ?_
    refine own_iandM X (v52.toInt) 7 128 at_160 rfl (by decide) (by decide) (by decide) (fun v53 hv53 cv53 lv53 uv53 => ?_)
    refine own_i2bV X (v53.toInt) at_161 rfl (fun v54 hv54 cv54 lv54 uv54 => ?_)
    refine own_bastore X A_b40 (own_cGe (a := 3) (b := 0) rfl rfl (by omega)) (own_cLt (a := 3) (b := 6) rfl rfl (by omega)) ge_b40 (x' := v54) (by rw [← hv54]; exact own_i2b2 _) at_162 (fun T h X f55 hf55 A_b40 W => ?_)
    refine own_aload X at_163 rfl rfl ?_
    refine own_iconst X (4) at_165 rfl ?_
    refine own_iloadN X at_166 rfl ?_
    refine own_bipush X (20) at_167 rfl ?_
    refine own_iushrK X (x3.toInt) 20 1048576 at_169 rfl (by decide) (by decide) (by decide) (fun v56 hv56 cv56 lv56 uv56 => ?_)
    refine own_bipush X (127) at_170 rfl ?_
    refine own_iandM X (v56.toInt) 7 128 at_172 rfl (by decide) (by decide) (by decide) (fun v57 hv57 cv57 lv57 uv57 => ?_)
    refine own_i2bV X (v57.toInt) at_173 rfl (fun v58 hv58 cv58 lv58 uv58 => ?_)
    refine own_bastore X A_b40 (own_cGe (a := 4) (b := 0) rfl rfl (by omega)) (own_cLt (a := 4) (b := 6) rfl rfl (by omega)) ge_b40 (x' := v58) (by rw [← hv58]; exact own_i2b2 _) at_174 (fun T h X f59 hf59 A_b40 W => ?_)
    refine own_aload X at_175 rfl rfl ?_
    refine own_iconst X (5) at_177 rfl ?_
    refine own_iloadN X at_178 rfl ?_
    refine own_bipush X (25) at_179 rfl ?_
    refine own_iushrK X (x3.toInt) 25 33554432 at_181 rfl (by decide) (by decide) (by decide) (fun v60 hv60 cv60 lv60 uv60 => ?_)
    refine own_bipush X (127) at_182 rfl ?_
    refine own_iandM X (v60.toInt) 7 128 at_184 rfl (by decide) (by decide) (by decide) (fun v61 hv61 cv61 lv61 uv61 => ?_)
    refine own_i2bV X (v61.toInt) at_185 rfl (fun v62 hv62 cv62 lv62 uv62 => ?_)
    refine own_bastore X A_b40 (own_cGe (a := 5) (b := 0) rfl rfl (by omega)) (own_cLt (a := 5) (b := 6) rfl rfl (by omega)) ge_b40 (x' := v62) (by rw [← hv62]; exact own_i2b2 _) at_186 (fun T h X f63 hf63 A_b40 W => ?_)
    refine own_iload X at_187 rfl ?_
    refine own_iconst X (1) at_189 rfl ?_
    refine own_icmpYes X (pc := 190) (pc' := 204) at_190 (feq (own_cNe (a := 2) (b := 1) rfl rfl (by decide))).2 (by decide) (by decide) ?_
    refine own_iload X at_204 rfl ?_
    refine own_iconst X (2) at_206 rfl ?_
    refine own_icmpNo X at_207 (teq (own_cEq (a := 2) (b := 2) rfl rfl (by decide))).2 ?_
    refine own_aload X at_210 rfl rfl ?_
    refine own_iload X at_212 rfl ?_
    refine own_sipush X (192) at_214 rfl ?_
    refine own_iload X at_217 rfl ?_
    refine own_bipush X (6) at_219 rfl ?_
    refine own_ishrK X (v37.toInt) 6 64 at_221 rfl (by decide) (by decide) (fun v64 hv64 cv64 lv64 uv64 => ?_)
    refine own_iorM X (192) (v64.toInt) 5 32 at_222 rfl rfl (by decide) (by decide) (by omega) (by omega) (by omega) (fun v65 hv65 cv65 lv65 uv65 => ?_)
    refine own_i2bV X (v65.toInt) at_223 rfl (fun v66 hv66 cv66 lv66 uv66 => ?_)
    refine own_bastore X A_b40 (own_cGe (a := v39.toInt) (b := 0) rfl rfl (by omega)) (own_cLt (a := v39.toInt) (b := 6) rfl rfl (by omega)) ge_b40 (x' := v66) (by rw [← hv66]; exact own_i2b2 _) at_224 (fun T h X f67 hf67 A_b40 W => ?_)
    refine own_aload X at_225 rfl rfl ?_
    refine own_iload X at_227 rfl ?_
    refine own_iconst X (1) at_229 rfl ?_
    refine own_iaddV X (v39.toInt) (1) at_230 rfl rfl (fun v68 hv68 cv68 lv68 uv68 => ?_)
    refine own_sipush X (128) at_231 rfl ?_
    refine own_iload X at_234 rfl ?_
    refine own_bipush X (63) at_236 rfl ?_
    refine own_iandM X (v37.toInt) 6 64 at_238 rfl (by decide) (by decide) (by decide) (fun v69 hv69 cv69 lv69 uv69 => ?_)
    refine own_iorM X (128) (v69.toInt) 6 64 at_239 rfl rfl (by decide) (by decide) (by omega) (by omega) (by omega) (fun v70 hv70 cv70 lv70 uv70 => ?_)
    refine own_i2bV X (v70.toInt) at_240 rfl (fun v71 hv71 cv71 lv71 uv71 => ?_)
    refine own_bastore X A_b40 (own_cGe (a := v68.toInt) (b := 0) rfl rfl (by omega)) (own_cLt (a := v68.toInt) (b := 6) rfl rfl (by omega)) ge_b40 (x' := v71) (by rw [← hv71]; exact own_i2b2 _) at_241 (fun T h X f72 hf72 A_b40 W => ?_)
    refine own_goto X (pc := 242) (pc' := 378) at_242 (by decide) (by decide) ?_
    refine own_aload X at_378 rfl rfl ?_
    refine own_iload X at_380 rfl ?_
    refine own_iload X at_382 rfl ?_
    refine own_callS X (W := 0) (argsL := [(.ref b40), (.int v39), (.int (2 : Int32))]) (rest := []) (hw _ (List.mem_of_getElem? (i := 4) rfl)) (hw _ (List.mem_of_getElem? (i := 5) rfl)) (hw _ (List.mem_of_getElem? (i := 6) rfl)) (hw _ (List.mem_of_getElem? (i := 7) rfl)) (by decide) (rm1_2 l Z a0 hw [] b40 v39 f72 6 v68 h n0 (own_size X) A_b40 (by omega) (by show _ ≤ (6 : Int); omega) hv68) (by decide) (by decide) (by decide) (by decide) rfl (lenOf pd_1 rfl) rfl (Nat.le_of_eq rfl) at_384 (own_contI fun T v73 X hq73 => ?_)
    have e73_0 : (f72 v39).toInt = v66.toInt := by rw [hf72, own_upd_miss (own_cNe (a := v39.toInt) (b := v68.toInt) rfl rfl (by omega)), hf67, own_upd_hit]
    have e73_1 : (f72 v68).toInt = v71.toInt := by rw [hf72, own_upd_hit]
    rw [e73_0, e73_1] at hq73
    refine own_iload X at_387 rfl ?_
    have hc74 : v73.toInt = v37.toInt := by omega
    refine own_icmpNo X at_389 (teq (own_cEq (a := v73.toInt) (b := v37.toInt) rfl rfl hc74)).2 ?_
    refine own_iconst X (1) at_392 rfl ?_
    refine own_goto X (pc := 393) (pc' := 397) at_393 (by decide) (by decide) ?_
    refine own_retN (t := .boolean) X (z' := (1 : Int32)) (Or.inl rfl) rfl rfl at_397 (by decide) (by decide) ⟨_, rfl, ?_⟩
    rfl
  · obtain rfl : v2 = (3 : Int32) := own_cEq (a := v2.toInt) (b := 3) rfl rfl hs
    refine own_iloadN X at_7 rfl ?_
    refine own_ldc X (hw _ (List.mem_of_getElem? (i := 0) rfl)) at_8 ?_
    refine own_iandM X (x0.toInt) 31 2147483648 at_10 rfl (by decide) (by decide) (by decide) (fun v75 hv75 cv75 lv75 uv75 => ?_)
    refine own_istore X at_11 (L' := #[.val (.int x0), .val (.int x1), .val (.int x2), .val (.int x3), .val (.int (3 : Int32)), .val (.int v75), .unset, .unset, .unset]) rfl ?_
    refine own_iload X at_13 rfl ?_
    refine own_iconst X (1) at_15 rfl ?_
    refine own_icmpYes X (pc := 16) (pc' := 28) at_16 (feq (own_cNe (a := 3) (b := 1) rfl rfl (by decide))).2 (by decide) (by decide) ?_
    refine own_iload X at_28 rfl ?_
    refine own_iconst X (2) at_30 rfl ?_
    refine own_icmpYes X (pc := 31) (pc' := 49) at_31 (feq (own_cNe (a := 3) (b := 2) rfl rfl (by decide))).2 (by decide) (by decide) ?_
    refine own_iload X at_49 rfl ?_
    refine own_iconst X (3) at_51 rfl ?_
    refine own_icmpNo X at_52 (teq (own_cEq (a := 3) (b := 3) rfl rfl (by decide))).2 ?_
    refine own_iload X at_55 rfl ?_
    refine own_ldc X (hw _ (List.mem_of_getElem? (i := 8) rfl)) at_57 ?_
    refine own_iremK X (v75.toInt) (63488) at_59 (by decide) rfl rfl (fun v76 hv76 cv76 lv76 uv76 => ?_)
    refine own_sipush X (2048) at_60 rfl ?_
    refine own_iaddV X (v76.toInt) (2048) at_63 rfl rfl (fun v77 hv77 cv77 lv77 uv77 => ?_)
    refine own_istore X at_64 (L' := #[.val (.int x0), .val (.int x1), .val (.int x2), .val (.int x3), .val (.int (3 : Int32)), .val (.int v75), .val (.int v77), .unset, .unset]) rfl ?_
    refine own_iload X at_66 rfl ?_
    refine own_ldc X (hw _ (List.mem_of_getElem? (i := 9) rfl)) at_68 ?_
    by_cases hc78 : v77.toInt < 55296
    · refine own_icmpYes X (pc := 70) (pc' := 101) at_70 (tlt (own_cLt (a := v77.toInt) (b := 55296) rfl rfl hc78)).1 (by decide) (by decide) ?_
      refine own_iloadN X at_101 rfl ?_
      refine own_ldc X (hw _ (List.mem_of_getElem? (i := 0) rfl)) at_102 ?_
      refine own_iandM X (x2.toInt) 31 2147483648 at_104 rfl (by decide) (by decide) (by decide) (fun v79 hv79 cv79 lv79 uv79 => ?_)
      refine own_bipush X (7) at_105 rfl ?_
      refine own_iload X at_107 rfl ?_
      refine own_isubE X at_109 (4 : Int32) (by decide) ?_
      refine own_iremK X (v79.toInt) (4) at_110 (by decide) rfl rfl (fun v80 hv80 cv80 lv80 uv80 => ?_)
      refine own_istore X at_111 (L' := #[.val (.int x0), .val (.int x1), .val (.int x2), .val (.int x3), .val (.int (3 : Int32)), .val (.int v75), .val (.int v77), .val (.int v80), .unset]) rfl ?_
      refine own_bipush X (6) at_113 rfl ?_
      refine own_newP X (cap := 6) (hw _ (List.mem_of_getElem? (i := 3) rfl)) (by decide) (by decide) (by decide) (by decide) (by decide) (by decide) at_115 (fun T h b81 hb_b81 ge_b81 X E f81 hf81 A_b81 => ?_)
      have A_b81 : own_AI Z h b81 .byte (6 : Int32) f81 := A_b81
      refine own_astore X at_117 rfl (L' := #[.val (.int x0), .val (.int x1), .val (.int x2), .val (.int x3), .val (.int (3 : Int32)), .val (.int v75), .val (.int v77), .val (.int v80), .val (.ref b81)]) rfl ?_
      refine own_aload X at_119 rfl rfl ?_
      refine own_iconst X (0) at_121 rfl ?_
      refine own_iloadN X at_122 rfl ?_
      refine own_bipush X (127) at_123 rfl ?_
      refine own_iandM X (x3.toInt) 7 128 at_125 rfl (by decide) (by decide) (by decide) (fun v82 hv82 cv82 lv82 uv82 => ?_)
      refine own_i2bV X (v82.toInt) at_126 rfl (fun v83 hv83 cv83 lv83 uv83 => ?_)
      refine own_bastore X A_b81 (own_cGe (a := 0) (b := 0) rfl rfl (by omega)) (own_cLt (a := 0) (b := 6) rfl rfl (by omega)) ge_b81 (x' := v83) (by rw [← hv83]; exact own_i2b2 _) at_127 (fun T h X f84 hf84 A_b81 W => ?_)
      refine own_aload X at_128 rfl rfl ?_
      refine own_iconst X (1) at_130 rfl ?_
      refine own_iloadN X at_131 rfl ?_
      refine own_iconst X (5) at_132 rfl ?_
      refine own_iushrK X (x3.toInt) 5 32 at_133 rfl (by decide) (by decide) (by decide) (fun v85 hv85 cv85 lv85 uv85 => ?_)
      refine own_bipush X (127) at_134 rfl ?_
      refine own_iandM X (v85.toInt) 7 128 at_136 rfl (by decide) (by decide) (by decide) (fun v86 hv86 cv86 lv86 uv86 => ?_)
      refine own_i2bV X (v86.toInt) at_137 rfl (fun v87 hv87 cv87 lv87 uv87 => ?_)
      refine own_bastore X A_b81 (own_cGe (a := 1) (b := 0) rfl rfl (by omega)) (own_cLt (a := 1) (b := 6) rfl rfl (by omega)) ge_b81 (x' := v87) (by rw [← hv87]; exact own_i2b2 _) at_138 (fun T h X f88 hf88 A_b81 W => ?_)
      refine own_aload X at_139 rfl rfl ?_
      refine own_iconst X (2) at_141 rfl ?_
      refine own_iloadN X at_142 rfl ?_
      refine own_bipush X (10) at_143 rfl ?_
      refine own_iushrK X (x3.toInt) 10 1024 at_145 rfl (by decide) (by decide) (by decide) (fun v89 hv89 cv89 lv89 uv89 => ?_)
      refine own_bipush X (127) at_146 rfl ?_
      refine own_iandM X (v89.toInt) 7 128 at_148 rfl (by decide) (by decide) (by decide) (fun v90 hv90 cv90 lv90 uv90 => ?_)
      refine own_i2bV X (v90.toInt) at_149 rfl (fun v91 hv91 cv91 lv91 uv91 => ?_)
      refine own_bastore X A_b81 (own_cGe (a := 2) (b := 0) rfl rfl (by omega)) (own_cLt (a := 2) (b := 6) rfl rfl (by omega)) ge_b81 (x' := v91) (by rw [← hv91]; exact own_i2b2 _) at_150 (fun T h X f92 hf92 A_b81 W => ?_)
      refine own_aload X at_151 rfl rfl ?_
      refine own_iconst X (3) at_153 rfl ?_
      refine own_iloadN X at_154 rfl ?_
      refine own_bipush X (15) at_155 rfl ?_
      refine own_iushrK X (x3.toInt) 15 32768 at_157 rfl (by decide) (by decide) (by decide) (fun v93 hv93 cv93 lv93 uv93 => ?_)
      refine own_bipush X (127) at_158 rfl ?_
      refine own_iandM X (v93.toInt) 7 128 at_160 rfl (by decide) (by decide) (by decide) (fun v94 hv94 cv94 lv94 uv94 => ?_)
      refine own_i2bV X (v94.toInt) at_161 rfl (fun v95 hv95 cv95 lv95 uv95 => ?_)
      refine own_bastore X A_b81 (own_cGe (a := 3) (b := 0) rfl rfl (by omega)) (own_cLt (a := 3) (b := 6) rfl rfl (by omega)) ge_b81 (x' := v95) (by rw [← hv95]; exact own_i2b2 _) at_162 (fun T h X f96 hf96 A_b81 W => ?_)
      refine own_aload X at_163 rfl rfl ?_
      refine own_iconst X (4) at_165 rfl ?_
      refine own_iloadN X at_166 rfl ?_
      refine own_bipush X (20) at_167 rfl ?_
      refine own_iushrK X (x3.toInt) 20 1048576 at_169 rfl (by decide) (by decide) (by decide) (fun v97 hv97 cv97 lv97 uv97 => ?_)
      refine own_bipush X (127) at_170 rfl ?_
      refine own_iandM X (v97.toInt) 7 128 at_172 rfl (by decide) (by decide) (by decide) (fun v98 hv98 cv98 lv98 uv98 => ?_)
      refine own_i2bV X (v98.toInt) at_173 rfl (fun v99 hv99 cv99 lv99 uv99 => ?_)
      refine own_bastore X A_b81 (own_cGe (a := 4) (b := 0) rfl rfl (by omega)) (own_cLt (a := 4) (b := 6) rfl rfl (by omega)) ge_b81 (x' := v99) (by rw [← hv99]; exact own_i2b2 _) at_174 (fun T h X f100 hf100 A_b81 W => ?_)
      refine own_aload X at_175 rfl rfl ?_
      refine own_iconst X (5) at_177 rfl ?_
      refine own_iloadN X at_178 rfl ?_
      refine own_bipush X (25) at_179 rfl ?_
      refine own_iushrK X (x3.toInt) 25 33554432 at_181 rfl (by decide) (by decide) (by decide) (fun v101 hv101 cv101 lv101 uv101 => ?_)
      refine own_bipush X (127) at_182 rfl ?_
      refine own_iandM X (v101.toInt) 7 128 at_184 rfl (by decide) (by decide) (by decide) (fun v102 hv102 cv102 lv102 uv102 => ?_)
      refine own_i2bV X (v102.toInt) at_185 rfl (fun v103 hv103 cv103 lv103 uv103 => ?_)
      refine own_bastore X A_b81 (own_cGe (a := 5) (b := 0) rfl rfl (by omega)) (own_cLt (a := 5) (b := 6) rfl rfl (by omega)) ge_b81 (x' := v103) (by rw [← hv103]; exact own_i2b2 _) at_186 (fun T h X f104 hf104 A_b81 W => ?_)
      refine own_iload X at_187 rfl ?_
      refine own_iconst X (1) at_189 rfl ?_
      refine own_icmpYes X (pc := 190) (pc' := 204) at_190 (feq (own_cNe (a := 3) (b := 1) rfl rfl (by decide))).2 (by decide) (by decide) ?_
      refine own_iload X at_204 rfl ?_
      refine own_iconst X (2) at_206 rfl ?_
      refine own_icmpYes X (pc := 207) (pc' := 245) at_207 (feq (own_cNe (a := 3) (b := 2) rfl rfl (by decide))).2 (by decide) (by decide) ?_
      refine own_iload X at_245 rfl ?_
      refine own_iconst X (3) at_247 rfl ?_
      refine own_icmpNo X at_248 (teq (own_cEq (a := 3) (b := 3) rfl rfl (by decide))).2 ?_
      refine own_aload X at_251 rfl rfl ?_
      refine own_iload X at_253 rfl ?_
      refine own_sipush X (224) at_255 rfl ?_
      refine own_iload X at_258 rfl ?_
      refine own_bipush X (12) at_260 rfl ?_
      refine own_ishrK X (v77.toInt) 12 4096 at_262 rfl (by decide) (by decide) (fun v105 hv105 cv105 lv105 uv105 => ?_)
      refine own_iorM X (224) (v105.toInt) 4 16 at_263 rfl rfl (by decide) (by decide) (by omega) (by omega) (by omega) (fun v106 hv106 cv106 lv106 uv106 => ?_)
      refine own_i2bV X (v106.toInt) at_264 rfl (fun v107 hv107 cv107 lv107 uv107 => ?_)
      refine own_bastore X A_b81 (own_cGe (a := v80.toInt) (b := 0) rfl rfl (by omega)) (own_cLt (a := v80.toInt) (b := 6) rfl rfl (by omega)) ge_b81 (x' := v107) (by rw [← hv107]; exact own_i2b2 _) at_265 (fun T h X f108 hf108 A_b81 W => ?_)
      refine own_aload X at_266 rfl rfl ?_
      refine own_iload X at_268 rfl ?_
      refine own_iconst X (1) at_270 rfl ?_
      refine own_iaddV X (v80.toInt) (1) at_271 rfl rfl (fun v109 hv109 cv109 lv109 uv109 => ?_)
      refine own_sipush X (128) at_272 rfl ?_
      refine own_iload X at_275 rfl ?_
      refine own_bipush X (6) at_277 rfl ?_
      refine own_ishrK X (v77.toInt) 6 64 at_279 rfl (by decide) (by decide) (fun v110 hv110 cv110 lv110 uv110 => ?_)
      refine own_bipush X (63) at_280 rfl ?_
      refine own_iandM X (v110.toInt) 6 64 at_282 rfl (by decide) (by decide) (by decide) (fun v111 hv111 cv111 lv111 uv111 => ?_)
      refine own_iorM X (128) (v111.toInt) 6 64 at_283 rfl rfl (by decide) (by decide) (by omega) (by omega) (by omega) (fun v112 hv112 cv112 lv112 uv112 => ?_)
      refine own_i2bV X (v112.toInt) at_284 rfl (fun v113 hv113 cv113 lv113 uv113 => ?_)
      refine own_bastore X A_b81 (own_cGe (a := v109.toInt) (b := 0) rfl rfl (by omega)) (own_cLt (a := v109.toInt) (b := 6) rfl rfl (by omega)) ge_b81 (x' := v113) (by rw [← hv113]; exact own_i2b2 _) at_285 (fun T h X f114 hf114 A_b81 W => ?_)
      refine own_aload X at_286 rfl rfl ?_
      refine own_iload X at_288 rfl ?_
      refine own_iconst X (2) at_290 rfl ?_
      refine own_iaddV X (v80.toInt) (2) at_291 rfl rfl (fun v115 hv115 cv115 lv115 uv115 => ?_)
      refine own_sipush X (128) at_292 rfl ?_
      refine own_iload X at_295 rfl ?_
      refine own_bipush X (63) at_297 rfl ?_
      refine own_iandM X (v77.toInt) 6 64 at_299 rfl (by decide) (by decide) (by decide) (fun v116 hv116 cv116 lv116 uv116 => ?_)
      refine own_iorM X (128) (v116.toInt) 6 64 at_300 rfl rfl (by decide) (by decide) (by omega) (by omega) (by omega) (fun v117 hv117 cv117 lv117 uv117 => ?_)
      refine own_i2bV X (v117.toInt) at_301 rfl (fun v118 hv118 cv118 lv118 uv118 => ?_)
      refine own_bastore X A_b81 (own_cGe (a := v115.toInt) (b := 0) rfl rfl (by omega)) (own_cLt (a := v115.toInt) (b := 6) rfl rfl (by omega)) ge_b81 (x' := v118) (by rw [← hv118]; exact own_i2b2 _) at_302 (fun T h X f119 hf119 A_b81 W => ?_)
      refine own_goto X (pc := 303) (pc' := 378) at_303 (by decide) (by decide) ?_
      refine own_aload X at_378 rfl rfl ?_
      refine own_iload X at_380 rfl ?_
      refine own_iload X at_382 rfl ?_
      refine own_callS X (W := 0) (argsL := [(.ref b81), (.int v80), (.int (3 : Int32))]) (rest := []) (hw _ (List.mem_of_getElem? (i := 4) rfl)) (hw _ (List.mem_of_getElem? (i := 5) rfl)) (hw _ (List.mem_of_getElem? (i := 6) rfl)) (hw _ (List.mem_of_getElem? (i := 7) rfl)) (by decide) (rm1_3 l Z a0 hw [] b81 v80 f119 6 v109 v115 h n0 (own_size X) A_b81 (by omega) (by show _ ≤ (6 : Int); omega) hv109 hv115) (by decide) (by decide) (by decide) (by decide) rfl (lenOf pd_1 rfl) rfl (Nat.le_of_eq rfl) at_384 (own_contI fun T v120 X hq120 => ?_)
      have e120_0 : (f119 v80).toInt = v107.toInt := by rw [hf119, own_upd_miss (own_cNe (a := v80.toInt) (b := v115.toInt) rfl rfl (by omega)), hf114, own_upd_miss (own_cNe (a := v80.toInt) (b := v109.toInt) rfl rfl (by omega)), hf108, own_upd_hit]
      have e120_1 : (f119 v109).toInt = v113.toInt := by rw [hf119, own_upd_miss (own_cNe (a := v109.toInt) (b := v115.toInt) rfl rfl (by omega)), hf114, own_upd_hit]
      have e120_2 : (f119 v115).toInt = v118.toInt := by rw [hf119, own_upd_hit]
      rw [e120_0, e120_1, e120_2] at hq120
      refine own_iload X at_387 rfl ?_
      have hc121 : v120.toInt = v77.toInt := by omega
      refine own_icmpNo X at_389 (teq (own_cEq (a := v120.toInt) (b := v77.toInt) rfl rfl hc121)).2 ?_
      refine own_iconst X (1) at_392 rfl ?_
      refine own_goto X (pc := 393) (pc' := 397) at_393 (by decide) (by decide) ?_
      refine own_retN (t := .boolean) X (z' := (1 : Int32)) (Or.inl rfl) rfl rfl at_397 (by decide) (by decide) ⟨_, rfl, ?_⟩
      rfl
    · refine own_icmpNo X at_70 (flt (own_cGe (a := v77.toInt) (b := 55296) rfl rfl hc78)).1 ?_
      refine own_iload X at_73 rfl ?_
      refine own_ldc X (hw _ (List.mem_of_getElem? (i := 10) rfl)) at_75 ?_
      by_cases hc122 : 57343 < v77.toInt
      · refine own_icmpYes X (pc := 77) (pc' := 101) at_77 (tlt (own_cLt (a := 57343) (b := v77.toInt) rfl rfl hc122)).2.2.1 (by decide) (by decide) ?_
        refine own_iloadN X at_101 rfl ?_
        refine own_ldc X (hw _ (List.mem_of_getElem? (i := 0) rfl)) at_102 ?_
        refine own_iandM X (x2.toInt) 31 2147483648 at_104 rfl (by decide) (by decide) (by decide) (fun v123 hv123 cv123 lv123 uv123 => ?_)
        refine own_bipush X (7) at_105 rfl ?_
        refine own_iload X at_107 rfl ?_
        refine own_isubE X at_109 (4 : Int32) (by decide) ?_
        refine own_iremK X (v123.toInt) (4) at_110 (by decide) rfl rfl (fun v124 hv124 cv124 lv124 uv124 => ?_)
        refine own_istore X at_111 (L' := #[.val (.int x0), .val (.int x1), .val (.int x2), .val (.int x3), .val (.int (3 : Int32)), .val (.int v75), .val (.int v77), .val (.int v124), .unset]) rfl ?_
        refine own_bipush X (6) at_113 rfl ?_
        refine own_newP X (cap := 6) (hw _ (List.mem_of_getElem? (i := 3) rfl)) (by decide) (by decide) (by decide) (by decide) (by decide) (by decide) at_115 (fun T h b125 hb_b125 ge_b125 X E f125 hf125 A_b125 => ?_)
        have A_b125 : own_AI Z h b125 .byte (6 : Int32) f125 := A_b125
        refine own_astore X at_117 rfl (L' := #[.val (.int x0), .val (.int x1), .val (.int x2), .val (.int x3), .val (.int (3 : Int32)), .val (.int v75), .val (.int v77), .val (.int v124), .val (.ref b125)]) rfl ?_
        refine own_aload X at_119 rfl rfl ?_
        refine own_iconst X (0) at_121 rfl ?_
        refine own_iloadN X at_122 rfl ?_
        refine own_bipush X (127) at_123 rfl ?_
        refine own_iandM X (x3.toInt) 7 128 at_125 rfl (by decide) (by decide) (by decide) (fun v126 hv126 cv126 lv126 uv126 => ?_)
        refine own_i2bV X (v126.toInt) at_126 rfl (fun v127 hv127 cv127 lv127 uv127 => ?_)
        refine own_bastore X A_b125 (own_cGe (a := 0) (b := 0) rfl rfl (by omega)) (own_cLt (a := 0) (b := 6) rfl rfl (by omega)) ge_b125 (x' := v127) (by rw [← hv127]; exact own_i2b2 _) at_127 (fun T h X f128 hf128 A_b125 W => ?_)
        refine own_aload X at_128 rfl rfl ?_
        refine own_iconst X (1) at_130 rfl ?_
        refine own_iloadN X at_131 rfl ?_
        refine own_iconst X (5) at_132 rfl ?_
        refine own_iushrK X (x3.toInt) 5 32 at_133 rfl (by decide) (by decide) (by decide) (fun v129 hv129 cv129 lv129 uv129 => ?_)
        refine own_bipush X (127) at_134 rfl ?_
        refine own_iandM X (v129.toInt) 7 128 at_136 rfl (by decide) (by decide) (by decide) (fun v130 hv130 cv130 lv130 uv130 => ?_)
        refine own_i2bV X (v130.toInt) at_137 rfl (fun v131 hv131 cv131 lv131 uv131 => ?_)
        refine own_bastore X A_b125 (own_cGe (a := 1) (b := 0) rfl rfl (by omega)) (own_cLt (a := 1) (b := 6) rfl rfl (by omega)) ge_b125 (x' := v131) (by rw [← hv131]; exact own_i2b2 _) at_138 (fun T h X f132 hf132 A_b125 W => ?_)
        refine own_aload X at_139 rfl rfl ?_
        refine own_iconst X (2) at_141 rfl ?_
        refine own_iloadN X at_142 rfl ?_
        refine own_bipush X (10) at_143 rfl ?_
        refine own_iushrK X (x3.toInt) 10 1024 at_145 rfl (by decide) (by decide) (by decide) (fun v133 hv133 cv133 lv133 uv133 => ?_)
        refine own_bipush X (127) at_146 rfl ?_
        refine own_iandM X (v133.toInt) 7 128 at_148 rfl (by decide) (by decide) (by decide) (fun v134 hv134 cv134 lv134 uv134 => ?_)
        refine own_i2bV X (v134.toInt) at_149 rfl (fun v135 hv135 cv135 lv135 uv135 => ?_)
        refine own_bastore X A_b125 (own_cGe (a := 2) (b := 0) rfl rfl (by omega)) (own_cLt (a := 2) (b := 6) rfl rfl (by omega)) ge_b125 (x' := v135) (by rw [← hv135]; exact own_i2b2 _) at_150 (fun T h X f136 hf136 A_b125 W => ?_)
        refine own_aload X at_151 rfl rfl ?_
        refine own_iconst X (3) at_153 rfl ?_
        refine own_iloadN X at_154 rfl ?_
        refine own_bipush X (15) at_155 rfl ?_
        refine own_iushrK X (x3.toInt) 15 32768 at_157 rfl (by decide) (by decide) (by decide) (fun v137 hv137 cv137 lv137 uv137 => ?_)
        refine own_bipush X (127) at_158 rfl ?_
        refine own_iandM X (v137.toInt) 7 128 at_160 rfl (by decide) (by decide) (by decide) (fun v138 hv138 cv138 lv138 uv138 => ?_)
        refine own_i2bV X (v138.toInt) at_161 rfl (fun v139 hv139 cv139 lv139 uv139 => ?_)
        refine own_bastore X A_b125 (own_cGe (a := 3) (b := 0) rfl rfl (by omega)) (own_cLt (a := 3) (b := 6) rfl rfl (by omega)) ge_b125 (x' := v139) (by rw [← hv139]; exact own_i2b2 _) at_162 (fun T h X f140 hf140 A_b125 W => ?_)
        refine own_aload X at_163 rfl rfl ?_
        refine own_iconst X (4) at_165 rfl ?_
        refine own_iloadN X at_166 rfl ?_
        refine own_bipush X (20) at_167 rfl ?_
        refine own_iushrK X (x3.toInt) 20 1048576 at_169 rfl (by decide) (by decide) (by decide) (fun v141 hv141 cv141 lv141 uv141 => ?_)
        refine own_bipush X (127) at_170 rfl ?_
        refine own_iandM X (v141.toInt) 7 128 at_172 rfl (by decide) (by decide) (by decide) (fun v142 hv142 cv142 lv142 uv142 => ?_)
        refine own_i2bV X (v142.toInt) at_173 rfl (fun v143 hv143 cv143 lv143 uv143 => ?_)
        refine own_bastore X A_b125 (own_cGe (a := 4) (b := 0) rfl rfl (by omega)) (own_cLt (a := 4) (b := 6) rfl rfl (by omega)) ge_b125 (x' := v143) (by rw [← hv143]; exact own_i2b2 _) at_174 (fun T h X f144 hf144 A_b125 W => ?_)
        refine own_aload X at_175 rfl rfl ?_
        refine own_iconst X (5) at_177 rfl ?_
        refine own_iloadN X at_178 rfl ?_
        refine own_bipush X (25) at_179 rfl ?_
        refine own_iushrK X (x3.toInt) 25 33554432 at_181 rfl (by decide) (by decide) (by decide) (fun v145 hv145 cv145 lv145 uv145 => ?_)
        refine own_bipush X (127) at_182 rfl ?_
        refine own_iandM X (v145.toInt) 7 128 at_184 rfl (by decide) (by decide) (by decide) (fun v146 hv146 cv146 lv146 uv146 => ?_)
        refine own_i2bV X (v146.toInt) at_185 rfl (fun v147 hv147 cv147 lv147 uv147 => ?_)
        refine own_bastore X A_b125 (own_cGe (a := 5) (b := 0) rfl rfl (by omega)) (own_cLt (a := 5) (b := 6) rfl rfl (by omega)) ge_b125 (x' := v147) (by rw [← hv147]; exact own_i2b2 _) at_186 (fun T h X f148 hf148 A_b125 W => ?_)
        refine own_iload X at_187 rfl ?_
        refine own_iconst X (1) at_189 rfl ?_
        refine own_icmpYes X (pc := 190) (pc' := 204) at_190 (feq (own_cNe (a := 3) (b := 1) rfl rfl (by decide))).2 (by decide) (by decide) ?_
        refine own_iload X at_204 rfl ?_
        refine own_iconst X (2) at_206 rfl ?_
        refine own_icmpYes X (pc := 207) (pc' := 245) at_207 (feq (own_cNe (a := 3) (b := 2) rfl rfl (by decide))).2 (by decide) (by decide) ?_
        refine own_iload X at_245 rfl ?_
        refine own_iconst X (3) at_247 rfl ?_
        refine own_icmpNo X at_248 (teq (own_cEq (a := 3) (b := 3) rfl rfl (by decide))).2 ?_
        refine own_aload X at_251 rfl rfl ?_
        refine own_iload X at_253 rfl ?_
        refine own_sipush X (224) at_255 rfl ?_
        refine own_iload X at_258 rfl ?_
        refine own_bipush X (12) at_260 rfl ?_
        refine own_ishrK X (v77.toInt) 12 4096 at_262 rfl (by decide) (by decide) (fun v149 hv149 cv149 lv149 uv149 => ?_)
        refine own_iorM X (224) (v149.toInt) 4 16 at_263 rfl rfl (by decide) (by decide) (by omega) (by omega) (by omega) (fun v150 hv150 cv150 lv150 uv150 => ?_)
        refine own_i2bV X (v150.toInt) at_264 rfl (fun v151 hv151 cv151 lv151 uv151 => ?_)
        refine own_bastore X A_b125 (own_cGe (a := v124.toInt) (b := 0) rfl rfl (by omega)) (own_cLt (a := v124.toInt) (b := 6) rfl rfl (by omega)) ge_b125 (x' := v151) (by rw [← hv151]; exact own_i2b2 _) at_265 (fun T h X f152 hf152 A_b125 W => ?_)
        refine own_aload X at_266 rfl rfl ?_
        refine own_iload X at_268 rfl ?_
        refine own_iconst X (1) at_270 rfl ?_
        refine own_iaddV X (v124.toInt) (1) at_271 rfl rfl (fun v153 hv153 cv153 lv153 uv153 => ?_)
        refine own_sipush X (128) at_272 rfl ?_
        refine own_iload X at_275 rfl ?_
        refine own_bipush X (6) at_277 rfl ?_
        refine own_ishrK X (v77.toInt) 6 64 at_279 rfl (by decide) (by decide) (fun v154 hv154 cv154 lv154 uv154 => ?_)
        refine own_bipush X (63) at_280 rfl ?_
        refine own_iandM X (v154.toInt) 6 64 at_282 rfl (by decide) (by decide) (by decide) (fun v155 hv155 cv155 lv155 uv155 => ?_)
        refine own_iorM X (128) (v155.toInt) 6 64 at_283 rfl rfl (by decide) (by decide) (by omega) (by omega) (by omega) (fun v156 hv156 cv156 lv156 uv156 => ?_)
        refine own_i2bV X (v156.toInt) at_284 rfl (fun v157 hv157 cv157 lv157 uv157 => ?_)
        refine own_bastore X A_b125 (own_cGe (a := v153.toInt) (b := 0) rfl rfl (by omega)) (own_cLt (a := v153.toInt) (b := 6) rfl rfl (by omega)) ge_b125 (x' := v157) (by rw [← hv157]; exact own_i2b2 _) at_285 (fun T h X f158 hf158 A_b125 W => ?_)
        refine own_aload X at_286 rfl rfl ?_
        refine own_iload X at_288 rfl ?_
        refine own_iconst X (2) at_290 rfl ?_
        refine own_iaddV X (v124.toInt) (2) at_291 rfl rfl (fun v159 hv159 cv159 lv159 uv159 => ?_)
        refine own_sipush X (128) at_292 rfl ?_
        refine own_iload X at_295 rfl ?_
        refine own_bipush X (63) at_297 rfl ?_
        refine own_iandM X (v77.toInt) 6 64 at_299 rfl (by decide) (by decide) (by decide) (fun v160 hv160 cv160 lv160 uv160 => ?_)
        refine own_iorM X (128) (v160.toInt) 6 64 at_300 rfl rfl (by decide) (by decide) (by omega) (by omega) (by omega) (fun v161 hv161 cv161 lv161 uv161 => ?_)
        refine own_i2bV X (v161.toInt) at_301 rfl (fun v162 hv162 cv162 lv162 uv162 => ?_)
        refine own_bastore X A_b125 (own_cGe (a := v159.toInt) (b := 0) rfl rfl (by omega)) (own_cLt (a := v159.toInt) (b := 6) rfl rfl (by omega)) ge_b125 (x' := v162) (by rw [← hv162]; exact own_i2b2 _) at_302 (fun T h X f163 hf163 A_b125 W => ?_)
        refine own_goto X (pc := 303) (pc' := 378) at_303 (by decide) (by decide) ?_
        refine own_aload X at_378 rfl rfl ?_
        refine own_iload X at_380 rfl ?_
        refine own_iload X at_382 rfl ?_
        refine own_callS X (W := 0) (argsL := [(.ref b125), (.int v124), (.int (3 : Int32))]) (rest := []) (hw _ (List.mem_of_getElem? (i := 4) rfl)) (hw _ (List.mem_of_getElem? (i := 5) rfl)) (hw _ (List.mem_of_getElem? (i := 6) rfl)) (hw _ (List.mem_of_getElem? (i := 7) rfl)) (by decide) (rm1_3 l Z a0 hw [] b125 v124 f163 6 v153 v159 h n0 (own_size X) A_b125 (by omega) (by show _ ≤ (6 : Int); omega) hv153 hv159) (by decide) (by decide) (by decide) (by decide) rfl (lenOf pd_1 rfl) rfl (Nat.le_of_eq rfl) at_384 (own_contI fun T v164 X hq164 => ?_)
        have e164_0 : (f163 v124).toInt = v151.toInt := by rw [hf163, own_upd_miss (own_cNe (a := v124.toInt) (b := v159.toInt) rfl rfl (by omega)), hf158, own_upd_miss (own_cNe (a := v124.toInt) (b := v153.toInt) rfl rfl (by omega)), hf152, own_upd_hit]
        have e164_1 : (f163 v153).toInt = v157.toInt := by rw [hf163, own_upd_miss (own_cNe (a := v153.toInt) (b := v159.toInt) rfl rfl (by omega)), hf158, own_upd_hit]
        have e164_2 : (f163 v159).toInt = v162.toInt := by rw [hf163, own_upd_hit]
        rw [e164_0, e164_1, e164_2] at hq164
        refine own_iload X at_387 rfl ?_
        have hc165 : v164.toInt = v77.toInt := by omega
        refine own_icmpNo X at_389 (teq (own_cEq (a := v164.toInt) (b := v77.toInt) rfl rfl hc165)).2 ?_
        refine own_iconst X (1) at_392 rfl ?_
        refine own_goto X (pc := 393) (pc' := 397) at_393 (by decide) (by decide) ?_
        refine own_retN (t := .boolean) X (z' := (1 : Int32)) (Or.inl rfl) rfl rfl at_397 (by decide) (by decide) ⟨_, rfl, ?_⟩
        rfl
      · refine own_icmpNo X at_77 (flt (own_cGe (a := 57343) (b := v77.toInt) rfl rfl hc122)).2.2.1 ?_
        refine own_iload X at_80 rfl ?_
        refine own_sipush X (8192) at_82 rfl ?_
        refine own_ixorV X at_85 (fun v166 hv166 lv166 uv166 => ?_)
        have hxr := own_xor _ _ hv166 (by omega) (by omega)
        refine own_istore X at_86 (L' := #[.val (.int x0), .val (.int x1), .val (.int x2), .val (.int x3), .val (.int (3 : Int32)), .val (.int v75), .val (.int v166), .unset, .unset]) rfl ?_
        refine own_goto X (pc := 88) (pc' := 101) at_88 (by decide) (by decide) ?_
        refine own_iloadN X at_101 rfl ?_
        refine own_ldc X (hw _ (List.mem_of_getElem? (i := 0) rfl)) at_102 ?_
        refine own_iandM X (x2.toInt) 31 2147483648 at_104 rfl (by decide) (by decide) (by decide) (fun v167 hv167 cv167 lv167 uv167 => ?_)
        refine own_bipush X (7) at_105 rfl ?_
        refine own_iload X at_107 rfl ?_
        refine own_isubE X at_109 (4 : Int32) (by decide) ?_
        refine own_iremK X (v167.toInt) (4) at_110 (by decide) rfl rfl (fun v168 hv168 cv168 lv168 uv168 => ?_)
        refine own_istore X at_111 (L' := #[.val (.int x0), .val (.int x1), .val (.int x2), .val (.int x3), .val (.int (3 : Int32)), .val (.int v75), .val (.int v166), .val (.int v168), .unset]) rfl ?_
        refine own_bipush X (6) at_113 rfl ?_
        refine own_newP X (cap := 6) (hw _ (List.mem_of_getElem? (i := 3) rfl)) (by decide) (by decide) (by decide) (by decide) (by decide) (by decide) at_115 (fun T h b169 hb_b169 ge_b169 X E f169 hf169 A_b169 => ?_)
        have A_b169 : own_AI Z h b169 .byte (6 : Int32) f169 := A_b169
        refine own_astore X at_117 rfl (L' := #[.val (.int x0), .val (.int x1), .val (.int x2), .val (.int x3), .val (.int (3 : Int32)), .val (.int v75), .val (.int v166), .val (.int v168), .val (.ref b169)]) rfl ?_
        refine own_aload X at_119 rfl rfl ?_
        refine own_iconst X (0) at_121 rfl ?_
        refine own_iloadN X at_122 rfl ?_
        refine own_bipush X (127) at_123 rfl ?_
        refine own_iandM X (x3.toInt) 7 128 at_125 rfl (by decide) (by decide) (by decide) (fun v170 hv170 cv170 lv170 uv170 => ?_)
        refine own_i2bV X (v170.toInt) at_126 rfl (fun v171 hv171 cv171 lv171 uv171 => ?_)
        refine own_bastore X A_b169 (own_cGe (a := 0) (b := 0) rfl rfl (by omega)) (own_cLt (a := 0) (b := 6) rfl rfl (by omega)) ge_b169 (x' := v171) (by rw [← hv171]; exact own_i2b2 _) at_127 (fun T h X f172 hf172 A_b169 W => ?_)
        refine own_aload X at_128 rfl rfl ?_
        refine own_iconst X (1) at_130 rfl ?_
        refine own_iloadN X at_131 rfl ?_
        refine own_iconst X (5) at_132 rfl ?_
        refine own_iushrK X (x3.toInt) 5 32 at_133 rfl (by decide) (by decide) (by decide) (fun v173 hv173 cv173 lv173 uv173 => ?_)
        refine own_bipush X (127) at_134 rfl ?_
        refine own_iandM X (v173.toInt) 7 128 at_136 rfl (by decide) (by decide) (by decide) (fun v174 hv174 cv174 lv174 uv174 => ?_)
        refine own_i2bV X (v174.toInt) at_137 rfl (fun v175 hv175 cv175 lv175 uv175 => ?_)
        refine own_bastore X A_b169 (own_cGe (a := 1) (b := 0) rfl rfl (by omega)) (own_cLt (a := 1) (b := 6) rfl rfl (by omega)) ge_b169 (x' := v175) (by rw [← hv175]; exact own_i2b2 _) at_138 (fun T h X f176 hf176 A_b169 W => ?_)
        refine own_aload X at_139 rfl rfl ?_
        refine own_iconst X (2) at_141 rfl ?_
        refine own_iloadN X at_142 rfl ?_
        refine own_bipush X (10) at_143 rfl ?_
        refine own_iushrK X (x3.toInt) 10 1024 at_145 rfl (by decide) (by decide) (by decide) (fun v177 hv177 cv177 lv177 uv177 => ?_)
        refine own_bipush X (127) at_146 rfl ?_
        refine own_iandM X (v177.toInt) 7 128 at_148 rfl (by decide) (by decide) (by decide) (fun v178 hv178 cv178 lv178 uv178 => ?_)
        refine own_i2bV X (v178.toInt) at_149 rfl (fun v179 hv179 cv179 lv179 uv179 => ?_)
        refine own_bastore X A_b169 (own_cGe (a := 2) (b := 0) rfl rfl (by omega)) (own_cLt (a := 2) (b := 6) rfl rfl (by omega)) ge_b169 (x' := v179) (by rw [← hv179]; exact own_i2b2 _) at_150 (fun T h X f180 hf180 A_b169 W => ?_)
        refine own_aload X at_151 rfl rfl ?_
        refine own_iconst X (3) at_153 rfl ?_
        refine own_iloadN X at_154 rfl ?_
        refine own_bipush X (15) at_155 rfl ?_
        refine own_iushrK X (x3.toInt) 15 32768 at_157 rfl (by decide) (by decide) (by decide) (fun v181 hv181 cv181 lv181 uv181 => ?_)
        refine own_bipush X (127) at_158 rfl ?_
        refine own_iandM X (v181.toInt) 7 128 at_160 rfl (by decide) (by decide) (by decide) (fun v182 hv182 cv182 lv182 uv182 => ?_)
        refine own_i2bV X (v182.toInt) at_161 rfl (fun v183 hv183 cv183 lv183 uv183 => ?_)
        refine own_bastore X A_b169 (own_cGe (a := 3) (b := 0) rfl rfl (by omega)) (own_cLt (a := 3) (b := 6) rfl rfl (by omega)) ge_b169 (x' := v183) (by rw [← hv183]; exact own_i2b2 _) at_162 (fun T h X f184 hf184 A_b169 W => ?_)
        refine own_aload X at_163 rfl rfl ?_
        refine own_iconst X (4) at_165 rfl ?_
        refine own_iloadN X at_166 rfl ?_
        refine own_bipush X (20) at_167 rfl ?_
        refine own_iushrK X (x3.toInt) 20 1048576 at_169 rfl (by decide) (by decide) (by decide) (fun v185 hv185 cv185 lv185 uv185 => ?_)
        refine own_bipush X (127) at_170 rfl ?_
        refine own_iandM X (v185.toInt) 7 128 at_172 rfl (by decide) (by decide) (by decide) (fun v186 hv186 cv186 lv186 uv186 => ?_)
        refine own_i2bV X (v186.toInt) at_173 rfl (fun v187 hv187 cv187 lv187 uv187 => ?_)
        refine own_bastore X A_b169 (own_cGe (a := 4) (b := 0) rfl rfl (by omega)) (own_cLt (a := 4) (b := 6) rfl rfl (by omega)) ge_b169 (x' := v187) (by rw [← hv187]; exact own_i2b2 _) at_174 (fun T h X f188 hf188 A_b169 W => ?_)
        refine own_aload X at_175 rfl rfl ?_
        refine own_iconst X (5) at_177 rfl ?_
        refine own_iloadN X at_178 rfl ?_
        refine own_bipush X (25) at_179 rfl ?_
        refine own_iushrK X (x3.toInt) 25 33554432 at_181 rfl (by decide) (by decide) (by decide) (fun v189 hv189 cv189 lv189 uv189 => ?_)
        refine own_bipush X (127) at_182 rfl ?_
        refine own_iandM X (v189.toInt) 7 128 at_184 rfl (by decide) (by decide) (by decide) (fun v190 hv190 cv190 lv190 uv190 => ?_)
        refine own_i2bV X (v190.toInt) at_185 rfl (fun v191 hv191 cv191 lv191 uv191 => ?_)
        refine own_bastore X A_b169 (own_cGe (a := 5) (b := 0) rfl rfl (by omega)) (own_cLt (a := 5) (b := 6) rfl rfl (by omega)) ge_b169 (x' := v191) (by rw [← hv191]; exact own_i2b2 _) at_186 (fun T h X f192 hf192 A_b169 W => ?_)
        refine own_iload X at_187 rfl ?_
        refine own_iconst X (1) at_189 rfl ?_
        refine own_icmpYes X (pc := 190) (pc' := 204) at_190 (feq (own_cNe (a := 3) (b := 1) rfl rfl (by decide))).2 (by decide) (by decide) ?_
        refine own_iload X at_204 rfl ?_
        refine own_iconst X (2) at_206 rfl ?_
        refine own_icmpYes X (pc := 207) (pc' := 245) at_207 (feq (own_cNe (a := 3) (b := 2) rfl rfl (by decide))).2 (by decide) (by decide) ?_
        refine own_iload X at_245 rfl ?_
        refine own_iconst X (3) at_247 rfl ?_
        refine own_icmpNo X at_248 (teq (own_cEq (a := 3) (b := 3) rfl rfl (by decide))).2 ?_
        refine own_aload X at_251 rfl rfl ?_
        refine own_iload X at_253 rfl ?_
        refine own_sipush X (224) at_255 rfl ?_
        refine own_iload X at_258 rfl ?_
        refine own_bipush X (12) at_260 rfl ?_
        refine own_ishrK X (v166.toInt) 12 4096 at_262 rfl (by decide) (by decide) (fun v193 hv193 cv193 lv193 uv193 => ?_)
        refine own_iorM X (224) (v193.toInt) 4 16 at_263 rfl rfl (by decide) (by decide) (by omega) (by omega) (by omega) (fun v194 hv194 cv194 lv194 uv194 => ?_)
        refine own_i2bV X (v194.toInt) at_264 rfl (fun v195 hv195 cv195 lv195 uv195 => ?_)
        refine own_bastore X A_b169 (own_cGe (a := v168.toInt) (b := 0) rfl rfl (by omega)) (own_cLt (a := v168.toInt) (b := 6) rfl rfl (by omega)) ge_b169 (x' := v195) (by rw [← hv195]; exact own_i2b2 _) at_265 (fun T h X f196 hf196 A_b169 W => ?_)
        refine own_aload X at_266 rfl rfl ?_
        refine own_iload X at_268 rfl ?_
        refine own_iconst X (1) at_270 rfl ?_
        refine own_iaddV X (v168.toInt) (1) at_271 rfl rfl (fun v197 hv197 cv197 lv197 uv197 => ?_)
        refine own_sipush X (128) at_272 rfl ?_
        refine own_iload X at_275 rfl ?_
        refine own_bipush X (6) at_277 rfl ?_
        refine own_ishrK X (v166.toInt) 6 64 at_279 rfl (by decide) (by decide) (fun v198 hv198 cv198 lv198 uv198 => ?_)
        refine own_bipush X (63) at_280 rfl ?_
        refine own_iandM X (v198.toInt) 6 64 at_282 rfl (by decide) (by decide) (by decide) (fun v199 hv199 cv199 lv199 uv199 => ?_)
        refine own_iorM X (128) (v199.toInt) 6 64 at_283 rfl rfl (by decide) (by decide) (by omega) (by omega) (by omega) (fun v200 hv200 cv200 lv200 uv200 => ?_)
        refine own_i2bV X (v200.toInt) at_284 rfl (fun v201 hv201 cv201 lv201 uv201 => ?_)
        refine own_bastore X A_b169 (own_cGe (a := v197.toInt) (b := 0) rfl rfl (by omega)) (own_cLt (a := v197.toInt) (b := 6) rfl rfl (by omega)) ge_b169 (x' := v201) (by rw [← hv201]; exact own_i2b2 _) at_285 (fun T h X f202 hf202 A_b169 W => ?_)
        refine own_aload X at_286 rfl rfl ?_
        refine own_iload X at_288 rfl ?_
        refine own_iconst X (2) at_290 rfl ?_
        refine own_iaddV X (v168.toInt) (2) at_291 rfl rfl (fun v203 hv203 cv203 lv203 uv203 => ?_)
        refine own_sipush X (128) at_292 rfl ?_
        refine own_iload X at_295 rfl ?_
        refine own_bipush X (63) at_297 rfl ?_
        refine own_iandM X (v166.toInt) 6 64 at_299 rfl (by decide) (by decide) (by decide) (fun v204 hv204 cv204 lv204 uv204 => ?_)
        refine own_iorM X (128) (v204.toInt) 6 64 at_300 rfl rfl (by decide) (by decide) (by omega) (by omega) (by omega) (fun v205 hv205 cv205 lv205 uv205 => ?_)
        refine own_i2bV X (v205.toInt) at_301 rfl (fun v206 hv206 cv206 lv206 uv206 => ?_)
        refine own_bastore X A_b169 (own_cGe (a := v203.toInt) (b := 0) rfl rfl (by omega)) (own_cLt (a := v203.toInt) (b := 6) rfl rfl (by omega)) ge_b169 (x' := v206) (by rw [← hv206]; exact own_i2b2 _) at_302 (fun T h X f207 hf207 A_b169 W => ?_)
        refine own_goto X (pc := 303) (pc' := 378) at_303 (by decide) (by decide) ?_
        refine own_aload X at_378 rfl rfl ?_
        refine own_iload X at_380 rfl ?_
        refine own_iload X at_382 rfl ?_
        refine own_callS X (W := 0) (argsL := [(.ref b169), (.int v168), (.int (3 : Int32))]) (rest := []) (hw _ (List.mem_of_getElem? (i := 4) rfl)) (hw _ (List.mem_of_getElem? (i := 5) rfl)) (hw _ (List.mem_of_getElem? (i := 6) rfl)) (hw _ (List.mem_of_getElem? (i := 7) rfl)) (by decide) (rm1_3 l Z a0 hw [] b169 v168 f207 6 v197 v203 h n0 (own_size X) A_b169 (by omega) (by show _ ≤ (6 : Int); omega) hv197 hv203) (by decide) (by decide) (by decide) (by decide) rfl (lenOf pd_1 rfl) rfl (Nat.le_of_eq rfl) at_384 (own_contI fun T v208 X hq208 => ?_)
        have e208_0 : (f207 v168).toInt = v195.toInt := by rw [hf207, own_upd_miss (own_cNe (a := v168.toInt) (b := v203.toInt) rfl rfl (by omega)), hf202, own_upd_miss (own_cNe (a := v168.toInt) (b := v197.toInt) rfl rfl (by omega)), hf196, own_upd_hit]
        have e208_1 : (f207 v197).toInt = v201.toInt := by rw [hf207, own_upd_miss (own_cNe (a := v197.toInt) (b := v203.toInt) rfl rfl (by omega)), hf202, own_upd_hit]
        have e208_2 : (f207 v203).toInt = v206.toInt := by rw [hf207, own_upd_hit]
        rw [e208_0, e208_1, e208_2] at hq208
        refine own_iload X at_387 rfl ?_
        have hc209 : v208.toInt = v166.toInt := by omega
        refine own_icmpNo X at_389 (teq (own_cEq (a := v208.toInt) (b := v166.toInt) rfl rfl hc209)).2 ?_
        refine own_iconst X (1) at_392 rfl ?_
        refine own_goto X (pc := 393) (pc' := 397) at_393 (by decide) (by decide) ?_
        refine own_retN (t := .boolean) X (z' := (1 : Int32)) (Or.inl rfl) rfl rfl at_397 (by decide) (by decide) ⟨_, rfl, ?_⟩
        rfl
  · obtain rfl : v2 = (4 : Int32) := own_cEq (a := v2.toInt) (b := 4) rfl rfl hs
    refine own_iloadN X at_7 rfl ?_
    refine own_ldc X (hw _ (List.mem_of_getElem? (i := 0) rfl)) at_8 ?_
    refine own_iandM X (x0.toInt) 31 2147483648 at_10 rfl (by decide) (by decide) (by decide) (fun v210 hv210 cv210 lv210 uv210 => ?_)
    refine own_istore X at_11 (L' := #[.val (.int x0), .val (.int x1), .val (.int x2), .val (.int x3), .val (.int (4 : Int32)), .val (.int v210), .unset, .unset, .unset]) rfl ?_
    refine own_iload X at_13 rfl ?_
    refine own_iconst X (1) at_15 rfl ?_
    refine own_icmpYes X (pc := 16) (pc' := 28) at_16 (feq (own_cNe (a := 4) (b := 1) rfl rfl (by decide))).2 (by decide) (by decide) ?_
    refine own_iload X at_28 rfl ?_
    refine own_iconst X (2) at_30 rfl ?_
    refine own_icmpYes X (pc := 31) (pc' := 49) at_31 (feq (own_cNe (a := 4) (b := 2) rfl rfl (by decide))).2 (by decide) (by decide) ?_
    refine own_iload X at_49 rfl ?_
    refine own_iconst X (3) at_51 rfl ?_
    refine own_icmpYes X (pc := 52) (pc' := 91) at_52 (feq (own_cNe (a := 4) (b := 3) rfl rfl (by decide))).2 (by decide) (by decide) ?_
    refine own_iload X at_91 rfl ?_
    refine own_ldc X (hw _ (List.mem_of_getElem? (i := 1) rfl)) at_93 ?_
    refine own_iremK X (v210.toInt) (1048576) at_95 (by decide) rfl rfl (fun v211 hv211 cv211 lv211 uv211 => ?_)
    refine own_ldc X (hw _ (List.mem_of_getElem? (i := 2) rfl)) at_96 ?_
    refine own_iaddV X (v211.toInt) (65536) at_98 rfl rfl (fun v212 hv212 cv212 lv212 uv212 => ?_)
    refine own_istore X at_99 (L' := #[.val (.int x0), .val (.int x1), .val (.int x2), .val (.int x3), .val (.int (4 : Int32)), .val (.int v210), .val (.int v212), .unset, .unset]) rfl ?_
    refine own_iloadN X at_101 rfl ?_
    refine own_ldc X (hw _ (List.mem_of_getElem? (i := 0) rfl)) at_102 ?_
    refine own_iandM X (x2.toInt) 31 2147483648 at_104 rfl (by decide) (by decide) (by decide) (fun v213 hv213 cv213 lv213 uv213 => ?_)
    refine own_bipush X (7) at_105 rfl ?_
    refine own_iload X at_107 rfl ?_
    refine own_isubE X at_109 (3 : Int32) (by decide) ?_
    refine own_iremK X (v213.toInt) (3) at_110 (by decide) rfl rfl (fun v214 hv214 cv214 lv214 uv214 => ?_)
    refine own_istore X at_111 (L' := #[.val (.int x0), .val (.int x1), .val (.int x2), .val (.int x3), .val (.int (4 : Int32)), .val (.int v210), .val (.int v212), .val (.int v214), .unset]) rfl ?_
    refine own_bipush X (6) at_113 rfl ?_
    refine own_newP X (cap := 6) (hw _ (List.mem_of_getElem? (i := 3) rfl)) (by decide) (by decide) (by decide) (by decide) (by decide) (by decide) at_115 (fun T h b215 hb_b215 ge_b215 X E f215 hf215 A_b215 => ?_)
    have A_b215 : own_AI Z h b215 .byte (6 : Int32) f215 := A_b215
    refine own_astore X at_117 rfl (L' := #[.val (.int x0), .val (.int x1), .val (.int x2), .val (.int x3), .val (.int (4 : Int32)), .val (.int v210), .val (.int v212), .val (.int v214), .val (.ref b215)]) rfl ?_
    refine own_aload X at_119 rfl rfl ?_
    refine own_iconst X (0) at_121 rfl ?_
    refine own_iloadN X at_122 rfl ?_
    refine own_bipush X (127) at_123 rfl ?_
    refine own_iandM X (x3.toInt) 7 128 at_125 rfl (by decide) (by decide) (by decide) (fun v216 hv216 cv216 lv216 uv216 => ?_)
    refine own_i2bV X (v216.toInt) at_126 rfl (fun v217 hv217 cv217 lv217 uv217 => ?_)
    refine own_bastore X A_b215 (own_cGe (a := 0) (b := 0) rfl rfl (by omega)) (own_cLt (a := 0) (b := 6) rfl rfl (by omega)) ge_b215 (x' := v217) (by rw [← hv217]; exact own_i2b2 _) at_127 (fun T h X f218 hf218 A_b215 W => ?_)
    refine own_aload X at_128 rfl rfl ?_
    refine own_iconst X (1) at_130 rfl ?_
    refine own_iloadN X at_131 rfl ?_
    refine own_iconst X (5) at_132 rfl ?_
    refine own_iushrK X (x3.toInt) 5 32 at_133 rfl (by decide) (by decide) (by decide) (fun v219 hv219 cv219 lv219 uv219 => ?_)
    refine own_bipush X (127) at_134 rfl ?_
    refine own_iandM X (v219.toInt) 7 128 at_136 rfl (by decide) (by decide) (by decide) (fun v220 hv220 cv220 lv220 uv220 => ?_)
    refine own_i2bV X (v220.toInt) at_137 rfl (fun v221 hv221 cv221 lv221 uv221 => ?_)
    refine own_bastore X A_b215 (own_cGe (a := 1) (b := 0) rfl rfl (by omega)) (own_cLt (a := 1) (b := 6) rfl rfl (by omega)) ge_b215 (x' := v221) (by rw [← hv221]; exact own_i2b2 _) at_138 (fun T h X f222 hf222 A_b215 W => ?_)
    refine own_aload X at_139 rfl rfl ?_
    refine own_iconst X (2) at_141 rfl ?_
    refine own_iloadN X at_142 rfl ?_
    refine own_bipush X (10) at_143 rfl ?_
    refine own_iushrK X (x3.toInt) 10 1024 at_145 rfl (by decide) (by decide) (by decide) (fun v223 hv223 cv223 lv223 uv223 => ?_)
    refine own_bipush X (127) at_146 rfl ?_
    refine own_iandM X (v223.toInt) 7 128 at_148 rfl (by decide) (by decide) (by decide) (fun v224 hv224 cv224 lv224 uv224 => ?_)
    refine own_i2bV X (v224.toInt) at_149 rfl (fun v225 hv225 cv225 lv225 uv225 => ?_)
    refine own_bastore X A_b215 (own_cGe (a := 2) (b := 0) rfl rfl (by omega)) (own_cLt (a := 2) (b := 6) rfl rfl (by omega)) ge_b215 (x' := v225) (by rw [← hv225]; exact own_i2b2 _) at_150 (fun T h X f226 hf226 A_b215 W => ?_)
    refine own_aload X at_151 rfl rfl ?_
    refine own_iconst X (3) at_153 rfl ?_
    refine own_iloadN X at_154 rfl ?_
    refine own_bipush X (15) at_155 rfl ?_
    refine own_iushrK X (x3.toInt) 15 32768 at_157 rfl (by decide) (by decide) (by decide) (fun v227 hv227 cv227 lv227 uv227 => ?_)
    refine own_bipush X (127) at_158 rfl ?_
    refine own_iandM X (v227.toInt) 7 128 at_160 rfl (by decide) (by decide) (by decide) (fun v228 hv228 cv228 lv228 uv228 => ?_)
    refine own_i2bV X (v228.toInt) at_161 rfl (fun v229 hv229 cv229 lv229 uv229 => ?_)
    refine own_bastore X A_b215 (own_cGe (a := 3) (b := 0) rfl rfl (by omega)) (own_cLt (a := 3) (b := 6) rfl rfl (by omega)) ge_b215 (x' := v229) (by rw [← hv229]; exact own_i2b2 _) at_162 (fun T h X f230 hf230 A_b215 W => ?_)
    refine own_aload X at_163 rfl rfl ?_
    refine own_iconst X (4) at_165 rfl ?_
    refine own_iloadN X at_166 rfl ?_
    refine own_bipush X (20) at_167 rfl ?_
    refine own_iushrK X (x3.toInt) 20 1048576 at_169 rfl (by decide) (by decide) (by decide) (fun v231 hv231 cv231 lv231 uv231 => ?_)
    refine own_bipush X (127) at_170 rfl ?_
    refine own_iandM X (v231.toInt) 7 128 at_172 rfl (by decide) (by decide) (by decide) (fun v232 hv232 cv232 lv232 uv232 => ?_)
    refine own_i2bV X (v232.toInt) at_173 rfl (fun v233 hv233 cv233 lv233 uv233 => ?_)
    refine own_bastore X A_b215 (own_cGe (a := 4) (b := 0) rfl rfl (by omega)) (own_cLt (a := 4) (b := 6) rfl rfl (by omega)) ge_b215 (x' := v233) (by rw [← hv233]; exact own_i2b2 _) at_174 (fun T h X f234 hf234 A_b215 W => ?_)
    refine own_aload X at_175 rfl rfl ?_
    refine own_iconst X (5) at_177 rfl ?_
    refine own_iloadN X at_178 rfl ?_
    refine own_bipush X (25) at_179 rfl ?_
    refine own_iushrK X (x3.toInt) 25 33554432 at_181 rfl (by decide) (by decide) (by decide) (fun v235 hv235 cv235 lv235 uv235 => ?_)
    refine own_bipush X (127) at_182 rfl ?_
    refine own_iandM X (v235.toInt) 7 128 at_184 rfl (by decide) (by decide) (by decide) (fun v236 hv236 cv236 lv236 uv236 => ?_)
    refine own_i2bV X (v236.toInt) at_185 rfl (fun v237 hv237 cv237 lv237 uv237 => ?_)
    refine own_bastore X A_b215 (own_cGe (a := 5) (b := 0) rfl rfl (by omega)) (own_cLt (a := 5) (b := 6) rfl rfl (by omega)) ge_b215 (x' := v237) (by rw [← hv237]; exact own_i2b2 _) at_186 (fun T h X f238 hf238 A_b215 W => ?_)
    refine own_iload X at_187 rfl ?_
    refine own_iconst X (1) at_189 rfl ?_
    refine own_icmpYes X (pc := 190) (pc' := 204) at_190 (feq (own_cNe (a := 4) (b := 1) rfl rfl (by decide))).2 (by decide) (by decide) ?_
    refine own_iload X at_204 rfl ?_
    refine own_iconst X (2) at_206 rfl ?_
    refine own_icmpYes X (pc := 207) (pc' := 245) at_207 (feq (own_cNe (a := 4) (b := 2) rfl rfl (by decide))).2 (by decide) (by decide) ?_
    refine own_iload X at_245 rfl ?_
    refine own_iconst X (3) at_247 rfl ?_
    refine own_icmpYes X (pc := 248) (pc' := 306) at_248 (feq (own_cNe (a := 4) (b := 3) rfl rfl (by decide))).2 (by decide) (by decide) ?_
    refine own_aload X at_306 rfl rfl ?_
    refine own_iload X at_308 rfl ?_
    refine own_sipush X (240) at_310 rfl ?_
    refine own_iload X at_313 rfl ?_
    refine own_bipush X (18) at_315 rfl ?_
    refine own_ishrK X (v212.toInt) 18 262144 at_317 rfl (by decide) (by decide) (fun v239 hv239 cv239 lv239 uv239 => ?_)
    refine own_iorM X (240) (v239.toInt) 3 8 at_318 rfl rfl (by decide) (by decide) (by omega) (by omega) (by omega) (fun v240 hv240 cv240 lv240 uv240 => ?_)
    refine own_i2bV X (v240.toInt) at_319 rfl (fun v241 hv241 cv241 lv241 uv241 => ?_)
    refine own_bastore X A_b215 (own_cGe (a := v214.toInt) (b := 0) rfl rfl (by omega)) (own_cLt (a := v214.toInt) (b := 6) rfl rfl (by omega)) ge_b215 (x' := v241) (by rw [← hv241]; exact own_i2b2 _) at_320 (fun T h X f242 hf242 A_b215 W => ?_)
    refine own_aload X at_321 rfl rfl ?_
    refine own_iload X at_323 rfl ?_
    refine own_iconst X (1) at_325 rfl ?_
    refine own_iaddV X (v214.toInt) (1) at_326 rfl rfl (fun v243 hv243 cv243 lv243 uv243 => ?_)
    refine own_sipush X (128) at_327 rfl ?_
    refine own_iload X at_330 rfl ?_
    refine own_bipush X (12) at_332 rfl ?_
    refine own_ishrK X (v212.toInt) 12 4096 at_334 rfl (by decide) (by decide) (fun v244 hv244 cv244 lv244 uv244 => ?_)
    refine own_bipush X (63) at_335 rfl ?_
    refine own_iandM X (v244.toInt) 6 64 at_337 rfl (by decide) (by decide) (by decide) (fun v245 hv245 cv245 lv245 uv245 => ?_)
    refine own_iorM X (128) (v245.toInt) 6 64 at_338 rfl rfl (by decide) (by decide) (by omega) (by omega) (by omega) (fun v246 hv246 cv246 lv246 uv246 => ?_)
    refine own_i2bV X (v246.toInt) at_339 rfl (fun v247 hv247 cv247 lv247 uv247 => ?_)
    refine own_bastore X A_b215 (own_cGe (a := v243.toInt) (b := 0) rfl rfl (by omega)) (own_cLt (a := v243.toInt) (b := 6) rfl rfl (by omega)) ge_b215 (x' := v247) (by rw [← hv247]; exact own_i2b2 _) at_340 (fun T h X f248 hf248 A_b215 W => ?_)
    refine own_aload X at_341 rfl rfl ?_
    refine own_iload X at_343 rfl ?_
    refine own_iconst X (2) at_345 rfl ?_
    refine own_iaddV X (v214.toInt) (2) at_346 rfl rfl (fun v249 hv249 cv249 lv249 uv249 => ?_)
    refine own_sipush X (128) at_347 rfl ?_
    refine own_iload X at_350 rfl ?_
    refine own_bipush X (6) at_352 rfl ?_
    refine own_ishrK X (v212.toInt) 6 64 at_354 rfl (by decide) (by decide) (fun v250 hv250 cv250 lv250 uv250 => ?_)
    refine own_bipush X (63) at_355 rfl ?_
    refine own_iandM X (v250.toInt) 6 64 at_357 rfl (by decide) (by decide) (by decide) (fun v251 hv251 cv251 lv251 uv251 => ?_)
    refine own_iorM X (128) (v251.toInt) 6 64 at_358 rfl rfl (by decide) (by decide) (by omega) (by omega) (by omega) (fun v252 hv252 cv252 lv252 uv252 => ?_)
    refine own_i2bV X (v252.toInt) at_359 rfl (fun v253 hv253 cv253 lv253 uv253 => ?_)
    refine own_bastore X A_b215 (own_cGe (a := v249.toInt) (b := 0) rfl rfl (by omega)) (own_cLt (a := v249.toInt) (b := 6) rfl rfl (by omega)) ge_b215 (x' := v253) (by rw [← hv253]; exact own_i2b2 _) at_360 (fun T h X f254 hf254 A_b215 W => ?_)
    refine own_aload X at_361 rfl rfl ?_
    refine own_iload X at_363 rfl ?_
    refine own_iconst X (3) at_365 rfl ?_
    refine own_iaddV X (v214.toInt) (3) at_366 rfl rfl (fun v255 hv255 cv255 lv255 uv255 => ?_)
    refine own_sipush X (128) at_367 rfl ?_
    refine own_iload X at_370 rfl ?_
    refine own_bipush X (63) at_372 rfl ?_
    refine own_iandM X (v212.toInt) 6 64 at_374 rfl (by decide) (by decide) (by decide) (fun v256 hv256 cv256 lv256 uv256 => ?_)
    refine own_iorM X (128) (v256.toInt) 6 64 at_375 rfl rfl (by decide) (by decide) (by omega) (by omega) (by omega) (fun v257 hv257 cv257 lv257 uv257 => ?_)
    refine own_i2bV X (v257.toInt) at_376 rfl (fun v258 hv258 cv258 lv258 uv258 => ?_)
    refine own_bastore X A_b215 (own_cGe (a := v255.toInt) (b := 0) rfl rfl (by omega)) (own_cLt (a := v255.toInt) (b := 6) rfl rfl (by omega)) ge_b215 (x' := v258) (by rw [← hv258]; exact own_i2b2 _) at_377 (fun T h X f259 hf259 A_b215 W => ?_)
    refine own_aload X at_378 rfl rfl ?_
    refine own_iload X at_380 rfl ?_
    refine own_iload X at_382 rfl ?_
    refine own_callS X (W := 0) (argsL := [(.ref b215), (.int v214), (.int (4 : Int32))]) (rest := []) (hw _ (List.mem_of_getElem? (i := 4) rfl)) (hw _ (List.mem_of_getElem? (i := 5) rfl)) (hw _ (List.mem_of_getElem? (i := 6) rfl)) (hw _ (List.mem_of_getElem? (i := 7) rfl)) (by decide) (rm1_4 l Z a0 hw [] b215 v214 f259 6 v243 v249 v255 h n0 (own_size X) A_b215 (by omega) (by show _ ≤ (6 : Int); omega) hv243 hv249 hv255) (by decide) (by decide) (by decide) (by decide) rfl (lenOf pd_1 rfl) rfl (Nat.le_of_eq rfl) at_384 (own_contI fun T v260 X hq260 => ?_)
    have e260_0 : (f259 v214).toInt = v241.toInt := by rw [hf259, own_upd_miss (own_cNe (a := v214.toInt) (b := v255.toInt) rfl rfl (by omega)), hf254, own_upd_miss (own_cNe (a := v214.toInt) (b := v249.toInt) rfl rfl (by omega)), hf248, own_upd_miss (own_cNe (a := v214.toInt) (b := v243.toInt) rfl rfl (by omega)), hf242, own_upd_hit]
    have e260_1 : (f259 v243).toInt = v247.toInt := by rw [hf259, own_upd_miss (own_cNe (a := v243.toInt) (b := v255.toInt) rfl rfl (by omega)), hf254, own_upd_miss (own_cNe (a := v243.toInt) (b := v249.toInt) rfl rfl (by omega)), hf248, own_upd_hit]
    have e260_2 : (f259 v249).toInt = v253.toInt := by rw [hf259, own_upd_miss (own_cNe (a := v249.toInt) (b := v255.toInt) rfl rfl (by omega)), hf254, own_upd_hit]
    have e260_3 : (f259 v255).toInt = v258.toInt := by rw [hf259, own_upd_hit]
    rw [e260_0, e260_1, e260_2, e260_3] at hq260
    refine own_iload X at_387 rfl ?_
    have hc261 : v260.toInt = v212.toInt := by omega
    refine own_icmpNo X at_389 (teq (own_cEq (a := v260.toInt) (b := v212.toInt) rfl rfl hc261)).2 ?_
    refine own_iconst X (1) at_392 rfl ?_
    refine own_goto X (pc := 393) (pc' := 397) at_393 (by decide) (by decide) ?_
    refine own_retN (t := .boolean) X (z' := (1 : Int32)) (Or.inl rfl) rfl rfl at_397 (by decide) (by decide) ⟨_, rfl, ?_⟩
    rfl
set_option maxRecDepth 65536 in
set_option maxHeartbeats 40000000 in
theorem comes_1 {Post : Tables → Env → Array Value → State → Outcome → State → Prop} (hpost : ∀ tb e args s v u, (limb_1_1.after args s (.returned v) u = true ∧ limb_1_2.after args s (.returned v) u = true ∧ True) → FrameEnd s (.returned v) u (Jvm.fieldLocs frame_1_writes args s ++ Jvm.arrayLocs frame_1_arrays args s ++ Jvm.staticLocs frame_1_statics s) 16 128 → Post tb e args s (.returned v) u) :
    ArmFor flags0 classFile x code maxLocals ret World_1 tables_1 room_1 Calls_1 rest_1 Pre_1 Post := by
  intro l hfl _ _ p e ha hc hk s m args below hf hA hF happ hP
  obtain ⟨hcalls, hrest, hpre⟩ := hP
  obtain ⟨-, -, -, hnamed, -, -, -, hat⟩ := (Spec.applies_iff hf).mp happ
  obtain ⟨hg, hn⟩ := and_e (Cond.before_iff.mp (show (Jvm.Cond.and given_1 narrow_1).before args s = true from hpre))
  obtain ⟨gcount, gt0⟩ := and_e hg
  obtain ⟨ga0, gt1⟩ := and_e gt0
  obtain ⟨ga1, gt2⟩ := and_e gt1
  obtain ⟨ga2, gt3⟩ := and_e gt2
  obtain ⟨w0, w1, w2, w3, rfl⟩ : ∃ w0 w1 w2 w3 : Value, args = #[w0, w1, w2, w3] := by
    have hs : args.size = 4 := by simpa [Cond.value, given_1] using gcount
    obtain ⟨L⟩ := args
    match L, hs with
    | [w0, w1, w2, w3], _ => exact ⟨w0, w1, w2, w3, rfl⟩
  have hw := fun d (hd : d ∈ tables_1) => atoms_spec (ws := Jvm.Cond.code x code maxLocals ret :: tables_1) hat d (List.mem_cons_of_mem _ hd)
  obtain ⟨i0, ei0⟩ := is_v ga0
  obtain rfl : w0 = (.int i0) := Option.some.inj ei0
  obtain ⟨i1, ei1⟩ := is_v ga1
  obtain rfl : w1 = (.int i1) := Option.some.inj ei1
  obtain ⟨i2, ei2⟩ := is_v ga2
  obtain rfl : w2 = (.int i2) := Option.some.inj ei2
  obtain ⟨i3, ei3⟩ := is_v gt3
  obtain rfl : w3 = (.int i3) := Option.some.inj ei3
  obtain ⟨n, o, h1, h2, h3, _, L, rfl, ⟨N, z, rfl, hz⟩, hq⟩ := rm0 l s _ hw tables_1 i0 i1 i2 i3 s.heap s.heap.size (Nat.le_refl _) p e ha hc hk s m _ below hf ((Spec.applies_iff_loose hf).mp happ).1 ⟨rfl, State.Warmed39.refl s, rfl⟩ trivial
  subst hz
  refine ⟨n, _, h1, h2, h3, hpost _ _ _ _ _ _ ⟨Cond.after_iff.mpr rfl, Cond.after_iff.mpr (eq_i res_at (Term.int_eval (1)) rfl), trivial⟩ ⟨hq.1, hq.2.1, (hq.2.2.sift fun y hy => Or.inr (N y hy)).mono (by decide) (by decide)⟩⟩
theorem main_1_1 : Claimed_1_1 := comes_1 fun _ _ _ _ _ _ h hF => ⟨h.1, hF⟩
theorem main_1_2 : Claimed_1_2 := comes_1 fun _ _ _ _ _ _ h hF => ⟨h.2.1, hF⟩
end Jvm.Pilot.@@N@@
namespace Jvm.Pilot.@@N@@
open Jvm Jvm.ClassFile Sem Op Lib Jvm.Free Jvm.Stand Jvm.Pilot.@@N@@.Jvm.D
/-! MADE BY PROGRAM (witnessworld.py) out of the Statement's table words and the real class files: 9 classes; the members and pool entries that the words name. The judged class is class 1, her method 1. -/
namespace start1
open Jvm.ClassFile
def u (s : String) : CpInfo := .utf8 (stringToUtf16 s)
/-- a pool by its gaps: so many unusable entries, then the entry; so many at the end -/
def gap : Nat → List CpInfo → List CpInfo
  | 0, r => r
  | n + 1, r => .unusable :: gap n r
def poolList (es : List (Nat × CpInfo)) (last : Nat) : List CpInfo := es.foldr (fun e r => gap e.1 (e.2 :: r)) (gap last [])
def pool (es : List (Nat × CpInfo)) (last : Nat) : Array CpInfo := ⟨poolList es last⟩
def fileOf (pool : Array CpInfo) (this : Nat) (attrs : Array Attribute := #[]) (ms : Array MethodInfo := #[]) (fl : Nat := 33) (sup : Nat := 0) (ifs : Array Nat := #[]) (fds : Array FieldInfo := #[]) : ClassFile where
  minorVersion := 0
  majorVersion := 65
  constantPool := pool
  accessFlags := fl
  thisClass := this
  superClass := sup
  interfaces := ifs
  fields := fds
  methods := ms
  attributes := attrs
def plain (name : String) (sup : Option ClassId) : Class where
  name := name
  kind := .ordinary
  loader := none
  accessFlags := 33
  super := sup
  interfaces := #[]
  cf := none
  fields := #[]
  methods := #[]
  instanceTypes := #[]
  staticTypes := #[]
  resolved := #[]
  callSites := []
  init := .initialized
  statics := none
  mirror := none

def pool0 : Array CpInfo := pool [(5, u "<init>"), (0, u "()V"), (1, .class_ 10), (1, u "java/lang/Object")] 113

def k0m0 : Method := { name := "<init>", desc := "()V", sig := { parameters := [], returnType := none }, accessFlags := 1, code := none }
/-- java/lang/Object -/
def k0 : Class := { plain "java/lang/Object" none with
  accessFlags := 33
  interfaces := #[]
  cf := some (fileOf pool0 8 #[] #[{ accessFlags := 1, nameIndex := 5, descriptorIndex := 6, attributes := #[] }] 33 0 #[] #[])
  fields := #[]
  methods := #[k0m0]
  instanceTypes := #[]
  staticTypes := #[]
  resolved := Array.replicate 124 none
  statics := none }

def pool1 : Array CpInfo := pool [(2, .class_ 4), (1, u "java/lang/Object"), (0, u "<init>"), (0, u "()V"), (0, .integer 2147483647), (0, .integer 63488), (0, .integer 55296), (0, .integer 57343), (0, .integer 1048576), (0, .integer 65536), (0, .methodref 14 15), (0, .class_ 16), (0, .nameAndType 17 18), (0, u "com/example/shelfmark/shelfmark/impl/Utf8"), (0, u "wellFormedCodePointAt"), (0, u "([BII)I"), (0, .class_ 20), (0, u "com/example/shelfmark/shelfmark/impl/Utf8WellFormedCodePointAtPinLaw"), (2, u "law"), (0, u "(IIII)Z")] 5

def k1m0 : Method := { name := "<init>", desc := "()V", sig := { parameters := [], returnType := none }, accessFlags := 2, code := none }
def k1c1 : Code := { maxStack := 5, maxLocals := 9, code := code, exceptionTable := #[], attributes := #[] }
def k1m1 : Method := { name := "law", desc := "(IIII)Z", sig := { parameters := [.int, .int, .int, .int], returnType := some .boolean }, accessFlags := 9, code := some k1c1 }
/-- com/example/shelfmark/shelfmark/impl/Utf8WellFormedCodePointAtPinLaw -/
def k1 : Class := { plain "com/example/shelfmark/shelfmark/impl/Utf8WellFormedCodePointAtPinLaw" (some 0) with
  accessFlags := 49
  interfaces := #[]
  cf := some (fileOf pool1 19 #[] #[{ accessFlags := 2, nameIndex := 5, descriptorIndex := 6, attributes := #[] }, { accessFlags := 9, nameIndex := 23, descriptorIndex := 24, attributes := #[] }] 49 2 #[] #[])
  fields := #[]
  methods := #[k1m0, k1m1]
  instanceTypes := #[]
  staticTypes := #[]
  resolved := Array.replicate 30 none
  statics := none }

def pool2 : Array CpInfo := pool [(3, .class_ 4), (0, u "com/example/shelfmark/shelfmark/impl/Utf8"), (1, .class_ 8), (1, u "java/lang/Object"), (0, u "<init>"), (0, u "()V"), (20, u "wellFormedCodePointAt"), (0, u "([BII)I"), (3, u "POWERS_OF_31"), (0, u "[I"), (134, u "MAX_SEQUENCE_BYTES"), (0, u "I"), (2, u "MAX_ARRAY_LENGTH"), (1, u "MOST_DECODED_AT_ONCE"), (0, u "MOST_ENCODED_AT_ONCE"), (0, u "PIECE")] 16

def k2m0 : Method := { name := "<init>", desc := "()V", sig := { parameters := [], returnType := none }, accessFlags := 2, code := none }
def k2c1 : Code := { maxStack := 4, maxLocals := 5, code := prog_88_method_4_code, exceptionTable := #[], attributes := #[] }
def k2m1 : Method := { name := "wellFormedCodePointAt", desc := "([BII)I", sig := { parameters := [(.array .byte), .int, .int], returnType := some .int }, accessFlags := 8, code := some k2c1 }
/-- com/example/shelfmark/shelfmark/impl/Utf8 -/
def k2 : Class := { plain "com/example/shelfmark/shelfmark/impl/Utf8" (some 0) with
  accessFlags := 48
  interfaces := #[]
  cf := some (fileOf pool2 3 #[] #[{ accessFlags := 2, nameIndex := 9, descriptorIndex := 10, attributes := #[] }, { accessFlags := 8, nameIndex := 31, descriptorIndex := 32, attributes := #[] }] 48 6 #[] #[{ accessFlags := 24, nameIndex := 172, descriptorIndex := 173, attributes := #[] }, { accessFlags := 24, nameIndex := 176, descriptorIndex := 173, attributes := #[] }, { accessFlags := 26, nameIndex := 178, descriptorIndex := 173, attributes := #[] }, { accessFlags := 26, nameIndex := 179, descriptorIndex := 173, attributes := #[] }, { accessFlags := 26, nameIndex := 180, descriptorIndex := 173, attributes := #[] }, { accessFlags := 26, nameIndex := 36, descriptorIndex := 37, attributes := #[] }])
  fields := #[{ name := "MAX_SEQUENCE_BYTES", type := .int, accessFlags := 24, slot := 0, constantValue := 0 }, { name := "MAX_ARRAY_LENGTH", type := .int, accessFlags := 24, slot := 1, constantValue := 0 }, { name := "MOST_DECODED_AT_ONCE", type := .int, accessFlags := 26, slot := 2, constantValue := 0 }, { name := "MOST_ENCODED_AT_ONCE", type := .int, accessFlags := 26, slot := 3, constantValue := 0 }, { name := "PIECE", type := .int, accessFlags := 26, slot := 4, constantValue := 0 }, { name := "POWERS_OF_31", type := (.array .int), accessFlags := 26, slot := 5, constantValue := 0 }]
  methods := #[k2m0, k2m1]
  instanceTypes := #[]
  staticTypes := #[.int, .int, .int, .int, .int, (.array .int)]
  resolved := Array.replicate 197 none
  statics := none }

def pool3 : Array CpInfo := pool [(1, u "java/lang/Cloneable"), (0, .class_ 1), (0, u "java/lang/Object"), (0, .class_ 3)] 3

/-- java/lang/Cloneable -/
def k3 : Class := { plain "java/lang/Cloneable" (some 0) with
  accessFlags := 1537
  interfaces := #[]
  cf := some (fileOf pool3 2 #[] #[] 1537 4 #[] #[])
  fields := #[]
  methods := #[]
  instanceTypes := #[]
  staticTypes := #[]
  resolved := Array.replicate 8 none
  statics := none }

def pool4 : Array CpInfo := pool [(1, u "java/io/Serializable"), (0, .class_ 1), (0, u "java/lang/Object"), (0, .class_ 3)] 3

/-- java/io/Serializable -/
def k4 : Class := { plain "java/io/Serializable" (some 0) with
  accessFlags := 1537
  interfaces := #[]
  cf := some (fileOf pool4 2 #[] #[] 1537 4 #[] #[])
  fields := #[]
  methods := #[]
  instanceTypes := #[]
  staticTypes := #[]
  resolved := Array.replicate 8 none
  statics := none }

/-- the primitive byte -/
def k5 : Class := { plain "byte" none with kind := .primitive 'B', accessFlags := 0x411 }
/-- [B -/
def k6 : Class := { plain "[B" (some 0) with kind := .array 5 .byte, interfaces := #[3, 4], accessFlags := 1041 }

/-- the primitive int -/
def k7 : Class := { plain "int" none with kind := .primitive 'I', accessFlags := 0x411 }
/-- [I -/
def k8 : Class := { plain "[I" (some 0) with kind := .array 7 .int, interfaces := #[3, 4], accessFlags := 1041 }

def heap : Heap := #[]
def classes : Array Class := #[k0, k1, k2, k3, k4, k5, k6, k7, k8]
def interned : List (Array UInt16 × Addr) := []
def slotsUsed : Nat := 0
def theMethod : MethodId := ⟨1, 1⟩
def args0 : Array Value := #[.int 50, .int 7, .int 9, .int 1]
def aboutOver (below : List Frame) : State where
  vm := { classes := classes, interned := interned.toArray }
  heap := heap
  slotsUsed := slotsUsed
  threads := #[{ frames := .invoking theMethod args0 :: below }]
def below0 : List Frame := [.native { method := ⟨0, 0⟩, args := #[] }]
def about1 : State := aboutOver below0
def p0 : Program := .bare "" "" ""
def e0 : Env := launch0.env 0 0 0
theorem w_frames : about1.frames = Frame.invoking theMethod args0 :: below0 := rfl
set_option maxRecDepth 65536 in
theorem w_args : argsFit about1.vm theMethod args0 = true := by decide +kernel
set_option maxRecDepth 65536 in
theorem w_heap : heapFits about1 = true := by decide +kernel
set_option maxRecDepth 65536 in
theorem w_runnable : about1.curStatus? = some .runnable := by decide +kernel
set_option maxRecDepth 65536 in
theorem w_alone : about1.alone = true := by decide +kernel
set_option maxRecDepth 65536 in
theorem w_named : about1.methodNamed? x = some theMethod := by decide +kernel
set_option maxRecDepth 65536 in
theorem w_hears : about1.hears theMethod below0 = true := by decide +kernel
set_option maxRecDepth 65536 in
theorem w_ripe : about1.ripe theMethod args0 below0 = true := by decide +kernel
theorem w_running : about1.status = .running := rfl
set_option maxRecDepth 65536 in
theorem w_room : about1.hasRoom e0.platform room_1 = true :=
  launch0.hasRoom_least _ room_1 (by decide +kernel) (by decide +kernel) (by decide +kernel) (by decide +kernel) (by decide +kernel) (by decide +kernel)
theorem allAtoms_all (ts : List Jvm.Cond) (a : Array Jvm.Value) (st : Jvm.State) : (allAtoms ts).before a st = ts.all (fun c => c.before a st) := by
  induction ts with
  | nil => rfl
  | cons c t ih =>
    show (Jvm.Cond.and c (allAtoms t)).before a st = _
    rw [Jvm.Cond.before_and, ih, List.all_cons]
def words1 : List Jvm.Cond := Jvm.Cond.code x code maxLocals ret :: tables_1
/-- a 'code' word, met by the world's own term for the bytes: nothing is compared byte by byte -/
theorem code_word {y : MethodName} {bytes : ByteArray} {mx : Nat} {rt : Option FieldType} {a : Array Value} {s : State} {m : MethodId} {meth : Method} {c : Code} (h1 : s.methodNamed? y = some m) (h2 : s.vm.method? m = some meth) (h3 : meth.code = some c) (h4 : c.code = bytes)
    (h5 : (c.maxLocals == mx && c.exceptionTable.isEmpty && decide (c.maxStack ≤ mostOperands) && decide (meth.sig.returnType = rt) && !meth.locks && decide (parseMethodDescriptor y.desc = some meth.sig)) = true) : (Jvm.Cond.code y bytes mx rt).before a s = true := by
  simp only [Bool.and_eq_true, beq_iff_eq, Bool.not_eq_true', decide_eq_true_eq] at h5
  obtain ⟨⟨⟨⟨⟨g1, g2⟩, g3⟩, g4⟩, g5⟩, g6⟩ := h5
  simp [Cond.before, Cond.holds, Cond.value, h1, h2, h3, h4, g1, g2, g3, g4, g5, g6]
def isCode : Jvm.Cond → Bool
  | .code _ _ _ _ => true
  | _ => false
theorem all_split {L : List Jvm.Cond} {P : Jvm.Cond → Bool} (h1 : L.all (fun c => isCode c || P c) = true) (h2 : ∀ c ∈ L.filter isCode, P c = true) : L.all P = true := by
  refine List.all_eq_true.mpr fun c hc => ?_
  have h := List.all_eq_true.mp h1 c hc
  rcases Bool.eq_false_or_eq_true (isCode c) with hi | hi
  · exact h2 c (List.mem_filter.mpr ⟨hc, hi⟩)
  · simpa [hi] using h
set_option maxRecDepth 65536 in
theorem w_c0 : (Jvm.Cond.code x code maxLocals ret).before args0 about1 = true := code_word (m := ⟨1, 1⟩) (meth := k1m1) (c := k1c1) (by decide +kernel) rfl rfl rfl (by decide +kernel)
set_option maxRecDepth 65536 in
theorem w_c1 : (Jvm.Cond.code ({ cls := "com/example/shelfmark/shelfmark/impl/Utf8", name := "wellFormedCodePointAt", desc := "([BII)I" } : Jvm.MethodName) prog_88_method_4_code (5 : Nat) (Option.some Jvm.ClassFile.FieldType.int)).before args0 about1 = true := code_word (m := ⟨2, 1⟩) (meth := k2m1) (c := k2c1) (by decide +kernel) rfl rfl rfl (by decide +kernel)
def codes1 : List Jvm.Cond := [Jvm.Cond.code x code maxLocals ret, Jvm.Cond.code ({ cls := "com/example/shelfmark/shelfmark/impl/Utf8", name := "wellFormedCodePointAt", desc := "([BII)I" } : Jvm.MethodName) prog_88_method_4_code (5 : Nat) (Option.some Jvm.ClassFile.FieldType.int)]
set_option maxRecDepth 65536 in
theorem codes_eq : words1.filter isCode = codes1 := rfl
theorem w_codes : ∀ c ∈ words1.filter isCode, c.before args0 about1 = true := by
  rw [codes_eq]
  intro c hc
  simp only [codes1, List.mem_cons, List.not_mem_nil, or_false] at hc
  rcases hc with rfl | rfl
  · exact w_c0
  · exact w_c1
set_option maxRecDepth 65536 in
theorem w_t1 : words1.all (fun c => isCode c || c.before args0 about1) = true := by decide +kernel
theorem w_tables : (allAtoms (Jvm.Cond.code x code maxLocals ret :: tables_1)).before args0 about1 = true := by
  rw [allAtoms_all]
  show words1.all (fun c => c.before args0 about1) = true
  refine all_split ?_ w_codes
  rw [w_t1]
set_option maxRecDepth 65536 in
theorem w_case : (Jvm.Cond.and given_1 narrow_1).before args0 about1 = true := by decide +kernel
theorem w_applies : (headSpec (Jvm.Cond.code x code maxLocals ret :: tables_1) room_1).applies x e0.platform about1 = true :=
  (Spec.applies_iff w_frames).mpr ⟨w_running, w_runnable, w_alone, w_named, w_hears, w_ripe, w_room, w_tables⟩
theorem atStart : AtStart classFile x code maxLocals ret World_1 tables_1 room_1 Calls_1 rest_1 Pre_1 launch0 p0 e0 about1 theMethod args0 below0 :=
  ⟨lists_1, trivial, launch0.admits_env _ _ _, launch0.least_env, fairChoices_fair.cas, fairChoices_fair.clock, w_frames, w_args, w_heap, w_applies, trivial, trivial, w_case⟩
end start1
theorem witness_1 : WitnessClaimed_1 := ⟨start1.p0, start1.e0, start1.about1, start1.theMethod, start1.args0, start1.below0, start1.atStart⟩
end Jvm.Pilot.@@N@@
