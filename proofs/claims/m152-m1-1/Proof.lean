import JvmDerived
import JvmDerived.Pilot.@@N@@Statement
import JvmDerived.Pilot.@@N@@Code
set_option linter.unusedVariables false
set_option linter.unusedSimpArgs false
namespace Jvm.Pilot.@@N@@
open Jvm Jvm.ClassFile Sem Op Lib Jvm.Free Jvm.Stand Jvm.LawKit Jvm.RoadKit Bundle Jvm.Pilot.@@N@@.Jvm.D
/-- where the walk of one body stands, and what it knows throughout -/
def own_S (p : Program) (l : Launch) (e : Env) (R : Room) (s : State) (m : MethodId) (av : Array Value) (below : List Frame) (meth : Method) (c : Code) (Z : State) (y : MethodName) (co : ByteArray) (ml : Nat) (rt : Option FieldType) (n0 : Nat) (T : State) (ce sl : Nat) (h : Heap) : Prop :=
  (p.tables.exec = Jvm.exec ∧ c.code = co ∧ c.maxLocals = ml ∧ s.vm.findClass y.cls = some m.cls ∧ meth.name = y.name ∧ meth.sig.returnType = rt ∧ meth.locks = false ∧ Z.Warmed39 s.vm) ∧
  ∃ locs, Stand p l e R s m av below meth c T locs ce sl ∧ Fr n0 locs ∧ T.heap = h ∧ n0 ≤ s.heap.size
/-- from T at the frame g the run comes to a return of which Q holds -/
def own_Fin (p : Program) (e : Env) (below : List Frame) (s : State) (n0 : Nat) (Q : Option Value → Heap → Prop) (k n : Nat) (T : State) (g : JFrame) : Prop :=
  ∃ t o, Steps p.tables e below (T.setTop g) t ∧ t.status = .running ∧ Ended t below o ∧ ∃ v L, o = .returned v ∧ (Fr n0 L ∧ Q v t.heap) ∧ FrameEnd s o t L k n
/-- a body's contract -/
def own_Met (l : Launch) (Z : State) (y : MethodName) (co : ByteArray) (ml : Nat) (rt : Option FieldType) (ws : List Jvm.Cond) (rm : Room) (av : Array Value) (h0 : Heap) (n0 : Nat) (Q : Option Value → Heap → Prop) : Prop :=
  MetFree l y (head1 (Jvm.Cond.code y co ml rt :: ws) rm) (fun a U => a = av ∧ Z.Warmed39 U.vm ∧ U.heap = h0) (fun _ _ _ _ _ => True) (fun _ U o U' => ∃ v L, o = .returned v ∧ (Fr n0 L ∧ Q v U'.heap) ∧ FrameEnd U o U' L rm.cells rm.slots)
section Own
variable {p : Program} {l : Launch} {e : Env} {R : Room} {s : State} {m : MethodId} {av : Array Value} {below : List Frame} {meth : Method} {c : Code} {Z : State} {y : MethodName} {co : ByteArray} {ml : Nat} {rt : Option FieldType} {n0 : Nat} {T : State} {ce sl : Nat} {h : Heap} {Q : Option Value → Heap → Prop} {k n : Nat} {a0 : Array Value} {pc : Nat} {Ls : Array Slot} {st : List Value}
theorem own_met {ws : List Jvm.Cond} {rm : Room} {h0 : Heap} (hp : plainFor y = true) (hn : n0 ≤ h0.size)
    (H : ∀ (p : Program) (e : Env) (s : State) (m : MethodId) (below : List Frame) (meth : Method) (c : Code) (T : State), own_S p l e rm s m av below meth c Z y co ml rt n0 T 0 0 h0 → own_Fin p e below s n0 Q rm.cells rm.slots T (entryFrame m av ml)) : own_Met l Z y co ml rt ws rm av h0 n0 Q := by
  refine MetFree.of_bodySF hp hisR ?_
  intro p e s m args below meth c s₁ Bd hml0 hP hK
  obtain ⟨rfl, hZ, hh⟩ := hP
  have e0 : s₁.heap = h0 := by rw [← hh, Bd.state]; rfl
  exact H p e s m below meth c s₁ ⟨⟨Bd.exec, Bd.bytes, hml0, findClass_of_methodNamed Bd.named, (name_of_methodNamed Bd.named Bd.method).1, Bd.returns, BodyLoose.notSynchronized Bd, hZ⟩, [], Stand.of_body Bd, Fr.nil n0, e0, by rw [hh]; exact hn⟩
theorem own_go {T T' : State} {g g' : JFrame} (st : ∀ target, Steps p.tables e below (T'.setTop g') target → Steps p.tables e below (T.setTop g) target) (H : own_Fin p e below s n0 Q k n T' g') : own_Fin p e below s n0 Q k n T g := by
  obtain ⟨t, o, h1, r⟩ := H
  exact ⟨t, o, st t h1, r⟩
theorem own_goT {T T' : State} {g g' : JFrame} (st : Steps p.tables e below (T.setTop g) (T'.setTop g')) (H : own_Fin p e below s n0 Q k n T' g') : own_Fin p e below s n0 Q k n T g := by
  obtain ⟨t, o, h1, r⟩ := H
  exact ⟨t, o, st.trans h1, r⟩
theorem own_cast {g g' : JFrame} (q : g = g') (H : own_Fin p e below s n0 Q k n T g') : own_Fin p e below s n0 Q k n T g := q ▸ H
theorem own_size (X : own_S p l e R s m av below meth c Z y co ml rt n0 T ce sl h) : n0 ≤ h.size := by
  obtain ⟨-, locs, X, -, rfl, hn⟩ := X
  exact Nat.le_trans hn X.same.2.1
theorem own_wider (X : own_S p l e R s m av below meth c Z y co ml rt n0 T ce sl h) {ce' sl' : Nat} (h1 : ce ≤ ce') (h2 : sl ≤ sl') : own_S p l e R s m av below meth c Z y co ml rt n0 T ce' sl' h := by
  obtain ⟨C, locs, X, r⟩ := X
  exact ⟨C, locs, X.more h1 h2, r⟩
/-- numbers: from Int to the ints' own order -/
theorem own_cLt {x y : Int32} {a b : Int} (hx : x.toInt = a) (hy : y.toInt = b) (q : a < b) : x < y := by rw [Int32.lt_iff_toInt_lt, hx, hy]; exact q
theorem own_cGe {x y : Int32} {a b : Int} (hx : x.toInt = a) (hy : y.toInt = b) (q : ¬ a < b) : ¬ x < y := by rw [Int32.lt_iff_toInt_lt, hx, hy]; exact q
theorem own_cEq {x y : Int32} {a b : Int} (hx : x.toInt = a) (hy : y.toInt = b) (q : a = b) : x = y := Int32.toInt_inj.mp (by rw [hx, hy]; exact q)
theorem own_cNe {x y : Int32} {a b : Int} (hx : x.toInt = a) (hy : y.toInt = b) (q : ¬ a = b) : ¬ x = y := fun r => q (by rw [← hx, ← hy, r])
theorem own_cEqJ {x y : Int64} {a b : Int} (hx : x.toInt = a) (hy : y.toInt = b) (q : a = b) : x = y := Int64.toInt_inj.mp (by rw [hx, hy]; exact q)
theorem own_nzI {y : Int32} (q : y.toInt ≠ 0) : y ≠ 0 := fun r => q (by rw [r]; rfl)
theorem own_nzJ {y : Int64} (q : y.toInt ≠ 0) : y ≠ 0 := fun r => q (by rw [r]; rfl)
theorem own_lLt {x y : Int64} {a b : Int} (hx : x.toInt = a) (hy : y.toInt = b) (q : a < b) : lcmpW x y < 0 := (lw_lt x y).mpr (by rw [Int64.lt_iff_toInt_lt, hx, hy]; exact q)
theorem own_lGe {x y : Int64} {a b : Int} (hx : x.toInt = a) (hy : y.toInt = b) (q : ¬ a < b) : ¬ lcmpW x y < 0 := fun r => q (by have := (lw_lt x y).mp r; rw [Int64.lt_iff_toInt_lt, hx, hy] at this; exact this)
theorem own_lGt {x y : Int64} {a b : Int} (hx : x.toInt = a) (hy : y.toInt = b) (q : b < a) : 0 < lcmpW x y := (lw_gt x y).mpr (by rw [Int64.lt_iff_toInt_lt, hx, hy]; exact q)
theorem own_lLe {x y : Int64} {a b : Int} (hx : x.toInt = a) (hy : y.toInt = b) (q : ¬ b < a) : ¬ 0 < lcmpW x y := fun r => q (by have := (lw_gt x y).mp r; rw [Int64.lt_iff_toInt_lt, hx, hy] at this; exact this)
theorem own_lEq {x y : Int64} {a b : Int} (hx : x.toInt = a) (hy : y.toInt = b) (q : a = b) : lcmpW x y = 0 := (lw_eq x y).mpr (Int64.toInt_inj.mp (by rw [hx, hy]; exact q))
theorem own_lNe {x y : Int64} {a b : Int} (hx : x.toInt = a) (hy : y.toInt = b) (q : ¬ a = b) : ¬ lcmpW x y = 0 := fun r => q (by rw [← hx, ← hy, (lw_eq x y).mp r])
theorem own_emod_le {a b : Int} (h1 : 0 ≤ a) (h2 : 0 < b) : a % b ≤ a := by
  by_cases q : a < b
  · rw [Int.emod_eq_of_lt h1 q]; omega
  · have := Int.emod_lt_of_pos a h2; omega
theorem own_i2b2 (x : Int32) : x.toInt8.toInt32.toInt8.toInt32 = x.toInt8.toInt32 := by
  have h1 := c_i2b x
  have h2 := c_i2b x.toInt8.toInt32
  apply Int32.toInt_inj.mp; omega
theorem own_and1 (x : Int32) (h : x = 0 ∨ x = 1) : x &&& 1 = x := by rcases h with rfl | rfl <;> rfl
theorem own_aloadN (X : own_S p l e R s m av below meth c Z y co ml rt n0 T ce sl h) {i : Fin 4} {v : Value} (hd : decode co pc = .ok (.aload_n i, 1)) (hl : Ls[i.val]? = some (.val v)) (hv : v.isRef = true) (H : own_Fin p e below s n0 Q k n T (mkF m (pc + 1) Ls (v :: st))) : own_Fin p e below s n0 Q k n T (mkF m pc Ls (st)) := by
  obtain ⟨⟨hx, hby, -⟩, locs, X, -⟩ := X
  exact own_go (fun _ q => XS.aloadN X.here hx rfl (hb hby hd) hl hv q) H
theorem own_aload (X : own_S p l e R s m av below meth c Z y co ml rt n0 T ce sl h) {i : Nat} {v : Value} (hd : decode co pc = .ok (.aload i, 2)) (hl : Ls[i]? = some (.val v)) (hv : v.isRef = true) (H : own_Fin p e below s n0 Q k n T (mkF m (pc + 2) Ls (v :: st))) : own_Fin p e below s n0 Q k n T (mkF m pc Ls (st)) := by
  obtain ⟨⟨hx, hby, -⟩, locs, X, -⟩ := X
  exact own_go (fun _ q => XS.aload X.here hx rfl (hb hby hd) hl hv q) H
theorem own_iloadN (X : own_S p l e R s m av below meth c Z y co ml rt n0 T ce sl h) {i : Fin 4} {v : Int32} (hd : decode co pc = .ok (.iload_n i, 1)) (hl : Ls[i.val]? = some (.val (.int v))) (H : own_Fin p e below s n0 Q k n T (mkF m (pc + 1) Ls (.int v :: st))) : own_Fin p e below s n0 Q k n T (mkF m pc Ls (st)) := by
  obtain ⟨⟨hx, hby, -⟩, locs, X, -⟩ := X
  exact own_go (fun _ q => XS.iloadN X.here hx rfl (hb hby hd) hl q) H
theorem own_iload (X : own_S p l e R s m av below meth c Z y co ml rt n0 T ce sl h) {i : Nat} {v : Int32} (hd : decode co pc = .ok (.iload i, 2)) (hl : Ls[i]? = some (.val (.int v))) (H : own_Fin p e below s n0 Q k n T (mkF m (pc + 2) Ls (.int v :: st))) : own_Fin p e below s n0 Q k n T (mkF m pc Ls (st)) := by
  obtain ⟨⟨hx, hby, -⟩, locs, X, -⟩ := X
  exact own_go (fun _ q => XS.iload X.here hx rfl (hb hby hd) hl q) H
theorem own_lloadN (X : own_S p l e R s m av below meth c Z y co ml rt n0 T ce sl h) {i : Fin 4} {v : Int64} (hd : decode co pc = .ok (.lload_n i, 1)) (hl : Ls[i.val]? = some (.val (.long v))) (H : own_Fin p e below s n0 Q k n T (mkF m (pc + 1) Ls (.long v :: st))) : own_Fin p e below s n0 Q k n T (mkF m pc Ls (st)) := by
  obtain ⟨⟨hx, hby, -⟩, locs, X, -⟩ := X
  exact own_go (fun _ q => XS.lloadN X.here hx rfl (hb hby hd) hl q) H
theorem own_lload (X : own_S p l e R s m av below meth c Z y co ml rt n0 T ce sl h) {i : Nat} {v : Int64} (hd : decode co pc = .ok (.lload i, 2)) (hl : Ls[i]? = some (.val (.long v))) (H : own_Fin p e below s n0 Q k n T (mkF m (pc + 2) Ls (.long v :: st))) : own_Fin p e below s n0 Q k n T (mkF m pc Ls (st)) := by
  obtain ⟨⟨hx, hby, -⟩, locs, X, -⟩ := X
  exact own_go (fun _ q => XS.lload X.here hx rfl (hb hby hd) hl q) H
theorem own_istoreN (X : own_S p l e R s m av below meth c Z y co ml rt n0 T ce sl h) {i : Fin 4} {v : Int32} {L' : Array Slot} (hd : decode co pc = .ok (.istore_n i, 1)) (hl : storeLocals Ls i.val (.int v) = some L') (H : own_Fin p e below s n0 Q k n T (mkF m (pc + 1) L' (st))) : own_Fin p e below s n0 Q k n T (mkF m pc Ls (.int v :: st)) := by
  obtain ⟨⟨hx, hby, -⟩, locs, X, -⟩ := X
  exact own_go (fun _ q => XS.istoreN X.here hx rfl (hb hby hd) rfl hl q) H
theorem own_istore (X : own_S p l e R s m av below meth c Z y co ml rt n0 T ce sl h) {i : Nat} {v : Int32} {L' : Array Slot} (hd : decode co pc = .ok (.istore i, 2)) (hl : storeLocals Ls i (.int v) = some L') (H : own_Fin p e below s n0 Q k n T (mkF m (pc + 2) L' (st))) : own_Fin p e below s n0 Q k n T (mkF m pc Ls (.int v :: st)) := by
  obtain ⟨⟨hx, hby, -⟩, locs, X, -⟩ := X
  exact own_go (fun _ q => XS.istore X.here hx rfl (hb hby hd) rfl hl q) H
theorem own_lstoreN (X : own_S p l e R s m av below meth c Z y co ml rt n0 T ce sl h) {i : Fin 4} {v : Int64} {L' : Array Slot} (hd : decode co pc = .ok (.lstore_n i, 1)) (hl : storeLocals Ls i.val (.long v) = some L') (H : own_Fin p e below s n0 Q k n T (mkF m (pc + 1) L' (st))) : own_Fin p e below s n0 Q k n T (mkF m pc Ls (.long v :: st)) := by
  obtain ⟨⟨hx, hby, -⟩, locs, X, -⟩ := X
  exact own_go (fun _ q => XS.lstoreN X.here hx rfl (hb hby hd) rfl hl q) H
theorem own_lstore (X : own_S p l e R s m av below meth c Z y co ml rt n0 T ce sl h) {i : Nat} {v : Int64} {L' : Array Slot} (hd : decode co pc = .ok (.lstore i, 2)) (hl : storeLocals Ls i (.long v) = some L') (H : own_Fin p e below s n0 Q k n T (mkF m (pc + 2) L' (st))) : own_Fin p e below s n0 Q k n T (mkF m pc Ls (.long v :: st)) := by
  obtain ⟨⟨hx, hby, -⟩, locs, X, -⟩ := X
  exact own_go (fun _ q => XS.lstore X.here hx rfl (hb hby hd) rfl hl q) H
theorem own_astoreN (X : own_S p l e R s m av below meth c Z y co ml rt n0 T ce sl h) {i : Fin 4} {v : Value} {L' : Array Slot} (hd : decode co pc = .ok (.astore_n i, 1)) (hv : v.isRef = true) (hl : storeLocals Ls i.val v = some L') (H : own_Fin p e below s n0 Q k n T (mkF m (pc + 1) L' (st))) : own_Fin p e below s n0 Q k n T (mkF m pc Ls (v :: st)) := by
  obtain ⟨⟨hx, hby, -⟩, locs, X, -⟩ := X
  exact own_go (fun _ q => XS.astoreN X.here hx rfl (hb hby hd) rfl hv hl q) H
theorem own_astore (X : own_S p l e R s m av below meth c Z y co ml rt n0 T ce sl h) {i : Nat} {v : Value} {L' : Array Slot} (hd : decode co pc = .ok (.astore i, 2)) (hv : v.isRef = true) (hl : storeLocals Ls i v = some L') (H : own_Fin p e below s n0 Q k n T (mkF m (pc + 2) L' (st))) : own_Fin p e below s n0 Q k n T (mkF m pc Ls (v :: st)) := by
  obtain ⟨⟨hx, hby, -⟩, locs, X, -⟩ := X
  exact own_go (fun _ q => XS.astore X.here hx rfl (hb hby hd) rfl hv hl q) H
theorem own_iconst (X : own_S p l e R s m av below meth c Z y co ml rt n0 T ce sl h) {i : Int} (z : Int32) (hd : decode co pc = .ok (.iconst i, 1)) (hz : Int32.ofInt i = z) (H : own_Fin p e below s n0 Q k n T (mkF m (pc + 1) Ls (.int z :: st))) : own_Fin p e below s n0 Q k n T (mkF m pc Ls (st)) := by
  obtain ⟨⟨hx, hby, -⟩, locs, X, -⟩ := X
  exact own_go (fun _ q => XS.iconst X.here hx rfl (hb hby hd) (by rw [hz]; exact q)) H
theorem own_bipush (X : own_S p l e R s m av below meth c Z y co ml rt n0 T ce sl h) {i : Int} (z : Int32) (hd : decode co pc = .ok (.bipush i, 2)) (hz : (Int8.ofInt i).toInt32 = z) (H : own_Fin p e below s n0 Q k n T (mkF m (pc + 2) Ls (.int z :: st))) : own_Fin p e below s n0 Q k n T (mkF m pc Ls (st)) := by
  obtain ⟨⟨hx, hby, -⟩, locs, X, -⟩ := X
  exact own_go (fun _ q => XS.bipush X.here hx rfl (hb hby hd) (by rw [hz]; exact q)) H
theorem own_sipush (X : own_S p l e R s m av below meth c Z y co ml rt n0 T ce sl h) {i : Int} (z : Int32) (hd : decode co pc = .ok (.sipush i, 3)) (hz : (Int16.ofInt i).toInt32 = z) (H : own_Fin p e below s n0 Q k n T (mkF m (pc + 3) Ls (.int z :: st))) : own_Fin p e below s n0 Q k n T (mkF m pc Ls (st)) := by
  obtain ⟨⟨hx, hby, -⟩, locs, X, -⟩ := X
  exact own_go (fun _ q => XS.sipush X.here hx rfl (hb hby hd) (by rw [hz]; exact q)) H
theorem own_lconst0 (X : own_S p l e R s m av below meth c Z y co ml rt n0 T ce sl h) (hd : decode co pc = .ok (.lconst 0, 1)) (H : own_Fin p e below s n0 Q k n T (mkF m (pc + 1) Ls (.long 0 :: st))) : own_Fin p e below s n0 Q k n T (mkF m pc Ls (st)) := by
  obtain ⟨⟨hx, hby, -⟩, locs, X, -⟩ := X
  exact own_go (fun _ q => XS.lconst X.here hx rfl (hb hby hd) q) H
theorem own_lconst1 (X : own_S p l e R s m av below meth c Z y co ml rt n0 T ce sl h) (hd : decode co pc = .ok (.lconst 1, 1)) (H : own_Fin p e below s n0 Q k n T (mkF m (pc + 1) Ls (.long 1 :: st))) : own_Fin p e below s n0 Q k n T (mkF m pc Ls (st)) := by
  obtain ⟨⟨hx, hby, -⟩, locs, X, -⟩ := X
  exact own_go (fun _ q => XS.lconst X.here hx rfl (hb hby hd) q) H
theorem own_aconstNull (X : own_S p l e R s m av below meth c Z y co ml rt n0 T ce sl h) (hd : decode co pc = .ok (.aconst_null, 1)) (H : own_Fin p e below s n0 Q k n T (mkF m (pc + 1) Ls (.null :: st))) : own_Fin p e below s n0 Q k n T (mkF m pc Ls (st)) := by
  obtain ⟨⟨hx, hby, -⟩, locs, X, -⟩ := X
  exact own_go (fun _ q => XS.aconstNull X.here hx rfl (hb hby hd) q) H
theorem own_iaddE (X : own_S p l e R s m av below meth c Z y co ml rt n0 T ce sl h) {x : Int32} {y' : Int32} (hd : decode co pc = .ok (.iadd, 1)) (z : Int32) (hz : x + y' = z) (H : own_Fin p e below s n0 Q k n T (mkF m (pc + 1) Ls (.int z :: st))) : own_Fin p e below s n0 Q k n T (mkF m pc Ls (.int y' :: .int x :: st)) := by
  subst hz
  obtain ⟨⟨hx, hby, -⟩, locs, X, -⟩ := X
  exact own_go (fun _ q => XS.iadd X.here hx rfl (hb hby hd) rfl q) H
theorem own_iaddV (X : own_S p l e R s m av below meth c Z y co ml rt n0 T ce sl h) {x : Int32} {y' : Int32} (a b : Int) (hd : decode co pc = .ok (.iadd, 1)) (hxa : x.toInt = a) (hyb : y'.toInt = b) (H : ∀ v : Int32, x + y' = v → (v.toInt - (a + b)) % 4294967296 = 0 → -2147483648 ≤ v.toInt → v.toInt < 2147483648 → own_Fin p e below s n0 Q k n T (mkF m (pc + 1) Ls (.int v :: st))) : own_Fin p e below s n0 Q k n T (mkF m pc Ls (.int y' :: .int x :: st)) := by
  exact own_iaddE X hd _ rfl (H _ rfl (by subst hxa hyb; exact c_iadd x y') (rng32 _).1 (rng32 _).2)
theorem own_isubE (X : own_S p l e R s m av below meth c Z y co ml rt n0 T ce sl h) {x : Int32} {y' : Int32} (hd : decode co pc = .ok (.isub, 1)) (z : Int32) (hz : x - y' = z) (H : own_Fin p e below s n0 Q k n T (mkF m (pc + 1) Ls (.int z :: st))) : own_Fin p e below s n0 Q k n T (mkF m pc Ls (.int y' :: .int x :: st)) := by
  subst hz
  obtain ⟨⟨hx, hby, -⟩, locs, X, -⟩ := X
  exact own_go (fun _ q => XS.isub X.here hx rfl (hb hby hd) rfl q) H
theorem own_isubV (X : own_S p l e R s m av below meth c Z y co ml rt n0 T ce sl h) {x : Int32} {y' : Int32} (a b : Int) (hd : decode co pc = .ok (.isub, 1)) (hxa : x.toInt = a) (hyb : y'.toInt = b) (H : ∀ v : Int32, x - y' = v → (v.toInt - (a - b)) % 4294967296 = 0 → -2147483648 ≤ v.toInt → v.toInt < 2147483648 → own_Fin p e below s n0 Q k n T (mkF m (pc + 1) Ls (.int v :: st))) : own_Fin p e below s n0 Q k n T (mkF m pc Ls (.int y' :: .int x :: st)) := by
  exact own_isubE X hd _ rfl (H _ rfl (by subst hxa hyb; exact c_isub x y') (rng32 _).1 (rng32 _).2)
theorem own_imulE (X : own_S p l e R s m av below meth c Z y co ml rt n0 T ce sl h) {x : Int32} {y' : Int32} (hd : decode co pc = .ok (.imul, 1)) (z : Int32) (hz : x * y' = z) (H : own_Fin p e below s n0 Q k n T (mkF m (pc + 1) Ls (.int z :: st))) : own_Fin p e below s n0 Q k n T (mkF m pc Ls (.int y' :: .int x :: st)) := by
  subst hz
  obtain ⟨⟨hx, hby, -⟩, locs, X, -⟩ := X
  exact own_go (fun _ q => XS.imul X.here hx rfl (hb hby hd) rfl q) H
theorem own_imulV (X : own_S p l e R s m av below meth c Z y co ml rt n0 T ce sl h) {x : Int32} {y' : Int32} (a b : Int) (hd : decode co pc = .ok (.imul, 1)) (hxa : x.toInt = a) (hyb : y'.toInt = b) (H : ∀ v : Int32, x * y' = v → (v.toInt - (a * b)) % 4294967296 = 0 → -2147483648 ≤ v.toInt → v.toInt < 2147483648 → own_Fin p e below s n0 Q k n T (mkF m (pc + 1) Ls (.int v :: st))) : own_Fin p e below s n0 Q k n T (mkF m pc Ls (.int y' :: .int x :: st)) := by
  exact own_imulE X hd _ rfl (H _ rfl (by subst hxa hyb; exact c_imul x y') (rng32 _).1 (rng32 _).2)
theorem own_iandE (X : own_S p l e R s m av below meth c Z y co ml rt n0 T ce sl h) {x : Int32} {y' : Int32} (hd : decode co pc = .ok (.iand, 1)) (z : Int32) (hz : x &&& y' = z) (H : own_Fin p e below s n0 Q k n T (mkF m (pc + 1) Ls (.int z :: st))) : own_Fin p e below s n0 Q k n T (mkF m pc Ls (.int y' :: .int x :: st)) := by
  subst hz
  obtain ⟨⟨hx, hby, -⟩, locs, X, -⟩ := X
  exact own_go (fun _ q => XS.iand X.here hx rfl (hb hby hd) rfl q) H
theorem own_iandV (X : own_S p l e R s m av below meth c Z y co ml rt n0 T ce sl h) {x : Int32} {y' : Int32}  (hd : decode co pc = .ok (.iand, 1))  (H : ∀ v : Int32, x &&& y' = v → -2147483648 ≤ v.toInt → v.toInt < 2147483648 → own_Fin p e below s n0 Q k n T (mkF m (pc + 1) Ls (.int v :: st))) : own_Fin p e below s n0 Q k n T (mkF m pc Ls (.int y' :: .int x :: st)) := by
  exact own_iandE X hd _ rfl (H _ rfl (rng32 _).1 (rng32 _).2)
theorem own_iandM (X : own_S p l e R s m av below meth c Z y co ml rt n0 T ce sl h) {x : Int32} {y' : Int32} (a : Int) (kk : Nat) (P : Int) (hd : decode co pc = .ok (.iand, 1)) (hxa : x.toInt = a) (hk : kk ≤ 31) (hm : y'.toBitVec.toNat = 2 ^ kk - 1) (hP : ((2 ^ kk : Nat) : Int) = P) (H : ∀ v : Int32, x &&& y' = v → v.toInt = a % P → -2147483648 ≤ v.toInt → v.toInt < 2147483648 → own_Fin p e below s n0 Q k n T (mkF m (pc + 1) Ls (.int v :: st))) : own_Fin p e below s n0 Q k n T (mkF m pc Ls (.int y' :: .int x :: st)) := by
  exact own_iandE X hd _ rfl (H _ rfl (by subst hxa hP; exact c_mask x y' kk hk hm) (rng32 _).1 (rng32 _).2)
theorem own_iandB (X : own_S p l e R s m av below meth c Z y co ml rt n0 T ce sl h) {x : Int32} {y' : Int32} (b : Int) (hd : decode co pc = .ok (.iand, 1)) (hyb : y'.toInt = b) (hb0 : 0 ≤ b) (H : ∀ v : Int32, x &&& y' = v → 0 ≤ v.toInt ∧ v.toInt ≤ b → -2147483648 ≤ v.toInt → v.toInt < 2147483648 → own_Fin p e below s n0 Q k n T (mkF m (pc + 1) Ls (.int v :: st))) : own_Fin p e below s n0 Q k n T (mkF m pc Ls (.int y' :: .int x :: st)) := by
  exact own_iandE X hd _ rfl (H _ rfl (by subst hyb; exact c_and x y' hb0) (rng32 _).1 (rng32 _).2)
theorem own_iorE (X : own_S p l e R s m av below meth c Z y co ml rt n0 T ce sl h) {x : Int32} {y' : Int32} (hd : decode co pc = .ok (.ior, 1)) (z : Int32) (hz : x ||| y' = z) (H : own_Fin p e below s n0 Q k n T (mkF m (pc + 1) Ls (.int z :: st))) : own_Fin p e below s n0 Q k n T (mkF m pc Ls (.int y' :: .int x :: st)) := by
  subst hz
  obtain ⟨⟨hx, hby, -⟩, locs, X, -⟩ := X
  exact own_go (fun _ q => XS.ior X.here hx rfl (hb hby hd) rfl q) H
theorem own_iorV (X : own_S p l e R s m av below meth c Z y co ml rt n0 T ce sl h) {x : Int32} {y' : Int32}  (hd : decode co pc = .ok (.ior, 1))  (H : ∀ v : Int32, x ||| y' = v → -2147483648 ≤ v.toInt → v.toInt < 2147483648 → own_Fin p e below s n0 Q k n T (mkF m (pc + 1) Ls (.int v :: st))) : own_Fin p e below s n0 Q k n T (mkF m pc Ls (.int y' :: .int x :: st)) := by
  exact own_iorE X hd _ rfl (H _ rfl (rng32 _).1 (rng32 _).2)
theorem own_iorM (X : own_S p l e R s m av below meth c Z y co ml rt n0 T ce sl h) {x : Int32} {y' : Int32} (a b : Int) (kk : Nat) (P : Int) (hd : decode co pc = .ok (.ior, 1)) (hxa : x.toInt = a) (hyb : y'.toInt = b) (hk : kk ≤ 31) (hP : P = ((2 ^ kk : Nat) : Int)) (q1 : a % P = 0) (q2 : 0 ≤ b) (q3 : b < P) (H : ∀ v : Int32, x ||| y' = v → (v.toInt - (a + b)) % 4294967296 = 0 → -2147483648 ≤ v.toInt → v.toInt < 2147483648 → own_Fin p e below s n0 Q k n T (mkF m (pc + 1) Ls (.int v :: st))) : own_Fin p e below s n0 Q k n T (mkF m pc Ls (.int y' :: .int x :: st)) := by
  exact own_iorE X hd _ rfl (H _ rfl (by subst hxa hyb; exact c_or x y' kk hk P hP q1 q2 q3) (rng32 _).1 (rng32 _).2)
theorem own_iorR (X : own_S p l e R s m av below meth c Z y co ml rt n0 T ce sl h) {x : Int32} {y' : Int32} (a b : Int) (kk : Nat) (P : Int) (hd : decode co pc = .ok (.ior, 1)) (hxa : x.toInt = a) (hyb : y'.toInt = b) (hk : kk ≤ 31) (hP : P = ((2 ^ kk : Nat) : Int)) (q1 : b % P = 0) (q2 : 0 ≤ a) (q3 : a < P) (H : ∀ v : Int32, x ||| y' = v → (v.toInt - (a + b)) % 4294967296 = 0 → -2147483648 ≤ v.toInt → v.toInt < 2147483648 → own_Fin p e below s n0 Q k n T (mkF m (pc + 1) Ls (.int v :: st))) : own_Fin p e below s n0 Q k n T (mkF m pc Ls (.int y' :: .int x :: st)) := by
  exact own_iorE X hd _ rfl (H _ rfl (by subst hxa hyb; have q := c_or y' x kk hk P hP q1 q2 q3; rw [Int32.or_comm] at q; omega) (rng32 _).1 (rng32 _).2)
theorem own_ixorE (X : own_S p l e R s m av below meth c Z y co ml rt n0 T ce sl h) {x : Int32} {y' : Int32} (hd : decode co pc = .ok (.ixor, 1)) (z : Int32) (hz : x ^^^ y' = z) (H : own_Fin p e below s n0 Q k n T (mkF m (pc + 1) Ls (.int z :: st))) : own_Fin p e below s n0 Q k n T (mkF m pc Ls (.int y' :: .int x :: st)) := by
  subst hz
  obtain ⟨⟨hx, hby, -⟩, locs, X, -⟩ := X
  exact own_go (fun _ q => XS.ixor X.here hx rfl (hb hby hd) rfl q) H
theorem own_ixorV (X : own_S p l e R s m av below meth c Z y co ml rt n0 T ce sl h) {x : Int32} {y' : Int32}  (hd : decode co pc = .ok (.ixor, 1))  (H : ∀ v : Int32, x ^^^ y' = v → -2147483648 ≤ v.toInt → v.toInt < 2147483648 → own_Fin p e below s n0 Q k n T (mkF m (pc + 1) Ls (.int v :: st))) : own_Fin p e below s n0 Q k n T (mkF m pc Ls (.int y' :: .int x :: st)) := by
  exact own_ixorE X hd _ rfl (H _ rfl (rng32 _).1 (rng32 _).2)
theorem own_ishlE (X : own_S p l e R s m av below meth c Z y co ml rt n0 T ce sl h) {x : Int32} {y' : Int32} (hd : decode co pc = .ok (.ishl, 1)) (z : Int32) (hz : x <<< (y' &&& 31) = z) (H : own_Fin p e below s n0 Q k n T (mkF m (pc + 1) Ls (.int z :: st))) : own_Fin p e below s n0 Q k n T (mkF m pc Ls (.int y' :: .int x :: st)) := by
  subst hz
  obtain ⟨⟨hx, hby, -⟩, locs, X, -⟩ := X
  exact own_go (fun _ q => XS.ishl X.here hx rfl (hb hby hd) rfl q) H
theorem own_ishlV (X : own_S p l e R s m av below meth c Z y co ml rt n0 T ce sl h) {x : Int32} {y' : Int32}  (hd : decode co pc = .ok (.ishl, 1))  (H : ∀ v : Int32, x <<< (y' &&& 31) = v → -2147483648 ≤ v.toInt → v.toInt < 2147483648 → own_Fin p e below s n0 Q k n T (mkF m (pc + 1) Ls (.int v :: st))) : own_Fin p e below s n0 Q k n T (mkF m pc Ls (.int y' :: .int x :: st)) := by
  exact own_ishlE X hd _ rfl (H _ rfl (rng32 _).1 (rng32 _).2)
theorem own_ishlK (X : own_S p l e R s m av below meth c Z y co ml rt n0 T ce sl h) {x : Int32} {y' : Int32} (a : Int) (kk : Nat) (P : Int) (hd : decode co pc = .ok (.ishl, 1)) (hxa : x.toInt = a) (hk : y'.toBitVec.toNat % 32 = kk) (hP : ((2 ^ kk : Nat) : Int) = P) (H : ∀ v : Int32, x <<< (y' &&& 31) = v → (v.toInt - a * P) % 4294967296 = 0 → -2147483648 ≤ v.toInt → v.toInt < 2147483648 → own_Fin p e below s n0 Q k n T (mkF m (pc + 1) Ls (.int v :: st))) : own_Fin p e below s n0 Q k n T (mkF m pc Ls (.int y' :: .int x :: st)) := by
  exact own_ishlE X hd _ rfl (H _ rfl (by subst hxa hP; exact c_ishl x y' kk hk) (rng32 _).1 (rng32 _).2)
theorem own_ishrE (X : own_S p l e R s m av below meth c Z y co ml rt n0 T ce sl h) {x : Int32} {y' : Int32} (hd : decode co pc = .ok (.ishr, 1)) (z : Int32) (hz : x >>> (y' &&& 31) = z) (H : own_Fin p e below s n0 Q k n T (mkF m (pc + 1) Ls (.int z :: st))) : own_Fin p e below s n0 Q k n T (mkF m pc Ls (.int y' :: .int x :: st)) := by
  subst hz
  obtain ⟨⟨hx, hby, -⟩, locs, X, -⟩ := X
  exact own_go (fun _ q => XS.ishr X.here hx rfl (hb hby hd) rfl q) H
theorem own_ishrV (X : own_S p l e R s m av below meth c Z y co ml rt n0 T ce sl h) {x : Int32} {y' : Int32}  (hd : decode co pc = .ok (.ishr, 1))  (H : ∀ v : Int32, x >>> (y' &&& 31) = v → -2147483648 ≤ v.toInt → v.toInt < 2147483648 → own_Fin p e below s n0 Q k n T (mkF m (pc + 1) Ls (.int v :: st))) : own_Fin p e below s n0 Q k n T (mkF m pc Ls (.int y' :: .int x :: st)) := by
  exact own_ishrE X hd _ rfl (H _ rfl (rng32 _).1 (rng32 _).2)
theorem own_ishrK (X : own_S p l e R s m av below meth c Z y co ml rt n0 T ce sl h) {x : Int32} {y' : Int32} (a : Int) (kk : Nat) (P : Int) (hd : decode co pc = .ok (.ishr, 1)) (hxa : x.toInt = a) (hk : y'.toBitVec.toNat % 32 = kk) (hP : ((2 ^ kk : Nat) : Int) = P) (H : ∀ v : Int32, x >>> (y' &&& 31) = v → v.toInt = a / P → -2147483648 ≤ v.toInt → v.toInt < 2147483648 → own_Fin p e below s n0 Q k n T (mkF m (pc + 1) Ls (.int v :: st))) : own_Fin p e below s n0 Q k n T (mkF m pc Ls (.int y' :: .int x :: st)) := by
  exact own_ishrE X hd _ rfl (H _ rfl (by subst hxa hP; exact c_ishr x y' kk hk) (rng32 _).1 (rng32 _).2)
theorem own_iushrE (X : own_S p l e R s m av below meth c Z y co ml rt n0 T ce sl h) {x : Int32} {y' : Int32} (hd : decode co pc = .ok (.iushr, 1)) (z : Int32) (hz : (x.toUInt32 >>> (y' &&& 31).toUInt32).toInt32 = z) (H : own_Fin p e below s n0 Q k n T (mkF m (pc + 1) Ls (.int z :: st))) : own_Fin p e below s n0 Q k n T (mkF m pc Ls (.int y' :: .int x :: st)) := by
  subst hz
  obtain ⟨⟨hx, hby, -⟩, locs, X, -⟩ := X
  exact own_go (fun _ q => XS.iushr X.here hx rfl (hb hby hd) rfl q) H
theorem own_iushrV (X : own_S p l e R s m av below meth c Z y co ml rt n0 T ce sl h) {x : Int32} {y' : Int32}  (hd : decode co pc = .ok (.iushr, 1))  (H : ∀ v : Int32, (x.toUInt32 >>> (y' &&& 31).toUInt32).toInt32 = v → -2147483648 ≤ v.toInt → v.toInt < 2147483648 → own_Fin p e below s n0 Q k n T (mkF m (pc + 1) Ls (.int v :: st))) : own_Fin p e below s n0 Q k n T (mkF m pc Ls (.int y' :: .int x :: st)) := by
  exact own_iushrE X hd _ rfl (H _ rfl (rng32 _).1 (rng32 _).2)
theorem own_iushrK (X : own_S p l e R s m av below meth c Z y co ml rt n0 T ce sl h) {x : Int32} {y' : Int32} (a : Int) (kk : Nat) (P : Int) (hd : decode co pc = .ok (.iushr, 1)) (hxa : x.toInt = a) (hk : y'.toBitVec.toNat % 32 = kk) (hP : ((2 ^ kk : Nat) : Int) = P) (hk0 : 0 < kk) (H : ∀ v : Int32, (x.toUInt32 >>> (y' &&& 31).toUInt32).toInt32 = v → v.toInt = (a % 4294967296) / P → -2147483648 ≤ v.toInt → v.toInt < 2147483648 → own_Fin p e below s n0 Q k n T (mkF m (pc + 1) Ls (.int v :: st))) : own_Fin p e below s n0 Q k n T (mkF m pc Ls (.int y' :: .int x :: st)) := by
  exact own_iushrE X hd _ rfl (H _ rfl (by subst hxa hP; exact c_iushr x y' kk hk hk0) (rng32 _).1 (rng32 _).2)
theorem own_laddE (X : own_S p l e R s m av below meth c Z y co ml rt n0 T ce sl h) {x : Int64} {y' : Int64} (hd : decode co pc = .ok (.ladd, 1)) (z : Int64) (hz : x + y' = z) (H : own_Fin p e below s n0 Q k n T (mkF m (pc + 1) Ls (.long z :: st))) : own_Fin p e below s n0 Q k n T (mkF m pc Ls (.long y' :: .long x :: st)) := by
  subst hz
  obtain ⟨⟨hx, hby, -⟩, locs, X, -⟩ := X
  exact own_go (fun _ q => XS.ladd X.here hx rfl (hb hby hd) rfl q) H
theorem own_laddV (X : own_S p l e R s m av below meth c Z y co ml rt n0 T ce sl h) {x : Int64} {y' : Int64} (a b : Int) (hd : decode co pc = .ok (.ladd, 1)) (hxa : x.toInt = a) (hyb : y'.toInt = b) (H : ∀ v : Int64, x + y' = v → (v.toInt - (a + b)) % 18446744073709551616 = 0 → -9223372036854775808 ≤ v.toInt → v.toInt < 9223372036854775808 → own_Fin p e below s n0 Q k n T (mkF m (pc + 1) Ls (.long v :: st))) : own_Fin p e below s n0 Q k n T (mkF m pc Ls (.long y' :: .long x :: st)) := by
  exact own_laddE X hd _ rfl (H _ rfl (by subst hxa hyb; exact c_ladd x y') (rng64 _).1 (rng64 _).2)
theorem own_lsubE (X : own_S p l e R s m av below meth c Z y co ml rt n0 T ce sl h) {x : Int64} {y' : Int64} (hd : decode co pc = .ok (.lsub, 1)) (z : Int64) (hz : x - y' = z) (H : own_Fin p e below s n0 Q k n T (mkF m (pc + 1) Ls (.long z :: st))) : own_Fin p e below s n0 Q k n T (mkF m pc Ls (.long y' :: .long x :: st)) := by
  subst hz
  obtain ⟨⟨hx, hby, -⟩, locs, X, -⟩ := X
  exact own_go (fun _ q => XS.lsub X.here hx rfl (hb hby hd) rfl q) H
theorem own_lsubV (X : own_S p l e R s m av below meth c Z y co ml rt n0 T ce sl h) {x : Int64} {y' : Int64} (a b : Int) (hd : decode co pc = .ok (.lsub, 1)) (hxa : x.toInt = a) (hyb : y'.toInt = b) (H : ∀ v : Int64, x - y' = v → (v.toInt - (a - b)) % 18446744073709551616 = 0 → -9223372036854775808 ≤ v.toInt → v.toInt < 9223372036854775808 → own_Fin p e below s n0 Q k n T (mkF m (pc + 1) Ls (.long v :: st))) : own_Fin p e below s n0 Q k n T (mkF m pc Ls (.long y' :: .long x :: st)) := by
  exact own_lsubE X hd _ rfl (H _ rfl (by subst hxa hyb; exact c_lsub x y') (rng64 _).1 (rng64 _).2)
theorem own_lmulE (X : own_S p l e R s m av below meth c Z y co ml rt n0 T ce sl h) {x : Int64} {y' : Int64} (hd : decode co pc = .ok (.lmul, 1)) (z : Int64) (hz : x * y' = z) (H : own_Fin p e below s n0 Q k n T (mkF m (pc + 1) Ls (.long z :: st))) : own_Fin p e below s n0 Q k n T (mkF m pc Ls (.long y' :: .long x :: st)) := by
  subst hz
  obtain ⟨⟨hx, hby, -⟩, locs, X, -⟩ := X
  exact own_go (fun _ q => XS.lmul X.here hx rfl (hb hby hd) rfl q) H
theorem own_lmulV (X : own_S p l e R s m av below meth c Z y co ml rt n0 T ce sl h) {x : Int64} {y' : Int64} (a b : Int) (hd : decode co pc = .ok (.lmul, 1)) (hxa : x.toInt = a) (hyb : y'.toInt = b) (H : ∀ v : Int64, x * y' = v → (v.toInt - (a * b)) % 18446744073709551616 = 0 → -9223372036854775808 ≤ v.toInt → v.toInt < 9223372036854775808 → own_Fin p e below s n0 Q k n T (mkF m (pc + 1) Ls (.long v :: st))) : own_Fin p e below s n0 Q k n T (mkF m pc Ls (.long y' :: .long x :: st)) := by
  exact own_lmulE X hd _ rfl (H _ rfl (by subst hxa hyb; exact c_lmul x y') (rng64 _).1 (rng64 _).2)
theorem own_landE (X : own_S p l e R s m av below meth c Z y co ml rt n0 T ce sl h) {x : Int64} {y' : Int64} (hd : decode co pc = .ok (.land, 1)) (z : Int64) (hz : x &&& y' = z) (H : own_Fin p e below s n0 Q k n T (mkF m (pc + 1) Ls (.long z :: st))) : own_Fin p e below s n0 Q k n T (mkF m pc Ls (.long y' :: .long x :: st)) := by
  subst hz
  obtain ⟨⟨hx, hby, -⟩, locs, X, -⟩ := X
  exact own_go (fun _ q => XS.land X.here hx rfl (hb hby hd) rfl q) H
theorem own_landV (X : own_S p l e R s m av below meth c Z y co ml rt n0 T ce sl h) {x : Int64} {y' : Int64}  (hd : decode co pc = .ok (.land, 1))  (H : ∀ v : Int64, x &&& y' = v → -9223372036854775808 ≤ v.toInt → v.toInt < 9223372036854775808 → own_Fin p e below s n0 Q k n T (mkF m (pc + 1) Ls (.long v :: st))) : own_Fin p e below s n0 Q k n T (mkF m pc Ls (.long y' :: .long x :: st)) := by
  exact own_landE X hd _ rfl (H _ rfl (rng64 _).1 (rng64 _).2)
theorem own_landM (X : own_S p l e R s m av below meth c Z y co ml rt n0 T ce sl h) {x : Int64} {y' : Int64} (a : Int) (kk : Nat) (P : Int) (hd : decode co pc = .ok (.land, 1)) (hxa : x.toInt = a) (hk : kk ≤ 63) (hm : y'.toBitVec.toNat = 2 ^ kk - 1) (hP : ((2 ^ kk : Nat) : Int) = P) (H : ∀ v : Int64, x &&& y' = v → v.toInt = a % P → -9223372036854775808 ≤ v.toInt → v.toInt < 9223372036854775808 → own_Fin p e below s n0 Q k n T (mkF m (pc + 1) Ls (.long v :: st))) : own_Fin p e below s n0 Q k n T (mkF m pc Ls (.long y' :: .long x :: st)) := by
  exact own_landE X hd _ rfl (H _ rfl (by subst hxa hP; exact c_maskL x y' kk hk hm) (rng64 _).1 (rng64 _).2)
theorem own_lorE (X : own_S p l e R s m av below meth c Z y co ml rt n0 T ce sl h) {x : Int64} {y' : Int64} (hd : decode co pc = .ok (.lor, 1)) (z : Int64) (hz : x ||| y' = z) (H : own_Fin p e below s n0 Q k n T (mkF m (pc + 1) Ls (.long z :: st))) : own_Fin p e below s n0 Q k n T (mkF m pc Ls (.long y' :: .long x :: st)) := by
  subst hz
  obtain ⟨⟨hx, hby, -⟩, locs, X, -⟩ := X
  exact own_go (fun _ q => XS.lor X.here hx rfl (hb hby hd) rfl q) H
theorem own_lorV (X : own_S p l e R s m av below meth c Z y co ml rt n0 T ce sl h) {x : Int64} {y' : Int64}  (hd : decode co pc = .ok (.lor, 1))  (H : ∀ v : Int64, x ||| y' = v → -9223372036854775808 ≤ v.toInt → v.toInt < 9223372036854775808 → own_Fin p e below s n0 Q k n T (mkF m (pc + 1) Ls (.long v :: st))) : own_Fin p e below s n0 Q k n T (mkF m pc Ls (.long y' :: .long x :: st)) := by
  exact own_lorE X hd _ rfl (H _ rfl (rng64 _).1 (rng64 _).2)
theorem own_lxorE (X : own_S p l e R s m av below meth c Z y co ml rt n0 T ce sl h) {x : Int64} {y' : Int64} (hd : decode co pc = .ok (.lxor, 1)) (z : Int64) (hz : x ^^^ y' = z) (H : own_Fin p e below s n0 Q k n T (mkF m (pc + 1) Ls (.long z :: st))) : own_Fin p e below s n0 Q k n T (mkF m pc Ls (.long y' :: .long x :: st)) := by
  subst hz
  obtain ⟨⟨hx, hby, -⟩, locs, X, -⟩ := X
  exact own_go (fun _ q => XS.lxor X.here hx rfl (hb hby hd) rfl q) H
theorem own_lxorV (X : own_S p l e R s m av below meth c Z y co ml rt n0 T ce sl h) {x : Int64} {y' : Int64}  (hd : decode co pc = .ok (.lxor, 1))  (H : ∀ v : Int64, x ^^^ y' = v → -9223372036854775808 ≤ v.toInt → v.toInt < 9223372036854775808 → own_Fin p e below s n0 Q k n T (mkF m (pc + 1) Ls (.long v :: st))) : own_Fin p e below s n0 Q k n T (mkF m pc Ls (.long y' :: .long x :: st)) := by
  exact own_lxorE X hd _ rfl (H _ rfl (rng64 _).1 (rng64 _).2)
theorem own_lshlE (X : own_S p l e R s m av below meth c Z y co ml rt n0 T ce sl h) {x : Int64} {y' : Int32} (hd : decode co pc = .ok (.lshl, 1)) (z : Int64) (hz : x <<< (y' &&& 0x3f).toInt64 = z) (H : own_Fin p e below s n0 Q k n T (mkF m (pc + 1) Ls (.long z :: st))) : own_Fin p e below s n0 Q k n T (mkF m pc Ls (.int y' :: .long x :: st)) := by
  subst hz
  obtain ⟨⟨hx, hby, -⟩, locs, X, -⟩ := X
  exact own_go (fun _ q => XS.lshl X.here hx rfl (hb hby hd) rfl q) H
theorem own_lshlV (X : own_S p l e R s m av below meth c Z y co ml rt n0 T ce sl h) {x : Int64} {y' : Int32}  (hd : decode co pc = .ok (.lshl, 1))  (H : ∀ v : Int64, x <<< (y' &&& 0x3f).toInt64 = v → -9223372036854775808 ≤ v.toInt → v.toInt < 9223372036854775808 → own_Fin p e below s n0 Q k n T (mkF m (pc + 1) Ls (.long v :: st))) : own_Fin p e below s n0 Q k n T (mkF m pc Ls (.int y' :: .long x :: st)) := by
  exact own_lshlE X hd _ rfl (H _ rfl (rng64 _).1 (rng64 _).2)
theorem own_lshlK (X : own_S p l e R s m av below meth c Z y co ml rt n0 T ce sl h) {x : Int64} {y' : Int32} (a : Int) (kk : Nat) (P : Int) (hd : decode co pc = .ok (.lshl, 1)) (hxa : x.toInt = a) (hk : y'.toBitVec.toNat % 64 = kk) (hP : ((2 ^ kk : Nat) : Int) = P) (H : ∀ v : Int64, x <<< (y' &&& 0x3f).toInt64 = v → (v.toInt - a * P) % 18446744073709551616 = 0 → -9223372036854775808 ≤ v.toInt → v.toInt < 9223372036854775808 → own_Fin p e below s n0 Q k n T (mkF m (pc + 1) Ls (.long v :: st))) : own_Fin p e below s n0 Q k n T (mkF m pc Ls (.int y' :: .long x :: st)) := by
  exact own_lshlE X hd _ rfl (H _ rfl (by subst hxa hP; exact c_lshl x y' kk hk) (rng64 _).1 (rng64 _).2)
theorem own_lshrE (X : own_S p l e R s m av below meth c Z y co ml rt n0 T ce sl h) {x : Int64} {y' : Int32} (hd : decode co pc = .ok (.lshr, 1)) (z : Int64) (hz : x >>> (y' &&& 0x3f).toInt64 = z) (H : own_Fin p e below s n0 Q k n T (mkF m (pc + 1) Ls (.long z :: st))) : own_Fin p e below s n0 Q k n T (mkF m pc Ls (.int y' :: .long x :: st)) := by
  subst hz
  obtain ⟨⟨hx, hby, -⟩, locs, X, -⟩ := X
  exact own_go (fun _ q => XS.lshr X.here hx rfl (hb hby hd) rfl q) H
theorem own_lshrV (X : own_S p l e R s m av below meth c Z y co ml rt n0 T ce sl h) {x : Int64} {y' : Int32}  (hd : decode co pc = .ok (.lshr, 1))  (H : ∀ v : Int64, x >>> (y' &&& 0x3f).toInt64 = v → -9223372036854775808 ≤ v.toInt → v.toInt < 9223372036854775808 → own_Fin p e below s n0 Q k n T (mkF m (pc + 1) Ls (.long v :: st))) : own_Fin p e below s n0 Q k n T (mkF m pc Ls (.int y' :: .long x :: st)) := by
  exact own_lshrE X hd _ rfl (H _ rfl (rng64 _).1 (rng64 _).2)
theorem own_lshrK (X : own_S p l e R s m av below meth c Z y co ml rt n0 T ce sl h) {x : Int64} {y' : Int32} (a : Int) (kk : Nat) (P : Int) (hd : decode co pc = .ok (.lshr, 1)) (hxa : x.toInt = a) (hk : y'.toBitVec.toNat % 64 = kk) (hP : ((2 ^ kk : Nat) : Int) = P) (H : ∀ v : Int64, x >>> (y' &&& 0x3f).toInt64 = v → v.toInt = a / P → -9223372036854775808 ≤ v.toInt → v.toInt < 9223372036854775808 → own_Fin p e below s n0 Q k n T (mkF m (pc + 1) Ls (.long v :: st))) : own_Fin p e below s n0 Q k n T (mkF m pc Ls (.int y' :: .long x :: st)) := by
  exact own_lshrE X hd _ rfl (H _ rfl (by subst hxa hP; exact c_lshr x y' kk hk) (rng64 _).1 (rng64 _).2)
theorem own_lushrE (X : own_S p l e R s m av below meth c Z y co ml rt n0 T ce sl h) {x : Int64} {y' : Int32} (hd : decode co pc = .ok (.lushr, 1)) (z : Int64) (hz : (x.toUInt64 >>> (y' &&& 0x3f).toInt64.toUInt64).toInt64 = z) (H : own_Fin p e below s n0 Q k n T (mkF m (pc + 1) Ls (.long z :: st))) : own_Fin p e below s n0 Q k n T (mkF m pc Ls (.int y' :: .long x :: st)) := by
  subst hz
  obtain ⟨⟨hx, hby, -⟩, locs, X, -⟩ := X
  exact own_go (fun _ q => XS.lushr X.here hx rfl (hb hby hd) rfl q) H
theorem own_lushrV (X : own_S p l e R s m av below meth c Z y co ml rt n0 T ce sl h) {x : Int64} {y' : Int32}  (hd : decode co pc = .ok (.lushr, 1))  (H : ∀ v : Int64, (x.toUInt64 >>> (y' &&& 0x3f).toInt64.toUInt64).toInt64 = v → -9223372036854775808 ≤ v.toInt → v.toInt < 9223372036854775808 → own_Fin p e below s n0 Q k n T (mkF m (pc + 1) Ls (.long v :: st))) : own_Fin p e below s n0 Q k n T (mkF m pc Ls (.int y' :: .long x :: st)) := by
  exact own_lushrE X hd _ rfl (H _ rfl (rng64 _).1 (rng64 _).2)
theorem own_lushrK (X : own_S p l e R s m av below meth c Z y co ml rt n0 T ce sl h) {x : Int64} {y' : Int32} (a : Int) (kk : Nat) (P : Int) (hd : decode co pc = .ok (.lushr, 1)) (hxa : x.toInt = a) (hk : y'.toBitVec.toNat % 64 = kk) (hP : ((2 ^ kk : Nat) : Int) = P) (hk0 : 0 < kk) (H : ∀ v : Int64, (x.toUInt64 >>> (y' &&& 0x3f).toInt64.toUInt64).toInt64 = v → v.toInt = (a % 18446744073709551616) / P → -9223372036854775808 ≤ v.toInt → v.toInt < 9223372036854775808 → own_Fin p e below s n0 Q k n T (mkF m (pc + 1) Ls (.long v :: st))) : own_Fin p e below s n0 Q k n T (mkF m pc Ls (.int y' :: .long x :: st)) := by
  exact own_lushrE X hd _ rfl (H _ rfl (by subst hxa hP; exact c_lushr x y' kk hk hk0) (rng64 _).1 (rng64 _).2)
theorem own_iremE (X : own_S p l e R s m av below meth c Z y co ml rt n0 T ce sl h) {x : Int32} {y' : Int32} (hd : decode co pc = .ok (.irem, 1)) (hnz : y' ≠ 0) (z : Int32) (hz : x % y' = z) (H : own_Fin p e below s n0 Q k n T (mkF m (pc + 1) Ls (.int z :: st))) : own_Fin p e below s n0 Q k n T (mkF m pc Ls (.int y' :: .int x :: st)) := by
  subst hz
  obtain ⟨⟨hx, hby, -⟩, locs, X, -⟩ := X
  exact own_go (fun _ q => iremM X hx rfl (hb hby hd) rfl hnz q) H
theorem own_iremV (X : own_S p l e R s m av below meth c Z y co ml rt n0 T ce sl h) {x : Int32} {y' : Int32}  (hd : decode co pc = .ok (.irem, 1)) (hnz : y' ≠ 0)  (H : ∀ v : Int32, x % y' = v → -2147483648 ≤ v.toInt → v.toInt < 2147483648 → own_Fin p e below s n0 Q k n T (mkF m (pc + 1) Ls (.int v :: st))) : own_Fin p e below s n0 Q k n T (mkF m pc Ls (.int y' :: .int x :: st)) := by
  exact own_iremE X hd hnz _ rfl (H _ rfl (rng32 _).1 (rng32 _).2)
theorem own_iremK (X : own_S p l e R s m av below meth c Z y co ml rt n0 T ce sl h) {x : Int32} {y' : Int32} (a b : Int) (hd : decode co pc = .ok (.irem, 1)) (hnz : y' ≠ 0) (hxa : x.toInt = a) (hyb : y'.toInt = b) (H : ∀ v : Int32, x % y' = v → (0 ≤ a → v.toInt = a % b) ∧ (a < 0 → v.toInt = -((-a) % b)) → -2147483648 ≤ v.toInt → v.toInt < 2147483648 → own_Fin p e below s n0 Q k n T (mkF m (pc + 1) Ls (.int v :: st))) : own_Fin p e below s n0 Q k n T (mkF m pc Ls (.int y' :: .int x :: st)) := by
  exact own_iremE X hd hnz _ rfl (H _ rfl (by subst hxa; exact c_irem x y' b hyb) (rng32 _).1 (rng32 _).2)
theorem own_iremB (X : own_S p l e R s m av below meth c Z y co ml rt n0 T ce sl h) {x : Int32} {y' : Int32} (a b : Int) (hd : decode co pc = .ok (.irem, 1)) (hnz : y' ≠ 0) (hxa : x.toInt = a) (hyb : y'.toInt = b) (q1 : 0 ≤ a) (q2 : 0 < b) (H : ∀ v : Int32, x % y' = v → 0 ≤ v.toInt ∧ v.toInt < b ∧ v.toInt ≤ a → -2147483648 ≤ v.toInt → v.toInt < 2147483648 → own_Fin p e below s n0 Q k n T (mkF m (pc + 1) Ls (.int v :: st))) : own_Fin p e below s n0 Q k n T (mkF m pc Ls (.int y' :: .int x :: st)) := by
  exact own_iremE X hd hnz _ rfl (H _ rfl (by subst hxa hyb; have q := (c_iremV x y').1 q1 q2; exact ⟨q.1, q.2.1, q.2.2.1⟩) (rng32 _).1 (rng32 _).2)
theorem own_lremE (X : own_S p l e R s m av below meth c Z y co ml rt n0 T ce sl h) {x : Int64} {y' : Int64} (hd : decode co pc = .ok (.lrem, 1)) (hnz : y' ≠ 0) (z : Int64) (hz : x % y' = z) (H : own_Fin p e below s n0 Q k n T (mkF m (pc + 1) Ls (.long z :: st))) : own_Fin p e below s n0 Q k n T (mkF m pc Ls (.long y' :: .long x :: st)) := by
  subst hz
  obtain ⟨⟨hx, hby, -⟩, locs, X, -⟩ := X
  exact own_go (fun _ q => XS.lrem X.here hx rfl (hb hby hd) rfl hnz (by rw [lrem_mod]; exact q)) H
theorem own_lremV (X : own_S p l e R s m av below meth c Z y co ml rt n0 T ce sl h) {x : Int64} {y' : Int64}  (hd : decode co pc = .ok (.lrem, 1)) (hnz : y' ≠ 0)  (H : ∀ v : Int64, x % y' = v → -9223372036854775808 ≤ v.toInt → v.toInt < 9223372036854775808 → own_Fin p e below s n0 Q k n T (mkF m (pc + 1) Ls (.long v :: st))) : own_Fin p e below s n0 Q k n T (mkF m pc Ls (.long y' :: .long x :: st)) := by
  exact own_lremE X hd hnz _ rfl (H _ rfl (rng64 _).1 (rng64 _).2)
theorem own_lremK (X : own_S p l e R s m av below meth c Z y co ml rt n0 T ce sl h) {x : Int64} {y' : Int64} (a b : Int) (hd : decode co pc = .ok (.lrem, 1)) (hnz : y' ≠ 0) (hxa : x.toInt = a) (hyb : y'.toInt = b) (H : ∀ v : Int64, x % y' = v → (0 ≤ a → v.toInt = a % b) ∧ (a < 0 → v.toInt = -((-a) % b)) → -9223372036854775808 ≤ v.toInt → v.toInt < 9223372036854775808 → own_Fin p e below s n0 Q k n T (mkF m (pc + 1) Ls (.long v :: st))) : own_Fin p e below s n0 Q k n T (mkF m pc Ls (.long y' :: .long x :: st)) := by
  exact own_lremE X hd hnz _ rfl (H _ rfl (by subst hxa; have q := c_lrem x y' b hyb; rw [lrem_mod] at q; exact q) (rng64 _).1 (rng64 _).2)
theorem own_lremB (X : own_S p l e R s m av below meth c Z y co ml rt n0 T ce sl h) {x : Int64} {y' : Int64} (a b : Int) (hd : decode co pc = .ok (.lrem, 1)) (hnz : y' ≠ 0) (hxa : x.toInt = a) (hyb : y'.toInt = b) (q1 : 0 ≤ a) (q2 : 0 < b) (H : ∀ v : Int64, x % y' = v → 0 ≤ v.toInt ∧ v.toInt < b ∧ v.toInt ≤ a → -9223372036854775808 ≤ v.toInt → v.toInt < 9223372036854775808 → own_Fin p e below s n0 Q k n T (mkF m (pc + 1) Ls (.long v :: st))) : own_Fin p e below s n0 Q k n T (mkF m pc Ls (.long y' :: .long x :: st)) := by
  exact own_lremE X hd hnz _ rfl (H _ rfl (by subst hxa hyb; have q := (c_lrem x y' _ rfl).1 q1; rw [lrem_mod] at q; rw [q]; exact ⟨Int.emod_nonneg _ (by omega), Int.emod_lt_of_pos _ q2, own_emod_le q1 q2⟩) (rng64 _).1 (rng64 _).2)
theorem own_i2lE (X : own_S p l e R s m av below meth c Z y co ml rt n0 T ce sl h) {x : Int32} (hd : decode co pc = .ok (.i2l, 1)) (z : Int64) (hz : x.toInt64 = z) (H : own_Fin p e below s n0 Q k n T (mkF m (pc + 1) Ls (.long z :: st))) : own_Fin p e below s n0 Q k n T (mkF m pc Ls (.int x :: st)) := by
  subst hz
  obtain ⟨⟨hx, hby, -⟩, locs, X, -⟩ := X
  exact own_go (fun _ q => XS.i2l X.here hx rfl (hb hby hd) rfl q) H
theorem own_i2lV (X : own_S p l e R s m av below meth c Z y co ml rt n0 T ce sl h) {x : Int32} (a : Int) (hd : decode co pc = .ok (.i2l, 1)) (hxa : x.toInt = a) (H : ∀ v : Int64, x.toInt64 = v → v.toInt = a → -9223372036854775808 ≤ v.toInt → v.toInt < 9223372036854775808 → own_Fin p e below s n0 Q k n T (mkF m (pc + 1) Ls (.long v :: st))) : own_Fin p e below s n0 Q k n T (mkF m pc Ls (.int x :: st)) := by
  exact own_i2lE X hd _ rfl (H _ rfl (by subst hxa; exact c_i2l x) (rng64 _).1 (rng64 _).2)
theorem own_l2iE (X : own_S p l e R s m av below meth c Z y co ml rt n0 T ce sl h) {x : Int64} (hd : decode co pc = .ok (.l2i, 1)) (z : Int32) (hz : x.toInt32 = z) (H : own_Fin p e below s n0 Q k n T (mkF m (pc + 1) Ls (.int z :: st))) : own_Fin p e below s n0 Q k n T (mkF m pc Ls (.long x :: st)) := by
  subst hz
  obtain ⟨⟨hx, hby, -⟩, locs, X, -⟩ := X
  exact own_go (fun _ q => XS.l2i X.here hx rfl (hb hby hd) rfl q) H
theorem own_l2iV (X : own_S p l e R s m av below meth c Z y co ml rt n0 T ce sl h) {x : Int64} (a : Int) (hd : decode co pc = .ok (.l2i, 1)) (hxa : x.toInt = a) (H : ∀ v : Int32, x.toInt32 = v → (v.toInt - a) % 4294967296 = 0 → -2147483648 ≤ v.toInt → v.toInt < 2147483648 → own_Fin p e below s n0 Q k n T (mkF m (pc + 1) Ls (.int v :: st))) : own_Fin p e below s n0 Q k n T (mkF m pc Ls (.long x :: st)) := by
  exact own_l2iE X hd _ rfl (H _ rfl (by subst hxa; exact c_l2i x) (rng32 _).1 (rng32 _).2)
theorem own_i2bE (X : own_S p l e R s m av below meth c Z y co ml rt n0 T ce sl h) {x : Int32} (hd : decode co pc = .ok (.i2b, 1)) (z : Int32) (hz : x.toInt8.toInt32 = z) (H : own_Fin p e below s n0 Q k n T (mkF m (pc + 1) Ls (.int z :: st))) : own_Fin p e below s n0 Q k n T (mkF m pc Ls (.int x :: st)) := by
  subst hz
  obtain ⟨⟨hx, hby, -⟩, locs, X, -⟩ := X
  exact own_go (fun _ q => XS.i2b X.here hx rfl (hb hby hd) rfl q) H
theorem own_i2bV (X : own_S p l e R s m av below meth c Z y co ml rt n0 T ce sl h) {x : Int32} (a : Int) (hd : decode co pc = .ok (.i2b, 1)) (hxa : x.toInt = a) (H : ∀ v : Int32, x.toInt8.toInt32 = v → (v.toInt - a) % 256 = 0 ∧ -128 ≤ v.toInt ∧ v.toInt < 128 → -2147483648 ≤ v.toInt → v.toInt < 2147483648 → own_Fin p e below s n0 Q k n T (mkF m (pc + 1) Ls (.int v :: st))) : own_Fin p e below s n0 Q k n T (mkF m pc Ls (.int x :: st)) := by
  exact own_i2bE X hd _ rfl (H _ rfl (by subst hxa; exact c_i2b x) (rng32 _).1 (rng32 _).2)
theorem own_i2sE (X : own_S p l e R s m av below meth c Z y co ml rt n0 T ce sl h) {x : Int32} (hd : decode co pc = .ok (.i2s, 1)) (z : Int32) (hz : x.toInt16.toInt32 = z) (H : own_Fin p e below s n0 Q k n T (mkF m (pc + 1) Ls (.int z :: st))) : own_Fin p e below s n0 Q k n T (mkF m pc Ls (.int x :: st)) := by
  subst hz
  obtain ⟨⟨hx, hby, -⟩, locs, X, -⟩ := X
  exact own_go (fun _ q => XS.i2s X.here hx rfl (hb hby hd) rfl q) H
theorem own_i2sV (X : own_S p l e R s m av below meth c Z y co ml rt n0 T ce sl h) {x : Int32} (a : Int) (hd : decode co pc = .ok (.i2s, 1)) (hxa : x.toInt = a) (H : ∀ v : Int32, x.toInt16.toInt32 = v → (v.toInt - a) % 65536 = 0 ∧ -32768 ≤ v.toInt ∧ v.toInt < 32768 → -2147483648 ≤ v.toInt → v.toInt < 2147483648 → own_Fin p e below s n0 Q k n T (mkF m (pc + 1) Ls (.int v :: st))) : own_Fin p e below s n0 Q k n T (mkF m pc Ls (.int x :: st)) := by
  exact own_i2sE X hd _ rfl (H _ rfl (by subst hxa; exact c_i2s x) (rng32 _).1 (rng32 _).2)
theorem own_i2cE (X : own_S p l e R s m av below meth c Z y co ml rt n0 T ce sl h) {x : Int32} (hd : decode co pc = .ok (.i2c, 1)) (z : Int32) (hz : x.toUInt32.toUInt16.toUInt32.toInt32 = z) (H : own_Fin p e below s n0 Q k n T (mkF m (pc + 1) Ls (.int z :: st))) : own_Fin p e below s n0 Q k n T (mkF m pc Ls (.int x :: st)) := by
  subst hz
  obtain ⟨⟨hx, hby, -⟩, locs, X, -⟩ := X
  exact own_go (fun _ q => XS.i2c X.here hx rfl (hb hby hd) rfl q) H
theorem own_i2cV (X : own_S p l e R s m av below meth c Z y co ml rt n0 T ce sl h) {x : Int32} (a : Int) (hd : decode co pc = .ok (.i2c, 1)) (hxa : x.toInt = a) (H : ∀ v : Int32, x.toUInt32.toUInt16.toUInt32.toInt32 = v → (v.toInt - a) % 65536 = 0 ∧ 0 ≤ v.toInt ∧ v.toInt < 65536 → -2147483648 ≤ v.toInt → v.toInt < 2147483648 → own_Fin p e below s n0 Q k n T (mkF m (pc + 1) Ls (.int v :: st))) : own_Fin p e below s n0 Q k n T (mkF m pc Ls (.int x :: st)) := by
  exact own_i2cE X hd _ rfl (H _ rfl (by subst hxa; exact c_i2c x) (rng32 _).1 (rng32 _).2)
theorem own_lcmp (X : own_S p l e R s m av below meth c Z y co ml rt n0 T ce sl h) {x y' : Int64} (hd : decode co pc = .ok (.lcmp, 1)) (H : own_Fin p e below s n0 Q k n T (mkF m (pc + 1) Ls (.int (lcmpW x y') :: st))) : own_Fin p e below s n0 Q k n T (mkF m pc Ls (.long y' :: .long x :: st)) := by
  obtain ⟨⟨hx, hby, -⟩, locs, X, -⟩ := X
  exact own_go (fun _ q => XS.lcmp X.here hx rfl (hb hby hd) rfl q) H
theorem own_dup (X : own_S p l e R s m av below meth c Z y co ml rt n0 T ce sl h) {v : Value} (hd : decode co pc = .ok (.dup, 1)) (hv : v.category = 1) (H : own_Fin p e below s n0 Q k n T (mkF m (pc + 1) Ls (v :: v :: st))) : own_Fin p e below s n0 Q k n T (mkF m pc Ls (v :: st)) := by
  obtain ⟨⟨hx, hby, -⟩, locs, X, -⟩ := X
  exact own_go (fun _ q => XS.dup X.here hx rfl (hb hby hd) rfl hv q) H
theorem own_dupX1 (X : own_S p l e R s m av below meth c Z y co ml rt n0 T ce sl h) {v w : Value} (hd : decode co pc = .ok (.dup_x1, 1)) (hv : v.category = 1) (hw : w.category = 1) (H : own_Fin p e below s n0 Q k n T (mkF m (pc + 1) Ls (v :: w :: v :: st))) : own_Fin p e below s n0 Q k n T (mkF m pc Ls (v :: w :: st)) := by
  obtain ⟨⟨hx, hby, -⟩, locs, X, -⟩ := X
  exact own_go (fun _ q => XS.dupX1 X.here hx rfl (hb hby hd) rfl hv hw q) H
theorem own_pop (X : own_S p l e R s m av below meth c Z y co ml rt n0 T ce sl h) {v : Value} (hd : decode co pc = .ok (.pop, 1)) (hv : v.category = 1) (H : own_Fin p e below s n0 Q k n T (mkF m (pc + 1) Ls (st))) : own_Fin p e below s n0 Q k n T (mkF m pc Ls (v :: st)) := by
  obtain ⟨⟨hx, hby, -⟩, locs, X, -⟩ := X
  exact own_go (fun _ q => XS.pop X.here hx rfl (hb hby hd) rfl hv q) H
theorem own_iinc (X : own_S p l e R s m av below meth c Z y co ml rt n0 T ce sl h) {i : Nat} {z : Int} {x z' : Int32} {L' : Array Slot} (hd : decode co pc = .ok (.iinc i z, 3)) (hl : Ls[i]? = some (.val (.int x))) (hz : Int32.ofInt z = z') (hl' : storeLocals Ls i (.int (x + z')) = some L') (H : own_Fin p e below s n0 Q k n T (mkF m (pc + 3) L' (st))) : own_Fin p e below s n0 Q k n T (mkF m pc Ls (st)) := by
  obtain ⟨⟨hx, hby, -⟩, locs, X, -⟩ := X
  exact own_go (fun _ q => XS.iinc X.here hx rfl (hb hby hd) hl (by rw [hz]; exact hl') q) H
theorem own_goto (X : own_S p l e R s m av below meth c Z y co ml rt n0 T ce sl h) {o : Int} (pc' : Nat) (hd : decode co pc = .ok (.goto o, 3)) (ho : 0 ≤ (pc : Int) + o) (hp : ((pc : Int) + o).toNat = pc') (H : own_Fin p e below s n0 Q k n T (mkF m pc' Ls (st))) : own_Fin p e below s n0 Q k n T (mkF m pc Ls (st)) := by
  obtain ⟨⟨hx, hby, -⟩, locs, X, -⟩ := X
  exact own_go (fun _ q => XS.goto X.here hx rfl rfl (hb hby hd) ho hp q) H
theorem own_icmpYes (X : own_S p l e R s m av below meth c Z y co ml rt n0 T ce sl h) {cd : ClassFile.Cond} {o : Int} {x y' : Int32} (pc' : Nat) (hd : decode co pc = .ok (.if_icmp cd o, 3)) (hc : if_icmp.holds cd x y' = true) (ho : 0 ≤ (pc : Int) + o) (hp : ((pc : Int) + o).toNat = pc') (H : own_Fin p e below s n0 Q k n T (mkF m pc' Ls (st))) : own_Fin p e below s n0 Q k n T (mkF m pc Ls (.int y' :: .int x :: st)) := by
  obtain ⟨⟨hx, hby, -⟩, locs, X, -⟩ := X
  exact own_go (fun _ q => XS.icmpYes X.here hx rfl rfl (hb hby hd) rfl hc ho hp q) H
theorem own_icmpNo (X : own_S p l e R s m av below meth c Z y co ml rt n0 T ce sl h) {cd : ClassFile.Cond} {o : Int} {x y' : Int32} (hd : decode co pc = .ok (.if_icmp cd o, 3)) (hc : if_icmp.holds cd x y' = false) (H : own_Fin p e below s n0 Q k n T (mkF m (pc + 3) Ls (st))) : own_Fin p e below s n0 Q k n T (mkF m pc Ls (.int y' :: .int x :: st)) := by
  obtain ⟨⟨hx, hby, -⟩, locs, X, -⟩ := X
  exact own_go (fun _ q => XS.icmpNo X.here hx rfl (hb hby hd) rfl hc q) H
theorem own_ifYes (X : own_S p l e R s m av below meth c Z y co ml rt n0 T ce sl h) {cd : ClassFile.Cond} {o : Int} {x : Int32} (pc' : Nat) (hd : decode co pc = .ok (.ifCond cd o, 3)) (hc : ifCond.holds cd x = true) (ho : 0 ≤ (pc : Int) + o) (hp : ((pc : Int) + o).toNat = pc') (H : own_Fin p e below s n0 Q k n T (mkF m pc' Ls (st))) : own_Fin p e below s n0 Q k n T (mkF m pc Ls (.int x :: st)) := by
  obtain ⟨⟨hx, hby, -⟩, locs, X, -⟩ := X
  exact own_go (fun _ q => XS.ifYes X.here hx rfl rfl (hb hby hd) rfl hc ho hp q) H
theorem own_ifNo (X : own_S p l e R s m av below meth c Z y co ml rt n0 T ce sl h) {cd : ClassFile.Cond} {o : Int} {x : Int32} (hd : decode co pc = .ok (.ifCond cd o, 3)) (hc : ifCond.holds cd x = false) (H : own_Fin p e below s n0 Q k n T (mkF m (pc + 3) Ls (st))) : own_Fin p e below s n0 Q k n T (mkF m pc Ls (.int x :: st)) := by
  obtain ⟨⟨hx, hby, -⟩, locs, X, -⟩ := X
  exact own_go (fun _ q => XS.ifNo X.here hx rfl (hb hby hd) rfl hc q) H
theorem own_ifnullYes (X : own_S p l e R s m av below meth c Z y co ml rt n0 T ce sl h) {o : Int} (pc' : Nat) (hd : decode co pc = .ok (.ifnull o, 3)) (ho : 0 ≤ (pc : Int) + o) (hp : ((pc : Int) + o).toNat = pc') (H : own_Fin p e below s n0 Q k n T (mkF m pc' Ls (st))) : own_Fin p e below s n0 Q k n T (mkF m pc Ls (.null :: st)) := by
  obtain ⟨⟨hx, hby, -⟩, locs, X, -⟩ := X
  exact own_go (fun _ q => XS.ifnullYes X.here hx rfl rfl (hb hby hd) rfl ho hp q) H
theorem own_ifnullNo (X : own_S p l e R s m av below meth c Z y co ml rt n0 T ce sl h) {o : Int} {b : Addr} (hd : decode co pc = .ok (.ifnull o, 3)) (H : own_Fin p e below s n0 Q k n T (mkF m (pc + 3) Ls (st))) : own_Fin p e below s n0 Q k n T (mkF m pc Ls (.ref b :: st)) := by
  obtain ⟨⟨hx, hby, -⟩, locs, X, -⟩ := X
  exact own_go (fun _ q => XS.ifnullNo X.here hx rfl (hb hby hd) rfl q) H
theorem own_ifnonnullYes (X : own_S p l e R s m av below meth c Z y co ml rt n0 T ce sl h) {o : Int} {b : Addr} (pc' : Nat) (hd : decode co pc = .ok (.ifnonnull o, 3)) (ho : 0 ≤ (pc : Int) + o) (hp : ((pc : Int) + o).toNat = pc') (H : own_Fin p e below s n0 Q k n T (mkF m pc' Ls (st))) : own_Fin p e below s n0 Q k n T (mkF m pc Ls (.ref b :: st)) := by
  obtain ⟨⟨hx, hby, -⟩, locs, X, -⟩ := X
  exact own_go (fun _ q => XS.ifnonnullYes X.here hx rfl rfl (hb hby hd) rfl ho hp q) H
theorem own_ifnonnullNo (X : own_S p l e R s m av below meth c Z y co ml rt n0 T ce sl h) {o : Int} (hd : decode co pc = .ok (.ifnonnull o, 3)) (H : own_Fin p e below s n0 Q k n T (mkF m (pc + 3) Ls (st))) : own_Fin p e below s n0 Q k n T (mkF m pc Ls (.null :: st)) := by
  obtain ⟨⟨hx, hby, -⟩, locs, X, -⟩ := X
  exact own_go (fun _ q => XS.ifnonnullNo X.here hx rfl (hb hby hd) rfl q) H
theorem own_dup2 (X : own_S p l e R s m av below meth c Z y co ml rt n0 T ce sl h) {v w : Value} (hd : decode co pc = .ok (.dup2, 1)) (hv : v.category = 1) (hw : w.category = 1) (H : own_Fin p e below s n0 Q k n T (mkF m (pc + 1) Ls (v :: w :: v :: w :: st))) : own_Fin p e below s n0 Q k n T (mkF m pc Ls (v :: w :: st)) := by
  obtain ⟨⟨hx, hby, -⟩, locs, X, -⟩ := X
  exact own_go (fun _ q => XT.dup2 X.here hx rfl (hb hby hd) rfl hv hw q) H
theorem own_tswOut (X : own_S p l e R s m av below meth c Z y co ml rt n0 T ce sl h) {df lo hi : Int} {offs : Array Int} {len : Nat} {x : Int32} (pc' : Nat) (hd : decode co pc = .ok (.tableswitch df lo hi offs, len)) (hc : x.toInt < lo ∨ x.toInt > hi) (ho : 0 ≤ (pc : Int) + df) (hp : ((pc : Int) + df).toNat = pc') (H : own_Fin p e below s n0 Q k n T (mkF m pc' Ls st)) : own_Fin p e below s n0 Q k n T (mkF m pc Ls (.int x :: st)) := by
  obtain ⟨⟨hx, hby, -⟩, locs, X, -⟩ := X
  exact own_go (fun _ q => XS.tswOut X.here hx rfl rfl (hb hby hd) rfl hc ho hp q) H
theorem own_tswIn (X : own_S p l e R s m av below meth c Z y co ml rt n0 T ce sl h) {df lo hi o : Int} {offs : Array Int} {len : Nat} {x : Int32} (pc' : Nat) (hd : decode co pc = .ok (.tableswitch df lo hi offs, len)) (hc : ¬ (x.toInt < lo ∨ x.toInt > hi)) (hof : offs[(x.toInt - lo).toNat]? = some o) (ho : 0 ≤ (pc : Int) + o) (hp : ((pc : Int) + o).toNat = pc') (H : own_Fin p e below s n0 Q k n T (mkF m pc' Ls st)) : own_Fin p e below s n0 Q k n T (mkF m pc Ls (.int x :: st)) := by
  obtain ⟨⟨hx, hby, -⟩, locs, X, -⟩ := X
  exact own_go (fun _ q => XS.tswIn X.here hx rfl rfl (hb hby hd) rfl hc hof ho hp q) H
theorem own_all_offs {offs : Array Int} {o : Int} {i k : Nat} (h : ∀ j, j < k → offs[j]? = some o) (hi : i < k) : offs[i]? = some o := h i hi
theorem own_iincW (X : own_S p l e R s m av below meth c Z y co ml rt n0 T ce sl h) {i : Nat} {z : Int} {x z' : Int32} {L' : Array Slot} (hd : decode co pc = .ok (.iinc i z, 6)) (hl : Ls[i]? = some (.val (.int x))) (hz : Int32.ofInt z = z') (hl' : storeLocals Ls i (.int (x + z')) = some L') (H : own_Fin p e below s n0 Q k n T (mkF m (pc + 6) L' st)) : own_Fin p e below s n0 Q k n T (mkF m pc Ls st) := by
  subst hz
  obtain ⟨⟨hx, hby, -⟩, locs, X, -⟩ := X
  have hd' := hb hby hd
  refine own_go (fun target q => ?_) H
  jvm_step X.here [X.here.top, hx, hd', hl, hl']
  exact q
theorem own_ldc (X : own_S p l e R s m av below meth c Z y co ml rt n0 T ce sl h) {ix : Nat} {z : Int32} (w : (Jvm.Cond.constant y.cls ix z).before a0 Z = true) (hd : decode co pc = .ok (.ldc ix, 2)) (H : own_Fin p e below s n0 Q k n T (mkF m (pc + 2) Ls (.int z :: st))) : own_Fin p e below s n0 Q k n T (mkF m pc Ls st) := by
  obtain ⟨⟨hx, hby, -, hown, -, -, -, hZ⟩, locs, X, -⟩ := X
  exact own_go (X.ldcInt hx hown (mvT hZ w) (g := mkF m pc Ls st) rfl (hb hby hd)) H
theorem own_ldc2 (X : own_S p l e R s m av below meth c Z y co ml rt n0 T ce sl h) {ix : Nat} {z : Int64} (w : (Jvm.Cond.constantLong y.cls ix z).before a0 Z = true) (hd : decode co pc = .ok (.ldc2_w ix, 3)) (H : own_Fin p e below s n0 Q k n T (mkF m (pc + 3) Ls (.long z :: st))) : own_Fin p e below s n0 Q k n T (mkF m pc Ls st) := by
  obtain ⟨⟨hx, hby, -, hown, -, -, -, hZ⟩, locs, X, -⟩ := X
  exact own_go (X.ldc2Long hx hown (mvT hZ w) (g := mkF m pc Ls st) rfl (hb hby hd)) H
/-- the five returns -/
theorem own_ret (X : own_S p l e R s m av below meth c Z y co ml rt n0 T ce sl h) {t : FieldType} {i : Instr} {w w' : Value} (hrt : rt = some t) (hn : narrow t w' = w') (hst : ∀ {fs : List Frame} {locs : List Loc}, Stand p l e R s m av below meth c T locs ce sl → p.tables.exec = Jvm.exec → meth.sig.returnType = some t → decode c.code pc = .ok (i, 1) →
      (∀ (f : JFrame) (acts : List Action), f.method = m → f.locked = none → f.entered = [] → (doReturn e (T.setTop f) acts (some w')).1 = T.setFrames fs) → Steps p.tables e below (T.setTop (mkF m pc Ls (w :: st))) (T.setFrames fs))
    (hd : decode co pc = .ok (i, 1)) (hk : ce ≤ k) (hk' : sl ≤ n) (q : Q (some w') h) : own_Fin p e below s n0 Q k n T (mkF m pc Ls (w :: st)) := by
  obtain ⟨⟨hx, hby, -, -, -, hret, hlk, hZ⟩, locs, X, N, eh, -⟩ := X
  obtain ⟨fs, hr, hrun, hended, hW, hsame⟩ := X.leave (v := some w') (fun h => by rw [hret, hrt] at h; cases h) hlk
  exact ⟨_, _, hst X hx (by rw [hret, hrt]) (hb hby hd) hr, hrun, hended, _, _, rfl, ⟨N, by rw [show (T.setFrames fs).heap = h from eh]; exact q⟩, ⟨_, rfl⟩, hW, hsame.mono hk hk'⟩
theorem own_retI (X : own_S p l e R s m av below meth c Z y co ml (some .int) n0 T ce sl h) {z : Int32} (hd : decode co pc = .ok (.ireturn, 1)) (hk : ce ≤ k) (hk' : sl ≤ n) (q : Q (some (.int z)) h) : own_Fin p e below s n0 Q k n T (mkF m pc Ls (.int z :: st)) :=
  own_ret X rfl rfl (fun X hx hret hd hl => retOut X hx hret rfl (Or.inl ⟨rfl, Or.inl rfl, z, rfl⟩) hd hl) hd hk hk' q
theorem own_retN {t : FieldType} (X : own_S p l e R s m av below meth c Z y co ml (some t) n0 T ce sl h) {z z' : Int32} (ht : t = .boolean ∨ t = .byte ∨ t = .char ∨ t = .short) (hz : nar t z = z') (hz' : nar t z' = z') (hd : decode co pc = .ok (.ireturn, 1)) (hk : ce ≤ k) (hk' : sl ≤ n) (q : Q (some (.int z')) h) : own_Fin p e below s n0 Q k n T (mkF m pc Ls (.int z :: st)) :=
  own_ret X rfl (by rcases ht with rfl | rfl | rfl | rfl <;> exact congrArg Value.int hz') (fun X hx hret hd hl => retN X hx hret ht hd (by rw [hz]; exact hl)) hd hk hk' q
theorem own_retJ (X : own_S p l e R s m av below meth c Z y co ml (some .long) n0 T ce sl h) {z : Int64} (hd : decode co pc = .ok (.lreturn, 1)) (hk : ce ≤ k) (hk' : sl ≤ n) (q : Q (some (.long z)) h) : own_Fin p e below s n0 Q k n T (mkF m pc Ls (.long z :: st)) :=
  own_ret X rfl rfl (fun X hx hret hd hl => retOut X hx hret rfl (Or.inr (Or.inl ⟨rfl, rfl, z, rfl⟩)) hd hl) hd hk hk' q
theorem own_retR {t : FieldType} (X : own_S p l e R s m av below meth c Z y co ml (some t) n0 T ce sl h) {w : Value} (ht : t.isReference = true) (hw : w.isRef = true) (hd : decode co pc = .ok (.areturn, 1)) (hk : ce ≤ k) (hk' : sl ≤ n) (q : Q (some w) h) : own_Fin p e below s n0 Q k n T (mkF m pc Ls (w :: st)) :=
  have hn : narrow t w = w := by cases t <;> first | (cases ht; done) | rfl
  own_ret X rfl hn (fun X hx hret hd hl => retOut X hx hret hn (Or.inr (Or.inr (Or.inr (Or.inr ⟨rfl, ht, hw⟩)))) hd hl) hd hk hk' q
theorem own_retV (X : own_S p l e R s m av below meth c Z y co ml none n0 T ce sl h) (hd : decode co pc = .ok (.return_, 1)) (hk : ce ≤ k) (hk' : sl ≤ n) (q : Q none h) : own_Fin p e below s n0 Q k n T (mkF m pc Ls []) := by
  obtain ⟨⟨hx, hby, -, -, -, hret, hlk, hZ⟩, locs, X, N, eh, -⟩ := X
  obtain ⟨fs, hr, hrun, hended, hW, hsame⟩ := X.leave (v := none) (fun _ => rfl) hlk
  exact ⟨_, _, X.returnOut hx hret (hb hby hd) hr, hrun, hended, _, _, rfl, ⟨N, by rw [show (T.setFrames fs).heap = h from eh]; exact q⟩, ⟨_, rfl⟩, hW, hsame.mono hk hk'⟩
/-- a static call by its contract -/
theorem own_callS (X : own_S p l e R s m av below meth c Z y co ml rt n0 T ce sl h) {ix : Nat} {y' : MethodName} {co' : ByteArray} {ml' W : Nat} {rt' : Option FieldType} {rm : Room} {Q' : Option Value → Heap → Prop} {argsL rest stk : List Value}
    (w1 : (Jvm.Cond.methodLink y.cls ix y').before a0 Z = true) (w2 : (Jvm.Cond.static y').before a0 Z = true) (w3 : (Jvm.Cond.initialized y'.cls).before a0 Z = true) (w4 : (Jvm.Cond.code y' co' ml' rt').before a0 Z = true) (hy : y'.cls ≠ "java/lang/invoke/MethodHandle" ∧ y'.cls ≠ "java/lang/invoke/VarHandle")
    (M : own_Met l Z y' co' ml' rt' [] rm argsL.toArray h n0 Q') (hf : rm.frames + 1 ≤ R.frames) (hlo : W + (ml' + 11) + rm.locals ≤ R.locals) (hce : ce + rm.cells ≤ R.cells) (hsl : sl + rm.slots ≤ R.slots)
    (hL : Ls.size = ml) (hlen : ∀ sig, parseMethodDescriptor y'.desc = some sig → argsL.length = sig.parameters.length) (hs : stk = argsL.reverse ++ rest) (hW : (rest.map fun v => v.category).sum ≤ W) (hd : decode co pc = .ok (.invokestatic ix, 3))
    (H : ∀ T' h' v, own_S p l e R s m av below meth c Z y co ml rt n0 T' (ce + rm.cells) (sl + rm.slots) h' → Q' v h' → own_Fin p e below s n0 Q k n T' (mkF m (pc + 3) Ls (v.toList ++ rest))) : own_Fin p e below s n0 Q k n T (mkF m pc Ls stk) := by
  obtain ⟨C, locs, X, N, eh, hn⟩ := X
  obtain ⟨hx, hby, hml, hown, -, -, -, hZ⟩ := id C
  obtain ⟨v, _, ⟨T', L', k', n'⟩, -, X', ⟨Lc, ⟨hN, hQ⟩, l1, l2, l3⟩, st'⟩ := Jvm.LawKit.callS X hx (y := y') hown (mvT hZ w1) (mvT hZ w2) (mvT hZ w3) (mvT hZ w4) hy (backOf (Q := fun v h' L => Fr n0 L ∧ Q' v h') (W := W) M hZ w4 w3 hf hlo) (g := mkF m pc Ls stk) rfl (by rw [hml]; exact hL) (argsL := argsL) (rest := rest) hlen hs (by show 2 * 0 + _ ≤ _; omega) (hb hby hd) (fun _ _ => ⟨rfl, eh, hce, hsl⟩)
  dsimp only [Pt.U, Pt.locs, Pt.cells, Pt.slots] at X' l1 l2 l3 st' hQ
  subst l1 l2 l3
  exact own_go st' (H T' T'.heap v ⟨C, _, X', N.app hN, rfl, hn⟩ hQ)
/-- the forms of a contract's promise, and how a call goes on -/
def own_QI (P : Int32 → Heap → Prop) (v : Option Value) (h : Heap) : Prop := ∃ z, v = some (.int z) ∧ P z h
def own_QJ (P : Int64 → Heap → Prop) (v : Option Value) (h : Heap) : Prop := ∃ z, v = some (.long z) ∧ P z h
def own_QR (P : Value → Heap → Prop) (v : Option Value) (h : Heap) : Prop := ∃ z, v = some z ∧ P z h
def own_QV (P : Heap → Prop) (v : Option Value) (h : Heap) : Prop := v = none ∧ P h
theorem own_contI {P : Int32 → Prop} {h0 : Heap} (H : ∀ T' (z : Int32), own_S p l e R s m av below meth c Z y co ml rt n0 T' ce sl h0 → P z → own_Fin p e below s n0 Q k n T' (mkF m pc Ls (.int z :: st))) :
    ∀ T' h' v, own_S p l e R s m av below meth c Z y co ml rt n0 T' ce sl h' → own_QI (fun z h => P z ∧ h = h0) v h' → own_Fin p e below s n0 Q k n T' (mkF m pc Ls (v.toList ++ st)) := by
  rintro T' h' v X ⟨z, rfl, hz, rfl⟩; exact H T' z X hz
theorem own_contJ {P : Int64 → Prop} {h0 : Heap} (H : ∀ T' (z : Int64), own_S p l e R s m av below meth c Z y co ml rt n0 T' ce sl h0 → P z → own_Fin p e below s n0 Q k n T' (mkF m pc Ls (.long z :: st))) :
    ∀ T' h' v, own_S p l e R s m av below meth c Z y co ml rt n0 T' ce sl h' → own_QJ (fun z h => P z ∧ h = h0) v h' → own_Fin p e below s n0 Q k n T' (mkF m pc Ls (v.toList ++ st)) := by
  rintro T' h' v X ⟨z, rfl, hz, rfl⟩; exact H T' z X hz
theorem own_contR {P : Value → Prop} {h0 : Heap} (H : ∀ T' (z : Value), own_S p l e R s m av below meth c Z y co ml rt n0 T' ce sl h0 → P z → own_Fin p e below s n0 Q k n T' (mkF m pc Ls (z :: st))) :
    ∀ T' h' v, own_S p l e R s m av below meth c Z y co ml rt n0 T' ce sl h' → own_QR (fun z h => P z ∧ h = h0) v h' → own_Fin p e below s n0 Q k n T' (mkF m pc Ls (v.toList ++ st)) := by
  rintro T' h' v X ⟨z, rfl, hz, rfl⟩; exact H T' z X hz
theorem own_contIH {P : Int32 → Heap → Prop} (H : ∀ T' h' (z : Int32), own_S p l e R s m av below meth c Z y co ml rt n0 T' ce sl h' → P z h' → own_Fin p e below s n0 Q k n T' (mkF m pc Ls (.int z :: st))) :
    ∀ T' h' v, own_S p l e R s m av below meth c Z y co ml rt n0 T' ce sl h' → own_QI P v h' → own_Fin p e below s n0 Q k n T' (mkF m pc Ls (v.toList ++ st)) := by
  rintro T' h' v X ⟨z, rfl, hz⟩; exact H T' h' z X hz
theorem own_contRH {P : Value → Heap → Prop} (H : ∀ T' h' (z : Value), own_S p l e R s m av below meth c Z y co ml rt n0 T' ce sl h' → P z h' → own_Fin p e below s n0 Q k n T' (mkF m pc Ls (z :: st))) :
    ∀ T' h' v, own_S p l e R s m av below meth c Z y co ml rt n0 T' ce sl h' → own_QR P v h' → own_Fin p e below s n0 Q k n T' (mkF m pc Ls (v.toList ++ st)) := by
  rintro T' h' v X ⟨z, rfl, hz⟩; exact H T' h' z X hz
theorem own_contV {P : Prop} {h0 : Heap} (H : ∀ T', own_S p l e R s m av below meth c Z y co ml rt n0 T' ce sl h0 → P → own_Fin p e below s n0 Q k n T' (mkF m pc Ls st)) :
    ∀ T' h' v, own_S p l e R s m av below meth c Z y co ml rt n0 T' ce sl h' → own_QV (fun h => P ∧ h = h0) v h' → own_Fin p e below s n0 Q k n T' (mkF m pc Ls (v.toList ++ st)) := by
  rintro T' h' v X ⟨rfl, hz, rfl⟩; exact H T' X hz
theorem own_contVH {P : Heap → Prop} (H : ∀ T' h', own_S p l e R s m av below meth c Z y co ml rt n0 T' ce sl h' → P h' → own_Fin p e below s n0 Q k n T' (mkF m pc Ls st)) :
    ∀ T' h' v, own_S p l e R s m av below meth c Z y co ml rt n0 T' ce sl h' → own_QV P v h' → own_Fin p e below s n0 Q k n T' (mkF m pc Ls (v.toList ++ st)) := by
  rintro T' h' v X ⟨rfl, hz⟩; exact H T' h' X hz
/-- fields, new, Object.<init>, the other calls -/
theorem own_getF (X : own_S p l e R s m av below meth c Z y co ml rt n0 T ce sl h) {R0 O nm d host : String} {ix : Nat} {a : Addr} {v : Value} (w : (Jvm.Cond.fieldLink y.cls ix R0 nm d).before a0 Z = true ∨ (Jvm.Cond.fieldLinkNest y.cls ix R0 nm d host).before a0 Z = true) (via : Via Z R0 O nm d) (F : Fld Z h a O nm d v) (hd : decode co pc = .ok (.getfield ix, 3))
    (H : ∀ T', own_S p l e R s m av below meth c Z y co ml rt n0 T' ce sl h → own_Fin p e below s n0 Q k n T' (mkF m (pc + 3) Ls (v :: st))) : own_Fin p e below s n0 Q k n T (mkF m pc Ls (.ref a :: st)) := by
  obtain ⟨C, locs, X, N, eh, hn⟩ := X
  obtain ⟨hx, hby, hml, hown, -, -, -, hZ⟩ := id C
  obtain ⟨T', X', e', st'⟩ := getF X hx hZ hown w via eh F (g := mkF m pc Ls (.ref a :: st)) rfl rfl (hb hby hd)
  exact own_go st' (H T' ⟨C, _, X', N, e', hn⟩)
theorem own_putF (X : own_S p l e R s m av below meth c Z y co ml rt n0 T ce sl h) {R0 O nm d host K : String} {ix kk : Nat} {ty : FieldType} {a : Addr} {v old : Value} (w : (Jvm.Cond.fieldLink y.cls ix R0 nm d).before a0 Z = true ∨ (Jvm.Cond.fieldLinkNest y.cls ix R0 nm d host).before a0 Z = true) (via : Via Z R0 O nm d) (F : Fld Z h a O nm d old) (E : Exa Z h a K)
    (Lw : (Jvm.Cond.lays K O nm d).before a0 Z = true ∨ ((Jvm.Cond.laysFinal K O nm d).before a0 Z = true ∧ y.cls = O ∧ y.name = "<init>")) (wi : (Jvm.Cond.instantiable K kk).before a0 Z = true) (hty : parseFieldDescriptor d = some ty) (hnw : narrow ty v = v) (hft : fits ty v = true) (ge : n0 ≤ a) (hd : decode co pc = .ok (.putfield ix, 3))
    (H : ∀ T' h', own_S p l e R s m av below meth c Z y co ml rt n0 T' ce sl h' → Wr h h' a (Jvm.RoadKit.slotOf Z O nm d) v → own_Fin p e below s n0 Q k n T' (mkF m (pc + 3) Ls st)) : own_Fin p e below s n0 Q k n T (mkF m pc Ls (v :: .ref a :: st)) := by
  obtain ⟨C, locs, X, N, eh, hn⟩ := X
  obtain ⟨hx, hby, hml, hown, hnm, -, -, hZ⟩ := id C
  obtain ⟨T', h', X', e', W, st'⟩ := putF X hx hZ hown w via eh F E (Lw.imp id fun q => ⟨q.1, q.2.1, hnm.trans q.2.2⟩) wi hty hnw hft (g := mkF m pc Ls (v :: .ref a :: st)) rfl rfl (hb hby hd)
  exact own_go st' (H T' h' ⟨C, _, X', Fr.snoc X' N ge, e', hn⟩ W)
theorem own_putFZ (X : own_S p l e R s m av below meth c Z y co ml rt n0 T ce sl h) {R0 O nm d K : String} {ix kk : Nat} {ty : FieldType} {a : Addr} {v v' old : Value} (w : (Jvm.Cond.fieldLink y.cls ix R0 nm d).before a0 Z = true) (via : Via Z R0 O nm d) (F : Fld Z h a O nm d old) (E : Exa Z h a K)
    (Lw : (Jvm.Cond.lays K O nm d).before a0 Z = true ∨ ((Jvm.Cond.laysFinal K O nm d).before a0 Z = true ∧ y.cls = O ∧ y.name = "<init>")) (wi : (Jvm.Cond.instantiable K kk).before a0 Z = true) (hty : parseFieldDescriptor d = some ty) (hnw : narrow ty v = v') (hft : fits ty v' = true) (ge : n0 ≤ a) (hd : decode co pc = .ok (.putfield ix, 3))
    (H : ∀ T' h', own_S p l e R s m av below meth c Z y co ml rt n0 T' ce sl h' → Wr h h' a (Jvm.RoadKit.slotOf Z O nm d) v' → own_Fin p e below s n0 Q k n T' (mkF m (pc + 3) Ls st)) : own_Fin p e below s n0 Q k n T (mkF m pc Ls (v :: .ref a :: st)) := by
  obtain ⟨C, locs, X, N, eh, hn⟩ := X
  obtain ⟨hx, hby, hml, hown, hnm, -, -, hZ⟩ := id C
  obtain ⟨T', h', X', e', W, st'⟩ := putFN X hx hZ hown w via eh F E (Lw.imp id fun q => ⟨q.1, q.2.1, hnm.trans q.2.2⟩) wi hty hnw hft (g := mkF m pc Ls (v :: .ref a :: st)) rfl rfl (hb hby hd)
  exact own_go st' (H T' h' ⟨C, _, X', Fr.snoc X' N ge, e', hn⟩ W)
theorem own_newO (X : own_S p l e R s m av below meth c Z y co ml rt n0 T ce sl h) {K : String} {ix nn : Nat} (w : (Jvm.Cond.classLink y.cls ix K).before a0 Z = true) (wi : (Jvm.Cond.instantiable K nn).before a0 Z = true) (wz : (Jvm.Cond.initialized K).before a0 Z = true) (hd : decode co pc = .ok (.new ix, 3)) (hc : ce + 1 ≤ R.cells) (hs : sl + nn ≤ R.slots)
    (H : ∀ T' h' (b : Addr), b = h.size → n0 ≤ b → own_S p l e R s m av below meth c Z y co ml rt n0 T' (ce + 1) (sl + nn) h' → Ext h h' → Exa Z h' b K → (∀ {O nm d : String} {ty : FieldType}, Laid Z a0 K O nm d → parseFieldDescriptor d = some ty → Fld Z h' b O nm d (defaultValue ty)) → own_Fin p e below s n0 Q k n T' (mkF m (pc + 3) Ls (.ref b :: st))) : own_Fin p e below s n0 Q k n T (mkF m pc Ls st) := by
  have hz := own_size X
  obtain ⟨C, locs, X, N, eh, hn⟩ := X
  obtain ⟨hx, hby, hml, hown, hnm, -, -, hZ⟩ := id C
  obtain ⟨T', h', X', e', E, A, D, -, st'⟩ := newO X hx hZ hown w wi wz eh (g := mkF m pc Ls st) rfl (hb hby hd) hc hs
  exact own_go st' (H T' h' _ rfl hz ⟨C, _, X', N, e', hn⟩ E A D)
theorem own_initO (X : own_S p l e R s m av below meth c Z y co ml rt n0 T ce sl h) {ix W : Nat} {a : Addr} (w1 : (Jvm.Cond.methodLink y.cls ix Lib.objectInit).before a0 Z = true) (w2 : (Jvm.Cond.instanceMethod Lib.objectInit).before a0 Z = true) (w3 : (Jvm.Cond.code Lib.objectInit object_method_1_code 1 none).before a0 Z = true) (hL : Ls.size = ml) (hd : decode co pc = .ok (.invokespecial ix, 3)) (hf : 1 ≤ R.frames) (hW : (st.map fun v => v.category).sum ≤ W) (hl : W + 12 ≤ R.locals)
    (H : ∀ T', own_S p l e R s m av below meth c Z y co ml rt n0 T' ce sl h → own_Fin p e below s n0 Q k n T' (mkF m (pc + 3) Ls st)) : own_Fin p e below s n0 Q k n T (mkF m pc Ls (.ref a :: st)) := by
  obtain ⟨C, locs, X, N, eh, hn⟩ := X
  obtain ⟨hx, hby, hml, hown, -, -, -, hZ⟩ := id C
  obtain ⟨T', X', e', st'⟩ := initO X hx hZ hown w1 w2 w3 eh (g := mkF m pc Ls (.ref a :: st)) rfl (by rw [hml]; exact hL) rfl (hb hby hd) hf (W := W) (by show 2 * 0 + _ ≤ _; omega) hl
  exact own_go st' (H T' ⟨C, _, X', N, e', hn⟩)
/-- a constructor by its contract -/
theorem own_callI (X : own_S p l e R s m av below meth c Z y co ml rt n0 T ce sl h) {ix : Nat} {y' : MethodName} {co' : ByteArray} {ml' W : Nat} {rm : Room} {Q' : Option Value → Heap → Prop} {a : Addr} {argsL rest stk : List Value} (hi : y'.name = "<init>")
    (w1 : (Jvm.Cond.methodLink y.cls ix y').before a0 Z = true) (w2 : (Jvm.Cond.instanceMethod y').before a0 Z = true) (w3 : (Jvm.Cond.initialized y'.cls).before a0 Z = true) (w4 : (Jvm.Cond.code y' co' ml' none).before a0 Z = true) (hy : y'.cls ≠ "java/lang/invoke/MethodHandle" ∧ y'.cls ≠ "java/lang/invoke/VarHandle")
    (M : own_Met l Z y' co' ml' none [] rm (.ref a :: argsL).toArray h n0 Q') (hf : rm.frames + 1 ≤ R.frames) (hlo : W + (ml' + 11) + rm.locals ≤ R.locals) (hce : ce + rm.cells ≤ R.cells) (hsl : sl + rm.slots ≤ R.slots)
    (hL : Ls.size = ml) (hlen : ∀ sig, parseMethodDescriptor y'.desc = some sig → argsL.length = sig.parameters.length) (hs : stk = argsL.reverse ++ .ref a :: rest) (hW : (rest.map fun v => v.category).sum ≤ W) (hd : decode co pc = .ok (.invokespecial ix, 3))
    (H : ∀ T' h' v, own_S p l e R s m av below meth c Z y co ml rt n0 T' (ce + rm.cells) (sl + rm.slots) h' → Q' v h' → own_Fin p e below s n0 Q k n T' (mkF m (pc + 3) Ls (v.toList ++ rest))) : own_Fin p e below s n0 Q k n T (mkF m pc Ls stk) := by
  obtain ⟨C, locs, X, N, eh, hn⟩ := X
  obtain ⟨hx, hby, hml, hown, -, -, -, hZ⟩ := id C
  obtain ⟨v, _, ⟨T', L', k', n'⟩, -, X', ⟨Lc, ⟨hN, hQ⟩, l1, l2, l3⟩, st'⟩ := X.specialBack hx (y := y') hi hown (mvT hZ w1) (mvT hZ w2) (mvT hZ w4) hy (backOf (Q := fun v h' L => Fr n0 L ∧ Q' v h') (W := W) M hZ w4 w3 hf hlo) (g := mkF m pc Ls stk) rfl (by rw [hml]; exact hL) (Steps.refl _) (a := a) (argsL := argsL) (rest := rest) hlen hs (by show 2 * 0 + _ ≤ _; omega) (hb hby hd) (fun _ _ => ⟨rfl, eh, hce, hsl⟩)
  dsimp only [Pt.U, Pt.locs, Pt.cells, Pt.slots] at X' l1 l2 l3 st' hQ
  subst l1 l2 l3
  exact own_goT st' (H T' T'.heap v ⟨C, _, X', N.app hN, rfl, hn⟩ hQ)
/-- an instance method by its contract -/
theorem own_callV (X : own_S p l e R s m av below meth c Z y co ml rt n0 T ce sl h) {ix : Nat} {K : String} {y' : MethodName} {co' : ByteArray} {ml' W : Nat} {rt' : Option FieldType} {rm : Room} {Q' : Option Value → Heap → Prop} {a : Addr} {argsL rest stk : List Value}
    (w1 : (Jvm.Cond.methodLink y.cls ix y').before a0 Z = true) (w2 : (Jvm.Cond.declares y').before a0 Z = true) (w3 : (Jvm.Cond.selects K y' y').before a0 Z = true) (w5 : (Jvm.Cond.instanceMethod y').before a0 Z = true) (w6 : (Jvm.Cond.initialized y'.cls).before a0 Z = true) (w4 : (Jvm.Cond.code y' co' ml' rt').before a0 Z = true) (hK : K = y'.cls) (hy : y'.cls ≠ "java/lang/invoke/MethodHandle" ∧ y'.cls ≠ "java/lang/invoke/VarHandle")
    (M : own_Met l Z y' co' ml' rt' [] rm (.ref a :: argsL).toArray h n0 Q') (E : Exa Z h a K) (hf : rm.frames + 1 ≤ R.frames) (hlo : W + (ml' + 11) + rm.locals ≤ R.locals) (hce : ce + rm.cells ≤ R.cells) (hsl : sl + rm.slots ≤ R.slots)
    (hL : Ls.size = ml) (hlen : ∀ sig, parseMethodDescriptor y'.desc = some sig → argsL.length = sig.parameters.length) (hs : stk = argsL.reverse ++ .ref a :: rest) (hW : (rest.map fun v => v.category).sum ≤ W) (hd : decode co pc = .ok (.invokevirtual ix, 3))
    (H : ∀ T' h' v, own_S p l e R s m av below meth c Z y co ml rt n0 T' (ce + rm.cells) (sl + rm.slots) h' → Q' v h' → own_Fin p e below s n0 Q k n T' (mkF m (pc + 3) Ls (v.toList ++ rest))) : own_Fin p e below s n0 Q k n T (mkF m pc Ls stk) := by
  subst hK
  obtain ⟨C, locs, X, N, eh, hn⟩ := X
  obtain ⟨hx, hby, hml, hown, -, -, -, hZ⟩ := id C
  obtain ⟨cq, kq, qa, qb, qc⟩ := isOf (T := T) hZ eh E
  obtain ⟨v, _, ⟨T', L', k', n'⟩, -, X', ⟨Lc, ⟨hN, hQ⟩, l1, l2, l3⟩, st'⟩ := X.virtualBack hx (y := y') (z := y') hown (mvT hZ w1) (mvT hZ w2) (notFace_of_selects (args := #[]) (mvT hZ w3)) (mvT hZ w3) (mvT hZ w5) hy (backOf (Q := fun v h' L => Fr n0 L ∧ Q' v h') (W := W) M hZ w4 w6 hf hlo) qa qc (g := mkF m pc Ls stk) rfl (by rw [hml]; exact hL) (Steps.refl _) (argsL := argsL) (rest := rest) hlen hs (by show 2 * 0 + _ ≤ _; omega) (hb hby hd) (fun _ _ => ⟨rfl, eh, hce, hsl⟩)
  dsimp only [Pt.U, Pt.locs, Pt.cells, Pt.slots] at X' l1 l2 l3 st' hQ
  subst l1 l2 l3
  exact own_goT st' (H T' T'.heap v ⟨C, _, X', N.app hN, rfl, hn⟩ hQ)
/-- an array of ints (bytes, chars ..) of N places: place j holds f j -/
def own_AI (Z : State) (h : Heap) (a : Addr) (ty : FieldType) (N : Int32) (f : Int32 → Int32) : Prop := ∃ c : Cell, Arr Z h a c ty ∧ c.slots.size = N.toNatClampNeg ∧ ¬ N < 0 ∧ ∀ j : Int32, ¬ j < 0 → j < N → c.slots[j.toNatClampNeg]? = some (.int (f j)) ∧ fits ty (.int (f j)) = true
def own_AJ (Z : State) (h : Heap) (a : Addr) (N : Int32) (f : Int32 → Int64) : Prop := ∃ c : Cell, Arr Z h a c .long ∧ c.slots.size = N.toNatClampNeg ∧ ¬ N < 0 ∧ ∀ j : Int32, ¬ j < 0 → j < N → c.slots[j.toNatClampNeg]? = some (.long (f j))
def own_upd {α : Type} (f : Int32 → α) (j : Int32) (x : α) : Int32 → α := fun q => if q = j then x else f q
theorem own_upd_hit {α : Type} (f : Int32 → α) (j : Int32) (x : α) : own_upd f j x j = x := if_pos rfl
theorem own_upd_miss {α : Type} {f : Int32 → α} {j i : Int32} {x : α} (q : ¬ i = j) : own_upd f j x i = f i := if_neg q
theorem own_upd_yes {α : Type} {f : Int32 → α} {j i : Int32} {x : α} (q : i = j) : own_upd f j x i = x := if_pos q
theorem own_nat {i j : Int32} (hi : ¬ i < 0) (hj : ¬ j < 0) (ne : ¬ i = j) : i.toNatClampNeg ≠ j.toNatClampNeg := fun q => ne (Int32.toInt_inj.mp (by rw [nat_of hi, nat_of hj, q]))
theorem own_inb {cl : Cell} {j N : Int32} (S : cl.slots.size = N.toNatClampNeg) (h0 : ¬ j < 0) (h1 : j < N) : ¬ (j < 0 ∨ cl.slots.size ≤ j.toNatClampNeg) := inb_of S ⟨h0, h1⟩
section Facts
variable {h' : Heap} {a b : Addr} {ty : FieldType} {N : Int32} {f : Int32 → Int32} {g : Int32 → Int64} {i : Nat} {v : Value} {ws : List Addr}
theorem own_AI.lt (F : own_AI Z h a ty N f) : a < h.size := by obtain ⟨c, A, -⟩ := F; exact A.lt
theorem own_AI.ext (F : own_AI Z h a ty N f) (E : Ext h h') : own_AI Z h' a ty N f := by obtain ⟨c, A, r⟩ := F; exact ⟨c, A.ext E, r⟩
theorem own_AI.other (F : own_AI Z h b ty N f) (W : Wr h h' a i v) (q : b ≠ a) : own_AI Z h' b ty N f := by obtain ⟨c, A, r⟩ := F; exact ⟨c, A.other W q, r⟩
theorem own_AI.keep (F : own_AI Z h a ty N f) (K : Keep h h' ws) (q : a ∉ ws) : own_AI Z h' a ty N f := by obtain ⟨c, A, r⟩ := F; exact ⟨c, ⟨K.2.1 a c A.1 q, A.2⟩, r⟩
theorem own_AI.nn (F : own_AI Z h a ty N f) : ¬ N < 0 := by obtain ⟨c, -, -, r, -⟩ := F; exact r
theorem own_AI.fit (F : own_AI Z h a ty N f) {j : Int32} (h0 : ¬ j < 0) (h1 : j < N) : fits ty (.int (f j)) = true := by obtain ⟨c, -, -, -, r⟩ := F; exact (r j h0 h1).2
theorem own_AI.set (F : own_AI Z h a ty N f) {j x : Int32} (h0 : ¬ j < 0) (h1 : j < N) (W : Wr h h' a j.toNatClampNeg (.int x)) (hf : fits ty (.int x) = true) : own_AI Z h' a ty N (own_upd f j x) := by
  obtain ⟨c, A, S, hN, r⟩ := F
  refine ⟨_, A.same W, (sz_set _ _ _).trans S, hN, fun q q0 q1 => ?_⟩
  by_cases e : q = j
  · subst e; rw [own_upd_hit]; exact ⟨get_hit (own_inb S h0 h1) rfl, hf⟩
  · rw [own_upd_miss e, get_miss h0 q0 e]; exact r q q0 q1
theorem own_AI.eqv (F : own_AI Z h a ty N f) {f' : Int32 → Int32} (q : ∀ j : Int32, ¬ j < 0 → j < N → f j = f' j) : own_AI Z h a ty N f' := by
  obtain ⟨c, A, S, hN, r⟩ := F
  exact ⟨c, A, S, hN, fun j h0 h1 => by rw [← q j h0 h1]; exact r j h0 h1⟩
theorem own_AJ.lt (F : own_AJ Z h a N g) : a < h.size := by obtain ⟨c, A, -⟩ := F; exact A.lt
theorem own_AJ.ext (F : own_AJ Z h a N g) (E : Ext h h') : own_AJ Z h' a N g := by obtain ⟨c, A, r⟩ := F; exact ⟨c, A.ext E, r⟩
theorem own_AJ.other (F : own_AJ Z h b N g) (W : Wr h h' a i v) (q : b ≠ a) : own_AJ Z h' b N g := by obtain ⟨c, A, r⟩ := F; exact ⟨c, A.other W q, r⟩
theorem own_AJ.keep (F : own_AJ Z h a N g) (K : Keep h h' ws) (q : a ∉ ws) : own_AJ Z h' a N g := by obtain ⟨c, A, r⟩ := F; exact ⟨c, ⟨K.2.1 a c A.1 q, A.2⟩, r⟩
theorem own_AJ.set (F : own_AJ Z h a N g) {j : Int32} {x : Int64} (h0 : ¬ j < 0) (h1 : j < N) (W : Wr h h' a j.toNatClampNeg (.long x)) : own_AJ Z h' a N (own_upd g j x) := by
  obtain ⟨c, A, S, hN, r⟩ := F
  refine ⟨_, A.same W, (sz_set _ _ _).trans S, hN, fun q q0 q1 => ?_⟩
  by_cases e : q = j
  · subst e; rw [own_upd_hit]; exact get_hit (own_inb S h0 h1) rfl
  · rw [own_upd_miss e, get_miss h0 q0 e]; exact r q q0 q1
theorem own_ne_ai {K : String} {kk : Nat} (E : Exa Z h a K) (wi : (Jvm.Cond.instantiable K kk).before a0 Z = true) (F : own_AI Z h b ty N f) : a ≠ b := by obtain ⟨c, A, -⟩ := F; exact ne_arr E wi A
theorem own_ne_aj {K : String} {kk : Nat} (E : Exa Z h a K) (wi : (Jvm.Cond.instantiable K kk).before a0 Z = true) (F : own_AJ Z h b N g) : a ≠ b := by obtain ⟨c, A, -⟩ := F; exact ne_arr E wi A
end Facts
theorem own_byteR {z : Int32} (hf : fits .byte (.int z) = true) : -128 ≤ z.toInt ∧ z.toInt < 128 := by
  simp only [fits, Bool.and_eq_true, decide_eq_true_eq, Int32.le_iff_toInt_le, show (-128 : Int32).toInt = -128 from by decide, show (127 : Int32).toInt = 127 from by decide] at hf
  omega
theorem own_alen (X : own_S p l e R s m av below meth c Z y co ml rt n0 T ce sl h) {a : Addr} {ty : FieldType} {N : Int32} {f : Int32 → Int32} (A : own_AI Z h a ty N f) (hd : decode co pc = .ok (.arraylength, 1)) (H : own_Fin p e below s n0 Q k n T (mkF m (pc + 1) Ls (.int N :: st))) : own_Fin p e below s n0 Q k n T (mkF m pc Ls (.ref a :: st)) := by
  obtain ⟨⟨hx, hby, -, -, -, -, -, hZ⟩, locs, X, -, eh, -⟩ := X
  obtain ⟨cl, A, S, hN, -⟩ := A
  refine own_go (fun _ q => X.arraylength hx (by rw [eh]; exact A.1) (State.isArrayOf_alike hZ.alike A.2.1) (g := mkF m pc Ls (.ref a :: st)) rfl rfl (hb hby hd) _ ?_) H
  rw [len_of S hN]; exact q
theorem own_alenJ (X : own_S p l e R s m av below meth c Z y co ml rt n0 T ce sl h) {a : Addr} {N : Int32} {f : Int32 → Int64} (A : own_AJ Z h a N f) (hd : decode co pc = .ok (.arraylength, 1)) (H : own_Fin p e below s n0 Q k n T (mkF m (pc + 1) Ls (.int N :: st))) : own_Fin p e below s n0 Q k n T (mkF m pc Ls (.ref a :: st)) := by
  obtain ⟨⟨hx, hby, -, -, -, -, -, hZ⟩, locs, X, -, eh, -⟩ := X
  obtain ⟨cl, A, S, hN, -⟩ := A
  refine own_go (fun _ q => X.arraylength hx (by rw [eh]; exact A.1) (State.isArrayOf_alike hZ.alike A.2.1) (g := mkF m pc Ls (.ref a :: st)) rfl rfl (hb hby hd) _ ?_) H
  rw [len_of S hN]; exact q
theorem own_iaload (X : own_S p l e R s m av below meth c Z y co ml rt n0 T ce sl h) {a : Addr} {N j : Int32} {f : Int32 → Int32} (A : own_AI Z h a .int N f) (h0 : ¬ j < 0) (h1 : j < N) (hd : decode co pc = .ok (.iaload, 1)) (H : ∀ v, f j = v → -2147483648 ≤ v.toInt → v.toInt < 2147483648 → own_Fin p e below s n0 Q k n T (mkF m (pc + 1) Ls (.int v :: st))) : own_Fin p e below s n0 Q k n T (mkF m pc Ls (.int j :: .ref a :: st)) := by
  obtain ⟨⟨hx, hby, -, -, -, -, -, hZ⟩, locs, X, -, eh, -⟩ := X
  obtain ⟨cl, A, S, hN, r⟩ := A
  exact own_go (fun _ q => X.iaload hx (by rw [eh]; exact A.1) (State.isArrayOf_alike hZ.alike A.2.1) A.2.2 (own_inb S h0 h1) (r j h0 h1).1 (g := mkF m pc Ls (.int j :: .ref a :: st)) rfl rfl (hb hby hd) _ q) (H _ rfl (rng32 _).1 (rng32 _).2)
theorem own_baload (X : own_S p l e R s m av below meth c Z y co ml rt n0 T ce sl h) {a : Addr} {N j : Int32} {f : Int32 → Int32} (A : own_AI Z h a .byte N f) (h0 : ¬ j < 0) (h1 : j < N) (hd : decode co pc = .ok (.baload, 1)) (H : ∀ v, f j = v → -128 ≤ v.toInt → v.toInt < 128 → own_Fin p e below s n0 Q k n T (mkF m (pc + 1) Ls (.int v :: st))) : own_Fin p e below s n0 Q k n T (mkF m pc Ls (.int j :: .ref a :: st)) := by
  obtain ⟨⟨hx, hby, -, -, -, -, -, hZ⟩, locs, X, -, eh, -⟩ := X
  obtain ⟨cl, A, S, hN, r⟩ := A
  exact own_go (fun _ q => X.baloadBytes hx (by rw [eh]; exact A.1) (State.isArrayOf_alike hZ.alike A.2.1) A.2.2 (own_inb S h0 h1) (r j h0 h1).1 (g := mkF m pc Ls (.int j :: .ref a :: st)) rfl rfl (hb hby hd) _ q) (H _ rfl (own_byteR (r j h0 h1).2).1 (own_byteR (r j h0 h1).2).2)
theorem own_laload (X : own_S p l e R s m av below meth c Z y co ml rt n0 T ce sl h) {a : Addr} {N j : Int32} {f : Int32 → Int64} (A : own_AJ Z h a N f) (h0 : ¬ j < 0) (h1 : j < N) (hd : decode co pc = .ok (.laload, 1)) (H : ∀ v, f j = v → -9223372036854775808 ≤ v.toInt → v.toInt < 9223372036854775808 → own_Fin p e below s n0 Q k n T (mkF m (pc + 1) Ls (.long v :: st))) : own_Fin p e below s n0 Q k n T (mkF m pc Ls (.int j :: .ref a :: st)) := by
  obtain ⟨⟨hx, hby, -, -, -, -, -, hZ⟩, locs, X, -, eh, -⟩ := X
  obtain ⟨cl, A, S, hN, r⟩ := A
  exact own_go (fun _ q => X.laload hx (by rw [eh]; exact A.1) (State.isArrayOf_alike hZ.alike A.2.1) A.2.2 (own_inb S h0 h1) (r j h0 h1) (g := mkF m pc Ls (.int j :: .ref a :: st)) rfl rfl (hb hby hd) _ q) (H _ rfl (rng64 _).1 (rng64 _).2)
theorem own_bastore (X : own_S p l e R s m av below meth c Z y co ml rt n0 T ce sl h) {a : Addr} {N j x x' : Int32} {f : Int32 → Int32} (A : own_AI Z h a .byte N f) (h0 : ¬ j < 0) (h1 : j < N) (ge : n0 ≤ a) (hx' : x.toInt8.toInt32 = x') (hd : decode co pc = .ok (.bastore, 1))
    (H : ∀ T' h', own_S p l e R s m av below meth c Z y co ml rt n0 T' ce sl h' → ∀ f', f' = own_upd f j x' → own_AI Z h' a .byte N f' → Wr h h' a j.toNatClampNeg (.int x') → own_Fin p e below s n0 Q k n T' (mkF m (pc + 1) Ls st)) : own_Fin p e below s n0 Q k n T (mkF m pc Ls (.int x :: .int j :: .ref a :: st)) := by
  obtain ⟨C, locs, X, N', eh, hn⟩ := X
  obtain ⟨hx, hby, hml, hown, -, -, -, hZ⟩ := id C
  obtain ⟨cl, A', S, hN, r⟩ := id A
  obtain ⟨T', h', X', e', W, st'⟩ := stB X hx hZ eh A' (j := j) (own_inb S h0 h1) (g := mkF m pc Ls (.int x :: .int j :: .ref a :: st)) rfl rfl (hb hby hd)
  have W' : Wr h h' a j.toNatClampNeg (.int x') := by rw [← hx']; exact W
  exact own_go st' (H T' h' ⟨C, _, X', Fr.snoc X' N' ge, e', hn⟩ _ rfl (A.set h0 h1 W' (by rw [← hx']; exact fits_nar_byte x)) W')
theorem own_iastore (X : own_S p l e R s m av below meth c Z y co ml rt n0 T ce sl h) {a : Addr} {N j x : Int32} {f : Int32 → Int32} (A : own_AI Z h a .int N f) (h0 : ¬ j < 0) (h1 : j < N) (ge : n0 ≤ a) (hd : decode co pc = .ok (.iastore, 1))
    (H : ∀ T' h', own_S p l e R s m av below meth c Z y co ml rt n0 T' ce sl h' → ∀ f', f' = own_upd f j x → own_AI Z h' a .int N f' → Wr h h' a j.toNatClampNeg (.int x) → own_Fin p e below s n0 Q k n T' (mkF m (pc + 1) Ls st)) : own_Fin p e below s n0 Q k n T (mkF m pc Ls (.int x :: .int j :: .ref a :: st)) := by
  obtain ⟨C, locs, X, N', eh, hn⟩ := X
  obtain ⟨hx, hby, hml, hown, -, -, -, hZ⟩ := id C
  obtain ⟨cl, A', S, hN, r⟩ := id A
  obtain ⟨T', h', X', e', W, st'⟩ := stI X hx hZ eh A' (j := j) (own_inb S h0 h1) (g := mkF m pc Ls (.int x :: .int j :: .ref a :: st)) rfl rfl (hb hby hd)
  exact own_go st' (H T' h' ⟨C, _, X', Fr.snoc X' N' ge, e', hn⟩ _ rfl (A.set h0 h1 W rfl) W)
theorem own_lastore (X : own_S p l e R s m av below meth c Z y co ml rt n0 T ce sl h) {a : Addr} {N j : Int32} {x : Int64} {f : Int32 → Int64} (A : own_AJ Z h a N f) (h0 : ¬ j < 0) (h1 : j < N) (ge : n0 ≤ a) (hd : decode co pc = .ok (.lastore, 1))
    (H : ∀ T' h', own_S p l e R s m av below meth c Z y co ml rt n0 T' ce sl h' → ∀ f', f' = own_upd f j x → own_AJ Z h' a N f' → Wr h h' a j.toNatClampNeg (.long x) → own_Fin p e below s n0 Q k n T' (mkF m (pc + 1) Ls st)) : own_Fin p e below s n0 Q k n T (mkF m pc Ls (.long x :: .int j :: .ref a :: st)) := by
  obtain ⟨C, locs, X, N', eh, hn⟩ := X
  obtain ⟨hx, hby, hml, hown, -, -, -, hZ⟩ := id C
  obtain ⟨cl, A', S, hN, r⟩ := id A
  obtain ⟨T', h', X', e', W, st'⟩ := stJ X hx hZ eh A' (j := j) (own_inb S h0 h1) (g := mkF m pc Ls (.long x :: .int j :: .ref a :: st)) rfl rfl (hb hby hd)
  exact own_go st' (H T' h' ⟨C, _, X', Fr.snoc X' N' ge, e', hn⟩ _ rfl (A.set h0 h1 W) W)
theorem own_newP (X : own_S p l e R s m av below meth c Z y co ml rt n0 T ce sl h) {aty : ArrayType} {N : Int32} {cap : Nat} (w : (Jvm.Cond.arrayClass (newarray.typeOf aty)).before a0 Z = true) (hty : defaultValue (newarray.typeOf aty) = .int 0 ∧ fits (newarray.typeOf aty) (.int 0) = true) (hN : ¬ N < 0) (hcap : N.toNatClampNeg ≤ cap) (hb' : cap * 8 ≤ 536870912) (hc : ce + 1 ≤ R.cells) (hs : sl + cap ≤ R.slots) (hd : decode co pc = .ok (.newarray aty, 2))
    (H : ∀ T' h' (b : Addr), b = h.size → n0 ≤ b → own_S p l e R s m av below meth c Z y co ml rt n0 T' (ce + 1) (sl + cap) h' → Ext h h' → ∀ f' : Int32 → Int32, f' = (fun _ => 0) → own_AI Z h' b (newarray.typeOf aty) N f' → own_Fin p e below s n0 Q k n T' (mkF m (pc + 2) Ls (.ref b :: st))) : own_Fin p e below s n0 Q k n T (mkF m pc Ls (.int N :: st)) := by
  have hz := own_size X
  obtain ⟨C, locs, X, N', eh, hn⟩ := X
  obtain ⟨hx, hby, hml, hown, hnm, -, -, hZ⟩ := id C
  obtain ⟨T', h', cA, X', e', E, A, st'⟩ := newP X hx hZ w eh (g := mkF m pc Ls (.int N :: st)) rfl (hb hby hd) rfl hN hcap hb' hc hs
  refine own_go st' (H T' h' _ rfl hz ⟨C, _, X', N', e', hn⟩ E _ rfl ⟨_, A, sz_new _ _ _, hN, fun j h0 h1 => ⟨?_, hty.2⟩⟩)
  rw [get_new (fun q => own_inb (sz_new cA (newarray.typeOf aty) N) h0 h1 (q.imp id fun r => by rw [sz_new]; exact r)), hty.1]
theorem own_newJ (X : own_S p l e R s m av below meth c Z y co ml rt n0 T ce sl h) {N : Int32} {cap : Nat} (w : (Jvm.Cond.arrayClass .long).before a0 Z = true) (hN : ¬ N < 0) (hcap : N.toNatClampNeg ≤ cap) (hb' : cap * 8 ≤ 536870912) (hc : ce + 1 ≤ R.cells) (hs : sl + cap ≤ R.slots) (hd : decode co pc = .ok (.newarray .long, 2))
    (H : ∀ T' h' (b : Addr), b = h.size → n0 ≤ b → own_S p l e R s m av below meth c Z y co ml rt n0 T' (ce + 1) (sl + cap) h' → Ext h h' → ∀ f' : Int32 → Int64, f' = (fun _ => 0) → own_AJ Z h' b N f' → own_Fin p e below s n0 Q k n T' (mkF m (pc + 2) Ls (.ref b :: st))) : own_Fin p e below s n0 Q k n T (mkF m pc Ls (.int N :: st)) := by
  have hz := own_size X
  obtain ⟨C, locs, X, N', eh, hn⟩ := X
  obtain ⟨hx, hby, hml, hown, hnm, -, -, hZ⟩ := id C
  obtain ⟨T', h', cA, X', e', E, A, st'⟩ := newP (aty := .long) X hx hZ w eh (g := mkF m pc Ls (.int N :: st)) rfl (hb hby hd) rfl hN hcap hb' hc hs
  refine own_go st' (H T' h' _ rfl hz ⟨C, _, X', N', e', hn⟩ E _ rfl ⟨_, A, sz_new _ _ _, hN, fun j h0 h1 => ?_⟩)
  exact get_new (fun q => own_inb (sz_new cA .long N) h0 h1 (q.imp id fun r => by rw [sz_new]; exact r))
end Own
theorem ef_rm4 (m : MethodId) (o : Addr) : entryFrame m #[(.ref o)] 1 = mkF m 0 #[.val (.ref o)] [] := by first | (simp [entryFrame, mkF, argsToLocals, Value.category]; done) | rfl
theorem d4_0 : decode jdk_30_method_1_code 0 = .ok (.aload_n 0, 1) := by decide +kernel
theorem d4_1 : decode jdk_30_method_1_code 1 = .ok (.invokespecial 1, 3) := by decide +kernel
theorem d4_4 : decode jdk_30_method_1_code 4 = .ok (.return_, 1) := by decide +kernel
theorem pn_4 : plainFor (⟨"java/lang/Record", "<init>", "()V"⟩ : MethodName) = true := by first | exact plainFor_of_name (by first | (simp [plainName, overriddenIn]; done) | decide +kernel) | decide +kernel
set_option maxRecDepth 65536 in
set_option maxHeartbeats 40000000 in
theorem rm4 (l : Launch) (Z : State) (a0 : Array Value) (hw : ∀ d ∈ tables_1, d.before a0 Z = true) (ws : List Jvm.Cond) (o : Addr) (h0 : Heap) (n0 : Nat) (hn0 : n0 ≤ h0.size) :
    own_Met l Z (⟨"java/lang/Record", "<init>", "()V"⟩ : MethodName) jdk_30_method_1_code 1 none ws ({ frames := 1, cells := 0, slots := 0, locals := 12 } : Room) #[(.ref o)] h0 n0 (own_QV fun h => (True) ∧ h = h0) := by
  refine own_met pn_4 hn0 (fun p e s m below meth c T X => ?_)
  refine own_cast (ef_rm4 m o) ?_
  refine own_aloadN X d4_0 rfl rfl ?_
  refine own_initO X (W := 0) (hw _ (List.mem_of_getElem? (i := 26) rfl)) (hw _ (List.mem_of_getElem? (i := 8) rfl)) (hw _ (List.mem_of_getElem? (i := 9) rfl)) rfl d4_1 (by decide) (Nat.le_of_eq rfl) (by decide) (fun T X => ?_)
  refine own_retV X d4_4 (by decide) (by decide) ⟨rfl, ?_⟩
  exact ⟨trivial, rfl⟩
theorem ef_rm1 (m : MethodId) (o : Addr) : entryFrame m #[(.ref o)] 1 = mkF m 0 #[.val (.ref o)] [] := by first | (simp [entryFrame, mkF, argsToLocals, Value.category]; done) | rfl
theorem d1_0 : decode prog_53_method_1_code 0 = .ok (.aload_n 0, 1) := by decide +kernel
theorem d1_1 : decode prog_53_method_1_code 1 = .ok (.invokespecial 1, 3) := by decide +kernel
theorem d1_4 : decode prog_53_method_1_code 4 = .ok (.aload_n 0, 1) := by decide +kernel
theorem d1_5 : decode prog_53_method_1_code 5 = .ok (.sipush 2048, 3) := by decide +kernel
theorem d1_8 : decode prog_53_method_1_code 8 = .ok (.newarray .long, 2) := by decide +kernel
theorem d1_10 : decode prog_53_method_1_code 10 = .ok (.putfield 9, 3) := by decide +kernel
theorem d1_13 : decode prog_53_method_1_code 13 = .ok (.aload_n 0, 1) := by decide +kernel
theorem d1_14 : decode prog_53_method_1_code 14 = .ok (.sipush 2048, 3) := by decide +kernel
theorem d1_17 : decode prog_53_method_1_code 17 = .ok (.newarray .long, 2) := by decide +kernel
theorem d1_19 : decode prog_53_method_1_code 19 = .ok (.putfield 13, 3) := by decide +kernel
theorem d1_22 : decode prog_53_method_1_code 22 = .ok (.return_, 1) := by decide +kernel
theorem pn_1 : plainFor (⟨"com/example/vacancy/vacancy/state/LeaseSpans", "<init>", "()V"⟩ : MethodName) = true := plainFor_of_name (show plainName "com/example/vacancy/vacancy/state/LeaseSpans" = true from by first | (simp [plainName, overriddenIn]; done) | decide +kernel)
set_option maxRecDepth 65536 in
set_option maxHeartbeats 40000000 in
theorem rm1 (l : Launch) (Z : State) (a0 : Array Value) (hw : ∀ d ∈ tables_1, d.before a0 Z = true) (ws : List Jvm.Cond) (o : Addr) (h0 : Heap) (n0 : Nat) (hn0 : n0 ≤ h0.size) (E_o : Exa Z h0 o "com/example/vacancy/vacancy/state/LeaseSpans") (F_spans_o : Fld Z h0 o "com/example/vacancy/vacancy/state/LeaseSpans" "spans" "[J" .null) (F_bits_o : Fld Z h0 o "com/example/vacancy/vacancy/state/LeaseSpans" "bits" "[J" .null) (F_size_o : Fld Z h0 o "com/example/vacancy/vacancy/state/LeaseSpans" "size" "I" (.int 0)) (F_texts_o : Fld Z h0 o "com/example/vacancy/vacancy/state/LeaseSpans" "texts" "Ljava/util/Map;" .null) (ge_o : n0 ≤ o) :
    own_Met l Z (⟨"com/example/vacancy/vacancy/state/LeaseSpans", "<init>", "()V"⟩ : MethodName) prog_53_method_1_code 1 none ws ({ frames := 1, cells := 2, slots := 4096, locals := 12 } : Room) #[(.ref o)] h0 n0 (own_QV fun h => Keep h0 h [o] ∧ Exa Z h o "com/example/vacancy/vacancy/state/LeaseSpans" ∧ Fld Z h o "com/example/vacancy/vacancy/state/LeaseSpans" "size" "I" (.int 0) ∧ Fld Z h o "com/example/vacancy/vacancy/state/LeaseSpans" "texts" "Ljava/util/Map;" .null ∧ ∃ (a1 a2 : Addr) (f1 f2 : Int32 → Int64), a1 ≠ a2 ∧ n0 ≤ a1 ∧ n0 ≤ a2 ∧ Fld Z h o "com/example/vacancy/vacancy/state/LeaseSpans" "spans" "[J" (.ref a1) ∧ Fld Z h o "com/example/vacancy/vacancy/state/LeaseSpans" "bits" "[J" (.ref a2) ∧ own_AJ Z h a1 2048 f1 ∧ own_AJ Z h a2 2048 f2) := by
  refine own_met pn_1 hn0 (fun p e s m below meth c T X => ?_)
  refine own_cast (ef_rm1 m o) ?_
  have K := Keep.refl h0 [o]
  refine own_aloadN X d1_0 rfl rfl ?_
  refine own_initO X (W := 0) (hw _ (List.mem_of_getElem? (i := 7) rfl)) (hw _ (List.mem_of_getElem? (i := 8) rfl)) (hw _ (List.mem_of_getElem? (i := 9) rfl)) rfl d1_1 (by decide) (Nat.le_of_eq rfl) (by decide) (fun T X => ?_)
  refine own_aloadN X d1_4 rfl rfl ?_
  refine own_sipush X (2048) d1_5 rfl ?_
  refine own_newJ X (cap := 2048) (hw _ (List.mem_of_getElem? (i := 10) rfl)) (by decide) (by decide) (by decide) (by decide) (by decide) d1_8 (fun T h b1 hb_b1 ge_b1 X E f1 hf1 A_b1 => ?_)
  have ne_o_b1 : o ≠ b1 := Nat.ne_of_lt (Nat.lt_of_lt_of_eq E_o.lt hb_b1.symm)
  have sz_b1 : h0.size ≤ b1 := Nat.le_trans K.1 (Nat.le_of_eq hb_b1.symm)
  have K := K.ext E
  have E_o := E_o.ext E
  have F_spans_o := F_spans_o.ext E
  have F_bits_o := F_bits_o.ext E
  have F_size_o := F_size_o.ext E
  have F_texts_o := F_texts_o.ext E
  refine own_putF X (host := "") (Or.inl (hw _ (List.mem_of_getElem? (i := 11) rfl))) Via.refl F_spans_o E_o (Or.inl (hw _ (List.mem_of_getElem? (i := 12) rfl))) (hw _ (List.mem_of_getElem? (i := 2) rfl)) (ty := (.array .long)) (by decide) rfl rfl ge_o d1_10 (fun T h X W => ?_)
  have F_spans_o := F_spans_o.same W
  have K := K.wr W (Or.inl (List.mem_of_getElem? (i := 0) rfl))
  have E_o := E_o.wr W
  have F_bits_o := F_bits_o.other W (Or.inr (slot_ne (C := "com/example/vacancy/vacancy/state/LeaseSpans") (Or.inl (hw _ (List.mem_of_getElem? (i := 14) rfl))) (Or.inl (hw _ (List.mem_of_getElem? (i := 12) rfl))) (by decide) (t := (.array .long)) (t' := (.array .long)) (by decide) (by decide)))
  have F_size_o := F_size_o.other W (Or.inr (slot_ne (C := "com/example/vacancy/vacancy/state/LeaseSpans") (Or.inl (hw _ (List.mem_of_getElem? (i := 39) rfl))) (Or.inl (hw _ (List.mem_of_getElem? (i := 12) rfl))) (by decide) (t := .int) (t' := (.array .long)) (by decide) (by decide)))
  have F_texts_o := F_texts_o.other W (Or.inr (slot_ne (C := "com/example/vacancy/vacancy/state/LeaseSpans") (Or.inl (hw _ (List.mem_of_getElem? (i := 71) rfl))) (Or.inl (hw _ (List.mem_of_getElem? (i := 12) rfl))) (by decide) (t := (.object "java/util/Map")) (t' := (.array .long)) (by decide) (by decide)))
  have A_b1 := A_b1.other W (Ne.symm ne_o_b1)
  refine own_aloadN X d1_13 rfl rfl ?_
  refine own_sipush X (2048) d1_14 rfl ?_
  refine own_newJ X (cap := 2048) (hw _ (List.mem_of_getElem? (i := 10) rfl)) (by decide) (by decide) (by decide) (by decide) (by decide) d1_17 (fun T h b2 hb_b2 ge_b2 X E f2 hf2 A_b2 => ?_)
  have ne_o_b2 : o ≠ b2 := Nat.ne_of_lt (Nat.lt_of_lt_of_eq E_o.lt hb_b2.symm)
  have ne_b1_b2 : b1 ≠ b2 := Nat.ne_of_lt (Nat.lt_of_lt_of_eq A_b1.lt hb_b2.symm)
  have sz_b2 : h0.size ≤ b2 := Nat.le_trans K.1 (Nat.le_of_eq hb_b2.symm)
  have K := K.ext E
  have E_o := E_o.ext E
  have F_spans_o := F_spans_o.ext E
  have F_bits_o := F_bits_o.ext E
  have F_size_o := F_size_o.ext E
  have F_texts_o := F_texts_o.ext E
  have A_b1 := A_b1.ext E
  refine own_putF X (host := "") (Or.inl (hw _ (List.mem_of_getElem? (i := 13) rfl))) Via.refl F_bits_o E_o (Or.inl (hw _ (List.mem_of_getElem? (i := 14) rfl))) (hw _ (List.mem_of_getElem? (i := 2) rfl)) (ty := (.array .long)) (by decide) rfl rfl ge_o d1_19 (fun T h X W => ?_)
  have F_bits_o := F_bits_o.same W
  have K := K.wr W (Or.inl (List.mem_of_getElem? (i := 0) rfl))
  have E_o := E_o.wr W
  have F_spans_o := F_spans_o.other W (Or.inr (slot_ne (C := "com/example/vacancy/vacancy/state/LeaseSpans") (Or.inl (hw _ (List.mem_of_getElem? (i := 12) rfl))) (Or.inl (hw _ (List.mem_of_getElem? (i := 14) rfl))) (by decide) (t := (.array .long)) (t' := (.array .long)) (by decide) (by decide)))
  have F_size_o := F_size_o.other W (Or.inr (slot_ne (C := "com/example/vacancy/vacancy/state/LeaseSpans") (Or.inl (hw _ (List.mem_of_getElem? (i := 39) rfl))) (Or.inl (hw _ (List.mem_of_getElem? (i := 14) rfl))) (by decide) (t := .int) (t' := (.array .long)) (by decide) (by decide)))
  have F_texts_o := F_texts_o.other W (Or.inr (slot_ne (C := "com/example/vacancy/vacancy/state/LeaseSpans") (Or.inl (hw _ (List.mem_of_getElem? (i := 71) rfl))) (Or.inl (hw _ (List.mem_of_getElem? (i := 14) rfl))) (by decide) (t := (.object "java/util/Map")) (t' := (.array .long)) (by decide) (by decide)))
  have A_b1 := A_b1.other W (Ne.symm ne_o_b1)
  have A_b2 := A_b2.other W (Ne.symm ne_o_b2)
  refine own_retV X d1_22 (by decide) (by decide) ⟨rfl, ?_⟩
  exact ⟨K, E_o, F_size_o, F_texts_o, b1, b2, _, _, ne_b1_b2, ge_b1, ge_b2, F_spans_o, F_bits_o, A_b1, A_b2⟩
theorem ef_rm3 (m : MethodId) (o : Addr) (q1 : Int64) (q2 : Int64) : entryFrame m #[(.ref o), .null, (.long q1), (.long q2)] 6 = mkF m 0 #[.val (.ref o), .val .null, .val (.long q1), .second, .val (.long q2), .second] [] := by first | (simp [entryFrame, mkF, argsToLocals, Value.category]; done) | rfl
theorem d3_0 : decode prog_41_method_1_code 0 = .ok (.aload_n 0, 1) := by decide +kernel
theorem d3_1 : decode prog_41_method_1_code 1 = .ok (.invokespecial 1, 3) := by decide +kernel
theorem pd_3 : parseMethodDescriptor "()V" = some ⟨[], none⟩ := by decide +kernel
theorem d3_4 : decode prog_41_method_1_code 4 = .ok (.aload_n 0, 1) := by decide +kernel
theorem d3_5 : decode prog_41_method_1_code 5 = .ok (.aload_n 1, 1) := by decide +kernel
theorem d3_6 : decode prog_41_method_1_code 6 = .ok (.putfield 7, 3) := by decide +kernel
theorem d3_9 : decode prog_41_method_1_code 9 = .ok (.aload_n 0, 1) := by decide +kernel
theorem d3_10 : decode prog_41_method_1_code 10 = .ok (.lload_n 2, 1) := by decide +kernel
theorem d3_11 : decode prog_41_method_1_code 11 = .ok (.putfield 13, 3) := by decide +kernel
theorem d3_14 : decode prog_41_method_1_code 14 = .ok (.aload_n 0, 1) := by decide +kernel
theorem d3_15 : decode prog_41_method_1_code 15 = .ok (.lload 4, 2) := by decide +kernel
theorem d3_17 : decode prog_41_method_1_code 17 = .ok (.putfield 17, 3) := by decide +kernel
theorem d3_20 : decode prog_41_method_1_code 20 = .ok (.return_, 1) := by decide +kernel
theorem pn_3 : plainFor (⟨"com/example/vacancy/vacancy/slots/LeaseKey", "<init>", "(Ljava/lang/String;JJ)V"⟩ : MethodName) = true := plainFor_of_name (show plainName "com/example/vacancy/vacancy/slots/LeaseKey" = true from by first | (simp [plainName, overriddenIn]; done) | decide +kernel)
set_option maxRecDepth 65536 in
set_option maxHeartbeats 40000000 in
theorem rm3 (l : Launch) (Z : State) (a0 : Array Value) (hw : ∀ d ∈ tables_1, d.before a0 Z = true) (ws : List Jvm.Cond) (o : Addr) (q1 : Int64) (q2 : Int64) (h0 : Heap) (n0 : Nat) (hn0 : n0 ≤ h0.size) (E_o : Exa Z h0 o "com/example/vacancy/vacancy/slots/LeaseKey") (F_text_o : Fld Z h0 o "com/example/vacancy/vacancy/slots/LeaseKey" "text" "Ljava/lang/String;" .null) (F_high_o : Fld Z h0 o "com/example/vacancy/vacancy/slots/LeaseKey" "high" "J" (.long 0)) (F_low_o : Fld Z h0 o "com/example/vacancy/vacancy/slots/LeaseKey" "low" "J" (.long 0)) (ge_o : n0 ≤ o) :
    own_Met l Z (⟨"com/example/vacancy/vacancy/slots/LeaseKey", "<init>", "(Ljava/lang/String;JJ)V"⟩ : MethodName) prog_41_method_1_code 6 none ws ({ frames := 2, cells := 0, slots := 0, locals := 24 } : Room) #[(.ref o), .null, (.long q1), (.long q2)] h0 n0 (own_QV fun h => Keep h0 h [o] ∧ Exa Z h o "com/example/vacancy/vacancy/slots/LeaseKey" ∧ Fld Z h o "com/example/vacancy/vacancy/slots/LeaseKey" "text" "Ljava/lang/String;" .null ∧ Fld Z h o "com/example/vacancy/vacancy/slots/LeaseKey" "high" "J" (.long q1) ∧ Fld Z h o "com/example/vacancy/vacancy/slots/LeaseKey" "low" "J" (.long q2)) := by
  refine own_met pn_3 hn0 (fun p e s m below meth c T X => ?_)
  refine own_cast (ef_rm3 m o q1 q2) ?_
  have r_q1 := rng64 q1
  have r_q2 := rng64 q2
  have K := Keep.refl h0 [o]
  refine own_aloadN X d3_0 rfl rfl ?_
  refine own_callI X (W := 0) (a := o) (argsL := []) (rest := []) rfl (hw _ (List.mem_of_getElem? (i := 21) rfl)) (hw _ (List.mem_of_getElem? (i := 22) rfl)) (hw _ (List.mem_of_getElem? (i := 24) rfl)) (hw _ (List.mem_of_getElem? (i := 25) rfl)) (by decide) (rm4 l Z a0 hw [] o h0 n0 (own_size X)) (by decide) (by decide) (by decide) (by decide) rfl (lenOf pd_3 rfl) rfl (Nat.le_of_eq rfl) d3_1 (own_contV fun T X hq1 => ?_)
  refine own_aloadN X d3_4 rfl rfl ?_
  refine own_aloadN X d3_5 rfl rfl ?_
  refine own_putF X (host := "") (Or.inl (hw _ (List.mem_of_getElem? (i := 27) rfl))) Via.refl F_text_o E_o (Or.inr ⟨(hw _ (List.mem_of_getElem? (i := 28) rfl)), rfl, rfl⟩) (hw _ (List.mem_of_getElem? (i := 16) rfl)) (ty := (.object "java/lang/String")) (by decide) rfl rfl ge_o d3_6 (fun T h X W => ?_)
  have F_text_o := F_text_o.same W
  have K := K.wr W (Or.inl (List.mem_of_getElem? (i := 0) rfl))
  have E_o := E_o.wr W
  have F_high_o := F_high_o.other W (Or.inr (slot_ne (C := "com/example/vacancy/vacancy/slots/LeaseKey") (Or.inr (hw _ (List.mem_of_getElem? (i := 30) rfl))) (Or.inr (hw _ (List.mem_of_getElem? (i := 28) rfl))) (by decide) (t := .long) (t' := (.object "java/lang/String")) (by decide) (by decide)))
  have F_low_o := F_low_o.other W (Or.inr (slot_ne (C := "com/example/vacancy/vacancy/slots/LeaseKey") (Or.inr (hw _ (List.mem_of_getElem? (i := 32) rfl))) (Or.inr (hw _ (List.mem_of_getElem? (i := 28) rfl))) (by decide) (t := .long) (t' := (.object "java/lang/String")) (by decide) (by decide)))
  refine own_aloadN X d3_9 rfl rfl ?_
  refine own_lloadN X d3_10 rfl ?_
  refine own_putF X (host := "") (Or.inl (hw _ (List.mem_of_getElem? (i := 29) rfl))) Via.refl F_high_o E_o (Or.inr ⟨(hw _ (List.mem_of_getElem? (i := 30) rfl)), rfl, rfl⟩) (hw _ (List.mem_of_getElem? (i := 16) rfl)) (ty := .long) (by decide) rfl rfl ge_o d3_11 (fun T h X W => ?_)
  have F_high_o := F_high_o.same W
  have K := K.wr W (Or.inl (List.mem_of_getElem? (i := 0) rfl))
  have E_o := E_o.wr W
  have F_text_o := F_text_o.other W (Or.inr (slot_ne (C := "com/example/vacancy/vacancy/slots/LeaseKey") (Or.inr (hw _ (List.mem_of_getElem? (i := 28) rfl))) (Or.inr (hw _ (List.mem_of_getElem? (i := 30) rfl))) (by decide) (t := (.object "java/lang/String")) (t' := .long) (by decide) (by decide)))
  have F_low_o := F_low_o.other W (Or.inr (slot_ne (C := "com/example/vacancy/vacancy/slots/LeaseKey") (Or.inr (hw _ (List.mem_of_getElem? (i := 32) rfl))) (Or.inr (hw _ (List.mem_of_getElem? (i := 30) rfl))) (by decide) (t := .long) (t' := .long) (by decide) (by decide)))
  refine own_aloadN X d3_14 rfl rfl ?_
  refine own_lload X d3_15 rfl ?_
  refine own_putF X (host := "") (Or.inl (hw _ (List.mem_of_getElem? (i := 31) rfl))) Via.refl F_low_o E_o (Or.inr ⟨(hw _ (List.mem_of_getElem? (i := 32) rfl)), rfl, rfl⟩) (hw _ (List.mem_of_getElem? (i := 16) rfl)) (ty := .long) (by decide) rfl rfl ge_o d3_17 (fun T h X W => ?_)
  have F_low_o := F_low_o.same W
  have K := K.wr W (Or.inl (List.mem_of_getElem? (i := 0) rfl))
  have E_o := E_o.wr W
  have F_text_o := F_text_o.other W (Or.inr (slot_ne (C := "com/example/vacancy/vacancy/slots/LeaseKey") (Or.inr (hw _ (List.mem_of_getElem? (i := 28) rfl))) (Or.inr (hw _ (List.mem_of_getElem? (i := 32) rfl))) (by decide) (t := (.object "java/lang/String")) (t' := .long) (by decide) (by decide)))
  have F_high_o := F_high_o.other W (Or.inr (slot_ne (C := "com/example/vacancy/vacancy/slots/LeaseKey") (Or.inr (hw _ (List.mem_of_getElem? (i := 30) rfl))) (Or.inr (hw _ (List.mem_of_getElem? (i := 32) rfl))) (by decide) (t := .long) (t' := .long) (by decide) (by decide)))
  refine own_retV X d3_20 (by decide) (by decide) ⟨rfl, ?_⟩
  exact ⟨K, E_o, F_text_o, F_high_o, F_low_o⟩
theorem ef_rm6 (m : MethodId) (o : Addr) : entryFrame m #[(.ref o)] 1 = mkF m 0 #[.val (.ref o)] [] := by first | (simp [entryFrame, mkF, argsToLocals, Value.category]; done) | rfl
theorem d6_0 : decode prog_41_method_13_code 0 = .ok (.aload_n 0, 1) := by decide +kernel
theorem d6_1 : decode prog_41_method_13_code 1 = .ok (.getfield 13, 3) := by decide +kernel
theorem d6_4 : decode prog_41_method_13_code 4 = .ok (.lreturn, 1) := by decide +kernel
theorem pn_6 : plainFor (⟨"com/example/vacancy/vacancy/slots/LeaseKey", "high", "()J"⟩ : MethodName) = true := plainFor_of_name (show plainName "com/example/vacancy/vacancy/slots/LeaseKey" = true from by first | (simp [plainName, overriddenIn]; done) | decide +kernel)
set_option maxRecDepth 65536 in
set_option maxHeartbeats 40000000 in
theorem rm6 (l : Launch) (Z : State) (a0 : Array Value) (hw : ∀ d ∈ tables_1, d.before a0 Z = true) (ws : List Jvm.Cond) (o : Addr) (u : Int64) (h0 : Heap) (n0 : Nat) (hn0 : n0 ≤ h0.size) (F_high_o : Fld Z h0 o "com/example/vacancy/vacancy/slots/LeaseKey" "high" "J" (.long u)) :
    own_Met l Z (⟨"com/example/vacancy/vacancy/slots/LeaseKey", "high", "()J"⟩ : MethodName) prog_41_method_13_code 1 (some .long) ws ({ frames := 0, cells := 0, slots := 0, locals := 0 } : Room) #[(.ref o)] h0 n0 (own_QJ fun z h => (z = u) ∧ h = h0) := by
  refine own_met pn_6 hn0 (fun p e s m below meth c T X => ?_)
  refine own_cast (ef_rm6 m o) ?_
  have r_u := rng64 u
  refine own_aloadN X d6_0 rfl rfl ?_
  refine own_getF X (host := "") (Or.inl (hw _ (List.mem_of_getElem? (i := 29) rfl))) Via.refl F_high_o d6_1 (fun T X => ?_)
  refine own_retJ X d6_4 (by decide) (by decide) ⟨_, rfl, ?_⟩
  exact ⟨rfl, rfl⟩
theorem ef_rm7 (m : MethodId) (o : Addr) : entryFrame m #[(.ref o)] 1 = mkF m 0 #[.val (.ref o)] [] := by first | (simp [entryFrame, mkF, argsToLocals, Value.category]; done) | rfl
theorem d7_0 : decode prog_41_method_14_code 0 = .ok (.aload_n 0, 1) := by decide +kernel
theorem d7_1 : decode prog_41_method_14_code 1 = .ok (.getfield 17, 3) := by decide +kernel
theorem d7_4 : decode prog_41_method_14_code 4 = .ok (.lreturn, 1) := by decide +kernel
theorem pn_7 : plainFor (⟨"com/example/vacancy/vacancy/slots/LeaseKey", "low", "()J"⟩ : MethodName) = true := plainFor_of_name (show plainName "com/example/vacancy/vacancy/slots/LeaseKey" = true from by first | (simp [plainName, overriddenIn]; done) | decide +kernel)
set_option maxRecDepth 65536 in
set_option maxHeartbeats 40000000 in
theorem rm7 (l : Launch) (Z : State) (a0 : Array Value) (hw : ∀ d ∈ tables_1, d.before a0 Z = true) (ws : List Jvm.Cond) (o : Addr) (u : Int64) (h0 : Heap) (n0 : Nat) (hn0 : n0 ≤ h0.size) (F_low_o : Fld Z h0 o "com/example/vacancy/vacancy/slots/LeaseKey" "low" "J" (.long u)) :
    own_Met l Z (⟨"com/example/vacancy/vacancy/slots/LeaseKey", "low", "()J"⟩ : MethodName) prog_41_method_14_code 1 (some .long) ws ({ frames := 0, cells := 0, slots := 0, locals := 0 } : Room) #[(.ref o)] h0 n0 (own_QJ fun z h => (z = u) ∧ h = h0) := by
  refine own_met pn_7 hn0 (fun p e s m below meth c T X => ?_)
  refine own_cast (ef_rm7 m o) ?_
  have r_u := rng64 u
  refine own_aloadN X d7_0 rfl rfl ?_
  refine own_getF X (host := "") (Or.inl (hw _ (List.mem_of_getElem? (i := 31) rfl))) Via.refl F_low_o d7_1 (fun T X => ?_)
  refine own_retJ X d7_4 (by decide) (by decide) ⟨_, rfl, ?_⟩
  exact ⟨rfl, rfl⟩
theorem ef_rm8 (m : MethodId) (o : Addr) : entryFrame m #[(.ref o)] 1 = mkF m 0 #[.val (.ref o)] [] := by first | (simp [entryFrame, mkF, argsToLocals, Value.category]; done) | rfl
theorem d8_0 : decode prog_41_method_12_code 0 = .ok (.aload_n 0, 1) := by decide +kernel
theorem d8_1 : decode prog_41_method_12_code 1 = .ok (.getfield 7, 3) := by decide +kernel
theorem d8_4 : decode prog_41_method_12_code 4 = .ok (.areturn, 1) := by decide +kernel
theorem pn_8 : plainFor (⟨"com/example/vacancy/vacancy/slots/LeaseKey", "text", "()Ljava/lang/String;"⟩ : MethodName) = true := plainFor_of_name (show plainName "com/example/vacancy/vacancy/slots/LeaseKey" = true from by first | (simp [plainName, overriddenIn]; done) | decide +kernel)
set_option maxRecDepth 65536 in
set_option maxHeartbeats 40000000 in
theorem rm8 (l : Launch) (Z : State) (a0 : Array Value) (hw : ∀ d ∈ tables_1, d.before a0 Z = true) (ws : List Jvm.Cond) (o : Addr) (h0 : Heap) (n0 : Nat) (hn0 : n0 ≤ h0.size) (F_text_o : Fld Z h0 o "com/example/vacancy/vacancy/slots/LeaseKey" "text" "Ljava/lang/String;" .null) :
    own_Met l Z (⟨"com/example/vacancy/vacancy/slots/LeaseKey", "text", "()Ljava/lang/String;"⟩ : MethodName) prog_41_method_12_code 1 (some (.object "java/lang/String")) ws ({ frames := 0, cells := 0, slots := 0, locals := 0 } : Room) #[(.ref o)] h0 n0 (own_QR fun z h => (z = .null) ∧ h = h0) := by
  refine own_met pn_8 hn0 (fun p e s m below meth c T X => ?_)
  refine own_cast (ef_rm8 m o) ?_
  refine own_aloadN X d8_0 rfl rfl ?_
  refine own_getF X (host := "") (Or.inl (hw _ (List.mem_of_getElem? (i := 27) rfl))) Via.refl F_text_o d8_1 (fun T X => ?_)
  refine own_retR X rfl rfl d8_4 (by decide) (by decide) ⟨_, rfl, ?_⟩
  exact ⟨rfl, rfl⟩
theorem ef_rm10 (m : MethodId) (o : Addr) : entryFrame m #[(.ref o)] 1 = mkF m 0 #[.val (.ref o)] [] := by first | (simp [entryFrame, mkF, argsToLocals, Value.category]; done) | rfl
theorem d10_0 : decode prog_53_method_6_code 0 = .ok (.aload_n 0, 1) := by decide +kernel
theorem d10_1 : decode prog_53_method_6_code 1 = .ok (.getfield 16, 3) := by decide +kernel
theorem d10_4 : decode prog_53_method_6_code 4 = .ok (.ireturn, 1) := by decide +kernel
theorem pn_10 : plainFor (⟨"com/example/vacancy/vacancy/state/LeaseSpans", "size", "()I"⟩ : MethodName) = true := plainFor_of_name (show plainName "com/example/vacancy/vacancy/state/LeaseSpans" = true from by first | (simp [plainName, overriddenIn]; done) | decide +kernel)
set_option maxRecDepth 65536 in
set_option maxHeartbeats 40000000 in
theorem rm10 (l : Launch) (Z : State) (a0 : Array Value) (hw : ∀ d ∈ tables_1, d.before a0 Z = true) (ws : List Jvm.Cond) (o : Addr) (u : Int32) (h0 : Heap) (n0 : Nat) (hn0 : n0 ≤ h0.size) (F_size_o : Fld Z h0 o "com/example/vacancy/vacancy/state/LeaseSpans" "size" "I" (.int u)) :
    own_Met l Z (⟨"com/example/vacancy/vacancy/state/LeaseSpans", "size", "()I"⟩ : MethodName) prog_53_method_6_code 1 (some .int) ws ({ frames := 0, cells := 0, slots := 0, locals := 0 } : Room) #[(.ref o)] h0 n0 (own_QI fun z h => (z = u) ∧ h = h0) := by
  refine own_met pn_10 hn0 (fun p e s m below meth c T X => ?_)
  refine own_cast (ef_rm10 m o) ?_
  have r_u := rng32 u
  refine own_aloadN X d10_0 rfl rfl ?_
  refine own_getF X (host := "") (Or.inl (hw _ (List.mem_of_getElem? (i := 38) rfl))) Via.refl F_size_o d10_1 (fun T X => ?_)
  refine own_retI X d10_4 (by decide) (by decide) ⟨_, rfl, ?_⟩
  exact ⟨rfl, rfl⟩
theorem ef_rmA_0 (m : MethodId) (o : Addr) (q1 : Int64) (q2 : Int64) (ky : Addr) : entryFrame m #[(.ref o), (.long q1), (.long q2), (.ref ky)] 6 = mkF m 0 #[.val (.ref o), .val (.long q1), .second, .val (.long q2), .second, .val (.ref ky)] [] := by first | (simp [entryFrame, mkF, argsToLocals, Value.category]; done) | rfl
theorem d5_0 : decode prog_53_method_2_code 0 = .ok (.iconst 2, 1) := by decide +kernel
theorem d5_1 : decode prog_53_method_2_code 1 = .ok (.aload_n 0, 1) := by decide +kernel
theorem d5_2 : decode prog_53_method_2_code 2 = .ok (.getfield 16, 3) := by decide +kernel
theorem d5_5 : decode prog_53_method_2_code 5 = .ok (.imul, 1) := by decide +kernel
theorem d5_6 : decode prog_53_method_2_code 6 = .ok (.aload_n 0, 1) := by decide +kernel
theorem d5_7 : decode prog_53_method_2_code 7 = .ok (.getfield 9, 3) := by decide +kernel
theorem d5_10 : decode prog_53_method_2_code 10 = .ok (.arraylength, 1) := by decide +kernel
theorem d5_11 : decode prog_53_method_2_code 11 = .ok (.if_icmp .ne 39, 3) := by decide +kernel
theorem d5_50 : decode prog_53_method_2_code 50 = .ok (.aload_n 0, 1) := by decide +kernel
theorem d5_51 : decode prog_53_method_2_code 51 = .ok (.getfield 9, 3) := by decide +kernel
theorem d5_54 : decode prog_53_method_2_code 54 = .ok (.iconst 2, 1) := by decide +kernel
theorem d5_55 : decode prog_53_method_2_code 55 = .ok (.aload_n 0, 1) := by decide +kernel
theorem d5_56 : decode prog_53_method_2_code 56 = .ok (.getfield 16, 3) := by decide +kernel
theorem d5_59 : decode prog_53_method_2_code 59 = .ok (.imul, 1) := by decide +kernel
theorem d5_60 : decode prog_53_method_2_code 60 = .ok (.lload_n 1, 1) := by decide +kernel
theorem d5_61 : decode prog_53_method_2_code 61 = .ok (.lastore, 1) := by decide +kernel
theorem d5_62 : decode prog_53_method_2_code 62 = .ok (.aload_n 0, 1) := by decide +kernel
theorem d5_63 : decode prog_53_method_2_code 63 = .ok (.getfield 9, 3) := by decide +kernel
theorem d5_66 : decode prog_53_method_2_code 66 = .ok (.iconst 2, 1) := by decide +kernel
theorem d5_67 : decode prog_53_method_2_code 67 = .ok (.aload_n 0, 1) := by decide +kernel
theorem d5_68 : decode prog_53_method_2_code 68 = .ok (.getfield 16, 3) := by decide +kernel
theorem d5_71 : decode prog_53_method_2_code 71 = .ok (.imul, 1) := by decide +kernel
theorem d5_72 : decode prog_53_method_2_code 72 = .ok (.iconst 1, 1) := by decide +kernel
theorem d5_73 : decode prog_53_method_2_code 73 = .ok (.iadd, 1) := by decide +kernel
theorem d5_74 : decode prog_53_method_2_code 74 = .ok (.lload_n 3, 1) := by decide +kernel
theorem d5_75 : decode prog_53_method_2_code 75 = .ok (.lastore, 1) := by decide +kernel
theorem d5_76 : decode prog_53_method_2_code 76 = .ok (.aload_n 0, 1) := by decide +kernel
theorem d5_77 : decode prog_53_method_2_code 77 = .ok (.getfield 13, 3) := by decide +kernel
theorem d5_80 : decode prog_53_method_2_code 80 = .ok (.iconst 2, 1) := by decide +kernel
theorem d5_81 : decode prog_53_method_2_code 81 = .ok (.aload_n 0, 1) := by decide +kernel
theorem d5_82 : decode prog_53_method_2_code 82 = .ok (.getfield 16, 3) := by decide +kernel
theorem d5_85 : decode prog_53_method_2_code 85 = .ok (.imul, 1) := by decide +kernel
theorem d5_86 : decode prog_53_method_2_code 86 = .ok (.aload 5, 2) := by decide +kernel
theorem d5_88 : decode prog_53_method_2_code 88 = .ok (.invokevirtual 26, 3) := by decide +kernel
theorem pd_1 : parseMethodDescriptor "()J" = some ⟨[], some .long⟩ := by decide +kernel
theorem d5_91 : decode prog_53_method_2_code 91 = .ok (.lastore, 1) := by decide +kernel
theorem d5_92 : decode prog_53_method_2_code 92 = .ok (.aload_n 0, 1) := by decide +kernel
theorem d5_93 : decode prog_53_method_2_code 93 = .ok (.getfield 13, 3) := by decide +kernel
theorem d5_96 : decode prog_53_method_2_code 96 = .ok (.iconst 2, 1) := by decide +kernel
theorem d5_97 : decode prog_53_method_2_code 97 = .ok (.aload_n 0, 1) := by decide +kernel
theorem d5_98 : decode prog_53_method_2_code 98 = .ok (.getfield 16, 3) := by decide +kernel
theorem d5_101 : decode prog_53_method_2_code 101 = .ok (.imul, 1) := by decide +kernel
theorem d5_102 : decode prog_53_method_2_code 102 = .ok (.iconst 1, 1) := by decide +kernel
theorem d5_103 : decode prog_53_method_2_code 103 = .ok (.iadd, 1) := by decide +kernel
theorem d5_104 : decode prog_53_method_2_code 104 = .ok (.aload 5, 2) := by decide +kernel
theorem d5_106 : decode prog_53_method_2_code 106 = .ok (.invokevirtual 32, 3) := by decide +kernel
theorem d5_109 : decode prog_53_method_2_code 109 = .ok (.lastore, 1) := by decide +kernel
theorem d5_110 : decode prog_53_method_2_code 110 = .ok (.aload 5, 2) := by decide +kernel
theorem d5_112 : decode prog_53_method_2_code 112 = .ok (.invokevirtual 35, 3) := by decide +kernel
theorem pd_2 : parseMethodDescriptor "()Ljava/lang/String;" = some ⟨[], some (.object "java/lang/String")⟩ := by decide +kernel
theorem d5_115 : decode prog_53_method_2_code 115 = .ok (.ifnull 43, 3) := by decide +kernel
theorem d5_158 : decode prog_53_method_2_code 158 = .ok (.aload_n 0, 1) := by decide +kernel
theorem d5_159 : decode prog_53_method_2_code 159 = .ok (.dup, 1) := by decide +kernel
theorem d5_160 : decode prog_53_method_2_code 160 = .ok (.getfield 16, 3) := by decide +kernel
theorem d5_163 : decode prog_53_method_2_code 163 = .ok (.iconst 1, 1) := by decide +kernel
theorem d5_164 : decode prog_53_method_2_code 164 = .ok (.iadd, 1) := by decide +kernel
theorem d5_165 : decode prog_53_method_2_code 165 = .ok (.putfield 16, 3) := by decide +kernel
theorem d5_168 : decode prog_53_method_2_code 168 = .ok (.return_, 1) := by decide +kernel
theorem pn_5 : plainFor (⟨"com/example/vacancy/vacancy/state/LeaseSpans", "add", "(JJLcom/example/vacancy/vacancy/slots/LeaseKey;)V"⟩ : MethodName) = true := plainFor_of_name (show plainName "com/example/vacancy/vacancy/state/LeaseSpans" = true from by first | (simp [plainName, overriddenIn]; done) | decide +kernel)
set_option maxRecDepth 65536 in
set_option maxHeartbeats 40000000 in
theorem rmA_0 (l : Launch) (Z : State) (a0 : Array Value) (hw : ∀ d ∈ tables_1, d.before a0 Z = true) (ws : List Jvm.Cond) (o : Addr) (q1 : Int64) (q2 : Int64) (ky : Addr) (a1 : Addr) (a2 : Addr) (f1 : Int32 → Int64) (f2 : Int32 → Int64) (hi : Int64) (lo : Int64) (h0 : Heap) (n0 : Nat) (hn0 : n0 ≤ h0.size) (E_o : Exa Z h0 o "com/example/vacancy/vacancy/state/LeaseSpans") (F_spans_o : Fld Z h0 o "com/example/vacancy/vacancy/state/LeaseSpans" "spans" "[J" (.ref a1)) (F_bits_o : Fld Z h0 o "com/example/vacancy/vacancy/state/LeaseSpans" "bits" "[J" (.ref a2)) (F_texts_o : Fld Z h0 o "com/example/vacancy/vacancy/state/LeaseSpans" "texts" "Ljava/util/Map;" .null) (F_size_o : Fld Z h0 o "com/example/vacancy/vacancy/state/LeaseSpans" "size" "I" (.int 0)) (A_a1 : own_AJ Z h0 a1 2048 f1) (A_a2 : own_AJ Z h0 a2 2048 f2) (ne_a1_a2 : a1 ≠ a2) (ge_o : n0 ≤ o) (ge_a1 : n0 ≤ a1) (ge_a2 : n0 ≤ a2) (E_ky : Exa Z h0 ky "com/example/vacancy/vacancy/slots/LeaseKey") (F_text_ky : Fld Z h0 ky "com/example/vacancy/vacancy/slots/LeaseKey" "text" "Ljava/lang/String;" .null) (F_high_ky : Fld Z h0 ky "com/example/vacancy/vacancy/slots/LeaseKey" "high" "J" (.long hi)) (F_low_ky : Fld Z h0 ky "com/example/vacancy/vacancy/slots/LeaseKey" "low" "J" (.long lo)) :
    own_Met l Z (⟨"com/example/vacancy/vacancy/state/LeaseSpans", "add", "(JJLcom/example/vacancy/vacancy/slots/LeaseKey;)V"⟩ : MethodName) prog_53_method_2_code 6 none ws ({ frames := 1, cells := 0, slots := 0, locals := 14 } : Room) #[(.ref o), (.long q1), (.long q2), (.ref ky)] h0 n0 (own_QV fun h => Keep h0 h [o, a1, a2] ∧ Fld Z h o "com/example/vacancy/vacancy/state/LeaseSpans" "spans" "[J" (.ref a1) ∧ Fld Z h o "com/example/vacancy/vacancy/state/LeaseSpans" "bits" "[J" (.ref a2) ∧ Fld Z h o "com/example/vacancy/vacancy/state/LeaseSpans" "texts" "Ljava/util/Map;" .null ∧ Fld Z h o "com/example/vacancy/vacancy/state/LeaseSpans" "size" "I" (.int 1) ∧ own_AJ Z h a1 2048 (own_upd (own_upd f1 0 q1) 1 q2) ∧ own_AJ Z h a2 2048 (own_upd (own_upd f2 0 hi) 1 lo)) := by
  refine own_met pn_5 hn0 (fun p e s m below meth c T X => ?_)
  refine own_cast (ef_rmA_0 m o q1 q2 ky) ?_
  have r_q1 := rng64 q1
  have r_q2 := rng64 q2
  have r_hi := rng64 hi
  have r_lo := rng64 lo
  have K := Keep.refl h0 [o, a1, a2]
  have ne_o_a1 : o ≠ a1 := own_ne_aj E_o (hw _ (List.mem_of_getElem? (i := 2) rfl)) A_a1
  have ne_ky_a1 : ky ≠ a1 := own_ne_aj E_ky (hw _ (List.mem_of_getElem? (i := 16) rfl)) A_a1
  have ne_o_a2 : o ≠ a2 := own_ne_aj E_o (hw _ (List.mem_of_getElem? (i := 2) rfl)) A_a2
  have ne_ky_a2 : ky ≠ a2 := own_ne_aj E_ky (hw _ (List.mem_of_getElem? (i := 16) rfl)) A_a2
  have ne_o_ky : o ≠ ky := ne_exa E_o E_ky (by decide)
  refine own_iconst X (2) d5_0 rfl ?_
  refine own_aloadN X d5_1 rfl rfl ?_
  refine own_getF X (host := "") (Or.inl (hw _ (List.mem_of_getElem? (i := 38) rfl))) Via.refl F_size_o d5_2 (fun T X => ?_)
  refine own_imulE X d5_5 (0 : Int32) (by decide) ?_
  refine own_aloadN X d5_6 rfl rfl ?_
  refine own_getF X (host := "") (Or.inl (hw _ (List.mem_of_getElem? (i := 11) rfl))) Via.refl F_spans_o d5_7 (fun T X => ?_)
  refine own_alenJ X A_a1 d5_10 ?_
  refine own_icmpYes X (pc := 11) (pc' := 50) d5_11 (feq (own_cNe (a := 0) (b := 2048) rfl rfl (by decide))).2 (by decide) (by decide) ?_
  refine own_aloadN X d5_50 rfl rfl ?_
  refine own_getF X (host := "") (Or.inl (hw _ (List.mem_of_getElem? (i := 11) rfl))) Via.refl F_spans_o d5_51 (fun T X => ?_)
  refine own_iconst X (2) d5_54 rfl ?_
  refine own_aloadN X d5_55 rfl rfl ?_
  refine own_getF X (host := "") (Or.inl (hw _ (List.mem_of_getElem? (i := 38) rfl))) Via.refl F_size_o d5_56 (fun T X => ?_)
  refine own_imulE X d5_59 (0 : Int32) (by decide) ?_
  refine own_lloadN X d5_60 rfl ?_
  refine own_lastore X A_a1 (own_cGe (a := 0) (b := 0) rfl rfl (by omega)) (own_cLt (a := 0) (b := 2048) rfl rfl (by omega)) ge_a1 d5_61 (fun T h X f1 hf1 A_a1 W => ?_)
  have K := K.wr W (Or.inl (List.mem_of_getElem? (i := 1) rfl))
  have E_o := E_o.wr W
  have E_ky := E_ky.wr W
  have F_spans_o := F_spans_o.other W (Or.inl ne_o_a1)
  have F_bits_o := F_bits_o.other W (Or.inl ne_o_a1)
  have F_texts_o := F_texts_o.other W (Or.inl ne_o_a1)
  have F_size_o := F_size_o.other W (Or.inl ne_o_a1)
  have F_text_ky := F_text_ky.other W (Or.inl ne_ky_a1)
  have F_high_ky := F_high_ky.other W (Or.inl ne_ky_a1)
  have F_low_ky := F_low_ky.other W (Or.inl ne_ky_a1)
  have A_a2 := A_a2.other W (Ne.symm ne_a1_a2)
  refine own_aloadN X d5_62 rfl rfl ?_
  refine own_getF X (host := "") (Or.inl (hw _ (List.mem_of_getElem? (i := 11) rfl))) Via.refl F_spans_o d5_63 (fun T X => ?_)
  refine own_iconst X (2) d5_66 rfl ?_
  refine own_aloadN X d5_67 rfl rfl ?_
  refine own_getF X (host := "") (Or.inl (hw _ (List.mem_of_getElem? (i := 38) rfl))) Via.refl F_size_o d5_68 (fun T X => ?_)
  refine own_imulE X d5_71 (0 : Int32) (by decide) ?_
  refine own_iconst X (1) d5_72 rfl ?_
  refine own_iaddE X d5_73 (1 : Int32) (by decide) ?_
  refine own_lloadN X d5_74 rfl ?_
  refine own_lastore X A_a1 (own_cGe (a := 1) (b := 0) rfl rfl (by omega)) (own_cLt (a := 1) (b := 2048) rfl rfl (by omega)) ge_a1 d5_75 (fun T h X f2 hf2 A_a1 W => ?_)
  have K := K.wr W (Or.inl (List.mem_of_getElem? (i := 1) rfl))
  have E_o := E_o.wr W
  have E_ky := E_ky.wr W
  have F_spans_o := F_spans_o.other W (Or.inl ne_o_a1)
  have F_bits_o := F_bits_o.other W (Or.inl ne_o_a1)
  have F_texts_o := F_texts_o.other W (Or.inl ne_o_a1)
  have F_size_o := F_size_o.other W (Or.inl ne_o_a1)
  have F_text_ky := F_text_ky.other W (Or.inl ne_ky_a1)
  have F_high_ky := F_high_ky.other W (Or.inl ne_ky_a1)
  have F_low_ky := F_low_ky.other W (Or.inl ne_ky_a1)
  have A_a2 := A_a2.other W (Ne.symm ne_a1_a2)
  refine own_aloadN X d5_76 rfl rfl ?_
  refine own_getF X (host := "") (Or.inl (hw _ (List.mem_of_getElem? (i := 13) rfl))) Via.refl F_bits_o d5_77 (fun T X => ?_)
  refine own_iconst X (2) d5_80 rfl ?_
  refine own_aloadN X d5_81 rfl rfl ?_
  refine own_getF X (host := "") (Or.inl (hw _ (List.mem_of_getElem? (i := 38) rfl))) Via.refl F_size_o d5_82 (fun T X => ?_)
  refine own_imulE X d5_85 (0 : Int32) (by decide) ?_
  refine own_aload X d5_86 rfl rfl ?_
  refine own_callV X (W := 2) (a := ky) (argsL := []) (rest := [(.int (0 : Int32)), (.ref a2)]) (hw _ (List.mem_of_getElem? (i := 40) rfl)) (hw _ (List.mem_of_getElem? (i := 41) rfl)) (hw _ (List.mem_of_getElem? (i := 43) rfl)) (hw _ (List.mem_of_getElem? (i := 42) rfl)) (hw _ (List.mem_of_getElem? (i := 17) rfl)) (hw _ (List.mem_of_getElem? (i := 44) rfl)) rfl (by decide) (rm6 l Z a0 hw [] ky hi h n0 (own_size X) F_high_ky) E_ky (by decide) (by decide) (by decide) (by decide) rfl (lenOf pd_1 rfl) rfl (Nat.le_of_eq rfl) d5_88 (own_contJ fun T v3 X hq3 => ?_)
  rw [hq3]
  refine own_lastore X A_a2 (own_cGe (a := 0) (b := 0) rfl rfl (by omega)) (own_cLt (a := 0) (b := 2048) rfl rfl (by omega)) ge_a2 d5_91 (fun T h X f4 hf4 A_a2 W => ?_)
  have K := K.wr W (Or.inl (List.mem_of_getElem? (i := 2) rfl))
  have E_o := E_o.wr W
  have E_ky := E_ky.wr W
  have F_spans_o := F_spans_o.other W (Or.inl ne_o_a2)
  have F_bits_o := F_bits_o.other W (Or.inl ne_o_a2)
  have F_texts_o := F_texts_o.other W (Or.inl ne_o_a2)
  have F_size_o := F_size_o.other W (Or.inl ne_o_a2)
  have F_text_ky := F_text_ky.other W (Or.inl ne_ky_a2)
  have F_high_ky := F_high_ky.other W (Or.inl ne_ky_a2)
  have F_low_ky := F_low_ky.other W (Or.inl ne_ky_a2)
  have A_a1 := A_a1.other W ne_a1_a2
  refine own_aloadN X d5_92 rfl rfl ?_
  refine own_getF X (host := "") (Or.inl (hw _ (List.mem_of_getElem? (i := 13) rfl))) Via.refl F_bits_o d5_93 (fun T X => ?_)
  refine own_iconst X (2) d5_96 rfl ?_
  refine own_aloadN X d5_97 rfl rfl ?_
  refine own_getF X (host := "") (Or.inl (hw _ (List.mem_of_getElem? (i := 38) rfl))) Via.refl F_size_o d5_98 (fun T X => ?_)
  refine own_imulE X d5_101 (0 : Int32) (by decide) ?_
  refine own_iconst X (1) d5_102 rfl ?_
  refine own_iaddE X d5_103 (1 : Int32) (by decide) ?_
  refine own_aload X d5_104 rfl rfl ?_
  refine own_callV X (W := 2) (a := ky) (argsL := []) (rest := [(.int (1 : Int32)), (.ref a2)]) (hw _ (List.mem_of_getElem? (i := 45) rfl)) (hw _ (List.mem_of_getElem? (i := 46) rfl)) (hw _ (List.mem_of_getElem? (i := 48) rfl)) (hw _ (List.mem_of_getElem? (i := 47) rfl)) (hw _ (List.mem_of_getElem? (i := 17) rfl)) (hw _ (List.mem_of_getElem? (i := 49) rfl)) rfl (by decide) (rm7 l Z a0 hw [] ky lo h n0 (own_size X) F_low_ky) E_ky (by decide) (by decide) (by decide) (by decide) rfl (lenOf pd_1 rfl) rfl (Nat.le_of_eq rfl) d5_106 (own_contJ fun T v5 X hq5 => ?_)
  rw [hq5]
  refine own_lastore X A_a2 (own_cGe (a := 1) (b := 0) rfl rfl (by omega)) (own_cLt (a := 1) (b := 2048) rfl rfl (by omega)) ge_a2 d5_109 (fun T h X f6 hf6 A_a2 W => ?_)
  have K := K.wr W (Or.inl (List.mem_of_getElem? (i := 2) rfl))
  have E_o := E_o.wr W
  have E_ky := E_ky.wr W
  have F_spans_o := F_spans_o.other W (Or.inl ne_o_a2)
  have F_bits_o := F_bits_o.other W (Or.inl ne_o_a2)
  have F_texts_o := F_texts_o.other W (Or.inl ne_o_a2)
  have F_size_o := F_size_o.other W (Or.inl ne_o_a2)
  have F_text_ky := F_text_ky.other W (Or.inl ne_ky_a2)
  have F_high_ky := F_high_ky.other W (Or.inl ne_ky_a2)
  have F_low_ky := F_low_ky.other W (Or.inl ne_ky_a2)
  have A_a1 := A_a1.other W ne_a1_a2
  refine own_aload X d5_110 rfl rfl ?_
  refine own_callV X (W := 0) (a := ky) (argsL := []) (rest := []) (hw _ (List.mem_of_getElem? (i := 50) rfl)) (hw _ (List.mem_of_getElem? (i := 51) rfl)) (hw _ (List.mem_of_getElem? (i := 53) rfl)) (hw _ (List.mem_of_getElem? (i := 52) rfl)) (hw _ (List.mem_of_getElem? (i := 17) rfl)) (hw _ (List.mem_of_getElem? (i := 54) rfl)) rfl (by decide) (rm8 l Z a0 hw [] ky h n0 (own_size X) F_text_ky) E_ky (by decide) (by decide) (by decide) (by decide) rfl (lenOf pd_2 rfl) rfl (Nat.le_of_eq rfl) d5_112 (own_contR fun T v7 X hq7 => ?_)
  subst hq7
  refine own_ifnullYes X (pc := 115) (pc' := 158) d5_115 (by decide) (by decide) ?_
  refine own_aloadN X d5_158 rfl rfl ?_
  refine own_dup X d5_159 rfl ?_
  refine own_getF X (host := "") (Or.inl (hw _ (List.mem_of_getElem? (i := 38) rfl))) Via.refl F_size_o d5_160 (fun T X => ?_)
  refine own_iconst X (1) d5_163 rfl ?_
  refine own_iaddE X d5_164 (1 : Int32) (by decide) ?_
  refine own_putF X (host := "") (Or.inl (hw _ (List.mem_of_getElem? (i := 38) rfl))) Via.refl F_size_o E_o (Or.inl (hw _ (List.mem_of_getElem? (i := 39) rfl))) (hw _ (List.mem_of_getElem? (i := 2) rfl)) (ty := .int) (by decide) rfl rfl ge_o d5_165 (fun T h X W => ?_)
  have F_size_o := F_size_o.same W
  have K := K.wr W (Or.inl (List.mem_of_getElem? (i := 0) rfl))
  have E_o := E_o.wr W
  have E_ky := E_ky.wr W
  have F_spans_o := F_spans_o.other W (Or.inr (slot_ne (C := "com/example/vacancy/vacancy/state/LeaseSpans") (Or.inl (hw _ (List.mem_of_getElem? (i := 12) rfl))) (Or.inl (hw _ (List.mem_of_getElem? (i := 39) rfl))) (by decide) (t := (.array .long)) (t' := .int) (by decide) (by decide)))
  have F_bits_o := F_bits_o.other W (Or.inr (slot_ne (C := "com/example/vacancy/vacancy/state/LeaseSpans") (Or.inl (hw _ (List.mem_of_getElem? (i := 14) rfl))) (Or.inl (hw _ (List.mem_of_getElem? (i := 39) rfl))) (by decide) (t := (.array .long)) (t' := .int) (by decide) (by decide)))
  have F_texts_o := F_texts_o.other W (Or.inr (slot_ne (C := "com/example/vacancy/vacancy/state/LeaseSpans") (Or.inl (hw _ (List.mem_of_getElem? (i := 71) rfl))) (Or.inl (hw _ (List.mem_of_getElem? (i := 39) rfl))) (by decide) (t := (.object "java/util/Map")) (t' := .int) (by decide) (by decide)))
  have F_text_ky := F_text_ky.other W (Or.inl (Ne.symm ne_o_ky))
  have F_high_ky := F_high_ky.other W (Or.inl (Ne.symm ne_o_ky))
  have F_low_ky := F_low_ky.other W (Or.inl (Ne.symm ne_o_ky))
  have A_a1 := A_a1.other W (Ne.symm ne_o_a1)
  have A_a2 := A_a2.other W (Ne.symm ne_o_a2)
  refine own_retV X d5_168 (by decide) (by decide) ⟨rfl, ?_⟩
  exact ⟨K, F_spans_o, F_bits_o, F_texts_o, F_size_o, by rw [← hf1, ← hf2]; exact A_a1, by rw [← hf4, ← hf6]; exact A_a2⟩
theorem ef_rmA_1 (m : MethodId) (o : Addr) (q1 : Int64) (q2 : Int64) (ky : Addr) : entryFrame m #[(.ref o), (.long q1), (.long q2), (.ref ky)] 6 = mkF m 0 #[.val (.ref o), .val (.long q1), .second, .val (.long q2), .second, .val (.ref ky)] [] := by first | (simp [entryFrame, mkF, argsToLocals, Value.category]; done) | rfl
set_option maxRecDepth 65536 in
set_option maxHeartbeats 40000000 in
theorem rmA_1 (l : Launch) (Z : State) (a0 : Array Value) (hw : ∀ d ∈ tables_1, d.before a0 Z = true) (ws : List Jvm.Cond) (o : Addr) (q1 : Int64) (q2 : Int64) (ky : Addr) (a1 : Addr) (a2 : Addr) (f1 : Int32 → Int64) (f2 : Int32 → Int64) (hi : Int64) (lo : Int64) (h0 : Heap) (n0 : Nat) (hn0 : n0 ≤ h0.size) (E_o : Exa Z h0 o "com/example/vacancy/vacancy/state/LeaseSpans") (F_spans_o : Fld Z h0 o "com/example/vacancy/vacancy/state/LeaseSpans" "spans" "[J" (.ref a1)) (F_bits_o : Fld Z h0 o "com/example/vacancy/vacancy/state/LeaseSpans" "bits" "[J" (.ref a2)) (F_texts_o : Fld Z h0 o "com/example/vacancy/vacancy/state/LeaseSpans" "texts" "Ljava/util/Map;" .null) (F_size_o : Fld Z h0 o "com/example/vacancy/vacancy/state/LeaseSpans" "size" "I" (.int 1)) (A_a1 : own_AJ Z h0 a1 2048 f1) (A_a2 : own_AJ Z h0 a2 2048 f2) (ne_a1_a2 : a1 ≠ a2) (ge_o : n0 ≤ o) (ge_a1 : n0 ≤ a1) (ge_a2 : n0 ≤ a2) (E_ky : Exa Z h0 ky "com/example/vacancy/vacancy/slots/LeaseKey") (F_text_ky : Fld Z h0 ky "com/example/vacancy/vacancy/slots/LeaseKey" "text" "Ljava/lang/String;" .null) (F_high_ky : Fld Z h0 ky "com/example/vacancy/vacancy/slots/LeaseKey" "high" "J" (.long hi)) (F_low_ky : Fld Z h0 ky "com/example/vacancy/vacancy/slots/LeaseKey" "low" "J" (.long lo)) :
    own_Met l Z (⟨"com/example/vacancy/vacancy/state/LeaseSpans", "add", "(JJLcom/example/vacancy/vacancy/slots/LeaseKey;)V"⟩ : MethodName) prog_53_method_2_code 6 none ws ({ frames := 1, cells := 0, slots := 0, locals := 14 } : Room) #[(.ref o), (.long q1), (.long q2), (.ref ky)] h0 n0 (own_QV fun h => Keep h0 h [o, a1, a2] ∧ Fld Z h o "com/example/vacancy/vacancy/state/LeaseSpans" "spans" "[J" (.ref a1) ∧ Fld Z h o "com/example/vacancy/vacancy/state/LeaseSpans" "bits" "[J" (.ref a2) ∧ Fld Z h o "com/example/vacancy/vacancy/state/LeaseSpans" "texts" "Ljava/util/Map;" .null ∧ Fld Z h o "com/example/vacancy/vacancy/state/LeaseSpans" "size" "I" (.int 2) ∧ own_AJ Z h a1 2048 (own_upd (own_upd f1 2 q1) 3 q2) ∧ own_AJ Z h a2 2048 (own_upd (own_upd f2 2 hi) 3 lo)) := by
  refine own_met pn_5 hn0 (fun p e s m below meth c T X => ?_)
  refine own_cast (ef_rmA_1 m o q1 q2 ky) ?_
  have r_q1 := rng64 q1
  have r_q2 := rng64 q2
  have r_hi := rng64 hi
  have r_lo := rng64 lo
  have K := Keep.refl h0 [o, a1, a2]
  have ne_o_a1 : o ≠ a1 := own_ne_aj E_o (hw _ (List.mem_of_getElem? (i := 2) rfl)) A_a1
  have ne_ky_a1 : ky ≠ a1 := own_ne_aj E_ky (hw _ (List.mem_of_getElem? (i := 16) rfl)) A_a1
  have ne_o_a2 : o ≠ a2 := own_ne_aj E_o (hw _ (List.mem_of_getElem? (i := 2) rfl)) A_a2
  have ne_ky_a2 : ky ≠ a2 := own_ne_aj E_ky (hw _ (List.mem_of_getElem? (i := 16) rfl)) A_a2
  have ne_o_ky : o ≠ ky := ne_exa E_o E_ky (by decide)
  refine own_iconst X (2) d5_0 rfl ?_
  refine own_aloadN X d5_1 rfl rfl ?_
  refine own_getF X (host := "") (Or.inl (hw _ (List.mem_of_getElem? (i := 38) rfl))) Via.refl F_size_o d5_2 (fun T X => ?_)
  refine own_imulE X d5_5 (2 : Int32) (by decide) ?_
  refine own_aloadN X d5_6 rfl rfl ?_
  refine own_getF X (host := "") (Or.inl (hw _ (List.mem_of_getElem? (i := 11) rfl))) Via.refl F_spans_o d5_7 (fun T X => ?_)
  refine own_alenJ X A_a1 d5_10 ?_
  refine own_icmpYes X (pc := 11) (pc' := 50) d5_11 (feq (own_cNe (a := 2) (b := 2048) rfl rfl (by decide))).2 (by decide) (by decide) ?_
  refine own_aloadN X d5_50 rfl rfl ?_
  refine own_getF X (host := "") (Or.inl (hw _ (List.mem_of_getElem? (i := 11) rfl))) Via.refl F_spans_o d5_51 (fun T X => ?_)
  refine own_iconst X (2) d5_54 rfl ?_
  refine own_aloadN X d5_55 rfl rfl ?_
  refine own_getF X (host := "") (Or.inl (hw _ (List.mem_of_getElem? (i := 38) rfl))) Via.refl F_size_o d5_56 (fun T X => ?_)
  refine own_imulE X d5_59 (2 : Int32) (by decide) ?_
  refine own_lloadN X d5_60 rfl ?_
  refine own_lastore X A_a1 (own_cGe (a := 2) (b := 0) rfl rfl (by omega)) (own_cLt (a := 2) (b := 2048) rfl rfl (by omega)) ge_a1 d5_61 (fun T h X f1 hf1 A_a1 W => ?_)
  have K := K.wr W (Or.inl (List.mem_of_getElem? (i := 1) rfl))
  have E_o := E_o.wr W
  have E_ky := E_ky.wr W
  have F_spans_o := F_spans_o.other W (Or.inl ne_o_a1)
  have F_bits_o := F_bits_o.other W (Or.inl ne_o_a1)
  have F_texts_o := F_texts_o.other W (Or.inl ne_o_a1)
  have F_size_o := F_size_o.other W (Or.inl ne_o_a1)
  have F_text_ky := F_text_ky.other W (Or.inl ne_ky_a1)
  have F_high_ky := F_high_ky.other W (Or.inl ne_ky_a1)
  have F_low_ky := F_low_ky.other W (Or.inl ne_ky_a1)
  have A_a2 := A_a2.other W (Ne.symm ne_a1_a2)
  refine own_aloadN X d5_62 rfl rfl ?_
  refine own_getF X (host := "") (Or.inl (hw _ (List.mem_of_getElem? (i := 11) rfl))) Via.refl F_spans_o d5_63 (fun T X => ?_)
  refine own_iconst X (2) d5_66 rfl ?_
  refine own_aloadN X d5_67 rfl rfl ?_
  refine own_getF X (host := "") (Or.inl (hw _ (List.mem_of_getElem? (i := 38) rfl))) Via.refl F_size_o d5_68 (fun T X => ?_)
  refine own_imulE X d5_71 (2 : Int32) (by decide) ?_
  refine own_iconst X (1) d5_72 rfl ?_
  refine own_iaddE X d5_73 (3 : Int32) (by decide) ?_
  refine own_lloadN X d5_74 rfl ?_
  refine own_lastore X A_a1 (own_cGe (a := 3) (b := 0) rfl rfl (by omega)) (own_cLt (a := 3) (b := 2048) rfl rfl (by omega)) ge_a1 d5_75 (fun T h X f2 hf2 A_a1 W => ?_)
  have K := K.wr W (Or.inl (List.mem_of_getElem? (i := 1) rfl))
  have E_o := E_o.wr W
  have E_ky := E_ky.wr W
  have F_spans_o := F_spans_o.other W (Or.inl ne_o_a1)
  have F_bits_o := F_bits_o.other W (Or.inl ne_o_a1)
  have F_texts_o := F_texts_o.other W (Or.inl ne_o_a1)
  have F_size_o := F_size_o.other W (Or.inl ne_o_a1)
  have F_text_ky := F_text_ky.other W (Or.inl ne_ky_a1)
  have F_high_ky := F_high_ky.other W (Or.inl ne_ky_a1)
  have F_low_ky := F_low_ky.other W (Or.inl ne_ky_a1)
  have A_a2 := A_a2.other W (Ne.symm ne_a1_a2)
  refine own_aloadN X d5_76 rfl rfl ?_
  refine own_getF X (host := "") (Or.inl (hw _ (List.mem_of_getElem? (i := 13) rfl))) Via.refl F_bits_o d5_77 (fun T X => ?_)
  refine own_iconst X (2) d5_80 rfl ?_
  refine own_aloadN X d5_81 rfl rfl ?_
  refine own_getF X (host := "") (Or.inl (hw _ (List.mem_of_getElem? (i := 38) rfl))) Via.refl F_size_o d5_82 (fun T X => ?_)
  refine own_imulE X d5_85 (2 : Int32) (by decide) ?_
  refine own_aload X d5_86 rfl rfl ?_
  refine own_callV X (W := 2) (a := ky) (argsL := []) (rest := [(.int (2 : Int32)), (.ref a2)]) (hw _ (List.mem_of_getElem? (i := 40) rfl)) (hw _ (List.mem_of_getElem? (i := 41) rfl)) (hw _ (List.mem_of_getElem? (i := 43) rfl)) (hw _ (List.mem_of_getElem? (i := 42) rfl)) (hw _ (List.mem_of_getElem? (i := 17) rfl)) (hw _ (List.mem_of_getElem? (i := 44) rfl)) rfl (by decide) (rm6 l Z a0 hw [] ky hi h n0 (own_size X) F_high_ky) E_ky (by decide) (by decide) (by decide) (by decide) rfl (lenOf pd_1 rfl) rfl (Nat.le_of_eq rfl) d5_88 (own_contJ fun T v3 X hq3 => ?_)
  rw [hq3]
  refine own_lastore X A_a2 (own_cGe (a := 2) (b := 0) rfl rfl (by omega)) (own_cLt (a := 2) (b := 2048) rfl rfl (by omega)) ge_a2 d5_91 (fun T h X f4 hf4 A_a2 W => ?_)
  have K := K.wr W (Or.inl (List.mem_of_getElem? (i := 2) rfl))
  have E_o := E_o.wr W
  have E_ky := E_ky.wr W
  have F_spans_o := F_spans_o.other W (Or.inl ne_o_a2)
  have F_bits_o := F_bits_o.other W (Or.inl ne_o_a2)
  have F_texts_o := F_texts_o.other W (Or.inl ne_o_a2)
  have F_size_o := F_size_o.other W (Or.inl ne_o_a2)
  have F_text_ky := F_text_ky.other W (Or.inl ne_ky_a2)
  have F_high_ky := F_high_ky.other W (Or.inl ne_ky_a2)
  have F_low_ky := F_low_ky.other W (Or.inl ne_ky_a2)
  have A_a1 := A_a1.other W ne_a1_a2
  refine own_aloadN X d5_92 rfl rfl ?_
  refine own_getF X (host := "") (Or.inl (hw _ (List.mem_of_getElem? (i := 13) rfl))) Via.refl F_bits_o d5_93 (fun T X => ?_)
  refine own_iconst X (2) d5_96 rfl ?_
  refine own_aloadN X d5_97 rfl rfl ?_
  refine own_getF X (host := "") (Or.inl (hw _ (List.mem_of_getElem? (i := 38) rfl))) Via.refl F_size_o d5_98 (fun T X => ?_)
  refine own_imulE X d5_101 (2 : Int32) (by decide) ?_
  refine own_iconst X (1) d5_102 rfl ?_
  refine own_iaddE X d5_103 (3 : Int32) (by decide) ?_
  refine own_aload X d5_104 rfl rfl ?_
  refine own_callV X (W := 2) (a := ky) (argsL := []) (rest := [(.int (3 : Int32)), (.ref a2)]) (hw _ (List.mem_of_getElem? (i := 45) rfl)) (hw _ (List.mem_of_getElem? (i := 46) rfl)) (hw _ (List.mem_of_getElem? (i := 48) rfl)) (hw _ (List.mem_of_getElem? (i := 47) rfl)) (hw _ (List.mem_of_getElem? (i := 17) rfl)) (hw _ (List.mem_of_getElem? (i := 49) rfl)) rfl (by decide) (rm7 l Z a0 hw [] ky lo h n0 (own_size X) F_low_ky) E_ky (by decide) (by decide) (by decide) (by decide) rfl (lenOf pd_1 rfl) rfl (Nat.le_of_eq rfl) d5_106 (own_contJ fun T v5 X hq5 => ?_)
  rw [hq5]
  refine own_lastore X A_a2 (own_cGe (a := 3) (b := 0) rfl rfl (by omega)) (own_cLt (a := 3) (b := 2048) rfl rfl (by omega)) ge_a2 d5_109 (fun T h X f6 hf6 A_a2 W => ?_)
  have K := K.wr W (Or.inl (List.mem_of_getElem? (i := 2) rfl))
  have E_o := E_o.wr W
  have E_ky := E_ky.wr W
  have F_spans_o := F_spans_o.other W (Or.inl ne_o_a2)
  have F_bits_o := F_bits_o.other W (Or.inl ne_o_a2)
  have F_texts_o := F_texts_o.other W (Or.inl ne_o_a2)
  have F_size_o := F_size_o.other W (Or.inl ne_o_a2)
  have F_text_ky := F_text_ky.other W (Or.inl ne_ky_a2)
  have F_high_ky := F_high_ky.other W (Or.inl ne_ky_a2)
  have F_low_ky := F_low_ky.other W (Or.inl ne_ky_a2)
  have A_a1 := A_a1.other W ne_a1_a2
  refine own_aload X d5_110 rfl rfl ?_
  refine own_callV X (W := 0) (a := ky) (argsL := []) (rest := []) (hw _ (List.mem_of_getElem? (i := 50) rfl)) (hw _ (List.mem_of_getElem? (i := 51) rfl)) (hw _ (List.mem_of_getElem? (i := 53) rfl)) (hw _ (List.mem_of_getElem? (i := 52) rfl)) (hw _ (List.mem_of_getElem? (i := 17) rfl)) (hw _ (List.mem_of_getElem? (i := 54) rfl)) rfl (by decide) (rm8 l Z a0 hw [] ky h n0 (own_size X) F_text_ky) E_ky (by decide) (by decide) (by decide) (by decide) rfl (lenOf pd_2 rfl) rfl (Nat.le_of_eq rfl) d5_112 (own_contR fun T v7 X hq7 => ?_)
  subst hq7
  refine own_ifnullYes X (pc := 115) (pc' := 158) d5_115 (by decide) (by decide) ?_
  refine own_aloadN X d5_158 rfl rfl ?_
  refine own_dup X d5_159 rfl ?_
  refine own_getF X (host := "") (Or.inl (hw _ (List.mem_of_getElem? (i := 38) rfl))) Via.refl F_size_o d5_160 (fun T X => ?_)
  refine own_iconst X (1) d5_163 rfl ?_
  refine own_iaddE X d5_164 (2 : Int32) (by decide) ?_
  refine own_putF X (host := "") (Or.inl (hw _ (List.mem_of_getElem? (i := 38) rfl))) Via.refl F_size_o E_o (Or.inl (hw _ (List.mem_of_getElem? (i := 39) rfl))) (hw _ (List.mem_of_getElem? (i := 2) rfl)) (ty := .int) (by decide) rfl rfl ge_o d5_165 (fun T h X W => ?_)
  have F_size_o := F_size_o.same W
  have K := K.wr W (Or.inl (List.mem_of_getElem? (i := 0) rfl))
  have E_o := E_o.wr W
  have E_ky := E_ky.wr W
  have F_spans_o := F_spans_o.other W (Or.inr (slot_ne (C := "com/example/vacancy/vacancy/state/LeaseSpans") (Or.inl (hw _ (List.mem_of_getElem? (i := 12) rfl))) (Or.inl (hw _ (List.mem_of_getElem? (i := 39) rfl))) (by decide) (t := (.array .long)) (t' := .int) (by decide) (by decide)))
  have F_bits_o := F_bits_o.other W (Or.inr (slot_ne (C := "com/example/vacancy/vacancy/state/LeaseSpans") (Or.inl (hw _ (List.mem_of_getElem? (i := 14) rfl))) (Or.inl (hw _ (List.mem_of_getElem? (i := 39) rfl))) (by decide) (t := (.array .long)) (t' := .int) (by decide) (by decide)))
  have F_texts_o := F_texts_o.other W (Or.inr (slot_ne (C := "com/example/vacancy/vacancy/state/LeaseSpans") (Or.inl (hw _ (List.mem_of_getElem? (i := 71) rfl))) (Or.inl (hw _ (List.mem_of_getElem? (i := 39) rfl))) (by decide) (t := (.object "java/util/Map")) (t' := .int) (by decide) (by decide)))
  have F_text_ky := F_text_ky.other W (Or.inl (Ne.symm ne_o_ky))
  have F_high_ky := F_high_ky.other W (Or.inl (Ne.symm ne_o_ky))
  have F_low_ky := F_low_ky.other W (Or.inl (Ne.symm ne_o_ky))
  have A_a1 := A_a1.other W (Ne.symm ne_o_a1)
  have A_a2 := A_a2.other W (Ne.symm ne_o_a2)
  refine own_retV X d5_168 (by decide) (by decide) ⟨rfl, ?_⟩
  exact ⟨K, F_spans_o, F_bits_o, F_texts_o, F_size_o, by rw [← hf1, ← hf2]; exact A_a1, by rw [← hf4, ← hf6]; exact A_a2⟩
theorem ef_rmF_0 (m : MethodId) (o : Addr) (q1 : Int64) : entryFrame m #[(.ref o), (.long q1)] 4 = mkF m 0 #[.val (.ref o), .val (.long q1), .second, .unset] [] := by first | (simp [entryFrame, mkF, argsToLocals, Value.category]; done) | rfl
theorem d9_0 : decode prog_53_method_5_code 0 = .ok (.iconst 0, 1) := by decide +kernel
theorem d9_1 : decode prog_53_method_5_code 1 = .ok (.istore_n 3, 1) := by decide +kernel
theorem d9_2 : decode prog_53_method_5_code 2 = .ok (.iload_n 3, 1) := by decide +kernel
theorem d9_3 : decode prog_53_method_5_code 3 = .ok (.iconst 2, 1) := by decide +kernel
theorem d9_4 : decode prog_53_method_5_code 4 = .ok (.aload_n 0, 1) := by decide +kernel
theorem d9_5 : decode prog_53_method_5_code 5 = .ok (.getfield 16, 3) := by decide +kernel
theorem d9_8 : decode prog_53_method_5_code 8 = .ok (.imul, 1) := by decide +kernel
theorem d9_9 : decode prog_53_method_5_code 9 = .ok (.if_icmp .ge 19, 3) := by decide +kernel
theorem d9_28 : decode prog_53_method_5_code 28 = .ok (.return_, 1) := by decide +kernel
theorem pn_9 : plainFor (⟨"com/example/vacancy/vacancy/state/LeaseSpans", "shift", "(J)V"⟩ : MethodName) = true := plainFor_of_name (show plainName "com/example/vacancy/vacancy/state/LeaseSpans" = true from by first | (simp [plainName, overriddenIn]; done) | decide +kernel)
set_option maxRecDepth 65536 in
set_option maxHeartbeats 40000000 in
theorem rmF_0 (l : Launch) (Z : State) (a0 : Array Value) (hw : ∀ d ∈ tables_1, d.before a0 Z = true) (ws : List Jvm.Cond) (o : Addr) (q1 : Int64) (a1 : Addr) (f1 : Int32 → Int64) (h0 : Heap) (n0 : Nat) (hn0 : n0 ≤ h0.size) (E_o : Exa Z h0 o "com/example/vacancy/vacancy/state/LeaseSpans") (F_spans_o : Fld Z h0 o "com/example/vacancy/vacancy/state/LeaseSpans" "spans" "[J" (.ref a1)) (F_size_o : Fld Z h0 o "com/example/vacancy/vacancy/state/LeaseSpans" "size" "I" (.int 0)) (A_a1 : own_AJ Z h0 a1 2048 f1) (ge_a1 : n0 ≤ a1) :
    own_Met l Z (⟨"com/example/vacancy/vacancy/state/LeaseSpans", "shift", "(J)V"⟩ : MethodName) prog_53_method_5_code 4 none ws ({ frames := 0, cells := 0, slots := 0, locals := 0 } : Room) #[(.ref o), (.long q1)] h0 n0 (own_QV fun h => Keep h0 h [a1] ∧ ∃ f' : Int32 → Int64, own_AJ Z h a1 2048 f') := by
  refine own_met pn_9 hn0 (fun p e s m below meth c T X => ?_)
  refine own_cast (ef_rmF_0 m o q1) ?_
  have r_q1 := rng64 q1
  have K := Keep.refl h0 [a1]
  have ne_o_a1 : o ≠ a1 := own_ne_aj E_o (hw _ (List.mem_of_getElem? (i := 2) rfl)) A_a1
  refine own_iconst X (0) d9_0 rfl ?_
  refine own_istoreN X d9_1 (L' := #[.val (.ref o), .val (.long q1), .second, .val (.int (0 : Int32))]) rfl ?_
  refine own_iloadN X d9_2 rfl ?_
  refine own_iconst X (2) d9_3 rfl ?_
  refine own_aloadN X d9_4 rfl rfl ?_
  refine own_getF X (host := "") (Or.inl (hw _ (List.mem_of_getElem? (i := 38) rfl))) Via.refl F_size_o d9_5 (fun T X => ?_)
  refine own_imulE X d9_8 (0 : Int32) (by decide) ?_
  refine own_icmpYes X (pc := 9) (pc' := 28) d9_9 (flt (own_cGe (a := 0) (b := 0) rfl rfl (by decide))).2.1 (by decide) (by decide) ?_
  refine own_retV X d9_28 (by decide) (by decide) ⟨rfl, ?_⟩
  exact ⟨K, f1, A_a1⟩
theorem ef_rmF_1 (m : MethodId) (o : Addr) (q1 : Int64) : entryFrame m #[(.ref o), (.long q1)] 4 = mkF m 0 #[.val (.ref o), .val (.long q1), .second, .unset] [] := by first | (simp [entryFrame, mkF, argsToLocals, Value.category]; done) | rfl
theorem d9_12 : decode prog_53_method_5_code 12 = .ok (.aload_n 0, 1) := by decide +kernel
theorem d9_13 : decode prog_53_method_5_code 13 = .ok (.getfield 9, 3) := by decide +kernel
theorem d9_16 : decode prog_53_method_5_code 16 = .ok (.iload_n 3, 1) := by decide +kernel
theorem d9_17 : decode prog_53_method_5_code 17 = .ok (.dup2, 1) := by decide +kernel
theorem d9_18 : decode prog_53_method_5_code 18 = .ok (.laload, 1) := by decide +kernel
theorem d9_19 : decode prog_53_method_5_code 19 = .ok (.lload_n 1, 1) := by decide +kernel
theorem d9_20 : decode prog_53_method_5_code 20 = .ok (.ladd, 1) := by decide +kernel
theorem d9_21 : decode prog_53_method_5_code 21 = .ok (.lastore, 1) := by decide +kernel
theorem d9_22 : decode prog_53_method_5_code 22 = .ok (.iinc 3 1, 3) := by decide +kernel
theorem d9_25 : decode prog_53_method_5_code 25 = .ok (.goto (-23), 3) := by decide +kernel
set_option maxRecDepth 65536 in
set_option maxHeartbeats 40000000 in
theorem rmF_1 (l : Launch) (Z : State) (a0 : Array Value) (hw : ∀ d ∈ tables_1, d.before a0 Z = true) (ws : List Jvm.Cond) (o : Addr) (q1 : Int64) (a1 : Addr) (f1 : Int32 → Int64) (h0 : Heap) (n0 : Nat) (hn0 : n0 ≤ h0.size) (E_o : Exa Z h0 o "com/example/vacancy/vacancy/state/LeaseSpans") (F_spans_o : Fld Z h0 o "com/example/vacancy/vacancy/state/LeaseSpans" "spans" "[J" (.ref a1)) (F_size_o : Fld Z h0 o "com/example/vacancy/vacancy/state/LeaseSpans" "size" "I" (.int 1)) (A_a1 : own_AJ Z h0 a1 2048 f1) (ge_a1 : n0 ≤ a1) :
    own_Met l Z (⟨"com/example/vacancy/vacancy/state/LeaseSpans", "shift", "(J)V"⟩ : MethodName) prog_53_method_5_code 4 none ws ({ frames := 0, cells := 0, slots := 0, locals := 0 } : Room) #[(.ref o), (.long q1)] h0 n0 (own_QV fun h => Keep h0 h [a1] ∧ ∃ f' : Int32 → Int64, own_AJ Z h a1 2048 f' ∧ f' 0 = f1 0 + q1 ∧ f' 1 = f1 1 + q1) := by
  refine own_met pn_9 hn0 (fun p e s m below meth c T X => ?_)
  refine own_cast (ef_rmF_1 m o q1) ?_
  have r_q1 := rng64 q1
  have K := Keep.refl h0 [a1]
  have ne_o_a1 : o ≠ a1 := own_ne_aj E_o (hw _ (List.mem_of_getElem? (i := 2) rfl)) A_a1
  refine own_iconst X (0) d9_0 rfl ?_
  refine own_istoreN X d9_1 (L' := #[.val (.ref o), .val (.long q1), .second, .val (.int (0 : Int32))]) rfl ?_
  refine own_iloadN X d9_2 rfl ?_
  refine own_iconst X (2) d9_3 rfl ?_
  refine own_aloadN X d9_4 rfl rfl ?_
  refine own_getF X (host := "") (Or.inl (hw _ (List.mem_of_getElem? (i := 38) rfl))) Via.refl F_size_o d9_5 (fun T X => ?_)
  refine own_imulE X d9_8 (2 : Int32) (by decide) ?_
  refine own_icmpNo X d9_9 (tlt (own_cLt (a := 0) (b := 2) rfl rfl (by decide))).2.1 ?_
  refine own_aloadN X d9_12 rfl rfl ?_
  refine own_getF X (host := "") (Or.inl (hw _ (List.mem_of_getElem? (i := 11) rfl))) Via.refl F_spans_o d9_13 (fun T X => ?_)
  refine own_iloadN X d9_16 rfl ?_
  refine own_dup2 X d9_17 rfl rfl ?_
  refine own_laload X A_a1 (own_cGe (a := 0) (b := 0) rfl rfl (by omega)) (own_cLt (a := 0) (b := 2048) rfl rfl (by omega)) d9_18 (fun v1 hv1 lv1 uv1 => ?_)
  refine own_lloadN X d9_19 rfl ?_
  refine own_laddV X (v1.toInt) (q1.toInt) d9_20 rfl rfl (fun v2 hv2 cv2 lv2 uv2 => ?_)
  refine own_lastore X A_a1 (own_cGe (a := 0) (b := 0) rfl rfl (by omega)) (own_cLt (a := 0) (b := 2048) rfl rfl (by omega)) ge_a1 d9_21 (fun T h X f3 hf3 A_a1 W => ?_)
  have K := K.wr W (Or.inl (List.mem_of_getElem? (i := 0) rfl))
  have E_o := E_o.wr W
  have F_spans_o := F_spans_o.other W (Or.inl ne_o_a1)
  have F_size_o := F_size_o.other W (Or.inl ne_o_a1)
  refine own_iinc X d9_22 rfl rfl (L' := #[.val (.ref o), .val (.long q1), .second, .val (.int (1 : Int32))]) rfl ?_
  refine own_goto X (pc := 25) (pc' := 2) d9_25 (by decide) (by decide) ?_
  refine own_iloadN X d9_2 rfl ?_
  refine own_iconst X (2) d9_3 rfl ?_
  refine own_aloadN X d9_4 rfl rfl ?_
  refine own_getF X (host := "") (Or.inl (hw _ (List.mem_of_getElem? (i := 38) rfl))) Via.refl F_size_o d9_5 (fun T X => ?_)
  refine own_imulE X d9_8 (2 : Int32) (by decide) ?_
  refine own_icmpNo X d9_9 (tlt (own_cLt (a := 1) (b := 2) rfl rfl (by decide))).2.1 ?_
  refine own_aloadN X d9_12 rfl rfl ?_
  refine own_getF X (host := "") (Or.inl (hw _ (List.mem_of_getElem? (i := 11) rfl))) Via.refl F_spans_o d9_13 (fun T X => ?_)
  refine own_iloadN X d9_16 rfl ?_
  refine own_dup2 X d9_17 rfl rfl ?_
  refine own_laload X A_a1 (own_cGe (a := 1) (b := 0) rfl rfl (by omega)) (own_cLt (a := 1) (b := 2048) rfl rfl (by omega)) d9_18 (fun v4 hv4 lv4 uv4 => ?_)
  have ev4 : v4 = (f1 (1 : Int32)) := by rw [← hv4, hf3, own_upd_miss (by decide)]
  have rv4 : v4.toInt = (f1 (1 : Int32)).toInt := congrArg Int64.toInt ev4
  refine own_lloadN X d9_19 rfl ?_
  refine own_laddV X (v4.toInt) (q1.toInt) d9_20 rfl rfl (fun v5 hv5 cv5 lv5 uv5 => ?_)
  refine own_lastore X A_a1 (own_cGe (a := 1) (b := 0) rfl rfl (by omega)) (own_cLt (a := 1) (b := 2048) rfl rfl (by omega)) ge_a1 d9_21 (fun T h X f6 hf6 A_a1 W => ?_)
  have K := K.wr W (Or.inl (List.mem_of_getElem? (i := 0) rfl))
  have E_o := E_o.wr W
  have F_spans_o := F_spans_o.other W (Or.inl ne_o_a1)
  have F_size_o := F_size_o.other W (Or.inl ne_o_a1)
  refine own_iinc X d9_22 rfl rfl (L' := #[.val (.ref o), .val (.long q1), .second, .val (.int (2 : Int32))]) rfl ?_
  refine own_goto X (pc := 25) (pc' := 2) d9_25 (by decide) (by decide) ?_
  refine own_iloadN X d9_2 rfl ?_
  refine own_iconst X (2) d9_3 rfl ?_
  refine own_aloadN X d9_4 rfl rfl ?_
  refine own_getF X (host := "") (Or.inl (hw _ (List.mem_of_getElem? (i := 38) rfl))) Via.refl F_size_o d9_5 (fun T X => ?_)
  refine own_imulE X d9_8 (2 : Int32) (by decide) ?_
  refine own_icmpYes X (pc := 9) (pc' := 28) d9_9 (flt (own_cGe (a := 2) (b := 2) rfl rfl (by decide))).2.1 (by decide) (by decide) ?_
  refine own_retV X d9_28 (by decide) (by decide) ⟨rfl, ?_⟩
  exact ⟨K, f6, A_a1, by rw [hf6, own_upd_miss (by decide), hf3, own_upd_hit, ← hv2, ← hv1], by rw [hf6, own_upd_hit, ← hv5, ← hv4, hf3, own_upd_miss (by decide)]⟩
theorem ef_rmF_2 (m : MethodId) (o : Addr) (q1 : Int64) : entryFrame m #[(.ref o), (.long q1)] 4 = mkF m 0 #[.val (.ref o), .val (.long q1), .second, .unset] [] := by first | (simp [entryFrame, mkF, argsToLocals, Value.category]; done) | rfl
set_option maxRecDepth 65536 in
set_option maxHeartbeats 40000000 in
theorem rmF_2 (l : Launch) (Z : State) (a0 : Array Value) (hw : ∀ d ∈ tables_1, d.before a0 Z = true) (ws : List Jvm.Cond) (o : Addr) (q1 : Int64) (a1 : Addr) (f1 : Int32 → Int64) (h0 : Heap) (n0 : Nat) (hn0 : n0 ≤ h0.size) (E_o : Exa Z h0 o "com/example/vacancy/vacancy/state/LeaseSpans") (F_spans_o : Fld Z h0 o "com/example/vacancy/vacancy/state/LeaseSpans" "spans" "[J" (.ref a1)) (F_size_o : Fld Z h0 o "com/example/vacancy/vacancy/state/LeaseSpans" "size" "I" (.int 2)) (A_a1 : own_AJ Z h0 a1 2048 f1) (ge_a1 : n0 ≤ a1) :
    own_Met l Z (⟨"com/example/vacancy/vacancy/state/LeaseSpans", "shift", "(J)V"⟩ : MethodName) prog_53_method_5_code 4 none ws ({ frames := 0, cells := 0, slots := 0, locals := 0 } : Room) #[(.ref o), (.long q1)] h0 n0 (own_QV fun h => Keep h0 h [a1] ∧ ∃ f' : Int32 → Int64, own_AJ Z h a1 2048 f' ∧ f' 0 = f1 0 + q1 ∧ f' 1 = f1 1 + q1 ∧ f' 2 = f1 2 + q1 ∧ f' 3 = f1 3 + q1) := by
  refine own_met pn_9 hn0 (fun p e s m below meth c T X => ?_)
  refine own_cast (ef_rmF_2 m o q1) ?_
  have r_q1 := rng64 q1
  have K := Keep.refl h0 [a1]
  have ne_o_a1 : o ≠ a1 := own_ne_aj E_o (hw _ (List.mem_of_getElem? (i := 2) rfl)) A_a1
  refine own_iconst X (0) d9_0 rfl ?_
  refine own_istoreN X d9_1 (L' := #[.val (.ref o), .val (.long q1), .second, .val (.int (0 : Int32))]) rfl ?_
  refine own_iloadN X d9_2 rfl ?_
  refine own_iconst X (2) d9_3 rfl ?_
  refine own_aloadN X d9_4 rfl rfl ?_
  refine own_getF X (host := "") (Or.inl (hw _ (List.mem_of_getElem? (i := 38) rfl))) Via.refl F_size_o d9_5 (fun T X => ?_)
  refine own_imulE X d9_8 (4 : Int32) (by decide) ?_
  refine own_icmpNo X d9_9 (tlt (own_cLt (a := 0) (b := 4) rfl rfl (by decide))).2.1 ?_
  refine own_aloadN X d9_12 rfl rfl ?_
  refine own_getF X (host := "") (Or.inl (hw _ (List.mem_of_getElem? (i := 11) rfl))) Via.refl F_spans_o d9_13 (fun T X => ?_)
  refine own_iloadN X d9_16 rfl ?_
  refine own_dup2 X d9_17 rfl rfl ?_
  refine own_laload X A_a1 (own_cGe (a := 0) (b := 0) rfl rfl (by omega)) (own_cLt (a := 0) (b := 2048) rfl rfl (by omega)) d9_18 (fun v1 hv1 lv1 uv1 => ?_)
  refine own_lloadN X d9_19 rfl ?_
  refine own_laddV X (v1.toInt) (q1.toInt) d9_20 rfl rfl (fun v2 hv2 cv2 lv2 uv2 => ?_)
  refine own_lastore X A_a1 (own_cGe (a := 0) (b := 0) rfl rfl (by omega)) (own_cLt (a := 0) (b := 2048) rfl rfl (by omega)) ge_a1 d9_21 (fun T h X f3 hf3 A_a1 W => ?_)
  have K := K.wr W (Or.inl (List.mem_of_getElem? (i := 0) rfl))
  have E_o := E_o.wr W
  have F_spans_o := F_spans_o.other W (Or.inl ne_o_a1)
  have F_size_o := F_size_o.other W (Or.inl ne_o_a1)
  refine own_iinc X d9_22 rfl rfl (L' := #[.val (.ref o), .val (.long q1), .second, .val (.int (1 : Int32))]) rfl ?_
  refine own_goto X (pc := 25) (pc' := 2) d9_25 (by decide) (by decide) ?_
  refine own_iloadN X d9_2 rfl ?_
  refine own_iconst X (2) d9_3 rfl ?_
  refine own_aloadN X d9_4 rfl rfl ?_
  refine own_getF X (host := "") (Or.inl (hw _ (List.mem_of_getElem? (i := 38) rfl))) Via.refl F_size_o d9_5 (fun T X => ?_)
  refine own_imulE X d9_8 (4 : Int32) (by decide) ?_
  refine own_icmpNo X d9_9 (tlt (own_cLt (a := 1) (b := 4) rfl rfl (by decide))).2.1 ?_
  refine own_aloadN X d9_12 rfl rfl ?_
  refine own_getF X (host := "") (Or.inl (hw _ (List.mem_of_getElem? (i := 11) rfl))) Via.refl F_spans_o d9_13 (fun T X => ?_)
  refine own_iloadN X d9_16 rfl ?_
  refine own_dup2 X d9_17 rfl rfl ?_
  refine own_laload X A_a1 (own_cGe (a := 1) (b := 0) rfl rfl (by omega)) (own_cLt (a := 1) (b := 2048) rfl rfl (by omega)) d9_18 (fun v4 hv4 lv4 uv4 => ?_)
  have ev4 : v4 = (f1 (1 : Int32)) := by rw [← hv4, hf3, own_upd_miss (by decide)]
  have rv4 : v4.toInt = (f1 (1 : Int32)).toInt := congrArg Int64.toInt ev4
  refine own_lloadN X d9_19 rfl ?_
  refine own_laddV X (v4.toInt) (q1.toInt) d9_20 rfl rfl (fun v5 hv5 cv5 lv5 uv5 => ?_)
  refine own_lastore X A_a1 (own_cGe (a := 1) (b := 0) rfl rfl (by omega)) (own_cLt (a := 1) (b := 2048) rfl rfl (by omega)) ge_a1 d9_21 (fun T h X f6 hf6 A_a1 W => ?_)
  have K := K.wr W (Or.inl (List.mem_of_getElem? (i := 0) rfl))
  have E_o := E_o.wr W
  have F_spans_o := F_spans_o.other W (Or.inl ne_o_a1)
  have F_size_o := F_size_o.other W (Or.inl ne_o_a1)
  refine own_iinc X d9_22 rfl rfl (L' := #[.val (.ref o), .val (.long q1), .second, .val (.int (2 : Int32))]) rfl ?_
  refine own_goto X (pc := 25) (pc' := 2) d9_25 (by decide) (by decide) ?_
  refine own_iloadN X d9_2 rfl ?_
  refine own_iconst X (2) d9_3 rfl ?_
  refine own_aloadN X d9_4 rfl rfl ?_
  refine own_getF X (host := "") (Or.inl (hw _ (List.mem_of_getElem? (i := 38) rfl))) Via.refl F_size_o d9_5 (fun T X => ?_)
  refine own_imulE X d9_8 (4 : Int32) (by decide) ?_
  refine own_icmpNo X d9_9 (tlt (own_cLt (a := 2) (b := 4) rfl rfl (by decide))).2.1 ?_
  refine own_aloadN X d9_12 rfl rfl ?_
  refine own_getF X (host := "") (Or.inl (hw _ (List.mem_of_getElem? (i := 11) rfl))) Via.refl F_spans_o d9_13 (fun T X => ?_)
  refine own_iloadN X d9_16 rfl ?_
  refine own_dup2 X d9_17 rfl rfl ?_
  refine own_laload X A_a1 (own_cGe (a := 2) (b := 0) rfl rfl (by omega)) (own_cLt (a := 2) (b := 2048) rfl rfl (by omega)) d9_18 (fun v7 hv7 lv7 uv7 => ?_)
  have ev7 : v7 = (f1 (2 : Int32)) := by rw [← hv7, hf6, own_upd_miss (by decide), hf3, own_upd_miss (by decide)]
  have rv7 : v7.toInt = (f1 (2 : Int32)).toInt := congrArg Int64.toInt ev7
  refine own_lloadN X d9_19 rfl ?_
  refine own_laddV X (v7.toInt) (q1.toInt) d9_20 rfl rfl (fun v8 hv8 cv8 lv8 uv8 => ?_)
  refine own_lastore X A_a1 (own_cGe (a := 2) (b := 0) rfl rfl (by omega)) (own_cLt (a := 2) (b := 2048) rfl rfl (by omega)) ge_a1 d9_21 (fun T h X f9 hf9 A_a1 W => ?_)
  have K := K.wr W (Or.inl (List.mem_of_getElem? (i := 0) rfl))
  have E_o := E_o.wr W
  have F_spans_o := F_spans_o.other W (Or.inl ne_o_a1)
  have F_size_o := F_size_o.other W (Or.inl ne_o_a1)
  refine own_iinc X d9_22 rfl rfl (L' := #[.val (.ref o), .val (.long q1), .second, .val (.int (3 : Int32))]) rfl ?_
  refine own_goto X (pc := 25) (pc' := 2) d9_25 (by decide) (by decide) ?_
  refine own_iloadN X d9_2 rfl ?_
  refine own_iconst X (2) d9_3 rfl ?_
  refine own_aloadN X d9_4 rfl rfl ?_
  refine own_getF X (host := "") (Or.inl (hw _ (List.mem_of_getElem? (i := 38) rfl))) Via.refl F_size_o d9_5 (fun T X => ?_)
  refine own_imulE X d9_8 (4 : Int32) (by decide) ?_
  refine own_icmpNo X d9_9 (tlt (own_cLt (a := 3) (b := 4) rfl rfl (by decide))).2.1 ?_
  refine own_aloadN X d9_12 rfl rfl ?_
  refine own_getF X (host := "") (Or.inl (hw _ (List.mem_of_getElem? (i := 11) rfl))) Via.refl F_spans_o d9_13 (fun T X => ?_)
  refine own_iloadN X d9_16 rfl ?_
  refine own_dup2 X d9_17 rfl rfl ?_
  refine own_laload X A_a1 (own_cGe (a := 3) (b := 0) rfl rfl (by omega)) (own_cLt (a := 3) (b := 2048) rfl rfl (by omega)) d9_18 (fun v10 hv10 lv10 uv10 => ?_)
  have ev10 : v10 = (f1 (3 : Int32)) := by rw [← hv10, hf9, own_upd_miss (by decide), hf6, own_upd_miss (by decide), hf3, own_upd_miss (by decide)]
  have rv10 : v10.toInt = (f1 (3 : Int32)).toInt := congrArg Int64.toInt ev10
  refine own_lloadN X d9_19 rfl ?_
  refine own_laddV X (v10.toInt) (q1.toInt) d9_20 rfl rfl (fun v11 hv11 cv11 lv11 uv11 => ?_)
  refine own_lastore X A_a1 (own_cGe (a := 3) (b := 0) rfl rfl (by omega)) (own_cLt (a := 3) (b := 2048) rfl rfl (by omega)) ge_a1 d9_21 (fun T h X f12 hf12 A_a1 W => ?_)
  have K := K.wr W (Or.inl (List.mem_of_getElem? (i := 0) rfl))
  have E_o := E_o.wr W
  have F_spans_o := F_spans_o.other W (Or.inl ne_o_a1)
  have F_size_o := F_size_o.other W (Or.inl ne_o_a1)
  refine own_iinc X d9_22 rfl rfl (L' := #[.val (.ref o), .val (.long q1), .second, .val (.int (4 : Int32))]) rfl ?_
  refine own_goto X (pc := 25) (pc' := 2) d9_25 (by decide) (by decide) ?_
  refine own_iloadN X d9_2 rfl ?_
  refine own_iconst X (2) d9_3 rfl ?_
  refine own_aloadN X d9_4 rfl rfl ?_
  refine own_getF X (host := "") (Or.inl (hw _ (List.mem_of_getElem? (i := 38) rfl))) Via.refl F_size_o d9_5 (fun T X => ?_)
  refine own_imulE X d9_8 (4 : Int32) (by decide) ?_
  refine own_icmpYes X (pc := 9) (pc' := 28) d9_9 (flt (own_cGe (a := 4) (b := 4) rfl rfl (by decide))).2.1 (by decide) (by decide) ?_
  refine own_retV X d9_28 (by decide) (by decide) ⟨rfl, ?_⟩
  exact ⟨K, f12, A_a1, by rw [hf12, own_upd_miss (by decide), hf9, own_upd_miss (by decide), hf6, own_upd_miss (by decide), hf3, own_upd_hit, ← hv2, ← hv1], by rw [hf12, own_upd_miss (by decide), hf9, own_upd_miss (by decide), hf6, own_upd_hit, ← hv5, ← hv4, hf3, own_upd_miss (by decide)], by rw [hf12, own_upd_miss (by decide), hf9, own_upd_hit, ← hv8, ← hv7, hf6, own_upd_miss (by decide), hf3, own_upd_miss (by decide)], by rw [hf12, own_upd_hit, ← hv11, ← hv10, hf9, own_upd_miss (by decide), hf6, own_upd_miss (by decide), hf3, own_upd_miss (by decide)]⟩
theorem ef_rm11 (m : MethodId) (o : Addr) : entryFrame m #[(.ref o), (.int (0 : Int32))] 3 = mkF m 0 #[.val (.ref o), .val (.int (0 : Int32)), .unset] [] := by first | (simp [entryFrame, mkF, argsToLocals, Value.category]; done) | rfl
theorem d11_0 : decode prog_53_method_9_code 0 = .ok (.aload_n 0, 1) := by decide +kernel
theorem d11_1 : decode prog_53_method_9_code 1 = .ok (.getfield 39, 3) := by decide +kernel
theorem d11_4 : decode prog_53_method_9_code 4 = .ok (.ifnonnull 7, 3) := by decide +kernel
theorem d11_7 : decode prog_53_method_9_code 7 = .ok (.aconst_null, 1) := by decide +kernel
theorem d11_8 : decode prog_53_method_9_code 8 = .ok (.goto 19, 3) := by decide +kernel
theorem d11_27 : decode prog_53_method_9_code 27 = .ok (.astore_n 2, 1) := by decide +kernel
theorem d11_28 : decode prog_53_method_9_code 28 = .ok (.new 27, 3) := by decide +kernel
theorem d11_31 : decode prog_53_method_9_code 31 = .ok (.dup, 1) := by decide +kernel
theorem d11_32 : decode prog_53_method_9_code 32 = .ok (.aload_n 2, 1) := by decide +kernel
theorem d11_33 : decode prog_53_method_9_code 33 = .ok (.aload_n 0, 1) := by decide +kernel
theorem d11_34 : decode prog_53_method_9_code 34 = .ok (.getfield 13, 3) := by decide +kernel
theorem d11_37 : decode prog_53_method_9_code 37 = .ok (.iconst 2, 1) := by decide +kernel
theorem d11_38 : decode prog_53_method_9_code 38 = .ok (.iload_n 1, 1) := by decide +kernel
theorem d11_39 : decode prog_53_method_9_code 39 = .ok (.imul, 1) := by decide +kernel
theorem d11_40 : decode prog_53_method_9_code 40 = .ok (.laload, 1) := by decide +kernel
theorem d11_41 : decode prog_53_method_9_code 41 = .ok (.aload_n 0, 1) := by decide +kernel
theorem d11_42 : decode prog_53_method_9_code 42 = .ok (.getfield 13, 3) := by decide +kernel
theorem d11_45 : decode prog_53_method_9_code 45 = .ok (.iconst 2, 1) := by decide +kernel
theorem d11_46 : decode prog_53_method_9_code 46 = .ok (.iload_n 1, 1) := by decide +kernel
theorem d11_47 : decode prog_53_method_9_code 47 = .ok (.imul, 1) := by decide +kernel
theorem d11_48 : decode prog_53_method_9_code 48 = .ok (.iconst 1, 1) := by decide +kernel
theorem d11_49 : decode prog_53_method_9_code 49 = .ok (.iadd, 1) := by decide +kernel
theorem d11_50 : decode prog_53_method_9_code 50 = .ok (.laload, 1) := by decide +kernel
theorem d11_51 : decode prog_53_method_9_code 51 = .ok (.invokespecial 79, 3) := by decide +kernel
theorem pd_9 : parseMethodDescriptor "(Ljava/lang/String;JJ)V" = some ⟨[(.object "java/lang/String"), .long, .long], none⟩ := by decide +kernel
theorem d11_54 : decode prog_53_method_9_code 54 = .ok (.areturn, 1) := by decide +kernel
theorem pn_11 : plainFor (⟨"com/example/vacancy/vacancy/state/LeaseSpans", "key", "(I)Lcom/example/vacancy/vacancy/slots/LeaseKey;"⟩ : MethodName) = true := plainFor_of_name (show plainName "com/example/vacancy/vacancy/state/LeaseSpans" = true from by first | (simp [plainName, overriddenIn]; done) | decide +kernel)
set_option maxRecDepth 65536 in
set_option maxHeartbeats 40000000 in
theorem rm11 (l : Launch) (Z : State) (a0 : Array Value) (hw : ∀ d ∈ tables_1, d.before a0 Z = true) (ws : List Jvm.Cond) (o : Addr) (a2 : Addr) (f2 : Int32 → Int64) (h0 : Heap) (n0 : Nat) (hn0 : n0 ≤ h0.size) (F_bits_o : Fld Z h0 o "com/example/vacancy/vacancy/state/LeaseSpans" "bits" "[J" (.ref a2)) (F_texts_o : Fld Z h0 o "com/example/vacancy/vacancy/state/LeaseSpans" "texts" "Ljava/util/Map;" .null) (A_a2 : own_AJ Z h0 a2 2048 f2) :
    own_Met l Z (⟨"com/example/vacancy/vacancy/state/LeaseSpans", "key", "(I)Lcom/example/vacancy/vacancy/slots/LeaseKey;"⟩ : MethodName) prog_53_method_9_code 3 (some (.object "com/example/vacancy/vacancy/slots/LeaseKey")) ws ({ frames := 3, cells := 1, slots := 3, locals := 42 } : Room) #[(.ref o), (.int (0 : Int32))] h0 n0 (own_QR fun z h => Keep h0 h [] ∧ ∃ b : Addr, z = .ref b ∧ n0 ≤ b ∧ Exa Z h b "com/example/vacancy/vacancy/slots/LeaseKey" ∧ Fld Z h b "com/example/vacancy/vacancy/slots/LeaseKey" "high" "J" (.long (f2 0)) ∧ Fld Z h b "com/example/vacancy/vacancy/slots/LeaseKey" "low" "J" (.long (f2 1))) := by
  refine own_met pn_11 hn0 (fun p e s m below meth c T X => ?_)
  refine own_cast (ef_rm11 m o) ?_
  have K := Keep.refl h0 []
  refine own_aloadN X d11_0 rfl rfl ?_
  refine own_getF X (host := "") (Or.inl (hw _ (List.mem_of_getElem? (i := 70) rfl))) Via.refl F_texts_o d11_1 (fun T X => ?_)
  refine own_ifnonnullNo X d11_4 ?_
  refine own_aconstNull X d11_7 ?_
  refine own_goto X (pc := 8) (pc' := 27) d11_8 (by decide) (by decide) ?_
  refine own_astoreN X d11_27 rfl (L' := #[.val (.ref o), .val (.int (0 : Int32)), .val .null]) rfl ?_
  refine own_newO X (hw _ (List.mem_of_getElem? (i := 72) rfl)) (hw _ (List.mem_of_getElem? (i := 16) rfl)) (hw _ (List.mem_of_getElem? (i := 17) rfl)) d11_28 (by decide) (by decide) (fun T h b1 hb_b1 ge_b1 X E E_b1 D => ?_)
  have ne_o_b1 : o ≠ b1 := Nat.ne_of_lt (Nat.lt_of_lt_of_eq F_bits_o.lt hb_b1.symm)
  have ne_a2_b1 : a2 ≠ b1 := Nat.ne_of_lt (Nat.lt_of_lt_of_eq A_a2.lt hb_b1.symm)
  have sz_b1 : h0.size ≤ b1 := Nat.le_trans K.1 (Nat.le_of_eq hb_b1.symm)
  have K := K.ext E
  have F_bits_o := F_bits_o.ext E
  have F_texts_o := F_texts_o.ext E
  have A_a2 := A_a2.ext E
  have F_text_b1 : Fld Z h b1 "com/example/vacancy/vacancy/slots/LeaseKey" "text" "Ljava/lang/String;" .null := D (Or.inr (hw _ (List.mem_of_getElem? (i := 28) rfl))) (ty := (.object "java/lang/String")) (by decide)
  have F_high_b1 : Fld Z h b1 "com/example/vacancy/vacancy/slots/LeaseKey" "high" "J" (.long (0 : Int64)) := D (Or.inr (hw _ (List.mem_of_getElem? (i := 30) rfl))) (ty := .long) (by decide)
  have F_low_b1 : Fld Z h b1 "com/example/vacancy/vacancy/slots/LeaseKey" "low" "J" (.long (0 : Int64)) := D (Or.inr (hw _ (List.mem_of_getElem? (i := 32) rfl))) (ty := .long) (by decide)
  refine own_dup X d11_31 rfl ?_
  refine own_aloadN X d11_32 rfl rfl ?_
  refine own_aloadN X d11_33 rfl rfl ?_
  refine own_getF X (host := "") (Or.inl (hw _ (List.mem_of_getElem? (i := 13) rfl))) Via.refl F_bits_o d11_34 (fun T X => ?_)
  refine own_iconst X (2) d11_37 rfl ?_
  refine own_iloadN X d11_38 rfl ?_
  refine own_imulE X d11_39 (0 : Int32) (by decide) ?_
  refine own_laload X A_a2 (own_cGe (a := 0) (b := 0) rfl rfl (by omega)) (own_cLt (a := 0) (b := 2048) rfl rfl (by omega)) d11_40 (fun v2 hv2 lv2 uv2 => ?_)
  refine own_aloadN X d11_41 rfl rfl ?_
  refine own_getF X (host := "") (Or.inl (hw _ (List.mem_of_getElem? (i := 13) rfl))) Via.refl F_bits_o d11_42 (fun T X => ?_)
  refine own_iconst X (2) d11_45 rfl ?_
  refine own_iloadN X d11_46 rfl ?_
  refine own_imulE X d11_47 (0 : Int32) (by decide) ?_
  refine own_iconst X (1) d11_48 rfl ?_
  refine own_iaddE X d11_49 (1 : Int32) (by decide) ?_
  refine own_laload X A_a2 (own_cGe (a := 1) (b := 0) rfl rfl (by omega)) (own_cLt (a := 1) (b := 2048) rfl rfl (by omega)) d11_50 (fun v3 hv3 lv3 uv3 => ?_)
  refine own_callI X (W := 1) (a := b1) (argsL := [.null, (.long v2), (.long v3)]) (rest := [(.ref b1)]) rfl (hw _ (List.mem_of_getElem? (i := 73) rfl)) (hw _ (List.mem_of_getElem? (i := 19) rfl)) (hw _ (List.mem_of_getElem? (i := 17) rfl)) (hw _ (List.mem_of_getElem? (i := 20) rfl)) (by decide) (rm3 l Z a0 hw [] b1 v2 v3 h n0 (own_size X) E_b1 F_text_b1 F_high_b1 F_low_b1 ge_b1) (by decide) (by decide) (by decide) (by decide) rfl (lenOf pd_9 rfl) rfl (Nat.le_of_eq rfl) d11_51 (own_contVH fun T h X hq4 => ?_)
  obtain ⟨Kc, E_b1, F_text_b1, F_high_b1, F_low_b1⟩ := hq4
  have K := K.trans Kc (allS (Or.inr sz_b1) all0)
  have F_bits_o := F_bits_o.keep Kc (ninS ne_o_b1 nin0)
  have F_texts_o := F_texts_o.keep Kc (ninS ne_o_b1 nin0)
  have A_a2 := A_a2.keep Kc (ninS ne_a2_b1 nin0)
  refine own_retR X rfl rfl d11_54 (by decide) (by decide) ⟨_, rfl, ?_⟩
  exact ⟨K, b1, rfl, ge_b1, E_b1, by rw [hv2]; exact F_high_b1, by rw [hv3]; exact F_low_b1⟩
theorem ef_rmS_start_0 (m : MethodId) (o : Addr) : entryFrame m #[(.ref o), (.int (0 : Int32))] 2 = mkF m 0 #[.val (.ref o), .val (.int (0 : Int32))] [] := by first | (simp [entryFrame, mkF, argsToLocals, Value.category]; done) | rfl
theorem d12_0 : decode prog_53_method_7_code 0 = .ok (.aload_n 0, 1) := by decide +kernel
theorem d12_1 : decode prog_53_method_7_code 1 = .ok (.getfield 9, 3) := by decide +kernel
theorem d12_4 : decode prog_53_method_7_code 4 = .ok (.iconst 2, 1) := by decide +kernel
theorem d12_5 : decode prog_53_method_7_code 5 = .ok (.iload_n 1, 1) := by decide +kernel
theorem d12_6 : decode prog_53_method_7_code 6 = .ok (.imul, 1) := by decide +kernel
theorem d12_7 : decode prog_53_method_7_code 7 = .ok (.laload, 1) := by decide +kernel
theorem d12_8 : decode prog_53_method_7_code 8 = .ok (.lreturn, 1) := by decide +kernel
theorem pn_12 : plainFor (⟨"com/example/vacancy/vacancy/state/LeaseSpans", "start", "(I)J"⟩ : MethodName) = true := plainFor_of_name (show plainName "com/example/vacancy/vacancy/state/LeaseSpans" = true from by first | (simp [plainName, overriddenIn]; done) | decide +kernel)
set_option maxRecDepth 65536 in
set_option maxHeartbeats 40000000 in
theorem rmS_start_0 (l : Launch) (Z : State) (a0 : Array Value) (hw : ∀ d ∈ tables_1, d.before a0 Z = true) (ws : List Jvm.Cond) (o : Addr) (a1 : Addr) (f1 : Int32 → Int64) (h0 : Heap) (n0 : Nat) (hn0 : n0 ≤ h0.size) (F_spans_o : Fld Z h0 o "com/example/vacancy/vacancy/state/LeaseSpans" "spans" "[J" (.ref a1)) (A_a1 : own_AJ Z h0 a1 2048 f1) :
    own_Met l Z (⟨"com/example/vacancy/vacancy/state/LeaseSpans", "start", "(I)J"⟩ : MethodName) prog_53_method_7_code 2 (some .long) ws ({ frames := 0, cells := 0, slots := 0, locals := 0 } : Room) #[(.ref o), (.int (0 : Int32))] h0 n0 (own_QJ fun z h => (z = f1 0) ∧ h = h0) := by
  refine own_met pn_12 hn0 (fun p e s m below meth c T X => ?_)
  refine own_cast (ef_rmS_start_0 m o) ?_
  refine own_aloadN X d12_0 rfl rfl ?_
  refine own_getF X (host := "") (Or.inl (hw _ (List.mem_of_getElem? (i := 11) rfl))) Via.refl F_spans_o d12_1 (fun T X => ?_)
  refine own_iconst X (2) d12_4 rfl ?_
  refine own_iloadN X d12_5 rfl ?_
  refine own_imulE X d12_6 (0 : Int32) (by decide) ?_
  refine own_laload X A_a1 (own_cGe (a := 0) (b := 0) rfl rfl (by omega)) (own_cLt (a := 0) (b := 2048) rfl rfl (by omega)) d12_7 (fun v1 hv1 lv1 uv1 => ?_)
  refine own_retJ X d12_8 (by decide) (by decide) ⟨_, rfl, ?_⟩
  exact ⟨hv1.symm, rfl⟩
theorem ef_rmS_start_1 (m : MethodId) (o : Addr) : entryFrame m #[(.ref o), (.int (1 : Int32))] 2 = mkF m 0 #[.val (.ref o), .val (.int (1 : Int32))] [] := by first | (simp [entryFrame, mkF, argsToLocals, Value.category]; done) | rfl
set_option maxRecDepth 65536 in
set_option maxHeartbeats 40000000 in
theorem rmS_start_1 (l : Launch) (Z : State) (a0 : Array Value) (hw : ∀ d ∈ tables_1, d.before a0 Z = true) (ws : List Jvm.Cond) (o : Addr) (a1 : Addr) (f1 : Int32 → Int64) (h0 : Heap) (n0 : Nat) (hn0 : n0 ≤ h0.size) (F_spans_o : Fld Z h0 o "com/example/vacancy/vacancy/state/LeaseSpans" "spans" "[J" (.ref a1)) (A_a1 : own_AJ Z h0 a1 2048 f1) :
    own_Met l Z (⟨"com/example/vacancy/vacancy/state/LeaseSpans", "start", "(I)J"⟩ : MethodName) prog_53_method_7_code 2 (some .long) ws ({ frames := 0, cells := 0, slots := 0, locals := 0 } : Room) #[(.ref o), (.int (1 : Int32))] h0 n0 (own_QJ fun z h => (z = f1 2) ∧ h = h0) := by
  refine own_met pn_12 hn0 (fun p e s m below meth c T X => ?_)
  refine own_cast (ef_rmS_start_1 m o) ?_
  refine own_aloadN X d12_0 rfl rfl ?_
  refine own_getF X (host := "") (Or.inl (hw _ (List.mem_of_getElem? (i := 11) rfl))) Via.refl F_spans_o d12_1 (fun T X => ?_)
  refine own_iconst X (2) d12_4 rfl ?_
  refine own_iloadN X d12_5 rfl ?_
  refine own_imulE X d12_6 (2 : Int32) (by decide) ?_
  refine own_laload X A_a1 (own_cGe (a := 2) (b := 0) rfl rfl (by omega)) (own_cLt (a := 2) (b := 2048) rfl rfl (by omega)) d12_7 (fun v1 hv1 lv1 uv1 => ?_)
  refine own_retJ X d12_8 (by decide) (by decide) ⟨_, rfl, ?_⟩
  exact ⟨hv1.symm, rfl⟩
theorem ef_rmS_end_0 (m : MethodId) (o : Addr) : entryFrame m #[(.ref o), (.int (0 : Int32))] 2 = mkF m 0 #[.val (.ref o), .val (.int (0 : Int32))] [] := by first | (simp [entryFrame, mkF, argsToLocals, Value.category]; done) | rfl
theorem d13_0 : decode prog_53_method_8_code 0 = .ok (.aload_n 0, 1) := by decide +kernel
theorem d13_1 : decode prog_53_method_8_code 1 = .ok (.getfield 9, 3) := by decide +kernel
theorem d13_4 : decode prog_53_method_8_code 4 = .ok (.iconst 2, 1) := by decide +kernel
theorem d13_5 : decode prog_53_method_8_code 5 = .ok (.iload_n 1, 1) := by decide +kernel
theorem d13_6 : decode prog_53_method_8_code 6 = .ok (.imul, 1) := by decide +kernel
theorem d13_7 : decode prog_53_method_8_code 7 = .ok (.iconst 1, 1) := by decide +kernel
theorem d13_8 : decode prog_53_method_8_code 8 = .ok (.iadd, 1) := by decide +kernel
theorem d13_9 : decode prog_53_method_8_code 9 = .ok (.laload, 1) := by decide +kernel
theorem d13_10 : decode prog_53_method_8_code 10 = .ok (.lreturn, 1) := by decide +kernel
theorem pn_13 : plainFor (⟨"com/example/vacancy/vacancy/state/LeaseSpans", "end", "(I)J"⟩ : MethodName) = true := plainFor_of_name (show plainName "com/example/vacancy/vacancy/state/LeaseSpans" = true from by first | (simp [plainName, overriddenIn]; done) | decide +kernel)
set_option maxRecDepth 65536 in
set_option maxHeartbeats 40000000 in
theorem rmS_end_0 (l : Launch) (Z : State) (a0 : Array Value) (hw : ∀ d ∈ tables_1, d.before a0 Z = true) (ws : List Jvm.Cond) (o : Addr) (a1 : Addr) (f1 : Int32 → Int64) (h0 : Heap) (n0 : Nat) (hn0 : n0 ≤ h0.size) (F_spans_o : Fld Z h0 o "com/example/vacancy/vacancy/state/LeaseSpans" "spans" "[J" (.ref a1)) (A_a1 : own_AJ Z h0 a1 2048 f1) :
    own_Met l Z (⟨"com/example/vacancy/vacancy/state/LeaseSpans", "end", "(I)J"⟩ : MethodName) prog_53_method_8_code 2 (some .long) ws ({ frames := 0, cells := 0, slots := 0, locals := 0 } : Room) #[(.ref o), (.int (0 : Int32))] h0 n0 (own_QJ fun z h => (z = f1 1) ∧ h = h0) := by
  refine own_met pn_13 hn0 (fun p e s m below meth c T X => ?_)
  refine own_cast (ef_rmS_end_0 m o) ?_
  refine own_aloadN X d13_0 rfl rfl ?_
  refine own_getF X (host := "") (Or.inl (hw _ (List.mem_of_getElem? (i := 11) rfl))) Via.refl F_spans_o d13_1 (fun T X => ?_)
  refine own_iconst X (2) d13_4 rfl ?_
  refine own_iloadN X d13_5 rfl ?_
  refine own_imulE X d13_6 (0 : Int32) (by decide) ?_
  refine own_iconst X (1) d13_7 rfl ?_
  refine own_iaddE X d13_8 (1 : Int32) (by decide) ?_
  refine own_laload X A_a1 (own_cGe (a := 1) (b := 0) rfl rfl (by omega)) (own_cLt (a := 1) (b := 2048) rfl rfl (by omega)) d13_9 (fun v1 hv1 lv1 uv1 => ?_)
  refine own_retJ X d13_10 (by decide) (by decide) ⟨_, rfl, ?_⟩
  exact ⟨hv1.symm, rfl⟩
theorem ef_rmS_end_1 (m : MethodId) (o : Addr) : entryFrame m #[(.ref o), (.int (1 : Int32))] 2 = mkF m 0 #[.val (.ref o), .val (.int (1 : Int32))] [] := by first | (simp [entryFrame, mkF, argsToLocals, Value.category]; done) | rfl
set_option maxRecDepth 65536 in
set_option maxHeartbeats 40000000 in
theorem rmS_end_1 (l : Launch) (Z : State) (a0 : Array Value) (hw : ∀ d ∈ tables_1, d.before a0 Z = true) (ws : List Jvm.Cond) (o : Addr) (a1 : Addr) (f1 : Int32 → Int64) (h0 : Heap) (n0 : Nat) (hn0 : n0 ≤ h0.size) (F_spans_o : Fld Z h0 o "com/example/vacancy/vacancy/state/LeaseSpans" "spans" "[J" (.ref a1)) (A_a1 : own_AJ Z h0 a1 2048 f1) :
    own_Met l Z (⟨"com/example/vacancy/vacancy/state/LeaseSpans", "end", "(I)J"⟩ : MethodName) prog_53_method_8_code 2 (some .long) ws ({ frames := 0, cells := 0, slots := 0, locals := 0 } : Room) #[(.ref o), (.int (1 : Int32))] h0 n0 (own_QJ fun z h => (z = f1 3) ∧ h = h0) := by
  refine own_met pn_13 hn0 (fun p e s m below meth c T X => ?_)
  refine own_cast (ef_rmS_end_1 m o) ?_
  refine own_aloadN X d13_0 rfl rfl ?_
  refine own_getF X (host := "") (Or.inl (hw _ (List.mem_of_getElem? (i := 11) rfl))) Via.refl F_spans_o d13_1 (fun T X => ?_)
  refine own_iconst X (2) d13_4 rfl ?_
  refine own_iloadN X d13_5 rfl ?_
  refine own_imulE X d13_6 (2 : Int32) (by decide) ?_
  refine own_iconst X (1) d13_7 rfl ?_
  refine own_iaddE X d13_8 (3 : Int32) (by decide) ?_
  refine own_laload X A_a1 (own_cGe (a := 3) (b := 0) rfl rfl (by omega)) (own_cLt (a := 3) (b := 2048) rfl rfl (by omega)) d13_9 (fun v1 hv1 lv1 uv1 => ?_)
  refine own_retJ X d13_10 (by decide) (by decide) ⟨_, rfl, ?_⟩
  exact ⟨hv1.symm, rfl⟩
theorem ef_rm0 (m : MethodId) (x0 : Int64) (x1 : Int64) (x2 : Int64) (x3 : Int64) (x4 : Int64) (x5 : Int32) : entryFrame m #[(.long x0), (.long x1), (.long x2), (.long x3), (.long x4), (.int x5)] maxLocals = mkF m 0 #[.val (.long x0), .second, .val (.long x1), .second, .val (.long x2), .second, .val (.long x3), .second, .val (.long x4), .second, .val (.int x5), .unset, .unset, .unset, .unset, .unset] [] := by first | (simp [entryFrame, mkF, argsToLocals, Value.category, maxLocals]; done) | rfl
theorem pd_6 : parseMethodDescriptor "(J)V" = some ⟨[.long], none⟩ := by decide +kernel
theorem pd_0 : parseMethodDescriptor "()I" = some ⟨[], some .int⟩ := by decide +kernel
theorem pd_8 : parseMethodDescriptor "(JJLcom/example/vacancy/vacancy/slots/LeaseKey;)V" = some ⟨[.long, .long, (.object "com/example/vacancy/vacancy/slots/LeaseKey")], none⟩ := by decide +kernel
theorem pd_5 : parseMethodDescriptor "(I)Lcom/example/vacancy/vacancy/slots/LeaseKey;" = some ⟨[.int], some (.object "com/example/vacancy/vacancy/slots/LeaseKey")⟩ := by decide +kernel
theorem pd_4 : parseMethodDescriptor "(I)J" = some ⟨[.int], some .long⟩ := by decide +kernel
theorem pn_0 : plainFor x = true := plainFor_of_name (show plainName "com/example/vacancy/vacancy/state/LeaseSpansShiftPinLaw" = true from by first | (simp [plainName, overriddenIn]; done) | decide +kernel)
set_option maxRecDepth 65536 in
set_option maxHeartbeats 40000000 in
theorem rm0 (l : Launch) (Z : State) (a0 : Array Value) (hw : ∀ d ∈ tables_1, d.before a0 Z = true) (ws : List Jvm.Cond) (x0 : Int64) (x1 : Int64) (x2 : Int64) (x3 : Int64) (x4 : Int64) (x5 : Int32) (h0 : Heap) (n0 : Nat) (hn0 : n0 ≤ h0.size) :
    own_Met l Z x code maxLocals ret ws room_1 #[(.long x0), (.long x1), (.long x2), (.long x3), (.long x4), (.int x5)] h0 n0 (own_QI fun z h => z = 1) := by
  refine own_met pn_0 hn0 (fun p e s m below meth c T X => ?_)
  refine own_cast (ef_rm0 m x0 x1 x2 x3 x4 x5) ?_
  change own_S p l e room_1 s m _ below meth c Z x code maxLocals (some .boolean) n0 T 0 0 h0 at X
  have r_x0 := rng64 x0
  have r_x1 := rng64 x1
  have r_x2 := rng64 x2
  have r_x3 := rng64 x3
  have r_x4 := rng64 x4
  have r_x5 := rng32 x5
  refine own_iload X at_0 rfl ?_
  refine own_ldc X (hw _ (List.mem_of_getElem? (i := 0) rfl)) at_2 ?_
  refine own_iandM X (x5.toInt) 31 2147483648 at_4 rfl (by decide) (by decide) (by decide) (fun v1 hv1 cv1 lv1 uv1 => ?_)
  refine own_iconst X (3) at_5 rfl ?_
  refine own_iremK X (v1.toInt) (3) at_6 (by decide) rfl rfl (fun v2 hv2 cv2 lv2 uv2 => ?_)
  refine own_istore X at_7 (L' := #[.val (.long x0), .second, .val (.long x1), .second, .val (.long x2), .second, .val (.long x3), .second, .val (.long x4), .second, .val (.int x5), .val (.int v2), .unset, .unset, .unset, .unset]) rfl ?_
  rcases (show v2.toInt = 0 ∨ v2.toInt = 1 ∨ v2.toInt = 2 from by omega) with hs | hs | hs
  · obtain rfl : v2 = (0 : Int32) := own_cEq (a := v2.toInt) (b := 0) rfl rfl hs
    refine own_newO X (hw _ (List.mem_of_getElem? (i := 1) rfl)) (hw _ (List.mem_of_getElem? (i := 2) rfl)) (hw _ (List.mem_of_getElem? (i := 3) rfl)) at_9 (by decide) (by decide) (fun T h b3 hb_b3 ge_b3 X E E_b3 D => ?_)
    have F_spans_b3 : Fld Z h b3 "com/example/vacancy/vacancy/state/LeaseSpans" "spans" "[J" .null := D (Or.inl (hw _ (List.mem_of_getElem? (i := 12) rfl))) (ty := (.array .long)) (by decide)
    have F_bits_b3 : Fld Z h b3 "com/example/vacancy/vacancy/state/LeaseSpans" "bits" "[J" .null := D (Or.inl (hw _ (List.mem_of_getElem? (i := 14) rfl))) (ty := (.array .long)) (by decide)
    have F_size_b3 : Fld Z h b3 "com/example/vacancy/vacancy/state/LeaseSpans" "size" "I" (.int (0 : Int32)) := D (Or.inl (hw _ (List.mem_of_getElem? (i := 39) rfl))) (ty := .int) (by decide)
    have F_texts_b3 : Fld Z h b3 "com/example/vacancy/vacancy/state/LeaseSpans" "texts" "Ljava/util/Map;" .null := D (Or.inl (hw _ (List.mem_of_getElem? (i := 71) rfl))) (ty := (.object "java/util/Map")) (by decide)
    refine own_dup X at_12 rfl ?_
    refine own_callI X (W := 1) (a := b3) (argsL := []) (rest := [(.ref b3)]) rfl (hw _ (List.mem_of_getElem? (i := 4) rfl)) (hw _ (List.mem_of_getElem? (i := 5) rfl)) (hw _ (List.mem_of_getElem? (i := 3) rfl)) (hw _ (List.mem_of_getElem? (i := 6) rfl)) (by decide) (rm1 l Z a0 hw [] b3 h n0 (own_size X) E_b3 F_spans_b3 F_bits_b3 F_size_b3 F_texts_b3 ge_b3) (by decide) (by decide) (by decide) (by decide) rfl (lenOf pd_3 rfl) rfl (Nat.le_of_eq rfl) at_13 (own_contVH fun T h X hq4 => ?_)
    obtain ⟨Kc, E_b3, F_size_b3, F_texts_b3, sa4, sb4, f4, g4, ne_sa4_sb4, ge_sa4, ge_sb4, F_spans_b3, F_bits_b3, A_sa4, A_sb4⟩ := hq4
    have ne_b3_sa4 : b3 ≠ sa4 := own_ne_aj E_b3 (hw _ (List.mem_of_getElem? (i := 2) rfl)) A_sa4
    have ne_b3_sb4 : b3 ≠ sb4 := own_ne_aj E_b3 (hw _ (List.mem_of_getElem? (i := 2) rfl)) A_sb4
    refine own_astore X at_16 rfl (L' := #[.val (.long x0), .second, .val (.long x1), .second, .val (.long x2), .second, .val (.long x3), .second, .val (.long x4), .second, .val (.int x5), .val (.int (0 : Int32)), .val (.ref b3), .unset, .unset, .unset]) rfl ?_
    refine own_newO X (hw _ (List.mem_of_getElem? (i := 15) rfl)) (hw _ (List.mem_of_getElem? (i := 16) rfl)) (hw _ (List.mem_of_getElem? (i := 17) rfl)) at_18 (by decide) (by decide) (fun T h b5 hb_b5 ge_b5 X E E_b5 D => ?_)
    have ne_b3_b5 : b3 ≠ b5 := Nat.ne_of_lt (Nat.lt_of_lt_of_eq E_b3.lt hb_b5.symm)
    have ne_sa4_b5 : sa4 ≠ b5 := Nat.ne_of_lt (Nat.lt_of_lt_of_eq A_sa4.lt hb_b5.symm)
    have ne_sb4_b5 : sb4 ≠ b5 := Nat.ne_of_lt (Nat.lt_of_lt_of_eq A_sb4.lt hb_b5.symm)
    have E_b3 := E_b3.ext E
    have F_spans_b3 := F_spans_b3.ext E
    have F_bits_b3 := F_bits_b3.ext E
    have F_size_b3 := F_size_b3.ext E
    have F_texts_b3 := F_texts_b3.ext E
    have A_sa4 := A_sa4.ext E
    have A_sb4 := A_sb4.ext E
    have F_text_b5 : Fld Z h b5 "com/example/vacancy/vacancy/slots/LeaseKey" "text" "Ljava/lang/String;" .null := D (Or.inr (hw _ (List.mem_of_getElem? (i := 28) rfl))) (ty := (.object "java/lang/String")) (by decide)
    have F_high_b5 : Fld Z h b5 "com/example/vacancy/vacancy/slots/LeaseKey" "high" "J" (.long (0 : Int64)) := D (Or.inr (hw _ (List.mem_of_getElem? (i := 30) rfl))) (ty := .long) (by decide)
    have F_low_b5 : Fld Z h b5 "com/example/vacancy/vacancy/slots/LeaseKey" "low" "J" (.long (0 : Int64)) := D (Or.inr (hw _ (List.mem_of_getElem? (i := 32) rfl))) (ty := .long) (by decide)
    refine own_dup X at_21 rfl ?_
    refine own_aconstNull X at_22 ?_
    refine own_lloadN X at_23 rfl ?_
    refine own_lload X at_24 rfl ?_
    refine own_callI X (W := 1) (a := b5) (argsL := [.null, (.long x0), (.long x3)]) (rest := [(.ref b5)]) rfl (hw _ (List.mem_of_getElem? (i := 18) rfl)) (hw _ (List.mem_of_getElem? (i := 19) rfl)) (hw _ (List.mem_of_getElem? (i := 17) rfl)) (hw _ (List.mem_of_getElem? (i := 20) rfl)) (by decide) (rm3 l Z a0 hw [] b5 x0 x3 h n0 (own_size X) E_b5 F_text_b5 F_high_b5 F_low_b5 ge_b5) (by decide) (by decide) (by decide) (by decide) rfl (lenOf pd_9 rfl) rfl (Nat.le_of_eq rfl) at_26 (own_contVH fun T h X hq6 => ?_)
    obtain ⟨Kc, E_b5, F_text_b5, F_high_b5, F_low_b5⟩ := hq6
    have E_b3 := E_b3.keep Kc
    have F_spans_b3 := F_spans_b3.keep Kc (ninS ne_b3_b5 nin0)
    have F_bits_b3 := F_bits_b3.keep Kc (ninS ne_b3_b5 nin0)
    have F_size_b3 := F_size_b3.keep Kc (ninS ne_b3_b5 nin0)
    have F_texts_b3 := F_texts_b3.keep Kc (ninS ne_b3_b5 nin0)
    have A_sa4 := A_sa4.keep Kc (ninS ne_sa4_b5 nin0)
    have A_sb4 := A_sb4.keep Kc (ninS ne_sb4_b5 nin0)
    refine own_astore X at_29 rfl (L' := #[.val (.long x0), .second, .val (.long x1), .second, .val (.long x2), .second, .val (.long x3), .second, .val (.long x4), .second, .val (.int x5), .val (.int (0 : Int32)), .val (.ref b3), .val (.ref b5), .unset, .unset]) rfl ?_
    refine own_iload X at_31 rfl ?_
    refine own_iconst X (1) at_33 rfl ?_
    refine own_icmpYes X (pc := 34) (pc' := 46) at_34 (tlt (own_cLt (a := 0) (b := 1) rfl rfl (by decide))).1 (by decide) (by decide) ?_
    refine own_iload X at_46 rfl ?_
    refine own_iconst X (2) at_48 rfl ?_
    refine own_icmpYes X (pc := 49) (pc' := 63) at_49 (tlt (own_cLt (a := 0) (b := 2) rfl rfl (by decide))).1 (by decide) (by decide) ?_
    refine own_aload X at_63 rfl rfl ?_
    refine own_lload X at_65 rfl ?_
    refine own_callV X (W := 0) (a := b3) (argsL := [(.long x4)]) (rest := []) (hw _ (List.mem_of_getElem? (i := 55) rfl)) (hw _ (List.mem_of_getElem? (i := 56) rfl)) (hw _ (List.mem_of_getElem? (i := 58) rfl)) (hw _ (List.mem_of_getElem? (i := 57) rfl)) (hw _ (List.mem_of_getElem? (i := 3) rfl)) (hw _ (List.mem_of_getElem? (i := 59) rfl)) rfl (by decide) (rmF_0 l Z a0 hw [] b3 x4 sa4 f4 h n0 (own_size X) E_b3 F_spans_b3 F_size_b3 A_sa4 ge_sa4) E_b3 (by decide) (by decide) (by decide) (by decide) rfl (lenOf pd_6 rfl) rfl (Nat.le_of_eq rfl) at_67 (own_contVH fun T h X hq7 => ?_)
    obtain ⟨Kc, s7, A_n⟩ := hq7
    have E_b3 := E_b3.keep Kc
    have F_spans_b3 := F_spans_b3.keep Kc (ninS ne_b3_sa4 nin0)
    have F_bits_b3 := F_bits_b3.keep Kc (ninS ne_b3_sa4 nin0)
    have F_size_b3 := F_size_b3.keep Kc (ninS ne_b3_sa4 nin0)
    have F_texts_b3 := F_texts_b3.keep Kc (ninS ne_b3_sa4 nin0)
    have A_sb4 := A_sb4.keep Kc (ninS (Ne.symm ne_sa4_sb4) nin0)
    have E_b5 := E_b5.keep Kc
    have F_text_b5 := F_text_b5.keep Kc (ninS (Ne.symm ne_sa4_b5) nin0)
    have F_high_b5 := F_high_b5.keep Kc (ninS (Ne.symm ne_sa4_b5) nin0)
    have F_low_b5 := F_low_b5.keep Kc (ninS (Ne.symm ne_sa4_b5) nin0)
    have A_sa4 := A_n
    refine own_aload X at_70 rfl rfl ?_
    refine own_callV X (W := 0) (a := b3) (argsL := []) (rest := []) (hw _ (List.mem_of_getElem? (i := 60) rfl)) (hw _ (List.mem_of_getElem? (i := 61) rfl)) (hw _ (List.mem_of_getElem? (i := 63) rfl)) (hw _ (List.mem_of_getElem? (i := 62) rfl)) (hw _ (List.mem_of_getElem? (i := 3) rfl)) (hw _ (List.mem_of_getElem? (i := 64) rfl)) rfl (by decide) (rm10 l Z a0 hw [] b3 (0 : Int32) h n0 (own_size X) F_size_b3) E_b3 (by decide) (by decide) (by decide) (by decide) rfl (lenOf pd_0 rfl) rfl (Nat.le_of_eq rfl) at_72 (own_contI fun T v8 X hq8 => ?_)
    subst hq8
    refine own_iload X at_75 rfl ?_
    refine own_icmpNo X at_77 (teq (own_cEq (a := 0) (b := 0) rfl rfl (by decide))).2 ?_
    refine own_iconst X (1) at_80 rfl ?_
    refine own_goto X (pc := 81) (pc' := 85) at_81 (by decide) (by decide) ?_
    refine own_istore X at_85 (L' := #[.val (.long x0), .second, .val (.long x1), .second, .val (.long x2), .second, .val (.long x3), .second, .val (.long x4), .second, .val (.int x5), .val (.int (0 : Int32)), .val (.ref b3), .val (.ref b5), .val (.int (1 : Int32)), .unset]) rfl ?_
    refine own_iload X at_87 rfl ?_
    refine own_iconst X (1) at_89 rfl ?_
    refine own_icmpYes X (pc := 90) (pc' := 162) at_90 (tlt (own_cLt (a := 0) (b := 1) rfl rfl (by decide))).1 (by decide) (by decide) ?_
    refine own_iload X at_162 rfl ?_
    refine own_iconst X (2) at_164 rfl ?_
    refine own_icmpYes X (pc := 165) (pc' := 210) at_165 (tlt (own_cLt (a := 0) (b := 2) rfl rfl (by decide))).1 (by decide) (by decide) ?_
    refine own_iload X at_210 rfl ?_
    refine own_retN (t := .boolean) X (z' := (1 : Int32)) (Or.inl rfl) rfl rfl at_212 (by decide) (by decide) ⟨_, rfl, ?_⟩
    rfl
  · obtain rfl : v2 = (1 : Int32) := own_cEq (a := v2.toInt) (b := 1) rfl rfl hs
    refine own_newO X (hw _ (List.mem_of_getElem? (i := 1) rfl)) (hw _ (List.mem_of_getElem? (i := 2) rfl)) (hw _ (List.mem_of_getElem? (i := 3) rfl)) at_9 (by decide) (by decide) (fun T h b9 hb_b9 ge_b9 X E E_b9 D => ?_)
    have F_spans_b9 : Fld Z h b9 "com/example/vacancy/vacancy/state/LeaseSpans" "spans" "[J" .null := D (Or.inl (hw _ (List.mem_of_getElem? (i := 12) rfl))) (ty := (.array .long)) (by decide)
    have F_bits_b9 : Fld Z h b9 "com/example/vacancy/vacancy/state/LeaseSpans" "bits" "[J" .null := D (Or.inl (hw _ (List.mem_of_getElem? (i := 14) rfl))) (ty := (.array .long)) (by decide)
    have F_size_b9 : Fld Z h b9 "com/example/vacancy/vacancy/state/LeaseSpans" "size" "I" (.int (0 : Int32)) := D (Or.inl (hw _ (List.mem_of_getElem? (i := 39) rfl))) (ty := .int) (by decide)
    have F_texts_b9 : Fld Z h b9 "com/example/vacancy/vacancy/state/LeaseSpans" "texts" "Ljava/util/Map;" .null := D (Or.inl (hw _ (List.mem_of_getElem? (i := 71) rfl))) (ty := (.object "java/util/Map")) (by decide)
    refine own_dup X at_12 rfl ?_
    refine own_callI X (W := 1) (a := b9) (argsL := []) (rest := [(.ref b9)]) rfl (hw _ (List.mem_of_getElem? (i := 4) rfl)) (hw _ (List.mem_of_getElem? (i := 5) rfl)) (hw _ (List.mem_of_getElem? (i := 3) rfl)) (hw _ (List.mem_of_getElem? (i := 6) rfl)) (by decide) (rm1 l Z a0 hw [] b9 h n0 (own_size X) E_b9 F_spans_b9 F_bits_b9 F_size_b9 F_texts_b9 ge_b9) (by decide) (by decide) (by decide) (by decide) rfl (lenOf pd_3 rfl) rfl (Nat.le_of_eq rfl) at_13 (own_contVH fun T h X hq10 => ?_)
    obtain ⟨Kc, E_b9, F_size_b9, F_texts_b9, sa10, sb10, f10, g10, ne_sa10_sb10, ge_sa10, ge_sb10, F_spans_b9, F_bits_b9, A_sa10, A_sb10⟩ := hq10
    have ne_b9_sa10 : b9 ≠ sa10 := own_ne_aj E_b9 (hw _ (List.mem_of_getElem? (i := 2) rfl)) A_sa10
    have ne_b9_sb10 : b9 ≠ sb10 := own_ne_aj E_b9 (hw _ (List.mem_of_getElem? (i := 2) rfl)) A_sb10
    refine own_astore X at_16 rfl (L' := #[.val (.long x0), .second, .val (.long x1), .second, .val (.long x2), .second, .val (.long x3), .second, .val (.long x4), .second, .val (.int x5), .val (.int (1 : Int32)), .val (.ref b9), .unset, .unset, .unset]) rfl ?_
    refine own_newO X (hw _ (List.mem_of_getElem? (i := 15) rfl)) (hw _ (List.mem_of_getElem? (i := 16) rfl)) (hw _ (List.mem_of_getElem? (i := 17) rfl)) at_18 (by decide) (by decide) (fun T h b11 hb_b11 ge_b11 X E E_b11 D => ?_)
    have ne_b9_b11 : b9 ≠ b11 := Nat.ne_of_lt (Nat.lt_of_lt_of_eq E_b9.lt hb_b11.symm)
    have ne_sa10_b11 : sa10 ≠ b11 := Nat.ne_of_lt (Nat.lt_of_lt_of_eq A_sa10.lt hb_b11.symm)
    have ne_sb10_b11 : sb10 ≠ b11 := Nat.ne_of_lt (Nat.lt_of_lt_of_eq A_sb10.lt hb_b11.symm)
    have E_b9 := E_b9.ext E
    have F_spans_b9 := F_spans_b9.ext E
    have F_bits_b9 := F_bits_b9.ext E
    have F_size_b9 := F_size_b9.ext E
    have F_texts_b9 := F_texts_b9.ext E
    have A_sa10 := A_sa10.ext E
    have A_sb10 := A_sb10.ext E
    have F_text_b11 : Fld Z h b11 "com/example/vacancy/vacancy/slots/LeaseKey" "text" "Ljava/lang/String;" .null := D (Or.inr (hw _ (List.mem_of_getElem? (i := 28) rfl))) (ty := (.object "java/lang/String")) (by decide)
    have F_high_b11 : Fld Z h b11 "com/example/vacancy/vacancy/slots/LeaseKey" "high" "J" (.long (0 : Int64)) := D (Or.inr (hw _ (List.mem_of_getElem? (i := 30) rfl))) (ty := .long) (by decide)
    have F_low_b11 : Fld Z h b11 "com/example/vacancy/vacancy/slots/LeaseKey" "low" "J" (.long (0 : Int64)) := D (Or.inr (hw _ (List.mem_of_getElem? (i := 32) rfl))) (ty := .long) (by decide)
    refine own_dup X at_21 rfl ?_
    refine own_aconstNull X at_22 ?_
    refine own_lloadN X at_23 rfl ?_
    refine own_lload X at_24 rfl ?_
    refine own_callI X (W := 1) (a := b11) (argsL := [.null, (.long x0), (.long x3)]) (rest := [(.ref b11)]) rfl (hw _ (List.mem_of_getElem? (i := 18) rfl)) (hw _ (List.mem_of_getElem? (i := 19) rfl)) (hw _ (List.mem_of_getElem? (i := 17) rfl)) (hw _ (List.mem_of_getElem? (i := 20) rfl)) (by decide) (rm3 l Z a0 hw [] b11 x0 x3 h n0 (own_size X) E_b11 F_text_b11 F_high_b11 F_low_b11 ge_b11) (by decide) (by decide) (by decide) (by decide) rfl (lenOf pd_9 rfl) rfl (Nat.le_of_eq rfl) at_26 (own_contVH fun T h X hq12 => ?_)
    obtain ⟨Kc, E_b11, F_text_b11, F_high_b11, F_low_b11⟩ := hq12
    have E_b9 := E_b9.keep Kc
    have F_spans_b9 := F_spans_b9.keep Kc (ninS ne_b9_b11 nin0)
    have F_bits_b9 := F_bits_b9.keep Kc (ninS ne_b9_b11 nin0)
    have F_size_b9 := F_size_b9.keep Kc (ninS ne_b9_b11 nin0)
    have F_texts_b9 := F_texts_b9.keep Kc (ninS ne_b9_b11 nin0)
    have A_sa10 := A_sa10.keep Kc (ninS ne_sa10_b11 nin0)
    have A_sb10 := A_sb10.keep Kc (ninS ne_sb10_b11 nin0)
    refine own_astore X at_29 rfl (L' := #[.val (.long x0), .second, .val (.long x1), .second, .val (.long x2), .second, .val (.long x3), .second, .val (.long x4), .second, .val (.int x5), .val (.int (1 : Int32)), .val (.ref b9), .val (.ref b11), .unset, .unset]) rfl ?_
    refine own_iload X at_31 rfl ?_
    refine own_iconst X (1) at_33 rfl ?_
    refine own_icmpNo X at_34 (flt (own_cGe (a := 1) (b := 1) rfl rfl (by decide))).1 ?_
    refine own_aload X at_37 rfl rfl ?_
    refine own_lloadN X at_39 rfl ?_
    refine own_lloadN X at_40 rfl ?_
    refine own_aload X at_41 rfl rfl ?_
    refine own_callV X (W := 0) (a := b9) (argsL := [(.long x0), (.long x1), (.ref b11)]) (rest := []) (hw _ (List.mem_of_getElem? (i := 33) rfl)) (hw _ (List.mem_of_getElem? (i := 34) rfl)) (hw _ (List.mem_of_getElem? (i := 36) rfl)) (hw _ (List.mem_of_getElem? (i := 35) rfl)) (hw _ (List.mem_of_getElem? (i := 3) rfl)) (hw _ (List.mem_of_getElem? (i := 37) rfl)) rfl (by decide) (rmA_0 l Z a0 hw [] b9 x0 x1 b11 sa10 sb10 f10 g10 x0 x3 h n0 (own_size X) E_b9 F_spans_b9 F_bits_b9 F_texts_b9 F_size_b9 A_sa10 A_sb10 ne_sa10_sb10 ge_b9 ge_sa10 ge_sb10 E_b11 F_text_b11 F_high_b11 F_low_b11) E_b9 (by decide) (by decide) (by decide) (by decide) rfl (lenOf pd_8 rfl) rfl (Nat.le_of_eq rfl) at_43 (own_contVH fun T h X hq13 => ?_)
    obtain ⟨Kc, F_spans_b9, F_bits_b9, F_texts_b9, F_size_b9, A_n1, A_n2⟩ := hq13
    have E_b9 := E_b9.keep Kc
    have E_b11 := E_b11.keep Kc
    have F_text_b11 := F_text_b11.keep Kc (ninS (Ne.symm ne_b9_b11) (ninS (Ne.symm ne_sa10_b11) (ninS (Ne.symm ne_sb10_b11) nin0)))
    have F_high_b11 := F_high_b11.keep Kc (ninS (Ne.symm ne_b9_b11) (ninS (Ne.symm ne_sa10_b11) (ninS (Ne.symm ne_sb10_b11) nin0)))
    have F_low_b11 := F_low_b11.keep Kc (ninS (Ne.symm ne_b9_b11) (ninS (Ne.symm ne_sa10_b11) (ninS (Ne.symm ne_sb10_b11) nin0)))
    obtain ⟨u13_sa10_1, hu13_sa10_1⟩ : ∃ w, w = own_upd f10 0 x0 := ⟨_, rfl⟩
    obtain ⟨u13_sa10, hu13_sa10⟩ : ∃ w, w = own_upd u13_sa10_1 1 x1 := ⟨_, rfl⟩
    rw [← hu13_sa10_1, ← hu13_sa10] at A_n1
    have A_sa10 := A_n1
    obtain ⟨u13_sb10_1, hu13_sb10_1⟩ : ∃ w, w = own_upd g10 0 x0 := ⟨_, rfl⟩
    obtain ⟨u13_sb10, hu13_sb10⟩ : ∃ w, w = own_upd u13_sb10_1 1 x3 := ⟨_, rfl⟩
    rw [← hu13_sb10_1, ← hu13_sb10] at A_n2
    have A_sb10 := A_n2
    refine own_iload X at_46 rfl ?_
    refine own_iconst X (2) at_48 rfl ?_
    refine own_icmpYes X (pc := 49) (pc' := 63) at_49 (tlt (own_cLt (a := 1) (b := 2) rfl rfl (by decide))).1 (by decide) (by decide) ?_
    refine own_aload X at_63 rfl rfl ?_
    refine own_lload X at_65 rfl ?_
    refine own_callV X (W := 0) (a := b9) (argsL := [(.long x4)]) (rest := []) (hw _ (List.mem_of_getElem? (i := 55) rfl)) (hw _ (List.mem_of_getElem? (i := 56) rfl)) (hw _ (List.mem_of_getElem? (i := 58) rfl)) (hw _ (List.mem_of_getElem? (i := 57) rfl)) (hw _ (List.mem_of_getElem? (i := 3) rfl)) (hw _ (List.mem_of_getElem? (i := 59) rfl)) rfl (by decide) (rmF_1 l Z a0 hw [] b9 x4 sa10 u13_sa10 h n0 (own_size X) E_b9 F_spans_b9 F_size_b9 A_sa10 ge_sa10) E_b9 (by decide) (by decide) (by decide) (by decide) rfl (lenOf pd_6 rfl) rfl (Nat.le_of_eq rfl) at_67 (own_contVH fun T h X hq14 => ?_)
    obtain ⟨Kc, s14, A_n, hs14_0, hs14_1⟩ := hq14
    have E_b9 := E_b9.keep Kc
    have E_b11 := E_b11.keep Kc
    have F_text_b11 := F_text_b11.keep Kc (ninS (Ne.symm ne_sa10_b11) nin0)
    have F_high_b11 := F_high_b11.keep Kc (ninS (Ne.symm ne_sa10_b11) nin0)
    have F_low_b11 := F_low_b11.keep Kc (ninS (Ne.symm ne_sa10_b11) nin0)
    have F_spans_b9 := F_spans_b9.keep Kc (ninS ne_b9_sa10 nin0)
    have F_bits_b9 := F_bits_b9.keep Kc (ninS ne_b9_sa10 nin0)
    have F_texts_b9 := F_texts_b9.keep Kc (ninS ne_b9_sa10 nin0)
    have F_size_b9 := F_size_b9.keep Kc (ninS ne_b9_sa10 nin0)
    have A_sb10 := A_sb10.keep Kc (ninS (Ne.symm ne_sa10_sb10) nin0)
    have A_sa10 := A_n
    have hw14_0 : s14 0 = x0 + x4 := by rw [hs14_0, hu13_sa10, own_upd_miss (by decide), hu13_sa10_1, own_upd_hit]
    have hw14_1 : s14 1 = x1 + x4 := by rw [hs14_1, hu13_sa10, own_upd_hit]
    refine own_aload X at_70 rfl rfl ?_
    refine own_callV X (W := 0) (a := b9) (argsL := []) (rest := []) (hw _ (List.mem_of_getElem? (i := 60) rfl)) (hw _ (List.mem_of_getElem? (i := 61) rfl)) (hw _ (List.mem_of_getElem? (i := 63) rfl)) (hw _ (List.mem_of_getElem? (i := 62) rfl)) (hw _ (List.mem_of_getElem? (i := 3) rfl)) (hw _ (List.mem_of_getElem? (i := 64) rfl)) rfl (by decide) (rm10 l Z a0 hw [] b9 (1 : Int32) h n0 (own_size X) F_size_b9) E_b9 (by decide) (by decide) (by decide) (by decide) rfl (lenOf pd_0 rfl) rfl (Nat.le_of_eq rfl) at_72 (own_contI fun T v15 X hq15 => ?_)
    subst hq15
    refine own_iload X at_75 rfl ?_
    refine own_icmpNo X at_77 (teq (own_cEq (a := 1) (b := 1) rfl rfl (by decide))).2 ?_
    refine own_iconst X (1) at_80 rfl ?_
    refine own_goto X (pc := 81) (pc' := 85) at_81 (by decide) (by decide) ?_
    refine own_istore X at_85 (L' := #[.val (.long x0), .second, .val (.long x1), .second, .val (.long x2), .second, .val (.long x3), .second, .val (.long x4), .second, .val (.int x5), .val (.int (1 : Int32)), .val (.ref b9), .val (.ref b11), .val (.int (1 : Int32)), .unset]) rfl ?_
    refine own_iload X at_87 rfl ?_
    refine own_iconst X (1) at_89 rfl ?_
    refine own_icmpNo X at_90 (flt (own_cGe (a := 1) (b := 1) rfl rfl (by decide))).1 ?_
    refine own_aload X at_93 rfl rfl ?_
    refine own_iconst X (0) at_95 rfl ?_
    refine own_callV X (W := 0) (a := b9) (argsL := [(.int (0 : Int32))]) (rest := []) (hw _ (List.mem_of_getElem? (i := 65) rfl)) (hw _ (List.mem_of_getElem? (i := 66) rfl)) (hw _ (List.mem_of_getElem? (i := 68) rfl)) (hw _ (List.mem_of_getElem? (i := 67) rfl)) (hw _ (List.mem_of_getElem? (i := 3) rfl)) (hw _ (List.mem_of_getElem? (i := 69) rfl)) rfl (by decide) (rm11 l Z a0 hw [] b9 sb10 u13_sb10 h n0 (own_size X) F_bits_b9 F_texts_b9 A_sb10) E_b9 (by decide) (by decide) (by decide) (by decide) rfl (lenOf pd_5 rfl) rfl (Nat.le_of_eq rfl) at_96 (own_contRH fun T h v16 X hq16 => ?_)
    obtain ⟨Kc, kb16, rfl, ge_kb16, E_kb16, F_high_kb16, F_low_kb16⟩ := hq16
    have E_b9 := E_b9.keep Kc
    have E_b11 := E_b11.keep Kc
    have F_text_b11 := F_text_b11.keep Kc nin0
    have F_high_b11 := F_high_b11.keep Kc nin0
    have F_low_b11 := F_low_b11.keep Kc nin0
    have F_spans_b9 := F_spans_b9.keep Kc nin0
    have F_bits_b9 := F_bits_b9.keep Kc nin0
    have F_texts_b9 := F_texts_b9.keep Kc nin0
    have F_size_b9 := F_size_b9.keep Kc nin0
    have A_sb10 := A_sb10.keep Kc nin0
    have A_sa10 := A_sa10.keep Kc nin0
    rw [show u13_sb10 0 = x0 from by rw [hu13_sb10, own_upd_miss (by decide), hu13_sb10_1, own_upd_hit]] at F_high_kb16
    rw [show u13_sb10 1 = x3 from by rw [hu13_sb10, own_upd_hit]] at F_low_kb16
    refine own_astore X at_99 rfl (L' := #[.val (.long x0), .second, .val (.long x1), .second, .val (.long x2), .second, .val (.long x3), .second, .val (.long x4), .second, .val (.int x5), .val (.int (1 : Int32)), .val (.ref b9), .val (.ref b11), .val (.int (1 : Int32)), .val (.ref kb16)]) rfl ?_
    refine own_iload X at_101 rfl ?_
    refine own_ifNo X at_103 ((if0 _ _).trans (feq (own_cNe (a := 1) (b := 0) rfl rfl (by decide))).1) ?_
    refine own_aload X at_106 rfl rfl ?_
    refine own_iconst X (0) at_108 rfl ?_
    refine own_callV X (W := 0) (a := b9) (argsL := [(.int (0 : Int32))]) (rest := []) (hw _ (List.mem_of_getElem? (i := 74) rfl)) (hw _ (List.mem_of_getElem? (i := 75) rfl)) (hw _ (List.mem_of_getElem? (i := 77) rfl)) (hw _ (List.mem_of_getElem? (i := 76) rfl)) (hw _ (List.mem_of_getElem? (i := 3) rfl)) (hw _ (List.mem_of_getElem? (i := 78) rfl)) rfl (by decide) (rmS_start_0 l Z a0 hw [] b9 sa10 s14 h n0 (own_size X) F_spans_b9 A_sa10) E_b9 (by decide) (by decide) (by decide) (by decide) rfl (lenOf pd_4 rfl) rfl (Nat.le_of_eq rfl) at_109 (own_contJ fun T v17 X hq17 => ?_)
    rw [hw14_0] at hq17
    refine own_lloadN X at_112 rfl ?_
    refine own_lload X at_113 rfl ?_
    refine own_laddE X at_115 v17 (hq17.symm) ?_
    refine own_lcmp X at_116 ?_
    have hc18 : v17.toInt = v17.toInt := rfl
    refine own_ifNo X at_117 ((if0 _ _).trans (teq (own_lEq rfl rfl hc18)).2) ?_
    refine own_aload X at_120 rfl rfl ?_
    refine own_iconst X (0) at_122 rfl ?_
    refine own_callV X (W := 0) (a := b9) (argsL := [(.int (0 : Int32))]) (rest := []) (hw _ (List.mem_of_getElem? (i := 79) rfl)) (hw _ (List.mem_of_getElem? (i := 80) rfl)) (hw _ (List.mem_of_getElem? (i := 82) rfl)) (hw _ (List.mem_of_getElem? (i := 81) rfl)) (hw _ (List.mem_of_getElem? (i := 3) rfl)) (hw _ (List.mem_of_getElem? (i := 83) rfl)) rfl (by decide) (rmS_end_0 l Z a0 hw [] b9 sa10 s14 h n0 (own_size X) F_spans_b9 A_sa10) E_b9 (by decide) (by decide) (by decide) (by decide) rfl (lenOf pd_4 rfl) rfl (Nat.le_of_eq rfl) at_123 (own_contJ fun T v19 X hq19 => ?_)
    rw [hw14_1] at hq19
    refine own_lloadN X at_126 rfl ?_
    refine own_lload X at_127 rfl ?_
    refine own_laddE X at_129 v19 (hq19.symm) ?_
    refine own_lcmp X at_130 ?_
    have hc20 : v19.toInt = v19.toInt := rfl
    refine own_ifNo X at_131 ((if0 _ _).trans (teq (own_lEq rfl rfl hc20)).2) ?_
    refine own_aload X at_134 rfl rfl ?_
    refine own_callV X (W := 0) (a := kb16) (argsL := []) (rest := []) (hw _ (List.mem_of_getElem? (i := 84) rfl)) (hw _ (List.mem_of_getElem? (i := 41) rfl)) (hw _ (List.mem_of_getElem? (i := 43) rfl)) (hw _ (List.mem_of_getElem? (i := 42) rfl)) (hw _ (List.mem_of_getElem? (i := 17) rfl)) (hw _ (List.mem_of_getElem? (i := 44) rfl)) rfl (by decide) (rm6 l Z a0 hw [] kb16 x0 h n0 (own_size X) F_high_kb16) E_kb16 (by decide) (by decide) (by decide) (by decide) rfl (lenOf pd_1 rfl) rfl (Nat.le_of_eq rfl) at_136 (own_contJ fun T v21 X hq21 => ?_)
    rw [hq21]
    refine own_lloadN X at_139 rfl ?_
    refine own_lcmp X at_140 ?_
    have hc22 : x0.toInt = x0.toInt := rfl
    refine own_ifNo X at_141 ((if0 _ _).trans (teq (own_lEq rfl rfl hc22)).2) ?_
    refine own_aload X at_144 rfl rfl ?_
    refine own_callV X (W := 0) (a := kb16) (argsL := []) (rest := []) (hw _ (List.mem_of_getElem? (i := 85) rfl)) (hw _ (List.mem_of_getElem? (i := 46) rfl)) (hw _ (List.mem_of_getElem? (i := 48) rfl)) (hw _ (List.mem_of_getElem? (i := 47) rfl)) (hw _ (List.mem_of_getElem? (i := 17) rfl)) (hw _ (List.mem_of_getElem? (i := 49) rfl)) rfl (by decide) (rm7 l Z a0 hw [] kb16 x3 h n0 (own_size X) F_low_kb16) E_kb16 (by decide) (by decide) (by decide) (by decide) rfl (lenOf pd_1 rfl) rfl (Nat.le_of_eq rfl) at_146 (own_contJ fun T v23 X hq23 => ?_)
    rw [hq23]
    refine own_lload X at_149 rfl ?_
    refine own_lcmp X at_151 ?_
    have hc24 : x3.toInt = x3.toInt := rfl
    refine own_ifNo X at_152 ((if0 _ _).trans (teq (own_lEq rfl rfl hc24)).2) ?_
    refine own_iconst X (1) at_155 rfl ?_
    refine own_goto X (pc := 156) (pc' := 160) at_156 (by decide) (by decide) ?_
    refine own_istore X at_160 (L' := #[.val (.long x0), .second, .val (.long x1), .second, .val (.long x2), .second, .val (.long x3), .second, .val (.long x4), .second, .val (.int x5), .val (.int (1 : Int32)), .val (.ref b9), .val (.ref b11), .val (.int (1 : Int32)), .val (.ref kb16)]) rfl ?_
    refine own_iload X at_162 rfl ?_
    refine own_iconst X (2) at_164 rfl ?_
    refine own_icmpYes X (pc := 165) (pc' := 210) at_165 (tlt (own_cLt (a := 1) (b := 2) rfl rfl (by decide))).1 (by decide) (by decide) ?_
    refine own_iload X at_210 rfl ?_
    refine own_retN (t := .boolean) X (z' := (1 : Int32)) (Or.inl rfl) rfl rfl at_212 (by decide) (by decide) ⟨_, rfl, ?_⟩
    rfl
  · obtain rfl : v2 = (2 : Int32) := own_cEq (a := v2.toInt) (b := 2) rfl rfl hs
    refine own_newO X (hw _ (List.mem_of_getElem? (i := 1) rfl)) (hw _ (List.mem_of_getElem? (i := 2) rfl)) (hw _ (List.mem_of_getElem? (i := 3) rfl)) at_9 (by decide) (by decide) (fun T h b25 hb_b25 ge_b25 X E E_b25 D => ?_)
    have F_spans_b25 : Fld Z h b25 "com/example/vacancy/vacancy/state/LeaseSpans" "spans" "[J" .null := D (Or.inl (hw _ (List.mem_of_getElem? (i := 12) rfl))) (ty := (.array .long)) (by decide)
    have F_bits_b25 : Fld Z h b25 "com/example/vacancy/vacancy/state/LeaseSpans" "bits" "[J" .null := D (Or.inl (hw _ (List.mem_of_getElem? (i := 14) rfl))) (ty := (.array .long)) (by decide)
    have F_size_b25 : Fld Z h b25 "com/example/vacancy/vacancy/state/LeaseSpans" "size" "I" (.int (0 : Int32)) := D (Or.inl (hw _ (List.mem_of_getElem? (i := 39) rfl))) (ty := .int) (by decide)
    have F_texts_b25 : Fld Z h b25 "com/example/vacancy/vacancy/state/LeaseSpans" "texts" "Ljava/util/Map;" .null := D (Or.inl (hw _ (List.mem_of_getElem? (i := 71) rfl))) (ty := (.object "java/util/Map")) (by decide)
    refine own_dup X at_12 rfl ?_
    refine own_callI X (W := 1) (a := b25) (argsL := []) (rest := [(.ref b25)]) rfl (hw _ (List.mem_of_getElem? (i := 4) rfl)) (hw _ (List.mem_of_getElem? (i := 5) rfl)) (hw _ (List.mem_of_getElem? (i := 3) rfl)) (hw _ (List.mem_of_getElem? (i := 6) rfl)) (by decide) (rm1 l Z a0 hw [] b25 h n0 (own_size X) E_b25 F_spans_b25 F_bits_b25 F_size_b25 F_texts_b25 ge_b25) (by decide) (by decide) (by decide) (by decide) rfl (lenOf pd_3 rfl) rfl (Nat.le_of_eq rfl) at_13 (own_contVH fun T h X hq26 => ?_)
    obtain ⟨Kc, E_b25, F_size_b25, F_texts_b25, sa26, sb26, f26, g26, ne_sa26_sb26, ge_sa26, ge_sb26, F_spans_b25, F_bits_b25, A_sa26, A_sb26⟩ := hq26
    have ne_b25_sa26 : b25 ≠ sa26 := own_ne_aj E_b25 (hw _ (List.mem_of_getElem? (i := 2) rfl)) A_sa26
    have ne_b25_sb26 : b25 ≠ sb26 := own_ne_aj E_b25 (hw _ (List.mem_of_getElem? (i := 2) rfl)) A_sb26
    refine own_astore X at_16 rfl (L' := #[.val (.long x0), .second, .val (.long x1), .second, .val (.long x2), .second, .val (.long x3), .second, .val (.long x4), .second, .val (.int x5), .val (.int (2 : Int32)), .val (.ref b25), .unset, .unset, .unset]) rfl ?_
    refine own_newO X (hw _ (List.mem_of_getElem? (i := 15) rfl)) (hw _ (List.mem_of_getElem? (i := 16) rfl)) (hw _ (List.mem_of_getElem? (i := 17) rfl)) at_18 (by decide) (by decide) (fun T h b27 hb_b27 ge_b27 X E E_b27 D => ?_)
    have ne_b25_b27 : b25 ≠ b27 := Nat.ne_of_lt (Nat.lt_of_lt_of_eq E_b25.lt hb_b27.symm)
    have ne_sa26_b27 : sa26 ≠ b27 := Nat.ne_of_lt (Nat.lt_of_lt_of_eq A_sa26.lt hb_b27.symm)
    have ne_sb26_b27 : sb26 ≠ b27 := Nat.ne_of_lt (Nat.lt_of_lt_of_eq A_sb26.lt hb_b27.symm)
    have E_b25 := E_b25.ext E
    have F_spans_b25 := F_spans_b25.ext E
    have F_bits_b25 := F_bits_b25.ext E
    have F_size_b25 := F_size_b25.ext E
    have F_texts_b25 := F_texts_b25.ext E
    have A_sa26 := A_sa26.ext E
    have A_sb26 := A_sb26.ext E
    have F_text_b27 : Fld Z h b27 "com/example/vacancy/vacancy/slots/LeaseKey" "text" "Ljava/lang/String;" .null := D (Or.inr (hw _ (List.mem_of_getElem? (i := 28) rfl))) (ty := (.object "java/lang/String")) (by decide)
    have F_high_b27 : Fld Z h b27 "com/example/vacancy/vacancy/slots/LeaseKey" "high" "J" (.long (0 : Int64)) := D (Or.inr (hw _ (List.mem_of_getElem? (i := 30) rfl))) (ty := .long) (by decide)
    have F_low_b27 : Fld Z h b27 "com/example/vacancy/vacancy/slots/LeaseKey" "low" "J" (.long (0 : Int64)) := D (Or.inr (hw _ (List.mem_of_getElem? (i := 32) rfl))) (ty := .long) (by decide)
    refine own_dup X at_21 rfl ?_
    refine own_aconstNull X at_22 ?_
    refine own_lloadN X at_23 rfl ?_
    refine own_lload X at_24 rfl ?_
    refine own_callI X (W := 1) (a := b27) (argsL := [.null, (.long x0), (.long x3)]) (rest := [(.ref b27)]) rfl (hw _ (List.mem_of_getElem? (i := 18) rfl)) (hw _ (List.mem_of_getElem? (i := 19) rfl)) (hw _ (List.mem_of_getElem? (i := 17) rfl)) (hw _ (List.mem_of_getElem? (i := 20) rfl)) (by decide) (rm3 l Z a0 hw [] b27 x0 x3 h n0 (own_size X) E_b27 F_text_b27 F_high_b27 F_low_b27 ge_b27) (by decide) (by decide) (by decide) (by decide) rfl (lenOf pd_9 rfl) rfl (Nat.le_of_eq rfl) at_26 (own_contVH fun T h X hq28 => ?_)
    obtain ⟨Kc, E_b27, F_text_b27, F_high_b27, F_low_b27⟩ := hq28
    have E_b25 := E_b25.keep Kc
    have F_spans_b25 := F_spans_b25.keep Kc (ninS ne_b25_b27 nin0)
    have F_bits_b25 := F_bits_b25.keep Kc (ninS ne_b25_b27 nin0)
    have F_size_b25 := F_size_b25.keep Kc (ninS ne_b25_b27 nin0)
    have F_texts_b25 := F_texts_b25.keep Kc (ninS ne_b25_b27 nin0)
    have A_sa26 := A_sa26.keep Kc (ninS ne_sa26_b27 nin0)
    have A_sb26 := A_sb26.keep Kc (ninS ne_sb26_b27 nin0)
    refine own_astore X at_29 rfl (L' := #[.val (.long x0), .second, .val (.long x1), .second, .val (.long x2), .second, .val (.long x3), .second, .val (.long x4), .second, .val (.int x5), .val (.int (2 : Int32)), .val (.ref b25), .val (.ref b27), .unset, .unset]) rfl ?_
    refine own_iload X at_31 rfl ?_
    refine own_iconst X (1) at_33 rfl ?_
    refine own_icmpNo X at_34 (flt (own_cGe (a := 2) (b := 1) rfl rfl (by decide))).1 ?_
    refine own_aload X at_37 rfl rfl ?_
    refine own_lloadN X at_39 rfl ?_
    refine own_lloadN X at_40 rfl ?_
    refine own_aload X at_41 rfl rfl ?_
    refine own_callV X (W := 0) (a := b25) (argsL := [(.long x0), (.long x1), (.ref b27)]) (rest := []) (hw _ (List.mem_of_getElem? (i := 33) rfl)) (hw _ (List.mem_of_getElem? (i := 34) rfl)) (hw _ (List.mem_of_getElem? (i := 36) rfl)) (hw _ (List.mem_of_getElem? (i := 35) rfl)) (hw _ (List.mem_of_getElem? (i := 3) rfl)) (hw _ (List.mem_of_getElem? (i := 37) rfl)) rfl (by decide) (rmA_0 l Z a0 hw [] b25 x0 x1 b27 sa26 sb26 f26 g26 x0 x3 h n0 (own_size X) E_b25 F_spans_b25 F_bits_b25 F_texts_b25 F_size_b25 A_sa26 A_sb26 ne_sa26_sb26 ge_b25 ge_sa26 ge_sb26 E_b27 F_text_b27 F_high_b27 F_low_b27) E_b25 (by decide) (by decide) (by decide) (by decide) rfl (lenOf pd_8 rfl) rfl (Nat.le_of_eq rfl) at_43 (own_contVH fun T h X hq29 => ?_)
    obtain ⟨Kc, F_spans_b25, F_bits_b25, F_texts_b25, F_size_b25, A_n1, A_n2⟩ := hq29
    have E_b25 := E_b25.keep Kc
    have E_b27 := E_b27.keep Kc
    have F_text_b27 := F_text_b27.keep Kc (ninS (Ne.symm ne_b25_b27) (ninS (Ne.symm ne_sa26_b27) (ninS (Ne.symm ne_sb26_b27) nin0)))
    have F_high_b27 := F_high_b27.keep Kc (ninS (Ne.symm ne_b25_b27) (ninS (Ne.symm ne_sa26_b27) (ninS (Ne.symm ne_sb26_b27) nin0)))
    have F_low_b27 := F_low_b27.keep Kc (ninS (Ne.symm ne_b25_b27) (ninS (Ne.symm ne_sa26_b27) (ninS (Ne.symm ne_sb26_b27) nin0)))
    obtain ⟨u29_sa26_1, hu29_sa26_1⟩ : ∃ w, w = own_upd f26 0 x0 := ⟨_, rfl⟩
    obtain ⟨u29_sa26, hu29_sa26⟩ : ∃ w, w = own_upd u29_sa26_1 1 x1 := ⟨_, rfl⟩
    rw [← hu29_sa26_1, ← hu29_sa26] at A_n1
    have A_sa26 := A_n1
    obtain ⟨u29_sb26_1, hu29_sb26_1⟩ : ∃ w, w = own_upd g26 0 x0 := ⟨_, rfl⟩
    obtain ⟨u29_sb26, hu29_sb26⟩ : ∃ w, w = own_upd u29_sb26_1 1 x3 := ⟨_, rfl⟩
    rw [← hu29_sb26_1, ← hu29_sb26] at A_n2
    have A_sb26 := A_n2
    refine own_iload X at_46 rfl ?_
    refine own_iconst X (2) at_48 rfl ?_
    refine own_icmpNo X at_49 (flt (own_cGe (a := 2) (b := 2) rfl rfl (by decide))).1 ?_
    refine own_aload X at_52 rfl rfl ?_
    refine own_lload X at_54 rfl ?_
    refine own_lload X at_56 rfl ?_
    refine own_aload X at_58 rfl rfl ?_
    refine own_callV X (W := 0) (a := b25) (argsL := [(.long x2), (.long x3), (.ref b27)]) (rest := []) (hw _ (List.mem_of_getElem? (i := 33) rfl)) (hw _ (List.mem_of_getElem? (i := 34) rfl)) (hw _ (List.mem_of_getElem? (i := 36) rfl)) (hw _ (List.mem_of_getElem? (i := 35) rfl)) (hw _ (List.mem_of_getElem? (i := 3) rfl)) (hw _ (List.mem_of_getElem? (i := 37) rfl)) rfl (by decide) (rmA_1 l Z a0 hw [] b25 x2 x3 b27 sa26 sb26 u29_sa26 u29_sb26 x0 x3 h n0 (own_size X) E_b25 F_spans_b25 F_bits_b25 F_texts_b25 F_size_b25 A_sa26 A_sb26 ne_sa26_sb26 ge_b25 ge_sa26 ge_sb26 E_b27 F_text_b27 F_high_b27 F_low_b27) E_b25 (by decide) (by decide) (by decide) (by decide) rfl (lenOf pd_8 rfl) rfl (Nat.le_of_eq rfl) at_60 (own_contVH fun T h X hq30 => ?_)
    obtain ⟨Kc, F_spans_b25, F_bits_b25, F_texts_b25, F_size_b25, A_n1, A_n2⟩ := hq30
    have E_b25 := E_b25.keep Kc
    have E_b27 := E_b27.keep Kc
    have F_text_b27 := F_text_b27.keep Kc (ninS (Ne.symm ne_b25_b27) (ninS (Ne.symm ne_sa26_b27) (ninS (Ne.symm ne_sb26_b27) nin0)))
    have F_high_b27 := F_high_b27.keep Kc (ninS (Ne.symm ne_b25_b27) (ninS (Ne.symm ne_sa26_b27) (ninS (Ne.symm ne_sb26_b27) nin0)))
    have F_low_b27 := F_low_b27.keep Kc (ninS (Ne.symm ne_b25_b27) (ninS (Ne.symm ne_sa26_b27) (ninS (Ne.symm ne_sb26_b27) nin0)))
    obtain ⟨u30_sa26_1, hu30_sa26_1⟩ : ∃ w, w = own_upd u29_sa26 2 x2 := ⟨_, rfl⟩
    obtain ⟨u30_sa26, hu30_sa26⟩ : ∃ w, w = own_upd u30_sa26_1 3 x3 := ⟨_, rfl⟩
    rw [← hu30_sa26_1, ← hu30_sa26] at A_n1
    have A_sa26 := A_n1
    obtain ⟨u30_sb26_1, hu30_sb26_1⟩ : ∃ w, w = own_upd u29_sb26 2 x0 := ⟨_, rfl⟩
    obtain ⟨u30_sb26, hu30_sb26⟩ : ∃ w, w = own_upd u30_sb26_1 3 x3 := ⟨_, rfl⟩
    rw [← hu30_sb26_1, ← hu30_sb26] at A_n2
    have A_sb26 := A_n2
    refine own_aload X at_63 rfl rfl ?_
    refine own_lload X at_65 rfl ?_
    refine own_callV X (W := 0) (a := b25) (argsL := [(.long x4)]) (rest := []) (hw _ (List.mem_of_getElem? (i := 55) rfl)) (hw _ (List.mem_of_getElem? (i := 56) rfl)) (hw _ (List.mem_of_getElem? (i := 58) rfl)) (hw _ (List.mem_of_getElem? (i := 57) rfl)) (hw _ (List.mem_of_getElem? (i := 3) rfl)) (hw _ (List.mem_of_getElem? (i := 59) rfl)) rfl (by decide) (rmF_2 l Z a0 hw [] b25 x4 sa26 u30_sa26 h n0 (own_size X) E_b25 F_spans_b25 F_size_b25 A_sa26 ge_sa26) E_b25 (by decide) (by decide) (by decide) (by decide) rfl (lenOf pd_6 rfl) rfl (Nat.le_of_eq rfl) at_67 (own_contVH fun T h X hq31 => ?_)
    obtain ⟨Kc, s31, A_n, hs31_0, hs31_1, hs31_2, hs31_3⟩ := hq31
    have E_b25 := E_b25.keep Kc
    have E_b27 := E_b27.keep Kc
    have F_text_b27 := F_text_b27.keep Kc (ninS (Ne.symm ne_sa26_b27) nin0)
    have F_high_b27 := F_high_b27.keep Kc (ninS (Ne.symm ne_sa26_b27) nin0)
    have F_low_b27 := F_low_b27.keep Kc (ninS (Ne.symm ne_sa26_b27) nin0)
    have F_spans_b25 := F_spans_b25.keep Kc (ninS ne_b25_sa26 nin0)
    have F_bits_b25 := F_bits_b25.keep Kc (ninS ne_b25_sa26 nin0)
    have F_texts_b25 := F_texts_b25.keep Kc (ninS ne_b25_sa26 nin0)
    have F_size_b25 := F_size_b25.keep Kc (ninS ne_b25_sa26 nin0)
    have A_sb26 := A_sb26.keep Kc (ninS (Ne.symm ne_sa26_sb26) nin0)
    have A_sa26 := A_n
    have hw31_0 : s31 0 = x0 + x4 := by rw [hs31_0, hu30_sa26, own_upd_miss (by decide), hu30_sa26_1, own_upd_miss (by decide), hu29_sa26, own_upd_miss (by decide), hu29_sa26_1, own_upd_hit]
    have hw31_1 : s31 1 = x1 + x4 := by rw [hs31_1, hu30_sa26, own_upd_miss (by decide), hu30_sa26_1, own_upd_miss (by decide), hu29_sa26, own_upd_hit]
    have hw31_2 : s31 2 = x2 + x4 := by rw [hs31_2, hu30_sa26, own_upd_miss (by decide), hu30_sa26_1, own_upd_hit]
    have hw31_3 : s31 3 = x3 + x4 := by rw [hs31_3, hu30_sa26, own_upd_hit]
    refine own_aload X at_70 rfl rfl ?_
    refine own_callV X (W := 0) (a := b25) (argsL := []) (rest := []) (hw _ (List.mem_of_getElem? (i := 60) rfl)) (hw _ (List.mem_of_getElem? (i := 61) rfl)) (hw _ (List.mem_of_getElem? (i := 63) rfl)) (hw _ (List.mem_of_getElem? (i := 62) rfl)) (hw _ (List.mem_of_getElem? (i := 3) rfl)) (hw _ (List.mem_of_getElem? (i := 64) rfl)) rfl (by decide) (rm10 l Z a0 hw [] b25 (2 : Int32) h n0 (own_size X) F_size_b25) E_b25 (by decide) (by decide) (by decide) (by decide) rfl (lenOf pd_0 rfl) rfl (Nat.le_of_eq rfl) at_72 (own_contI fun T v32 X hq32 => ?_)
    subst hq32
    refine own_iload X at_75 rfl ?_
    refine own_icmpNo X at_77 (teq (own_cEq (a := 2) (b := 2) rfl rfl (by decide))).2 ?_
    refine own_iconst X (1) at_80 rfl ?_
    refine own_goto X (pc := 81) (pc' := 85) at_81 (by decide) (by decide) ?_
    refine own_istore X at_85 (L' := #[.val (.long x0), .second, .val (.long x1), .second, .val (.long x2), .second, .val (.long x3), .second, .val (.long x4), .second, .val (.int x5), .val (.int (2 : Int32)), .val (.ref b25), .val (.ref b27), .val (.int (1 : Int32)), .unset]) rfl ?_
    refine own_iload X at_87 rfl ?_
    refine own_iconst X (1) at_89 rfl ?_
    refine own_icmpNo X at_90 (flt (own_cGe (a := 2) (b := 1) rfl rfl (by decide))).1 ?_
    refine own_aload X at_93 rfl rfl ?_
    refine own_iconst X (0) at_95 rfl ?_
    refine own_callV X (W := 0) (a := b25) (argsL := [(.int (0 : Int32))]) (rest := []) (hw _ (List.mem_of_getElem? (i := 65) rfl)) (hw _ (List.mem_of_getElem? (i := 66) rfl)) (hw _ (List.mem_of_getElem? (i := 68) rfl)) (hw _ (List.mem_of_getElem? (i := 67) rfl)) (hw _ (List.mem_of_getElem? (i := 3) rfl)) (hw _ (List.mem_of_getElem? (i := 69) rfl)) rfl (by decide) (rm11 l Z a0 hw [] b25 sb26 u30_sb26 h n0 (own_size X) F_bits_b25 F_texts_b25 A_sb26) E_b25 (by decide) (by decide) (by decide) (by decide) rfl (lenOf pd_5 rfl) rfl (Nat.le_of_eq rfl) at_96 (own_contRH fun T h v33 X hq33 => ?_)
    obtain ⟨Kc, kb33, rfl, ge_kb33, E_kb33, F_high_kb33, F_low_kb33⟩ := hq33
    have E_b25 := E_b25.keep Kc
    have E_b27 := E_b27.keep Kc
    have F_text_b27 := F_text_b27.keep Kc nin0
    have F_high_b27 := F_high_b27.keep Kc nin0
    have F_low_b27 := F_low_b27.keep Kc nin0
    have F_spans_b25 := F_spans_b25.keep Kc nin0
    have F_bits_b25 := F_bits_b25.keep Kc nin0
    have F_texts_b25 := F_texts_b25.keep Kc nin0
    have F_size_b25 := F_size_b25.keep Kc nin0
    have A_sb26 := A_sb26.keep Kc nin0
    have A_sa26 := A_sa26.keep Kc nin0
    rw [show u30_sb26 0 = x0 from by rw [hu30_sb26, own_upd_miss (by decide), hu30_sb26_1, own_upd_miss (by decide), hu29_sb26, own_upd_miss (by decide), hu29_sb26_1, own_upd_hit]] at F_high_kb33
    rw [show u30_sb26 1 = x3 from by rw [hu30_sb26, own_upd_miss (by decide), hu30_sb26_1, own_upd_miss (by decide), hu29_sb26, own_upd_hit]] at F_low_kb33
    refine own_astore X at_99 rfl (L' := #[.val (.long x0), .second, .val (.long x1), .second, .val (.long x2), .second, .val (.long x3), .second, .val (.long x4), .second, .val (.int x5), .val (.int (2 : Int32)), .val (.ref b25), .val (.ref b27), .val (.int (1 : Int32)), .val (.ref kb33)]) rfl ?_
    refine own_iload X at_101 rfl ?_
    refine own_ifNo X at_103 ((if0 _ _).trans (feq (own_cNe (a := 1) (b := 0) rfl rfl (by decide))).1) ?_
    refine own_aload X at_106 rfl rfl ?_
    refine own_iconst X (0) at_108 rfl ?_
    refine own_callV X (W := 0) (a := b25) (argsL := [(.int (0 : Int32))]) (rest := []) (hw _ (List.mem_of_getElem? (i := 74) rfl)) (hw _ (List.mem_of_getElem? (i := 75) rfl)) (hw _ (List.mem_of_getElem? (i := 77) rfl)) (hw _ (List.mem_of_getElem? (i := 76) rfl)) (hw _ (List.mem_of_getElem? (i := 3) rfl)) (hw _ (List.mem_of_getElem? (i := 78) rfl)) rfl (by decide) (rmS_start_0 l Z a0 hw [] b25 sa26 s31 h n0 (own_size X) F_spans_b25 A_sa26) E_b25 (by decide) (by decide) (by decide) (by decide) rfl (lenOf pd_4 rfl) rfl (Nat.le_of_eq rfl) at_109 (own_contJ fun T v34 X hq34 => ?_)
    rw [hw31_0] at hq34
    refine own_lloadN X at_112 rfl ?_
    refine own_lload X at_113 rfl ?_
    refine own_laddE X at_115 v34 (hq34.symm) ?_
    refine own_lcmp X at_116 ?_
    have hc35 : v34.toInt = v34.toInt := rfl
    refine own_ifNo X at_117 ((if0 _ _).trans (teq (own_lEq rfl rfl hc35)).2) ?_
    refine own_aload X at_120 rfl rfl ?_
    refine own_iconst X (0) at_122 rfl ?_
    refine own_callV X (W := 0) (a := b25) (argsL := [(.int (0 : Int32))]) (rest := []) (hw _ (List.mem_of_getElem? (i := 79) rfl)) (hw _ (List.mem_of_getElem? (i := 80) rfl)) (hw _ (List.mem_of_getElem? (i := 82) rfl)) (hw _ (List.mem_of_getElem? (i := 81) rfl)) (hw _ (List.mem_of_getElem? (i := 3) rfl)) (hw _ (List.mem_of_getElem? (i := 83) rfl)) rfl (by decide) (rmS_end_0 l Z a0 hw [] b25 sa26 s31 h n0 (own_size X) F_spans_b25 A_sa26) E_b25 (by decide) (by decide) (by decide) (by decide) rfl (lenOf pd_4 rfl) rfl (Nat.le_of_eq rfl) at_123 (own_contJ fun T v36 X hq36 => ?_)
    rw [hw31_1] at hq36
    refine own_lloadN X at_126 rfl ?_
    refine own_lload X at_127 rfl ?_
    refine own_laddE X at_129 v36 (hq36.symm) ?_
    refine own_lcmp X at_130 ?_
    have hc37 : v36.toInt = v36.toInt := rfl
    refine own_ifNo X at_131 ((if0 _ _).trans (teq (own_lEq rfl rfl hc37)).2) ?_
    refine own_aload X at_134 rfl rfl ?_
    refine own_callV X (W := 0) (a := kb33) (argsL := []) (rest := []) (hw _ (List.mem_of_getElem? (i := 84) rfl)) (hw _ (List.mem_of_getElem? (i := 41) rfl)) (hw _ (List.mem_of_getElem? (i := 43) rfl)) (hw _ (List.mem_of_getElem? (i := 42) rfl)) (hw _ (List.mem_of_getElem? (i := 17) rfl)) (hw _ (List.mem_of_getElem? (i := 44) rfl)) rfl (by decide) (rm6 l Z a0 hw [] kb33 x0 h n0 (own_size X) F_high_kb33) E_kb33 (by decide) (by decide) (by decide) (by decide) rfl (lenOf pd_1 rfl) rfl (Nat.le_of_eq rfl) at_136 (own_contJ fun T v38 X hq38 => ?_)
    rw [hq38]
    refine own_lloadN X at_139 rfl ?_
    refine own_lcmp X at_140 ?_
    have hc39 : x0.toInt = x0.toInt := rfl
    refine own_ifNo X at_141 ((if0 _ _).trans (teq (own_lEq rfl rfl hc39)).2) ?_
    refine own_aload X at_144 rfl rfl ?_
    refine own_callV X (W := 0) (a := kb33) (argsL := []) (rest := []) (hw _ (List.mem_of_getElem? (i := 85) rfl)) (hw _ (List.mem_of_getElem? (i := 46) rfl)) (hw _ (List.mem_of_getElem? (i := 48) rfl)) (hw _ (List.mem_of_getElem? (i := 47) rfl)) (hw _ (List.mem_of_getElem? (i := 17) rfl)) (hw _ (List.mem_of_getElem? (i := 49) rfl)) rfl (by decide) (rm7 l Z a0 hw [] kb33 x3 h n0 (own_size X) F_low_kb33) E_kb33 (by decide) (by decide) (by decide) (by decide) rfl (lenOf pd_1 rfl) rfl (Nat.le_of_eq rfl) at_146 (own_contJ fun T v40 X hq40 => ?_)
    rw [hq40]
    refine own_lload X at_149 rfl ?_
    refine own_lcmp X at_151 ?_
    have hc41 : x3.toInt = x3.toInt := rfl
    refine own_ifNo X at_152 ((if0 _ _).trans (teq (own_lEq rfl rfl hc41)).2) ?_
    refine own_iconst X (1) at_155 rfl ?_
    refine own_goto X (pc := 156) (pc' := 160) at_156 (by decide) (by decide) ?_
    refine own_istore X at_160 (L' := #[.val (.long x0), .second, .val (.long x1), .second, .val (.long x2), .second, .val (.long x3), .second, .val (.long x4), .second, .val (.int x5), .val (.int (2 : Int32)), .val (.ref b25), .val (.ref b27), .val (.int (1 : Int32)), .val (.ref kb33)]) rfl ?_
    refine own_iload X at_162 rfl ?_
    refine own_iconst X (2) at_164 rfl ?_
    refine own_icmpNo X at_165 (flt (own_cGe (a := 2) (b := 2) rfl rfl (by decide))).1 ?_
    refine own_iload X at_168 rfl ?_
    refine own_ifNo X at_170 ((if0 _ _).trans (feq (own_cNe (a := 1) (b := 0) rfl rfl (by decide))).1) ?_
    refine own_aload X at_173 rfl rfl ?_
    refine own_iconst X (1) at_175 rfl ?_
    refine own_callV X (W := 0) (a := b25) (argsL := [(.int (1 : Int32))]) (rest := []) (hw _ (List.mem_of_getElem? (i := 74) rfl)) (hw _ (List.mem_of_getElem? (i := 75) rfl)) (hw _ (List.mem_of_getElem? (i := 77) rfl)) (hw _ (List.mem_of_getElem? (i := 76) rfl)) (hw _ (List.mem_of_getElem? (i := 3) rfl)) (hw _ (List.mem_of_getElem? (i := 78) rfl)) rfl (by decide) (rmS_start_1 l Z a0 hw [] b25 sa26 s31 h n0 (own_size X) F_spans_b25 A_sa26) E_b25 (by decide) (by decide) (by decide) (by decide) rfl (lenOf pd_4 rfl) rfl (Nat.le_of_eq rfl) at_176 (own_contJ fun T v42 X hq42 => ?_)
    rw [hw31_2] at hq42
    refine own_lload X at_179 rfl ?_
    refine own_lload X at_181 rfl ?_
    refine own_laddE X at_183 v42 (hq42.symm) ?_
    refine own_lcmp X at_184 ?_
    have hc43 : v42.toInt = v42.toInt := rfl
    refine own_ifNo X at_185 ((if0 _ _).trans (teq (own_lEq rfl rfl hc43)).2) ?_
    refine own_aload X at_188 rfl rfl ?_
    refine own_iconst X (1) at_190 rfl ?_
    refine own_callV X (W := 0) (a := b25) (argsL := [(.int (1 : Int32))]) (rest := []) (hw _ (List.mem_of_getElem? (i := 79) rfl)) (hw _ (List.mem_of_getElem? (i := 80) rfl)) (hw _ (List.mem_of_getElem? (i := 82) rfl)) (hw _ (List.mem_of_getElem? (i := 81) rfl)) (hw _ (List.mem_of_getElem? (i := 3) rfl)) (hw _ (List.mem_of_getElem? (i := 83) rfl)) rfl (by decide) (rmS_end_1 l Z a0 hw [] b25 sa26 s31 h n0 (own_size X) F_spans_b25 A_sa26) E_b25 (by decide) (by decide) (by decide) (by decide) rfl (lenOf pd_4 rfl) rfl (Nat.le_of_eq rfl) at_191 (own_contJ fun T v44 X hq44 => ?_)
    rw [hw31_3] at hq44
    refine own_lload X at_194 rfl ?_
    refine own_lload X at_196 rfl ?_
    refine own_laddE X at_198 v44 (hq44.symm) ?_
    refine own_lcmp X at_199 ?_
    have hc45 : v44.toInt = v44.toInt := rfl
    refine own_ifNo X at_200 ((if0 _ _).trans (teq (own_lEq rfl rfl hc45)).2) ?_
    refine own_iconst X (1) at_203 rfl ?_
    refine own_goto X (pc := 204) (pc' := 208) at_204 (by decide) (by decide) ?_
    refine own_istore X at_208 (L' := #[.val (.long x0), .second, .val (.long x1), .second, .val (.long x2), .second, .val (.long x3), .second, .val (.long x4), .second, .val (.int x5), .val (.int (2 : Int32)), .val (.ref b25), .val (.ref b27), .val (.int (1 : Int32)), .val (.ref kb33)]) rfl ?_
    refine own_iload X at_210 rfl ?_
    refine own_retN (t := .boolean) X (z' := (1 : Int32)) (Or.inl rfl) rfl rfl at_212 (by decide) (by decide) ⟨_, rfl, ?_⟩
    rfl
set_option maxRecDepth 65536 in
set_option maxHeartbeats 40000000 in
theorem comes_1 {Post : Tables → Env → Array Value → State → Outcome → State → Prop} (hpost : ∀ tb e args s v u, (limb_1_1.after args s (.returned v) u = true ∧ limb_1_2.after args s (.returned v) u = true ∧ True) → FrameEnd s (.returned v) u (Jvm.fieldLocs frame_1_writes args s ++ Jvm.arrayLocs frame_1_arrays args s ++ Jvm.staticLocs frame_1_statics s) 24 8320 → Post tb e args s (.returned v) u) :
    ArmFor flags0 classFile x code maxLocals ret World_1 tables_1 room_1 Calls_1 rest_1 Pre_1 Post := by
  intro l hfl _ _ p e ha hc hk s m args below hf hA hF happ hP
  obtain ⟨hcalls, hrest, hpre⟩ := hP
  obtain ⟨-, -, -, hnamed, -, -, -, hat⟩ := (Spec.applies_iff hf).mp happ
  obtain ⟨hg, hn⟩ := and_e (Cond.before_iff.mp (show (Jvm.Cond.and given_1 narrow_1).before args s = true from hpre))
  obtain ⟨gcount, gt0⟩ := and_e hg
  obtain ⟨ga0, gt1⟩ := and_e gt0
  obtain ⟨ga1, gt2⟩ := and_e gt1
  obtain ⟨ga2, gt3⟩ := and_e gt2
  obtain ⟨ga3, gt4⟩ := and_e gt3
  obtain ⟨ga4, gt5⟩ := and_e gt4
  obtain ⟨w0, w1, w2, w3, w4, w5, rfl⟩ : ∃ w0 w1 w2 w3 w4 w5 : Value, args = #[w0, w1, w2, w3, w4, w5] := by
    have hs : args.size = 6 := by simpa [Cond.value, given_1] using gcount
    obtain ⟨L⟩ := args
    match L, hs with
    | [w0, w1, w2, w3, w4, w5], _ => exact ⟨w0, w1, w2, w3, w4, w5, rfl⟩
  have hw := fun d (hd : d ∈ tables_1) => atoms_spec (ws := Jvm.Cond.code x code maxLocals ret :: tables_1) hat d (List.mem_cons_of_mem _ hd)
  obtain ⟨i0, ei0⟩ := isL_v ga0
  obtain rfl : w0 = (.long i0) := Option.some.inj ei0
  obtain ⟨i1, ei1⟩ := isL_v ga1
  obtain rfl : w1 = (.long i1) := Option.some.inj ei1
  obtain ⟨i2, ei2⟩ := isL_v ga2
  obtain rfl : w2 = (.long i2) := Option.some.inj ei2
  obtain ⟨i3, ei3⟩ := isL_v ga3
  obtain rfl : w3 = (.long i3) := Option.some.inj ei3
  obtain ⟨i4, ei4⟩ := isL_v ga4
  obtain rfl : w4 = (.long i4) := Option.some.inj ei4
  obtain ⟨i5, ei5⟩ := is_v gt5
  obtain rfl : w5 = (.int i5) := Option.some.inj ei5
  obtain ⟨n, o, h1, h2, h3, _, L, rfl, ⟨N, z, rfl, hz⟩, hq⟩ := rm0 l s _ hw tables_1 i0 i1 i2 i3 i4 i5 s.heap s.heap.size (Nat.le_refl _) p e ha hc hk s m _ below hf ((Spec.applies_iff_loose hf).mp happ).1 ⟨rfl, State.Warmed39.refl s, rfl⟩ trivial
  subst hz
  refine ⟨n, _, h1, h2, h3, hpost _ _ _ _ _ _ ⟨Cond.after_iff.mpr rfl, Cond.after_iff.mpr (eq_i res_at (Term.int_eval (1)) rfl), trivial⟩ ⟨hq.1, hq.2.1, (hq.2.2.sift fun y hy => Or.inr (N y hy)).mono (by decide) (by decide)⟩⟩
theorem main_1_1 : Claimed_1_1 := comes_1 fun _ _ _ _ _ _ h hF => ⟨h.1, hF⟩
theorem main_1_2 : Claimed_1_2 := comes_1 fun _ _ _ _ _ _ h hF => ⟨h.2.1, hF⟩
end Jvm.Pilot.@@N@@
namespace Jvm.Pilot.@@N@@
open Jvm Jvm.ClassFile Sem Op Lib Jvm.Free Jvm.Stand Jvm.Pilot.@@N@@.Jvm.D
/-! MADE BY PROGRAM (witnessworld.py) out of the Statement's table words and the real class files: 13 classes; the members and pool entries that the words name. The judged class is class 1, her method 1. -/
namespace start1
open Jvm.ClassFile
def u (s : String) : CpInfo := .utf8 (stringToUtf16 s)
/-- a pool by its gaps: so many unusable entries, then the entry; so many at the end -/
def gap : Nat → List CpInfo → List CpInfo
  | 0, r => r
  | n + 1, r => .unusable :: gap n r
def poolList (es : List (Nat × CpInfo)) (last : Nat) : List CpInfo := es.foldr (fun e r => gap e.1 (e.2 :: r)) (gap last [])
def pool (es : List (Nat × CpInfo)) (last : Nat) : Array CpInfo := ⟨poolList es last⟩
def fileOf (pool : Array CpInfo) (this : Nat) (attrs : Array Attribute := #[]) (ms : Array MethodInfo := #[]) (fl : Nat := 33) (sup : Nat := 0) (ifs : Array Nat := #[]) (fds : Array FieldInfo := #[]) : ClassFile where
  minorVersion := 0
  majorVersion := 65
  constantPool := pool
  accessFlags := fl
  thisClass := this
  superClass := sup
  interfaces := ifs
  fields := fds
  methods := ms
  attributes := attrs
def plain (name : String) (sup : Option ClassId) : Class where
  name := name
  kind := .ordinary
  loader := none
  accessFlags := 33
  super := sup
  interfaces := #[]
  cf := none
  fields := #[]
  methods := #[]
  instanceTypes := #[]
  staticTypes := #[]
  resolved := #[]
  callSites := []
  init := .initialized
  statics := none
  mirror := none

def pool0 : Array CpInfo := pool [(5, u "<init>"), (0, u "()V"), (1, .class_ 10), (1, u "java/lang/Object")] 113

def k0c0 : Code := { maxStack := 0, maxLocals := 1, code := object_method_1_code, exceptionTable := #[], attributes := #[] }
def k0m0 : Method := { name := "<init>", desc := "()V", sig := { parameters := [], returnType := none }, accessFlags := 1, code := some k0c0 }
/-- java/lang/Object -/
def k0 : Class := { plain "java/lang/Object" none with
  accessFlags := 33
  interfaces := #[]
  cf := some (fileOf pool0 8 #[] #[{ accessFlags := 1, nameIndex := 5, descriptorIndex := 6, attributes := #[] }] 33 0 #[] #[])
  fields := #[]
  methods := #[k0m0]
  instanceTypes := #[]
  staticTypes := #[]
  resolved := Array.replicate 124 none
  statics := none }

def pool1 : Array CpInfo := pool [(2, .class_ 4), (0, .nameAndType 5 6), (0, u "java/lang/Object"), (0, u "<init>"), (0, u "()V"), (0, .integer 2147483647), (0, .class_ 9), (0, u "com/example/vacancy/vacancy/state/LeaseSpans"), (0, .methodref 8 3), (0, .class_ 12), (0, u "com/example/vacancy/vacancy/slots/LeaseKey"), (0, .methodref 11 14), (0, .nameAndType 5 15), (0, u "(Ljava/lang/String;JJ)V"), (0, .methodref 8 17), (0, .nameAndType 18 19), (0, u "add"), (0, u "(JJLcom/example/vacancy/vacancy/slots/LeaseKey;)V"), (0, .methodref 8 21), (0, .nameAndType 22 23), (0, u "shift"), (0, u "(J)V"), (0, .methodref 8 25), (0, .nameAndType 26 27), (0, u "size"), (0, u "()I"), (0, .methodref 8 29), (0, .nameAndType 30 31), (0, u "key"), (0, u "(I)Lcom/example/vacancy/vacancy/slots/LeaseKey;"), (0, .methodref 8 33), (0, .nameAndType 34 35), (0, u "start"), (0, u "(I)J"), (0, .methodref 8 37), (0, .nameAndType 38 35), (0, u "end"), (0, .methodref 11 40), (0, .nameAndType 41 42), (0, u "high"), (0, u "()J"), (0, .methodref 11 44), (0, .nameAndType 45 42), (0, u "low"), (0, .class_ 47), (0, u "com/example/vacancy/vacancy/state/LeaseSpansShiftPinLaw"), (2, u "law"), (0, u "(JJJJJI)Z")] 3

def k1m0 : Method := { name := "<init>", desc := "()V", sig := { parameters := [], returnType := none }, accessFlags := 1, code := none }
def k1c1 : Code := { maxStack := 7, maxLocals := 16, code := code, exceptionTable := #[], attributes := #[] }
def k1m1 : Method := { name := "law", desc := "(JJJJJI)Z", sig := { parameters := [.long, .long, .long, .long, .long, .int], returnType := some .boolean }, accessFlags := 9, code := some k1c1 }
/-- com/example/vacancy/vacancy/state/LeaseSpansShiftPinLaw -/
def k1 : Class := { plain "com/example/vacancy/vacancy/state/LeaseSpansShiftPinLaw" (some 0) with
  accessFlags := 49
  interfaces := #[]
  cf := some (fileOf pool1 46 #[] #[{ accessFlags := 1, nameIndex := 5, descriptorIndex := 6, attributes := #[] }, { accessFlags := 9, nameIndex := 50, descriptorIndex := 51, attributes := #[] }] 49 2 #[] #[])
  fields := #[]
  methods := #[k1m0, k1m1]
  instanceTypes := #[]
  staticTypes := #[]
  resolved := Array.replicate 55 none
  statics := none }

def pool2 : Array CpInfo := pool [(1, .methodref 2 3), (0, .class_ 4), (0, .nameAndType 5 6), (0, u "java/lang/Object"), (0, u "<init>"), (0, u "()V"), (0, .class_ 8), (0, u "com/example/vacancy/vacancy/state/LeaseSpans"), (0, .fieldref 7 10), (0, .nameAndType 11 12), (0, u "spans"), (0, u "[J"), (0, .fieldref 7 14), (0, .nameAndType 15 12), (0, u "bits"), (0, .fieldref 7 17), (0, .nameAndType 18 19), (0, u "size"), (0, u "I"), (6, .methodref 27 28), (0, .class_ 29), (0, .nameAndType 30 31), (0, u "com/example/vacancy/vacancy/slots/LeaseKey"), (0, u "high"), (0, u "()J"), (0, .methodref 27 33), (0, .nameAndType 34 31), (0, u "low"), (0, .methodref 27 36), (0, .nameAndType 37 38), (0, u "text"), (0, u "()Ljava/lang/String;"), (0, .fieldref 7 40), (0, .nameAndType 41 42), (0, u "texts"), (0, u "Ljava/util/Map;"), (17, u "start"), (0, u "(I)J"), (2, u "end"), (2, u "key"), (0, u "(I)Lcom/example/vacancy/vacancy/slots/LeaseKey;"), (2, u "add"), (0, u "(JJLcom/example/vacancy/vacancy/slots/LeaseKey;)V"), (6, .methodref 27 80), (0, .nameAndType 5 81), (0, u "(Ljava/lang/String;JJ)V"), (0, u "FIRST_LEASES"), (10, u "shift"), (0, u "(J)V"), (0, u "()I")] 2

def k2c0 : Code := { maxStack := 2, maxLocals := 1, code := prog_53_method_1_code, exceptionTable := #[], attributes := #[] }
def k2m0 : Method := { name := "<init>", desc := "()V", sig := { parameters := [], returnType := none }, accessFlags := 0, code := some k2c0 }
def k2c1 : Code := { maxStack := 4, maxLocals := 6, code := prog_53_method_2_code, exceptionTable := #[], attributes := #[] }
def k2m1 : Method := { name := "add", desc := "(JJLcom/example/vacancy/vacancy/slots/LeaseKey;)V", sig := { parameters := [.long, .long, (.object "com/example/vacancy/vacancy/slots/LeaseKey")], returnType := none }, accessFlags := 0, code := some k2c1 }
def k2c2 : Code := { maxStack := 6, maxLocals := 4, code := prog_53_method_5_code, exceptionTable := #[], attributes := #[] }
def k2m2 : Method := { name := "shift", desc := "(J)V", sig := { parameters := [.long], returnType := none }, accessFlags := 0, code := some k2c2 }
def k2c3 : Code := { maxStack := 1, maxLocals := 1, code := prog_53_method_6_code, exceptionTable := #[], attributes := #[] }
def k2m3 : Method := { name := "size", desc := "()I", sig := { parameters := [], returnType := some .int }, accessFlags := 0, code := some k2c3 }
def k2c4 : Code := { maxStack := 3, maxLocals := 2, code := prog_53_method_7_code, exceptionTable := #[], attributes := #[] }
def k2m4 : Method := { name := "start", desc := "(I)J", sig := { parameters := [.int], returnType := some .long }, accessFlags := 0, code := some k2c4 }
def k2c5 : Code := { maxStack := 3, maxLocals := 2, code := prog_53_method_8_code, exceptionTable := #[], attributes := #[] }
def k2m5 : Method := { name := "end", desc := "(I)J", sig := { parameters := [.int], returnType := some .long }, accessFlags := 0, code := some k2c5 }
def k2c6 : Code := { maxStack := 8, maxLocals := 3, code := prog_53_method_9_code, exceptionTable := #[], attributes := #[] }
def k2m6 : Method := { name := "key", desc := "(I)Lcom/example/vacancy/vacancy/slots/LeaseKey;", sig := { parameters := [.int], returnType := some (.object "com/example/vacancy/vacancy/slots/LeaseKey") }, accessFlags := 0, code := some k2c6 }
/-- com/example/vacancy/vacancy/state/LeaseSpans -/
def k2 : Class := { plain "com/example/vacancy/vacancy/state/LeaseSpans" (some 0) with
  accessFlags := 32
  interfaces := #[]
  cf := some (fileOf pool2 7 #[] #[{ accessFlags := 0, nameIndex := 5, descriptorIndex := 6, attributes := #[] }, { accessFlags := 0, nameIndex := 71, descriptorIndex := 72, attributes := #[] }, { accessFlags := 0, nameIndex := 93, descriptorIndex := 94, attributes := #[] }, { accessFlags := 0, nameIndex := 18, descriptorIndex := 95, attributes := #[] }, { accessFlags := 0, nameIndex := 60, descriptorIndex := 61, attributes := #[] }, { accessFlags := 0, nameIndex := 64, descriptorIndex := 61, attributes := #[] }, { accessFlags := 0, nameIndex := 67, descriptorIndex := 68, attributes := #[] }] 32 2 #[] #[{ accessFlags := 26, nameIndex := 82, descriptorIndex := 19, attributes := #[] }, { accessFlags := 2, nameIndex := 11, descriptorIndex := 12, attributes := #[] }, { accessFlags := 2, nameIndex := 15, descriptorIndex := 12, attributes := #[] }, { accessFlags := 2, nameIndex := 41, descriptorIndex := 42, attributes := #[] }, { accessFlags := 2, nameIndex := 18, descriptorIndex := 19, attributes := #[] }])
  fields := #[{ name := "FIRST_LEASES", type := .int, accessFlags := 26, slot := 0, constantValue := 0 }, { name := "spans", type := (.array .long), accessFlags := 2, slot := 0, constantValue := 0 }, { name := "bits", type := (.array .long), accessFlags := 2, slot := 1, constantValue := 0 }, { name := "texts", type := (.object "java/util/Map"), accessFlags := 2, slot := 2, constantValue := 0 }, { name := "size", type := .int, accessFlags := 2, slot := 3, constantValue := 0 }]
  methods := #[k2m0, k2m1, k2m2, k2m3, k2m4, k2m5, k2m6]
  instanceTypes := #[(.array .long), (.array .long), (.object "java/util/Map"), .int]
  staticTypes := #[.int]
  resolved := Array.replicate 98 none
  statics := none }

def pool3 : Array CpInfo := pool [(1, .methodref 2 3), (0, .class_ 4), (0, .nameAndType 5 6), (0, u "java/lang/Object"), (0, u "<init>"), (0, u "()V"), (0, .class_ 8), (0, u "java/lang/Record")] 13

def k3c0 : Code := { maxStack := 1, maxLocals := 1, code := jdk_30_method_1_code, exceptionTable := #[], attributes := #[] }
def k3m0 : Method := { name := "<init>", desc := "()V", sig := { parameters := [], returnType := none }, accessFlags := 4, code := some k3c0 }
/-- java/lang/Record -/
def k3 : Class := { plain "java/lang/Record" (some 0) with
  accessFlags := 1057
  interfaces := #[]
  cf := some (fileOf pool3 7 #[] #[{ accessFlags := 4, nameIndex := 5, descriptorIndex := 6, attributes := #[] }] 1057 2 #[] #[])
  fields := #[]
  methods := #[k3m0]
  instanceTypes := #[]
  staticTypes := #[]
  resolved := Array.replicate 22 none
  statics := none }

def pool4 : Array CpInfo := pool [(1, .methodref 2 3), (0, .class_ 4), (0, .nameAndType 5 6), (0, u "java/lang/Record"), (0, u "<init>"), (0, u "()V"), (0, .fieldref 8 9), (0, .class_ 10), (0, .nameAndType 11 12), (0, u "com/example/vacancy/vacancy/slots/LeaseKey"), (0, u "text"), (0, u "Ljava/lang/String;"), (0, .fieldref 8 14), (0, .nameAndType 15 16), (0, u "high"), (0, u "J"), (0, .fieldref 8 18), (0, .nameAndType 19 16), (0, u "low"), (8, u "(Ljava/lang/String;JJ)V"), (49, u "HEX_DIGITS"), (0, u "[B"), (20, u "BITS_TEXT_LENGTH"), (0, u "I"), (11, u "()Ljava/lang/String;"), (1, u "()J")] 31

def k4c0 : Code := { maxStack := 3, maxLocals := 6, code := prog_41_method_1_code, exceptionTable := #[], attributes := #[] }
def k4m0 : Method := { name := "<init>", desc := "(Ljava/lang/String;JJ)V", sig := { parameters := [(.object "java/lang/String"), .long, .long], returnType := none }, accessFlags := 1, code := some k4c0 }
def k4c1 : Code := { maxStack := 1, maxLocals := 1, code := prog_41_method_12_code, exceptionTable := #[], attributes := #[] }
def k4m1 : Method := { name := "text", desc := "()Ljava/lang/String;", sig := { parameters := [], returnType := some (.object "java/lang/String") }, accessFlags := 1, code := some k4c1 }
def k4c2 : Code := { maxStack := 2, maxLocals := 1, code := prog_41_method_13_code, exceptionTable := #[], attributes := #[] }
def k4m2 : Method := { name := "high", desc := "()J", sig := { parameters := [], returnType := some .long }, accessFlags := 1, code := some k4c2 }
def k4c3 : Code := { maxStack := 2, maxLocals := 1, code := prog_41_method_14_code, exceptionTable := #[], attributes := #[] }
def k4m3 : Method := { name := "low", desc := "()J", sig := { parameters := [], returnType := some .long }, accessFlags := 1, code := some k4c3 }
/-- com/example/vacancy/vacancy/slots/LeaseKey -/
def k4 : Class := { plain "com/example/vacancy/vacancy/slots/LeaseKey" (some 3) with
  accessFlags := 49
  interfaces := #[]
  cf := some (fileOf pool4 8 #[] #[{ accessFlags := 1, nameIndex := 5, descriptorIndex := 28, attributes := #[] }, { accessFlags := 1, nameIndex := 11, descriptorIndex := 113, attributes := #[] }, { accessFlags := 1, nameIndex := 15, descriptorIndex := 115, attributes := #[] }, { accessFlags := 1, nameIndex := 19, descriptorIndex := 115, attributes := #[] }] 49 2 #[] #[{ accessFlags := 18, nameIndex := 11, descriptorIndex := 12, attributes := #[] }, { accessFlags := 18, nameIndex := 15, descriptorIndex := 16, attributes := #[] }, { accessFlags := 18, nameIndex := 19, descriptorIndex := 16, attributes := #[] }, { accessFlags := 25, nameIndex := 100, descriptorIndex := 101, attributes := #[] }, { accessFlags := 26, nameIndex := 78, descriptorIndex := 79, attributes := #[] }])
  fields := #[{ name := "text", type := (.object "java/lang/String"), accessFlags := 18, slot := 0, constantValue := 0 }, { name := "high", type := .long, accessFlags := 18, slot := 1, constantValue := 0 }, { name := "low", type := .long, accessFlags := 18, slot := 2, constantValue := 0 }, { name := "BITS_TEXT_LENGTH", type := .int, accessFlags := 25, slot := 0, constantValue := 0 }, { name := "HEX_DIGITS", type := (.array .byte), accessFlags := 26, slot := 1, constantValue := 0 }]
  methods := #[k4m0, k4m1, k4m2, k4m3]
  instanceTypes := #[(.object "java/lang/String"), .long, .long]
  staticTypes := #[.int, (.array .byte)]
  resolved := Array.replicate 147 none
  statics := none }

def pool5 : Array CpInfo := pool [(1, u "java/lang/Cloneable"), (0, .class_ 1), (0, u "java/lang/Object"), (0, .class_ 3)] 3

/-- java/lang/Cloneable -/
def k5 : Class := { plain "java/lang/Cloneable" (some 0) with
  accessFlags := 1537
  interfaces := #[]
  cf := some (fileOf pool5 2 #[] #[] 1537 4 #[] #[])
  fields := #[]
  methods := #[]
  instanceTypes := #[]
  staticTypes := #[]
  resolved := Array.replicate 8 none
  statics := none }

def pool6 : Array CpInfo := pool [(1, u "java/io/Serializable"), (0, .class_ 1), (0, u "java/lang/Object"), (0, .class_ 3)] 3

/-- java/io/Serializable -/
def k6 : Class := { plain "java/io/Serializable" (some 0) with
  accessFlags := 1537
  interfaces := #[]
  cf := some (fileOf pool6 2 #[] #[] 1537 4 #[] #[])
  fields := #[]
  methods := #[]
  instanceTypes := #[]
  staticTypes := #[]
  resolved := Array.replicate 8 none
  statics := none }

/-- the primitive byte -/
def k7 : Class := { plain "byte" none with kind := .primitive 'B', accessFlags := 0x411 }
/-- [B -/
def k8 : Class := { plain "[B" (some 0) with kind := .array 7 .byte, interfaces := #[5, 6], accessFlags := 1041 }

/-- the primitive int -/
def k9 : Class := { plain "int" none with kind := .primitive 'I', accessFlags := 0x411 }
/-- [I -/
def k10 : Class := { plain "[I" (some 0) with kind := .array 9 .int, interfaces := #[5, 6], accessFlags := 1041 }

/-- the primitive long -/
def k11 : Class := { plain "long" none with kind := .primitive 'J', accessFlags := 0x411 }
/-- [J -/
def k12 : Class := { plain "[J" (some 0) with kind := .array 11 .long, interfaces := #[5, 6], accessFlags := 1041 }

def heap : Heap := #[]
def classes : Array Class := #[k0, k1, k2, k3, k4, k5, k6, k7, k8, k9, k10, k11, k12]
def interned : List (Array UInt16 × Addr) := []
def slotsUsed : Nat := 0
def theMethod : MethodId := ⟨1, 1⟩
def args0 : Array Value := #[.long 50, .long 7, .long 9, .long 1, .long 2, .int 4]
def aboutOver (below : List Frame) : State where
  vm := { classes := classes, interned := interned.toArray }
  heap := heap
  slotsUsed := slotsUsed
  threads := #[{ frames := .invoking theMethod args0 :: below }]
def below0 : List Frame := [.native { method := ⟨0, 0⟩, args := #[] }]
def about1 : State := aboutOver below0
def p0 : Program := .bare "" "" ""
def e0 : Env := launch0.env 0 0 0
theorem w_frames : about1.frames = Frame.invoking theMethod args0 :: below0 := rfl
set_option maxRecDepth 65536 in
theorem w_args : argsFit about1.vm theMethod args0 = true := by decide +kernel
set_option maxRecDepth 65536 in
theorem w_heap : heapFits about1 = true := by decide +kernel
set_option maxRecDepth 65536 in
theorem w_runnable : about1.curStatus? = some .runnable := by decide +kernel
set_option maxRecDepth 65536 in
theorem w_alone : about1.alone = true := by decide +kernel
set_option maxRecDepth 65536 in
theorem w_named : about1.methodNamed? x = some theMethod := by decide +kernel
set_option maxRecDepth 65536 in
theorem w_hears : about1.hears theMethod below0 = true := by decide +kernel
set_option maxRecDepth 65536 in
theorem w_ripe : about1.ripe theMethod args0 below0 = true := by decide +kernel
theorem w_running : about1.status = .running := rfl
set_option maxRecDepth 65536 in
theorem w_room : about1.hasRoom e0.platform room_1 = true :=
  launch0.hasRoom_least _ room_1 (by decide +kernel) (by decide +kernel) (by decide +kernel) (by decide +kernel) (by decide +kernel) (by decide +kernel)
theorem allAtoms_all (ts : List Jvm.Cond) (a : Array Jvm.Value) (st : Jvm.State) : (allAtoms ts).before a st = ts.all (fun c => c.before a st) := by
  induction ts with
  | nil => rfl
  | cons c t ih =>
    show (Jvm.Cond.and c (allAtoms t)).before a st = _
    rw [Jvm.Cond.before_and, ih, List.all_cons]
def words1 : List Jvm.Cond := Jvm.Cond.code x code maxLocals ret :: tables_1
/-- a 'code' word, met by the world's own term for the bytes: nothing is compared byte by byte -/
theorem code_word {y : MethodName} {bytes : ByteArray} {mx : Nat} {rt : Option FieldType} {a : Array Value} {s : State} {m : MethodId} {meth : Method} {c : Code} (h1 : s.methodNamed? y = some m) (h2 : s.vm.method? m = some meth) (h3 : meth.code = some c) (h4 : c.code = bytes)
    (h5 : (c.maxLocals == mx && c.exceptionTable.isEmpty && decide (c.maxStack ≤ mostOperands) && decide (meth.sig.returnType = rt) && !meth.locks && decide (parseMethodDescriptor y.desc = some meth.sig)) = true) : (Jvm.Cond.code y bytes mx rt).before a s = true := by
  simp only [Bool.and_eq_true, beq_iff_eq, Bool.not_eq_true', decide_eq_true_eq] at h5
  obtain ⟨⟨⟨⟨⟨g1, g2⟩, g3⟩, g4⟩, g5⟩, g6⟩ := h5
  simp [Cond.before, Cond.holds, Cond.value, h1, h2, h3, h4, g1, g2, g3, g4, g5, g6]
def isCode : Jvm.Cond → Bool
  | .code _ _ _ _ => true
  | _ => false
theorem all_split {L : List Jvm.Cond} {P : Jvm.Cond → Bool} (h1 : L.all (fun c => isCode c || P c) = true) (h2 : ∀ c ∈ L.filter isCode, P c = true) : L.all P = true := by
  refine List.all_eq_true.mpr fun c hc => ?_
  have h := List.all_eq_true.mp h1 c hc
  rcases Bool.eq_false_or_eq_true (isCode c) with hi | hi
  · exact h2 c (List.mem_filter.mpr ⟨hc, hi⟩)
  · simpa [hi] using h
set_option maxRecDepth 65536 in
theorem w_c0 : (Jvm.Cond.code x code maxLocals ret).before args0 about1 = true := code_word (m := ⟨1, 1⟩) (meth := k1m1) (c := k1c1) (by decide +kernel) rfl rfl rfl (by decide +kernel)
set_option maxRecDepth 65536 in
theorem w_c1 : (Jvm.Cond.code ({ cls := "com/example/vacancy/vacancy/state/LeaseSpans", name := "<init>", desc := "()V" } : Jvm.MethodName) prog_53_method_1_code (1 : Nat) (Option.none : Option Jvm.ClassFile.FieldType)).before args0 about1 = true := code_word (m := ⟨2, 0⟩) (meth := k2m0) (c := k2c0) (by decide +kernel) rfl rfl rfl (by decide +kernel)
set_option maxRecDepth 65536 in
theorem w_c2 : (Jvm.Cond.code ({ cls := "java/lang/Object", name := "<init>", desc := "()V" } : Jvm.MethodName) object_method_1_code (1 : Nat) (Option.none : Option Jvm.ClassFile.FieldType)).before args0 about1 = true := code_word (m := ⟨0, 0⟩) (meth := k0m0) (c := k0c0) (by decide +kernel) rfl rfl rfl (by decide +kernel)
set_option maxRecDepth 65536 in
theorem w_c3 : (Jvm.Cond.code ({ cls := "com/example/vacancy/vacancy/slots/LeaseKey", name := "<init>", desc := "(Ljava/lang/String;JJ)V" } : Jvm.MethodName) prog_41_method_1_code (6 : Nat) (Option.none : Option Jvm.ClassFile.FieldType)).before args0 about1 = true := code_word (m := ⟨4, 0⟩) (meth := k4m0) (c := k4c0) (by decide +kernel) rfl rfl rfl (by decide +kernel)
set_option maxRecDepth 65536 in
theorem w_c4 : (Jvm.Cond.code ({ cls := "java/lang/Record", name := "<init>", desc := "()V" } : Jvm.MethodName) jdk_30_method_1_code (1 : Nat) (Option.none : Option Jvm.ClassFile.FieldType)).before args0 about1 = true := code_word (m := ⟨3, 0⟩) (meth := k3m0) (c := k3c0) (by decide +kernel) rfl rfl rfl (by decide +kernel)
set_option maxRecDepth 65536 in
theorem w_c5 : (Jvm.Cond.code ({ cls := "com/example/vacancy/vacancy/state/LeaseSpans", name := "add", desc := "(JJLcom/example/vacancy/vacancy/slots/LeaseKey;)V" } : Jvm.MethodName) prog_53_method_2_code (6 : Nat) (Option.none : Option Jvm.ClassFile.FieldType)).before args0 about1 = true := code_word (m := ⟨2, 1⟩) (meth := k2m1) (c := k2c1) (by decide +kernel) rfl rfl rfl (by decide +kernel)
set_option maxRecDepth 65536 in
theorem w_c6 : (Jvm.Cond.code ({ cls := "com/example/vacancy/vacancy/slots/LeaseKey", name := "high", desc := "()J" } : Jvm.MethodName) prog_41_method_13_code (1 : Nat) (Option.some Jvm.ClassFile.FieldType.long)).before args0 about1 = true := code_word (m := ⟨4, 2⟩) (meth := k4m2) (c := k4c2) (by decide +kernel) rfl rfl rfl (by decide +kernel)
set_option maxRecDepth 65536 in
theorem w_c7 : (Jvm.Cond.code ({ cls := "com/example/vacancy/vacancy/slots/LeaseKey", name := "low", desc := "()J" } : Jvm.MethodName) prog_41_method_14_code (1 : Nat) (Option.some Jvm.ClassFile.FieldType.long)).before args0 about1 = true := code_word (m := ⟨4, 3⟩) (meth := k4m3) (c := k4c3) (by decide +kernel) rfl rfl rfl (by decide +kernel)
set_option maxRecDepth 65536 in
theorem w_c8 : (Jvm.Cond.code ({ cls := "com/example/vacancy/vacancy/slots/LeaseKey", name := "text", desc := "()Ljava/lang/String;" } : Jvm.MethodName) prog_41_method_12_code (1 : Nat) (Option.some (Jvm.ClassFile.FieldType.object "java/lang/String"))).before args0 about1 = true := code_word (m := ⟨4, 1⟩) (meth := k4m1) (c := k4c1) (by decide +kernel) rfl rfl rfl (by decide +kernel)
set_option maxRecDepth 65536 in
theorem w_c9 : (Jvm.Cond.code ({ cls := "com/example/vacancy/vacancy/state/LeaseSpans", name := "shift", desc := "(J)V" } : Jvm.MethodName) prog_53_method_5_code (4 : Nat) (Option.none : Option Jvm.ClassFile.FieldType)).before args0 about1 = true := code_word (m := ⟨2, 2⟩) (meth := k2m2) (c := k2c2) (by decide +kernel) rfl rfl rfl (by decide +kernel)
set_option maxRecDepth 65536 in
theorem w_c10 : (Jvm.Cond.code ({ cls := "com/example/vacancy/vacancy/state/LeaseSpans", name := "size", desc := "()I" } : Jvm.MethodName) prog_53_method_6_code (1 : Nat) (Option.some Jvm.ClassFile.FieldType.int)).before args0 about1 = true := code_word (m := ⟨2, 3⟩) (meth := k2m3) (c := k2c3) (by decide +kernel) rfl rfl rfl (by decide +kernel)
set_option maxRecDepth 65536 in
theorem w_c11 : (Jvm.Cond.code ({ cls := "com/example/vacancy/vacancy/state/LeaseSpans", name := "key", desc := "(I)Lcom/example/vacancy/vacancy/slots/LeaseKey;" } : Jvm.MethodName) prog_53_method_9_code (3 : Nat) (Option.some (Jvm.ClassFile.FieldType.object "com/example/vacancy/vacancy/slots/LeaseKey"))).before args0 about1 = true := code_word (m := ⟨2, 6⟩) (meth := k2m6) (c := k2c6) (by decide +kernel) rfl rfl rfl (by decide +kernel)
set_option maxRecDepth 65536 in
theorem w_c12 : (Jvm.Cond.code ({ cls := "com/example/vacancy/vacancy/state/LeaseSpans", name := "start", desc := "(I)J" } : Jvm.MethodName) prog_53_method_7_code (2 : Nat) (Option.some Jvm.ClassFile.FieldType.long)).before args0 about1 = true := code_word (m := ⟨2, 4⟩) (meth := k2m4) (c := k2c4) (by decide +kernel) rfl rfl rfl (by decide +kernel)
set_option maxRecDepth 65536 in
theorem w_c13 : (Jvm.Cond.code ({ cls := "com/example/vacancy/vacancy/state/LeaseSpans", name := "end", desc := "(I)J" } : Jvm.MethodName) prog_53_method_8_code (2 : Nat) (Option.some Jvm.ClassFile.FieldType.long)).before args0 about1 = true := code_word (m := ⟨2, 5⟩) (meth := k2m5) (c := k2c5) (by decide +kernel) rfl rfl rfl (by decide +kernel)
def codes1 : List Jvm.Cond := [Jvm.Cond.code x code maxLocals ret, Jvm.Cond.code ({ cls := "com/example/vacancy/vacancy/state/LeaseSpans", name := "<init>", desc := "()V" } : Jvm.MethodName) prog_53_method_1_code (1 : Nat) (Option.none : Option Jvm.ClassFile.FieldType), Jvm.Cond.code ({ cls := "java/lang/Object", name := "<init>", desc := "()V" } : Jvm.MethodName) object_method_1_code (1 : Nat) (Option.none : Option Jvm.ClassFile.FieldType), Jvm.Cond.code ({ cls := "com/example/vacancy/vacancy/slots/LeaseKey", name := "<init>", desc := "(Ljava/lang/String;JJ)V" } : Jvm.MethodName) prog_41_method_1_code (6 : Nat) (Option.none : Option Jvm.ClassFile.FieldType), Jvm.Cond.code ({ cls := "java/lang/Record", name := "<init>", desc := "()V" } : Jvm.MethodName) jdk_30_method_1_code (1 : Nat) (Option.none : Option Jvm.ClassFile.FieldType), Jvm.Cond.code ({ cls := "com/example/vacancy/vacancy/state/LeaseSpans", name := "add", desc := "(JJLcom/example/vacancy/vacancy/slots/LeaseKey;)V" } : Jvm.MethodName) prog_53_method_2_code (6 : Nat) (Option.none : Option Jvm.ClassFile.FieldType), Jvm.Cond.code ({ cls := "com/example/vacancy/vacancy/slots/LeaseKey", name := "high", desc := "()J" } : Jvm.MethodName) prog_41_method_13_code (1 : Nat) (Option.some Jvm.ClassFile.FieldType.long), Jvm.Cond.code ({ cls := "com/example/vacancy/vacancy/slots/LeaseKey", name := "low", desc := "()J" } : Jvm.MethodName) prog_41_method_14_code (1 : Nat) (Option.some Jvm.ClassFile.FieldType.long), Jvm.Cond.code ({ cls := "com/example/vacancy/vacancy/slots/LeaseKey", name := "text", desc := "()Ljava/lang/String;" } : Jvm.MethodName) prog_41_method_12_code (1 : Nat) (Option.some (Jvm.ClassFile.FieldType.object "java/lang/String")), Jvm.Cond.code ({ cls := "com/example/vacancy/vacancy/state/LeaseSpans", name := "shift", desc := "(J)V" } : Jvm.MethodName) prog_53_method_5_code (4 : Nat) (Option.none : Option Jvm.ClassFile.FieldType), Jvm.Cond.code ({ cls := "com/example/vacancy/vacancy/state/LeaseSpans", name := "size", desc := "()I" } : Jvm.MethodName) prog_53_method_6_code (1 : Nat) (Option.some Jvm.ClassFile.FieldType.int), Jvm.Cond.code ({ cls := "com/example/vacancy/vacancy/state/LeaseSpans", name := "key", desc := "(I)Lcom/example/vacancy/vacancy/slots/LeaseKey;" } : Jvm.MethodName) prog_53_method_9_code (3 : Nat) (Option.some (Jvm.ClassFile.FieldType.object "com/example/vacancy/vacancy/slots/LeaseKey")), Jvm.Cond.code ({ cls := "com/example/vacancy/vacancy/state/LeaseSpans", name := "start", desc := "(I)J" } : Jvm.MethodName) prog_53_method_7_code (2 : Nat) (Option.some Jvm.ClassFile.FieldType.long), Jvm.Cond.code ({ cls := "com/example/vacancy/vacancy/state/LeaseSpans", name := "end", desc := "(I)J" } : Jvm.MethodName) prog_53_method_8_code (2 : Nat) (Option.some Jvm.ClassFile.FieldType.long)]
set_option maxRecDepth 65536 in
theorem codes_eq : words1.filter isCode = codes1 := rfl
theorem w_codes : ∀ c ∈ words1.filter isCode, c.before args0 about1 = true := by
  rw [codes_eq]
  intro c hc
  simp only [codes1, List.mem_cons, List.not_mem_nil, or_false] at hc
  rcases hc with rfl | rfl | rfl | rfl | rfl | rfl | rfl | rfl | rfl | rfl | rfl | rfl | rfl | rfl
  · exact w_c0
  · exact w_c1
  · exact w_c2
  · exact w_c3
  · exact w_c4
  · exact w_c5
  · exact w_c6
  · exact w_c7
  · exact w_c8
  · exact w_c9
  · exact w_c10
  · exact w_c11
  · exact w_c12
  · exact w_c13
set_option maxRecDepth 65536 in
theorem w_t1 : (words1.take 24).all (fun c => isCode c || c.before args0 about1) = true := by decide +kernel
set_option maxRecDepth 65536 in
theorem w_t2 : ((words1.drop 24).take 24).all (fun c => isCode c || c.before args0 about1) = true := by decide +kernel
set_option maxRecDepth 65536 in
theorem w_t3 : (((words1.drop 24).drop 24).take 24).all (fun c => isCode c || c.before args0 about1) = true := by decide +kernel
set_option maxRecDepth 65536 in
theorem w_t4 : (((words1.drop 24).drop 24).drop 24).all (fun c => isCode c || c.before args0 about1) = true := by decide +kernel
theorem w_tables : (allAtoms (Jvm.Cond.code x code maxLocals ret :: tables_1)).before args0 about1 = true := by
  rw [allAtoms_all]
  show words1.all (fun c => c.before args0 about1) = true
  refine all_split ?_ w_codes
  rw [← List.take_append_drop 24 words1, List.all_append, w_t1, ← List.take_append_drop 24 (words1.drop 24), List.all_append, w_t2, ← List.take_append_drop 24 ((words1.drop 24).drop 24), List.all_append, w_t3, w_t4]
  rfl
set_option maxRecDepth 65536 in
theorem w_case : (Jvm.Cond.and given_1 narrow_1).before args0 about1 = true := by decide +kernel
theorem w_applies : (headSpec (Jvm.Cond.code x code maxLocals ret :: tables_1) room_1).applies x e0.platform about1 = true :=
  (Spec.applies_iff w_frames).mpr ⟨w_running, w_runnable, w_alone, w_named, w_hears, w_ripe, w_room, w_tables⟩
theorem atStart : AtStart classFile x code maxLocals ret World_1 tables_1 room_1 Calls_1 rest_1 Pre_1 launch0 p0 e0 about1 theMethod args0 below0 :=
  ⟨lists_1, trivial, launch0.admits_env _ _ _, launch0.least_env, fairChoices_fair.cas, fairChoices_fair.clock, w_frames, w_args, w_heap, w_applies, trivial, trivial, w_case⟩
end start1
theorem witness_1 : WitnessClaimed_1 := ⟨start1.p0, start1.e0, start1.about1, start1.theMethod, start1.args0, start1.below0, start1.atStart⟩
end Jvm.Pilot.@@N@@
