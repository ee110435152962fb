import JvmDerived
import JvmDerived.Pilot.@@N@@Statement
import JvmDerived.Pilot.@@N@@Code
set_option linter.unusedVariables false
set_option linter.unusedSimpArgs false
namespace Jvm.Pilot.@@N@@
open Jvm Jvm.ClassFile Sem Op Lib Jvm.Free Jvm.Stand Jvm.LawKit Jvm.RoadKit Bundle Jvm.Pilot.@@N@@.Jvm.D
/-- where the walk of one body stands, and what it knows throughout -/
def own_S (p : Program) (l : Launch) (e : Env) (R : Room) (s : State) (m : MethodId) (av : Array Value) (below : List Frame) (meth : Method) (c : Code) (Z : State) (y : MethodName) (co : ByteArray) (ml : Nat) (rt : Option FieldType) (n0 : Nat) (T : State) (ce sl : Nat) (h : Heap) : Prop :=
  (p.tables.exec = Jvm.exec ∧ c.code = co ∧ c.maxLocals = ml ∧ s.vm.findClass y.cls = some m.cls ∧ meth.name = y.name ∧ meth.sig.returnType = rt ∧ meth.locks = false ∧ Z.Warmed39 s.vm) ∧
  ∃ locs, Stand p l e R s m av below meth c T locs ce sl ∧ Fr n0 locs ∧ T.heap = h ∧ n0 ≤ s.heap.size
/-- from T at the frame g the run comes to a return of which Q holds -/
def own_Fin (p : Program) (e : Env) (below : List Frame) (s : State) (n0 : Nat) (Q : Option Value → Heap → Prop) (k n : Nat) (T : State) (g : JFrame) : Prop :=
  ∃ t o, Steps p.tables e below (T.setTop g) t ∧ t.status = .running ∧ Ended t below o ∧ ∃ v L, o = .returned v ∧ (Fr n0 L ∧ Q v t.heap) ∧ FrameEnd s o t L k n
/-- a body's contract -/
def own_Met (l : Launch) (Z : State) (y : MethodName) (co : ByteArray) (ml : Nat) (rt : Option FieldType) (ws : List Jvm.Cond) (rm : Room) (av : Array Value) (h0 : Heap) (n0 : Nat) (Q : Option Value → Heap → Prop) : Prop :=
  MetFree l y (head1 (Jvm.Cond.code y co ml rt :: ws) rm) (fun a U => a = av ∧ Z.Warmed39 U.vm ∧ U.heap = h0) (fun _ _ _ _ _ => True) (fun _ U o U' => ∃ v L, o = .returned v ∧ (Fr n0 L ∧ Q v U'.heap) ∧ FrameEnd U o U' L rm.cells rm.slots)
section Own
variable {p : Program} {l : Launch} {e : Env} {R : Room} {s : State} {m : MethodId} {av : Array Value} {below : List Frame} {meth : Method} {c : Code} {Z : State} {y : MethodName} {co : ByteArray} {ml : Nat} {rt : Option FieldType} {n0 : Nat} {T : State} {ce sl : Nat} {h : Heap} {Q : Option Value → Heap → Prop} {k n : Nat} {a0 : Array Value} {pc : Nat} {Ls : Array Slot} {st : List Value}
theorem own_met {ws : List Jvm.Cond} {rm : Room} {h0 : Heap} (hp : plainFor y = true) (hn : n0 ≤ h0.size)
    (H : ∀ (p : Program) (e : Env) (s : State) (m : MethodId) (below : List Frame) (meth : Method) (c : Code) (T : State), own_S p l e rm s m av below meth c Z y co ml rt n0 T 0 0 h0 → own_Fin p e below s n0 Q rm.cells rm.slots T (entryFrame m av ml)) : own_Met l Z y co ml rt ws rm av h0 n0 Q := by
  refine MetFree.of_bodySF hp hisR ?_
  intro p e s m args below meth c s₁ Bd hml0 hP hK
  obtain ⟨rfl, hZ, hh⟩ := hP
  have e0 : s₁.heap = h0 := by rw [← hh, Bd.state]; rfl
  exact H p e s m below meth c s₁ ⟨⟨Bd.exec, Bd.bytes, hml0, findClass_of_methodNamed Bd.named, (name_of_methodNamed Bd.named Bd.method).1, Bd.returns, BodyLoose.notSynchronized Bd, hZ⟩, [], Stand.of_body Bd, Fr.nil n0, e0, by rw [hh]; exact hn⟩
theorem own_go {T T' : State} {g g' : JFrame} (st : ∀ target, Steps p.tables e below (T'.setTop g') target → Steps p.tables e below (T.setTop g) target) (H : own_Fin p e below s n0 Q k n T' g') : own_Fin p e below s n0 Q k n T g := by
  obtain ⟨t, o, h1, r⟩ := H
  exact ⟨t, o, st t h1, r⟩
theorem own_goT {T T' : State} {g g' : JFrame} (st : Steps p.tables e below (T.setTop g) (T'.setTop g')) (H : own_Fin p e below s n0 Q k n T' g') : own_Fin p e below s n0 Q k n T g := by
  obtain ⟨t, o, h1, r⟩ := H
  exact ⟨t, o, st.trans h1, r⟩
theorem own_cast {g g' : JFrame} (q : g = g') (H : own_Fin p e below s n0 Q k n T g') : own_Fin p e below s n0 Q k n T g := q ▸ H
theorem own_size (X : own_S p l e R s m av below meth c Z y co ml rt n0 T ce sl h) : n0 ≤ h.size := by
  obtain ⟨-, locs, X, -, rfl, hn⟩ := X
  exact Nat.le_trans hn X.same.2.1
theorem own_wider (X : own_S p l e R s m av below meth c Z y co ml rt n0 T ce sl h) {ce' sl' : Nat} (h1 : ce ≤ ce') (h2 : sl ≤ sl') : own_S p l e R s m av below meth c Z y co ml rt n0 T ce' sl' h := by
  obtain ⟨C, locs, X, r⟩ := X
  exact ⟨C, locs, X.more h1 h2, r⟩
/-- numbers: from Int to the ints' own order -/
theorem own_cLt {x y : Int32} {a b : Int} (hx : x.toInt = a) (hy : y.toInt = b) (q : a < b) : x < y := by rw [Int32.lt_iff_toInt_lt, hx, hy]; exact q
theorem own_cGe {x y : Int32} {a b : Int} (hx : x.toInt = a) (hy : y.toInt = b) (q : ¬ a < b) : ¬ x < y := by rw [Int32.lt_iff_toInt_lt, hx, hy]; exact q
theorem own_cEq {x y : Int32} {a b : Int} (hx : x.toInt = a) (hy : y.toInt = b) (q : a = b) : x = y := Int32.toInt_inj.mp (by rw [hx, hy]; exact q)
theorem own_cNe {x y : Int32} {a b : Int} (hx : x.toInt = a) (hy : y.toInt = b) (q : ¬ a = b) : ¬ x = y := fun r => q (by rw [← hx, ← hy, r])
theorem own_cEqJ {x y : Int64} {a b : Int} (hx : x.toInt = a) (hy : y.toInt = b) (q : a = b) : x = y := Int64.toInt_inj.mp (by rw [hx, hy]; exact q)
theorem own_nzI {y : Int32} (q : y.toInt ≠ 0) : y ≠ 0 := fun r => q (by rw [r]; rfl)
theorem own_nzJ {y : Int64} (q : y.toInt ≠ 0) : y ≠ 0 := fun r => q (by rw [r]; rfl)
theorem own_lLt {x y : Int64} {a b : Int} (hx : x.toInt = a) (hy : y.toInt = b) (q : a < b) : lcmpW x y < 0 := (lw_lt x y).mpr (by rw [Int64.lt_iff_toInt_lt, hx, hy]; exact q)
theorem own_lGe {x y : Int64} {a b : Int} (hx : x.toInt = a) (hy : y.toInt = b) (q : ¬ a < b) : ¬ lcmpW x y < 0 := fun r => q (by have := (lw_lt x y).mp r; rw [Int64.lt_iff_toInt_lt, hx, hy] at this; exact this)
theorem own_lGt {x y : Int64} {a b : Int} (hx : x.toInt = a) (hy : y.toInt = b) (q : b < a) : 0 < lcmpW x y := (lw_gt x y).mpr (by rw [Int64.lt_iff_toInt_lt, hx, hy]; exact q)
theorem own_lLe {x y : Int64} {a b : Int} (hx : x.toInt = a) (hy : y.toInt = b) (q : ¬ b < a) : ¬ 0 < lcmpW x y := fun r => q (by have := (lw_gt x y).mp r; rw [Int64.lt_iff_toInt_lt, hx, hy] at this; exact this)
theorem own_lEq {x y : Int64} {a b : Int} (hx : x.toInt = a) (hy : y.toInt = b) (q : a = b) : lcmpW x y = 0 := (lw_eq x y).mpr (Int64.toInt_inj.mp (by rw [hx, hy]; exact q))
theorem own_lNe {x y : Int64} {a b : Int} (hx : x.toInt = a) (hy : y.toInt = b) (q : ¬ a = b) : ¬ lcmpW x y = 0 := fun r => q (by rw [← hx, ← hy, (lw_eq x y).mp r])
theorem own_emod_le {a b : Int} (h1 : 0 ≤ a) (h2 : 0 < b) : a % b ≤ a := by
  by_cases q : a < b
  · rw [Int.emod_eq_of_lt h1 q]; omega
  · have := Int.emod_lt_of_pos a h2; omega
theorem own_i2b2 (x : Int32) : x.toInt8.toInt32.toInt8.toInt32 = x.toInt8.toInt32 := by
  have h1 := c_i2b x
  have h2 := c_i2b x.toInt8.toInt32
  apply Int32.toInt_inj.mp; omega
theorem own_and1 (x : Int32) (h : x = 0 ∨ x = 1) : x &&& 1 = x := by rcases h with rfl | rfl <;> rfl
theorem own_aloadN (X : own_S p l e R s m av below meth c Z y co ml rt n0 T ce sl h) {i : Fin 4} {v : Value} (hd : decode co pc = .ok (.aload_n i, 1)) (hl : Ls[i.val]? = some (.val v)) (hv : v.isRef = true) (H : own_Fin p e below s n0 Q k n T (mkF m (pc + 1) Ls (v :: st))) : own_Fin p e below s n0 Q k n T (mkF m pc Ls (st)) := by
  obtain ⟨⟨hx, hby, -⟩, locs, X, -⟩ := X
  exact own_go (fun _ q => XS.aloadN X.here hx rfl (hb hby hd) hl hv q) H
theorem own_aload (X : own_S p l e R s m av below meth c Z y co ml rt n0 T ce sl h) {i : Nat} {v : Value} (hd : decode co pc = .ok (.aload i, 2)) (hl : Ls[i]? = some (.val v)) (hv : v.isRef = true) (H : own_Fin p e below s n0 Q k n T (mkF m (pc + 2) Ls (v :: st))) : own_Fin p e below s n0 Q k n T (mkF m pc Ls (st)) := by
  obtain ⟨⟨hx, hby, -⟩, locs, X, -⟩ := X
  exact own_go (fun _ q => XS.aload X.here hx rfl (hb hby hd) hl hv q) H
theorem own_iloadN (X : own_S p l e R s m av below meth c Z y co ml rt n0 T ce sl h) {i : Fin 4} {v : Int32} (hd : decode co pc = .ok (.iload_n i, 1)) (hl : Ls[i.val]? = some (.val (.int v))) (H : own_Fin p e below s n0 Q k n T (mkF m (pc + 1) Ls (.int v :: st))) : own_Fin p e below s n0 Q k n T (mkF m pc Ls (st)) := by
  obtain ⟨⟨hx, hby, -⟩, locs, X, -⟩ := X
  exact own_go (fun _ q => XS.iloadN X.here hx rfl (hb hby hd) hl q) H
theorem own_iload (X : own_S p l e R s m av below meth c Z y co ml rt n0 T ce sl h) {i : Nat} {v : Int32} (hd : decode co pc = .ok (.iload i, 2)) (hl : Ls[i]? = some (.val (.int v))) (H : own_Fin p e below s n0 Q k n T (mkF m (pc + 2) Ls (.int v :: st))) : own_Fin p e below s n0 Q k n T (mkF m pc Ls (st)) := by
  obtain ⟨⟨hx, hby, -⟩, locs, X, -⟩ := X
  exact own_go (fun _ q => XS.iload X.here hx rfl (hb hby hd) hl q) H
theorem own_lloadN (X : own_S p l e R s m av below meth c Z y co ml rt n0 T ce sl h) {i : Fin 4} {v : Int64} (hd : decode co pc = .ok (.lload_n i, 1)) (hl : Ls[i.val]? = some (.val (.long v))) (H : own_Fin p e below s n0 Q k n T (mkF m (pc + 1) Ls (.long v :: st))) : own_Fin p e below s n0 Q k n T (mkF m pc Ls (st)) := by
  obtain ⟨⟨hx, hby, -⟩, locs, X, -⟩ := X
  exact own_go (fun _ q => XS.lloadN X.here hx rfl (hb hby hd) hl q) H
theorem own_lload (X : own_S p l e R s m av below meth c Z y co ml rt n0 T ce sl h) {i : Nat} {v : Int64} (hd : decode co pc = .ok (.lload i, 2)) (hl : Ls[i]? = some (.val (.long v))) (H : own_Fin p e below s n0 Q k n T (mkF m (pc + 2) Ls (.long v :: st))) : own_Fin p e below s n0 Q k n T (mkF m pc Ls (st)) := by
  obtain ⟨⟨hx, hby, -⟩, locs, X, -⟩ := X
  exact own_go (fun _ q => XS.lload X.here hx rfl (hb hby hd) hl q) H
theorem own_istoreN (X : own_S p l e R s m av below meth c Z y co ml rt n0 T ce sl h) {i : Fin 4} {v : Int32} {L' : Array Slot} (hd : decode co pc = .ok (.istore_n i, 1)) (hl : storeLocals Ls i.val (.int v) = some L') (H : own_Fin p e below s n0 Q k n T (mkF m (pc + 1) L' (st))) : own_Fin p e below s n0 Q k n T (mkF m pc Ls (.int v :: st)) := by
  obtain ⟨⟨hx, hby, -⟩, locs, X, -⟩ := X
  exact own_go (fun _ q => XS.istoreN X.here hx rfl (hb hby hd) rfl hl q) H
theorem own_istore (X : own_S p l e R s m av below meth c Z y co ml rt n0 T ce sl h) {i : Nat} {v : Int32} {L' : Array Slot} (hd : decode co pc = .ok (.istore i, 2)) (hl : storeLocals Ls i (.int v) = some L') (H : own_Fin p e below s n0 Q k n T (mkF m (pc + 2) L' (st))) : own_Fin p e below s n0 Q k n T (mkF m pc Ls (.int v :: st)) := by
  obtain ⟨⟨hx, hby, -⟩, locs, X, -⟩ := X
  exact own_go (fun _ q => XS.istore X.here hx rfl (hb hby hd) rfl hl q) H
theorem own_lstoreN (X : own_S p l e R s m av below meth c Z y co ml rt n0 T ce sl h) {i : Fin 4} {v : Int64} {L' : Array Slot} (hd : decode co pc = .ok (.lstore_n i, 1)) (hl : storeLocals Ls i.val (.long v) = some L') (H : own_Fin p e below s n0 Q k n T (mkF m (pc + 1) L' (st))) : own_Fin p e below s n0 Q k n T (mkF m pc Ls (.long v :: st)) := by
  obtain ⟨⟨hx, hby, -⟩, locs, X, -⟩ := X
  exact own_go (fun _ q => XS.lstoreN X.here hx rfl (hb hby hd) rfl hl q) H
theorem own_lstore (X : own_S p l e R s m av below meth c Z y co ml rt n0 T ce sl h) {i : Nat} {v : Int64} {L' : Array Slot} (hd : decode co pc = .ok (.lstore i, 2)) (hl : storeLocals Ls i (.long v) = some L') (H : own_Fin p e below s n0 Q k n T (mkF m (pc + 2) L' (st))) : own_Fin p e below s n0 Q k n T (mkF m pc Ls (.long v :: st)) := by
  obtain ⟨⟨hx, hby, -⟩, locs, X, -⟩ := X
  exact own_go (fun _ q => XS.lstore X.here hx rfl (hb hby hd) rfl hl q) H
theorem own_astoreN (X : own_S p l e R s m av below meth c Z y co ml rt n0 T ce sl h) {i : Fin 4} {v : Value} {L' : Array Slot} (hd : decode co pc = .ok (.astore_n i, 1)) (hv : v.isRef = true) (hl : storeLocals Ls i.val v = some L') (H : own_Fin p e below s n0 Q k n T (mkF m (pc + 1) L' (st))) : own_Fin p e below s n0 Q k n T (mkF m pc Ls (v :: st)) := by
  obtain ⟨⟨hx, hby, -⟩, locs, X, -⟩ := X
  exact own_go (fun _ q => XS.astoreN X.here hx rfl (hb hby hd) rfl hv hl q) H
theorem own_astore (X : own_S p l e R s m av below meth c Z y co ml rt n0 T ce sl h) {i : Nat} {v : Value} {L' : Array Slot} (hd : decode co pc = .ok (.astore i, 2)) (hv : v.isRef = true) (hl : storeLocals Ls i v = some L') (H : own_Fin p e below s n0 Q k n T (mkF m (pc + 2) L' (st))) : own_Fin p e below s n0 Q k n T (mkF m pc Ls (v :: st)) := by
  obtain ⟨⟨hx, hby, -⟩, locs, X, -⟩ := X
  exact own_go (fun _ q => XS.astore X.here hx rfl (hb hby hd) rfl hv hl q) H
theorem own_iconst (X : own_S p l e R s m av below meth c Z y co ml rt n0 T ce sl h) {i : Int} (z : Int32) (hd : decode co pc = .ok (.iconst i, 1)) (hz : Int32.ofInt i = z) (H : own_Fin p e below s n0 Q k n T (mkF m (pc + 1) Ls (.int z :: st))) : own_Fin p e below s n0 Q k n T (mkF m pc Ls (st)) := by
  obtain ⟨⟨hx, hby, -⟩, locs, X, -⟩ := X
  exact own_go (fun _ q => XS.iconst X.here hx rfl (hb hby hd) (by rw [hz]; exact q)) H
theorem own_bipush (X : own_S p l e R s m av below meth c Z y co ml rt n0 T ce sl h) {i : Int} (z : Int32) (hd : decode co pc = .ok (.bipush i, 2)) (hz : (Int8.ofInt i).toInt32 = z) (H : own_Fin p e below s n0 Q k n T (mkF m (pc + 2) Ls (.int z :: st))) : own_Fin p e below s n0 Q k n T (mkF m pc Ls (st)) := by
  obtain ⟨⟨hx, hby, -⟩, locs, X, -⟩ := X
  exact own_go (fun _ q => XS.bipush X.here hx rfl (hb hby hd) (by rw [hz]; exact q)) H
theorem own_sipush (X : own_S p l e R s m av below meth c Z y co ml rt n0 T ce sl h) {i : Int} (z : Int32) (hd : decode co pc = .ok (.sipush i, 3)) (hz : (Int16.ofInt i).toInt32 = z) (H : own_Fin p e below s n0 Q k n T (mkF m (pc + 3) Ls (.int z :: st))) : own_Fin p e below s n0 Q k n T (mkF m pc Ls (st)) := by
  obtain ⟨⟨hx, hby, -⟩, locs, X, -⟩ := X
  exact own_go (fun _ q => XS.sipush X.here hx rfl (hb hby hd) (by rw [hz]; exact q)) H
theorem own_lconst0 (X : own_S p l e R s m av below meth c Z y co ml rt n0 T ce sl h) (hd : decode co pc = .ok (.lconst 0, 1)) (H : own_Fin p e below s n0 Q k n T (mkF m (pc + 1) Ls (.long 0 :: st))) : own_Fin p e below s n0 Q k n T (mkF m pc Ls (st)) := by
  obtain ⟨⟨hx, hby, -⟩, locs, X, -⟩ := X
  exact own_go (fun _ q => XS.lconst X.here hx rfl (hb hby hd) q) H
theorem own_lconst1 (X : own_S p l e R s m av below meth c Z y co ml rt n0 T ce sl h) (hd : decode co pc = .ok (.lconst 1, 1)) (H : own_Fin p e below s n0 Q k n T (mkF m (pc + 1) Ls (.long 1 :: st))) : own_Fin p e below s n0 Q k n T (mkF m pc Ls (st)) := by
  obtain ⟨⟨hx, hby, -⟩, locs, X, -⟩ := X
  exact own_go (fun _ q => XS.lconst X.here hx rfl (hb hby hd) q) H
theorem own_aconstNull (X : own_S p l e R s m av below meth c Z y co ml rt n0 T ce sl h) (hd : decode co pc = .ok (.aconst_null, 1)) (H : own_Fin p e below s n0 Q k n T (mkF m (pc + 1) Ls (.null :: st))) : own_Fin p e below s n0 Q k n T (mkF m pc Ls (st)) := by
  obtain ⟨⟨hx, hby, -⟩, locs, X, -⟩ := X
  exact own_go (fun _ q => XS.aconstNull X.here hx rfl (hb hby hd) q) H
theorem own_iaddE (X : own_S p l e R s m av below meth c Z y co ml rt n0 T ce sl h) {x : Int32} {y' : Int32} (hd : decode co pc = .ok (.iadd, 1)) (z : Int32) (hz : x + y' = z) (H : own_Fin p e below s n0 Q k n T (mkF m (pc + 1) Ls (.int z :: st))) : own_Fin p e below s n0 Q k n T (mkF m pc Ls (.int y' :: .int x :: st)) := by
  subst hz
  obtain ⟨⟨hx, hby, -⟩, locs, X, -⟩ := X
  exact own_go (fun _ q => XS.iadd X.here hx rfl (hb hby hd) rfl q) H
theorem own_iaddV (X : own_S p l e R s m av below meth c Z y co ml rt n0 T ce sl h) {x : Int32} {y' : Int32} (a b : Int) (hd : decode co pc = .ok (.iadd, 1)) (hxa : x.toInt = a) (hyb : y'.toInt = b) (H : ∀ v : Int32, x + y' = v → (v.toInt - (a + b)) % 4294967296 = 0 → -2147483648 ≤ v.toInt → v.toInt < 2147483648 → own_Fin p e below s n0 Q k n T (mkF m (pc + 1) Ls (.int v :: st))) : own_Fin p e below s n0 Q k n T (mkF m pc Ls (.int y' :: .int x :: st)) := by
  exact own_iaddE X hd _ rfl (H _ rfl (by subst hxa hyb; exact c_iadd x y') (rng32 _).1 (rng32 _).2)
theorem own_isubE (X : own_S p l e R s m av below meth c Z y co ml rt n0 T ce sl h) {x : Int32} {y' : Int32} (hd : decode co pc = .ok (.isub, 1)) (z : Int32) (hz : x - y' = z) (H : own_Fin p e below s n0 Q k n T (mkF m (pc + 1) Ls (.int z :: st))) : own_Fin p e below s n0 Q k n T (mkF m pc Ls (.int y' :: .int x :: st)) := by
  subst hz
  obtain ⟨⟨hx, hby, -⟩, locs, X, -⟩ := X
  exact own_go (fun _ q => XS.isub X.here hx rfl (hb hby hd) rfl q) H
theorem own_isubV (X : own_S p l e R s m av below meth c Z y co ml rt n0 T ce sl h) {x : Int32} {y' : Int32} (a b : Int) (hd : decode co pc = .ok (.isub, 1)) (hxa : x.toInt = a) (hyb : y'.toInt = b) (H : ∀ v : Int32, x - y' = v → (v.toInt - (a - b)) % 4294967296 = 0 → -2147483648 ≤ v.toInt → v.toInt < 2147483648 → own_Fin p e below s n0 Q k n T (mkF m (pc + 1) Ls (.int v :: st))) : own_Fin p e below s n0 Q k n T (mkF m pc Ls (.int y' :: .int x :: st)) := by
  exact own_isubE X hd _ rfl (H _ rfl (by subst hxa hyb; exact c_isub x y') (rng32 _).1 (rng32 _).2)
theorem own_imulE (X : own_S p l e R s m av below meth c Z y co ml rt n0 T ce sl h) {x : Int32} {y' : Int32} (hd : decode co pc = .ok (.imul, 1)) (z : Int32) (hz : x * y' = z) (H : own_Fin p e below s n0 Q k n T (mkF m (pc + 1) Ls (.int z :: st))) : own_Fin p e below s n0 Q k n T (mkF m pc Ls (.int y' :: .int x :: st)) := by
  subst hz
  obtain ⟨⟨hx, hby, -⟩, locs, X, -⟩ := X
  exact own_go (fun _ q => XS.imul X.here hx rfl (hb hby hd) rfl q) H
theorem own_imulV (X : own_S p l e R s m av below meth c Z y co ml rt n0 T ce sl h) {x : Int32} {y' : Int32} (a b : Int) (hd : decode co pc = .ok (.imul, 1)) (hxa : x.toInt = a) (hyb : y'.toInt = b) (H : ∀ v : Int32, x * y' = v → (v.toInt - (a * b)) % 4294967296 = 0 → -2147483648 ≤ v.toInt → v.toInt < 2147483648 → own_Fin p e below s n0 Q k n T (mkF m (pc + 1) Ls (.int v :: st))) : own_Fin p e below s n0 Q k n T (mkF m pc Ls (.int y' :: .int x :: st)) := by
  exact own_imulE X hd _ rfl (H _ rfl (by subst hxa hyb; exact c_imul x y') (rng32 _).1 (rng32 _).2)
theorem own_iandE (X : own_S p l e R s m av below meth c Z y co ml rt n0 T ce sl h) {x : Int32} {y' : Int32} (hd : decode co pc = .ok (.iand, 1)) (z : Int32) (hz : x &&& y' = z) (H : own_Fin p e below s n0 Q k n T (mkF m (pc + 1) Ls (.int z :: st))) : own_Fin p e below s n0 Q k n T (mkF m pc Ls (.int y' :: .int x :: st)) := by
  subst hz
  obtain ⟨⟨hx, hby, -⟩, locs, X, -⟩ := X
  exact own_go (fun _ q => XS.iand X.here hx rfl (hb hby hd) rfl q) H
theorem own_iandV (X : own_S p l e R s m av below meth c Z y co ml rt n0 T ce sl h) {x : Int32} {y' : Int32}  (hd : decode co pc = .ok (.iand, 1))  (H : ∀ v : Int32, x &&& y' = v → -2147483648 ≤ v.toInt → v.toInt < 2147483648 → own_Fin p e below s n0 Q k n T (mkF m (pc + 1) Ls (.int v :: st))) : own_Fin p e below s n0 Q k n T (mkF m pc Ls (.int y' :: .int x :: st)) := by
  exact own_iandE X hd _ rfl (H _ rfl (rng32 _).1 (rng32 _).2)
theorem own_iandM (X : own_S p l e R s m av below meth c Z y co ml rt n0 T ce sl h) {x : Int32} {y' : Int32} (a : Int) (kk : Nat) (P : Int) (hd : decode co pc = .ok (.iand, 1)) (hxa : x.toInt = a) (hk : kk ≤ 31) (hm : y'.toBitVec.toNat = 2 ^ kk - 1) (hP : ((2 ^ kk : Nat) : Int) = P) (H : ∀ v : Int32, x &&& y' = v → v.toInt = a % P → -2147483648 ≤ v.toInt → v.toInt < 2147483648 → own_Fin p e below s n0 Q k n T (mkF m (pc + 1) Ls (.int v :: st))) : own_Fin p e below s n0 Q k n T (mkF m pc Ls (.int y' :: .int x :: st)) := by
  exact own_iandE X hd _ rfl (H _ rfl (by subst hxa hP; exact c_mask x y' kk hk hm) (rng32 _).1 (rng32 _).2)
theorem own_iandB (X : own_S p l e R s m av below meth c Z y co ml rt n0 T ce sl h) {x : Int32} {y' : Int32} (b : Int) (hd : decode co pc = .ok (.iand, 1)) (hyb : y'.toInt = b) (hb0 : 0 ≤ b) (H : ∀ v : Int32, x &&& y' = v → 0 ≤ v.toInt ∧ v.toInt ≤ b → -2147483648 ≤ v.toInt → v.toInt < 2147483648 → own_Fin p e below s n0 Q k n T (mkF m (pc + 1) Ls (.int v :: st))) : own_Fin p e below s n0 Q k n T (mkF m pc Ls (.int y' :: .int x :: st)) := by
  exact own_iandE X hd _ rfl (H _ rfl (by subst hyb; exact c_and x y' hb0) (rng32 _).1 (rng32 _).2)
theorem own_iorE (X : own_S p l e R s m av below meth c Z y co ml rt n0 T ce sl h) {x : Int32} {y' : Int32} (hd : decode co pc = .ok (.ior, 1)) (z : Int32) (hz : x ||| y' = z) (H : own_Fin p e below s n0 Q k n T (mkF m (pc + 1) Ls (.int z :: st))) : own_Fin p e below s n0 Q k n T (mkF m pc Ls (.int y' :: .int x :: st)) := by
  subst hz
  obtain ⟨⟨hx, hby, -⟩, locs, X, -⟩ := X
  exact own_go (fun _ q => XS.ior X.here hx rfl (hb hby hd) rfl q) H
theorem own_iorV (X : own_S p l e R s m av below meth c Z y co ml rt n0 T ce sl h) {x : Int32} {y' : Int32}  (hd : decode co pc = .ok (.ior, 1))  (H : ∀ v : Int32, x ||| y' = v → -2147483648 ≤ v.toInt → v.toInt < 2147483648 → own_Fin p e below s n0 Q k n T (mkF m (pc + 1) Ls (.int v :: st))) : own_Fin p e below s n0 Q k n T (mkF m pc Ls (.int y' :: .int x :: st)) := by
  exact own_iorE X hd _ rfl (H _ rfl (rng32 _).1 (rng32 _).2)
theorem own_iorM (X : own_S p l e R s m av below meth c Z y co ml rt n0 T ce sl h) {x : Int32} {y' : Int32} (a b : Int) (kk : Nat) (P : Int) (hd : decode co pc = .ok (.ior, 1)) (hxa : x.toInt = a) (hyb : y'.toInt = b) (hk : kk ≤ 31) (hP : P = ((2 ^ kk : Nat) : Int)) (q1 : a % P = 0) (q2 : 0 ≤ b) (q3 : b < P) (H : ∀ v : Int32, x ||| y' = v → (v.toInt - (a + b)) % 4294967296 = 0 → -2147483648 ≤ v.toInt → v.toInt < 2147483648 → own_Fin p e below s n0 Q k n T (mkF m (pc + 1) Ls (.int v :: st))) : own_Fin p e below s n0 Q k n T (mkF m pc Ls (.int y' :: .int x :: st)) := by
  exact own_iorE X hd _ rfl (H _ rfl (by subst hxa hyb; exact c_or x y' kk hk P hP q1 q2 q3) (rng32 _).1 (rng32 _).2)
theorem own_iorR (X : own_S p l e R s m av below meth c Z y co ml rt n0 T ce sl h) {x : Int32} {y' : Int32} (a b : Int) (kk : Nat) (P : Int) (hd : decode co pc = .ok (.ior, 1)) (hxa : x.toInt = a) (hyb : y'.toInt = b) (hk : kk ≤ 31) (hP : P = ((2 ^ kk : Nat) : Int)) (q1 : b % P = 0) (q2 : 0 ≤ a) (q3 : a < P) (H : ∀ v : Int32, x ||| y' = v → (v.toInt - (a + b)) % 4294967296 = 0 → -2147483648 ≤ v.toInt → v.toInt < 2147483648 → own_Fin p e below s n0 Q k n T (mkF m (pc + 1) Ls (.int v :: st))) : own_Fin p e below s n0 Q k n T (mkF m pc Ls (.int y' :: .int x :: st)) := by
  exact own_iorE X hd _ rfl (H _ rfl (by subst hxa hyb; have q := c_or y' x kk hk P hP q1 q2 q3; rw [Int32.or_comm] at q; omega) (rng32 _).1 (rng32 _).2)
theorem own_ixorE (X : own_S p l e R s m av below meth c Z y co ml rt n0 T ce sl h) {x : Int32} {y' : Int32} (hd : decode co pc = .ok (.ixor, 1)) (z : Int32) (hz : x ^^^ y' = z) (H : own_Fin p e below s n0 Q k n T (mkF m (pc + 1) Ls (.int z :: st))) : own_Fin p e below s n0 Q k n T (mkF m pc Ls (.int y' :: .int x :: st)) := by
  subst hz
  obtain ⟨⟨hx, hby, -⟩, locs, X, -⟩ := X
  exact own_go (fun _ q => XS.ixor X.here hx rfl (hb hby hd) rfl q) H
theorem own_ixorV (X : own_S p l e R s m av below meth c Z y co ml rt n0 T ce sl h) {x : Int32} {y' : Int32}  (hd : decode co pc = .ok (.ixor, 1))  (H : ∀ v : Int32, x ^^^ y' = v → -2147483648 ≤ v.toInt → v.toInt < 2147483648 → own_Fin p e below s n0 Q k n T (mkF m (pc + 1) Ls (.int v :: st))) : own_Fin p e below s n0 Q k n T (mkF m pc Ls (.int y' :: .int x :: st)) := by
  exact own_ixorE X hd _ rfl (H _ rfl (rng32 _).1 (rng32 _).2)
theorem own_ishlE (X : own_S p l e R s m av below meth c Z y co ml rt n0 T ce sl h) {x : Int32} {y' : Int32} (hd : decode co pc = .ok (.ishl, 1)) (z : Int32) (hz : x <<< (y' &&& 31) = z) (H : own_Fin p e below s n0 Q k n T (mkF m (pc + 1) Ls (.int z :: st))) : own_Fin p e below s n0 Q k n T (mkF m pc Ls (.int y' :: .int x :: st)) := by
  subst hz
  obtain ⟨⟨hx, hby, -⟩, locs, X, -⟩ := X
  exact own_go (fun _ q => XS.ishl X.here hx rfl (hb hby hd) rfl q) H
theorem own_ishlV (X : own_S p l e R s m av below meth c Z y co ml rt n0 T ce sl h) {x : Int32} {y' : Int32}  (hd : decode co pc = .ok (.ishl, 1))  (H : ∀ v : Int32, x <<< (y' &&& 31) = v → -2147483648 ≤ v.toInt → v.toInt < 2147483648 → own_Fin p e below s n0 Q k n T (mkF m (pc + 1) Ls (.int v :: st))) : own_Fin p e below s n0 Q k n T (mkF m pc Ls (.int y' :: .int x :: st)) := by
  exact own_ishlE X hd _ rfl (H _ rfl (rng32 _).1 (rng32 _).2)
theorem own_ishlK (X : own_S p l e R s m av below meth c Z y co ml rt n0 T ce sl h) {x : Int32} {y' : Int32} (a : Int) (kk : Nat) (P : Int) (hd : decode co pc = .ok (.ishl, 1)) (hxa : x.toInt = a) (hk : y'.toBitVec.toNat % 32 = kk) (hP : ((2 ^ kk : Nat) : Int) = P) (H : ∀ v : Int32, x <<< (y' &&& 31) = v → (v.toInt - a * P) % 4294967296 = 0 → -2147483648 ≤ v.toInt → v.toInt < 2147483648 → own_Fin p e below s n0 Q k n T (mkF m (pc + 1) Ls (.int v :: st))) : own_Fin p e below s n0 Q k n T (mkF m pc Ls (.int y' :: .int x :: st)) := by
  exact own_ishlE X hd _ rfl (H _ rfl (by subst hxa hP; exact c_ishl x y' kk hk) (rng32 _).1 (rng32 _).2)
theorem own_ishrE (X : own_S p l e R s m av below meth c Z y co ml rt n0 T ce sl h) {x : Int32} {y' : Int32} (hd : decode co pc = .ok (.ishr, 1)) (z : Int32) (hz : x >>> (y' &&& 31) = z) (H : own_Fin p e below s n0 Q k n T (mkF m (pc + 1) Ls (.int z :: st))) : own_Fin p e below s n0 Q k n T (mkF m pc Ls (.int y' :: .int x :: st)) := by
  subst hz
  obtain ⟨⟨hx, hby, -⟩, locs, X, -⟩ := X
  exact own_go (fun _ q => XS.ishr X.here hx rfl (hb hby hd) rfl q) H
theorem own_ishrV (X : own_S p l e R s m av below meth c Z y co ml rt n0 T ce sl h) {x : Int32} {y' : Int32}  (hd : decode co pc = .ok (.ishr, 1))  (H : ∀ v : Int32, x >>> (y' &&& 31) = v → -2147483648 ≤ v.toInt → v.toInt < 2147483648 → own_Fin p e below s n0 Q k n T (mkF m (pc + 1) Ls (.int v :: st))) : own_Fin p e below s n0 Q k n T (mkF m pc Ls (.int y' :: .int x :: st)) := by
  exact own_ishrE X hd _ rfl (H _ rfl (rng32 _).1 (rng32 _).2)
theorem own_ishrK (X : own_S p l e R s m av below meth c Z y co ml rt n0 T ce sl h) {x : Int32} {y' : Int32} (a : Int) (kk : Nat) (P : Int) (hd : decode co pc = .ok (.ishr, 1)) (hxa : x.toInt = a) (hk : y'.toBitVec.toNat % 32 = kk) (hP : ((2 ^ kk : Nat) : Int) = P) (H : ∀ v : Int32, x >>> (y' &&& 31) = v → v.toInt = a / P → -2147483648 ≤ v.toInt → v.toInt < 2147483648 → own_Fin p e below s n0 Q k n T (mkF m (pc + 1) Ls (.int v :: st))) : own_Fin p e below s n0 Q k n T (mkF m pc Ls (.int y' :: .int x :: st)) := by
  exact own_ishrE X hd _ rfl (H _ rfl (by subst hxa hP; exact c_ishr x y' kk hk) (rng32 _).1 (rng32 _).2)
theorem own_iushrE (X : own_S p l e R s m av below meth c Z y co ml rt n0 T ce sl h) {x : Int32} {y' : Int32} (hd : decode co pc = .ok (.iushr, 1)) (z : Int32) (hz : (x.toUInt32 >>> (y' &&& 31).toUInt32).toInt32 = z) (H : own_Fin p e below s n0 Q k n T (mkF m (pc + 1) Ls (.int z :: st))) : own_Fin p e below s n0 Q k n T (mkF m pc Ls (.int y' :: .int x :: st)) := by
  subst hz
  obtain ⟨⟨hx, hby, -⟩, locs, X, -⟩ := X
  exact own_go (fun _ q => XS.iushr X.here hx rfl (hb hby hd) rfl q) H
theorem own_iushrV (X : own_S p l e R s m av below meth c Z y co ml rt n0 T ce sl h) {x : Int32} {y' : Int32}  (hd : decode co pc = .ok (.iushr, 1))  (H : ∀ v : Int32, (x.toUInt32 >>> (y' &&& 31).toUInt32).toInt32 = v → -2147483648 ≤ v.toInt → v.toInt < 2147483648 → own_Fin p e below s n0 Q k n T (mkF m (pc + 1) Ls (.int v :: st))) : own_Fin p e below s n0 Q k n T (mkF m pc Ls (.int y' :: .int x :: st)) := by
  exact own_iushrE X hd _ rfl (H _ rfl (rng32 _).1 (rng32 _).2)
theorem own_iushrK (X : own_S p l e R s m av below meth c Z y co ml rt n0 T ce sl h) {x : Int32} {y' : Int32} (a : Int) (kk : Nat) (P : Int) (hd : decode co pc = .ok (.iushr, 1)) (hxa : x.toInt = a) (hk : y'.toBitVec.toNat % 32 = kk) (hP : ((2 ^ kk : Nat) : Int) = P) (hk0 : 0 < kk) (H : ∀ v : Int32, (x.toUInt32 >>> (y' &&& 31).toUInt32).toInt32 = v → v.toInt = (a % 4294967296) / P → -2147483648 ≤ v.toInt → v.toInt < 2147483648 → own_Fin p e below s n0 Q k n T (mkF m (pc + 1) Ls (.int v :: st))) : own_Fin p e below s n0 Q k n T (mkF m pc Ls (.int y' :: .int x :: st)) := by
  exact own_iushrE X hd _ rfl (H _ rfl (by subst hxa hP; exact c_iushr x y' kk hk hk0) (rng32 _).1 (rng32 _).2)
theorem own_laddE (X : own_S p l e R s m av below meth c Z y co ml rt n0 T ce sl h) {x : Int64} {y' : Int64} (hd : decode co pc = .ok (.ladd, 1)) (z : Int64) (hz : x + y' = z) (H : own_Fin p e below s n0 Q k n T (mkF m (pc + 1) Ls (.long z :: st))) : own_Fin p e below s n0 Q k n T (mkF m pc Ls (.long y' :: .long x :: st)) := by
  subst hz
  obtain ⟨⟨hx, hby, -⟩, locs, X, -⟩ := X
  exact own_go (fun _ q => XS.ladd X.here hx rfl (hb hby hd) rfl q) H
theorem own_laddV (X : own_S p l e R s m av below meth c Z y co ml rt n0 T ce sl h) {x : Int64} {y' : Int64} (a b : Int) (hd : decode co pc = .ok (.ladd, 1)) (hxa : x.toInt = a) (hyb : y'.toInt = b) (H : ∀ v : Int64, x + y' = v → (v.toInt - (a + b)) % 18446744073709551616 = 0 → -9223372036854775808 ≤ v.toInt → v.toInt < 9223372036854775808 → own_Fin p e below s n0 Q k n T (mkF m (pc + 1) Ls (.long v :: st))) : own_Fin p e below s n0 Q k n T (mkF m pc Ls (.long y' :: .long x :: st)) := by
  exact own_laddE X hd _ rfl (H _ rfl (by subst hxa hyb; exact c_ladd x y') (rng64 _).1 (rng64 _).2)
theorem own_lsubE (X : own_S p l e R s m av below meth c Z y co ml rt n0 T ce sl h) {x : Int64} {y' : Int64} (hd : decode co pc = .ok (.lsub, 1)) (z : Int64) (hz : x - y' = z) (H : own_Fin p e below s n0 Q k n T (mkF m (pc + 1) Ls (.long z :: st))) : own_Fin p e below s n0 Q k n T (mkF m pc Ls (.long y' :: .long x :: st)) := by
  subst hz
  obtain ⟨⟨hx, hby, -⟩, locs, X, -⟩ := X
  exact own_go (fun _ q => XS.lsub X.here hx rfl (hb hby hd) rfl q) H
theorem own_lsubV (X : own_S p l e R s m av below meth c Z y co ml rt n0 T ce sl h) {x : Int64} {y' : Int64} (a b : Int) (hd : decode co pc = .ok (.lsub, 1)) (hxa : x.toInt = a) (hyb : y'.toInt = b) (H : ∀ v : Int64, x - y' = v → (v.toInt - (a - b)) % 18446744073709551616 = 0 → -9223372036854775808 ≤ v.toInt → v.toInt < 9223372036854775808 → own_Fin p e below s n0 Q k n T (mkF m (pc + 1) Ls (.long v :: st))) : own_Fin p e below s n0 Q k n T (mkF m pc Ls (.long y' :: .long x :: st)) := by
  exact own_lsubE X hd _ rfl (H _ rfl (by subst hxa hyb; exact c_lsub x y') (rng64 _).1 (rng64 _).2)
theorem own_lmulE (X : own_S p l e R s m av below meth c Z y co ml rt n0 T ce sl h) {x : Int64} {y' : Int64} (hd : decode co pc = .ok (.lmul, 1)) (z : Int64) (hz : x * y' = z) (H : own_Fin p e below s n0 Q k n T (mkF m (pc + 1) Ls (.long z :: st))) : own_Fin p e below s n0 Q k n T (mkF m pc Ls (.long y' :: .long x :: st)) := by
  subst hz
  obtain ⟨⟨hx, hby, -⟩, locs, X, -⟩ := X
  exact own_go (fun _ q => XS.lmul X.here hx rfl (hb hby hd) rfl q) H
theorem own_lmulV (X : own_S p l e R s m av below meth c Z y co ml rt n0 T ce sl h) {x : Int64} {y' : Int64} (a b : Int) (hd : decode co pc = .ok (.lmul, 1)) (hxa : x.toInt = a) (hyb : y'.toInt = b) (H : ∀ v : Int64, x * y' = v → (v.toInt - (a * b)) % 18446744073709551616 = 0 → -9223372036854775808 ≤ v.toInt → v.toInt < 9223372036854775808 → own_Fin p e below s n0 Q k n T (mkF m (pc + 1) Ls (.long v :: st))) : own_Fin p e below s n0 Q k n T (mkF m pc Ls (.long y' :: .long x :: st)) := by
  exact own_lmulE X hd _ rfl (H _ rfl (by subst hxa hyb; exact c_lmul x y') (rng64 _).1 (rng64 _).2)
theorem own_landE (X : own_S p l e R s m av below meth c Z y co ml rt n0 T ce sl h) {x : Int64} {y' : Int64} (hd : decode co pc = .ok (.land, 1)) (z : Int64) (hz : x &&& y' = z) (H : own_Fin p e below s n0 Q k n T (mkF m (pc + 1) Ls (.long z :: st))) : own_Fin p e below s n0 Q k n T (mkF m pc Ls (.long y' :: .long x :: st)) := by
  subst hz
  obtain ⟨⟨hx, hby, -⟩, locs, X, -⟩ := X
  exact own_go (fun _ q => XS.land X.here hx rfl (hb hby hd) rfl q) H
theorem own_landV (X : own_S p l e R s m av below meth c Z y co ml rt n0 T ce sl h) {x : Int64} {y' : Int64}  (hd : decode co pc = .ok (.land, 1))  (H : ∀ v : Int64, x &&& y' = v → -9223372036854775808 ≤ v.toInt → v.toInt < 9223372036854775808 → own_Fin p e below s n0 Q k n T (mkF m (pc + 1) Ls (.long v :: st))) : own_Fin p e below s n0 Q k n T (mkF m pc Ls (.long y' :: .long x :: st)) := by
  exact own_landE X hd _ rfl (H _ rfl (rng64 _).1 (rng64 _).2)
theorem own_landM (X : own_S p l e R s m av below meth c Z y co ml rt n0 T ce sl h) {x : Int64} {y' : Int64} (a : Int) (kk : Nat) (P : Int) (hd : decode co pc = .ok (.land, 1)) (hxa : x.toInt = a) (hk : kk ≤ 63) (hm : y'.toBitVec.toNat = 2 ^ kk - 1) (hP : ((2 ^ kk : Nat) : Int) = P) (H : ∀ v : Int64, x &&& y' = v → v.toInt = a % P → -9223372036854775808 ≤ v.toInt → v.toInt < 9223372036854775808 → own_Fin p e below s n0 Q k n T (mkF m (pc + 1) Ls (.long v :: st))) : own_Fin p e below s n0 Q k n T (mkF m pc Ls (.long y' :: .long x :: st)) := by
  exact own_landE X hd _ rfl (H _ rfl (by subst hxa hP; exact c_maskL x y' kk hk hm) (rng64 _).1 (rng64 _).2)
theorem own_lorE (X : own_S p l e R s m av below meth c Z y co ml rt n0 T ce sl h) {x : Int64} {y' : Int64} (hd : decode co pc = .ok (.lor, 1)) (z : Int64) (hz : x ||| y' = z) (H : own_Fin p e below s n0 Q k n T (mkF m (pc + 1) Ls (.long z :: st))) : own_Fin p e below s n0 Q k n T (mkF m pc Ls (.long y' :: .long x :: st)) := by
  subst hz
  obtain ⟨⟨hx, hby, -⟩, locs, X, -⟩ := X
  exact own_go (fun _ q => XS.lor X.here hx rfl (hb hby hd) rfl q) H
theorem own_lorV (X : own_S p l e R s m av below meth c Z y co ml rt n0 T ce sl h) {x : Int64} {y' : Int64}  (hd : decode co pc = .ok (.lor, 1))  (H : ∀ v : Int64, x ||| y' = v → -9223372036854775808 ≤ v.toInt → v.toInt < 9223372036854775808 → own_Fin p e below s n0 Q k n T (mkF m (pc + 1) Ls (.long v :: st))) : own_Fin p e below s n0 Q k n T (mkF m pc Ls (.long y' :: .long x :: st)) := by
  exact own_lorE X hd _ rfl (H _ rfl (rng64 _).1 (rng64 _).2)
theorem own_lxorE (X : own_S p l e R s m av below meth c Z y co ml rt n0 T ce sl h) {x : Int64} {y' : Int64} (hd : decode co pc = .ok (.lxor, 1)) (z : Int64) (hz : x ^^^ y' = z) (H : own_Fin p e below s n0 Q k n T (mkF m (pc + 1) Ls (.long z :: st))) : own_Fin p e below s n0 Q k n T (mkF m pc Ls (.long y' :: .long x :: st)) := by
  subst hz
  obtain ⟨⟨hx, hby, -⟩, locs, X, -⟩ := X
  exact own_go (fun _ q => XS.lxor X.here hx rfl (hb hby hd) rfl q) H
theorem own_lxorV (X : own_S p l e R s m av below meth c Z y co ml rt n0 T ce sl h) {x : Int64} {y' : Int64}  (hd : decode co pc = .ok (.lxor, 1))  (H : ∀ v : Int64, x ^^^ y' = v → -9223372036854775808 ≤ v.toInt → v.toInt < 9223372036854775808 → own_Fin p e below s n0 Q k n T (mkF m (pc + 1) Ls (.long v :: st))) : own_Fin p e below s n0 Q k n T (mkF m pc Ls (.long y' :: .long x :: st)) := by
  exact own_lxorE X hd _ rfl (H _ rfl (rng64 _).1 (rng64 _).2)
theorem own_lshlE (X : own_S p l e R s m av below meth c Z y co ml rt n0 T ce sl h) {x : Int64} {y' : Int32} (hd : decode co pc = .ok (.lshl, 1)) (z : Int64) (hz : x <<< (y' &&& 0x3f).toInt64 = z) (H : own_Fin p e below s n0 Q k n T (mkF m (pc + 1) Ls (.long z :: st))) : own_Fin p e below s n0 Q k n T (mkF m pc Ls (.int y' :: .long x :: st)) := by
  subst hz
  obtain ⟨⟨hx, hby, -⟩, locs, X, -⟩ := X
  exact own_go (fun _ q => XS.lshl X.here hx rfl (hb hby hd) rfl q) H
theorem own_lshlV (X : own_S p l e R s m av below meth c Z y co ml rt n0 T ce sl h) {x : Int64} {y' : Int32}  (hd : decode co pc = .ok (.lshl, 1))  (H : ∀ v : Int64, x <<< (y' &&& 0x3f).toInt64 = v → -9223372036854775808 ≤ v.toInt → v.toInt < 9223372036854775808 → own_Fin p e below s n0 Q k n T (mkF m (pc + 1) Ls (.long v :: st))) : own_Fin p e below s n0 Q k n T (mkF m pc Ls (.int y' :: .long x :: st)) := by
  exact own_lshlE X hd _ rfl (H _ rfl (rng64 _).1 (rng64 _).2)
theorem own_lshlK (X : own_S p l e R s m av below meth c Z y co ml rt n0 T ce sl h) {x : Int64} {y' : Int32} (a : Int) (kk : Nat) (P : Int) (hd : decode co pc = .ok (.lshl, 1)) (hxa : x.toInt = a) (hk : y'.toBitVec.toNat % 64 = kk) (hP : ((2 ^ kk : Nat) : Int) = P) (H : ∀ v : Int64, x <<< (y' &&& 0x3f).toInt64 = v → (v.toInt - a * P) % 18446744073709551616 = 0 → -9223372036854775808 ≤ v.toInt → v.toInt < 9223372036854775808 → own_Fin p e below s n0 Q k n T (mkF m (pc + 1) Ls (.long v :: st))) : own_Fin p e below s n0 Q k n T (mkF m pc Ls (.int y' :: .long x :: st)) := by
  exact own_lshlE X hd _ rfl (H _ rfl (by subst hxa hP; exact c_lshl x y' kk hk) (rng64 _).1 (rng64 _).2)
theorem own_lshrE (X : own_S p l e R s m av below meth c Z y co ml rt n0 T ce sl h) {x : Int64} {y' : Int32} (hd : decode co pc = .ok (.lshr, 1)) (z : Int64) (hz : x >>> (y' &&& 0x3f).toInt64 = z) (H : own_Fin p e below s n0 Q k n T (mkF m (pc + 1) Ls (.long z :: st))) : own_Fin p e below s n0 Q k n T (mkF m pc Ls (.int y' :: .long x :: st)) := by
  subst hz
  obtain ⟨⟨hx, hby, -⟩, locs, X, -⟩ := X
  exact own_go (fun _ q => XS.lshr X.here hx rfl (hb hby hd) rfl q) H
theorem own_lshrV (X : own_S p l e R s m av below meth c Z y co ml rt n0 T ce sl h) {x : Int64} {y' : Int32}  (hd : decode co pc = .ok (.lshr, 1))  (H : ∀ v : Int64, x >>> (y' &&& 0x3f).toInt64 = v → -9223372036854775808 ≤ v.toInt → v.toInt < 9223372036854775808 → own_Fin p e below s n0 Q k n T (mkF m (pc + 1) Ls (.long v :: st))) : own_Fin p e below s n0 Q k n T (mkF m pc Ls (.int y' :: .long x :: st)) := by
  exact own_lshrE X hd _ rfl (H _ rfl (rng64 _).1 (rng64 _).2)
theorem own_lshrK (X : own_S p l e R s m av below meth c Z y co ml rt n0 T ce sl h) {x : Int64} {y' : Int32} (a : Int) (kk : Nat) (P : Int) (hd : decode co pc = .ok (.lshr, 1)) (hxa : x.toInt = a) (hk : y'.toBitVec.toNat % 64 = kk) (hP : ((2 ^ kk : Nat) : Int) = P) (H : ∀ v : Int64, x >>> (y' &&& 0x3f).toInt64 = v → v.toInt = a / P → -9223372036854775808 ≤ v.toInt → v.toInt < 9223372036854775808 → own_Fin p e below s n0 Q k n T (mkF m (pc + 1) Ls (.long v :: st))) : own_Fin p e below s n0 Q k n T (mkF m pc Ls (.int y' :: .long x :: st)) := by
  exact own_lshrE X hd _ rfl (H _ rfl (by subst hxa hP; exact c_lshr x y' kk hk) (rng64 _).1 (rng64 _).2)
theorem own_lushrE (X : own_S p l e R s m av below meth c Z y co ml rt n0 T ce sl h) {x : Int64} {y' : Int32} (hd : decode co pc = .ok (.lushr, 1)) (z : Int64) (hz : (x.toUInt64 >>> (y' &&& 0x3f).toInt64.toUInt64).toInt64 = z) (H : own_Fin p e below s n0 Q k n T (mkF m (pc + 1) Ls (.long z :: st))) : own_Fin p e below s n0 Q k n T (mkF m pc Ls (.int y' :: .long x :: st)) := by
  subst hz
  obtain ⟨⟨hx, hby, -⟩, locs, X, -⟩ := X
  exact own_go (fun _ q => XS.lushr X.here hx rfl (hb hby hd) rfl q) H
theorem own_lushrV (X : own_S p l e R s m av below meth c Z y co ml rt n0 T ce sl h) {x : Int64} {y' : Int32}  (hd : decode co pc = .ok (.lushr, 1))  (H : ∀ v : Int64, (x.toUInt64 >>> (y' &&& 0x3f).toInt64.toUInt64).toInt64 = v → -9223372036854775808 ≤ v.toInt → v.toInt < 9223372036854775808 → own_Fin p e below s n0 Q k n T (mkF m (pc + 1) Ls (.long v :: st))) : own_Fin p e below s n0 Q k n T (mkF m pc Ls (.int y' :: .long x :: st)) := by
  exact own_lushrE X hd _ rfl (H _ rfl (rng64 _).1 (rng64 _).2)
theorem own_lushrK (X : own_S p l e R s m av below meth c Z y co ml rt n0 T ce sl h) {x : Int64} {y' : Int32} (a : Int) (kk : Nat) (P : Int) (hd : decode co pc = .ok (.lushr, 1)) (hxa : x.toInt = a) (hk : y'.toBitVec.toNat % 64 = kk) (hP : ((2 ^ kk : Nat) : Int) = P) (hk0 : 0 < kk) (H : ∀ v : Int64, (x.toUInt64 >>> (y' &&& 0x3f).toInt64.toUInt64).toInt64 = v → v.toInt = (a % 18446744073709551616) / P → -9223372036854775808 ≤ v.toInt → v.toInt < 9223372036854775808 → own_Fin p e below s n0 Q k n T (mkF m (pc + 1) Ls (.long v :: st))) : own_Fin p e below s n0 Q k n T (mkF m pc Ls (.int y' :: .long x :: st)) := by
  exact own_lushrE X hd _ rfl (H _ rfl (by subst hxa hP; exact c_lushr x y' kk hk hk0) (rng64 _).1 (rng64 _).2)
theorem own_iremE (X : own_S p l e R s m av below meth c Z y co ml rt n0 T ce sl h) {x : Int32} {y' : Int32} (hd : decode co pc = .ok (.irem, 1)) (hnz : y' ≠ 0) (z : Int32) (hz : x % y' = z) (H : own_Fin p e below s n0 Q k n T (mkF m (pc + 1) Ls (.int z :: st))) : own_Fin p e below s n0 Q k n T (mkF m pc Ls (.int y' :: .int x :: st)) := by
  subst hz
  obtain ⟨⟨hx, hby, -⟩, locs, X, -⟩ := X
  exact own_go (fun _ q => iremM X hx rfl (hb hby hd) rfl hnz q) H
theorem own_iremV (X : own_S p l e R s m av below meth c Z y co ml rt n0 T ce sl h) {x : Int32} {y' : Int32}  (hd : decode co pc = .ok (.irem, 1)) (hnz : y' ≠ 0)  (H : ∀ v : Int32, x % y' = v → -2147483648 ≤ v.toInt → v.toInt < 2147483648 → own_Fin p e below s n0 Q k n T (mkF m (pc + 1) Ls (.int v :: st))) : own_Fin p e below s n0 Q k n T (mkF m pc Ls (.int y' :: .int x :: st)) := by
  exact own_iremE X hd hnz _ rfl (H _ rfl (rng32 _).1 (rng32 _).2)
theorem own_iremK (X : own_S p l e R s m av below meth c Z y co ml rt n0 T ce sl h) {x : Int32} {y' : Int32} (a b : Int) (hd : decode co pc = .ok (.irem, 1)) (hnz : y' ≠ 0) (hxa : x.toInt = a) (hyb : y'.toInt = b) (H : ∀ v : Int32, x % y' = v → (0 ≤ a → v.toInt = a % b) ∧ (a < 0 → v.toInt = -((-a) % b)) → -2147483648 ≤ v.toInt → v.toInt < 2147483648 → own_Fin p e below s n0 Q k n T (mkF m (pc + 1) Ls (.int v :: st))) : own_Fin p e below s n0 Q k n T (mkF m pc Ls (.int y' :: .int x :: st)) := by
  exact own_iremE X hd hnz _ rfl (H _ rfl (by subst hxa; exact c_irem x y' b hyb) (rng32 _).1 (rng32 _).2)
theorem own_iremB (X : own_S p l e R s m av below meth c Z y co ml rt n0 T ce sl h) {x : Int32} {y' : Int32} (a b : Int) (hd : decode co pc = .ok (.irem, 1)) (hnz : y' ≠ 0) (hxa : x.toInt = a) (hyb : y'.toInt = b) (q1 : 0 ≤ a) (q2 : 0 < b) (H : ∀ v : Int32, x % y' = v → 0 ≤ v.toInt ∧ v.toInt < b ∧ v.toInt ≤ a → -2147483648 ≤ v.toInt → v.toInt < 2147483648 → own_Fin p e below s n0 Q k n T (mkF m (pc + 1) Ls (.int v :: st))) : own_Fin p e below s n0 Q k n T (mkF m pc Ls (.int y' :: .int x :: st)) := by
  exact own_iremE X hd hnz _ rfl (H _ rfl (by subst hxa hyb; have q := (c_iremV x y').1 q1 q2; exact ⟨q.1, q.2.1, q.2.2.1⟩) (rng32 _).1 (rng32 _).2)
theorem own_lremE (X : own_S p l e R s m av below meth c Z y co ml rt n0 T ce sl h) {x : Int64} {y' : Int64} (hd : decode co pc = .ok (.lrem, 1)) (hnz : y' ≠ 0) (z : Int64) (hz : x % y' = z) (H : own_Fin p e below s n0 Q k n T (mkF m (pc + 1) Ls (.long z :: st))) : own_Fin p e below s n0 Q k n T (mkF m pc Ls (.long y' :: .long x :: st)) := by
  subst hz
  obtain ⟨⟨hx, hby, -⟩, locs, X, -⟩ := X
  exact own_go (fun _ q => XS.lrem X.here hx rfl (hb hby hd) rfl hnz (by rw [lrem_mod]; exact q)) H
theorem own_lremV (X : own_S p l e R s m av below meth c Z y co ml rt n0 T ce sl h) {x : Int64} {y' : Int64}  (hd : decode co pc = .ok (.lrem, 1)) (hnz : y' ≠ 0)  (H : ∀ v : Int64, x % y' = v → -9223372036854775808 ≤ v.toInt → v.toInt < 9223372036854775808 → own_Fin p e below s n0 Q k n T (mkF m (pc + 1) Ls (.long v :: st))) : own_Fin p e below s n0 Q k n T (mkF m pc Ls (.long y' :: .long x :: st)) := by
  exact own_lremE X hd hnz _ rfl (H _ rfl (rng64 _).1 (rng64 _).2)
theorem own_lremK (X : own_S p l e R s m av below meth c Z y co ml rt n0 T ce sl h) {x : Int64} {y' : Int64} (a b : Int) (hd : decode co pc = .ok (.lrem, 1)) (hnz : y' ≠ 0) (hxa : x.toInt = a) (hyb : y'.toInt = b) (H : ∀ v : Int64, x % y' = v → (0 ≤ a → v.toInt = a % b) ∧ (a < 0 → v.toInt = -((-a) % b)) → -9223372036854775808 ≤ v.toInt → v.toInt < 9223372036854775808 → own_Fin p e below s n0 Q k n T (mkF m (pc + 1) Ls (.long v :: st))) : own_Fin p e below s n0 Q k n T (mkF m pc Ls (.long y' :: .long x :: st)) := by
  exact own_lremE X hd hnz _ rfl (H _ rfl (by subst hxa; have q := c_lrem x y' b hyb; rw [lrem_mod] at q; exact q) (rng64 _).1 (rng64 _).2)
theorem own_lremB (X : own_S p l e R s m av below meth c Z y co ml rt n0 T ce sl h) {x : Int64} {y' : Int64} (a b : Int) (hd : decode co pc = .ok (.lrem, 1)) (hnz : y' ≠ 0) (hxa : x.toInt = a) (hyb : y'.toInt = b) (q1 : 0 ≤ a) (q2 : 0 < b) (H : ∀ v : Int64, x % y' = v → 0 ≤ v.toInt ∧ v.toInt < b ∧ v.toInt ≤ a → -9223372036854775808 ≤ v.toInt → v.toInt < 9223372036854775808 → own_Fin p e below s n0 Q k n T (mkF m (pc + 1) Ls (.long v :: st))) : own_Fin p e below s n0 Q k n T (mkF m pc Ls (.long y' :: .long x :: st)) := by
  exact own_lremE X hd hnz _ rfl (H _ rfl (by subst hxa hyb; have q := (c_lrem x y' _ rfl).1 q1; rw [lrem_mod] at q; rw [q]; exact ⟨Int.emod_nonneg _ (by omega), Int.emod_lt_of_pos _ q2, own_emod_le q1 q2⟩) (rng64 _).1 (rng64 _).2)
theorem own_i2lE (X : own_S p l e R s m av below meth c Z y co ml rt n0 T ce sl h) {x : Int32} (hd : decode co pc = .ok (.i2l, 1)) (z : Int64) (hz : x.toInt64 = z) (H : own_Fin p e below s n0 Q k n T (mkF m (pc + 1) Ls (.long z :: st))) : own_Fin p e below s n0 Q k n T (mkF m pc Ls (.int x :: st)) := by
  subst hz
  obtain ⟨⟨hx, hby, -⟩, locs, X, -⟩ := X
  exact own_go (fun _ q => XS.i2l X.here hx rfl (hb hby hd) rfl q) H
theorem own_i2lV (X : own_S p l e R s m av below meth c Z y co ml rt n0 T ce sl h) {x : Int32} (a : Int) (hd : decode co pc = .ok (.i2l, 1)) (hxa : x.toInt = a) (H : ∀ v : Int64, x.toInt64 = v → v.toInt = a → -9223372036854775808 ≤ v.toInt → v.toInt < 9223372036854775808 → own_Fin p e below s n0 Q k n T (mkF m (pc + 1) Ls (.long v :: st))) : own_Fin p e below s n0 Q k n T (mkF m pc Ls (.int x :: st)) := by
  exact own_i2lE X hd _ rfl (H _ rfl (by subst hxa; exact c_i2l x) (rng64 _).1 (rng64 _).2)
theorem own_l2iE (X : own_S p l e R s m av below meth c Z y co ml rt n0 T ce sl h) {x : Int64} (hd : decode co pc = .ok (.l2i, 1)) (z : Int32) (hz : x.toInt32 = z) (H : own_Fin p e below s n0 Q k n T (mkF m (pc + 1) Ls (.int z :: st))) : own_Fin p e below s n0 Q k n T (mkF m pc Ls (.long x :: st)) := by
  subst hz
  obtain ⟨⟨hx, hby, -⟩, locs, X, -⟩ := X
  exact own_go (fun _ q => XS.l2i X.here hx rfl (hb hby hd) rfl q) H
theorem own_l2iV (X : own_S p l e R s m av below meth c Z y co ml rt n0 T ce sl h) {x : Int64} (a : Int) (hd : decode co pc = .ok (.l2i, 1)) (hxa : x.toInt = a) (H : ∀ v : Int32, x.toInt32 = v → (v.toInt - a) % 4294967296 = 0 → -2147483648 ≤ v.toInt → v.toInt < 2147483648 → own_Fin p e below s n0 Q k n T (mkF m (pc + 1) Ls (.int v :: st))) : own_Fin p e below s n0 Q k n T (mkF m pc Ls (.long x :: st)) := by
  exact own_l2iE X hd _ rfl (H _ rfl (by subst hxa; exact c_l2i x) (rng32 _).1 (rng32 _).2)
theorem own_i2bE (X : own_S p l e R s m av below meth c Z y co ml rt n0 T ce sl h) {x : Int32} (hd : decode co pc = .ok (.i2b, 1)) (z : Int32) (hz : x.toInt8.toInt32 = z) (H : own_Fin p e below s n0 Q k n T (mkF m (pc + 1) Ls (.int z :: st))) : own_Fin p e below s n0 Q k n T (mkF m pc Ls (.int x :: st)) := by
  subst hz
  obtain ⟨⟨hx, hby, -⟩, locs, X, -⟩ := X
  exact own_go (fun _ q => XS.i2b X.here hx rfl (hb hby hd) rfl q) H
theorem own_i2bV (X : own_S p l e R s m av below meth c Z y co ml rt n0 T ce sl h) {x : Int32} (a : Int) (hd : decode co pc = .ok (.i2b, 1)) (hxa : x.toInt = a) (H : ∀ v : Int32, x.toInt8.toInt32 = v → (v.toInt - a) % 256 = 0 ∧ -128 ≤ v.toInt ∧ v.toInt < 128 → -2147483648 ≤ v.toInt → v.toInt < 2147483648 → own_Fin p e below s n0 Q k n T (mkF m (pc + 1) Ls (.int v :: st))) : own_Fin p e below s n0 Q k n T (mkF m pc Ls (.int x :: st)) := by
  exact own_i2bE X hd _ rfl (H _ rfl (by subst hxa; exact c_i2b x) (rng32 _).1 (rng32 _).2)
theorem own_i2sE (X : own_S p l e R s m av below meth c Z y co ml rt n0 T ce sl h) {x : Int32} (hd : decode co pc = .ok (.i2s, 1)) (z : Int32) (hz : x.toInt16.toInt32 = z) (H : own_Fin p e below s n0 Q k n T (mkF m (pc + 1) Ls (.int z :: st))) : own_Fin p e below s n0 Q k n T (mkF m pc Ls (.int x :: st)) := by
  subst hz
  obtain ⟨⟨hx, hby, -⟩, locs, X, -⟩ := X
  exact own_go (fun _ q => XS.i2s X.here hx rfl (hb hby hd) rfl q) H
theorem own_i2sV (X : own_S p l e R s m av below meth c Z y co ml rt n0 T ce sl h) {x : Int32} (a : Int) (hd : decode co pc = .ok (.i2s, 1)) (hxa : x.toInt = a) (H : ∀ v : Int32, x.toInt16.toInt32 = v → (v.toInt - a) % 65536 = 0 ∧ -32768 ≤ v.toInt ∧ v.toInt < 32768 → -2147483648 ≤ v.toInt → v.toInt < 2147483648 → own_Fin p e below s n0 Q k n T (mkF m (pc + 1) Ls (.int v :: st))) : own_Fin p e below s n0 Q k n T (mkF m pc Ls (.int x :: st)) := by
  exact own_i2sE X hd _ rfl (H _ rfl (by subst hxa; exact c_i2s x) (rng32 _).1 (rng32 _).2)
theorem own_i2cE (X : own_S p l e R s m av below meth c Z y co ml rt n0 T ce sl h) {x : Int32} (hd : decode co pc = .ok (.i2c, 1)) (z : Int32) (hz : x.toUInt32.toUInt16.toUInt32.toInt32 = z) (H : own_Fin p e below s n0 Q k n T (mkF m (pc + 1) Ls (.int z :: st))) : own_Fin p e below s n0 Q k n T (mkF m pc Ls (.int x :: st)) := by
  subst hz
  obtain ⟨⟨hx, hby, -⟩, locs, X, -⟩ := X
  exact own_go (fun _ q => XS.i2c X.here hx rfl (hb hby hd) rfl q) H
theorem own_i2cV (X : own_S p l e R s m av below meth c Z y co ml rt n0 T ce sl h) {x : Int32} (a : Int) (hd : decode co pc = .ok (.i2c, 1)) (hxa : x.toInt = a) (H : ∀ v : Int32, x.toUInt32.toUInt16.toUInt32.toInt32 = v → (v.toInt - a) % 65536 = 0 ∧ 0 ≤ v.toInt ∧ v.toInt < 65536 → -2147483648 ≤ v.toInt → v.toInt < 2147483648 → own_Fin p e below s n0 Q k n T (mkF m (pc + 1) Ls (.int v :: st))) : own_Fin p e below s n0 Q k n T (mkF m pc Ls (.int x :: st)) := by
  exact own_i2cE X hd _ rfl (H _ rfl (by subst hxa; exact c_i2c x) (rng32 _).1 (rng32 _).2)
theorem own_lcmp (X : own_S p l e R s m av below meth c Z y co ml rt n0 T ce sl h) {x y' : Int64} (hd : decode co pc = .ok (.lcmp, 1)) (H : own_Fin p e below s n0 Q k n T (mkF m (pc + 1) Ls (.int (lcmpW x y') :: st))) : own_Fin p e below s n0 Q k n T (mkF m pc Ls (.long y' :: .long x :: st)) := by
  obtain ⟨⟨hx, hby, -⟩, locs, X, -⟩ := X
  exact own_go (fun _ q => XS.lcmp X.here hx rfl (hb hby hd) rfl q) H
theorem own_dup (X : own_S p l e R s m av below meth c Z y co ml rt n0 T ce sl h) {v : Value} (hd : decode co pc = .ok (.dup, 1)) (hv : v.category = 1) (H : own_Fin p e below s n0 Q k n T (mkF m (pc + 1) Ls (v :: v :: st))) : own_Fin p e below s n0 Q k n T (mkF m pc Ls (v :: st)) := by
  obtain ⟨⟨hx, hby, -⟩, locs, X, -⟩ := X
  exact own_go (fun _ q => XS.dup X.here hx rfl (hb hby hd) rfl hv q) H
theorem own_dupX1 (X : own_S p l e R s m av below meth c Z y co ml rt n0 T ce sl h) {v w : Value} (hd : decode co pc = .ok (.dup_x1, 1)) (hv : v.category = 1) (hw : w.category = 1) (H : own_Fin p e below s n0 Q k n T (mkF m (pc + 1) Ls (v :: w :: v :: st))) : own_Fin p e below s n0 Q k n T (mkF m pc Ls (v :: w :: st)) := by
  obtain ⟨⟨hx, hby, -⟩, locs, X, -⟩ := X
  exact own_go (fun _ q => XS.dupX1 X.here hx rfl (hb hby hd) rfl hv hw q) H
theorem own_pop (X : own_S p l e R s m av below meth c Z y co ml rt n0 T ce sl h) {v : Value} (hd : decode co pc = .ok (.pop, 1)) (hv : v.category = 1) (H : own_Fin p e below s n0 Q k n T (mkF m (pc + 1) Ls (st))) : own_Fin p e below s n0 Q k n T (mkF m pc Ls (v :: st)) := by
  obtain ⟨⟨hx, hby, -⟩, locs, X, -⟩ := X
  exact own_go (fun _ q => XS.pop X.here hx rfl (hb hby hd) rfl hv q) H
theorem own_iinc (X : own_S p l e R s m av below meth c Z y co ml rt n0 T ce sl h) {i : Nat} {z : Int} {x z' : Int32} {L' : Array Slot} (hd : decode co pc = .ok (.iinc i z, 3)) (hl : Ls[i]? = some (.val (.int x))) (hz : Int32.ofInt z = z') (hl' : storeLocals Ls i (.int (x + z')) = some L') (H : own_Fin p e below s n0 Q k n T (mkF m (pc + 3) L' (st))) : own_Fin p e below s n0 Q k n T (mkF m pc Ls (st)) := by
  obtain ⟨⟨hx, hby, -⟩, locs, X, -⟩ := X
  exact own_go (fun _ q => XS.iinc X.here hx rfl (hb hby hd) hl (by rw [hz]; exact hl') q) H
theorem own_goto (X : own_S p l e R s m av below meth c Z y co ml rt n0 T ce sl h) {o : Int} (pc' : Nat) (hd : decode co pc = .ok (.goto o, 3)) (ho : 0 ≤ (pc : Int) + o) (hp : ((pc : Int) + o).toNat = pc') (H : own_Fin p e below s n0 Q k n T (mkF m pc' Ls (st))) : own_Fin p e below s n0 Q k n T (mkF m pc Ls (st)) := by
  obtain ⟨⟨hx, hby, -⟩, locs, X, -⟩ := X
  exact own_go (fun _ q => XS.goto X.here hx rfl rfl (hb hby hd) ho hp q) H
theorem own_icmpYes (X : own_S p l e R s m av below meth c Z y co ml rt n0 T ce sl h) {cd : ClassFile.Cond} {o : Int} {x y' : Int32} (pc' : Nat) (hd : decode co pc = .ok (.if_icmp cd o, 3)) (hc : if_icmp.holds cd x y' = true) (ho : 0 ≤ (pc : Int) + o) (hp : ((pc : Int) + o).toNat = pc') (H : own_Fin p e below s n0 Q k n T (mkF m pc' Ls (st))) : own_Fin p e below s n0 Q k n T (mkF m pc Ls (.int y' :: .int x :: st)) := by
  obtain ⟨⟨hx, hby, -⟩, locs, X, -⟩ := X
  exact own_go (fun _ q => XS.icmpYes X.here hx rfl rfl (hb hby hd) rfl hc ho hp q) H
theorem own_icmpNo (X : own_S p l e R s m av below meth c Z y co ml rt n0 T ce sl h) {cd : ClassFile.Cond} {o : Int} {x y' : Int32} (hd : decode co pc = .ok (.if_icmp cd o, 3)) (hc : if_icmp.holds cd x y' = false) (H : own_Fin p e below s n0 Q k n T (mkF m (pc + 3) Ls (st))) : own_Fin p e below s n0 Q k n T (mkF m pc Ls (.int y' :: .int x :: st)) := by
  obtain ⟨⟨hx, hby, -⟩, locs, X, -⟩ := X
  exact own_go (fun _ q => XS.icmpNo X.here hx rfl (hb hby hd) rfl hc q) H
theorem own_ifYes (X : own_S p l e R s m av below meth c Z y co ml rt n0 T ce sl h) {cd : ClassFile.Cond} {o : Int} {x : Int32} (pc' : Nat) (hd : decode co pc = .ok (.ifCond cd o, 3)) (hc : ifCond.holds cd x = true) (ho : 0 ≤ (pc : Int) + o) (hp : ((pc : Int) + o).toNat = pc') (H : own_Fin p e below s n0 Q k n T (mkF m pc' Ls (st))) : own_Fin p e below s n0 Q k n T (mkF m pc Ls (.int x :: st)) := by
  obtain ⟨⟨hx, hby, -⟩, locs, X, -⟩ := X
  exact own_go (fun _ q => XS.ifYes X.here hx rfl rfl (hb hby hd) rfl hc ho hp q) H
theorem own_ifNo (X : own_S p l e R s m av below meth c Z y co ml rt n0 T ce sl h) {cd : ClassFile.Cond} {o : Int} {x : Int32} (hd : decode co pc = .ok (.ifCond cd o, 3)) (hc : ifCond.holds cd x = false) (H : own_Fin p e below s n0 Q k n T (mkF m (pc + 3) Ls (st))) : own_Fin p e below s n0 Q k n T (mkF m pc Ls (.int x :: st)) := by
  obtain ⟨⟨hx, hby, -⟩, locs, X, -⟩ := X
  exact own_go (fun _ q => XS.ifNo X.here hx rfl (hb hby hd) rfl hc q) H
theorem own_ifnullYes (X : own_S p l e R s m av below meth c Z y co ml rt n0 T ce sl h) {o : Int} (pc' : Nat) (hd : decode co pc = .ok (.ifnull o, 3)) (ho : 0 ≤ (pc : Int) + o) (hp : ((pc : Int) + o).toNat = pc') (H : own_Fin p e below s n0 Q k n T (mkF m pc' Ls (st))) : own_Fin p e below s n0 Q k n T (mkF m pc Ls (.null :: st)) := by
  obtain ⟨⟨hx, hby, -⟩, locs, X, -⟩ := X
  exact own_go (fun _ q => XS.ifnullYes X.here hx rfl rfl (hb hby hd) rfl ho hp q) H
theorem own_ifnullNo (X : own_S p l e R s m av below meth c Z y co ml rt n0 T ce sl h) {o : Int} {b : Addr} (hd : decode co pc = .ok (.ifnull o, 3)) (H : own_Fin p e below s n0 Q k n T (mkF m (pc + 3) Ls (st))) : own_Fin p e below s n0 Q k n T (mkF m pc Ls (.ref b :: st)) := by
  obtain ⟨⟨hx, hby, -⟩, locs, X, -⟩ := X
  exact own_go (fun _ q => XS.ifnullNo X.here hx rfl (hb hby hd) rfl q) H
theorem own_ifnonnullYes (X : own_S p l e R s m av below meth c Z y co ml rt n0 T ce sl h) {o : Int} {b : Addr} (pc' : Nat) (hd : decode co pc = .ok (.ifnonnull o, 3)) (ho : 0 ≤ (pc : Int) + o) (hp : ((pc : Int) + o).toNat = pc') (H : own_Fin p e below s n0 Q k n T (mkF m pc' Ls (st))) : own_Fin p e below s n0 Q k n T (mkF m pc Ls (.ref b :: st)) := by
  obtain ⟨⟨hx, hby, -⟩, locs, X, -⟩ := X
  exact own_go (fun _ q => XS.ifnonnullYes X.here hx rfl rfl (hb hby hd) rfl ho hp q) H
theorem own_ifnonnullNo (X : own_S p l e R s m av below meth c Z y co ml rt n0 T ce sl h) {o : Int} (hd : decode co pc = .ok (.ifnonnull o, 3)) (H : own_Fin p e below s n0 Q k n T (mkF m (pc + 3) Ls (st))) : own_Fin p e below s n0 Q k n T (mkF m pc Ls (.null :: st)) := by
  obtain ⟨⟨hx, hby, -⟩, locs, X, -⟩ := X
  exact own_go (fun _ q => XS.ifnonnullNo X.here hx rfl (hb hby hd) rfl q) H
theorem own_dup2 (X : own_S p l e R s m av below meth c Z y co ml rt n0 T ce sl h) {v w : Value} (hd : decode co pc = .ok (.dup2, 1)) (hv : v.category = 1) (hw : w.category = 1) (H : own_Fin p e below s n0 Q k n T (mkF m (pc + 1) Ls (v :: w :: v :: w :: st))) : own_Fin p e below s n0 Q k n T (mkF m pc Ls (v :: w :: st)) := by
  obtain ⟨⟨hx, hby, -⟩, locs, X, -⟩ := X
  exact own_go (fun _ q => XT.dup2 X.here hx rfl (hb hby hd) rfl hv hw q) H
theorem own_tswOut (X : own_S p l e R s m av below meth c Z y co ml rt n0 T ce sl h) {df lo hi : Int} {offs : Array Int} {len : Nat} {x : Int32} (pc' : Nat) (hd : decode co pc = .ok (.tableswitch df lo hi offs, len)) (hc : x.toInt < lo ∨ x.toInt > hi) (ho : 0 ≤ (pc : Int) + df) (hp : ((pc : Int) + df).toNat = pc') (H : own_Fin p e below s n0 Q k n T (mkF m pc' Ls st)) : own_Fin p e below s n0 Q k n T (mkF m pc Ls (.int x :: st)) := by
  obtain ⟨⟨hx, hby, -⟩, locs, X, -⟩ := X
  exact own_go (fun _ q => XS.tswOut X.here hx rfl rfl (hb hby hd) rfl hc ho hp q) H
theorem own_tswIn (X : own_S p l e R s m av below meth c Z y co ml rt n0 T ce sl h) {df lo hi o : Int} {offs : Array Int} {len : Nat} {x : Int32} (pc' : Nat) (hd : decode co pc = .ok (.tableswitch df lo hi offs, len)) (hc : ¬ (x.toInt < lo ∨ x.toInt > hi)) (hof : offs[(x.toInt - lo).toNat]? = some o) (ho : 0 ≤ (pc : Int) + o) (hp : ((pc : Int) + o).toNat = pc') (H : own_Fin p e below s n0 Q k n T (mkF m pc' Ls st)) : own_Fin p e below s n0 Q k n T (mkF m pc Ls (.int x :: st)) := by
  obtain ⟨⟨hx, hby, -⟩, locs, X, -⟩ := X
  exact own_go (fun _ q => XS.tswIn X.here hx rfl rfl (hb hby hd) rfl hc hof ho hp q) H
theorem own_all_offs {offs : Array Int} {o : Int} {i k : Nat} (h : ∀ j, j < k → offs[j]? = some o) (hi : i < k) : offs[i]? = some o := h i hi
theorem own_iincW (X : own_S p l e R s m av below meth c Z y co ml rt n0 T ce sl h) {i : Nat} {z : Int} {x z' : Int32} {L' : Array Slot} (hd : decode co pc = .ok (.iinc i z, 6)) (hl : Ls[i]? = some (.val (.int x))) (hz : Int32.ofInt z = z') (hl' : storeLocals Ls i (.int (x + z')) = some L') (H : own_Fin p e below s n0 Q k n T (mkF m (pc + 6) L' st)) : own_Fin p e below s n0 Q k n T (mkF m pc Ls st) := by
  subst hz
  obtain ⟨⟨hx, hby, -⟩, locs, X, -⟩ := X
  have hd' := hb hby hd
  refine own_go (fun target q => ?_) H
  jvm_step X.here [X.here.top, hx, hd', hl, hl']
  exact q
theorem own_ldc (X : own_S p l e R s m av below meth c Z y co ml rt n0 T ce sl h) {ix : Nat} {z : Int32} (w : (Jvm.Cond.constant y.cls ix z).before a0 Z = true) (hd : decode co pc = .ok (.ldc ix, 2)) (H : own_Fin p e below s n0 Q k n T (mkF m (pc + 2) Ls (.int z :: st))) : own_Fin p e below s n0 Q k n T (mkF m pc Ls st) := by
  obtain ⟨⟨hx, hby, -, hown, -, -, -, hZ⟩, locs, X, -⟩ := X
  exact own_go (X.ldcInt hx hown (mvT hZ w) (g := mkF m pc Ls st) rfl (hb hby hd)) H
theorem own_ldc2 (X : own_S p l e R s m av below meth c Z y co ml rt n0 T ce sl h) {ix : Nat} {z : Int64} (w : (Jvm.Cond.constantLong y.cls ix z).before a0 Z = true) (hd : decode co pc = .ok (.ldc2_w ix, 3)) (H : own_Fin p e below s n0 Q k n T (mkF m (pc + 3) Ls (.long z :: st))) : own_Fin p e below s n0 Q k n T (mkF m pc Ls st) := by
  obtain ⟨⟨hx, hby, -, hown, -, -, -, hZ⟩, locs, X, -⟩ := X
  exact own_go (X.ldc2Long hx hown (mvT hZ w) (g := mkF m pc Ls st) rfl (hb hby hd)) H
/-- the five returns -/
theorem own_ret (X : own_S p l e R s m av below meth c Z y co ml rt n0 T ce sl h) {t : FieldType} {i : Instr} {w w' : Value} (hrt : rt = some t) (hn : narrow t w' = w') (hst : ∀ {fs : List Frame} {locs : List Loc}, Stand p l e R s m av below meth c T locs ce sl → p.tables.exec = Jvm.exec → meth.sig.returnType = some t → decode c.code pc = .ok (i, 1) →
      (∀ (f : JFrame) (acts : List Action), f.method = m → f.locked = none → f.entered = [] → (doReturn e (T.setTop f) acts (some w')).1 = T.setFrames fs) → Steps p.tables e below (T.setTop (mkF m pc Ls (w :: st))) (T.setFrames fs))
    (hd : decode co pc = .ok (i, 1)) (hk : ce ≤ k) (hk' : sl ≤ n) (q : Q (some w') h) : own_Fin p e below s n0 Q k n T (mkF m pc Ls (w :: st)) := by
  obtain ⟨⟨hx, hby, -, -, -, hret, hlk, hZ⟩, locs, X, N, eh, -⟩ := X
  obtain ⟨fs, hr, hrun, hended, hW, hsame⟩ := X.leave (v := some w') (fun h => by rw [hret, hrt] at h; cases h) hlk
  exact ⟨_, _, hst X hx (by rw [hret, hrt]) (hb hby hd) hr, hrun, hended, _, _, rfl, ⟨N, by rw [show (T.setFrames fs).heap = h from eh]; exact q⟩, ⟨_, rfl⟩, hW, hsame.mono hk hk'⟩
theorem own_retI (X : own_S p l e R s m av below meth c Z y co ml (some .int) n0 T ce sl h) {z : Int32} (hd : decode co pc = .ok (.ireturn, 1)) (hk : ce ≤ k) (hk' : sl ≤ n) (q : Q (some (.int z)) h) : own_Fin p e below s n0 Q k n T (mkF m pc Ls (.int z :: st)) :=
  own_ret X rfl rfl (fun X hx hret hd hl => retOut X hx hret rfl (Or.inl ⟨rfl, Or.inl rfl, z, rfl⟩) hd hl) hd hk hk' q
theorem own_retN {t : FieldType} (X : own_S p l e R s m av below meth c Z y co ml (some t) n0 T ce sl h) {z z' : Int32} (ht : t = .boolean ∨ t = .byte ∨ t = .char ∨ t = .short) (hz : nar t z = z') (hz' : nar t z' = z') (hd : decode co pc = .ok (.ireturn, 1)) (hk : ce ≤ k) (hk' : sl ≤ n) (q : Q (some (.int z')) h) : own_Fin p e below s n0 Q k n T (mkF m pc Ls (.int z :: st)) :=
  own_ret X rfl (by rcases ht with rfl | rfl | rfl | rfl <;> exact congrArg Value.int hz') (fun X hx hret hd hl => retN X hx hret ht hd (by rw [hz]; exact hl)) hd hk hk' q
theorem own_retJ (X : own_S p l e R s m av below meth c Z y co ml (some .long) n0 T ce sl h) {z : Int64} (hd : decode co pc = .ok (.lreturn, 1)) (hk : ce ≤ k) (hk' : sl ≤ n) (q : Q (some (.long z)) h) : own_Fin p e below s n0 Q k n T (mkF m pc Ls (.long z :: st)) :=
  own_ret X rfl rfl (fun X hx hret hd hl => retOut X hx hret rfl (Or.inr (Or.inl ⟨rfl, rfl, z, rfl⟩)) hd hl) hd hk hk' q
theorem own_retR {t : FieldType} (X : own_S p l e R s m av below meth c Z y co ml (some t) n0 T ce sl h) {w : Value} (ht : t.isReference = true) (hw : w.isRef = true) (hd : decode co pc = .ok (.areturn, 1)) (hk : ce ≤ k) (hk' : sl ≤ n) (q : Q (some w) h) : own_Fin p e below s n0 Q k n T (mkF m pc Ls (w :: st)) :=
  have hn : narrow t w = w := by cases t <;> first | (cases ht; done) | rfl
  own_ret X rfl hn (fun X hx hret hd hl => retOut X hx hret hn (Or.inr (Or.inr (Or.inr (Or.inr ⟨rfl, ht, hw⟩)))) hd hl) hd hk hk' q
theorem own_retV (X : own_S p l e R s m av below meth c Z y co ml none n0 T ce sl h) (hd : decode co pc = .ok (.return_, 1)) (hk : ce ≤ k) (hk' : sl ≤ n) (q : Q none h) : own_Fin p e below s n0 Q k n T (mkF m pc Ls []) := by
  obtain ⟨⟨hx, hby, -, -, -, hret, hlk, hZ⟩, locs, X, N, eh, -⟩ := X
  obtain ⟨fs, hr, hrun, hended, hW, hsame⟩ := X.leave (v := none) (fun _ => rfl) hlk
  exact ⟨_, _, X.returnOut hx hret (hb hby hd) hr, hrun, hended, _, _, rfl, ⟨N, by rw [show (T.setFrames fs).heap = h from eh]; exact q⟩, ⟨_, rfl⟩, hW, hsame.mono hk hk'⟩
/-- a static call by its contract -/
theorem own_callS (X : own_S p l e R s m av below meth c Z y co ml rt n0 T ce sl h) {ix : Nat} {y' : MethodName} {co' : ByteArray} {ml' W : Nat} {rt' : Option FieldType} {rm : Room} {Q' : Option Value → Heap → Prop} {argsL rest stk : List Value}
    (w1 : (Jvm.Cond.methodLink y.cls ix y').before a0 Z = true) (w2 : (Jvm.Cond.static y').before a0 Z = true) (w3 : (Jvm.Cond.initialized y'.cls).before a0 Z = true) (w4 : (Jvm.Cond.code y' co' ml' rt').before a0 Z = true) (hy : y'.cls ≠ "java/lang/invoke/MethodHandle" ∧ y'.cls ≠ "java/lang/invoke/VarHandle")
    (M : own_Met l Z y' co' ml' rt' [] rm argsL.toArray h n0 Q') (hf : rm.frames + 1 ≤ R.frames) (hlo : W + (ml' + 11) + rm.locals ≤ R.locals) (hce : ce + rm.cells ≤ R.cells) (hsl : sl + rm.slots ≤ R.slots)
    (hL : Ls.size = ml) (hlen : ∀ sig, parseMethodDescriptor y'.desc = some sig → argsL.length = sig.parameters.length) (hs : stk = argsL.reverse ++ rest) (hW : (rest.map fun v => v.category).sum ≤ W) (hd : decode co pc = .ok (.invokestatic ix, 3))
    (H : ∀ T' h' v, own_S p l e R s m av below meth c Z y co ml rt n0 T' (ce + rm.cells) (sl + rm.slots) h' → Q' v h' → own_Fin p e below s n0 Q k n T' (mkF m (pc + 3) Ls (v.toList ++ rest))) : own_Fin p e below s n0 Q k n T (mkF m pc Ls stk) := by
  obtain ⟨C, locs, X, N, eh, hn⟩ := X
  obtain ⟨hx, hby, hml, hown, -, -, -, hZ⟩ := id C
  obtain ⟨v, _, ⟨T', L', k', n'⟩, -, X', ⟨Lc, ⟨hN, hQ⟩, l1, l2, l3⟩, st'⟩ := Jvm.LawKit.callS X hx (y := y') hown (mvT hZ w1) (mvT hZ w2) (mvT hZ w3) (mvT hZ w4) hy (backOf (Q := fun v h' L => Fr n0 L ∧ Q' v h') (W := W) M hZ w4 w3 hf hlo) (g := mkF m pc Ls stk) rfl (by rw [hml]; exact hL) (argsL := argsL) (rest := rest) hlen hs (by show 2 * 0 + _ ≤ _; omega) (hb hby hd) (fun _ _ => ⟨rfl, eh, hce, hsl⟩)
  dsimp only [Pt.U, Pt.locs, Pt.cells, Pt.slots] at X' l1 l2 l3 st' hQ
  subst l1 l2 l3
  exact own_go st' (H T' T'.heap v ⟨C, _, X', N.app hN, rfl, hn⟩ hQ)
/-- the forms of a contract's promise, and how a call goes on -/
def own_QI (P : Int32 → Heap → Prop) (v : Option Value) (h : Heap) : Prop := ∃ z, v = some (.int z) ∧ P z h
def own_QJ (P : Int64 → Heap → Prop) (v : Option Value) (h : Heap) : Prop := ∃ z, v = some (.long z) ∧ P z h
def own_QR (P : Value → Heap → Prop) (v : Option Value) (h : Heap) : Prop := ∃ z, v = some z ∧ P z h
def own_QV (P : Heap → Prop) (v : Option Value) (h : Heap) : Prop := v = none ∧ P h
theorem own_contI {P : Int32 → Prop} {h0 : Heap} (H : ∀ T' (z : Int32), own_S p l e R s m av below meth c Z y co ml rt n0 T' ce sl h0 → P z → own_Fin p e below s n0 Q k n T' (mkF m pc Ls (.int z :: st))) :
    ∀ T' h' v, own_S p l e R s m av below meth c Z y co ml rt n0 T' ce sl h' → own_QI (fun z h => P z ∧ h = h0) v h' → own_Fin p e below s n0 Q k n T' (mkF m pc Ls (v.toList ++ st)) := by
  rintro T' h' v X ⟨z, rfl, hz, rfl⟩; exact H T' z X hz
theorem own_contJ {P : Int64 → Prop} {h0 : Heap} (H : ∀ T' (z : Int64), own_S p l e R s m av below meth c Z y co ml rt n0 T' ce sl h0 → P z → own_Fin p e below s n0 Q k n T' (mkF m pc Ls (.long z :: st))) :
    ∀ T' h' v, own_S p l e R s m av below meth c Z y co ml rt n0 T' ce sl h' → own_QJ (fun z h => P z ∧ h = h0) v h' → own_Fin p e below s n0 Q k n T' (mkF m pc Ls (v.toList ++ st)) := by
  rintro T' h' v X ⟨z, rfl, hz, rfl⟩; exact H T' z X hz
theorem own_contR {P : Value → Prop} {h0 : Heap} (H : ∀ T' (z : Value), own_S p l e R s m av below meth c Z y co ml rt n0 T' ce sl h0 → P z → own_Fin p e below s n0 Q k n T' (mkF m pc Ls (z :: st))) :
    ∀ T' h' v, own_S p l e R s m av below meth c Z y co ml rt n0 T' ce sl h' → own_QR (fun z h => P z ∧ h = h0) v h' → own_Fin p e below s n0 Q k n T' (mkF m pc Ls (v.toList ++ st)) := by
  rintro T' h' v X ⟨z, rfl, hz, rfl⟩; exact H T' z X hz
theorem own_contIH {P : Int32 → Heap → Prop} (H : ∀ T' h' (z : Int32), own_S p l e R s m av below meth c Z y co ml rt n0 T' ce sl h' → P z h' → own_Fin p e below s n0 Q k n T' (mkF m pc Ls (.int z :: st))) :
    ∀ T' h' v, own_S p l e R s m av below meth c Z y co ml rt n0 T' ce sl h' → own_QI P v h' → own_Fin p e below s n0 Q k n T' (mkF m pc Ls (v.toList ++ st)) := by
  rintro T' h' v X ⟨z, rfl, hz⟩; exact H T' h' z X hz
theorem own_contRH {P : Value → Heap → Prop} (H : ∀ T' h' (z : Value), own_S p l e R s m av below meth c Z y co ml rt n0 T' ce sl h' → P z h' → own_Fin p e below s n0 Q k n T' (mkF m pc Ls (z :: st))) :
    ∀ T' h' v, own_S p l e R s m av below meth c Z y co ml rt n0 T' ce sl h' → own_QR P v h' → own_Fin p e below s n0 Q k n T' (mkF m pc Ls (v.toList ++ st)) := by
  rintro T' h' v X ⟨z, rfl, hz⟩; exact H T' h' z X hz
theorem own_contV {P : Prop} {h0 : Heap} (H : ∀ T', own_S p l e R s m av below meth c Z y co ml rt n0 T' ce sl h0 → P → own_Fin p e below s n0 Q k n T' (mkF m pc Ls st)) :
    ∀ T' h' v, own_S p l e R s m av below meth c Z y co ml rt n0 T' ce sl h' → own_QV (fun h => P ∧ h = h0) v h' → own_Fin p e below s n0 Q k n T' (mkF m pc Ls (v.toList ++ st)) := by
  rintro T' h' v X ⟨rfl, hz, rfl⟩; exact H T' X hz
theorem own_contVH {P : Heap → Prop} (H : ∀ T' h', own_S p l e R s m av below meth c Z y co ml rt n0 T' ce sl h' → P h' → own_Fin p e below s n0 Q k n T' (mkF m pc Ls st)) :
    ∀ T' h' v, own_S p l e R s m av below meth c Z y co ml rt n0 T' ce sl h' → own_QV P v h' → own_Fin p e below s n0 Q k n T' (mkF m pc Ls (v.toList ++ st)) := by
  rintro T' h' v X ⟨rfl, hz⟩; exact H T' h' X hz
/-- fields, new, Object.<init>, the other calls -/
theorem own_getF (X : own_S p l e R s m av below meth c Z y co ml rt n0 T ce sl h) {R0 O nm d host : String} {ix : Nat} {a : Addr} {v : Value} (w : (Jvm.Cond.fieldLink y.cls ix R0 nm d).before a0 Z = true ∨ (Jvm.Cond.fieldLinkNest y.cls ix R0 nm d host).before a0 Z = true) (via : Via Z R0 O nm d) (F : Fld Z h a O nm d v) (hd : decode co pc = .ok (.getfield ix, 3))
    (H : ∀ T', own_S p l e R s m av below meth c Z y co ml rt n0 T' ce sl h → own_Fin p e below s n0 Q k n T' (mkF m (pc + 3) Ls (v :: st))) : own_Fin p e below s n0 Q k n T (mkF m pc Ls (.ref a :: st)) := by
  obtain ⟨C, locs, X, N, eh, hn⟩ := X
  obtain ⟨hx, hby, hml, hown, -, -, -, hZ⟩ := id C
  obtain ⟨T', X', e', st'⟩ := getF X hx hZ hown w via eh F (g := mkF m pc Ls (.ref a :: st)) rfl rfl (hb hby hd)
  exact own_go st' (H T' ⟨C, _, X', N, e', hn⟩)
theorem own_putF (X : own_S p l e R s m av below meth c Z y co ml rt n0 T ce sl h) {R0 O nm d host K : String} {ix kk : Nat} {ty : FieldType} {a : Addr} {v old : Value} (w : (Jvm.Cond.fieldLink y.cls ix R0 nm d).before a0 Z = true ∨ (Jvm.Cond.fieldLinkNest y.cls ix R0 nm d host).before a0 Z = true) (via : Via Z R0 O nm d) (F : Fld Z h a O nm d old) (E : Exa Z h a K)
    (Lw : (Jvm.Cond.lays K O nm d).before a0 Z = true ∨ ((Jvm.Cond.laysFinal K O nm d).before a0 Z = true ∧ y.cls = O ∧ y.name = "<init>")) (wi : (Jvm.Cond.instantiable K kk).before a0 Z = true) (hty : parseFieldDescriptor d = some ty) (hnw : narrow ty v = v) (hft : fits ty v = true) (ge : n0 ≤ a) (hd : decode co pc = .ok (.putfield ix, 3))
    (H : ∀ T' h', own_S p l e R s m av below meth c Z y co ml rt n0 T' ce sl h' → Wr h h' a (Jvm.RoadKit.slotOf Z O nm d) v → own_Fin p e below s n0 Q k n T' (mkF m (pc + 3) Ls st)) : own_Fin p e below s n0 Q k n T (mkF m pc Ls (v :: .ref a :: st)) := by
  obtain ⟨C, locs, X, N, eh, hn⟩ := X
  obtain ⟨hx, hby, hml, hown, hnm, -, -, hZ⟩ := id C
  obtain ⟨T', h', X', e', W, st'⟩ := putF X hx hZ hown w via eh F E (Lw.imp id fun q => ⟨q.1, q.2.1, hnm.trans q.2.2⟩) wi hty hnw hft (g := mkF m pc Ls (v :: .ref a :: st)) rfl rfl (hb hby hd)
  exact own_go st' (H T' h' ⟨C, _, X', Fr.snoc X' N ge, e', hn⟩ W)
theorem own_putFZ (X : own_S p l e R s m av below meth c Z y co ml rt n0 T ce sl h) {R0 O nm d K : String} {ix kk : Nat} {ty : FieldType} {a : Addr} {v v' old : Value} (w : (Jvm.Cond.fieldLink y.cls ix R0 nm d).before a0 Z = true) (via : Via Z R0 O nm d) (F : Fld Z h a O nm d old) (E : Exa Z h a K)
    (Lw : (Jvm.Cond.lays K O nm d).before a0 Z = true ∨ ((Jvm.Cond.laysFinal K O nm d).before a0 Z = true ∧ y.cls = O ∧ y.name = "<init>")) (wi : (Jvm.Cond.instantiable K kk).before a0 Z = true) (hty : parseFieldDescriptor d = some ty) (hnw : narrow ty v = v') (hft : fits ty v' = true) (ge : n0 ≤ a) (hd : decode co pc = .ok (.putfield ix, 3))
    (H : ∀ T' h', own_S p l e R s m av below meth c Z y co ml rt n0 T' ce sl h' → Wr h h' a (Jvm.RoadKit.slotOf Z O nm d) v' → own_Fin p e below s n0 Q k n T' (mkF m (pc + 3) Ls st)) : own_Fin p e below s n0 Q k n T (mkF m pc Ls (v :: .ref a :: st)) := by
  obtain ⟨C, locs, X, N, eh, hn⟩ := X
  obtain ⟨hx, hby, hml, hown, hnm, -, -, hZ⟩ := id C
  obtain ⟨T', h', X', e', W, st'⟩ := putFN X hx hZ hown w via eh F E (Lw.imp id fun q => ⟨q.1, q.2.1, hnm.trans q.2.2⟩) wi hty hnw hft (g := mkF m pc Ls (v :: .ref a :: st)) rfl rfl (hb hby hd)
  exact own_go st' (H T' h' ⟨C, _, X', Fr.snoc X' N ge, e', hn⟩ W)
theorem own_newO (X : own_S p l e R s m av below meth c Z y co ml rt n0 T ce sl h) {K : String} {ix nn : Nat} (w : (Jvm.Cond.classLink y.cls ix K).before a0 Z = true) (wi : (Jvm.Cond.instantiable K nn).before a0 Z = true) (wz : (Jvm.Cond.initialized K).before a0 Z = true) (hd : decode co pc = .ok (.new ix, 3)) (hc : ce + 1 ≤ R.cells) (hs : sl + nn ≤ R.slots)
    (H : ∀ T' h' (b : Addr), b = h.size → n0 ≤ b → own_S p l e R s m av below meth c Z y co ml rt n0 T' (ce + 1) (sl + nn) h' → Ext h h' → Exa Z h' b K → (∀ {O nm d : String} {ty : FieldType}, Laid Z a0 K O nm d → parseFieldDescriptor d = some ty → Fld Z h' b O nm d (defaultValue ty)) → own_Fin p e below s n0 Q k n T' (mkF m (pc + 3) Ls (.ref b :: st))) : own_Fin p e below s n0 Q k n T (mkF m pc Ls st) := by
  have hz := own_size X
  obtain ⟨C, locs, X, N, eh, hn⟩ := X
  obtain ⟨hx, hby, hml, hown, hnm, -, -, hZ⟩ := id C
  obtain ⟨T', h', X', e', E, A, D, -, st'⟩ := newO X hx hZ hown w wi wz eh (g := mkF m pc Ls st) rfl (hb hby hd) hc hs
  exact own_go st' (H T' h' _ rfl hz ⟨C, _, X', N, e', hn⟩ E A D)
theorem own_initO (X : own_S p l e R s m av below meth c Z y co ml rt n0 T ce sl h) {ix W : Nat} {a : Addr} (w1 : (Jvm.Cond.methodLink y.cls ix Lib.objectInit).before a0 Z = true) (w2 : (Jvm.Cond.instanceMethod Lib.objectInit).before a0 Z = true) (w3 : (Jvm.Cond.code Lib.objectInit object_method_1_code 1 none).before a0 Z = true) (hL : Ls.size = ml) (hd : decode co pc = .ok (.invokespecial ix, 3)) (hf : 1 ≤ R.frames) (hW : (st.map fun v => v.category).sum ≤ W) (hl : W + 12 ≤ R.locals)
    (H : ∀ T', own_S p l e R s m av below meth c Z y co ml rt n0 T' ce sl h → own_Fin p e below s n0 Q k n T' (mkF m (pc + 3) Ls st)) : own_Fin p e below s n0 Q k n T (mkF m pc Ls (.ref a :: st)) := by
  obtain ⟨C, locs, X, N, eh, hn⟩ := X
  obtain ⟨hx, hby, hml, hown, -, -, -, hZ⟩ := id C
  obtain ⟨T', X', e', st'⟩ := initO X hx hZ hown w1 w2 w3 eh (g := mkF m pc Ls (.ref a :: st)) rfl (by rw [hml]; exact hL) rfl (hb hby hd) hf (W := W) (by show 2 * 0 + _ ≤ _; omega) hl
  exact own_go st' (H T' ⟨C, _, X', N, e', hn⟩)
/-- a constructor by its contract -/
theorem own_callI (X : own_S p l e R s m av below meth c Z y co ml rt n0 T ce sl h) {ix : Nat} {y' : MethodName} {co' : ByteArray} {ml' W : Nat} {rm : Room} {Q' : Option Value → Heap → Prop} {a : Addr} {argsL rest stk : List Value} (hi : y'.name = "<init>")
    (w1 : (Jvm.Cond.methodLink y.cls ix y').before a0 Z = true) (w2 : (Jvm.Cond.instanceMethod y').before a0 Z = true) (w3 : (Jvm.Cond.initialized y'.cls).before a0 Z = true) (w4 : (Jvm.Cond.code y' co' ml' none).before a0 Z = true) (hy : y'.cls ≠ "java/lang/invoke/MethodHandle" ∧ y'.cls ≠ "java/lang/invoke/VarHandle")
    (M : own_Met l Z y' co' ml' none [] rm (.ref a :: argsL).toArray h n0 Q') (hf : rm.frames + 1 ≤ R.frames) (hlo : W + (ml' + 11) + rm.locals ≤ R.locals) (hce : ce + rm.cells ≤ R.cells) (hsl : sl + rm.slots ≤ R.slots)
    (hL : Ls.size = ml) (hlen : ∀ sig, parseMethodDescriptor y'.desc = some sig → argsL.length = sig.parameters.length) (hs : stk = argsL.reverse ++ .ref a :: rest) (hW : (rest.map fun v => v.category).sum ≤ W) (hd : decode co pc = .ok (.invokespecial ix, 3))
    (H : ∀ T' h' v, own_S p l e R s m av below meth c Z y co ml rt n0 T' (ce + rm.cells) (sl + rm.slots) h' → Q' v h' → own_Fin p e below s n0 Q k n T' (mkF m (pc + 3) Ls (v.toList ++ rest))) : own_Fin p e below s n0 Q k n T (mkF m pc Ls stk) := by
  obtain ⟨C, locs, X, N, eh, hn⟩ := X
  obtain ⟨hx, hby, hml, hown, -, -, -, hZ⟩ := id C
  obtain ⟨v, _, ⟨T', L', k', n'⟩, -, X', ⟨Lc, ⟨hN, hQ⟩, l1, l2, l3⟩, st'⟩ := X.specialBack hx (y := y') hi hown (mvT hZ w1) (mvT hZ w2) (mvT hZ w4) hy (backOf (Q := fun v h' L => Fr n0 L ∧ Q' v h') (W := W) M hZ w4 w3 hf hlo) (g := mkF m pc Ls stk) rfl (by rw [hml]; exact hL) (Steps.refl _) (a := a) (argsL := argsL) (rest := rest) hlen hs (by show 2 * 0 + _ ≤ _; omega) (hb hby hd) (fun _ _ => ⟨rfl, eh, hce, hsl⟩)
  dsimp only [Pt.U, Pt.locs, Pt.cells, Pt.slots] at X' l1 l2 l3 st' hQ
  subst l1 l2 l3
  exact own_goT st' (H T' T'.heap v ⟨C, _, X', N.app hN, rfl, hn⟩ hQ)
/-- an instance method by its contract -/
theorem own_callV (X : own_S p l e R s m av below meth c Z y co ml rt n0 T ce sl h) {ix : Nat} {K : String} {y' : MethodName} {co' : ByteArray} {ml' W : Nat} {rt' : Option FieldType} {rm : Room} {Q' : Option Value → Heap → Prop} {a : Addr} {argsL rest stk : List Value}
    (w1 : (Jvm.Cond.methodLink y.cls ix y').before a0 Z = true) (w2 : (Jvm.Cond.declares y').before a0 Z = true) (w3 : (Jvm.Cond.selects K y' y').before a0 Z = true) (w5 : (Jvm.Cond.instanceMethod y').before a0 Z = true) (w6 : (Jvm.Cond.initialized y'.cls).before a0 Z = true) (w4 : (Jvm.Cond.code y' co' ml' rt').before a0 Z = true) (hK : K = y'.cls) (hy : y'.cls ≠ "java/lang/invoke/MethodHandle" ∧ y'.cls ≠ "java/lang/invoke/VarHandle")
    (M : own_Met l Z y' co' ml' rt' [] rm (.ref a :: argsL).toArray h n0 Q') (E : Exa Z h a K) (hf : rm.frames + 1 ≤ R.frames) (hlo : W + (ml' + 11) + rm.locals ≤ R.locals) (hce : ce + rm.cells ≤ R.cells) (hsl : sl + rm.slots ≤ R.slots)
    (hL : Ls.size = ml) (hlen : ∀ sig, parseMethodDescriptor y'.desc = some sig → argsL.length = sig.parameters.length) (hs : stk = argsL.reverse ++ .ref a :: rest) (hW : (rest.map fun v => v.category).sum ≤ W) (hd : decode co pc = .ok (.invokevirtual ix, 3))
    (H : ∀ T' h' v, own_S p l e R s m av below meth c Z y co ml rt n0 T' (ce + rm.cells) (sl + rm.slots) h' → Q' v h' → own_Fin p e below s n0 Q k n T' (mkF m (pc + 3) Ls (v.toList ++ rest))) : own_Fin p e below s n0 Q k n T (mkF m pc Ls stk) := by
  subst hK
  obtain ⟨C, locs, X, N, eh, hn⟩ := X
  obtain ⟨hx, hby, hml, hown, -, -, -, hZ⟩ := id C
  obtain ⟨cq, kq, qa, qb, qc⟩ := isOf (T := T) hZ eh E
  obtain ⟨v, _, ⟨T', L', k', n'⟩, -, X', ⟨Lc, ⟨hN, hQ⟩, l1, l2, l3⟩, st'⟩ := X.virtualBack hx (y := y') (z := y') hown (mvT hZ w1) (mvT hZ w2) (notFace_of_selects (args := #[]) (mvT hZ w3)) (mvT hZ w3) (mvT hZ w5) hy (backOf (Q := fun v h' L => Fr n0 L ∧ Q' v h') (W := W) M hZ w4 w6 hf hlo) qa qc (g := mkF m pc Ls stk) rfl (by rw [hml]; exact hL) (Steps.refl _) (argsL := argsL) (rest := rest) hlen hs (by show 2 * 0 + _ ≤ _; omega) (hb hby hd) (fun _ _ => ⟨rfl, eh, hce, hsl⟩)
  dsimp only [Pt.U, Pt.locs, Pt.cells, Pt.slots] at X' l1 l2 l3 st' hQ
  subst l1 l2 l3
  exact own_goT st' (H T' T'.heap v ⟨C, _, X', N.app hN, rfl, hn⟩ hQ)
/-- an array of ints (bytes, chars ..) of N places: place j holds f j -/
def own_AI (Z : State) (h : Heap) (a : Addr) (ty : FieldType) (N : Int32) (f : Int32 → Int32) : Prop := ∃ c : Cell, Arr Z h a c ty ∧ c.slots.size = N.toNatClampNeg ∧ ¬ N < 0 ∧ ∀ j : Int32, ¬ j < 0 → j < N → c.slots[j.toNatClampNeg]? = some (.int (f j)) ∧ fits ty (.int (f j)) = true
def own_AJ (Z : State) (h : Heap) (a : Addr) (N : Int32) (f : Int32 → Int64) : Prop := ∃ c : Cell, Arr Z h a c .long ∧ c.slots.size = N.toNatClampNeg ∧ ¬ N < 0 ∧ ∀ j : Int32, ¬ j < 0 → j < N → c.slots[j.toNatClampNeg]? = some (.long (f j))
def own_upd {α : Type} (f : Int32 → α) (j : Int32) (x : α) : Int32 → α := fun q => if q = j then x else f q
theorem own_upd_hit {α : Type} (f : Int32 → α) (j : Int32) (x : α) : own_upd f j x j = x := if_pos rfl
theorem own_upd_miss {α : Type} {f : Int32 → α} {j i : Int32} {x : α} (q : ¬ i = j) : own_upd f j x i = f i := if_neg q
theorem own_upd_yes {α : Type} {f : Int32 → α} {j i : Int32} {x : α} (q : i = j) : own_upd f j x i = x := if_pos q
theorem own_nat {i j : Int32} (hi : ¬ i < 0) (hj : ¬ j < 0) (ne : ¬ i = j) : i.toNatClampNeg ≠ j.toNatClampNeg := fun q => ne (Int32.toInt_inj.mp (by rw [nat_of hi, nat_of hj, q]))
theorem own_inb {cl : Cell} {j N : Int32} (S : cl.slots.size = N.toNatClampNeg) (h0 : ¬ j < 0) (h1 : j < N) : ¬ (j < 0 ∨ cl.slots.size ≤ j.toNatClampNeg) := inb_of S ⟨h0, h1⟩
section Facts
variable {h' : Heap} {a b : Addr} {ty : FieldType} {N : Int32} {f : Int32 → Int32} {g : Int32 → Int64} {i : Nat} {v : Value} {ws : List Addr}
theorem own_AI.lt (F : own_AI Z h a ty N f) : a < h.size := by obtain ⟨c, A, -⟩ := F; exact A.lt
theorem own_AI.ext (F : own_AI Z h a ty N f) (E : Ext h h') : own_AI Z h' a ty N f := by obtain ⟨c, A, r⟩ := F; exact ⟨c, A.ext E, r⟩
theorem own_AI.other (F : own_AI Z h b ty N f) (W : Wr h h' a i v) (q : b ≠ a) : own_AI Z h' b ty N f := by obtain ⟨c, A, r⟩ := F; exact ⟨c, A.other W q, r⟩
theorem own_AI.keep (F : own_AI Z h a ty N f) (K : Keep h h' ws) (q : a ∉ ws) : own_AI Z h' a ty N f := by obtain ⟨c, A, r⟩ := F; exact ⟨c, ⟨K.2.1 a c A.1 q, A.2⟩, r⟩
theorem own_AI.nn (F : own_AI Z h a ty N f) : ¬ N < 0 := by obtain ⟨c, -, -, r, -⟩ := F; exact r
theorem own_AI.fit (F : own_AI Z h a ty N f) {j : Int32} (h0 : ¬ j < 0) (h1 : j < N) : fits ty (.int (f j)) = true := by obtain ⟨c, -, -, -, r⟩ := F; exact (r j h0 h1).2
theorem own_AI.set (F : own_AI Z h a ty N f) {j x : Int32} (h0 : ¬ j < 0) (h1 : j < N) (W : Wr h h' a j.toNatClampNeg (.int x)) (hf : fits ty (.int x) = true) : own_AI Z h' a ty N (own_upd f j x) := by
  obtain ⟨c, A, S, hN, r⟩ := F
  refine ⟨_, A.same W, (sz_set _ _ _).trans S, hN, fun q q0 q1 => ?_⟩
  by_cases e : q = j
  · subst e; rw [own_upd_hit]; exact ⟨get_hit (own_inb S h0 h1) rfl, hf⟩
  · rw [own_upd_miss e, get_miss h0 q0 e]; exact r q q0 q1
theorem own_AI.eqv (F : own_AI Z h a ty N f) {f' : Int32 → Int32} (q : ∀ j : Int32, ¬ j < 0 → j < N → f j = f' j) : own_AI Z h a ty N f' := by
  obtain ⟨c, A, S, hN, r⟩ := F
  exact ⟨c, A, S, hN, fun j h0 h1 => by rw [← q j h0 h1]; exact r j h0 h1⟩
theorem own_AJ.lt (F : own_AJ Z h a N g) : a < h.size := by obtain ⟨c, A, -⟩ := F; exact A.lt
theorem own_AJ.ext (F : own_AJ Z h a N g) (E : Ext h h') : own_AJ Z h' a N g := by obtain ⟨c, A, r⟩ := F; exact ⟨c, A.ext E, r⟩
theorem own_AJ.other (F : own_AJ Z h b N g) (W : Wr h h' a i v) (q : b ≠ a) : own_AJ Z h' b N g := by obtain ⟨c, A, r⟩ := F; exact ⟨c, A.other W q, r⟩
theorem own_AJ.keep (F : own_AJ Z h a N g) (K : Keep h h' ws) (q : a ∉ ws) : own_AJ Z h' a N g := by obtain ⟨c, A, r⟩ := F; exact ⟨c, ⟨K.2.1 a c A.1 q, A.2⟩, r⟩
theorem own_AJ.set (F : own_AJ Z h a N g) {j : Int32} {x : Int64} (h0 : ¬ j < 0) (h1 : j < N) (W : Wr h h' a j.toNatClampNeg (.long x)) : own_AJ Z h' a N (own_upd g j x) := by
  obtain ⟨c, A, S, hN, r⟩ := F
  refine ⟨_, A.same W, (sz_set _ _ _).trans S, hN, fun q q0 q1 => ?_⟩
  by_cases e : q = j
  · subst e; rw [own_upd_hit]; exact get_hit (own_inb S h0 h1) rfl
  · rw [own_upd_miss e, get_miss h0 q0 e]; exact r q q0 q1
theorem own_ne_ai {K : String} {kk : Nat} (E : Exa Z h a K) (wi : (Jvm.Cond.instantiable K kk).before a0 Z = true) (F : own_AI Z h b ty N f) : a ≠ b := by obtain ⟨c, A, -⟩ := F; exact ne_arr E wi A
theorem own_ne_aj {K : String} {kk : Nat} (E : Exa Z h a K) (wi : (Jvm.Cond.instantiable K kk).before a0 Z = true) (F : own_AJ Z h b N g) : a ≠ b := by obtain ⟨c, A, -⟩ := F; exact ne_arr E wi A
end Facts
theorem own_byteR {z : Int32} (hf : fits .byte (.int z) = true) : -128 ≤ z.toInt ∧ z.toInt < 128 := by
  simp only [fits, Bool.and_eq_true, decide_eq_true_eq, Int32.le_iff_toInt_le, show (-128 : Int32).toInt = -128 from by decide, show (127 : Int32).toInt = 127 from by decide] at hf
  omega
theorem own_alen (X : own_S p l e R s m av below meth c Z y co ml rt n0 T ce sl h) {a : Addr} {ty : FieldType} {N : Int32} {f : Int32 → Int32} (A : own_AI Z h a ty N f) (hd : decode co pc = .ok (.arraylength, 1)) (H : own_Fin p e below s n0 Q k n T (mkF m (pc + 1) Ls (.int N :: st))) : own_Fin p e below s n0 Q k n T (mkF m pc Ls (.ref a :: st)) := by
  obtain ⟨⟨hx, hby, -, -, -, -, -, hZ⟩, locs, X, -, eh, -⟩ := X
  obtain ⟨cl, A, S, hN, -⟩ := A
  refine own_go (fun _ q => X.arraylength hx (by rw [eh]; exact A.1) (State.isArrayOf_alike hZ.alike A.2.1) (g := mkF m pc Ls (.ref a :: st)) rfl rfl (hb hby hd) _ ?_) H
  rw [len_of S hN]; exact q
theorem own_alenJ (X : own_S p l e R s m av below meth c Z y co ml rt n0 T ce sl h) {a : Addr} {N : Int32} {f : Int32 → Int64} (A : own_AJ Z h a N f) (hd : decode co pc = .ok (.arraylength, 1)) (H : own_Fin p e below s n0 Q k n T (mkF m (pc + 1) Ls (.int N :: st))) : own_Fin p e below s n0 Q k n T (mkF m pc Ls (.ref a :: st)) := by
  obtain ⟨⟨hx, hby, -, -, -, -, -, hZ⟩, locs, X, -, eh, -⟩ := X
  obtain ⟨cl, A, S, hN, -⟩ := A
  refine own_go (fun _ q => X.arraylength hx (by rw [eh]; exact A.1) (State.isArrayOf_alike hZ.alike A.2.1) (g := mkF m pc Ls (.ref a :: st)) rfl rfl (hb hby hd) _ ?_) H
  rw [len_of S hN]; exact q
theorem own_iaload (X : own_S p l e R s m av below meth c Z y co ml rt n0 T ce sl h) {a : Addr} {N j : Int32} {f : Int32 → Int32} (A : own_AI Z h a .int N f) (h0 : ¬ j < 0) (h1 : j < N) (hd : decode co pc = .ok (.iaload, 1)) (H : ∀ v, f j = v → -2147483648 ≤ v.toInt → v.toInt < 2147483648 → own_Fin p e below s n0 Q k n T (mkF m (pc + 1) Ls (.int v :: st))) : own_Fin p e below s n0 Q k n T (mkF m pc Ls (.int j :: .ref a :: st)) := by
  obtain ⟨⟨hx, hby, -, -, -, -, -, hZ⟩, locs, X, -, eh, -⟩ := X
  obtain ⟨cl, A, S, hN, r⟩ := A
  exact own_go (fun _ q => X.iaload hx (by rw [eh]; exact A.1) (State.isArrayOf_alike hZ.alike A.2.1) A.2.2 (own_inb S h0 h1) (r j h0 h1).1 (g := mkF m pc Ls (.int j :: .ref a :: st)) rfl rfl (hb hby hd) _ q) (H _ rfl (rng32 _).1 (rng32 _).2)
theorem own_baload (X : own_S p l e R s m av below meth c Z y co ml rt n0 T ce sl h) {a : Addr} {N j : Int32} {f : Int32 → Int32} (A : own_AI Z h a .byte N f) (h0 : ¬ j < 0) (h1 : j < N) (hd : decode co pc = .ok (.baload, 1)) (H : ∀ v, f j = v → -128 ≤ v.toInt → v.toInt < 128 → own_Fin p e below s n0 Q k n T (mkF m (pc + 1) Ls (.int v :: st))) : own_Fin p e below s n0 Q k n T (mkF m pc Ls (.int j :: .ref a :: st)) := by
  obtain ⟨⟨hx, hby, -, -, -, -, -, hZ⟩, locs, X, -, eh, -⟩ := X
  obtain ⟨cl, A, S, hN, r⟩ := A
  exact own_go (fun _ q => X.baloadBytes hx (by rw [eh]; exact A.1) (State.isArrayOf_alike hZ.alike A.2.1) A.2.2 (own_inb S h0 h1) (r j h0 h1).1 (g := mkF m pc Ls (.int j :: .ref a :: st)) rfl rfl (hb hby hd) _ q) (H _ rfl (own_byteR (r j h0 h1).2).1 (own_byteR (r j h0 h1).2).2)
theorem own_laload (X : own_S p l e R s m av below meth c Z y co ml rt n0 T ce sl h) {a : Addr} {N j : Int32} {f : Int32 → Int64} (A : own_AJ Z h a N f) (h0 : ¬ j < 0) (h1 : j < N) (hd : decode co pc = .ok (.laload, 1)) (H : ∀ v, f j = v → -9223372036854775808 ≤ v.toInt → v.toInt < 9223372036854775808 → own_Fin p e below s n0 Q k n T (mkF m (pc + 1) Ls (.long v :: st))) : own_Fin p e below s n0 Q k n T (mkF m pc Ls (.int j :: .ref a :: st)) := by
  obtain ⟨⟨hx, hby, -, -, -, -, -, hZ⟩, locs, X, -, eh, -⟩ := X
  obtain ⟨cl, A, S, hN, r⟩ := A
  exact own_go (fun _ q => X.laload hx (by rw [eh]; exact A.1) (State.isArrayOf_alike hZ.alike A.2.1) A.2.2 (own_inb S h0 h1) (r j h0 h1) (g := mkF m pc Ls (.int j :: .ref a :: st)) rfl rfl (hb hby hd) _ q) (H _ rfl (rng64 _).1 (rng64 _).2)
theorem own_bastore (X : own_S p l e R s m av below meth c Z y co ml rt n0 T ce sl h) {a : Addr} {N j x x' : Int32} {f : Int32 → Int32} (A : own_AI Z h a .byte N f) (h0 : ¬ j < 0) (h1 : j < N) (ge : n0 ≤ a) (hx' : x.toInt8.toInt32 = x') (hd : decode co pc = .ok (.bastore, 1))
    (H : ∀ T' h', own_S p l e R s m av below meth c Z y co ml rt n0 T' ce sl h' → ∀ f', f' = own_upd f j x' → own_AI Z h' a .byte N f' → Wr h h' a j.toNatClampNeg (.int x') → own_Fin p e below s n0 Q k n T' (mkF m (pc + 1) Ls st)) : own_Fin p e below s n0 Q k n T (mkF m pc Ls (.int x :: .int j :: .ref a :: st)) := by
  obtain ⟨C, locs, X, N', eh, hn⟩ := X
  obtain ⟨hx, hby, hml, hown, -, -, -, hZ⟩ := id C
  obtain ⟨cl, A', S, hN, r⟩ := id A
  obtain ⟨T', h', X', e', W, st'⟩ := stB X hx hZ eh A' (j := j) (own_inb S h0 h1) (g := mkF m pc Ls (.int x :: .int j :: .ref a :: st)) rfl rfl (hb hby hd)
  have W' : Wr h h' a j.toNatClampNeg (.int x') := by rw [← hx']; exact W
  exact own_go st' (H T' h' ⟨C, _, X', Fr.snoc X' N' ge, e', hn⟩ _ rfl (A.set h0 h1 W' (by rw [← hx']; exact fits_nar_byte x)) W')
theorem own_iastore (X : own_S p l e R s m av below meth c Z y co ml rt n0 T ce sl h) {a : Addr} {N j x : Int32} {f : Int32 → Int32} (A : own_AI Z h a .int N f) (h0 : ¬ j < 0) (h1 : j < N) (ge : n0 ≤ a) (hd : decode co pc = .ok (.iastore, 1))
    (H : ∀ T' h', own_S p l e R s m av below meth c Z y co ml rt n0 T' ce sl h' → ∀ f', f' = own_upd f j x → own_AI Z h' a .int N f' → Wr h h' a j.toNatClampNeg (.int x) → own_Fin p e below s n0 Q k n T' (mkF m (pc + 1) Ls st)) : own_Fin p e below s n0 Q k n T (mkF m pc Ls (.int x :: .int j :: .ref a :: st)) := by
  obtain ⟨C, locs, X, N', eh, hn⟩ := X
  obtain ⟨hx, hby, hml, hown, -, -, -, hZ⟩ := id C
  obtain ⟨cl, A', S, hN, r⟩ := id A
  obtain ⟨T', h', X', e', W, st'⟩ := stI X hx hZ eh A' (j := j) (own_inb S h0 h1) (g := mkF m pc Ls (.int x :: .int j :: .ref a :: st)) rfl rfl (hb hby hd)
  exact own_go st' (H T' h' ⟨C, _, X', Fr.snoc X' N' ge, e', hn⟩ _ rfl (A.set h0 h1 W rfl) W)
theorem own_lastore (X : own_S p l e R s m av below meth c Z y co ml rt n0 T ce sl h) {a : Addr} {N j : Int32} {x : Int64} {f : Int32 → Int64} (A : own_AJ Z h a N f) (h0 : ¬ j < 0) (h1 : j < N) (ge : n0 ≤ a) (hd : decode co pc = .ok (.lastore, 1))
    (H : ∀ T' h', own_S p l e R s m av below meth c Z y co ml rt n0 T' ce sl h' → ∀ f', f' = own_upd f j x → own_AJ Z h' a N f' → Wr h h' a j.toNatClampNeg (.long x) → own_Fin p e below s n0 Q k n T' (mkF m (pc + 1) Ls st)) : own_Fin p e below s n0 Q k n T (mkF m pc Ls (.long x :: .int j :: .ref a :: st)) := by
  obtain ⟨C, locs, X, N', eh, hn⟩ := X
  obtain ⟨hx, hby, hml, hown, -, -, -, hZ⟩ := id C
  obtain ⟨cl, A', S, hN, r⟩ := id A
  obtain ⟨T', h', X', e', W, st'⟩ := stJ X hx hZ eh A' (j := j) (own_inb S h0 h1) (g := mkF m pc Ls (.long x :: .int j :: .ref a :: st)) rfl rfl (hb hby hd)
  exact own_go st' (H T' h' ⟨C, _, X', Fr.snoc X' N' ge, e', hn⟩ _ rfl (A.set h0 h1 W) W)
theorem own_newP (X : own_S p l e R s m av below meth c Z y co ml rt n0 T ce sl h) {aty : ArrayType} {N : Int32} {cap : Nat} (w : (Jvm.Cond.arrayClass (newarray.typeOf aty)).before a0 Z = true) (hty : defaultValue (newarray.typeOf aty) = .int 0 ∧ fits (newarray.typeOf aty) (.int 0) = true) (hN : ¬ N < 0) (hcap : N.toNatClampNeg ≤ cap) (hb' : cap * 8 ≤ 536870912) (hc : ce + 1 ≤ R.cells) (hs : sl + cap ≤ R.slots) (hd : decode co pc = .ok (.newarray aty, 2))
    (H : ∀ T' h' (b : Addr), b = h.size → n0 ≤ b → own_S p l e R s m av below meth c Z y co ml rt n0 T' (ce + 1) (sl + cap) h' → Ext h h' → ∀ f' : Int32 → Int32, f' = (fun _ => 0) → own_AI Z h' b (newarray.typeOf aty) N f' → own_Fin p e below s n0 Q k n T' (mkF m (pc + 2) Ls (.ref b :: st))) : own_Fin p e below s n0 Q k n T (mkF m pc Ls (.int N :: st)) := by
  have hz := own_size X
  obtain ⟨C, locs, X, N', eh, hn⟩ := X
  obtain ⟨hx, hby, hml, hown, hnm, -, -, hZ⟩ := id C
  obtain ⟨T', h', cA, X', e', E, A, st'⟩ := newP X hx hZ w eh (g := mkF m pc Ls (.int N :: st)) rfl (hb hby hd) rfl hN hcap hb' hc hs
  refine own_go st' (H T' h' _ rfl hz ⟨C, _, X', N', e', hn⟩ E _ rfl ⟨_, A, sz_new _ _ _, hN, fun j h0 h1 => ⟨?_, hty.2⟩⟩)
  rw [get_new (fun q => own_inb (sz_new cA (newarray.typeOf aty) N) h0 h1 (q.imp id fun r => by rw [sz_new]; exact r)), hty.1]
theorem own_newJ (X : own_S p l e R s m av below meth c Z y co ml rt n0 T ce sl h) {N : Int32} {cap : Nat} (w : (Jvm.Cond.arrayClass .long).before a0 Z = true) (hN : ¬ N < 0) (hcap : N.toNatClampNeg ≤ cap) (hb' : cap * 8 ≤ 536870912) (hc : ce + 1 ≤ R.cells) (hs : sl + cap ≤ R.slots) (hd : decode co pc = .ok (.newarray .long, 2))
    (H : ∀ T' h' (b : Addr), b = h.size → n0 ≤ b → own_S p l e R s m av below meth c Z y co ml rt n0 T' (ce + 1) (sl + cap) h' → Ext h h' → ∀ f' : Int32 → Int64, f' = (fun _ => 0) → own_AJ Z h' b N f' → own_Fin p e below s n0 Q k n T' (mkF m (pc + 2) Ls (.ref b :: st))) : own_Fin p e below s n0 Q k n T (mkF m pc Ls (.int N :: st)) := by
  have hz := own_size X
  obtain ⟨C, locs, X, N', eh, hn⟩ := X
  obtain ⟨hx, hby, hml, hown, hnm, -, -, hZ⟩ := id C
  obtain ⟨T', h', cA, X', e', E, A, st'⟩ := newP (aty := .long) X hx hZ w eh (g := mkF m pc Ls (.int N :: st)) rfl (hb hby hd) rfl hN hcap hb' hc hs
  refine own_go st' (H T' h' _ rfl hz ⟨C, _, X', N', e', hn⟩ E _ rfl ⟨_, A, sz_new _ _ _, hN, fun j h0 h1 => ?_⟩)
  exact get_new (fun q => own_inb (sz_new cA .long N) h0 h1 (q.imp id fun r => by rw [sz_new]; exact r))
end Own
theorem ef_rm1 (m : MethodId) (q1 : Int64) (q2 : Int64) : entryFrame m #[(.long q1), (.long q2)] 4 = mkF m 0 #[.val (.long q1), .second, .val (.long q2), .second] [] := by first | (simp [entryFrame, mkF, argsToLocals, Value.category]; done) | rfl
theorem d1_0 : decode jdk_29_method_66_code 0 = .ok (.lload_n 0, 1) := by decide +kernel
theorem d1_1 : decode jdk_29_method_66_code 1 = .ok (.lload_n 2, 1) := by decide +kernel
theorem d1_2 : decode jdk_29_method_66_code 2 = .ok (.lcmp, 1) := by decide +kernel
theorem d1_3 : decode jdk_29_method_66_code 3 = .ok (.ifCond .lt 7, 3) := by decide +kernel
theorem d1_10 : decode jdk_29_method_66_code 10 = .ok (.lload_n 2, 1) := by decide +kernel
theorem d1_11 : decode jdk_29_method_66_code 11 = .ok (.lreturn, 1) := by decide +kernel
theorem d1_6 : decode jdk_29_method_66_code 6 = .ok (.lload_n 0, 1) := by decide +kernel
theorem d1_7 : decode jdk_29_method_66_code 7 = .ok (.goto 4, 3) := by decide +kernel
theorem pn_1 : plainFor (⟨"java/lang/Math", "max", "(JJ)J"⟩ : MethodName) = true := by first | exact Jvm.Free.JP.mathPlain rfl (by decide +kernel) | decide +kernel
set_option maxRecDepth 65536 in
set_option maxHeartbeats 40000000 in
theorem rm1 (l : Launch) (Z : State) (a0 : Array Value) (hw : ∀ d ∈ tables_1, d.before a0 Z = true) (ws : List Jvm.Cond) (q1 : Int64) (q2 : Int64) (h0 : Heap) (n0 : Nat) (hn0 : n0 ≤ h0.size) :
    own_Met l Z (⟨"java/lang/Math", "max", "(JJ)J"⟩ : MethodName) jdk_29_method_66_code 4 (some .long) ws ({ frames := 0, cells := 0, slots := 0, locals := 0 } : Room) #[(.long q1), (.long q2)] h0 n0 (own_QJ fun z h => ((q1.toInt < q2.toInt → z.toInt = q2.toInt) ∧ (¬ q1.toInt < q2.toInt → z.toInt = q1.toInt)) ∧ h = h0) := by
  refine own_met pn_1 hn0 (fun p e s m below meth c T X => ?_)
  refine own_cast (ef_rm1 m q1 q2) ?_
  have r_q1 := rng64 q1
  have r_q2 := rng64 q2
  refine own_lloadN X d1_0 rfl ?_
  refine own_lloadN X d1_1 rfl ?_
  refine own_lcmp X d1_2 ?_
  by_cases hc1 : q1.toInt < q2.toInt
  · refine own_ifYes X (pc := 3) (pc' := 10) d1_3 ((if0 _ _).trans (tlt (own_lLt rfl rfl hc1)).1) (by decide) (by decide) ?_
    refine own_lloadN X d1_10 rfl ?_
    refine own_retJ X d1_11 (by decide) (by decide) ⟨_, rfl, ?_⟩
    exact ⟨⟨fun _ => by omega, fun _ => by omega⟩, rfl⟩
  · refine own_ifNo X d1_3 ((if0 _ _).trans (flt (own_lGe rfl rfl hc1)).1) ?_
    refine own_lloadN X d1_6 rfl ?_
    refine own_goto X (pc := 7) (pc' := 11) d1_7 (by decide) (by decide) ?_
    refine own_retJ X d1_11 (by decide) (by decide) ⟨_, rfl, ?_⟩
    exact ⟨⟨fun _ => by omega, fun _ => by omega⟩, rfl⟩
theorem ef_rm3 (m : MethodId) (o : Addr) : entryFrame m #[(.ref o)] 1 = mkF m 0 #[.val (.ref o)] [] := by first | (simp [entryFrame, mkF, argsToLocals, Value.category]; done) | rfl
theorem d3_0 : decode jdk_30_method_1_code 0 = .ok (.aload_n 0, 1) := by decide +kernel
theorem d3_1 : decode jdk_30_method_1_code 1 = .ok (.invokespecial 1, 3) := by decide +kernel
theorem d3_4 : decode jdk_30_method_1_code 4 = .ok (.return_, 1) := by decide +kernel
theorem pn_3 : plainFor (⟨"java/lang/Record", "<init>", "()V"⟩ : MethodName) = true := by first | exact plainFor_of_name (by first | (simp [plainName, overriddenIn]; done) | decide +kernel) | decide +kernel
set_option maxRecDepth 65536 in
set_option maxHeartbeats 40000000 in
theorem rm3 (l : Launch) (Z : State) (a0 : Array Value) (hw : ∀ d ∈ tables_1, d.before a0 Z = true) (ws : List Jvm.Cond) (o : Addr) (h0 : Heap) (n0 : Nat) (hn0 : n0 ≤ h0.size) :
    own_Met l Z (⟨"java/lang/Record", "<init>", "()V"⟩ : MethodName) jdk_30_method_1_code 1 none ws ({ frames := 1, cells := 0, slots := 0, locals := 12 } : Room) #[(.ref o)] h0 n0 (own_QV fun h => (True) ∧ h = h0) := by
  refine own_met pn_3 hn0 (fun p e s m below meth c T X => ?_)
  refine own_cast (ef_rm3 m o) ?_
  refine own_aloadN X d3_0 rfl rfl ?_
  refine own_initO X (W := 0) (hw _ (List.mem_of_getElem? (i := 16) rfl)) (hw _ (List.mem_of_getElem? (i := 17) rfl)) (hw _ (List.mem_of_getElem? (i := 18) rfl)) rfl d3_1 (by decide) (Nat.le_of_eq rfl) (by decide) (fun T X => ?_)
  refine own_retV X d3_4 (by decide) (by decide) ⟨rfl, ?_⟩
  exact ⟨trivial, rfl⟩
theorem ef_rm2 (m : MethodId) (o : Addr) (q1 : Int64) (q2 : Int64) : entryFrame m #[(.ref o), (.long q1), (.long q2)] 5 = mkF m 0 #[.val (.ref o), .val (.long q1), .second, .val (.long q2), .second] [] := by first | (simp [entryFrame, mkF, argsToLocals, Value.category]; done) | rfl
theorem d2_0 : decode prog_1_method_1_code 0 = .ok (.aload_n 0, 1) := by decide +kernel
theorem d2_1 : decode prog_1_method_1_code 1 = .ok (.invokespecial 1, 3) := by decide +kernel
theorem pd_1 : parseMethodDescriptor "()V" = some ⟨[], none⟩ := by decide +kernel
theorem d2_4 : decode prog_1_method_1_code 4 = .ok (.lload_n 1, 1) := by decide +kernel
theorem d2_5 : decode prog_1_method_1_code 5 = .ok (.lconst 1, 1) := by decide +kernel
theorem d2_6 : decode prog_1_method_1_code 6 = .ok (.lcmp, 1) := by decide +kernel
theorem d2_7 : decode prog_1_method_1_code 7 = .ok (.ifCond .ge 17, 3) := by decide +kernel
theorem d2_24 : decode prog_1_method_1_code 24 = .ok (.lload_n 3, 1) := by decide +kernel
theorem d2_25 : decode prog_1_method_1_code 25 = .ok (.lconst 1, 1) := by decide +kernel
theorem d2_26 : decode prog_1_method_1_code 26 = .ok (.lcmp, 1) := by decide +kernel
theorem d2_27 : decode prog_1_method_1_code 27 = .ok (.ifCond .ge 17, 3) := by decide +kernel
theorem d2_44 : decode prog_1_method_1_code 44 = .ok (.aload_n 0, 1) := by decide +kernel
theorem d2_45 : decode prog_1_method_1_code 45 = .ok (.lload_n 1, 1) := by decide +kernel
theorem d2_46 : decode prog_1_method_1_code 46 = .ok (.putfield 17, 3) := by decide +kernel
theorem d2_49 : decode prog_1_method_1_code 49 = .ok (.aload_n 0, 1) := by decide +kernel
theorem d2_50 : decode prog_1_method_1_code 50 = .ok (.lload_n 3, 1) := by decide +kernel
theorem d2_51 : decode prog_1_method_1_code 51 = .ok (.putfield 23, 3) := by decide +kernel
theorem d2_54 : decode prog_1_method_1_code 54 = .ok (.return_, 1) := by decide +kernel
theorem pn_2 : plainFor (⟨"com/example/vacancy/vacancy/capacity/ClusterShape", "<init>", "(JJ)V"⟩ : MethodName) = true := plainFor_of_name (show plainName "com/example/vacancy/vacancy/capacity/ClusterShape" = true from by first | (simp [plainName, overriddenIn]; done) | decide +kernel)
set_option maxRecDepth 65536 in
set_option maxHeartbeats 40000000 in
theorem rm2 (l : Launch) (Z : State) (a0 : Array Value) (hw : ∀ d ∈ tables_1, d.before a0 Z = true) (ws : List Jvm.Cond) (o : Addr) (q1 : Int64) (q2 : Int64) (h0 : Heap) (n0 : Nat) (hn0 : n0 ≤ h0.size) (E_o : Exa Z h0 o "com/example/vacancy/vacancy/capacity/ClusterShape") (F_nodes_o : Fld Z h0 o "com/example/vacancy/vacancy/capacity/ClusterShape" "nodes" "J" (.long 0)) (F_coresPerNode_o : Fld Z h0 o "com/example/vacancy/vacancy/capacity/ClusterShape" "coresPerNode" "J" (.long 0)) (ge_o : n0 ≤ o) (hq1 : 1 ≤ q1.toInt) (hq2 : 1 ≤ q2.toInt) :
    own_Met l Z (⟨"com/example/vacancy/vacancy/capacity/ClusterShape", "<init>", "(JJ)V"⟩ : MethodName) prog_1_method_1_code 5 none ws ({ frames := 2, cells := 0, slots := 0, locals := 24 } : Room) #[(.ref o), (.long q1), (.long q2)] h0 n0 (own_QV fun h => Keep h0 h [o] ∧ Exa Z h o "com/example/vacancy/vacancy/capacity/ClusterShape" ∧ Fld Z h o "com/example/vacancy/vacancy/capacity/ClusterShape" "nodes" "J" (.long q1) ∧ Fld Z h o "com/example/vacancy/vacancy/capacity/ClusterShape" "coresPerNode" "J" (.long q2)) := by
  refine own_met pn_2 hn0 (fun p e s m below meth c T X => ?_)
  refine own_cast (ef_rm2 m o q1 q2) ?_
  have r_q1 := rng64 q1
  have r_q2 := rng64 q2
  have K := Keep.refl h0 [o]
  refine own_aloadN X d2_0 rfl rfl ?_
  refine own_callI X (W := 0) (a := o) (argsL := []) (rest := []) rfl (hw _ (List.mem_of_getElem? (i := 11) rfl)) (hw _ (List.mem_of_getElem? (i := 12) rfl)) (hw _ (List.mem_of_getElem? (i := 14) rfl)) (hw _ (List.mem_of_getElem? (i := 15) rfl)) (by decide) (rm3 l Z a0 hw [] o h0 n0 (own_size X)) (by decide) (by decide) (by decide) (by decide) rfl (lenOf pd_1 rfl) rfl (Nat.le_of_eq rfl) d2_1 (own_contV fun T X hq1 => ?_)
  refine own_lloadN X d2_4 rfl ?_
  refine own_lconst1 X d2_5 ?_
  refine own_lcmp X d2_6 ?_
  have hc2 : ¬ (q1.toInt < 1) := by omega
  refine own_ifYes X (pc := 7) (pc' := 24) d2_7 ((if0 _ _).trans (flt (own_lGe rfl rfl hc2)).2.1) (by decide) (by decide) ?_
  refine own_lloadN X d2_24 rfl ?_
  refine own_lconst1 X d2_25 ?_
  refine own_lcmp X d2_26 ?_
  have hc3 : ¬ (q2.toInt < 1) := by omega
  refine own_ifYes X (pc := 27) (pc' := 44) d2_27 ((if0 _ _).trans (flt (own_lGe rfl rfl hc3)).2.1) (by decide) (by decide) ?_
  refine own_aloadN X d2_44 rfl rfl ?_
  refine own_lloadN X d2_45 rfl ?_
  refine own_putF X (host := "") (Or.inl (hw _ (List.mem_of_getElem? (i := 19) rfl))) Via.refl F_nodes_o E_o (Or.inr ⟨(hw _ (List.mem_of_getElem? (i := 20) rfl)), rfl, rfl⟩) (hw _ (List.mem_of_getElem? (i := 6) rfl)) (ty := .long) (by decide) rfl rfl ge_o d2_46 (fun T h X W => ?_)
  have F_nodes_o := F_nodes_o.same W
  have K := K.wr W (Or.inl (List.mem_of_getElem? (i := 0) rfl))
  have E_o := E_o.wr W
  have F_coresPerNode_o := F_coresPerNode_o.other W (Or.inr (slot_ne (C := "com/example/vacancy/vacancy/capacity/ClusterShape") (Or.inr (hw _ (List.mem_of_getElem? (i := 22) rfl))) (Or.inr (hw _ (List.mem_of_getElem? (i := 20) rfl))) (by decide) (t := .long) (t' := .long) (by decide) (by decide)))
  refine own_aloadN X d2_49 rfl rfl ?_
  refine own_lloadN X d2_50 rfl ?_
  refine own_putF X (host := "") (Or.inl (hw _ (List.mem_of_getElem? (i := 21) rfl))) Via.refl F_coresPerNode_o E_o (Or.inr ⟨(hw _ (List.mem_of_getElem? (i := 22) rfl)), rfl, rfl⟩) (hw _ (List.mem_of_getElem? (i := 6) rfl)) (ty := .long) (by decide) rfl rfl ge_o d2_51 (fun T h X W => ?_)
  have F_coresPerNode_o := F_coresPerNode_o.same W
  have K := K.wr W (Or.inl (List.mem_of_getElem? (i := 0) rfl))
  have E_o := E_o.wr W
  have F_nodes_o := F_nodes_o.other W (Or.inr (slot_ne (C := "com/example/vacancy/vacancy/capacity/ClusterShape") (Or.inr (hw _ (List.mem_of_getElem? (i := 20) rfl))) (Or.inr (hw _ (List.mem_of_getElem? (i := 22) rfl))) (by decide) (t := .long) (t' := .long) (by decide) (by decide)))
  refine own_retV X d2_54 (by decide) (by decide) ⟨rfl, ?_⟩
  exact ⟨K, E_o, F_nodes_o, F_coresPerNode_o⟩
theorem ef_rm5 (m : MethodId) (o : Addr) : entryFrame m #[(.ref o)] 1 = mkF m 0 #[.val (.ref o)] [] := by first | (simp [entryFrame, mkF, argsToLocals, Value.category]; done) | rfl
theorem d5_0 : decode prog_1_method_2_code 0 = .ok (.aload_n 0, 1) := by decide +kernel
theorem d5_1 : decode prog_1_method_2_code 1 = .ok (.getfield 17, 3) := by decide +kernel
theorem d5_4 : decode prog_1_method_2_code 4 = .ok (.ldc2_w 26, 3) := by decide +kernel
theorem d5_7 : decode prog_1_method_2_code 7 = .ok (.lcmp, 1) := by decide +kernel
theorem d5_8 : decode prog_1_method_2_code 8 = .ok (.ifCond .lt 12, 3) := by decide +kernel
theorem d5_20 : decode prog_1_method_2_code 20 = .ok (.aload_n 0, 1) := by decide +kernel
theorem d5_21 : decode prog_1_method_2_code 21 = .ok (.getfield 17, 3) := by decide +kernel
theorem d5_24 : decode prog_1_method_2_code 24 = .ok (.lreturn, 1) := by decide +kernel
theorem d5_11 : decode prog_1_method_2_code 11 = .ok (.aload_n 0, 1) := by decide +kernel
theorem d5_12 : decode prog_1_method_2_code 12 = .ok (.getfield 17, 3) := by decide +kernel
theorem d5_15 : decode prog_1_method_2_code 15 = .ok (.lconst 1, 1) := by decide +kernel
theorem d5_16 : decode prog_1_method_2_code 16 = .ok (.lsub, 1) := by decide +kernel
theorem d5_17 : decode prog_1_method_2_code 17 = .ok (.goto 7, 3) := by decide +kernel
theorem pn_5 : plainFor (⟨"com/example/vacancy/vacancy/capacity/ClusterShape", "participatingNodes", "()J"⟩ : MethodName) = true := plainFor_of_name (show plainName "com/example/vacancy/vacancy/capacity/ClusterShape" = true from by first | (simp [plainName, overriddenIn]; done) | decide +kernel)
set_option maxRecDepth 65536 in
set_option maxHeartbeats 40000000 in
theorem rm5 (l : Launch) (Z : State) (a0 : Array Value) (hw : ∀ d ∈ tables_1, d.before a0 Z = true) (ws : List Jvm.Cond) (o : Addr) (u : Int64) (h0 : Heap) (n0 : Nat) (hn0 : n0 ≤ h0.size) (F_nodes_o : Fld Z h0 o "com/example/vacancy/vacancy/capacity/ClusterShape" "nodes" "J" (.long u)) (hu : 1 ≤ u.toInt) :
    own_Met l Z (⟨"com/example/vacancy/vacancy/capacity/ClusterShape", "participatingNodes", "()J"⟩ : MethodName) prog_1_method_2_code 1 (some .long) ws ({ frames := 0, cells := 0, slots := 0, locals := 0 } : Room) #[(.ref o)] h0 n0 (own_QJ fun z h => ((u.toInt < 3 → z.toInt = u.toInt) ∧ (¬ u.toInt < 3 → z.toInt = u.toInt - 1)) ∧ h = h0) := by
  refine own_met pn_5 hn0 (fun p e s m below meth c T X => ?_)
  refine own_cast (ef_rm5 m o) ?_
  have r_u := rng64 u
  refine own_aloadN X d5_0 rfl rfl ?_
  refine own_getF X (host := "") (Or.inl (hw _ (List.mem_of_getElem? (i := 19) rfl))) Via.refl F_nodes_o d5_1 (fun T X => ?_)
  refine own_ldc2 X (hw _ (List.mem_of_getElem? (i := 28) rfl)) d5_4 ?_
  refine own_lcmp X d5_7 ?_
  by_cases hc1 : u.toInt < 3
  · refine own_ifYes X (pc := 8) (pc' := 20) d5_8 ((if0 _ _).trans (tlt (own_lLt rfl rfl hc1)).1) (by decide) (by decide) ?_
    refine own_aloadN X d5_20 rfl rfl ?_
    refine own_getF X (host := "") (Or.inl (hw _ (List.mem_of_getElem? (i := 19) rfl))) Via.refl F_nodes_o d5_21 (fun T X => ?_)
    refine own_retJ X d5_24 (by decide) (by decide) ⟨_, rfl, ?_⟩
    exact ⟨⟨fun _ => by omega, fun _ => by omega⟩, rfl⟩
  · refine own_ifNo X d5_8 ((if0 _ _).trans (flt (own_lGe rfl rfl hc1)).1) ?_
    refine own_aloadN X d5_11 rfl rfl ?_
    refine own_getF X (host := "") (Or.inl (hw _ (List.mem_of_getElem? (i := 19) rfl))) Via.refl F_nodes_o d5_12 (fun T X => ?_)
    refine own_lconst1 X d5_15 ?_
    refine own_lsubV X (u.toInt) (1) d5_16 rfl rfl (fun v2 hv2 cv2 lv2 uv2 => ?_)
    refine own_goto X (pc := 17) (pc' := 24) d5_17 (by decide) (by decide) ?_
    refine own_retJ X d5_24 (by decide) (by decide) ⟨_, rfl, ?_⟩
    exact ⟨⟨fun _ => by omega, fun _ => by omega⟩, rfl⟩
theorem ef_rm6 (m : MethodId) (o : Addr) : entryFrame m #[(.ref o)] 1 = mkF m 0 #[.val (.ref o)] [] := by first | (simp [entryFrame, mkF, argsToLocals, Value.category]; done) | rfl
theorem d6_0 : decode prog_1_method_8_code 0 = .ok (.aload_n 0, 1) := by decide +kernel
theorem d6_1 : decode prog_1_method_8_code 1 = .ok (.getfield 17, 3) := by decide +kernel
theorem d6_4 : decode prog_1_method_8_code 4 = .ok (.lreturn, 1) := by decide +kernel
theorem pn_6 : plainFor (⟨"com/example/vacancy/vacancy/capacity/ClusterShape", "nodes", "()J"⟩ : MethodName) = true := plainFor_of_name (show plainName "com/example/vacancy/vacancy/capacity/ClusterShape" = true from by first | (simp [plainName, overriddenIn]; done) | decide +kernel)
set_option maxRecDepth 65536 in
set_option maxHeartbeats 40000000 in
theorem rm6 (l : Launch) (Z : State) (a0 : Array Value) (hw : ∀ d ∈ tables_1, d.before a0 Z = true) (ws : List Jvm.Cond) (o : Addr) (u : Int64) (h0 : Heap) (n0 : Nat) (hn0 : n0 ≤ h0.size) (F_nodes_o : Fld Z h0 o "com/example/vacancy/vacancy/capacity/ClusterShape" "nodes" "J" (.long u)) (hu : 1 ≤ u.toInt) :
    own_Met l Z (⟨"com/example/vacancy/vacancy/capacity/ClusterShape", "nodes", "()J"⟩ : MethodName) prog_1_method_8_code 1 (some .long) ws ({ frames := 0, cells := 0, slots := 0, locals := 0 } : Room) #[(.ref o)] h0 n0 (own_QJ fun z h => (z.toInt = u.toInt) ∧ h = h0) := by
  refine own_met pn_6 hn0 (fun p e s m below meth c T X => ?_)
  refine own_cast (ef_rm6 m o) ?_
  have r_u := rng64 u
  refine own_aloadN X d6_0 rfl rfl ?_
  refine own_getF X (host := "") (Or.inl (hw _ (List.mem_of_getElem? (i := 19) rfl))) Via.refl F_nodes_o d6_1 (fun T X => ?_)
  refine own_retJ X d6_4 (by decide) (by decide) ⟨_, rfl, ?_⟩
  exact ⟨rfl, rfl⟩
theorem ef_rm7 (m : MethodId) (o : Addr) : entryFrame m #[(.ref o)] 1 = mkF m 0 #[.val (.ref o)] [] := by first | (simp [entryFrame, mkF, argsToLocals, Value.category]; done) | rfl
theorem d7_0 : decode prog_1_method_9_code 0 = .ok (.aload_n 0, 1) := by decide +kernel
theorem d7_1 : decode prog_1_method_9_code 1 = .ok (.getfield 23, 3) := by decide +kernel
theorem d7_4 : decode prog_1_method_9_code 4 = .ok (.lreturn, 1) := by decide +kernel
theorem pn_7 : plainFor (⟨"com/example/vacancy/vacancy/capacity/ClusterShape", "coresPerNode", "()J"⟩ : MethodName) = true := plainFor_of_name (show plainName "com/example/vacancy/vacancy/capacity/ClusterShape" = true from by first | (simp [plainName, overriddenIn]; done) | decide +kernel)
set_option maxRecDepth 65536 in
set_option maxHeartbeats 40000000 in
theorem rm7 (l : Launch) (Z : State) (a0 : Array Value) (hw : ∀ d ∈ tables_1, d.before a0 Z = true) (ws : List Jvm.Cond) (o : Addr) (u : Int64) (h0 : Heap) (n0 : Nat) (hn0 : n0 ≤ h0.size) (F_coresPerNode_o : Fld Z h0 o "com/example/vacancy/vacancy/capacity/ClusterShape" "coresPerNode" "J" (.long u)) (hu : 1 ≤ u.toInt) :
    own_Met l Z (⟨"com/example/vacancy/vacancy/capacity/ClusterShape", "coresPerNode", "()J"⟩ : MethodName) prog_1_method_9_code 1 (some .long) ws ({ frames := 0, cells := 0, slots := 0, locals := 0 } : Room) #[(.ref o)] h0 n0 (own_QJ fun z h => (z.toInt = u.toInt) ∧ h = h0) := by
  refine own_met pn_7 hn0 (fun p e s m below meth c T X => ?_)
  refine own_cast (ef_rm7 m o) ?_
  have r_u := rng64 u
  refine own_aloadN X d7_0 rfl rfl ?_
  refine own_getF X (host := "") (Or.inl (hw _ (List.mem_of_getElem? (i := 21) rfl))) Via.refl F_coresPerNode_o d7_1 (fun T X => ?_)
  refine own_retJ X d7_4 (by decide) (by decide) ⟨_, rfl, ?_⟩
  exact ⟨rfl, rfl⟩
theorem ef_rm0 (m : MethodId) (x0 : Int64) (x1 : Int64) (x2 : Int32) : entryFrame m #[(.long x0), (.long x1), (.int x2)] maxLocals = mkF m 0 #[.val (.long x0), .second, .val (.long x1), .second, .val (.int x2), .unset, .unset, .unset, .unset, .unset, .unset, .unset, .unset, .unset, .unset] [] := by first | (simp [entryFrame, mkF, argsToLocals, Value.category, maxLocals]; done) | rfl
theorem pd_2 : parseMethodDescriptor "(JJ)J" = some ⟨[.long, .long], some .long⟩ := by decide +kernel
theorem pd_3 : parseMethodDescriptor "(JJ)V" = some ⟨[.long, .long], none⟩ := by decide +kernel
theorem pd_0 : parseMethodDescriptor "()J" = some ⟨[], some .long⟩ := by decide +kernel
theorem pn_0 : plainFor x = true := plainFor_of_name (show plainName "com/example/vacancy/vacancy/capacity/ClusterShapeParticipatingNodesPinLaw" = true from by first | (simp [plainName, overriddenIn]; done) | decide +kernel)
set_option maxRecDepth 65536 in
set_option maxHeartbeats 40000000 in
theorem rm0 (l : Launch) (Z : State) (a0 : Array Value) (hw : ∀ d ∈ tables_1, d.before a0 Z = true) (ws : List Jvm.Cond) (x0 : Int64) (x1 : Int64) (x2 : Int32) (h0 : Heap) (n0 : Nat) (hn0 : n0 ≤ h0.size) :
    own_Met l Z x code maxLocals ret ws room_1 #[(.long x0), (.long x1), (.int x2)] h0 n0 (own_QI fun z h => z = 1) := by
  refine own_met pn_0 hn0 (fun p e s m below meth c T X => ?_)
  refine own_cast (ef_rm0 m x0 x1 x2) ?_
  change own_S p l e room_1 s m _ below meth c Z x code maxLocals (some .boolean) n0 T 0 0 h0 at X
  have r_x0 := rng64 x0
  have r_x1 := rng64 x1
  have r_x2 := rng32 x2
  refine own_iload X at_0 rfl ?_
  refine own_iconst X (1) at_2 rfl ?_
  refine own_iandM X (x2.toInt) 1 2 at_3 rfl (by decide) (by decide) (by decide) (fun v1 hv1 cv1 lv1 uv1 => ?_)
  by_cases hc2 : v1.toInt = 0
  · refine own_ifYes X (pc := 4) (pc' := 19) at_4 ((if0 _ _).trans (teq (own_cEq (a := v1.toInt) (b := 0) rfl rfl hc2)).1) (by decide) (by decide) ?_
    refine own_lconst1 X at_19 ?_
    refine own_lloadN X at_20 rfl ?_
    refine own_ldc2 X (hw _ (List.mem_of_getElem? (i := 0) rfl)) at_21 ?_
    refine own_landM X (x0.toInt) 63 9223372036854775808 at_24 rfl (by decide) (by decide) (by decide) (fun v3 hv3 cv3 lv3 uv3 => ?_)
    refine own_callS X (W := 0) (argsL := [(.long (1 : Int64)), (.long v3)]) (rest := []) (hw _ (List.mem_of_getElem? (i := 1) rfl)) (hw _ (List.mem_of_getElem? (i := 2) rfl)) (hw _ (List.mem_of_getElem? (i := 3) rfl)) (hw _ (List.mem_of_getElem? (i := 4) rfl)) (by decide) (rm1 l Z a0 hw [] (1 : Int64) v3 h0 n0 (own_size X)) (by decide) (by decide) (by decide) (by decide) rfl (lenOf pd_2 rfl) rfl (Nat.le_of_eq rfl) at_25 (own_contJ fun T v4 X hq4 => ?_)
    have l4 : (1 : Int64).toInt = 1 := rfl
    refine own_lstore X at_28 (L' := #[.val (.long x0), .second, .val (.long x1), .second, .val (.int x2), .val (.long v4), .second, .unset, .unset, .unset, .unset, .unset, .unset, .unset, .unset]) rfl ?_
    refine own_iload X at_30 rfl ?_
    refine own_iconst X (2) at_32 rfl ?_
    refine own_iandB X (2) at_33 rfl (by decide) (fun v5 hv5 cv5 lv5 uv5 => ?_)
    by_cases hc6 : v5.toInt = 0
    · refine own_ifYes X (pc := 34) (pc' := 49) at_34 ((if0 _ _).trans (teq (own_cEq (a := v5.toInt) (b := 0) rfl rfl hc6)).1) (by decide) (by decide) ?_
      refine own_lconst1 X at_49 ?_
      refine own_lloadN X at_50 rfl ?_
      refine own_ldc2 X (hw _ (List.mem_of_getElem? (i := 0) rfl)) at_51 ?_
      refine own_landM X (x1.toInt) 63 9223372036854775808 at_54 rfl (by decide) (by decide) (by decide) (fun v7 hv7 cv7 lv7 uv7 => ?_)
      refine own_callS X (W := 0) (argsL := [(.long (1 : Int64)), (.long v7)]) (rest := []) (hw _ (List.mem_of_getElem? (i := 1) rfl)) (hw _ (List.mem_of_getElem? (i := 2) rfl)) (hw _ (List.mem_of_getElem? (i := 3) rfl)) (hw _ (List.mem_of_getElem? (i := 4) rfl)) (by decide) (rm1 l Z a0 hw [] (1 : Int64) v7 h0 n0 (own_size X)) (by decide) (by decide) (by decide) (by decide) rfl (lenOf pd_2 rfl) rfl (Nat.le_of_eq rfl) at_55 (own_contJ fun T v8 X hq8 => ?_)
      have l8 : (1 : Int64).toInt = 1 := rfl
      refine own_lstore X at_58 (L' := #[.val (.long x0), .second, .val (.long x1), .second, .val (.int x2), .val (.long v4), .second, .val (.long v8), .second, .unset, .unset, .unset, .unset, .unset, .unset]) rfl ?_
      refine own_newO X (hw _ (List.mem_of_getElem? (i := 5) rfl)) (hw _ (List.mem_of_getElem? (i := 6) rfl)) (hw _ (List.mem_of_getElem? (i := 7) rfl)) at_60 (by decide) (by decide) (fun T h b9 hb_b9 ge_b9 X E E_b9 D => ?_)
      have F_nodes_b9 : Fld Z h b9 "com/example/vacancy/vacancy/capacity/ClusterShape" "nodes" "J" (.long (0 : Int64)) := D (Or.inr (hw _ (List.mem_of_getElem? (i := 20) rfl))) (ty := .long) (by decide)
      have F_coresPerNode_b9 : Fld Z h b9 "com/example/vacancy/vacancy/capacity/ClusterShape" "coresPerNode" "J" (.long (0 : Int64)) := D (Or.inr (hw _ (List.mem_of_getElem? (i := 22) rfl))) (ty := .long) (by decide)
      refine own_dup X at_63 rfl ?_
      refine own_lload X at_64 rfl ?_
      refine own_lload X at_66 rfl ?_
      refine own_callI X (W := 1) (a := b9) (argsL := [(.long v4), (.long v8)]) (rest := [(.ref b9)]) rfl (hw _ (List.mem_of_getElem? (i := 8) rfl)) (hw _ (List.mem_of_getElem? (i := 9) rfl)) (hw _ (List.mem_of_getElem? (i := 7) rfl)) (hw _ (List.mem_of_getElem? (i := 10) rfl)) (by decide) (rm2 l Z a0 hw [] b9 v4 v8 h n0 (own_size X) E_b9 F_nodes_b9 F_coresPerNode_b9 ge_b9 (by omega) (by omega)) (by decide) (by decide) (by decide) (by decide) rfl (lenOf pd_3 rfl) rfl (Nat.le_of_eq rfl) at_68 (own_contVH fun T h X hq10 => ?_)
      obtain ⟨Kc, E_b9, F_nodes_b9, F_coresPerNode_b9⟩ := hq10
      refine own_astore X at_71 rfl (L' := #[.val (.long x0), .second, .val (.long x1), .second, .val (.int x2), .val (.long v4), .second, .val (.long v8), .second, .val (.ref b9), .unset, .unset, .unset, .unset, .unset]) rfl ?_
      refine own_aload X at_73 rfl rfl ?_
      refine own_callV X (W := 0) (a := b9) (argsL := []) (rest := []) (hw _ (List.mem_of_getElem? (i := 23) rfl)) (hw _ (List.mem_of_getElem? (i := 24) rfl)) (hw _ (List.mem_of_getElem? (i := 26) rfl)) (hw _ (List.mem_of_getElem? (i := 25) rfl)) (hw _ (List.mem_of_getElem? (i := 7) rfl)) (hw _ (List.mem_of_getElem? (i := 27) rfl)) rfl (by decide) (rm5 l Z a0 hw [] b9 v4 h n0 (own_size X) F_nodes_b9 (by omega)) E_b9 (by decide) (by decide) (by decide) (by decide) rfl (lenOf pd_0 rfl) rfl (Nat.le_of_eq rfl) at_75 (own_contJ fun T v11 X hq11 => ?_)
      refine own_lstore X at_78 (L' := #[.val (.long x0), .second, .val (.long x1), .second, .val (.int x2), .val (.long v4), .second, .val (.long v8), .second, .val (.ref b9), .val (.long v11), .second, .unset, .unset, .unset]) rfl ?_
      refine own_lload X at_80 rfl ?_
      refine own_lconst1 X at_82 ?_
      refine own_lcmp X at_83 ?_
      by_cases hc12 : v4.toInt = 1
      · refine own_ifNo X at_84 ((if0 _ _).trans (teq (own_lEq rfl rfl hc12)).2) ?_
        refine own_lconst1 X at_87 ?_
        refine own_lstore X at_88 (L' := #[.val (.long x0), .second, .val (.long x1), .second, .val (.int x2), .val (.long v4), .second, .val (.long v8), .second, .val (.ref b9), .val (.long v11), .second, .val (.long (1 : Int64)), .second, .unset]) rfl ?_
        refine own_goto X (pc := 90) (pc' := 116) at_90 (by decide) (by decide) ?_
        refine own_lload X at_116 rfl ?_
        refine own_lconst1 X at_118 ?_
        refine own_lcmp X at_119 ?_
        have hc13 : ¬ (v11.toInt < 1) := by omega
        refine own_ifNo X at_120 ((if0 _ _).trans (flt (own_lGe rfl rfl hc13)).1) ?_
        refine own_lload X at_123 rfl ?_
        refine own_lload X at_125 rfl ?_
        refine own_lcmp X at_127 ?_
        have hc14 : ¬ (v4.toInt < v11.toInt) := by omega
        refine own_ifNo X at_128 ((if0 _ _).trans (flt (own_lLe rfl rfl hc14)).2.2.1) ?_
        refine own_iconst X (1) at_131 rfl ?_
        refine own_goto X (pc := 132) (pc' := 136) at_132 (by decide) (by decide) ?_
        refine own_istore X at_136 (L' := #[.val (.long x0), .second, .val (.long x1), .second, .val (.int x2), .val (.long v4), .second, .val (.long v8), .second, .val (.ref b9), .val (.long v11), .second, .val (.long (1 : Int64)), .second, .val (.int (1 : Int32))]) rfl ?_
        refine own_iload X at_138 rfl ?_
        refine own_ifNo X at_140 ((if0 _ _).trans (feq (own_cNe (a := 1) (b := 0) rfl rfl (by decide))).1) ?_
        refine own_lload X at_143 rfl ?_
        refine own_lload X at_145 rfl ?_
        refine own_lcmp X at_147 ?_
        have hc15 : v11.toInt = 1 := by omega
        refine own_ifNo X at_148 ((if0 _ _).trans (teq (own_lEq rfl rfl hc15)).2) ?_
        refine own_aload X at_151 rfl rfl ?_
        refine own_callV X (W := 0) (a := b9) (argsL := []) (rest := []) (hw _ (List.mem_of_getElem? (i := 30) rfl)) (hw _ (List.mem_of_getElem? (i := 31) rfl)) (hw _ (List.mem_of_getElem? (i := 33) rfl)) (hw _ (List.mem_of_getElem? (i := 32) rfl)) (hw _ (List.mem_of_getElem? (i := 7) rfl)) (hw _ (List.mem_of_getElem? (i := 34) rfl)) rfl (by decide) (rm6 l Z a0 hw [] b9 v4 h n0 (own_size X) F_nodes_b9 (by omega)) E_b9 (by decide) (by decide) (by decide) (by decide) rfl (lenOf pd_0 rfl) rfl (Nat.le_of_eq rfl) at_153 (own_contJ fun T v16 X hq16 => ?_)
        refine own_lload X at_156 rfl ?_
        refine own_lcmp X at_158 ?_
        have hc17 : v16.toInt = v4.toInt := by omega
        refine own_ifNo X at_159 ((if0 _ _).trans (teq (own_lEq rfl rfl hc17)).2) ?_
        refine own_aload X at_162 rfl rfl ?_
        refine own_callV X (W := 0) (a := b9) (argsL := []) (rest := []) (hw _ (List.mem_of_getElem? (i := 35) rfl)) (hw _ (List.mem_of_getElem? (i := 36) rfl)) (hw _ (List.mem_of_getElem? (i := 38) rfl)) (hw _ (List.mem_of_getElem? (i := 37) rfl)) (hw _ (List.mem_of_getElem? (i := 7) rfl)) (hw _ (List.mem_of_getElem? (i := 39) rfl)) rfl (by decide) (rm7 l Z a0 hw [] b9 v8 h n0 (own_size X) F_coresPerNode_b9 (by omega)) E_b9 (by decide) (by decide) (by decide) (by decide) rfl (lenOf pd_0 rfl) rfl (Nat.le_of_eq rfl) at_164 (own_contJ fun T v18 X hq18 => ?_)
        refine own_lload X at_167 rfl ?_
        refine own_lcmp X at_169 ?_
        have hc19 : v18.toInt = v8.toInt := by omega
        refine own_ifNo X at_170 ((if0 _ _).trans (teq (own_lEq rfl rfl hc19)).2) ?_
        refine own_iconst X (1) at_173 rfl ?_
        refine own_goto X (pc := 174) (pc' := 178) at_174 (by decide) (by decide) ?_
        refine own_retN (t := .boolean) X (z' := (1 : Int32)) (Or.inl rfl) rfl rfl at_178 (by decide) (by decide) ⟨_, rfl, ?_⟩
        rfl
      · refine own_ifYes X (pc := 84) (pc' := 93) at_84 ((if0 _ _).trans (feq (own_lNe rfl rfl hc12)).2) (by decide) (by decide) ?_
        refine own_lload X at_93 rfl ?_
        refine own_ldc2 X (hw _ (List.mem_of_getElem? (i := 29) rfl)) at_95 ?_
        refine own_lcmp X at_98 ?_
        by_cases hc20 : v4.toInt = 2
        · refine own_ifNo X at_99 ((if0 _ _).trans (teq (own_lEq rfl rfl hc20)).2) ?_
          refine own_ldc2 X (hw _ (List.mem_of_getElem? (i := 29) rfl)) at_102 ?_
          refine own_lstore X at_105 (L' := #[.val (.long x0), .second, .val (.long x1), .second, .val (.int x2), .val (.long v4), .second, .val (.long v8), .second, .val (.ref b9), .val (.long v11), .second, .val (.long (2 : Int64)), .second, .unset]) rfl ?_
          refine own_goto X (pc := 107) (pc' := 116) at_107 (by decide) (by decide) ?_
          refine own_lload X at_116 rfl ?_
          refine own_lconst1 X at_118 ?_
          refine own_lcmp X at_119 ?_
          have hc21 : ¬ (v11.toInt < 1) := by omega
          refine own_ifNo X at_120 ((if0 _ _).trans (flt (own_lGe rfl rfl hc21)).1) ?_
          refine own_lload X at_123 rfl ?_
          refine own_lload X at_125 rfl ?_
          refine own_lcmp X at_127 ?_
          have hc22 : ¬ (v4.toInt < v11.toInt) := by omega
          refine own_ifNo X at_128 ((if0 _ _).trans (flt (own_lLe rfl rfl hc22)).2.2.1) ?_
          refine own_iconst X (1) at_131 rfl ?_
          refine own_goto X (pc := 132) (pc' := 136) at_132 (by decide) (by decide) ?_
          refine own_istore X at_136 (L' := #[.val (.long x0), .second, .val (.long x1), .second, .val (.int x2), .val (.long v4), .second, .val (.long v8), .second, .val (.ref b9), .val (.long v11), .second, .val (.long (2 : Int64)), .second, .val (.int (1 : Int32))]) rfl ?_
          refine own_iload X at_138 rfl ?_
          refine own_ifNo X at_140 ((if0 _ _).trans (feq (own_cNe (a := 1) (b := 0) rfl rfl (by decide))).1) ?_
          refine own_lload X at_143 rfl ?_
          refine own_lload X at_145 rfl ?_
          refine own_lcmp X at_147 ?_
          have hc23 : v11.toInt = 2 := by omega
          refine own_ifNo X at_148 ((if0 _ _).trans (teq (own_lEq rfl rfl hc23)).2) ?_
          refine own_aload X at_151 rfl rfl ?_
          refine own_callV X (W := 0) (a := b9) (argsL := []) (rest := []) (hw _ (List.mem_of_getElem? (i := 30) rfl)) (hw _ (List.mem_of_getElem? (i := 31) rfl)) (hw _ (List.mem_of_getElem? (i := 33) rfl)) (hw _ (List.mem_of_getElem? (i := 32) rfl)) (hw _ (List.mem_of_getElem? (i := 7) rfl)) (hw _ (List.mem_of_getElem? (i := 34) rfl)) rfl (by decide) (rm6 l Z a0 hw [] b9 v4 h n0 (own_size X) F_nodes_b9 (by omega)) E_b9 (by decide) (by decide) (by decide) (by decide) rfl (lenOf pd_0 rfl) rfl (Nat.le_of_eq rfl) at_153 (own_contJ fun T v24 X hq24 => ?_)
          refine own_lload X at_156 rfl ?_
          refine own_lcmp X at_158 ?_
          have hc25 : v24.toInt = v4.toInt := by omega
          refine own_ifNo X at_159 ((if0 _ _).trans (teq (own_lEq rfl rfl hc25)).2) ?_
          refine own_aload X at_162 rfl rfl ?_
          refine own_callV X (W := 0) (a := b9) (argsL := []) (rest := []) (hw _ (List.mem_of_getElem? (i := 35) rfl)) (hw _ (List.mem_of_getElem? (i := 36) rfl)) (hw _ (List.mem_of_getElem? (i := 38) rfl)) (hw _ (List.mem_of_getElem? (i := 37) rfl)) (hw _ (List.mem_of_getElem? (i := 7) rfl)) (hw _ (List.mem_of_getElem? (i := 39) rfl)) rfl (by decide) (rm7 l Z a0 hw [] b9 v8 h n0 (own_size X) F_coresPerNode_b9 (by omega)) E_b9 (by decide) (by decide) (by decide) (by decide) rfl (lenOf pd_0 rfl) rfl (Nat.le_of_eq rfl) at_164 (own_contJ fun T v26 X hq26 => ?_)
          refine own_lload X at_167 rfl ?_
          refine own_lcmp X at_169 ?_
          have hc27 : v26.toInt = v8.toInt := by omega
          refine own_ifNo X at_170 ((if0 _ _).trans (teq (own_lEq rfl rfl hc27)).2) ?_
          refine own_iconst X (1) at_173 rfl ?_
          refine own_goto X (pc := 174) (pc' := 178) at_174 (by decide) (by decide) ?_
          refine own_retN (t := .boolean) X (z' := (1 : Int32)) (Or.inl rfl) rfl rfl at_178 (by decide) (by decide) ⟨_, rfl, ?_⟩
          rfl
        · refine own_ifYes X (pc := 99) (pc' := 110) at_99 ((if0 _ _).trans (feq (own_lNe rfl rfl hc20)).2) (by decide) (by decide) ?_
          refine own_lload X at_110 rfl ?_
          refine own_lconst1 X at_112 ?_
          refine own_lsubV X (v4.toInt) (1) at_113 rfl rfl (fun v28 hv28 cv28 lv28 uv28 => ?_)
          refine own_lstore X at_114 (L' := #[.val (.long x0), .second, .val (.long x1), .second, .val (.int x2), .val (.long v4), .second, .val (.long v8), .second, .val (.ref b9), .val (.long v11), .second, .val (.long v28), .second, .unset]) rfl ?_
          refine own_lload X at_116 rfl ?_
          refine own_lconst1 X at_118 ?_
          refine own_lcmp X at_119 ?_
          have hc29 : ¬ (v11.toInt < 1) := by omega
          refine own_ifNo X at_120 ((if0 _ _).trans (flt (own_lGe rfl rfl hc29)).1) ?_
          refine own_lload X at_123 rfl ?_
          refine own_lload X at_125 rfl ?_
          refine own_lcmp X at_127 ?_
          have hc30 : ¬ (v4.toInt < v11.toInt) := by omega
          refine own_ifNo X at_128 ((if0 _ _).trans (flt (own_lLe rfl rfl hc30)).2.2.1) ?_
          refine own_iconst X (1) at_131 rfl ?_
          refine own_goto X (pc := 132) (pc' := 136) at_132 (by decide) (by decide) ?_
          refine own_istore X at_136 (L' := #[.val (.long x0), .second, .val (.long x1), .second, .val (.int x2), .val (.long v4), .second, .val (.long v8), .second, .val (.ref b9), .val (.long v11), .second, .val (.long v28), .second, .val (.int (1 : Int32))]) rfl ?_
          refine own_iload X at_138 rfl ?_
          refine own_ifNo X at_140 ((if0 _ _).trans (feq (own_cNe (a := 1) (b := 0) rfl rfl (by decide))).1) ?_
          refine own_lload X at_143 rfl ?_
          refine own_lload X at_145 rfl ?_
          refine own_lcmp X at_147 ?_
          have hc31 : v11.toInt = v28.toInt := by omega
          refine own_ifNo X at_148 ((if0 _ _).trans (teq (own_lEq rfl rfl hc31)).2) ?_
          refine own_aload X at_151 rfl rfl ?_
          refine own_callV X (W := 0) (a := b9) (argsL := []) (rest := []) (hw _ (List.mem_of_getElem? (i := 30) rfl)) (hw _ (List.mem_of_getElem? (i := 31) rfl)) (hw _ (List.mem_of_getElem? (i := 33) rfl)) (hw _ (List.mem_of_getElem? (i := 32) rfl)) (hw _ (List.mem_of_getElem? (i := 7) rfl)) (hw _ (List.mem_of_getElem? (i := 34) rfl)) rfl (by decide) (rm6 l Z a0 hw [] b9 v4 h n0 (own_size X) F_nodes_b9 (by omega)) E_b9 (by decide) (by decide) (by decide) (by decide) rfl (lenOf pd_0 rfl) rfl (Nat.le_of_eq rfl) at_153 (own_contJ fun T v32 X hq32 => ?_)
          refine own_lload X at_156 rfl ?_
          refine own_lcmp X at_158 ?_
          have hc33 : v32.toInt = v4.toInt := by omega
          refine own_ifNo X at_159 ((if0 _ _).trans (teq (own_lEq rfl rfl hc33)).2) ?_
          refine own_aload X at_162 rfl rfl ?_
          refine own_callV X (W := 0) (a := b9) (argsL := []) (rest := []) (hw _ (List.mem_of_getElem? (i := 35) rfl)) (hw _ (List.mem_of_getElem? (i := 36) rfl)) (hw _ (List.mem_of_getElem? (i := 38) rfl)) (hw _ (List.mem_of_getElem? (i := 37) rfl)) (hw _ (List.mem_of_getElem? (i := 7) rfl)) (hw _ (List.mem_of_getElem? (i := 39) rfl)) rfl (by decide) (rm7 l Z a0 hw [] b9 v8 h n0 (own_size X) F_coresPerNode_b9 (by omega)) E_b9 (by decide) (by decide) (by decide) (by decide) rfl (lenOf pd_0 rfl) rfl (Nat.le_of_eq rfl) at_164 (own_contJ fun T v34 X hq34 => ?_)
          refine own_lload X at_167 rfl ?_
          refine own_lcmp X at_169 ?_
          have hc35 : v34.toInt = v8.toInt := by omega
          refine own_ifNo X at_170 ((if0 _ _).trans (teq (own_lEq rfl rfl hc35)).2) ?_
          refine own_iconst X (1) at_173 rfl ?_
          refine own_goto X (pc := 174) (pc' := 178) at_174 (by decide) (by decide) ?_
          refine own_retN (t := .boolean) X (z' := (1 : Int32)) (Or.inl rfl) rfl rfl at_178 (by decide) (by decide) ⟨_, rfl, ?_⟩
          rfl
    · refine own_ifNo X at_34 ((if0 _ _).trans (feq (own_cNe (a := v5.toInt) (b := 0) rfl rfl hc6)).1) ?_
      refine own_lconst1 X at_37 ?_
      refine own_lloadN X at_38 rfl ?_
      refine own_ldc2 X (hw _ (List.mem_of_getElem? (i := 40) rfl)) at_39 ?_
      refine own_landM X (x1.toInt) 3 8 at_42 rfl (by decide) (by decide) (by decide) (fun v36 hv36 cv36 lv36 uv36 => ?_)
      refine own_laddV X (1) (v36.toInt) at_43 rfl rfl (fun v37 hv37 cv37 lv37 uv37 => ?_)
      refine own_lstore X at_44 (L' := #[.val (.long x0), .second, .val (.long x1), .second, .val (.int x2), .val (.long v4), .second, .val (.long v37), .second, .unset, .unset, .unset, .unset, .unset, .unset]) rfl ?_
      refine own_goto X (pc := 46) (pc' := 60) at_46 (by decide) (by decide) ?_
      refine own_newO X (hw _ (List.mem_of_getElem? (i := 5) rfl)) (hw _ (List.mem_of_getElem? (i := 6) rfl)) (hw _ (List.mem_of_getElem? (i := 7) rfl)) at_60 (by decide) (by decide) (fun T h b38 hb_b38 ge_b38 X E E_b38 D => ?_)
      have F_nodes_b38 : Fld Z h b38 "com/example/vacancy/vacancy/capacity/ClusterShape" "nodes" "J" (.long (0 : Int64)) := D (Or.inr (hw _ (List.mem_of_getElem? (i := 20) rfl))) (ty := .long) (by decide)
      have F_coresPerNode_b38 : Fld Z h b38 "com/example/vacancy/vacancy/capacity/ClusterShape" "coresPerNode" "J" (.long (0 : Int64)) := D (Or.inr (hw _ (List.mem_of_getElem? (i := 22) rfl))) (ty := .long) (by decide)
      refine own_dup X at_63 rfl ?_
      refine own_lload X at_64 rfl ?_
      refine own_lload X at_66 rfl ?_
      refine own_callI X (W := 1) (a := b38) (argsL := [(.long v4), (.long v37)]) (rest := [(.ref b38)]) rfl (hw _ (List.mem_of_getElem? (i := 8) rfl)) (hw _ (List.mem_of_getElem? (i := 9) rfl)) (hw _ (List.mem_of_getElem? (i := 7) rfl)) (hw _ (List.mem_of_getElem? (i := 10) rfl)) (by decide) (rm2 l Z a0 hw [] b38 v4 v37 h n0 (own_size X) E_b38 F_nodes_b38 F_coresPerNode_b38 ge_b38 (by omega) (by omega)) (by decide) (by decide) (by decide) (by decide) rfl (lenOf pd_3 rfl) rfl (Nat.le_of_eq rfl) at_68 (own_contVH fun T h X hq39 => ?_)
      obtain ⟨Kc, E_b38, F_nodes_b38, F_coresPerNode_b38⟩ := hq39
      refine own_astore X at_71 rfl (L' := #[.val (.long x0), .second, .val (.long x1), .second, .val (.int x2), .val (.long v4), .second, .val (.long v37), .second, .val (.ref b38), .unset, .unset, .unset, .unset, .unset]) rfl ?_
      refine own_aload X at_73 rfl rfl ?_
      refine own_callV X (W := 0) (a := b38) (argsL := []) (rest := []) (hw _ (List.mem_of_getElem? (i := 23) rfl)) (hw _ (List.mem_of_getElem? (i := 24) rfl)) (hw _ (List.mem_of_getElem? (i := 26) rfl)) (hw _ (List.mem_of_getElem? (i := 25) rfl)) (hw _ (List.mem_of_getElem? (i := 7) rfl)) (hw _ (List.mem_of_getElem? (i := 27) rfl)) rfl (by decide) (rm5 l Z a0 hw [] b38 v4 h n0 (own_size X) F_nodes_b38 (by omega)) E_b38 (by decide) (by decide) (by decide) (by decide) rfl (lenOf pd_0 rfl) rfl (Nat.le_of_eq rfl) at_75 (own_contJ fun T v40 X hq40 => ?_)
      refine own_lstore X at_78 (L' := #[.val (.long x0), .second, .val (.long x1), .second, .val (.int x2), .val (.long v4), .second, .val (.long v37), .second, .val (.ref b38), .val (.long v40), .second, .unset, .unset, .unset]) rfl ?_
      refine own_lload X at_80 rfl ?_
      refine own_lconst1 X at_82 ?_
      refine own_lcmp X at_83 ?_
      by_cases hc41 : v4.toInt = 1
      · refine own_ifNo X at_84 ((if0 _ _).trans (teq (own_lEq rfl rfl hc41)).2) ?_
        refine own_lconst1 X at_87 ?_
        refine own_lstore X at_88 (L' := #[.val (.long x0), .second, .val (.long x1), .second, .val (.int x2), .val (.long v4), .second, .val (.long v37), .second, .val (.ref b38), .val (.long v40), .second, .val (.long (1 : Int64)), .second, .unset]) rfl ?_
        refine own_goto X (pc := 90) (pc' := 116) at_90 (by decide) (by decide) ?_
        refine own_lload X at_116 rfl ?_
        refine own_lconst1 X at_118 ?_
        refine own_lcmp X at_119 ?_
        have hc42 : ¬ (v40.toInt < 1) := by omega
        refine own_ifNo X at_120 ((if0 _ _).trans (flt (own_lGe rfl rfl hc42)).1) ?_
        refine own_lload X at_123 rfl ?_
        refine own_lload X at_125 rfl ?_
        refine own_lcmp X at_127 ?_
        have hc43 : ¬ (v4.toInt < v40.toInt) := by omega
        refine own_ifNo X at_128 ((if0 _ _).trans (flt (own_lLe rfl rfl hc43)).2.2.1) ?_
        refine own_iconst X (1) at_131 rfl ?_
        refine own_goto X (pc := 132) (pc' := 136) at_132 (by decide) (by decide) ?_
        refine own_istore X at_136 (L' := #[.val (.long x0), .second, .val (.long x1), .second, .val (.int x2), .val (.long v4), .second, .val (.long v37), .second, .val (.ref b38), .val (.long v40), .second, .val (.long (1 : Int64)), .second, .val (.int (1 : Int32))]) rfl ?_
        refine own_iload X at_138 rfl ?_
        refine own_ifNo X at_140 ((if0 _ _).trans (feq (own_cNe (a := 1) (b := 0) rfl rfl (by decide))).1) ?_
        refine own_lload X at_143 rfl ?_
        refine own_lload X at_145 rfl ?_
        refine own_lcmp X at_147 ?_
        have hc44 : v40.toInt = 1 := by omega
        refine own_ifNo X at_148 ((if0 _ _).trans (teq (own_lEq rfl rfl hc44)).2) ?_
        refine own_aload X at_151 rfl rfl ?_
        refine own_callV X (W := 0) (a := b38) (argsL := []) (rest := []) (hw _ (List.mem_of_getElem? (i := 30) rfl)) (hw _ (List.mem_of_getElem? (i := 31) rfl)) (hw _ (List.mem_of_getElem? (i := 33) rfl)) (hw _ (List.mem_of_getElem? (i := 32) rfl)) (hw _ (List.mem_of_getElem? (i := 7) rfl)) (hw _ (List.mem_of_getElem? (i := 34) rfl)) rfl (by decide) (rm6 l Z a0 hw [] b38 v4 h n0 (own_size X) F_nodes_b38 (by omega)) E_b38 (by decide) (by decide) (by decide) (by decide) rfl (lenOf pd_0 rfl) rfl (Nat.le_of_eq rfl) at_153 (own_contJ fun T v45 X hq45 => ?_)
        refine own_lload X at_156 rfl ?_
        refine own_lcmp X at_158 ?_
        have hc46 : v45.toInt = v4.toInt := by omega
        refine own_ifNo X at_159 ((if0 _ _).trans (teq (own_lEq rfl rfl hc46)).2) ?_
        refine own_aload X at_162 rfl rfl ?_
        refine own_callV X (W := 0) (a := b38) (argsL := []) (rest := []) (hw _ (List.mem_of_getElem? (i := 35) rfl)) (hw _ (List.mem_of_getElem? (i := 36) rfl)) (hw _ (List.mem_of_getElem? (i := 38) rfl)) (hw _ (List.mem_of_getElem? (i := 37) rfl)) (hw _ (List.mem_of_getElem? (i := 7) rfl)) (hw _ (List.mem_of_getElem? (i := 39) rfl)) rfl (by decide) (rm7 l Z a0 hw [] b38 v37 h n0 (own_size X) F_coresPerNode_b38 (by omega)) E_b38 (by decide) (by decide) (by decide) (by decide) rfl (lenOf pd_0 rfl) rfl (Nat.le_of_eq rfl) at_164 (own_contJ fun T v47 X hq47 => ?_)
        refine own_lload X at_167 rfl ?_
        refine own_lcmp X at_169 ?_
        have hc48 : v47.toInt = v37.toInt := by omega
        refine own_ifNo X at_170 ((if0 _ _).trans (teq (own_lEq rfl rfl hc48)).2) ?_
        refine own_iconst X (1) at_173 rfl ?_
        refine own_goto X (pc := 174) (pc' := 178) at_174 (by decide) (by decide) ?_
        refine own_retN (t := .boolean) X (z' := (1 : Int32)) (Or.inl rfl) rfl rfl at_178 (by decide) (by decide) ⟨_, rfl, ?_⟩
        rfl
      · refine own_ifYes X (pc := 84) (pc' := 93) at_84 ((if0 _ _).trans (feq (own_lNe rfl rfl hc41)).2) (by decide) (by decide) ?_
        refine own_lload X at_93 rfl ?_
        refine own_ldc2 X (hw _ (List.mem_of_getElem? (i := 29) rfl)) at_95 ?_
        refine own_lcmp X at_98 ?_
        by_cases hc49 : v4.toInt = 2
        · refine own_ifNo X at_99 ((if0 _ _).trans (teq (own_lEq rfl rfl hc49)).2) ?_
          refine own_ldc2 X (hw _ (List.mem_of_getElem? (i := 29) rfl)) at_102 ?_
          refine own_lstore X at_105 (L' := #[.val (.long x0), .second, .val (.long x1), .second, .val (.int x2), .val (.long v4), .second, .val (.long v37), .second, .val (.ref b38), .val (.long v40), .second, .val (.long (2 : Int64)), .second, .unset]) rfl ?_
          refine own_goto X (pc := 107) (pc' := 116) at_107 (by decide) (by decide) ?_
          refine own_lload X at_116 rfl ?_
          refine own_lconst1 X at_118 ?_
          refine own_lcmp X at_119 ?_
          have hc50 : ¬ (v40.toInt < 1) := by omega
          refine own_ifNo X at_120 ((if0 _ _).trans (flt (own_lGe rfl rfl hc50)).1) ?_
          refine own_lload X at_123 rfl ?_
          refine own_lload X at_125 rfl ?_
          refine own_lcmp X at_127 ?_
          have hc51 : ¬ (v4.toInt < v40.toInt) := by omega
          refine own_ifNo X at_128 ((if0 _ _).trans (flt (own_lLe rfl rfl hc51)).2.2.1) ?_
          refine own_iconst X (1) at_131 rfl ?_
          refine own_goto X (pc := 132) (pc' := 136) at_132 (by decide) (by decide) ?_
          refine own_istore X at_136 (L' := #[.val (.long x0), .second, .val (.long x1), .second, .val (.int x2), .val (.long v4), .second, .val (.long v37), .second, .val (.ref b38), .val (.long v40), .second, .val (.long (2 : Int64)), .second, .val (.int (1 : Int32))]) rfl ?_
          refine own_iload X at_138 rfl ?_
          refine own_ifNo X at_140 ((if0 _ _).trans (feq (own_cNe (a := 1) (b := 0) rfl rfl (by decide))).1) ?_
          refine own_lload X at_143 rfl ?_
          refine own_lload X at_145 rfl ?_
          refine own_lcmp X at_147 ?_
          have hc52 : v40.toInt = 2 := by omega
          refine own_ifNo X at_148 ((if0 _ _).trans (teq (own_lEq rfl rfl hc52)).2) ?_
          refine own_aload X at_151 rfl rfl ?_
          refine own_callV X (W := 0) (a := b38) (argsL := []) (rest := []) (hw _ (List.mem_of_getElem? (i := 30) rfl)) (hw _ (List.mem_of_getElem? (i := 31) rfl)) (hw _ (List.mem_of_getElem? (i := 33) rfl)) (hw _ (List.mem_of_getElem? (i := 32) rfl)) (hw _ (List.mem_of_getElem? (i := 7) rfl)) (hw _ (List.mem_of_getElem? (i := 34) rfl)) rfl (by decide) (rm6 l Z a0 hw [] b38 v4 h n0 (own_size X) F_nodes_b38 (by omega)) E_b38 (by decide) (by decide) (by decide) (by decide) rfl (lenOf pd_0 rfl) rfl (Nat.le_of_eq rfl) at_153 (own_contJ fun T v53 X hq53 => ?_)
          refine own_lload X at_156 rfl ?_
          refine own_lcmp X at_158 ?_
          have hc54 : v53.toInt = v4.toInt := by omega
          refine own_ifNo X at_159 ((if0 _ _).trans (teq (own_lEq rfl rfl hc54)).2) ?_
          refine own_aload X at_162 rfl rfl ?_
          refine own_callV X (W := 0) (a := b38) (argsL := []) (rest := []) (hw _ (List.mem_of_getElem? (i := 35) rfl)) (hw _ (List.mem_of_getElem? (i := 36) rfl)) (hw _ (List.mem_of_getElem? (i := 38) rfl)) (hw _ (List.mem_of_getElem? (i := 37) rfl)) (hw _ (List.mem_of_getElem? (i := 7) rfl)) (hw _ (List.mem_of_getElem? (i := 39) rfl)) rfl (by decide) (rm7 l Z a0 hw [] b38 v37 h n0 (own_size X) F_coresPerNode_b38 (by omega)) E_b38 (by decide) (by decide) (by decide) (by decide) rfl (lenOf pd_0 rfl) rfl (Nat.le_of_eq rfl) at_164 (own_contJ fun T v55 X hq55 => ?_)
          refine own_lload X at_167 rfl ?_
          refine own_lcmp X at_169 ?_
          have hc56 : v55.toInt = v37.toInt := by omega
          refine own_ifNo X at_170 ((if0 _ _).trans (teq (own_lEq rfl rfl hc56)).2) ?_
          refine own_iconst X (1) at_173 rfl ?_
          refine own_goto X (pc := 174) (pc' := 178) at_174 (by decide) (by decide) ?_
          refine own_retN (t := .boolean) X (z' := (1 : Int32)) (Or.inl rfl) rfl rfl at_178 (by decide) (by decide) ⟨_, rfl, ?_⟩
          rfl
        · refine own_ifYes X (pc := 99) (pc' := 110) at_99 ((if0 _ _).trans (feq (own_lNe rfl rfl hc49)).2) (by decide) (by decide) ?_
          refine own_lload X at_110 rfl ?_
          refine own_lconst1 X at_112 ?_
          refine own_lsubV X (v4.toInt) (1) at_113 rfl rfl (fun v57 hv57 cv57 lv57 uv57 => ?_)
          refine own_lstore X at_114 (L' := #[.val (.long x0), .second, .val (.long x1), .second, .val (.int x2), .val (.long v4), .second, .val (.long v37), .second, .val (.ref b38), .val (.long v40), .second, .val (.long v57), .second, .unset]) rfl ?_
          refine own_lload X at_116 rfl ?_
          refine own_lconst1 X at_118 ?_
          refine own_lcmp X at_119 ?_
          have hc58 : ¬ (v40.toInt < 1) := by omega
          refine own_ifNo X at_120 ((if0 _ _).trans (flt (own_lGe rfl rfl hc58)).1) ?_
          refine own_lload X at_123 rfl ?_
          refine own_lload X at_125 rfl ?_
          refine own_lcmp X at_127 ?_
          have hc59 : ¬ (v4.toInt < v40.toInt) := by omega
          refine own_ifNo X at_128 ((if0 _ _).trans (flt (own_lLe rfl rfl hc59)).2.2.1) ?_
          refine own_iconst X (1) at_131 rfl ?_
          refine own_goto X (pc := 132) (pc' := 136) at_132 (by decide) (by decide) ?_
          refine own_istore X at_136 (L' := #[.val (.long x0), .second, .val (.long x1), .second, .val (.int x2), .val (.long v4), .second, .val (.long v37), .second, .val (.ref b38), .val (.long v40), .second, .val (.long v57), .second, .val (.int (1 : Int32))]) rfl ?_
          refine own_iload X at_138 rfl ?_
          refine own_ifNo X at_140 ((if0 _ _).trans (feq (own_cNe (a := 1) (b := 0) rfl rfl (by decide))).1) ?_
          refine own_lload X at_143 rfl ?_
          refine own_lload X at_145 rfl ?_
          refine own_lcmp X at_147 ?_
          have hc60 : v40.toInt = v57.toInt := by omega
          refine own_ifNo X at_148 ((if0 _ _).trans (teq (own_lEq rfl rfl hc60)).2) ?_
          refine own_aload X at_151 rfl rfl ?_
          refine own_callV X (W := 0) (a := b38) (argsL := []) (rest := []) (hw _ (List.mem_of_getElem? (i := 30) rfl)) (hw _ (List.mem_of_getElem? (i := 31) rfl)) (hw _ (List.mem_of_getElem? (i := 33) rfl)) (hw _ (List.mem_of_getElem? (i := 32) rfl)) (hw _ (List.mem_of_getElem? (i := 7) rfl)) (hw _ (List.mem_of_getElem? (i := 34) rfl)) rfl (by decide) (rm6 l Z a0 hw [] b38 v4 h n0 (own_size X) F_nodes_b38 (by omega)) E_b38 (by decide) (by decide) (by decide) (by decide) rfl (lenOf pd_0 rfl) rfl (Nat.le_of_eq rfl) at_153 (own_contJ fun T v61 X hq61 => ?_)
          refine own_lload X at_156 rfl ?_
          refine own_lcmp X at_158 ?_
          have hc62 : v61.toInt = v4.toInt := by omega
          refine own_ifNo X at_159 ((if0 _ _).trans (teq (own_lEq rfl rfl hc62)).2) ?_
          refine own_aload X at_162 rfl rfl ?_
          refine own_callV X (W := 0) (a := b38) (argsL := []) (rest := []) (hw _ (List.mem_of_getElem? (i := 35) rfl)) (hw _ (List.mem_of_getElem? (i := 36) rfl)) (hw _ (List.mem_of_getElem? (i := 38) rfl)) (hw _ (List.mem_of_getElem? (i := 37) rfl)) (hw _ (List.mem_of_getElem? (i := 7) rfl)) (hw _ (List.mem_of_getElem? (i := 39) rfl)) rfl (by decide) (rm7 l Z a0 hw [] b38 v37 h n0 (own_size X) F_coresPerNode_b38 (by omega)) E_b38 (by decide) (by decide) (by decide) (by decide) rfl (lenOf pd_0 rfl) rfl (Nat.le_of_eq rfl) at_164 (own_contJ fun T v63 X hq63 => ?_)
          refine own_lload X at_167 rfl ?_
          refine own_lcmp X at_169 ?_
          have hc64 : v63.toInt = v37.toInt := by omega
          refine own_ifNo X at_170 ((if0 _ _).trans (teq (own_lEq rfl rfl hc64)).2) ?_
          refine own_iconst X (1) at_173 rfl ?_
          refine own_goto X (pc := 174) (pc' := 178) at_174 (by decide) (by decide) ?_
          refine own_retN (t := .boolean) X (z' := (1 : Int32)) (Or.inl rfl) rfl rfl at_178 (by decide) (by decide) ⟨_, rfl, ?_⟩
          rfl
  · refine own_ifNo X at_4 ((if0 _ _).trans (feq (own_cNe (a := v1.toInt) (b := 0) rfl rfl hc2)).1) ?_
    refine own_lconst1 X at_7 ?_
    refine own_lloadN X at_8 rfl ?_
    refine own_ldc2 X (hw _ (List.mem_of_getElem? (i := 40) rfl)) at_9 ?_
    refine own_landM X (x0.toInt) 3 8 at_12 rfl (by decide) (by decide) (by decide) (fun v65 hv65 cv65 lv65 uv65 => ?_)
    refine own_laddV X (1) (v65.toInt) at_13 rfl rfl (fun v66 hv66 cv66 lv66 uv66 => ?_)
    refine own_lstore X at_14 (L' := #[.val (.long x0), .second, .val (.long x1), .second, .val (.int x2), .val (.long v66), .second, .unset, .unset, .unset, .unset, .unset, .unset, .unset, .unset]) rfl ?_
    refine own_goto X (pc := 16) (pc' := 30) at_16 (by decide) (by decide) ?_
    refine own_iload X at_30 rfl ?_
    refine own_iconst X (2) at_32 rfl ?_
    refine own_iandB X (2) at_33 rfl (by decide) (fun v67 hv67 cv67 lv67 uv67 => ?_)
    by_cases hc68 : v67.toInt = 0
    · refine own_ifYes X (pc := 34) (pc' := 49) at_34 ((if0 _ _).trans (teq (own_cEq (a := v67.toInt) (b := 0) rfl rfl hc68)).1) (by decide) (by decide) ?_
      refine own_lconst1 X at_49 ?_
      refine own_lloadN X at_50 rfl ?_
      refine own_ldc2 X (hw _ (List.mem_of_getElem? (i := 0) rfl)) at_51 ?_
      refine own_landM X (x1.toInt) 63 9223372036854775808 at_54 rfl (by decide) (by decide) (by decide) (fun v69 hv69 cv69 lv69 uv69 => ?_)
      refine own_callS X (W := 0) (argsL := [(.long (1 : Int64)), (.long v69)]) (rest := []) (hw _ (List.mem_of_getElem? (i := 1) rfl)) (hw _ (List.mem_of_getElem? (i := 2) rfl)) (hw _ (List.mem_of_getElem? (i := 3) rfl)) (hw _ (List.mem_of_getElem? (i := 4) rfl)) (by decide) (rm1 l Z a0 hw [] (1 : Int64) v69 h0 n0 (own_size X)) (by decide) (by decide) (by decide) (by decide) rfl (lenOf pd_2 rfl) rfl (Nat.le_of_eq rfl) at_55 (own_contJ fun T v70 X hq70 => ?_)
      have l70 : (1 : Int64).toInt = 1 := rfl
      refine own_lstore X at_58 (L' := #[.val (.long x0), .second, .val (.long x1), .second, .val (.int x2), .val (.long v66), .second, .val (.long v70), .second, .unset, .unset, .unset, .unset, .unset, .unset]) rfl ?_
      refine own_newO X (hw _ (List.mem_of_getElem? (i := 5) rfl)) (hw _ (List.mem_of_getElem? (i := 6) rfl)) (hw _ (List.mem_of_getElem? (i := 7) rfl)) at_60 (by decide) (by decide) (fun T h b71 hb_b71 ge_b71 X E E_b71 D => ?_)
      have F_nodes_b71 : Fld Z h b71 "com/example/vacancy/vacancy/capacity/ClusterShape" "nodes" "J" (.long (0 : Int64)) := D (Or.inr (hw _ (List.mem_of_getElem? (i := 20) rfl))) (ty := .long) (by decide)
      have F_coresPerNode_b71 : Fld Z h b71 "com/example/vacancy/vacancy/capacity/ClusterShape" "coresPerNode" "J" (.long (0 : Int64)) := D (Or.inr (hw _ (List.mem_of_getElem? (i := 22) rfl))) (ty := .long) (by decide)
      refine own_dup X at_63 rfl ?_
      refine own_lload X at_64 rfl ?_
      refine own_lload X at_66 rfl ?_
      refine own_callI X (W := 1) (a := b71) (argsL := [(.long v66), (.long v70)]) (rest := [(.ref b71)]) rfl (hw _ (List.mem_of_getElem? (i := 8) rfl)) (hw _ (List.mem_of_getElem? (i := 9) rfl)) (hw _ (List.mem_of_getElem? (i := 7) rfl)) (hw _ (List.mem_of_getElem? (i := 10) rfl)) (by decide) (rm2 l Z a0 hw [] b71 v66 v70 h n0 (own_size X) E_b71 F_nodes_b71 F_coresPerNode_b71 ge_b71 (by omega) (by omega)) (by decide) (by decide) (by decide) (by decide) rfl (lenOf pd_3 rfl) rfl (Nat.le_of_eq rfl) at_68 (own_contVH fun T h X hq72 => ?_)
      obtain ⟨Kc, E_b71, F_nodes_b71, F_coresPerNode_b71⟩ := hq72
      refine own_astore X at_71 rfl (L' := #[.val (.long x0), .second, .val (.long x1), .second, .val (.int x2), .val (.long v66), .second, .val (.long v70), .second, .val (.ref b71), .unset, .unset, .unset, .unset, .unset]) rfl ?_
      refine own_aload X at_73 rfl rfl ?_
      refine own_callV X (W := 0) (a := b71) (argsL := []) (rest := []) (hw _ (List.mem_of_getElem? (i := 23) rfl)) (hw _ (List.mem_of_getElem? (i := 24) rfl)) (hw _ (List.mem_of_getElem? (i := 26) rfl)) (hw _ (List.mem_of_getElem? (i := 25) rfl)) (hw _ (List.mem_of_getElem? (i := 7) rfl)) (hw _ (List.mem_of_getElem? (i := 27) rfl)) rfl (by decide) (rm5 l Z a0 hw [] b71 v66 h n0 (own_size X) F_nodes_b71 (by omega)) E_b71 (by decide) (by decide) (by decide) (by decide) rfl (lenOf pd_0 rfl) rfl (Nat.le_of_eq rfl) at_75 (own_contJ fun T v73 X hq73 => ?_)
      refine own_lstore X at_78 (L' := #[.val (.long x0), .second, .val (.long x1), .second, .val (.int x2), .val (.long v66), .second, .val (.long v70), .second, .val (.ref b71), .val (.long v73), .second, .unset, .unset, .unset]) rfl ?_
      refine own_lload X at_80 rfl ?_
      refine own_lconst1 X at_82 ?_
      refine own_lcmp X at_83 ?_
      by_cases hc74 : v66.toInt = 1
      · refine own_ifNo X at_84 ((if0 _ _).trans (teq (own_lEq rfl rfl hc74)).2) ?_
        refine own_lconst1 X at_87 ?_
        refine own_lstore X at_88 (L' := #[.val (.long x0), .second, .val (.long x1), .second, .val (.int x2), .val (.long v66), .second, .val (.long v70), .second, .val (.ref b71), .val (.long v73), .second, .val (.long (1 : Int64)), .second, .unset]) rfl ?_
        refine own_goto X (pc := 90) (pc' := 116) at_90 (by decide) (by decide) ?_
        refine own_lload X at_116 rfl ?_
        refine own_lconst1 X at_118 ?_
        refine own_lcmp X at_119 ?_
        have hc75 : ¬ (v73.toInt < 1) := by omega
        refine own_ifNo X at_120 ((if0 _ _).trans (flt (own_lGe rfl rfl hc75)).1) ?_
        refine own_lload X at_123 rfl ?_
        refine own_lload X at_125 rfl ?_
        refine own_lcmp X at_127 ?_
        have hc76 : ¬ (v66.toInt < v73.toInt) := by omega
        refine own_ifNo X at_128 ((if0 _ _).trans (flt (own_lLe rfl rfl hc76)).2.2.1) ?_
        refine own_iconst X (1) at_131 rfl ?_
        refine own_goto X (pc := 132) (pc' := 136) at_132 (by decide) (by decide) ?_
        refine own_istore X at_136 (L' := #[.val (.long x0), .second, .val (.long x1), .second, .val (.int x2), .val (.long v66), .second, .val (.long v70), .second, .val (.ref b71), .val (.long v73), .second, .val (.long (1 : Int64)), .second, .val (.int (1 : Int32))]) rfl ?_
        refine own_iload X at_138 rfl ?_
        refine own_ifNo X at_140 ((if0 _ _).trans (feq (own_cNe (a := 1) (b := 0) rfl rfl (by decide))).1) ?_
        refine own_lload X at_143 rfl ?_
        refine own_lload X at_145 rfl ?_
        refine own_lcmp X at_147 ?_
        have hc77 : v73.toInt = 1 := by omega
        refine own_ifNo X at_148 ((if0 _ _).trans (teq (own_lEq rfl rfl hc77)).2) ?_
        refine own_aload X at_151 rfl rfl ?_
        refine own_callV X (W := 0) (a := b71) (argsL := []) (rest := []) (hw _ (List.mem_of_getElem? (i := 30) rfl)) (hw _ (List.mem_of_getElem? (i := 31) rfl)) (hw _ (List.mem_of_getElem? (i := 33) rfl)) (hw _ (List.mem_of_getElem? (i := 32) rfl)) (hw _ (List.mem_of_getElem? (i := 7) rfl)) (hw _ (List.mem_of_getElem? (i := 34) rfl)) rfl (by decide) (rm6 l Z a0 hw [] b71 v66 h n0 (own_size X) F_nodes_b71 (by omega)) E_b71 (by decide) (by decide) (by decide) (by decide) rfl (lenOf pd_0 rfl) rfl (Nat.le_of_eq rfl) at_153 (own_contJ fun T v78 X hq78 => ?_)
        refine own_lload X at_156 rfl ?_
        refine own_lcmp X at_158 ?_
        have hc79 : v78.toInt = v66.toInt := by omega
        refine own_ifNo X at_159 ((if0 _ _).trans (teq (own_lEq rfl rfl hc79)).2) ?_
        refine own_aload X at_162 rfl rfl ?_
        refine own_callV X (W := 0) (a := b71) (argsL := []) (rest := []) (hw _ (List.mem_of_getElem? (i := 35) rfl)) (hw _ (List.mem_of_getElem? (i := 36) rfl)) (hw _ (List.mem_of_getElem? (i := 38) rfl)) (hw _ (List.mem_of_getElem? (i := 37) rfl)) (hw _ (List.mem_of_getElem? (i := 7) rfl)) (hw _ (List.mem_of_getElem? (i := 39) rfl)) rfl (by decide) (rm7 l Z a0 hw [] b71 v70 h n0 (own_size X) F_coresPerNode_b71 (by omega)) E_b71 (by decide) (by decide) (by decide) (by decide) rfl (lenOf pd_0 rfl) rfl (Nat.le_of_eq rfl) at_164 (own_contJ fun T v80 X hq80 => ?_)
        refine own_lload X at_167 rfl ?_
        refine own_lcmp X at_169 ?_
        have hc81 : v80.toInt = v70.toInt := by omega
        refine own_ifNo X at_170 ((if0 _ _).trans (teq (own_lEq rfl rfl hc81)).2) ?_
        refine own_iconst X (1) at_173 rfl ?_
        refine own_goto X (pc := 174) (pc' := 178) at_174 (by decide) (by decide) ?_
        refine own_retN (t := .boolean) X (z' := (1 : Int32)) (Or.inl rfl) rfl rfl at_178 (by decide) (by decide) ⟨_, rfl, ?_⟩
        rfl
      · refine own_ifYes X (pc := 84) (pc' := 93) at_84 ((if0 _ _).trans (feq (own_lNe rfl rfl hc74)).2) (by decide) (by decide) ?_
        refine own_lload X at_93 rfl ?_
        refine own_ldc2 X (hw _ (List.mem_of_getElem? (i := 29) rfl)) at_95 ?_
        refine own_lcmp X at_98 ?_
        by_cases hc82 : v66.toInt = 2
        · refine own_ifNo X at_99 ((if0 _ _).trans (teq (own_lEq rfl rfl hc82)).2) ?_
          refine own_ldc2 X (hw _ (List.mem_of_getElem? (i := 29) rfl)) at_102 ?_
          refine own_lstore X at_105 (L' := #[.val (.long x0), .second, .val (.long x1), .second, .val (.int x2), .val (.long v66), .second, .val (.long v70), .second, .val (.ref b71), .val (.long v73), .second, .val (.long (2 : Int64)), .second, .unset]) rfl ?_
          refine own_goto X (pc := 107) (pc' := 116) at_107 (by decide) (by decide) ?_
          refine own_lload X at_116 rfl ?_
          refine own_lconst1 X at_118 ?_
          refine own_lcmp X at_119 ?_
          have hc83 : ¬ (v73.toInt < 1) := by omega
          refine own_ifNo X at_120 ((if0 _ _).trans (flt (own_lGe rfl rfl hc83)).1) ?_
          refine own_lload X at_123 rfl ?_
          refine own_lload X at_125 rfl ?_
          refine own_lcmp X at_127 ?_
          have hc84 : ¬ (v66.toInt < v73.toInt) := by omega
          refine own_ifNo X at_128 ((if0 _ _).trans (flt (own_lLe rfl rfl hc84)).2.2.1) ?_
          refine own_iconst X (1) at_131 rfl ?_
          refine own_goto X (pc := 132) (pc' := 136) at_132 (by decide) (by decide) ?_
          refine own_istore X at_136 (L' := #[.val (.long x0), .second, .val (.long x1), .second, .val (.int x2), .val (.long v66), .second, .val (.long v70), .second, .val (.ref b71), .val (.long v73), .second, .val (.long (2 : Int64)), .second, .val (.int (1 : Int32))]) rfl ?_
          refine own_iload X at_138 rfl ?_
          refine own_ifNo X at_140 ((if0 _ _).trans (feq (own_cNe (a := 1) (b := 0) rfl rfl (by decide))).1) ?_
          refine own_lload X at_143 rfl ?_
          refine own_lload X at_145 rfl ?_
          refine own_lcmp X at_147 ?_
          have hc85 : v73.toInt = 2 := by omega
          refine own_ifNo X at_148 ((if0 _ _).trans (teq (own_lEq rfl rfl hc85)).2) ?_
          refine own_aload X at_151 rfl rfl ?_
          refine own_callV X (W := 0) (a := b71) (argsL := []) (rest := []) (hw _ (List.mem_of_getElem? (i := 30) rfl)) (hw _ (List.mem_of_getElem? (i := 31) rfl)) (hw _ (List.mem_of_getElem? (i := 33) rfl)) (hw _ (List.mem_of_getElem? (i := 32) rfl)) (hw _ (List.mem_of_getElem? (i := 7) rfl)) (hw _ (List.mem_of_getElem? (i := 34) rfl)) rfl (by decide) (rm6 l Z a0 hw [] b71 v66 h n0 (own_size X) F_nodes_b71 (by omega)) E_b71 (by decide) (by decide) (by decide) (by decide) rfl (lenOf pd_0 rfl) rfl (Nat.le_of_eq rfl) at_153 (own_contJ fun T v86 X hq86 => ?_)
          refine own_lload X at_156 rfl ?_
          refine own_lcmp X at_158 ?_
          have hc87 : v86.toInt = v66.toInt := by omega
          refine own_ifNo X at_159 ((if0 _ _).trans (teq (own_lEq rfl rfl hc87)).2) ?_
          refine own_aload X at_162 rfl rfl ?_
          refine own_callV X (W := 0) (a := b71) (argsL := []) (rest := []) (hw _ (List.mem_of_getElem? (i := 35) rfl)) (hw _ (List.mem_of_getElem? (i := 36) rfl)) (hw _ (List.mem_of_getElem? (i := 38) rfl)) (hw _ (List.mem_of_getElem? (i := 37) rfl)) (hw _ (List.mem_of_getElem? (i := 7) rfl)) (hw _ (List.mem_of_getElem? (i := 39) rfl)) rfl (by decide) (rm7 l Z a0 hw [] b71 v70 h n0 (own_size X) F_coresPerNode_b71 (by omega)) E_b71 (by decide) (by decide) (by decide) (by decide) rfl (lenOf pd_0 rfl) rfl (Nat.le_of_eq rfl) at_164 (own_contJ fun T v88 X hq88 => ?_)
          refine own_lload X at_167 rfl ?_
          refine own_lcmp X at_169 ?_
          have hc89 : v88.toInt = v70.toInt := by omega
          refine own_ifNo X at_170 ((if0 _ _).trans (teq (own_lEq rfl rfl hc89)).2) ?_
          refine own_iconst X (1) at_173 rfl ?_
          refine own_goto X (pc := 174) (pc' := 178) at_174 (by decide) (by decide) ?_
          refine own_retN (t := .boolean) X (z' := (1 : Int32)) (Or.inl rfl) rfl rfl at_178 (by decide) (by decide) ⟨_, rfl, ?_⟩
          rfl
        · refine own_ifYes X (pc := 99) (pc' := 110) at_99 ((if0 _ _).trans (feq (own_lNe rfl rfl hc82)).2) (by decide) (by decide) ?_
          refine own_lload X at_110 rfl ?_
          refine own_lconst1 X at_112 ?_
          refine own_lsubV X (v66.toInt) (1) at_113 rfl rfl (fun v90 hv90 cv90 lv90 uv90 => ?_)
          refine own_lstore X at_114 (L' := #[.val (.long x0), .second, .val (.long x1), .second, .val (.int x2), .val (.long v66), .second, .val (.long v70), .second, .val (.ref b71), .val (.long v73), .second, .val (.long v90), .second, .unset]) rfl ?_
          refine own_lload X at_116 rfl ?_
          refine own_lconst1 X at_118 ?_
          refine own_lcmp X at_119 ?_
          have hc91 : ¬ (v73.toInt < 1) := by omega
          refine own_ifNo X at_120 ((if0 _ _).trans (flt (own_lGe rfl rfl hc91)).1) ?_
          refine own_lload X at_123 rfl ?_
          refine own_lload X at_125 rfl ?_
          refine own_lcmp X at_127 ?_
          have hc92 : ¬ (v66.toInt < v73.toInt) := by omega
          refine own_ifNo X at_128 ((if0 _ _).trans (flt (own_lLe rfl rfl hc92)).2.2.1) ?_
          refine own_iconst X (1) at_131 rfl ?_
          refine own_goto X (pc := 132) (pc' := 136) at_132 (by decide) (by decide) ?_
          refine own_istore X at_136 (L' := #[.val (.long x0), .second, .val (.long x1), .second, .val (.int x2), .val (.long v66), .second, .val (.long v70), .second, .val (.ref b71), .val (.long v73), .second, .val (.long v90), .second, .val (.int (1 : Int32))]) rfl ?_
          refine own_iload X at_138 rfl ?_
          refine own_ifNo X at_140 ((if0 _ _).trans (feq (own_cNe (a := 1) (b := 0) rfl rfl (by decide))).1) ?_
          refine own_lload X at_143 rfl ?_
          refine own_lload X at_145 rfl ?_
          refine own_lcmp X at_147 ?_
          have hc93 : v73.toInt = v90.toInt := by omega
          refine own_ifNo X at_148 ((if0 _ _).trans (teq (own_lEq rfl rfl hc93)).2) ?_
          refine own_aload X at_151 rfl rfl ?_
          refine own_callV X (W := 0) (a := b71) (argsL := []) (rest := []) (hw _ (List.mem_of_getElem? (i := 30) rfl)) (hw _ (List.mem_of_getElem? (i := 31) rfl)) (hw _ (List.mem_of_getElem? (i := 33) rfl)) (hw _ (List.mem_of_getElem? (i := 32) rfl)) (hw _ (List.mem_of_getElem? (i := 7) rfl)) (hw _ (List.mem_of_getElem? (i := 34) rfl)) rfl (by decide) (rm6 l Z a0 hw [] b71 v66 h n0 (own_size X) F_nodes_b71 (by omega)) E_b71 (by decide) (by decide) (by decide) (by decide) rfl (lenOf pd_0 rfl) rfl (Nat.le_of_eq rfl) at_153 (own_contJ fun T v94 X hq94 => ?_)
          refine own_lload X at_156 rfl ?_
          refine own_lcmp X at_158 ?_
          have hc95 : v94.toInt = v66.toInt := by omega
          refine own_ifNo X at_159 ((if0 _ _).trans (teq (own_lEq rfl rfl hc95)).2) ?_
          refine own_aload X at_162 rfl rfl ?_
          refine own_callV X (W := 0) (a := b71) (argsL := []) (rest := []) (hw _ (List.mem_of_getElem? (i := 35) rfl)) (hw _ (List.mem_of_getElem? (i := 36) rfl)) (hw _ (List.mem_of_getElem? (i := 38) rfl)) (hw _ (List.mem_of_getElem? (i := 37) rfl)) (hw _ (List.mem_of_getElem? (i := 7) rfl)) (hw _ (List.mem_of_getElem? (i := 39) rfl)) rfl (by decide) (rm7 l Z a0 hw [] b71 v70 h n0 (own_size X) F_coresPerNode_b71 (by omega)) E_b71 (by decide) (by decide) (by decide) (by decide) rfl (lenOf pd_0 rfl) rfl (Nat.le_of_eq rfl) at_164 (own_contJ fun T v96 X hq96 => ?_)
          refine own_lload X at_167 rfl ?_
          refine own_lcmp X at_169 ?_
          have hc97 : v96.toInt = v70.toInt := by omega
          refine own_ifNo X at_170 ((if0 _ _).trans (teq (own_lEq rfl rfl hc97)).2) ?_
          refine own_iconst X (1) at_173 rfl ?_
          refine own_goto X (pc := 174) (pc' := 178) at_174 (by decide) (by decide) ?_
          refine own_retN (t := .boolean) X (z' := (1 : Int32)) (Or.inl rfl) rfl rfl at_178 (by decide) (by decide) ⟨_, rfl, ?_⟩
          rfl
    · refine own_ifNo X at_34 ((if0 _ _).trans (feq (own_cNe (a := v67.toInt) (b := 0) rfl rfl hc68)).1) ?_
      refine own_lconst1 X at_37 ?_
      refine own_lloadN X at_38 rfl ?_
      refine own_ldc2 X (hw _ (List.mem_of_getElem? (i := 40) rfl)) at_39 ?_
      refine own_landM X (x1.toInt) 3 8 at_42 rfl (by decide) (by decide) (by decide) (fun v98 hv98 cv98 lv98 uv98 => ?_)
      refine own_laddV X (1) (v98.toInt) at_43 rfl rfl (fun v99 hv99 cv99 lv99 uv99 => ?_)
      refine own_lstore X at_44 (L' := #[.val (.long x0), .second, .val (.long x1), .second, .val (.int x2), .val (.long v66), .second, .val (.long v99), .second, .unset, .unset, .unset, .unset, .unset, .unset]) rfl ?_
      refine own_goto X (pc := 46) (pc' := 60) at_46 (by decide) (by decide) ?_
      refine own_newO X (hw _ (List.mem_of_getElem? (i := 5) rfl)) (hw _ (List.mem_of_getElem? (i := 6) rfl)) (hw _ (List.mem_of_getElem? (i := 7) rfl)) at_60 (by decide) (by decide) (fun T h b100 hb_b100 ge_b100 X E E_b100 D => ?_)
      have F_nodes_b100 : Fld Z h b100 "com/example/vacancy/vacancy/capacity/ClusterShape" "nodes" "J" (.long (0 : Int64)) := D (Or.inr (hw _ (List.mem_of_getElem? (i := 20) rfl))) (ty := .long) (by decide)
      have F_coresPerNode_b100 : Fld Z h b100 "com/example/vacancy/vacancy/capacity/ClusterShape" "coresPerNode" "J" (.long (0 : Int64)) := D (Or.inr (hw _ (List.mem_of_getElem? (i := 22) rfl))) (ty := .long) (by decide)
      refine own_dup X at_63 rfl ?_
      refine own_lload X at_64 rfl ?_
      refine own_lload X at_66 rfl ?_
      refine own_callI X (W := 1) (a := b100) (argsL := [(.long v66), (.long v99)]) (rest := [(.ref b100)]) rfl (hw _ (List.mem_of_getElem? (i := 8) rfl)) (hw _ (List.mem_of_getElem? (i := 9) rfl)) (hw _ (List.mem_of_getElem? (i := 7) rfl)) (hw _ (List.mem_of_getElem? (i := 10) rfl)) (by decide) (rm2 l Z a0 hw [] b100 v66 v99 h n0 (own_size X) E_b100 F_nodes_b100 F_coresPerNode_b100 ge_b100 (by omega) (by omega)) (by decide) (by decide) (by decide) (by decide) rfl (lenOf pd_3 rfl) rfl (Nat.le_of_eq rfl) at_68 (own_contVH fun T h X hq101 => ?_)
      obtain ⟨Kc, E_b100, F_nodes_b100, F_coresPerNode_b100⟩ := hq101
      refine own_astore X at_71 rfl (L' := #[.val (.long x0), .second, .val (.long x1), .second, .val (.int x2), .val (.long v66), .second, .val (.long v99), .second, .val (.ref b100), .unset, .unset, .unset, .unset, .unset]) rfl ?_
      refine own_aload X at_73 rfl rfl ?_
      refine own_callV X (W := 0) (a := b100) (argsL := []) (rest := []) (hw _ (List.mem_of_getElem? (i := 23) rfl)) (hw _ (List.mem_of_getElem? (i := 24) rfl)) (hw _ (List.mem_of_getElem? (i := 26) rfl)) (hw _ (List.mem_of_getElem? (i := 25) rfl)) (hw _ (List.mem_of_getElem? (i := 7) rfl)) (hw _ (List.mem_of_getElem? (i := 27) rfl)) rfl (by decide) (rm5 l Z a0 hw [] b100 v66 h n0 (own_size X) F_nodes_b100 (by omega)) E_b100 (by decide) (by decide) (by decide) (by decide) rfl (lenOf pd_0 rfl) rfl (Nat.le_of_eq rfl) at_75 (own_contJ fun T v102 X hq102 => ?_)
      refine own_lstore X at_78 (L' := #[.val (.long x0), .second, .val (.long x1), .second, .val (.int x2), .val (.long v66), .second, .val (.long v99), .second, .val (.ref b100), .val (.long v102), .second, .unset, .unset, .unset]) rfl ?_
      refine own_lload X at_80 rfl ?_
      refine own_lconst1 X at_82 ?_
      refine own_lcmp X at_83 ?_
      by_cases hc103 : v66.toInt = 1
      · refine own_ifNo X at_84 ((if0 _ _).trans (teq (own_lEq rfl rfl hc103)).2) ?_
        refine own_lconst1 X at_87 ?_
        refine own_lstore X at_88 (L' := #[.val (.long x0), .second, .val (.long x1), .second, .val (.int x2), .val (.long v66), .second, .val (.long v99), .second, .val (.ref b100), .val (.long v102), .second, .val (.long (1 : Int64)), .second, .unset]) rfl ?_
        refine own_goto X (pc := 90) (pc' := 116) at_90 (by decide) (by decide) ?_
        refine own_lload X at_116 rfl ?_
        refine own_lconst1 X at_118 ?_
        refine own_lcmp X at_119 ?_
        have hc104 : ¬ (v102.toInt < 1) := by omega
        refine own_ifNo X at_120 ((if0 _ _).trans (flt (own_lGe rfl rfl hc104)).1) ?_
        refine own_lload X at_123 rfl ?_
        refine own_lload X at_125 rfl ?_
        refine own_lcmp X at_127 ?_
        have hc105 : ¬ (v66.toInt < v102.toInt) := by omega
        refine own_ifNo X at_128 ((if0 _ _).trans (flt (own_lLe rfl rfl hc105)).2.2.1) ?_
        refine own_iconst X (1) at_131 rfl ?_
        refine own_goto X (pc := 132) (pc' := 136) at_132 (by decide) (by decide) ?_
        refine own_istore X at_136 (L' := #[.val (.long x0), .second, .val (.long x1), .second, .val (.int x2), .val (.long v66), .second, .val (.long v99), .second, .val (.ref b100), .val (.long v102), .second, .val (.long (1 : Int64)), .second, .val (.int (1 : Int32))]) rfl ?_
        refine own_iload X at_138 rfl ?_
        refine own_ifNo X at_140 ((if0 _ _).trans (feq (own_cNe (a := 1) (b := 0) rfl rfl (by decide))).1) ?_
        refine own_lload X at_143 rfl ?_
        refine own_lload X at_145 rfl ?_
        refine own_lcmp X at_147 ?_
        have hc106 : v102.toInt = 1 := by omega
        refine own_ifNo X at_148 ((if0 _ _).trans (teq (own_lEq rfl rfl hc106)).2) ?_
        refine own_aload X at_151 rfl rfl ?_
        refine own_callV X (W := 0) (a := b100) (argsL := []) (rest := []) (hw _ (List.mem_of_getElem? (i := 30) rfl)) (hw _ (List.mem_of_getElem? (i := 31) rfl)) (hw _ (List.mem_of_getElem? (i := 33) rfl)) (hw _ (List.mem_of_getElem? (i := 32) rfl)) (hw _ (List.mem_of_getElem? (i := 7) rfl)) (hw _ (List.mem_of_getElem? (i := 34) rfl)) rfl (by decide) (rm6 l Z a0 hw [] b100 v66 h n0 (own_size X) F_nodes_b100 (by omega)) E_b100 (by decide) (by decide) (by decide) (by decide) rfl (lenOf pd_0 rfl) rfl (Nat.le_of_eq rfl) at_153 (own_contJ fun T v107 X hq107 => ?_)
        refine own_lload X at_156 rfl ?_
        refine own_lcmp X at_158 ?_
        have hc108 : v107.toInt = v66.toInt := by omega
        refine own_ifNo X at_159 ((if0 _ _).trans (teq (own_lEq rfl rfl hc108)).2) ?_
        refine own_aload X at_162 rfl rfl ?_
        refine own_callV X (W := 0) (a := b100) (argsL := []) (rest := []) (hw _ (List.mem_of_getElem? (i := 35) rfl)) (hw _ (List.mem_of_getElem? (i := 36) rfl)) (hw _ (List.mem_of_getElem? (i := 38) rfl)) (hw _ (List.mem_of_getElem? (i := 37) rfl)) (hw _ (List.mem_of_getElem? (i := 7) rfl)) (hw _ (List.mem_of_getElem? (i := 39) rfl)) rfl (by decide) (rm7 l Z a0 hw [] b100 v99 h n0 (own_size X) F_coresPerNode_b100 (by omega)) E_b100 (by decide) (by decide) (by decide) (by decide) rfl (lenOf pd_0 rfl) rfl (Nat.le_of_eq rfl) at_164 (own_contJ fun T v109 X hq109 => ?_)
        refine own_lload X at_167 rfl ?_
        refine own_lcmp X at_169 ?_
        have hc110 : v109.toInt = v99.toInt := by omega
        refine own_ifNo X at_170 ((if0 _ _).trans (teq (own_lEq rfl rfl hc110)).2) ?_
        refine own_iconst X (1) at_173 rfl ?_
        refine own_goto X (pc := 174) (pc' := 178) at_174 (by decide) (by decide) ?_
        refine own_retN (t := .boolean) X (z' := (1 : Int32)) (Or.inl rfl) rfl rfl at_178 (by decide) (by decide) ⟨_, rfl, ?_⟩
        rfl
      · refine own_ifYes X (pc := 84) (pc' := 93) at_84 ((if0 _ _).trans (feq (own_lNe rfl rfl hc103)).2) (by decide) (by decide) ?_
        refine own_lload X at_93 rfl ?_
        refine own_ldc2 X (hw _ (List.mem_of_getElem? (i := 29) rfl)) at_95 ?_
        refine own_lcmp X at_98 ?_
        by_cases hc111 : v66.toInt = 2
        · refine own_ifNo X at_99 ((if0 _ _).trans (teq (own_lEq rfl rfl hc111)).2) ?_
          refine own_ldc2 X (hw _ (List.mem_of_getElem? (i := 29) rfl)) at_102 ?_
          refine own_lstore X at_105 (L' := #[.val (.long x0), .second, .val (.long x1), .second, .val (.int x2), .val (.long v66), .second, .val (.long v99), .second, .val (.ref b100), .val (.long v102), .second, .val (.long (2 : Int64)), .second, .unset]) rfl ?_
          refine own_goto X (pc := 107) (pc' := 116) at_107 (by decide) (by decide) ?_
          refine own_lload X at_116 rfl ?_
          refine own_lconst1 X at_118 ?_
          refine own_lcmp X at_119 ?_
          have hc112 : ¬ (v102.toInt < 1) := by omega
          refine own_ifNo X at_120 ((if0 _ _).trans (flt (own_lGe rfl rfl hc112)).1) ?_
          refine own_lload X at_123 rfl ?_
          refine own_lload X at_125 rfl ?_
          refine own_lcmp X at_127 ?_
          have hc113 : ¬ (v66.toInt < v102.toInt) := by omega
          refine own_ifNo X at_128 ((if0 _ _).trans (flt (own_lLe rfl rfl hc113)).2.2.1) ?_
          refine own_iconst X (1) at_131 rfl ?_
          refine own_goto X (pc := 132) (pc' := 136) at_132 (by decide) (by decide) ?_
          refine own_istore X at_136 (L' := #[.val (.long x0), .second, .val (.long x1), .second, .val (.int x2), .val (.long v66), .second, .val (.long v99), .second, .val (.ref b100), .val (.long v102), .second, .val (.long (2 : Int64)), .second, .val (.int (1 : Int32))]) rfl ?_
          refine own_iload X at_138 rfl ?_
          refine own_ifNo X at_140 ((if0 _ _).trans (feq (own_cNe (a := 1) (b := 0) rfl rfl (by decide))).1) ?_
          refine own_lload X at_143 rfl ?_
          refine own_lload X at_145 rfl ?_
          refine own_lcmp X at_147 ?_
          have hc114 : v102.toInt = 2 := by omega
          refine own_ifNo X at_148 ((if0 _ _).trans (teq (own_lEq rfl rfl hc114)).2) ?_
          refine own_aload X at_151 rfl rfl ?_
          refine own_callV X (W := 0) (a := b100) (argsL := []) (rest := []) (hw _ (List.mem_of_getElem? (i := 30) rfl)) (hw _ (List.mem_of_getElem? (i := 31) rfl)) (hw _ (List.mem_of_getElem? (i := 33) rfl)) (hw _ (List.mem_of_getElem? (i := 32) rfl)) (hw _ (List.mem_of_getElem? (i := 7) rfl)) (hw _ (List.mem_of_getElem? (i := 34) rfl)) rfl (by decide) (rm6 l Z a0 hw [] b100 v66 h n0 (own_size X) F_nodes_b100 (by omega)) E_b100 (by decide) (by decide) (by decide) (by decide) rfl (lenOf pd_0 rfl) rfl (Nat.le_of_eq rfl) at_153 (own_contJ fun T v115 X hq115 => ?_)
          refine own_lload X at_156 rfl ?_
          refine own_lcmp X at_158 ?_
          have hc116 : v115.toInt = v66.toInt := by omega
          refine own_ifNo X at_159 ((if0 _ _).trans (teq (own_lEq rfl rfl hc116)).2) ?_
          refine own_aload X at_162 rfl rfl ?_
          refine own_callV X (W := 0) (a := b100) (argsL := []) (rest := []) (hw _ (List.mem_of_getElem? (i := 35) rfl)) (hw _ (List.mem_of_getElem? (i := 36) rfl)) (hw _ (List.mem_of_getElem? (i := 38) rfl)) (hw _ (List.mem_of_getElem? (i := 37) rfl)) (hw _ (List.mem_of_getElem? (i := 7) rfl)) (hw _ (List.mem_of_getElem? (i := 39) rfl)) rfl (by decide) (rm7 l Z a0 hw [] b100 v99 h n0 (own_size X) F_coresPerNode_b100 (by omega)) E_b100 (by decide) (by decide) (by decide) (by decide) rfl (lenOf pd_0 rfl) rfl (Nat.le_of_eq rfl) at_164 (own_contJ fun T v117 X hq117 => ?_)
          refine own_lload X at_167 rfl ?_
          refine own_lcmp X at_169 ?_
          have hc118 : v117.toInt = v99.toInt := by omega
          refine own_ifNo X at_170 ((if0 _ _).trans (teq (own_lEq rfl rfl hc118)).2) ?_
          refine own_iconst X (1) at_173 rfl ?_
          refine own_goto X (pc := 174) (pc' := 178) at_174 (by decide) (by decide) ?_
          refine own_retN (t := .boolean) X (z' := (1 : Int32)) (Or.inl rfl) rfl rfl at_178 (by decide) (by decide) ⟨_, rfl, ?_⟩
          rfl
        · refine own_ifYes X (pc := 99) (pc' := 110) at_99 ((if0 _ _).trans (feq (own_lNe rfl rfl hc111)).2) (by decide) (by decide) ?_
          refine own_lload X at_110 rfl ?_
          refine own_lconst1 X at_112 ?_
          refine own_lsubV X (v66.toInt) (1) at_113 rfl rfl (fun v119 hv119 cv119 lv119 uv119 => ?_)
          refine own_lstore X at_114 (L' := #[.val (.long x0), .second, .val (.long x1), .second, .val (.int x2), .val (.long v66), .second, .val (.long v99), .second, .val (.ref b100), .val (.long v102), .second, .val (.long v119), .second, .unset]) rfl ?_
          refine own_lload X at_116 rfl ?_
          refine own_lconst1 X at_118 ?_
          refine own_lcmp X at_119 ?_
          have hc120 : ¬ (v102.toInt < 1) := by omega
          refine own_ifNo X at_120 ((if0 _ _).trans (flt (own_lGe rfl rfl hc120)).1) ?_
          refine own_lload X at_123 rfl ?_
          refine own_lload X at_125 rfl ?_
          refine own_lcmp X at_127 ?_
          have hc121 : ¬ (v66.toInt < v102.toInt) := by omega
          refine own_ifNo X at_128 ((if0 _ _).trans (flt (own_lLe rfl rfl hc121)).2.2.1) ?_
          refine own_iconst X (1) at_131 rfl ?_
          refine own_goto X (pc := 132) (pc' := 136) at_132 (by decide) (by decide) ?_
          refine own_istore X at_136 (L' := #[.val (.long x0), .second, .val (.long x1), .second, .val (.int x2), .val (.long v66), .second, .val (.long v99), .second, .val (.ref b100), .val (.long v102), .second, .val (.long v119), .second, .val (.int (1 : Int32))]) rfl ?_
          refine own_iload X at_138 rfl ?_
          refine own_ifNo X at_140 ((if0 _ _).trans (feq (own_cNe (a := 1) (b := 0) rfl rfl (by decide))).1) ?_
          refine own_lload X at_143 rfl ?_
          refine own_lload X at_145 rfl ?_
          refine own_lcmp X at_147 ?_
          have hc122 : v102.toInt = v119.toInt := by omega
          refine own_ifNo X at_148 ((if0 _ _).trans (teq (own_lEq rfl rfl hc122)).2) ?_
          refine own_aload X at_151 rfl rfl ?_
          refine own_callV X (W := 0) (a := b100) (argsL := []) (rest := []) (hw _ (List.mem_of_getElem? (i := 30) rfl)) (hw _ (List.mem_of_getElem? (i := 31) rfl)) (hw _ (List.mem_of_getElem? (i := 33) rfl)) (hw _ (List.mem_of_getElem? (i := 32) rfl)) (hw _ (List.mem_of_getElem? (i := 7) rfl)) (hw _ (List.mem_of_getElem? (i := 34) rfl)) rfl (by decide) (rm6 l Z a0 hw [] b100 v66 h n0 (own_size X) F_nodes_b100 (by omega)) E_b100 (by decide) (by decide) (by decide) (by decide) rfl (lenOf pd_0 rfl) rfl (Nat.le_of_eq rfl) at_153 (own_contJ fun T v123 X hq123 => ?_)
          refine own_lload X at_156 rfl ?_
          refine own_lcmp X at_158 ?_
          have hc124 : v123.toInt = v66.toInt := by omega
          refine own_ifNo X at_159 ((if0 _ _).trans (teq (own_lEq rfl rfl hc124)).2) ?_
          refine own_aload X at_162 rfl rfl ?_
          refine own_callV X (W := 0) (a := b100) (argsL := []) (rest := []) (hw _ (List.mem_of_getElem? (i := 35) rfl)) (hw _ (List.mem_of_getElem? (i := 36) rfl)) (hw _ (List.mem_of_getElem? (i := 38) rfl)) (hw _ (List.mem_of_getElem? (i := 37) rfl)) (hw _ (List.mem_of_getElem? (i := 7) rfl)) (hw _ (List.mem_of_getElem? (i := 39) rfl)) rfl (by decide) (rm7 l Z a0 hw [] b100 v99 h n0 (own_size X) F_coresPerNode_b100 (by omega)) E_b100 (by decide) (by decide) (by decide) (by decide) rfl (lenOf pd_0 rfl) rfl (Nat.le_of_eq rfl) at_164 (own_contJ fun T v125 X hq125 => ?_)
          refine own_lload X at_167 rfl ?_
          refine own_lcmp X at_169 ?_
          have hc126 : v125.toInt = v99.toInt := by omega
          refine own_ifNo X at_170 ((if0 _ _).trans (teq (own_lEq rfl rfl hc126)).2) ?_
          refine own_iconst X (1) at_173 rfl ?_
          refine own_goto X (pc := 174) (pc' := 178) at_174 (by decide) (by decide) ?_
          refine own_retN (t := .boolean) X (z' := (1 : Int32)) (Or.inl rfl) rfl rfl at_178 (by decide) (by decide) ⟨_, rfl, ?_⟩
          rfl
set_option maxRecDepth 65536 in
set_option maxHeartbeats 40000000 in
theorem comes_1 {Post : Tables → Env → Array Value → State → Outcome → State → Prop} (hpost : ∀ tb e args s v u, (limb_1_1.after args s (.returned v) u = true ∧ limb_1_2.after args s (.returned v) u = true ∧ True) → FrameEnd s (.returned v) u (Jvm.fieldLocs frame_1_writes args s ++ Jvm.arrayLocs frame_1_arrays args s ++ Jvm.staticLocs frame_1_statics s) 16 128 → Post tb e args s (.returned v) u) :
    ArmFor flags0 classFile x code maxLocals ret World_1 tables_1 room_1 Calls_1 rest_1 Pre_1 Post := by
  intro l hfl _ _ p e ha hc hk s m args below hf hA hF happ hP
  obtain ⟨hcalls, hrest, hpre⟩ := hP
  obtain ⟨-, -, -, hnamed, -, -, -, hat⟩ := (Spec.applies_iff hf).mp happ
  obtain ⟨hg, hn⟩ := and_e (Cond.before_iff.mp (show (Jvm.Cond.and given_1 narrow_1).before args s = true from hpre))
  obtain ⟨gcount, gt0⟩ := and_e hg
  obtain ⟨ga0, gt1⟩ := and_e gt0
  obtain ⟨ga1, gt2⟩ := and_e gt1
  obtain ⟨w0, w1, w2, rfl⟩ : ∃ w0 w1 w2 : Value, args = #[w0, w1, w2] := by
    have hs : args.size = 3 := by simpa [Cond.value, given_1] using gcount
    obtain ⟨L⟩ := args
    match L, hs with
    | [w0, w1, w2], _ => exact ⟨w0, w1, w2, rfl⟩
  have hw := fun d (hd : d ∈ tables_1) => atoms_spec (ws := Jvm.Cond.code x code maxLocals ret :: tables_1) hat d (List.mem_cons_of_mem _ hd)
  obtain ⟨i0, ei0⟩ := isL_v ga0
  obtain rfl : w0 = (.long i0) := Option.some.inj ei0
  obtain ⟨i1, ei1⟩ := isL_v ga1
  obtain rfl : w1 = (.long i1) := Option.some.inj ei1
  obtain ⟨i2, ei2⟩ := is_v gt2
  obtain rfl : w2 = (.int i2) := Option.some.inj ei2
  obtain ⟨n, o, h1, h2, h3, _, L, rfl, ⟨N, z, rfl, hz⟩, hq⟩ := rm0 l s _ hw tables_1 i0 i1 i2 s.heap s.heap.size (Nat.le_refl _) p e ha hc hk s m _ below hf ((Spec.applies_iff_loose hf).mp happ).1 ⟨rfl, State.Warmed39.refl s, rfl⟩ trivial
  subst hz
  refine ⟨n, _, h1, h2, h3, hpost _ _ _ _ _ _ ⟨Cond.after_iff.mpr rfl, Cond.after_iff.mpr (eq_i res_at (Term.int_eval (1)) rfl), trivial⟩ ⟨hq.1, hq.2.1, (hq.2.2.sift fun y hy => Or.inr (N y hy)).mono (by decide) (by decide)⟩⟩
theorem main_1_1 : Claimed_1_1 := comes_1 fun _ _ _ _ _ _ h hF => ⟨h.1, hF⟩
theorem main_1_2 : Claimed_1_2 := comes_1 fun _ _ _ _ _ _ h hF => ⟨h.2.1, hF⟩
end Jvm.Pilot.@@N@@
namespace Jvm.Pilot.@@N@@
open Jvm Jvm.ClassFile Sem Op Lib Jvm.Free Jvm.Stand Jvm.Pilot.@@N@@.Jvm.D
/-! MADE BY PROGRAM (witnessworld.py) out of the Statement's table words and the real class files: 11 classes; the members and pool entries that the words name. The judged class is class 1, her method 1. -/
namespace start1
open Jvm.ClassFile
def u (s : String) : CpInfo := .utf8 (stringToUtf16 s)
/-- a pool by its gaps: so many unusable entries, then the entry; so many at the end -/
def gap : Nat → List CpInfo → List CpInfo
  | 0, r => r
  | n + 1, r => .unusable :: gap n r
def poolList (es : List (Nat × CpInfo)) (last : Nat) : List CpInfo := es.foldr (fun e r => gap e.1 (e.2 :: r)) (gap last [])
def pool (es : List (Nat × CpInfo)) (last : Nat) : Array CpInfo := ⟨poolList es last⟩
def fileOf (pool : Array CpInfo) (this : Nat) (attrs : Array Attribute := #[]) (ms : Array MethodInfo := #[]) (fl : Nat := 33) (sup : Nat := 0) (ifs : Array Nat := #[]) (fds : Array FieldInfo := #[]) : ClassFile where
  minorVersion := 0
  majorVersion := 65
  constantPool := pool
  accessFlags := fl
  thisClass := this
  superClass := sup
  interfaces := ifs
  fields := fds
  methods := ms
  attributes := attrs
def plain (name : String) (sup : Option ClassId) : Class where
  name := name
  kind := .ordinary
  loader := none
  accessFlags := 33
  super := sup
  interfaces := #[]
  cf := none
  fields := #[]
  methods := #[]
  instanceTypes := #[]
  staticTypes := #[]
  resolved := #[]
  callSites := []
  init := .initialized
  statics := none
  mirror := none

def pool0 : Array CpInfo := pool [(5, u "<init>"), (0, u "()V"), (1, .class_ 10), (1, u "java/lang/Object")] 113

def k0c0 : Code := { maxStack := 0, maxLocals := 1, code := object_method_1_code, exceptionTable := #[], attributes := #[] }
def k0m0 : Method := { name := "<init>", desc := "()V", sig := { parameters := [], returnType := none }, accessFlags := 1, code := some k0c0 }
/-- java/lang/Object -/
def k0 : Class := { plain "java/lang/Object" none with
  accessFlags := 33
  interfaces := #[]
  cf := some (fileOf pool0 8 #[] #[{ accessFlags := 1, nameIndex := 5, descriptorIndex := 6, attributes := #[] }] 33 0 #[] #[])
  fields := #[]
  methods := #[k0m0]
  instanceTypes := #[]
  staticTypes := #[]
  resolved := Array.replicate 124 none
  statics := none }

def pool1 : Array CpInfo := pool [(2, .class_ 4), (1, u "java/lang/Object"), (0, u "<init>"), (0, u "()V"), (0, .long 7), (3, .long 9223372036854775807), (1, .methodref 14 15), (0, .class_ 16), (0, .nameAndType 17 18), (0, u "java/lang/Math"), (0, u "max"), (0, u "(JJ)J"), (0, .class_ 20), (0, u "com/example/vacancy/vacancy/capacity/ClusterShape"), (0, .methodref 19 22), (0, .nameAndType 5 23), (0, u "(JJ)V"), (0, .methodref 19 25), (0, .nameAndType 26 27), (0, u "participatingNodes"), (0, u "()J"), (0, .long 2), (1, .methodref 19 31), (0, .nameAndType 32 27), (0, u "nodes"), (0, .methodref 19 34), (0, .nameAndType 35 27), (0, u "coresPerNode"), (0, .class_ 37), (0, u "com/example/vacancy/vacancy/capacity/ClusterShapeParticipatingNodesPinLaw"), (2, u "law"), (0, u "(JJI)Z")] 3

def k1m0 : Method := { name := "<init>", desc := "()V", sig := { parameters := [], returnType := none }, accessFlags := 1, code := none }
def k1c1 : Code := { maxStack := 6, maxLocals := 15, code := code, exceptionTable := #[], attributes := #[] }
def k1m1 : Method := { name := "law", desc := "(JJI)Z", sig := { parameters := [.long, .long, .int], returnType := some .boolean }, accessFlags := 9, code := some k1c1 }
/-- com/example/vacancy/vacancy/capacity/ClusterShapeParticipatingNodesPinLaw -/
def k1 : Class := { plain "com/example/vacancy/vacancy/capacity/ClusterShapeParticipatingNodesPinLaw" (some 0) with
  accessFlags := 49
  interfaces := #[]
  cf := some (fileOf pool1 36 #[] #[{ accessFlags := 1, nameIndex := 5, descriptorIndex := 6, attributes := #[] }, { accessFlags := 9, nameIndex := 40, descriptorIndex := 41, attributes := #[] }] 49 2 #[] #[])
  fields := #[]
  methods := #[k1m0, k1m1]
  instanceTypes := #[]
  staticTypes := #[]
  resolved := Array.replicate 45 none
  statics := none }

def pool2 : Array CpInfo := pool [(1, .class_ 2), (0, u "java/lang/Math"), (1, .class_ 6), (1, u "java/lang/Object"), (0, u "<init>"), (0, u "()V"), (89, .class_ 100), (1, u "java/lang/Math$RandomNumberGeneratorHolder"), (20, u "(JJ)J"), (50, u "negativeZeroFloatBits"), (0, u "J"), (2, u "negativeZeroDoubleBits"), (21, u "max"), (46, u "$assertionsDisabled"), (0, u "Z"), (91, u "twoToTheDoubleScaleDown"), (0, u "D"), (4, u "twoToTheDoubleScaleUp"), (9, u "E"), (3, u "PI"), (2, u "TAU"), (2, u "DEGREES_TO_RADIANS"), (0, u "RADIANS_TO_DEGREES")] 94

def k2m0 : Method := { name := "<init>", desc := "()V", sig := { parameters := [], returnType := none }, accessFlags := 2, code := none }
def k2c1 : Code := { maxStack := 4, maxLocals := 4, code := jdk_29_method_66_code, exceptionTable := #[], attributes := #[] }
def k2m1 : Method := { name := "max", desc := "(JJ)J", sig := { parameters := [.long, .long], returnType := some .long }, accessFlags := 9, code := some k2c1 }
/-- java/lang/Math -/
def k2 : Class := { plain "java/lang/Math" (some 0) with
  accessFlags := 49
  interfaces := #[]
  cf := some (fileOf pool2 1 #[.nestMembers #[98]] #[{ accessFlags := 2, nameIndex := 7, descriptorIndex := 8, attributes := #[] }, { accessFlags := 9, nameIndex := 198, descriptorIndex := 121, attributes := #[] }] 49 4 #[] #[{ accessFlags := 25, nameIndex := 354, descriptorIndex := 339, attributes := #[] }, { accessFlags := 25, nameIndex := 358, descriptorIndex := 339, attributes := #[] }, { accessFlags := 25, nameIndex := 361, descriptorIndex := 339, attributes := #[] }, { accessFlags := 26, nameIndex := 364, descriptorIndex := 339, attributes := #[] }, { accessFlags := 26, nameIndex := 365, descriptorIndex := 339, attributes := #[] }, { accessFlags := 26, nameIndex := 172, descriptorIndex := 173, attributes := #[] }, { accessFlags := 26, nameIndex := 176, descriptorIndex := 173, attributes := #[] }, { accessFlags := 8, nameIndex := 344, descriptorIndex := 339, attributes := #[] }, { accessFlags := 8, nameIndex := 338, descriptorIndex := 339, attributes := #[] }, { accessFlags := 4120, nameIndex := 245, descriptorIndex := 246, attributes := #[] }])
  fields := #[{ name := "E", type := .double, accessFlags := 25, slot := 0, constantValue := 0 }, { name := "PI", type := .double, accessFlags := 25, slot := 1, constantValue := 0 }, { name := "TAU", type := .double, accessFlags := 25, slot := 2, constantValue := 0 }, { name := "DEGREES_TO_RADIANS", type := .double, accessFlags := 26, slot := 3, constantValue := 0 }, { name := "RADIANS_TO_DEGREES", type := .double, accessFlags := 26, slot := 4, constantValue := 0 }, { name := "negativeZeroFloatBits", type := .long, accessFlags := 26, slot := 5, constantValue := 0 }, { name := "negativeZeroDoubleBits", type := .long, accessFlags := 26, slot := 6, constantValue := 0 }, { name := "twoToTheDoubleScaleUp", type := .double, accessFlags := 8, slot := 7, constantValue := 0 }, { name := "twoToTheDoubleScaleDown", type := .double, accessFlags := 8, slot := 8, constantValue := 0 }, { name := "$assertionsDisabled", type := .boolean, accessFlags := 4120, slot := 9, constantValue := 0 }]
  methods := #[k2m0, k2m1]
  instanceTypes := #[]
  staticTypes := #[.double, .double, .double, .double, .double, .long, .long, .double, .double, .boolean]
  resolved := Array.replicate 460 none
  statics := none }

def pool3 : Array CpInfo := pool [(1, .methodref 2 3), (0, .class_ 4), (0, .nameAndType 5 6), (0, u "java/lang/Object"), (0, u "<init>"), (0, u "()V"), (0, .class_ 8), (0, u "java/lang/Record")] 13

def k3c0 : Code := { maxStack := 1, maxLocals := 1, code := jdk_30_method_1_code, exceptionTable := #[], attributes := #[] }
def k3m0 : Method := { name := "<init>", desc := "()V", sig := { parameters := [], returnType := none }, accessFlags := 4, code := some k3c0 }
/-- java/lang/Record -/
def k3 : Class := { plain "java/lang/Record" (some 0) with
  accessFlags := 1057
  interfaces := #[]
  cf := some (fileOf pool3 7 #[] #[{ accessFlags := 4, nameIndex := 5, descriptorIndex := 6, attributes := #[] }] 1057 2 #[] #[])
  fields := #[]
  methods := #[k3m0]
  instanceTypes := #[]
  staticTypes := #[]
  resolved := Array.replicate 22 none
  statics := none }

def pool4 : Array CpInfo := pool [(1, .methodref 2 3), (0, .class_ 4), (0, .nameAndType 5 6), (0, u "java/lang/Record"), (0, u "<init>"), (0, u "()V"), (10, .fieldref 18 19), (0, .class_ 20), (0, .nameAndType 21 22), (0, u "com/example/vacancy/vacancy/capacity/ClusterShape"), (0, u "nodes"), (0, u "J"), (0, .fieldref 18 24), (0, .nameAndType 25 22), (0, u "coresPerNode"), (0, .long 3), (3, u "participatingNodes"), (0, u "()J"), (27, u "Ljava/math/BigDecimal;"), (6, u "LONG_MAX"), (25, u "(JJ)V")] 43

def k4c0 : Code := { maxStack := 4, maxLocals := 5, code := prog_1_method_1_code, exceptionTable := #[], attributes := #[] }
def k4m0 : Method := { name := "<init>", desc := "(JJ)V", sig := { parameters := [.long, .long], returnType := none }, accessFlags := 1, code := some k4c0 }
def k4c1 : Code := { maxStack := 4, maxLocals := 1, code := prog_1_method_2_code, exceptionTable := #[], attributes := #[] }
def k4m1 : Method := { name := "participatingNodes", desc := "()J", sig := { parameters := [], returnType := some .long }, accessFlags := 1, code := some k4c1 }
def k4c2 : Code := { maxStack := 2, maxLocals := 1, code := prog_1_method_8_code, exceptionTable := #[], attributes := #[] }
def k4m2 : Method := { name := "nodes", desc := "()J", sig := { parameters := [], returnType := some .long }, accessFlags := 1, code := some k4c2 }
def k4c3 : Code := { maxStack := 2, maxLocals := 1, code := prog_1_method_9_code, exceptionTable := #[], attributes := #[] }
def k4m3 : Method := { name := "coresPerNode", desc := "()J", sig := { parameters := [], returnType := some .long }, accessFlags := 1, code := some k4c3 }
/-- com/example/vacancy/vacancy/capacity/ClusterShape -/
def k4 : Class := { plain "com/example/vacancy/vacancy/capacity/ClusterShape" (some 3) with
  accessFlags := 49
  interfaces := #[]
  cf := some (fileOf pool4 18 #[] #[{ accessFlags := 1, nameIndex := 5, descriptorIndex := 92, attributes := #[] }, { accessFlags := 1, nameIndex := 30, descriptorIndex := 31, attributes := #[] }, { accessFlags := 1, nameIndex := 21, descriptorIndex := 31, attributes := #[] }, { accessFlags := 1, nameIndex := 25, descriptorIndex := 31, attributes := #[] }] 49 2 #[] #[{ accessFlags := 18, nameIndex := 21, descriptorIndex := 22, attributes := #[] }, { accessFlags := 18, nameIndex := 25, descriptorIndex := 22, attributes := #[] }, { accessFlags := 26, nameIndex := 66, descriptorIndex := 59, attributes := #[] }])
  fields := #[{ name := "nodes", type := .long, accessFlags := 18, slot := 0, constantValue := 0 }, { name := "coresPerNode", type := .long, accessFlags := 18, slot := 1, constantValue := 0 }, { name := "LONG_MAX", type := (.object "java/math/BigDecimal"), accessFlags := 26, slot := 0, constantValue := 0 }]
  methods := #[k4m0, k4m1, k4m2, k4m3]
  instanceTypes := #[.long, .long]
  staticTypes := #[(.object "java/math/BigDecimal")]
  resolved := Array.replicate 136 none
  statics := none }

def pool5 : Array CpInfo := pool [(1, u "java/lang/Cloneable"), (0, .class_ 1), (0, u "java/lang/Object"), (0, .class_ 3)] 3

/-- java/lang/Cloneable -/
def k5 : Class := { plain "java/lang/Cloneable" (some 0) with
  accessFlags := 1537
  interfaces := #[]
  cf := some (fileOf pool5 2 #[] #[] 1537 4 #[] #[])
  fields := #[]
  methods := #[]
  instanceTypes := #[]
  staticTypes := #[]
  resolved := Array.replicate 8 none
  statics := none }

def pool6 : Array CpInfo := pool [(1, u "java/io/Serializable"), (0, .class_ 1), (0, u "java/lang/Object"), (0, .class_ 3)] 3

/-- java/io/Serializable -/
def k6 : Class := { plain "java/io/Serializable" (some 0) with
  accessFlags := 1537
  interfaces := #[]
  cf := some (fileOf pool6 2 #[] #[] 1537 4 #[] #[])
  fields := #[]
  methods := #[]
  instanceTypes := #[]
  staticTypes := #[]
  resolved := Array.replicate 8 none
  statics := none }

/-- the primitive byte -/
def k7 : Class := { plain "byte" none with kind := .primitive 'B', accessFlags := 0x411 }
/-- [B -/
def k8 : Class := { plain "[B" (some 0) with kind := .array 7 .byte, interfaces := #[5, 6], accessFlags := 1041 }

/-- the primitive int -/
def k9 : Class := { plain "int" none with kind := .primitive 'I', accessFlags := 0x411 }
/-- [I -/
def k10 : Class := { plain "[I" (some 0) with kind := .array 9 .int, interfaces := #[5, 6], accessFlags := 1041 }

def heap : Heap := #[]
def classes : Array Class := #[k0, k1, k2, k3, k4, k5, k6, k7, k8, k9, k10]
def interned : List (Array UInt16 × Addr) := []
def slotsUsed : Nat := 0
def theMethod : MethodId := ⟨1, 1⟩
def args0 : Array Value := #[.long 50, .long 7, .int 9]
def aboutOver (below : List Frame) : State where
  vm := { classes := classes, interned := interned.toArray }
  heap := heap
  slotsUsed := slotsUsed
  threads := #[{ frames := .invoking theMethod args0 :: below }]
def below0 : List Frame := [.native { method := ⟨0, 0⟩, args := #[] }]
def about1 : State := aboutOver below0
def p0 : Program := .bare "" "" ""
def e0 : Env := launch0.env 0 0 0
theorem w_frames : about1.frames = Frame.invoking theMethod args0 :: below0 := rfl
set_option maxRecDepth 65536 in
theorem w_args : argsFit about1.vm theMethod args0 = true := by decide +kernel
set_option maxRecDepth 65536 in
theorem w_heap : heapFits about1 = true := by decide +kernel
set_option maxRecDepth 65536 in
theorem w_runnable : about1.curStatus? = some .runnable := by decide +kernel
set_option maxRecDepth 65536 in
theorem w_alone : about1.alone = true := by decide +kernel
set_option maxRecDepth 65536 in
theorem w_named : about1.methodNamed? x = some theMethod := by decide +kernel
set_option maxRecDepth 65536 in
theorem w_hears : about1.hears theMethod below0 = true := by decide +kernel
set_option maxRecDepth 65536 in
theorem w_ripe : about1.ripe theMethod args0 below0 = true := by decide +kernel
theorem w_running : about1.status = .running := rfl
set_option maxRecDepth 65536 in
theorem w_room : about1.hasRoom e0.platform room_1 = true :=
  launch0.hasRoom_least _ room_1 (by decide +kernel) (by decide +kernel) (by decide +kernel) (by decide +kernel) (by decide +kernel) (by decide +kernel)
theorem allAtoms_all (ts : List Jvm.Cond) (a : Array Jvm.Value) (st : Jvm.State) : (allAtoms ts).before a st = ts.all (fun c => c.before a st) := by
  induction ts with
  | nil => rfl
  | cons c t ih =>
    show (Jvm.Cond.and c (allAtoms t)).before a st = _
    rw [Jvm.Cond.before_and, ih, List.all_cons]
def words1 : List Jvm.Cond := Jvm.Cond.code x code maxLocals ret :: tables_1
/-- a 'code' word, met by the world's own term for the bytes: nothing is compared byte by byte -/
theorem code_word {y : MethodName} {bytes : ByteArray} {mx : Nat} {rt : Option FieldType} {a : Array Value} {s : State} {m : MethodId} {meth : Method} {c : Code} (h1 : s.methodNamed? y = some m) (h2 : s.vm.method? m = some meth) (h3 : meth.code = some c) (h4 : c.code = bytes)
    (h5 : (c.maxLocals == mx && c.exceptionTable.isEmpty && decide (c.maxStack ≤ mostOperands) && decide (meth.sig.returnType = rt) && !meth.locks && decide (parseMethodDescriptor y.desc = some meth.sig)) = true) : (Jvm.Cond.code y bytes mx rt).before a s = true := by
  simp only [Bool.and_eq_true, beq_iff_eq, Bool.not_eq_true', decide_eq_true_eq] at h5
  obtain ⟨⟨⟨⟨⟨g1, g2⟩, g3⟩, g4⟩, g5⟩, g6⟩ := h5
  simp [Cond.before, Cond.holds, Cond.value, h1, h2, h3, h4, g1, g2, g3, g4, g5, g6]
def isCode : Jvm.Cond → Bool
  | .code _ _ _ _ => true
  | _ => false
theorem all_split {L : List Jvm.Cond} {P : Jvm.Cond → Bool} (h1 : L.all (fun c => isCode c || P c) = true) (h2 : ∀ c ∈ L.filter isCode, P c = true) : L.all P = true := by
  refine List.all_eq_true.mpr fun c hc => ?_
  have h := List.all_eq_true.mp h1 c hc
  rcases Bool.eq_false_or_eq_true (isCode c) with hi | hi
  · exact h2 c (List.mem_filter.mpr ⟨hc, hi⟩)
  · simpa [hi] using h
set_option maxRecDepth 65536 in
theorem w_c0 : (Jvm.Cond.code x code maxLocals ret).before args0 about1 = true := code_word (m := ⟨1, 1⟩) (meth := k1m1) (c := k1c1) (by decide +kernel) rfl rfl rfl (by decide +kernel)
set_option maxRecDepth 65536 in
theorem w_c1 : (Jvm.Cond.code ({ cls := "java/lang/Math", name := "max", desc := "(JJ)J" } : Jvm.MethodName) jdk_29_method_66_code (4 : Nat) (Option.some Jvm.ClassFile.FieldType.long)).before args0 about1 = true := code_word (m := ⟨2, 1⟩) (meth := k2m1) (c := k2c1) (by decide +kernel) rfl rfl rfl (by decide +kernel)
set_option maxRecDepth 65536 in
theorem w_c2 : (Jvm.Cond.code ({ cls := "com/example/vacancy/vacancy/capacity/ClusterShape", name := "<init>", desc := "(JJ)V" } : Jvm.MethodName) prog_1_method_1_code (5 : Nat) (Option.none : Option Jvm.ClassFile.FieldType)).before args0 about1 = true := code_word (m := ⟨4, 0⟩) (meth := k4m0) (c := k4c0) (by decide +kernel) rfl rfl rfl (by decide +kernel)
set_option maxRecDepth 65536 in
theorem w_c3 : (Jvm.Cond.code ({ cls := "java/lang/Record", name := "<init>", desc := "()V" } : Jvm.MethodName) jdk_30_method_1_code (1 : Nat) (Option.none : Option Jvm.ClassFile.FieldType)).before args0 about1 = true := code_word (m := ⟨3, 0⟩) (meth := k3m0) (c := k3c0) (by decide +kernel) rfl rfl rfl (by decide +kernel)
set_option maxRecDepth 65536 in
theorem w_c4 : (Jvm.Cond.code ({ cls := "java/lang/Object", name := "<init>", desc := "()V" } : Jvm.MethodName) object_method_1_code (1 : Nat) (Option.none : Option Jvm.ClassFile.FieldType)).before args0 about1 = true := code_word (m := ⟨0, 0⟩) (meth := k0m0) (c := k0c0) (by decide +kernel) rfl rfl rfl (by decide +kernel)
set_option maxRecDepth 65536 in
theorem w_c5 : (Jvm.Cond.code ({ cls := "com/example/vacancy/vacancy/capacity/ClusterShape", name := "participatingNodes", desc := "()J" } : Jvm.MethodName) prog_1_method_2_code (1 : Nat) (Option.some Jvm.ClassFile.FieldType.long)).before args0 about1 = true := code_word (m := ⟨4, 1⟩) (meth := k4m1) (c := k4c1) (by decide +kernel) rfl rfl rfl (by decide +kernel)
set_option maxRecDepth 65536 in
theorem w_c6 : (Jvm.Cond.code ({ cls := "com/example/vacancy/vacancy/capacity/ClusterShape", name := "nodes", desc := "()J" } : Jvm.MethodName) prog_1_method_8_code (1 : Nat) (Option.some Jvm.ClassFile.FieldType.long)).before args0 about1 = true := code_word (m := ⟨4, 2⟩) (meth := k4m2) (c := k4c2) (by decide +kernel) rfl rfl rfl (by decide +kernel)
set_option maxRecDepth 65536 in
theorem w_c7 : (Jvm.Cond.code ({ cls := "com/example/vacancy/vacancy/capacity/ClusterShape", name := "coresPerNode", desc := "()J" } : Jvm.MethodName) prog_1_method_9_code (1 : Nat) (Option.some Jvm.ClassFile.FieldType.long)).before args0 about1 = true := code_word (m := ⟨4, 3⟩) (meth := k4m3) (c := k4c3) (by decide +kernel) rfl rfl rfl (by decide +kernel)
def codes1 : List Jvm.Cond := [Jvm.Cond.code x code maxLocals ret, Jvm.Cond.code ({ cls := "java/lang/Math", name := "max", desc := "(JJ)J" } : Jvm.MethodName) jdk_29_method_66_code (4 : Nat) (Option.some Jvm.ClassFile.FieldType.long), Jvm.Cond.code ({ cls := "com/example/vacancy/vacancy/capacity/ClusterShape", name := "<init>", desc := "(JJ)V" } : Jvm.MethodName) prog_1_method_1_code (5 : Nat) (Option.none : Option Jvm.ClassFile.FieldType), Jvm.Cond.code ({ cls := "java/lang/Record", name := "<init>", desc := "()V" } : Jvm.MethodName) jdk_30_method_1_code (1 : Nat) (Option.none : Option Jvm.ClassFile.FieldType), Jvm.Cond.code ({ cls := "java/lang/Object", name := "<init>", desc := "()V" } : Jvm.MethodName) object_method_1_code (1 : Nat) (Option.none : Option Jvm.ClassFile.FieldType), Jvm.Cond.code ({ cls := "com/example/vacancy/vacancy/capacity/ClusterShape", name := "participatingNodes", desc := "()J" } : Jvm.MethodName) prog_1_method_2_code (1 : Nat) (Option.some Jvm.ClassFile.FieldType.long), Jvm.Cond.code ({ cls := "com/example/vacancy/vacancy/capacity/ClusterShape", name := "nodes", desc := "()J" } : Jvm.MethodName) prog_1_method_8_code (1 : Nat) (Option.some Jvm.ClassFile.FieldType.long), Jvm.Cond.code ({ cls := "com/example/vacancy/vacancy/capacity/ClusterShape", name := "coresPerNode", desc := "()J" } : Jvm.MethodName) prog_1_method_9_code (1 : Nat) (Option.some Jvm.ClassFile.FieldType.long)]
set_option maxRecDepth 65536 in
theorem codes_eq : words1.filter isCode = codes1 := rfl
theorem w_codes : ∀ c ∈ words1.filter isCode, c.before args0 about1 = true := by
  rw [codes_eq]
  intro c hc
  simp only [codes1, List.mem_cons, List.not_mem_nil, or_false] at hc
  rcases hc with rfl | rfl | rfl | rfl | rfl | rfl | rfl | rfl
  · exact w_c0
  · exact w_c1
  · exact w_c2
  · exact w_c3
  · exact w_c4
  · exact w_c5
  · exact w_c6
  · exact w_c7
set_option maxRecDepth 65536 in
theorem w_t1 : (words1.take 24).all (fun c => isCode c || c.before args0 about1) = true := by decide +kernel
set_option maxRecDepth 65536 in
theorem w_t2 : (words1.drop 24).all (fun c => isCode c || c.before args0 about1) = true := by decide +kernel
theorem w_tables : (allAtoms (Jvm.Cond.code x code maxLocals ret :: tables_1)).before args0 about1 = true := by
  rw [allAtoms_all]
  show words1.all (fun c => c.before args0 about1) = true
  refine all_split ?_ w_codes
  rw [← List.take_append_drop 24 words1, List.all_append, w_t1, w_t2]
  rfl
set_option maxRecDepth 65536 in
theorem w_case : (Jvm.Cond.and given_1 narrow_1).before args0 about1 = true := by decide +kernel
theorem w_applies : (headSpec (Jvm.Cond.code x code maxLocals ret :: tables_1) room_1).applies x e0.platform about1 = true :=
  (Spec.applies_iff w_frames).mpr ⟨w_running, w_runnable, w_alone, w_named, w_hears, w_ripe, w_room, w_tables⟩
theorem atStart : AtStart classFile x code maxLocals ret World_1 tables_1 room_1 Calls_1 rest_1 Pre_1 launch0 p0 e0 about1 theMethod args0 below0 :=
  ⟨lists_1, trivial, launch0.admits_env _ _ _, launch0.least_env, fairChoices_fair.cas, fairChoices_fair.clock, w_frames, w_args, w_heap, w_applies, trivial, trivial, w_case⟩
end start1
theorem witness_1 : WitnessClaimed_1 := ⟨start1.p0, start1.e0, start1.about1, start1.theMethod, start1.args0, start1.below0, start1.atStart⟩
end Jvm.Pilot.@@N@@
