import JvmDerived
import JvmDerived.Pilot.@@N@@Statement
import JvmDerived.Pilot.@@N@@Code
set_option linter.unusedVariables false
set_option linter.unusedSimpArgs false
namespace Jvm.Pilot.@@N@@
open Jvm Jvm.ClassFile Sem Op Lib Jvm.Free Jvm.Stand Jvm.LawKit Jvm.RoadKit Bundle Jvm.Pilot.@@N@@.Jvm.D
/-- where the walk of one body stands, and what it knows throughout -/
def own_S (p : Program) (l : Launch) (e : Env) (R : Room) (s : State) (m : MethodId) (av : Array Value) (below : List Frame) (meth : Method) (c : Code) (Z : State) (y : MethodName) (co : ByteArray) (ml : Nat) (rt : Option FieldType) (n0 : Nat) (T : State) (ce sl : Nat) (h : Heap) : Prop :=
  (p.tables.exec = Jvm.exec ∧ c.code = co ∧ c.maxLocals = ml ∧ s.vm.findClass y.cls = some m.cls ∧ meth.name = y.name ∧ meth.sig.returnType = rt ∧ meth.locks = false ∧ Z.Warmed39 s.vm) ∧
  ∃ locs, Stand p l e R s m av below meth c T locs ce sl ∧ Fr n0 locs ∧ T.heap = h ∧ n0 ≤ s.heap.size
/-- from T at the frame g the run comes to a return of which Q holds -/
def own_Fin (p : Program) (e : Env) (below : List Frame) (s : State) (n0 : Nat) (Q : Option Value → Heap → Prop) (k n : Nat) (T : State) (g : JFrame) : Prop :=
  ∃ t o, Steps p.tables e below (T.setTop g) t ∧ t.status = .running ∧ Ended t below o ∧ ∃ v L, o = .returned v ∧ (Fr n0 L ∧ Q v t.heap) ∧ FrameEnd s o t L k n
/-- a body's contract -/
def own_Met (l : Launch) (Z : State) (y : MethodName) (co : ByteArray) (ml : Nat) (rt : Option FieldType) (ws : List Jvm.Cond) (rm : Room) (av : Array Value) (h0 : Heap) (n0 : Nat) (Q : Option Value → Heap → Prop) : Prop :=
  MetFree l y (head1 (Jvm.Cond.code y co ml rt :: ws) rm) (fun a U => a = av ∧ Z.Warmed39 U.vm ∧ U.heap = h0) (fun _ _ _ _ _ => True) (fun _ U o U' => ∃ v L, o = .returned v ∧ (Fr n0 L ∧ Q v U'.heap) ∧ FrameEnd U o U' L rm.cells rm.slots)
section Own
variable {p : Program} {l : Launch} {e : Env} {R : Room} {s : State} {m : MethodId} {av : Array Value} {below : List Frame} {meth : Method} {c : Code} {Z : State} {y : MethodName} {co : ByteArray} {ml : Nat} {rt : Option FieldType} {n0 : Nat} {T : State} {ce sl : Nat} {h : Heap} {Q : Option Value → Heap → Prop} {k n : Nat} {a0 : Array Value} {pc : Nat} {Ls : Array Slot} {st : List Value}
theorem own_met {ws : List Jvm.Cond} {rm : Room} {h0 : Heap} (hp : plainFor y = true) (hn : n0 ≤ h0.size)
    (H : ∀ (p : Program) (e : Env) (s : State) (m : MethodId) (below : List Frame) (meth : Method) (c : Code) (T : State), own_S p l e rm s m av below meth c Z y co ml rt n0 T 0 0 h0 → own_Fin p e below s n0 Q rm.cells rm.slots T (entryFrame m av ml)) : own_Met l Z y co ml rt ws rm av h0 n0 Q := by
  refine MetFree.of_bodySF hp hisR ?_
  intro p e s m args below meth c s₁ Bd hml0 hP hK
  obtain ⟨rfl, hZ, hh⟩ := hP
  have e0 : s₁.heap = h0 := by rw [← hh, Bd.state]; rfl
  exact H p e s m below meth c s₁ ⟨⟨Bd.exec, Bd.bytes, hml0, findClass_of_methodNamed Bd.named, (name_of_methodNamed Bd.named Bd.method).1, Bd.returns, BodyLoose.notSynchronized Bd, hZ⟩, [], Stand.of_body Bd, Fr.nil n0, e0, by rw [hh]; exact hn⟩
theorem own_go {T T' : State} {g g' : JFrame} (st : ∀ target, Steps p.tables e below (T'.setTop g') target → Steps p.tables e below (T.setTop g) target) (H : own_Fin p e below s n0 Q k n T' g') : own_Fin p e below s n0 Q k n T g := by
  obtain ⟨t, o, h1, r⟩ := H
  exact ⟨t, o, st t h1, r⟩
theorem own_goT {T T' : State} {g g' : JFrame} (st : Steps p.tables e below (T.setTop g) (T'.setTop g')) (H : own_Fin p e below s n0 Q k n T' g') : own_Fin p e below s n0 Q k n T g := by
  obtain ⟨t, o, h1, r⟩ := H
  exact ⟨t, o, st.trans h1, r⟩
theorem own_cast {g g' : JFrame} (q : g = g') (H : own_Fin p e below s n0 Q k n T g') : own_Fin p e below s n0 Q k n T g := q ▸ H
theorem own_size (X : own_S p l e R s m av below meth c Z y co ml rt n0 T ce sl h) : n0 ≤ h.size := by
  obtain ⟨-, locs, X, -, rfl, hn⟩ := X
  exact Nat.le_trans hn X.same.2.1
theorem own_wider (X : own_S p l e R s m av below meth c Z y co ml rt n0 T ce sl h) {ce' sl' : Nat} (h1 : ce ≤ ce') (h2 : sl ≤ sl') : own_S p l e R s m av below meth c Z y co ml rt n0 T ce' sl' h := by
  obtain ⟨C, locs, X, r⟩ := X
  exact ⟨C, locs, X.more h1 h2, r⟩
/-- numbers: from Int to the ints' own order -/
theorem own_cLt {x y : Int32} {a b : Int} (hx : x.toInt = a) (hy : y.toInt = b) (q : a < b) : x < y := by rw [Int32.lt_iff_toInt_lt, hx, hy]; exact q
theorem own_cGe {x y : Int32} {a b : Int} (hx : x.toInt = a) (hy : y.toInt = b) (q : ¬ a < b) : ¬ x < y := by rw [Int32.lt_iff_toInt_lt, hx, hy]; exact q
theorem own_cEq {x y : Int32} {a b : Int} (hx : x.toInt = a) (hy : y.toInt = b) (q : a = b) : x = y := Int32.toInt_inj.mp (by rw [hx, hy]; exact q)
theorem own_cNe {x y : Int32} {a b : Int} (hx : x.toInt = a) (hy : y.toInt = b) (q : ¬ a = b) : ¬ x = y := fun r => q (by rw [← hx, ← hy, r])
theorem own_cEqJ {x y : Int64} {a b : Int} (hx : x.toInt = a) (hy : y.toInt = b) (q : a = b) : x = y := Int64.toInt_inj.mp (by rw [hx, hy]; exact q)
theorem own_nzI {y : Int32} (q : y.toInt ≠ 0) : y ≠ 0 := fun r => q (by rw [r]; rfl)
theorem own_nzJ {y : Int64} (q : y.toInt ≠ 0) : y ≠ 0 := fun r => q (by rw [r]; rfl)
theorem own_lLt {x y : Int64} {a b : Int} (hx : x.toInt = a) (hy : y.toInt = b) (q : a < b) : lcmpW x y < 0 := (lw_lt x y).mpr (by rw [Int64.lt_iff_toInt_lt, hx, hy]; exact q)
theorem own_lGe {x y : Int64} {a b : Int} (hx : x.toInt = a) (hy : y.toInt = b) (q : ¬ a < b) : ¬ lcmpW x y < 0 := fun r => q (by have := (lw_lt x y).mp r; rw [Int64.lt_iff_toInt_lt, hx, hy] at this; exact this)
theorem own_lGt {x y : Int64} {a b : Int} (hx : x.toInt = a) (hy : y.toInt = b) (q : b < a) : 0 < lcmpW x y := (lw_gt x y).mpr (by rw [Int64.lt_iff_toInt_lt, hx, hy]; exact q)
theorem own_lLe {x y : Int64} {a b : Int} (hx : x.toInt = a) (hy : y.toInt = b) (q : ¬ b < a) : ¬ 0 < lcmpW x y := fun r => q (by have := (lw_gt x y).mp r; rw [Int64.lt_iff_toInt_lt, hx, hy] at this; exact this)
theorem own_lEq {x y : Int64} {a b : Int} (hx : x.toInt = a) (hy : y.toInt = b) (q : a = b) : lcmpW x y = 0 := (lw_eq x y).mpr (Int64.toInt_inj.mp (by rw [hx, hy]; exact q))
theorem own_lNe {x y : Int64} {a b : Int} (hx : x.toInt = a) (hy : y.toInt = b) (q : ¬ a = b) : ¬ lcmpW x y = 0 := fun r => q (by rw [← hx, ← hy, (lw_eq x y).mp r])
theorem own_emod_le {a b : Int} (h1 : 0 ≤ a) (h2 : 0 < b) : a % b ≤ a := by
  by_cases q : a < b
  · rw [Int.emod_eq_of_lt h1 q]; omega
  · have := Int.emod_lt_of_pos a h2; omega
theorem own_i2b2 (x : Int32) : x.toInt8.toInt32.toInt8.toInt32 = x.toInt8.toInt32 := by
  have h1 := c_i2b x
  have h2 := c_i2b x.toInt8.toInt32
  apply Int32.toInt_inj.mp; omega
theorem own_and1 (x : Int32) (h : x = 0 ∨ x = 1) : x &&& 1 = x := by rcases h with rfl | rfl <;> rfl
theorem own_aloadN (X : own_S p l e R s m av below meth c Z y co ml rt n0 T ce sl h) {i : Fin 4} {v : Value} (hd : decode co pc = .ok (.aload_n i, 1)) (hl : Ls[i.val]? = some (.val v)) (hv : v.isRef = true) (H : own_Fin p e below s n0 Q k n T (mkF m (pc + 1) Ls (v :: st))) : own_Fin p e below s n0 Q k n T (mkF m pc Ls (st)) := by
  obtain ⟨⟨hx, hby, -⟩, locs, X, -⟩ := X
  exact own_go (fun _ q => XS.aloadN X.here hx rfl (hb hby hd) hl hv q) H
theorem own_aload (X : own_S p l e R s m av below meth c Z y co ml rt n0 T ce sl h) {i : Nat} {v : Value} (hd : decode co pc = .ok (.aload i, 2)) (hl : Ls[i]? = some (.val v)) (hv : v.isRef = true) (H : own_Fin p e below s n0 Q k n T (mkF m (pc + 2) Ls (v :: st))) : own_Fin p e below s n0 Q k n T (mkF m pc Ls (st)) := by
  obtain ⟨⟨hx, hby, -⟩, locs, X, -⟩ := X
  exact own_go (fun _ q => XS.aload X.here hx rfl (hb hby hd) hl hv q) H
theorem own_iloadN (X : own_S p l e R s m av below meth c Z y co ml rt n0 T ce sl h) {i : Fin 4} {v : Int32} (hd : decode co pc = .ok (.iload_n i, 1)) (hl : Ls[i.val]? = some (.val (.int v))) (H : own_Fin p e below s n0 Q k n T (mkF m (pc + 1) Ls (.int v :: st))) : own_Fin p e below s n0 Q k n T (mkF m pc Ls (st)) := by
  obtain ⟨⟨hx, hby, -⟩, locs, X, -⟩ := X
  exact own_go (fun _ q => XS.iloadN X.here hx rfl (hb hby hd) hl q) H
theorem own_iload (X : own_S p l e R s m av below meth c Z y co ml rt n0 T ce sl h) {i : Nat} {v : Int32} (hd : decode co pc = .ok (.iload i, 2)) (hl : Ls[i]? = some (.val (.int v))) (H : own_Fin p e below s n0 Q k n T (mkF m (pc + 2) Ls (.int v :: st))) : own_Fin p e below s n0 Q k n T (mkF m pc Ls (st)) := by
  obtain ⟨⟨hx, hby, -⟩, locs, X, -⟩ := X
  exact own_go (fun _ q => XS.iload X.here hx rfl (hb hby hd) hl q) H
theorem own_lloadN (X : own_S p l e R s m av below meth c Z y co ml rt n0 T ce sl h) {i : Fin 4} {v : Int64} (hd : decode co pc = .ok (.lload_n i, 1)) (hl : Ls[i.val]? = some (.val (.long v))) (H : own_Fin p e below s n0 Q k n T (mkF m (pc + 1) Ls (.long v :: st))) : own_Fin p e below s n0 Q k n T (mkF m pc Ls (st)) := by
  obtain ⟨⟨hx, hby, -⟩, locs, X, -⟩ := X
  exact own_go (fun _ q => XS.lloadN X.here hx rfl (hb hby hd) hl q) H
theorem own_lload (X : own_S p l e R s m av below meth c Z y co ml rt n0 T ce sl h) {i : Nat} {v : Int64} (hd : decode co pc = .ok (.lload i, 2)) (hl : Ls[i]? = some (.val (.long v))) (H : own_Fin p e below s n0 Q k n T (mkF m (pc + 2) Ls (.long v :: st))) : own_Fin p e below s n0 Q k n T (mkF m pc Ls (st)) := by
  obtain ⟨⟨hx, hby, -⟩, locs, X, -⟩ := X
  exact own_go (fun _ q => XS.lload X.here hx rfl (hb hby hd) hl q) H
theorem own_istoreN (X : own_S p l e R s m av below meth c Z y co ml rt n0 T ce sl h) {i : Fin 4} {v : Int32} {L' : Array Slot} (hd : decode co pc = .ok (.istore_n i, 1)) (hl : storeLocals Ls i.val (.int v) = some L') (H : own_Fin p e below s n0 Q k n T (mkF m (pc + 1) L' (st))) : own_Fin p e below s n0 Q k n T (mkF m pc Ls (.int v :: st)) := by
  obtain ⟨⟨hx, hby, -⟩, locs, X, -⟩ := X
  exact own_go (fun _ q => XS.istoreN X.here hx rfl (hb hby hd) rfl hl q) H
theorem own_istore (X : own_S p l e R s m av below meth c Z y co ml rt n0 T ce sl h) {i : Nat} {v : Int32} {L' : Array Slot} (hd : decode co pc = .ok (.istore i, 2)) (hl : storeLocals Ls i (.int v) = some L') (H : own_Fin p e below s n0 Q k n T (mkF m (pc + 2) L' (st))) : own_Fin p e below s n0 Q k n T (mkF m pc Ls (.int v :: st)) := by
  obtain ⟨⟨hx, hby, -⟩, locs, X, -⟩ := X
  exact own_go (fun _ q => XS.istore X.here hx rfl (hb hby hd) rfl hl q) H
theorem own_lstoreN (X : own_S p l e R s m av below meth c Z y co ml rt n0 T ce sl h) {i : Fin 4} {v : Int64} {L' : Array Slot} (hd : decode co pc = .ok (.lstore_n i, 1)) (hl : storeLocals Ls i.val (.long v) = some L') (H : own_Fin p e below s n0 Q k n T (mkF m (pc + 1) L' (st))) : own_Fin p e below s n0 Q k n T (mkF m pc Ls (.long v :: st)) := by
  obtain ⟨⟨hx, hby, -⟩, locs, X, -⟩ := X
  exact own_go (fun _ q => XS.lstoreN X.here hx rfl (hb hby hd) rfl hl q) H
theorem own_lstore (X : own_S p l e R s m av below meth c Z y co ml rt n0 T ce sl h) {i : Nat} {v : Int64} {L' : Array Slot} (hd : decode co pc = .ok (.lstore i, 2)) (hl : storeLocals Ls i (.long v) = some L') (H : own_Fin p e below s n0 Q k n T (mkF m (pc + 2) L' (st))) : own_Fin p e below s n0 Q k n T (mkF m pc Ls (.long v :: st)) := by
  obtain ⟨⟨hx, hby, -⟩, locs, X, -⟩ := X
  exact own_go (fun _ q => XS.lstore X.here hx rfl (hb hby hd) rfl hl q) H
theorem own_astoreN (X : own_S p l e R s m av below meth c Z y co ml rt n0 T ce sl h) {i : Fin 4} {v : Value} {L' : Array Slot} (hd : decode co pc = .ok (.astore_n i, 1)) (hv : v.isRef = true) (hl : storeLocals Ls i.val v = some L') (H : own_Fin p e below s n0 Q k n T (mkF m (pc + 1) L' (st))) : own_Fin p e below s n0 Q k n T (mkF m pc Ls (v :: st)) := by
  obtain ⟨⟨hx, hby, -⟩, locs, X, -⟩ := X
  exact own_go (fun _ q => XS.astoreN X.here hx rfl (hb hby hd) rfl hv hl q) H
theorem own_astore (X : own_S p l e R s m av below meth c Z y co ml rt n0 T ce sl h) {i : Nat} {v : Value} {L' : Array Slot} (hd : decode co pc = .ok (.astore i, 2)) (hv : v.isRef = true) (hl : storeLocals Ls i v = some L') (H : own_Fin p e below s n0 Q k n T (mkF m (pc + 2) L' (st))) : own_Fin p e below s n0 Q k n T (mkF m pc Ls (v :: st)) := by
  obtain ⟨⟨hx, hby, -⟩, locs, X, -⟩ := X
  exact own_go (fun _ q => XS.astore X.here hx rfl (hb hby hd) rfl hv hl q) H
theorem own_iconst (X : own_S p l e R s m av below meth c Z y co ml rt n0 T ce sl h) {i : Int} (z : Int32) (hd : decode co pc = .ok (.iconst i, 1)) (hz : Int32.ofInt i = z) (H : own_Fin p e below s n0 Q k n T (mkF m (pc + 1) Ls (.int z :: st))) : own_Fin p e below s n0 Q k n T (mkF m pc Ls (st)) := by
  obtain ⟨⟨hx, hby, -⟩, locs, X, -⟩ := X
  exact own_go (fun _ q => XS.iconst X.here hx rfl (hb hby hd) (by rw [hz]; exact q)) H
theorem own_bipush (X : own_S p l e R s m av below meth c Z y co ml rt n0 T ce sl h) {i : Int} (z : Int32) (hd : decode co pc = .ok (.bipush i, 2)) (hz : (Int8.ofInt i).toInt32 = z) (H : own_Fin p e below s n0 Q k n T (mkF m (pc + 2) Ls (.int z :: st))) : own_Fin p e below s n0 Q k n T (mkF m pc Ls (st)) := by
  obtain ⟨⟨hx, hby, -⟩, locs, X, -⟩ := X
  exact own_go (fun _ q => XS.bipush X.here hx rfl (hb hby hd) (by rw [hz]; exact q)) H
theorem own_sipush (X : own_S p l e R s m av below meth c Z y co ml rt n0 T ce sl h) {i : Int} (z : Int32) (hd : decode co pc = .ok (.sipush i, 3)) (hz : (Int16.ofInt i).toInt32 = z) (H : own_Fin p e below s n0 Q k n T (mkF m (pc + 3) Ls (.int z :: st))) : own_Fin p e below s n0 Q k n T (mkF m pc Ls (st)) := by
  obtain ⟨⟨hx, hby, -⟩, locs, X, -⟩ := X
  exact own_go (fun _ q => XS.sipush X.here hx rfl (hb hby hd) (by rw [hz]; exact q)) H
theorem own_lconst0 (X : own_S p l e R s m av below meth c Z y co ml rt n0 T ce sl h) (hd : decode co pc = .ok (.lconst 0, 1)) (H : own_Fin p e below s n0 Q k n T (mkF m (pc + 1) Ls (.long 0 :: st))) : own_Fin p e below s n0 Q k n T (mkF m pc Ls (st)) := by
  obtain ⟨⟨hx, hby, -⟩, locs, X, -⟩ := X
  exact own_go (fun _ q => XS.lconst X.here hx rfl (hb hby hd) q) H
theorem own_lconst1 (X : own_S p l e R s m av below meth c Z y co ml rt n0 T ce sl h) (hd : decode co pc = .ok (.lconst 1, 1)) (H : own_Fin p e below s n0 Q k n T (mkF m (pc + 1) Ls (.long 1 :: st))) : own_Fin p e below s n0 Q k n T (mkF m pc Ls (st)) := by
  obtain ⟨⟨hx, hby, -⟩, locs, X, -⟩ := X
  exact own_go (fun _ q => XS.lconst X.here hx rfl (hb hby hd) q) H
theorem own_aconstNull (X : own_S p l e R s m av below meth c Z y co ml rt n0 T ce sl h) (hd : decode co pc = .ok (.aconst_null, 1)) (H : own_Fin p e below s n0 Q k n T (mkF m (pc + 1) Ls (.null :: st))) : own_Fin p e below s n0 Q k n T (mkF m pc Ls (st)) := by
  obtain ⟨⟨hx, hby, -⟩, locs, X, -⟩ := X
  exact own_go (fun _ q => XS.aconstNull X.here hx rfl (hb hby hd) q) H
theorem own_iaddE (X : own_S p l e R s m av below meth c Z y co ml rt n0 T ce sl h) {x : Int32} {y' : Int32} (hd : decode co pc = .ok (.iadd, 1)) (z : Int32) (hz : x + y' = z) (H : own_Fin p e below s n0 Q k n T (mkF m (pc + 1) Ls (.int z :: st))) : own_Fin p e below s n0 Q k n T (mkF m pc Ls (.int y' :: .int x :: st)) := by
  subst hz
  obtain ⟨⟨hx, hby, -⟩, locs, X, -⟩ := X
  exact own_go (fun _ q => XS.iadd X.here hx rfl (hb hby hd) rfl q) H
theorem own_iaddV (X : own_S p l e R s m av below meth c Z y co ml rt n0 T ce sl h) {x : Int32} {y' : Int32} (a b : Int) (hd : decode co pc = .ok (.iadd, 1)) (hxa : x.toInt = a) (hyb : y'.toInt = b) (H : ∀ v : Int32, x + y' = v → (v.toInt - (a + b)) % 4294967296 = 0 → -2147483648 ≤ v.toInt → v.toInt < 2147483648 → own_Fin p e below s n0 Q k n T (mkF m (pc + 1) Ls (.int v :: st))) : own_Fin p e below s n0 Q k n T (mkF m pc Ls (.int y' :: .int x :: st)) := by
  exact own_iaddE X hd _ rfl (H _ rfl (by subst hxa hyb; exact c_iadd x y') (rng32 _).1 (rng32 _).2)
theorem own_isubE (X : own_S p l e R s m av below meth c Z y co ml rt n0 T ce sl h) {x : Int32} {y' : Int32} (hd : decode co pc = .ok (.isub, 1)) (z : Int32) (hz : x - y' = z) (H : own_Fin p e below s n0 Q k n T (mkF m (pc + 1) Ls (.int z :: st))) : own_Fin p e below s n0 Q k n T (mkF m pc Ls (.int y' :: .int x :: st)) := by
  subst hz
  obtain ⟨⟨hx, hby, -⟩, locs, X, -⟩ := X
  exact own_go (fun _ q => XS.isub X.here hx rfl (hb hby hd) rfl q) H
theorem own_isubV (X : own_S p l e R s m av below meth c Z y co ml rt n0 T ce sl h) {x : Int32} {y' : Int32} (a b : Int) (hd : decode co pc = .ok (.isub, 1)) (hxa : x.toInt = a) (hyb : y'.toInt = b) (H : ∀ v : Int32, x - y' = v → (v.toInt - (a - b)) % 4294967296 = 0 → -2147483648 ≤ v.toInt → v.toInt < 2147483648 → own_Fin p e below s n0 Q k n T (mkF m (pc + 1) Ls (.int v :: st))) : own_Fin p e below s n0 Q k n T (mkF m pc Ls (.int y' :: .int x :: st)) := by
  exact own_isubE X hd _ rfl (H _ rfl (by subst hxa hyb; exact c_isub x y') (rng32 _).1 (rng32 _).2)
theorem own_imulE (X : own_S p l e R s m av below meth c Z y co ml rt n0 T ce sl h) {x : Int32} {y' : Int32} (hd : decode co pc = .ok (.imul, 1)) (z : Int32) (hz : x * y' = z) (H : own_Fin p e below s n0 Q k n T (mkF m (pc + 1) Ls (.int z :: st))) : own_Fin p e below s n0 Q k n T (mkF m pc Ls (.int y' :: .int x :: st)) := by
  subst hz
  obtain ⟨⟨hx, hby, -⟩, locs, X, -⟩ := X
  exact own_go (fun _ q => XS.imul X.here hx rfl (hb hby hd) rfl q) H
theorem own_imulV (X : own_S p l e R s m av below meth c Z y co ml rt n0 T ce sl h) {x : Int32} {y' : Int32} (a b : Int) (hd : decode co pc = .ok (.imul, 1)) (hxa : x.toInt = a) (hyb : y'.toInt = b) (H : ∀ v : Int32, x * y' = v → (v.toInt - (a * b)) % 4294967296 = 0 → -2147483648 ≤ v.toInt → v.toInt < 2147483648 → own_Fin p e below s n0 Q k n T (mkF m (pc + 1) Ls (.int v :: st))) : own_Fin p e below s n0 Q k n T (mkF m pc Ls (.int y' :: .int x :: st)) := by
  exact own_imulE X hd _ rfl (H _ rfl (by subst hxa hyb; exact c_imul x y') (rng32 _).1 (rng32 _).2)
theorem own_iandE (X : own_S p l e R s m av below meth c Z y co ml rt n0 T ce sl h) {x : Int32} {y' : Int32} (hd : decode co pc = .ok (.iand, 1)) (z : Int32) (hz : x &&& y' = z) (H : own_Fin p e below s n0 Q k n T (mkF m (pc + 1) Ls (.int z :: st))) : own_Fin p e below s n0 Q k n T (mkF m pc Ls (.int y' :: .int x :: st)) := by
  subst hz
  obtain ⟨⟨hx, hby, -⟩, locs, X, -⟩ := X
  exact own_go (fun _ q => XS.iand X.here hx rfl (hb hby hd) rfl q) H
theorem own_iandV (X : own_S p l e R s m av below meth c Z y co ml rt n0 T ce sl h) {x : Int32} {y' : Int32}  (hd : decode co pc = .ok (.iand, 1))  (H : ∀ v : Int32, x &&& y' = v → -2147483648 ≤ v.toInt → v.toInt < 2147483648 → own_Fin p e below s n0 Q k n T (mkF m (pc + 1) Ls (.int v :: st))) : own_Fin p e below s n0 Q k n T (mkF m pc Ls (.int y' :: .int x :: st)) := by
  exact own_iandE X hd _ rfl (H _ rfl (rng32 _).1 (rng32 _).2)
theorem own_iandM (X : own_S p l e R s m av below meth c Z y co ml rt n0 T ce sl h) {x : Int32} {y' : Int32} (a : Int) (kk : Nat) (P : Int) (hd : decode co pc = .ok (.iand, 1)) (hxa : x.toInt = a) (hk : kk ≤ 31) (hm : y'.toBitVec.toNat = 2 ^ kk - 1) (hP : ((2 ^ kk : Nat) : Int) = P) (H : ∀ v : Int32, x &&& y' = v → v.toInt = a % P → -2147483648 ≤ v.toInt → v.toInt < 2147483648 → own_Fin p e below s n0 Q k n T (mkF m (pc + 1) Ls (.int v :: st))) : own_Fin p e below s n0 Q k n T (mkF m pc Ls (.int y' :: .int x :: st)) := by
  exact own_iandE X hd _ rfl (H _ rfl (by subst hxa hP; exact c_mask x y' kk hk hm) (rng32 _).1 (rng32 _).2)
theorem own_iandB (X : own_S p l e R s m av below meth c Z y co ml rt n0 T ce sl h) {x : Int32} {y' : Int32} (b : Int) (hd : decode co pc = .ok (.iand, 1)) (hyb : y'.toInt = b) (hb0 : 0 ≤ b) (H : ∀ v : Int32, x &&& y' = v → 0 ≤ v.toInt ∧ v.toInt ≤ b → -2147483648 ≤ v.toInt → v.toInt < 2147483648 → own_Fin p e below s n0 Q k n T (mkF m (pc + 1) Ls (.int v :: st))) : own_Fin p e below s n0 Q k n T (mkF m pc Ls (.int y' :: .int x :: st)) := by
  exact own_iandE X hd _ rfl (H _ rfl (by subst hyb; exact c_and x y' hb0) (rng32 _).1 (rng32 _).2)
theorem own_iorE (X : own_S p l e R s m av below meth c Z y co ml rt n0 T ce sl h) {x : Int32} {y' : Int32} (hd : decode co pc = .ok (.ior, 1)) (z : Int32) (hz : x ||| y' = z) (H : own_Fin p e below s n0 Q k n T (mkF m (pc + 1) Ls (.int z :: st))) : own_Fin p e below s n0 Q k n T (mkF m pc Ls (.int y' :: .int x :: st)) := by
  subst hz
  obtain ⟨⟨hx, hby, -⟩, locs, X, -⟩ := X
  exact own_go (fun _ q => XS.ior X.here hx rfl (hb hby hd) rfl q) H
theorem own_iorV (X : own_S p l e R s m av below meth c Z y co ml rt n0 T ce sl h) {x : Int32} {y' : Int32}  (hd : decode co pc = .ok (.ior, 1))  (H : ∀ v : Int32, x ||| y' = v → -2147483648 ≤ v.toInt → v.toInt < 2147483648 → own_Fin p e below s n0 Q k n T (mkF m (pc + 1) Ls (.int v :: st))) : own_Fin p e below s n0 Q k n T (mkF m pc Ls (.int y' :: .int x :: st)) := by
  exact own_iorE X hd _ rfl (H _ rfl (rng32 _).1 (rng32 _).2)
theorem own_iorM (X : own_S p l e R s m av below meth c Z y co ml rt n0 T ce sl h) {x : Int32} {y' : Int32} (a b : Int) (kk : Nat) (P : Int) (hd : decode co pc = .ok (.ior, 1)) (hxa : x.toInt = a) (hyb : y'.toInt = b) (hk : kk ≤ 31) (hP : P = ((2 ^ kk : Nat) : Int)) (q1 : a % P = 0) (q2 : 0 ≤ b) (q3 : b < P) (H : ∀ v : Int32, x ||| y' = v → (v.toInt - (a + b)) % 4294967296 = 0 → -2147483648 ≤ v.toInt → v.toInt < 2147483648 → own_Fin p e below s n0 Q k n T (mkF m (pc + 1) Ls (.int v :: st))) : own_Fin p e below s n0 Q k n T (mkF m pc Ls (.int y' :: .int x :: st)) := by
  exact own_iorE X hd _ rfl (H _ rfl (by subst hxa hyb; exact c_or x y' kk hk P hP q1 q2 q3) (rng32 _).1 (rng32 _).2)
theorem own_iorR (X : own_S p l e R s m av below meth c Z y co ml rt n0 T ce sl h) {x : Int32} {y' : Int32} (a b : Int) (kk : Nat) (P : Int) (hd : decode co pc = .ok (.ior, 1)) (hxa : x.toInt = a) (hyb : y'.toInt = b) (hk : kk ≤ 31) (hP : P = ((2 ^ kk : Nat) : Int)) (q1 : b % P = 0) (q2 : 0 ≤ a) (q3 : a < P) (H : ∀ v : Int32, x ||| y' = v → (v.toInt - (a + b)) % 4294967296 = 0 → -2147483648 ≤ v.toInt → v.toInt < 2147483648 → own_Fin p e below s n0 Q k n T (mkF m (pc + 1) Ls (.int v :: st))) : own_Fin p e below s n0 Q k n T (mkF m pc Ls (.int y' :: .int x :: st)) := by
  exact own_iorE X hd _ rfl (H _ rfl (by subst hxa hyb; have q := c_or y' x kk hk P hP q1 q2 q3; rw [Int32.or_comm] at q; omega) (rng32 _).1 (rng32 _).2)
theorem own_ixorE (X : own_S p l e R s m av below meth c Z y co ml rt n0 T ce sl h) {x : Int32} {y' : Int32} (hd : decode co pc = .ok (.ixor, 1)) (z : Int32) (hz : x ^^^ y' = z) (H : own_Fin p e below s n0 Q k n T (mkF m (pc + 1) Ls (.int z :: st))) : own_Fin p e below s n0 Q k n T (mkF m pc Ls (.int y' :: .int x :: st)) := by
  subst hz
  obtain ⟨⟨hx, hby, -⟩, locs, X, -⟩ := X
  exact own_go (fun _ q => XS.ixor X.here hx rfl (hb hby hd) rfl q) H
theorem own_ixorV (X : own_S p l e R s m av below meth c Z y co ml rt n0 T ce sl h) {x : Int32} {y' : Int32}  (hd : decode co pc = .ok (.ixor, 1))  (H : ∀ v : Int32, x ^^^ y' = v → -2147483648 ≤ v.toInt → v.toInt < 2147483648 → own_Fin p e below s n0 Q k n T (mkF m (pc + 1) Ls (.int v :: st))) : own_Fin p e below s n0 Q k n T (mkF m pc Ls (.int y' :: .int x :: st)) := by
  exact own_ixorE X hd _ rfl (H _ rfl (rng32 _).1 (rng32 _).2)
theorem own_ishlE (X : own_S p l e R s m av below meth c Z y co ml rt n0 T ce sl h) {x : Int32} {y' : Int32} (hd : decode co pc = .ok (.ishl, 1)) (z : Int32) (hz : x <<< (y' &&& 31) = z) (H : own_Fin p e below s n0 Q k n T (mkF m (pc + 1) Ls (.int z :: st))) : own_Fin p e below s n0 Q k n T (mkF m pc Ls (.int y' :: .int x :: st)) := by
  subst hz
  obtain ⟨⟨hx, hby, -⟩, locs, X, -⟩ := X
  exact own_go (fun _ q => XS.ishl X.here hx rfl (hb hby hd) rfl q) H
theorem own_ishlV (X : own_S p l e R s m av below meth c Z y co ml rt n0 T ce sl h) {x : Int32} {y' : Int32}  (hd : decode co pc = .ok (.ishl, 1))  (H : ∀ v : Int32, x <<< (y' &&& 31) = v → -2147483648 ≤ v.toInt → v.toInt < 2147483648 → own_Fin p e below s n0 Q k n T (mkF m (pc + 1) Ls (.int v :: st))) : own_Fin p e below s n0 Q k n T (mkF m pc Ls (.int y' :: .int x :: st)) := by
  exact own_ishlE X hd _ rfl (H _ rfl (rng32 _).1 (rng32 _).2)
theorem own_ishlK (X : own_S p l e R s m av below meth c Z y co ml rt n0 T ce sl h) {x : Int32} {y' : Int32} (a : Int) (kk : Nat) (P : Int) (hd : decode co pc = .ok (.ishl, 1)) (hxa : x.toInt = a) (hk : y'.toBitVec.toNat % 32 = kk) (hP : ((2 ^ kk : Nat) : Int) = P) (H : ∀ v : Int32, x <<< (y' &&& 31) = v → (v.toInt - a * P) % 4294967296 = 0 → -2147483648 ≤ v.toInt → v.toInt < 2147483648 → own_Fin p e below s n0 Q k n T (mkF m (pc + 1) Ls (.int v :: st))) : own_Fin p e below s n0 Q k n T (mkF m pc Ls (.int y' :: .int x :: st)) := by
  exact own_ishlE X hd _ rfl (H _ rfl (by subst hxa hP; exact c_ishl x y' kk hk) (rng32 _).1 (rng32 _).2)
theorem own_ishrE (X : own_S p l e R s m av below meth c Z y co ml rt n0 T ce sl h) {x : Int32} {y' : Int32} (hd : decode co pc = .ok (.ishr, 1)) (z : Int32) (hz : x >>> (y' &&& 31) = z) (H : own_Fin p e below s n0 Q k n T (mkF m (pc + 1) Ls (.int z :: st))) : own_Fin p e below s n0 Q k n T (mkF m pc Ls (.int y' :: .int x :: st)) := by
  subst hz
  obtain ⟨⟨hx, hby, -⟩, locs, X, -⟩ := X
  exact own_go (fun _ q => XS.ishr X.here hx rfl (hb hby hd) rfl q) H
theorem own_ishrV (X : own_S p l e R s m av below meth c Z y co ml rt n0 T ce sl h) {x : Int32} {y' : Int32}  (hd : decode co pc = .ok (.ishr, 1))  (H : ∀ v : Int32, x >>> (y' &&& 31) = v → -2147483648 ≤ v.toInt → v.toInt < 2147483648 → own_Fin p e below s n0 Q k n T (mkF m (pc + 1) Ls (.int v :: st))) : own_Fin p e below s n0 Q k n T (mkF m pc Ls (.int y' :: .int x :: st)) := by
  exact own_ishrE X hd _ rfl (H _ rfl (rng32 _).1 (rng32 _).2)
theorem own_ishrK (X : own_S p l e R s m av below meth c Z y co ml rt n0 T ce sl h) {x : Int32} {y' : Int32} (a : Int) (kk : Nat) (P : Int) (hd : decode co pc = .ok (.ishr, 1)) (hxa : x.toInt = a) (hk : y'.toBitVec.toNat % 32 = kk) (hP : ((2 ^ kk : Nat) : Int) = P) (H : ∀ v : Int32, x >>> (y' &&& 31) = v → v.toInt = a / P → -2147483648 ≤ v.toInt → v.toInt < 2147483648 → own_Fin p e below s n0 Q k n T (mkF m (pc + 1) Ls (.int v :: st))) : own_Fin p e below s n0 Q k n T (mkF m pc Ls (.int y' :: .int x :: st)) := by
  exact own_ishrE X hd _ rfl (H _ rfl (by subst hxa hP; exact c_ishr x y' kk hk) (rng32 _).1 (rng32 _).2)
theorem own_iushrE (X : own_S p l e R s m av below meth c Z y co ml rt n0 T ce sl h) {x : Int32} {y' : Int32} (hd : decode co pc = .ok (.iushr, 1)) (z : Int32) (hz : (x.toUInt32 >>> (y' &&& 31).toUInt32).toInt32 = z) (H : own_Fin p e below s n0 Q k n T (mkF m (pc + 1) Ls (.int z :: st))) : own_Fin p e below s n0 Q k n T (mkF m pc Ls (.int y' :: .int x :: st)) := by
  subst hz
  obtain ⟨⟨hx, hby, -⟩, locs, X, -⟩ := X
  exact own_go (fun _ q => XS.iushr X.here hx rfl (hb hby hd) rfl q) H
theorem own_iushrV (X : own_S p l e R s m av below meth c Z y co ml rt n0 T ce sl h) {x : Int32} {y' : Int32}  (hd : decode co pc = .ok (.iushr, 1))  (H : ∀ v : Int32, (x.toUInt32 >>> (y' &&& 31).toUInt32).toInt32 = v → -2147483648 ≤ v.toInt → v.toInt < 2147483648 → own_Fin p e below s n0 Q k n T (mkF m (pc + 1) Ls (.int v :: st))) : own_Fin p e below s n0 Q k n T (mkF m pc Ls (.int y' :: .int x :: st)) := by
  exact own_iushrE X hd _ rfl (H _ rfl (rng32 _).1 (rng32 _).2)
theorem own_iushrK (X : own_S p l e R s m av below meth c Z y co ml rt n0 T ce sl h) {x : Int32} {y' : Int32} (a : Int) (kk : Nat) (P : Int) (hd : decode co pc = .ok (.iushr, 1)) (hxa : x.toInt = a) (hk : y'.toBitVec.toNat % 32 = kk) (hP : ((2 ^ kk : Nat) : Int) = P) (hk0 : 0 < kk) (H : ∀ v : Int32, (x.toUInt32 >>> (y' &&& 31).toUInt32).toInt32 = v → v.toInt = (a % 4294967296) / P → -2147483648 ≤ v.toInt → v.toInt < 2147483648 → own_Fin p e below s n0 Q k n T (mkF m (pc + 1) Ls (.int v :: st))) : own_Fin p e below s n0 Q k n T (mkF m pc Ls (.int y' :: .int x :: st)) := by
  exact own_iushrE X hd _ rfl (H _ rfl (by subst hxa hP; exact c_iushr x y' kk hk hk0) (rng32 _).1 (rng32 _).2)
theorem own_laddE (X : own_S p l e R s m av below meth c Z y co ml rt n0 T ce sl h) {x : Int64} {y' : Int64} (hd : decode co pc = .ok (.ladd, 1)) (z : Int64) (hz : x + y' = z) (H : own_Fin p e below s n0 Q k n T (mkF m (pc + 1) Ls (.long z :: st))) : own_Fin p e below s n0 Q k n T (mkF m pc Ls (.long y' :: .long x :: st)) := by
  subst hz
  obtain ⟨⟨hx, hby, -⟩, locs, X, -⟩ := X
  exact own_go (fun _ q => XS.ladd X.here hx rfl (hb hby hd) rfl q) H
theorem own_laddV (X : own_S p l e R s m av below meth c Z y co ml rt n0 T ce sl h) {x : Int64} {y' : Int64} (a b : Int) (hd : decode co pc = .ok (.ladd, 1)) (hxa : x.toInt = a) (hyb : y'.toInt = b) (H : ∀ v : Int64, x + y' = v → (v.toInt - (a + b)) % 18446744073709551616 = 0 → -9223372036854775808 ≤ v.toInt → v.toInt < 9223372036854775808 → own_Fin p e below s n0 Q k n T (mkF m (pc + 1) Ls (.long v :: st))) : own_Fin p e below s n0 Q k n T (mkF m pc Ls (.long y' :: .long x :: st)) := by
  exact own_laddE X hd _ rfl (H _ rfl (by subst hxa hyb; exact c_ladd x y') (rng64 _).1 (rng64 _).2)
theorem own_lsubE (X : own_S p l e R s m av below meth c Z y co ml rt n0 T ce sl h) {x : Int64} {y' : Int64} (hd : decode co pc = .ok (.lsub, 1)) (z : Int64) (hz : x - y' = z) (H : own_Fin p e below s n0 Q k n T (mkF m (pc + 1) Ls (.long z :: st))) : own_Fin p e below s n0 Q k n T (mkF m pc Ls (.long y' :: .long x :: st)) := by
  subst hz
  obtain ⟨⟨hx, hby, -⟩, locs, X, -⟩ := X
  exact own_go (fun _ q => XS.lsub X.here hx rfl (hb hby hd) rfl q) H
theorem own_lsubV (X : own_S p l e R s m av below meth c Z y co ml rt n0 T ce sl h) {x : Int64} {y' : Int64} (a b : Int) (hd : decode co pc = .ok (.lsub, 1)) (hxa : x.toInt = a) (hyb : y'.toInt = b) (H : ∀ v : Int64, x - y' = v → (v.toInt - (a - b)) % 18446744073709551616 = 0 → -9223372036854775808 ≤ v.toInt → v.toInt < 9223372036854775808 → own_Fin p e below s n0 Q k n T (mkF m (pc + 1) Ls (.long v :: st))) : own_Fin p e below s n0 Q k n T (mkF m pc Ls (.long y' :: .long x :: st)) := by
  exact own_lsubE X hd _ rfl (H _ rfl (by subst hxa hyb; exact c_lsub x y') (rng64 _).1 (rng64 _).2)
theorem own_lmulE (X : own_S p l e R s m av below meth c Z y co ml rt n0 T ce sl h) {x : Int64} {y' : Int64} (hd : decode co pc = .ok (.lmul, 1)) (z : Int64) (hz : x * y' = z) (H : own_Fin p e below s n0 Q k n T (mkF m (pc + 1) Ls (.long z :: st))) : own_Fin p e below s n0 Q k n T (mkF m pc Ls (.long y' :: .long x :: st)) := by
  subst hz
  obtain ⟨⟨hx, hby, -⟩, locs, X, -⟩ := X
  exact own_go (fun _ q => XS.lmul X.here hx rfl (hb hby hd) rfl q) H
theorem own_lmulV (X : own_S p l e R s m av below meth c Z y co ml rt n0 T ce sl h) {x : Int64} {y' : Int64} (a b : Int) (hd : decode co pc = .ok (.lmul, 1)) (hxa : x.toInt = a) (hyb : y'.toInt = b) (H : ∀ v : Int64, x * y' = v → (v.toInt - (a * b)) % 18446744073709551616 = 0 → -9223372036854775808 ≤ v.toInt → v.toInt < 9223372036854775808 → own_Fin p e below s n0 Q k n T (mkF m (pc + 1) Ls (.long v :: st))) : own_Fin p e below s n0 Q k n T (mkF m pc Ls (.long y' :: .long x :: st)) := by
  exact own_lmulE X hd _ rfl (H _ rfl (by subst hxa hyb; exact c_lmul x y') (rng64 _).1 (rng64 _).2)
theorem own_landE (X : own_S p l e R s m av below meth c Z y co ml rt n0 T ce sl h) {x : Int64} {y' : Int64} (hd : decode co pc = .ok (.land, 1)) (z : Int64) (hz : x &&& y' = z) (H : own_Fin p e below s n0 Q k n T (mkF m (pc + 1) Ls (.long z :: st))) : own_Fin p e below s n0 Q k n T (mkF m pc Ls (.long y' :: .long x :: st)) := by
  subst hz
  obtain ⟨⟨hx, hby, -⟩, locs, X, -⟩ := X
  exact own_go (fun _ q => XS.land X.here hx rfl (hb hby hd) rfl q) H
theorem own_landV (X : own_S p l e R s m av below meth c Z y co ml rt n0 T ce sl h) {x : Int64} {y' : Int64}  (hd : decode co pc = .ok (.land, 1))  (H : ∀ v : Int64, x &&& y' = v → -9223372036854775808 ≤ v.toInt → v.toInt < 9223372036854775808 → own_Fin p e below s n0 Q k n T (mkF m (pc + 1) Ls (.long v :: st))) : own_Fin p e below s n0 Q k n T (mkF m pc Ls (.long y' :: .long x :: st)) := by
  exact own_landE X hd _ rfl (H _ rfl (rng64 _).1 (rng64 _).2)
theorem own_landM (X : own_S p l e R s m av below meth c Z y co ml rt n0 T ce sl h) {x : Int64} {y' : Int64} (a : Int) (kk : Nat) (P : Int) (hd : decode co pc = .ok (.land, 1)) (hxa : x.toInt = a) (hk : kk ≤ 63) (hm : y'.toBitVec.toNat = 2 ^ kk - 1) (hP : ((2 ^ kk : Nat) : Int) = P) (H : ∀ v : Int64, x &&& y' = v → v.toInt = a % P → -9223372036854775808 ≤ v.toInt → v.toInt < 9223372036854775808 → own_Fin p e below s n0 Q k n T (mkF m (pc + 1) Ls (.long v :: st))) : own_Fin p e below s n0 Q k n T (mkF m pc Ls (.long y' :: .long x :: st)) := by
  exact own_landE X hd _ rfl (H _ rfl (by subst hxa hP; exact c_maskL x y' kk hk hm) (rng64 _).1 (rng64 _).2)
theorem own_lorE (X : own_S p l e R s m av below meth c Z y co ml rt n0 T ce sl h) {x : Int64} {y' : Int64} (hd : decode co pc = .ok (.lor, 1)) (z : Int64) (hz : x ||| y' = z) (H : own_Fin p e below s n0 Q k n T (mkF m (pc + 1) Ls (.long z :: st))) : own_Fin p e below s n0 Q k n T (mkF m pc Ls (.long y' :: .long x :: st)) := by
  subst hz
  obtain ⟨⟨hx, hby, -⟩, locs, X, -⟩ := X
  exact own_go (fun _ q => XS.lor X.here hx rfl (hb hby hd) rfl q) H
theorem own_lorV (X : own_S p l e R s m av below meth c Z y co ml rt n0 T ce sl h) {x : Int64} {y' : Int64}  (hd : decode co pc = .ok (.lor, 1))  (H : ∀ v : Int64, x ||| y' = v → -9223372036854775808 ≤ v.toInt → v.toInt < 9223372036854775808 → own_Fin p e below s n0 Q k n T (mkF m (pc + 1) Ls (.long v :: st))) : own_Fin p e below s n0 Q k n T (mkF m pc Ls (.long y' :: .long x :: st)) := by
  exact own_lorE X hd _ rfl (H _ rfl (rng64 _).1 (rng64 _).2)
theorem own_lxorE (X : own_S p l e R s m av below meth c Z y co ml rt n0 T ce sl h) {x : Int64} {y' : Int64} (hd : decode co pc = .ok (.lxor, 1)) (z : Int64) (hz : x ^^^ y' = z) (H : own_Fin p e below s n0 Q k n T (mkF m (pc + 1) Ls (.long z :: st))) : own_Fin p e below s n0 Q k n T (mkF m pc Ls (.long y' :: .long x :: st)) := by
  subst hz
  obtain ⟨⟨hx, hby, -⟩, locs, X, -⟩ := X
  exact own_go (fun _ q => XS.lxor X.here hx rfl (hb hby hd) rfl q) H
theorem own_lxorV (X : own_S p l e R s m av below meth c Z y co ml rt n0 T ce sl h) {x : Int64} {y' : Int64}  (hd : decode co pc = .ok (.lxor, 1))  (H : ∀ v : Int64, x ^^^ y' = v → -9223372036854775808 ≤ v.toInt → v.toInt < 9223372036854775808 → own_Fin p e below s n0 Q k n T (mkF m (pc + 1) Ls (.long v :: st))) : own_Fin p e below s n0 Q k n T (mkF m pc Ls (.long y' :: .long x :: st)) := by
  exact own_lxorE X hd _ rfl (H _ rfl (rng64 _).1 (rng64 _).2)
theorem own_lshlE (X : own_S p l e R s m av below meth c Z y co ml rt n0 T ce sl h) {x : Int64} {y' : Int32} (hd : decode co pc = .ok (.lshl, 1)) (z : Int64) (hz : x <<< (y' &&& 0x3f).toInt64 = z) (H : own_Fin p e below s n0 Q k n T (mkF m (pc + 1) Ls (.long z :: st))) : own_Fin p e below s n0 Q k n T (mkF m pc Ls (.int y' :: .long x :: st)) := by
  subst hz
  obtain ⟨⟨hx, hby, -⟩, locs, X, -⟩ := X
  exact own_go (fun _ q => XS.lshl X.here hx rfl (hb hby hd) rfl q) H
theorem own_lshlV (X : own_S p l e R s m av below meth c Z y co ml rt n0 T ce sl h) {x : Int64} {y' : Int32}  (hd : decode co pc = .ok (.lshl, 1))  (H : ∀ v : Int64, x <<< (y' &&& 0x3f).toInt64 = v → -9223372036854775808 ≤ v.toInt → v.toInt < 9223372036854775808 → own_Fin p e below s n0 Q k n T (mkF m (pc + 1) Ls (.long v :: st))) : own_Fin p e below s n0 Q k n T (mkF m pc Ls (.int y' :: .long x :: st)) := by
  exact own_lshlE X hd _ rfl (H _ rfl (rng64 _).1 (rng64 _).2)
theorem own_lshlK (X : own_S p l e R s m av below meth c Z y co ml rt n0 T ce sl h) {x : Int64} {y' : Int32} (a : Int) (kk : Nat) (P : Int) (hd : decode co pc = .ok (.lshl, 1)) (hxa : x.toInt = a) (hk : y'.toBitVec.toNat % 64 = kk) (hP : ((2 ^ kk : Nat) : Int) = P) (H : ∀ v : Int64, x <<< (y' &&& 0x3f).toInt64 = v → (v.toInt - a * P) % 18446744073709551616 = 0 → -9223372036854775808 ≤ v.toInt → v.toInt < 9223372036854775808 → own_Fin p e below s n0 Q k n T (mkF m (pc + 1) Ls (.long v :: st))) : own_Fin p e below s n0 Q k n T (mkF m pc Ls (.int y' :: .long x :: st)) := by
  exact own_lshlE X hd _ rfl (H _ rfl (by subst hxa hP; exact c_lshl x y' kk hk) (rng64 _).1 (rng64 _).2)
theorem own_lshrE (X : own_S p l e R s m av below meth c Z y co ml rt n0 T ce sl h) {x : Int64} {y' : Int32} (hd : decode co pc = .ok (.lshr, 1)) (z : Int64) (hz : x >>> (y' &&& 0x3f).toInt64 = z) (H : own_Fin p e below s n0 Q k n T (mkF m (pc + 1) Ls (.long z :: st))) : own_Fin p e below s n0 Q k n T (mkF m pc Ls (.int y' :: .long x :: st)) := by
  subst hz
  obtain ⟨⟨hx, hby, -⟩, locs, X, -⟩ := X
  exact own_go (fun _ q => XS.lshr X.here hx rfl (hb hby hd) rfl q) H
theorem own_lshrV (X : own_S p l e R s m av below meth c Z y co ml rt n0 T ce sl h) {x : Int64} {y' : Int32}  (hd : decode co pc = .ok (.lshr, 1))  (H : ∀ v : Int64, x >>> (y' &&& 0x3f).toInt64 = v → -9223372036854775808 ≤ v.toInt → v.toInt < 9223372036854775808 → own_Fin p e below s n0 Q k n T (mkF m (pc + 1) Ls (.long v :: st))) : own_Fin p e below s n0 Q k n T (mkF m pc Ls (.int y' :: .long x :: st)) := by
  exact own_lshrE X hd _ rfl (H _ rfl (rng64 _).1 (rng64 _).2)
theorem own_lshrK (X : own_S p l e R s m av below meth c Z y co ml rt n0 T ce sl h) {x : Int64} {y' : Int32} (a : Int) (kk : Nat) (P : Int) (hd : decode co pc = .ok (.lshr, 1)) (hxa : x.toInt = a) (hk : y'.toBitVec.toNat % 64 = kk) (hP : ((2 ^ kk : Nat) : Int) = P) (H : ∀ v : Int64, x >>> (y' &&& 0x3f).toInt64 = v → v.toInt = a / P → -9223372036854775808 ≤ v.toInt → v.toInt < 9223372036854775808 → own_Fin p e below s n0 Q k n T (mkF m (pc + 1) Ls (.long v :: st))) : own_Fin p e below s n0 Q k n T (mkF m pc Ls (.int y' :: .long x :: st)) := by
  exact own_lshrE X hd _ rfl (H _ rfl (by subst hxa hP; exact c_lshr x y' kk hk) (rng64 _).1 (rng64 _).2)
theorem own_lushrE (X : own_S p l e R s m av below meth c Z y co ml rt n0 T ce sl h) {x : Int64} {y' : Int32} (hd : decode co pc = .ok (.lushr, 1)) (z : Int64) (hz : (x.toUInt64 >>> (y' &&& 0x3f).toInt64.toUInt64).toInt64 = z) (H : own_Fin p e below s n0 Q k n T (mkF m (pc + 1) Ls (.long z :: st))) : own_Fin p e below s n0 Q k n T (mkF m pc Ls (.int y' :: .long x :: st)) := by
  subst hz
  obtain ⟨⟨hx, hby, -⟩, locs, X, -⟩ := X
  exact own_go (fun _ q => XS.lushr X.here hx rfl (hb hby hd) rfl q) H
theorem own_lushrV (X : own_S p l e R s m av below meth c Z y co ml rt n0 T ce sl h) {x : Int64} {y' : Int32}  (hd : decode co pc = .ok (.lushr, 1))  (H : ∀ v : Int64, (x.toUInt64 >>> (y' &&& 0x3f).toInt64.toUInt64).toInt64 = v → -9223372036854775808 ≤ v.toInt → v.toInt < 9223372036854775808 → own_Fin p e below s n0 Q k n T (mkF m (pc + 1) Ls (.long v :: st))) : own_Fin p e below s n0 Q k n T (mkF m pc Ls (.int y' :: .long x :: st)) := by
  exact own_lushrE X hd _ rfl (H _ rfl (rng64 _).1 (rng64 _).2)
theorem own_lushrK (X : own_S p l e R s m av below meth c Z y co ml rt n0 T ce sl h) {x : Int64} {y' : Int32} (a : Int) (kk : Nat) (P : Int) (hd : decode co pc = .ok (.lushr, 1)) (hxa : x.toInt = a) (hk : y'.toBitVec.toNat % 64 = kk) (hP : ((2 ^ kk : Nat) : Int) = P) (hk0 : 0 < kk) (H : ∀ v : Int64, (x.toUInt64 >>> (y' &&& 0x3f).toInt64.toUInt64).toInt64 = v → v.toInt = (a % 18446744073709551616) / P → -9223372036854775808 ≤ v.toInt → v.toInt < 9223372036854775808 → own_Fin p e below s n0 Q k n T (mkF m (pc + 1) Ls (.long v :: st))) : own_Fin p e below s n0 Q k n T (mkF m pc Ls (.int y' :: .long x :: st)) := by
  exact own_lushrE X hd _ rfl (H _ rfl (by subst hxa hP; exact c_lushr x y' kk hk hk0) (rng64 _).1 (rng64 _).2)
theorem own_iremE (X : own_S p l e R s m av below meth c Z y co ml rt n0 T ce sl h) {x : Int32} {y' : Int32} (hd : decode co pc = .ok (.irem, 1)) (hnz : y' ≠ 0) (z : Int32) (hz : x % y' = z) (H : own_Fin p e below s n0 Q k n T (mkF m (pc + 1) Ls (.int z :: st))) : own_Fin p e below s n0 Q k n T (mkF m pc Ls (.int y' :: .int x :: st)) := by
  subst hz
  obtain ⟨⟨hx, hby, -⟩, locs, X, -⟩ := X
  exact own_go (fun _ q => iremM X hx rfl (hb hby hd) rfl hnz q) H
theorem own_iremV (X : own_S p l e R s m av below meth c Z y co ml rt n0 T ce sl h) {x : Int32} {y' : Int32}  (hd : decode co pc = .ok (.irem, 1)) (hnz : y' ≠ 0)  (H : ∀ v : Int32, x % y' = v → -2147483648 ≤ v.toInt → v.toInt < 2147483648 → own_Fin p e below s n0 Q k n T (mkF m (pc + 1) Ls (.int v :: st))) : own_Fin p e below s n0 Q k n T (mkF m pc Ls (.int y' :: .int x :: st)) := by
  exact own_iremE X hd hnz _ rfl (H _ rfl (rng32 _).1 (rng32 _).2)
theorem own_iremK (X : own_S p l e R s m av below meth c Z y co ml rt n0 T ce sl h) {x : Int32} {y' : Int32} (a b : Int) (hd : decode co pc = .ok (.irem, 1)) (hnz : y' ≠ 0) (hxa : x.toInt = a) (hyb : y'.toInt = b) (H : ∀ v : Int32, x % y' = v → (0 ≤ a → v.toInt = a % b) ∧ (a < 0 → v.toInt = -((-a) % b)) → -2147483648 ≤ v.toInt → v.toInt < 2147483648 → own_Fin p e below s n0 Q k n T (mkF m (pc + 1) Ls (.int v :: st))) : own_Fin p e below s n0 Q k n T (mkF m pc Ls (.int y' :: .int x :: st)) := by
  exact own_iremE X hd hnz _ rfl (H _ rfl (by subst hxa; exact c_irem x y' b hyb) (rng32 _).1 (rng32 _).2)
theorem own_iremB (X : own_S p l e R s m av below meth c Z y co ml rt n0 T ce sl h) {x : Int32} {y' : Int32} (a b : Int) (hd : decode co pc = .ok (.irem, 1)) (hnz : y' ≠ 0) (hxa : x.toInt = a) (hyb : y'.toInt = b) (q1 : 0 ≤ a) (q2 : 0 < b) (H : ∀ v : Int32, x % y' = v → 0 ≤ v.toInt ∧ v.toInt < b ∧ v.toInt ≤ a → -2147483648 ≤ v.toInt → v.toInt < 2147483648 → own_Fin p e below s n0 Q k n T (mkF m (pc + 1) Ls (.int v :: st))) : own_Fin p e below s n0 Q k n T (mkF m pc Ls (.int y' :: .int x :: st)) := by
  exact own_iremE X hd hnz _ rfl (H _ rfl (by subst hxa hyb; have q := (c_iremV x y').1 q1 q2; exact ⟨q.1, q.2.1, q.2.2.1⟩) (rng32 _).1 (rng32 _).2)
theorem own_lremE (X : own_S p l e R s m av below meth c Z y co ml rt n0 T ce sl h) {x : Int64} {y' : Int64} (hd : decode co pc = .ok (.lrem, 1)) (hnz : y' ≠ 0) (z : Int64) (hz : x % y' = z) (H : own_Fin p e below s n0 Q k n T (mkF m (pc + 1) Ls (.long z :: st))) : own_Fin p e below s n0 Q k n T (mkF m pc Ls (.long y' :: .long x :: st)) := by
  subst hz
  obtain ⟨⟨hx, hby, -⟩, locs, X, -⟩ := X
  exact own_go (fun _ q => XS.lrem X.here hx rfl (hb hby hd) rfl hnz (by rw [lrem_mod]; exact q)) H
theorem own_lremV (X : own_S p l e R s m av below meth c Z y co ml rt n0 T ce sl h) {x : Int64} {y' : Int64}  (hd : decode co pc = .ok (.lrem, 1)) (hnz : y' ≠ 0)  (H : ∀ v : Int64, x % y' = v → -9223372036854775808 ≤ v.toInt → v.toInt < 9223372036854775808 → own_Fin p e below s n0 Q k n T (mkF m (pc + 1) Ls (.long v :: st))) : own_Fin p e below s n0 Q k n T (mkF m pc Ls (.long y' :: .long x :: st)) := by
  exact own_lremE X hd hnz _ rfl (H _ rfl (rng64 _).1 (rng64 _).2)
theorem own_lremK (X : own_S p l e R s m av below meth c Z y co ml rt n0 T ce sl h) {x : Int64} {y' : Int64} (a b : Int) (hd : decode co pc = .ok (.lrem, 1)) (hnz : y' ≠ 0) (hxa : x.toInt = a) (hyb : y'.toInt = b) (H : ∀ v : Int64, x % y' = v → (0 ≤ a → v.toInt = a % b) ∧ (a < 0 → v.toInt = -((-a) % b)) → -9223372036854775808 ≤ v.toInt → v.toInt < 9223372036854775808 → own_Fin p e below s n0 Q k n T (mkF m (pc + 1) Ls (.long v :: st))) : own_Fin p e below s n0 Q k n T (mkF m pc Ls (.long y' :: .long x :: st)) := by
  exact own_lremE X hd hnz _ rfl (H _ rfl (by subst hxa; have q := c_lrem x y' b hyb; rw [lrem_mod] at q; exact q) (rng64 _).1 (rng64 _).2)
theorem own_lremB (X : own_S p l e R s m av below meth c Z y co ml rt n0 T ce sl h) {x : Int64} {y' : Int64} (a b : Int) (hd : decode co pc = .ok (.lrem, 1)) (hnz : y' ≠ 0) (hxa : x.toInt = a) (hyb : y'.toInt = b) (q1 : 0 ≤ a) (q2 : 0 < b) (H : ∀ v : Int64, x % y' = v → 0 ≤ v.toInt ∧ v.toInt < b ∧ v.toInt ≤ a → -9223372036854775808 ≤ v.toInt → v.toInt < 9223372036854775808 → own_Fin p e below s n0 Q k n T (mkF m (pc + 1) Ls (.long v :: st))) : own_Fin p e below s n0 Q k n T (mkF m pc Ls (.long y' :: .long x :: st)) := by
  exact own_lremE X hd hnz _ rfl (H _ rfl (by subst hxa hyb; have q := (c_lrem x y' _ rfl).1 q1; rw [lrem_mod] at q; rw [q]; exact ⟨Int.emod_nonneg _ (by omega), Int.emod_lt_of_pos _ q2, own_emod_le q1 q2⟩) (rng64 _).1 (rng64 _).2)
theorem own_i2lE (X : own_S p l e R s m av below meth c Z y co ml rt n0 T ce sl h) {x : Int32} (hd : decode co pc = .ok (.i2l, 1)) (z : Int64) (hz : x.toInt64 = z) (H : own_Fin p e below s n0 Q k n T (mkF m (pc + 1) Ls (.long z :: st))) : own_Fin p e below s n0 Q k n T (mkF m pc Ls (.int x :: st)) := by
  subst hz
  obtain ⟨⟨hx, hby, -⟩, locs, X, -⟩ := X
  exact own_go (fun _ q => XS.i2l X.here hx rfl (hb hby hd) rfl q) H
theorem own_i2lV (X : own_S p l e R s m av below meth c Z y co ml rt n0 T ce sl h) {x : Int32} (a : Int) (hd : decode co pc = .ok (.i2l, 1)) (hxa : x.toInt = a) (H : ∀ v : Int64, x.toInt64 = v → v.toInt = a → -9223372036854775808 ≤ v.toInt → v.toInt < 9223372036854775808 → own_Fin p e below s n0 Q k n T (mkF m (pc + 1) Ls (.long v :: st))) : own_Fin p e below s n0 Q k n T (mkF m pc Ls (.int x :: st)) := by
  exact own_i2lE X hd _ rfl (H _ rfl (by subst hxa; exact c_i2l x) (rng64 _).1 (rng64 _).2)
theorem own_l2iE (X : own_S p l e R s m av below meth c Z y co ml rt n0 T ce sl h) {x : Int64} (hd : decode co pc = .ok (.l2i, 1)) (z : Int32) (hz : x.toInt32 = z) (H : own_Fin p e below s n0 Q k n T (mkF m (pc + 1) Ls (.int z :: st))) : own_Fin p e below s n0 Q k n T (mkF m pc Ls (.long x :: st)) := by
  subst hz
  obtain ⟨⟨hx, hby, -⟩, locs, X, -⟩ := X
  exact own_go (fun _ q => XS.l2i X.here hx rfl (hb hby hd) rfl q) H
theorem own_l2iV (X : own_S p l e R s m av below meth c Z y co ml rt n0 T ce sl h) {x : Int64} (a : Int) (hd : decode co pc = .ok (.l2i, 1)) (hxa : x.toInt = a) (H : ∀ v : Int32, x.toInt32 = v → (v.toInt - a) % 4294967296 = 0 → -2147483648 ≤ v.toInt → v.toInt < 2147483648 → own_Fin p e below s n0 Q k n T (mkF m (pc + 1) Ls (.int v :: st))) : own_Fin p e below s n0 Q k n T (mkF m pc Ls (.long x :: st)) := by
  exact own_l2iE X hd _ rfl (H _ rfl (by subst hxa; exact c_l2i x) (rng32 _).1 (rng32 _).2)
theorem own_i2bE (X : own_S p l e R s m av below meth c Z y co ml rt n0 T ce sl h) {x : Int32} (hd : decode co pc = .ok (.i2b, 1)) (z : Int32) (hz : x.toInt8.toInt32 = z) (H : own_Fin p e below s n0 Q k n T (mkF m (pc + 1) Ls (.int z :: st))) : own_Fin p e below s n0 Q k n T (mkF m pc Ls (.int x :: st)) := by
  subst hz
  obtain ⟨⟨hx, hby, -⟩, locs, X, -⟩ := X
  exact own_go (fun _ q => XS.i2b X.here hx rfl (hb hby hd) rfl q) H
theorem own_i2bV (X : own_S p l e R s m av below meth c Z y co ml rt n0 T ce sl h) {x : Int32} (a : Int) (hd : decode co pc = .ok (.i2b, 1)) (hxa : x.toInt = a) (H : ∀ v : Int32, x.toInt8.toInt32 = v → (v.toInt - a) % 256 = 0 ∧ -128 ≤ v.toInt ∧ v.toInt < 128 → -2147483648 ≤ v.toInt → v.toInt < 2147483648 → own_Fin p e below s n0 Q k n T (mkF m (pc + 1) Ls (.int v :: st))) : own_Fin p e below s n0 Q k n T (mkF m pc Ls (.int x :: st)) := by
  exact own_i2bE X hd _ rfl (H _ rfl (by subst hxa; exact c_i2b x) (rng32 _).1 (rng32 _).2)
theorem own_i2sE (X : own_S p l e R s m av below meth c Z y co ml rt n0 T ce sl h) {x : Int32} (hd : decode co pc = .ok (.i2s, 1)) (z : Int32) (hz : x.toInt16.toInt32 = z) (H : own_Fin p e below s n0 Q k n T (mkF m (pc + 1) Ls (.int z :: st))) : own_Fin p e below s n0 Q k n T (mkF m pc Ls (.int x :: st)) := by
  subst hz
  obtain ⟨⟨hx, hby, -⟩, locs, X, -⟩ := X
  exact own_go (fun _ q => XS.i2s X.here hx rfl (hb hby hd) rfl q) H
theorem own_i2sV (X : own_S p l e R s m av below meth c Z y co ml rt n0 T ce sl h) {x : Int32} (a : Int) (hd : decode co pc = .ok (.i2s, 1)) (hxa : x.toInt = a) (H : ∀ v : Int32, x.toInt16.toInt32 = v → (v.toInt - a) % 65536 = 0 ∧ -32768 ≤ v.toInt ∧ v.toInt < 32768 → -2147483648 ≤ v.toInt → v.toInt < 2147483648 → own_Fin p e below s n0 Q k n T (mkF m (pc + 1) Ls (.int v :: st))) : own_Fin p e below s n0 Q k n T (mkF m pc Ls (.int x :: st)) := by
  exact own_i2sE X hd _ rfl (H _ rfl (by subst hxa; exact c_i2s x) (rng32 _).1 (rng32 _).2)
theorem own_i2cE (X : own_S p l e R s m av below meth c Z y co ml rt n0 T ce sl h) {x : Int32} (hd : decode co pc = .ok (.i2c, 1)) (z : Int32) (hz : x.toUInt32.toUInt16.toUInt32.toInt32 = z) (H : own_Fin p e below s n0 Q k n T (mkF m (pc + 1) Ls (.int z :: st))) : own_Fin p e below s n0 Q k n T (mkF m pc Ls (.int x :: st)) := by
  subst hz
  obtain ⟨⟨hx, hby, -⟩, locs, X, -⟩ := X
  exact own_go (fun _ q => XS.i2c X.here hx rfl (hb hby hd) rfl q) H
theorem own_i2cV (X : own_S p l e R s m av below meth c Z y co ml rt n0 T ce sl h) {x : Int32} (a : Int) (hd : decode co pc = .ok (.i2c, 1)) (hxa : x.toInt = a) (H : ∀ v : Int32, x.toUInt32.toUInt16.toUInt32.toInt32 = v → (v.toInt - a) % 65536 = 0 ∧ 0 ≤ v.toInt ∧ v.toInt < 65536 → -2147483648 ≤ v.toInt → v.toInt < 2147483648 → own_Fin p e below s n0 Q k n T (mkF m (pc + 1) Ls (.int v :: st))) : own_Fin p e below s n0 Q k n T (mkF m pc Ls (.int x :: st)) := by
  exact own_i2cE X hd _ rfl (H _ rfl (by subst hxa; exact c_i2c x) (rng32 _).1 (rng32 _).2)
theorem own_lcmp (X : own_S p l e R s m av below meth c Z y co ml rt n0 T ce sl h) {x y' : Int64} (hd : decode co pc = .ok (.lcmp, 1)) (H : own_Fin p e below s n0 Q k n T (mkF m (pc + 1) Ls (.int (lcmpW x y') :: st))) : own_Fin p e below s n0 Q k n T (mkF m pc Ls (.long y' :: .long x :: st)) := by
  obtain ⟨⟨hx, hby, -⟩, locs, X, -⟩ := X
  exact own_go (fun _ q => XS.lcmp X.here hx rfl (hb hby hd) rfl q) H
theorem own_dup (X : own_S p l e R s m av below meth c Z y co ml rt n0 T ce sl h) {v : Value} (hd : decode co pc = .ok (.dup, 1)) (hv : v.category = 1) (H : own_Fin p e below s n0 Q k n T (mkF m (pc + 1) Ls (v :: v :: st))) : own_Fin p e below s n0 Q k n T (mkF m pc Ls (v :: st)) := by
  obtain ⟨⟨hx, hby, -⟩, locs, X, -⟩ := X
  exact own_go (fun _ q => XS.dup X.here hx rfl (hb hby hd) rfl hv q) H
theorem own_dupX1 (X : own_S p l e R s m av below meth c Z y co ml rt n0 T ce sl h) {v w : Value} (hd : decode co pc = .ok (.dup_x1, 1)) (hv : v.category = 1) (hw : w.category = 1) (H : own_Fin p e below s n0 Q k n T (mkF m (pc + 1) Ls (v :: w :: v :: st))) : own_Fin p e below s n0 Q k n T (mkF m pc Ls (v :: w :: st)) := by
  obtain ⟨⟨hx, hby, -⟩, locs, X, -⟩ := X
  exact own_go (fun _ q => XS.dupX1 X.here hx rfl (hb hby hd) rfl hv hw q) H
theorem own_pop (X : own_S p l e R s m av below meth c Z y co ml rt n0 T ce sl h) {v : Value} (hd : decode co pc = .ok (.pop, 1)) (hv : v.category = 1) (H : own_Fin p e below s n0 Q k n T (mkF m (pc + 1) Ls (st))) : own_Fin p e below s n0 Q k n T (mkF m pc Ls (v :: st)) := by
  obtain ⟨⟨hx, hby, -⟩, locs, X, -⟩ := X
  exact own_go (fun _ q => XS.pop X.here hx rfl (hb hby hd) rfl hv q) H
theorem own_iinc (X : own_S p l e R s m av below meth c Z y co ml rt n0 T ce sl h) {i : Nat} {z : Int} {x z' : Int32} {L' : Array Slot} (hd : decode co pc = .ok (.iinc i z, 3)) (hl : Ls[i]? = some (.val (.int x))) (hz : Int32.ofInt z = z') (hl' : storeLocals Ls i (.int (x + z')) = some L') (H : own_Fin p e below s n0 Q k n T (mkF m (pc + 3) L' (st))) : own_Fin p e below s n0 Q k n T (mkF m pc Ls (st)) := by
  obtain ⟨⟨hx, hby, -⟩, locs, X, -⟩ := X
  exact own_go (fun _ q => XS.iinc X.here hx rfl (hb hby hd) hl (by rw [hz]; exact hl') q) H
theorem own_goto (X : own_S p l e R s m av below meth c Z y co ml rt n0 T ce sl h) {o : Int} (pc' : Nat) (hd : decode co pc = .ok (.goto o, 3)) (ho : 0 ≤ (pc : Int) + o) (hp : ((pc : Int) + o).toNat = pc') (H : own_Fin p e below s n0 Q k n T (mkF m pc' Ls (st))) : own_Fin p e below s n0 Q k n T (mkF m pc Ls (st)) := by
  obtain ⟨⟨hx, hby, -⟩, locs, X, -⟩ := X
  exact own_go (fun _ q => XS.goto X.here hx rfl rfl (hb hby hd) ho hp q) H
theorem own_icmpYes (X : own_S p l e R s m av below meth c Z y co ml rt n0 T ce sl h) {cd : ClassFile.Cond} {o : Int} {x y' : Int32} (pc' : Nat) (hd : decode co pc = .ok (.if_icmp cd o, 3)) (hc : if_icmp.holds cd x y' = true) (ho : 0 ≤ (pc : Int) + o) (hp : ((pc : Int) + o).toNat = pc') (H : own_Fin p e below s n0 Q k n T (mkF m pc' Ls (st))) : own_Fin p e below s n0 Q k n T (mkF m pc Ls (.int y' :: .int x :: st)) := by
  obtain ⟨⟨hx, hby, -⟩, locs, X, -⟩ := X
  exact own_go (fun _ q => XS.icmpYes X.here hx rfl rfl (hb hby hd) rfl hc ho hp q) H
theorem own_icmpNo (X : own_S p l e R s m av below meth c Z y co ml rt n0 T ce sl h) {cd : ClassFile.Cond} {o : Int} {x y' : Int32} (hd : decode co pc = .ok (.if_icmp cd o, 3)) (hc : if_icmp.holds cd x y' = false) (H : own_Fin p e below s n0 Q k n T (mkF m (pc + 3) Ls (st))) : own_Fin p e below s n0 Q k n T (mkF m pc Ls (.int y' :: .int x :: st)) := by
  obtain ⟨⟨hx, hby, -⟩, locs, X, -⟩ := X
  exact own_go (fun _ q => XS.icmpNo X.here hx rfl (hb hby hd) rfl hc q) H
theorem own_ifYes (X : own_S p l e R s m av below meth c Z y co ml rt n0 T ce sl h) {cd : ClassFile.Cond} {o : Int} {x : Int32} (pc' : Nat) (hd : decode co pc = .ok (.ifCond cd o, 3)) (hc : ifCond.holds cd x = true) (ho : 0 ≤ (pc : Int) + o) (hp : ((pc : Int) + o).toNat = pc') (H : own_Fin p e below s n0 Q k n T (mkF m pc' Ls (st))) : own_Fin p e below s n0 Q k n T (mkF m pc Ls (.int x :: st)) := by
  obtain ⟨⟨hx, hby, -⟩, locs, X, -⟩ := X
  exact own_go (fun _ q => XS.ifYes X.here hx rfl rfl (hb hby hd) rfl hc ho hp q) H
theorem own_ifNo (X : own_S p l e R s m av below meth c Z y co ml rt n0 T ce sl h) {cd : ClassFile.Cond} {o : Int} {x : Int32} (hd : decode co pc = .ok (.ifCond cd o, 3)) (hc : ifCond.holds cd x = false) (H : own_Fin p e below s n0 Q k n T (mkF m (pc + 3) Ls (st))) : own_Fin p e below s n0 Q k n T (mkF m pc Ls (.int x :: st)) := by
  obtain ⟨⟨hx, hby, -⟩, locs, X, -⟩ := X
  exact own_go (fun _ q => XS.ifNo X.here hx rfl (hb hby hd) rfl hc q) H
theorem own_ifnullYes (X : own_S p l e R s m av below meth c Z y co ml rt n0 T ce sl h) {o : Int} (pc' : Nat) (hd : decode co pc = .ok (.ifnull o, 3)) (ho : 0 ≤ (pc : Int) + o) (hp : ((pc : Int) + o).toNat = pc') (H : own_Fin p e below s n0 Q k n T (mkF m pc' Ls (st))) : own_Fin p e below s n0 Q k n T (mkF m pc Ls (.null :: st)) := by
  obtain ⟨⟨hx, hby, -⟩, locs, X, -⟩ := X
  exact own_go (fun _ q => XS.ifnullYes X.here hx rfl rfl (hb hby hd) rfl ho hp q) H
theorem own_ifnullNo (X : own_S p l e R s m av below meth c Z y co ml rt n0 T ce sl h) {o : Int} {b : Addr} (hd : decode co pc = .ok (.ifnull o, 3)) (H : own_Fin p e below s n0 Q k n T (mkF m (pc + 3) Ls (st))) : own_Fin p e below s n0 Q k n T (mkF m pc Ls (.ref b :: st)) := by
  obtain ⟨⟨hx, hby, -⟩, locs, X, -⟩ := X
  exact own_go (fun _ q => XS.ifnullNo X.here hx rfl (hb hby hd) rfl q) H
theorem own_ifnonnullYes (X : own_S p l e R s m av below meth c Z y co ml rt n0 T ce sl h) {o : Int} {b : Addr} (pc' : Nat) (hd : decode co pc = .ok (.ifnonnull o, 3)) (ho : 0 ≤ (pc : Int) + o) (hp : ((pc : Int) + o).toNat = pc') (H : own_Fin p e below s n0 Q k n T (mkF m pc' Ls (st))) : own_Fin p e below s n0 Q k n T (mkF m pc Ls (.ref b :: st)) := by
  obtain ⟨⟨hx, hby, -⟩, locs, X, -⟩ := X
  exact own_go (fun _ q => XS.ifnonnullYes X.here hx rfl rfl (hb hby hd) rfl ho hp q) H
theorem own_ifnonnullNo (X : own_S p l e R s m av below meth c Z y co ml rt n0 T ce sl h) {o : Int} (hd : decode co pc = .ok (.ifnonnull o, 3)) (H : own_Fin p e below s n0 Q k n T (mkF m (pc + 3) Ls (st))) : own_Fin p e below s n0 Q k n T (mkF m pc Ls (.null :: st)) := by
  obtain ⟨⟨hx, hby, -⟩, locs, X, -⟩ := X
  exact own_go (fun _ q => XS.ifnonnullNo X.here hx rfl (hb hby hd) rfl q) H
theorem own_dup2 (X : own_S p l e R s m av below meth c Z y co ml rt n0 T ce sl h) {v w : Value} (hd : decode co pc = .ok (.dup2, 1)) (hv : v.category = 1) (hw : w.category = 1) (H : own_Fin p e below s n0 Q k n T (mkF m (pc + 1) Ls (v :: w :: v :: w :: st))) : own_Fin p e below s n0 Q k n T (mkF m pc Ls (v :: w :: st)) := by
  obtain ⟨⟨hx, hby, -⟩, locs, X, -⟩ := X
  exact own_go (fun _ q => XT.dup2 X.here hx rfl (hb hby hd) rfl hv hw q) H
theorem own_tswOut (X : own_S p l e R s m av below meth c Z y co ml rt n0 T ce sl h) {df lo hi : Int} {offs : Array Int} {len : Nat} {x : Int32} (pc' : Nat) (hd : decode co pc = .ok (.tableswitch df lo hi offs, len)) (hc : x.toInt < lo ∨ x.toInt > hi) (ho : 0 ≤ (pc : Int) + df) (hp : ((pc : Int) + df).toNat = pc') (H : own_Fin p e below s n0 Q k n T (mkF m pc' Ls st)) : own_Fin p e below s n0 Q k n T (mkF m pc Ls (.int x :: st)) := by
  obtain ⟨⟨hx, hby, -⟩, locs, X, -⟩ := X
  exact own_go (fun _ q => XS.tswOut X.here hx rfl rfl (hb hby hd) rfl hc ho hp q) H
theorem own_tswIn (X : own_S p l e R s m av below meth c Z y co ml rt n0 T ce sl h) {df lo hi o : Int} {offs : Array Int} {len : Nat} {x : Int32} (pc' : Nat) (hd : decode co pc = .ok (.tableswitch df lo hi offs, len)) (hc : ¬ (x.toInt < lo ∨ x.toInt > hi)) (hof : offs[(x.toInt - lo).toNat]? = some o) (ho : 0 ≤ (pc : Int) + o) (hp : ((pc : Int) + o).toNat = pc') (H : own_Fin p e below s n0 Q k n T (mkF m pc' Ls st)) : own_Fin p e below s n0 Q k n T (mkF m pc Ls (.int x :: st)) := by
  obtain ⟨⟨hx, hby, -⟩, locs, X, -⟩ := X
  exact own_go (fun _ q => XS.tswIn X.here hx rfl rfl (hb hby hd) rfl hc hof ho hp q) H
theorem own_all_offs {offs : Array Int} {o : Int} {i k : Nat} (h : ∀ j, j < k → offs[j]? = some o) (hi : i < k) : offs[i]? = some o := h i hi
theorem own_iincW (X : own_S p l e R s m av below meth c Z y co ml rt n0 T ce sl h) {i : Nat} {z : Int} {x z' : Int32} {L' : Array Slot} (hd : decode co pc = .ok (.iinc i z, 6)) (hl : Ls[i]? = some (.val (.int x))) (hz : Int32.ofInt z = z') (hl' : storeLocals Ls i (.int (x + z')) = some L') (H : own_Fin p e below s n0 Q k n T (mkF m (pc + 6) L' st)) : own_Fin p e below s n0 Q k n T (mkF m pc Ls st) := by
  subst hz
  obtain ⟨⟨hx, hby, -⟩, locs, X, -⟩ := X
  have hd' := hb hby hd
  refine own_go (fun target q => ?_) H
  jvm_step X.here [X.here.top, hx, hd', hl, hl']
  exact q
theorem own_ldc (X : own_S p l e R s m av below meth c Z y co ml rt n0 T ce sl h) {ix : Nat} {z : Int32} (w : (Jvm.Cond.constant y.cls ix z).before a0 Z = true) (hd : decode co pc = .ok (.ldc ix, 2)) (H : own_Fin p e below s n0 Q k n T (mkF m (pc + 2) Ls (.int z :: st))) : own_Fin p e below s n0 Q k n T (mkF m pc Ls st) := by
  obtain ⟨⟨hx, hby, -, hown, -, -, -, hZ⟩, locs, X, -⟩ := X
  exact own_go (X.ldcInt hx hown (mvT hZ w) (g := mkF m pc Ls st) rfl (hb hby hd)) H
theorem own_ldc2 (X : own_S p l e R s m av below meth c Z y co ml rt n0 T ce sl h) {ix : Nat} {z : Int64} (w : (Jvm.Cond.constantLong y.cls ix z).before a0 Z = true) (hd : decode co pc = .ok (.ldc2_w ix, 3)) (H : own_Fin p e below s n0 Q k n T (mkF m (pc + 3) Ls (.long z :: st))) : own_Fin p e below s n0 Q k n T (mkF m pc Ls st) := by
  obtain ⟨⟨hx, hby, -, hown, -, -, -, hZ⟩, locs, X, -⟩ := X
  exact own_go (X.ldc2Long hx hown (mvT hZ w) (g := mkF m pc Ls st) rfl (hb hby hd)) H
/-- the five returns -/
theorem own_ret (X : own_S p l e R s m av below meth c Z y co ml rt n0 T ce sl h) {t : FieldType} {i : Instr} {w w' : Value} (hrt : rt = some t) (hn : narrow t w' = w') (hst : ∀ {fs : List Frame} {locs : List Loc}, Stand p l e R s m av below meth c T locs ce sl → p.tables.exec = Jvm.exec → meth.sig.returnType = some t → decode c.code pc = .ok (i, 1) →
      (∀ (f : JFrame) (acts : List Action), f.method = m → f.locked = none → f.entered = [] → (doReturn e (T.setTop f) acts (some w')).1 = T.setFrames fs) → Steps p.tables e below (T.setTop (mkF m pc Ls (w :: st))) (T.setFrames fs))
    (hd : decode co pc = .ok (i, 1)) (hk : ce ≤ k) (hk' : sl ≤ n) (q : Q (some w') h) : own_Fin p e below s n0 Q k n T (mkF m pc Ls (w :: st)) := by
  obtain ⟨⟨hx, hby, -, -, -, hret, hlk, hZ⟩, locs, X, N, eh, -⟩ := X
  obtain ⟨fs, hr, hrun, hended, hW, hsame⟩ := X.leave (v := some w') (fun h => by rw [hret, hrt] at h; cases h) hlk
  exact ⟨_, _, hst X hx (by rw [hret, hrt]) (hb hby hd) hr, hrun, hended, _, _, rfl, ⟨N, by rw [show (T.setFrames fs).heap = h from eh]; exact q⟩, ⟨_, rfl⟩, hW, hsame.mono hk hk'⟩
theorem own_retI (X : own_S p l e R s m av below meth c Z y co ml (some .int) n0 T ce sl h) {z : Int32} (hd : decode co pc = .ok (.ireturn, 1)) (hk : ce ≤ k) (hk' : sl ≤ n) (q : Q (some (.int z)) h) : own_Fin p e below s n0 Q k n T (mkF m pc Ls (.int z :: st)) :=
  own_ret X rfl rfl (fun X hx hret hd hl => retOut X hx hret rfl (Or.inl ⟨rfl, Or.inl rfl, z, rfl⟩) hd hl) hd hk hk' q
theorem own_retN {t : FieldType} (X : own_S p l e R s m av below meth c Z y co ml (some t) n0 T ce sl h) {z z' : Int32} (ht : t = .boolean ∨ t = .byte ∨ t = .char ∨ t = .short) (hz : nar t z = z') (hz' : nar t z' = z') (hd : decode co pc = .ok (.ireturn, 1)) (hk : ce ≤ k) (hk' : sl ≤ n) (q : Q (some (.int z')) h) : own_Fin p e below s n0 Q k n T (mkF m pc Ls (.int z :: st)) :=
  own_ret X rfl (by rcases ht with rfl | rfl | rfl | rfl <;> exact congrArg Value.int hz') (fun X hx hret hd hl => retN X hx hret ht hd (by rw [hz]; exact hl)) hd hk hk' q
theorem own_retJ (X : own_S p l e R s m av below meth c Z y co ml (some .long) n0 T ce sl h) {z : Int64} (hd : decode co pc = .ok (.lreturn, 1)) (hk : ce ≤ k) (hk' : sl ≤ n) (q : Q (some (.long z)) h) : own_Fin p e below s n0 Q k n T (mkF m pc Ls (.long z :: st)) :=
  own_ret X rfl rfl (fun X hx hret hd hl => retOut X hx hret rfl (Or.inr (Or.inl ⟨rfl, rfl, z, rfl⟩)) hd hl) hd hk hk' q
theorem own_retR {t : FieldType} (X : own_S p l e R s m av below meth c Z y co ml (some t) n0 T ce sl h) {w : Value} (ht : t.isReference = true) (hw : w.isRef = true) (hd : decode co pc = .ok (.areturn, 1)) (hk : ce ≤ k) (hk' : sl ≤ n) (q : Q (some w) h) : own_Fin p e below s n0 Q k n T (mkF m pc Ls (w :: st)) :=
  have hn : narrow t w = w := by cases t <;> first | (cases ht; done) | rfl
  own_ret X rfl hn (fun X hx hret hd hl => retOut X hx hret hn (Or.inr (Or.inr (Or.inr (Or.inr ⟨rfl, ht, hw⟩)))) hd hl) hd hk hk' q
theorem own_retV (X : own_S p l e R s m av below meth c Z y co ml none n0 T ce sl h) (hd : decode co pc = .ok (.return_, 1)) (hk : ce ≤ k) (hk' : sl ≤ n) (q : Q none h) : own_Fin p e below s n0 Q k n T (mkF m pc Ls []) := by
  obtain ⟨⟨hx, hby, -, -, -, hret, hlk, hZ⟩, locs, X, N, eh, -⟩ := X
  obtain ⟨fs, hr, hrun, hended, hW, hsame⟩ := X.leave (v := none) (fun _ => rfl) hlk
  exact ⟨_, _, X.returnOut hx hret (hb hby hd) hr, hrun, hended, _, _, rfl, ⟨N, by rw [show (T.setFrames fs).heap = h from eh]; exact q⟩, ⟨_, rfl⟩, hW, hsame.mono hk hk'⟩
/-- a static call by its contract -/
theorem own_callS (X : own_S p l e R s m av below meth c Z y co ml rt n0 T ce sl h) {ix : Nat} {y' : MethodName} {co' : ByteArray} {ml' W : Nat} {rt' : Option FieldType} {rm : Room} {Q' : Option Value → Heap → Prop} {argsL rest stk : List Value}
    (w1 : (Jvm.Cond.methodLink y.cls ix y').before a0 Z = true) (w2 : (Jvm.Cond.static y').before a0 Z = true) (w3 : (Jvm.Cond.initialized y'.cls).before a0 Z = true) (w4 : (Jvm.Cond.code y' co' ml' rt').before a0 Z = true) (hy : y'.cls ≠ "java/lang/invoke/MethodHandle" ∧ y'.cls ≠ "java/lang/invoke/VarHandle")
    (M : own_Met l Z y' co' ml' rt' [] rm argsL.toArray h n0 Q') (hf : rm.frames + 1 ≤ R.frames) (hlo : W + (ml' + 11) + rm.locals ≤ R.locals) (hce : ce + rm.cells ≤ R.cells) (hsl : sl + rm.slots ≤ R.slots)
    (hL : Ls.size = ml) (hlen : ∀ sig, parseMethodDescriptor y'.desc = some sig → argsL.length = sig.parameters.length) (hs : stk = argsL.reverse ++ rest) (hW : (rest.map fun v => v.category).sum ≤ W) (hd : decode co pc = .ok (.invokestatic ix, 3))
    (H : ∀ T' h' v, own_S p l e R s m av below meth c Z y co ml rt n0 T' (ce + rm.cells) (sl + rm.slots) h' → Q' v h' → own_Fin p e below s n0 Q k n T' (mkF m (pc + 3) Ls (v.toList ++ rest))) : own_Fin p e below s n0 Q k n T (mkF m pc Ls stk) := by
  obtain ⟨C, locs, X, N, eh, hn⟩ := X
  obtain ⟨hx, hby, hml, hown, -, -, -, hZ⟩ := id C
  obtain ⟨v, _, ⟨T', L', k', n'⟩, -, X', ⟨Lc, ⟨hN, hQ⟩, l1, l2, l3⟩, st'⟩ := Jvm.LawKit.callS X hx (y := y') hown (mvT hZ w1) (mvT hZ w2) (mvT hZ w3) (mvT hZ w4) hy (backOf (Q := fun v h' L => Fr n0 L ∧ Q' v h') (W := W) M hZ w4 w3 hf hlo) (g := mkF m pc Ls stk) rfl (by rw [hml]; exact hL) (argsL := argsL) (rest := rest) hlen hs (by show 2 * 0 + _ ≤ _; omega) (hb hby hd) (fun _ _ => ⟨rfl, eh, hce, hsl⟩)
  dsimp only [Pt.U, Pt.locs, Pt.cells, Pt.slots] at X' l1 l2 l3 st' hQ
  subst l1 l2 l3
  exact own_go st' (H T' T'.heap v ⟨C, _, X', N.app hN, rfl, hn⟩ hQ)
/-- the forms of a contract's promise, and how a call goes on -/
def own_QI (P : Int32 → Heap → Prop) (v : Option Value) (h : Heap) : Prop := ∃ z, v = some (.int z) ∧ P z h
def own_QJ (P : Int64 → Heap → Prop) (v : Option Value) (h : Heap) : Prop := ∃ z, v = some (.long z) ∧ P z h
def own_QR (P : Value → Heap → Prop) (v : Option Value) (h : Heap) : Prop := ∃ z, v = some z ∧ P z h
def own_QV (P : Heap → Prop) (v : Option Value) (h : Heap) : Prop := v = none ∧ P h
theorem own_contI {P : Int32 → Prop} {h0 : Heap} (H : ∀ T' (z : Int32), own_S p l e R s m av below meth c Z y co ml rt n0 T' ce sl h0 → P z → own_Fin p e below s n0 Q k n T' (mkF m pc Ls (.int z :: st))) :
    ∀ T' h' v, own_S p l e R s m av below meth c Z y co ml rt n0 T' ce sl h' → own_QI (fun z h => P z ∧ h = h0) v h' → own_Fin p e below s n0 Q k n T' (mkF m pc Ls (v.toList ++ st)) := by
  rintro T' h' v X ⟨z, rfl, hz, rfl⟩; exact H T' z X hz
theorem own_contJ {P : Int64 → Prop} {h0 : Heap} (H : ∀ T' (z : Int64), own_S p l e R s m av below meth c Z y co ml rt n0 T' ce sl h0 → P z → own_Fin p e below s n0 Q k n T' (mkF m pc Ls (.long z :: st))) :
    ∀ T' h' v, own_S p l e R s m av below meth c Z y co ml rt n0 T' ce sl h' → own_QJ (fun z h => P z ∧ h = h0) v h' → own_Fin p e below s n0 Q k n T' (mkF m pc Ls (v.toList ++ st)) := by
  rintro T' h' v X ⟨z, rfl, hz, rfl⟩; exact H T' z X hz
theorem own_contR {P : Value → Prop} {h0 : Heap} (H : ∀ T' (z : Value), own_S p l e R s m av below meth c Z y co ml rt n0 T' ce sl h0 → P z → own_Fin p e below s n0 Q k n T' (mkF m pc Ls (z :: st))) :
    ∀ T' h' v, own_S p l e R s m av below meth c Z y co ml rt n0 T' ce sl h' → own_QR (fun z h => P z ∧ h = h0) v h' → own_Fin p e below s n0 Q k n T' (mkF m pc Ls (v.toList ++ st)) := by
  rintro T' h' v X ⟨z, rfl, hz, rfl⟩; exact H T' z X hz
theorem own_contIH {P : Int32 → Heap → Prop} (H : ∀ T' h' (z : Int32), own_S p l e R s m av below meth c Z y co ml rt n0 T' ce sl h' → P z h' → own_Fin p e below s n0 Q k n T' (mkF m pc Ls (.int z :: st))) :
    ∀ T' h' v, own_S p l e R s m av below meth c Z y co ml rt n0 T' ce sl h' → own_QI P v h' → own_Fin p e below s n0 Q k n T' (mkF m pc Ls (v.toList ++ st)) := by
  rintro T' h' v X ⟨z, rfl, hz⟩; exact H T' h' z X hz
theorem own_contRH {P : Value → Heap → Prop} (H : ∀ T' h' (z : Value), own_S p l e R s m av below meth c Z y co ml rt n0 T' ce sl h' → P z h' → own_Fin p e below s n0 Q k n T' (mkF m pc Ls (z :: st))) :
    ∀ T' h' v, own_S p l e R s m av below meth c Z y co ml rt n0 T' ce sl h' → own_QR P v h' → own_Fin p e below s n0 Q k n T' (mkF m pc Ls (v.toList ++ st)) := by
  rintro T' h' v X ⟨z, rfl, hz⟩; exact H T' h' z X hz
theorem own_contV {P : Prop} {h0 : Heap} (H : ∀ T', own_S p l e R s m av below meth c Z y co ml rt n0 T' ce sl h0 → P → own_Fin p e below s n0 Q k n T' (mkF m pc Ls st)) :
    ∀ T' h' v, own_S p l e R s m av below meth c Z y co ml rt n0 T' ce sl h' → own_QV (fun h => P ∧ h = h0) v h' → own_Fin p e below s n0 Q k n T' (mkF m pc Ls (v.toList ++ st)) := by
  rintro T' h' v X ⟨rfl, hz, rfl⟩; exact H T' X hz
theorem own_contVH {P : Heap → Prop} (H : ∀ T' h', own_S p l e R s m av below meth c Z y co ml rt n0 T' ce sl h' → P h' → own_Fin p e below s n0 Q k n T' (mkF m pc Ls st)) :
    ∀ T' h' v, own_S p l e R s m av below meth c Z y co ml rt n0 T' ce sl h' → own_QV P v h' → own_Fin p e below s n0 Q k n T' (mkF m pc Ls (v.toList ++ st)) := by
  rintro T' h' v X ⟨rfl, hz⟩; exact H T' h' X hz
/-- fields, new, Object.<init>, the other calls -/
theorem own_getF (X : own_S p l e R s m av below meth c Z y co ml rt n0 T ce sl h) {R0 O nm d host : String} {ix : Nat} {a : Addr} {v : Value} (w : (Jvm.Cond.fieldLink y.cls ix R0 nm d).before a0 Z = true ∨ (Jvm.Cond.fieldLinkNest y.cls ix R0 nm d host).before a0 Z = true) (via : Via Z R0 O nm d) (F : Fld Z h a O nm d v) (hd : decode co pc = .ok (.getfield ix, 3))
    (H : ∀ T', own_S p l e R s m av below meth c Z y co ml rt n0 T' ce sl h → own_Fin p e below s n0 Q k n T' (mkF m (pc + 3) Ls (v :: st))) : own_Fin p e below s n0 Q k n T (mkF m pc Ls (.ref a :: st)) := by
  obtain ⟨C, locs, X, N, eh, hn⟩ := X
  obtain ⟨hx, hby, hml, hown, -, -, -, hZ⟩ := id C
  obtain ⟨T', X', e', st'⟩ := getF X hx hZ hown w via eh F (g := mkF m pc Ls (.ref a :: st)) rfl rfl (hb hby hd)
  exact own_go st' (H T' ⟨C, _, X', N, e', hn⟩)
theorem own_putF (X : own_S p l e R s m av below meth c Z y co ml rt n0 T ce sl h) {R0 O nm d host K : String} {ix kk : Nat} {ty : FieldType} {a : Addr} {v old : Value} (w : (Jvm.Cond.fieldLink y.cls ix R0 nm d).before a0 Z = true ∨ (Jvm.Cond.fieldLinkNest y.cls ix R0 nm d host).before a0 Z = true) (via : Via Z R0 O nm d) (F : Fld Z h a O nm d old) (E : Exa Z h a K)
    (Lw : (Jvm.Cond.lays K O nm d).before a0 Z = true ∨ ((Jvm.Cond.laysFinal K O nm d).before a0 Z = true ∧ y.cls = O ∧ y.name = "<init>")) (wi : (Jvm.Cond.instantiable K kk).before a0 Z = true) (hty : parseFieldDescriptor d = some ty) (hnw : narrow ty v = v) (hft : fits ty v = true) (ge : n0 ≤ a) (hd : decode co pc = .ok (.putfield ix, 3))
    (H : ∀ T' h', own_S p l e R s m av below meth c Z y co ml rt n0 T' ce sl h' → Wr h h' a (Jvm.RoadKit.slotOf Z O nm d) v → own_Fin p e below s n0 Q k n T' (mkF m (pc + 3) Ls st)) : own_Fin p e below s n0 Q k n T (mkF m pc Ls (v :: .ref a :: st)) := by
  obtain ⟨C, locs, X, N, eh, hn⟩ := X
  obtain ⟨hx, hby, hml, hown, hnm, -, -, hZ⟩ := id C
  obtain ⟨T', h', X', e', W, st'⟩ := putF X hx hZ hown w via eh F E (Lw.imp id fun q => ⟨q.1, q.2.1, hnm.trans q.2.2⟩) wi hty hnw hft (g := mkF m pc Ls (v :: .ref a :: st)) rfl rfl (hb hby hd)
  exact own_go st' (H T' h' ⟨C, _, X', Fr.snoc X' N ge, e', hn⟩ W)
theorem own_putFZ (X : own_S p l e R s m av below meth c Z y co ml rt n0 T ce sl h) {R0 O nm d K : String} {ix kk : Nat} {ty : FieldType} {a : Addr} {v v' old : Value} (w : (Jvm.Cond.fieldLink y.cls ix R0 nm d).before a0 Z = true) (via : Via Z R0 O nm d) (F : Fld Z h a O nm d old) (E : Exa Z h a K)
    (Lw : (Jvm.Cond.lays K O nm d).before a0 Z = true ∨ ((Jvm.Cond.laysFinal K O nm d).before a0 Z = true ∧ y.cls = O ∧ y.name = "<init>")) (wi : (Jvm.Cond.instantiable K kk).before a0 Z = true) (hty : parseFieldDescriptor d = some ty) (hnw : narrow ty v = v') (hft : fits ty v' = true) (ge : n0 ≤ a) (hd : decode co pc = .ok (.putfield ix, 3))
    (H : ∀ T' h', own_S p l e R s m av below meth c Z y co ml rt n0 T' ce sl h' → Wr h h' a (Jvm.RoadKit.slotOf Z O nm d) v' → own_Fin p e below s n0 Q k n T' (mkF m (pc + 3) Ls st)) : own_Fin p e below s n0 Q k n T (mkF m pc Ls (v :: .ref a :: st)) := by
  obtain ⟨C, locs, X, N, eh, hn⟩ := X
  obtain ⟨hx, hby, hml, hown, hnm, -, -, hZ⟩ := id C
  obtain ⟨T', h', X', e', W, st'⟩ := putFN X hx hZ hown w via eh F E (Lw.imp id fun q => ⟨q.1, q.2.1, hnm.trans q.2.2⟩) wi hty hnw hft (g := mkF m pc Ls (v :: .ref a :: st)) rfl rfl (hb hby hd)
  exact own_go st' (H T' h' ⟨C, _, X', Fr.snoc X' N ge, e', hn⟩ W)
theorem own_newO (X : own_S p l e R s m av below meth c Z y co ml rt n0 T ce sl h) {K : String} {ix nn : Nat} (w : (Jvm.Cond.classLink y.cls ix K).before a0 Z = true) (wi : (Jvm.Cond.instantiable K nn).before a0 Z = true) (wz : (Jvm.Cond.initialized K).before a0 Z = true) (hd : decode co pc = .ok (.new ix, 3)) (hc : ce + 1 ≤ R.cells) (hs : sl + nn ≤ R.slots)
    (H : ∀ T' h' (b : Addr), b = h.size → n0 ≤ b → own_S p l e R s m av below meth c Z y co ml rt n0 T' (ce + 1) (sl + nn) h' → Ext h h' → Exa Z h' b K → (∀ {O nm d : String} {ty : FieldType}, Laid Z a0 K O nm d → parseFieldDescriptor d = some ty → Fld Z h' b O nm d (defaultValue ty)) → own_Fin p e below s n0 Q k n T' (mkF m (pc + 3) Ls (.ref b :: st))) : own_Fin p e below s n0 Q k n T (mkF m pc Ls st) := by
  have hz := own_size X
  obtain ⟨C, locs, X, N, eh, hn⟩ := X
  obtain ⟨hx, hby, hml, hown, hnm, -, -, hZ⟩ := id C
  obtain ⟨T', h', X', e', E, A, D, -, st'⟩ := newO X hx hZ hown w wi wz eh (g := mkF m pc Ls st) rfl (hb hby hd) hc hs
  exact own_go st' (H T' h' _ rfl hz ⟨C, _, X', N, e', hn⟩ E A D)
/-- a constructor by its contract -/
theorem own_callI (X : own_S p l e R s m av below meth c Z y co ml rt n0 T ce sl h) {ix : Nat} {y' : MethodName} {co' : ByteArray} {ml' W : Nat} {rm : Room} {Q' : Option Value → Heap → Prop} {a : Addr} {argsL rest stk : List Value} (hi : y'.name = "<init>")
    (w1 : (Jvm.Cond.methodLink y.cls ix y').before a0 Z = true) (w2 : (Jvm.Cond.instanceMethod y').before a0 Z = true) (w3 : (Jvm.Cond.initialized y'.cls).before a0 Z = true) (w4 : (Jvm.Cond.code y' co' ml' none).before a0 Z = true) (hy : y'.cls ≠ "java/lang/invoke/MethodHandle" ∧ y'.cls ≠ "java/lang/invoke/VarHandle")
    (M : own_Met l Z y' co' ml' none [] rm (.ref a :: argsL).toArray h n0 Q') (hf : rm.frames + 1 ≤ R.frames) (hlo : W + (ml' + 11) + rm.locals ≤ R.locals) (hce : ce + rm.cells ≤ R.cells) (hsl : sl + rm.slots ≤ R.slots)
    (hL : Ls.size = ml) (hlen : ∀ sig, parseMethodDescriptor y'.desc = some sig → argsL.length = sig.parameters.length) (hs : stk = argsL.reverse ++ .ref a :: rest) (hW : (rest.map fun v => v.category).sum ≤ W) (hd : decode co pc = .ok (.invokespecial ix, 3))
    (H : ∀ T' h' v, own_S p l e R s m av below meth c Z y co ml rt n0 T' (ce + rm.cells) (sl + rm.slots) h' → Q' v h' → own_Fin p e below s n0 Q k n T' (mkF m (pc + 3) Ls (v.toList ++ rest))) : own_Fin p e below s n0 Q k n T (mkF m pc Ls stk) := by
  obtain ⟨C, locs, X, N, eh, hn⟩ := X
  obtain ⟨hx, hby, hml, hown, -, -, -, hZ⟩ := id C
  obtain ⟨v, _, ⟨T', L', k', n'⟩, -, X', ⟨Lc, ⟨hN, hQ⟩, l1, l2, l3⟩, st'⟩ := X.specialBack hx (y := y') hi hown (mvT hZ w1) (mvT hZ w2) (mvT hZ w4) hy (backOf (Q := fun v h' L => Fr n0 L ∧ Q' v h') (W := W) M hZ w4 w3 hf hlo) (g := mkF m pc Ls stk) rfl (by rw [hml]; exact hL) (Steps.refl _) (a := a) (argsL := argsL) (rest := rest) hlen hs (by show 2 * 0 + _ ≤ _; omega) (hb hby hd) (fun _ _ => ⟨rfl, eh, hce, hsl⟩)
  dsimp only [Pt.U, Pt.locs, Pt.cells, Pt.slots] at X' l1 l2 l3 st' hQ
  subst l1 l2 l3
  exact own_goT st' (H T' T'.heap v ⟨C, _, X', N.app hN, rfl, hn⟩ hQ)
/-- an instance method by its contract -/
theorem own_callV (X : own_S p l e R s m av below meth c Z y co ml rt n0 T ce sl h) {ix : Nat} {K : String} {y' : MethodName} {co' : ByteArray} {ml' W : Nat} {rt' : Option FieldType} {rm : Room} {Q' : Option Value → Heap → Prop} {a : Addr} {argsL rest stk : List Value}
    (w1 : (Jvm.Cond.methodLink y.cls ix y').before a0 Z = true) (w2 : (Jvm.Cond.declares y').before a0 Z = true) (w3 : (Jvm.Cond.selects K y' y').before a0 Z = true) (w5 : (Jvm.Cond.instanceMethod y').before a0 Z = true) (w6 : (Jvm.Cond.initialized y'.cls).before a0 Z = true) (w4 : (Jvm.Cond.code y' co' ml' rt').before a0 Z = true) (hK : K = y'.cls) (hy : y'.cls ≠ "java/lang/invoke/MethodHandle" ∧ y'.cls ≠ "java/lang/invoke/VarHandle")
    (M : own_Met l Z y' co' ml' rt' [] rm (.ref a :: argsL).toArray h n0 Q') (E : Exa Z h a K) (hf : rm.frames + 1 ≤ R.frames) (hlo : W + (ml' + 11) + rm.locals ≤ R.locals) (hce : ce + rm.cells ≤ R.cells) (hsl : sl + rm.slots ≤ R.slots)
    (hL : Ls.size = ml) (hlen : ∀ sig, parseMethodDescriptor y'.desc = some sig → argsL.length = sig.parameters.length) (hs : stk = argsL.reverse ++ .ref a :: rest) (hW : (rest.map fun v => v.category).sum ≤ W) (hd : decode co pc = .ok (.invokevirtual ix, 3))
    (H : ∀ T' h' v, own_S p l e R s m av below meth c Z y co ml rt n0 T' (ce + rm.cells) (sl + rm.slots) h' → Q' v h' → own_Fin p e below s n0 Q k n T' (mkF m (pc + 3) Ls (v.toList ++ rest))) : own_Fin p e below s n0 Q k n T (mkF m pc Ls stk) := by
  subst hK
  obtain ⟨C, locs, X, N, eh, hn⟩ := X
  obtain ⟨hx, hby, hml, hown, -, -, -, hZ⟩ := id C
  obtain ⟨cq, kq, qa, qb, qc⟩ := isOf (T := T) hZ eh E
  obtain ⟨v, _, ⟨T', L', k', n'⟩, -, X', ⟨Lc, ⟨hN, hQ⟩, l1, l2, l3⟩, st'⟩ := X.virtualBack hx (y := y') (z := y') hown (mvT hZ w1) (mvT hZ w2) (notFace_of_selects (args := #[]) (mvT hZ w3)) (mvT hZ w3) (mvT hZ w5) hy (backOf (Q := fun v h' L => Fr n0 L ∧ Q' v h') (W := W) M hZ w4 w6 hf hlo) qa qc (g := mkF m pc Ls stk) rfl (by rw [hml]; exact hL) (Steps.refl _) (argsL := argsL) (rest := rest) hlen hs (by show 2 * 0 + _ ≤ _; omega) (hb hby hd) (fun _ _ => ⟨rfl, eh, hce, hsl⟩)
  dsimp only [Pt.U, Pt.locs, Pt.cells, Pt.slots] at X' l1 l2 l3 st' hQ
  subst l1 l2 l3
  exact own_goT st' (H T' T'.heap v ⟨C, _, X', N.app hN, rfl, hn⟩ hQ)
/-- an array of ints (bytes, chars ..) of N places: place j holds f j -/
def own_AI (Z : State) (h : Heap) (a : Addr) (ty : FieldType) (N : Int32) (f : Int32 → Int32) : Prop := ∃ c : Cell, Arr Z h a c ty ∧ c.slots.size = N.toNatClampNeg ∧ ¬ N < 0 ∧ ∀ j : Int32, ¬ j < 0 → j < N → c.slots[j.toNatClampNeg]? = some (.int (f j)) ∧ fits ty (.int (f j)) = true
def own_AJ (Z : State) (h : Heap) (a : Addr) (N : Int32) (f : Int32 → Int64) : Prop := ∃ c : Cell, Arr Z h a c .long ∧ c.slots.size = N.toNatClampNeg ∧ ¬ N < 0 ∧ ∀ j : Int32, ¬ j < 0 → j < N → c.slots[j.toNatClampNeg]? = some (.long (f j))
def own_upd {α : Type} (f : Int32 → α) (j : Int32) (x : α) : Int32 → α := fun q => if q = j then x else f q
theorem own_upd_hit {α : Type} (f : Int32 → α) (j : Int32) (x : α) : own_upd f j x j = x := if_pos rfl
theorem own_upd_miss {α : Type} {f : Int32 → α} {j i : Int32} {x : α} (q : ¬ i = j) : own_upd f j x i = f i := if_neg q
theorem own_upd_yes {α : Type} {f : Int32 → α} {j i : Int32} {x : α} (q : i = j) : own_upd f j x i = x := if_pos q
theorem own_nat {i j : Int32} (hi : ¬ i < 0) (hj : ¬ j < 0) (ne : ¬ i = j) : i.toNatClampNeg ≠ j.toNatClampNeg := fun q => ne (Int32.toInt_inj.mp (by rw [nat_of hi, nat_of hj, q]))
theorem own_inb {cl : Cell} {j N : Int32} (S : cl.slots.size = N.toNatClampNeg) (h0 : ¬ j < 0) (h1 : j < N) : ¬ (j < 0 ∨ cl.slots.size ≤ j.toNatClampNeg) := inb_of S ⟨h0, h1⟩
section Facts
variable {h' : Heap} {a b : Addr} {ty : FieldType} {N : Int32} {f : Int32 → Int32} {g : Int32 → Int64} {i : Nat} {v : Value} {ws : List Addr}
theorem own_AI.lt (F : own_AI Z h a ty N f) : a < h.size := by obtain ⟨c, A, -⟩ := F; exact A.lt
theorem own_AI.ext (F : own_AI Z h a ty N f) (E : Ext h h') : own_AI Z h' a ty N f := by obtain ⟨c, A, r⟩ := F; exact ⟨c, A.ext E, r⟩
theorem own_AI.other (F : own_AI Z h b ty N f) (W : Wr h h' a i v) (q : b ≠ a) : own_AI Z h' b ty N f := by obtain ⟨c, A, r⟩ := F; exact ⟨c, A.other W q, r⟩
theorem own_AI.keep (F : own_AI Z h a ty N f) (K : Keep h h' ws) (q : a ∉ ws) : own_AI Z h' a ty N f := by obtain ⟨c, A, r⟩ := F; exact ⟨c, ⟨K.2.1 a c A.1 q, A.2⟩, r⟩
theorem own_AI.nn (F : own_AI Z h a ty N f) : ¬ N < 0 := by obtain ⟨c, -, -, r, -⟩ := F; exact r
theorem own_AI.fit (F : own_AI Z h a ty N f) {j : Int32} (h0 : ¬ j < 0) (h1 : j < N) : fits ty (.int (f j)) = true := by obtain ⟨c, -, -, -, r⟩ := F; exact (r j h0 h1).2
theorem own_AI.set (F : own_AI Z h a ty N f) {j x : Int32} (h0 : ¬ j < 0) (h1 : j < N) (W : Wr h h' a j.toNatClampNeg (.int x)) (hf : fits ty (.int x) = true) : own_AI Z h' a ty N (own_upd f j x) := by
  obtain ⟨c, A, S, hN, r⟩ := F
  refine ⟨_, A.same W, (sz_set _ _ _).trans S, hN, fun q q0 q1 => ?_⟩
  by_cases e : q = j
  · subst e; rw [own_upd_hit]; exact ⟨get_hit (own_inb S h0 h1) rfl, hf⟩
  · rw [own_upd_miss e, get_miss h0 q0 e]; exact r q q0 q1
theorem own_AI.eqv (F : own_AI Z h a ty N f) {f' : Int32 → Int32} (q : ∀ j : Int32, ¬ j < 0 → j < N → f j = f' j) : own_AI Z h a ty N f' := by
  obtain ⟨c, A, S, hN, r⟩ := F
  exact ⟨c, A, S, hN, fun j h0 h1 => by rw [← q j h0 h1]; exact r j h0 h1⟩
theorem own_AJ.lt (F : own_AJ Z h a N g) : a < h.size := by obtain ⟨c, A, -⟩ := F; exact A.lt
theorem own_AJ.ext (F : own_AJ Z h a N g) (E : Ext h h') : own_AJ Z h' a N g := by obtain ⟨c, A, r⟩ := F; exact ⟨c, A.ext E, r⟩
theorem own_AJ.other (F : own_AJ Z h b N g) (W : Wr h h' a i v) (q : b ≠ a) : own_AJ Z h' b N g := by obtain ⟨c, A, r⟩ := F; exact ⟨c, A.other W q, r⟩
theorem own_AJ.keep (F : own_AJ Z h a N g) (K : Keep h h' ws) (q : a ∉ ws) : own_AJ Z h' a N g := by obtain ⟨c, A, r⟩ := F; exact ⟨c, ⟨K.2.1 a c A.1 q, A.2⟩, r⟩
theorem own_AJ.set (F : own_AJ Z h a N g) {j : Int32} {x : Int64} (h0 : ¬ j < 0) (h1 : j < N) (W : Wr h h' a j.toNatClampNeg (.long x)) : own_AJ Z h' a N (own_upd g j x) := by
  obtain ⟨c, A, S, hN, r⟩ := F
  refine ⟨_, A.same W, (sz_set _ _ _).trans S, hN, fun q q0 q1 => ?_⟩
  by_cases e : q = j
  · subst e; rw [own_upd_hit]; exact get_hit (own_inb S h0 h1) rfl
  · rw [own_upd_miss e, get_miss h0 q0 e]; exact r q q0 q1
theorem own_ne_ai {K : String} {kk : Nat} (E : Exa Z h a K) (wi : (Jvm.Cond.instantiable K kk).before a0 Z = true) (F : own_AI Z h b ty N f) : a ≠ b := by obtain ⟨c, A, -⟩ := F; exact ne_arr E wi A
theorem own_ne_aj {K : String} {kk : Nat} (E : Exa Z h a K) (wi : (Jvm.Cond.instantiable K kk).before a0 Z = true) (F : own_AJ Z h b N g) : a ≠ b := by obtain ⟨c, A, -⟩ := F; exact ne_arr E wi A
end Facts
theorem own_byteR {z : Int32} (hf : fits .byte (.int z) = true) : -128 ≤ z.toInt ∧ z.toInt < 128 := by
  simp only [fits, Bool.and_eq_true, decide_eq_true_eq, Int32.le_iff_toInt_le, show (-128 : Int32).toInt = -128 from by decide, show (127 : Int32).toInt = 127 from by decide] at hf
  omega
theorem own_alen (X : own_S p l e R s m av below meth c Z y co ml rt n0 T ce sl h) {a : Addr} {ty : FieldType} {N : Int32} {f : Int32 → Int32} (A : own_AI Z h a ty N f) (hd : decode co pc = .ok (.arraylength, 1)) (H : own_Fin p e below s n0 Q k n T (mkF m (pc + 1) Ls (.int N :: st))) : own_Fin p e below s n0 Q k n T (mkF m pc Ls (.ref a :: st)) := by
  obtain ⟨⟨hx, hby, -, -, -, -, -, hZ⟩, locs, X, -, eh, -⟩ := X
  obtain ⟨cl, A, S, hN, -⟩ := A
  refine own_go (fun _ q => X.arraylength hx (by rw [eh]; exact A.1) (State.isArrayOf_alike hZ.alike A.2.1) (g := mkF m pc Ls (.ref a :: st)) rfl rfl (hb hby hd) _ ?_) H
  rw [len_of S hN]; exact q
theorem own_alenJ (X : own_S p l e R s m av below meth c Z y co ml rt n0 T ce sl h) {a : Addr} {N : Int32} {f : Int32 → Int64} (A : own_AJ Z h a N f) (hd : decode co pc = .ok (.arraylength, 1)) (H : own_Fin p e below s n0 Q k n T (mkF m (pc + 1) Ls (.int N :: st))) : own_Fin p e below s n0 Q k n T (mkF m pc Ls (.ref a :: st)) := by
  obtain ⟨⟨hx, hby, -, -, -, -, -, hZ⟩, locs, X, -, eh, -⟩ := X
  obtain ⟨cl, A, S, hN, -⟩ := A
  refine own_go (fun _ q => X.arraylength hx (by rw [eh]; exact A.1) (State.isArrayOf_alike hZ.alike A.2.1) (g := mkF m pc Ls (.ref a :: st)) rfl rfl (hb hby hd) _ ?_) H
  rw [len_of S hN]; exact q
theorem own_iaload (X : own_S p l e R s m av below meth c Z y co ml rt n0 T ce sl h) {a : Addr} {N j : Int32} {f : Int32 → Int32} (A : own_AI Z h a .int N f) (h0 : ¬ j < 0) (h1 : j < N) (hd : decode co pc = .ok (.iaload, 1)) (H : ∀ v, f j = v → -2147483648 ≤ v.toInt → v.toInt < 2147483648 → own_Fin p e below s n0 Q k n T (mkF m (pc + 1) Ls (.int v :: st))) : own_Fin p e below s n0 Q k n T (mkF m pc Ls (.int j :: .ref a :: st)) := by
  obtain ⟨⟨hx, hby, -, -, -, -, -, hZ⟩, locs, X, -, eh, -⟩ := X
  obtain ⟨cl, A, S, hN, r⟩ := A
  exact own_go (fun _ q => X.iaload hx (by rw [eh]; exact A.1) (State.isArrayOf_alike hZ.alike A.2.1) A.2.2 (own_inb S h0 h1) (r j h0 h1).1 (g := mkF m pc Ls (.int j :: .ref a :: st)) rfl rfl (hb hby hd) _ q) (H _ rfl (rng32 _).1 (rng32 _).2)
theorem own_baload (X : own_S p l e R s m av below meth c Z y co ml rt n0 T ce sl h) {a : Addr} {N j : Int32} {f : Int32 → Int32} (A : own_AI Z h a .byte N f) (h0 : ¬ j < 0) (h1 : j < N) (hd : decode co pc = .ok (.baload, 1)) (H : ∀ v, f j = v → -128 ≤ v.toInt → v.toInt < 128 → own_Fin p e below s n0 Q k n T (mkF m (pc + 1) Ls (.int v :: st))) : own_Fin p e below s n0 Q k n T (mkF m pc Ls (.int j :: .ref a :: st)) := by
  obtain ⟨⟨hx, hby, -, -, -, -, -, hZ⟩, locs, X, -, eh, -⟩ := X
  obtain ⟨cl, A, S, hN, r⟩ := A
  exact own_go (fun _ q => X.baloadBytes hx (by rw [eh]; exact A.1) (State.isArrayOf_alike hZ.alike A.2.1) A.2.2 (own_inb S h0 h1) (r j h0 h1).1 (g := mkF m pc Ls (.int j :: .ref a :: st)) rfl rfl (hb hby hd) _ q) (H _ rfl (own_byteR (r j h0 h1).2).1 (own_byteR (r j h0 h1).2).2)
theorem own_laload (X : own_S p l e R s m av below meth c Z y co ml rt n0 T ce sl h) {a : Addr} {N j : Int32} {f : Int32 → Int64} (A : own_AJ Z h a N f) (h0 : ¬ j < 0) (h1 : j < N) (hd : decode co pc = .ok (.laload, 1)) (H : ∀ v, f j = v → -9223372036854775808 ≤ v.toInt → v.toInt < 9223372036854775808 → own_Fin p e below s n0 Q k n T (mkF m (pc + 1) Ls (.long v :: st))) : own_Fin p e below s n0 Q k n T (mkF m pc Ls (.int j :: .ref a :: st)) := by
  obtain ⟨⟨hx, hby, -, -, -, -, -, hZ⟩, locs, X, -, eh, -⟩ := X
  obtain ⟨cl, A, S, hN, r⟩ := A
  exact own_go (fun _ q => X.laload hx (by rw [eh]; exact A.1) (State.isArrayOf_alike hZ.alike A.2.1) A.2.2 (own_inb S h0 h1) (r j h0 h1) (g := mkF m pc Ls (.int j :: .ref a :: st)) rfl rfl (hb hby hd) _ q) (H _ rfl (rng64 _).1 (rng64 _).2)
theorem own_bastore (X : own_S p l e R s m av below meth c Z y co ml rt n0 T ce sl h) {a : Addr} {N j x x' : Int32} {f : Int32 → Int32} (A : own_AI Z h a .byte N f) (h0 : ¬ j < 0) (h1 : j < N) (ge : n0 ≤ a) (hx' : x.toInt8.toInt32 = x') (hd : decode co pc = .ok (.bastore, 1))
    (H : ∀ T' h', own_S p l e R s m av below meth c Z y co ml rt n0 T' ce sl h' → ∀ f', f' = own_upd f j x' → own_AI Z h' a .byte N f' → Wr h h' a j.toNatClampNeg (.int x') → own_Fin p e below s n0 Q k n T' (mkF m (pc + 1) Ls st)) : own_Fin p e below s n0 Q k n T (mkF m pc Ls (.int x :: .int j :: .ref a :: st)) := by
  obtain ⟨C, locs, X, N', eh, hn⟩ := X
  obtain ⟨hx, hby, hml, hown, -, -, -, hZ⟩ := id C
  obtain ⟨cl, A', S, hN, r⟩ := id A
  obtain ⟨T', h', X', e', W, st'⟩ := stB X hx hZ eh A' (j := j) (own_inb S h0 h1) (g := mkF m pc Ls (.int x :: .int j :: .ref a :: st)) rfl rfl (hb hby hd)
  have W' : Wr h h' a j.toNatClampNeg (.int x') := by rw [← hx']; exact W
  exact own_go st' (H T' h' ⟨C, _, X', Fr.snoc X' N' ge, e', hn⟩ _ rfl (A.set h0 h1 W' (by rw [← hx']; exact fits_nar_byte x)) W')
theorem own_iastore (X : own_S p l e R s m av below meth c Z y co ml rt n0 T ce sl h) {a : Addr} {N j x : Int32} {f : Int32 → Int32} (A : own_AI Z h a .int N f) (h0 : ¬ j < 0) (h1 : j < N) (ge : n0 ≤ a) (hd : decode co pc = .ok (.iastore, 1))
    (H : ∀ T' h', own_S p l e R s m av below meth c Z y co ml rt n0 T' ce sl h' → ∀ f', f' = own_upd f j x → own_AI Z h' a .int N f' → Wr h h' a j.toNatClampNeg (.int x) → own_Fin p e below s n0 Q k n T' (mkF m (pc + 1) Ls st)) : own_Fin p e below s n0 Q k n T (mkF m pc Ls (.int x :: .int j :: .ref a :: st)) := by
  obtain ⟨C, locs, X, N', eh, hn⟩ := X
  obtain ⟨hx, hby, hml, hown, -, -, -, hZ⟩ := id C
  obtain ⟨cl, A', S, hN, r⟩ := id A
  obtain ⟨T', h', X', e', W, st'⟩ := stI X hx hZ eh A' (j := j) (own_inb S h0 h1) (g := mkF m pc Ls (.int x :: .int j :: .ref a :: st)) rfl rfl (hb hby hd)
  exact own_go st' (H T' h' ⟨C, _, X', Fr.snoc X' N' ge, e', hn⟩ _ rfl (A.set h0 h1 W rfl) W)
theorem own_lastore (X : own_S p l e R s m av below meth c Z y co ml rt n0 T ce sl h) {a : Addr} {N j : Int32} {x : Int64} {f : Int32 → Int64} (A : own_AJ Z h a N f) (h0 : ¬ j < 0) (h1 : j < N) (ge : n0 ≤ a) (hd : decode co pc = .ok (.lastore, 1))
    (H : ∀ T' h', own_S p l e R s m av below meth c Z y co ml rt n0 T' ce sl h' → ∀ f', f' = own_upd f j x → own_AJ Z h' a N f' → Wr h h' a j.toNatClampNeg (.long x) → own_Fin p e below s n0 Q k n T' (mkF m (pc + 1) Ls st)) : own_Fin p e below s n0 Q k n T (mkF m pc Ls (.long x :: .int j :: .ref a :: st)) := by
  obtain ⟨C, locs, X, N', eh, hn⟩ := X
  obtain ⟨hx, hby, hml, hown, -, -, -, hZ⟩ := id C
  obtain ⟨cl, A', S, hN, r⟩ := id A
  obtain ⟨T', h', X', e', W, st'⟩ := stJ X hx hZ eh A' (j := j) (own_inb S h0 h1) (g := mkF m pc Ls (.long x :: .int j :: .ref a :: st)) rfl rfl (hb hby hd)
  exact own_go st' (H T' h' ⟨C, _, X', Fr.snoc X' N' ge, e', hn⟩ _ rfl (A.set h0 h1 W) W)
theorem own_newP (X : own_S p l e R s m av below meth c Z y co ml rt n0 T ce sl h) {aty : ArrayType} {N : Int32} {cap : Nat} (w : (Jvm.Cond.arrayClass (newarray.typeOf aty)).before a0 Z = true) (hty : defaultValue (newarray.typeOf aty) = .int 0 ∧ fits (newarray.typeOf aty) (.int 0) = true) (hN : ¬ N < 0) (hcap : N.toNatClampNeg ≤ cap) (hb' : cap * 8 ≤ 536870912) (hc : ce + 1 ≤ R.cells) (hs : sl + cap ≤ R.slots) (hd : decode co pc = .ok (.newarray aty, 2))
    (H : ∀ T' h' (b : Addr), b = h.size → n0 ≤ b → own_S p l e R s m av below meth c Z y co ml rt n0 T' (ce + 1) (sl + cap) h' → Ext h h' → ∀ f' : Int32 → Int32, f' = (fun _ => 0) → own_AI Z h' b (newarray.typeOf aty) N f' → own_Fin p e below s n0 Q k n T' (mkF m (pc + 2) Ls (.ref b :: st))) : own_Fin p e below s n0 Q k n T (mkF m pc Ls (.int N :: st)) := by
  have hz := own_size X
  obtain ⟨C, locs, X, N', eh, hn⟩ := X
  obtain ⟨hx, hby, hml, hown, hnm, -, -, hZ⟩ := id C
  obtain ⟨T', h', cA, X', e', E, A, st'⟩ := newP X hx hZ w eh (g := mkF m pc Ls (.int N :: st)) rfl (hb hby hd) rfl hN hcap hb' hc hs
  refine own_go st' (H T' h' _ rfl hz ⟨C, _, X', N', e', hn⟩ E _ rfl ⟨_, A, sz_new _ _ _, hN, fun j h0 h1 => ⟨?_, hty.2⟩⟩)
  rw [get_new (fun q => own_inb (sz_new cA (newarray.typeOf aty) N) h0 h1 (q.imp id fun r => by rw [sz_new]; exact r)), hty.1]
theorem own_newJ (X : own_S p l e R s m av below meth c Z y co ml rt n0 T ce sl h) {N : Int32} {cap : Nat} (w : (Jvm.Cond.arrayClass .long).before a0 Z = true) (hN : ¬ N < 0) (hcap : N.toNatClampNeg ≤ cap) (hb' : cap * 8 ≤ 536870912) (hc : ce + 1 ≤ R.cells) (hs : sl + cap ≤ R.slots) (hd : decode co pc = .ok (.newarray .long, 2))
    (H : ∀ T' h' (b : Addr), b = h.size → n0 ≤ b → own_S p l e R s m av below meth c Z y co ml rt n0 T' (ce + 1) (sl + cap) h' → Ext h h' → ∀ f' : Int32 → Int64, f' = (fun _ => 0) → own_AJ Z h' b N f' → own_Fin p e below s n0 Q k n T' (mkF m (pc + 2) Ls (.ref b :: st))) : own_Fin p e below s n0 Q k n T (mkF m pc Ls (.int N :: st)) := by
  have hz := own_size X
  obtain ⟨C, locs, X, N', eh, hn⟩ := X
  obtain ⟨hx, hby, hml, hown, hnm, -, -, hZ⟩ := id C
  obtain ⟨T', h', cA, X', e', E, A, st'⟩ := newP (aty := .long) X hx hZ w eh (g := mkF m pc Ls (.int N :: st)) rfl (hb hby hd) rfl hN hcap hb' hc hs
  refine own_go st' (H T' h' _ rfl hz ⟨C, _, X', N', e', hn⟩ E _ rfl ⟨_, A, sz_new _ _ _, hN, fun j h0 h1 => ?_⟩)
  exact get_new (fun q => own_inb (sz_new cA .long N) h0 h1 (q.imp id fun r => by rw [sz_new]; exact r))
end Own
def own_vl : Nat → Int → Int
  | 0, _ => 1
  | n + 1, u => if u < 128 then 1 else 1 + own_vl n (u / 128)
def own_by : Nat → Int → Nat → Int
  | 0, u, _ => u
  | n + 1, u, j => if u < 128 then u else match j with
    | 0 => u % 128 + 128
    | j + 1 => own_by n (u / 128) j
def own_ok : Nat → Int → Prop
  | 0, u => u < 128
  | n + 1, u => u < 128 ∨ own_ok n (u / 128)
def own_gr : Nat → Int → Int
  | 0, u => u
  | j + 1, u => own_gr j (u / 128)
theorem own_vl_pos : ∀ (n : Nat) (u : Int), 1 ≤ own_vl n u
  | 0, _ => by simp only [own_vl]; omega
  | n + 1, u => by
    simp only [own_vl]
    have := own_vl_pos n (u / 128)
    split <;> omega
theorem own_vl_le : ∀ (n : Nat) (u : Int), own_vl n u ≤ n + 1
  | 0, _ => by simp only [own_vl]; omega
  | n + 1, u => by
    simp only [own_vl]
    have := own_vl_le n (u / 128)
    split <;> omega
theorem own_ok9 (u : Int) (h0 : 0 ≤ u) (h1 : u < 18446744073709551616) : own_ok 9 u := by simp only [own_ok]; omega
theorem own_by_gr : ∀ (n : Nat) (u : Int) (j : Nat), 0 ≤ u → own_ok n u → (j : Int) < own_vl n u → own_by n u j = own_gr j u % 128 + (if (j : Int) + 1 < own_vl n u then 128 else 0)
  | 0, u, j, h0, ho, hj => by
    simp only [own_vl, own_ok] at hj ho
    obtain rfl : j = 0 := by omega
    rw [if_neg (by simp only [own_vl]; omega)]; simp only [own_by, own_gr]; omega
  | n + 1, u, j, h0, ho, hj => by
    have hp := own_vl_pos n (u / 128)
    by_cases q : u < 128
    · simp only [own_vl, q, if_true] at hj
      obtain rfl : j = 0 := by omega
      simp only [own_vl, own_by, own_gr, q, if_true]; rw [if_neg (by omega)]; omega
    · simp only [own_ok, q, false_or] at ho
      simp only [own_vl, q, if_false] at hj ⊢
      cases j with
      | zero => simp only [own_by, own_gr, q, if_false]; rw [if_pos (by omega)]
      | succ j =>
        have ih := own_by_gr n (u / 128) j (by omega) ho (by omega)
        simp only [own_by, own_gr, q, if_false]
        rw [ih]
        by_cases r : (j : Int) + 1 < own_vl n (u / 128)
        · rw [if_pos r, if_pos (by omega)]
        · rw [if_neg r, if_neg (by omega)]
theorem own_n128 (x w : Int64) (hx : x &&& (-128 : Int64) = w) : (w.toInt = 0 → x.toInt % 18446744073709551616 < 128) ∧ (¬ w.toInt = 0 → ¬ x.toInt % 18446744073709551616 < 128) := by
  have e1 : x = (x &&& (-128 : Int64)) ||| (x &&& (127 : Int64)) := by
    apply Int64.toBitVec_inj.mp
    rw [Int64.toBitVec_or, Int64.toBitVec_and, Int64.toBitVec_and, ← BitVec.and_or_distrib_left, show (-128 : Int64).toBitVec ||| (127 : Int64).toBitVec = BitVec.allOnes 64 from by decide, BitVec.and_allOnes]
  have e2 := c_maskL x 127 7 (by decide) (by decide)
  have r1 := rng64 x
  constructor
  · intro h
    have : x &&& (-128 : Int64) = 0 := by rw [hx]; exact Int64.toInt_inj.mp h
    rw [this, Int64.zero_or] at e1
    have e3 : x.toInt = (x &&& 127).toInt := congrArg Int64.toInt e1
    rw [e2] at e3
    omega
  · intro h q
    apply h
    have e4 : x.toInt = x.toInt % 128 := by omega
    have e5 : x &&& (127 : Int64) = x := Int64.toInt_inj.mp (by rw [e2]; omega)
    have : x &&& (-128 : Int64) = 0 := by rw [← e5, Int64.and_assoc, show (127 : Int64) &&& (-128) = 0 from by decide, Int64.and_zero]
    rw [← hx, this]; rfl
theorem own_or128N : ∀ n : Nat, n < 128 → n ||| 128 = n + 128 := by decide
theorem own_toNat64 (x : Int64) (h : 0 ≤ x.toInt) : (x.toBitVec.toNat : Int) = x.toInt := by
  have e : x.toInt = x.toBitVec.toInt := rfl
  rw [e, BitVec.toInt_eq_toNat_cond] at h ⊢
  have := x.toBitVec.isLt
  split at h <;> rename_i q <;> simp only [q, if_true, if_false] <;> omega
theorem own_or128 (x w : Int64) (hx : x ||| (128 : Int64) = w) (h0 : 0 ≤ x.toInt) (h1 : x.toInt < 128) : w.toInt = x.toInt + 128 := by
  have hn := own_toNat64 x h0
  have hw : w.toBitVec.toNat = x.toBitVec.toNat + 128 := by
    rw [← hx, Int64.toBitVec_or, BitVec.toNat_or, show (128 : Int64).toBitVec.toNat = 128 from rfl]
    exact own_or128N _ (by omega)
  have e : w.toInt = w.toBitVec.toInt := rfl
  rw [e, BitVec.toInt_eq_toNat_cond, if_pos (by omega), hw]
  omega
theorem own_lushr0 (x : Int64) : (x.toUInt64 >>> ((0 : Int32) &&& 0x3f).toInt64.toUInt64).toInt64 = x := by rw [show ((0 : Int32) &&& 0x3f).toInt64.toUInt64 = 0 from rfl]; simp
theorem ef_rm1 (m : MethodId) (q : Int64) : entryFrame m #[(.long q)] 3 = mkF m 0 #[.val (.long q), .second, .unset] [] := by first | (simp [entryFrame, mkF, argsToLocals, Value.category]; done) | rfl
theorem d1_0 : decode method_3_code 0 = .ok (.iconst 1, 1) := by decide +kernel
theorem d1_1 : decode method_3_code 1 = .ok (.istore_n 2, 1) := by decide +kernel
theorem d1_2 : decode method_3_code 2 = .ok (.lload_n 0, 1) := by decide +kernel
theorem d1_3 : decode method_3_code 3 = .ok (.bipush 7, 2) := by decide +kernel
theorem d1_5 : decode method_3_code 5 = .ok (.lushr, 1) := by decide +kernel
theorem d1_6 : decode method_3_code 6 = .ok (.lconst 0, 1) := by decide +kernel
theorem d1_7 : decode method_3_code 7 = .ok (.lcmp, 1) := by decide +kernel
theorem d1_8 : decode method_3_code 8 = .ok (.ifCond .eq 6, 3) := by decide +kernel
theorem d1_14 : decode method_3_code 14 = .ok (.lload_n 0, 1) := by decide +kernel
theorem d1_15 : decode method_3_code 15 = .ok (.bipush 14, 2) := by decide +kernel
theorem d1_17 : decode method_3_code 17 = .ok (.lushr, 1) := by decide +kernel
theorem d1_18 : decode method_3_code 18 = .ok (.lconst 0, 1) := by decide +kernel
theorem d1_19 : decode method_3_code 19 = .ok (.lcmp, 1) := by decide +kernel
theorem d1_20 : decode method_3_code 20 = .ok (.ifCond .eq 6, 3) := by decide +kernel
theorem d1_26 : decode method_3_code 26 = .ok (.lload_n 0, 1) := by decide +kernel
theorem d1_27 : decode method_3_code 27 = .ok (.bipush 21, 2) := by decide +kernel
theorem d1_29 : decode method_3_code 29 = .ok (.lushr, 1) := by decide +kernel
theorem d1_30 : decode method_3_code 30 = .ok (.lconst 0, 1) := by decide +kernel
theorem d1_31 : decode method_3_code 31 = .ok (.lcmp, 1) := by decide +kernel
theorem d1_32 : decode method_3_code 32 = .ok (.ifCond .eq 6, 3) := by decide +kernel
theorem d1_38 : decode method_3_code 38 = .ok (.lload_n 0, 1) := by decide +kernel
theorem d1_39 : decode method_3_code 39 = .ok (.bipush 28, 2) := by decide +kernel
theorem d1_41 : decode method_3_code 41 = .ok (.lushr, 1) := by decide +kernel
theorem d1_42 : decode method_3_code 42 = .ok (.lconst 0, 1) := by decide +kernel
theorem d1_43 : decode method_3_code 43 = .ok (.lcmp, 1) := by decide +kernel
theorem d1_44 : decode method_3_code 44 = .ok (.ifCond .eq 6, 3) := by decide +kernel
theorem d1_50 : decode method_3_code 50 = .ok (.lload_n 0, 1) := by decide +kernel
theorem d1_51 : decode method_3_code 51 = .ok (.bipush 35, 2) := by decide +kernel
theorem d1_53 : decode method_3_code 53 = .ok (.lushr, 1) := by decide +kernel
theorem d1_54 : decode method_3_code 54 = .ok (.lconst 0, 1) := by decide +kernel
theorem d1_55 : decode method_3_code 55 = .ok (.lcmp, 1) := by decide +kernel
theorem d1_56 : decode method_3_code 56 = .ok (.ifCond .eq 6, 3) := by decide +kernel
theorem d1_62 : decode method_3_code 62 = .ok (.lload_n 0, 1) := by decide +kernel
theorem d1_63 : decode method_3_code 63 = .ok (.bipush 42, 2) := by decide +kernel
theorem d1_65 : decode method_3_code 65 = .ok (.lushr, 1) := by decide +kernel
theorem d1_66 : decode method_3_code 66 = .ok (.lconst 0, 1) := by decide +kernel
theorem d1_67 : decode method_3_code 67 = .ok (.lcmp, 1) := by decide +kernel
theorem d1_68 : decode method_3_code 68 = .ok (.ifCond .eq 6, 3) := by decide +kernel
theorem d1_74 : decode method_3_code 74 = .ok (.lload_n 0, 1) := by decide +kernel
theorem d1_75 : decode method_3_code 75 = .ok (.bipush 49, 2) := by decide +kernel
theorem d1_77 : decode method_3_code 77 = .ok (.lushr, 1) := by decide +kernel
theorem d1_78 : decode method_3_code 78 = .ok (.lconst 0, 1) := by decide +kernel
theorem d1_79 : decode method_3_code 79 = .ok (.lcmp, 1) := by decide +kernel
theorem d1_80 : decode method_3_code 80 = .ok (.ifCond .eq 6, 3) := by decide +kernel
theorem d1_86 : decode method_3_code 86 = .ok (.lload_n 0, 1) := by decide +kernel
theorem d1_87 : decode method_3_code 87 = .ok (.bipush 56, 2) := by decide +kernel
theorem d1_89 : decode method_3_code 89 = .ok (.lushr, 1) := by decide +kernel
theorem d1_90 : decode method_3_code 90 = .ok (.lconst 0, 1) := by decide +kernel
theorem d1_91 : decode method_3_code 91 = .ok (.lcmp, 1) := by decide +kernel
theorem d1_92 : decode method_3_code 92 = .ok (.ifCond .eq 6, 3) := by decide +kernel
theorem d1_98 : decode method_3_code 98 = .ok (.lload_n 0, 1) := by decide +kernel
theorem d1_99 : decode method_3_code 99 = .ok (.bipush 63, 2) := by decide +kernel
theorem d1_101 : decode method_3_code 101 = .ok (.lushr, 1) := by decide +kernel
theorem d1_102 : decode method_3_code 102 = .ok (.lconst 0, 1) := by decide +kernel
theorem d1_103 : decode method_3_code 103 = .ok (.lcmp, 1) := by decide +kernel
theorem d1_104 : decode method_3_code 104 = .ok (.ifCond .eq 6, 3) := by decide +kernel
theorem d1_110 : decode method_3_code 110 = .ok (.iload_n 2, 1) := by decide +kernel
theorem d1_111 : decode method_3_code 111 = .ok (.ireturn, 1) := by decide +kernel
theorem d1_11 : decode method_3_code 11 = .ok (.iinc 2 1, 3) := by decide +kernel
theorem d1_23 : decode method_3_code 23 = .ok (.iinc 2 1, 3) := by decide +kernel
theorem d1_35 : decode method_3_code 35 = .ok (.iinc 2 1, 3) := by decide +kernel
theorem d1_47 : decode method_3_code 47 = .ok (.iinc 2 1, 3) := by decide +kernel
theorem d1_59 : decode method_3_code 59 = .ok (.iinc 2 1, 3) := by decide +kernel
theorem d1_71 : decode method_3_code 71 = .ok (.iinc 2 1, 3) := by decide +kernel
theorem d1_83 : decode method_3_code 83 = .ok (.iinc 2 1, 3) := by decide +kernel
theorem d1_95 : decode method_3_code 95 = .ok (.iinc 2 1, 3) := by decide +kernel
theorem d1_107 : decode method_3_code 107 = .ok (.iinc 2 1, 3) := by decide +kernel
theorem pn_1 : plainFor (⟨"com/example/fihrist/fihrist/index/IndexFormatPutVarintPinLaw", "varintLength", "(J)I"⟩ : MethodName) = true := plainFor_of_name (show plainName "com/example/fihrist/fihrist/index/IndexFormatPutVarintPinLaw" = true from by first | (simp [plainName, overriddenIn]; done) | decide +kernel)
set_option maxRecDepth 65536 in
set_option maxHeartbeats 40000000 in
theorem rm1 (l : Launch) (Z : State) (a0 : Array Value) (hw : ∀ d ∈ tables_1, d.before a0 Z = true) (ws : List Jvm.Cond) (q : Int64) (h0 : Heap) (n0 : Nat) (hn0 : n0 ≤ h0.size) :
    own_Met l Z (⟨"com/example/fihrist/fihrist/index/IndexFormatPutVarintPinLaw", "varintLength", "(J)I"⟩ : MethodName) method_3_code 3 (some .int) ws ({ frames := 0, cells := 0, slots := 0, locals := 0 } : Room) #[(.long q)] h0 n0 (own_QI fun z h => (z.toInt = own_vl 9 (q.toInt % 18446744073709551616)) ∧ h = h0) := by
  refine own_met pn_1 hn0 (fun p e s m below meth c T X => ?_)
  refine own_cast (ef_rm1 m q) ?_
  have r_q := rng64 q
  refine own_iconst X (1) d1_0 rfl ?_
  refine own_istoreN X d1_1 (L' := #[.val (.long q), .second, .val (.int (1 : Int32))]) rfl ?_
  refine own_lloadN X d1_2 rfl ?_
  refine own_bipush X (7) d1_3 rfl ?_
  refine own_lushrK X (q.toInt) 7 128 d1_5 rfl (by decide) (by decide) (by decide) (fun v1 hv1 cv1 lv1 uv1 => ?_)
  refine own_lconst0 X d1_6 ?_
  refine own_lcmp X d1_7 ?_
  by_cases hc2 : v1.toInt = 0
  · refine own_ifYes X (pc := 8) (pc' := 14) d1_8 ((if0 _ _).trans (teq (own_lEq rfl rfl hc2)).1) (by decide) (by decide) ?_
    refine own_lloadN X d1_14 rfl ?_
    refine own_bipush X (14) d1_15 rfl ?_
    refine own_lushrK X (q.toInt) 14 16384 d1_17 rfl (by decide) (by decide) (by decide) (fun v3 hv3 cv3 lv3 uv3 => ?_)
    refine own_lconst0 X d1_18 ?_
    refine own_lcmp X d1_19 ?_
    have hc4 : v3.toInt = 0 := by omega
    refine own_ifYes X (pc := 20) (pc' := 26) d1_20 ((if0 _ _).trans (teq (own_lEq rfl rfl hc4)).1) (by decide) (by decide) ?_
    refine own_lloadN X d1_26 rfl ?_
    refine own_bipush X (21) d1_27 rfl ?_
    refine own_lushrK X (q.toInt) 21 2097152 d1_29 rfl (by decide) (by decide) (by decide) (fun v5 hv5 cv5 lv5 uv5 => ?_)
    refine own_lconst0 X d1_30 ?_
    refine own_lcmp X d1_31 ?_
    have hc6 : v5.toInt = 0 := by omega
    refine own_ifYes X (pc := 32) (pc' := 38) d1_32 ((if0 _ _).trans (teq (own_lEq rfl rfl hc6)).1) (by decide) (by decide) ?_
    refine own_lloadN X d1_38 rfl ?_
    refine own_bipush X (28) d1_39 rfl ?_
    refine own_lushrK X (q.toInt) 28 268435456 d1_41 rfl (by decide) (by decide) (by decide) (fun v7 hv7 cv7 lv7 uv7 => ?_)
    refine own_lconst0 X d1_42 ?_
    refine own_lcmp X d1_43 ?_
    have hc8 : v7.toInt = 0 := by omega
    refine own_ifYes X (pc := 44) (pc' := 50) d1_44 ((if0 _ _).trans (teq (own_lEq rfl rfl hc8)).1) (by decide) (by decide) ?_
    refine own_lloadN X d1_50 rfl ?_
    refine own_bipush X (35) d1_51 rfl ?_
    refine own_lushrK X (q.toInt) 35 34359738368 d1_53 rfl (by decide) (by decide) (by decide) (fun v9 hv9 cv9 lv9 uv9 => ?_)
    refine own_lconst0 X d1_54 ?_
    refine own_lcmp X d1_55 ?_
    have hc10 : v9.toInt = 0 := by omega
    refine own_ifYes X (pc := 56) (pc' := 62) d1_56 ((if0 _ _).trans (teq (own_lEq rfl rfl hc10)).1) (by decide) (by decide) ?_
    refine own_lloadN X d1_62 rfl ?_
    refine own_bipush X (42) d1_63 rfl ?_
    refine own_lushrK X (q.toInt) 42 4398046511104 d1_65 rfl (by decide) (by decide) (by decide) (fun v11 hv11 cv11 lv11 uv11 => ?_)
    refine own_lconst0 X d1_66 ?_
    refine own_lcmp X d1_67 ?_
    have hc12 : v11.toInt = 0 := by omega
    refine own_ifYes X (pc := 68) (pc' := 74) d1_68 ((if0 _ _).trans (teq (own_lEq rfl rfl hc12)).1) (by decide) (by decide) ?_
    refine own_lloadN X d1_74 rfl ?_
    refine own_bipush X (49) d1_75 rfl ?_
    refine own_lushrK X (q.toInt) 49 562949953421312 d1_77 rfl (by decide) (by decide) (by decide) (fun v13 hv13 cv13 lv13 uv13 => ?_)
    refine own_lconst0 X d1_78 ?_
    refine own_lcmp X d1_79 ?_
    have hc14 : v13.toInt = 0 := by omega
    refine own_ifYes X (pc := 80) (pc' := 86) d1_80 ((if0 _ _).trans (teq (own_lEq rfl rfl hc14)).1) (by decide) (by decide) ?_
    refine own_lloadN X d1_86 rfl ?_
    refine own_bipush X (56) d1_87 rfl ?_
    refine own_lushrK X (q.toInt) 56 72057594037927936 d1_89 rfl (by decide) (by decide) (by decide) (fun v15 hv15 cv15 lv15 uv15 => ?_)
    refine own_lconst0 X d1_90 ?_
    refine own_lcmp X d1_91 ?_
    have hc16 : v15.toInt = 0 := by omega
    refine own_ifYes X (pc := 92) (pc' := 98) d1_92 ((if0 _ _).trans (teq (own_lEq rfl rfl hc16)).1) (by decide) (by decide) ?_
    refine own_lloadN X d1_98 rfl ?_
    refine own_bipush X (63) d1_99 rfl ?_
    refine own_lushrK X (q.toInt) 63 9223372036854775808 d1_101 rfl (by decide) (by decide) (by decide) (fun v17 hv17 cv17 lv17 uv17 => ?_)
    refine own_lconst0 X d1_102 ?_
    refine own_lcmp X d1_103 ?_
    have hc18 : v17.toInt = 0 := by omega
    refine own_ifYes X (pc := 104) (pc' := 110) d1_104 ((if0 _ _).trans (teq (own_lEq rfl rfl hc18)).1) (by decide) (by decide) ?_
    refine own_iloadN X d1_110 rfl ?_
    refine own_retI X d1_111 (by decide) (by decide) ⟨_, rfl, ?_⟩
    exact ⟨by show (1 : Int) = _; simp only [own_vl]; (repeat (first | rw [if_pos (by omega)] | rw [if_neg (by omega)])) <;> omega, rfl⟩
  · refine own_ifNo X d1_8 ((if0 _ _).trans (feq (own_lNe rfl rfl hc2)).1) ?_
    refine own_iinc X d1_11 rfl rfl (L' := #[.val (.long q), .second, .val (.int (2 : Int32))]) rfl ?_
    refine own_lloadN X d1_14 rfl ?_
    refine own_bipush X (14) d1_15 rfl ?_
    refine own_lushrK X (q.toInt) 14 16384 d1_17 rfl (by decide) (by decide) (by decide) (fun v19 hv19 cv19 lv19 uv19 => ?_)
    refine own_lconst0 X d1_18 ?_
    refine own_lcmp X d1_19 ?_
    by_cases hc20 : v19.toInt = 0
    · refine own_ifYes X (pc := 20) (pc' := 26) d1_20 ((if0 _ _).trans (teq (own_lEq rfl rfl hc20)).1) (by decide) (by decide) ?_
      refine own_lloadN X d1_26 rfl ?_
      refine own_bipush X (21) d1_27 rfl ?_
      refine own_lushrK X (q.toInt) 21 2097152 d1_29 rfl (by decide) (by decide) (by decide) (fun v21 hv21 cv21 lv21 uv21 => ?_)
      refine own_lconst0 X d1_30 ?_
      refine own_lcmp X d1_31 ?_
      have hc22 : v21.toInt = 0 := by omega
      refine own_ifYes X (pc := 32) (pc' := 38) d1_32 ((if0 _ _).trans (teq (own_lEq rfl rfl hc22)).1) (by decide) (by decide) ?_
      refine own_lloadN X d1_38 rfl ?_
      refine own_bipush X (28) d1_39 rfl ?_
      refine own_lushrK X (q.toInt) 28 268435456 d1_41 rfl (by decide) (by decide) (by decide) (fun v23 hv23 cv23 lv23 uv23 => ?_)
      refine own_lconst0 X d1_42 ?_
      refine own_lcmp X d1_43 ?_
      have hc24 : v23.toInt = 0 := by omega
      refine own_ifYes X (pc := 44) (pc' := 50) d1_44 ((if0 _ _).trans (teq (own_lEq rfl rfl hc24)).1) (by decide) (by decide) ?_
      refine own_lloadN X d1_50 rfl ?_
      refine own_bipush X (35) d1_51 rfl ?_
      refine own_lushrK X (q.toInt) 35 34359738368 d1_53 rfl (by decide) (by decide) (by decide) (fun v25 hv25 cv25 lv25 uv25 => ?_)
      refine own_lconst0 X d1_54 ?_
      refine own_lcmp X d1_55 ?_
      have hc26 : v25.toInt = 0 := by omega
      refine own_ifYes X (pc := 56) (pc' := 62) d1_56 ((if0 _ _).trans (teq (own_lEq rfl rfl hc26)).1) (by decide) (by decide) ?_
      refine own_lloadN X d1_62 rfl ?_
      refine own_bipush X (42) d1_63 rfl ?_
      refine own_lushrK X (q.toInt) 42 4398046511104 d1_65 rfl (by decide) (by decide) (by decide) (fun v27 hv27 cv27 lv27 uv27 => ?_)
      refine own_lconst0 X d1_66 ?_
      refine own_lcmp X d1_67 ?_
      have hc28 : v27.toInt = 0 := by omega
      refine own_ifYes X (pc := 68) (pc' := 74) d1_68 ((if0 _ _).trans (teq (own_lEq rfl rfl hc28)).1) (by decide) (by decide) ?_
      refine own_lloadN X d1_74 rfl ?_
      refine own_bipush X (49) d1_75 rfl ?_
      refine own_lushrK X (q.toInt) 49 562949953421312 d1_77 rfl (by decide) (by decide) (by decide) (fun v29 hv29 cv29 lv29 uv29 => ?_)
      refine own_lconst0 X d1_78 ?_
      refine own_lcmp X d1_79 ?_
      have hc30 : v29.toInt = 0 := by omega
      refine own_ifYes X (pc := 80) (pc' := 86) d1_80 ((if0 _ _).trans (teq (own_lEq rfl rfl hc30)).1) (by decide) (by decide) ?_
      refine own_lloadN X d1_86 rfl ?_
      refine own_bipush X (56) d1_87 rfl ?_
      refine own_lushrK X (q.toInt) 56 72057594037927936 d1_89 rfl (by decide) (by decide) (by decide) (fun v31 hv31 cv31 lv31 uv31 => ?_)
      refine own_lconst0 X d1_90 ?_
      refine own_lcmp X d1_91 ?_
      have hc32 : v31.toInt = 0 := by omega
      refine own_ifYes X (pc := 92) (pc' := 98) d1_92 ((if0 _ _).trans (teq (own_lEq rfl rfl hc32)).1) (by decide) (by decide) ?_
      refine own_lloadN X d1_98 rfl ?_
      refine own_bipush X (63) d1_99 rfl ?_
      refine own_lushrK X (q.toInt) 63 9223372036854775808 d1_101 rfl (by decide) (by decide) (by decide) (fun v33 hv33 cv33 lv33 uv33 => ?_)
      refine own_lconst0 X d1_102 ?_
      refine own_lcmp X d1_103 ?_
      have hc34 : v33.toInt = 0 := by omega
      refine own_ifYes X (pc := 104) (pc' := 110) d1_104 ((if0 _ _).trans (teq (own_lEq rfl rfl hc34)).1) (by decide) (by decide) ?_
      refine own_iloadN X d1_110 rfl ?_
      refine own_retI X d1_111 (by decide) (by decide) ⟨_, rfl, ?_⟩
      exact ⟨by show (2 : Int) = _; simp only [own_vl]; (repeat (first | rw [if_pos (by omega)] | rw [if_neg (by omega)])) <;> omega, rfl⟩
    · refine own_ifNo X d1_20 ((if0 _ _).trans (feq (own_lNe rfl rfl hc20)).1) ?_
      refine own_iinc X d1_23 rfl rfl (L' := #[.val (.long q), .second, .val (.int (3 : Int32))]) rfl ?_
      refine own_lloadN X d1_26 rfl ?_
      refine own_bipush X (21) d1_27 rfl ?_
      refine own_lushrK X (q.toInt) 21 2097152 d1_29 rfl (by decide) (by decide) (by decide) (fun v35 hv35 cv35 lv35 uv35 => ?_)
      refine own_lconst0 X d1_30 ?_
      refine own_lcmp X d1_31 ?_
      by_cases hc36 : v35.toInt = 0
      · refine own_ifYes X (pc := 32) (pc' := 38) d1_32 ((if0 _ _).trans (teq (own_lEq rfl rfl hc36)).1) (by decide) (by decide) ?_
        refine own_lloadN X d1_38 rfl ?_
        refine own_bipush X (28) d1_39 rfl ?_
        refine own_lushrK X (q.toInt) 28 268435456 d1_41 rfl (by decide) (by decide) (by decide) (fun v37 hv37 cv37 lv37 uv37 => ?_)
        refine own_lconst0 X d1_42 ?_
        refine own_lcmp X d1_43 ?_
        have hc38 : v37.toInt = 0 := by omega
        refine own_ifYes X (pc := 44) (pc' := 50) d1_44 ((if0 _ _).trans (teq (own_lEq rfl rfl hc38)).1) (by decide) (by decide) ?_
        refine own_lloadN X d1_50 rfl ?_
        refine own_bipush X (35) d1_51 rfl ?_
        refine own_lushrK X (q.toInt) 35 34359738368 d1_53 rfl (by decide) (by decide) (by decide) (fun v39 hv39 cv39 lv39 uv39 => ?_)
        refine own_lconst0 X d1_54 ?_
        refine own_lcmp X d1_55 ?_
        have hc40 : v39.toInt = 0 := by omega
        refine own_ifYes X (pc := 56) (pc' := 62) d1_56 ((if0 _ _).trans (teq (own_lEq rfl rfl hc40)).1) (by decide) (by decide) ?_
        refine own_lloadN X d1_62 rfl ?_
        refine own_bipush X (42) d1_63 rfl ?_
        refine own_lushrK X (q.toInt) 42 4398046511104 d1_65 rfl (by decide) (by decide) (by decide) (fun v41 hv41 cv41 lv41 uv41 => ?_)
        refine own_lconst0 X d1_66 ?_
        refine own_lcmp X d1_67 ?_
        have hc42 : v41.toInt = 0 := by omega
        refine own_ifYes X (pc := 68) (pc' := 74) d1_68 ((if0 _ _).trans (teq (own_lEq rfl rfl hc42)).1) (by decide) (by decide) ?_
        refine own_lloadN X d1_74 rfl ?_
        refine own_bipush X (49) d1_75 rfl ?_
        refine own_lushrK X (q.toInt) 49 562949953421312 d1_77 rfl (by decide) (by decide) (by decide) (fun v43 hv43 cv43 lv43 uv43 => ?_)
        refine own_lconst0 X d1_78 ?_
        refine own_lcmp X d1_79 ?_
        have hc44 : v43.toInt = 0 := by omega
        refine own_ifYes X (pc := 80) (pc' := 86) d1_80 ((if0 _ _).trans (teq (own_lEq rfl rfl hc44)).1) (by decide) (by decide) ?_
        refine own_lloadN X d1_86 rfl ?_
        refine own_bipush X (56) d1_87 rfl ?_
        refine own_lushrK X (q.toInt) 56 72057594037927936 d1_89 rfl (by decide) (by decide) (by decide) (fun v45 hv45 cv45 lv45 uv45 => ?_)
        refine own_lconst0 X d1_90 ?_
        refine own_lcmp X d1_91 ?_
        have hc46 : v45.toInt = 0 := by omega
        refine own_ifYes X (pc := 92) (pc' := 98) d1_92 ((if0 _ _).trans (teq (own_lEq rfl rfl hc46)).1) (by decide) (by decide) ?_
        refine own_lloadN X d1_98 rfl ?_
        refine own_bipush X (63) d1_99 rfl ?_
        refine own_lushrK X (q.toInt) 63 9223372036854775808 d1_101 rfl (by decide) (by decide) (by decide) (fun v47 hv47 cv47 lv47 uv47 => ?_)
        refine own_lconst0 X d1_102 ?_
        refine own_lcmp X d1_103 ?_
        have hc48 : v47.toInt = 0 := by omega
        refine own_ifYes X (pc := 104) (pc' := 110) d1_104 ((if0 _ _).trans (teq (own_lEq rfl rfl hc48)).1) (by decide) (by decide) ?_
        refine own_iloadN X d1_110 rfl ?_
        refine own_retI X d1_111 (by decide) (by decide) ⟨_, rfl, ?_⟩
        exact ⟨by show (3 : Int) = _; simp only [own_vl]; (repeat (first | rw [if_pos (by omega)] | rw [if_neg (by omega)])) <;> omega, rfl⟩
      · refine own_ifNo X d1_32 ((if0 _ _).trans (feq (own_lNe rfl rfl hc36)).1) ?_
        refine own_iinc X d1_35 rfl rfl (L' := #[.val (.long q), .second, .val (.int (4 : Int32))]) rfl ?_
        refine own_lloadN X d1_38 rfl ?_
        refine own_bipush X (28) d1_39 rfl ?_
        refine own_lushrK X (q.toInt) 28 268435456 d1_41 rfl (by decide) (by decide) (by decide) (fun v49 hv49 cv49 lv49 uv49 => ?_)
        refine own_lconst0 X d1_42 ?_
        refine own_lcmp X d1_43 ?_
        by_cases hc50 : v49.toInt = 0
        · refine own_ifYes X (pc := 44) (pc' := 50) d1_44 ((if0 _ _).trans (teq (own_lEq rfl rfl hc50)).1) (by decide) (by decide) ?_
          refine own_lloadN X d1_50 rfl ?_
          refine own_bipush X (35) d1_51 rfl ?_
          refine own_lushrK X (q.toInt) 35 34359738368 d1_53 rfl (by decide) (by decide) (by decide) (fun v51 hv51 cv51 lv51 uv51 => ?_)
          refine own_lconst0 X d1_54 ?_
          refine own_lcmp X d1_55 ?_
          have hc52 : v51.toInt = 0 := by omega
          refine own_ifYes X (pc := 56) (pc' := 62) d1_56 ((if0 _ _).trans (teq (own_lEq rfl rfl hc52)).1) (by decide) (by decide) ?_
          refine own_lloadN X d1_62 rfl ?_
          refine own_bipush X (42) d1_63 rfl ?_
          refine own_lushrK X (q.toInt) 42 4398046511104 d1_65 rfl (by decide) (by decide) (by decide) (fun v53 hv53 cv53 lv53 uv53 => ?_)
          refine own_lconst0 X d1_66 ?_
          refine own_lcmp X d1_67 ?_
          have hc54 : v53.toInt = 0 := by omega
          refine own_ifYes X (pc := 68) (pc' := 74) d1_68 ((if0 _ _).trans (teq (own_lEq rfl rfl hc54)).1) (by decide) (by decide) ?_
          refine own_lloadN X d1_74 rfl ?_
          refine own_bipush X (49) d1_75 rfl ?_
          refine own_lushrK X (q.toInt) 49 562949953421312 d1_77 rfl (by decide) (by decide) (by decide) (fun v55 hv55 cv55 lv55 uv55 => ?_)
          refine own_lconst0 X d1_78 ?_
          refine own_lcmp X d1_79 ?_
          have hc56 : v55.toInt = 0 := by omega
          refine own_ifYes X (pc := 80) (pc' := 86) d1_80 ((if0 _ _).trans (teq (own_lEq rfl rfl hc56)).1) (by decide) (by decide) ?_
          refine own_lloadN X d1_86 rfl ?_
          refine own_bipush X (56) d1_87 rfl ?_
          refine own_lushrK X (q.toInt) 56 72057594037927936 d1_89 rfl (by decide) (by decide) (by decide) (fun v57 hv57 cv57 lv57 uv57 => ?_)
          refine own_lconst0 X d1_90 ?_
          refine own_lcmp X d1_91 ?_
          have hc58 : v57.toInt = 0 := by omega
          refine own_ifYes X (pc := 92) (pc' := 98) d1_92 ((if0 _ _).trans (teq (own_lEq rfl rfl hc58)).1) (by decide) (by decide) ?_
          refine own_lloadN X d1_98 rfl ?_
          refine own_bipush X (63) d1_99 rfl ?_
          refine own_lushrK X (q.toInt) 63 9223372036854775808 d1_101 rfl (by decide) (by decide) (by decide) (fun v59 hv59 cv59 lv59 uv59 => ?_)
          refine own_lconst0 X d1_102 ?_
          refine own_lcmp X d1_103 ?_
          have hc60 : v59.toInt = 0 := by omega
          refine own_ifYes X (pc := 104) (pc' := 110) d1_104 ((if0 _ _).trans (teq (own_lEq rfl rfl hc60)).1) (by decide) (by decide) ?_
          refine own_iloadN X d1_110 rfl ?_
          refine own_retI X d1_111 (by decide) (by decide) ⟨_, rfl, ?_⟩
          exact ⟨by show (4 : Int) = _; simp only [own_vl]; (repeat (first | rw [if_pos (by omega)] | rw [if_neg (by omega)])) <;> omega, rfl⟩
        · refine own_ifNo X d1_44 ((if0 _ _).trans (feq (own_lNe rfl rfl hc50)).1) ?_
          refine own_iinc X d1_47 rfl rfl (L' := #[.val (.long q), .second, .val (.int (5 : Int32))]) rfl ?_
          refine own_lloadN X d1_50 rfl ?_
          refine own_bipush X (35) d1_51 rfl ?_
          refine own_lushrK X (q.toInt) 35 34359738368 d1_53 rfl (by decide) (by decide) (by decide) (fun v61 hv61 cv61 lv61 uv61 => ?_)
          refine own_lconst0 X d1_54 ?_
          refine own_lcmp X d1_55 ?_
          by_cases hc62 : v61.toInt = 0
          · refine own_ifYes X (pc := 56) (pc' := 62) d1_56 ((if0 _ _).trans (teq (own_lEq rfl rfl hc62)).1) (by decide) (by decide) ?_
            refine own_lloadN X d1_62 rfl ?_
            refine own_bipush X (42) d1_63 rfl ?_
            refine own_lushrK X (q.toInt) 42 4398046511104 d1_65 rfl (by decide) (by decide) (by decide) (fun v63 hv63 cv63 lv63 uv63 => ?_)
            refine own_lconst0 X d1_66 ?_
            refine own_lcmp X d1_67 ?_
            have hc64 : v63.toInt = 0 := by omega
            refine own_ifYes X (pc := 68) (pc' := 74) d1_68 ((if0 _ _).trans (teq (own_lEq rfl rfl hc64)).1) (by decide) (by decide) ?_
            refine own_lloadN X d1_74 rfl ?_
            refine own_bipush X (49) d1_75 rfl ?_
            refine own_lushrK X (q.toInt) 49 562949953421312 d1_77 rfl (by decide) (by decide) (by decide) (fun v65 hv65 cv65 lv65 uv65 => ?_)
            refine own_lconst0 X d1_78 ?_
            refine own_lcmp X d1_79 ?_
            have hc66 : v65.toInt = 0 := by omega
            refine own_ifYes X (pc := 80) (pc' := 86) d1_80 ((if0 _ _).trans (teq (own_lEq rfl rfl hc66)).1) (by decide) (by decide) ?_
            refine own_lloadN X d1_86 rfl ?_
            refine own_bipush X (56) d1_87 rfl ?_
            refine own_lushrK X (q.toInt) 56 72057594037927936 d1_89 rfl (by decide) (by decide) (by decide) (fun v67 hv67 cv67 lv67 uv67 => ?_)
            refine own_lconst0 X d1_90 ?_
            refine own_lcmp X d1_91 ?_
            have hc68 : v67.toInt = 0 := by omega
            refine own_ifYes X (pc := 92) (pc' := 98) d1_92 ((if0 _ _).trans (teq (own_lEq rfl rfl hc68)).1) (by decide) (by decide) ?_
            refine own_lloadN X d1_98 rfl ?_
            refine own_bipush X (63) d1_99 rfl ?_
            refine own_lushrK X (q.toInt) 63 9223372036854775808 d1_101 rfl (by decide) (by decide) (by decide) (fun v69 hv69 cv69 lv69 uv69 => ?_)
            refine own_lconst0 X d1_102 ?_
            refine own_lcmp X d1_103 ?_
            have hc70 : v69.toInt = 0 := by omega
            refine own_ifYes X (pc := 104) (pc' := 110) d1_104 ((if0 _ _).trans (teq (own_lEq rfl rfl hc70)).1) (by decide) (by decide) ?_
            refine own_iloadN X d1_110 rfl ?_
            refine own_retI X d1_111 (by decide) (by decide) ⟨_, rfl, ?_⟩
            exact ⟨by show (5 : Int) = _; simp only [own_vl]; (repeat (first | rw [if_pos (by omega)] | rw [if_neg (by omega)])) <;> omega, rfl⟩
          · refine own_ifNo X d1_56 ((if0 _ _).trans (feq (own_lNe rfl rfl hc62)).1) ?_
            refine own_iinc X d1_59 rfl rfl (L' := #[.val (.long q), .second, .val (.int (6 : Int32))]) rfl ?_
            refine own_lloadN X d1_62 rfl ?_
            refine own_bipush X (42) d1_63 rfl ?_
            refine own_lushrK X (q.toInt) 42 4398046511104 d1_65 rfl (by decide) (by decide) (by decide) (fun v71 hv71 cv71 lv71 uv71 => ?_)
            refine own_lconst0 X d1_66 ?_
            refine own_lcmp X d1_67 ?_
            by_cases hc72 : v71.toInt = 0
            · refine own_ifYes X (pc := 68) (pc' := 74) d1_68 ((if0 _ _).trans (teq (own_lEq rfl rfl hc72)).1) (by decide) (by decide) ?_
              refine own_lloadN X d1_74 rfl ?_
              refine own_bipush X (49) d1_75 rfl ?_
              refine own_lushrK X (q.toInt) 49 562949953421312 d1_77 rfl (by decide) (by decide) (by decide) (fun v73 hv73 cv73 lv73 uv73 => ?_)
              refine own_lconst0 X d1_78 ?_
              refine own_lcmp X d1_79 ?_
              have hc74 : v73.toInt = 0 := by omega
              refine own_ifYes X (pc := 80) (pc' := 86) d1_80 ((if0 _ _).trans (teq (own_lEq rfl rfl hc74)).1) (by decide) (by decide) ?_
              refine own_lloadN X d1_86 rfl ?_
              refine own_bipush X (56) d1_87 rfl ?_
              refine own_lushrK X (q.toInt) 56 72057594037927936 d1_89 rfl (by decide) (by decide) (by decide) (fun v75 hv75 cv75 lv75 uv75 => ?_)
              refine own_lconst0 X d1_90 ?_
              refine own_lcmp X d1_91 ?_
              have hc76 : v75.toInt = 0 := by omega
              refine own_ifYes X (pc := 92) (pc' := 98) d1_92 ((if0 _ _).trans (teq (own_lEq rfl rfl hc76)).1) (by decide) (by decide) ?_
              refine own_lloadN X d1_98 rfl ?_
              refine own_bipush X (63) d1_99 rfl ?_
              refine own_lushrK X (q.toInt) 63 9223372036854775808 d1_101 rfl (by decide) (by decide) (by decide) (fun v77 hv77 cv77 lv77 uv77 => ?_)
              refine own_lconst0 X d1_102 ?_
              refine own_lcmp X d1_103 ?_
              have hc78 : v77.toInt = 0 := by omega
              refine own_ifYes X (pc := 104) (pc' := 110) d1_104 ((if0 _ _).trans (teq (own_lEq rfl rfl hc78)).1) (by decide) (by decide) ?_
              refine own_iloadN X d1_110 rfl ?_
              refine own_retI X d1_111 (by decide) (by decide) ⟨_, rfl, ?_⟩
              exact ⟨by show (6 : Int) = _; simp only [own_vl]; (repeat (first | rw [if_pos (by omega)] | rw [if_neg (by omega)])) <;> omega, rfl⟩
            · refine own_ifNo X d1_68 ((if0 _ _).trans (feq (own_lNe rfl rfl hc72)).1) ?_
              refine own_iinc X d1_71 rfl rfl (L' := #[.val (.long q), .second, .val (.int (7 : Int32))]) rfl ?_
              refine own_lloadN X d1_74 rfl ?_
              refine own_bipush X (49) d1_75 rfl ?_
              refine own_lushrK X (q.toInt) 49 562949953421312 d1_77 rfl (by decide) (by decide) (by decide) (fun v79 hv79 cv79 lv79 uv79 => ?_)
              refine own_lconst0 X d1_78 ?_
              refine own_lcmp X d1_79 ?_
              by_cases hc80 : v79.toInt = 0
              · refine own_ifYes X (pc := 80) (pc' := 86) d1_80 ((if0 _ _).trans (teq (own_lEq rfl rfl hc80)).1) (by decide) (by decide) ?_
                refine own_lloadN X d1_86 rfl ?_
                refine own_bipush X (56) d1_87 rfl ?_
                refine own_lushrK X (q.toInt) 56 72057594037927936 d1_89 rfl (by decide) (by decide) (by decide) (fun v81 hv81 cv81 lv81 uv81 => ?_)
                refine own_lconst0 X d1_90 ?_
                refine own_lcmp X d1_91 ?_
                have hc82 : v81.toInt = 0 := by omega
                refine own_ifYes X (pc := 92) (pc' := 98) d1_92 ((if0 _ _).trans (teq (own_lEq rfl rfl hc82)).1) (by decide) (by decide) ?_
                refine own_lloadN X d1_98 rfl ?_
                refine own_bipush X (63) d1_99 rfl ?_
                refine own_lushrK X (q.toInt) 63 9223372036854775808 d1_101 rfl (by decide) (by decide) (by decide) (fun v83 hv83 cv83 lv83 uv83 => ?_)
                refine own_lconst0 X d1_102 ?_
                refine own_lcmp X d1_103 ?_
                have hc84 : v83.toInt = 0 := by omega
                refine own_ifYes X (pc := 104) (pc' := 110) d1_104 ((if0 _ _).trans (teq (own_lEq rfl rfl hc84)).1) (by decide) (by decide) ?_
                refine own_iloadN X d1_110 rfl ?_
                refine own_retI X d1_111 (by decide) (by decide) ⟨_, rfl, ?_⟩
                exact ⟨by show (7 : Int) = _; simp only [own_vl]; (repeat (first | rw [if_pos (by omega)] | rw [if_neg (by omega)])) <;> omega, rfl⟩
              · refine own_ifNo X d1_80 ((if0 _ _).trans (feq (own_lNe rfl rfl hc80)).1) ?_
                refine own_iinc X d1_83 rfl rfl (L' := #[.val (.long q), .second, .val (.int (8 : Int32))]) rfl ?_
                refine own_lloadN X d1_86 rfl ?_
                refine own_bipush X (56) d1_87 rfl ?_
                refine own_lushrK X (q.toInt) 56 72057594037927936 d1_89 rfl (by decide) (by decide) (by decide) (fun v85 hv85 cv85 lv85 uv85 => ?_)
                refine own_lconst0 X d1_90 ?_
                refine own_lcmp X d1_91 ?_
                by_cases hc86 : v85.toInt = 0
                · refine own_ifYes X (pc := 92) (pc' := 98) d1_92 ((if0 _ _).trans (teq (own_lEq rfl rfl hc86)).1) (by decide) (by decide) ?_
                  refine own_lloadN X d1_98 rfl ?_
                  refine own_bipush X (63) d1_99 rfl ?_
                  refine own_lushrK X (q.toInt) 63 9223372036854775808 d1_101 rfl (by decide) (by decide) (by decide) (fun v87 hv87 cv87 lv87 uv87 => ?_)
                  refine own_lconst0 X d1_102 ?_
                  refine own_lcmp X d1_103 ?_
                  have hc88 : v87.toInt = 0 := by omega
                  refine own_ifYes X (pc := 104) (pc' := 110) d1_104 ((if0 _ _).trans (teq (own_lEq rfl rfl hc88)).1) (by decide) (by decide) ?_
                  refine own_iloadN X d1_110 rfl ?_
                  refine own_retI X d1_111 (by decide) (by decide) ⟨_, rfl, ?_⟩
                  exact ⟨by show (8 : Int) = _; simp only [own_vl]; (repeat (first | rw [if_pos (by omega)] | rw [if_neg (by omega)])) <;> omega, rfl⟩
                · refine own_ifNo X d1_92 ((if0 _ _).trans (feq (own_lNe rfl rfl hc86)).1) ?_
                  refine own_iinc X d1_95 rfl rfl (L' := #[.val (.long q), .second, .val (.int (9 : Int32))]) rfl ?_
                  refine own_lloadN X d1_98 rfl ?_
                  refine own_bipush X (63) d1_99 rfl ?_
                  refine own_lushrK X (q.toInt) 63 9223372036854775808 d1_101 rfl (by decide) (by decide) (by decide) (fun v89 hv89 cv89 lv89 uv89 => ?_)
                  refine own_lconst0 X d1_102 ?_
                  refine own_lcmp X d1_103 ?_
                  by_cases hc90 : v89.toInt = 0
                  · refine own_ifYes X (pc := 104) (pc' := 110) d1_104 ((if0 _ _).trans (teq (own_lEq rfl rfl hc90)).1) (by decide) (by decide) ?_
                    refine own_iloadN X d1_110 rfl ?_
                    refine own_retI X d1_111 (by decide) (by decide) ⟨_, rfl, ?_⟩
                    exact ⟨by show (9 : Int) = _; simp only [own_vl]; (repeat (first | rw [if_pos (by omega)] | rw [if_neg (by omega)])) <;> omega, rfl⟩
                  · refine own_ifNo X d1_104 ((if0 _ _).trans (feq (own_lNe rfl rfl hc90)).1) ?_
                    refine own_iinc X d1_107 rfl rfl (L' := #[.val (.long q), .second, .val (.int (10 : Int32))]) rfl ?_
                    refine own_iloadN X d1_110 rfl ?_
                    refine own_retI X d1_111 (by decide) (by decide) ⟨_, rfl, ?_⟩
                    exact ⟨by show (10 : Int) = _; simp only [own_vl]; (repeat (first | rw [if_pos (by omega)] | rw [if_neg (by omega)])) <;> omega, rfl⟩
theorem d2_6 : decode prog_32_method_5_code 6 = .ok (.lload 4, 2) := by decide +kernel
theorem d2_8 : decode prog_32_method_5_code 8 = .ok (.ldc2_w 49, 3) := by decide +kernel
theorem d2_11 : decode prog_32_method_5_code 11 = .ok (.land, 1) := by decide +kernel
theorem d2_12 : decode prog_32_method_5_code 12 = .ok (.lconst 0, 1) := by decide +kernel
theorem d2_13 : decode prog_32_method_5_code 13 = .ok (.lcmp, 1) := by decide +kernel
theorem d2_14 : decode prog_32_method_5_code 14 = .ok (.ifCond .eq 32, 3) := by decide +kernel
theorem d2_46 : decode prog_32_method_5_code 46 = .ok (.aload_n 2, 1) := by decide +kernel
theorem d2_47 : decode prog_32_method_5_code 47 = .ok (.iload 6, 2) := by decide +kernel
theorem d2_49 : decode prog_32_method_5_code 49 = .ok (.iinc 6 1, 3) := by decide +kernel
theorem d2_52 : decode prog_32_method_5_code 52 = .ok (.lload 4, 2) := by decide +kernel
theorem d2_54 : decode prog_32_method_5_code 54 = .ok (.l2i, 1) := by decide +kernel
theorem d2_55 : decode prog_32_method_5_code 55 = .ok (.i2b, 1) := by decide +kernel
theorem d2_56 : decode prog_32_method_5_code 56 = .ok (.bastore, 1) := by decide +kernel
theorem d2_57 : decode prog_32_method_5_code 57 = .ok (.iload 6, 2) := by decide +kernel
theorem d2_59 : decode prog_32_method_5_code 59 = .ok (.ireturn, 1) := by decide +kernel
theorem d2_17 : decode prog_32_method_5_code 17 = .ok (.aload_n 2, 1) := by decide +kernel
theorem d2_18 : decode prog_32_method_5_code 18 = .ok (.iload 6, 2) := by decide +kernel
theorem d2_20 : decode prog_32_method_5_code 20 = .ok (.iinc 6 1, 3) := by decide +kernel
theorem d2_23 : decode prog_32_method_5_code 23 = .ok (.lload 4, 2) := by decide +kernel
theorem d2_25 : decode prog_32_method_5_code 25 = .ok (.ldc2_w 51, 3) := by decide +kernel
theorem d2_28 : decode prog_32_method_5_code 28 = .ok (.land, 1) := by decide +kernel
theorem d2_29 : decode prog_32_method_5_code 29 = .ok (.ldc2_w 53, 3) := by decide +kernel
theorem d2_32 : decode prog_32_method_5_code 32 = .ok (.lor, 1) := by decide +kernel
theorem d2_33 : decode prog_32_method_5_code 33 = .ok (.l2i, 1) := by decide +kernel
theorem d2_34 : decode prog_32_method_5_code 34 = .ok (.i2b, 1) := by decide +kernel
theorem d2_35 : decode prog_32_method_5_code 35 = .ok (.bastore, 1) := by decide +kernel
theorem d2_36 : decode prog_32_method_5_code 36 = .ok (.lload 4, 2) := by decide +kernel
theorem d2_38 : decode prog_32_method_5_code 38 = .ok (.bipush 7, 2) := by decide +kernel
theorem d2_40 : decode prog_32_method_5_code 40 = .ok (.lushr, 1) := by decide +kernel
theorem d2_41 : decode prog_32_method_5_code 41 = .ok (.lstore 4, 2) := by decide +kernel
theorem d2_43 : decode prog_32_method_5_code 43 = .ok (.goto (-37), 3) := by decide +kernel
set_option maxRecDepth 65536 in
set_option maxHeartbeats 40000000 in
theorem own_loop (fu : Nat) : ∀ {p : Program} {l : Launch} {e : Env} {R : Room} {s : State} {m : MethodId} {av : Array Value} {below : List Frame} {meth : Method} {c : Code} {Z : State} {n0 : Nat} {Q : Option Value → Heap → Prop} {k n : Nat} {T : State} {ce sl : Nat} {h : Heap} {a0 : Array Value} (hw : ∀ d ∈ tables_1, d.before a0 Z = true) (o : Addr) (q0 : Int64) (q1 : Int32) (u : Int64) (i : Int32) (f : Int32 → Int32) (N : Int32) (X : own_S p l e R s m av below meth c Z (⟨"com/example/fihrist/fihrist/index/IndexFormat", "putVarint", "(J[BI)I"⟩ : MethodName) prog_32_method_5_code 7 (some .int) n0 T ce sl h) (A_o : own_AI Z h o .byte N f) (ge_o : n0 ≤ o) (hi : 0 ≤ i.toInt) (hN : i.toInt + own_vl fu (u.toInt % 18446744073709551616) ≤ N.toInt) (hok : own_ok fu (u.toInt % 18446744073709551616)) (hk : ce ≤ k) (hk' : sl ≤ n)
    (HQ : ∀ (z : Int32) (h' : Heap) (f' : Int32 → Int32), own_AI Z h' o .byte N f' → Keep h h' [o] → (z.toInt = i.toInt + own_vl fu (u.toInt % 18446744073709551616) ∧ (∀ j : Int32, (j.toInt < i.toInt ∨ i.toInt + own_vl fu (u.toInt % 18446744073709551616) ≤ j.toInt) → f' j = f j) ∧ ∀ (j : Int32) (d : Nat), j.toInt = i.toInt + d → (d : Int) < own_vl fu (u.toInt % 18446744073709551616) → ((f' j).toInt - own_by fu (u.toInt % 18446744073709551616) d) % 256 = 0) → Q (some (.int z)) h'), own_Fin p e below s n0 Q k n T (mkF m 6 #[.val (.long q0), .second, .val (.ref o), .val (.int q1), .val (.long u), .second, .val (.int i)] []) := by
  induction fu with
  | zero =>
    intro p l e R s m av below meth c Z n0 Q k n T ce sl h a0 hw o q0 q1 u i f N X A_o ge_o hi hN hok hk hk' HQ
    have hvp : 1 ≤ own_vl 0 (u.toInt % 18446744073709551616) := own_vl_pos _ _
    have r_u := rng64 u
    have r_i := rng32 i
    have r_N := rng32 N
    refine own_lload X d2_6 rfl ?_
    refine own_ldc2 X (hw _ (List.mem_of_getElem? (i := 9) rfl)) d2_8 ?_
    refine own_landV X d2_11 (fun v1 hv1 lv1 uv1 => ?_)
    have hn := own_n128 _ _ hv1
    refine own_lconst0 X d2_12 ?_
    refine own_lcmp X d2_13 ?_
    have hc2 : v1.toInt = 0 := Classical.byContradiction fun q => hn.2 q (by simp only [own_ok] at hok; exact hok)
    refine own_ifYes X (pc := 14) (pc' := 46) d2_14 ((if0 _ _).trans (teq (own_lEq rfl rfl hc2)).1) (by decide) (by decide) ?_
    have hu := hn.1 hc2
    refine own_aloadN X d2_46 rfl rfl ?_
    refine own_iload X d2_47 rfl ?_
    refine own_iinc X d2_49 rfl rfl (L' := #[.val (.long q0), .second, .val (.ref o), .val (.int q1), .val (.long u), .second, .val (.int (i + (1 : Int32)))]) rfl ?_
    obtain ⟨v3, hv3⟩ : ∃ w, i + (1 : Int32) = w := ⟨_, rfl⟩
    rw [hv3]
    have cv3 : (v3.toInt - (i.toInt + 1)) % 4294967296 = 0 := by rw [← hv3]; exact c_iadd i (1 : Int32)
    have lv3 := rng32 v3
    refine own_lload X d2_52 rfl ?_
    refine own_l2iV X (u.toInt) d2_54 rfl (fun v4 hv4 cv4 lv4 uv4 => ?_)
    refine own_i2bV X (v4.toInt) d2_55 rfl (fun v5 hv5 cv5 lv5 uv5 => ?_)
    refine own_bastore X A_o (own_cGe (a := i.toInt) (b := 0) rfl rfl (by omega)) (own_cLt (a := i.toInt) (b := N.toInt) rfl rfl (by omega)) ge_o (x' := v5) (by rw [← hv5]; exact own_i2b2 _) d2_56 (fun T h X f6 hf6 A_o W => ?_)
    refine own_iload X d2_57 rfl ?_
    refine own_retI X d2_59 hk hk' ?_
    have hvl : own_vl 0 (u.toInt % 18446744073709551616) = 1 := by simp only [own_vl]
    have hby : ∀ d : Nat, own_by 0 (u.toInt % 18446744073709551616) d = (u.toInt % 18446744073709551616) := fun d => by simp only [own_by]
    refine HQ _ _ _ A_o (Keep.of_wr W) ?_
    rw [hvl]
    refine ⟨by omega, fun j hj => ?_, fun j d hj hd => ?_⟩
    · rw [hf6, own_upd_miss (own_cNe (a := j.toInt) (b := i.toInt) rfl rfl (by omega))]
    · obtain rfl : j = i := own_cEq (a := j.toInt) (b := i.toInt) rfl rfl (by omega)
      rw [hby, hf6, own_upd_hit]
      omega
  | succ fu ih =>
    intro p l e R s m av below meth c Z n0 Q k n T ce sl h a0 hw o q0 q1 u i f N X A_o ge_o hi hN hok hk hk' HQ
    have hvp : 1 ≤ own_vl (fu + 1) (u.toInt % 18446744073709551616) := own_vl_pos _ _
    have r_u := rng64 u
    have r_i := rng32 i
    have r_N := rng32 N
    refine own_lload X d2_6 rfl ?_
    refine own_ldc2 X (hw _ (List.mem_of_getElem? (i := 9) rfl)) d2_8 ?_
    refine own_landV X d2_11 (fun v1 hv1 lv1 uv1 => ?_)
    have hn := own_n128 _ _ hv1
    refine own_lconst0 X d2_12 ?_
    refine own_lcmp X d2_13 ?_
    by_cases hc2 : v1.toInt = 0
    · refine own_ifYes X (pc := 14) (pc' := 46) d2_14 ((if0 _ _).trans (teq (own_lEq rfl rfl hc2)).1) (by decide) (by decide) ?_
      have hu := hn.1 hc2
      refine own_aloadN X d2_46 rfl rfl ?_
      refine own_iload X d2_47 rfl ?_
      refine own_iinc X d2_49 rfl rfl (L' := #[.val (.long q0), .second, .val (.ref o), .val (.int q1), .val (.long u), .second, .val (.int (i + (1 : Int32)))]) rfl ?_
      obtain ⟨v3, hv3⟩ : ∃ w, i + (1 : Int32) = w := ⟨_, rfl⟩
      rw [hv3]
      have cv3 : (v3.toInt - (i.toInt + 1)) % 4294967296 = 0 := by rw [← hv3]; exact c_iadd i (1 : Int32)
      have lv3 := rng32 v3
      refine own_lload X d2_52 rfl ?_
      refine own_l2iV X (u.toInt) d2_54 rfl (fun v4 hv4 cv4 lv4 uv4 => ?_)
      refine own_i2bV X (v4.toInt) d2_55 rfl (fun v5 hv5 cv5 lv5 uv5 => ?_)
      refine own_bastore X A_o (own_cGe (a := i.toInt) (b := 0) rfl rfl (by omega)) (own_cLt (a := i.toInt) (b := N.toInt) rfl rfl (by omega)) ge_o (x' := v5) (by rw [← hv5]; exact own_i2b2 _) d2_56 (fun T h X f6 hf6 A_o W => ?_)
      refine own_iload X d2_57 rfl ?_
      refine own_retI X d2_59 hk hk' ?_
      have hvl : own_vl (fu + 1) (u.toInt % 18446744073709551616) = 1 := by simp only [own_vl]; rw [if_pos (by omega)]
      have hby : ∀ d : Nat, own_by (fu + 1) (u.toInt % 18446744073709551616) d = (u.toInt % 18446744073709551616) := fun d => by simp only [own_by]; rw [if_pos (by omega)]
      refine HQ _ _ _ A_o (Keep.of_wr W) ?_
      rw [hvl]
      refine ⟨by omega, fun j hj => ?_, fun j d hj hd => ?_⟩
      · rw [hf6, own_upd_miss (own_cNe (a := j.toInt) (b := i.toInt) rfl rfl (by omega))]
      · obtain rfl : j = i := own_cEq (a := j.toInt) (b := i.toInt) rfl rfl (by omega)
        rw [hby, hf6, own_upd_hit]
        omega
    · refine own_ifNo X d2_14 ((if0 _ _).trans (feq (own_lNe rfl rfl hc2)).1) ?_
      have hu := hn.2 hc2
      refine own_aloadN X d2_17 rfl rfl ?_
      refine own_iload X d2_18 rfl ?_
      refine own_iinc X d2_20 rfl rfl (L' := #[.val (.long q0), .second, .val (.ref o), .val (.int q1), .val (.long u), .second, .val (.int (i + (1 : Int32)))]) rfl ?_
      obtain ⟨v7, hv7⟩ : ∃ w, i + (1 : Int32) = w := ⟨_, rfl⟩
      rw [hv7]
      have cv7 : (v7.toInt - (i.toInt + 1)) % 4294967296 = 0 := by rw [← hv7]; exact c_iadd i (1 : Int32)
      have lv7 := rng32 v7
      refine own_lload X d2_23 rfl ?_
      refine own_ldc2 X (hw _ (List.mem_of_getElem? (i := 17) rfl)) d2_25 ?_
      refine own_landM X (u.toInt) 7 128 d2_28 rfl (by decide) (by decide) (by decide) (fun v8 hv8 cv8 lv8 uv8 => ?_)
      refine own_ldc2 X (hw _ (List.mem_of_getElem? (i := 18) rfl)) d2_29 ?_
      refine own_lorV X d2_32 (fun v9 hv9 lv9 uv9 => ?_)
      have hor := own_or128 _ _ hv9 (by omega) (by omega)
      refine own_l2iV X (v9.toInt) d2_33 rfl (fun v10 hv10 cv10 lv10 uv10 => ?_)
      refine own_i2bV X (v10.toInt) d2_34 rfl (fun v11 hv11 cv11 lv11 uv11 => ?_)
      refine own_bastore X A_o (own_cGe (a := i.toInt) (b := 0) rfl rfl (by omega)) (own_cLt (a := i.toInt) (b := N.toInt) rfl rfl (by omega)) ge_o (x' := v11) (by rw [← hv11]; exact own_i2b2 _) d2_35 (fun T h X f12 hf12 A_o W => ?_)
      refine own_lload X d2_36 rfl ?_
      refine own_bipush X (7) d2_38 rfl ?_
      refine own_lushrK X (u.toInt) 7 128 d2_40 rfl (by decide) (by decide) (by decide) (fun v13 hv13 cv13 lv13 uv13 => ?_)
      refine own_lstore X d2_41 (L' := #[.val (.long q0), .second, .val (.ref o), .val (.int q1), .val (.long v13), .second, .val (.int v7)]) rfl ?_
      refine own_goto X (pc := 43) (pc' := 6) d2_43 (by decide) (by decide) ?_
      have hdv : (v13.toInt % 18446744073709551616) = (u.toInt % 18446744073709551616) / 128 := by omega
      have hvl : own_vl (fu + 1) (u.toInt % 18446744073709551616) = 1 + own_vl fu (v13.toInt % 18446744073709551616) := by simp only [own_vl]; rw [if_neg (by omega), hdv]
      have hby : ∀ d : Nat, own_by (fu + 1) (u.toInt % 18446744073709551616) (d + 1) = own_by fu (v13.toInt % 18446744073709551616) d := fun d => by simp only [own_by]; rw [if_neg (by omega), hdv]
      have hby0 : own_by (fu + 1) (u.toInt % 18446744073709551616) 0 = (u.toInt % 18446744073709551616) % 128 + 128 := by simp only [own_by]; rw [if_neg (by omega)]
      have hpo := own_vl_pos fu (v13.toInt % 18446744073709551616)
      rw [hvl] at hN
      have hok' : own_ok fu (v13.toInt % 18446744073709551616) := by
        simp only [own_ok] at hok; rcases hok with q | q
        · exact absurd q (by omega)
        · rw [hdv]; exact q
      refine ih hw o q0 q1 v13 v7 f12 N X A_o ge_o (by omega) (by omega) hok' hk hk' (fun z h' f' A' K' hz => ?_)
      refine HQ z h' f' A' ((Keep.of_wr W).trans K' (allS (Or.inl (List.mem_of_getElem? (i := 0) rfl)) all0)) ?_
      obtain ⟨hz1, hz2, hz3⟩ := hz
      rw [hvl]
      refine ⟨by omega, fun j hj => ?_, fun j d hj hd => ?_⟩
      · rw [hz2 j (by omega), hf12, own_upd_miss (own_cNe (a := j.toInt) (b := i.toInt) rfl rfl (by omega))]
      · cases d with
        | zero =>
          obtain rfl : j = i := own_cEq (a := j.toInt) (b := i.toInt) rfl rfl (by omega)
          rw [hby0, hz2 j (by omega), hf12, own_upd_hit]
          omega
        | succ d => rw [hby]; exact hz3 j d (by omega) (by omega)
theorem ef_rm2 (m : MethodId) (q0 : Int64) (o : Addr) (q1 : Int32) : entryFrame m #[(.long q0), (.ref o), (.int q1)] 7 = mkF m 0 #[.val (.long q0), .second, .val (.ref o), .val (.int q1), .unset, .unset, .unset] [] := by first | (simp [entryFrame, mkF, argsToLocals, Value.category]; done) | rfl
theorem d2_0 : decode prog_32_method_5_code 0 = .ok (.lload_n 0, 1) := by decide +kernel
theorem d2_1 : decode prog_32_method_5_code 1 = .ok (.lstore 4, 2) := by decide +kernel
theorem d2_3 : decode prog_32_method_5_code 3 = .ok (.iload_n 3, 1) := by decide +kernel
theorem d2_4 : decode prog_32_method_5_code 4 = .ok (.istore 6, 2) := by decide +kernel
theorem pn_2 : plainFor (⟨"com/example/fihrist/fihrist/index/IndexFormat", "putVarint", "(J[BI)I"⟩ : MethodName) = true := plainFor_of_name (show plainName "com/example/fihrist/fihrist/index/IndexFormat" = true from by first | (simp [plainName, overriddenIn]; done) | decide +kernel)
set_option maxRecDepth 65536 in
set_option maxHeartbeats 40000000 in
theorem rm2 (l : Launch) (Z : State) (a0 : Array Value) (hw : ∀ d ∈ tables_1, d.before a0 Z = true) (ws : List Jvm.Cond) (q0 : Int64) (o : Addr) (q1 : Int32) (f : Int32 → Int32) (N : Int32) (h0 : Heap) (n0 : Nat) (hn0 : n0 ≤ h0.size) (A_o : own_AI Z h0 o .byte N f) (ge_o : n0 ≤ o) (hi : 0 ≤ q1.toInt) (hN : q1.toInt + 10 ≤ N.toInt) :
    own_Met l Z (⟨"com/example/fihrist/fihrist/index/IndexFormat", "putVarint", "(J[BI)I"⟩ : MethodName) prog_32_method_5_code 7 (some .int) ws ({ frames := 0, cells := 0, slots := 0, locals := 0 } : Room) #[(.long q0), (.ref o), (.int q1)] h0 n0 (own_QI fun z h => ∃ f' : Int32 → Int32, own_AI Z h o .byte N f' ∧ Keep h0 h [o] ∧ (z.toInt = q1.toInt + own_vl 9 (q0.toInt % 18446744073709551616) ∧ (∀ j : Int32, (j.toInt < q1.toInt ∨ q1.toInt + own_vl 9 (q0.toInt % 18446744073709551616) ≤ j.toInt) → f' j = f j) ∧ ∀ (j : Int32) (d : Nat), j.toInt = q1.toInt + d → (d : Int) < own_vl 9 (q0.toInt % 18446744073709551616) → ((f' j).toInt - own_by 9 (q0.toInt % 18446744073709551616) d) % 256 = 0)) := by
  refine own_met pn_2 hn0 (fun p e s m below meth c T X => ?_)
  refine own_cast (ef_rm2 m q0 o q1) ?_
  have r_q0 := rng64 q0
  have r_q1 := rng32 q1
  have r_N := rng32 N
  refine own_lloadN X d2_0 rfl ?_
  refine own_lstore X d2_1 (L' := #[.val (.long q0), .second, .val (.ref o), .val (.int q1), .val (.long q0), .second, .unset]) rfl ?_
  refine own_iloadN X d2_3 rfl ?_
  refine own_istore X d2_4 (L' := #[.val (.long q0), .second, .val (.ref o), .val (.int q1), .val (.long q0), .second, .val (.int q1)]) rfl ?_
  have hle := own_vl_le 9 (q0.toInt % 18446744073709551616)
  exact own_loop 9 hw o q0 q1 q0 q1 f N X A_o ge_o hi (by omega) (own_ok9 _ (by omega) (by omega)) (by decide) (by decide) (fun z h' f' A' K' hz => ⟨z, rfl, f', A', K', hz⟩)
theorem ef_rm4 (m : MethodId) (q : Int64) (q1 : Int32) (q2 : Int32) : entryFrame m #[(.long q), (.int q1), (.int q2)] 5 = mkF m 0 #[.val (.long q), .second, .val (.int q1), .val (.int q2), .unset] [] := by first | (simp [entryFrame, mkF, argsToLocals, Value.category]; done) | rfl
theorem d4_0 : decode method_4_code 0 = .ok (.lload_n 0, 1) := by decide +kernel
theorem d4_1 : decode method_4_code 1 = .ok (.bipush 7, 2) := by decide +kernel
theorem d4_3 : decode method_4_code 3 = .ok (.iload_n 2, 1) := by decide +kernel
theorem d4_4 : decode method_4_code 4 = .ok (.imul, 1) := by decide +kernel
theorem d4_5 : decode method_4_code 5 = .ok (.lushr, 1) := by decide +kernel
theorem d4_6 : decode method_4_code 6 = .ok (.ldc2_w 23, 3) := by decide +kernel
theorem d4_9 : decode method_4_code 9 = .ok (.land, 1) := by decide +kernel
theorem d4_10 : decode method_4_code 10 = .ok (.l2i, 1) := by decide +kernel
theorem d4_11 : decode method_4_code 11 = .ok (.istore 4, 2) := by decide +kernel
theorem d4_13 : decode method_4_code 13 = .ok (.iload_n 2, 1) := by decide +kernel
theorem d4_14 : decode method_4_code 14 = .ok (.iload_n 3, 1) := by decide +kernel
theorem d4_15 : decode method_4_code 15 = .ok (.iconst 1, 1) := by decide +kernel
theorem d4_16 : decode method_4_code 16 = .ok (.isub, 1) := by decide +kernel
theorem d4_17 : decode method_4_code 17 = .ok (.if_icmp .ge 11, 3) := by decide +kernel
theorem d4_20 : decode method_4_code 20 = .ok (.iload 4, 2) := by decide +kernel
theorem d4_22 : decode method_4_code 22 = .ok (.sipush 128, 3) := by decide +kernel
theorem d4_25 : decode method_4_code 25 = .ok (.ior, 1) := by decide +kernel
theorem d4_26 : decode method_4_code 26 = .ok (.istore 4, 2) := by decide +kernel
theorem d4_28 : decode method_4_code 28 = .ok (.iload 4, 2) := by decide +kernel
theorem d4_30 : decode method_4_code 30 = .ok (.i2b, 1) := by decide +kernel
theorem d4_31 : decode method_4_code 31 = .ok (.ireturn, 1) := by decide +kernel
theorem pn_4 : plainFor (⟨"com/example/fihrist/fihrist/index/IndexFormatPutVarintPinLaw", "expected", "(JII)B"⟩ : MethodName) = true := plainFor_of_name (show plainName "com/example/fihrist/fihrist/index/IndexFormatPutVarintPinLaw" = true from by first | (simp [plainName, overriddenIn]; done) | decide +kernel)
set_option maxRecDepth 65536 in
set_option maxHeartbeats 40000000 in
theorem rm4 (l : Launch) (Z : State) (a0 : Array Value) (hw : ∀ d ∈ tables_1, d.before a0 Z = true) (ws : List Jvm.Cond) (q : Int64) (q1 : Int32) (q2 : Int32) (d : Nat) (h0 : Heap) (n0 : Nat) (hn0 : n0 ≤ h0.size) (hd : q1.toInt = d) (hd9 : d ≤ 9) (hl1 : 1 ≤ q2.toInt) (hl2 : q2.toInt ≤ 10) :
    own_Met l Z (⟨"com/example/fihrist/fihrist/index/IndexFormatPutVarintPinLaw", "expected", "(JII)B"⟩ : MethodName) method_4_code 5 (some .byte) ws ({ frames := 0, cells := 0, slots := 0, locals := 0 } : Room) #[(.long q), (.int q1), (.int q2)] h0 n0 (own_QI fun z h => ((-128 ≤ z.toInt ∧ z.toInt < 128) ∧ (z.toInt - (own_gr d (q.toInt % 18446744073709551616) % 128 + (if (d : Int) + 1 < q2.toInt then 128 else 0))) % 256 = 0) ∧ h = h0) := by
  refine own_met pn_4 hn0 (fun p e s m below meth c T X => ?_)
  refine own_cast (ef_rm4 m q q1 q2) ?_
  have r_q := rng64 q
  have r_q1 := rng32 q1
  have r_q2 := rng32 q2
  rcases (show q1.toInt = 0 ∨ q1.toInt = 1 ∨ q1.toInt = 2 ∨ q1.toInt = 3 ∨ q1.toInt = 4 ∨ q1.toInt = 5 ∨ q1.toInt = 6 ∨ q1.toInt = 7 ∨ q1.toInt = 8 ∨ q1.toInt = 9 from by omega) with hs | hs | hs | hs | hs | hs | hs | hs | hs | hs
  · obtain rfl : q1 = (0 : Int32) := own_cEq (a := q1.toInt) (b := 0) rfl rfl hs
    obtain rfl : d = 0 := by have hd' : (0 : Int) = d := hd; omega
    refine own_lloadN X d4_0 rfl ?_
    refine own_bipush X (7) d4_1 rfl ?_
    refine own_iloadN X d4_3 rfl ?_
    refine own_imulE X d4_4 (0 : Int32) (by decide) ?_
    refine own_lushrE X d4_5 q (own_lushr0 _) ?_
    refine own_ldc2 X (hw _ (List.mem_of_getElem? (i := 16) rfl)) d4_6 ?_
    refine own_landM X (q.toInt) 7 128 d4_9 rfl (by decide) (by decide) (by decide) (fun v1 hv1 cv1 lv1 uv1 => ?_)
    refine own_l2iV X (v1.toInt) d4_10 rfl (fun v2 hv2 cv2 lv2 uv2 => ?_)
    refine own_istore X d4_11 (L' := #[.val (.long q), .second, .val (.int (0 : Int32)), .val (.int q2), .val (.int v2)]) rfl ?_
    refine own_iloadN X d4_13 rfl ?_
    refine own_iloadN X d4_14 rfl ?_
    refine own_iconst X (1) d4_15 rfl ?_
    refine own_isubV X (q2.toInt) (1) d4_16 rfl rfl (fun v3 hv3 cv3 lv3 uv3 => ?_)
    by_cases hc4 : 0 < v3.toInt
    · refine own_icmpNo X d4_17 (tlt (own_cLt (a := 0) (b := v3.toInt) rfl rfl hc4)).2.1 ?_
      refine own_iload X d4_20 rfl ?_
      refine own_sipush X (128) d4_22 rfl ?_
      refine own_iorR X (v2.toInt) (128) 7 128 d4_25 rfl rfl (by decide) (by decide) (by decide) (by omega) (by omega) (fun v5 hv5 cv5 lv5 uv5 => ?_)
      refine own_istore X d4_26 (L' := #[.val (.long q), .second, .val (.int (0 : Int32)), .val (.int q2), .val (.int v5)]) rfl ?_
      refine own_iload X d4_28 rfl ?_
      refine own_i2bV X (v5.toInt) d4_30 rfl (fun v6 hv6 cv6 lv6 uv6 => ?_)
      refine own_retN (t := .byte) X (z' := v6) (Or.inr (Or.inl rfl)) (by show v6.toInt8.toInt32 = v6; rw [← hv6]; exact own_i2b2 _) (by show v6.toInt8.toInt32 = v6; rw [← hv6]; exact own_i2b2 _) d4_31 (by decide) (by decide) ⟨_, rfl, ?_⟩
      exact ⟨⟨⟨by omega, by omega⟩, by rw [if_pos (by omega)]; simp only [own_gr]; omega⟩, rfl⟩
    · refine own_icmpYes X (pc := 17) (pc' := 28) d4_17 (flt (own_cGe (a := 0) (b := v3.toInt) rfl rfl hc4)).2.1 (by decide) (by decide) ?_
      refine own_iload X d4_28 rfl ?_
      refine own_i2bV X (v2.toInt) d4_30 rfl (fun v7 hv7 cv7 lv7 uv7 => ?_)
      refine own_retN (t := .byte) X (z' := v7) (Or.inr (Or.inl rfl)) (by show v7.toInt8.toInt32 = v7; rw [← hv7]; exact own_i2b2 _) (by show v7.toInt8.toInt32 = v7; rw [← hv7]; exact own_i2b2 _) d4_31 (by decide) (by decide) ⟨_, rfl, ?_⟩
      exact ⟨⟨⟨by omega, by omega⟩, by rw [if_neg (by omega)]; simp only [own_gr]; omega⟩, rfl⟩
  · obtain rfl : q1 = (1 : Int32) := own_cEq (a := q1.toInt) (b := 1) rfl rfl hs
    obtain rfl : d = 1 := by have hd' : (1 : Int) = d := hd; omega
    refine own_lloadN X d4_0 rfl ?_
    refine own_bipush X (7) d4_1 rfl ?_
    refine own_iloadN X d4_3 rfl ?_
    refine own_imulE X d4_4 (7 : Int32) (by decide) ?_
    refine own_lushrK X (q.toInt) 7 128 d4_5 rfl (by decide) (by decide) (by decide) (fun v8 hv8 cv8 lv8 uv8 => ?_)
    refine own_ldc2 X (hw _ (List.mem_of_getElem? (i := 16) rfl)) d4_6 ?_
    refine own_landM X (v8.toInt) 7 128 d4_9 rfl (by decide) (by decide) (by decide) (fun v9 hv9 cv9 lv9 uv9 => ?_)
    refine own_l2iV X (v9.toInt) d4_10 rfl (fun v10 hv10 cv10 lv10 uv10 => ?_)
    refine own_istore X d4_11 (L' := #[.val (.long q), .second, .val (.int (1 : Int32)), .val (.int q2), .val (.int v10)]) rfl ?_
    refine own_iloadN X d4_13 rfl ?_
    refine own_iloadN X d4_14 rfl ?_
    refine own_iconst X (1) d4_15 rfl ?_
    refine own_isubV X (q2.toInt) (1) d4_16 rfl rfl (fun v11 hv11 cv11 lv11 uv11 => ?_)
    by_cases hc12 : 1 < v11.toInt
    · refine own_icmpNo X d4_17 (tlt (own_cLt (a := 1) (b := v11.toInt) rfl rfl hc12)).2.1 ?_
      refine own_iload X d4_20 rfl ?_
      refine own_sipush X (128) d4_22 rfl ?_
      refine own_iorR X (v10.toInt) (128) 7 128 d4_25 rfl rfl (by decide) (by decide) (by decide) (by omega) (by omega) (fun v13 hv13 cv13 lv13 uv13 => ?_)
      refine own_istore X d4_26 (L' := #[.val (.long q), .second, .val (.int (1 : Int32)), .val (.int q2), .val (.int v13)]) rfl ?_
      refine own_iload X d4_28 rfl ?_
      refine own_i2bV X (v13.toInt) d4_30 rfl (fun v14 hv14 cv14 lv14 uv14 => ?_)
      refine own_retN (t := .byte) X (z' := v14) (Or.inr (Or.inl rfl)) (by show v14.toInt8.toInt32 = v14; rw [← hv14]; exact own_i2b2 _) (by show v14.toInt8.toInt32 = v14; rw [← hv14]; exact own_i2b2 _) d4_31 (by decide) (by decide) ⟨_, rfl, ?_⟩
      exact ⟨⟨⟨by omega, by omega⟩, by rw [if_pos (by omega)]; simp only [own_gr]; omega⟩, rfl⟩
    · refine own_icmpYes X (pc := 17) (pc' := 28) d4_17 (flt (own_cGe (a := 1) (b := v11.toInt) rfl rfl hc12)).2.1 (by decide) (by decide) ?_
      refine own_iload X d4_28 rfl ?_
      refine own_i2bV X (v10.toInt) d4_30 rfl (fun v15 hv15 cv15 lv15 uv15 => ?_)
      refine own_retN (t := .byte) X (z' := v15) (Or.inr (Or.inl rfl)) (by show v15.toInt8.toInt32 = v15; rw [← hv15]; exact own_i2b2 _) (by show v15.toInt8.toInt32 = v15; rw [← hv15]; exact own_i2b2 _) d4_31 (by decide) (by decide) ⟨_, rfl, ?_⟩
      exact ⟨⟨⟨by omega, by omega⟩, by rw [if_neg (by omega)]; simp only [own_gr]; omega⟩, rfl⟩
  · obtain rfl : q1 = (2 : Int32) := own_cEq (a := q1.toInt) (b := 2) rfl rfl hs
    obtain rfl : d = 2 := by have hd' : (2 : Int) = d := hd; omega
    refine own_lloadN X d4_0 rfl ?_
    refine own_bipush X (7) d4_1 rfl ?_
    refine own_iloadN X d4_3 rfl ?_
    refine own_imulE X d4_4 (14 : Int32) (by decide) ?_
    refine own_lushrK X (q.toInt) 14 16384 d4_5 rfl (by decide) (by decide) (by decide) (fun v16 hv16 cv16 lv16 uv16 => ?_)
    refine own_ldc2 X (hw _ (List.mem_of_getElem? (i := 16) rfl)) d4_6 ?_
    refine own_landM X (v16.toInt) 7 128 d4_9 rfl (by decide) (by decide) (by decide) (fun v17 hv17 cv17 lv17 uv17 => ?_)
    refine own_l2iV X (v17.toInt) d4_10 rfl (fun v18 hv18 cv18 lv18 uv18 => ?_)
    refine own_istore X d4_11 (L' := #[.val (.long q), .second, .val (.int (2 : Int32)), .val (.int q2), .val (.int v18)]) rfl ?_
    refine own_iloadN X d4_13 rfl ?_
    refine own_iloadN X d4_14 rfl ?_
    refine own_iconst X (1) d4_15 rfl ?_
    refine own_isubV X (q2.toInt) (1) d4_16 rfl rfl (fun v19 hv19 cv19 lv19 uv19 => ?_)
    by_cases hc20 : 2 < v19.toInt
    · refine own_icmpNo X d4_17 (tlt (own_cLt (a := 2) (b := v19.toInt) rfl rfl hc20)).2.1 ?_
      refine own_iload X d4_20 rfl ?_
      refine own_sipush X (128) d4_22 rfl ?_
      refine own_iorR X (v18.toInt) (128) 7 128 d4_25 rfl rfl (by decide) (by decide) (by decide) (by omega) (by omega) (fun v21 hv21 cv21 lv21 uv21 => ?_)
      refine own_istore X d4_26 (L' := #[.val (.long q), .second, .val (.int (2 : Int32)), .val (.int q2), .val (.int v21)]) rfl ?_
      refine own_iload X d4_28 rfl ?_
      refine own_i2bV X (v21.toInt) d4_30 rfl (fun v22 hv22 cv22 lv22 uv22 => ?_)
      refine own_retN (t := .byte) X (z' := v22) (Or.inr (Or.inl rfl)) (by show v22.toInt8.toInt32 = v22; rw [← hv22]; exact own_i2b2 _) (by show v22.toInt8.toInt32 = v22; rw [← hv22]; exact own_i2b2 _) d4_31 (by decide) (by decide) ⟨_, rfl, ?_⟩
      exact ⟨⟨⟨by omega, by omega⟩, by rw [if_pos (by omega)]; simp only [own_gr]; omega⟩, rfl⟩
    · refine own_icmpYes X (pc := 17) (pc' := 28) d4_17 (flt (own_cGe (a := 2) (b := v19.toInt) rfl rfl hc20)).2.1 (by decide) (by decide) ?_
      refine own_iload X d4_28 rfl ?_
      refine own_i2bV X (v18.toInt) d4_30 rfl (fun v23 hv23 cv23 lv23 uv23 => ?_)
      refine own_retN (t := .byte) X (z' := v23) (Or.inr (Or.inl rfl)) (by show v23.toInt8.toInt32 = v23; rw [← hv23]; exact own_i2b2 _) (by show v23.toInt8.toInt32 = v23; rw [← hv23]; exact own_i2b2 _) d4_31 (by decide) (by decide) ⟨_, rfl, ?_⟩
      exact ⟨⟨⟨by omega, by omega⟩, by rw [if_neg (by omega)]; simp only [own_gr]; omega⟩, rfl⟩
  · obtain rfl : q1 = (3 : Int32) := own_cEq (a := q1.toInt) (b := 3) rfl rfl hs
    obtain rfl : d = 3 := by have hd' : (3 : Int) = d := hd; omega
    refine own_lloadN X d4_0 rfl ?_
    refine own_bipush X (7) d4_1 rfl ?_
    refine own_iloadN X d4_3 rfl ?_
    refine own_imulE X d4_4 (21 : Int32) (by decide) ?_
    refine own_lushrK X (q.toInt) 21 2097152 d4_5 rfl (by decide) (by decide) (by decide) (fun v24 hv24 cv24 lv24 uv24 => ?_)
    refine own_ldc2 X (hw _ (List.mem_of_getElem? (i := 16) rfl)) d4_6 ?_
    refine own_landM X (v24.toInt) 7 128 d4_9 rfl (by decide) (by decide) (by decide) (fun v25 hv25 cv25 lv25 uv25 => ?_)
    refine own_l2iV X (v25.toInt) d4_10 rfl (fun v26 hv26 cv26 lv26 uv26 => ?_)
    refine own_istore X d4_11 (L' := #[.val (.long q), .second, .val (.int (3 : Int32)), .val (.int q2), .val (.int v26)]) rfl ?_
    refine own_iloadN X d4_13 rfl ?_
    refine own_iloadN X d4_14 rfl ?_
    refine own_iconst X (1) d4_15 rfl ?_
    refine own_isubV X (q2.toInt) (1) d4_16 rfl rfl (fun v27 hv27 cv27 lv27 uv27 => ?_)
    by_cases hc28 : 3 < v27.toInt
    · refine own_icmpNo X d4_17 (tlt (own_cLt (a := 3) (b := v27.toInt) rfl rfl hc28)).2.1 ?_
      refine own_iload X d4_20 rfl ?_
      refine own_sipush X (128) d4_22 rfl ?_
      refine own_iorR X (v26.toInt) (128) 7 128 d4_25 rfl rfl (by decide) (by decide) (by decide) (by omega) (by omega) (fun v29 hv29 cv29 lv29 uv29 => ?_)
      refine own_istore X d4_26 (L' := #[.val (.long q), .second, .val (.int (3 : Int32)), .val (.int q2), .val (.int v29)]) rfl ?_
      refine own_iload X d4_28 rfl ?_
      refine own_i2bV X (v29.toInt) d4_30 rfl (fun v30 hv30 cv30 lv30 uv30 => ?_)
      refine own_retN (t := .byte) X (z' := v30) (Or.inr (Or.inl rfl)) (by show v30.toInt8.toInt32 = v30; rw [← hv30]; exact own_i2b2 _) (by show v30.toInt8.toInt32 = v30; rw [← hv30]; exact own_i2b2 _) d4_31 (by decide) (by decide) ⟨_, rfl, ?_⟩
      exact ⟨⟨⟨by omega, by omega⟩, by rw [if_pos (by omega)]; simp only [own_gr]; omega⟩, rfl⟩
    · refine own_icmpYes X (pc := 17) (pc' := 28) d4_17 (flt (own_cGe (a := 3) (b := v27.toInt) rfl rfl hc28)).2.1 (by decide) (by decide) ?_
      refine own_iload X d4_28 rfl ?_
      refine own_i2bV X (v26.toInt) d4_30 rfl (fun v31 hv31 cv31 lv31 uv31 => ?_)
      refine own_retN (t := .byte) X (z' := v31) (Or.inr (Or.inl rfl)) (by show v31.toInt8.toInt32 = v31; rw [← hv31]; exact own_i2b2 _) (by show v31.toInt8.toInt32 = v31; rw [← hv31]; exact own_i2b2 _) d4_31 (by decide) (by decide) ⟨_, rfl, ?_⟩
      exact ⟨⟨⟨by omega, by omega⟩, by rw [if_neg (by omega)]; simp only [own_gr]; omega⟩, rfl⟩
  · obtain rfl : q1 = (4 : Int32) := own_cEq (a := q1.toInt) (b := 4) rfl rfl hs
    obtain rfl : d = 4 := by have hd' : (4 : Int) = d := hd; omega
    refine own_lloadN X d4_0 rfl ?_
    refine own_bipush X (7) d4_1 rfl ?_
    refine own_iloadN X d4_3 rfl ?_
    refine own_imulE X d4_4 (28 : Int32) (by decide) ?_
    refine own_lushrK X (q.toInt) 28 268435456 d4_5 rfl (by decide) (by decide) (by decide) (fun v32 hv32 cv32 lv32 uv32 => ?_)
    refine own_ldc2 X (hw _ (List.mem_of_getElem? (i := 16) rfl)) d4_6 ?_
    refine own_landM X (v32.toInt) 7 128 d4_9 rfl (by decide) (by decide) (by decide) (fun v33 hv33 cv33 lv33 uv33 => ?_)
    refine own_l2iV X (v33.toInt) d4_10 rfl (fun v34 hv34 cv34 lv34 uv34 => ?_)
    refine own_istore X d4_11 (L' := #[.val (.long q), .second, .val (.int (4 : Int32)), .val (.int q2), .val (.int v34)]) rfl ?_
    refine own_iloadN X d4_13 rfl ?_
    refine own_iloadN X d4_14 rfl ?_
    refine own_iconst X (1) d4_15 rfl ?_
    refine own_isubV X (q2.toInt) (1) d4_16 rfl rfl (fun v35 hv35 cv35 lv35 uv35 => ?_)
    by_cases hc36 : 4 < v35.toInt
    · refine own_icmpNo X d4_17 (tlt (own_cLt (a := 4) (b := v35.toInt) rfl rfl hc36)).2.1 ?_
      refine own_iload X d4_20 rfl ?_
      refine own_sipush X (128) d4_22 rfl ?_
      refine own_iorR X (v34.toInt) (128) 7 128 d4_25 rfl rfl (by decide) (by decide) (by decide) (by omega) (by omega) (fun v37 hv37 cv37 lv37 uv37 => ?_)
      refine own_istore X d4_26 (L' := #[.val (.long q), .second, .val (.int (4 : Int32)), .val (.int q2), .val (.int v37)]) rfl ?_
      refine own_iload X d4_28 rfl ?_
      refine own_i2bV X (v37.toInt) d4_30 rfl (fun v38 hv38 cv38 lv38 uv38 => ?_)
      refine own_retN (t := .byte) X (z' := v38) (Or.inr (Or.inl rfl)) (by show v38.toInt8.toInt32 = v38; rw [← hv38]; exact own_i2b2 _) (by show v38.toInt8.toInt32 = v38; rw [← hv38]; exact own_i2b2 _) d4_31 (by decide) (by decide) ⟨_, rfl, ?_⟩
      exact ⟨⟨⟨by omega, by omega⟩, by rw [if_pos (by omega)]; simp only [own_gr]; omega⟩, rfl⟩
    · refine own_icmpYes X (pc := 17) (pc' := 28) d4_17 (flt (own_cGe (a := 4) (b := v35.toInt) rfl rfl hc36)).2.1 (by decide) (by decide) ?_
      refine own_iload X d4_28 rfl ?_
      refine own_i2bV X (v34.toInt) d4_30 rfl (fun v39 hv39 cv39 lv39 uv39 => ?_)
      refine own_retN (t := .byte) X (z' := v39) (Or.inr (Or.inl rfl)) (by show v39.toInt8.toInt32 = v39; rw [← hv39]; exact own_i2b2 _) (by show v39.toInt8.toInt32 = v39; rw [← hv39]; exact own_i2b2 _) d4_31 (by decide) (by decide) ⟨_, rfl, ?_⟩
      exact ⟨⟨⟨by omega, by omega⟩, by rw [if_neg (by omega)]; simp only [own_gr]; omega⟩, rfl⟩
  · obtain rfl : q1 = (5 : Int32) := own_cEq (a := q1.toInt) (b := 5) rfl rfl hs
    obtain rfl : d = 5 := by have hd' : (5 : Int) = d := hd; omega
    refine own_lloadN X d4_0 rfl ?_
    refine own_bipush X (7) d4_1 rfl ?_
    refine own_iloadN X d4_3 rfl ?_
    refine own_imulE X d4_4 (35 : Int32) (by decide) ?_
    refine own_lushrK X (q.toInt) 35 34359738368 d4_5 rfl (by decide) (by decide) (by decide) (fun v40 hv40 cv40 lv40 uv40 => ?_)
    refine own_ldc2 X (hw _ (List.mem_of_getElem? (i := 16) rfl)) d4_6 ?_
    refine own_landM X (v40.toInt) 7 128 d4_9 rfl (by decide) (by decide) (by decide) (fun v41 hv41 cv41 lv41 uv41 => ?_)
    refine own_l2iV X (v41.toInt) d4_10 rfl (fun v42 hv42 cv42 lv42 uv42 => ?_)
    refine own_istore X d4_11 (L' := #[.val (.long q), .second, .val (.int (5 : Int32)), .val (.int q2), .val (.int v42)]) rfl ?_
    refine own_iloadN X d4_13 rfl ?_
    refine own_iloadN X d4_14 rfl ?_
    refine own_iconst X (1) d4_15 rfl ?_
    refine own_isubV X (q2.toInt) (1) d4_16 rfl rfl (fun v43 hv43 cv43 lv43 uv43 => ?_)
    by_cases hc44 : 5 < v43.toInt
    · refine own_icmpNo X d4_17 (tlt (own_cLt (a := 5) (b := v43.toInt) rfl rfl hc44)).2.1 ?_
      refine own_iload X d4_20 rfl ?_
      refine own_sipush X (128) d4_22 rfl ?_
      refine own_iorR X (v42.toInt) (128) 7 128 d4_25 rfl rfl (by decide) (by decide) (by decide) (by omega) (by omega) (fun v45 hv45 cv45 lv45 uv45 => ?_)
      refine own_istore X d4_26 (L' := #[.val (.long q), .second, .val (.int (5 : Int32)), .val (.int q2), .val (.int v45)]) rfl ?_
      refine own_iload X d4_28 rfl ?_
      refine own_i2bV X (v45.toInt) d4_30 rfl (fun v46 hv46 cv46 lv46 uv46 => ?_)
      refine own_retN (t := .byte) X (z' := v46) (Or.inr (Or.inl rfl)) (by show v46.toInt8.toInt32 = v46; rw [← hv46]; exact own_i2b2 _) (by show v46.toInt8.toInt32 = v46; rw [← hv46]; exact own_i2b2 _) d4_31 (by decide) (by decide) ⟨_, rfl, ?_⟩
      exact ⟨⟨⟨by omega, by omega⟩, by rw [if_pos (by omega)]; simp only [own_gr]; omega⟩, rfl⟩
    · refine own_icmpYes X (pc := 17) (pc' := 28) d4_17 (flt (own_cGe (a := 5) (b := v43.toInt) rfl rfl hc44)).2.1 (by decide) (by decide) ?_
      refine own_iload X d4_28 rfl ?_
      refine own_i2bV X (v42.toInt) d4_30 rfl (fun v47 hv47 cv47 lv47 uv47 => ?_)
      refine own_retN (t := .byte) X (z' := v47) (Or.inr (Or.inl rfl)) (by show v47.toInt8.toInt32 = v47; rw [← hv47]; exact own_i2b2 _) (by show v47.toInt8.toInt32 = v47; rw [← hv47]; exact own_i2b2 _) d4_31 (by decide) (by decide) ⟨_, rfl, ?_⟩
      exact ⟨⟨⟨by omega, by omega⟩, by rw [if_neg (by omega)]; simp only [own_gr]; omega⟩, rfl⟩
  · obtain rfl : q1 = (6 : Int32) := own_cEq (a := q1.toInt) (b := 6) rfl rfl hs
    obtain rfl : d = 6 := by have hd' : (6 : Int) = d := hd; omega
    refine own_lloadN X d4_0 rfl ?_
    refine own_bipush X (7) d4_1 rfl ?_
    refine own_iloadN X d4_3 rfl ?_
    refine own_imulE X d4_4 (42 : Int32) (by decide) ?_
    refine own_lushrK X (q.toInt) 42 4398046511104 d4_5 rfl (by decide) (by decide) (by decide) (fun v48 hv48 cv48 lv48 uv48 => ?_)
    refine own_ldc2 X (hw _ (List.mem_of_getElem? (i := 16) rfl)) d4_6 ?_
    refine own_landM X (v48.toInt) 7 128 d4_9 rfl (by decide) (by decide) (by decide) (fun v49 hv49 cv49 lv49 uv49 => ?_)
    refine own_l2iV X (v49.toInt) d4_10 rfl (fun v50 hv50 cv50 lv50 uv50 => ?_)
    refine own_istore X d4_11 (L' := #[.val (.long q), .second, .val (.int (6 : Int32)), .val (.int q2), .val (.int v50)]) rfl ?_
    refine own_iloadN X d4_13 rfl ?_
    refine own_iloadN X d4_14 rfl ?_
    refine own_iconst X (1) d4_15 rfl ?_
    refine own_isubV X (q2.toInt) (1) d4_16 rfl rfl (fun v51 hv51 cv51 lv51 uv51 => ?_)
    by_cases hc52 : 6 < v51.toInt
    · refine own_icmpNo X d4_17 (tlt (own_cLt (a := 6) (b := v51.toInt) rfl rfl hc52)).2.1 ?_
      refine own_iload X d4_20 rfl ?_
      refine own_sipush X (128) d4_22 rfl ?_
      refine own_iorR X (v50.toInt) (128) 7 128 d4_25 rfl rfl (by decide) (by decide) (by decide) (by omega) (by omega) (fun v53 hv53 cv53 lv53 uv53 => ?_)
      refine own_istore X d4_26 (L' := #[.val (.long q), .second, .val (.int (6 : Int32)), .val (.int q2), .val (.int v53)]) rfl ?_
      refine own_iload X d4_28 rfl ?_
      refine own_i2bV X (v53.toInt) d4_30 rfl (fun v54 hv54 cv54 lv54 uv54 => ?_)
      refine own_retN (t := .byte) X (z' := v54) (Or.inr (Or.inl rfl)) (by show v54.toInt8.toInt32 = v54; rw [← hv54]; exact own_i2b2 _) (by show v54.toInt8.toInt32 = v54; rw [← hv54]; exact own_i2b2 _) d4_31 (by decide) (by decide) ⟨_, rfl, ?_⟩
      exact ⟨⟨⟨by omega, by omega⟩, by rw [if_pos (by omega)]; simp only [own_gr]; omega⟩, rfl⟩
    · refine own_icmpYes X (pc := 17) (pc' := 28) d4_17 (flt (own_cGe (a := 6) (b := v51.toInt) rfl rfl hc52)).2.1 (by decide) (by decide) ?_
      refine own_iload X d4_28 rfl ?_
      refine own_i2bV X (v50.toInt) d4_30 rfl (fun v55 hv55 cv55 lv55 uv55 => ?_)
      refine own_retN (t := .byte) X (z' := v55) (Or.inr (Or.inl rfl)) (by show v55.toInt8.toInt32 = v55; rw [← hv55]; exact own_i2b2 _) (by show v55.toInt8.toInt32 = v55; rw [← hv55]; exact own_i2b2 _) d4_31 (by decide) (by decide) ⟨_, rfl, ?_⟩
      exact ⟨⟨⟨by omega, by omega⟩, by rw [if_neg (by omega)]; simp only [own_gr]; omega⟩, rfl⟩
  · obtain rfl : q1 = (7 : Int32) := own_cEq (a := q1.toInt) (b := 7) rfl rfl hs
    obtain rfl : d = 7 := by have hd' : (7 : Int) = d := hd; omega
    refine own_lloadN X d4_0 rfl ?_
    refine own_bipush X (7) d4_1 rfl ?_
    refine own_iloadN X d4_3 rfl ?_
    refine own_imulE X d4_4 (49 : Int32) (by decide) ?_
    refine own_lushrK X (q.toInt) 49 562949953421312 d4_5 rfl (by decide) (by decide) (by decide) (fun v56 hv56 cv56 lv56 uv56 => ?_)
    refine own_ldc2 X (hw _ (List.mem_of_getElem? (i := 16) rfl)) d4_6 ?_
    refine own_landM X (v56.toInt) 7 128 d4_9 rfl (by decide) (by decide) (by decide) (fun v57 hv57 cv57 lv57 uv57 => ?_)
    refine own_l2iV X (v57.toInt) d4_10 rfl (fun v58 hv58 cv58 lv58 uv58 => ?_)
    refine own_istore X d4_11 (L' := #[.val (.long q), .second, .val (.int (7 : Int32)), .val (.int q2), .val (.int v58)]) rfl ?_
    refine own_iloadN X d4_13 rfl ?_
    refine own_iloadN X d4_14 rfl ?_
    refine own_iconst X (1) d4_15 rfl ?_
    refine own_isubV X (q2.toInt) (1) d4_16 rfl rfl (fun v59 hv59 cv59 lv59 uv59 => ?_)
    by_cases hc60 : 7 < v59.toInt
    · refine own_icmpNo X d4_17 (tlt (own_cLt (a := 7) (b := v59.toInt) rfl rfl hc60)).2.1 ?_
      refine own_iload X d4_20 rfl ?_
      refine own_sipush X (128) d4_22 rfl ?_
      refine own_iorR X (v58.toInt) (128) 7 128 d4_25 rfl rfl (by decide) (by decide) (by decide) (by omega) (by omega) (fun v61 hv61 cv61 lv61 uv61 => ?_)
      refine own_istore X d4_26 (L' := #[.val (.long q), .second, .val (.int (7 : Int32)), .val (.int q2), .val (.int v61)]) rfl ?_
      refine own_iload X d4_28 rfl ?_
      refine own_i2bV X (v61.toInt) d4_30 rfl (fun v62 hv62 cv62 lv62 uv62 => ?_)
      refine own_retN (t := .byte) X (z' := v62) (Or.inr (Or.inl rfl)) (by show v62.toInt8.toInt32 = v62; rw [← hv62]; exact own_i2b2 _) (by show v62.toInt8.toInt32 = v62; rw [← hv62]; exact own_i2b2 _) d4_31 (by decide) (by decide) ⟨_, rfl, ?_⟩
      exact ⟨⟨⟨by omega, by omega⟩, by rw [if_pos (by omega)]; simp only [own_gr]; omega⟩, rfl⟩
    · refine own_icmpYes X (pc := 17) (pc' := 28) d4_17 (flt (own_cGe (a := 7) (b := v59.toInt) rfl rfl hc60)).2.1 (by decide) (by decide) ?_
      refine own_iload X d4_28 rfl ?_
      refine own_i2bV X (v58.toInt) d4_30 rfl (fun v63 hv63 cv63 lv63 uv63 => ?_)
      refine own_retN (t := .byte) X (z' := v63) (Or.inr (Or.inl rfl)) (by show v63.toInt8.toInt32 = v63; rw [← hv63]; exact own_i2b2 _) (by show v63.toInt8.toInt32 = v63; rw [← hv63]; exact own_i2b2 _) d4_31 (by decide) (by decide) ⟨_, rfl, ?_⟩
      exact ⟨⟨⟨by omega, by omega⟩, by rw [if_neg (by omega)]; simp only [own_gr]; omega⟩, rfl⟩
  · obtain rfl : q1 = (8 : Int32) := own_cEq (a := q1.toInt) (b := 8) rfl rfl hs
    obtain rfl : d = 8 := by have hd' : (8 : Int) = d := hd; omega
    refine own_lloadN X d4_0 rfl ?_
    refine own_bipush X (7) d4_1 rfl ?_
    refine own_iloadN X d4_3 rfl ?_
    refine own_imulE X d4_4 (56 : Int32) (by decide) ?_
    refine own_lushrK X (q.toInt) 56 72057594037927936 d4_5 rfl (by decide) (by decide) (by decide) (fun v64 hv64 cv64 lv64 uv64 => ?_)
    refine own_ldc2 X (hw _ (List.mem_of_getElem? (i := 16) rfl)) d4_6 ?_
    refine own_landM X (v64.toInt) 7 128 d4_9 rfl (by decide) (by decide) (by decide) (fun v65 hv65 cv65 lv65 uv65 => ?_)
    refine own_l2iV X (v65.toInt) d4_10 rfl (fun v66 hv66 cv66 lv66 uv66 => ?_)
    refine own_istore X d4_11 (L' := #[.val (.long q), .second, .val (.int (8 : Int32)), .val (.int q2), .val (.int v66)]) rfl ?_
    refine own_iloadN X d4_13 rfl ?_
    refine own_iloadN X d4_14 rfl ?_
    refine own_iconst X (1) d4_15 rfl ?_
    refine own_isubV X (q2.toInt) (1) d4_16 rfl rfl (fun v67 hv67 cv67 lv67 uv67 => ?_)
    by_cases hc68 : 8 < v67.toInt
    · refine own_icmpNo X d4_17 (tlt (own_cLt (a := 8) (b := v67.toInt) rfl rfl hc68)).2.1 ?_
      refine own_iload X d4_20 rfl ?_
      refine own_sipush X (128) d4_22 rfl ?_
      refine own_iorR X (v66.toInt) (128) 7 128 d4_25 rfl rfl (by decide) (by decide) (by decide) (by omega) (by omega) (fun v69 hv69 cv69 lv69 uv69 => ?_)
      refine own_istore X d4_26 (L' := #[.val (.long q), .second, .val (.int (8 : Int32)), .val (.int q2), .val (.int v69)]) rfl ?_
      refine own_iload X d4_28 rfl ?_
      refine own_i2bV X (v69.toInt) d4_30 rfl (fun v70 hv70 cv70 lv70 uv70 => ?_)
      refine own_retN (t := .byte) X (z' := v70) (Or.inr (Or.inl rfl)) (by show v70.toInt8.toInt32 = v70; rw [← hv70]; exact own_i2b2 _) (by show v70.toInt8.toInt32 = v70; rw [← hv70]; exact own_i2b2 _) d4_31 (by decide) (by decide) ⟨_, rfl, ?_⟩
      exact ⟨⟨⟨by omega, by omega⟩, by rw [if_pos (by omega)]; simp only [own_gr]; omega⟩, rfl⟩
    · refine own_icmpYes X (pc := 17) (pc' := 28) d4_17 (flt (own_cGe (a := 8) (b := v67.toInt) rfl rfl hc68)).2.1 (by decide) (by decide) ?_
      refine own_iload X d4_28 rfl ?_
      refine own_i2bV X (v66.toInt) d4_30 rfl (fun v71 hv71 cv71 lv71 uv71 => ?_)
      refine own_retN (t := .byte) X (z' := v71) (Or.inr (Or.inl rfl)) (by show v71.toInt8.toInt32 = v71; rw [← hv71]; exact own_i2b2 _) (by show v71.toInt8.toInt32 = v71; rw [← hv71]; exact own_i2b2 _) d4_31 (by decide) (by decide) ⟨_, rfl, ?_⟩
      exact ⟨⟨⟨by omega, by omega⟩, by rw [if_neg (by omega)]; simp only [own_gr]; omega⟩, rfl⟩
  · obtain rfl : q1 = (9 : Int32) := own_cEq (a := q1.toInt) (b := 9) rfl rfl hs
    obtain rfl : d = 9 := by have hd' : (9 : Int) = d := hd; omega
    refine own_lloadN X d4_0 rfl ?_
    refine own_bipush X (7) d4_1 rfl ?_
    refine own_iloadN X d4_3 rfl ?_
    refine own_imulE X d4_4 (63 : Int32) (by decide) ?_
    refine own_lushrK X (q.toInt) 63 9223372036854775808 d4_5 rfl (by decide) (by decide) (by decide) (fun v72 hv72 cv72 lv72 uv72 => ?_)
    refine own_ldc2 X (hw _ (List.mem_of_getElem? (i := 16) rfl)) d4_6 ?_
    refine own_landM X (v72.toInt) 7 128 d4_9 rfl (by decide) (by decide) (by decide) (fun v73 hv73 cv73 lv73 uv73 => ?_)
    refine own_l2iV X (v73.toInt) d4_10 rfl (fun v74 hv74 cv74 lv74 uv74 => ?_)
    refine own_istore X d4_11 (L' := #[.val (.long q), .second, .val (.int (9 : Int32)), .val (.int q2), .val (.int v74)]) rfl ?_
    refine own_iloadN X d4_13 rfl ?_
    refine own_iloadN X d4_14 rfl ?_
    refine own_iconst X (1) d4_15 rfl ?_
    refine own_isubV X (q2.toInt) (1) d4_16 rfl rfl (fun v75 hv75 cv75 lv75 uv75 => ?_)
    by_cases hc76 : 9 < v75.toInt
    · refine own_icmpNo X d4_17 (tlt (own_cLt (a := 9) (b := v75.toInt) rfl rfl hc76)).2.1 ?_
      refine own_iload X d4_20 rfl ?_
      refine own_sipush X (128) d4_22 rfl ?_
      refine own_iorR X (v74.toInt) (128) 7 128 d4_25 rfl rfl (by decide) (by decide) (by decide) (by omega) (by omega) (fun v77 hv77 cv77 lv77 uv77 => ?_)
      refine own_istore X d4_26 (L' := #[.val (.long q), .second, .val (.int (9 : Int32)), .val (.int q2), .val (.int v77)]) rfl ?_
      refine own_iload X d4_28 rfl ?_
      refine own_i2bV X (v77.toInt) d4_30 rfl (fun v78 hv78 cv78 lv78 uv78 => ?_)
      refine own_retN (t := .byte) X (z' := v78) (Or.inr (Or.inl rfl)) (by show v78.toInt8.toInt32 = v78; rw [← hv78]; exact own_i2b2 _) (by show v78.toInt8.toInt32 = v78; rw [← hv78]; exact own_i2b2 _) d4_31 (by decide) (by decide) ⟨_, rfl, ?_⟩
      exact ⟨⟨⟨by omega, by omega⟩, by rw [if_pos (by omega)]; simp only [own_gr]; omega⟩, rfl⟩
    · refine own_icmpYes X (pc := 17) (pc' := 28) d4_17 (flt (own_cGe (a := 9) (b := v75.toInt) rfl rfl hc76)).2.1 (by decide) (by decide) ?_
      refine own_iload X d4_28 rfl ?_
      refine own_i2bV X (v74.toInt) d4_30 rfl (fun v79 hv79 cv79 lv79 uv79 => ?_)
      refine own_retN (t := .byte) X (z' := v79) (Or.inr (Or.inl rfl)) (by show v79.toInt8.toInt32 = v79; rw [← hv79]; exact own_i2b2 _) (by show v79.toInt8.toInt32 = v79; rw [← hv79]; exact own_i2b2 _) d4_31 (by decide) (by decide) ⟨_, rfl, ?_⟩
      exact ⟨⟨⟨by omega, by omega⟩, by rw [if_neg (by omega)]; simp only [own_gr]; omega⟩, rfl⟩
theorem ef_rm3 (m : MethodId) (o : Addr) (q1 : Int32) (q2 : Int32) (q3 : Int32) (q : Int64) (q4 : Int32) : entryFrame m #[(.ref o), (.int q1), (.int q2), (.int q3), (.long q), (.int q4)] 7 = mkF m 0 #[.val (.ref o), .val (.int q1), .val (.int q2), .val (.int q3), .val (.long q), .second, .val (.int q4)] [] := by first | (simp [entryFrame, mkF, argsToLocals, Value.category]; done) | rfl
theorem d3_0 : decode method_5_code 0 = .ok (.iload_n 1, 1) := by decide +kernel
theorem d3_1 : decode method_5_code 1 = .ok (.iload_n 2, 1) := by decide +kernel
theorem d3_2 : decode method_5_code 2 = .ok (.if_icmp .lt 10, 3) := by decide +kernel
theorem d3_12 : decode method_5_code 12 = .ok (.aload_n 0, 1) := by decide +kernel
theorem d3_13 : decode method_5_code 13 = .ok (.iload_n 1, 1) := by decide +kernel
theorem d3_14 : decode method_5_code 14 = .ok (.baload, 1) := by decide +kernel
theorem d3_15 : decode method_5_code 15 = .ok (.iload 6, 2) := by decide +kernel
theorem d3_17 : decode method_5_code 17 = .ok (.if_icmp .ne 7, 3) := by decide +kernel
theorem d3_20 : decode method_5_code 20 = .ok (.iconst 1, 1) := by decide +kernel
theorem d3_21 : decode method_5_code 21 = .ok (.goto 4, 3) := by decide +kernel
theorem d3_25 : decode method_5_code 25 = .ok (.ireturn, 1) := by decide +kernel
theorem d3_5 : decode method_5_code 5 = .ok (.iload_n 1, 1) := by decide +kernel
theorem d3_6 : decode method_5_code 6 = .ok (.iload_n 2, 1) := by decide +kernel
theorem d3_7 : decode method_5_code 7 = .ok (.iload_n 3, 1) := by decide +kernel
theorem d3_8 : decode method_5_code 8 = .ok (.iadd, 1) := by decide +kernel
theorem d3_9 : decode method_5_code 9 = .ok (.if_icmp .lt 17, 3) := by decide +kernel
theorem d3_26 : decode method_5_code 26 = .ok (.aload_n 0, 1) := by decide +kernel
theorem d3_27 : decode method_5_code 27 = .ok (.iload_n 1, 1) := by decide +kernel
theorem d3_28 : decode method_5_code 28 = .ok (.baload, 1) := by decide +kernel
theorem d3_29 : decode method_5_code 29 = .ok (.lload 4, 2) := by decide +kernel
theorem d3_31 : decode method_5_code 31 = .ok (.iload_n 1, 1) := by decide +kernel
theorem d3_32 : decode method_5_code 32 = .ok (.iload_n 2, 1) := by decide +kernel
theorem d3_33 : decode method_5_code 33 = .ok (.isub, 1) := by decide +kernel
theorem d3_34 : decode method_5_code 34 = .ok (.iload_n 3, 1) := by decide +kernel
theorem d3_35 : decode method_5_code 35 = .ok (.invokestatic 25, 3) := by decide +kernel
theorem pd_1 : parseMethodDescriptor "(JII)B" = some ⟨[.long, .int, .int], some .byte⟩ := by decide +kernel
theorem d3_38 : decode method_5_code 38 = .ok (.if_icmp .ne 7, 3) := by decide +kernel
theorem d3_41 : decode method_5_code 41 = .ok (.iconst 1, 1) := by decide +kernel
theorem d3_42 : decode method_5_code 42 = .ok (.goto 4, 3) := by decide +kernel
theorem d3_46 : decode method_5_code 46 = .ok (.ireturn, 1) := by decide +kernel
theorem pn_3 : plainFor (⟨"com/example/fihrist/fihrist/index/IndexFormatPutVarintPinLaw", "check", "([BIIIJB)Z"⟩ : MethodName) = true := plainFor_of_name (show plainName "com/example/fihrist/fihrist/index/IndexFormatPutVarintPinLaw" = true from by first | (simp [plainName, overriddenIn]; done) | decide +kernel)
set_option maxRecDepth 65536 in
set_option maxHeartbeats 40000000 in
theorem rm3 (l : Launch) (Z : State) (a0 : Array Value) (hw : ∀ d ∈ tables_1, d.before a0 Z = true) (ws : List Jvm.Cond) (o : Addr) (q1 : Int32) (q2 : Int32) (q3 : Int32) (q : Int64) (q4 : Int32) (f : Int32 → Int32) (N : Int32) (h0 : Heap) (n0 : Nat) (hn0 : n0 ≤ h0.size) (A_o : own_AI Z h0 o .byte N f) (h1 : 0 ≤ q1.toInt) (h2 : q1.toInt < N.toInt) (h3 : 0 ≤ q2.toInt) (h3' : q2.toInt ≤ 3) (h4 : 1 ≤ q3.toInt) (h5 : q3.toInt ≤ 10) (Hout : (q1.toInt < q2.toInt ∨ q2.toInt + q3.toInt ≤ q1.toInt) → f q1 = q4) (Hin : ∀ d : Nat, q1.toInt = q2.toInt + d → (d : Int) < q3.toInt → ((f q1).toInt - (own_gr d (q.toInt % 18446744073709551616) % 128 + (if (d : Int) + 1 < q3.toInt then 128 else 0))) % 256 = 0) :
    own_Met l Z (⟨"com/example/fihrist/fihrist/index/IndexFormatPutVarintPinLaw", "check", "([BIIIJB)Z"⟩ : MethodName) method_5_code 7 (some .boolean) ws ({ frames := 1, cells := 0, slots := 0, locals := 17 } : Room) #[(.ref o), (.int q1), (.int q2), (.int q3), (.long q), (.int q4)] h0 n0 (own_QI fun z h => (z = 1) ∧ h = h0) := by
  refine own_met pn_3 hn0 (fun p e s m below meth c T X => ?_)
  refine own_cast (ef_rm3 m o q1 q2 q3 q q4) ?_
  have r_q1 := rng32 q1
  have r_q2 := rng32 q2
  have r_q3 := rng32 q3
  have r_q := rng64 q
  have r_q4 := rng32 q4
  have r_N := rng32 N
  refine own_iloadN X d3_0 rfl ?_
  refine own_iloadN X d3_1 rfl ?_
  by_cases hc1 : q1.toInt < q2.toInt
  · refine own_icmpYes X (pc := 2) (pc' := 12) d3_2 (tlt (own_cLt (a := q1.toInt) (b := q2.toInt) rfl rfl hc1)).1 (by decide) (by decide) ?_
    refine own_aloadN X d3_12 rfl rfl ?_
    refine own_iloadN X d3_13 rfl ?_
    refine own_baload X A_o (own_cGe (a := q1.toInt) (b := 0) rfl rfl (by omega)) (own_cLt (a := q1.toInt) (b := N.toInt) rfl rfl (by omega)) d3_14 (fun v2 hv2 lv2 uv2 => ?_)
    refine own_iload X d3_15 rfl ?_
    have hc3 : v2.toInt = q4.toInt := by have hv := congrArg Int32.toInt (Hout (by omega)); rw [hv2] at hv; exact hv
    refine own_icmpNo X d3_17 (teq (own_cEq (a := v2.toInt) (b := q4.toInt) rfl rfl hc3)).2 ?_
    refine own_iconst X (1) d3_20 rfl ?_
    refine own_goto X (pc := 21) (pc' := 25) d3_21 (by decide) (by decide) ?_
    refine own_retN (t := .boolean) X (z' := (1 : Int32)) (Or.inl rfl) rfl rfl d3_25 (by decide) (by decide) ⟨_, rfl, ?_⟩
    exact ⟨rfl, rfl⟩
  · refine own_icmpNo X d3_2 (flt (own_cGe (a := q1.toInt) (b := q2.toInt) rfl rfl hc1)).1 ?_
    refine own_iloadN X d3_5 rfl ?_
    refine own_iloadN X d3_6 rfl ?_
    refine own_iloadN X d3_7 rfl ?_
    refine own_iaddV X (q2.toInt) (q3.toInt) d3_8 rfl rfl (fun v4 hv4 cv4 lv4 uv4 => ?_)
    by_cases hc5 : q1.toInt < v4.toInt
    · refine own_icmpYes X (pc := 9) (pc' := 26) d3_9 (tlt (own_cLt (a := q1.toInt) (b := v4.toInt) rfl rfl hc5)).1 (by decide) (by decide) ?_
      refine own_aloadN X d3_26 rfl rfl ?_
      refine own_iloadN X d3_27 rfl ?_
      refine own_baload X A_o (own_cGe (a := q1.toInt) (b := 0) rfl rfl (by omega)) (own_cLt (a := q1.toInt) (b := N.toInt) rfl rfl (by omega)) d3_28 (fun v6 hv6 lv6 uv6 => ?_)
      refine own_lload X d3_29 rfl ?_
      refine own_iloadN X d3_31 rfl ?_
      refine own_iloadN X d3_32 rfl ?_
      refine own_isubV X (q1.toInt) (q2.toInt) d3_33 rfl rfl (fun v7 hv7 cv7 lv7 uv7 => ?_)
      refine own_iloadN X d3_34 rfl ?_
      refine own_callS X (W := 1) (argsL := [(.long q), (.int v7), (.int q3)]) (rest := [(.int v6)]) (hw _ (List.mem_of_getElem? (i := 13) rfl)) (hw _ (List.mem_of_getElem? (i := 14) rfl)) (hw _ (List.mem_of_getElem? (i := 3) rfl)) (hw _ (List.mem_of_getElem? (i := 15) rfl)) (by decide) (rm4 l Z a0 hw [] q v7 q3 (q1.toInt - q2.toInt).toNat h0 n0 (own_size X) (by omega) (by omega) (by omega) (by omega)) (by decide) (by decide) (by decide) (by decide) rfl (lenOf pd_1 rfl) rfl (Nat.le_of_eq rfl) d3_35 (own_contI fun T v8 X hq8 => ?_)
      have hin := Hin (q1.toInt - q2.toInt).toNat (by omega) (by omega)
      have hv := congrArg Int32.toInt hv6
      obtain ⟨hqa, hqb⟩ := hq8
      generalize (own_gr (q1.toInt - q2.toInt).toNat (q.toInt % 18446744073709551616) % 128 + (if ((q1.toInt - q2.toInt).toNat : Int) + 1 < q3.toInt then 128 else 0)) = G at hin hqb
      have hc9 : v6.toInt = v8.toInt := by omega
      refine own_icmpNo X d3_38 (teq (own_cEq (a := v6.toInt) (b := v8.toInt) rfl rfl hc9)).2 ?_
      refine own_iconst X (1) d3_41 rfl ?_
      refine own_goto X (pc := 42) (pc' := 46) d3_42 (by decide) (by decide) ?_
      refine own_retN (t := .boolean) X (z' := (1 : Int32)) (Or.inl rfl) rfl rfl d3_46 (by decide) (by decide) ⟨_, rfl, ?_⟩
      exact ⟨rfl, rfl⟩
    · refine own_icmpNo X d3_9 (flt (own_cGe (a := q1.toInt) (b := v4.toInt) rfl rfl hc5)).1 ?_
      refine own_aloadN X d3_12 rfl rfl ?_
      refine own_iloadN X d3_13 rfl ?_
      refine own_baload X A_o (own_cGe (a := q1.toInt) (b := 0) rfl rfl (by omega)) (own_cLt (a := q1.toInt) (b := N.toInt) rfl rfl (by omega)) d3_14 (fun v10 hv10 lv10 uv10 => ?_)
      refine own_iload X d3_15 rfl ?_
      have hc11 : v10.toInt = q4.toInt := by have hv := congrArg Int32.toInt (Hout (by omega)); rw [hv10] at hv; exact hv
      refine own_icmpNo X d3_17 (teq (own_cEq (a := v10.toInt) (b := q4.toInt) rfl rfl hc11)).2 ?_
      refine own_iconst X (1) d3_20 rfl ?_
      refine own_goto X (pc := 21) (pc' := 25) d3_21 (by decide) (by decide) ?_
      refine own_retN (t := .boolean) X (z' := (1 : Int32)) (Or.inl rfl) rfl rfl d3_25 (by decide) (by decide) ⟨_, rfl, ?_⟩
      exact ⟨rfl, rfl⟩
theorem ef_rm0 (m : MethodId) (x0 : Int64) (x1 : Int32) (x2 : Int32) (x3 : Int32) : entryFrame m #[(.long x0), (.int x1), (.int x2), (.int x3)] maxLocals = mkF m 0 #[.val (.long x0), .second, .val (.int x1), .val (.int x2), .val (.int x3), .unset, .unset, .unset, .unset, .unset, .unset, .unset, .unset] [] := by first | (simp [entryFrame, mkF, argsToLocals, Value.category, maxLocals]; done) | rfl
theorem pd_0 : parseMethodDescriptor "(J)I" = some ⟨[.long], some .int⟩ := by decide +kernel
theorem pd_3 : parseMethodDescriptor "(J[BI)I" = some ⟨[.long, (.array .byte), .int], some .int⟩ := by decide +kernel
theorem pd_4 : parseMethodDescriptor "([BIIIJB)Z" = some ⟨[(.array .byte), .int, .int, .int, .long, .byte], some .boolean⟩ := by decide +kernel
theorem pn_0 : plainFor x = true := plainFor_of_name (show plainName "com/example/fihrist/fihrist/index/IndexFormatPutVarintPinLaw" = true from by first | (simp [plainName, overriddenIn]; done) | decide +kernel)
set_option maxRecDepth 65536 in
set_option maxHeartbeats 40000000 in
theorem rm0 (l : Launch) (Z : State) (a0 : Array Value) (hw : ∀ d ∈ tables_1, d.before a0 Z = true) (ws : List Jvm.Cond) (x0 : Int64) (x1 : Int32) (x2 : Int32) (x3 : Int32) (h0 : Heap) (n0 : Nat) (hn0 : n0 ≤ h0.size) :
    own_Met l Z x code maxLocals ret ws room_1 #[(.long x0), (.int x1), (.int x2), (.int x3)] h0 n0 (own_QI fun z h => z = 1) := by
  refine own_met pn_0 hn0 (fun p e s m below meth c T X => ?_)
  refine own_cast (ef_rm0 m x0 x1 x2 x3) ?_
  change own_S p l e room_1 s m _ below meth c Z x code maxLocals (some .boolean) n0 T 0 0 h0 at X
  have r_x0 := rng64 x0
  have r_x1 := rng32 x1
  have r_x2 := rng32 x2
  have r_x3 := rng32 x3
  refine own_lloadN X at_0 rfl ?_
  refine own_iloadN X at_1 rfl ?_
  refine own_bipush X (63) at_2 rfl ?_
  refine own_iandM X (x1.toInt) 6 64 at_4 rfl (by decide) (by decide) (by decide) (fun v1 hv1 cv1 lv1 uv1 => ?_)
  refine own_lushrV X at_5 (fun v2 hv2 lv2 uv2 => ?_)
  refine own_lstore X at_6 (L' := #[.val (.long x0), .second, .val (.int x1), .val (.int x2), .val (.int x3), .val (.long v2), .second, .unset, .unset, .unset, .unset, .unset, .unset]) rfl ?_
  refine own_iloadN X at_8 rfl ?_
  refine own_iconst X (3) at_9 rfl ?_
  refine own_iandM X (x2.toInt) 2 4 at_10 rfl (by decide) (by decide) (by decide) (fun v3 hv3 cv3 lv3 uv3 => ?_)
  refine own_istore X at_11 (L' := #[.val (.long x0), .second, .val (.int x1), .val (.int x2), .val (.int x3), .val (.long v2), .second, .val (.int v3), .unset, .unset, .unset, .unset, .unset]) rfl ?_
  refine own_iload X at_13 rfl ?_
  refine own_i2bV X (x3.toInt) at_15 rfl (fun v4 hv4 cv4 lv4 uv4 => ?_)
  refine own_istore X at_16 (L' := #[.val (.long x0), .second, .val (.int x1), .val (.int x2), .val (.int x3), .val (.long v2), .second, .val (.int v3), .val (.int v4), .unset, .unset, .unset, .unset]) rfl ?_
  refine own_bipush X (14) at_18 rfl ?_
  refine own_newP X (cap := 14) (hw _ (List.mem_of_getElem? (i := 0) rfl)) (by decide) (by decide) (by decide) (by decide) (by decide) (by decide) at_20 (fun T h b5 hb_b5 ge_b5 X E f5 hf5 A_b5 => ?_)
  have A_b5 : own_AI Z h b5 .byte (14 : Int32) f5 := A_b5
  refine own_astore X at_22 rfl (L' := #[.val (.long x0), .second, .val (.int x1), .val (.int x2), .val (.int x3), .val (.long v2), .second, .val (.int v3), .val (.int v4), .val (.ref b5), .unset, .unset, .unset]) rfl ?_
  refine own_aload X at_24 rfl rfl ?_
  refine own_iconst X (0) at_26 rfl ?_
  refine own_iload X at_27 rfl ?_
  refine own_bastore X A_b5 (own_cGe (a := 0) (b := 0) rfl rfl (by omega)) (own_cLt (a := 0) (b := 14) rfl rfl (by omega)) ge_b5 (x' := v4) (by rw [← hv4]; exact own_i2b2 _) at_29 (fun T h X f6 hf6 A_b5 W => ?_)
  refine own_aload X at_30 rfl rfl ?_
  refine own_iconst X (1) at_32 rfl ?_
  refine own_iload X at_33 rfl ?_
  refine own_bastore X A_b5 (own_cGe (a := 1) (b := 0) rfl rfl (by omega)) (own_cLt (a := 1) (b := 14) rfl rfl (by omega)) ge_b5 (x' := v4) (by rw [← hv4]; exact own_i2b2 _) at_35 (fun T h X f7 hf7 A_b5 W => ?_)
  refine own_aload X at_36 rfl rfl ?_
  refine own_iconst X (2) at_38 rfl ?_
  refine own_iload X at_39 rfl ?_
  refine own_bastore X A_b5 (own_cGe (a := 2) (b := 0) rfl rfl (by omega)) (own_cLt (a := 2) (b := 14) rfl rfl (by omega)) ge_b5 (x' := v4) (by rw [← hv4]; exact own_i2b2 _) at_41 (fun T h X f8 hf8 A_b5 W => ?_)
  refine own_aload X at_42 rfl rfl ?_
  refine own_iconst X (3) at_44 rfl ?_
  refine own_iload X at_45 rfl ?_
  refine own_bastore X A_b5 (own_cGe (a := 3) (b := 0) rfl rfl (by omega)) (own_cLt (a := 3) (b := 14) rfl rfl (by omega)) ge_b5 (x' := v4) (by rw [← hv4]; exact own_i2b2 _) at_47 (fun T h X f9 hf9 A_b5 W => ?_)
  refine own_aload X at_48 rfl rfl ?_
  refine own_iconst X (4) at_50 rfl ?_
  refine own_iload X at_51 rfl ?_
  refine own_bastore X A_b5 (own_cGe (a := 4) (b := 0) rfl rfl (by omega)) (own_cLt (a := 4) (b := 14) rfl rfl (by omega)) ge_b5 (x' := v4) (by rw [← hv4]; exact own_i2b2 _) at_53 (fun T h X f10 hf10 A_b5 W => ?_)
  refine own_aload X at_54 rfl rfl ?_
  refine own_iconst X (5) at_56 rfl ?_
  refine own_iload X at_57 rfl ?_
  refine own_bastore X A_b5 (own_cGe (a := 5) (b := 0) rfl rfl (by omega)) (own_cLt (a := 5) (b := 14) rfl rfl (by omega)) ge_b5 (x' := v4) (by rw [← hv4]; exact own_i2b2 _) at_59 (fun T h X f11 hf11 A_b5 W => ?_)
  refine own_aload X at_60 rfl rfl ?_
  refine own_bipush X (6) at_62 rfl ?_
  refine own_iload X at_64 rfl ?_
  refine own_bastore X A_b5 (own_cGe (a := 6) (b := 0) rfl rfl (by omega)) (own_cLt (a := 6) (b := 14) rfl rfl (by omega)) ge_b5 (x' := v4) (by rw [← hv4]; exact own_i2b2 _) at_66 (fun T h X f12 hf12 A_b5 W => ?_)
  refine own_aload X at_67 rfl rfl ?_
  refine own_bipush X (7) at_69 rfl ?_
  refine own_iload X at_71 rfl ?_
  refine own_bastore X A_b5 (own_cGe (a := 7) (b := 0) rfl rfl (by omega)) (own_cLt (a := 7) (b := 14) rfl rfl (by omega)) ge_b5 (x' := v4) (by rw [← hv4]; exact own_i2b2 _) at_73 (fun T h X f13 hf13 A_b5 W => ?_)
  refine own_aload X at_74 rfl rfl ?_
  refine own_bipush X (8) at_76 rfl ?_
  refine own_iload X at_78 rfl ?_
  refine own_bastore X A_b5 (own_cGe (a := 8) (b := 0) rfl rfl (by omega)) (own_cLt (a := 8) (b := 14) rfl rfl (by omega)) ge_b5 (x' := v4) (by rw [← hv4]; exact own_i2b2 _) at_80 (fun T h X f14 hf14 A_b5 W => ?_)
  refine own_aload X at_81 rfl rfl ?_
  refine own_bipush X (9) at_83 rfl ?_
  refine own_iload X at_85 rfl ?_
  refine own_bastore X A_b5 (own_cGe (a := 9) (b := 0) rfl rfl (by omega)) (own_cLt (a := 9) (b := 14) rfl rfl (by omega)) ge_b5 (x' := v4) (by rw [← hv4]; exact own_i2b2 _) at_87 (fun T h X f15 hf15 A_b5 W => ?_)
  refine own_aload X at_88 rfl rfl ?_
  refine own_bipush X (10) at_90 rfl ?_
  refine own_iload X at_92 rfl ?_
  refine own_bastore X A_b5 (own_cGe (a := 10) (b := 0) rfl rfl (by omega)) (own_cLt (a := 10) (b := 14) rfl rfl (by omega)) ge_b5 (x' := v4) (by rw [← hv4]; exact own_i2b2 _) at_94 (fun T h X f16 hf16 A_b5 W => ?_)
  refine own_aload X at_95 rfl rfl ?_
  refine own_bipush X (11) at_97 rfl ?_
  refine own_iload X at_99 rfl ?_
  refine own_bastore X A_b5 (own_cGe (a := 11) (b := 0) rfl rfl (by omega)) (own_cLt (a := 11) (b := 14) rfl rfl (by omega)) ge_b5 (x' := v4) (by rw [← hv4]; exact own_i2b2 _) at_101 (fun T h X f17 hf17 A_b5 W => ?_)
  refine own_aload X at_102 rfl rfl ?_
  refine own_bipush X (12) at_104 rfl ?_
  refine own_iload X at_106 rfl ?_
  refine own_bastore X A_b5 (own_cGe (a := 12) (b := 0) rfl rfl (by omega)) (own_cLt (a := 12) (b := 14) rfl rfl (by omega)) ge_b5 (x' := v4) (by rw [← hv4]; exact own_i2b2 _) at_108 (fun T h X f18 hf18 A_b5 W => ?_)
  refine own_aload X at_109 rfl rfl ?_
  refine own_bipush X (13) at_111 rfl ?_
  refine own_iload X at_113 rfl ?_
  refine own_bastore X A_b5 (own_cGe (a := 13) (b := 0) rfl rfl (by omega)) (own_cLt (a := 13) (b := 14) rfl rfl (by omega)) ge_b5 (x' := v4) (by rw [← hv4]; exact own_i2b2 _) at_115 (fun T h X f19 hf19 A_b5 W => ?_)
  refine own_lload X at_116 rfl ?_
  refine own_callS X (W := 0) (argsL := [(.long v2)]) (rest := []) (hw _ (List.mem_of_getElem? (i := 1) rfl)) (hw _ (List.mem_of_getElem? (i := 2) rfl)) (hw _ (List.mem_of_getElem? (i := 3) rfl)) (hw _ (List.mem_of_getElem? (i := 4) rfl)) (by decide) (rm1 l Z a0 hw [] v2 h n0 (own_size X)) (by decide) (by decide) (by decide) (by decide) rfl (lenOf pd_0 rfl) rfl (Nat.le_of_eq rfl) at_118 (own_contI fun T v20 X hq20 => ?_)
  have hl1 := own_vl_pos 9 (v2.toInt % 18446744073709551616)
  have hl2 := own_vl_le 9 (v2.toInt % 18446744073709551616)
  refine own_istore X at_121 (L' := #[.val (.long x0), .second, .val (.int x1), .val (.int x2), .val (.int x3), .val (.long v2), .second, .val (.int v3), .val (.int v4), .val (.ref b5), .val (.int v20), .unset, .unset]) rfl ?_
  refine own_lload X at_123 rfl ?_
  refine own_aload X at_125 rfl rfl ?_
  refine own_iload X at_127 rfl ?_
  refine own_callS X (W := 0) (argsL := [(.long v2), (.ref b5), (.int v3)]) (rest := []) (hw _ (List.mem_of_getElem? (i := 5) rfl)) (hw _ (List.mem_of_getElem? (i := 6) rfl)) (hw _ (List.mem_of_getElem? (i := 7) rfl)) (hw _ (List.mem_of_getElem? (i := 8) rfl)) (by decide) (rm2 l Z a0 hw [] v2 b5 v3 f19 14 h n0 (own_size X) A_b5 ge_b5 (by omega) (by show _ ≤ (14 : Int); omega)) (by decide) (by decide) (by decide) (by decide) rfl (lenOf pd_3 rfl) rfl (Nat.le_of_eq rfl) at_129 (own_contIH fun T h v21 X hq21 => ?_)
  obtain ⟨g21, A_n, Kc, hS1, hS2, hS3⟩ := hq21
  have A_b5 := A_n
  have hok := own_ok9 (v2.toInt % 18446744073709551616) (by omega) (by omega)
  have hS3' : ∀ (j : Int32) (d : Nat), j.toInt = v3.toInt + d → (d : Int) < v20.toInt → ((g21 j).toInt - (own_gr d (v2.toInt % 18446744073709551616) % 128 + (if (d : Int) + 1 < v20.toInt then 128 else 0))) % 256 = 0 := by
    intro j d hj hd
    rw [hq20] at hd ⊢
    rw [← own_by_gr 9 _ d (by omega) hok hd]
    exact hS3 j d hj hd
  rw [← hq20] at hS1 hS2
  refine own_istore X at_132 (L' := #[.val (.long x0), .second, .val (.int x1), .val (.int x2), .val (.int x3), .val (.long v2), .second, .val (.int v3), .val (.int v4), .val (.ref b5), .val (.int v20), .val (.int v21), .unset]) rfl ?_
  refine own_iload X at_134 rfl ?_
  refine own_iload X at_136 rfl ?_
  refine own_iload X at_138 rfl ?_
  refine own_iaddV X (v3.toInt) (v20.toInt) at_140 rfl rfl (fun v22 hv22 cv22 lv22 uv22 => ?_)
  have hc23 : v21.toInt = v22.toInt := by omega
  refine own_icmpNo X at_141 (teq (own_cEq (a := v21.toInt) (b := v22.toInt) rfl rfl hc23)).2 ?_
  refine own_iconst X (1) at_144 rfl ?_
  refine own_goto X (pc := 145) (pc' := 149) at_145 (by decide) (by decide) ?_
  refine own_istore X at_149 (L' := #[.val (.long x0), .second, .val (.int x1), .val (.int x2), .val (.int x3), .val (.long v2), .second, .val (.int v3), .val (.int v4), .val (.ref b5), .val (.int v20), .val (.int v21), .val (.int (1 : Int32))]) rfl ?_
  refine own_iload X at_151 rfl ?_
  refine own_ifNo X at_153 ((if0 _ _).trans (feq (own_cNe (a := 1) (b := 0) rfl rfl (by decide))).1) ?_
  refine own_aload X at_156 rfl rfl ?_
  refine own_iconst X (0) at_158 rfl ?_
  refine own_iload X at_159 rfl ?_
  refine own_iload X at_161 rfl ?_
  refine own_lload X at_163 rfl ?_
  refine own_iload X at_165 rfl ?_
  refine own_callS X (W := 0) (argsL := [(.ref b5), (.int (0 : Int32)), (.int v3), (.int v20), (.long v2), (.int v4)]) (rest := []) (hw _ (List.mem_of_getElem? (i := 10) rfl)) (hw _ (List.mem_of_getElem? (i := 11) rfl)) (hw _ (List.mem_of_getElem? (i := 3) rfl)) (hw _ (List.mem_of_getElem? (i := 12) rfl)) (by decide) (rm3 l Z a0 hw [] b5 (0 : Int32) v3 v20 v2 v4 g21 14 h n0 (own_size X) A_b5 (by decide) (by decide) (by omega) (by omega) (by omega) (by omega) (fun hq => (hS2 _ hq).trans (by rw [hf19, own_upd_miss (by decide), hf18, own_upd_miss (by decide), hf17, own_upd_miss (by decide), hf16, own_upd_miss (by decide), hf15, own_upd_miss (by decide), hf14, own_upd_miss (by decide), hf13, own_upd_miss (by decide), hf12, own_upd_miss (by decide), hf11, own_upd_miss (by decide), hf10, own_upd_miss (by decide), hf9, own_upd_miss (by decide), hf8, own_upd_miss (by decide), hf7, own_upd_miss (by decide), hf6, own_upd_hit])) (fun d => hS3' _ d)) (by decide) (by decide) (by decide) (by decide) rfl (lenOf pd_4 rfl) rfl (Nat.le_of_eq rfl) at_167 (own_contI fun T v24 X hq24 => ?_)
  subst hq24
  refine own_ifNo X at_170 ((if0 _ _).trans (feq (own_cNe (a := 1) (b := 0) rfl rfl (by decide))).1) ?_
  refine own_iconst X (1) at_173 rfl ?_
  refine own_goto X (pc := 174) (pc' := 178) at_174 (by decide) (by decide) ?_
  refine own_istore X at_178 (L' := #[.val (.long x0), .second, .val (.int x1), .val (.int x2), .val (.int x3), .val (.long v2), .second, .val (.int v3), .val (.int v4), .val (.ref b5), .val (.int v20), .val (.int v21), .val (.int (1 : Int32))]) rfl ?_
  refine own_iload X at_180 rfl ?_
  refine own_ifNo X at_182 ((if0 _ _).trans (feq (own_cNe (a := 1) (b := 0) rfl rfl (by decide))).1) ?_
  refine own_aload X at_185 rfl rfl ?_
  refine own_iconst X (1) at_187 rfl ?_
  refine own_iload X at_188 rfl ?_
  refine own_iload X at_190 rfl ?_
  refine own_lload X at_192 rfl ?_
  refine own_iload X at_194 rfl ?_
  refine own_callS X (W := 0) (argsL := [(.ref b5), (.int (1 : Int32)), (.int v3), (.int v20), (.long v2), (.int v4)]) (rest := []) (hw _ (List.mem_of_getElem? (i := 10) rfl)) (hw _ (List.mem_of_getElem? (i := 11) rfl)) (hw _ (List.mem_of_getElem? (i := 3) rfl)) (hw _ (List.mem_of_getElem? (i := 12) rfl)) (by decide) (rm3 l Z a0 hw [] b5 (1 : Int32) v3 v20 v2 v4 g21 14 h n0 (own_size X) A_b5 (by decide) (by decide) (by omega) (by omega) (by omega) (by omega) (fun hq => (hS2 _ hq).trans (by rw [hf19, own_upd_miss (by decide), hf18, own_upd_miss (by decide), hf17, own_upd_miss (by decide), hf16, own_upd_miss (by decide), hf15, own_upd_miss (by decide), hf14, own_upd_miss (by decide), hf13, own_upd_miss (by decide), hf12, own_upd_miss (by decide), hf11, own_upd_miss (by decide), hf10, own_upd_miss (by decide), hf9, own_upd_miss (by decide), hf8, own_upd_miss (by decide), hf7, own_upd_hit])) (fun d => hS3' _ d)) (by decide) (by decide) (by decide) (by decide) rfl (lenOf pd_4 rfl) rfl (Nat.le_of_eq rfl) at_196 (own_contI fun T v25 X hq25 => ?_)
  subst hq25
  refine own_ifNo X at_199 ((if0 _ _).trans (feq (own_cNe (a := 1) (b := 0) rfl rfl (by decide))).1) ?_
  refine own_iconst X (1) at_202 rfl ?_
  refine own_goto X (pc := 203) (pc' := 207) at_203 (by decide) (by decide) ?_
  refine own_istore X at_207 (L' := #[.val (.long x0), .second, .val (.int x1), .val (.int x2), .val (.int x3), .val (.long v2), .second, .val (.int v3), .val (.int v4), .val (.ref b5), .val (.int v20), .val (.int v21), .val (.int (1 : Int32))]) rfl ?_
  refine own_iload X at_209 rfl ?_
  refine own_ifNo X at_211 ((if0 _ _).trans (feq (own_cNe (a := 1) (b := 0) rfl rfl (by decide))).1) ?_
  refine own_aload X at_214 rfl rfl ?_
  refine own_iconst X (2) at_216 rfl ?_
  refine own_iload X at_217 rfl ?_
  refine own_iload X at_219 rfl ?_
  refine own_lload X at_221 rfl ?_
  refine own_iload X at_223 rfl ?_
  refine own_callS X (W := 0) (argsL := [(.ref b5), (.int (2 : Int32)), (.int v3), (.int v20), (.long v2), (.int v4)]) (rest := []) (hw _ (List.mem_of_getElem? (i := 10) rfl)) (hw _ (List.mem_of_getElem? (i := 11) rfl)) (hw _ (List.mem_of_getElem? (i := 3) rfl)) (hw _ (List.mem_of_getElem? (i := 12) rfl)) (by decide) (rm3 l Z a0 hw [] b5 (2 : Int32) v3 v20 v2 v4 g21 14 h n0 (own_size X) A_b5 (by decide) (by decide) (by omega) (by omega) (by omega) (by omega) (fun hq => (hS2 _ hq).trans (by rw [hf19, own_upd_miss (by decide), hf18, own_upd_miss (by decide), hf17, own_upd_miss (by decide), hf16, own_upd_miss (by decide), hf15, own_upd_miss (by decide), hf14, own_upd_miss (by decide), hf13, own_upd_miss (by decide), hf12, own_upd_miss (by decide), hf11, own_upd_miss (by decide), hf10, own_upd_miss (by decide), hf9, own_upd_miss (by decide), hf8, own_upd_hit])) (fun d => hS3' _ d)) (by decide) (by decide) (by decide) (by decide) rfl (lenOf pd_4 rfl) rfl (Nat.le_of_eq rfl) at_225 (own_contI fun T v26 X hq26 => ?_)
  subst hq26
  refine own_ifNo X at_228 ((if0 _ _).trans (feq (own_cNe (a := 1) (b := 0) rfl rfl (by decide))).1) ?_
  refine own_iconst X (1) at_231 rfl ?_
  refine own_goto X (pc := 232) (pc' := 236) at_232 (by decide) (by decide) ?_
  refine own_istore X at_236 (L' := #[.val (.long x0), .second, .val (.int x1), .val (.int x2), .val (.int x3), .val (.long v2), .second, .val (.int v3), .val (.int v4), .val (.ref b5), .val (.int v20), .val (.int v21), .val (.int (1 : Int32))]) rfl ?_
  refine own_iload X at_238 rfl ?_
  refine own_ifNo X at_240 ((if0 _ _).trans (feq (own_cNe (a := 1) (b := 0) rfl rfl (by decide))).1) ?_
  refine own_aload X at_243 rfl rfl ?_
  refine own_iconst X (3) at_245 rfl ?_
  refine own_iload X at_246 rfl ?_
  refine own_iload X at_248 rfl ?_
  refine own_lload X at_250 rfl ?_
  refine own_iload X at_252 rfl ?_
  refine own_callS X (W := 0) (argsL := [(.ref b5), (.int (3 : Int32)), (.int v3), (.int v20), (.long v2), (.int v4)]) (rest := []) (hw _ (List.mem_of_getElem? (i := 10) rfl)) (hw _ (List.mem_of_getElem? (i := 11) rfl)) (hw _ (List.mem_of_getElem? (i := 3) rfl)) (hw _ (List.mem_of_getElem? (i := 12) rfl)) (by decide) (rm3 l Z a0 hw [] b5 (3 : Int32) v3 v20 v2 v4 g21 14 h n0 (own_size X) A_b5 (by decide) (by decide) (by omega) (by omega) (by omega) (by omega) (fun hq => (hS2 _ hq).trans (by rw [hf19, own_upd_miss (by decide), hf18, own_upd_miss (by decide), hf17, own_upd_miss (by decide), hf16, own_upd_miss (by decide), hf15, own_upd_miss (by decide), hf14, own_upd_miss (by decide), hf13, own_upd_miss (by decide), hf12, own_upd_miss (by decide), hf11, own_upd_miss (by decide), hf10, own_upd_miss (by decide), hf9, own_upd_hit])) (fun d => hS3' _ d)) (by decide) (by decide) (by decide) (by decide) rfl (lenOf pd_4 rfl) rfl (Nat.le_of_eq rfl) at_254 (own_contI fun T v27 X hq27 => ?_)
  subst hq27
  refine own_ifNo X at_257 ((if0 _ _).trans (feq (own_cNe (a := 1) (b := 0) rfl rfl (by decide))).1) ?_
  refine own_iconst X (1) at_260 rfl ?_
  refine own_goto X (pc := 261) (pc' := 265) at_261 (by decide) (by decide) ?_
  refine own_istore X at_265 (L' := #[.val (.long x0), .second, .val (.int x1), .val (.int x2), .val (.int x3), .val (.long v2), .second, .val (.int v3), .val (.int v4), .val (.ref b5), .val (.int v20), .val (.int v21), .val (.int (1 : Int32))]) rfl ?_
  refine own_iload X at_267 rfl ?_
  refine own_ifNo X at_269 ((if0 _ _).trans (feq (own_cNe (a := 1) (b := 0) rfl rfl (by decide))).1) ?_
  refine own_aload X at_272 rfl rfl ?_
  refine own_iconst X (4) at_274 rfl ?_
  refine own_iload X at_275 rfl ?_
  refine own_iload X at_277 rfl ?_
  refine own_lload X at_279 rfl ?_
  refine own_iload X at_281 rfl ?_
  refine own_callS X (W := 0) (argsL := [(.ref b5), (.int (4 : Int32)), (.int v3), (.int v20), (.long v2), (.int v4)]) (rest := []) (hw _ (List.mem_of_getElem? (i := 10) rfl)) (hw _ (List.mem_of_getElem? (i := 11) rfl)) (hw _ (List.mem_of_getElem? (i := 3) rfl)) (hw _ (List.mem_of_getElem? (i := 12) rfl)) (by decide) (rm3 l Z a0 hw [] b5 (4 : Int32) v3 v20 v2 v4 g21 14 h n0 (own_size X) A_b5 (by decide) (by decide) (by omega) (by omega) (by omega) (by omega) (fun hq => (hS2 _ hq).trans (by rw [hf19, own_upd_miss (by decide), hf18, own_upd_miss (by decide), hf17, own_upd_miss (by decide), hf16, own_upd_miss (by decide), hf15, own_upd_miss (by decide), hf14, own_upd_miss (by decide), hf13, own_upd_miss (by decide), hf12, own_upd_miss (by decide), hf11, own_upd_miss (by decide), hf10, own_upd_hit])) (fun d => hS3' _ d)) (by decide) (by decide) (by decide) (by decide) rfl (lenOf pd_4 rfl) rfl (Nat.le_of_eq rfl) at_283 (own_contI fun T v28 X hq28 => ?_)
  subst hq28
  refine own_ifNo X at_286 ((if0 _ _).trans (feq (own_cNe (a := 1) (b := 0) rfl rfl (by decide))).1) ?_
  refine own_iconst X (1) at_289 rfl ?_
  refine own_goto X (pc := 290) (pc' := 294) at_290 (by decide) (by decide) ?_
  refine own_istore X at_294 (L' := #[.val (.long x0), .second, .val (.int x1), .val (.int x2), .val (.int x3), .val (.long v2), .second, .val (.int v3), .val (.int v4), .val (.ref b5), .val (.int v20), .val (.int v21), .val (.int (1 : Int32))]) rfl ?_
  refine own_iload X at_296 rfl ?_
  refine own_ifNo X at_298 ((if0 _ _).trans (feq (own_cNe (a := 1) (b := 0) rfl rfl (by decide))).1) ?_
  refine own_aload X at_301 rfl rfl ?_
  refine own_iconst X (5) at_303 rfl ?_
  refine own_iload X at_304 rfl ?_
  refine own_iload X at_306 rfl ?_
  refine own_lload X at_308 rfl ?_
  refine own_iload X at_310 rfl ?_
  refine own_callS X (W := 0) (argsL := [(.ref b5), (.int (5 : Int32)), (.int v3), (.int v20), (.long v2), (.int v4)]) (rest := []) (hw _ (List.mem_of_getElem? (i := 10) rfl)) (hw _ (List.mem_of_getElem? (i := 11) rfl)) (hw _ (List.mem_of_getElem? (i := 3) rfl)) (hw _ (List.mem_of_getElem? (i := 12) rfl)) (by decide) (rm3 l Z a0 hw [] b5 (5 : Int32) v3 v20 v2 v4 g21 14 h n0 (own_size X) A_b5 (by decide) (by decide) (by omega) (by omega) (by omega) (by omega) (fun hq => (hS2 _ hq).trans (by rw [hf19, own_upd_miss (by decide), hf18, own_upd_miss (by decide), hf17, own_upd_miss (by decide), hf16, own_upd_miss (by decide), hf15, own_upd_miss (by decide), hf14, own_upd_miss (by decide), hf13, own_upd_miss (by decide), hf12, own_upd_miss (by decide), hf11, own_upd_hit])) (fun d => hS3' _ d)) (by decide) (by decide) (by decide) (by decide) rfl (lenOf pd_4 rfl) rfl (Nat.le_of_eq rfl) at_312 (own_contI fun T v29 X hq29 => ?_)
  subst hq29
  refine own_ifNo X at_315 ((if0 _ _).trans (feq (own_cNe (a := 1) (b := 0) rfl rfl (by decide))).1) ?_
  refine own_iconst X (1) at_318 rfl ?_
  refine own_goto X (pc := 319) (pc' := 323) at_319 (by decide) (by decide) ?_
  refine own_istore X at_323 (L' := #[.val (.long x0), .second, .val (.int x1), .val (.int x2), .val (.int x3), .val (.long v2), .second, .val (.int v3), .val (.int v4), .val (.ref b5), .val (.int v20), .val (.int v21), .val (.int (1 : Int32))]) rfl ?_
  refine own_iload X at_325 rfl ?_
  refine own_ifNo X at_327 ((if0 _ _).trans (feq (own_cNe (a := 1) (b := 0) rfl rfl (by decide))).1) ?_
  refine own_aload X at_330 rfl rfl ?_
  refine own_bipush X (6) at_332 rfl ?_
  refine own_iload X at_334 rfl ?_
  refine own_iload X at_336 rfl ?_
  refine own_lload X at_338 rfl ?_
  refine own_iload X at_340 rfl ?_
  refine own_callS X (W := 0) (argsL := [(.ref b5), (.int (6 : Int32)), (.int v3), (.int v20), (.long v2), (.int v4)]) (rest := []) (hw _ (List.mem_of_getElem? (i := 10) rfl)) (hw _ (List.mem_of_getElem? (i := 11) rfl)) (hw _ (List.mem_of_getElem? (i := 3) rfl)) (hw _ (List.mem_of_getElem? (i := 12) rfl)) (by decide) (rm3 l Z a0 hw [] b5 (6 : Int32) v3 v20 v2 v4 g21 14 h n0 (own_size X) A_b5 (by decide) (by decide) (by omega) (by omega) (by omega) (by omega) (fun hq => (hS2 _ hq).trans (by rw [hf19, own_upd_miss (by decide), hf18, own_upd_miss (by decide), hf17, own_upd_miss (by decide), hf16, own_upd_miss (by decide), hf15, own_upd_miss (by decide), hf14, own_upd_miss (by decide), hf13, own_upd_miss (by decide), hf12, own_upd_hit])) (fun d => hS3' _ d)) (by decide) (by decide) (by decide) (by decide) rfl (lenOf pd_4 rfl) rfl (Nat.le_of_eq rfl) at_342 (own_contI fun T v30 X hq30 => ?_)
  subst hq30
  refine own_ifNo X at_345 ((if0 _ _).trans (feq (own_cNe (a := 1) (b := 0) rfl rfl (by decide))).1) ?_
  refine own_iconst X (1) at_348 rfl ?_
  refine own_goto X (pc := 349) (pc' := 353) at_349 (by decide) (by decide) ?_
  refine own_istore X at_353 (L' := #[.val (.long x0), .second, .val (.int x1), .val (.int x2), .val (.int x3), .val (.long v2), .second, .val (.int v3), .val (.int v4), .val (.ref b5), .val (.int v20), .val (.int v21), .val (.int (1 : Int32))]) rfl ?_
  refine own_iload X at_355 rfl ?_
  refine own_ifNo X at_357 ((if0 _ _).trans (feq (own_cNe (a := 1) (b := 0) rfl rfl (by decide))).1) ?_
  refine own_aload X at_360 rfl rfl ?_
  refine own_bipush X (7) at_362 rfl ?_
  refine own_iload X at_364 rfl ?_
  refine own_iload X at_366 rfl ?_
  refine own_lload X at_368 rfl ?_
  refine own_iload X at_370 rfl ?_
  refine own_callS X (W := 0) (argsL := [(.ref b5), (.int (7 : Int32)), (.int v3), (.int v20), (.long v2), (.int v4)]) (rest := []) (hw _ (List.mem_of_getElem? (i := 10) rfl)) (hw _ (List.mem_of_getElem? (i := 11) rfl)) (hw _ (List.mem_of_getElem? (i := 3) rfl)) (hw _ (List.mem_of_getElem? (i := 12) rfl)) (by decide) (rm3 l Z a0 hw [] b5 (7 : Int32) v3 v20 v2 v4 g21 14 h n0 (own_size X) A_b5 (by decide) (by decide) (by omega) (by omega) (by omega) (by omega) (fun hq => (hS2 _ hq).trans (by rw [hf19, own_upd_miss (by decide), hf18, own_upd_miss (by decide), hf17, own_upd_miss (by decide), hf16, own_upd_miss (by decide), hf15, own_upd_miss (by decide), hf14, own_upd_miss (by decide), hf13, own_upd_hit])) (fun d => hS3' _ d)) (by decide) (by decide) (by decide) (by decide) rfl (lenOf pd_4 rfl) rfl (Nat.le_of_eq rfl) at_372 (own_contI fun T v31 X hq31 => ?_)
  subst hq31
  refine own_ifNo X at_375 ((if0 _ _).trans (feq (own_cNe (a := 1) (b := 0) rfl rfl (by decide))).1) ?_
  refine own_iconst X (1) at_378 rfl ?_
  refine own_goto X (pc := 379) (pc' := 383) at_379 (by decide) (by decide) ?_
  refine own_istore X at_383 (L' := #[.val (.long x0), .second, .val (.int x1), .val (.int x2), .val (.int x3), .val (.long v2), .second, .val (.int v3), .val (.int v4), .val (.ref b5), .val (.int v20), .val (.int v21), .val (.int (1 : Int32))]) rfl ?_
  refine own_iload X at_385 rfl ?_
  refine own_ifNo X at_387 ((if0 _ _).trans (feq (own_cNe (a := 1) (b := 0) rfl rfl (by decide))).1) ?_
  refine own_aload X at_390 rfl rfl ?_
  refine own_bipush X (8) at_392 rfl ?_
  refine own_iload X at_394 rfl ?_
  refine own_iload X at_396 rfl ?_
  refine own_lload X at_398 rfl ?_
  refine own_iload X at_400 rfl ?_
  refine own_callS X (W := 0) (argsL := [(.ref b5), (.int (8 : Int32)), (.int v3), (.int v20), (.long v2), (.int v4)]) (rest := []) (hw _ (List.mem_of_getElem? (i := 10) rfl)) (hw _ (List.mem_of_getElem? (i := 11) rfl)) (hw _ (List.mem_of_getElem? (i := 3) rfl)) (hw _ (List.mem_of_getElem? (i := 12) rfl)) (by decide) (rm3 l Z a0 hw [] b5 (8 : Int32) v3 v20 v2 v4 g21 14 h n0 (own_size X) A_b5 (by decide) (by decide) (by omega) (by omega) (by omega) (by omega) (fun hq => (hS2 _ hq).trans (by rw [hf19, own_upd_miss (by decide), hf18, own_upd_miss (by decide), hf17, own_upd_miss (by decide), hf16, own_upd_miss (by decide), hf15, own_upd_miss (by decide), hf14, own_upd_hit])) (fun d => hS3' _ d)) (by decide) (by decide) (by decide) (by decide) rfl (lenOf pd_4 rfl) rfl (Nat.le_of_eq rfl) at_402 (own_contI fun T v32 X hq32 => ?_)
  subst hq32
  refine own_ifNo X at_405 ((if0 _ _).trans (feq (own_cNe (a := 1) (b := 0) rfl rfl (by decide))).1) ?_
  refine own_iconst X (1) at_408 rfl ?_
  refine own_goto X (pc := 409) (pc' := 413) at_409 (by decide) (by decide) ?_
  refine own_istore X at_413 (L' := #[.val (.long x0), .second, .val (.int x1), .val (.int x2), .val (.int x3), .val (.long v2), .second, .val (.int v3), .val (.int v4), .val (.ref b5), .val (.int v20), .val (.int v21), .val (.int (1 : Int32))]) rfl ?_
  refine own_iload X at_415 rfl ?_
  refine own_ifNo X at_417 ((if0 _ _).trans (feq (own_cNe (a := 1) (b := 0) rfl rfl (by decide))).1) ?_
  refine own_aload X at_420 rfl rfl ?_
  refine own_bipush X (9) at_422 rfl ?_
  refine own_iload X at_424 rfl ?_
  refine own_iload X at_426 rfl ?_
  refine own_lload X at_428 rfl ?_
  refine own_iload X at_430 rfl ?_
  refine own_callS X (W := 0) (argsL := [(.ref b5), (.int (9 : Int32)), (.int v3), (.int v20), (.long v2), (.int v4)]) (rest := []) (hw _ (List.mem_of_getElem? (i := 10) rfl)) (hw _ (List.mem_of_getElem? (i := 11) rfl)) (hw _ (List.mem_of_getElem? (i := 3) rfl)) (hw _ (List.mem_of_getElem? (i := 12) rfl)) (by decide) (rm3 l Z a0 hw [] b5 (9 : Int32) v3 v20 v2 v4 g21 14 h n0 (own_size X) A_b5 (by decide) (by decide) (by omega) (by omega) (by omega) (by omega) (fun hq => (hS2 _ hq).trans (by rw [hf19, own_upd_miss (by decide), hf18, own_upd_miss (by decide), hf17, own_upd_miss (by decide), hf16, own_upd_miss (by decide), hf15, own_upd_hit])) (fun d => hS3' _ d)) (by decide) (by decide) (by decide) (by decide) rfl (lenOf pd_4 rfl) rfl (Nat.le_of_eq rfl) at_432 (own_contI fun T v33 X hq33 => ?_)
  subst hq33
  refine own_ifNo X at_435 ((if0 _ _).trans (feq (own_cNe (a := 1) (b := 0) rfl rfl (by decide))).1) ?_
  refine own_iconst X (1) at_438 rfl ?_
  refine own_goto X (pc := 439) (pc' := 443) at_439 (by decide) (by decide) ?_
  refine own_istore X at_443 (L' := #[.val (.long x0), .second, .val (.int x1), .val (.int x2), .val (.int x3), .val (.long v2), .second, .val (.int v3), .val (.int v4), .val (.ref b5), .val (.int v20), .val (.int v21), .val (.int (1 : Int32))]) rfl ?_
  refine own_iload X at_445 rfl ?_
  refine own_ifNo X at_447 ((if0 _ _).trans (feq (own_cNe (a := 1) (b := 0) rfl rfl (by decide))).1) ?_
  refine own_aload X at_450 rfl rfl ?_
  refine own_bipush X (10) at_452 rfl ?_
  refine own_iload X at_454 rfl ?_
  refine own_iload X at_456 rfl ?_
  refine own_lload X at_458 rfl ?_
  refine own_iload X at_460 rfl ?_
  refine own_callS X (W := 0) (argsL := [(.ref b5), (.int (10 : Int32)), (.int v3), (.int v20), (.long v2), (.int v4)]) (rest := []) (hw _ (List.mem_of_getElem? (i := 10) rfl)) (hw _ (List.mem_of_getElem? (i := 11) rfl)) (hw _ (List.mem_of_getElem? (i := 3) rfl)) (hw _ (List.mem_of_getElem? (i := 12) rfl)) (by decide) (rm3 l Z a0 hw [] b5 (10 : Int32) v3 v20 v2 v4 g21 14 h n0 (own_size X) A_b5 (by decide) (by decide) (by omega) (by omega) (by omega) (by omega) (fun hq => (hS2 _ hq).trans (by rw [hf19, own_upd_miss (by decide), hf18, own_upd_miss (by decide), hf17, own_upd_miss (by decide), hf16, own_upd_hit])) (fun d => hS3' _ d)) (by decide) (by decide) (by decide) (by decide) rfl (lenOf pd_4 rfl) rfl (Nat.le_of_eq rfl) at_462 (own_contI fun T v34 X hq34 => ?_)
  subst hq34
  refine own_ifNo X at_465 ((if0 _ _).trans (feq (own_cNe (a := 1) (b := 0) rfl rfl (by decide))).1) ?_
  refine own_iconst X (1) at_468 rfl ?_
  refine own_goto X (pc := 469) (pc' := 473) at_469 (by decide) (by decide) ?_
  refine own_istore X at_473 (L' := #[.val (.long x0), .second, .val (.int x1), .val (.int x2), .val (.int x3), .val (.long v2), .second, .val (.int v3), .val (.int v4), .val (.ref b5), .val (.int v20), .val (.int v21), .val (.int (1 : Int32))]) rfl ?_
  refine own_iload X at_475 rfl ?_
  refine own_ifNo X at_477 ((if0 _ _).trans (feq (own_cNe (a := 1) (b := 0) rfl rfl (by decide))).1) ?_
  refine own_aload X at_480 rfl rfl ?_
  refine own_bipush X (11) at_482 rfl ?_
  refine own_iload X at_484 rfl ?_
  refine own_iload X at_486 rfl ?_
  refine own_lload X at_488 rfl ?_
  refine own_iload X at_490 rfl ?_
  refine own_callS X (W := 0) (argsL := [(.ref b5), (.int (11 : Int32)), (.int v3), (.int v20), (.long v2), (.int v4)]) (rest := []) (hw _ (List.mem_of_getElem? (i := 10) rfl)) (hw _ (List.mem_of_getElem? (i := 11) rfl)) (hw _ (List.mem_of_getElem? (i := 3) rfl)) (hw _ (List.mem_of_getElem? (i := 12) rfl)) (by decide) (rm3 l Z a0 hw [] b5 (11 : Int32) v3 v20 v2 v4 g21 14 h n0 (own_size X) A_b5 (by decide) (by decide) (by omega) (by omega) (by omega) (by omega) (fun hq => (hS2 _ hq).trans (by rw [hf19, own_upd_miss (by decide), hf18, own_upd_miss (by decide), hf17, own_upd_hit])) (fun d => hS3' _ d)) (by decide) (by decide) (by decide) (by decide) rfl (lenOf pd_4 rfl) rfl (Nat.le_of_eq rfl) at_492 (own_contI fun T v35 X hq35 => ?_)
  subst hq35
  refine own_ifNo X at_495 ((if0 _ _).trans (feq (own_cNe (a := 1) (b := 0) rfl rfl (by decide))).1) ?_
  refine own_iconst X (1) at_498 rfl ?_
  refine own_goto X (pc := 499) (pc' := 503) at_499 (by decide) (by decide) ?_
  refine own_istore X at_503 (L' := #[.val (.long x0), .second, .val (.int x1), .val (.int x2), .val (.int x3), .val (.long v2), .second, .val (.int v3), .val (.int v4), .val (.ref b5), .val (.int v20), .val (.int v21), .val (.int (1 : Int32))]) rfl ?_
  refine own_iload X at_505 rfl ?_
  refine own_ifNo X at_507 ((if0 _ _).trans (feq (own_cNe (a := 1) (b := 0) rfl rfl (by decide))).1) ?_
  refine own_aload X at_510 rfl rfl ?_
  refine own_bipush X (12) at_512 rfl ?_
  refine own_iload X at_514 rfl ?_
  refine own_iload X at_516 rfl ?_
  refine own_lload X at_518 rfl ?_
  refine own_iload X at_520 rfl ?_
  refine own_callS X (W := 0) (argsL := [(.ref b5), (.int (12 : Int32)), (.int v3), (.int v20), (.long v2), (.int v4)]) (rest := []) (hw _ (List.mem_of_getElem? (i := 10) rfl)) (hw _ (List.mem_of_getElem? (i := 11) rfl)) (hw _ (List.mem_of_getElem? (i := 3) rfl)) (hw _ (List.mem_of_getElem? (i := 12) rfl)) (by decide) (rm3 l Z a0 hw [] b5 (12 : Int32) v3 v20 v2 v4 g21 14 h n0 (own_size X) A_b5 (by decide) (by decide) (by omega) (by omega) (by omega) (by omega) (fun hq => (hS2 _ hq).trans (by rw [hf19, own_upd_miss (by decide), hf18, own_upd_hit])) (fun d => hS3' _ d)) (by decide) (by decide) (by decide) (by decide) rfl (lenOf pd_4 rfl) rfl (Nat.le_of_eq rfl) at_522 (own_contI fun T v36 X hq36 => ?_)
  subst hq36
  refine own_ifNo X at_525 ((if0 _ _).trans (feq (own_cNe (a := 1) (b := 0) rfl rfl (by decide))).1) ?_
  refine own_iconst X (1) at_528 rfl ?_
  refine own_goto X (pc := 529) (pc' := 533) at_529 (by decide) (by decide) ?_
  refine own_istore X at_533 (L' := #[.val (.long x0), .second, .val (.int x1), .val (.int x2), .val (.int x3), .val (.long v2), .second, .val (.int v3), .val (.int v4), .val (.ref b5), .val (.int v20), .val (.int v21), .val (.int (1 : Int32))]) rfl ?_
  refine own_iload X at_535 rfl ?_
  refine own_ifNo X at_537 ((if0 _ _).trans (feq (own_cNe (a := 1) (b := 0) rfl rfl (by decide))).1) ?_
  refine own_aload X at_540 rfl rfl ?_
  refine own_bipush X (13) at_542 rfl ?_
  refine own_iload X at_544 rfl ?_
  refine own_iload X at_546 rfl ?_
  refine own_lload X at_548 rfl ?_
  refine own_iload X at_550 rfl ?_
  refine own_callS X (W := 0) (argsL := [(.ref b5), (.int (13 : Int32)), (.int v3), (.int v20), (.long v2), (.int v4)]) (rest := []) (hw _ (List.mem_of_getElem? (i := 10) rfl)) (hw _ (List.mem_of_getElem? (i := 11) rfl)) (hw _ (List.mem_of_getElem? (i := 3) rfl)) (hw _ (List.mem_of_getElem? (i := 12) rfl)) (by decide) (rm3 l Z a0 hw [] b5 (13 : Int32) v3 v20 v2 v4 g21 14 h n0 (own_size X) A_b5 (by decide) (by decide) (by omega) (by omega) (by omega) (by omega) (fun hq => (hS2 _ hq).trans (by rw [hf19, own_upd_hit])) (fun d => hS3' _ d)) (by decide) (by decide) (by decide) (by decide) rfl (lenOf pd_4 rfl) rfl (Nat.le_of_eq rfl) at_552 (own_contI fun T v37 X hq37 => ?_)
  subst hq37
  refine own_ifNo X at_555 ((if0 _ _).trans (feq (own_cNe (a := 1) (b := 0) rfl rfl (by decide))).1) ?_
  refine own_iconst X (1) at_558 rfl ?_
  refine own_goto X (pc := 559) (pc' := 563) at_559 (by decide) (by decide) ?_
  refine own_istore X at_563 (L' := #[.val (.long x0), .second, .val (.int x1), .val (.int x2), .val (.int x3), .val (.long v2), .second, .val (.int v3), .val (.int v4), .val (.ref b5), .val (.int v20), .val (.int v21), .val (.int (1 : Int32))]) rfl ?_
  refine own_iload X at_565 rfl ?_
  refine own_retN (t := .boolean) X (z' := (1 : Int32)) (Or.inl rfl) rfl rfl at_567 (by decide) (by decide) ⟨_, rfl, ?_⟩
  rfl
set_option maxRecDepth 65536 in
set_option maxHeartbeats 40000000 in
theorem comes_1 {Post : Tables → Env → Array Value → State → Outcome → State → Prop} (hpost : ∀ tb e args s v u, (limb_1_1.after args s (.returned v) u = true ∧ limb_1_2.after args s (.returned v) u = true ∧ True) → FrameEnd s (.returned v) u (Jvm.fieldLocs frame_1_writes args s ++ Jvm.arrayLocs frame_1_arrays args s ++ Jvm.staticLocs frame_1_statics s) 16 128 → Post tb e args s (.returned v) u) :
    ArmFor flags0 classFile x code maxLocals ret World_1 tables_1 room_1 Calls_1 rest_1 Pre_1 Post := by
  intro l hfl _ _ p e ha hc hk s m args below hf hA hF happ hP
  obtain ⟨hcalls, hrest, hpre⟩ := hP
  obtain ⟨-, -, -, hnamed, -, -, -, hat⟩ := (Spec.applies_iff hf).mp happ
  obtain ⟨hg, hn⟩ := and_e (Cond.before_iff.mp (show (Jvm.Cond.and given_1 narrow_1).before args s = true from hpre))
  obtain ⟨gcount, gt0⟩ := and_e hg
  obtain ⟨ga0, gt1⟩ := and_e gt0
  obtain ⟨ga1, gt2⟩ := and_e gt1
  obtain ⟨ga2, gt3⟩ := and_e gt2
  obtain ⟨w0, w1, w2, w3, rfl⟩ : ∃ w0 w1 w2 w3 : Value, args = #[w0, w1, w2, w3] := by
    have hs : args.size = 4 := by simpa [Cond.value, given_1] using gcount
    obtain ⟨L⟩ := args
    match L, hs with
    | [w0, w1, w2, w3], _ => exact ⟨w0, w1, w2, w3, rfl⟩
  have hw := fun d (hd : d ∈ tables_1) => atoms_spec (ws := Jvm.Cond.code x code maxLocals ret :: tables_1) hat d (List.mem_cons_of_mem _ hd)
  obtain ⟨i0, ei0⟩ := isL_v ga0
  obtain rfl : w0 = (.long i0) := Option.some.inj ei0
  obtain ⟨i1, ei1⟩ := is_v ga1
  obtain rfl : w1 = (.int i1) := Option.some.inj ei1
  obtain ⟨i2, ei2⟩ := is_v ga2
  obtain rfl : w2 = (.int i2) := Option.some.inj ei2
  obtain ⟨i3, ei3⟩ := is_v gt3
  obtain rfl : w3 = (.int i3) := Option.some.inj ei3
  obtain ⟨n, o, h1, h2, h3, _, L, rfl, ⟨N, z, rfl, hz⟩, hq⟩ := rm0 l s _ hw tables_1 i0 i1 i2 i3 s.heap s.heap.size (Nat.le_refl _) p e ha hc hk s m _ below hf ((Spec.applies_iff_loose hf).mp happ).1 ⟨rfl, State.Warmed39.refl s, rfl⟩ trivial
  subst hz
  refine ⟨n, _, h1, h2, h3, hpost _ _ _ _ _ _ ⟨Cond.after_iff.mpr rfl, Cond.after_iff.mpr (eq_i res_at (Term.int_eval (1)) rfl), trivial⟩ ⟨hq.1, hq.2.1, (hq.2.2.sift fun y hy => Or.inr (N y hy)).mono (by decide) (by decide)⟩⟩
theorem main_1_1 : Claimed_1_1 := comes_1 fun _ _ _ _ _ _ h hF => ⟨h.1, hF⟩
theorem main_1_2 : Claimed_1_2 := comes_1 fun _ _ _ _ _ _ h hF => ⟨h.2.1, hF⟩
end Jvm.Pilot.@@N@@
namespace Jvm.Pilot.@@N@@
open Jvm Jvm.ClassFile Sem Op Lib Jvm.Free Jvm.Stand Jvm.Pilot.@@N@@.Jvm.D
/-! MADE BY PROGRAM (witnessworld.py) out of the Statement's table words and the real class files: 9 classes; the members and pool entries that the words name. The judged class is class 1, her method 1. -/
namespace start1
open Jvm.ClassFile
def u (s : String) : CpInfo := .utf8 (stringToUtf16 s)
/-- a pool by its gaps: so many unusable entries, then the entry; so many at the end -/
def gap : Nat → List CpInfo → List CpInfo
  | 0, r => r
  | n + 1, r => .unusable :: gap n r
def poolList (es : List (Nat × CpInfo)) (last : Nat) : List CpInfo := es.foldr (fun e r => gap e.1 (e.2 :: r)) (gap last [])
def pool (es : List (Nat × CpInfo)) (last : Nat) : Array CpInfo := ⟨poolList es last⟩
def fileOf (pool : Array CpInfo) (this : Nat) (attrs : Array Attribute := #[]) (ms : Array MethodInfo := #[]) (fl : Nat := 33) (sup : Nat := 0) (ifs : Array Nat := #[]) (fds : Array FieldInfo := #[]) : ClassFile where
  minorVersion := 0
  majorVersion := 65
  constantPool := pool
  accessFlags := fl
  thisClass := this
  superClass := sup
  interfaces := ifs
  fields := fds
  methods := ms
  attributes := attrs
def plain (name : String) (sup : Option ClassId) : Class where
  name := name
  kind := .ordinary
  loader := none
  accessFlags := 33
  super := sup
  interfaces := #[]
  cf := none
  fields := #[]
  methods := #[]
  instanceTypes := #[]
  staticTypes := #[]
  resolved := #[]
  callSites := []
  init := .initialized
  statics := none
  mirror := none

def pool0 : Array CpInfo := pool [(5, u "<init>"), (0, u "()V"), (1, .class_ 10), (1, u "java/lang/Object")] 113

def k0m0 : Method := { name := "<init>", desc := "()V", sig := { parameters := [], returnType := none }, accessFlags := 1, code := none }
/-- java/lang/Object -/
def k0 : Class := { plain "java/lang/Object" none with
  accessFlags := 33
  interfaces := #[]
  cf := some (fileOf pool0 8 #[] #[{ accessFlags := 1, nameIndex := 5, descriptorIndex := 6, attributes := #[] }] 33 0 #[] #[])
  fields := #[]
  methods := #[k0m0]
  instanceTypes := #[]
  staticTypes := #[]
  resolved := Array.replicate 124 none
  statics := none }

def pool1 : Array CpInfo := pool [(2, .class_ 4), (1, u "java/lang/Object"), (0, u "<init>"), (0, u "()V"), (0, .methodref 8 9), (0, .class_ 10), (0, .nameAndType 11 12), (0, u "com/example/fihrist/fihrist/index/IndexFormatPutVarintPinLaw"), (0, u "varintLength"), (0, u "(J)I"), (0, .methodref 14 15), (0, .class_ 16), (0, .nameAndType 17 18), (0, u "com/example/fihrist/fihrist/index/IndexFormat"), (0, u "putVarint"), (0, u "(J[BI)I"), (0, .methodref 8 20), (0, .nameAndType 21 22), (0, u "check"), (0, u "([BIIIJB)Z"), (0, .long 127), (1, .methodref 8 26), (0, .nameAndType 27 28), (0, u "expected"), (0, u "(JII)B"), (2, u "law"), (0, u "(JIII)Z")] 5

def k1m0 : Method := { name := "<init>", desc := "()V", sig := { parameters := [], returnType := none }, accessFlags := 2, code := none }
def k1c1 : Code := { maxStack := 7, maxLocals := 13, code := code, exceptionTable := #[], attributes := #[] }
def k1m1 : Method := { name := "law", desc := "(JIII)Z", sig := { parameters := [.long, .int, .int, .int], returnType := some .boolean }, accessFlags := 9, code := some k1c1 }
def k1c2 : Code := { maxStack := 4, maxLocals := 3, code := method_3_code, exceptionTable := #[], attributes := #[] }
def k1m2 : Method := { name := "varintLength", desc := "(J)I", sig := { parameters := [.long], returnType := some .int }, accessFlags := 10, code := some k1c2 }
def k1c3 : Code := { maxStack := 4, maxLocals := 5, code := method_4_code, exceptionTable := #[], attributes := #[] }
def k1m3 : Method := { name := "expected", desc := "(JII)B", sig := { parameters := [.long, .int, .int], returnType := some .byte }, accessFlags := 10, code := some k1c3 }
def k1c4 : Code := { maxStack := 5, maxLocals := 7, code := method_5_code, exceptionTable := #[], attributes := #[] }
def k1m4 : Method := { name := "check", desc := "([BIIIJB)Z", sig := { parameters := [(.array .byte), .int, .int, .int, .long, .byte], returnType := some .boolean }, accessFlags := 10, code := some k1c4 }
/-- com/example/fihrist/fihrist/index/IndexFormatPutVarintPinLaw -/
def k1 : Class := { plain "com/example/fihrist/fihrist/index/IndexFormatPutVarintPinLaw" (some 0) with
  accessFlags := 49
  interfaces := #[]
  cf := some (fileOf pool1 8 #[] #[{ accessFlags := 2, nameIndex := 5, descriptorIndex := 6, attributes := #[] }, { accessFlags := 9, nameIndex := 31, descriptorIndex := 32, attributes := #[] }, { accessFlags := 10, nameIndex := 11, descriptorIndex := 12, attributes := #[] }, { accessFlags := 10, nameIndex := 27, descriptorIndex := 28, attributes := #[] }, { accessFlags := 10, nameIndex := 21, descriptorIndex := 22, attributes := #[] }] 49 2 #[] #[])
  fields := #[]
  methods := #[k1m0, k1m1, k1m2, k1m3, k1m4]
  instanceTypes := #[]
  staticTypes := #[]
  resolved := Array.replicate 38 none
  statics := none }

def pool2 : Array CpInfo := pool [(1, .class_ 2), (0, u "com/example/fihrist/fihrist/index/IndexFormat"), (1, .class_ 6), (1, u "java/lang/Object"), (0, u "<init>"), (0, u "()V"), (14, u "SEGMENT_FILE_NAME"), (0, u "Ljava/util/regex/Pattern;"), (24, .long 18446744073709551488), (1, .long 127), (1, .long 128), (17, u "MAGIC"), (0, u "[B"), (4, u "SEGMENT_MAGIC"), (4, u "HEADER_LENGTH"), (0, u "I"), (6, u "COMMIT_FILE_NAME"), (0, u "Ljava/lang/String;"), (3, u "TEMPORARY_COMMIT_FILE_NAME"), (2, u "LOCK_FILE_NAME"), (2, u "VERSION"), (1, u "VALUE_GAP"), (1, u "MAX_VARINT_LENGTH"), (9, u "putVarint"), (0, u "(J[BI)I"), (4, .class_ 122), (0, u "com/example/fihrist/fihrist/index/IndexFormat$DictionaryWord"), (0, .class_ 124), (0, u "com/example/fihrist/fihrist/index/IndexFormat$DictionaryWord$Encoded"), (0, .class_ 126), (0, u "com/example/fihrist/fihrist/index/IndexFormat$DictionaryWord$Folding")] 20

def k2m0 : Method := { name := "<init>", desc := "()V", sig := { parameters := [], returnType := none }, accessFlags := 2, code := none }
def k2c1 : Code := { maxStack := 6, maxLocals := 7, code := prog_32_method_5_code, exceptionTable := #[], attributes := #[] }
def k2m1 : Method := { name := "putVarint", desc := "(J[BI)I", sig := { parameters := [.long, (.array .byte), .int], returnType := some .int }, accessFlags := 8, code := some k2c1 }
/-- com/example/fihrist/fihrist/index/IndexFormat -/
def k2 : Class := { plain "com/example/fihrist/fihrist/index/IndexFormat" (some 0) with
  accessFlags := 48
  interfaces := #[]
  cf := some (fileOf pool2 1 #[.nestMembers #[121, 123, 125]] #[{ accessFlags := 2, nameIndex := 7, descriptorIndex := 8, attributes := #[] }, { accessFlags := 8, nameIndex := 115, descriptorIndex := 116, attributes := #[] }] 48 4 #[] #[{ accessFlags := 24, nameIndex := 90, descriptorIndex := 91, attributes := #[] }, { accessFlags := 24, nameIndex := 95, descriptorIndex := 91, attributes := #[] }, { accessFlags := 24, nameIndex := 98, descriptorIndex := 91, attributes := #[] }, { accessFlags := 24, nameIndex := 71, descriptorIndex := 72, attributes := #[] }, { accessFlags := 24, nameIndex := 77, descriptorIndex := 72, attributes := #[] }, { accessFlags := 24, nameIndex := 101, descriptorIndex := 83, attributes := #[] }, { accessFlags := 24, nameIndex := 82, descriptorIndex := 83, attributes := #[] }, { accessFlags := 24, nameIndex := 103, descriptorIndex := 83, attributes := #[] }, { accessFlags := 24, nameIndex := 105, descriptorIndex := 83, attributes := #[] }, { accessFlags := 26, nameIndex := 23, descriptorIndex := 24, attributes := #[] }])
  fields := #[{ name := "COMMIT_FILE_NAME", type := (.object "java/lang/String"), accessFlags := 24, slot := 0, constantValue := 0 }, { name := "TEMPORARY_COMMIT_FILE_NAME", type := (.object "java/lang/String"), accessFlags := 24, slot := 1, constantValue := 0 }, { name := "LOCK_FILE_NAME", type := (.object "java/lang/String"), accessFlags := 24, slot := 2, constantValue := 0 }, { name := "MAGIC", type := (.array .byte), accessFlags := 24, slot := 3, constantValue := 0 }, { name := "SEGMENT_MAGIC", type := (.array .byte), accessFlags := 24, slot := 4, constantValue := 0 }, { name := "VERSION", type := .int, accessFlags := 24, slot := 5, constantValue := 0 }, { name := "HEADER_LENGTH", type := .int, accessFlags := 24, slot := 6, constantValue := 0 }, { name := "VALUE_GAP", type := .int, accessFlags := 24, slot := 7, constantValue := 0 }, { name := "MAX_VARINT_LENGTH", type := .int, accessFlags := 24, slot := 8, constantValue := 0 }, { name := "SEGMENT_FILE_NAME", type := (.object "java/util/regex/Pattern"), accessFlags := 26, slot := 9, constantValue := 0 }]
  methods := #[k2m0, k2m1]
  instanceTypes := #[]
  staticTypes := #[(.object "java/lang/String"), (.object "java/lang/String"), (.object "java/lang/String"), (.array .byte), (.array .byte), .int, .int, .int, .int, (.object "java/util/regex/Pattern")]
  resolved := Array.replicate 147 none
  statics := none }

def pool3 : Array CpInfo := pool [(1, u "java/lang/Cloneable"), (0, .class_ 1), (0, u "java/lang/Object"), (0, .class_ 3)] 3

/-- java/lang/Cloneable -/
def k3 : Class := { plain "java/lang/Cloneable" (some 0) with
  accessFlags := 1537
  interfaces := #[]
  cf := some (fileOf pool3 2 #[] #[] 1537 4 #[] #[])
  fields := #[]
  methods := #[]
  instanceTypes := #[]
  staticTypes := #[]
  resolved := Array.replicate 8 none
  statics := none }

def pool4 : Array CpInfo := pool [(1, u "java/io/Serializable"), (0, .class_ 1), (0, u "java/lang/Object"), (0, .class_ 3)] 3

/-- java/io/Serializable -/
def k4 : Class := { plain "java/io/Serializable" (some 0) with
  accessFlags := 1537
  interfaces := #[]
  cf := some (fileOf pool4 2 #[] #[] 1537 4 #[] #[])
  fields := #[]
  methods := #[]
  instanceTypes := #[]
  staticTypes := #[]
  resolved := Array.replicate 8 none
  statics := none }

/-- the primitive byte -/
def k5 : Class := { plain "byte" none with kind := .primitive 'B', accessFlags := 0x411 }
/-- [B -/
def k6 : Class := { plain "[B" (some 0) with kind := .array 5 .byte, interfaces := #[3, 4], accessFlags := 1041 }

/-- the primitive int -/
def k7 : Class := { plain "int" none with kind := .primitive 'I', accessFlags := 0x411 }
/-- [I -/
def k8 : Class := { plain "[I" (some 0) with kind := .array 7 .int, interfaces := #[3, 4], accessFlags := 1041 }

def heap : Heap := #[]
def classes : Array Class := #[k0, k1, k2, k3, k4, k5, k6, k7, k8]
def interned : List (Array UInt16 × Addr) := []
def slotsUsed : Nat := 0
def theMethod : MethodId := ⟨1, 1⟩
def args0 : Array Value := #[.long 50, .int 7, .int 9, .int 1]
def aboutOver (below : List Frame) : State where
  vm := { classes := classes, interned := interned.toArray }
  heap := heap
  slotsUsed := slotsUsed
  threads := #[{ frames := .invoking theMethod args0 :: below }]
def below0 : List Frame := [.native { method := ⟨0, 0⟩, args := #[] }]
def about1 : State := aboutOver below0
def p0 : Program := .bare "" "" ""
def e0 : Env := launch0.env 0 0 0
theorem w_frames : about1.frames = Frame.invoking theMethod args0 :: below0 := rfl
set_option maxRecDepth 65536 in
theorem w_args : argsFit about1.vm theMethod args0 = true := by decide +kernel
set_option maxRecDepth 65536 in
theorem w_heap : heapFits about1 = true := by decide +kernel
set_option maxRecDepth 65536 in
theorem w_runnable : about1.curStatus? = some .runnable := by decide +kernel
set_option maxRecDepth 65536 in
theorem w_alone : about1.alone = true := by decide +kernel
set_option maxRecDepth 65536 in
theorem w_named : about1.methodNamed? x = some theMethod := by decide +kernel
set_option maxRecDepth 65536 in
theorem w_hears : about1.hears theMethod below0 = true := by decide +kernel
set_option maxRecDepth 65536 in
theorem w_ripe : about1.ripe theMethod args0 below0 = true := by decide +kernel
theorem w_running : about1.status = .running := rfl
set_option maxRecDepth 65536 in
theorem w_room : about1.hasRoom e0.platform room_1 = true :=
  launch0.hasRoom_least _ room_1 (by decide +kernel) (by decide +kernel) (by decide +kernel) (by decide +kernel) (by decide +kernel) (by decide +kernel)
theorem allAtoms_all (ts : List Jvm.Cond) (a : Array Jvm.Value) (st : Jvm.State) : (allAtoms ts).before a st = ts.all (fun c => c.before a st) := by
  induction ts with
  | nil => rfl
  | cons c t ih =>
    show (Jvm.Cond.and c (allAtoms t)).before a st = _
    rw [Jvm.Cond.before_and, ih, List.all_cons]
def words1 : List Jvm.Cond := Jvm.Cond.code x code maxLocals ret :: tables_1
/-- a 'code' word, met by the world's own term for the bytes: nothing is compared byte by byte -/
theorem code_word {y : MethodName} {bytes : ByteArray} {mx : Nat} {rt : Option FieldType} {a : Array Value} {s : State} {m : MethodId} {meth : Method} {c : Code} (h1 : s.methodNamed? y = some m) (h2 : s.vm.method? m = some meth) (h3 : meth.code = some c) (h4 : c.code = bytes)
    (h5 : (c.maxLocals == mx && c.exceptionTable.isEmpty && decide (c.maxStack ≤ mostOperands) && decide (meth.sig.returnType = rt) && !meth.locks && decide (parseMethodDescriptor y.desc = some meth.sig)) = true) : (Jvm.Cond.code y bytes mx rt).before a s = true := by
  simp only [Bool.and_eq_true, beq_iff_eq, Bool.not_eq_true', decide_eq_true_eq] at h5
  obtain ⟨⟨⟨⟨⟨g1, g2⟩, g3⟩, g4⟩, g5⟩, g6⟩ := h5
  simp [Cond.before, Cond.holds, Cond.value, h1, h2, h3, h4, g1, g2, g3, g4, g5, g6]
def isCode : Jvm.Cond → Bool
  | .code _ _ _ _ => true
  | _ => false
theorem all_split {L : List Jvm.Cond} {P : Jvm.Cond → Bool} (h1 : L.all (fun c => isCode c || P c) = true) (h2 : ∀ c ∈ L.filter isCode, P c = true) : L.all P = true := by
  refine List.all_eq_true.mpr fun c hc => ?_
  have h := List.all_eq_true.mp h1 c hc
  rcases Bool.eq_false_or_eq_true (isCode c) with hi | hi
  · exact h2 c (List.mem_filter.mpr ⟨hc, hi⟩)
  · simpa [hi] using h
set_option maxRecDepth 65536 in
theorem w_c0 : (Jvm.Cond.code x code maxLocals ret).before args0 about1 = true := code_word (m := ⟨1, 1⟩) (meth := k1m1) (c := k1c1) (by decide +kernel) rfl rfl rfl (by decide +kernel)
set_option maxRecDepth 65536 in
theorem w_c1 : (Jvm.Cond.code ({ cls := "com/example/fihrist/fihrist/index/IndexFormatPutVarintPinLaw", name := "varintLength", desc := "(J)I" } : Jvm.MethodName) method_3_code (3 : Nat) (Option.some Jvm.ClassFile.FieldType.int)).before args0 about1 = true := code_word (m := ⟨1, 2⟩) (meth := k1m2) (c := k1c2) (by decide +kernel) rfl rfl rfl (by decide +kernel)
set_option maxRecDepth 65536 in
theorem w_c2 : (Jvm.Cond.code ({ cls := "com/example/fihrist/fihrist/index/IndexFormat", name := "putVarint", desc := "(J[BI)I" } : Jvm.MethodName) prog_32_method_5_code (7 : Nat) (Option.some Jvm.ClassFile.FieldType.int)).before args0 about1 = true := code_word (m := ⟨2, 1⟩) (meth := k2m1) (c := k2c1) (by decide +kernel) rfl rfl rfl (by decide +kernel)
set_option maxRecDepth 65536 in
theorem w_c3 : (Jvm.Cond.code ({ cls := "com/example/fihrist/fihrist/index/IndexFormatPutVarintPinLaw", name := "check", desc := "([BIIIJB)Z" } : Jvm.MethodName) method_5_code (7 : Nat) (Option.some Jvm.ClassFile.FieldType.boolean)).before args0 about1 = true := code_word (m := ⟨1, 4⟩) (meth := k1m4) (c := k1c4) (by decide +kernel) rfl rfl rfl (by decide +kernel)
set_option maxRecDepth 65536 in
theorem w_c4 : (Jvm.Cond.code ({ cls := "com/example/fihrist/fihrist/index/IndexFormatPutVarintPinLaw", name := "expected", desc := "(JII)B" } : Jvm.MethodName) method_4_code (5 : Nat) (Option.some Jvm.ClassFile.FieldType.byte)).before args0 about1 = true := code_word (m := ⟨1, 3⟩) (meth := k1m3) (c := k1c3) (by decide +kernel) rfl rfl rfl (by decide +kernel)
def codes1 : List Jvm.Cond := [Jvm.Cond.code x code maxLocals ret, Jvm.Cond.code ({ cls := "com/example/fihrist/fihrist/index/IndexFormatPutVarintPinLaw", name := "varintLength", desc := "(J)I" } : Jvm.MethodName) method_3_code (3 : Nat) (Option.some Jvm.ClassFile.FieldType.int), Jvm.Cond.code ({ cls := "com/example/fihrist/fihrist/index/IndexFormat", name := "putVarint", desc := "(J[BI)I" } : Jvm.MethodName) prog_32_method_5_code (7 : Nat) (Option.some Jvm.ClassFile.FieldType.int), Jvm.Cond.code ({ cls := "com/example/fihrist/fihrist/index/IndexFormatPutVarintPinLaw", name := "check", desc := "([BIIIJB)Z" } : Jvm.MethodName) method_5_code (7 : Nat) (Option.some Jvm.ClassFile.FieldType.boolean), Jvm.Cond.code ({ cls := "com/example/fihrist/fihrist/index/IndexFormatPutVarintPinLaw", name := "expected", desc := "(JII)B" } : Jvm.MethodName) method_4_code (5 : Nat) (Option.some Jvm.ClassFile.FieldType.byte)]
set_option maxRecDepth 65536 in
theorem codes_eq : words1.filter isCode = codes1 := rfl
theorem w_codes : ∀ c ∈ words1.filter isCode, c.before args0 about1 = true := by
  rw [codes_eq]
  intro c hc
  simp only [codes1, List.mem_cons, List.not_mem_nil, or_false] at hc
  rcases hc with rfl | rfl | rfl | rfl | rfl
  · exact w_c0
  · exact w_c1
  · exact w_c2
  · exact w_c3
  · exact w_c4
set_option maxRecDepth 65536 in
theorem w_t1 : words1.all (fun c => isCode c || c.before args0 about1) = true := by decide +kernel
theorem w_tables : (allAtoms (Jvm.Cond.code x code maxLocals ret :: tables_1)).before args0 about1 = true := by
  rw [allAtoms_all]
  show words1.all (fun c => c.before args0 about1) = true
  refine all_split ?_ w_codes
  rw [w_t1]
set_option maxRecDepth 65536 in
theorem w_case : (Jvm.Cond.and given_1 narrow_1).before args0 about1 = true := by decide +kernel
theorem w_applies : (headSpec (Jvm.Cond.code x code maxLocals ret :: tables_1) room_1).applies x e0.platform about1 = true :=
  (Spec.applies_iff w_frames).mpr ⟨w_running, w_runnable, w_alone, w_named, w_hears, w_ripe, w_room, w_tables⟩
theorem atStart : AtStart classFile x code maxLocals ret World_1 tables_1 room_1 Calls_1 rest_1 Pre_1 launch0 p0 e0 about1 theMethod args0 below0 :=
  ⟨lists_1, trivial, launch0.admits_env _ _ _, launch0.least_env, fairChoices_fair.cas, fairChoices_fair.clock, w_frames, w_args, w_heap, w_applies, trivial, trivial, w_case⟩
end start1
theorem witness_1 : WitnessClaimed_1 := ⟨start1.p0, start1.e0, start1.about1, start1.theMethod, start1.args0, start1.below0, start1.atStart⟩
end Jvm.Pilot.@@N@@
