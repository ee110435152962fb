import JvmDerived
import JvmDerived.Pilot.@@N@@Statement
import JvmDerived.Pilot.@@N@@Code
set_option linter.unusedVariables false
set_option linter.unusedSimpArgs false
namespace Jvm.Pilot.@@N@@
open Jvm Jvm.ClassFile Sem Op Lib Jvm.Free Jvm.Stand Jvm.LawKit Jvm.RoadKit Bundle Jvm.Pilot.@@N@@.Jvm.D
/-- where the walk of one body stands, and what it knows throughout -/
def own_S (p : Program) (l : Launch) (e : Env) (R : Room) (s : State) (m : MethodId) (av : Array Value) (below : List Frame) (meth : Method) (c : Code) (Z : State) (y : MethodName) (co : ByteArray) (ml : Nat) (rt : Option FieldType) (n0 : Nat) (T : State) (ce sl : Nat) (h : Heap) : Prop :=
  (p.tables.exec = Jvm.exec ∧ c.code = co ∧ c.maxLocals = ml ∧ s.vm.findClass y.cls = some m.cls ∧ meth.name = y.name ∧ meth.sig.returnType = rt ∧ meth.locks = false ∧ Z.Warmed39 s.vm) ∧
  ∃ locs, Stand p l e R s m av below meth c T locs ce sl ∧ Fr n0 locs ∧ T.heap = h ∧ n0 ≤ s.heap.size
/-- from T at the frame g the run comes to a return of which Q holds -/
def own_Fin (p : Program) (e : Env) (below : List Frame) (s : State) (n0 : Nat) (Q : Option Value → Heap → Prop) (k n : Nat) (T : State) (g : JFrame) : Prop :=
  ∃ t o, Steps p.tables e below (T.setTop g) t ∧ t.status = .running ∧ Ended t below o ∧ ∃ v L, o = .returned v ∧ (Fr n0 L ∧ Q v t.heap) ∧ FrameEnd s o t L k n
/-- a body's contract -/
def own_Met (l : Launch) (Z : State) (y : MethodName) (co : ByteArray) (ml : Nat) (rt : Option FieldType) (ws : List Jvm.Cond) (rm : Room) (av : Array Value) (h0 : Heap) (n0 : Nat) (Q : Option Value → Heap → Prop) : Prop :=
  MetFree l y (head1 (Jvm.Cond.code y co ml rt :: ws) rm) (fun a U => a = av ∧ Z.Warmed39 U.vm ∧ U.heap = h0) (fun _ _ _ _ _ => True) (fun _ U o U' => ∃ v L, o = .returned v ∧ (Fr n0 L ∧ Q v U'.heap) ∧ FrameEnd U o U' L rm.cells rm.slots)
section Own
variable {p : Program} {l : Launch} {e : Env} {R : Room} {s : State} {m : MethodId} {av : Array Value} {below : List Frame} {meth : Method} {c : Code} {Z : State} {y : MethodName} {co : ByteArray} {ml : Nat} {rt : Option FieldType} {n0 : Nat} {T : State} {ce sl : Nat} {h : Heap} {Q : Option Value → Heap → Prop} {k n : Nat} {a0 : Array Value} {pc : Nat} {Ls : Array Slot} {st : List Value}
theorem own_met {ws : List Jvm.Cond} {rm : Room} {h0 : Heap} (hp : plainFor y = true) (hn : n0 ≤ h0.size)
    (H : ∀ (p : Program) (e : Env) (s : State) (m : MethodId) (below : List Frame) (meth : Method) (c : Code) (T : State), own_S p l e rm s m av below meth c Z y co ml rt n0 T 0 0 h0 → own_Fin p e below s n0 Q rm.cells rm.slots T (entryFrame m av ml)) : own_Met l Z y co ml rt ws rm av h0 n0 Q := by
  refine MetFree.of_bodySF hp hisR ?_
  intro p e s m args below meth c s₁ Bd hml0 hP hK
  obtain ⟨rfl, hZ, hh⟩ := hP
  have e0 : s₁.heap = h0 := by rw [← hh, Bd.state]; rfl
  exact H p e s m below meth c s₁ ⟨⟨Bd.exec, Bd.bytes, hml0, findClass_of_methodNamed Bd.named, (name_of_methodNamed Bd.named Bd.method).1, Bd.returns, BodyLoose.notSynchronized Bd, hZ⟩, [], Stand.of_body Bd, Fr.nil n0, e0, by rw [hh]; exact hn⟩
theorem own_go {T T' : State} {g g' : JFrame} (st : ∀ target, Steps p.tables e below (T'.setTop g') target → Steps p.tables e below (T.setTop g) target) (H : own_Fin p e below s n0 Q k n T' g') : own_Fin p e below s n0 Q k n T g := by
  obtain ⟨t, o, h1, r⟩ := H
  exact ⟨t, o, st t h1, r⟩
theorem own_goT {T T' : State} {g g' : JFrame} (st : Steps p.tables e below (T.setTop g) (T'.setTop g')) (H : own_Fin p e below s n0 Q k n T' g') : own_Fin p e below s n0 Q k n T g := by
  obtain ⟨t, o, h1, r⟩ := H
  exact ⟨t, o, st.trans h1, r⟩
theorem own_cast {g g' : JFrame} (q : g = g') (H : own_Fin p e below s n0 Q k n T g') : own_Fin p e below s n0 Q k n T g := q ▸ H
theorem own_size (X : own_S p l e R s m av below meth c Z y co ml rt n0 T ce sl h) : n0 ≤ h.size := by
  obtain ⟨-, locs, X, -, rfl, hn⟩ := X
  exact Nat.le_trans hn X.same.2.1
theorem own_wider (X : own_S p l e R s m av below meth c Z y co ml rt n0 T ce sl h) {ce' sl' : Nat} (h1 : ce ≤ ce') (h2 : sl ≤ sl') : own_S p l e R s m av below meth c Z y co ml rt n0 T ce' sl' h := by
  obtain ⟨C, locs, X, r⟩ := X
  exact ⟨C, locs, X.more h1 h2, r⟩
/-- numbers: from Int to the ints' own order -/
theorem own_cLt {x y : Int32} {a b : Int} (hx : x.toInt = a) (hy : y.toInt = b) (q : a < b) : x < y := by rw [Int32.lt_iff_toInt_lt, hx, hy]; exact q
theorem own_cGe {x y : Int32} {a b : Int} (hx : x.toInt = a) (hy : y.toInt = b) (q : ¬ a < b) : ¬ x < y := by rw [Int32.lt_iff_toInt_lt, hx, hy]; exact q
theorem own_cEq {x y : Int32} {a b : Int} (hx : x.toInt = a) (hy : y.toInt = b) (q : a = b) : x = y := Int32.toInt_inj.mp (by rw [hx, hy]; exact q)
theorem own_cNe {x y : Int32} {a b : Int} (hx : x.toInt = a) (hy : y.toInt = b) (q : ¬ a = b) : ¬ x = y := fun r => q (by rw [← hx, ← hy, r])
theorem own_cEqJ {x y : Int64} {a b : Int} (hx : x.toInt = a) (hy : y.toInt = b) (q : a = b) : x = y := Int64.toInt_inj.mp (by rw [hx, hy]; exact q)
theorem own_nzI {y : Int32} (q : y.toInt ≠ 0) : y ≠ 0 := fun r => q (by rw [r]; rfl)
theorem own_nzJ {y : Int64} (q : y.toInt ≠ 0) : y ≠ 0 := fun r => q (by rw [r]; rfl)
theorem own_lLt {x y : Int64} {a b : Int} (hx : x.toInt = a) (hy : y.toInt = b) (q : a < b) : lcmpW x y < 0 := (lw_lt x y).mpr (by rw [Int64.lt_iff_toInt_lt, hx, hy]; exact q)
theorem own_lGe {x y : Int64} {a b : Int} (hx : x.toInt = a) (hy : y.toInt = b) (q : ¬ a < b) : ¬ lcmpW x y < 0 := fun r => q (by have := (lw_lt x y).mp r; rw [Int64.lt_iff_toInt_lt, hx, hy] at this; exact this)
theorem own_lGt {x y : Int64} {a b : Int} (hx : x.toInt = a) (hy : y.toInt = b) (q : b < a) : 0 < lcmpW x y := (lw_gt x y).mpr (by rw [Int64.lt_iff_toInt_lt, hx, hy]; exact q)
theorem own_lLe {x y : Int64} {a b : Int} (hx : x.toInt = a) (hy : y.toInt = b) (q : ¬ b < a) : ¬ 0 < lcmpW x y := fun r => q (by have := (lw_gt x y).mp r; rw [Int64.lt_iff_toInt_lt, hx, hy] at this; exact this)
theorem own_lEq {x y : Int64} {a b : Int} (hx : x.toInt = a) (hy : y.toInt = b) (q : a = b) : lcmpW x y = 0 := (lw_eq x y).mpr (Int64.toInt_inj.mp (by rw [hx, hy]; exact q))
theorem own_lNe {x y : Int64} {a b : Int} (hx : x.toInt = a) (hy : y.toInt = b) (q : ¬ a = b) : ¬ lcmpW x y = 0 := fun r => q (by rw [← hx, ← hy, (lw_eq x y).mp r])
theorem own_emod_le {a b : Int} (h1 : 0 ≤ a) (h2 : 0 < b) : a % b ≤ a := by
  by_cases q : a < b
  · rw [Int.emod_eq_of_lt h1 q]; omega
  · have := Int.emod_lt_of_pos a h2; omega
theorem own_i2b2 (x : Int32) : x.toInt8.toInt32.toInt8.toInt32 = x.toInt8.toInt32 := by
  have h1 := c_i2b x
  have h2 := c_i2b x.toInt8.toInt32
  apply Int32.toInt_inj.mp; omega
theorem own_and1 (x : Int32) (h : x = 0 ∨ x = 1) : x &&& 1 = x := by rcases h with rfl | rfl <;> rfl
theorem own_aloadN (X : own_S p l e R s m av below meth c Z y co ml rt n0 T ce sl h) {i : Fin 4} {v : Value} (hd : decode co pc = .ok (.aload_n i, 1)) (hl : Ls[i.val]? = some (.val v)) (hv : v.isRef = true) (H : own_Fin p e below s n0 Q k n T (mkF m (pc + 1) Ls (v :: st))) : own_Fin p e below s n0 Q k n T (mkF m pc Ls (st)) := by
  obtain ⟨⟨hx, hby, -⟩, locs, X, -⟩ := X
  exact own_go (fun _ q => XS.aloadN X.here hx rfl (hb hby hd) hl hv q) H
theorem own_aload (X : own_S p l e R s m av below meth c Z y co ml rt n0 T ce sl h) {i : Nat} {v : Value} (hd : decode co pc = .ok (.aload i, 2)) (hl : Ls[i]? = some (.val v)) (hv : v.isRef = true) (H : own_Fin p e below s n0 Q k n T (mkF m (pc + 2) Ls (v :: st))) : own_Fin p e below s n0 Q k n T (mkF m pc Ls (st)) := by
  obtain ⟨⟨hx, hby, -⟩, locs, X, -⟩ := X
  exact own_go (fun _ q => XS.aload X.here hx rfl (hb hby hd) hl hv q) H
theorem own_iloadN (X : own_S p l e R s m av below meth c Z y co ml rt n0 T ce sl h) {i : Fin 4} {v : Int32} (hd : decode co pc = .ok (.iload_n i, 1)) (hl : Ls[i.val]? = some (.val (.int v))) (H : own_Fin p e below s n0 Q k n T (mkF m (pc + 1) Ls (.int v :: st))) : own_Fin p e below s n0 Q k n T (mkF m pc Ls (st)) := by
  obtain ⟨⟨hx, hby, -⟩, locs, X, -⟩ := X
  exact own_go (fun _ q => XS.iloadN X.here hx rfl (hb hby hd) hl q) H
theorem own_iload (X : own_S p l e R s m av below meth c Z y co ml rt n0 T ce sl h) {i : Nat} {v : Int32} (hd : decode co pc = .ok (.iload i, 2)) (hl : Ls[i]? = some (.val (.int v))) (H : own_Fin p e below s n0 Q k n T (mkF m (pc + 2) Ls (.int v :: st))) : own_Fin p e below s n0 Q k n T (mkF m pc Ls (st)) := by
  obtain ⟨⟨hx, hby, -⟩, locs, X, -⟩ := X
  exact own_go (fun _ q => XS.iload X.here hx rfl (hb hby hd) hl q) H
theorem own_lloadN (X : own_S p l e R s m av below meth c Z y co ml rt n0 T ce sl h) {i : Fin 4} {v : Int64} (hd : decode co pc = .ok (.lload_n i, 1)) (hl : Ls[i.val]? = some (.val (.long v))) (H : own_Fin p e below s n0 Q k n T (mkF m (pc + 1) Ls (.long v :: st))) : own_Fin p e below s n0 Q k n T (mkF m pc Ls (st)) := by
  obtain ⟨⟨hx, hby, -⟩, locs, X, -⟩ := X
  exact own_go (fun _ q => XS.lloadN X.here hx rfl (hb hby hd) hl q) H
theorem own_lload (X : own_S p l e R s m av below meth c Z y co ml rt n0 T ce sl h) {i : Nat} {v : Int64} (hd : decode co pc = .ok (.lload i, 2)) (hl : Ls[i]? = some (.val (.long v))) (H : own_Fin p e below s n0 Q k n T (mkF m (pc + 2) Ls (.long v :: st))) : own_Fin p e below s n0 Q k n T (mkF m pc Ls (st)) := by
  obtain ⟨⟨hx, hby, -⟩, locs, X, -⟩ := X
  exact own_go (fun _ q => XS.lload X.here hx rfl (hb hby hd) hl q) H
theorem own_istoreN (X : own_S p l e R s m av below meth c Z y co ml rt n0 T ce sl h) {i : Fin 4} {v : Int32} {L' : Array Slot} (hd : decode co pc = .ok (.istore_n i, 1)) (hl : storeLocals Ls i.val (.int v) = some L') (H : own_Fin p e below s n0 Q k n T (mkF m (pc + 1) L' (st))) : own_Fin p e below s n0 Q k n T (mkF m pc Ls (.int v :: st)) := by
  obtain ⟨⟨hx, hby, -⟩, locs, X, -⟩ := X
  exact own_go (fun _ q => XS.istoreN X.here hx rfl (hb hby hd) rfl hl q) H
theorem own_istore (X : own_S p l e R s m av below meth c Z y co ml rt n0 T ce sl h) {i : Nat} {v : Int32} {L' : Array Slot} (hd : decode co pc = .ok (.istore i, 2)) (hl : storeLocals Ls i (.int v) = some L') (H : own_Fin p e below s n0 Q k n T (mkF m (pc + 2) L' (st))) : own_Fin p e below s n0 Q k n T (mkF m pc Ls (.int v :: st)) := by
  obtain ⟨⟨hx, hby, -⟩, locs, X, -⟩ := X
  exact own_go (fun _ q => XS.istore X.here hx rfl (hb hby hd) rfl hl q) H
theorem own_lstoreN (X : own_S p l e R s m av below meth c Z y co ml rt n0 T ce sl h) {i : Fin 4} {v : Int64} {L' : Array Slot} (hd : decode co pc = .ok (.lstore_n i, 1)) (hl : storeLocals Ls i.val (.long v) = some L') (H : own_Fin p e below s n0 Q k n T (mkF m (pc + 1) L' (st))) : own_Fin p e below s n0 Q k n T (mkF m pc Ls (.long v :: st)) := by
  obtain ⟨⟨hx, hby, -⟩, locs, X, -⟩ := X
  exact own_go (fun _ q => XS.lstoreN X.here hx rfl (hb hby hd) rfl hl q) H
theorem own_lstore (X : own_S p l e R s m av below meth c Z y co ml rt n0 T ce sl h) {i : Nat} {v : Int64} {L' : Array Slot} (hd : decode co pc = .ok (.lstore i, 2)) (hl : storeLocals Ls i (.long v) = some L') (H : own_Fin p e below s n0 Q k n T (mkF m (pc + 2) L' (st))) : own_Fin p e below s n0 Q k n T (mkF m pc Ls (.long v :: st)) := by
  obtain ⟨⟨hx, hby, -⟩, locs, X, -⟩ := X
  exact own_go (fun _ q => XS.lstore X.here hx rfl (hb hby hd) rfl hl q) H
theorem own_astoreN (X : own_S p l e R s m av below meth c Z y co ml rt n0 T ce sl h) {i : Fin 4} {v : Value} {L' : Array Slot} (hd : decode co pc = .ok (.astore_n i, 1)) (hv : v.isRef = true) (hl : storeLocals Ls i.val v = some L') (H : own_Fin p e below s n0 Q k n T (mkF m (pc + 1) L' (st))) : own_Fin p e below s n0 Q k n T (mkF m pc Ls (v :: st)) := by
  obtain ⟨⟨hx, hby, -⟩, locs, X, -⟩ := X
  exact own_go (fun _ q => XS.astoreN X.here hx rfl (hb hby hd) rfl hv hl q) H
theorem own_astore (X : own_S p l e R s m av below meth c Z y co ml rt n0 T ce sl h) {i : Nat} {v : Value} {L' : Array Slot} (hd : decode co pc = .ok (.astore i, 2)) (hv : v.isRef = true) (hl : storeLocals Ls i v = some L') (H : own_Fin p e below s n0 Q k n T (mkF m (pc + 2) L' (st))) : own_Fin p e below s n0 Q k n T (mkF m pc Ls (v :: st)) := by
  obtain ⟨⟨hx, hby, -⟩, locs, X, -⟩ := X
  exact own_go (fun _ q => XS.astore X.here hx rfl (hb hby hd) rfl hv hl q) H
theorem own_iconst (X : own_S p l e R s m av below meth c Z y co ml rt n0 T ce sl h) {i : Int} (z : Int32) (hd : decode co pc = .ok (.iconst i, 1)) (hz : Int32.ofInt i = z) (H : own_Fin p e below s n0 Q k n T (mkF m (pc + 1) Ls (.int z :: st))) : own_Fin p e below s n0 Q k n T (mkF m pc Ls (st)) := by
  obtain ⟨⟨hx, hby, -⟩, locs, X, -⟩ := X
  exact own_go (fun _ q => XS.iconst X.here hx rfl (hb hby hd) (by rw [hz]; exact q)) H
theorem own_bipush (X : own_S p l e R s m av below meth c Z y co ml rt n0 T ce sl h) {i : Int} (z : Int32) (hd : decode co pc = .ok (.bipush i, 2)) (hz : (Int8.ofInt i).toInt32 = z) (H : own_Fin p e below s n0 Q k n T (mkF m (pc + 2) Ls (.int z :: st))) : own_Fin p e below s n0 Q k n T (mkF m pc Ls (st)) := by
  obtain ⟨⟨hx, hby, -⟩, locs, X, -⟩ := X
  exact own_go (fun _ q => XS.bipush X.here hx rfl (hb hby hd) (by rw [hz]; exact q)) H
theorem own_sipush (X : own_S p l e R s m av below meth c Z y co ml rt n0 T ce sl h) {i : Int} (z : Int32) (hd : decode co pc = .ok (.sipush i, 3)) (hz : (Int16.ofInt i).toInt32 = z) (H : own_Fin p e below s n0 Q k n T (mkF m (pc + 3) Ls (.int z :: st))) : own_Fin p e below s n0 Q k n T (mkF m pc Ls (st)) := by
  obtain ⟨⟨hx, hby, -⟩, locs, X, -⟩ := X
  exact own_go (fun _ q => XS.sipush X.here hx rfl (hb hby hd) (by rw [hz]; exact q)) H
theorem own_lconst0 (X : own_S p l e R s m av below meth c Z y co ml rt n0 T ce sl h) (hd : decode co pc = .ok (.lconst 0, 1)) (H : own_Fin p e below s n0 Q k n T (mkF m (pc + 1) Ls (.long 0 :: st))) : own_Fin p e below s n0 Q k n T (mkF m pc Ls (st)) := by
  obtain ⟨⟨hx, hby, -⟩, locs, X, -⟩ := X
  exact own_go (fun _ q => XS.lconst X.here hx rfl (hb hby hd) q) H
theorem own_lconst1 (X : own_S p l e R s m av below meth c Z y co ml rt n0 T ce sl h) (hd : decode co pc = .ok (.lconst 1, 1)) (H : own_Fin p e below s n0 Q k n T (mkF m (pc + 1) Ls (.long 1 :: st))) : own_Fin p e below s n0 Q k n T (mkF m pc Ls (st)) := by
  obtain ⟨⟨hx, hby, -⟩, locs, X, -⟩ := X
  exact own_go (fun _ q => XS.lconst X.here hx rfl (hb hby hd) q) H
theorem own_aconstNull (X : own_S p l e R s m av below meth c Z y co ml rt n0 T ce sl h) (hd : decode co pc = .ok (.aconst_null, 1)) (H : own_Fin p e below s n0 Q k n T (mkF m (pc + 1) Ls (.null :: st))) : own_Fin p e below s n0 Q k n T (mkF m pc Ls (st)) := by
  obtain ⟨⟨hx, hby, -⟩, locs, X, -⟩ := X
  exact own_go (fun _ q => XS.aconstNull X.here hx rfl (hb hby hd) q) H
theorem own_iaddE (X : own_S p l e R s m av below meth c Z y co ml rt n0 T ce sl h) {x : Int32} {y' : Int32} (hd : decode co pc = .ok (.iadd, 1)) (z : Int32) (hz : x + y' = z) (H : own_Fin p e below s n0 Q k n T (mkF m (pc + 1) Ls (.int z :: st))) : own_Fin p e below s n0 Q k n T (mkF m pc Ls (.int y' :: .int x :: st)) := by
  subst hz
  obtain ⟨⟨hx, hby, -⟩, locs, X, -⟩ := X
  exact own_go (fun _ q => XS.iadd X.here hx rfl (hb hby hd) rfl q) H
theorem own_iaddV (X : own_S p l e R s m av below meth c Z y co ml rt n0 T ce sl h) {x : Int32} {y' : Int32} (a b : Int) (hd : decode co pc = .ok (.iadd, 1)) (hxa : x.toInt = a) (hyb : y'.toInt = b) (H : ∀ v : Int32, x + y' = v → (v.toInt - (a + b)) % 4294967296 = 0 → -2147483648 ≤ v.toInt → v.toInt < 2147483648 → own_Fin p e below s n0 Q k n T (mkF m (pc + 1) Ls (.int v :: st))) : own_Fin p e below s n0 Q k n T (mkF m pc Ls (.int y' :: .int x :: st)) := by
  exact own_iaddE X hd _ rfl (H _ rfl (by subst hxa hyb; exact c_iadd x y') (rng32 _).1 (rng32 _).2)
theorem own_isubE (X : own_S p l e R s m av below meth c Z y co ml rt n0 T ce sl h) {x : Int32} {y' : Int32} (hd : decode co pc = .ok (.isub, 1)) (z : Int32) (hz : x - y' = z) (H : own_Fin p e below s n0 Q k n T (mkF m (pc + 1) Ls (.int z :: st))) : own_Fin p e below s n0 Q k n T (mkF m pc Ls (.int y' :: .int x :: st)) := by
  subst hz
  obtain ⟨⟨hx, hby, -⟩, locs, X, -⟩ := X
  exact own_go (fun _ q => XS.isub X.here hx rfl (hb hby hd) rfl q) H
theorem own_isubV (X : own_S p l e R s m av below meth c Z y co ml rt n0 T ce sl h) {x : Int32} {y' : Int32} (a b : Int) (hd : decode co pc = .ok (.isub, 1)) (hxa : x.toInt = a) (hyb : y'.toInt = b) (H : ∀ v : Int32, x - y' = v → (v.toInt - (a - b)) % 4294967296 = 0 → -2147483648 ≤ v.toInt → v.toInt < 2147483648 → own_Fin p e below s n0 Q k n T (mkF m (pc + 1) Ls (.int v :: st))) : own_Fin p e below s n0 Q k n T (mkF m pc Ls (.int y' :: .int x :: st)) := by
  exact own_isubE X hd _ rfl (H _ rfl (by subst hxa hyb; exact c_isub x y') (rng32 _).1 (rng32 _).2)
theorem own_imulE (X : own_S p l e R s m av below meth c Z y co ml rt n0 T ce sl h) {x : Int32} {y' : Int32} (hd : decode co pc = .ok (.imul, 1)) (z : Int32) (hz : x * y' = z) (H : own_Fin p e below s n0 Q k n T (mkF m (pc + 1) Ls (.int z :: st))) : own_Fin p e below s n0 Q k n T (mkF m pc Ls (.int y' :: .int x :: st)) := by
  subst hz
  obtain ⟨⟨hx, hby, -⟩, locs, X, -⟩ := X
  exact own_go (fun _ q => XS.imul X.here hx rfl (hb hby hd) rfl q) H
theorem own_imulV (X : own_S p l e R s m av below meth c Z y co ml rt n0 T ce sl h) {x : Int32} {y' : Int32} (a b : Int) (hd : decode co pc = .ok (.imul, 1)) (hxa : x.toInt = a) (hyb : y'.toInt = b) (H : ∀ v : Int32, x * y' = v → (v.toInt - (a * b)) % 4294967296 = 0 → -2147483648 ≤ v.toInt → v.toInt < 2147483648 → own_Fin p e below s n0 Q k n T (mkF m (pc + 1) Ls (.int v :: st))) : own_Fin p e below s n0 Q k n T (mkF m pc Ls (.int y' :: .int x :: st)) := by
  exact own_imulE X hd _ rfl (H _ rfl (by subst hxa hyb; exact c_imul x y') (rng32 _).1 (rng32 _).2)
theorem own_iandE (X : own_S p l e R s m av below meth c Z y co ml rt n0 T ce sl h) {x : Int32} {y' : Int32} (hd : decode co pc = .ok (.iand, 1)) (z : Int32) (hz : x &&& y' = z) (H : own_Fin p e below s n0 Q k n T (mkF m (pc + 1) Ls (.int z :: st))) : own_Fin p e below s n0 Q k n T (mkF m pc Ls (.int y' :: .int x :: st)) := by
  subst hz
  obtain ⟨⟨hx, hby, -⟩, locs, X, -⟩ := X
  exact own_go (fun _ q => XS.iand X.here hx rfl (hb hby hd) rfl q) H
theorem own_iandV (X : own_S p l e R s m av below meth c Z y co ml rt n0 T ce sl h) {x : Int32} {y' : Int32}  (hd : decode co pc = .ok (.iand, 1))  (H : ∀ v : Int32, x &&& y' = v → -2147483648 ≤ v.toInt → v.toInt < 2147483648 → own_Fin p e below s n0 Q k n T (mkF m (pc + 1) Ls (.int v :: st))) : own_Fin p e below s n0 Q k n T (mkF m pc Ls (.int y' :: .int x :: st)) := by
  exact own_iandE X hd _ rfl (H _ rfl (rng32 _).1 (rng32 _).2)
theorem own_iandM (X : own_S p l e R s m av below meth c Z y co ml rt n0 T ce sl h) {x : Int32} {y' : Int32} (a : Int) (kk : Nat) (P : Int) (hd : decode co pc = .ok (.iand, 1)) (hxa : x.toInt = a) (hk : kk ≤ 31) (hm : y'.toBitVec.toNat = 2 ^ kk - 1) (hP : ((2 ^ kk : Nat) : Int) = P) (H : ∀ v : Int32, x &&& y' = v → v.toInt = a % P → -2147483648 ≤ v.toInt → v.toInt < 2147483648 → own_Fin p e below s n0 Q k n T (mkF m (pc + 1) Ls (.int v :: st))) : own_Fin p e below s n0 Q k n T (mkF m pc Ls (.int y' :: .int x :: st)) := by
  exact own_iandE X hd _ rfl (H _ rfl (by subst hxa hP; exact c_mask x y' kk hk hm) (rng32 _).1 (rng32 _).2)
theorem own_iandB (X : own_S p l e R s m av below meth c Z y co ml rt n0 T ce sl h) {x : Int32} {y' : Int32} (b : Int) (hd : decode co pc = .ok (.iand, 1)) (hyb : y'.toInt = b) (hb0 : 0 ≤ b) (H : ∀ v : Int32, x &&& y' = v → 0 ≤ v.toInt ∧ v.toInt ≤ b → -2147483648 ≤ v.toInt → v.toInt < 2147483648 → own_Fin p e below s n0 Q k n T (mkF m (pc + 1) Ls (.int v :: st))) : own_Fin p e below s n0 Q k n T (mkF m pc Ls (.int y' :: .int x :: st)) := by
  exact own_iandE X hd _ rfl (H _ rfl (by subst hyb; exact c_and x y' hb0) (rng32 _).1 (rng32 _).2)
theorem own_iorE (X : own_S p l e R s m av below meth c Z y co ml rt n0 T ce sl h) {x : Int32} {y' : Int32} (hd : decode co pc = .ok (.ior, 1)) (z : Int32) (hz : x ||| y' = z) (H : own_Fin p e below s n0 Q k n T (mkF m (pc + 1) Ls (.int z :: st))) : own_Fin p e below s n0 Q k n T (mkF m pc Ls (.int y' :: .int x :: st)) := by
  subst hz
  obtain ⟨⟨hx, hby, -⟩, locs, X, -⟩ := X
  exact own_go (fun _ q => XS.ior X.here hx rfl (hb hby hd) rfl q) H
theorem own_iorV (X : own_S p l e R s m av below meth c Z y co ml rt n0 T ce sl h) {x : Int32} {y' : Int32}  (hd : decode co pc = .ok (.ior, 1))  (H : ∀ v : Int32, x ||| y' = v → -2147483648 ≤ v.toInt → v.toInt < 2147483648 → own_Fin p e below s n0 Q k n T (mkF m (pc + 1) Ls (.int v :: st))) : own_Fin p e below s n0 Q k n T (mkF m pc Ls (.int y' :: .int x :: st)) := by
  exact own_iorE X hd _ rfl (H _ rfl (rng32 _).1 (rng32 _).2)
theorem own_iorM (X : own_S p l e R s m av below meth c Z y co ml rt n0 T ce sl h) {x : Int32} {y' : Int32} (a b : Int) (kk : Nat) (P : Int) (hd : decode co pc = .ok (.ior, 1)) (hxa : x.toInt = a) (hyb : y'.toInt = b) (hk : kk ≤ 31) (hP : P = ((2 ^ kk : Nat) : Int)) (q1 : a % P = 0) (q2 : 0 ≤ b) (q3 : b < P) (H : ∀ v : Int32, x ||| y' = v → (v.toInt - (a + b)) % 4294967296 = 0 → -2147483648 ≤ v.toInt → v.toInt < 2147483648 → own_Fin p e below s n0 Q k n T (mkF m (pc + 1) Ls (.int v :: st))) : own_Fin p e below s n0 Q k n T (mkF m pc Ls (.int y' :: .int x :: st)) := by
  exact own_iorE X hd _ rfl (H _ rfl (by subst hxa hyb; exact c_or x y' kk hk P hP q1 q2 q3) (rng32 _).1 (rng32 _).2)
theorem own_iorR (X : own_S p l e R s m av below meth c Z y co ml rt n0 T ce sl h) {x : Int32} {y' : Int32} (a b : Int) (kk : Nat) (P : Int) (hd : decode co pc = .ok (.ior, 1)) (hxa : x.toInt = a) (hyb : y'.toInt = b) (hk : kk ≤ 31) (hP : P = ((2 ^ kk : Nat) : Int)) (q1 : b % P = 0) (q2 : 0 ≤ a) (q3 : a < P) (H : ∀ v : Int32, x ||| y' = v → (v.toInt - (a + b)) % 4294967296 = 0 → -2147483648 ≤ v.toInt → v.toInt < 2147483648 → own_Fin p e below s n0 Q k n T (mkF m (pc + 1) Ls (.int v :: st))) : own_Fin p e below s n0 Q k n T (mkF m pc Ls (.int y' :: .int x :: st)) := by
  exact own_iorE X hd _ rfl (H _ rfl (by subst hxa hyb; have q := c_or y' x kk hk P hP q1 q2 q3; rw [Int32.or_comm] at q; omega) (rng32 _).1 (rng32 _).2)
theorem own_ixorE (X : own_S p l e R s m av below meth c Z y co ml rt n0 T ce sl h) {x : Int32} {y' : Int32} (hd : decode co pc = .ok (.ixor, 1)) (z : Int32) (hz : x ^^^ y' = z) (H : own_Fin p e below s n0 Q k n T (mkF m (pc + 1) Ls (.int z :: st))) : own_Fin p e below s n0 Q k n T (mkF m pc Ls (.int y' :: .int x :: st)) := by
  subst hz
  obtain ⟨⟨hx, hby, -⟩, locs, X, -⟩ := X
  exact own_go (fun _ q => XS.ixor X.here hx rfl (hb hby hd) rfl q) H
theorem own_ixorV (X : own_S p l e R s m av below meth c Z y co ml rt n0 T ce sl h) {x : Int32} {y' : Int32}  (hd : decode co pc = .ok (.ixor, 1))  (H : ∀ v : Int32, x ^^^ y' = v → -2147483648 ≤ v.toInt → v.toInt < 2147483648 → own_Fin p e below s n0 Q k n T (mkF m (pc + 1) Ls (.int v :: st))) : own_Fin p e below s n0 Q k n T (mkF m pc Ls (.int y' :: .int x :: st)) := by
  exact own_ixorE X hd _ rfl (H _ rfl (rng32 _).1 (rng32 _).2)
theorem own_ishlE (X : own_S p l e R s m av below meth c Z y co ml rt n0 T ce sl h) {x : Int32} {y' : Int32} (hd : decode co pc = .ok (.ishl, 1)) (z : Int32) (hz : x <<< (y' &&& 31) = z) (H : own_Fin p e below s n0 Q k n T (mkF m (pc + 1) Ls (.int z :: st))) : own_Fin p e below s n0 Q k n T (mkF m pc Ls (.int y' :: .int x :: st)) := by
  subst hz
  obtain ⟨⟨hx, hby, -⟩, locs, X, -⟩ := X
  exact own_go (fun _ q => XS.ishl X.here hx rfl (hb hby hd) rfl q) H
theorem own_ishlV (X : own_S p l e R s m av below meth c Z y co ml rt n0 T ce sl h) {x : Int32} {y' : Int32}  (hd : decode co pc = .ok (.ishl, 1))  (H : ∀ v : Int32, x <<< (y' &&& 31) = v → -2147483648 ≤ v.toInt → v.toInt < 2147483648 → own_Fin p e below s n0 Q k n T (mkF m (pc + 1) Ls (.int v :: st))) : own_Fin p e below s n0 Q k n T (mkF m pc Ls (.int y' :: .int x :: st)) := by
  exact own_ishlE X hd _ rfl (H _ rfl (rng32 _).1 (rng32 _).2)
theorem own_ishlK (X : own_S p l e R s m av below meth c Z y co ml rt n0 T ce sl h) {x : Int32} {y' : Int32} (a : Int) (kk : Nat) (P : Int) (hd : decode co pc = .ok (.ishl, 1)) (hxa : x.toInt = a) (hk : y'.toBitVec.toNat % 32 = kk) (hP : ((2 ^ kk : Nat) : Int) = P) (H : ∀ v : Int32, x <<< (y' &&& 31) = v → (v.toInt - a * P) % 4294967296 = 0 → -2147483648 ≤ v.toInt → v.toInt < 2147483648 → own_Fin p e below s n0 Q k n T (mkF m (pc + 1) Ls (.int v :: st))) : own_Fin p e below s n0 Q k n T (mkF m pc Ls (.int y' :: .int x :: st)) := by
  exact own_ishlE X hd _ rfl (H _ rfl (by subst hxa hP; exact c_ishl x y' kk hk) (rng32 _).1 (rng32 _).2)
theorem own_ishrE (X : own_S p l e R s m av below meth c Z y co ml rt n0 T ce sl h) {x : Int32} {y' : Int32} (hd : decode co pc = .ok (.ishr, 1)) (z : Int32) (hz : x >>> (y' &&& 31) = z) (H : own_Fin p e below s n0 Q k n T (mkF m (pc + 1) Ls (.int z :: st))) : own_Fin p e below s n0 Q k n T (mkF m pc Ls (.int y' :: .int x :: st)) := by
  subst hz
  obtain ⟨⟨hx, hby, -⟩, locs, X, -⟩ := X
  exact own_go (fun _ q => XS.ishr X.here hx rfl (hb hby hd) rfl q) H
theorem own_ishrV (X : own_S p l e R s m av below meth c Z y co ml rt n0 T ce sl h) {x : Int32} {y' : Int32}  (hd : decode co pc = .ok (.ishr, 1))  (H : ∀ v : Int32, x >>> (y' &&& 31) = v → -2147483648 ≤ v.toInt → v.toInt < 2147483648 → own_Fin p e below s n0 Q k n T (mkF m (pc + 1) Ls (.int v :: st))) : own_Fin p e below s n0 Q k n T (mkF m pc Ls (.int y' :: .int x :: st)) := by
  exact own_ishrE X hd _ rfl (H _ rfl (rng32 _).1 (rng32 _).2)
theorem own_ishrK (X : own_S p l e R s m av below meth c Z y co ml rt n0 T ce sl h) {x : Int32} {y' : Int32} (a : Int) (kk : Nat) (P : Int) (hd : decode co pc = .ok (.ishr, 1)) (hxa : x.toInt = a) (hk : y'.toBitVec.toNat % 32 = kk) (hP : ((2 ^ kk : Nat) : Int) = P) (H : ∀ v : Int32, x >>> (y' &&& 31) = v → v.toInt = a / P → -2147483648 ≤ v.toInt → v.toInt < 2147483648 → own_Fin p e below s n0 Q k n T (mkF m (pc + 1) Ls (.int v :: st))) : own_Fin p e below s n0 Q k n T (mkF m pc Ls (.int y' :: .int x :: st)) := by
  exact own_ishrE X hd _ rfl (H _ rfl (by subst hxa hP; exact c_ishr x y' kk hk) (rng32 _).1 (rng32 _).2)
theorem own_iushrE (X : own_S p l e R s m av below meth c Z y co ml rt n0 T ce sl h) {x : Int32} {y' : Int32} (hd : decode co pc = .ok (.iushr, 1)) (z : Int32) (hz : (x.toUInt32 >>> (y' &&& 31).toUInt32).toInt32 = z) (H : own_Fin p e below s n0 Q k n T (mkF m (pc + 1) Ls (.int z :: st))) : own_Fin p e below s n0 Q k n T (mkF m pc Ls (.int y' :: .int x :: st)) := by
  subst hz
  obtain ⟨⟨hx, hby, -⟩, locs, X, -⟩ := X
  exact own_go (fun _ q => XS.iushr X.here hx rfl (hb hby hd) rfl q) H
theorem own_iushrV (X : own_S p l e R s m av below meth c Z y co ml rt n0 T ce sl h) {x : Int32} {y' : Int32}  (hd : decode co pc = .ok (.iushr, 1))  (H : ∀ v : Int32, (x.toUInt32 >>> (y' &&& 31).toUInt32).toInt32 = v → -2147483648 ≤ v.toInt → v.toInt < 2147483648 → own_Fin p e below s n0 Q k n T (mkF m (pc + 1) Ls (.int v :: st))) : own_Fin p e below s n0 Q k n T (mkF m pc Ls (.int y' :: .int x :: st)) := by
  exact own_iushrE X hd _ rfl (H _ rfl (rng32 _).1 (rng32 _).2)
theorem own_iushrK (X : own_S p l e R s m av below meth c Z y co ml rt n0 T ce sl h) {x : Int32} {y' : Int32} (a : Int) (kk : Nat) (P : Int) (hd : decode co pc = .ok (.iushr, 1)) (hxa : x.toInt = a) (hk : y'.toBitVec.toNat % 32 = kk) (hP : ((2 ^ kk : Nat) : Int) = P) (hk0 : 0 < kk) (H : ∀ v : Int32, (x.toUInt32 >>> (y' &&& 31).toUInt32).toInt32 = v → v.toInt = (a % 4294967296) / P → -2147483648 ≤ v.toInt → v.toInt < 2147483648 → own_Fin p e below s n0 Q k n T (mkF m (pc + 1) Ls (.int v :: st))) : own_Fin p e below s n0 Q k n T (mkF m pc Ls (.int y' :: .int x :: st)) := by
  exact own_iushrE X hd _ rfl (H _ rfl (by subst hxa hP; exact c_iushr x y' kk hk hk0) (rng32 _).1 (rng32 _).2)
theorem own_laddE (X : own_S p l e R s m av below meth c Z y co ml rt n0 T ce sl h) {x : Int64} {y' : Int64} (hd : decode co pc = .ok (.ladd, 1)) (z : Int64) (hz : x + y' = z) (H : own_Fin p e below s n0 Q k n T (mkF m (pc + 1) Ls (.long z :: st))) : own_Fin p e below s n0 Q k n T (mkF m pc Ls (.long y' :: .long x :: st)) := by
  subst hz
  obtain ⟨⟨hx, hby, -⟩, locs, X, -⟩ := X
  exact own_go (fun _ q => XS.ladd X.here hx rfl (hb hby hd) rfl q) H
theorem own_laddV (X : own_S p l e R s m av below meth c Z y co ml rt n0 T ce sl h) {x : Int64} {y' : Int64} (a b : Int) (hd : decode co pc = .ok (.ladd, 1)) (hxa : x.toInt = a) (hyb : y'.toInt = b) (H : ∀ v : Int64, x + y' = v → (v.toInt - (a + b)) % 18446744073709551616 = 0 → -9223372036854775808 ≤ v.toInt → v.toInt < 9223372036854775808 → own_Fin p e below s n0 Q k n T (mkF m (pc + 1) Ls (.long v :: st))) : own_Fin p e below s n0 Q k n T (mkF m pc Ls (.long y' :: .long x :: st)) := by
  exact own_laddE X hd _ rfl (H _ rfl (by subst hxa hyb; exact c_ladd x y') (rng64 _).1 (rng64 _).2)
theorem own_lsubE (X : own_S p l e R s m av below meth c Z y co ml rt n0 T ce sl h) {x : Int64} {y' : Int64} (hd : decode co pc = .ok (.lsub, 1)) (z : Int64) (hz : x - y' = z) (H : own_Fin p e below s n0 Q k n T (mkF m (pc + 1) Ls (.long z :: st))) : own_Fin p e below s n0 Q k n T (mkF m pc Ls (.long y' :: .long x :: st)) := by
  subst hz
  obtain ⟨⟨hx, hby, -⟩, locs, X, -⟩ := X
  exact own_go (fun _ q => XS.lsub X.here hx rfl (hb hby hd) rfl q) H
theorem own_lsubV (X : own_S p l e R s m av below meth c Z y co ml rt n0 T ce sl h) {x : Int64} {y' : Int64} (a b : Int) (hd : decode co pc = .ok (.lsub, 1)) (hxa : x.toInt = a) (hyb : y'.toInt = b) (H : ∀ v : Int64, x - y' = v → (v.toInt - (a - b)) % 18446744073709551616 = 0 → -9223372036854775808 ≤ v.toInt → v.toInt < 9223372036854775808 → own_Fin p e below s n0 Q k n T (mkF m (pc + 1) Ls (.long v :: st))) : own_Fin p e below s n0 Q k n T (mkF m pc Ls (.long y' :: .long x :: st)) := by
  exact own_lsubE X hd _ rfl (H _ rfl (by subst hxa hyb; exact c_lsub x y') (rng64 _).1 (rng64 _).2)
theorem own_lmulE (X : own_S p l e R s m av below meth c Z y co ml rt n0 T ce sl h) {x : Int64} {y' : Int64} (hd : decode co pc = .ok (.lmul, 1)) (z : Int64) (hz : x * y' = z) (H : own_Fin p e below s n0 Q k n T (mkF m (pc + 1) Ls (.long z :: st))) : own_Fin p e below s n0 Q k n T (mkF m pc Ls (.long y' :: .long x :: st)) := by
  subst hz
  obtain ⟨⟨hx, hby, -⟩, locs, X, -⟩ := X
  exact own_go (fun _ q => XS.lmul X.here hx rfl (hb hby hd) rfl q) H
theorem own_lmulV (X : own_S p l e R s m av below meth c Z y co ml rt n0 T ce sl h) {x : Int64} {y' : Int64} (a b : Int) (hd : decode co pc = .ok (.lmul, 1)) (hxa : x.toInt = a) (hyb : y'.toInt = b) (H : ∀ v : Int64, x * y' = v → (v.toInt - (a * b)) % 18446744073709551616 = 0 → -9223372036854775808 ≤ v.toInt → v.toInt < 9223372036854775808 → own_Fin p e below s n0 Q k n T (mkF m (pc + 1) Ls (.long v :: st))) : own_Fin p e below s n0 Q k n T (mkF m pc Ls (.long y' :: .long x :: st)) := by
  exact own_lmulE X hd _ rfl (H _ rfl (by subst hxa hyb; exact c_lmul x y') (rng64 _).1 (rng64 _).2)
theorem own_landE (X : own_S p l e R s m av below meth c Z y co ml rt n0 T ce sl h) {x : Int64} {y' : Int64} (hd : decode co pc = .ok (.land, 1)) (z : Int64) (hz : x &&& y' = z) (H : own_Fin p e below s n0 Q k n T (mkF m (pc + 1) Ls (.long z :: st))) : own_Fin p e below s n0 Q k n T (mkF m pc Ls (.long y' :: .long x :: st)) := by
  subst hz
  obtain ⟨⟨hx, hby, -⟩, locs, X, -⟩ := X
  exact own_go (fun _ q => XS.land X.here hx rfl (hb hby hd) rfl q) H
theorem own_landV (X : own_S p l e R s m av below meth c Z y co ml rt n0 T ce sl h) {x : Int64} {y' : Int64}  (hd : decode co pc = .ok (.land, 1))  (H : ∀ v : Int64, x &&& y' = v → -9223372036854775808 ≤ v.toInt → v.toInt < 9223372036854775808 → own_Fin p e below s n0 Q k n T (mkF m (pc + 1) Ls (.long v :: st))) : own_Fin p e below s n0 Q k n T (mkF m pc Ls (.long y' :: .long x :: st)) := by
  exact own_landE X hd _ rfl (H _ rfl (rng64 _).1 (rng64 _).2)
theorem own_landM (X : own_S p l e R s m av below meth c Z y co ml rt n0 T ce sl h) {x : Int64} {y' : Int64} (a : Int) (kk : Nat) (P : Int) (hd : decode co pc = .ok (.land, 1)) (hxa : x.toInt = a) (hk : kk ≤ 63) (hm : y'.toBitVec.toNat = 2 ^ kk - 1) (hP : ((2 ^ kk : Nat) : Int) = P) (H : ∀ v : Int64, x &&& y' = v → v.toInt = a % P → -9223372036854775808 ≤ v.toInt → v.toInt < 9223372036854775808 → own_Fin p e below s n0 Q k n T (mkF m (pc + 1) Ls (.long v :: st))) : own_Fin p e below s n0 Q k n T (mkF m pc Ls (.long y' :: .long x :: st)) := by
  exact own_landE X hd _ rfl (H _ rfl (by subst hxa hP; exact c_maskL x y' kk hk hm) (rng64 _).1 (rng64 _).2)
theorem own_lorE (X : own_S p l e R s m av below meth c Z y co ml rt n0 T ce sl h) {x : Int64} {y' : Int64} (hd : decode co pc = .ok (.lor, 1)) (z : Int64) (hz : x ||| y' = z) (H : own_Fin p e below s n0 Q k n T (mkF m (pc + 1) Ls (.long z :: st))) : own_Fin p e below s n0 Q k n T (mkF m pc Ls (.long y' :: .long x :: st)) := by
  subst hz
  obtain ⟨⟨hx, hby, -⟩, locs, X, -⟩ := X
  exact own_go (fun _ q => XS.lor X.here hx rfl (hb hby hd) rfl q) H
theorem own_lorV (X : own_S p l e R s m av below meth c Z y co ml rt n0 T ce sl h) {x : Int64} {y' : Int64}  (hd : decode co pc = .ok (.lor, 1))  (H : ∀ v : Int64, x ||| y' = v → -9223372036854775808 ≤ v.toInt → v.toInt < 9223372036854775808 → own_Fin p e below s n0 Q k n T (mkF m (pc + 1) Ls (.long v :: st))) : own_Fin p e below s n0 Q k n T (mkF m pc Ls (.long y' :: .long x :: st)) := by
  exact own_lorE X hd _ rfl (H _ rfl (rng64 _).1 (rng64 _).2)
theorem own_lxorE (X : own_S p l e R s m av below meth c Z y co ml rt n0 T ce sl h) {x : Int64} {y' : Int64} (hd : decode co pc = .ok (.lxor, 1)) (z : Int64) (hz : x ^^^ y' = z) (H : own_Fin p e below s n0 Q k n T (mkF m (pc + 1) Ls (.long z :: st))) : own_Fin p e below s n0 Q k n T (mkF m pc Ls (.long y' :: .long x :: st)) := by
  subst hz
  obtain ⟨⟨hx, hby, -⟩, locs, X, -⟩ := X
  exact own_go (fun _ q => XS.lxor X.here hx rfl (hb hby hd) rfl q) H
theorem own_lxorV (X : own_S p l e R s m av below meth c Z y co ml rt n0 T ce sl h) {x : Int64} {y' : Int64}  (hd : decode co pc = .ok (.lxor, 1))  (H : ∀ v : Int64, x ^^^ y' = v → -9223372036854775808 ≤ v.toInt → v.toInt < 9223372036854775808 → own_Fin p e below s n0 Q k n T (mkF m (pc + 1) Ls (.long v :: st))) : own_Fin p e below s n0 Q k n T (mkF m pc Ls (.long y' :: .long x :: st)) := by
  exact own_lxorE X hd _ rfl (H _ rfl (rng64 _).1 (rng64 _).2)
theorem own_lshlE (X : own_S p l e R s m av below meth c Z y co ml rt n0 T ce sl h) {x : Int64} {y' : Int32} (hd : decode co pc = .ok (.lshl, 1)) (z : Int64) (hz : x <<< (y' &&& 0x3f).toInt64 = z) (H : own_Fin p e below s n0 Q k n T (mkF m (pc + 1) Ls (.long z :: st))) : own_Fin p e below s n0 Q k n T (mkF m pc Ls (.int y' :: .long x :: st)) := by
  subst hz
  obtain ⟨⟨hx, hby, -⟩, locs, X, -⟩ := X
  exact own_go (fun _ q => XS.lshl X.here hx rfl (hb hby hd) rfl q) H
theorem own_lshlV (X : own_S p l e R s m av below meth c Z y co ml rt n0 T ce sl h) {x : Int64} {y' : Int32}  (hd : decode co pc = .ok (.lshl, 1))  (H : ∀ v : Int64, x <<< (y' &&& 0x3f).toInt64 = v → -9223372036854775808 ≤ v.toInt → v.toInt < 9223372036854775808 → own_Fin p e below s n0 Q k n T (mkF m (pc + 1) Ls (.long v :: st))) : own_Fin p e below s n0 Q k n T (mkF m pc Ls (.int y' :: .long x :: st)) := by
  exact own_lshlE X hd _ rfl (H _ rfl (rng64 _).1 (rng64 _).2)
theorem own_lshlK (X : own_S p l e R s m av below meth c Z y co ml rt n0 T ce sl h) {x : Int64} {y' : Int32} (a : Int) (kk : Nat) (P : Int) (hd : decode co pc = .ok (.lshl, 1)) (hxa : x.toInt = a) (hk : y'.toBitVec.toNat % 64 = kk) (hP : ((2 ^ kk : Nat) : Int) = P) (H : ∀ v : Int64, x <<< (y' &&& 0x3f).toInt64 = v → (v.toInt - a * P) % 18446744073709551616 = 0 → -9223372036854775808 ≤ v.toInt → v.toInt < 9223372036854775808 → own_Fin p e below s n0 Q k n T (mkF m (pc + 1) Ls (.long v :: st))) : own_Fin p e below s n0 Q k n T (mkF m pc Ls (.int y' :: .long x :: st)) := by
  exact own_lshlE X hd _ rfl (H _ rfl (by subst hxa hP; exact c_lshl x y' kk hk) (rng64 _).1 (rng64 _).2)
theorem own_lshrE (X : own_S p l e R s m av below meth c Z y co ml rt n0 T ce sl h) {x : Int64} {y' : Int32} (hd : decode co pc = .ok (.lshr, 1)) (z : Int64) (hz : x >>> (y' &&& 0x3f).toInt64 = z) (H : own_Fin p e below s n0 Q k n T (mkF m (pc + 1) Ls (.long z :: st))) : own_Fin p e below s n0 Q k n T (mkF m pc Ls (.int y' :: .long x :: st)) := by
  subst hz
  obtain ⟨⟨hx, hby, -⟩, locs, X, -⟩ := X
  exact own_go (fun _ q => XS.lshr X.here hx rfl (hb hby hd) rfl q) H
theorem own_lshrV (X : own_S p l e R s m av below meth c Z y co ml rt n0 T ce sl h) {x : Int64} {y' : Int32}  (hd : decode co pc = .ok (.lshr, 1))  (H : ∀ v : Int64, x >>> (y' &&& 0x3f).toInt64 = v → -9223372036854775808 ≤ v.toInt → v.toInt < 9223372036854775808 → own_Fin p e below s n0 Q k n T (mkF m (pc + 1) Ls (.long v :: st))) : own_Fin p e below s n0 Q k n T (mkF m pc Ls (.int y' :: .long x :: st)) := by
  exact own_lshrE X hd _ rfl (H _ rfl (rng64 _).1 (rng64 _).2)
theorem own_lshrK (X : own_S p l e R s m av below meth c Z y co ml rt n0 T ce sl h) {x : Int64} {y' : Int32} (a : Int) (kk : Nat) (P : Int) (hd : decode co pc = .ok (.lshr, 1)) (hxa : x.toInt = a) (hk : y'.toBitVec.toNat % 64 = kk) (hP : ((2 ^ kk : Nat) : Int) = P) (H : ∀ v : Int64, x >>> (y' &&& 0x3f).toInt64 = v → v.toInt = a / P → -9223372036854775808 ≤ v.toInt → v.toInt < 9223372036854775808 → own_Fin p e below s n0 Q k n T (mkF m (pc + 1) Ls (.long v :: st))) : own_Fin p e below s n0 Q k n T (mkF m pc Ls (.int y' :: .long x :: st)) := by
  exact own_lshrE X hd _ rfl (H _ rfl (by subst hxa hP; exact c_lshr x y' kk hk) (rng64 _).1 (rng64 _).2)
theorem own_lushrE (X : own_S p l e R s m av below meth c Z y co ml rt n0 T ce sl h) {x : Int64} {y' : Int32} (hd : decode co pc = .ok (.lushr, 1)) (z : Int64) (hz : (x.toUInt64 >>> (y' &&& 0x3f).toInt64.toUInt64).toInt64 = z) (H : own_Fin p e below s n0 Q k n T (mkF m (pc + 1) Ls (.long z :: st))) : own_Fin p e below s n0 Q k n T (mkF m pc Ls (.int y' :: .long x :: st)) := by
  subst hz
  obtain ⟨⟨hx, hby, -⟩, locs, X, -⟩ := X
  exact own_go (fun _ q => XS.lushr X.here hx rfl (hb hby hd) rfl q) H
theorem own_lushrV (X : own_S p l e R s m av below meth c Z y co ml rt n0 T ce sl h) {x : Int64} {y' : Int32}  (hd : decode co pc = .ok (.lushr, 1))  (H : ∀ v : Int64, (x.toUInt64 >>> (y' &&& 0x3f).toInt64.toUInt64).toInt64 = v → -9223372036854775808 ≤ v.toInt → v.toInt < 9223372036854775808 → own_Fin p e below s n0 Q k n T (mkF m (pc + 1) Ls (.long v :: st))) : own_Fin p e below s n0 Q k n T (mkF m pc Ls (.int y' :: .long x :: st)) := by
  exact own_lushrE X hd _ rfl (H _ rfl (rng64 _).1 (rng64 _).2)
theorem own_lushrK (X : own_S p l e R s m av below meth c Z y co ml rt n0 T ce sl h) {x : Int64} {y' : Int32} (a : Int) (kk : Nat) (P : Int) (hd : decode co pc = .ok (.lushr, 1)) (hxa : x.toInt = a) (hk : y'.toBitVec.toNat % 64 = kk) (hP : ((2 ^ kk : Nat) : Int) = P) (hk0 : 0 < kk) (H : ∀ v : Int64, (x.toUInt64 >>> (y' &&& 0x3f).toInt64.toUInt64).toInt64 = v → v.toInt = (a % 18446744073709551616) / P → -9223372036854775808 ≤ v.toInt → v.toInt < 9223372036854775808 → own_Fin p e below s n0 Q k n T (mkF m (pc + 1) Ls (.long v :: st))) : own_Fin p e below s n0 Q k n T (mkF m pc Ls (.int y' :: .long x :: st)) := by
  exact own_lushrE X hd _ rfl (H _ rfl (by subst hxa hP; exact c_lushr x y' kk hk hk0) (rng64 _).1 (rng64 _).2)
theorem own_iremE (X : own_S p l e R s m av below meth c Z y co ml rt n0 T ce sl h) {x : Int32} {y' : Int32} (hd : decode co pc = .ok (.irem, 1)) (hnz : y' ≠ 0) (z : Int32) (hz : x % y' = z) (H : own_Fin p e below s n0 Q k n T (mkF m (pc + 1) Ls (.int z :: st))) : own_Fin p e below s n0 Q k n T (mkF m pc Ls (.int y' :: .int x :: st)) := by
  subst hz
  obtain ⟨⟨hx, hby, -⟩, locs, X, -⟩ := X
  exact own_go (fun _ q => iremM X hx rfl (hb hby hd) rfl hnz q) H
theorem own_iremV (X : own_S p l e R s m av below meth c Z y co ml rt n0 T ce sl h) {x : Int32} {y' : Int32}  (hd : decode co pc = .ok (.irem, 1)) (hnz : y' ≠ 0)  (H : ∀ v : Int32, x % y' = v → -2147483648 ≤ v.toInt → v.toInt < 2147483648 → own_Fin p e below s n0 Q k n T (mkF m (pc + 1) Ls (.int v :: st))) : own_Fin p e below s n0 Q k n T (mkF m pc Ls (.int y' :: .int x :: st)) := by
  exact own_iremE X hd hnz _ rfl (H _ rfl (rng32 _).1 (rng32 _).2)
theorem own_iremK (X : own_S p l e R s m av below meth c Z y co ml rt n0 T ce sl h) {x : Int32} {y' : Int32} (a b : Int) (hd : decode co pc = .ok (.irem, 1)) (hnz : y' ≠ 0) (hxa : x.toInt = a) (hyb : y'.toInt = b) (H : ∀ v : Int32, x % y' = v → (0 ≤ a → v.toInt = a % b) ∧ (a < 0 → v.toInt = -((-a) % b)) → -2147483648 ≤ v.toInt → v.toInt < 2147483648 → own_Fin p e below s n0 Q k n T (mkF m (pc + 1) Ls (.int v :: st))) : own_Fin p e below s n0 Q k n T (mkF m pc Ls (.int y' :: .int x :: st)) := by
  exact own_iremE X hd hnz _ rfl (H _ rfl (by subst hxa; exact c_irem x y' b hyb) (rng32 _).1 (rng32 _).2)
theorem own_iremB (X : own_S p l e R s m av below meth c Z y co ml rt n0 T ce sl h) {x : Int32} {y' : Int32} (a b : Int) (hd : decode co pc = .ok (.irem, 1)) (hnz : y' ≠ 0) (hxa : x.toInt = a) (hyb : y'.toInt = b) (q1 : 0 ≤ a) (q2 : 0 < b) (H : ∀ v : Int32, x % y' = v → 0 ≤ v.toInt ∧ v.toInt < b ∧ v.toInt ≤ a → -2147483648 ≤ v.toInt → v.toInt < 2147483648 → own_Fin p e below s n0 Q k n T (mkF m (pc + 1) Ls (.int v :: st))) : own_Fin p e below s n0 Q k n T (mkF m pc Ls (.int y' :: .int x :: st)) := by
  exact own_iremE X hd hnz _ rfl (H _ rfl (by subst hxa hyb; have q := (c_iremV x y').1 q1 q2; exact ⟨q.1, q.2.1, q.2.2.1⟩) (rng32 _).1 (rng32 _).2)
theorem own_lremE (X : own_S p l e R s m av below meth c Z y co ml rt n0 T ce sl h) {x : Int64} {y' : Int64} (hd : decode co pc = .ok (.lrem, 1)) (hnz : y' ≠ 0) (z : Int64) (hz : x % y' = z) (H : own_Fin p e below s n0 Q k n T (mkF m (pc + 1) Ls (.long z :: st))) : own_Fin p e below s n0 Q k n T (mkF m pc Ls (.long y' :: .long x :: st)) := by
  subst hz
  obtain ⟨⟨hx, hby, -⟩, locs, X, -⟩ := X
  exact own_go (fun _ q => XS.lrem X.here hx rfl (hb hby hd) rfl hnz (by rw [lrem_mod]; exact q)) H
theorem own_lremV (X : own_S p l e R s m av below meth c Z y co ml rt n0 T ce sl h) {x : Int64} {y' : Int64}  (hd : decode co pc = .ok (.lrem, 1)) (hnz : y' ≠ 0)  (H : ∀ v : Int64, x % y' = v → -9223372036854775808 ≤ v.toInt → v.toInt < 9223372036854775808 → own_Fin p e below s n0 Q k n T (mkF m (pc + 1) Ls (.long v :: st))) : own_Fin p e below s n0 Q k n T (mkF m pc Ls (.long y' :: .long x :: st)) := by
  exact own_lremE X hd hnz _ rfl (H _ rfl (rng64 _).1 (rng64 _).2)
theorem own_lremK (X : own_S p l e R s m av below meth c Z y co ml rt n0 T ce sl h) {x : Int64} {y' : Int64} (a b : Int) (hd : decode co pc = .ok (.lrem, 1)) (hnz : y' ≠ 0) (hxa : x.toInt = a) (hyb : y'.toInt = b) (H : ∀ v : Int64, x % y' = v → (0 ≤ a → v.toInt = a % b) ∧ (a < 0 → v.toInt = -((-a) % b)) → -9223372036854775808 ≤ v.toInt → v.toInt < 9223372036854775808 → own_Fin p e below s n0 Q k n T (mkF m (pc + 1) Ls (.long v :: st))) : own_Fin p e below s n0 Q k n T (mkF m pc Ls (.long y' :: .long x :: st)) := by
  exact own_lremE X hd hnz _ rfl (H _ rfl (by subst hxa; have q := c_lrem x y' b hyb; rw [lrem_mod] at q; exact q) (rng64 _).1 (rng64 _).2)
theorem own_lremB (X : own_S p l e R s m av below meth c Z y co ml rt n0 T ce sl h) {x : Int64} {y' : Int64} (a b : Int) (hd : decode co pc = .ok (.lrem, 1)) (hnz : y' ≠ 0) (hxa : x.toInt = a) (hyb : y'.toInt = b) (q1 : 0 ≤ a) (q2 : 0 < b) (H : ∀ v : Int64, x % y' = v → 0 ≤ v.toInt ∧ v.toInt < b ∧ v.toInt ≤ a → -9223372036854775808 ≤ v.toInt → v.toInt < 9223372036854775808 → own_Fin p e below s n0 Q k n T (mkF m (pc + 1) Ls (.long v :: st))) : own_Fin p e below s n0 Q k n T (mkF m pc Ls (.long y' :: .long x :: st)) := by
  exact own_lremE X hd hnz _ rfl (H _ rfl (by subst hxa hyb; have q := (c_lrem x y' _ rfl).1 q1; rw [lrem_mod] at q; rw [q]; exact ⟨Int.emod_nonneg _ (by omega), Int.emod_lt_of_pos _ q2, own_emod_le q1 q2⟩) (rng64 _).1 (rng64 _).2)
theorem own_i2lE (X : own_S p l e R s m av below meth c Z y co ml rt n0 T ce sl h) {x : Int32} (hd : decode co pc = .ok (.i2l, 1)) (z : Int64) (hz : x.toInt64 = z) (H : own_Fin p e below s n0 Q k n T (mkF m (pc + 1) Ls (.long z :: st))) : own_Fin p e below s n0 Q k n T (mkF m pc Ls (.int x :: st)) := by
  subst hz
  obtain ⟨⟨hx, hby, -⟩, locs, X, -⟩ := X
  exact own_go (fun _ q => XS.i2l X.here hx rfl (hb hby hd) rfl q) H
theorem own_i2lV (X : own_S p l e R s m av below meth c Z y co ml rt n0 T ce sl h) {x : Int32} (a : Int) (hd : decode co pc = .ok (.i2l, 1)) (hxa : x.toInt = a) (H : ∀ v : Int64, x.toInt64 = v → v.toInt = a → -9223372036854775808 ≤ v.toInt → v.toInt < 9223372036854775808 → own_Fin p e below s n0 Q k n T (mkF m (pc + 1) Ls (.long v :: st))) : own_Fin p e below s n0 Q k n T (mkF m pc Ls (.int x :: st)) := by
  exact own_i2lE X hd _ rfl (H _ rfl (by subst hxa; exact c_i2l x) (rng64 _).1 (rng64 _).2)
theorem own_l2iE (X : own_S p l e R s m av below meth c Z y co ml rt n0 T ce sl h) {x : Int64} (hd : decode co pc = .ok (.l2i, 1)) (z : Int32) (hz : x.toInt32 = z) (H : own_Fin p e below s n0 Q k n T (mkF m (pc + 1) Ls (.int z :: st))) : own_Fin p e below s n0 Q k n T (mkF m pc Ls (.long x :: st)) := by
  subst hz
  obtain ⟨⟨hx, hby, -⟩, locs, X, -⟩ := X
  exact own_go (fun _ q => XS.l2i X.here hx rfl (hb hby hd) rfl q) H
theorem own_l2iV (X : own_S p l e R s m av below meth c Z y co ml rt n0 T ce sl h) {x : Int64} (a : Int) (hd : decode co pc = .ok (.l2i, 1)) (hxa : x.toInt = a) (H : ∀ v : Int32, x.toInt32 = v → (v.toInt - a) % 4294967296 = 0 → -2147483648 ≤ v.toInt → v.toInt < 2147483648 → own_Fin p e below s n0 Q k n T (mkF m (pc + 1) Ls (.int v :: st))) : own_Fin p e below s n0 Q k n T (mkF m pc Ls (.long x :: st)) := by
  exact own_l2iE X hd _ rfl (H _ rfl (by subst hxa; exact c_l2i x) (rng32 _).1 (rng32 _).2)
theorem own_i2bE (X : own_S p l e R s m av below meth c Z y co ml rt n0 T ce sl h) {x : Int32} (hd : decode co pc = .ok (.i2b, 1)) (z : Int32) (hz : x.toInt8.toInt32 = z) (H : own_Fin p e below s n0 Q k n T (mkF m (pc + 1) Ls (.int z :: st))) : own_Fin p e below s n0 Q k n T (mkF m pc Ls (.int x :: st)) := by
  subst hz
  obtain ⟨⟨hx, hby, -⟩, locs, X, -⟩ := X
  exact own_go (fun _ q => XS.i2b X.here hx rfl (hb hby hd) rfl q) H
theorem own_i2bV (X : own_S p l e R s m av below meth c Z y co ml rt n0 T ce sl h) {x : Int32} (a : Int) (hd : decode co pc = .ok (.i2b, 1)) (hxa : x.toInt = a) (H : ∀ v : Int32, x.toInt8.toInt32 = v → (v.toInt - a) % 256 = 0 ∧ -128 ≤ v.toInt ∧ v.toInt < 128 → -2147483648 ≤ v.toInt → v.toInt < 2147483648 → own_Fin p e below s n0 Q k n T (mkF m (pc + 1) Ls (.int v :: st))) : own_Fin p e below s n0 Q k n T (mkF m pc Ls (.int x :: st)) := by
  exact own_i2bE X hd _ rfl (H _ rfl (by subst hxa; exact c_i2b x) (rng32 _).1 (rng32 _).2)
theorem own_i2sE (X : own_S p l e R s m av below meth c Z y co ml rt n0 T ce sl h) {x : Int32} (hd : decode co pc = .ok (.i2s, 1)) (z : Int32) (hz : x.toInt16.toInt32 = z) (H : own_Fin p e below s n0 Q k n T (mkF m (pc + 1) Ls (.int z :: st))) : own_Fin p e below s n0 Q k n T (mkF m pc Ls (.int x :: st)) := by
  subst hz
  obtain ⟨⟨hx, hby, -⟩, locs, X, -⟩ := X
  exact own_go (fun _ q => XS.i2s X.here hx rfl (hb hby hd) rfl q) H
theorem own_i2sV (X : own_S p l e R s m av below meth c Z y co ml rt n0 T ce sl h) {x : Int32} (a : Int) (hd : decode co pc = .ok (.i2s, 1)) (hxa : x.toInt = a) (H : ∀ v : Int32, x.toInt16.toInt32 = v → (v.toInt - a) % 65536 = 0 ∧ -32768 ≤ v.toInt ∧ v.toInt < 32768 → -2147483648 ≤ v.toInt → v.toInt < 2147483648 → own_Fin p e below s n0 Q k n T (mkF m (pc + 1) Ls (.int v :: st))) : own_Fin p e below s n0 Q k n T (mkF m pc Ls (.int x :: st)) := by
  exact own_i2sE X hd _ rfl (H _ rfl (by subst hxa; exact c_i2s x) (rng32 _).1 (rng32 _).2)
theorem own_i2cE (X : own_S p l e R s m av below meth c Z y co ml rt n0 T ce sl h) {x : Int32} (hd : decode co pc = .ok (.i2c, 1)) (z : Int32) (hz : x.toUInt32.toUInt16.toUInt32.toInt32 = z) (H : own_Fin p e below s n0 Q k n T (mkF m (pc + 1) Ls (.int z :: st))) : own_Fin p e below s n0 Q k n T (mkF m pc Ls (.int x :: st)) := by
  subst hz
  obtain ⟨⟨hx, hby, -⟩, locs, X, -⟩ := X
  exact own_go (fun _ q => XS.i2c X.here hx rfl (hb hby hd) rfl q) H
theorem own_i2cV (X : own_S p l e R s m av below meth c Z y co ml rt n0 T ce sl h) {x : Int32} (a : Int) (hd : decode co pc = .ok (.i2c, 1)) (hxa : x.toInt = a) (H : ∀ v : Int32, x.toUInt32.toUInt16.toUInt32.toInt32 = v → (v.toInt - a) % 65536 = 0 ∧ 0 ≤ v.toInt ∧ v.toInt < 65536 → -2147483648 ≤ v.toInt → v.toInt < 2147483648 → own_Fin p e below s n0 Q k n T (mkF m (pc + 1) Ls (.int v :: st))) : own_Fin p e below s n0 Q k n T (mkF m pc Ls (.int x :: st)) := by
  exact own_i2cE X hd _ rfl (H _ rfl (by subst hxa; exact c_i2c x) (rng32 _).1 (rng32 _).2)
theorem own_lcmp (X : own_S p l e R s m av below meth c Z y co ml rt n0 T ce sl h) {x y' : Int64} (hd : decode co pc = .ok (.lcmp, 1)) (H : own_Fin p e below s n0 Q k n T (mkF m (pc + 1) Ls (.int (lcmpW x y') :: st))) : own_Fin p e below s n0 Q k n T (mkF m pc Ls (.long y' :: .long x :: st)) := by
  obtain ⟨⟨hx, hby, -⟩, locs, X, -⟩ := X
  exact own_go (fun _ q => XS.lcmp X.here hx rfl (hb hby hd) rfl q) H
theorem own_dup (X : own_S p l e R s m av below meth c Z y co ml rt n0 T ce sl h) {v : Value} (hd : decode co pc = .ok (.dup, 1)) (hv : v.category = 1) (H : own_Fin p e below s n0 Q k n T (mkF m (pc + 1) Ls (v :: v :: st))) : own_Fin p e below s n0 Q k n T (mkF m pc Ls (v :: st)) := by
  obtain ⟨⟨hx, hby, -⟩, locs, X, -⟩ := X
  exact own_go (fun _ q => XS.dup X.here hx rfl (hb hby hd) rfl hv q) H
theorem own_dupX1 (X : own_S p l e R s m av below meth c Z y co ml rt n0 T ce sl h) {v w : Value} (hd : decode co pc = .ok (.dup_x1, 1)) (hv : v.category = 1) (hw : w.category = 1) (H : own_Fin p e below s n0 Q k n T (mkF m (pc + 1) Ls (v :: w :: v :: st))) : own_Fin p e below s n0 Q k n T (mkF m pc Ls (v :: w :: st)) := by
  obtain ⟨⟨hx, hby, -⟩, locs, X, -⟩ := X
  exact own_go (fun _ q => XS.dupX1 X.here hx rfl (hb hby hd) rfl hv hw q) H
theorem own_pop (X : own_S p l e R s m av below meth c Z y co ml rt n0 T ce sl h) {v : Value} (hd : decode co pc = .ok (.pop, 1)) (hv : v.category = 1) (H : own_Fin p e below s n0 Q k n T (mkF m (pc + 1) Ls (st))) : own_Fin p e below s n0 Q k n T (mkF m pc Ls (v :: st)) := by
  obtain ⟨⟨hx, hby, -⟩, locs, X, -⟩ := X
  exact own_go (fun _ q => XS.pop X.here hx rfl (hb hby hd) rfl hv q) H
theorem own_iinc (X : own_S p l e R s m av below meth c Z y co ml rt n0 T ce sl h) {i : Nat} {z : Int} {x z' : Int32} {L' : Array Slot} (hd : decode co pc = .ok (.iinc i z, 3)) (hl : Ls[i]? = some (.val (.int x))) (hz : Int32.ofInt z = z') (hl' : storeLocals Ls i (.int (x + z')) = some L') (H : own_Fin p e below s n0 Q k n T (mkF m (pc + 3) L' (st))) : own_Fin p e below s n0 Q k n T (mkF m pc Ls (st)) := by
  obtain ⟨⟨hx, hby, -⟩, locs, X, -⟩ := X
  exact own_go (fun _ q => XS.iinc X.here hx rfl (hb hby hd) hl (by rw [hz]; exact hl') q) H
theorem own_goto (X : own_S p l e R s m av below meth c Z y co ml rt n0 T ce sl h) {o : Int} (pc' : Nat) (hd : decode co pc = .ok (.goto o, 3)) (ho : 0 ≤ (pc : Int) + o) (hp : ((pc : Int) + o).toNat = pc') (H : own_Fin p e below s n0 Q k n T (mkF m pc' Ls (st))) : own_Fin p e below s n0 Q k n T (mkF m pc Ls (st)) := by
  obtain ⟨⟨hx, hby, -⟩, locs, X, -⟩ := X
  exact own_go (fun _ q => XS.goto X.here hx rfl rfl (hb hby hd) ho hp q) H
theorem own_icmpYes (X : own_S p l e R s m av below meth c Z y co ml rt n0 T ce sl h) {cd : ClassFile.Cond} {o : Int} {x y' : Int32} (pc' : Nat) (hd : decode co pc = .ok (.if_icmp cd o, 3)) (hc : if_icmp.holds cd x y' = true) (ho : 0 ≤ (pc : Int) + o) (hp : ((pc : Int) + o).toNat = pc') (H : own_Fin p e below s n0 Q k n T (mkF m pc' Ls (st))) : own_Fin p e below s n0 Q k n T (mkF m pc Ls (.int y' :: .int x :: st)) := by
  obtain ⟨⟨hx, hby, -⟩, locs, X, -⟩ := X
  exact own_go (fun _ q => XS.icmpYes X.here hx rfl rfl (hb hby hd) rfl hc ho hp q) H
theorem own_icmpNo (X : own_S p l e R s m av below meth c Z y co ml rt n0 T ce sl h) {cd : ClassFile.Cond} {o : Int} {x y' : Int32} (hd : decode co pc = .ok (.if_icmp cd o, 3)) (hc : if_icmp.holds cd x y' = false) (H : own_Fin p e below s n0 Q k n T (mkF m (pc + 3) Ls (st))) : own_Fin p e below s n0 Q k n T (mkF m pc Ls (.int y' :: .int x :: st)) := by
  obtain ⟨⟨hx, hby, -⟩, locs, X, -⟩ := X
  exact own_go (fun _ q => XS.icmpNo X.here hx rfl (hb hby hd) rfl hc q) H
theorem own_ifYes (X : own_S p l e R s m av below meth c Z y co ml rt n0 T ce sl h) {cd : ClassFile.Cond} {o : Int} {x : Int32} (pc' : Nat) (hd : decode co pc = .ok (.ifCond cd o, 3)) (hc : ifCond.holds cd x = true) (ho : 0 ≤ (pc : Int) + o) (hp : ((pc : Int) + o).toNat = pc') (H : own_Fin p e below s n0 Q k n T (mkF m pc' Ls (st))) : own_Fin p e below s n0 Q k n T (mkF m pc Ls (.int x :: st)) := by
  obtain ⟨⟨hx, hby, -⟩, locs, X, -⟩ := X
  exact own_go (fun _ q => XS.ifYes X.here hx rfl rfl (hb hby hd) rfl hc ho hp q) H
theorem own_ifNo (X : own_S p l e R s m av below meth c Z y co ml rt n0 T ce sl h) {cd : ClassFile.Cond} {o : Int} {x : Int32} (hd : decode co pc = .ok (.ifCond cd o, 3)) (hc : ifCond.holds cd x = false) (H : own_Fin p e below s n0 Q k n T (mkF m (pc + 3) Ls (st))) : own_Fin p e below s n0 Q k n T (mkF m pc Ls (.int x :: st)) := by
  obtain ⟨⟨hx, hby, -⟩, locs, X, -⟩ := X
  exact own_go (fun _ q => XS.ifNo X.here hx rfl (hb hby hd) rfl hc q) H
theorem own_ifnullYes (X : own_S p l e R s m av below meth c Z y co ml rt n0 T ce sl h) {o : Int} (pc' : Nat) (hd : decode co pc = .ok (.ifnull o, 3)) (ho : 0 ≤ (pc : Int) + o) (hp : ((pc : Int) + o).toNat = pc') (H : own_Fin p e below s n0 Q k n T (mkF m pc' Ls (st))) : own_Fin p e below s n0 Q k n T (mkF m pc Ls (.null :: st)) := by
  obtain ⟨⟨hx, hby, -⟩, locs, X, -⟩ := X
  exact own_go (fun _ q => XS.ifnullYes X.here hx rfl rfl (hb hby hd) rfl ho hp q) H
theorem own_ifnullNo (X : own_S p l e R s m av below meth c Z y co ml rt n0 T ce sl h) {o : Int} {b : Addr} (hd : decode co pc = .ok (.ifnull o, 3)) (H : own_Fin p e below s n0 Q k n T (mkF m (pc + 3) Ls (st))) : own_Fin p e below s n0 Q k n T (mkF m pc Ls (.ref b :: st)) := by
  obtain ⟨⟨hx, hby, -⟩, locs, X, -⟩ := X
  exact own_go (fun _ q => XS.ifnullNo X.here hx rfl (hb hby hd) rfl q) H
theorem own_ifnonnullYes (X : own_S p l e R s m av below meth c Z y co ml rt n0 T ce sl h) {o : Int} {b : Addr} (pc' : Nat) (hd : decode co pc = .ok (.ifnonnull o, 3)) (ho : 0 ≤ (pc : Int) + o) (hp : ((pc : Int) + o).toNat = pc') (H : own_Fin p e below s n0 Q k n T (mkF m pc' Ls (st))) : own_Fin p e below s n0 Q k n T (mkF m pc Ls (.ref b :: st)) := by
  obtain ⟨⟨hx, hby, -⟩, locs, X, -⟩ := X
  exact own_go (fun _ q => XS.ifnonnullYes X.here hx rfl rfl (hb hby hd) rfl ho hp q) H
theorem own_ifnonnullNo (X : own_S p l e R s m av below meth c Z y co ml rt n0 T ce sl h) {o : Int} (hd : decode co pc = .ok (.ifnonnull o, 3)) (H : own_Fin p e below s n0 Q k n T (mkF m (pc + 3) Ls (st))) : own_Fin p e below s n0 Q k n T (mkF m pc Ls (.null :: st)) := by
  obtain ⟨⟨hx, hby, -⟩, locs, X, -⟩ := X
  exact own_go (fun _ q => XS.ifnonnullNo X.here hx rfl (hb hby hd) rfl q) H
theorem own_dup2 (X : own_S p l e R s m av below meth c Z y co ml rt n0 T ce sl h) {v w : Value} (hd : decode co pc = .ok (.dup2, 1)) (hv : v.category = 1) (hw : w.category = 1) (H : own_Fin p e below s n0 Q k n T (mkF m (pc + 1) Ls (v :: w :: v :: w :: st))) : own_Fin p e below s n0 Q k n T (mkF m pc Ls (v :: w :: st)) := by
  obtain ⟨⟨hx, hby, -⟩, locs, X, -⟩ := X
  exact own_go (fun _ q => XT.dup2 X.here hx rfl (hb hby hd) rfl hv hw q) H
theorem own_tswOut (X : own_S p l e R s m av below meth c Z y co ml rt n0 T ce sl h) {df lo hi : Int} {offs : Array Int} {len : Nat} {x : Int32} (pc' : Nat) (hd : decode co pc = .ok (.tableswitch df lo hi offs, len)) (hc : x.toInt < lo ∨ x.toInt > hi) (ho : 0 ≤ (pc : Int) + df) (hp : ((pc : Int) + df).toNat = pc') (H : own_Fin p e below s n0 Q k n T (mkF m pc' Ls st)) : own_Fin p e below s n0 Q k n T (mkF m pc Ls (.int x :: st)) := by
  obtain ⟨⟨hx, hby, -⟩, locs, X, -⟩ := X
  exact own_go (fun _ q => XS.tswOut X.here hx rfl rfl (hb hby hd) rfl hc ho hp q) H
theorem own_tswIn (X : own_S p l e R s m av below meth c Z y co ml rt n0 T ce sl h) {df lo hi o : Int} {offs : Array Int} {len : Nat} {x : Int32} (pc' : Nat) (hd : decode co pc = .ok (.tableswitch df lo hi offs, len)) (hc : ¬ (x.toInt < lo ∨ x.toInt > hi)) (hof : offs[(x.toInt - lo).toNat]? = some o) (ho : 0 ≤ (pc : Int) + o) (hp : ((pc : Int) + o).toNat = pc') (H : own_Fin p e below s n0 Q k n T (mkF m pc' Ls st)) : own_Fin p e below s n0 Q k n T (mkF m pc Ls (.int x :: st)) := by
  obtain ⟨⟨hx, hby, -⟩, locs, X, -⟩ := X
  exact own_go (fun _ q => XS.tswIn X.here hx rfl rfl (hb hby hd) rfl hc hof ho hp q) H
theorem own_all_offs {offs : Array Int} {o : Int} {i k : Nat} (h : ∀ j, j < k → offs[j]? = some o) (hi : i < k) : offs[i]? = some o := h i hi
theorem own_iincW (X : own_S p l e R s m av below meth c Z y co ml rt n0 T ce sl h) {i : Nat} {z : Int} {x z' : Int32} {L' : Array Slot} (hd : decode co pc = .ok (.iinc i z, 6)) (hl : Ls[i]? = some (.val (.int x))) (hz : Int32.ofInt z = z') (hl' : storeLocals Ls i (.int (x + z')) = some L') (H : own_Fin p e below s n0 Q k n T (mkF m (pc + 6) L' st)) : own_Fin p e below s n0 Q k n T (mkF m pc Ls st) := by
  subst hz
  obtain ⟨⟨hx, hby, -⟩, locs, X, -⟩ := X
  have hd' := hb hby hd
  refine own_go (fun target q => ?_) H
  jvm_step X.here [X.here.top, hx, hd', hl, hl']
  exact q
theorem own_ldc (X : own_S p l e R s m av below meth c Z y co ml rt n0 T ce sl h) {ix : Nat} {z : Int32} (w : (Jvm.Cond.constant y.cls ix z).before a0 Z = true) (hd : decode co pc = .ok (.ldc ix, 2)) (H : own_Fin p e below s n0 Q k n T (mkF m (pc + 2) Ls (.int z :: st))) : own_Fin p e below s n0 Q k n T (mkF m pc Ls st) := by
  obtain ⟨⟨hx, hby, -, hown, -, -, -, hZ⟩, locs, X, -⟩ := X
  exact own_go (X.ldcInt hx hown (mvT hZ w) (g := mkF m pc Ls st) rfl (hb hby hd)) H
theorem own_ldc2 (X : own_S p l e R s m av below meth c Z y co ml rt n0 T ce sl h) {ix : Nat} {z : Int64} (w : (Jvm.Cond.constantLong y.cls ix z).before a0 Z = true) (hd : decode co pc = .ok (.ldc2_w ix, 3)) (H : own_Fin p e below s n0 Q k n T (mkF m (pc + 3) Ls (.long z :: st))) : own_Fin p e below s n0 Q k n T (mkF m pc Ls st) := by
  obtain ⟨⟨hx, hby, -, hown, -, -, -, hZ⟩, locs, X, -⟩ := X
  exact own_go (X.ldc2Long hx hown (mvT hZ w) (g := mkF m pc Ls st) rfl (hb hby hd)) H
/-- the five returns -/
theorem own_ret (X : own_S p l e R s m av below meth c Z y co ml rt n0 T ce sl h) {t : FieldType} {i : Instr} {w w' : Value} (hrt : rt = some t) (hn : narrow t w' = w') (hst : ∀ {fs : List Frame} {locs : List Loc}, Stand p l e R s m av below meth c T locs ce sl → p.tables.exec = Jvm.exec → meth.sig.returnType = some t → decode c.code pc = .ok (i, 1) →
      (∀ (f : JFrame) (acts : List Action), f.method = m → f.locked = none → f.entered = [] → (doReturn e (T.setTop f) acts (some w')).1 = T.setFrames fs) → Steps p.tables e below (T.setTop (mkF m pc Ls (w :: st))) (T.setFrames fs))
    (hd : decode co pc = .ok (i, 1)) (hk : ce ≤ k) (hk' : sl ≤ n) (q : Q (some w') h) : own_Fin p e below s n0 Q k n T (mkF m pc Ls (w :: st)) := by
  obtain ⟨⟨hx, hby, -, -, -, hret, hlk, hZ⟩, locs, X, N, eh, -⟩ := X
  obtain ⟨fs, hr, hrun, hended, hW, hsame⟩ := X.leave (v := some w') (fun h => by rw [hret, hrt] at h; cases h) hlk
  exact ⟨_, _, hst X hx (by rw [hret, hrt]) (hb hby hd) hr, hrun, hended, _, _, rfl, ⟨N, by rw [show (T.setFrames fs).heap = h from eh]; exact q⟩, ⟨_, rfl⟩, hW, hsame.mono hk hk'⟩
theorem own_retI (X : own_S p l e R s m av below meth c Z y co ml (some .int) n0 T ce sl h) {z : Int32} (hd : decode co pc = .ok (.ireturn, 1)) (hk : ce ≤ k) (hk' : sl ≤ n) (q : Q (some (.int z)) h) : own_Fin p e below s n0 Q k n T (mkF m pc Ls (.int z :: st)) :=
  own_ret X rfl rfl (fun X hx hret hd hl => retOut X hx hret rfl (Or.inl ⟨rfl, Or.inl rfl, z, rfl⟩) hd hl) hd hk hk' q
theorem own_retN {t : FieldType} (X : own_S p l e R s m av below meth c Z y co ml (some t) n0 T ce sl h) {z z' : Int32} (ht : t = .boolean ∨ t = .byte ∨ t = .char ∨ t = .short) (hz : nar t z = z') (hz' : nar t z' = z') (hd : decode co pc = .ok (.ireturn, 1)) (hk : ce ≤ k) (hk' : sl ≤ n) (q : Q (some (.int z')) h) : own_Fin p e below s n0 Q k n T (mkF m pc Ls (.int z :: st)) :=
  own_ret X rfl (by rcases ht with rfl | rfl | rfl | rfl <;> exact congrArg Value.int hz') (fun X hx hret hd hl => retN X hx hret ht hd (by rw [hz]; exact hl)) hd hk hk' q
theorem own_retJ (X : own_S p l e R s m av below meth c Z y co ml (some .long) n0 T ce sl h) {z : Int64} (hd : decode co pc = .ok (.lreturn, 1)) (hk : ce ≤ k) (hk' : sl ≤ n) (q : Q (some (.long z)) h) : own_Fin p e below s n0 Q k n T (mkF m pc Ls (.long z :: st)) :=
  own_ret X rfl rfl (fun X hx hret hd hl => retOut X hx hret rfl (Or.inr (Or.inl ⟨rfl, rfl, z, rfl⟩)) hd hl) hd hk hk' q
theorem own_retR {t : FieldType} (X : own_S p l e R s m av below meth c Z y co ml (some t) n0 T ce sl h) {w : Value} (ht : t.isReference = true) (hw : w.isRef = true) (hd : decode co pc = .ok (.areturn, 1)) (hk : ce ≤ k) (hk' : sl ≤ n) (q : Q (some w) h) : own_Fin p e below s n0 Q k n T (mkF m pc Ls (w :: st)) :=
  have hn : narrow t w = w := by cases t <;> first | (cases ht; done) | rfl
  own_ret X rfl hn (fun X hx hret hd hl => retOut X hx hret hn (Or.inr (Or.inr (Or.inr (Or.inr ⟨rfl, ht, hw⟩)))) hd hl) hd hk hk' q
theorem own_retV (X : own_S p l e R s m av below meth c Z y co ml none n0 T ce sl h) (hd : decode co pc = .ok (.return_, 1)) (hk : ce ≤ k) (hk' : sl ≤ n) (q : Q none h) : own_Fin p e below s n0 Q k n T (mkF m pc Ls []) := by
  obtain ⟨⟨hx, hby, -, -, -, hret, hlk, hZ⟩, locs, X, N, eh, -⟩ := X
  obtain ⟨fs, hr, hrun, hended, hW, hsame⟩ := X.leave (v := none) (fun _ => rfl) hlk
  exact ⟨_, _, X.returnOut hx hret (hb hby hd) hr, hrun, hended, _, _, rfl, ⟨N, by rw [show (T.setFrames fs).heap = h from eh]; exact q⟩, ⟨_, rfl⟩, hW, hsame.mono hk hk'⟩
/-- a static call by its contract -/
theorem own_callS (X : own_S p l e R s m av below meth c Z y co ml rt n0 T ce sl h) {ix : Nat} {y' : MethodName} {co' : ByteArray} {ml' W : Nat} {rt' : Option FieldType} {rm : Room} {Q' : Option Value → Heap → Prop} {argsL rest stk : List Value}
    (w1 : (Jvm.Cond.methodLink y.cls ix y').before a0 Z = true) (w2 : (Jvm.Cond.static y').before a0 Z = true) (w3 : (Jvm.Cond.initialized y'.cls).before a0 Z = true) (w4 : (Jvm.Cond.code y' co' ml' rt').before a0 Z = true) (hy : y'.cls ≠ "java/lang/invoke/MethodHandle" ∧ y'.cls ≠ "java/lang/invoke/VarHandle")
    (M : own_Met l Z y' co' ml' rt' [] rm argsL.toArray h n0 Q') (hf : rm.frames + 1 ≤ R.frames) (hlo : W + (ml' + 11) + rm.locals ≤ R.locals) (hce : ce + rm.cells ≤ R.cells) (hsl : sl + rm.slots ≤ R.slots)
    (hL : Ls.size = ml) (hlen : ∀ sig, parseMethodDescriptor y'.desc = some sig → argsL.length = sig.parameters.length) (hs : stk = argsL.reverse ++ rest) (hW : (rest.map fun v => v.category).sum ≤ W) (hd : decode co pc = .ok (.invokestatic ix, 3))
    (H : ∀ T' h' v, own_S p l e R s m av below meth c Z y co ml rt n0 T' (ce + rm.cells) (sl + rm.slots) h' → Q' v h' → own_Fin p e below s n0 Q k n T' (mkF m (pc + 3) Ls (v.toList ++ rest))) : own_Fin p e below s n0 Q k n T (mkF m pc Ls stk) := by
  obtain ⟨C, locs, X, N, eh, hn⟩ := X
  obtain ⟨hx, hby, hml, hown, -, -, -, hZ⟩ := id C
  obtain ⟨v, _, ⟨T', L', k', n'⟩, -, X', ⟨Lc, ⟨hN, hQ⟩, l1, l2, l3⟩, st'⟩ := Jvm.LawKit.callS X hx (y := y') hown (mvT hZ w1) (mvT hZ w2) (mvT hZ w3) (mvT hZ w4) hy (backOf (Q := fun v h' L => Fr n0 L ∧ Q' v h') (W := W) M hZ w4 w3 hf hlo) (g := mkF m pc Ls stk) rfl (by rw [hml]; exact hL) (argsL := argsL) (rest := rest) hlen hs (by show 2 * 0 + _ ≤ _; omega) (hb hby hd) (fun _ _ => ⟨rfl, eh, hce, hsl⟩)
  dsimp only [Pt.U, Pt.locs, Pt.cells, Pt.slots] at X' l1 l2 l3 st' hQ
  subst l1 l2 l3
  exact own_go st' (H T' T'.heap v ⟨C, _, X', N.app hN, rfl, hn⟩ hQ)
/-- the forms of a contract's promise, and how a call goes on -/
def own_QI (P : Int32 → Heap → Prop) (v : Option Value) (h : Heap) : Prop := ∃ z, v = some (.int z) ∧ P z h
def own_QJ (P : Int64 → Heap → Prop) (v : Option Value) (h : Heap) : Prop := ∃ z, v = some (.long z) ∧ P z h
def own_QR (P : Value → Heap → Prop) (v : Option Value) (h : Heap) : Prop := ∃ z, v = some z ∧ P z h
def own_QV (P : Heap → Prop) (v : Option Value) (h : Heap) : Prop := v = none ∧ P h
theorem own_contI {P : Int32 → Prop} {h0 : Heap} (H : ∀ T' (z : Int32), own_S p l e R s m av below meth c Z y co ml rt n0 T' ce sl h0 → P z → own_Fin p e below s n0 Q k n T' (mkF m pc Ls (.int z :: st))) :
    ∀ T' h' v, own_S p l e R s m av below meth c Z y co ml rt n0 T' ce sl h' → own_QI (fun z h => P z ∧ h = h0) v h' → own_Fin p e below s n0 Q k n T' (mkF m pc Ls (v.toList ++ st)) := by
  rintro T' h' v X ⟨z, rfl, hz, rfl⟩; exact H T' z X hz
theorem own_contJ {P : Int64 → Prop} {h0 : Heap} (H : ∀ T' (z : Int64), own_S p l e R s m av below meth c Z y co ml rt n0 T' ce sl h0 → P z → own_Fin p e below s n0 Q k n T' (mkF m pc Ls (.long z :: st))) :
    ∀ T' h' v, own_S p l e R s m av below meth c Z y co ml rt n0 T' ce sl h' → own_QJ (fun z h => P z ∧ h = h0) v h' → own_Fin p e below s n0 Q k n T' (mkF m pc Ls (v.toList ++ st)) := by
  rintro T' h' v X ⟨z, rfl, hz, rfl⟩; exact H T' z X hz
theorem own_contR {P : Value → Prop} {h0 : Heap} (H : ∀ T' (z : Value), own_S p l e R s m av below meth c Z y co ml rt n0 T' ce sl h0 → P z → own_Fin p e below s n0 Q k n T' (mkF m pc Ls (z :: st))) :
    ∀ T' h' v, own_S p l e R s m av below meth c Z y co ml rt n0 T' ce sl h' → own_QR (fun z h => P z ∧ h = h0) v h' → own_Fin p e below s n0 Q k n T' (mkF m pc Ls (v.toList ++ st)) := by
  rintro T' h' v X ⟨z, rfl, hz, rfl⟩; exact H T' z X hz
theorem own_contIH {P : Int32 → Heap → Prop} (H : ∀ T' h' (z : Int32), own_S p l e R s m av below meth c Z y co ml rt n0 T' ce sl h' → P z h' → own_Fin p e below s n0 Q k n T' (mkF m pc Ls (.int z :: st))) :
    ∀ T' h' v, own_S p l e R s m av below meth c Z y co ml rt n0 T' ce sl h' → own_QI P v h' → own_Fin p e below s n0 Q k n T' (mkF m pc Ls (v.toList ++ st)) := by
  rintro T' h' v X ⟨z, rfl, hz⟩; exact H T' h' z X hz
theorem own_contRH {P : Value → Heap → Prop} (H : ∀ T' h' (z : Value), own_S p l e R s m av below meth c Z y co ml rt n0 T' ce sl h' → P z h' → own_Fin p e below s n0 Q k n T' (mkF m pc Ls (z :: st))) :
    ∀ T' h' v, own_S p l e R s m av below meth c Z y co ml rt n0 T' ce sl h' → own_QR P v h' → own_Fin p e below s n0 Q k n T' (mkF m pc Ls (v.toList ++ st)) := by
  rintro T' h' v X ⟨z, rfl, hz⟩; exact H T' h' z X hz
theorem own_contV {P : Prop} {h0 : Heap} (H : ∀ T', own_S p l e R s m av below meth c Z y co ml rt n0 T' ce sl h0 → P → own_Fin p e below s n0 Q k n T' (mkF m pc Ls st)) :
    ∀ T' h' v, own_S p l e R s m av below meth c Z y co ml rt n0 T' ce sl h' → own_QV (fun h => P ∧ h = h0) v h' → own_Fin p e below s n0 Q k n T' (mkF m pc Ls (v.toList ++ st)) := by
  rintro T' h' v X ⟨rfl, hz, rfl⟩; exact H T' X hz
theorem own_contVH {P : Heap → Prop} (H : ∀ T' h', own_S p l e R s m av below meth c Z y co ml rt n0 T' ce sl h' → P h' → own_Fin p e below s n0 Q k n T' (mkF m pc Ls st)) :
    ∀ T' h' v, own_S p l e R s m av below meth c Z y co ml rt n0 T' ce sl h' → own_QV P v h' → own_Fin p e below s n0 Q k n T' (mkF m pc Ls (v.toList ++ st)) := by
  rintro T' h' v X ⟨rfl, hz⟩; exact H T' h' X hz
/-- fields, new, Object.<init>, the other calls -/
theorem own_getF (X : own_S p l e R s m av below meth c Z y co ml rt n0 T ce sl h) {R0 O nm d host : String} {ix : Nat} {a : Addr} {v : Value} (w : (Jvm.Cond.fieldLink y.cls ix R0 nm d).before a0 Z = true ∨ (Jvm.Cond.fieldLinkNest y.cls ix R0 nm d host).before a0 Z = true) (via : Via Z R0 O nm d) (F : Fld Z h a O nm d v) (hd : decode co pc = .ok (.getfield ix, 3))
    (H : ∀ T', own_S p l e R s m av below meth c Z y co ml rt n0 T' ce sl h → own_Fin p e below s n0 Q k n T' (mkF m (pc + 3) Ls (v :: st))) : own_Fin p e below s n0 Q k n T (mkF m pc Ls (.ref a :: st)) := by
  obtain ⟨C, locs, X, N, eh, hn⟩ := X
  obtain ⟨hx, hby, hml, hown, -, -, -, hZ⟩ := id C
  obtain ⟨T', X', e', st'⟩ := getF X hx hZ hown w via eh F (g := mkF m pc Ls (.ref a :: st)) rfl rfl (hb hby hd)
  exact own_go st' (H T' ⟨C, _, X', N, e', hn⟩)
theorem own_putF (X : own_S p l e R s m av below meth c Z y co ml rt n0 T ce sl h) {R0 O nm d host K : String} {ix kk : Nat} {ty : FieldType} {a : Addr} {v old : Value} (w : (Jvm.Cond.fieldLink y.cls ix R0 nm d).before a0 Z = true ∨ (Jvm.Cond.fieldLinkNest y.cls ix R0 nm d host).before a0 Z = true) (via : Via Z R0 O nm d) (F : Fld Z h a O nm d old) (E : Exa Z h a K)
    (Lw : (Jvm.Cond.lays K O nm d).before a0 Z = true ∨ ((Jvm.Cond.laysFinal K O nm d).before a0 Z = true ∧ y.cls = O ∧ y.name = "<init>")) (wi : (Jvm.Cond.instantiable K kk).before a0 Z = true) (hty : parseFieldDescriptor d = some ty) (hnw : narrow ty v = v) (hft : fits ty v = true) (ge : n0 ≤ a) (hd : decode co pc = .ok (.putfield ix, 3))
    (H : ∀ T' h', own_S p l e R s m av below meth c Z y co ml rt n0 T' ce sl h' → Wr h h' a (Jvm.RoadKit.slotOf Z O nm d) v → own_Fin p e below s n0 Q k n T' (mkF m (pc + 3) Ls st)) : own_Fin p e below s n0 Q k n T (mkF m pc Ls (v :: .ref a :: st)) := by
  obtain ⟨C, locs, X, N, eh, hn⟩ := X
  obtain ⟨hx, hby, hml, hown, hnm, -, -, hZ⟩ := id C
  obtain ⟨T', h', X', e', W, st'⟩ := putF X hx hZ hown w via eh F E (Lw.imp id fun q => ⟨q.1, q.2.1, hnm.trans q.2.2⟩) wi hty hnw hft (g := mkF m pc Ls (v :: .ref a :: st)) rfl rfl (hb hby hd)
  exact own_go st' (H T' h' ⟨C, _, X', Fr.snoc X' N ge, e', hn⟩ W)
theorem own_putFZ (X : own_S p l e R s m av below meth c Z y co ml rt n0 T ce sl h) {R0 O nm d K : String} {ix kk : Nat} {ty : FieldType} {a : Addr} {v v' old : Value} (w : (Jvm.Cond.fieldLink y.cls ix R0 nm d).before a0 Z = true) (via : Via Z R0 O nm d) (F : Fld Z h a O nm d old) (E : Exa Z h a K)
    (Lw : (Jvm.Cond.lays K O nm d).before a0 Z = true ∨ ((Jvm.Cond.laysFinal K O nm d).before a0 Z = true ∧ y.cls = O ∧ y.name = "<init>")) (wi : (Jvm.Cond.instantiable K kk).before a0 Z = true) (hty : parseFieldDescriptor d = some ty) (hnw : narrow ty v = v') (hft : fits ty v' = true) (ge : n0 ≤ a) (hd : decode co pc = .ok (.putfield ix, 3))
    (H : ∀ T' h', own_S p l e R s m av below meth c Z y co ml rt n0 T' ce sl h' → Wr h h' a (Jvm.RoadKit.slotOf Z O nm d) v' → own_Fin p e below s n0 Q k n T' (mkF m (pc + 3) Ls st)) : own_Fin p e below s n0 Q k n T (mkF m pc Ls (v :: .ref a :: st)) := by
  obtain ⟨C, locs, X, N, eh, hn⟩ := X
  obtain ⟨hx, hby, hml, hown, hnm, -, -, hZ⟩ := id C
  obtain ⟨T', h', X', e', W, st'⟩ := putFN X hx hZ hown w via eh F E (Lw.imp id fun q => ⟨q.1, q.2.1, hnm.trans q.2.2⟩) wi hty hnw hft (g := mkF m pc Ls (v :: .ref a :: st)) rfl rfl (hb hby hd)
  exact own_go st' (H T' h' ⟨C, _, X', Fr.snoc X' N ge, e', hn⟩ W)
theorem own_newO (X : own_S p l e R s m av below meth c Z y co ml rt n0 T ce sl h) {K : String} {ix nn : Nat} (w : (Jvm.Cond.classLink y.cls ix K).before a0 Z = true) (wi : (Jvm.Cond.instantiable K nn).before a0 Z = true) (wz : (Jvm.Cond.initialized K).before a0 Z = true) (hd : decode co pc = .ok (.new ix, 3)) (hc : ce + 1 ≤ R.cells) (hs : sl + nn ≤ R.slots)
    (H : ∀ T' h' (b : Addr), b = h.size → n0 ≤ b → own_S p l e R s m av below meth c Z y co ml rt n0 T' (ce + 1) (sl + nn) h' → Ext h h' → Exa Z h' b K → (∀ {O nm d : String} {ty : FieldType}, Laid Z a0 K O nm d → parseFieldDescriptor d = some ty → Fld Z h' b O nm d (defaultValue ty)) → own_Fin p e below s n0 Q k n T' (mkF m (pc + 3) Ls (.ref b :: st))) : own_Fin p e below s n0 Q k n T (mkF m pc Ls st) := by
  have hz := own_size X
  obtain ⟨C, locs, X, N, eh, hn⟩ := X
  obtain ⟨hx, hby, hml, hown, hnm, -, -, hZ⟩ := id C
  obtain ⟨T', h', X', e', E, A, D, -, st'⟩ := newO X hx hZ hown w wi wz eh (g := mkF m pc Ls st) rfl (hb hby hd) hc hs
  exact own_go st' (H T' h' _ rfl hz ⟨C, _, X', N, e', hn⟩ E A D)
theorem own_initO (X : own_S p l e R s m av below meth c Z y co ml rt n0 T ce sl h) {ix W : Nat} {a : Addr} (w1 : (Jvm.Cond.methodLink y.cls ix Lib.objectInit).before a0 Z = true) (w2 : (Jvm.Cond.instanceMethod Lib.objectInit).before a0 Z = true) (w3 : (Jvm.Cond.code Lib.objectInit object_method_1_code 1 none).before a0 Z = true) (hL : Ls.size = ml) (hd : decode co pc = .ok (.invokespecial ix, 3)) (hf : 1 ≤ R.frames) (hW : (st.map fun v => v.category).sum ≤ W) (hl : W + 12 ≤ R.locals)
    (H : ∀ T', own_S p l e R s m av below meth c Z y co ml rt n0 T' ce sl h → own_Fin p e below s n0 Q k n T' (mkF m (pc + 3) Ls st)) : own_Fin p e below s n0 Q k n T (mkF m pc Ls (.ref a :: st)) := by
  obtain ⟨C, locs, X, N, eh, hn⟩ := X
  obtain ⟨hx, hby, hml, hown, -, -, -, hZ⟩ := id C
  obtain ⟨T', X', e', st'⟩ := initO X hx hZ hown w1 w2 w3 eh (g := mkF m pc Ls (.ref a :: st)) rfl (by rw [hml]; exact hL) rfl (hb hby hd) hf (W := W) (by show 2 * 0 + _ ≤ _; omega) hl
  exact own_go st' (H T' ⟨C, _, X', N, e', hn⟩)
/-- a constructor by its contract -/
theorem own_callI (X : own_S p l e R s m av below meth c Z y co ml rt n0 T ce sl h) {ix : Nat} {y' : MethodName} {co' : ByteArray} {ml' W : Nat} {rm : Room} {Q' : Option Value → Heap → Prop} {a : Addr} {argsL rest stk : List Value} (hi : y'.name = "<init>")
    (w1 : (Jvm.Cond.methodLink y.cls ix y').before a0 Z = true) (w2 : (Jvm.Cond.instanceMethod y').before a0 Z = true) (w3 : (Jvm.Cond.initialized y'.cls).before a0 Z = true) (w4 : (Jvm.Cond.code y' co' ml' none).before a0 Z = true) (hy : y'.cls ≠ "java/lang/invoke/MethodHandle" ∧ y'.cls ≠ "java/lang/invoke/VarHandle")
    (M : own_Met l Z y' co' ml' none [] rm (.ref a :: argsL).toArray h n0 Q') (hf : rm.frames + 1 ≤ R.frames) (hlo : W + (ml' + 11) + rm.locals ≤ R.locals) (hce : ce + rm.cells ≤ R.cells) (hsl : sl + rm.slots ≤ R.slots)
    (hL : Ls.size = ml) (hlen : ∀ sig, parseMethodDescriptor y'.desc = some sig → argsL.length = sig.parameters.length) (hs : stk = argsL.reverse ++ .ref a :: rest) (hW : (rest.map fun v => v.category).sum ≤ W) (hd : decode co pc = .ok (.invokespecial ix, 3))
    (H : ∀ T' h' v, own_S p l e R s m av below meth c Z y co ml rt n0 T' (ce + rm.cells) (sl + rm.slots) h' → Q' v h' → own_Fin p e below s n0 Q k n T' (mkF m (pc + 3) Ls (v.toList ++ rest))) : own_Fin p e below s n0 Q k n T (mkF m pc Ls stk) := by
  obtain ⟨C, locs, X, N, eh, hn⟩ := X
  obtain ⟨hx, hby, hml, hown, -, -, -, hZ⟩ := id C
  obtain ⟨v, _, ⟨T', L', k', n'⟩, -, X', ⟨Lc, ⟨hN, hQ⟩, l1, l2, l3⟩, st'⟩ := X.specialBack hx (y := y') hi hown (mvT hZ w1) (mvT hZ w2) (mvT hZ w4) hy (backOf (Q := fun v h' L => Fr n0 L ∧ Q' v h') (W := W) M hZ w4 w3 hf hlo) (g := mkF m pc Ls stk) rfl (by rw [hml]; exact hL) (Steps.refl _) (a := a) (argsL := argsL) (rest := rest) hlen hs (by show 2 * 0 + _ ≤ _; omega) (hb hby hd) (fun _ _ => ⟨rfl, eh, hce, hsl⟩)
  dsimp only [Pt.U, Pt.locs, Pt.cells, Pt.slots] at X' l1 l2 l3 st' hQ
  subst l1 l2 l3
  exact own_goT st' (H T' T'.heap v ⟨C, _, X', N.app hN, rfl, hn⟩ hQ)
/-- an instance method by its contract -/
theorem own_callV (X : own_S p l e R s m av below meth c Z y co ml rt n0 T ce sl h) {ix : Nat} {K : String} {y' : MethodName} {co' : ByteArray} {ml' W : Nat} {rt' : Option FieldType} {rm : Room} {Q' : Option Value → Heap → Prop} {a : Addr} {argsL rest stk : List Value}
    (w1 : (Jvm.Cond.methodLink y.cls ix y').before a0 Z = true) (w2 : (Jvm.Cond.declares y').before a0 Z = true) (w3 : (Jvm.Cond.selects K y' y').before a0 Z = true) (w5 : (Jvm.Cond.instanceMethod y').before a0 Z = true) (w6 : (Jvm.Cond.initialized y'.cls).before a0 Z = true) (w4 : (Jvm.Cond.code y' co' ml' rt').before a0 Z = true) (hK : K = y'.cls) (hy : y'.cls ≠ "java/lang/invoke/MethodHandle" ∧ y'.cls ≠ "java/lang/invoke/VarHandle")
    (M : own_Met l Z y' co' ml' rt' [] rm (.ref a :: argsL).toArray h n0 Q') (E : Exa Z h a K) (hf : rm.frames + 1 ≤ R.frames) (hlo : W + (ml' + 11) + rm.locals ≤ R.locals) (hce : ce + rm.cells ≤ R.cells) (hsl : sl + rm.slots ≤ R.slots)
    (hL : Ls.size = ml) (hlen : ∀ sig, parseMethodDescriptor y'.desc = some sig → argsL.length = sig.parameters.length) (hs : stk = argsL.reverse ++ .ref a :: rest) (hW : (rest.map fun v => v.category).sum ≤ W) (hd : decode co pc = .ok (.invokevirtual ix, 3))
    (H : ∀ T' h' v, own_S p l e R s m av below meth c Z y co ml rt n0 T' (ce + rm.cells) (sl + rm.slots) h' → Q' v h' → own_Fin p e below s n0 Q k n T' (mkF m (pc + 3) Ls (v.toList ++ rest))) : own_Fin p e below s n0 Q k n T (mkF m pc Ls stk) := by
  subst hK
  obtain ⟨C, locs, X, N, eh, hn⟩ := X
  obtain ⟨hx, hby, hml, hown, -, -, -, hZ⟩ := id C
  obtain ⟨cq, kq, qa, qb, qc⟩ := isOf (T := T) hZ eh E
  obtain ⟨v, _, ⟨T', L', k', n'⟩, -, X', ⟨Lc, ⟨hN, hQ⟩, l1, l2, l3⟩, st'⟩ := X.virtualBack hx (y := y') (z := y') hown (mvT hZ w1) (mvT hZ w2) (notFace_of_selects (args := #[]) (mvT hZ w3)) (mvT hZ w3) (mvT hZ w5) hy (backOf (Q := fun v h' L => Fr n0 L ∧ Q' v h') (W := W) M hZ w4 w6 hf hlo) qa qc (g := mkF m pc Ls stk) rfl (by rw [hml]; exact hL) (Steps.refl _) (argsL := argsL) (rest := rest) hlen hs (by show 2 * 0 + _ ≤ _; omega) (hb hby hd) (fun _ _ => ⟨rfl, eh, hce, hsl⟩)
  dsimp only [Pt.U, Pt.locs, Pt.cells, Pt.slots] at X' l1 l2 l3 st' hQ
  subst l1 l2 l3
  exact own_goT st' (H T' T'.heap v ⟨C, _, X', N.app hN, rfl, hn⟩ hQ)
/-- an array of ints (bytes, chars ..) of N places: place j holds f j -/
def own_AI (Z : State) (h : Heap) (a : Addr) (ty : FieldType) (N : Int32) (f : Int32 → Int32) : Prop := ∃ c : Cell, Arr Z h a c ty ∧ c.slots.size = N.toNatClampNeg ∧ ¬ N < 0 ∧ ∀ j : Int32, ¬ j < 0 → j < N → c.slots[j.toNatClampNeg]? = some (.int (f j)) ∧ fits ty (.int (f j)) = true
def own_AJ (Z : State) (h : Heap) (a : Addr) (N : Int32) (f : Int32 → Int64) : Prop := ∃ c : Cell, Arr Z h a c .long ∧ c.slots.size = N.toNatClampNeg ∧ ¬ N < 0 ∧ ∀ j : Int32, ¬ j < 0 → j < N → c.slots[j.toNatClampNeg]? = some (.long (f j))
def own_upd {α : Type} (f : Int32 → α) (j : Int32) (x : α) : Int32 → α := fun q => if q = j then x else f q
theorem own_upd_hit {α : Type} (f : Int32 → α) (j : Int32) (x : α) : own_upd f j x j = x := if_pos rfl
theorem own_upd_miss {α : Type} {f : Int32 → α} {j i : Int32} {x : α} (q : ¬ i = j) : own_upd f j x i = f i := if_neg q
theorem own_upd_yes {α : Type} {f : Int32 → α} {j i : Int32} {x : α} (q : i = j) : own_upd f j x i = x := if_pos q
theorem own_nat {i j : Int32} (hi : ¬ i < 0) (hj : ¬ j < 0) (ne : ¬ i = j) : i.toNatClampNeg ≠ j.toNatClampNeg := fun q => ne (Int32.toInt_inj.mp (by rw [nat_of hi, nat_of hj, q]))
theorem own_inb {cl : Cell} {j N : Int32} (S : cl.slots.size = N.toNatClampNeg) (h0 : ¬ j < 0) (h1 : j < N) : ¬ (j < 0 ∨ cl.slots.size ≤ j.toNatClampNeg) := inb_of S ⟨h0, h1⟩
section Facts
variable {h' : Heap} {a b : Addr} {ty : FieldType} {N : Int32} {f : Int32 → Int32} {g : Int32 → Int64} {i : Nat} {v : Value} {ws : List Addr}
theorem own_AI.lt (F : own_AI Z h a ty N f) : a < h.size := by obtain ⟨c, A, -⟩ := F; exact A.lt
theorem own_AI.ext (F : own_AI Z h a ty N f) (E : Ext h h') : own_AI Z h' a ty N f := by obtain ⟨c, A, r⟩ := F; exact ⟨c, A.ext E, r⟩
theorem own_AI.other (F : own_AI Z h b ty N f) (W : Wr h h' a i v) (q : b ≠ a) : own_AI Z h' b ty N f := by obtain ⟨c, A, r⟩ := F; exact ⟨c, A.other W q, r⟩
theorem own_AI.keep (F : own_AI Z h a ty N f) (K : Keep h h' ws) (q : a ∉ ws) : own_AI Z h' a ty N f := by obtain ⟨c, A, r⟩ := F; exact ⟨c, ⟨K.2.1 a c A.1 q, A.2⟩, r⟩
theorem own_AI.nn (F : own_AI Z h a ty N f) : ¬ N < 0 := by obtain ⟨c, -, -, r, -⟩ := F; exact r
theorem own_AI.fit (F : own_AI Z h a ty N f) {j : Int32} (h0 : ¬ j < 0) (h1 : j < N) : fits ty (.int (f j)) = true := by obtain ⟨c, -, -, -, r⟩ := F; exact (r j h0 h1).2
theorem own_AI.set (F : own_AI Z h a ty N f) {j x : Int32} (h0 : ¬ j < 0) (h1 : j < N) (W : Wr h h' a j.toNatClampNeg (.int x)) (hf : fits ty (.int x) = true) : own_AI Z h' a ty N (own_upd f j x) := by
  obtain ⟨c, A, S, hN, r⟩ := F
  refine ⟨_, A.same W, (sz_set _ _ _).trans S, hN, fun q q0 q1 => ?_⟩
  by_cases e : q = j
  · subst e; rw [own_upd_hit]; exact ⟨get_hit (own_inb S h0 h1) rfl, hf⟩
  · rw [own_upd_miss e, get_miss h0 q0 e]; exact r q q0 q1
theorem own_AI.eqv (F : own_AI Z h a ty N f) {f' : Int32 → Int32} (q : ∀ j : Int32, ¬ j < 0 → j < N → f j = f' j) : own_AI Z h a ty N f' := by
  obtain ⟨c, A, S, hN, r⟩ := F
  exact ⟨c, A, S, hN, fun j h0 h1 => by rw [← q j h0 h1]; exact r j h0 h1⟩
theorem own_AJ.lt (F : own_AJ Z h a N g) : a < h.size := by obtain ⟨c, A, -⟩ := F; exact A.lt
theorem own_AJ.ext (F : own_AJ Z h a N g) (E : Ext h h') : own_AJ Z h' a N g := by obtain ⟨c, A, r⟩ := F; exact ⟨c, A.ext E, r⟩
theorem own_AJ.other (F : own_AJ Z h b N g) (W : Wr h h' a i v) (q : b ≠ a) : own_AJ Z h' b N g := by obtain ⟨c, A, r⟩ := F; exact ⟨c, A.other W q, r⟩
theorem own_AJ.keep (F : own_AJ Z h a N g) (K : Keep h h' ws) (q : a ∉ ws) : own_AJ Z h' a N g := by obtain ⟨c, A, r⟩ := F; exact ⟨c, ⟨K.2.1 a c A.1 q, A.2⟩, r⟩
theorem own_AJ.set (F : own_AJ Z h a N g) {j : Int32} {x : Int64} (h0 : ¬ j < 0) (h1 : j < N) (W : Wr h h' a j.toNatClampNeg (.long x)) : own_AJ Z h' a N (own_upd g j x) := by
  obtain ⟨c, A, S, hN, r⟩ := F
  refine ⟨_, A.same W, (sz_set _ _ _).trans S, hN, fun q q0 q1 => ?_⟩
  by_cases e : q = j
  · subst e; rw [own_upd_hit]; exact get_hit (own_inb S h0 h1) rfl
  · rw [own_upd_miss e, get_miss h0 q0 e]; exact r q q0 q1
theorem own_ne_ai {K : String} {kk : Nat} (E : Exa Z h a K) (wi : (Jvm.Cond.instantiable K kk).before a0 Z = true) (F : own_AI Z h b ty N f) : a ≠ b := by obtain ⟨c, A, -⟩ := F; exact ne_arr E wi A
theorem own_ne_aj {K : String} {kk : Nat} (E : Exa Z h a K) (wi : (Jvm.Cond.instantiable K kk).before a0 Z = true) (F : own_AJ Z h b N g) : a ≠ b := by obtain ⟨c, A, -⟩ := F; exact ne_arr E wi A
end Facts
theorem own_byteR {z : Int32} (hf : fits .byte (.int z) = true) : -128 ≤ z.toInt ∧ z.toInt < 128 := by
  simp only [fits, Bool.and_eq_true, decide_eq_true_eq, Int32.le_iff_toInt_le, show (-128 : Int32).toInt = -128 from by decide, show (127 : Int32).toInt = 127 from by decide] at hf
  omega
theorem own_alen (X : own_S p l e R s m av below meth c Z y co ml rt n0 T ce sl h) {a : Addr} {ty : FieldType} {N : Int32} {f : Int32 → Int32} (A : own_AI Z h a ty N f) (hd : decode co pc = .ok (.arraylength, 1)) (H : own_Fin p e below s n0 Q k n T (mkF m (pc + 1) Ls (.int N :: st))) : own_Fin p e below s n0 Q k n T (mkF m pc Ls (.ref a :: st)) := by
  obtain ⟨⟨hx, hby, -, -, -, -, -, hZ⟩, locs, X, -, eh, -⟩ := X
  obtain ⟨cl, A, S, hN, -⟩ := A
  refine own_go (fun _ q => X.arraylength hx (by rw [eh]; exact A.1) (State.isArrayOf_alike hZ.alike A.2.1) (g := mkF m pc Ls (.ref a :: st)) rfl rfl (hb hby hd) _ ?_) H
  rw [len_of S hN]; exact q
theorem own_alenJ (X : own_S p l e R s m av below meth c Z y co ml rt n0 T ce sl h) {a : Addr} {N : Int32} {f : Int32 → Int64} (A : own_AJ Z h a N f) (hd : decode co pc = .ok (.arraylength, 1)) (H : own_Fin p e below s n0 Q k n T (mkF m (pc + 1) Ls (.int N :: st))) : own_Fin p e below s n0 Q k n T (mkF m pc Ls (.ref a :: st)) := by
  obtain ⟨⟨hx, hby, -, -, -, -, -, hZ⟩, locs, X, -, eh, -⟩ := X
  obtain ⟨cl, A, S, hN, -⟩ := A
  refine own_go (fun _ q => X.arraylength hx (by rw [eh]; exact A.1) (State.isArrayOf_alike hZ.alike A.2.1) (g := mkF m pc Ls (.ref a :: st)) rfl rfl (hb hby hd) _ ?_) H
  rw [len_of S hN]; exact q
theorem own_iaload (X : own_S p l e R s m av below meth c Z y co ml rt n0 T ce sl h) {a : Addr} {N j : Int32} {f : Int32 → Int32} (A : own_AI Z h a .int N f) (h0 : ¬ j < 0) (h1 : j < N) (hd : decode co pc = .ok (.iaload, 1)) (H : ∀ v, f j = v → -2147483648 ≤ v.toInt → v.toInt < 2147483648 → own_Fin p e below s n0 Q k n T (mkF m (pc + 1) Ls (.int v :: st))) : own_Fin p e below s n0 Q k n T (mkF m pc Ls (.int j :: .ref a :: st)) := by
  obtain ⟨⟨hx, hby, -, -, -, -, -, hZ⟩, locs, X, -, eh, -⟩ := X
  obtain ⟨cl, A, S, hN, r⟩ := A
  exact own_go (fun _ q => X.iaload hx (by rw [eh]; exact A.1) (State.isArrayOf_alike hZ.alike A.2.1) A.2.2 (own_inb S h0 h1) (r j h0 h1).1 (g := mkF m pc Ls (.int j :: .ref a :: st)) rfl rfl (hb hby hd) _ q) (H _ rfl (rng32 _).1 (rng32 _).2)
theorem own_baload (X : own_S p l e R s m av below meth c Z y co ml rt n0 T ce sl h) {a : Addr} {N j : Int32} {f : Int32 → Int32} (A : own_AI Z h a .byte N f) (h0 : ¬ j < 0) (h1 : j < N) (hd : decode co pc = .ok (.baload, 1)) (H : ∀ v, f j = v → -128 ≤ v.toInt → v.toInt < 128 → own_Fin p e below s n0 Q k n T (mkF m (pc + 1) Ls (.int v :: st))) : own_Fin p e below s n0 Q k n T (mkF m pc Ls (.int j :: .ref a :: st)) := by
  obtain ⟨⟨hx, hby, -, -, -, -, -, hZ⟩, locs, X, -, eh, -⟩ := X
  obtain ⟨cl, A, S, hN, r⟩ := A
  exact own_go (fun _ q => X.baloadBytes hx (by rw [eh]; exact A.1) (State.isArrayOf_alike hZ.alike A.2.1) A.2.2 (own_inb S h0 h1) (r j h0 h1).1 (g := mkF m pc Ls (.int j :: .ref a :: st)) rfl rfl (hb hby hd) _ q) (H _ rfl (own_byteR (r j h0 h1).2).1 (own_byteR (r j h0 h1).2).2)
theorem own_laload (X : own_S p l e R s m av below meth c Z y co ml rt n0 T ce sl h) {a : Addr} {N j : Int32} {f : Int32 → Int64} (A : own_AJ Z h a N f) (h0 : ¬ j < 0) (h1 : j < N) (hd : decode co pc = .ok (.laload, 1)) (H : ∀ v, f j = v → -9223372036854775808 ≤ v.toInt → v.toInt < 9223372036854775808 → own_Fin p e below s n0 Q k n T (mkF m (pc + 1) Ls (.long v :: st))) : own_Fin p e below s n0 Q k n T (mkF m pc Ls (.int j :: .ref a :: st)) := by
  obtain ⟨⟨hx, hby, -, -, -, -, -, hZ⟩, locs, X, -, eh, -⟩ := X
  obtain ⟨cl, A, S, hN, r⟩ := A
  exact own_go (fun _ q => X.laload hx (by rw [eh]; exact A.1) (State.isArrayOf_alike hZ.alike A.2.1) A.2.2 (own_inb S h0 h1) (r j h0 h1) (g := mkF m pc Ls (.int j :: .ref a :: st)) rfl rfl (hb hby hd) _ q) (H _ rfl (rng64 _).1 (rng64 _).2)
theorem own_bastore (X : own_S p l e R s m av below meth c Z y co ml rt n0 T ce sl h) {a : Addr} {N j x x' : Int32} {f : Int32 → Int32} (A : own_AI Z h a .byte N f) (h0 : ¬ j < 0) (h1 : j < N) (ge : n0 ≤ a) (hx' : x.toInt8.toInt32 = x') (hd : decode co pc = .ok (.bastore, 1))
    (H : ∀ T' h', own_S p l e R s m av below meth c Z y co ml rt n0 T' ce sl h' → ∀ f', f' = own_upd f j x' → own_AI Z h' a .byte N f' → Wr h h' a j.toNatClampNeg (.int x') → own_Fin p e below s n0 Q k n T' (mkF m (pc + 1) Ls st)) : own_Fin p e below s n0 Q k n T (mkF m pc Ls (.int x :: .int j :: .ref a :: st)) := by
  obtain ⟨C, locs, X, N', eh, hn⟩ := X
  obtain ⟨hx, hby, hml, hown, -, -, -, hZ⟩ := id C
  obtain ⟨cl, A', S, hN, r⟩ := id A
  obtain ⟨T', h', X', e', W, st'⟩ := stB X hx hZ eh A' (j := j) (own_inb S h0 h1) (g := mkF m pc Ls (.int x :: .int j :: .ref a :: st)) rfl rfl (hb hby hd)
  have W' : Wr h h' a j.toNatClampNeg (.int x') := by rw [← hx']; exact W
  exact own_go st' (H T' h' ⟨C, _, X', Fr.snoc X' N' ge, e', hn⟩ _ rfl (A.set h0 h1 W' (by rw [← hx']; exact fits_nar_byte x)) W')
theorem own_iastore (X : own_S p l e R s m av below meth c Z y co ml rt n0 T ce sl h) {a : Addr} {N j x : Int32} {f : Int32 → Int32} (A : own_AI Z h a .int N f) (h0 : ¬ j < 0) (h1 : j < N) (ge : n0 ≤ a) (hd : decode co pc = .ok (.iastore, 1))
    (H : ∀ T' h', own_S p l e R s m av below meth c Z y co ml rt n0 T' ce sl h' → ∀ f', f' = own_upd f j x → own_AI Z h' a .int N f' → Wr h h' a j.toNatClampNeg (.int x) → own_Fin p e below s n0 Q k n T' (mkF m (pc + 1) Ls st)) : own_Fin p e below s n0 Q k n T (mkF m pc Ls (.int x :: .int j :: .ref a :: st)) := by
  obtain ⟨C, locs, X, N', eh, hn⟩ := X
  obtain ⟨hx, hby, hml, hown, -, -, -, hZ⟩ := id C
  obtain ⟨cl, A', S, hN, r⟩ := id A
  obtain ⟨T', h', X', e', W, st'⟩ := stI X hx hZ eh A' (j := j) (own_inb S h0 h1) (g := mkF m pc Ls (.int x :: .int j :: .ref a :: st)) rfl rfl (hb hby hd)
  exact own_go st' (H T' h' ⟨C, _, X', Fr.snoc X' N' ge, e', hn⟩ _ rfl (A.set h0 h1 W rfl) W)
theorem own_lastore (X : own_S p l e R s m av below meth c Z y co ml rt n0 T ce sl h) {a : Addr} {N j : Int32} {x : Int64} {f : Int32 → Int64} (A : own_AJ Z h a N f) (h0 : ¬ j < 0) (h1 : j < N) (ge : n0 ≤ a) (hd : decode co pc = .ok (.lastore, 1))
    (H : ∀ T' h', own_S p l e R s m av below meth c Z y co ml rt n0 T' ce sl h' → ∀ f', f' = own_upd f j x → own_AJ Z h' a N f' → Wr h h' a j.toNatClampNeg (.long x) → own_Fin p e below s n0 Q k n T' (mkF m (pc + 1) Ls st)) : own_Fin p e below s n0 Q k n T (mkF m pc Ls (.long x :: .int j :: .ref a :: st)) := by
  obtain ⟨C, locs, X, N', eh, hn⟩ := X
  obtain ⟨hx, hby, hml, hown, -, -, -, hZ⟩ := id C
  obtain ⟨cl, A', S, hN, r⟩ := id A
  obtain ⟨T', h', X', e', W, st'⟩ := stJ X hx hZ eh A' (j := j) (own_inb S h0 h1) (g := mkF m pc Ls (.long x :: .int j :: .ref a :: st)) rfl rfl (hb hby hd)
  exact own_go st' (H T' h' ⟨C, _, X', Fr.snoc X' N' ge, e', hn⟩ _ rfl (A.set h0 h1 W) W)
theorem own_newP (X : own_S p l e R s m av below meth c Z y co ml rt n0 T ce sl h) {aty : ArrayType} {N : Int32} {cap : Nat} (w : (Jvm.Cond.arrayClass (newarray.typeOf aty)).before a0 Z = true) (hty : defaultValue (newarray.typeOf aty) = .int 0 ∧ fits (newarray.typeOf aty) (.int 0) = true) (hN : ¬ N < 0) (hcap : N.toNatClampNeg ≤ cap) (hb' : cap * 8 ≤ 536870912) (hc : ce + 1 ≤ R.cells) (hs : sl + cap ≤ R.slots) (hd : decode co pc = .ok (.newarray aty, 2))
    (H : ∀ T' h' (b : Addr), b = h.size → n0 ≤ b → own_S p l e R s m av below meth c Z y co ml rt n0 T' (ce + 1) (sl + cap) h' → Ext h h' → ∀ f' : Int32 → Int32, f' = (fun _ => 0) → own_AI Z h' b (newarray.typeOf aty) N f' → own_Fin p e below s n0 Q k n T' (mkF m (pc + 2) Ls (.ref b :: st))) : own_Fin p e below s n0 Q k n T (mkF m pc Ls (.int N :: st)) := by
  have hz := own_size X
  obtain ⟨C, locs, X, N', eh, hn⟩ := X
  obtain ⟨hx, hby, hml, hown, hnm, -, -, hZ⟩ := id C
  obtain ⟨T', h', cA, X', e', E, A, st'⟩ := newP X hx hZ w eh (g := mkF m pc Ls (.int N :: st)) rfl (hb hby hd) rfl hN hcap hb' hc hs
  refine own_go st' (H T' h' _ rfl hz ⟨C, _, X', N', e', hn⟩ E _ rfl ⟨_, A, sz_new _ _ _, hN, fun j h0 h1 => ⟨?_, hty.2⟩⟩)
  rw [get_new (fun q => own_inb (sz_new cA (newarray.typeOf aty) N) h0 h1 (q.imp id fun r => by rw [sz_new]; exact r)), hty.1]
theorem own_newJ (X : own_S p l e R s m av below meth c Z y co ml rt n0 T ce sl h) {N : Int32} {cap : Nat} (w : (Jvm.Cond.arrayClass .long).before a0 Z = true) (hN : ¬ N < 0) (hcap : N.toNatClampNeg ≤ cap) (hb' : cap * 8 ≤ 536870912) (hc : ce + 1 ≤ R.cells) (hs : sl + cap ≤ R.slots) (hd : decode co pc = .ok (.newarray .long, 2))
    (H : ∀ T' h' (b : Addr), b = h.size → n0 ≤ b → own_S p l e R s m av below meth c Z y co ml rt n0 T' (ce + 1) (sl + cap) h' → Ext h h' → ∀ f' : Int32 → Int64, f' = (fun _ => 0) → own_AJ Z h' b N f' → own_Fin p e below s n0 Q k n T' (mkF m (pc + 2) Ls (.ref b :: st))) : own_Fin p e below s n0 Q k n T (mkF m pc Ls (.int N :: st)) := by
  have hz := own_size X
  obtain ⟨C, locs, X, N', eh, hn⟩ := X
  obtain ⟨hx, hby, hml, hown, hnm, -, -, hZ⟩ := id C
  obtain ⟨T', h', cA, X', e', E, A, st'⟩ := newP (aty := .long) X hx hZ w eh (g := mkF m pc Ls (.int N :: st)) rfl (hb hby hd) rfl hN hcap hb' hc hs
  refine own_go st' (H T' h' _ rfl hz ⟨C, _, X', N', e', hn⟩ E _ rfl ⟨_, A, sz_new _ _ _, hN, fun j h0 h1 => ?_⟩)
  exact get_new (fun q => own_inb (sz_new cA .long N) h0 h1 (q.imp id fun r => by rw [sz_new]; exact r))
/-- System.arraycopy of bytes -/
theorem own_nat32 {i : Nat} {N : Int32} (hN : ¬ N < 0) (hi : i < N.toNatClampNeg) : (Int32.ofNat i).toInt = i ∧ (Int32.ofNat i).toNatClampNeg = i ∧ ¬ Int32.ofNat i < 0 ∧ Int32.ofNat i < N := by
  have q := (back32 hN).2
  have e : (Int32.ofNat i).toInt = i := Int32.toInt_ofNat_of_lt (by omega)
  have n := nat_of hN
  refine ⟨e, by simp only [Int32.toNatClampNeg, e]; omega, own_cGe (a := (i : Int)) (b := 0) e rfl (by omega), own_cLt (a := (i : Int)) (b := N.toInt) e rfl (by omega)⟩
def own_vs (N : Int32) (f : Int32 → Int32) : List Value := (List.range N.toNatClampNeg).map fun i => .int (f (Int32.ofNat i))
theorem own_vs_at {N : Int32} {f : Int32 → Int32} {i : Nat} {d : Value} (hi : i < N.toNatClampNeg) : (own_vs N f).getD i d = .int (f (Int32.ofNat i)) := by simp [own_vs, List.getD_eq_getElem?_getD, hi]
theorem own_vs_len (N : Int32) (f : Int32 → Int32) : (own_vs N f).length = N.toNatClampNeg := by simp [own_vs]
theorem own_AI.arv {a : Addr} {ty : FieldType} {N : Int32} {f : Int32 → Int32} (F : own_AI Z h a ty N f) : ∃ k, Arv Z h a k ty N (own_vs N f) (.int 0) := by
  obtain ⟨cl, A, S, hN, r⟩ := F
  refine ⟨cl.cls, cl, A, rfl, S, hN, fun i hi => ?_, fun i hi => ?_⟩
  · rw [S] at hi
    have q := own_nat32 hN hi
    rw [own_vs_at hi, ← (r (Int32.ofNat i) q.2.2.1 q.2.2.2).1, q.2.1]
  · rw [S] at hi
    have q := own_nat32 hN hi
    rw [own_vs_at hi]; exact (r (Int32.ofNat i) q.2.2.1 q.2.2.2).2
theorem own_copyB (X : own_S p l e R s m av below meth c Z y co ml rt n0 T ce sl h) {ix W : Nat} {a b : Addr} {Na Nb sp dp nn : Int32} {fa fb : Int32 → Int32}
    (w1 : (Jvm.Cond.methodLink y.cls ix Jvm.Stand.acN).before a0 Z = true) (w2 : (Jvm.Cond.native Jvm.Stand.acN).before a0 Z = true) (w3 : (Jvm.Cond.static Jvm.Stand.acN).before a0 Z = true) (w4 : (Jvm.Cond.initialized "java/lang/System").before a0 Z = true)
    (A : own_AI Z h a .byte Na fa) (B : own_AI Z h b .byte Nb fb) (h1 : 0 ≤ sp.toInt) (h2 : 0 ≤ dp.toInt) (h3 : 0 ≤ nn.toInt) (h4 : sp.toInt + nn.toInt ≤ Na.toInt) (h5 : dp.toInt + nn.toInt ≤ Nb.toInt) (ge : n0 ≤ b)
    (hL : Ls.size = ml) (hd : decode co pc = .ok (.invokestatic ix, 3)) (hf : 1 ≤ R.frames) (hW : (st.map fun v => v.category).sum ≤ W) (hlo : W + (nativeFrameWords "java/lang/System" "arraycopy" 5 + 11) ≤ R.locals)
    (H : ∀ T' h' f', own_S p l e R s m av below meth c Z y co ml rt n0 T' ce sl h' → Keep h h' [b] → own_AI Z h' b .byte Nb f' → (∀ j : Int32, 0 ≤ j.toInt → j.toInt < Nb.toInt → f' j = if dp.toInt ≤ j.toInt ∧ j.toInt < dp.toInt + nn.toInt then fa (Int32.ofInt (sp.toInt + (j.toInt - dp.toInt))) else fb j) → own_Fin p e below s n0 Q k n T' (mkF m (pc + 3) Ls st)) :
    own_Fin p e below s n0 Q k n T (mkF m pc Ls (.int nn :: .int dp :: .ref b :: .int sp :: .ref a :: st)) := by
  obtain ⟨C, locs, X, N, eh, hn⟩ := X
  obtain ⟨hx, hby, hml, hown, -, -, -, hZ⟩ := id C
  obtain ⟨ka, VA⟩ := A.arv
  obtain ⟨kb, VB⟩ := B.arv
  have hNa := A.nn
  have hNb := B.nn
  have q1 : ¬ sp < 0 := own_cGe (a := sp.toInt) (b := 0) rfl rfl (by omega)
  have q2 : ¬ dp < 0 := own_cGe (a := dp.toInt) (b := 0) rfl rfl (by omega)
  have q3 : ¬ nn < 0 := own_cGe (a := nn.toInt) (b := 0) rfl rfl (by omega)
  have e1 := nat_of q1; have e2 := nat_of q2; have e3 := nat_of q3; have e4 := nat_of hNa; have e5 := nat_of hNb
  have h4' : sp.toNatClampNeg + nn.toNatClampNeg ≤ Na.toNatClampNeg := by omega
  have h5' : dp.toNatClampNeg + nn.toNatClampNeg ≤ Nb.toNatClampNeg := by omega
  obtain ⟨T', h', L', X', e', N', K', B', st'⟩ := cpA X hx hZ hown w1 w2 w3 w4 eh VA VB (Or.inl ⟨rfl, rfl⟩) q1 q2 q3 h4' h5' rfl (by rw [own_vs_len]; exact h5') N ge (g := mkF m pc Ls (.int nn :: .int dp :: .ref b :: .int sp :: .ref a :: st)) rfl (by rw [hml]; exact hL) rfl (hb hby hd) hf (W := W) (by show 2 * 0 + _ ≤ _; omega) hlo
  have key : ∀ us : List Value, us.length = nn.toNatClampNeg → (∀ i, i < nn.toNatClampNeg → us[i]? = some (.int (fa (Int32.ofNat (sp.toNatClampNeg + i))))) → ∀ i, i < Nb.toNatClampNeg → (((own_vs Nb fb).take dp.toNatClampNeg ++ us) ++ (own_vs Nb fb).drop (dp.toNatClampNeg + nn.toNatClampNeg)).getD i (.int 0) = .int (if dp.toNatClampNeg ≤ i ∧ i < dp.toNatClampNeg + nn.toNatClampNeg then fa (Int32.ofNat (sp.toNatClampNeg + (i - dp.toNatClampNeg))) else fb (Int32.ofNat i)) := fun us lm gu i hi => by
    have lt : ((own_vs Nb fb).take dp.toNatClampNeg).length = dp.toNatClampNeg := by rw [List.length_take, own_vs_len]; omega
    rw [List.getD_eq_getElem?_getD]
    by_cases c1 : i < dp.toNatClampNeg
    · rw [if_neg (by omega), List.append_assoc, List.getElem?_append_left (by omega), List.getElem?_take_of_lt c1, ← List.getD_eq_getElem?_getD, own_vs_at hi]
    · by_cases c2 : i < dp.toNatClampNeg + nn.toNatClampNeg
      · rw [if_pos ⟨by omega, c2⟩, List.getElem?_append_left (by rw [List.length_append, lt, lm]; omega), List.getElem?_append_right (by omega), lt, gu _ (by omega)]; rfl
      · rw [if_neg (by omega), List.getElem?_append_right (by rw [List.length_append, lt, lm]; omega), List.length_append, lt, lm, List.getElem?_drop, show dp.toNatClampNeg + nn.toNatClampNeg + (i - (dp.toNatClampNeg + nn.toNatClampNeg)) = i by omega, ← List.getD_eq_getElem?_getD, own_vs_at hi]
  obtain ⟨cl, A', -, S, hN, Hs, G⟩ := B'
  refine own_go st' (H T' h' (fun j => if dp.toInt ≤ j.toInt ∧ j.toInt < dp.toInt + nn.toInt then fa (Int32.ofInt (sp.toInt + (j.toInt - dp.toInt))) else fb j) ⟨C, _, X', N', e', hn⟩ K' ⟨cl, A', S, hN, fun j j0 j1 => ?_⟩ (fun j _ _ => rfl))
  have ej := nat_of j0
  have hj : j.toNatClampNeg < Nb.toNatClampNeg := by rw [Int32.lt_iff_toInt_lt] at j1; omega
  have ej2 : Int32.ofNat j.toNatClampNeg = j := Int32.toInt_inj.mp (by rw [(own_nat32 hNb hj).1, ej])
  have hv := key ((List.range nn.toNatClampNeg).map fun i => (own_vs Na fa).getD (sp.toNatClampNeg + i) (.int 0)) (by simp) (fun i hi => by rw [List.getElem?_map, List.getElem?_range hi]; exact congrArg some (own_vs_at (by omega))) j.toNatClampNeg hj
  have hs := Hs j.toNatClampNeg (by rw [S]; exact hj)
  have hg := G j.toNatClampNeg (by rw [S]; exact hj)
  rw [hv] at hs hg
  have fin : (if dp.toNatClampNeg ≤ j.toNatClampNeg ∧ j.toNatClampNeg < dp.toNatClampNeg + nn.toNatClampNeg then fa (Int32.ofNat (sp.toNatClampNeg + (j.toNatClampNeg - dp.toNatClampNeg))) else fb (Int32.ofNat j.toNatClampNeg)) = (if dp.toInt ≤ j.toInt ∧ j.toInt < dp.toInt + nn.toInt then fa (Int32.ofInt (sp.toInt + (j.toInt - dp.toInt))) else fb j) := by
    by_cases c1 : dp.toInt ≤ j.toInt ∧ j.toInt < dp.toInt + nn.toInt
    · rw [if_pos c1, if_pos (by omega)]
      congr 1
      rw [show sp.toInt + (j.toInt - dp.toInt) = ((sp.toNatClampNeg + (j.toNatClampNeg - dp.toNatClampNeg) : Nat) : Int) by omega]
      exact Int32.ofInt_eq_ofNat.symm
    · rw [if_neg c1, if_neg (by omega), ej2]
  rw [fin] at hs hg
  exact ⟨hs, hg⟩
end Own
theorem ef_rm1 (m : MethodId) (o : Addr) : entryFrame m #[(.ref o)] 1 = mkF m 0 #[.val (.ref o)] [] := by first | (simp [entryFrame, mkF, argsToLocals, Value.category]; done) | rfl
theorem d1_0 : decode prog_18_method_1_code 0 = .ok (.aload_n 0, 1) := by decide +kernel
theorem d1_1 : decode prog_18_method_1_code 1 = .ok (.invokespecial 3, 3) := by decide +kernel
theorem d1_4 : decode prog_18_method_1_code 4 = .ok (.aload_n 0, 1) := by decide +kernel
theorem d1_5 : decode prog_18_method_1_code 5 = .ok (.bipush 64, 2) := by decide +kernel
theorem d1_7 : decode prog_18_method_1_code 7 = .ok (.newarray .byte, 2) := by decide +kernel
theorem d1_9 : decode prog_18_method_1_code 9 = .ok (.putfield 9, 3) := by decide +kernel
theorem d1_12 : decode prog_18_method_1_code 12 = .ok (.return_, 1) := by decide +kernel
theorem pn_1 : plainFor (⟨"com/example/shelfrun/shelfrun/index/FrontCoding$Encoder", "<init>", "()V"⟩ : MethodName) = true := plainFor_of_name (show plainName "com/example/shelfrun/shelfrun/index/FrontCoding$Encoder" = true from by first | (simp [plainName, overriddenIn]; done) | decide +kernel)
set_option maxRecDepth 65536 in
set_option maxHeartbeats 40000000 in
theorem rm1 (l : Launch) (Z : State) (a0 : Array Value) (hw : ∀ d ∈ tables_1, d.before a0 Z = true) (ws : List Jvm.Cond) (o : Addr) (h0 : Heap) (n0 : Nat) (hn0 : n0 ≤ h0.size) (E_o : Exa Z h0 o "com/example/shelfrun/shelfrun/index/FrontCoding$Encoder") (F_last_o : Fld Z h0 o "com/example/shelfrun/shelfrun/index/FrontCoding$Encoder" "last" "[B" .null) (F_written_o : Fld Z h0 o "com/example/shelfrun/shelfrun/index/FrontCoding$Encoder" "written" "J" (.long 0)) (F_lastLength_o : Fld Z h0 o "com/example/shelfrun/shelfrun/index/FrontCoding$Encoder" "lastLength" "I" (.int 0)) (ge_o : n0 ≤ o) :
    own_Met l Z (⟨"com/example/shelfrun/shelfrun/index/FrontCoding$Encoder", "<init>", "()V"⟩ : MethodName) prog_18_method_1_code 1 none ws ({ frames := 1, cells := 1, slots := 64, locals := 12 } : Room) #[(.ref o)] h0 n0 (own_QV fun h => Keep h0 h [o] ∧ Exa Z h o "com/example/shelfrun/shelfrun/index/FrontCoding$Encoder" ∧ Fld Z h o "com/example/shelfrun/shelfrun/index/FrontCoding$Encoder" "written" "J" (.long 0) ∧ Fld Z h o "com/example/shelfrun/shelfrun/index/FrontCoding$Encoder" "lastLength" "I" (.int 0) ∧ ∃ (a : Addr) (f : Int32 → Int32), o ≠ a ∧ n0 ≤ a ∧ Fld Z h o "com/example/shelfrun/shelfrun/index/FrontCoding$Encoder" "last" "[B" (.ref a) ∧ own_AI Z h a .byte 64 f) := by
  refine own_met pn_1 hn0 (fun p e s m below meth c T X => ?_)
  refine own_cast (ef_rm1 m o) ?_
  have K := Keep.refl h0 [o]
  refine own_aloadN X d1_0 rfl rfl ?_
  refine own_initO X (W := 0) (hw _ (List.mem_of_getElem? (i := 6) rfl)) (hw _ (List.mem_of_getElem? (i := 7) rfl)) (hw _ (List.mem_of_getElem? (i := 8) rfl)) rfl d1_1 (by decide) (Nat.le_of_eq rfl) (by decide) (fun T X => ?_)
  refine own_aloadN X d1_4 rfl rfl ?_
  refine own_bipush X (64) d1_5 rfl ?_
  refine own_newP X (cap := 64) (hw _ (List.mem_of_getElem? (i := 9) rfl)) (by decide) (by decide) (by decide) (by decide) (by decide) (by decide) d1_7 (fun T h b1 hb_b1 ge_b1 X E f1 hf1 A_b1 => ?_)
  have A_b1 : own_AI Z h b1 .byte (64 : Int32) f1 := A_b1
  have ne_o_b1 : o ≠ b1 := Nat.ne_of_lt (Nat.lt_of_lt_of_eq E_o.lt hb_b1.symm)
  have sz_b1 : h0.size ≤ b1 := Nat.le_trans K.1 (Nat.le_of_eq hb_b1.symm)
  have K := K.ext E
  have E_o := E_o.ext E
  have F_last_o := F_last_o.ext E
  have F_written_o := F_written_o.ext E
  have F_lastLength_o := F_lastLength_o.ext E
  refine own_putF X (host := "") (Or.inl (hw _ (List.mem_of_getElem? (i := 10) rfl))) Via.refl F_last_o E_o (Or.inl (hw _ (List.mem_of_getElem? (i := 11) rfl))) (hw _ (List.mem_of_getElem? (i := 1) rfl)) (ty := (.array .byte)) (by decide) rfl rfl ge_o d1_9 (fun T h X W => ?_)
  have F_last_o := F_last_o.same W
  have K := K.wr W (Or.inl (List.mem_of_getElem? (i := 0) rfl))
  have E_o := E_o.wr W
  have F_written_o := F_written_o.other W (Or.inr (slot_ne (C := "com/example/shelfrun/shelfrun/index/FrontCoding$Encoder") (Or.inl (hw _ (List.mem_of_getElem? (i := 19) rfl))) (Or.inl (hw _ (List.mem_of_getElem? (i := 11) rfl))) (by decide) (t := .long) (t' := (.array .byte)) (by decide) (by decide)))
  have F_lastLength_o := F_lastLength_o.other W (Or.inr (slot_ne (C := "com/example/shelfrun/shelfrun/index/FrontCoding$Encoder") (Or.inl (hw _ (List.mem_of_getElem? (i := 38) rfl))) (Or.inl (hw _ (List.mem_of_getElem? (i := 11) rfl))) (by decide) (t := .int) (t' := (.array .byte)) (by decide) (by decide)))
  have A_b1 := A_b1.other W (Ne.symm ne_o_b1)
  refine own_retV X d1_12 (by decide) (by decide) ⟨rfl, ?_⟩
  exact ⟨K, E_o, F_written_o, F_lastLength_o, b1, _, ne_o_b1, ge_b1, F_last_o, A_b1⟩
theorem ef_rm3 (m : MethodId) (o : Addr) : entryFrame m #[(.ref o)] 1 = mkF m 0 #[.val (.ref o)] [] := by first | (simp [entryFrame, mkF, argsToLocals, Value.category]; done) | rfl
theorem d3_0 : decode prog_18_method_2_code 0 = .ok (.aload_n 0, 1) := by decide +kernel
theorem d3_1 : decode prog_18_method_2_code 1 = .ok (.getfield 15, 3) := by decide +kernel
theorem d3_4 : decode prog_18_method_2_code 4 = .ok (.ldc2_w 19, 3) := by decide +kernel
theorem d3_7 : decode prog_18_method_2_code 7 = .ok (.lrem, 1) := by decide +kernel
theorem d3_8 : decode prog_18_method_2_code 8 = .ok (.lconst 0, 1) := by decide +kernel
theorem d3_9 : decode prog_18_method_2_code 9 = .ok (.lcmp, 1) := by decide +kernel
theorem d3_10 : decode prog_18_method_2_code 10 = .ok (.ifCond .ne 7, 3) := by decide +kernel
theorem d3_13 : decode prog_18_method_2_code 13 = .ok (.iconst 1, 1) := by decide +kernel
theorem d3_14 : decode prog_18_method_2_code 14 = .ok (.goto 4, 3) := by decide +kernel
theorem d3_18 : decode prog_18_method_2_code 18 = .ok (.ireturn, 1) := by decide +kernel
theorem d3_17 : decode prog_18_method_2_code 17 = .ok (.iconst 0, 1) := by decide +kernel
theorem pn_3 : plainFor (⟨"com/example/shelfrun/shelfrun/index/FrontCoding$Encoder", "startsBlock", "()Z"⟩ : MethodName) = true := plainFor_of_name (show plainName "com/example/shelfrun/shelfrun/index/FrontCoding$Encoder" = true from by first | (simp [plainName, overriddenIn]; done) | decide +kernel)
set_option maxRecDepth 65536 in
set_option maxHeartbeats 40000000 in
theorem rm3 (l : Launch) (Z : State) (a0 : Array Value) (hw : ∀ d ∈ tables_1, d.before a0 Z = true) (ws : List Jvm.Cond) (o : Addr) (u : Int64) (h0 : Heap) (n0 : Nat) (hn0 : n0 ≤ h0.size) (F_written_o : Fld Z h0 o "com/example/shelfrun/shelfrun/index/FrontCoding$Encoder" "written" "J" (.long u)) (hu1 : 0 ≤ u.toInt) (hu2 : u.toInt ≤ 7) :
    own_Met l Z (⟨"com/example/shelfrun/shelfrun/index/FrontCoding$Encoder", "startsBlock", "()Z"⟩ : MethodName) prog_18_method_2_code 1 (some .boolean) ws ({ frames := 0, cells := 0, slots := 0, locals := 0 } : Room) #[(.ref o)] h0 n0 (own_QI fun z h => (z = if u.toInt = 0 then 1 else 0) ∧ h = h0) := by
  refine own_met pn_3 hn0 (fun p e s m below meth c T X => ?_)
  refine own_cast (ef_rm3 m o) ?_
  have r_u := rng64 u
  refine own_aloadN X d3_0 rfl rfl ?_
  refine own_getF X (host := "") (Or.inl (hw _ (List.mem_of_getElem? (i := 18) rfl))) Via.refl F_written_o d3_1 (fun T X => ?_)
  refine own_ldc2 X (hw _ (List.mem_of_getElem? (i := 20) rfl)) d3_4 ?_
  refine own_lremK X (u.toInt) (32) d3_7 (by decide) rfl rfl (fun v1 hv1 cv1 lv1 uv1 => ?_)
  refine own_lconst0 X d3_8 ?_
  refine own_lcmp X d3_9 ?_
  by_cases hc2 : v1.toInt = 0
  · refine own_ifNo X d3_10 ((if0 _ _).trans (teq (own_lEq rfl rfl hc2)).2) ?_
    refine own_iconst X (1) d3_13 rfl ?_
    refine own_goto X (pc := 14) (pc' := 18) d3_14 (by decide) (by decide) ?_
    refine own_retN (t := .boolean) X (z' := (1 : Int32)) (Or.inl rfl) rfl rfl d3_18 (by decide) (by decide) ⟨_, rfl, ?_⟩
    exact ⟨(if_pos (by omega)).symm, rfl⟩
  · refine own_ifYes X (pc := 10) (pc' := 17) d3_10 ((if0 _ _).trans (feq (own_lNe rfl rfl hc2)).2) (by decide) (by decide) ?_
    refine own_iconst X (0) d3_17 rfl ?_
    refine own_retN (t := .boolean) X (z' := (0 : Int32)) (Or.inl rfl) rfl rfl d3_18 (by decide) (by decide) ⟨_, rfl, ?_⟩
    exact ⟨(if_neg (by omega)).symm, rfl⟩
theorem ef_rm6 (m : MethodId) (o : Addr) (q : Int32) (q2 : Int32) : entryFrame m #[(.ref o), (.int q), (.int q2)] 5 = mkF m 0 #[.val (.ref o), .val (.int q), .val (.int q2), .unset, .unset] [] := by first | (simp [entryFrame, mkF, argsToLocals, Value.category]; done) | rfl
theorem d6_0 : decode prog_18_method_7_code 0 = .ok (.iload_n 1, 1) := by decide +kernel
theorem d6_1 : decode prog_18_method_7_code 1 = .ok (.istore_n 3, 1) := by decide +kernel
theorem d6_2 : decode prog_18_method_7_code 2 = .ok (.iload_n 2, 1) := by decide +kernel
theorem d6_3 : decode prog_18_method_7_code 3 = .ok (.istore 4, 2) := by decide +kernel
theorem d6_5 : decode prog_18_method_7_code 5 = .ok (.iload 4, 2) := by decide +kernel
theorem d6_7 : decode prog_18_method_7_code 7 = .ok (.sipush 128, 3) := by decide +kernel
theorem d6_10 : decode prog_18_method_7_code 10 = .ok (.if_icmp .lt 26, 3) := by decide +kernel
theorem d6_36 : decode prog_18_method_7_code 36 = .ok (.aload_n 0, 1) := by decide +kernel
theorem d6_37 : decode prog_18_method_7_code 37 = .ok (.iload_n 3, 1) := by decide +kernel
theorem d6_38 : decode prog_18_method_7_code 38 = .ok (.iinc 3 1, 3) := by decide +kernel
theorem d6_41 : decode prog_18_method_7_code 41 = .ok (.iload 4, 2) := by decide +kernel
theorem d6_43 : decode prog_18_method_7_code 43 = .ok (.i2b, 1) := by decide +kernel
theorem d6_44 : decode prog_18_method_7_code 44 = .ok (.bastore, 1) := by decide +kernel
theorem d6_45 : decode prog_18_method_7_code 45 = .ok (.iload_n 3, 1) := by decide +kernel
theorem d6_46 : decode prog_18_method_7_code 46 = .ok (.ireturn, 1) := by decide +kernel
theorem pn_6 : plainFor (⟨"com/example/shelfrun/shelfrun/index/FrontCoding$Encoder", "writeCount", "([BII)I"⟩ : MethodName) = true := plainFor_of_name (show plainName "com/example/shelfrun/shelfrun/index/FrontCoding$Encoder" = true from by first | (simp [plainName, overriddenIn]; done) | decide +kernel)
set_option maxRecDepth 65536 in
set_option maxHeartbeats 40000000 in
theorem rm6 (l : Launch) (Z : State) (a0 : Array Value) (hw : ∀ d ∈ tables_1, d.before a0 Z = true) (ws : List Jvm.Cond) (o : Addr) (q : Int32) (q2 : Int32) (f : Int32 → Int32) (N : Int32) (h0 : Heap) (n0 : Nat) (hn0 : n0 ≤ h0.size) (A_o : own_AI Z h0 o .byte N f) (ge_o : n0 ≤ o) (h1 : 0 ≤ q.toInt) (h2 : q.toInt < N.toInt) (h3 : 0 ≤ q2.toInt) (h4 : q2.toInt < 128) :
    own_Met l Z (⟨"com/example/shelfrun/shelfrun/index/FrontCoding$Encoder", "writeCount", "([BII)I"⟩ : MethodName) prog_18_method_7_code 5 (some .int) ws ({ frames := 0, cells := 0, slots := 0, locals := 0 } : Room) #[(.ref o), (.int q), (.int q2)] h0 n0 (own_QI fun z h => z.toInt = q.toInt + 1 ∧ Keep h0 h [o] ∧ ∃ f', own_AI Z h o .byte N f') := by
  refine own_met pn_6 hn0 (fun p e s m below meth c T X => ?_)
  refine own_cast (ef_rm6 m o q q2) ?_
  have r_q := rng32 q
  have r_q2 := rng32 q2
  have r_N := rng32 N
  have K := Keep.refl h0 [o]
  refine own_iloadN X d6_0 rfl ?_
  refine own_istoreN X d6_1 (L' := #[.val (.ref o), .val (.int q), .val (.int q2), .val (.int q), .unset]) rfl ?_
  refine own_iloadN X d6_2 rfl ?_
  refine own_istore X d6_3 (L' := #[.val (.ref o), .val (.int q), .val (.int q2), .val (.int q), .val (.int q2)]) rfl ?_
  refine own_iload X d6_5 rfl ?_
  refine own_sipush X (128) d6_7 rfl ?_
  have hc1 : q2.toInt < 128 := by omega
  refine own_icmpYes X (pc := 10) (pc' := 36) d6_10 (tlt (own_cLt (a := q2.toInt) (b := 128) rfl rfl hc1)).1 (by decide) (by decide) ?_
  refine own_aloadN X d6_36 rfl rfl ?_
  refine own_iloadN X d6_37 rfl ?_
  refine own_iinc X d6_38 rfl rfl (L' := #[.val (.ref o), .val (.int q), .val (.int q2), .val (.int (q + (1 : Int32))), .val (.int q2)]) rfl ?_
  obtain ⟨v2, hv2⟩ : ∃ w, q + (1 : Int32) = w := ⟨_, rfl⟩
  rw [hv2]
  have cv2 : (v2.toInt - (q.toInt + 1)) % 4294967296 = 0 := by rw [← hv2]; exact c_iadd q (1 : Int32)
  have lv2 := rng32 v2
  refine own_iload X d6_41 rfl ?_
  refine own_i2bV X (q2.toInt) d6_43 rfl (fun v3 hv3 cv3 lv3 uv3 => ?_)
  refine own_bastore X A_o (own_cGe (a := q.toInt) (b := 0) rfl rfl (by omega)) (own_cLt (a := q.toInt) (b := N.toInt) rfl rfl (by omega)) ge_o (x' := v3) (by rw [← hv3]; exact own_i2b2 _) d6_44 (fun T h X f4 hf4 A_o W => ?_)
  have K := K.wr W (Or.inl (List.mem_of_getElem? (i := 0) rfl))
  refine own_iloadN X d6_45 rfl ?_
  refine own_retI X d6_46 (by decide) (by decide) ⟨_, rfl, ?_⟩
  exact ⟨by omega, K, _, A_o⟩
theorem ef_rm5 (m : MethodId) (o : Addr) (t : Addr) (d : Addr) (ln : Int32) : entryFrame m #[(.ref o), (.ref t), (.int (0 : Int32)), (.ref d), (.int ln), (.int (0 : Int32))] 8 = mkF m 0 #[.val (.ref o), .val (.ref t), .val (.int (0 : Int32)), .val (.ref d), .val (.int ln), .val (.int (0 : Int32)), .unset, .unset] [] := by first | (simp [entryFrame, mkF, argsToLocals, Value.category]; done) | rfl
theorem d5_0 : decode prog_18_method_5_code 0 = .ok (.iload 4, 2) := by decide +kernel
theorem d5_2 : decode prog_18_method_5_code 2 = .ok (.iload 5, 2) := by decide +kernel
theorem d5_4 : decode prog_18_method_5_code 4 = .ok (.isub, 1) := by decide +kernel
theorem d5_5 : decode prog_18_method_5_code 5 = .ok (.istore 6, 2) := by decide +kernel
theorem d5_7 : decode prog_18_method_5_code 7 = .ok (.aload_n 1, 1) := by decide +kernel
theorem d5_8 : decode prog_18_method_5_code 8 = .ok (.aload_n 1, 1) := by decide +kernel
theorem d5_9 : decode prog_18_method_5_code 9 = .ok (.iload_n 2, 1) := by decide +kernel
theorem d5_10 : decode prog_18_method_5_code 10 = .ok (.iload 5, 2) := by decide +kernel
theorem d5_12 : decode prog_18_method_5_code 12 = .ok (.invokestatic 39, 3) := by decide +kernel
theorem pd_5 : parseMethodDescriptor "([BII)I" = some ⟨[(.array .byte), .int, .int], some .int⟩ := by decide +kernel
theorem d5_15 : decode prog_18_method_5_code 15 = .ok (.iload 6, 2) := by decide +kernel
theorem d5_17 : decode prog_18_method_5_code 17 = .ok (.invokestatic 39, 3) := by decide +kernel
theorem d5_20 : decode prog_18_method_5_code 20 = .ok (.istore 7, 2) := by decide +kernel
theorem d5_22 : decode prog_18_method_5_code 22 = .ok (.aload_n 3, 1) := by decide +kernel
theorem d5_23 : decode prog_18_method_5_code 23 = .ok (.iload 5, 2) := by decide +kernel
theorem d5_25 : decode prog_18_method_5_code 25 = .ok (.aload_n 1, 1) := by decide +kernel
theorem d5_26 : decode prog_18_method_5_code 26 = .ok (.iload 7, 2) := by decide +kernel
theorem d5_28 : decode prog_18_method_5_code 28 = .ok (.iload 6, 2) := by decide +kernel
theorem d5_30 : decode prog_18_method_5_code 30 = .ok (.invokestatic 43, 3) := by decide +kernel
theorem d5_33 : decode prog_18_method_5_code 33 = .ok (.aload_n 0, 1) := by decide +kernel
theorem d5_34 : decode prog_18_method_5_code 34 = .ok (.getfield 9, 3) := by decide +kernel
theorem d5_37 : decode prog_18_method_5_code 37 = .ok (.arraylength, 1) := by decide +kernel
theorem d5_38 : decode prog_18_method_5_code 38 = .ok (.iload 4, 2) := by decide +kernel
theorem d5_40 : decode prog_18_method_5_code 40 = .ok (.if_icmp .ge 26, 3) := by decide +kernel
theorem d5_66 : decode prog_18_method_5_code 66 = .ok (.aload_n 3, 1) := by decide +kernel
theorem d5_67 : decode prog_18_method_5_code 67 = .ok (.iload 5, 2) := by decide +kernel
theorem d5_69 : decode prog_18_method_5_code 69 = .ok (.aload_n 0, 1) := by decide +kernel
theorem d5_70 : decode prog_18_method_5_code 70 = .ok (.getfield 9, 3) := by decide +kernel
theorem d5_73 : decode prog_18_method_5_code 73 = .ok (.iload 5, 2) := by decide +kernel
theorem d5_75 : decode prog_18_method_5_code 75 = .ok (.iload 6, 2) := by decide +kernel
theorem d5_77 : decode prog_18_method_5_code 77 = .ok (.invokestatic 43, 3) := by decide +kernel
theorem d5_80 : decode prog_18_method_5_code 80 = .ok (.aload_n 0, 1) := by decide +kernel
theorem d5_81 : decode prog_18_method_5_code 81 = .ok (.iload 4, 2) := by decide +kernel
theorem d5_83 : decode prog_18_method_5_code 83 = .ok (.putfield 25, 3) := by decide +kernel
theorem d5_86 : decode prog_18_method_5_code 86 = .ok (.aload_n 0, 1) := by decide +kernel
theorem d5_87 : decode prog_18_method_5_code 87 = .ok (.dup, 1) := by decide +kernel
theorem d5_88 : decode prog_18_method_5_code 88 = .ok (.getfield 15, 3) := by decide +kernel
theorem d5_91 : decode prog_18_method_5_code 91 = .ok (.lconst 1, 1) := by decide +kernel
theorem d5_92 : decode prog_18_method_5_code 92 = .ok (.ladd, 1) := by decide +kernel
theorem d5_93 : decode prog_18_method_5_code 93 = .ok (.putfield 15, 3) := by decide +kernel
theorem d5_96 : decode prog_18_method_5_code 96 = .ok (.iload 7, 2) := by decide +kernel
theorem d5_98 : decode prog_18_method_5_code 98 = .ok (.iload 6, 2) := by decide +kernel
theorem d5_100 : decode prog_18_method_5_code 100 = .ok (.iadd, 1) := by decide +kernel
theorem d5_101 : decode prog_18_method_5_code 101 = .ok (.ireturn, 1) := by decide +kernel
theorem pn_5 : plainFor (⟨"com/example/shelfrun/shelfrun/index/FrontCoding$Encoder", "write", "([BI[BII)I"⟩ : MethodName) = true := plainFor_of_name (show plainName "com/example/shelfrun/shelfrun/index/FrontCoding$Encoder" = true from by first | (simp [plainName, overriddenIn]; done) | decide +kernel)
set_option maxRecDepth 65536 in
set_option maxHeartbeats 40000000 in
theorem rm5 (l : Launch) (Z : State) (a0 : Array Value) (hw : ∀ d ∈ tables_1, d.before a0 Z = true) (ws : List Jvm.Cond) (o : Addr) (t : Addr) (d : Addr) (ln : Int32) (a : Addr) (u : Int64) (u' : Int64) (w0 : Int32) (ft : Int32 → Int32) (fd : Int32 → Int32) (fa : Int32 → Int32) (h0 : Heap) (n0 : Nat) (hn0 : n0 ≤ h0.size) (E_o : Exa Z h0 o "com/example/shelfrun/shelfrun/index/FrontCoding$Encoder") (F_last_o : Fld Z h0 o "com/example/shelfrun/shelfrun/index/FrontCoding$Encoder" "last" "[B" (.ref a)) (F_written_o : Fld Z h0 o "com/example/shelfrun/shelfrun/index/FrontCoding$Encoder" "written" "J" (.long u)) (F_lastLength_o : Fld Z h0 o "com/example/shelfrun/shelfrun/index/FrontCoding$Encoder" "lastLength" "I" (.int w0)) (A_t : own_AI Z h0 t .byte 16 ft) (A_d : own_AI Z h0 d .byte 4 fd) (A_a : own_AI Z h0 a .byte 64 fa) (ge_o : n0 ≤ o) (ge_t : n0 ≤ t) (ge_a : n0 ≤ a) (ne_t_d : t ≠ d) (ne_t_a : t ≠ a) (ne_d_a : d ≠ a) (hu : u + 1 = u') (hl1 : 0 ≤ ln.toInt) (hl2 : ln.toInt ≤ 4) :
    own_Met l Z (⟨"com/example/shelfrun/shelfrun/index/FrontCoding$Encoder", "write", "([BI[BII)I"⟩ : MethodName) prog_18_method_5_code 8 (some .int) ws ({ frames := 1, cells := 0, slots := 0, locals := 18 } : Room) #[(.ref o), (.ref t), (.int (0 : Int32)), (.ref d), (.int ln), (.int (0 : Int32))] h0 n0 (own_QI fun z h => Keep h0 h [o, t, a] ∧ Exa Z h o "com/example/shelfrun/shelfrun/index/FrontCoding$Encoder" ∧ Fld Z h o "com/example/shelfrun/shelfrun/index/FrontCoding$Encoder" "last" "[B" (.ref a) ∧ Fld Z h o "com/example/shelfrun/shelfrun/index/FrontCoding$Encoder" "written" "J" (.long u') ∧ (∃ w1, Fld Z h o "com/example/shelfrun/shelfrun/index/FrontCoding$Encoder" "lastLength" "I" (.int w1)) ∧ (∃ f, own_AI Z h t .byte 16 f) ∧ ∃ f, own_AI Z h a .byte 64 f) := by
  refine own_met pn_5 hn0 (fun p e s m below meth c T X => ?_)
  refine own_cast (ef_rm5 m o t d ln) ?_
  have r_ln := rng32 ln
  have r_u := rng64 u
  have r_u' := rng64 u'
  have r_w0 := rng32 w0
  have K := Keep.refl h0 [o, t, a]
  have ne_o_t : o ≠ t := own_ne_ai E_o (hw _ (List.mem_of_getElem? (i := 1) rfl)) A_t
  have ne_o_d : o ≠ d := own_ne_ai E_o (hw _ (List.mem_of_getElem? (i := 1) rfl)) A_d
  have ne_o_a : o ≠ a := own_ne_ai E_o (hw _ (List.mem_of_getElem? (i := 1) rfl)) A_a
  refine own_iload X d5_0 rfl ?_
  refine own_iload X d5_2 rfl ?_
  refine own_isubV X (ln.toInt) (0) d5_4 rfl rfl (fun v1 hv1 cv1 lv1 uv1 => ?_)
  refine own_istore X d5_5 (L' := #[.val (.ref o), .val (.ref t), .val (.int (0 : Int32)), .val (.ref d), .val (.int ln), .val (.int (0 : Int32)), .val (.int v1), .unset]) rfl ?_
  refine own_aloadN X d5_7 rfl rfl ?_
  refine own_aloadN X d5_8 rfl rfl ?_
  refine own_iloadN X d5_9 rfl ?_
  refine own_iload X d5_10 rfl ?_
  refine own_callS X (W := 1) (argsL := [(.ref t), (.int (0 : Int32)), (.int (0 : Int32))]) (rest := [(.ref t)]) (hw _ (List.mem_of_getElem? (i := 30) rfl)) (hw _ (List.mem_of_getElem? (i := 31) rfl)) (hw _ (List.mem_of_getElem? (i := 2) rfl)) (hw _ (List.mem_of_getElem? (i := 32) rfl)) (by decide) (rm6 l Z a0 hw [] t (0 : Int32) (0 : Int32) ft 16 h0 n0 (own_size X) A_t ge_t (by show 0 ≤ 0; omega) (by show 0 < (16 : Int); omega) (by show 0 ≤ 0; omega) (by show 0 < 128; omega)) (by decide) (by decide) (by decide) (by decide) rfl (lenOf pd_5 rfl) rfl (Nat.le_of_eq rfl) d5_12 (own_contIH fun T h v2 X hq2 => ?_)
  obtain ⟨hz2, Kc, g2, A_n⟩ := hq2
  have K := K.trans Kc (allS (Or.inl (List.mem_of_getElem? (i := 1) rfl)) all0)
  have E_o := E_o.keep Kc
  have F_last_o := F_last_o.keep Kc (ninS ne_o_t nin0)
  have F_written_o := F_written_o.keep Kc (ninS ne_o_t nin0)
  have F_lastLength_o := F_lastLength_o.keep Kc (ninS ne_o_t nin0)
  have A_d := A_d.keep Kc (ninS (Ne.symm ne_t_d) nin0)
  have A_a := A_a.keep Kc (ninS (Ne.symm ne_t_a) nin0)
  have A_t := A_n
  have hz2' : v2.toInt = 0 + 1 := hz2
  refine own_iload X d5_15 rfl ?_
  refine own_callS X (W := 0) (argsL := [(.ref t), (.int v2), (.int v1)]) (rest := []) (hw _ (List.mem_of_getElem? (i := 30) rfl)) (hw _ (List.mem_of_getElem? (i := 31) rfl)) (hw _ (List.mem_of_getElem? (i := 2) rfl)) (hw _ (List.mem_of_getElem? (i := 32) rfl)) (by decide) (rm6 l Z a0 hw [] t v2 v1 g2 16 h n0 (own_size X) A_t ge_t (by show 0 ≤ v2.toInt; omega) (by show v2.toInt < (16 : Int); omega) (by show 0 ≤ v1.toInt; omega) (by show v1.toInt < 128; omega)) (by decide) (by decide) (by decide) (by decide) rfl (lenOf pd_5 rfl) rfl (Nat.le_of_eq rfl) d5_17 (own_contIH fun T h v3 X hq3 => ?_)
  obtain ⟨hz3, Kc, g3, A_n⟩ := hq3
  have K := K.trans Kc (allS (Or.inl (List.mem_of_getElem? (i := 1) rfl)) all0)
  have E_o := E_o.keep Kc
  have F_last_o := F_last_o.keep Kc (ninS ne_o_t nin0)
  have F_written_o := F_written_o.keep Kc (ninS ne_o_t nin0)
  have F_lastLength_o := F_lastLength_o.keep Kc (ninS ne_o_t nin0)
  have A_d := A_d.keep Kc (ninS (Ne.symm ne_t_d) nin0)
  have A_a := A_a.keep Kc (ninS (Ne.symm ne_t_a) nin0)
  have A_t := A_n
  have hz3' : v3.toInt = v2.toInt + 1 := hz3
  refine own_istore X d5_20 (L' := #[.val (.ref o), .val (.ref t), .val (.int (0 : Int32)), .val (.ref d), .val (.int ln), .val (.int (0 : Int32)), .val (.int v1), .val (.int v3)]) rfl ?_
  refine own_aloadN X d5_22 rfl rfl ?_
  refine own_iload X d5_23 rfl ?_
  refine own_aloadN X d5_25 rfl rfl ?_
  refine own_iload X d5_26 rfl ?_
  refine own_iload X d5_28 rfl ?_
  refine own_copyB X (W := 0) (hw _ (List.mem_of_getElem? (i := 33) rfl)) (hw _ (List.mem_of_getElem? (i := 36) rfl)) (hw _ (List.mem_of_getElem? (i := 34) rfl)) (hw _ (List.mem_of_getElem? (i := 35) rfl)) A_d A_t (show 0 ≤ 0 from by omega) (show 0 ≤ v3.toInt from by omega) (show 0 ≤ v1.toInt from by omega) (show 0 + v1.toInt ≤ 4 from by omega) (show v3.toInt + v1.toInt ≤ 16 from by omega) ge_t rfl d5_30 (by decide) (Nat.le_of_eq rfl) (by decide) (fun T h f4 X Kc A_t hcp4 => ?_)
  have K := K.trans Kc (allS (Or.inl (List.mem_of_getElem? (i := 1) rfl)) all0)
  have E_o := E_o.keep Kc
  have F_last_o := F_last_o.keep Kc (ninS ne_o_t nin0)
  have F_written_o := F_written_o.keep Kc (ninS ne_o_t nin0)
  have F_lastLength_o := F_lastLength_o.keep Kc (ninS ne_o_t nin0)
  have A_d := A_d.keep Kc (ninS (Ne.symm ne_t_d) nin0)
  have A_a := A_a.keep Kc (ninS (Ne.symm ne_t_a) nin0)
  refine own_aloadN X d5_33 rfl rfl ?_
  refine own_getF X (host := "") (Or.inl (hw _ (List.mem_of_getElem? (i := 10) rfl))) Via.refl F_last_o d5_34 (fun T X => ?_)
  refine own_alen X A_a d5_37 ?_
  refine own_iload X d5_38 rfl ?_
  have hc5 : ¬ (64 < ln.toInt) := by omega
  refine own_icmpYes X (pc := 40) (pc' := 66) d5_40 (flt (own_cGe (a := 64) (b := ln.toInt) rfl rfl hc5)).2.1 (by decide) (by decide) ?_
  refine own_aloadN X d5_66 rfl rfl ?_
  refine own_iload X d5_67 rfl ?_
  refine own_aloadN X d5_69 rfl rfl ?_
  refine own_getF X (host := "") (Or.inl (hw _ (List.mem_of_getElem? (i := 10) rfl))) Via.refl F_last_o d5_70 (fun T X => ?_)
  refine own_iload X d5_73 rfl ?_
  refine own_iload X d5_75 rfl ?_
  refine own_copyB X (W := 0) (hw _ (List.mem_of_getElem? (i := 33) rfl)) (hw _ (List.mem_of_getElem? (i := 36) rfl)) (hw _ (List.mem_of_getElem? (i := 34) rfl)) (hw _ (List.mem_of_getElem? (i := 35) rfl)) A_d A_a (show 0 ≤ 0 from by omega) (show 0 ≤ 0 from by omega) (show 0 ≤ v1.toInt from by omega) (show 0 + v1.toInt ≤ 4 from by omega) (show 0 + v1.toInt ≤ 64 from by omega) ge_a rfl d5_77 (by decide) (Nat.le_of_eq rfl) (by decide) (fun T h f6 X Kc A_a hcp6 => ?_)
  have K := K.trans Kc (allS (Or.inl (List.mem_of_getElem? (i := 2) rfl)) all0)
  have E_o := E_o.keep Kc
  have F_last_o := F_last_o.keep Kc (ninS ne_o_a nin0)
  have F_written_o := F_written_o.keep Kc (ninS ne_o_a nin0)
  have F_lastLength_o := F_lastLength_o.keep Kc (ninS ne_o_a nin0)
  have A_d := A_d.keep Kc (ninS ne_d_a nin0)
  have A_t := A_t.keep Kc (ninS ne_t_a nin0)
  refine own_aloadN X d5_80 rfl rfl ?_
  refine own_iload X d5_81 rfl ?_
  refine own_putF X (host := "") (Or.inl (hw _ (List.mem_of_getElem? (i := 37) rfl))) Via.refl F_lastLength_o E_o (Or.inl (hw _ (List.mem_of_getElem? (i := 38) rfl))) (hw _ (List.mem_of_getElem? (i := 1) rfl)) (ty := .int) (by decide) rfl rfl ge_o d5_83 (fun T h X W => ?_)
  have F_lastLength_o := F_lastLength_o.same W
  have K := K.wr W (Or.inl (List.mem_of_getElem? (i := 0) rfl))
  have E_o := E_o.wr W
  have F_last_o := F_last_o.other W (Or.inr (slot_ne (C := "com/example/shelfrun/shelfrun/index/FrontCoding$Encoder") (Or.inl (hw _ (List.mem_of_getElem? (i := 11) rfl))) (Or.inl (hw _ (List.mem_of_getElem? (i := 38) rfl))) (by decide) (t := (.array .byte)) (t' := .int) (by decide) (by decide)))
  have F_written_o := F_written_o.other W (Or.inr (slot_ne (C := "com/example/shelfrun/shelfrun/index/FrontCoding$Encoder") (Or.inl (hw _ (List.mem_of_getElem? (i := 19) rfl))) (Or.inl (hw _ (List.mem_of_getElem? (i := 38) rfl))) (by decide) (t := .long) (t' := .int) (by decide) (by decide)))
  have A_d := A_d.other W (Ne.symm ne_o_d)
  have A_a := A_a.other W (Ne.symm ne_o_a)
  have A_t := A_t.other W (Ne.symm ne_o_t)
  refine own_aloadN X d5_86 rfl rfl ?_
  refine own_dup X d5_87 rfl ?_
  refine own_getF X (host := "") (Or.inl (hw _ (List.mem_of_getElem? (i := 18) rfl))) Via.refl F_written_o d5_88 (fun T X => ?_)
  refine own_lconst1 X d5_91 ?_
  refine own_laddE X d5_92 u' (hu) ?_
  refine own_putF X (host := "") (Or.inl (hw _ (List.mem_of_getElem? (i := 18) rfl))) Via.refl F_written_o E_o (Or.inl (hw _ (List.mem_of_getElem? (i := 19) rfl))) (hw _ (List.mem_of_getElem? (i := 1) rfl)) (ty := .long) (by decide) rfl rfl ge_o d5_93 (fun T h X W => ?_)
  have F_written_o := F_written_o.same W
  have K := K.wr W (Or.inl (List.mem_of_getElem? (i := 0) rfl))
  have E_o := E_o.wr W
  have F_last_o := F_last_o.other W (Or.inr (slot_ne (C := "com/example/shelfrun/shelfrun/index/FrontCoding$Encoder") (Or.inl (hw _ (List.mem_of_getElem? (i := 11) rfl))) (Or.inl (hw _ (List.mem_of_getElem? (i := 19) rfl))) (by decide) (t := (.array .byte)) (t' := .long) (by decide) (by decide)))
  have F_lastLength_o := F_lastLength_o.other W (Or.inr (slot_ne (C := "com/example/shelfrun/shelfrun/index/FrontCoding$Encoder") (Or.inl (hw _ (List.mem_of_getElem? (i := 38) rfl))) (Or.inl (hw _ (List.mem_of_getElem? (i := 19) rfl))) (by decide) (t := .int) (t' := .long) (by decide) (by decide)))
  have A_d := A_d.other W (Ne.symm ne_o_d)
  have A_a := A_a.other W (Ne.symm ne_o_a)
  have A_t := A_t.other W (Ne.symm ne_o_t)
  refine own_iload X d5_96 rfl ?_
  refine own_iload X d5_98 rfl ?_
  refine own_iaddV X (v3.toInt) (v1.toInt) d5_100 rfl rfl (fun v7 hv7 cv7 lv7 uv7 => ?_)
  refine own_retI X d5_101 (by decide) (by decide) ⟨_, rfl, ?_⟩
  exact ⟨K, E_o, F_last_o, F_written_o, ⟨_, F_lastLength_o⟩, ⟨_, A_t⟩, _, A_a⟩
theorem ef_rm4 (m : MethodId) (o : Addr) (t : Addr) (d : Addr) (ln : Int32) : entryFrame m #[(.ref o), (.ref t), (.ref d), (.int ln)] 4 = mkF m 0 #[.val (.ref o), .val (.ref t), .val (.ref d), .val (.int ln)] [] := by first | (simp [entryFrame, mkF, argsToLocals, Value.category]; done) | rfl
theorem d4_0 : decode method_2_code 0 = .ok (.aload_n 0, 1) := by decide +kernel
theorem d4_1 : decode method_2_code 1 = .ok (.aload_n 1, 1) := by decide +kernel
theorem d4_2 : decode method_2_code 2 = .ok (.iconst 0, 1) := by decide +kernel
theorem d4_3 : decode method_2_code 3 = .ok (.aload_n 2, 1) := by decide +kernel
theorem d4_4 : decode method_2_code 4 = .ok (.iload_n 3, 1) := by decide +kernel
theorem d4_5 : decode method_2_code 5 = .ok (.iconst 0, 1) := by decide +kernel
theorem d4_6 : decode method_2_code 6 = .ok (.invokevirtual 7, 3) := by decide +kernel
theorem pd_6 : parseMethodDescriptor "([BI[BII)I" = some ⟨[(.array .byte), .int, (.array .byte), .int, .int], some .int⟩ := by decide +kernel
theorem d4_9 : decode method_2_code 9 = .ok (.pop, 1) := by decide +kernel
theorem d4_10 : decode method_2_code 10 = .ok (.return_, 1) := by decide +kernel
theorem pn_4 : plainFor (⟨"com/example/shelfrun/shelfrun/index/EncoderStartsBlockPinLaw", "writeOne", "(Lcom/example/shelfrun/shelfrun/index/FrontCoding$Encoder;[B[BI)V"⟩ : MethodName) = true := plainFor_of_name (show plainName "com/example/shelfrun/shelfrun/index/EncoderStartsBlockPinLaw" = true from by first | (simp [plainName, overriddenIn]; done) | decide +kernel)
set_option maxRecDepth 65536 in
set_option maxHeartbeats 40000000 in
theorem rm4 (l : Launch) (Z : State) (a0 : Array Value) (hw : ∀ d ∈ tables_1, d.before a0 Z = true) (ws : List Jvm.Cond) (o : Addr) (t : Addr) (d : Addr) (ln : Int32) (a : Addr) (u : Int64) (u' : Int64) (w0 : Int32) (ft : Int32 → Int32) (fd : Int32 → Int32) (fa : Int32 → Int32) (h0 : Heap) (n0 : Nat) (hn0 : n0 ≤ h0.size) (E_o : Exa Z h0 o "com/example/shelfrun/shelfrun/index/FrontCoding$Encoder") (F_last_o : Fld Z h0 o "com/example/shelfrun/shelfrun/index/FrontCoding$Encoder" "last" "[B" (.ref a)) (F_written_o : Fld Z h0 o "com/example/shelfrun/shelfrun/index/FrontCoding$Encoder" "written" "J" (.long u)) (F_lastLength_o : Fld Z h0 o "com/example/shelfrun/shelfrun/index/FrontCoding$Encoder" "lastLength" "I" (.int w0)) (A_t : own_AI Z h0 t .byte 16 ft) (A_d : own_AI Z h0 d .byte 4 fd) (A_a : own_AI Z h0 a .byte 64 fa) (ge_o : n0 ≤ o) (ge_t : n0 ≤ t) (ge_a : n0 ≤ a) (ne_t_d : t ≠ d) (ne_t_a : t ≠ a) (ne_d_a : d ≠ a) (hu : u + 1 = u') (hl1 : 0 ≤ ln.toInt) (hl2 : ln.toInt ≤ 4) :
    own_Met l Z (⟨"com/example/shelfrun/shelfrun/index/EncoderStartsBlockPinLaw", "writeOne", "(Lcom/example/shelfrun/shelfrun/index/FrontCoding$Encoder;[B[BI)V"⟩ : MethodName) method_2_code 4 none ws ({ frames := 2, cells := 0, slots := 0, locals := 37 } : Room) #[(.ref o), (.ref t), (.ref d), (.int ln)] h0 n0 (own_QV fun h => Keep h0 h [o, t, a] ∧ Exa Z h o "com/example/shelfrun/shelfrun/index/FrontCoding$Encoder" ∧ Fld Z h o "com/example/shelfrun/shelfrun/index/FrontCoding$Encoder" "last" "[B" (.ref a) ∧ Fld Z h o "com/example/shelfrun/shelfrun/index/FrontCoding$Encoder" "written" "J" (.long u') ∧ (∃ w1, Fld Z h o "com/example/shelfrun/shelfrun/index/FrontCoding$Encoder" "lastLength" "I" (.int w1)) ∧ (∃ f, own_AI Z h t .byte 16 f) ∧ ∃ f, own_AI Z h a .byte 64 f) := by
  refine own_met pn_4 hn0 (fun p e s m below meth c T X => ?_)
  refine own_cast (ef_rm4 m o t d ln) ?_
  have r_ln := rng32 ln
  have r_u := rng64 u
  have r_u' := rng64 u'
  have r_w0 := rng32 w0
  refine own_aloadN X d4_0 rfl rfl ?_
  refine own_aloadN X d4_1 rfl rfl ?_
  refine own_iconst X (0) d4_2 rfl ?_
  refine own_aloadN X d4_3 rfl rfl ?_
  refine own_iloadN X d4_4 rfl ?_
  refine own_iconst X (0) d4_5 rfl ?_
  refine own_callV X (W := 0) (a := o) (argsL := [(.ref t), (.int (0 : Int32)), (.ref d), (.int ln), (.int (0 : Int32))]) (rest := []) (hw _ (List.mem_of_getElem? (i := 25) rfl)) (hw _ (List.mem_of_getElem? (i := 26) rfl)) (hw _ (List.mem_of_getElem? (i := 28) rfl)) (hw _ (List.mem_of_getElem? (i := 27) rfl)) (hw _ (List.mem_of_getElem? (i := 2) rfl)) (hw _ (List.mem_of_getElem? (i := 29) rfl)) rfl (by decide) (rm5 l Z a0 hw [] o t d ln a u u' w0 ft fd fa h0 n0 (own_size X) E_o F_last_o F_written_o F_lastLength_o A_t A_d A_a ge_o ge_t ge_a ne_t_d ne_t_a ne_d_a hu hl1 hl2) E_o (by decide) (by decide) (by decide) (by decide) rfl (lenOf pd_6 rfl) rfl (Nat.le_of_eq rfl) d4_6 (own_contIH fun T h v1 X hq1 => ?_)
  obtain ⟨Kc, rest1⟩ := hq1
  refine own_pop X d4_9 rfl ?_
  refine own_retV X d4_10 (by decide) (by decide) ⟨rfl, ?_⟩
  exact ⟨Kc, rest1⟩
theorem ef_rm0 (m : MethodId) (x0 : Int32) (x1 : Int32) (x2 : Int32) : entryFrame m #[(.int x0), (.int x1), (.int x2)] maxLocals = mkF m 0 #[.val (.int x0), .val (.int x1), .val (.int x2), .unset, .unset, .unset, .unset, .unset, .unset, .unset, .unset] [] := by first | (simp [entryFrame, mkF, argsToLocals, Value.category, maxLocals]; done) | rfl
theorem pd_0 : parseMethodDescriptor "()V" = some ⟨[], none⟩ := by decide +kernel
theorem pd_1 : parseMethodDescriptor "()Z" = some ⟨[], some .boolean⟩ := by decide +kernel
theorem pd_3 : parseMethodDescriptor "(Lcom/example/shelfrun/shelfrun/index/FrontCoding$Encoder;[B[BI)V" = some ⟨[(.object "com/example/shelfrun/shelfrun/index/FrontCoding$Encoder"), (.array .byte), (.array .byte), .int], none⟩ := by decide +kernel
theorem pn_0 : plainFor x = true := plainFor_of_name (show plainName "com/example/shelfrun/shelfrun/index/EncoderStartsBlockPinLaw" = true from by first | (simp [plainName, overriddenIn]; done) | decide +kernel)
set_option maxRecDepth 65536 in
set_option maxHeartbeats 40000000 in
theorem rm0 (l : Launch) (Z : State) (a0 : Array Value) (hw : ∀ d ∈ tables_1, d.before a0 Z = true) (ws : List Jvm.Cond) (x0 : Int32) (x1 : Int32) (x2 : Int32) (h0 : Heap) (n0 : Nat) (hn0 : n0 ≤ h0.size) :
    own_Met l Z x code maxLocals ret ws room_1 #[(.int x0), (.int x1), (.int x2)] h0 n0 (own_QI fun z h => z = 1) := by
  refine own_met pn_0 hn0 (fun p e s m below meth c T X => ?_)
  refine own_cast (ef_rm0 m x0 x1 x2) ?_
  change own_S p l e room_1 s m _ below meth c Z x code maxLocals (some .boolean) n0 T 0 0 h0 at X
  have r_x0 := rng32 x0
  have r_x1 := rng32 x1
  have r_x2 := rng32 x2
  refine own_iloadN X at_0 rfl ?_
  refine own_bipush X (7) at_1 rfl ?_
  refine own_iandM X (x0.toInt) 3 8 at_3 rfl (by decide) (by decide) (by decide) (fun v1 hv1 cv1 lv1 uv1 => ?_)
  refine own_istoreN X at_4 (L' := #[.val (.int x0), .val (.int x1), .val (.int x2), .val (.int v1), .unset, .unset, .unset, .unset, .unset, .unset, .unset]) rfl ?_
  refine own_newO X (hw _ (List.mem_of_getElem? (i := 0) rfl)) (hw _ (List.mem_of_getElem? (i := 1) rfl)) (hw _ (List.mem_of_getElem? (i := 2) rfl)) at_5 (by decide) (by decide) (fun T h b2 hb_b2 ge_b2 X E E_b2 D => ?_)
  have F_last_b2 : Fld Z h b2 "com/example/shelfrun/shelfrun/index/FrontCoding$Encoder" "last" "[B" .null := D (Or.inl (hw _ (List.mem_of_getElem? (i := 11) rfl))) (ty := (.array .byte)) (by decide)
  have F_written_b2 : Fld Z h b2 "com/example/shelfrun/shelfrun/index/FrontCoding$Encoder" "written" "J" (.long (0 : Int64)) := D (Or.inl (hw _ (List.mem_of_getElem? (i := 19) rfl))) (ty := .long) (by decide)
  have F_lastLength_b2 : Fld Z h b2 "com/example/shelfrun/shelfrun/index/FrontCoding$Encoder" "lastLength" "I" (.int (0 : Int32)) := D (Or.inl (hw _ (List.mem_of_getElem? (i := 38) rfl))) (ty := .int) (by decide)
  refine own_dup X at_8 rfl ?_
  refine own_callI X (W := 1) (a := b2) (argsL := []) (rest := [(.ref b2)]) rfl (hw _ (List.mem_of_getElem? (i := 3) rfl)) (hw _ (List.mem_of_getElem? (i := 4) rfl)) (hw _ (List.mem_of_getElem? (i := 2) rfl)) (hw _ (List.mem_of_getElem? (i := 5) rfl)) (by decide) (rm1 l Z a0 hw [] b2 h n0 (own_size X) E_b2 F_last_b2 F_written_b2 F_lastLength_b2 ge_b2) (by decide) (by decide) (by decide) (by decide) rfl (lenOf pd_0 rfl) rfl (Nat.le_of_eq rfl) at_9 (own_contVH fun T h X hq3 => ?_)
  obtain ⟨Kc, E_b2, F_written_b2, F_lastLength_b2, la3, f3, ne_b2_la3, ge_la3, F_last_b2, A_la3⟩ := hq3
  refine own_astore X at_12 rfl (L' := #[.val (.int x0), .val (.int x1), .val (.int x2), .val (.int v1), .val (.ref b2), .unset, .unset, .unset, .unset, .unset, .unset]) rfl ?_
  refine own_iconst X (4) at_14 rfl ?_
  refine own_newP X (cap := 4) (hw _ (List.mem_of_getElem? (i := 9) rfl)) (by decide) (by decide) (by decide) (by decide) (by decide) (by decide) at_15 (fun T h b4 hb_b4 ge_b4 X E f4 hf4 A_b4 => ?_)
  have A_b4 : own_AI Z h b4 .byte (4 : Int32) f4 := A_b4
  have ne_b2_b4 : b2 ≠ b4 := Nat.ne_of_lt (Nat.lt_of_lt_of_eq E_b2.lt hb_b4.symm)
  have ne_la3_b4 : la3 ≠ b4 := Nat.ne_of_lt (Nat.lt_of_lt_of_eq A_la3.lt hb_b4.symm)
  have E_b2 := E_b2.ext E
  have F_last_b2 := F_last_b2.ext E
  have F_written_b2 := F_written_b2.ext E
  have F_lastLength_b2 := F_lastLength_b2.ext E
  have A_la3 := A_la3.ext E
  refine own_astore X at_17 rfl (L' := #[.val (.int x0), .val (.int x1), .val (.int x2), .val (.int v1), .val (.ref b2), .val (.ref b4), .unset, .unset, .unset, .unset, .unset]) rfl ?_
  refine own_aload X at_19 rfl rfl ?_
  refine own_iconst X (0) at_21 rfl ?_
  refine own_iloadN X at_22 rfl ?_
  refine own_i2bV X (x1.toInt) at_23 rfl (fun v5 hv5 cv5 lv5 uv5 => ?_)
  refine own_bastore X A_b4 (own_cGe (a := 0) (b := 0) rfl rfl (by omega)) (own_cLt (a := 0) (b := 4) rfl rfl (by omega)) ge_b4 (x' := v5) (by rw [← hv5]; exact own_i2b2 _) at_24 (fun T h X f6 hf6 A_b4 W => ?_)
  have E_b2 := E_b2.wr W
  have F_last_b2 := F_last_b2.other W (Or.inl ne_b2_b4)
  have F_written_b2 := F_written_b2.other W (Or.inl ne_b2_b4)
  have F_lastLength_b2 := F_lastLength_b2.other W (Or.inl ne_b2_b4)
  have A_la3 := A_la3.other W ne_la3_b4
  refine own_aload X at_25 rfl rfl ?_
  refine own_iconst X (1) at_27 rfl ?_
  refine own_iloadN X at_28 rfl ?_
  refine own_bipush X (8) at_29 rfl ?_
  refine own_ishrK X (x1.toInt) 8 256 at_31 rfl (by decide) (by decide) (fun v7 hv7 cv7 lv7 uv7 => ?_)
  refine own_i2bV X (v7.toInt) at_32 rfl (fun v8 hv8 cv8 lv8 uv8 => ?_)
  refine own_bastore X A_b4 (own_cGe (a := 1) (b := 0) rfl rfl (by omega)) (own_cLt (a := 1) (b := 4) rfl rfl (by omega)) ge_b4 (x' := v8) (by rw [← hv8]; exact own_i2b2 _) at_33 (fun T h X f9 hf9 A_b4 W => ?_)
  have E_b2 := E_b2.wr W
  have F_last_b2 := F_last_b2.other W (Or.inl ne_b2_b4)
  have F_written_b2 := F_written_b2.other W (Or.inl ne_b2_b4)
  have F_lastLength_b2 := F_lastLength_b2.other W (Or.inl ne_b2_b4)
  have A_la3 := A_la3.other W ne_la3_b4
  refine own_aload X at_34 rfl rfl ?_
  refine own_iconst X (2) at_36 rfl ?_
  refine own_iloadN X at_37 rfl ?_
  refine own_bipush X (16) at_38 rfl ?_
  refine own_ishrK X (x1.toInt) 16 65536 at_40 rfl (by decide) (by decide) (fun v10 hv10 cv10 lv10 uv10 => ?_)
  refine own_i2bV X (v10.toInt) at_41 rfl (fun v11 hv11 cv11 lv11 uv11 => ?_)
  refine own_bastore X A_b4 (own_cGe (a := 2) (b := 0) rfl rfl (by omega)) (own_cLt (a := 2) (b := 4) rfl rfl (by omega)) ge_b4 (x' := v11) (by rw [← hv11]; exact own_i2b2 _) at_42 (fun T h X f12 hf12 A_b4 W => ?_)
  have E_b2 := E_b2.wr W
  have F_last_b2 := F_last_b2.other W (Or.inl ne_b2_b4)
  have F_written_b2 := F_written_b2.other W (Or.inl ne_b2_b4)
  have F_lastLength_b2 := F_lastLength_b2.other W (Or.inl ne_b2_b4)
  have A_la3 := A_la3.other W ne_la3_b4
  refine own_aload X at_43 rfl rfl ?_
  refine own_iconst X (3) at_45 rfl ?_
  refine own_iloadN X at_46 rfl ?_
  refine own_bipush X (24) at_47 rfl ?_
  refine own_ishrK X (x1.toInt) 24 16777216 at_49 rfl (by decide) (by decide) (fun v13 hv13 cv13 lv13 uv13 => ?_)
  refine own_i2bV X (v13.toInt) at_50 rfl (fun v14 hv14 cv14 lv14 uv14 => ?_)
  refine own_bastore X A_b4 (own_cGe (a := 3) (b := 0) rfl rfl (by omega)) (own_cLt (a := 3) (b := 4) rfl rfl (by omega)) ge_b4 (x' := v14) (by rw [← hv14]; exact own_i2b2 _) at_51 (fun T h X f15 hf15 A_b4 W => ?_)
  have E_b2 := E_b2.wr W
  have F_last_b2 := F_last_b2.other W (Or.inl ne_b2_b4)
  have F_written_b2 := F_written_b2.other W (Or.inl ne_b2_b4)
  have F_lastLength_b2 := F_lastLength_b2.other W (Or.inl ne_b2_b4)
  have A_la3 := A_la3.other W ne_la3_b4
  refine own_iloadN X at_52 rfl ?_
  refine own_ldc X (hw _ (List.mem_of_getElem? (i := 12) rfl)) at_53 ?_
  refine own_iandM X (x2.toInt) 31 2147483648 at_55 rfl (by decide) (by decide) (by decide) (fun v16 hv16 cv16 lv16 uv16 => ?_)
  refine own_iconst X (5) at_56 rfl ?_
  refine own_iremK X (v16.toInt) (5) at_57 (by decide) rfl rfl (fun v17 hv17 cv17 lv17 uv17 => ?_)
  refine own_istore X at_58 (L' := #[.val (.int x0), .val (.int x1), .val (.int x2), .val (.int v1), .val (.ref b2), .val (.ref b4), .val (.int v17), .unset, .unset, .unset, .unset]) rfl ?_
  refine own_bipush X (16) at_60 rfl ?_
  refine own_newP X (cap := 16) (hw _ (List.mem_of_getElem? (i := 9) rfl)) (by decide) (by decide) (by decide) (by decide) (by decide) (by decide) at_62 (fun T h b18 hb_b18 ge_b18 X E f18 hf18 A_b18 => ?_)
  have A_b18 : own_AI Z h b18 .byte (16 : Int32) f18 := A_b18
  have ne_b2_b18 : b2 ≠ b18 := Nat.ne_of_lt (Nat.lt_of_lt_of_eq E_b2.lt hb_b18.symm)
  have ne_la3_b18 : la3 ≠ b18 := Nat.ne_of_lt (Nat.lt_of_lt_of_eq A_la3.lt hb_b18.symm)
  have ne_b4_b18 : b4 ≠ b18 := Nat.ne_of_lt (Nat.lt_of_lt_of_eq A_b4.lt hb_b18.symm)
  have E_b2 := E_b2.ext E
  have F_last_b2 := F_last_b2.ext E
  have F_written_b2 := F_written_b2.ext E
  have F_lastLength_b2 := F_lastLength_b2.ext E
  have A_la3 := A_la3.ext E
  have A_b4 := A_b4.ext E
  refine own_astore X at_64 rfl (L' := #[.val (.int x0), .val (.int x1), .val (.int x2), .val (.int v1), .val (.ref b2), .val (.ref b4), .val (.int v17), .val (.ref b18), .unset, .unset, .unset]) rfl ?_
  refine own_aload X at_66 rfl rfl ?_
  refine own_callV X (W := 0) (a := b2) (argsL := []) (rest := []) (hw _ (List.mem_of_getElem? (i := 13) rfl)) (hw _ (List.mem_of_getElem? (i := 14) rfl)) (hw _ (List.mem_of_getElem? (i := 16) rfl)) (hw _ (List.mem_of_getElem? (i := 15) rfl)) (hw _ (List.mem_of_getElem? (i := 2) rfl)) (hw _ (List.mem_of_getElem? (i := 17) rfl)) rfl (by decide) (rm3 l Z a0 hw [] b2 (0 : Int64) h n0 (own_size X) F_written_b2 (by decide) (by decide)) E_b2 (by decide) (by decide) (by decide) (by decide) rfl (lenOf pd_1 rfl) rfl (Nat.le_of_eq rfl) at_68 (own_contI fun T v19 X hq19 => ?_)
  have hz19 : v19 = 1 := by rw [hq19]; rfl
  subst hz19
  refine own_istore X at_71 (L' := #[.val (.int x0), .val (.int x1), .val (.int x2), .val (.int v1), .val (.ref b2), .val (.ref b4), .val (.int v17), .val (.ref b18), .val (.int (1 : Int32)), .unset, .unset]) rfl ?_
  refine own_iloadN X at_73 rfl ?_
  by_cases hc20 : 0 < v1.toInt
  · refine own_ifNo X at_74 ((if0 _ _).trans (tlt (own_cLt (a := 0) (b := v1.toInt) rfl rfl hc20)).2.2.2) ?_
    refine own_aload X at_77 rfl rfl ?_
    refine own_aload X at_79 rfl rfl ?_
    refine own_aload X at_81 rfl rfl ?_
    refine own_iload X at_83 rfl ?_
    refine own_callS X (W := 0) (argsL := [(.ref b2), (.ref b18), (.ref b4), (.int v17)]) (rest := []) (hw _ (List.mem_of_getElem? (i := 21) rfl)) (hw _ (List.mem_of_getElem? (i := 22) rfl)) (hw _ (List.mem_of_getElem? (i := 23) rfl)) (hw _ (List.mem_of_getElem? (i := 24) rfl)) (by decide) (rm4 l Z a0 hw [] b2 b18 b4 v17 la3 (0 : Int64) (1 : Int64) (0 : Int32) f18 f15 f3 h n0 (own_size X) E_b2 F_last_b2 F_written_b2 F_lastLength_b2 A_b18 A_b4 A_la3 ge_b2 ge_b18 ge_la3 ((Ne.symm ne_b4_b18)) ((Ne.symm ne_la3_b18)) ((Ne.symm ne_la3_b4)) (by decide) (by omega) (by omega)) (by decide) (by decide) (by decide) (by decide) rfl (lenOf pd_3 rfl) rfl (Nat.le_of_eq rfl) at_85 (own_contVH fun T h X hq21 => ?_)
    obtain ⟨Kc, E_b2, F_last_b2, F_written_b2, ⟨w21, F_lastLength_b2⟩, ⟨ft21, A_n1⟩, fa21, A_n2⟩ := hq21
    have A_b4 := A_b4.keep Kc (ninS (Ne.symm ne_b2_b4) (ninS ne_b4_b18 (ninS (Ne.symm ne_la3_b4) nin0)))
    have A_b18 := A_n1
    have A_la3 := A_n2
    refine own_iloadN X at_88 rfl ?_
    refine own_iconst X (1) at_89 rfl ?_
    by_cases hc22 : 1 < v1.toInt
    · refine own_icmpNo X at_90 (tlt (own_cLt (a := 1) (b := v1.toInt) rfl rfl hc22)).2.2.2 ?_
      refine own_aload X at_93 rfl rfl ?_
      refine own_aload X at_95 rfl rfl ?_
      refine own_aload X at_97 rfl rfl ?_
      refine own_iload X at_99 rfl ?_
      refine own_callS X (W := 0) (argsL := [(.ref b2), (.ref b18), (.ref b4), (.int v17)]) (rest := []) (hw _ (List.mem_of_getElem? (i := 21) rfl)) (hw _ (List.mem_of_getElem? (i := 22) rfl)) (hw _ (List.mem_of_getElem? (i := 23) rfl)) (hw _ (List.mem_of_getElem? (i := 24) rfl)) (by decide) (rm4 l Z a0 hw [] b2 b18 b4 v17 la3 (1 : Int64) (2 : Int64) w21 ft21 f15 fa21 h n0 (own_size X) E_b2 F_last_b2 F_written_b2 F_lastLength_b2 A_b18 A_b4 A_la3 ge_b2 ge_b18 ge_la3 ((Ne.symm ne_b4_b18)) ((Ne.symm ne_la3_b18)) ((Ne.symm ne_la3_b4)) (by decide) (by omega) (by omega)) (by decide) (by decide) (by decide) (by decide) rfl (lenOf pd_3 rfl) rfl (Nat.le_of_eq rfl) at_101 (own_contVH fun T h X hq23 => ?_)
      obtain ⟨Kc, E_b2, F_last_b2, F_written_b2, ⟨w23, F_lastLength_b2⟩, ⟨ft23, A_n1⟩, fa23, A_n2⟩ := hq23
      have A_b4 := A_b4.keep Kc (ninS (Ne.symm ne_b2_b4) (ninS ne_b4_b18 (ninS (Ne.symm ne_la3_b4) nin0)))
      have A_b18 := A_n1
      have A_la3 := A_n2
      refine own_iloadN X at_104 rfl ?_
      refine own_iconst X (2) at_105 rfl ?_
      by_cases hc24 : 2 < v1.toInt
      · refine own_icmpNo X at_106 (tlt (own_cLt (a := 2) (b := v1.toInt) rfl rfl hc24)).2.2.2 ?_
        refine own_aload X at_109 rfl rfl ?_
        refine own_aload X at_111 rfl rfl ?_
        refine own_aload X at_113 rfl rfl ?_
        refine own_iload X at_115 rfl ?_
        refine own_callS X (W := 0) (argsL := [(.ref b2), (.ref b18), (.ref b4), (.int v17)]) (rest := []) (hw _ (List.mem_of_getElem? (i := 21) rfl)) (hw _ (List.mem_of_getElem? (i := 22) rfl)) (hw _ (List.mem_of_getElem? (i := 23) rfl)) (hw _ (List.mem_of_getElem? (i := 24) rfl)) (by decide) (rm4 l Z a0 hw [] b2 b18 b4 v17 la3 (2 : Int64) (3 : Int64) w23 ft23 f15 fa23 h n0 (own_size X) E_b2 F_last_b2 F_written_b2 F_lastLength_b2 A_b18 A_b4 A_la3 ge_b2 ge_b18 ge_la3 ((Ne.symm ne_b4_b18)) ((Ne.symm ne_la3_b18)) ((Ne.symm ne_la3_b4)) (by decide) (by omega) (by omega)) (by decide) (by decide) (by decide) (by decide) rfl (lenOf pd_3 rfl) rfl (Nat.le_of_eq rfl) at_117 (own_contVH fun T h X hq25 => ?_)
        obtain ⟨Kc, E_b2, F_last_b2, F_written_b2, ⟨w25, F_lastLength_b2⟩, ⟨ft25, A_n1⟩, fa25, A_n2⟩ := hq25
        have A_b4 := A_b4.keep Kc (ninS (Ne.symm ne_b2_b4) (ninS ne_b4_b18 (ninS (Ne.symm ne_la3_b4) nin0)))
        have A_b18 := A_n1
        have A_la3 := A_n2
        refine own_iloadN X at_120 rfl ?_
        refine own_iconst X (3) at_121 rfl ?_
        by_cases hc26 : 3 < v1.toInt
        · refine own_icmpNo X at_122 (tlt (own_cLt (a := 3) (b := v1.toInt) rfl rfl hc26)).2.2.2 ?_
          refine own_aload X at_125 rfl rfl ?_
          refine own_aload X at_127 rfl rfl ?_
          refine own_aload X at_129 rfl rfl ?_
          refine own_iload X at_131 rfl ?_
          refine own_callS X (W := 0) (argsL := [(.ref b2), (.ref b18), (.ref b4), (.int v17)]) (rest := []) (hw _ (List.mem_of_getElem? (i := 21) rfl)) (hw _ (List.mem_of_getElem? (i := 22) rfl)) (hw _ (List.mem_of_getElem? (i := 23) rfl)) (hw _ (List.mem_of_getElem? (i := 24) rfl)) (by decide) (rm4 l Z a0 hw [] b2 b18 b4 v17 la3 (3 : Int64) (4 : Int64) w25 ft25 f15 fa25 h n0 (own_size X) E_b2 F_last_b2 F_written_b2 F_lastLength_b2 A_b18 A_b4 A_la3 ge_b2 ge_b18 ge_la3 ((Ne.symm ne_b4_b18)) ((Ne.symm ne_la3_b18)) ((Ne.symm ne_la3_b4)) (by decide) (by omega) (by omega)) (by decide) (by decide) (by decide) (by decide) rfl (lenOf pd_3 rfl) rfl (Nat.le_of_eq rfl) at_133 (own_contVH fun T h X hq27 => ?_)
          obtain ⟨Kc, E_b2, F_last_b2, F_written_b2, ⟨w27, F_lastLength_b2⟩, ⟨ft27, A_n1⟩, fa27, A_n2⟩ := hq27
          have A_b4 := A_b4.keep Kc (ninS (Ne.symm ne_b2_b4) (ninS ne_b4_b18 (ninS (Ne.symm ne_la3_b4) nin0)))
          have A_b18 := A_n1
          have A_la3 := A_n2
          refine own_iloadN X at_136 rfl ?_
          refine own_iconst X (4) at_137 rfl ?_
          by_cases hc28 : 4 < v1.toInt
          · refine own_icmpNo X at_138 (tlt (own_cLt (a := 4) (b := v1.toInt) rfl rfl hc28)).2.2.2 ?_
            refine own_aload X at_141 rfl rfl ?_
            refine own_aload X at_143 rfl rfl ?_
            refine own_aload X at_145 rfl rfl ?_
            refine own_iload X at_147 rfl ?_
            refine own_callS X (W := 0) (argsL := [(.ref b2), (.ref b18), (.ref b4), (.int v17)]) (rest := []) (hw _ (List.mem_of_getElem? (i := 21) rfl)) (hw _ (List.mem_of_getElem? (i := 22) rfl)) (hw _ (List.mem_of_getElem? (i := 23) rfl)) (hw _ (List.mem_of_getElem? (i := 24) rfl)) (by decide) (rm4 l Z a0 hw [] b2 b18 b4 v17 la3 (4 : Int64) (5 : Int64) w27 ft27 f15 fa27 h n0 (own_size X) E_b2 F_last_b2 F_written_b2 F_lastLength_b2 A_b18 A_b4 A_la3 ge_b2 ge_b18 ge_la3 ((Ne.symm ne_b4_b18)) ((Ne.symm ne_la3_b18)) ((Ne.symm ne_la3_b4)) (by decide) (by omega) (by omega)) (by decide) (by decide) (by decide) (by decide) rfl (lenOf pd_3 rfl) rfl (Nat.le_of_eq rfl) at_149 (own_contVH fun T h X hq29 => ?_)
            obtain ⟨Kc, E_b2, F_last_b2, F_written_b2, ⟨w29, F_lastLength_b2⟩, ⟨ft29, A_n1⟩, fa29, A_n2⟩ := hq29
            have A_b4 := A_b4.keep Kc (ninS (Ne.symm ne_b2_b4) (ninS ne_b4_b18 (ninS (Ne.symm ne_la3_b4) nin0)))
            have A_b18 := A_n1
            have A_la3 := A_n2
            refine own_iloadN X at_152 rfl ?_
            refine own_iconst X (5) at_153 rfl ?_
            by_cases hc30 : 5 < v1.toInt
            · refine own_icmpNo X at_154 (tlt (own_cLt (a := 5) (b := v1.toInt) rfl rfl hc30)).2.2.2 ?_
              refine own_aload X at_157 rfl rfl ?_
              refine own_aload X at_159 rfl rfl ?_
              refine own_aload X at_161 rfl rfl ?_
              refine own_iload X at_163 rfl ?_
              refine own_callS X (W := 0) (argsL := [(.ref b2), (.ref b18), (.ref b4), (.int v17)]) (rest := []) (hw _ (List.mem_of_getElem? (i := 21) rfl)) (hw _ (List.mem_of_getElem? (i := 22) rfl)) (hw _ (List.mem_of_getElem? (i := 23) rfl)) (hw _ (List.mem_of_getElem? (i := 24) rfl)) (by decide) (rm4 l Z a0 hw [] b2 b18 b4 v17 la3 (5 : Int64) (6 : Int64) w29 ft29 f15 fa29 h n0 (own_size X) E_b2 F_last_b2 F_written_b2 F_lastLength_b2 A_b18 A_b4 A_la3 ge_b2 ge_b18 ge_la3 ((Ne.symm ne_b4_b18)) ((Ne.symm ne_la3_b18)) ((Ne.symm ne_la3_b4)) (by decide) (by omega) (by omega)) (by decide) (by decide) (by decide) (by decide) rfl (lenOf pd_3 rfl) rfl (Nat.le_of_eq rfl) at_165 (own_contVH fun T h X hq31 => ?_)
              obtain ⟨Kc, E_b2, F_last_b2, F_written_b2, ⟨w31, F_lastLength_b2⟩, ⟨ft31, A_n1⟩, fa31, A_n2⟩ := hq31
              have A_b4 := A_b4.keep Kc (ninS (Ne.symm ne_b2_b4) (ninS ne_b4_b18 (ninS (Ne.symm ne_la3_b4) nin0)))
              have A_b18 := A_n1
              have A_la3 := A_n2
              refine own_iloadN X at_168 rfl ?_
              refine own_bipush X (6) at_169 rfl ?_
              by_cases hc32 : 6 < v1.toInt
              · refine own_icmpNo X at_171 (tlt (own_cLt (a := 6) (b := v1.toInt) rfl rfl hc32)).2.2.2 ?_
                refine own_aload X at_174 rfl rfl ?_
                refine own_aload X at_176 rfl rfl ?_
                refine own_aload X at_178 rfl rfl ?_
                refine own_iload X at_180 rfl ?_
                refine own_callS X (W := 0) (argsL := [(.ref b2), (.ref b18), (.ref b4), (.int v17)]) (rest := []) (hw _ (List.mem_of_getElem? (i := 21) rfl)) (hw _ (List.mem_of_getElem? (i := 22) rfl)) (hw _ (List.mem_of_getElem? (i := 23) rfl)) (hw _ (List.mem_of_getElem? (i := 24) rfl)) (by decide) (rm4 l Z a0 hw [] b2 b18 b4 v17 la3 (6 : Int64) (7 : Int64) w31 ft31 f15 fa31 h n0 (own_size X) E_b2 F_last_b2 F_written_b2 F_lastLength_b2 A_b18 A_b4 A_la3 ge_b2 ge_b18 ge_la3 ((Ne.symm ne_b4_b18)) ((Ne.symm ne_la3_b18)) ((Ne.symm ne_la3_b4)) (by decide) (by omega) (by omega)) (by decide) (by decide) (by decide) (by decide) rfl (lenOf pd_3 rfl) rfl (Nat.le_of_eq rfl) at_182 (own_contVH fun T h X hq33 => ?_)
                obtain ⟨Kc, E_b2, F_last_b2, F_written_b2, ⟨w33, F_lastLength_b2⟩, ⟨ft33, A_n1⟩, fa33, A_n2⟩ := hq33
                have A_b4 := A_b4.keep Kc (ninS (Ne.symm ne_b2_b4) (ninS ne_b4_b18 (ninS (Ne.symm ne_la3_b4) nin0)))
                have A_b18 := A_n1
                have A_la3 := A_n2
                refine own_aload X at_185 rfl rfl ?_
                refine own_callV X (W := 0) (a := b2) (argsL := []) (rest := []) (hw _ (List.mem_of_getElem? (i := 13) rfl)) (hw _ (List.mem_of_getElem? (i := 14) rfl)) (hw _ (List.mem_of_getElem? (i := 16) rfl)) (hw _ (List.mem_of_getElem? (i := 15) rfl)) (hw _ (List.mem_of_getElem? (i := 2) rfl)) (hw _ (List.mem_of_getElem? (i := 17) rfl)) rfl (by decide) (rm3 l Z a0 hw [] b2 (7 : Int64) h n0 (own_size X) F_written_b2 (by decide) (by decide)) E_b2 (by decide) (by decide) (by decide) (by decide) rfl (lenOf pd_1 rfl) rfl (Nat.le_of_eq rfl) at_187 (own_contI fun T v34 X hq34 => ?_)
                have hz34 : v34 = 0 := by rw [hq34]; rfl
                subst hz34
                refine own_istore X at_190 (L' := #[.val (.int x0), .val (.int x1), .val (.int x2), .val (.int v1), .val (.ref b2), .val (.ref b4), .val (.int v17), .val (.ref b18), .val (.int (1 : Int32)), .val (.int (0 : Int32)), .unset]) rfl ?_
                refine own_aload X at_192 rfl rfl ?_
                refine own_callV X (W := 0) (a := b2) (argsL := []) (rest := []) (hw _ (List.mem_of_getElem? (i := 13) rfl)) (hw _ (List.mem_of_getElem? (i := 14) rfl)) (hw _ (List.mem_of_getElem? (i := 16) rfl)) (hw _ (List.mem_of_getElem? (i := 15) rfl)) (hw _ (List.mem_of_getElem? (i := 2) rfl)) (hw _ (List.mem_of_getElem? (i := 17) rfl)) rfl (by decide) (rm3 l Z a0 hw [] b2 (7 : Int64) h n0 (own_size X) F_written_b2 (by decide) (by decide)) E_b2 (by decide) (by decide) (by decide) (by decide) rfl (lenOf pd_1 rfl) rfl (Nat.le_of_eq rfl) at_194 (own_contI fun T v35 X hq35 => ?_)
                have hz35 : v35 = 0 := by rw [hq35]; rfl
                subst hz35
                refine own_istore X at_197 (L' := #[.val (.int x0), .val (.int x1), .val (.int x2), .val (.int v1), .val (.ref b2), .val (.ref b4), .val (.int v17), .val (.ref b18), .val (.int (1 : Int32)), .val (.int (0 : Int32)), .val (.int (0 : Int32))]) rfl ?_
                refine own_iload X at_199 rfl ?_
                refine own_ifNo X at_201 ((if0 _ _).trans (feq (own_cNe (a := 1) (b := 0) rfl rfl (by decide))).1) ?_
                refine own_iload X at_204 rfl ?_
                refine own_iloadN X at_206 rfl ?_
                have hc36 : ¬ (v1.toInt = 0) := by omega
                refine own_ifYes X (pc := 207) (pc' := 214) at_207 ((if0 _ _).trans (feq (own_cNe (a := v1.toInt) (b := 0) rfl rfl hc36)).2) (by decide) (by decide) ?_
                refine own_iconst X (0) at_214 rfl ?_
                refine own_icmpNo X at_215 (teq (own_cEq (a := 0) (b := 0) rfl rfl (by decide))).2 ?_
                refine own_iload X at_218 rfl ?_
                refine own_iload X at_220 rfl ?_
                refine own_icmpNo X at_222 (teq (own_cEq (a := 0) (b := 0) rfl rfl (by decide))).2 ?_
                refine own_iconst X (1) at_225 rfl ?_
                refine own_goto X (pc := 226) (pc' := 230) at_226 (by decide) (by decide) ?_
                refine own_retN (t := .boolean) X (z' := (1 : Int32)) (Or.inl rfl) rfl rfl at_230 (by decide) (by decide) ⟨_, rfl, ?_⟩
                rfl
              · refine own_icmpYes X (pc := 171) (pc' := 185) at_171 (flt (own_cGe (a := 6) (b := v1.toInt) rfl rfl hc32)).2.2.2 (by decide) (by decide) ?_
                refine own_aload X at_185 rfl rfl ?_
                refine own_callV X (W := 0) (a := b2) (argsL := []) (rest := []) (hw _ (List.mem_of_getElem? (i := 13) rfl)) (hw _ (List.mem_of_getElem? (i := 14) rfl)) (hw _ (List.mem_of_getElem? (i := 16) rfl)) (hw _ (List.mem_of_getElem? (i := 15) rfl)) (hw _ (List.mem_of_getElem? (i := 2) rfl)) (hw _ (List.mem_of_getElem? (i := 17) rfl)) rfl (by decide) (rm3 l Z a0 hw [] b2 (6 : Int64) h n0 (own_size X) F_written_b2 (by decide) (by decide)) E_b2 (by decide) (by decide) (by decide) (by decide) rfl (lenOf pd_1 rfl) rfl (Nat.le_of_eq rfl) at_187 (own_contI fun T v37 X hq37 => ?_)
                have hz37 : v37 = 0 := by rw [hq37]; rfl
                subst hz37
                refine own_istore X at_190 (L' := #[.val (.int x0), .val (.int x1), .val (.int x2), .val (.int v1), .val (.ref b2), .val (.ref b4), .val (.int v17), .val (.ref b18), .val (.int (1 : Int32)), .val (.int (0 : Int32)), .unset]) rfl ?_
                refine own_aload X at_192 rfl rfl ?_
                refine own_callV X (W := 0) (a := b2) (argsL := []) (rest := []) (hw _ (List.mem_of_getElem? (i := 13) rfl)) (hw _ (List.mem_of_getElem? (i := 14) rfl)) (hw _ (List.mem_of_getElem? (i := 16) rfl)) (hw _ (List.mem_of_getElem? (i := 15) rfl)) (hw _ (List.mem_of_getElem? (i := 2) rfl)) (hw _ (List.mem_of_getElem? (i := 17) rfl)) rfl (by decide) (rm3 l Z a0 hw [] b2 (6 : Int64) h n0 (own_size X) F_written_b2 (by decide) (by decide)) E_b2 (by decide) (by decide) (by decide) (by decide) rfl (lenOf pd_1 rfl) rfl (Nat.le_of_eq rfl) at_194 (own_contI fun T v38 X hq38 => ?_)
                have hz38 : v38 = 0 := by rw [hq38]; rfl
                subst hz38
                refine own_istore X at_197 (L' := #[.val (.int x0), .val (.int x1), .val (.int x2), .val (.int v1), .val (.ref b2), .val (.ref b4), .val (.int v17), .val (.ref b18), .val (.int (1 : Int32)), .val (.int (0 : Int32)), .val (.int (0 : Int32))]) rfl ?_
                refine own_iload X at_199 rfl ?_
                refine own_ifNo X at_201 ((if0 _ _).trans (feq (own_cNe (a := 1) (b := 0) rfl rfl (by decide))).1) ?_
                refine own_iload X at_204 rfl ?_
                refine own_iloadN X at_206 rfl ?_
                have hc39 : ¬ (v1.toInt = 0) := by omega
                refine own_ifYes X (pc := 207) (pc' := 214) at_207 ((if0 _ _).trans (feq (own_cNe (a := v1.toInt) (b := 0) rfl rfl hc39)).2) (by decide) (by decide) ?_
                refine own_iconst X (0) at_214 rfl ?_
                refine own_icmpNo X at_215 (teq (own_cEq (a := 0) (b := 0) rfl rfl (by decide))).2 ?_
                refine own_iload X at_218 rfl ?_
                refine own_iload X at_220 rfl ?_
                refine own_icmpNo X at_222 (teq (own_cEq (a := 0) (b := 0) rfl rfl (by decide))).2 ?_
                refine own_iconst X (1) at_225 rfl ?_
                refine own_goto X (pc := 226) (pc' := 230) at_226 (by decide) (by decide) ?_
                refine own_retN (t := .boolean) X (z' := (1 : Int32)) (Or.inl rfl) rfl rfl at_230 (by decide) (by decide) ⟨_, rfl, ?_⟩
                rfl
            · refine own_icmpYes X (pc := 154) (pc' := 168) at_154 (flt (own_cGe (a := 5) (b := v1.toInt) rfl rfl hc30)).2.2.2 (by decide) (by decide) ?_
              refine own_iloadN X at_168 rfl ?_
              refine own_bipush X (6) at_169 rfl ?_
              have hc40 : ¬ (6 < v1.toInt) := by omega
              refine own_icmpYes X (pc := 171) (pc' := 185) at_171 (flt (own_cGe (a := 6) (b := v1.toInt) rfl rfl hc40)).2.2.2 (by decide) (by decide) ?_
              refine own_aload X at_185 rfl rfl ?_
              refine own_callV X (W := 0) (a := b2) (argsL := []) (rest := []) (hw _ (List.mem_of_getElem? (i := 13) rfl)) (hw _ (List.mem_of_getElem? (i := 14) rfl)) (hw _ (List.mem_of_getElem? (i := 16) rfl)) (hw _ (List.mem_of_getElem? (i := 15) rfl)) (hw _ (List.mem_of_getElem? (i := 2) rfl)) (hw _ (List.mem_of_getElem? (i := 17) rfl)) rfl (by decide) (rm3 l Z a0 hw [] b2 (5 : Int64) h n0 (own_size X) F_written_b2 (by decide) (by decide)) E_b2 (by decide) (by decide) (by decide) (by decide) rfl (lenOf pd_1 rfl) rfl (Nat.le_of_eq rfl) at_187 (own_contI fun T v41 X hq41 => ?_)
              have hz41 : v41 = 0 := by rw [hq41]; rfl
              subst hz41
              refine own_istore X at_190 (L' := #[.val (.int x0), .val (.int x1), .val (.int x2), .val (.int v1), .val (.ref b2), .val (.ref b4), .val (.int v17), .val (.ref b18), .val (.int (1 : Int32)), .val (.int (0 : Int32)), .unset]) rfl ?_
              refine own_aload X at_192 rfl rfl ?_
              refine own_callV X (W := 0) (a := b2) (argsL := []) (rest := []) (hw _ (List.mem_of_getElem? (i := 13) rfl)) (hw _ (List.mem_of_getElem? (i := 14) rfl)) (hw _ (List.mem_of_getElem? (i := 16) rfl)) (hw _ (List.mem_of_getElem? (i := 15) rfl)) (hw _ (List.mem_of_getElem? (i := 2) rfl)) (hw _ (List.mem_of_getElem? (i := 17) rfl)) rfl (by decide) (rm3 l Z a0 hw [] b2 (5 : Int64) h n0 (own_size X) F_written_b2 (by decide) (by decide)) E_b2 (by decide) (by decide) (by decide) (by decide) rfl (lenOf pd_1 rfl) rfl (Nat.le_of_eq rfl) at_194 (own_contI fun T v42 X hq42 => ?_)
              have hz42 : v42 = 0 := by rw [hq42]; rfl
              subst hz42
              refine own_istore X at_197 (L' := #[.val (.int x0), .val (.int x1), .val (.int x2), .val (.int v1), .val (.ref b2), .val (.ref b4), .val (.int v17), .val (.ref b18), .val (.int (1 : Int32)), .val (.int (0 : Int32)), .val (.int (0 : Int32))]) rfl ?_
              refine own_iload X at_199 rfl ?_
              refine own_ifNo X at_201 ((if0 _ _).trans (feq (own_cNe (a := 1) (b := 0) rfl rfl (by decide))).1) ?_
              refine own_iload X at_204 rfl ?_
              refine own_iloadN X at_206 rfl ?_
              have hc43 : ¬ (v1.toInt = 0) := by omega
              refine own_ifYes X (pc := 207) (pc' := 214) at_207 ((if0 _ _).trans (feq (own_cNe (a := v1.toInt) (b := 0) rfl rfl hc43)).2) (by decide) (by decide) ?_
              refine own_iconst X (0) at_214 rfl ?_
              refine own_icmpNo X at_215 (teq (own_cEq (a := 0) (b := 0) rfl rfl (by decide))).2 ?_
              refine own_iload X at_218 rfl ?_
              refine own_iload X at_220 rfl ?_
              refine own_icmpNo X at_222 (teq (own_cEq (a := 0) (b := 0) rfl rfl (by decide))).2 ?_
              refine own_iconst X (1) at_225 rfl ?_
              refine own_goto X (pc := 226) (pc' := 230) at_226 (by decide) (by decide) ?_
              refine own_retN (t := .boolean) X (z' := (1 : Int32)) (Or.inl rfl) rfl rfl at_230 (by decide) (by decide) ⟨_, rfl, ?_⟩
              rfl
          · refine own_icmpYes X (pc := 138) (pc' := 152) at_138 (flt (own_cGe (a := 4) (b := v1.toInt) rfl rfl hc28)).2.2.2 (by decide) (by decide) ?_
            refine own_iloadN X at_152 rfl ?_
            refine own_iconst X (5) at_153 rfl ?_
            have hc44 : ¬ (5 < v1.toInt) := by omega
            refine own_icmpYes X (pc := 154) (pc' := 168) at_154 (flt (own_cGe (a := 5) (b := v1.toInt) rfl rfl hc44)).2.2.2 (by decide) (by decide) ?_
            refine own_iloadN X at_168 rfl ?_
            refine own_bipush X (6) at_169 rfl ?_
            have hc45 : ¬ (6 < v1.toInt) := by omega
            refine own_icmpYes X (pc := 171) (pc' := 185) at_171 (flt (own_cGe (a := 6) (b := v1.toInt) rfl rfl hc45)).2.2.2 (by decide) (by decide) ?_
            refine own_aload X at_185 rfl rfl ?_
            refine own_callV X (W := 0) (a := b2) (argsL := []) (rest := []) (hw _ (List.mem_of_getElem? (i := 13) rfl)) (hw _ (List.mem_of_getElem? (i := 14) rfl)) (hw _ (List.mem_of_getElem? (i := 16) rfl)) (hw _ (List.mem_of_getElem? (i := 15) rfl)) (hw _ (List.mem_of_getElem? (i := 2) rfl)) (hw _ (List.mem_of_getElem? (i := 17) rfl)) rfl (by decide) (rm3 l Z a0 hw [] b2 (4 : Int64) h n0 (own_size X) F_written_b2 (by decide) (by decide)) E_b2 (by decide) (by decide) (by decide) (by decide) rfl (lenOf pd_1 rfl) rfl (Nat.le_of_eq rfl) at_187 (own_contI fun T v46 X hq46 => ?_)
            have hz46 : v46 = 0 := by rw [hq46]; rfl
            subst hz46
            refine own_istore X at_190 (L' := #[.val (.int x0), .val (.int x1), .val (.int x2), .val (.int v1), .val (.ref b2), .val (.ref b4), .val (.int v17), .val (.ref b18), .val (.int (1 : Int32)), .val (.int (0 : Int32)), .unset]) rfl ?_
            refine own_aload X at_192 rfl rfl ?_
            refine own_callV X (W := 0) (a := b2) (argsL := []) (rest := []) (hw _ (List.mem_of_getElem? (i := 13) rfl)) (hw _ (List.mem_of_getElem? (i := 14) rfl)) (hw _ (List.mem_of_getElem? (i := 16) rfl)) (hw _ (List.mem_of_getElem? (i := 15) rfl)) (hw _ (List.mem_of_getElem? (i := 2) rfl)) (hw _ (List.mem_of_getElem? (i := 17) rfl)) rfl (by decide) (rm3 l Z a0 hw [] b2 (4 : Int64) h n0 (own_size X) F_written_b2 (by decide) (by decide)) E_b2 (by decide) (by decide) (by decide) (by decide) rfl (lenOf pd_1 rfl) rfl (Nat.le_of_eq rfl) at_194 (own_contI fun T v47 X hq47 => ?_)
            have hz47 : v47 = 0 := by rw [hq47]; rfl
            subst hz47
            refine own_istore X at_197 (L' := #[.val (.int x0), .val (.int x1), .val (.int x2), .val (.int v1), .val (.ref b2), .val (.ref b4), .val (.int v17), .val (.ref b18), .val (.int (1 : Int32)), .val (.int (0 : Int32)), .val (.int (0 : Int32))]) rfl ?_
            refine own_iload X at_199 rfl ?_
            refine own_ifNo X at_201 ((if0 _ _).trans (feq (own_cNe (a := 1) (b := 0) rfl rfl (by decide))).1) ?_
            refine own_iload X at_204 rfl ?_
            refine own_iloadN X at_206 rfl ?_
            have hc48 : ¬ (v1.toInt = 0) := by omega
            refine own_ifYes X (pc := 207) (pc' := 214) at_207 ((if0 _ _).trans (feq (own_cNe (a := v1.toInt) (b := 0) rfl rfl hc48)).2) (by decide) (by decide) ?_
            refine own_iconst X (0) at_214 rfl ?_
            refine own_icmpNo X at_215 (teq (own_cEq (a := 0) (b := 0) rfl rfl (by decide))).2 ?_
            refine own_iload X at_218 rfl ?_
            refine own_iload X at_220 rfl ?_
            refine own_icmpNo X at_222 (teq (own_cEq (a := 0) (b := 0) rfl rfl (by decide))).2 ?_
            refine own_iconst X (1) at_225 rfl ?_
            refine own_goto X (pc := 226) (pc' := 230) at_226 (by decide) (by decide) ?_
            refine own_retN (t := .boolean) X (z' := (1 : Int32)) (Or.inl rfl) rfl rfl at_230 (by decide) (by decide) ⟨_, rfl, ?_⟩
            rfl
        · refine own_icmpYes X (pc := 122) (pc' := 136) at_122 (flt (own_cGe (a := 3) (b := v1.toInt) rfl rfl hc26)).2.2.2 (by decide) (by decide) ?_
          refine own_iloadN X at_136 rfl ?_
          refine own_iconst X (4) at_137 rfl ?_
          have hc49 : ¬ (4 < v1.toInt) := by omega
          refine own_icmpYes X (pc := 138) (pc' := 152) at_138 (flt (own_cGe (a := 4) (b := v1.toInt) rfl rfl hc49)).2.2.2 (by decide) (by decide) ?_
          refine own_iloadN X at_152 rfl ?_
          refine own_iconst X (5) at_153 rfl ?_
          have hc50 : ¬ (5 < v1.toInt) := by omega
          refine own_icmpYes X (pc := 154) (pc' := 168) at_154 (flt (own_cGe (a := 5) (b := v1.toInt) rfl rfl hc50)).2.2.2 (by decide) (by decide) ?_
          refine own_iloadN X at_168 rfl ?_
          refine own_bipush X (6) at_169 rfl ?_
          have hc51 : ¬ (6 < v1.toInt) := by omega
          refine own_icmpYes X (pc := 171) (pc' := 185) at_171 (flt (own_cGe (a := 6) (b := v1.toInt) rfl rfl hc51)).2.2.2 (by decide) (by decide) ?_
          refine own_aload X at_185 rfl rfl ?_
          refine own_callV X (W := 0) (a := b2) (argsL := []) (rest := []) (hw _ (List.mem_of_getElem? (i := 13) rfl)) (hw _ (List.mem_of_getElem? (i := 14) rfl)) (hw _ (List.mem_of_getElem? (i := 16) rfl)) (hw _ (List.mem_of_getElem? (i := 15) rfl)) (hw _ (List.mem_of_getElem? (i := 2) rfl)) (hw _ (List.mem_of_getElem? (i := 17) rfl)) rfl (by decide) (rm3 l Z a0 hw [] b2 (3 : Int64) h n0 (own_size X) F_written_b2 (by decide) (by decide)) E_b2 (by decide) (by decide) (by decide) (by decide) rfl (lenOf pd_1 rfl) rfl (Nat.le_of_eq rfl) at_187 (own_contI fun T v52 X hq52 => ?_)
          have hz52 : v52 = 0 := by rw [hq52]; rfl
          subst hz52
          refine own_istore X at_190 (L' := #[.val (.int x0), .val (.int x1), .val (.int x2), .val (.int v1), .val (.ref b2), .val (.ref b4), .val (.int v17), .val (.ref b18), .val (.int (1 : Int32)), .val (.int (0 : Int32)), .unset]) rfl ?_
          refine own_aload X at_192 rfl rfl ?_
          refine own_callV X (W := 0) (a := b2) (argsL := []) (rest := []) (hw _ (List.mem_of_getElem? (i := 13) rfl)) (hw _ (List.mem_of_getElem? (i := 14) rfl)) (hw _ (List.mem_of_getElem? (i := 16) rfl)) (hw _ (List.mem_of_getElem? (i := 15) rfl)) (hw _ (List.mem_of_getElem? (i := 2) rfl)) (hw _ (List.mem_of_getElem? (i := 17) rfl)) rfl (by decide) (rm3 l Z a0 hw [] b2 (3 : Int64) h n0 (own_size X) F_written_b2 (by decide) (by decide)) E_b2 (by decide) (by decide) (by decide) (by decide) rfl (lenOf pd_1 rfl) rfl (Nat.le_of_eq rfl) at_194 (own_contI fun T v53 X hq53 => ?_)
          have hz53 : v53 = 0 := by rw [hq53]; rfl
          subst hz53
          refine own_istore X at_197 (L' := #[.val (.int x0), .val (.int x1), .val (.int x2), .val (.int v1), .val (.ref b2), .val (.ref b4), .val (.int v17), .val (.ref b18), .val (.int (1 : Int32)), .val (.int (0 : Int32)), .val (.int (0 : Int32))]) rfl ?_
          refine own_iload X at_199 rfl ?_
          refine own_ifNo X at_201 ((if0 _ _).trans (feq (own_cNe (a := 1) (b := 0) rfl rfl (by decide))).1) ?_
          refine own_iload X at_204 rfl ?_
          refine own_iloadN X at_206 rfl ?_
          have hc54 : ¬ (v1.toInt = 0) := by omega
          refine own_ifYes X (pc := 207) (pc' := 214) at_207 ((if0 _ _).trans (feq (own_cNe (a := v1.toInt) (b := 0) rfl rfl hc54)).2) (by decide) (by decide) ?_
          refine own_iconst X (0) at_214 rfl ?_
          refine own_icmpNo X at_215 (teq (own_cEq (a := 0) (b := 0) rfl rfl (by decide))).2 ?_
          refine own_iload X at_218 rfl ?_
          refine own_iload X at_220 rfl ?_
          refine own_icmpNo X at_222 (teq (own_cEq (a := 0) (b := 0) rfl rfl (by decide))).2 ?_
          refine own_iconst X (1) at_225 rfl ?_
          refine own_goto X (pc := 226) (pc' := 230) at_226 (by decide) (by decide) ?_
          refine own_retN (t := .boolean) X (z' := (1 : Int32)) (Or.inl rfl) rfl rfl at_230 (by decide) (by decide) ⟨_, rfl, ?_⟩
          rfl
      · refine own_icmpYes X (pc := 106) (pc' := 120) at_106 (flt (own_cGe (a := 2) (b := v1.toInt) rfl rfl hc24)).2.2.2 (by decide) (by decide) ?_
        refine own_iloadN X at_120 rfl ?_
        refine own_iconst X (3) at_121 rfl ?_
        have hc55 : ¬ (3 < v1.toInt) := by omega
        refine own_icmpYes X (pc := 122) (pc' := 136) at_122 (flt (own_cGe (a := 3) (b := v1.toInt) rfl rfl hc55)).2.2.2 (by decide) (by decide) ?_
        refine own_iloadN X at_136 rfl ?_
        refine own_iconst X (4) at_137 rfl ?_
        have hc56 : ¬ (4 < v1.toInt) := by omega
        refine own_icmpYes X (pc := 138) (pc' := 152) at_138 (flt (own_cGe (a := 4) (b := v1.toInt) rfl rfl hc56)).2.2.2 (by decide) (by decide) ?_
        refine own_iloadN X at_152 rfl ?_
        refine own_iconst X (5) at_153 rfl ?_
        have hc57 : ¬ (5 < v1.toInt) := by omega
        refine own_icmpYes X (pc := 154) (pc' := 168) at_154 (flt (own_cGe (a := 5) (b := v1.toInt) rfl rfl hc57)).2.2.2 (by decide) (by decide) ?_
        refine own_iloadN X at_168 rfl ?_
        refine own_bipush X (6) at_169 rfl ?_
        have hc58 : ¬ (6 < v1.toInt) := by omega
        refine own_icmpYes X (pc := 171) (pc' := 185) at_171 (flt (own_cGe (a := 6) (b := v1.toInt) rfl rfl hc58)).2.2.2 (by decide) (by decide) ?_
        refine own_aload X at_185 rfl rfl ?_
        refine own_callV X (W := 0) (a := b2) (argsL := []) (rest := []) (hw _ (List.mem_of_getElem? (i := 13) rfl)) (hw _ (List.mem_of_getElem? (i := 14) rfl)) (hw _ (List.mem_of_getElem? (i := 16) rfl)) (hw _ (List.mem_of_getElem? (i := 15) rfl)) (hw _ (List.mem_of_getElem? (i := 2) rfl)) (hw _ (List.mem_of_getElem? (i := 17) rfl)) rfl (by decide) (rm3 l Z a0 hw [] b2 (2 : Int64) h n0 (own_size X) F_written_b2 (by decide) (by decide)) E_b2 (by decide) (by decide) (by decide) (by decide) rfl (lenOf pd_1 rfl) rfl (Nat.le_of_eq rfl) at_187 (own_contI fun T v59 X hq59 => ?_)
        have hz59 : v59 = 0 := by rw [hq59]; rfl
        subst hz59
        refine own_istore X at_190 (L' := #[.val (.int x0), .val (.int x1), .val (.int x2), .val (.int v1), .val (.ref b2), .val (.ref b4), .val (.int v17), .val (.ref b18), .val (.int (1 : Int32)), .val (.int (0 : Int32)), .unset]) rfl ?_
        refine own_aload X at_192 rfl rfl ?_
        refine own_callV X (W := 0) (a := b2) (argsL := []) (rest := []) (hw _ (List.mem_of_getElem? (i := 13) rfl)) (hw _ (List.mem_of_getElem? (i := 14) rfl)) (hw _ (List.mem_of_getElem? (i := 16) rfl)) (hw _ (List.mem_of_getElem? (i := 15) rfl)) (hw _ (List.mem_of_getElem? (i := 2) rfl)) (hw _ (List.mem_of_getElem? (i := 17) rfl)) rfl (by decide) (rm3 l Z a0 hw [] b2 (2 : Int64) h n0 (own_size X) F_written_b2 (by decide) (by decide)) E_b2 (by decide) (by decide) (by decide) (by decide) rfl (lenOf pd_1 rfl) rfl (Nat.le_of_eq rfl) at_194 (own_contI fun T v60 X hq60 => ?_)
        have hz60 : v60 = 0 := by rw [hq60]; rfl
        subst hz60
        refine own_istore X at_197 (L' := #[.val (.int x0), .val (.int x1), .val (.int x2), .val (.int v1), .val (.ref b2), .val (.ref b4), .val (.int v17), .val (.ref b18), .val (.int (1 : Int32)), .val (.int (0 : Int32)), .val (.int (0 : Int32))]) rfl ?_
        refine own_iload X at_199 rfl ?_
        refine own_ifNo X at_201 ((if0 _ _).trans (feq (own_cNe (a := 1) (b := 0) rfl rfl (by decide))).1) ?_
        refine own_iload X at_204 rfl ?_
        refine own_iloadN X at_206 rfl ?_
        have hc61 : ¬ (v1.toInt = 0) := by omega
        refine own_ifYes X (pc := 207) (pc' := 214) at_207 ((if0 _ _).trans (feq (own_cNe (a := v1.toInt) (b := 0) rfl rfl hc61)).2) (by decide) (by decide) ?_
        refine own_iconst X (0) at_214 rfl ?_
        refine own_icmpNo X at_215 (teq (own_cEq (a := 0) (b := 0) rfl rfl (by decide))).2 ?_
        refine own_iload X at_218 rfl ?_
        refine own_iload X at_220 rfl ?_
        refine own_icmpNo X at_222 (teq (own_cEq (a := 0) (b := 0) rfl rfl (by decide))).2 ?_
        refine own_iconst X (1) at_225 rfl ?_
        refine own_goto X (pc := 226) (pc' := 230) at_226 (by decide) (by decide) ?_
        refine own_retN (t := .boolean) X (z' := (1 : Int32)) (Or.inl rfl) rfl rfl at_230 (by decide) (by decide) ⟨_, rfl, ?_⟩
        rfl
    · refine own_icmpYes X (pc := 90) (pc' := 104) at_90 (flt (own_cGe (a := 1) (b := v1.toInt) rfl rfl hc22)).2.2.2 (by decide) (by decide) ?_
      refine own_iloadN X at_104 rfl ?_
      refine own_iconst X (2) at_105 rfl ?_
      have hc62 : ¬ (2 < v1.toInt) := by omega
      refine own_icmpYes X (pc := 106) (pc' := 120) at_106 (flt (own_cGe (a := 2) (b := v1.toInt) rfl rfl hc62)).2.2.2 (by decide) (by decide) ?_
      refine own_iloadN X at_120 rfl ?_
      refine own_iconst X (3) at_121 rfl ?_
      have hc63 : ¬ (3 < v1.toInt) := by omega
      refine own_icmpYes X (pc := 122) (pc' := 136) at_122 (flt (own_cGe (a := 3) (b := v1.toInt) rfl rfl hc63)).2.2.2 (by decide) (by decide) ?_
      refine own_iloadN X at_136 rfl ?_
      refine own_iconst X (4) at_137 rfl ?_
      have hc64 : ¬ (4 < v1.toInt) := by omega
      refine own_icmpYes X (pc := 138) (pc' := 152) at_138 (flt (own_cGe (a := 4) (b := v1.toInt) rfl rfl hc64)).2.2.2 (by decide) (by decide) ?_
      refine own_iloadN X at_152 rfl ?_
      refine own_iconst X (5) at_153 rfl ?_
      have hc65 : ¬ (5 < v1.toInt) := by omega
      refine own_icmpYes X (pc := 154) (pc' := 168) at_154 (flt (own_cGe (a := 5) (b := v1.toInt) rfl rfl hc65)).2.2.2 (by decide) (by decide) ?_
      refine own_iloadN X at_168 rfl ?_
      refine own_bipush X (6) at_169 rfl ?_
      have hc66 : ¬ (6 < v1.toInt) := by omega
      refine own_icmpYes X (pc := 171) (pc' := 185) at_171 (flt (own_cGe (a := 6) (b := v1.toInt) rfl rfl hc66)).2.2.2 (by decide) (by decide) ?_
      refine own_aload X at_185 rfl rfl ?_
      refine own_callV X (W := 0) (a := b2) (argsL := []) (rest := []) (hw _ (List.mem_of_getElem? (i := 13) rfl)) (hw _ (List.mem_of_getElem? (i := 14) rfl)) (hw _ (List.mem_of_getElem? (i := 16) rfl)) (hw _ (List.mem_of_getElem? (i := 15) rfl)) (hw _ (List.mem_of_getElem? (i := 2) rfl)) (hw _ (List.mem_of_getElem? (i := 17) rfl)) rfl (by decide) (rm3 l Z a0 hw [] b2 (1 : Int64) h n0 (own_size X) F_written_b2 (by decide) (by decide)) E_b2 (by decide) (by decide) (by decide) (by decide) rfl (lenOf pd_1 rfl) rfl (Nat.le_of_eq rfl) at_187 (own_contI fun T v67 X hq67 => ?_)
      have hz67 : v67 = 0 := by rw [hq67]; rfl
      subst hz67
      refine own_istore X at_190 (L' := #[.val (.int x0), .val (.int x1), .val (.int x2), .val (.int v1), .val (.ref b2), .val (.ref b4), .val (.int v17), .val (.ref b18), .val (.int (1 : Int32)), .val (.int (0 : Int32)), .unset]) rfl ?_
      refine own_aload X at_192 rfl rfl ?_
      refine own_callV X (W := 0) (a := b2) (argsL := []) (rest := []) (hw _ (List.mem_of_getElem? (i := 13) rfl)) (hw _ (List.mem_of_getElem? (i := 14) rfl)) (hw _ (List.mem_of_getElem? (i := 16) rfl)) (hw _ (List.mem_of_getElem? (i := 15) rfl)) (hw _ (List.mem_of_getElem? (i := 2) rfl)) (hw _ (List.mem_of_getElem? (i := 17) rfl)) rfl (by decide) (rm3 l Z a0 hw [] b2 (1 : Int64) h n0 (own_size X) F_written_b2 (by decide) (by decide)) E_b2 (by decide) (by decide) (by decide) (by decide) rfl (lenOf pd_1 rfl) rfl (Nat.le_of_eq rfl) at_194 (own_contI fun T v68 X hq68 => ?_)
      have hz68 : v68 = 0 := by rw [hq68]; rfl
      subst hz68
      refine own_istore X at_197 (L' := #[.val (.int x0), .val (.int x1), .val (.int x2), .val (.int v1), .val (.ref b2), .val (.ref b4), .val (.int v17), .val (.ref b18), .val (.int (1 : Int32)), .val (.int (0 : Int32)), .val (.int (0 : Int32))]) rfl ?_
      refine own_iload X at_199 rfl ?_
      refine own_ifNo X at_201 ((if0 _ _).trans (feq (own_cNe (a := 1) (b := 0) rfl rfl (by decide))).1) ?_
      refine own_iload X at_204 rfl ?_
      refine own_iloadN X at_206 rfl ?_
      have hc69 : ¬ (v1.toInt = 0) := by omega
      refine own_ifYes X (pc := 207) (pc' := 214) at_207 ((if0 _ _).trans (feq (own_cNe (a := v1.toInt) (b := 0) rfl rfl hc69)).2) (by decide) (by decide) ?_
      refine own_iconst X (0) at_214 rfl ?_
      refine own_icmpNo X at_215 (teq (own_cEq (a := 0) (b := 0) rfl rfl (by decide))).2 ?_
      refine own_iload X at_218 rfl ?_
      refine own_iload X at_220 rfl ?_
      refine own_icmpNo X at_222 (teq (own_cEq (a := 0) (b := 0) rfl rfl (by decide))).2 ?_
      refine own_iconst X (1) at_225 rfl ?_
      refine own_goto X (pc := 226) (pc' := 230) at_226 (by decide) (by decide) ?_
      refine own_retN (t := .boolean) X (z' := (1 : Int32)) (Or.inl rfl) rfl rfl at_230 (by decide) (by decide) ⟨_, rfl, ?_⟩
      rfl
  · refine own_ifYes X (pc := 74) (pc' := 88) at_74 ((if0 _ _).trans (flt (own_cGe (a := 0) (b := v1.toInt) rfl rfl hc20)).2.2.2) (by decide) (by decide) ?_
    refine own_iloadN X at_88 rfl ?_
    refine own_iconst X (1) at_89 rfl ?_
    have hc70 : ¬ (1 < v1.toInt) := by omega
    refine own_icmpYes X (pc := 90) (pc' := 104) at_90 (flt (own_cGe (a := 1) (b := v1.toInt) rfl rfl hc70)).2.2.2 (by decide) (by decide) ?_
    refine own_iloadN X at_104 rfl ?_
    refine own_iconst X (2) at_105 rfl ?_
    have hc71 : ¬ (2 < v1.toInt) := by omega
    refine own_icmpYes X (pc := 106) (pc' := 120) at_106 (flt (own_cGe (a := 2) (b := v1.toInt) rfl rfl hc71)).2.2.2 (by decide) (by decide) ?_
    refine own_iloadN X at_120 rfl ?_
    refine own_iconst X (3) at_121 rfl ?_
    have hc72 : ¬ (3 < v1.toInt) := by omega
    refine own_icmpYes X (pc := 122) (pc' := 136) at_122 (flt (own_cGe (a := 3) (b := v1.toInt) rfl rfl hc72)).2.2.2 (by decide) (by decide) ?_
    refine own_iloadN X at_136 rfl ?_
    refine own_iconst X (4) at_137 rfl ?_
    have hc73 : ¬ (4 < v1.toInt) := by omega
    refine own_icmpYes X (pc := 138) (pc' := 152) at_138 (flt (own_cGe (a := 4) (b := v1.toInt) rfl rfl hc73)).2.2.2 (by decide) (by decide) ?_
    refine own_iloadN X at_152 rfl ?_
    refine own_iconst X (5) at_153 rfl ?_
    have hc74 : ¬ (5 < v1.toInt) := by omega
    refine own_icmpYes X (pc := 154) (pc' := 168) at_154 (flt (own_cGe (a := 5) (b := v1.toInt) rfl rfl hc74)).2.2.2 (by decide) (by decide) ?_
    refine own_iloadN X at_168 rfl ?_
    refine own_bipush X (6) at_169 rfl ?_
    have hc75 : ¬ (6 < v1.toInt) := by omega
    refine own_icmpYes X (pc := 171) (pc' := 185) at_171 (flt (own_cGe (a := 6) (b := v1.toInt) rfl rfl hc75)).2.2.2 (by decide) (by decide) ?_
    refine own_aload X at_185 rfl rfl ?_
    refine own_callV X (W := 0) (a := b2) (argsL := []) (rest := []) (hw _ (List.mem_of_getElem? (i := 13) rfl)) (hw _ (List.mem_of_getElem? (i := 14) rfl)) (hw _ (List.mem_of_getElem? (i := 16) rfl)) (hw _ (List.mem_of_getElem? (i := 15) rfl)) (hw _ (List.mem_of_getElem? (i := 2) rfl)) (hw _ (List.mem_of_getElem? (i := 17) rfl)) rfl (by decide) (rm3 l Z a0 hw [] b2 (0 : Int64) h n0 (own_size X) F_written_b2 (by decide) (by decide)) E_b2 (by decide) (by decide) (by decide) (by decide) rfl (lenOf pd_1 rfl) rfl (Nat.le_of_eq rfl) at_187 (own_contI fun T v76 X hq76 => ?_)
    have hz76 : v76 = 1 := by rw [hq76]; rfl
    subst hz76
    refine own_istore X at_190 (L' := #[.val (.int x0), .val (.int x1), .val (.int x2), .val (.int v1), .val (.ref b2), .val (.ref b4), .val (.int v17), .val (.ref b18), .val (.int (1 : Int32)), .val (.int (1 : Int32)), .unset]) rfl ?_
    refine own_aload X at_192 rfl rfl ?_
    refine own_callV X (W := 0) (a := b2) (argsL := []) (rest := []) (hw _ (List.mem_of_getElem? (i := 13) rfl)) (hw _ (List.mem_of_getElem? (i := 14) rfl)) (hw _ (List.mem_of_getElem? (i := 16) rfl)) (hw _ (List.mem_of_getElem? (i := 15) rfl)) (hw _ (List.mem_of_getElem? (i := 2) rfl)) (hw _ (List.mem_of_getElem? (i := 17) rfl)) rfl (by decide) (rm3 l Z a0 hw [] b2 (0 : Int64) h n0 (own_size X) F_written_b2 (by decide) (by decide)) E_b2 (by decide) (by decide) (by decide) (by decide) rfl (lenOf pd_1 rfl) rfl (Nat.le_of_eq rfl) at_194 (own_contI fun T v77 X hq77 => ?_)
    have hz77 : v77 = 1 := by rw [hq77]; rfl
    subst hz77
    refine own_istore X at_197 (L' := #[.val (.int x0), .val (.int x1), .val (.int x2), .val (.int v1), .val (.ref b2), .val (.ref b4), .val (.int v17), .val (.ref b18), .val (.int (1 : Int32)), .val (.int (1 : Int32)), .val (.int (1 : Int32))]) rfl ?_
    refine own_iload X at_199 rfl ?_
    refine own_ifNo X at_201 ((if0 _ _).trans (feq (own_cNe (a := 1) (b := 0) rfl rfl (by decide))).1) ?_
    refine own_iload X at_204 rfl ?_
    refine own_iloadN X at_206 rfl ?_
    have hc78 : v1.toInt = 0 := by omega
    refine own_ifNo X at_207 ((if0 _ _).trans (teq (own_cEq (a := v1.toInt) (b := 0) rfl rfl hc78)).2) ?_
    refine own_iconst X (1) at_210 rfl ?_
    refine own_goto X (pc := 211) (pc' := 215) at_211 (by decide) (by decide) ?_
    refine own_icmpNo X at_215 (teq (own_cEq (a := 1) (b := 1) rfl rfl (by decide))).2 ?_
    refine own_iload X at_218 rfl ?_
    refine own_iload X at_220 rfl ?_
    refine own_icmpNo X at_222 (teq (own_cEq (a := 1) (b := 1) rfl rfl (by decide))).2 ?_
    refine own_iconst X (1) at_225 rfl ?_
    refine own_goto X (pc := 226) (pc' := 230) at_226 (by decide) (by decide) ?_
    refine own_retN (t := .boolean) X (z' := (1 : Int32)) (Or.inl rfl) rfl rfl at_230 (by decide) (by decide) ⟨_, rfl, ?_⟩
    rfl
set_option maxRecDepth 65536 in
set_option maxHeartbeats 40000000 in
theorem comes_1 {Post : Tables → Env → Array Value → State → Outcome → State → Prop} (hpost : ∀ tb e args s v u, (limb_1_1.after args s (.returned v) u = true ∧ limb_1_2.after args s (.returned v) u = true ∧ True) → FrameEnd s (.returned v) u (Jvm.fieldLocs frame_1_writes args s ++ Jvm.arrayLocs frame_1_arrays args s ++ Jvm.staticLocs frame_1_statics s) 16 256 → Post tb e args s (.returned v) u) :
    ArmFor flags0 classFile x code maxLocals ret World_1 tables_1 room_1 Calls_1 rest_1 Pre_1 Post := by
  intro l hfl _ _ p e ha hc hk s m args below hf hA hF happ hP
  obtain ⟨hcalls, hrest, hpre⟩ := hP
  obtain ⟨-, -, -, hnamed, -, -, -, hat⟩ := (Spec.applies_iff hf).mp happ
  obtain ⟨hg, hn⟩ := and_e (Cond.before_iff.mp (show (Jvm.Cond.and given_1 narrow_1).before args s = true from hpre))
  obtain ⟨gcount, gt0⟩ := and_e hg
  obtain ⟨ga0, gt1⟩ := and_e gt0
  obtain ⟨ga1, gt2⟩ := and_e gt1
  obtain ⟨w0, w1, w2, rfl⟩ : ∃ w0 w1 w2 : Value, args = #[w0, w1, w2] := by
    have hs : args.size = 3 := by simpa [Cond.value, given_1] using gcount
    obtain ⟨L⟩ := args
    match L, hs with
    | [w0, w1, w2], _ => exact ⟨w0, w1, w2, rfl⟩
  have hw := fun d (hd : d ∈ tables_1) => atoms_spec (ws := Jvm.Cond.code x code maxLocals ret :: tables_1) hat d (List.mem_cons_of_mem _ hd)
  obtain ⟨i0, ei0⟩ := is_v ga0
  obtain rfl : w0 = (.int i0) := Option.some.inj ei0
  obtain ⟨i1, ei1⟩ := is_v ga1
  obtain rfl : w1 = (.int i1) := Option.some.inj ei1
  obtain ⟨i2, ei2⟩ := is_v gt2
  obtain rfl : w2 = (.int i2) := Option.some.inj ei2
  obtain ⟨n, o, h1, h2, h3, _, L, rfl, ⟨N, z, rfl, hz⟩, hq⟩ := rm0 l s _ hw tables_1 i0 i1 i2 s.heap s.heap.size (Nat.le_refl _) p e ha hc hk s m _ below hf ((Spec.applies_iff_loose hf).mp happ).1 ⟨rfl, State.Warmed39.refl s, rfl⟩ trivial
  subst hz
  refine ⟨n, _, h1, h2, h3, hpost _ _ _ _ _ _ ⟨Cond.after_iff.mpr rfl, Cond.after_iff.mpr (eq_i res_at (Term.int_eval (1)) rfl), trivial⟩ ⟨hq.1, hq.2.1, (hq.2.2.sift fun y hy => Or.inr (N y hy)).mono (by decide) (by decide)⟩⟩
theorem main_1_1 : Claimed_1_1 := comes_1 fun _ _ _ _ _ _ h hF => ⟨h.1, hF⟩
theorem main_1_2 : Claimed_1_2 := comes_1 fun _ _ _ _ _ _ h hF => ⟨h.2.1, hF⟩
end Jvm.Pilot.@@N@@
namespace Jvm.Pilot.@@N@@
open Jvm Jvm.ClassFile Sem Op Lib Jvm.Free Jvm.Stand Jvm.Pilot.@@N@@.Jvm.D
/-! MADE BY PROGRAM (witnessworld.py) out of the Statement's table words and the real class files: 10 classes; the members and pool entries that the words name. The judged class is class 1, her method 2. -/
namespace start1
open Jvm.ClassFile
def u (s : String) : CpInfo := .utf8 (stringToUtf16 s)
/-- a pool by its gaps: so many unusable entries, then the entry; so many at the end -/
def gap : Nat → List CpInfo → List CpInfo
  | 0, r => r
  | n + 1, r => .unusable :: gap n r
def poolList (es : List (Nat × CpInfo)) (last : Nat) : List CpInfo := es.foldr (fun e r => gap e.1 (e.2 :: r)) (gap last [])
def pool (es : List (Nat × CpInfo)) (last : Nat) : Array CpInfo := ⟨poolList es last⟩
def fileOf (pool : Array CpInfo) (this : Nat) (attrs : Array Attribute := #[]) (ms : Array MethodInfo := #[]) (fl : Nat := 33) (sup : Nat := 0) (ifs : Array Nat := #[]) (fds : Array FieldInfo := #[]) : ClassFile where
  minorVersion := 0
  majorVersion := 65
  constantPool := pool
  accessFlags := fl
  thisClass := this
  superClass := sup
  interfaces := ifs
  fields := fds
  methods := ms
  attributes := attrs
def plain (name : String) (sup : Option ClassId) : Class where
  name := name
  kind := .ordinary
  loader := none
  accessFlags := 33
  super := sup
  interfaces := #[]
  cf := none
  fields := #[]
  methods := #[]
  instanceTypes := #[]
  staticTypes := #[]
  resolved := #[]
  callSites := []
  init := .initialized
  statics := none
  mirror := none

def pool0 : Array CpInfo := pool [(5, u "<init>"), (0, u "()V"), (1, .class_ 10), (1, u "java/lang/Object")] 113

def k0c0 : Code := { maxStack := 0, maxLocals := 1, code := object_method_1_code, exceptionTable := #[], attributes := #[] }
def k0m0 : Method := { name := "<init>", desc := "()V", sig := { parameters := [], returnType := none }, accessFlags := 1, code := some k0c0 }
/-- java/lang/Object -/
def k0 : Class := { plain "java/lang/Object" none with
  accessFlags := 33
  interfaces := #[]
  cf := some (fileOf pool0 8 #[] #[{ accessFlags := 1, nameIndex := 5, descriptorIndex := 6, attributes := #[] }] 33 0 #[] #[])
  fields := #[]
  methods := #[k0m0]
  instanceTypes := #[]
  staticTypes := #[]
  resolved := Array.replicate 124 none
  statics := none }

def pool1 : Array CpInfo := pool [(2, .class_ 4), (0, .nameAndType 5 6), (0, u "java/lang/Object"), (0, u "<init>"), (0, u "()V"), (0, .methodref 8 9), (0, .class_ 10), (0, .nameAndType 11 12), (0, u "com/example/shelfrun/shelfrun/index/FrontCoding$Encoder"), (0, u "write"), (0, u "([BI[BII)I"), (0, .methodref 8 3), (0, .integer 2147483647), (0, .methodref 8 16), (0, .nameAndType 17 18), (0, u "startsBlock"), (0, u "()Z"), (0, .methodref 20 21), (0, .class_ 22), (0, .nameAndType 23 24), (0, u "com/example/shelfrun/shelfrun/index/EncoderStartsBlockPinLaw"), (0, u "writeOne"), (0, u "(Lcom/example/shelfrun/shelfrun/index/FrontCoding$Encoder;[B[BI)V"), (2, u "law"), (0, u "(III)Z")] 9

def k1m0 : Method := { name := "<init>", desc := "()V", sig := { parameters := [], returnType := none }, accessFlags := 2, code := none }
def k1c1 : Code := { maxStack := 6, maxLocals := 4, code := method_2_code, exceptionTable := #[], attributes := #[] }
def k1m1 : Method := { name := "writeOne", desc := "(Lcom/example/shelfrun/shelfrun/index/FrontCoding$Encoder;[B[BI)V", sig := { parameters := [(.object "com/example/shelfrun/shelfrun/index/FrontCoding$Encoder"), (.array .byte), (.array .byte), .int], returnType := none }, accessFlags := 10, code := some k1c1 }
def k1c2 : Code := { maxStack := 4, maxLocals := 11, code := code, exceptionTable := #[], attributes := #[] }
def k1m2 : Method := { name := "law", desc := "(III)Z", sig := { parameters := [.int, .int, .int], returnType := some .boolean }, accessFlags := 9, code := some k1c2 }
/-- com/example/shelfrun/shelfrun/index/EncoderStartsBlockPinLaw -/
def k1 : Class := { plain "com/example/shelfrun/shelfrun/index/EncoderStartsBlockPinLaw" (some 0) with
  accessFlags := 49
  interfaces := #[]
  cf := some (fileOf pool1 20 #[] #[{ accessFlags := 2, nameIndex := 5, descriptorIndex := 6, attributes := #[] }, { accessFlags := 10, nameIndex := 23, descriptorIndex := 24, attributes := #[] }, { accessFlags := 9, nameIndex := 27, descriptorIndex := 28, attributes := #[] }] 49 2 #[] #[])
  fields := #[]
  methods := #[k1m0, k1m1, k1m2]
  instanceTypes := #[]
  staticTypes := #[]
  resolved := Array.replicate 38 none
  statics := none }

def pool2 : Array CpInfo := pool [(1, .class_ 2), (0, u "com/example/shelfrun/shelfrun/index/FrontCoding"), (0, .methodref 4 5), (0, .class_ 6), (0, .nameAndType 7 8), (0, u "java/lang/Object"), (0, u "<init>"), (0, u "()V"), (0, .fieldref 10 11), (0, .class_ 12), (0, .nameAndType 13 14), (0, u "com/example/shelfrun/shelfrun/index/FrontCoding$Encoder"), (0, u "last"), (0, u "[B"), (0, .fieldref 10 16), (0, .nameAndType 17 18), (0, u "written"), (0, u "J"), (0, .long 32), (3, u "startsBlock"), (0, u "()Z"), (0, .fieldref 10 26), (0, .nameAndType 27 28), (0, u "lastLength"), (0, u "I"), (10, .methodref 10 40), (0, .nameAndType 41 42), (0, u "writeCount"), (0, u "([BII)I"), (0, .methodref 44 45), (0, .class_ 46), (0, .nameAndType 47 48), (0, u "java/lang/System"), (0, u "arraycopy"), (0, u "(Ljava/lang/Object;ILjava/lang/Object;II)V"), (18, u "write"), (0, u "([BI[BII)I")] 5

def k2c0 : Code := { maxStack := 2, maxLocals := 1, code := prog_18_method_1_code, exceptionTable := #[], attributes := #[] }
def k2m0 : Method := { name := "<init>", desc := "()V", sig := { parameters := [], returnType := none }, accessFlags := 0, code := some k2c0 }
def k2c1 : Code := { maxStack := 4, maxLocals := 1, code := prog_18_method_2_code, exceptionTable := #[], attributes := #[] }
def k2m1 : Method := { name := "startsBlock", desc := "()Z", sig := { parameters := [], returnType := some .boolean }, accessFlags := 0, code := some k2c1 }
def k2c2 : Code := { maxStack := 5, maxLocals := 8, code := prog_18_method_5_code, exceptionTable := #[], attributes := #[] }
def k2m2 : Method := { name := "write", desc := "([BI[BII)I", sig := { parameters := [(.array .byte), .int, (.array .byte), .int, .int], returnType := some .int }, accessFlags := 0, code := some k2c2 }
def k2c3 : Code := { maxStack := 4, maxLocals := 5, code := prog_18_method_7_code, exceptionTable := #[], attributes := #[] }
def k2m3 : Method := { name := "writeCount", desc := "([BII)I", sig := { parameters := [(.array .byte), .int, .int], returnType := some .int }, accessFlags := 10, code := some k2c3 }
/-- com/example/shelfrun/shelfrun/index/FrontCoding$Encoder -/
def k2 : Class := { plain "com/example/shelfrun/shelfrun/index/FrontCoding$Encoder" (some 0) with
  accessFlags := 48
  interfaces := #[]
  cf := some (fileOf pool2 10 #[.nestHost 1] #[{ accessFlags := 0, nameIndex := 7, descriptorIndex := 8, attributes := #[] }, { accessFlags := 0, nameIndex := 23, descriptorIndex := 24, attributes := #[] }, { accessFlags := 0, nameIndex := 67, descriptorIndex := 68, attributes := #[] }, { accessFlags := 10, nameIndex := 41, descriptorIndex := 42, attributes := #[] }] 48 4 #[] #[{ accessFlags := 2, nameIndex := 13, descriptorIndex := 14, attributes := #[] }, { accessFlags := 2, nameIndex := 27, descriptorIndex := 28, attributes := #[] }, { accessFlags := 2, nameIndex := 17, descriptorIndex := 18, attributes := #[] }])
  fields := #[{ name := "last", type := (.array .byte), accessFlags := 2, slot := 0, constantValue := 0 }, { name := "lastLength", type := .int, accessFlags := 2, slot := 1, constantValue := 0 }, { name := "written", type := .long, accessFlags := 2, slot := 2, constantValue := 0 }]
  methods := #[k2m0, k2m1, k2m2, k2m3]
  instanceTypes := #[(.array .byte), .int, .long]
  staticTypes := #[]
  resolved := Array.replicate 74 none
  statics := none }

def pool3 : Array CpInfo := pool [(2, .class_ 4), (1, u "java/lang/Object"), (0, u "<init>"), (0, u "()V"), (1, .class_ 10), (1, u "java/lang/System"), (0, u "allowSecurityManager"), (0, u "I"), (16, u "cons"), (0, u "Ljava/io/Console;"), (77, .class_ 110), (1, u "java/lang/System$CallersHolder"), (43, u "initialErrStream"), (0, u "Ljava/io/PrintStream;"), (19, u "security"), (0, u "Ljava/lang/SecurityManager;"), (31, .class_ 209), (0, u "java/lang/System$1"), (7, u "props"), (0, u "Ljava/util/Properties;"), (2, u "lineSeparator"), (0, u "Ljava/lang/String;"), (96, .class_ 321), (1, u "java/lang/System$LoggerFinder"), (5, .class_ 328), (0, u "java/lang/System$Logger"), (67, u "err"), (2, u "out"), (91, u "notSupportedJnuEncoding"), (15, u "in"), (17, u "initialIn"), (0, u "Ljava/io/InputStream;"), (35, u "bootLayer"), (0, u "Ljava/lang/ModuleLayer;"), (99, .class_ 664), (0, u "java/lang/System$2"), (9, u "NEVER"), (2, u "MAYBE"), (49, u "arraycopy"), (0, u "(Ljava/lang/Object;ILjava/lang/Object;II)V"), (72, .class_ 802), (0, u "java/lang/System$Logger$Level")] 31

def k3m0 : Method := { name := "<init>", desc := "()V", sig := { parameters := [], returnType := none }, accessFlags := 2, code := none }
def k3m1 : Method := { name := "arraycopy", desc := "(Ljava/lang/Object;ILjava/lang/Object;II)V", sig := { parameters := [(.object "java/lang/Object"), .int, (.object "java/lang/Object"), .int, .int], returnType := none }, accessFlags := 265, code := none }
/-- java/lang/System -/
def k3 : Class := { plain "java/lang/System" (some 0) with
  accessFlags := 49
  interfaces := #[]
  cf := some (fileOf pool3 8 #[.nestMembers #[319, 327, 801, 108, 663, 208]] #[{ accessFlags := 2, nameIndex := 5, descriptorIndex := 6, attributes := #[] }, { accessFlags := 265, nameIndex := 727, descriptorIndex := 728, attributes := #[] }] 49 2 #[] #[{ accessFlags := 25, nameIndex := 507, descriptorIndex := 526, attributes := #[] }, { accessFlags := 25, nameIndex := 399, descriptorIndex := 155, attributes := #[] }, { accessFlags := 25, nameIndex := 396, descriptorIndex := 155, attributes := #[] }, { accessFlags := 10, nameIndex := 525, descriptorIndex := 526, attributes := #[] }, { accessFlags := 26, nameIndex := 674, descriptorIndex := 12, attributes := #[] }, { accessFlags := 26, nameIndex := 677, descriptorIndex := 12, attributes := #[] }, { accessFlags := 10, nameIndex := 11, descriptorIndex := 12, attributes := #[] }, { accessFlags := 74, nameIndex := 175, descriptorIndex := 176, attributes := #[] }, { accessFlags := 10, nameIndex := 491, descriptorIndex := 222, attributes := #[] }, { accessFlags := 74, nameIndex := 29, descriptorIndex := 30, attributes := #[] }, { accessFlags := 74, nameIndex := 154, descriptorIndex := 155, attributes := #[] }, { accessFlags := 10, nameIndex := 217, descriptorIndex := 218, attributes := #[] }, { accessFlags := 10, nameIndex := 221, descriptorIndex := 222, attributes := #[] }, { accessFlags := 8, nameIndex := 562, descriptorIndex := 563, attributes := #[] }])
  fields := #[{ name := "in", type := (.object "java/io/InputStream"), accessFlags := 25, slot := 0, constantValue := 0 }, { name := "out", type := (.object "java/io/PrintStream"), accessFlags := 25, slot := 1, constantValue := 0 }, { name := "err", type := (.object "java/io/PrintStream"), accessFlags := 25, slot := 2, constantValue := 0 }, { name := "initialIn", type := (.object "java/io/InputStream"), accessFlags := 10, slot := 3, constantValue := 0 }, { name := "NEVER", type := .int, accessFlags := 26, slot := 4, constantValue := 0 }, { name := "MAYBE", type := .int, accessFlags := 26, slot := 5, constantValue := 0 }, { name := "allowSecurityManager", type := .int, accessFlags := 10, slot := 6, constantValue := 0 }, { name := "security", type := (.object "java/lang/SecurityManager"), accessFlags := 74, slot := 7, constantValue := 0 }, { name := "notSupportedJnuEncoding", type := (.object "java/lang/String"), accessFlags := 10, slot := 8, constantValue := 0 }, { name := "cons", type := (.object "java/io/Console"), accessFlags := 74, slot := 9, constantValue := 0 }, { name := "initialErrStream", type := (.object "java/io/PrintStream"), accessFlags := 74, slot := 10, constantValue := 0 }, { name := "props", type := (.object "java/util/Properties"), accessFlags := 10, slot := 11, constantValue := 0 }, { name := "lineSeparator", type := (.object "java/lang/String"), accessFlags := 10, slot := 12, constantValue := 0 }, { name := "bootLayer", type := (.object "java/lang/ModuleLayer"), accessFlags := 8, slot := 13, constantValue := 0 }]
  methods := #[k3m0, k3m1]
  instanceTypes := #[]
  staticTypes := #[(.object "java/io/InputStream"), (.object "java/io/PrintStream"), (.object "java/io/PrintStream"), (.object "java/io/InputStream"), .int, .int, .int, (.object "java/lang/SecurityManager"), (.object "java/lang/String"), (.object "java/io/Console"), (.object "java/io/PrintStream"), (.object "java/util/Properties"), (.object "java/lang/String"), (.object "java/lang/ModuleLayer")]
  resolved := Array.replicate 834 none
  statics := none }

def pool4 : Array CpInfo := pool [(1, u "java/lang/Cloneable"), (0, .class_ 1), (0, u "java/lang/Object"), (0, .class_ 3)] 3

/-- java/lang/Cloneable -/
def k4 : Class := { plain "java/lang/Cloneable" (some 0) with
  accessFlags := 1537
  interfaces := #[]
  cf := some (fileOf pool4 2 #[] #[] 1537 4 #[] #[])
  fields := #[]
  methods := #[]
  instanceTypes := #[]
  staticTypes := #[]
  resolved := Array.replicate 8 none
  statics := none }

def pool5 : Array CpInfo := pool [(1, u "java/io/Serializable"), (0, .class_ 1), (0, u "java/lang/Object"), (0, .class_ 3)] 3

/-- java/io/Serializable -/
def k5 : Class := { plain "java/io/Serializable" (some 0) with
  accessFlags := 1537
  interfaces := #[]
  cf := some (fileOf pool5 2 #[] #[] 1537 4 #[] #[])
  fields := #[]
  methods := #[]
  instanceTypes := #[]
  staticTypes := #[]
  resolved := Array.replicate 8 none
  statics := none }

/-- the primitive byte -/
def k6 : Class := { plain "byte" none with kind := .primitive 'B', accessFlags := 0x411 }
/-- [B -/
def k7 : Class := { plain "[B" (some 0) with kind := .array 6 .byte, interfaces := #[4, 5], accessFlags := 1041 }

/-- the primitive int -/
def k8 : Class := { plain "int" none with kind := .primitive 'I', accessFlags := 0x411 }
/-- [I -/
def k9 : Class := { plain "[I" (some 0) with kind := .array 8 .int, interfaces := #[4, 5], accessFlags := 1041 }

def heap : Heap := #[]
def classes : Array Class := #[k0, k1, k2, k3, k4, k5, k6, k7, k8, k9]
def interned : List (Array UInt16 × Addr) := []
def slotsUsed : Nat := 0
def theMethod : MethodId := ⟨1, 2⟩
def args0 : Array Value := #[.int 50, .int 7, .int 9]
def aboutOver (below : List Frame) : State where
  vm := { classes := classes, interned := interned.toArray }
  heap := heap
  slotsUsed := slotsUsed
  threads := #[{ frames := .invoking theMethod args0 :: below }]
def below0 : List Frame := [.native { method := ⟨0, 0⟩, args := #[] }]
def about1 : State := aboutOver below0
def p0 : Program := .bare "" "" ""
def e0 : Env := launch0.env 0 0 0
theorem w_frames : about1.frames = Frame.invoking theMethod args0 :: below0 := rfl
set_option maxRecDepth 65536 in
theorem w_args : argsFit about1.vm theMethod args0 = true := by decide +kernel
set_option maxRecDepth 65536 in
theorem w_heap : heapFits about1 = true := by decide +kernel
set_option maxRecDepth 65536 in
theorem w_runnable : about1.curStatus? = some .runnable := by decide +kernel
set_option maxRecDepth 65536 in
theorem w_alone : about1.alone = true := by decide +kernel
set_option maxRecDepth 65536 in
theorem w_named : about1.methodNamed? x = some theMethod := by decide +kernel
set_option maxRecDepth 65536 in
theorem w_hears : about1.hears theMethod below0 = true := by decide +kernel
set_option maxRecDepth 65536 in
theorem w_ripe : about1.ripe theMethod args0 below0 = true := by decide +kernel
theorem w_running : about1.status = .running := rfl
set_option maxRecDepth 65536 in
theorem w_room : about1.hasRoom e0.platform room_1 = true :=
  launch0.hasRoom_least _ room_1 (by decide +kernel) (by decide +kernel) (by decide +kernel) (by decide +kernel) (by decide +kernel) (by decide +kernel)
theorem allAtoms_all (ts : List Jvm.Cond) (a : Array Jvm.Value) (st : Jvm.State) : (allAtoms ts).before a st = ts.all (fun c => c.before a st) := by
  induction ts with
  | nil => rfl
  | cons c t ih =>
    show (Jvm.Cond.and c (allAtoms t)).before a st = _
    rw [Jvm.Cond.before_and, ih, List.all_cons]
def words1 : List Jvm.Cond := Jvm.Cond.code x code maxLocals ret :: tables_1
/-- a 'code' word, met by the world's own term for the bytes: nothing is compared byte by byte -/
theorem code_word {y : MethodName} {bytes : ByteArray} {mx : Nat} {rt : Option FieldType} {a : Array Value} {s : State} {m : MethodId} {meth : Method} {c : Code} (h1 : s.methodNamed? y = some m) (h2 : s.vm.method? m = some meth) (h3 : meth.code = some c) (h4 : c.code = bytes)
    (h5 : (c.maxLocals == mx && c.exceptionTable.isEmpty && decide (c.maxStack ≤ mostOperands) && decide (meth.sig.returnType = rt) && !meth.locks && decide (parseMethodDescriptor y.desc = some meth.sig)) = true) : (Jvm.Cond.code y bytes mx rt).before a s = true := by
  simp only [Bool.and_eq_true, beq_iff_eq, Bool.not_eq_true', decide_eq_true_eq] at h5
  obtain ⟨⟨⟨⟨⟨g1, g2⟩, g3⟩, g4⟩, g5⟩, g6⟩ := h5
  simp [Cond.before, Cond.holds, Cond.value, h1, h2, h3, h4, g1, g2, g3, g4, g5, g6]
def isCode : Jvm.Cond → Bool
  | .code _ _ _ _ => true
  | _ => false
theorem all_split {L : List Jvm.Cond} {P : Jvm.Cond → Bool} (h1 : L.all (fun c => isCode c || P c) = true) (h2 : ∀ c ∈ L.filter isCode, P c = true) : L.all P = true := by
  refine List.all_eq_true.mpr fun c hc => ?_
  have h := List.all_eq_true.mp h1 c hc
  rcases Bool.eq_false_or_eq_true (isCode c) with hi | hi
  · exact h2 c (List.mem_filter.mpr ⟨hc, hi⟩)
  · simpa [hi] using h
set_option maxRecDepth 65536 in
theorem w_c0 : (Jvm.Cond.code x code maxLocals ret).before args0 about1 = true := code_word (m := ⟨1, 2⟩) (meth := k1m2) (c := k1c2) (by decide +kernel) rfl rfl rfl (by decide +kernel)
set_option maxRecDepth 65536 in
theorem w_c1 : (Jvm.Cond.code ({ cls := "com/example/shelfrun/shelfrun/index/FrontCoding$Encoder", name := "<init>", desc := "()V" } : Jvm.MethodName) prog_18_method_1_code (1 : Nat) (Option.none : Option Jvm.ClassFile.FieldType)).before args0 about1 = true := code_word (m := ⟨2, 0⟩) (meth := k2m0) (c := k2c0) (by decide +kernel) rfl rfl rfl (by decide +kernel)
set_option maxRecDepth 65536 in
theorem w_c2 : (Jvm.Cond.code ({ cls := "java/lang/Object", name := "<init>", desc := "()V" } : Jvm.MethodName) object_method_1_code (1 : Nat) (Option.none : Option Jvm.ClassFile.FieldType)).before args0 about1 = true := code_word (m := ⟨0, 0⟩) (meth := k0m0) (c := k0c0) (by decide +kernel) rfl rfl rfl (by decide +kernel)
set_option maxRecDepth 65536 in
theorem w_c3 : (Jvm.Cond.code ({ cls := "com/example/shelfrun/shelfrun/index/FrontCoding$Encoder", name := "startsBlock", desc := "()Z" } : Jvm.MethodName) prog_18_method_2_code (1 : Nat) (Option.some Jvm.ClassFile.FieldType.boolean)).before args0 about1 = true := code_word (m := ⟨2, 1⟩) (meth := k2m1) (c := k2c1) (by decide +kernel) rfl rfl rfl (by decide +kernel)
set_option maxRecDepth 65536 in
theorem w_c4 : (Jvm.Cond.code ({ cls := "com/example/shelfrun/shelfrun/index/EncoderStartsBlockPinLaw", name := "writeOne", desc := "(Lcom/example/shelfrun/shelfrun/index/FrontCoding$Encoder;[B[BI)V" } : Jvm.MethodName) method_2_code (4 : Nat) (Option.none : Option Jvm.ClassFile.FieldType)).before args0 about1 = true := code_word (m := ⟨1, 1⟩) (meth := k1m1) (c := k1c1) (by decide +kernel) rfl rfl rfl (by decide +kernel)
set_option maxRecDepth 65536 in
theorem w_c5 : (Jvm.Cond.code ({ cls := "com/example/shelfrun/shelfrun/index/FrontCoding$Encoder", name := "write", desc := "([BI[BII)I" } : Jvm.MethodName) prog_18_method_5_code (8 : Nat) (Option.some Jvm.ClassFile.FieldType.int)).before args0 about1 = true := code_word (m := ⟨2, 2⟩) (meth := k2m2) (c := k2c2) (by decide +kernel) rfl rfl rfl (by decide +kernel)
set_option maxRecDepth 65536 in
theorem w_c6 : (Jvm.Cond.code ({ cls := "com/example/shelfrun/shelfrun/index/FrontCoding$Encoder", name := "writeCount", desc := "([BII)I" } : Jvm.MethodName) prog_18_method_7_code (5 : Nat) (Option.some Jvm.ClassFile.FieldType.int)).before args0 about1 = true := code_word (m := ⟨2, 3⟩) (meth := k2m3) (c := k2c3) (by decide +kernel) rfl rfl rfl (by decide +kernel)
def codes1 : List Jvm.Cond := [Jvm.Cond.code x code maxLocals ret, Jvm.Cond.code ({ cls := "com/example/shelfrun/shelfrun/index/FrontCoding$Encoder", name := "<init>", desc := "()V" } : Jvm.MethodName) prog_18_method_1_code (1 : Nat) (Option.none : Option Jvm.ClassFile.FieldType), Jvm.Cond.code ({ cls := "java/lang/Object", name := "<init>", desc := "()V" } : Jvm.MethodName) object_method_1_code (1 : Nat) (Option.none : Option Jvm.ClassFile.FieldType), Jvm.Cond.code ({ cls := "com/example/shelfrun/shelfrun/index/FrontCoding$Encoder", name := "startsBlock", desc := "()Z" } : Jvm.MethodName) prog_18_method_2_code (1 : Nat) (Option.some Jvm.ClassFile.FieldType.boolean), Jvm.Cond.code ({ cls := "com/example/shelfrun/shelfrun/index/EncoderStartsBlockPinLaw", name := "writeOne", desc := "(Lcom/example/shelfrun/shelfrun/index/FrontCoding$Encoder;[B[BI)V" } : Jvm.MethodName) method_2_code (4 : Nat) (Option.none : Option Jvm.ClassFile.FieldType), Jvm.Cond.code ({ cls := "com/example/shelfrun/shelfrun/index/FrontCoding$Encoder", name := "write", desc := "([BI[BII)I" } : Jvm.MethodName) prog_18_method_5_code (8 : Nat) (Option.some Jvm.ClassFile.FieldType.int), Jvm.Cond.code ({ cls := "com/example/shelfrun/shelfrun/index/FrontCoding$Encoder", name := "writeCount", desc := "([BII)I" } : Jvm.MethodName) prog_18_method_7_code (5 : Nat) (Option.some Jvm.ClassFile.FieldType.int)]
set_option maxRecDepth 65536 in
theorem codes_eq : words1.filter isCode = codes1 := rfl
theorem w_codes : ∀ c ∈ words1.filter isCode, c.before args0 about1 = true := by
  rw [codes_eq]
  intro c hc
  simp only [codes1, List.mem_cons, List.not_mem_nil, or_false] at hc
  rcases hc with rfl | rfl | rfl | rfl | rfl | rfl | rfl
  · exact w_c0
  · exact w_c1
  · exact w_c2
  · exact w_c3
  · exact w_c4
  · exact w_c5
  · exact w_c6
set_option maxRecDepth 65536 in
theorem w_t1 : (words1.take 24).all (fun c => isCode c || c.before args0 about1) = true := by decide +kernel
set_option maxRecDepth 65536 in
theorem w_t2 : (words1.drop 24).all (fun c => isCode c || c.before args0 about1) = true := by decide +kernel
theorem w_tables : (allAtoms (Jvm.Cond.code x code maxLocals ret :: tables_1)).before args0 about1 = true := by
  rw [allAtoms_all]
  show words1.all (fun c => c.before args0 about1) = true
  refine all_split ?_ w_codes
  rw [← List.take_append_drop 24 words1, List.all_append, w_t1, w_t2]
  rfl
set_option maxRecDepth 65536 in
theorem w_case : (Jvm.Cond.and given_1 narrow_1).before args0 about1 = true := by decide +kernel
theorem w_applies : (headSpec (Jvm.Cond.code x code maxLocals ret :: tables_1) room_1).applies x e0.platform about1 = true :=
  (Spec.applies_iff w_frames).mpr ⟨w_running, w_runnable, w_alone, w_named, w_hears, w_ripe, w_room, w_tables⟩
theorem atStart : AtStart classFile x code maxLocals ret World_1 tables_1 room_1 Calls_1 rest_1 Pre_1 launch0 p0 e0 about1 theMethod args0 below0 :=
  ⟨lists_1, trivial, launch0.admits_env _ _ _, launch0.least_env, fairChoices_fair.cas, fairChoices_fair.clock, w_frames, w_args, w_heap, w_applies, trivial, trivial, w_case⟩
end start1
theorem witness_1 : WitnessClaimed_1 := ⟨start1.p0, start1.e0, start1.about1, start1.theMethod, start1.args0, start1.below0, start1.atStart⟩
end Jvm.Pilot.@@N@@
