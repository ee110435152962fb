import JvmDerived
import JvmDerived.Pilot.@@N@@Statement
import JvmDerived.Pilot.@@N@@Code
set_option linter.unusedVariables false
set_option linter.unusedSimpArgs false
namespace Jvm.Pilot.@@N@@
open Jvm Jvm.ClassFile Sem Op Lib Jvm.Free Jvm.Stand Jvm.LawKit Jvm.RoadKit Bundle Jvm.Pilot.@@N@@.Jvm.D
/-- where the walk of one body stands, and what it knows throughout -/
def own_S (p : Program) (l : Launch) (e : Env) (R : Room) (s : State) (m : MethodId) (av : Array Value) (below : List Frame) (meth : Method) (c : Code) (Z : State) (y : MethodName) (co : ByteArray) (ml : Nat) (rt : Option FieldType) (n0 : Nat) (T : State) (ce sl : Nat) (h : Heap) : Prop :=
  (p.tables.exec = Jvm.exec ∧ c.code = co ∧ c.maxLocals = ml ∧ s.vm.findClass y.cls = some m.cls ∧ meth.name = y.name ∧ meth.sig.returnType = rt ∧ meth.locks = false ∧ Z.Warmed39 s.vm) ∧
  ∃ locs, Stand p l e R s m av below meth c T locs ce sl ∧ Fr n0 locs ∧ T.heap = h ∧ n0 ≤ s.heap.size
/-- from T at the frame g the run comes to a return of which Q holds -/
def own_Fin (p : Program) (e : Env) (below : List Frame) (s : State) (n0 : Nat) (Q : Option Value → Heap → Prop) (k n : Nat) (T : State) (g : JFrame) : Prop :=
  ∃ t o, Steps p.tables e below (T.setTop g) t ∧ t.status = .running ∧ Ended t below o ∧ ∃ v L, o = .returned v ∧ (Fr n0 L ∧ Q v t.heap) ∧ FrameEnd s o t L k n
/-- a body's contract -/
def own_Met (l : Launch) (Z : State) (y : MethodName) (co : ByteArray) (ml : Nat) (rt : Option FieldType) (ws : List Jvm.Cond) (rm : Room) (av : Array Value) (h0 : Heap) (n0 : Nat) (Q : Option Value → Heap → Prop) : Prop :=
  MetFree l y (head1 (Jvm.Cond.code y co ml rt :: ws) rm) (fun a U => a = av ∧ Z.Warmed39 U.vm ∧ U.heap = h0) (fun _ _ _ _ _ => True) (fun _ U o U' => ∃ v L, o = .returned v ∧ (Fr n0 L ∧ Q v U'.heap) ∧ FrameEnd U o U' L rm.cells rm.slots)
section Own
variable {p : Program} {l : Launch} {e : Env} {R : Room} {s : State} {m : MethodId} {av : Array Value} {below : List Frame} {meth : Method} {c : Code} {Z : State} {y : MethodName} {co : ByteArray} {ml : Nat} {rt : Option FieldType} {n0 : Nat} {T : State} {ce sl : Nat} {h : Heap} {Q : Option Value → Heap → Prop} {k n : Nat} {a0 : Array Value} {pc : Nat} {Ls : Array Slot} {st : List Value}
theorem own_met {ws : List Jvm.Cond} {rm : Room} {h0 : Heap} (hp : plainFor y = true) (hn : n0 ≤ h0.size)
    (H : ∀ (p : Program) (e : Env) (s : State) (m : MethodId) (below : List Frame) (meth : Method) (c : Code) (T : State), own_S p l e rm s m av below meth c Z y co ml rt n0 T 0 0 h0 → own_Fin p e below s n0 Q rm.cells rm.slots T (entryFrame m av ml)) : own_Met l Z y co ml rt ws rm av h0 n0 Q := by
  refine MetFree.of_bodySF hp hisR ?_
  intro p e s m args below meth c s₁ Bd hml0 hP hK
  obtain ⟨rfl, hZ, hh⟩ := hP
  have e0 : s₁.heap = h0 := by rw [← hh, Bd.state]; rfl
  exact H p e s m below meth c s₁ ⟨⟨Bd.exec, Bd.bytes, hml0, findClass_of_methodNamed Bd.named, (name_of_methodNamed Bd.named Bd.method).1, Bd.returns, BodyLoose.notSynchronized Bd, hZ⟩, [], Stand.of_body Bd, Fr.nil n0, e0, by rw [hh]; exact hn⟩
theorem own_go {T T' : State} {g g' : JFrame} (st : ∀ target, Steps p.tables e below (T'.setTop g') target → Steps p.tables e below (T.setTop g) target) (H : own_Fin p e below s n0 Q k n T' g') : own_Fin p e below s n0 Q k n T g := by
  obtain ⟨t, o, h1, r⟩ := H
  exact ⟨t, o, st t h1, r⟩
theorem own_goT {T T' : State} {g g' : JFrame} (st : Steps p.tables e below (T.setTop g) (T'.setTop g')) (H : own_Fin p e below s n0 Q k n T' g') : own_Fin p e below s n0 Q k n T g := by
  obtain ⟨t, o, h1, r⟩ := H
  exact ⟨t, o, st.trans h1, r⟩
theorem own_cast {g g' : JFrame} (q : g = g') (H : own_Fin p e below s n0 Q k n T g') : own_Fin p e below s n0 Q k n T g := q ▸ H
theorem own_size (X : own_S p l e R s m av below meth c Z y co ml rt n0 T ce sl h) : n0 ≤ h.size := by
  obtain ⟨-, locs, X, -, rfl, hn⟩ := X
  exact Nat.le_trans hn X.same.2.1
theorem own_wider (X : own_S p l e R s m av below meth c Z y co ml rt n0 T ce sl h) {ce' sl' : Nat} (h1 : ce ≤ ce') (h2 : sl ≤ sl') : own_S p l e R s m av below meth c Z y co ml rt n0 T ce' sl' h := by
  obtain ⟨C, locs, X, r⟩ := X
  exact ⟨C, locs, X.more h1 h2, r⟩
/-- numbers: from Int to the ints' own order -/
theorem own_cLt {x y : Int32} {a b : Int} (hx : x.toInt = a) (hy : y.toInt = b) (q : a < b) : x < y := by rw [Int32.lt_iff_toInt_lt, hx, hy]; exact q
theorem own_cGe {x y : Int32} {a b : Int} (hx : x.toInt = a) (hy : y.toInt = b) (q : ¬ a < b) : ¬ x < y := by rw [Int32.lt_iff_toInt_lt, hx, hy]; exact q
theorem own_cEq {x y : Int32} {a b : Int} (hx : x.toInt = a) (hy : y.toInt = b) (q : a = b) : x = y := Int32.toInt_inj.mp (by rw [hx, hy]; exact q)
theorem own_cNe {x y : Int32} {a b : Int} (hx : x.toInt = a) (hy : y.toInt = b) (q : ¬ a = b) : ¬ x = y := fun r => q (by rw [← hx, ← hy, r])
theorem own_cEqJ {x y : Int64} {a b : Int} (hx : x.toInt = a) (hy : y.toInt = b) (q : a = b) : x = y := Int64.toInt_inj.mp (by rw [hx, hy]; exact q)
theorem own_nzI {y : Int32} (q : y.toInt ≠ 0) : y ≠ 0 := fun r => q (by rw [r]; rfl)
theorem own_nzJ {y : Int64} (q : y.toInt ≠ 0) : y ≠ 0 := fun r => q (by rw [r]; rfl)
theorem own_lLt {x y : Int64} {a b : Int} (hx : x.toInt = a) (hy : y.toInt = b) (q : a < b) : lcmpW x y < 0 := (lw_lt x y).mpr (by rw [Int64.lt_iff_toInt_lt, hx, hy]; exact q)
theorem own_lGe {x y : Int64} {a b : Int} (hx : x.toInt = a) (hy : y.toInt = b) (q : ¬ a < b) : ¬ lcmpW x y < 0 := fun r => q (by have := (lw_lt x y).mp r; rw [Int64.lt_iff_toInt_lt, hx, hy] at this; exact this)
theorem own_lGt {x y : Int64} {a b : Int} (hx : x.toInt = a) (hy : y.toInt = b) (q : b < a) : 0 < lcmpW x y := (lw_gt x y).mpr (by rw [Int64.lt_iff_toInt_lt, hx, hy]; exact q)
theorem own_lLe {x y : Int64} {a b : Int} (hx : x.toInt = a) (hy : y.toInt = b) (q : ¬ b < a) : ¬ 0 < lcmpW x y := fun r => q (by have := (lw_gt x y).mp r; rw [Int64.lt_iff_toInt_lt, hx, hy] at this; exact this)
theorem own_lEq {x y : Int64} {a b : Int} (hx : x.toInt = a) (hy : y.toInt = b) (q : a = b) : lcmpW x y = 0 := (lw_eq x y).mpr (Int64.toInt_inj.mp (by rw [hx, hy]; exact q))
theorem own_lNe {x y : Int64} {a b : Int} (hx : x.toInt = a) (hy : y.toInt = b) (q : ¬ a = b) : ¬ lcmpW x y = 0 := fun r => q (by rw [← hx, ← hy, (lw_eq x y).mp r])
theorem own_emod_le {a b : Int} (h1 : 0 ≤ a) (h2 : 0 < b) : a % b ≤ a := by
  by_cases q : a < b
  · rw [Int.emod_eq_of_lt h1 q]; omega
  · have := Int.emod_lt_of_pos a h2; omega
theorem own_i2b2 (x : Int32) : x.toInt8.toInt32.toInt8.toInt32 = x.toInt8.toInt32 := by
  have h1 := c_i2b x
  have h2 := c_i2b x.toInt8.toInt32
  apply Int32.toInt_inj.mp; omega
theorem own_and1 (x : Int32) (h : x = 0 ∨ x = 1) : x &&& 1 = x := by rcases h with rfl | rfl <;> rfl
theorem own_aloadN (X : own_S p l e R s m av below meth c Z y co ml rt n0 T ce sl h) {i : Fin 4} {v : Value} (hd : decode co pc = .ok (.aload_n i, 1)) (hl : Ls[i.val]? = some (.val v)) (hv : v.isRef = true) (H : own_Fin p e below s n0 Q k n T (mkF m (pc + 1) Ls (v :: st))) : own_Fin p e below s n0 Q k n T (mkF m pc Ls (st)) := by
  obtain ⟨⟨hx, hby, -⟩, locs, X, -⟩ := X
  exact own_go (fun _ q => XS.aloadN X.here hx rfl (hb hby hd) hl hv q) H
theorem own_aload (X : own_S p l e R s m av below meth c Z y co ml rt n0 T ce sl h) {i : Nat} {v : Value} (hd : decode co pc = .ok (.aload i, 2)) (hl : Ls[i]? = some (.val v)) (hv : v.isRef = true) (H : own_Fin p e below s n0 Q k n T (mkF m (pc + 2) Ls (v :: st))) : own_Fin p e below s n0 Q k n T (mkF m pc Ls (st)) := by
  obtain ⟨⟨hx, hby, -⟩, locs, X, -⟩ := X
  exact own_go (fun _ q => XS.aload X.here hx rfl (hb hby hd) hl hv q) H
theorem own_iloadN (X : own_S p l e R s m av below meth c Z y co ml rt n0 T ce sl h) {i : Fin 4} {v : Int32} (hd : decode co pc = .ok (.iload_n i, 1)) (hl : Ls[i.val]? = some (.val (.int v))) (H : own_Fin p e below s n0 Q k n T (mkF m (pc + 1) Ls (.int v :: st))) : own_Fin p e below s n0 Q k n T (mkF m pc Ls (st)) := by
  obtain ⟨⟨hx, hby, -⟩, locs, X, -⟩ := X
  exact own_go (fun _ q => XS.iloadN X.here hx rfl (hb hby hd) hl q) H
theorem own_iload (X : own_S p l e R s m av below meth c Z y co ml rt n0 T ce sl h) {i : Nat} {v : Int32} (hd : decode co pc = .ok (.iload i, 2)) (hl : Ls[i]? = some (.val (.int v))) (H : own_Fin p e below s n0 Q k n T (mkF m (pc + 2) Ls (.int v :: st))) : own_Fin p e below s n0 Q k n T (mkF m pc Ls (st)) := by
  obtain ⟨⟨hx, hby, -⟩, locs, X, -⟩ := X
  exact own_go (fun _ q => XS.iload X.here hx rfl (hb hby hd) hl q) H
theorem own_lloadN (X : own_S p l e R s m av below meth c Z y co ml rt n0 T ce sl h) {i : Fin 4} {v : Int64} (hd : decode co pc = .ok (.lload_n i, 1)) (hl : Ls[i.val]? = some (.val (.long v))) (H : own_Fin p e below s n0 Q k n T (mkF m (pc + 1) Ls (.long v :: st))) : own_Fin p e below s n0 Q k n T (mkF m pc Ls (st)) := by
  obtain ⟨⟨hx, hby, -⟩, locs, X, -⟩ := X
  exact own_go (fun _ q => XS.lloadN X.here hx rfl (hb hby hd) hl q) H
theorem own_lload (X : own_S p l e R s m av below meth c Z y co ml rt n0 T ce sl h) {i : Nat} {v : Int64} (hd : decode co pc = .ok (.lload i, 2)) (hl : Ls[i]? = some (.val (.long v))) (H : own_Fin p e below s n0 Q k n T (mkF m (pc + 2) Ls (.long v :: st))) : own_Fin p e below s n0 Q k n T (mkF m pc Ls (st)) := by
  obtain ⟨⟨hx, hby, -⟩, locs, X, -⟩ := X
  exact own_go (fun _ q => XS.lload X.here hx rfl (hb hby hd) hl q) H
theorem own_istoreN (X : own_S p l e R s m av below meth c Z y co ml rt n0 T ce sl h) {i : Fin 4} {v : Int32} {L' : Array Slot} (hd : decode co pc = .ok (.istore_n i, 1)) (hl : storeLocals Ls i.val (.int v) = some L') (H : own_Fin p e below s n0 Q k n T (mkF m (pc + 1) L' (st))) : own_Fin p e below s n0 Q k n T (mkF m pc Ls (.int v :: st)) := by
  obtain ⟨⟨hx, hby, -⟩, locs, X, -⟩ := X
  exact own_go (fun _ q => XS.istoreN X.here hx rfl (hb hby hd) rfl hl q) H
theorem own_istore (X : own_S p l e R s m av below meth c Z y co ml rt n0 T ce sl h) {i : Nat} {v : Int32} {L' : Array Slot} (hd : decode co pc = .ok (.istore i, 2)) (hl : storeLocals Ls i (.int v) = some L') (H : own_Fin p e below s n0 Q k n T (mkF m (pc + 2) L' (st))) : own_Fin p e below s n0 Q k n T (mkF m pc Ls (.int v :: st)) := by
  obtain ⟨⟨hx, hby, -⟩, locs, X, -⟩ := X
  exact own_go (fun _ q => XS.istore X.here hx rfl (hb hby hd) rfl hl q) H
theorem own_lstoreN (X : own_S p l e R s m av below meth c Z y co ml rt n0 T ce sl h) {i : Fin 4} {v : Int64} {L' : Array Slot} (hd : decode co pc = .ok (.lstore_n i, 1)) (hl : storeLocals Ls i.val (.long v) = some L') (H : own_Fin p e below s n0 Q k n T (mkF m (pc + 1) L' (st))) : own_Fin p e below s n0 Q k n T (mkF m pc Ls (.long v :: st)) := by
  obtain ⟨⟨hx, hby, -⟩, locs, X, -⟩ := X
  exact own_go (fun _ q => XS.lstoreN X.here hx rfl (hb hby hd) rfl hl q) H
theorem own_lstore (X : own_S p l e R s m av below meth c Z y co ml rt n0 T ce sl h) {i : Nat} {v : Int64} {L' : Array Slot} (hd : decode co pc = .ok (.lstore i, 2)) (hl : storeLocals Ls i (.long v) = some L') (H : own_Fin p e below s n0 Q k n T (mkF m (pc + 2) L' (st))) : own_Fin p e below s n0 Q k n T (mkF m pc Ls (.long v :: st)) := by
  obtain ⟨⟨hx, hby, -⟩, locs, X, -⟩ := X
  exact own_go (fun _ q => XS.lstore X.here hx rfl (hb hby hd) rfl hl q) H
theorem own_astoreN (X : own_S p l e R s m av below meth c Z y co ml rt n0 T ce sl h) {i : Fin 4} {v : Value} {L' : Array Slot} (hd : decode co pc = .ok (.astore_n i, 1)) (hv : v.isRef = true) (hl : storeLocals Ls i.val v = some L') (H : own_Fin p e below s n0 Q k n T (mkF m (pc + 1) L' (st))) : own_Fin p e below s n0 Q k n T (mkF m pc Ls (v :: st)) := by
  obtain ⟨⟨hx, hby, -⟩, locs, X, -⟩ := X
  exact own_go (fun _ q => XS.astoreN X.here hx rfl (hb hby hd) rfl hv hl q) H
theorem own_astore (X : own_S p l e R s m av below meth c Z y co ml rt n0 T ce sl h) {i : Nat} {v : Value} {L' : Array Slot} (hd : decode co pc = .ok (.astore i, 2)) (hv : v.isRef = true) (hl : storeLocals Ls i v = some L') (H : own_Fin p e below s n0 Q k n T (mkF m (pc + 2) L' (st))) : own_Fin p e below s n0 Q k n T (mkF m pc Ls (v :: st)) := by
  obtain ⟨⟨hx, hby, -⟩, locs, X, -⟩ := X
  exact own_go (fun _ q => XS.astore X.here hx rfl (hb hby hd) rfl hv hl q) H
theorem own_iconst (X : own_S p l e R s m av below meth c Z y co ml rt n0 T ce sl h) {i : Int} (z : Int32) (hd : decode co pc = .ok (.iconst i, 1)) (hz : Int32.ofInt i = z) (H : own_Fin p e below s n0 Q k n T (mkF m (pc + 1) Ls (.int z :: st))) : own_Fin p e below s n0 Q k n T (mkF m pc Ls (st)) := by
  obtain ⟨⟨hx, hby, -⟩, locs, X, -⟩ := X
  exact own_go (fun _ q => XS.iconst X.here hx rfl (hb hby hd) (by rw [hz]; exact q)) H
theorem own_bipush (X : own_S p l e R s m av below meth c Z y co ml rt n0 T ce sl h) {i : Int} (z : Int32) (hd : decode co pc = .ok (.bipush i, 2)) (hz : (Int8.ofInt i).toInt32 = z) (H : own_Fin p e below s n0 Q k n T (mkF m (pc + 2) Ls (.int z :: st))) : own_Fin p e below s n0 Q k n T (mkF m pc Ls (st)) := by
  obtain ⟨⟨hx, hby, -⟩, locs, X, -⟩ := X
  exact own_go (fun _ q => XS.bipush X.here hx rfl (hb hby hd) (by rw [hz]; exact q)) H
theorem own_sipush (X : own_S p l e R s m av below meth c Z y co ml rt n0 T ce sl h) {i : Int} (z : Int32) (hd : decode co pc = .ok (.sipush i, 3)) (hz : (Int16.ofInt i).toInt32 = z) (H : own_Fin p e below s n0 Q k n T (mkF m (pc + 3) Ls (.int z :: st))) : own_Fin p e below s n0 Q k n T (mkF m pc Ls (st)) := by
  obtain ⟨⟨hx, hby, -⟩, locs, X, -⟩ := X
  exact own_go (fun _ q => XS.sipush X.here hx rfl (hb hby hd) (by rw [hz]; exact q)) H
theorem own_lconst0 (X : own_S p l e R s m av below meth c Z y co ml rt n0 T ce sl h) (hd : decode co pc = .ok (.lconst 0, 1)) (H : own_Fin p e below s n0 Q k n T (mkF m (pc + 1) Ls (.long 0 :: st))) : own_Fin p e below s n0 Q k n T (mkF m pc Ls (st)) := by
  obtain ⟨⟨hx, hby, -⟩, locs, X, -⟩ := X
  exact own_go (fun _ q => XS.lconst X.here hx rfl (hb hby hd) q) H
theorem own_lconst1 (X : own_S p l e R s m av below meth c Z y co ml rt n0 T ce sl h) (hd : decode co pc = .ok (.lconst 1, 1)) (H : own_Fin p e below s n0 Q k n T (mkF m (pc + 1) Ls (.long 1 :: st))) : own_Fin p e below s n0 Q k n T (mkF m pc Ls (st)) := by
  obtain ⟨⟨hx, hby, -⟩, locs, X, -⟩ := X
  exact own_go (fun _ q => XS.lconst X.here hx rfl (hb hby hd) q) H
theorem own_aconstNull (X : own_S p l e R s m av below meth c Z y co ml rt n0 T ce sl h) (hd : decode co pc = .ok (.aconst_null, 1)) (H : own_Fin p e below s n0 Q k n T (mkF m (pc + 1) Ls (.null :: st))) : own_Fin p e below s n0 Q k n T (mkF m pc Ls (st)) := by
  obtain ⟨⟨hx, hby, -⟩, locs, X, -⟩ := X
  exact own_go (fun _ q => XS.aconstNull X.here hx rfl (hb hby hd) q) H
theorem own_iaddE (X : own_S p l e R s m av below meth c Z y co ml rt n0 T ce sl h) {x : Int32} {y' : Int32} (hd : decode co pc = .ok (.iadd, 1)) (z : Int32) (hz : x + y' = z) (H : own_Fin p e below s n0 Q k n T (mkF m (pc + 1) Ls (.int z :: st))) : own_Fin p e below s n0 Q k n T (mkF m pc Ls (.int y' :: .int x :: st)) := by
  subst hz
  obtain ⟨⟨hx, hby, -⟩, locs, X, -⟩ := X
  exact own_go (fun _ q => XS.iadd X.here hx rfl (hb hby hd) rfl q) H
theorem own_iaddV (X : own_S p l e R s m av below meth c Z y co ml rt n0 T ce sl h) {x : Int32} {y' : Int32} (a b : Int) (hd : decode co pc = .ok (.iadd, 1)) (hxa : x.toInt = a) (hyb : y'.toInt = b) (H : ∀ v : Int32, x + y' = v → (v.toInt - (a + b)) % 4294967296 = 0 → -2147483648 ≤ v.toInt → v.toInt < 2147483648 → own_Fin p e below s n0 Q k n T (mkF m (pc + 1) Ls (.int v :: st))) : own_Fin p e below s n0 Q k n T (mkF m pc Ls (.int y' :: .int x :: st)) := by
  exact own_iaddE X hd _ rfl (H _ rfl (by subst hxa hyb; exact c_iadd x y') (rng32 _).1 (rng32 _).2)
theorem own_isubE (X : own_S p l e R s m av below meth c Z y co ml rt n0 T ce sl h) {x : Int32} {y' : Int32} (hd : decode co pc = .ok (.isub, 1)) (z : Int32) (hz : x - y' = z) (H : own_Fin p e below s n0 Q k n T (mkF m (pc + 1) Ls (.int z :: st))) : own_Fin p e below s n0 Q k n T (mkF m pc Ls (.int y' :: .int x :: st)) := by
  subst hz
  obtain ⟨⟨hx, hby, -⟩, locs, X, -⟩ := X
  exact own_go (fun _ q => XS.isub X.here hx rfl (hb hby hd) rfl q) H
theorem own_isubV (X : own_S p l e R s m av below meth c Z y co ml rt n0 T ce sl h) {x : Int32} {y' : Int32} (a b : Int) (hd : decode co pc = .ok (.isub, 1)) (hxa : x.toInt = a) (hyb : y'.toInt = b) (H : ∀ v : Int32, x - y' = v → (v.toInt - (a - b)) % 4294967296 = 0 → -2147483648 ≤ v.toInt → v.toInt < 2147483648 → own_Fin p e below s n0 Q k n T (mkF m (pc + 1) Ls (.int v :: st))) : own_Fin p e below s n0 Q k n T (mkF m pc Ls (.int y' :: .int x :: st)) := by
  exact own_isubE X hd _ rfl (H _ rfl (by subst hxa hyb; exact c_isub x y') (rng32 _).1 (rng32 _).2)
theorem own_imulE (X : own_S p l e R s m av below meth c Z y co ml rt n0 T ce sl h) {x : Int32} {y' : Int32} (hd : decode co pc = .ok (.imul, 1)) (z : Int32) (hz : x * y' = z) (H : own_Fin p e below s n0 Q k n T (mkF m (pc + 1) Ls (.int z :: st))) : own_Fin p e below s n0 Q k n T (mkF m pc Ls (.int y' :: .int x :: st)) := by
  subst hz
  obtain ⟨⟨hx, hby, -⟩, locs, X, -⟩ := X
  exact own_go (fun _ q => XS.imul X.here hx rfl (hb hby hd) rfl q) H
theorem own_imulV (X : own_S p l e R s m av below meth c Z y co ml rt n0 T ce sl h) {x : Int32} {y' : Int32} (a b : Int) (hd : decode co pc = .ok (.imul, 1)) (hxa : x.toInt = a) (hyb : y'.toInt = b) (H : ∀ v : Int32, x * y' = v → (v.toInt - (a * b)) % 4294967296 = 0 → -2147483648 ≤ v.toInt → v.toInt < 2147483648 → own_Fin p e below s n0 Q k n T (mkF m (pc + 1) Ls (.int v :: st))) : own_Fin p e below s n0 Q k n T (mkF m pc Ls (.int y' :: .int x :: st)) := by
  exact own_imulE X hd _ rfl (H _ rfl (by subst hxa hyb; exact c_imul x y') (rng32 _).1 (rng32 _).2)
theorem own_iandE (X : own_S p l e R s m av below meth c Z y co ml rt n0 T ce sl h) {x : Int32} {y' : Int32} (hd : decode co pc = .ok (.iand, 1)) (z : Int32) (hz : x &&& y' = z) (H : own_Fin p e below s n0 Q k n T (mkF m (pc + 1) Ls (.int z :: st))) : own_Fin p e below s n0 Q k n T (mkF m pc Ls (.int y' :: .int x :: st)) := by
  subst hz
  obtain ⟨⟨hx, hby, -⟩, locs, X, -⟩ := X
  exact own_go (fun _ q => XS.iand X.here hx rfl (hb hby hd) rfl q) H
theorem own_iandV (X : own_S p l e R s m av below meth c Z y co ml rt n0 T ce sl h) {x : Int32} {y' : Int32}  (hd : decode co pc = .ok (.iand, 1))  (H : ∀ v : Int32, x &&& y' = v → -2147483648 ≤ v.toInt → v.toInt < 2147483648 → own_Fin p e below s n0 Q k n T (mkF m (pc + 1) Ls (.int v :: st))) : own_Fin p e below s n0 Q k n T (mkF m pc Ls (.int y' :: .int x :: st)) := by
  exact own_iandE X hd _ rfl (H _ rfl (rng32 _).1 (rng32 _).2)
theorem own_iandM (X : own_S p l e R s m av below meth c Z y co ml rt n0 T ce sl h) {x : Int32} {y' : Int32} (a : Int) (kk : Nat) (P : Int) (hd : decode co pc = .ok (.iand, 1)) (hxa : x.toInt = a) (hk : kk ≤ 31) (hm : y'.toBitVec.toNat = 2 ^ kk - 1) (hP : ((2 ^ kk : Nat) : Int) = P) (H : ∀ v : Int32, x &&& y' = v → v.toInt = a % P → -2147483648 ≤ v.toInt → v.toInt < 2147483648 → own_Fin p e below s n0 Q k n T (mkF m (pc + 1) Ls (.int v :: st))) : own_Fin p e below s n0 Q k n T (mkF m pc Ls (.int y' :: .int x :: st)) := by
  exact own_iandE X hd _ rfl (H _ rfl (by subst hxa hP; exact c_mask x y' kk hk hm) (rng32 _).1 (rng32 _).2)
theorem own_iandB (X : own_S p l e R s m av below meth c Z y co ml rt n0 T ce sl h) {x : Int32} {y' : Int32} (b : Int) (hd : decode co pc = .ok (.iand, 1)) (hyb : y'.toInt = b) (hb0 : 0 ≤ b) (H : ∀ v : Int32, x &&& y' = v → 0 ≤ v.toInt ∧ v.toInt ≤ b → -2147483648 ≤ v.toInt → v.toInt < 2147483648 → own_Fin p e below s n0 Q k n T (mkF m (pc + 1) Ls (.int v :: st))) : own_Fin p e below s n0 Q k n T (mkF m pc Ls (.int y' :: .int x :: st)) := by
  exact own_iandE X hd _ rfl (H _ rfl (by subst hyb; exact c_and x y' hb0) (rng32 _).1 (rng32 _).2)
theorem own_iorE (X : own_S p l e R s m av below meth c Z y co ml rt n0 T ce sl h) {x : Int32} {y' : Int32} (hd : decode co pc = .ok (.ior, 1)) (z : Int32) (hz : x ||| y' = z) (H : own_Fin p e below s n0 Q k n T (mkF m (pc + 1) Ls (.int z :: st))) : own_Fin p e below s n0 Q k n T (mkF m pc Ls (.int y' :: .int x :: st)) := by
  subst hz
  obtain ⟨⟨hx, hby, -⟩, locs, X, -⟩ := X
  exact own_go (fun _ q => XS.ior X.here hx rfl (hb hby hd) rfl q) H
theorem own_iorV (X : own_S p l e R s m av below meth c Z y co ml rt n0 T ce sl h) {x : Int32} {y' : Int32}  (hd : decode co pc = .ok (.ior, 1))  (H : ∀ v : Int32, x ||| y' = v → -2147483648 ≤ v.toInt → v.toInt < 2147483648 → own_Fin p e below s n0 Q k n T (mkF m (pc + 1) Ls (.int v :: st))) : own_Fin p e below s n0 Q k n T (mkF m pc Ls (.int y' :: .int x :: st)) := by
  exact own_iorE X hd _ rfl (H _ rfl (rng32 _).1 (rng32 _).2)
theorem own_iorM (X : own_S p l e R s m av below meth c Z y co ml rt n0 T ce sl h) {x : Int32} {y' : Int32} (a b : Int) (kk : Nat) (P : Int) (hd : decode co pc = .ok (.ior, 1)) (hxa : x.toInt = a) (hyb : y'.toInt = b) (hk : kk ≤ 31) (hP : P = ((2 ^ kk : Nat) : Int)) (q1 : a % P = 0) (q2 : 0 ≤ b) (q3 : b < P) (H : ∀ v : Int32, x ||| y' = v → (v.toInt - (a + b)) % 4294967296 = 0 → -2147483648 ≤ v.toInt → v.toInt < 2147483648 → own_Fin p e below s n0 Q k n T (mkF m (pc + 1) Ls (.int v :: st))) : own_Fin p e below s n0 Q k n T (mkF m pc Ls (.int y' :: .int x :: st)) := by
  exact own_iorE X hd _ rfl (H _ rfl (by subst hxa hyb; exact c_or x y' kk hk P hP q1 q2 q3) (rng32 _).1 (rng32 _).2)
theorem own_iorR (X : own_S p l e R s m av below meth c Z y co ml rt n0 T ce sl h) {x : Int32} {y' : Int32} (a b : Int) (kk : Nat) (P : Int) (hd : decode co pc = .ok (.ior, 1)) (hxa : x.toInt = a) (hyb : y'.toInt = b) (hk : kk ≤ 31) (hP : P = ((2 ^ kk : Nat) : Int)) (q1 : b % P = 0) (q2 : 0 ≤ a) (q3 : a < P) (H : ∀ v : Int32, x ||| y' = v → (v.toInt - (a + b)) % 4294967296 = 0 → -2147483648 ≤ v.toInt → v.toInt < 2147483648 → own_Fin p e below s n0 Q k n T (mkF m (pc + 1) Ls (.int v :: st))) : own_Fin p e below s n0 Q k n T (mkF m pc Ls (.int y' :: .int x :: st)) := by
  exact own_iorE X hd _ rfl (H _ rfl (by subst hxa hyb; have q := c_or y' x kk hk P hP q1 q2 q3; rw [Int32.or_comm] at q; omega) (rng32 _).1 (rng32 _).2)
theorem own_ixorE (X : own_S p l e R s m av below meth c Z y co ml rt n0 T ce sl h) {x : Int32} {y' : Int32} (hd : decode co pc = .ok (.ixor, 1)) (z : Int32) (hz : x ^^^ y' = z) (H : own_Fin p e below s n0 Q k n T (mkF m (pc + 1) Ls (.int z :: st))) : own_Fin p e below s n0 Q k n T (mkF m pc Ls (.int y' :: .int x :: st)) := by
  subst hz
  obtain ⟨⟨hx, hby, -⟩, locs, X, -⟩ := X
  exact own_go (fun _ q => XS.ixor X.here hx rfl (hb hby hd) rfl q) H
theorem own_ixorV (X : own_S p l e R s m av below meth c Z y co ml rt n0 T ce sl h) {x : Int32} {y' : Int32}  (hd : decode co pc = .ok (.ixor, 1))  (H : ∀ v : Int32, x ^^^ y' = v → -2147483648 ≤ v.toInt → v.toInt < 2147483648 → own_Fin p e below s n0 Q k n T (mkF m (pc + 1) Ls (.int v :: st))) : own_Fin p e below s n0 Q k n T (mkF m pc Ls (.int y' :: .int x :: st)) := by
  exact own_ixorE X hd _ rfl (H _ rfl (rng32 _).1 (rng32 _).2)
theorem own_ishlE (X : own_S p l e R s m av below meth c Z y co ml rt n0 T ce sl h) {x : Int32} {y' : Int32} (hd : decode co pc = .ok (.ishl, 1)) (z : Int32) (hz : x <<< (y' &&& 31) = z) (H : own_Fin p e below s n0 Q k n T (mkF m (pc + 1) Ls (.int z :: st))) : own_Fin p e below s n0 Q k n T (mkF m pc Ls (.int y' :: .int x :: st)) := by
  subst hz
  obtain ⟨⟨hx, hby, -⟩, locs, X, -⟩ := X
  exact own_go (fun _ q => XS.ishl X.here hx rfl (hb hby hd) rfl q) H
theorem own_ishlV (X : own_S p l e R s m av below meth c Z y co ml rt n0 T ce sl h) {x : Int32} {y' : Int32}  (hd : decode co pc = .ok (.ishl, 1))  (H : ∀ v : Int32, x <<< (y' &&& 31) = v → -2147483648 ≤ v.toInt → v.toInt < 2147483648 → own_Fin p e below s n0 Q k n T (mkF m (pc + 1) Ls (.int v :: st))) : own_Fin p e below s n0 Q k n T (mkF m pc Ls (.int y' :: .int x :: st)) := by
  exact own_ishlE X hd _ rfl (H _ rfl (rng32 _).1 (rng32 _).2)
theorem own_ishlK (X : own_S p l e R s m av below meth c Z y co ml rt n0 T ce sl h) {x : Int32} {y' : Int32} (a : Int) (kk : Nat) (P : Int) (hd : decode co pc = .ok (.ishl, 1)) (hxa : x.toInt = a) (hk : y'.toBitVec.toNat % 32 = kk) (hP : ((2 ^ kk : Nat) : Int) = P) (H : ∀ v : Int32, x <<< (y' &&& 31) = v → (v.toInt - a * P) % 4294967296 = 0 → -2147483648 ≤ v.toInt → v.toInt < 2147483648 → own_Fin p e below s n0 Q k n T (mkF m (pc + 1) Ls (.int v :: st))) : own_Fin p e below s n0 Q k n T (mkF m pc Ls (.int y' :: .int x :: st)) := by
  exact own_ishlE X hd _ rfl (H _ rfl (by subst hxa hP; exact c_ishl x y' kk hk) (rng32 _).1 (rng32 _).2)
theorem own_ishrE (X : own_S p l e R s m av below meth c Z y co ml rt n0 T ce sl h) {x : Int32} {y' : Int32} (hd : decode co pc = .ok (.ishr, 1)) (z : Int32) (hz : x >>> (y' &&& 31) = z) (H : own_Fin p e below s n0 Q k n T (mkF m (pc + 1) Ls (.int z :: st))) : own_Fin p e below s n0 Q k n T (mkF m pc Ls (.int y' :: .int x :: st)) := by
  subst hz
  obtain ⟨⟨hx, hby, -⟩, locs, X, -⟩ := X
  exact own_go (fun _ q => XS.ishr X.here hx rfl (hb hby hd) rfl q) H
theorem own_ishrV (X : own_S p l e R s m av below meth c Z y co ml rt n0 T ce sl h) {x : Int32} {y' : Int32}  (hd : decode co pc = .ok (.ishr, 1))  (H : ∀ v : Int32, x >>> (y' &&& 31) = v → -2147483648 ≤ v.toInt → v.toInt < 2147483648 → own_Fin p e below s n0 Q k n T (mkF m (pc + 1) Ls (.int v :: st))) : own_Fin p e below s n0 Q k n T (mkF m pc Ls (.int y' :: .int x :: st)) := by
  exact own_ishrE X hd _ rfl (H _ rfl (rng32 _).1 (rng32 _).2)
theorem own_ishrK (X : own_S p l e R s m av below meth c Z y co ml rt n0 T ce sl h) {x : Int32} {y' : Int32} (a : Int) (kk : Nat) (P : Int) (hd : decode co pc = .ok (.ishr, 1)) (hxa : x.toInt = a) (hk : y'.toBitVec.toNat % 32 = kk) (hP : ((2 ^ kk : Nat) : Int) = P) (H : ∀ v : Int32, x >>> (y' &&& 31) = v → v.toInt = a / P → -2147483648 ≤ v.toInt → v.toInt < 2147483648 → own_Fin p e below s n0 Q k n T (mkF m (pc + 1) Ls (.int v :: st))) : own_Fin p e below s n0 Q k n T (mkF m pc Ls (.int y' :: .int x :: st)) := by
  exact own_ishrE X hd _ rfl (H _ rfl (by subst hxa hP; exact c_ishr x y' kk hk) (rng32 _).1 (rng32 _).2)
theorem own_iushrE (X : own_S p l e R s m av below meth c Z y co ml rt n0 T ce sl h) {x : Int32} {y' : Int32} (hd : decode co pc = .ok (.iushr, 1)) (z : Int32) (hz : (x.toUInt32 >>> (y' &&& 31).toUInt32).toInt32 = z) (H : own_Fin p e below s n0 Q k n T (mkF m (pc + 1) Ls (.int z :: st))) : own_Fin p e below s n0 Q k n T (mkF m pc Ls (.int y' :: .int x :: st)) := by
  subst hz
  obtain ⟨⟨hx, hby, -⟩, locs, X, -⟩ := X
  exact own_go (fun _ q => XS.iushr X.here hx rfl (hb hby hd) rfl q) H
theorem own_iushrV (X : own_S p l e R s m av below meth c Z y co ml rt n0 T ce sl h) {x : Int32} {y' : Int32}  (hd : decode co pc = .ok (.iushr, 1))  (H : ∀ v : Int32, (x.toUInt32 >>> (y' &&& 31).toUInt32).toInt32 = v → -2147483648 ≤ v.toInt → v.toInt < 2147483648 → own_Fin p e below s n0 Q k n T (mkF m (pc + 1) Ls (.int v :: st))) : own_Fin p e below s n0 Q k n T (mkF m pc Ls (.int y' :: .int x :: st)) := by
  exact own_iushrE X hd _ rfl (H _ rfl (rng32 _).1 (rng32 _).2)
theorem own_iushrK (X : own_S p l e R s m av below meth c Z y co ml rt n0 T ce sl h) {x : Int32} {y' : Int32} (a : Int) (kk : Nat) (P : Int) (hd : decode co pc = .ok (.iushr, 1)) (hxa : x.toInt = a) (hk : y'.toBitVec.toNat % 32 = kk) (hP : ((2 ^ kk : Nat) : Int) = P) (hk0 : 0 < kk) (H : ∀ v : Int32, (x.toUInt32 >>> (y' &&& 31).toUInt32).toInt32 = v → v.toInt = (a % 4294967296) / P → -2147483648 ≤ v.toInt → v.toInt < 2147483648 → own_Fin p e below s n0 Q k n T (mkF m (pc + 1) Ls (.int v :: st))) : own_Fin p e below s n0 Q k n T (mkF m pc Ls (.int y' :: .int x :: st)) := by
  exact own_iushrE X hd _ rfl (H _ rfl (by subst hxa hP; exact c_iushr x y' kk hk hk0) (rng32 _).1 (rng32 _).2)
theorem own_laddE (X : own_S p l e R s m av below meth c Z y co ml rt n0 T ce sl h) {x : Int64} {y' : Int64} (hd : decode co pc = .ok (.ladd, 1)) (z : Int64) (hz : x + y' = z) (H : own_Fin p e below s n0 Q k n T (mkF m (pc + 1) Ls (.long z :: st))) : own_Fin p e below s n0 Q k n T (mkF m pc Ls (.long y' :: .long x :: st)) := by
  subst hz
  obtain ⟨⟨hx, hby, -⟩, locs, X, -⟩ := X
  exact own_go (fun _ q => XS.ladd X.here hx rfl (hb hby hd) rfl q) H
theorem own_laddV (X : own_S p l e R s m av below meth c Z y co ml rt n0 T ce sl h) {x : Int64} {y' : Int64} (a b : Int) (hd : decode co pc = .ok (.ladd, 1)) (hxa : x.toInt = a) (hyb : y'.toInt = b) (H : ∀ v : Int64, x + y' = v → (v.toInt - (a + b)) % 18446744073709551616 = 0 → -9223372036854775808 ≤ v.toInt → v.toInt < 9223372036854775808 → own_Fin p e below s n0 Q k n T (mkF m (pc + 1) Ls (.long v :: st))) : own_Fin p e below s n0 Q k n T (mkF m pc Ls (.long y' :: .long x :: st)) := by
  exact own_laddE X hd _ rfl (H _ rfl (by subst hxa hyb; exact c_ladd x y') (rng64 _).1 (rng64 _).2)
theorem own_lsubE (X : own_S p l e R s m av below meth c Z y co ml rt n0 T ce sl h) {x : Int64} {y' : Int64} (hd : decode co pc = .ok (.lsub, 1)) (z : Int64) (hz : x - y' = z) (H : own_Fin p e below s n0 Q k n T (mkF m (pc + 1) Ls (.long z :: st))) : own_Fin p e below s n0 Q k n T (mkF m pc Ls (.long y' :: .long x :: st)) := by
  subst hz
  obtain ⟨⟨hx, hby, -⟩, locs, X, -⟩ := X
  exact own_go (fun _ q => XS.lsub X.here hx rfl (hb hby hd) rfl q) H
theorem own_lsubV (X : own_S p l e R s m av below meth c Z y co ml rt n0 T ce sl h) {x : Int64} {y' : Int64} (a b : Int) (hd : decode co pc = .ok (.lsub, 1)) (hxa : x.toInt = a) (hyb : y'.toInt = b) (H : ∀ v : Int64, x - y' = v → (v.toInt - (a - b)) % 18446744073709551616 = 0 → -9223372036854775808 ≤ v.toInt → v.toInt < 9223372036854775808 → own_Fin p e below s n0 Q k n T (mkF m (pc + 1) Ls (.long v :: st))) : own_Fin p e below s n0 Q k n T (mkF m pc Ls (.long y' :: .long x :: st)) := by
  exact own_lsubE X hd _ rfl (H _ rfl (by subst hxa hyb; exact c_lsub x y') (rng64 _).1 (rng64 _).2)
theorem own_lmulE (X : own_S p l e R s m av below meth c Z y co ml rt n0 T ce sl h) {x : Int64} {y' : Int64} (hd : decode co pc = .ok (.lmul, 1)) (z : Int64) (hz : x * y' = z) (H : own_Fin p e below s n0 Q k n T (mkF m (pc + 1) Ls (.long z :: st))) : own_Fin p e below s n0 Q k n T (mkF m pc Ls (.long y' :: .long x :: st)) := by
  subst hz
  obtain ⟨⟨hx, hby, -⟩, locs, X, -⟩ := X
  exact own_go (fun _ q => XS.lmul X.here hx rfl (hb hby hd) rfl q) H
theorem own_lmulV (X : own_S p l e R s m av below meth c Z y co ml rt n0 T ce sl h) {x : Int64} {y' : Int64} (a b : Int) (hd : decode co pc = .ok (.lmul, 1)) (hxa : x.toInt = a) (hyb : y'.toInt = b) (H : ∀ v : Int64, x * y' = v → (v.toInt - (a * b)) % 18446744073709551616 = 0 → -9223372036854775808 ≤ v.toInt → v.toInt < 9223372036854775808 → own_Fin p e below s n0 Q k n T (mkF m (pc + 1) Ls (.long v :: st))) : own_Fin p e below s n0 Q k n T (mkF m pc Ls (.long y' :: .long x :: st)) := by
  exact own_lmulE X hd _ rfl (H _ rfl (by subst hxa hyb; exact c_lmul x y') (rng64 _).1 (rng64 _).2)
theorem own_landE (X : own_S p l e R s m av below meth c Z y co ml rt n0 T ce sl h) {x : Int64} {y' : Int64} (hd : decode co pc = .ok (.land, 1)) (z : Int64) (hz : x &&& y' = z) (H : own_Fin p e below s n0 Q k n T (mkF m (pc + 1) Ls (.long z :: st))) : own_Fin p e below s n0 Q k n T (mkF m pc Ls (.long y' :: .long x :: st)) := by
  subst hz
  obtain ⟨⟨hx, hby, -⟩, locs, X, -⟩ := X
  exact own_go (fun _ q => XS.land X.here hx rfl (hb hby hd) rfl q) H
theorem own_landV (X : own_S p l e R s m av below meth c Z y co ml rt n0 T ce sl h) {x : Int64} {y' : Int64}  (hd : decode co pc = .ok (.land, 1))  (H : ∀ v : Int64, x &&& y' = v → -9223372036854775808 ≤ v.toInt → v.toInt < 9223372036854775808 → own_Fin p e below s n0 Q k n T (mkF m (pc + 1) Ls (.long v :: st))) : own_Fin p e below s n0 Q k n T (mkF m pc Ls (.long y' :: .long x :: st)) := by
  exact own_landE X hd _ rfl (H _ rfl (rng64 _).1 (rng64 _).2)
theorem own_landM (X : own_S p l e R s m av below meth c Z y co ml rt n0 T ce sl h) {x : Int64} {y' : Int64} (a : Int) (kk : Nat) (P : Int) (hd : decode co pc = .ok (.land, 1)) (hxa : x.toInt = a) (hk : kk ≤ 63) (hm : y'.toBitVec.toNat = 2 ^ kk - 1) (hP : ((2 ^ kk : Nat) : Int) = P) (H : ∀ v : Int64, x &&& y' = v → v.toInt = a % P → -9223372036854775808 ≤ v.toInt → v.toInt < 9223372036854775808 → own_Fin p e below s n0 Q k n T (mkF m (pc + 1) Ls (.long v :: st))) : own_Fin p e below s n0 Q k n T (mkF m pc Ls (.long y' :: .long x :: st)) := by
  exact own_landE X hd _ rfl (H _ rfl (by subst hxa hP; exact c_maskL x y' kk hk hm) (rng64 _).1 (rng64 _).2)
theorem own_lorE (X : own_S p l e R s m av below meth c Z y co ml rt n0 T ce sl h) {x : Int64} {y' : Int64} (hd : decode co pc = .ok (.lor, 1)) (z : Int64) (hz : x ||| y' = z) (H : own_Fin p e below s n0 Q k n T (mkF m (pc + 1) Ls (.long z :: st))) : own_Fin p e below s n0 Q k n T (mkF m pc Ls (.long y' :: .long x :: st)) := by
  subst hz
  obtain ⟨⟨hx, hby, -⟩, locs, X, -⟩ := X
  exact own_go (fun _ q => XS.lor X.here hx rfl (hb hby hd) rfl q) H
theorem own_lorV (X : own_S p l e R s m av below meth c Z y co ml rt n0 T ce sl h) {x : Int64} {y' : Int64}  (hd : decode co pc = .ok (.lor, 1))  (H : ∀ v : Int64, x ||| y' = v → -9223372036854775808 ≤ v.toInt → v.toInt < 9223372036854775808 → own_Fin p e below s n0 Q k n T (mkF m (pc + 1) Ls (.long v :: st))) : own_Fin p e below s n0 Q k n T (mkF m pc Ls (.long y' :: .long x :: st)) := by
  exact own_lorE X hd _ rfl (H _ rfl (rng64 _).1 (rng64 _).2)
theorem own_lxorE (X : own_S p l e R s m av below meth c Z y co ml rt n0 T ce sl h) {x : Int64} {y' : Int64} (hd : decode co pc = .ok (.lxor, 1)) (z : Int64) (hz : x ^^^ y' = z) (H : own_Fin p e below s n0 Q k n T (mkF m (pc + 1) Ls (.long z :: st))) : own_Fin p e below s n0 Q k n T (mkF m pc Ls (.long y' :: .long x :: st)) := by
  subst hz
  obtain ⟨⟨hx, hby, -⟩, locs, X, -⟩ := X
  exact own_go (fun _ q => XS.lxor X.here hx rfl (hb hby hd) rfl q) H
theorem own_lxorV (X : own_S p l e R s m av below meth c Z y co ml rt n0 T ce sl h) {x : Int64} {y' : Int64}  (hd : decode co pc = .ok (.lxor, 1))  (H : ∀ v : Int64, x ^^^ y' = v → -9223372036854775808 ≤ v.toInt → v.toInt < 9223372036854775808 → own_Fin p e below s n0 Q k n T (mkF m (pc + 1) Ls (.long v :: st))) : own_Fin p e below s n0 Q k n T (mkF m pc Ls (.long y' :: .long x :: st)) := by
  exact own_lxorE X hd _ rfl (H _ rfl (rng64 _).1 (rng64 _).2)
theorem own_lshlE (X : own_S p l e R s m av below meth c Z y co ml rt n0 T ce sl h) {x : Int64} {y' : Int32} (hd : decode co pc = .ok (.lshl, 1)) (z : Int64) (hz : x <<< (y' &&& 0x3f).toInt64 = z) (H : own_Fin p e below s n0 Q k n T (mkF m (pc + 1) Ls (.long z :: st))) : own_Fin p e below s n0 Q k n T (mkF m pc Ls (.int y' :: .long x :: st)) := by
  subst hz
  obtain ⟨⟨hx, hby, -⟩, locs, X, -⟩ := X
  exact own_go (fun _ q => XS.lshl X.here hx rfl (hb hby hd) rfl q) H
theorem own_lshlV (X : own_S p l e R s m av below meth c Z y co ml rt n0 T ce sl h) {x : Int64} {y' : Int32}  (hd : decode co pc = .ok (.lshl, 1))  (H : ∀ v : Int64, x <<< (y' &&& 0x3f).toInt64 = v → -9223372036854775808 ≤ v.toInt → v.toInt < 9223372036854775808 → own_Fin p e below s n0 Q k n T (mkF m (pc + 1) Ls (.long v :: st))) : own_Fin p e below s n0 Q k n T (mkF m pc Ls (.int y' :: .long x :: st)) := by
  exact own_lshlE X hd _ rfl (H _ rfl (rng64 _).1 (rng64 _).2)
theorem own_lshlK (X : own_S p l e R s m av below meth c Z y co ml rt n0 T ce sl h) {x : Int64} {y' : Int32} (a : Int) (kk : Nat) (P : Int) (hd : decode co pc = .ok (.lshl, 1)) (hxa : x.toInt = a) (hk : y'.toBitVec.toNat % 64 = kk) (hP : ((2 ^ kk : Nat) : Int) = P) (H : ∀ v : Int64, x <<< (y' &&& 0x3f).toInt64 = v → (v.toInt - a * P) % 18446744073709551616 = 0 → -9223372036854775808 ≤ v.toInt → v.toInt < 9223372036854775808 → own_Fin p e below s n0 Q k n T (mkF m (pc + 1) Ls (.long v :: st))) : own_Fin p e below s n0 Q k n T (mkF m pc Ls (.int y' :: .long x :: st)) := by
  exact own_lshlE X hd _ rfl (H _ rfl (by subst hxa hP; exact c_lshl x y' kk hk) (rng64 _).1 (rng64 _).2)
theorem own_lshrE (X : own_S p l e R s m av below meth c Z y co ml rt n0 T ce sl h) {x : Int64} {y' : Int32} (hd : decode co pc = .ok (.lshr, 1)) (z : Int64) (hz : x >>> (y' &&& 0x3f).toInt64 = z) (H : own_Fin p e below s n0 Q k n T (mkF m (pc + 1) Ls (.long z :: st))) : own_Fin p e below s n0 Q k n T (mkF m pc Ls (.int y' :: .long x :: st)) := by
  subst hz
  obtain ⟨⟨hx, hby, -⟩, locs, X, -⟩ := X
  exact own_go (fun _ q => XS.lshr X.here hx rfl (hb hby hd) rfl q) H
theorem own_lshrV (X : own_S p l e R s m av below meth c Z y co ml rt n0 T ce sl h) {x : Int64} {y' : Int32}  (hd : decode co pc = .ok (.lshr, 1))  (H : ∀ v : Int64, x >>> (y' &&& 0x3f).toInt64 = v → -9223372036854775808 ≤ v.toInt → v.toInt < 9223372036854775808 → own_Fin p e below s n0 Q k n T (mkF m (pc + 1) Ls (.long v :: st))) : own_Fin p e below s n0 Q k n T (mkF m pc Ls (.int y' :: .long x :: st)) := by
  exact own_lshrE X hd _ rfl (H _ rfl (rng64 _).1 (rng64 _).2)
theorem own_lshrK (X : own_S p l e R s m av below meth c Z y co ml rt n0 T ce sl h) {x : Int64} {y' : Int32} (a : Int) (kk : Nat) (P : Int) (hd : decode co pc = .ok (.lshr, 1)) (hxa : x.toInt = a) (hk : y'.toBitVec.toNat % 64 = kk) (hP : ((2 ^ kk : Nat) : Int) = P) (H : ∀ v : Int64, x >>> (y' &&& 0x3f).toInt64 = v → v.toInt = a / P → -9223372036854775808 ≤ v.toInt → v.toInt < 9223372036854775808 → own_Fin p e below s n0 Q k n T (mkF m (pc + 1) Ls (.long v :: st))) : own_Fin p e below s n0 Q k n T (mkF m pc Ls (.int y' :: .long x :: st)) := by
  exact own_lshrE X hd _ rfl (H _ rfl (by subst hxa hP; exact c_lshr x y' kk hk) (rng64 _).1 (rng64 _).2)
theorem own_lushrE (X : own_S p l e R s m av below meth c Z y co ml rt n0 T ce sl h) {x : Int64} {y' : Int32} (hd : decode co pc = .ok (.lushr, 1)) (z : Int64) (hz : (x.toUInt64 >>> (y' &&& 0x3f).toInt64.toUInt64).toInt64 = z) (H : own_Fin p e below s n0 Q k n T (mkF m (pc + 1) Ls (.long z :: st))) : own_Fin p e below s n0 Q k n T (mkF m pc Ls (.int y' :: .long x :: st)) := by
  subst hz
  obtain ⟨⟨hx, hby, -⟩, locs, X, -⟩ := X
  exact own_go (fun _ q => XS.lushr X.here hx rfl (hb hby hd) rfl q) H
theorem own_lushrV (X : own_S p l e R s m av below meth c Z y co ml rt n0 T ce sl h) {x : Int64} {y' : Int32}  (hd : decode co pc = .ok (.lushr, 1))  (H : ∀ v : Int64, (x.toUInt64 >>> (y' &&& 0x3f).toInt64.toUInt64).toInt64 = v → -9223372036854775808 ≤ v.toInt → v.toInt < 9223372036854775808 → own_Fin p e below s n0 Q k n T (mkF m (pc + 1) Ls (.long v :: st))) : own_Fin p e below s n0 Q k n T (mkF m pc Ls (.int y' :: .long x :: st)) := by
  exact own_lushrE X hd _ rfl (H _ rfl (rng64 _).1 (rng64 _).2)
theorem own_lushrK (X : own_S p l e R s m av below meth c Z y co ml rt n0 T ce sl h) {x : Int64} {y' : Int32} (a : Int) (kk : Nat) (P : Int) (hd : decode co pc = .ok (.lushr, 1)) (hxa : x.toInt = a) (hk : y'.toBitVec.toNat % 64 = kk) (hP : ((2 ^ kk : Nat) : Int) = P) (hk0 : 0 < kk) (H : ∀ v : Int64, (x.toUInt64 >>> (y' &&& 0x3f).toInt64.toUInt64).toInt64 = v → v.toInt = (a % 18446744073709551616) / P → -9223372036854775808 ≤ v.toInt → v.toInt < 9223372036854775808 → own_Fin p e below s n0 Q k n T (mkF m (pc + 1) Ls (.long v :: st))) : own_Fin p e below s n0 Q k n T (mkF m pc Ls (.int y' :: .long x :: st)) := by
  exact own_lushrE X hd _ rfl (H _ rfl (by subst hxa hP; exact c_lushr x y' kk hk hk0) (rng64 _).1 (rng64 _).2)
theorem own_iremE (X : own_S p l e R s m av below meth c Z y co ml rt n0 T ce sl h) {x : Int32} {y' : Int32} (hd : decode co pc = .ok (.irem, 1)) (hnz : y' ≠ 0) (z : Int32) (hz : x % y' = z) (H : own_Fin p e below s n0 Q k n T (mkF m (pc + 1) Ls (.int z :: st))) : own_Fin p e below s n0 Q k n T (mkF m pc Ls (.int y' :: .int x :: st)) := by
  subst hz
  obtain ⟨⟨hx, hby, -⟩, locs, X, -⟩ := X
  exact own_go (fun _ q => iremM X hx rfl (hb hby hd) rfl hnz q) H
theorem own_iremV (X : own_S p l e R s m av below meth c Z y co ml rt n0 T ce sl h) {x : Int32} {y' : Int32}  (hd : decode co pc = .ok (.irem, 1)) (hnz : y' ≠ 0)  (H : ∀ v : Int32, x % y' = v → -2147483648 ≤ v.toInt → v.toInt < 2147483648 → own_Fin p e below s n0 Q k n T (mkF m (pc + 1) Ls (.int v :: st))) : own_Fin p e below s n0 Q k n T (mkF m pc Ls (.int y' :: .int x :: st)) := by
  exact own_iremE X hd hnz _ rfl (H _ rfl (rng32 _).1 (rng32 _).2)
theorem own_iremK (X : own_S p l e R s m av below meth c Z y co ml rt n0 T ce sl h) {x : Int32} {y' : Int32} (a b : Int) (hd : decode co pc = .ok (.irem, 1)) (hnz : y' ≠ 0) (hxa : x.toInt = a) (hyb : y'.toInt = b) (H : ∀ v : Int32, x % y' = v → (0 ≤ a → v.toInt = a % b) ∧ (a < 0 → v.toInt = -((-a) % b)) → -2147483648 ≤ v.toInt → v.toInt < 2147483648 → own_Fin p e below s n0 Q k n T (mkF m (pc + 1) Ls (.int v :: st))) : own_Fin p e below s n0 Q k n T (mkF m pc Ls (.int y' :: .int x :: st)) := by
  exact own_iremE X hd hnz _ rfl (H _ rfl (by subst hxa; exact c_irem x y' b hyb) (rng32 _).1 (rng32 _).2)
theorem own_iremB (X : own_S p l e R s m av below meth c Z y co ml rt n0 T ce sl h) {x : Int32} {y' : Int32} (a b : Int) (hd : decode co pc = .ok (.irem, 1)) (hnz : y' ≠ 0) (hxa : x.toInt = a) (hyb : y'.toInt = b) (q1 : 0 ≤ a) (q2 : 0 < b) (H : ∀ v : Int32, x % y' = v → 0 ≤ v.toInt ∧ v.toInt < b ∧ v.toInt ≤ a → -2147483648 ≤ v.toInt → v.toInt < 2147483648 → own_Fin p e below s n0 Q k n T (mkF m (pc + 1) Ls (.int v :: st))) : own_Fin p e below s n0 Q k n T (mkF m pc Ls (.int y' :: .int x :: st)) := by
  exact own_iremE X hd hnz _ rfl (H _ rfl (by subst hxa hyb; have q := (c_iremV x y').1 q1 q2; exact ⟨q.1, q.2.1, q.2.2.1⟩) (rng32 _).1 (rng32 _).2)
theorem own_lremE (X : own_S p l e R s m av below meth c Z y co ml rt n0 T ce sl h) {x : Int64} {y' : Int64} (hd : decode co pc = .ok (.lrem, 1)) (hnz : y' ≠ 0) (z : Int64) (hz : x % y' = z) (H : own_Fin p e below s n0 Q k n T (mkF m (pc + 1) Ls (.long z :: st))) : own_Fin p e below s n0 Q k n T (mkF m pc Ls (.long y' :: .long x :: st)) := by
  subst hz
  obtain ⟨⟨hx, hby, -⟩, locs, X, -⟩ := X
  exact own_go (fun _ q => XS.lrem X.here hx rfl (hb hby hd) rfl hnz (by rw [lrem_mod]; exact q)) H
theorem own_lremV (X : own_S p l e R s m av below meth c Z y co ml rt n0 T ce sl h) {x : Int64} {y' : Int64}  (hd : decode co pc = .ok (.lrem, 1)) (hnz : y' ≠ 0)  (H : ∀ v : Int64, x % y' = v → -9223372036854775808 ≤ v.toInt → v.toInt < 9223372036854775808 → own_Fin p e below s n0 Q k n T (mkF m (pc + 1) Ls (.long v :: st))) : own_Fin p e below s n0 Q k n T (mkF m pc Ls (.long y' :: .long x :: st)) := by
  exact own_lremE X hd hnz _ rfl (H _ rfl (rng64 _).1 (rng64 _).2)
theorem own_lremK (X : own_S p l e R s m av below meth c Z y co ml rt n0 T ce sl h) {x : Int64} {y' : Int64} (a b : Int) (hd : decode co pc = .ok (.lrem, 1)) (hnz : y' ≠ 0) (hxa : x.toInt = a) (hyb : y'.toInt = b) (H : ∀ v : Int64, x % y' = v → (0 ≤ a → v.toInt = a % b) ∧ (a < 0 → v.toInt = -((-a) % b)) → -9223372036854775808 ≤ v.toInt → v.toInt < 9223372036854775808 → own_Fin p e below s n0 Q k n T (mkF m (pc + 1) Ls (.long v :: st))) : own_Fin p e below s n0 Q k n T (mkF m pc Ls (.long y' :: .long x :: st)) := by
  exact own_lremE X hd hnz _ rfl (H _ rfl (by subst hxa; have q := c_lrem x y' b hyb; rw [lrem_mod] at q; exact q) (rng64 _).1 (rng64 _).2)
theorem own_lremB (X : own_S p l e R s m av below meth c Z y co ml rt n0 T ce sl h) {x : Int64} {y' : Int64} (a b : Int) (hd : decode co pc = .ok (.lrem, 1)) (hnz : y' ≠ 0) (hxa : x.toInt = a) (hyb : y'.toInt = b) (q1 : 0 ≤ a) (q2 : 0 < b) (H : ∀ v : Int64, x % y' = v → 0 ≤ v.toInt ∧ v.toInt < b ∧ v.toInt ≤ a → -9223372036854775808 ≤ v.toInt → v.toInt < 9223372036854775808 → own_Fin p e below s n0 Q k n T (mkF m (pc + 1) Ls (.long v :: st))) : own_Fin p e below s n0 Q k n T (mkF m pc Ls (.long y' :: .long x :: st)) := by
  exact own_lremE X hd hnz _ rfl (H _ rfl (by subst hxa hyb; have q := (c_lrem x y' _ rfl).1 q1; rw [lrem_mod] at q; rw [q]; exact ⟨Int.emod_nonneg _ (by omega), Int.emod_lt_of_pos _ q2, own_emod_le q1 q2⟩) (rng64 _).1 (rng64 _).2)
theorem own_i2lE (X : own_S p l e R s m av below meth c Z y co ml rt n0 T ce sl h) {x : Int32} (hd : decode co pc = .ok (.i2l, 1)) (z : Int64) (hz : x.toInt64 = z) (H : own_Fin p e below s n0 Q k n T (mkF m (pc + 1) Ls (.long z :: st))) : own_Fin p e below s n0 Q k n T (mkF m pc Ls (.int x :: st)) := by
  subst hz
  obtain ⟨⟨hx, hby, -⟩, locs, X, -⟩ := X
  exact own_go (fun _ q => XS.i2l X.here hx rfl (hb hby hd) rfl q) H
theorem own_i2lV (X : own_S p l e R s m av below meth c Z y co ml rt n0 T ce sl h) {x : Int32} (a : Int) (hd : decode co pc = .ok (.i2l, 1)) (hxa : x.toInt = a) (H : ∀ v : Int64, x.toInt64 = v → v.toInt = a → -9223372036854775808 ≤ v.toInt → v.toInt < 9223372036854775808 → own_Fin p e below s n0 Q k n T (mkF m (pc + 1) Ls (.long v :: st))) : own_Fin p e below s n0 Q k n T (mkF m pc Ls (.int x :: st)) := by
  exact own_i2lE X hd _ rfl (H _ rfl (by subst hxa; exact c_i2l x) (rng64 _).1 (rng64 _).2)
theorem own_l2iE (X : own_S p l e R s m av below meth c Z y co ml rt n0 T ce sl h) {x : Int64} (hd : decode co pc = .ok (.l2i, 1)) (z : Int32) (hz : x.toInt32 = z) (H : own_Fin p e below s n0 Q k n T (mkF m (pc + 1) Ls (.int z :: st))) : own_Fin p e below s n0 Q k n T (mkF m pc Ls (.long x :: st)) := by
  subst hz
  obtain ⟨⟨hx, hby, -⟩, locs, X, -⟩ := X
  exact own_go (fun _ q => XS.l2i X.here hx rfl (hb hby hd) rfl q) H
theorem own_l2iV (X : own_S p l e R s m av below meth c Z y co ml rt n0 T ce sl h) {x : Int64} (a : Int) (hd : decode co pc = .ok (.l2i, 1)) (hxa : x.toInt = a) (H : ∀ v : Int32, x.toInt32 = v → (v.toInt - a) % 4294967296 = 0 → -2147483648 ≤ v.toInt → v.toInt < 2147483648 → own_Fin p e below s n0 Q k n T (mkF m (pc + 1) Ls (.int v :: st))) : own_Fin p e below s n0 Q k n T (mkF m pc Ls (.long x :: st)) := by
  exact own_l2iE X hd _ rfl (H _ rfl (by subst hxa; exact c_l2i x) (rng32 _).1 (rng32 _).2)
theorem own_i2bE (X : own_S p l e R s m av below meth c Z y co ml rt n0 T ce sl h) {x : Int32} (hd : decode co pc = .ok (.i2b, 1)) (z : Int32) (hz : x.toInt8.toInt32 = z) (H : own_Fin p e below s n0 Q k n T (mkF m (pc + 1) Ls (.int z :: st))) : own_Fin p e below s n0 Q k n T (mkF m pc Ls (.int x :: st)) := by
  subst hz
  obtain ⟨⟨hx, hby, -⟩, locs, X, -⟩ := X
  exact own_go (fun _ q => XS.i2b X.here hx rfl (hb hby hd) rfl q) H
theorem own_i2bV (X : own_S p l e R s m av below meth c Z y co ml rt n0 T ce sl h) {x : Int32} (a : Int) (hd : decode co pc = .ok (.i2b, 1)) (hxa : x.toInt = a) (H : ∀ v : Int32, x.toInt8.toInt32 = v → (v.toInt - a) % 256 = 0 ∧ -128 ≤ v.toInt ∧ v.toInt < 128 → -2147483648 ≤ v.toInt → v.toInt < 2147483648 → own_Fin p e below s n0 Q k n T (mkF m (pc + 1) Ls (.int v :: st))) : own_Fin p e below s n0 Q k n T (mkF m pc Ls (.int x :: st)) := by
  exact own_i2bE X hd _ rfl (H _ rfl (by subst hxa; exact c_i2b x) (rng32 _).1 (rng32 _).2)
theorem own_i2sE (X : own_S p l e R s m av below meth c Z y co ml rt n0 T ce sl h) {x : Int32} (hd : decode co pc = .ok (.i2s, 1)) (z : Int32) (hz : x.toInt16.toInt32 = z) (H : own_Fin p e below s n0 Q k n T (mkF m (pc + 1) Ls (.int z :: st))) : own_Fin p e below s n0 Q k n T (mkF m pc Ls (.int x :: st)) := by
  subst hz
  obtain ⟨⟨hx, hby, -⟩, locs, X, -⟩ := X
  exact own_go (fun _ q => XS.i2s X.here hx rfl (hb hby hd) rfl q) H
theorem own_i2sV (X : own_S p l e R s m av below meth c Z y co ml rt n0 T ce sl h) {x : Int32} (a : Int) (hd : decode co pc = .ok (.i2s, 1)) (hxa : x.toInt = a) (H : ∀ v : Int32, x.toInt16.toInt32 = v → (v.toInt - a) % 65536 = 0 ∧ -32768 ≤ v.toInt ∧ v.toInt < 32768 → -2147483648 ≤ v.toInt → v.toInt < 2147483648 → own_Fin p e below s n0 Q k n T (mkF m (pc + 1) Ls (.int v :: st))) : own_Fin p e below s n0 Q k n T (mkF m pc Ls (.int x :: st)) := by
  exact own_i2sE X hd _ rfl (H _ rfl (by subst hxa; exact c_i2s x) (rng32 _).1 (rng32 _).2)
theorem own_i2cE (X : own_S p l e R s m av below meth c Z y co ml rt n0 T ce sl h) {x : Int32} (hd : decode co pc = .ok (.i2c, 1)) (z : Int32) (hz : x.toUInt32.toUInt16.toUInt32.toInt32 = z) (H : own_Fin p e below s n0 Q k n T (mkF m (pc + 1) Ls (.int z :: st))) : own_Fin p e below s n0 Q k n T (mkF m pc Ls (.int x :: st)) := by
  subst hz
  obtain ⟨⟨hx, hby, -⟩, locs, X, -⟩ := X
  exact own_go (fun _ q => XS.i2c X.here hx rfl (hb hby hd) rfl q) H
theorem own_i2cV (X : own_S p l e R s m av below meth c Z y co ml rt n0 T ce sl h) {x : Int32} (a : Int) (hd : decode co pc = .ok (.i2c, 1)) (hxa : x.toInt = a) (H : ∀ v : Int32, x.toUInt32.toUInt16.toUInt32.toInt32 = v → (v.toInt - a) % 65536 = 0 ∧ 0 ≤ v.toInt ∧ v.toInt < 65536 → -2147483648 ≤ v.toInt → v.toInt < 2147483648 → own_Fin p e below s n0 Q k n T (mkF m (pc + 1) Ls (.int v :: st))) : own_Fin p e below s n0 Q k n T (mkF m pc Ls (.int x :: st)) := by
  exact own_i2cE X hd _ rfl (H _ rfl (by subst hxa; exact c_i2c x) (rng32 _).1 (rng32 _).2)
theorem own_lcmp (X : own_S p l e R s m av below meth c Z y co ml rt n0 T ce sl h) {x y' : Int64} (hd : decode co pc = .ok (.lcmp, 1)) (H : own_Fin p e below s n0 Q k n T (mkF m (pc + 1) Ls (.int (lcmpW x y') :: st))) : own_Fin p e below s n0 Q k n T (mkF m pc Ls (.long y' :: .long x :: st)) := by
  obtain ⟨⟨hx, hby, -⟩, locs, X, -⟩ := X
  exact own_go (fun _ q => XS.lcmp X.here hx rfl (hb hby hd) rfl q) H
theorem own_dup (X : own_S p l e R s m av below meth c Z y co ml rt n0 T ce sl h) {v : Value} (hd : decode co pc = .ok (.dup, 1)) (hv : v.category = 1) (H : own_Fin p e below s n0 Q k n T (mkF m (pc + 1) Ls (v :: v :: st))) : own_Fin p e below s n0 Q k n T (mkF m pc Ls (v :: st)) := by
  obtain ⟨⟨hx, hby, -⟩, locs, X, -⟩ := X
  exact own_go (fun _ q => XS.dup X.here hx rfl (hb hby hd) rfl hv q) H
theorem own_dupX1 (X : own_S p l e R s m av below meth c Z y co ml rt n0 T ce sl h) {v w : Value} (hd : decode co pc = .ok (.dup_x1, 1)) (hv : v.category = 1) (hw : w.category = 1) (H : own_Fin p e below s n0 Q k n T (mkF m (pc + 1) Ls (v :: w :: v :: st))) : own_Fin p e below s n0 Q k n T (mkF m pc Ls (v :: w :: st)) := by
  obtain ⟨⟨hx, hby, -⟩, locs, X, -⟩ := X
  exact own_go (fun _ q => XS.dupX1 X.here hx rfl (hb hby hd) rfl hv hw q) H
theorem own_pop (X : own_S p l e R s m av below meth c Z y co ml rt n0 T ce sl h) {v : Value} (hd : decode co pc = .ok (.pop, 1)) (hv : v.category = 1) (H : own_Fin p e below s n0 Q k n T (mkF m (pc + 1) Ls (st))) : own_Fin p e below s n0 Q k n T (mkF m pc Ls (v :: st)) := by
  obtain ⟨⟨hx, hby, -⟩, locs, X, -⟩ := X
  exact own_go (fun _ q => XS.pop X.here hx rfl (hb hby hd) rfl hv q) H
theorem own_iinc (X : own_S p l e R s m av below meth c Z y co ml rt n0 T ce sl h) {i : Nat} {z : Int} {x z' : Int32} {L' : Array Slot} (hd : decode co pc = .ok (.iinc i z, 3)) (hl : Ls[i]? = some (.val (.int x))) (hz : Int32.ofInt z = z') (hl' : storeLocals Ls i (.int (x + z')) = some L') (H : own_Fin p e below s n0 Q k n T (mkF m (pc + 3) L' (st))) : own_Fin p e below s n0 Q k n T (mkF m pc Ls (st)) := by
  obtain ⟨⟨hx, hby, -⟩, locs, X, -⟩ := X
  exact own_go (fun _ q => XS.iinc X.here hx rfl (hb hby hd) hl (by rw [hz]; exact hl') q) H
theorem own_goto (X : own_S p l e R s m av below meth c Z y co ml rt n0 T ce sl h) {o : Int} (pc' : Nat) (hd : decode co pc = .ok (.goto o, 3)) (ho : 0 ≤ (pc : Int) + o) (hp : ((pc : Int) + o).toNat = pc') (H : own_Fin p e below s n0 Q k n T (mkF m pc' Ls (st))) : own_Fin p e below s n0 Q k n T (mkF m pc Ls (st)) := by
  obtain ⟨⟨hx, hby, -⟩, locs, X, -⟩ := X
  exact own_go (fun _ q => XS.goto X.here hx rfl rfl (hb hby hd) ho hp q) H
theorem own_icmpYes (X : own_S p l e R s m av below meth c Z y co ml rt n0 T ce sl h) {cd : ClassFile.Cond} {o : Int} {x y' : Int32} (pc' : Nat) (hd : decode co pc = .ok (.if_icmp cd o, 3)) (hc : if_icmp.holds cd x y' = true) (ho : 0 ≤ (pc : Int) + o) (hp : ((pc : Int) + o).toNat = pc') (H : own_Fin p e below s n0 Q k n T (mkF m pc' Ls (st))) : own_Fin p e below s n0 Q k n T (mkF m pc Ls (.int y' :: .int x :: st)) := by
  obtain ⟨⟨hx, hby, -⟩, locs, X, -⟩ := X
  exact own_go (fun _ q => XS.icmpYes X.here hx rfl rfl (hb hby hd) rfl hc ho hp q) H
theorem own_icmpNo (X : own_S p l e R s m av below meth c Z y co ml rt n0 T ce sl h) {cd : ClassFile.Cond} {o : Int} {x y' : Int32} (hd : decode co pc = .ok (.if_icmp cd o, 3)) (hc : if_icmp.holds cd x y' = false) (H : own_Fin p e below s n0 Q k n T (mkF m (pc + 3) Ls (st))) : own_Fin p e below s n0 Q k n T (mkF m pc Ls (.int y' :: .int x :: st)) := by
  obtain ⟨⟨hx, hby, -⟩, locs, X, -⟩ := X
  exact own_go (fun _ q => XS.icmpNo X.here hx rfl (hb hby hd) rfl hc q) H
theorem own_ifYes (X : own_S p l e R s m av below meth c Z y co ml rt n0 T ce sl h) {cd : ClassFile.Cond} {o : Int} {x : Int32} (pc' : Nat) (hd : decode co pc = .ok (.ifCond cd o, 3)) (hc : ifCond.holds cd x = true) (ho : 0 ≤ (pc : Int) + o) (hp : ((pc : Int) + o).toNat = pc') (H : own_Fin p e below s n0 Q k n T (mkF m pc' Ls (st))) : own_Fin p e below s n0 Q k n T (mkF m pc Ls (.int x :: st)) := by
  obtain ⟨⟨hx, hby, -⟩, locs, X, -⟩ := X
  exact own_go (fun _ q => XS.ifYes X.here hx rfl rfl (hb hby hd) rfl hc ho hp q) H
theorem own_ifNo (X : own_S p l e R s m av below meth c Z y co ml rt n0 T ce sl h) {cd : ClassFile.Cond} {o : Int} {x : Int32} (hd : decode co pc = .ok (.ifCond cd o, 3)) (hc : ifCond.holds cd x = false) (H : own_Fin p e below s n0 Q k n T (mkF m (pc + 3) Ls (st))) : own_Fin p e below s n0 Q k n T (mkF m pc Ls (.int x :: st)) := by
  obtain ⟨⟨hx, hby, -⟩, locs, X, -⟩ := X
  exact own_go (fun _ q => XS.ifNo X.here hx rfl (hb hby hd) rfl hc q) H
theorem own_ifnullYes (X : own_S p l e R s m av below meth c Z y co ml rt n0 T ce sl h) {o : Int} (pc' : Nat) (hd : decode co pc = .ok (.ifnull o, 3)) (ho : 0 ≤ (pc : Int) + o) (hp : ((pc : Int) + o).toNat = pc') (H : own_Fin p e below s n0 Q k n T (mkF m pc' Ls (st))) : own_Fin p e below s n0 Q k n T (mkF m pc Ls (.null :: st)) := by
  obtain ⟨⟨hx, hby, -⟩, locs, X, -⟩ := X
  exact own_go (fun _ q => XS.ifnullYes X.here hx rfl rfl (hb hby hd) rfl ho hp q) H
theorem own_ifnullNo (X : own_S p l e R s m av below meth c Z y co ml rt n0 T ce sl h) {o : Int} {b : Addr} (hd : decode co pc = .ok (.ifnull o, 3)) (H : own_Fin p e below s n0 Q k n T (mkF m (pc + 3) Ls (st))) : own_Fin p e below s n0 Q k n T (mkF m pc Ls (.ref b :: st)) := by
  obtain ⟨⟨hx, hby, -⟩, locs, X, -⟩ := X
  exact own_go (fun _ q => XS.ifnullNo X.here hx rfl (hb hby hd) rfl q) H
theorem own_ifnonnullYes (X : own_S p l e R s m av below meth c Z y co ml rt n0 T ce sl h) {o : Int} {b : Addr} (pc' : Nat) (hd : decode co pc = .ok (.ifnonnull o, 3)) (ho : 0 ≤ (pc : Int) + o) (hp : ((pc : Int) + o).toNat = pc') (H : own_Fin p e below s n0 Q k n T (mkF m pc' Ls (st))) : own_Fin p e below s n0 Q k n T (mkF m pc Ls (.ref b :: st)) := by
  obtain ⟨⟨hx, hby, -⟩, locs, X, -⟩ := X
  exact own_go (fun _ q => XS.ifnonnullYes X.here hx rfl rfl (hb hby hd) rfl ho hp q) H
theorem own_ifnonnullNo (X : own_S p l e R s m av below meth c Z y co ml rt n0 T ce sl h) {o : Int} (hd : decode co pc = .ok (.ifnonnull o, 3)) (H : own_Fin p e below s n0 Q k n T (mkF m (pc + 3) Ls (st))) : own_Fin p e below s n0 Q k n T (mkF m pc Ls (.null :: st)) := by
  obtain ⟨⟨hx, hby, -⟩, locs, X, -⟩ := X
  exact own_go (fun _ q => XS.ifnonnullNo X.here hx rfl (hb hby hd) rfl q) H
theorem own_dup2 (X : own_S p l e R s m av below meth c Z y co ml rt n0 T ce sl h) {v w : Value} (hd : decode co pc = .ok (.dup2, 1)) (hv : v.category = 1) (hw : w.category = 1) (H : own_Fin p e below s n0 Q k n T (mkF m (pc + 1) Ls (v :: w :: v :: w :: st))) : own_Fin p e below s n0 Q k n T (mkF m pc Ls (v :: w :: st)) := by
  obtain ⟨⟨hx, hby, -⟩, locs, X, -⟩ := X
  exact own_go (fun _ q => XT.dup2 X.here hx rfl (hb hby hd) rfl hv hw q) H
theorem own_tswOut (X : own_S p l e R s m av below meth c Z y co ml rt n0 T ce sl h) {df lo hi : Int} {offs : Array Int} {len : Nat} {x : Int32} (pc' : Nat) (hd : decode co pc = .ok (.tableswitch df lo hi offs, len)) (hc : x.toInt < lo ∨ x.toInt > hi) (ho : 0 ≤ (pc : Int) + df) (hp : ((pc : Int) + df).toNat = pc') (H : own_Fin p e below s n0 Q k n T (mkF m pc' Ls st)) : own_Fin p e below s n0 Q k n T (mkF m pc Ls (.int x :: st)) := by
  obtain ⟨⟨hx, hby, -⟩, locs, X, -⟩ := X
  exact own_go (fun _ q => XS.tswOut X.here hx rfl rfl (hb hby hd) rfl hc ho hp q) H
theorem own_tswIn (X : own_S p l e R s m av below meth c Z y co ml rt n0 T ce sl h) {df lo hi o : Int} {offs : Array Int} {len : Nat} {x : Int32} (pc' : Nat) (hd : decode co pc = .ok (.tableswitch df lo hi offs, len)) (hc : ¬ (x.toInt < lo ∨ x.toInt > hi)) (hof : offs[(x.toInt - lo).toNat]? = some o) (ho : 0 ≤ (pc : Int) + o) (hp : ((pc : Int) + o).toNat = pc') (H : own_Fin p e below s n0 Q k n T (mkF m pc' Ls st)) : own_Fin p e below s n0 Q k n T (mkF m pc Ls (.int x :: st)) := by
  obtain ⟨⟨hx, hby, -⟩, locs, X, -⟩ := X
  exact own_go (fun _ q => XS.tswIn X.here hx rfl rfl (hb hby hd) rfl hc hof ho hp q) H
theorem own_all_offs {offs : Array Int} {o : Int} {i k : Nat} (h : ∀ j, j < k → offs[j]? = some o) (hi : i < k) : offs[i]? = some o := h i hi
theorem own_iincW (X : own_S p l e R s m av below meth c Z y co ml rt n0 T ce sl h) {i : Nat} {z : Int} {x z' : Int32} {L' : Array Slot} (hd : decode co pc = .ok (.iinc i z, 6)) (hl : Ls[i]? = some (.val (.int x))) (hz : Int32.ofInt z = z') (hl' : storeLocals Ls i (.int (x + z')) = some L') (H : own_Fin p e below s n0 Q k n T (mkF m (pc + 6) L' st)) : own_Fin p e below s n0 Q k n T (mkF m pc Ls st) := by
  subst hz
  obtain ⟨⟨hx, hby, -⟩, locs, X, -⟩ := X
  have hd' := hb hby hd
  refine own_go (fun target q => ?_) H
  jvm_step X.here [X.here.top, hx, hd', hl, hl']
  exact q
theorem own_ldc (X : own_S p l e R s m av below meth c Z y co ml rt n0 T ce sl h) {ix : Nat} {z : Int32} (w : (Jvm.Cond.constant y.cls ix z).before a0 Z = true) (hd : decode co pc = .ok (.ldc ix, 2)) (H : own_Fin p e below s n0 Q k n T (mkF m (pc + 2) Ls (.int z :: st))) : own_Fin p e below s n0 Q k n T (mkF m pc Ls st) := by
  obtain ⟨⟨hx, hby, -, hown, -, -, -, hZ⟩, locs, X, -⟩ := X
  exact own_go (X.ldcInt hx hown (mvT hZ w) (g := mkF m pc Ls st) rfl (hb hby hd)) H
theorem own_ldc2 (X : own_S p l e R s m av below meth c Z y co ml rt n0 T ce sl h) {ix : Nat} {z : Int64} (w : (Jvm.Cond.constantLong y.cls ix z).before a0 Z = true) (hd : decode co pc = .ok (.ldc2_w ix, 3)) (H : own_Fin p e below s n0 Q k n T (mkF m (pc + 3) Ls (.long z :: st))) : own_Fin p e below s n0 Q k n T (mkF m pc Ls st) := by
  obtain ⟨⟨hx, hby, -, hown, -, -, -, hZ⟩, locs, X, -⟩ := X
  exact own_go (X.ldc2Long hx hown (mvT hZ w) (g := mkF m pc Ls st) rfl (hb hby hd)) H
/-- the five returns -/
theorem own_ret (X : own_S p l e R s m av below meth c Z y co ml rt n0 T ce sl h) {t : FieldType} {i : Instr} {w w' : Value} (hrt : rt = some t) (hn : narrow t w' = w') (hst : ∀ {fs : List Frame} {locs : List Loc}, Stand p l e R s m av below meth c T locs ce sl → p.tables.exec = Jvm.exec → meth.sig.returnType = some t → decode c.code pc = .ok (i, 1) →
      (∀ (f : JFrame) (acts : List Action), f.method = m → f.locked = none → f.entered = [] → (doReturn e (T.setTop f) acts (some w')).1 = T.setFrames fs) → Steps p.tables e below (T.setTop (mkF m pc Ls (w :: st))) (T.setFrames fs))
    (hd : decode co pc = .ok (i, 1)) (hk : ce ≤ k) (hk' : sl ≤ n) (q : Q (some w') h) : own_Fin p e below s n0 Q k n T (mkF m pc Ls (w :: st)) := by
  obtain ⟨⟨hx, hby, -, -, -, hret, hlk, hZ⟩, locs, X, N, eh, -⟩ := X
  obtain ⟨fs, hr, hrun, hended, hW, hsame⟩ := X.leave (v := some w') (fun h => by rw [hret, hrt] at h; cases h) hlk
  exact ⟨_, _, hst X hx (by rw [hret, hrt]) (hb hby hd) hr, hrun, hended, _, _, rfl, ⟨N, by rw [show (T.setFrames fs).heap = h from eh]; exact q⟩, ⟨_, rfl⟩, hW, hsame.mono hk hk'⟩
theorem own_retI (X : own_S p l e R s m av below meth c Z y co ml (some .int) n0 T ce sl h) {z : Int32} (hd : decode co pc = .ok (.ireturn, 1)) (hk : ce ≤ k) (hk' : sl ≤ n) (q : Q (some (.int z)) h) : own_Fin p e below s n0 Q k n T (mkF m pc Ls (.int z :: st)) :=
  own_ret X rfl rfl (fun X hx hret hd hl => retOut X hx hret rfl (Or.inl ⟨rfl, Or.inl rfl, z, rfl⟩) hd hl) hd hk hk' q
theorem own_retN {t : FieldType} (X : own_S p l e R s m av below meth c Z y co ml (some t) n0 T ce sl h) {z z' : Int32} (ht : t = .boolean ∨ t = .byte ∨ t = .char ∨ t = .short) (hz : nar t z = z') (hz' : nar t z' = z') (hd : decode co pc = .ok (.ireturn, 1)) (hk : ce ≤ k) (hk' : sl ≤ n) (q : Q (some (.int z')) h) : own_Fin p e below s n0 Q k n T (mkF m pc Ls (.int z :: st)) :=
  own_ret X rfl (by rcases ht with rfl | rfl | rfl | rfl <;> exact congrArg Value.int hz') (fun X hx hret hd hl => retN X hx hret ht hd (by rw [hz]; exact hl)) hd hk hk' q
theorem own_retJ (X : own_S p l e R s m av below meth c Z y co ml (some .long) n0 T ce sl h) {z : Int64} (hd : decode co pc = .ok (.lreturn, 1)) (hk : ce ≤ k) (hk' : sl ≤ n) (q : Q (some (.long z)) h) : own_Fin p e below s n0 Q k n T (mkF m pc Ls (.long z :: st)) :=
  own_ret X rfl rfl (fun X hx hret hd hl => retOut X hx hret rfl (Or.inr (Or.inl ⟨rfl, rfl, z, rfl⟩)) hd hl) hd hk hk' q
theorem own_retR {t : FieldType} (X : own_S p l e R s m av below meth c Z y co ml (some t) n0 T ce sl h) {w : Value} (ht : t.isReference = true) (hw : w.isRef = true) (hd : decode co pc = .ok (.areturn, 1)) (hk : ce ≤ k) (hk' : sl ≤ n) (q : Q (some w) h) : own_Fin p e below s n0 Q k n T (mkF m pc Ls (w :: st)) :=
  have hn : narrow t w = w := by cases t <;> first | (cases ht; done) | rfl
  own_ret X rfl hn (fun X hx hret hd hl => retOut X hx hret hn (Or.inr (Or.inr (Or.inr (Or.inr ⟨rfl, ht, hw⟩)))) hd hl) hd hk hk' q
theorem own_retV (X : own_S p l e R s m av below meth c Z y co ml none n0 T ce sl h) (hd : decode co pc = .ok (.return_, 1)) (hk : ce ≤ k) (hk' : sl ≤ n) (q : Q none h) : own_Fin p e below s n0 Q k n T (mkF m pc Ls []) := by
  obtain ⟨⟨hx, hby, -, -, -, hret, hlk, hZ⟩, locs, X, N, eh, -⟩ := X
  obtain ⟨fs, hr, hrun, hended, hW, hsame⟩ := X.leave (v := none) (fun _ => rfl) hlk
  exact ⟨_, _, X.returnOut hx hret (hb hby hd) hr, hrun, hended, _, _, rfl, ⟨N, by rw [show (T.setFrames fs).heap = h from eh]; exact q⟩, ⟨_, rfl⟩, hW, hsame.mono hk hk'⟩
/-- a static call by its contract -/
theorem own_callS (X : own_S p l e R s m av below meth c Z y co ml rt n0 T ce sl h) {ix : Nat} {y' : MethodName} {co' : ByteArray} {ml' W : Nat} {rt' : Option FieldType} {rm : Room} {Q' : Option Value → Heap → Prop} {argsL rest stk : List Value}
    (w1 : (Jvm.Cond.methodLink y.cls ix y').before a0 Z = true) (w2 : (Jvm.Cond.static y').before a0 Z = true) (w3 : (Jvm.Cond.initialized y'.cls).before a0 Z = true) (w4 : (Jvm.Cond.code y' co' ml' rt').before a0 Z = true) (hy : y'.cls ≠ "java/lang/invoke/MethodHandle" ∧ y'.cls ≠ "java/lang/invoke/VarHandle")
    (M : own_Met l Z y' co' ml' rt' [] rm argsL.toArray h n0 Q') (hf : rm.frames + 1 ≤ R.frames) (hlo : W + (ml' + 11) + rm.locals ≤ R.locals) (hce : ce + rm.cells ≤ R.cells) (hsl : sl + rm.slots ≤ R.slots)
    (hL : Ls.size = ml) (hlen : ∀ sig, parseMethodDescriptor y'.desc = some sig → argsL.length = sig.parameters.length) (hs : stk = argsL.reverse ++ rest) (hW : (rest.map fun v => v.category).sum ≤ W) (hd : decode co pc = .ok (.invokestatic ix, 3))
    (H : ∀ T' h' v, own_S p l e R s m av below meth c Z y co ml rt n0 T' (ce + rm.cells) (sl + rm.slots) h' → Q' v h' → own_Fin p e below s n0 Q k n T' (mkF m (pc + 3) Ls (v.toList ++ rest))) : own_Fin p e below s n0 Q k n T (mkF m pc Ls stk) := by
  obtain ⟨C, locs, X, N, eh, hn⟩ := X
  obtain ⟨hx, hby, hml, hown, -, -, -, hZ⟩ := id C
  obtain ⟨v, _, ⟨T', L', k', n'⟩, -, X', ⟨Lc, ⟨hN, hQ⟩, l1, l2, l3⟩, st'⟩ := Jvm.LawKit.callS X hx (y := y') hown (mvT hZ w1) (mvT hZ w2) (mvT hZ w3) (mvT hZ w4) hy (backOf (Q := fun v h' L => Fr n0 L ∧ Q' v h') (W := W) M hZ w4 w3 hf hlo) (g := mkF m pc Ls stk) rfl (by rw [hml]; exact hL) (argsL := argsL) (rest := rest) hlen hs (by show 2 * 0 + _ ≤ _; omega) (hb hby hd) (fun _ _ => ⟨rfl, eh, hce, hsl⟩)
  dsimp only [Pt.U, Pt.locs, Pt.cells, Pt.slots] at X' l1 l2 l3 st' hQ
  subst l1 l2 l3
  exact own_go st' (H T' T'.heap v ⟨C, _, X', N.app hN, rfl, hn⟩ hQ)
/-- the forms of a contract's promise, and how a call goes on -/
def own_QI (P : Int32 → Heap → Prop) (v : Option Value) (h : Heap) : Prop := ∃ z, v = some (.int z) ∧ P z h
def own_QJ (P : Int64 → Heap → Prop) (v : Option Value) (h : Heap) : Prop := ∃ z, v = some (.long z) ∧ P z h
def own_QR (P : Value → Heap → Prop) (v : Option Value) (h : Heap) : Prop := ∃ z, v = some z ∧ P z h
def own_QV (P : Heap → Prop) (v : Option Value) (h : Heap) : Prop := v = none ∧ P h
theorem own_contI {P : Int32 → Prop} {h0 : Heap} (H : ∀ T' (z : Int32), own_S p l e R s m av below meth c Z y co ml rt n0 T' ce sl h0 → P z → own_Fin p e below s n0 Q k n T' (mkF m pc Ls (.int z :: st))) :
    ∀ T' h' v, own_S p l e R s m av below meth c Z y co ml rt n0 T' ce sl h' → own_QI (fun z h => P z ∧ h = h0) v h' → own_Fin p e below s n0 Q k n T' (mkF m pc Ls (v.toList ++ st)) := by
  rintro T' h' v X ⟨z, rfl, hz, rfl⟩; exact H T' z X hz
theorem own_contJ {P : Int64 → Prop} {h0 : Heap} (H : ∀ T' (z : Int64), own_S p l e R s m av below meth c Z y co ml rt n0 T' ce sl h0 → P z → own_Fin p e below s n0 Q k n T' (mkF m pc Ls (.long z :: st))) :
    ∀ T' h' v, own_S p l e R s m av below meth c Z y co ml rt n0 T' ce sl h' → own_QJ (fun z h => P z ∧ h = h0) v h' → own_Fin p e below s n0 Q k n T' (mkF m pc Ls (v.toList ++ st)) := by
  rintro T' h' v X ⟨z, rfl, hz, rfl⟩; exact H T' z X hz
theorem own_contR {P : Value → Prop} {h0 : Heap} (H : ∀ T' (z : Value), own_S p l e R s m av below meth c Z y co ml rt n0 T' ce sl h0 → P z → own_Fin p e below s n0 Q k n T' (mkF m pc Ls (z :: st))) :
    ∀ T' h' v, own_S p l e R s m av below meth c Z y co ml rt n0 T' ce sl h' → own_QR (fun z h => P z ∧ h = h0) v h' → own_Fin p e below s n0 Q k n T' (mkF m pc Ls (v.toList ++ st)) := by
  rintro T' h' v X ⟨z, rfl, hz, rfl⟩; exact H T' z X hz
theorem own_contIH {P : Int32 → Heap → Prop} (H : ∀ T' h' (z : Int32), own_S p l e R s m av below meth c Z y co ml rt n0 T' ce sl h' → P z h' → own_Fin p e below s n0 Q k n T' (mkF m pc Ls (.int z :: st))) :
    ∀ T' h' v, own_S p l e R s m av below meth c Z y co ml rt n0 T' ce sl h' → own_QI P v h' → own_Fin p e below s n0 Q k n T' (mkF m pc Ls (v.toList ++ st)) := by
  rintro T' h' v X ⟨z, rfl, hz⟩; exact H T' h' z X hz
theorem own_contRH {P : Value → Heap → Prop} (H : ∀ T' h' (z : Value), own_S p l e R s m av below meth c Z y co ml rt n0 T' ce sl h' → P z h' → own_Fin p e below s n0 Q k n T' (mkF m pc Ls (z :: st))) :
    ∀ T' h' v, own_S p l e R s m av below meth c Z y co ml rt n0 T' ce sl h' → own_QR P v h' → own_Fin p e below s n0 Q k n T' (mkF m pc Ls (v.toList ++ st)) := by
  rintro T' h' v X ⟨z, rfl, hz⟩; exact H T' h' z X hz
theorem own_contV {P : Prop} {h0 : Heap} (H : ∀ T', own_S p l e R s m av below meth c Z y co ml rt n0 T' ce sl h0 → P → own_Fin p e below s n0 Q k n T' (mkF m pc Ls st)) :
    ∀ T' h' v, own_S p l e R s m av below meth c Z y co ml rt n0 T' ce sl h' → own_QV (fun h => P ∧ h = h0) v h' → own_Fin p e below s n0 Q k n T' (mkF m pc Ls (v.toList ++ st)) := by
  rintro T' h' v X ⟨rfl, hz, rfl⟩; exact H T' X hz
theorem own_contVH {P : Heap → Prop} (H : ∀ T' h', own_S p l e R s m av below meth c Z y co ml rt n0 T' ce sl h' → P h' → own_Fin p e below s n0 Q k n T' (mkF m pc Ls st)) :
    ∀ T' h' v, own_S p l e R s m av below meth c Z y co ml rt n0 T' ce sl h' → own_QV P v h' → own_Fin p e below s n0 Q k n T' (mkF m pc Ls (v.toList ++ st)) := by
  rintro T' h' v X ⟨rfl, hz⟩; exact H T' h' X hz
/-- fields, new, Object.<init>, the other calls -/
theorem own_getF (X : own_S p l e R s m av below meth c Z y co ml rt n0 T ce sl h) {R0 O nm d host : String} {ix : Nat} {a : Addr} {v : Value} (w : (Jvm.Cond.fieldLink y.cls ix R0 nm d).before a0 Z = true ∨ (Jvm.Cond.fieldLinkNest y.cls ix R0 nm d host).before a0 Z = true) (via : Via Z R0 O nm d) (F : Fld Z h a O nm d v) (hd : decode co pc = .ok (.getfield ix, 3))
    (H : ∀ T', own_S p l e R s m av below meth c Z y co ml rt n0 T' ce sl h → own_Fin p e below s n0 Q k n T' (mkF m (pc + 3) Ls (v :: st))) : own_Fin p e below s n0 Q k n T (mkF m pc Ls (.ref a :: st)) := by
  obtain ⟨C, locs, X, N, eh, hn⟩ := X
  obtain ⟨hx, hby, hml, hown, -, -, -, hZ⟩ := id C
  obtain ⟨T', X', e', st'⟩ := getF X hx hZ hown w via eh F (g := mkF m pc Ls (.ref a :: st)) rfl rfl (hb hby hd)
  exact own_go st' (H T' ⟨C, _, X', N, e', hn⟩)
theorem own_putF (X : own_S p l e R s m av below meth c Z y co ml rt n0 T ce sl h) {R0 O nm d host K : String} {ix kk : Nat} {ty : FieldType} {a : Addr} {v old : Value} (w : (Jvm.Cond.fieldLink y.cls ix R0 nm d).before a0 Z = true ∨ (Jvm.Cond.fieldLinkNest y.cls ix R0 nm d host).before a0 Z = true) (via : Via Z R0 O nm d) (F : Fld Z h a O nm d old) (E : Exa Z h a K)
    (Lw : (Jvm.Cond.lays K O nm d).before a0 Z = true ∨ ((Jvm.Cond.laysFinal K O nm d).before a0 Z = true ∧ y.cls = O ∧ y.name = "<init>")) (wi : (Jvm.Cond.instantiable K kk).before a0 Z = true) (hty : parseFieldDescriptor d = some ty) (hnw : narrow ty v = v) (hft : fits ty v = true) (ge : n0 ≤ a) (hd : decode co pc = .ok (.putfield ix, 3))
    (H : ∀ T' h', own_S p l e R s m av below meth c Z y co ml rt n0 T' ce sl h' → Wr h h' a (Jvm.RoadKit.slotOf Z O nm d) v → own_Fin p e below s n0 Q k n T' (mkF m (pc + 3) Ls st)) : own_Fin p e below s n0 Q k n T (mkF m pc Ls (v :: .ref a :: st)) := by
  obtain ⟨C, locs, X, N, eh, hn⟩ := X
  obtain ⟨hx, hby, hml, hown, hnm, -, -, hZ⟩ := id C
  obtain ⟨T', h', X', e', W, st'⟩ := putF X hx hZ hown w via eh F E (Lw.imp id fun q => ⟨q.1, q.2.1, hnm.trans q.2.2⟩) wi hty hnw hft (g := mkF m pc Ls (v :: .ref a :: st)) rfl rfl (hb hby hd)
  exact own_go st' (H T' h' ⟨C, _, X', Fr.snoc X' N ge, e', hn⟩ W)
theorem own_putFZ (X : own_S p l e R s m av below meth c Z y co ml rt n0 T ce sl h) {R0 O nm d K : String} {ix kk : Nat} {ty : FieldType} {a : Addr} {v v' old : Value} (w : (Jvm.Cond.fieldLink y.cls ix R0 nm d).before a0 Z = true) (via : Via Z R0 O nm d) (F : Fld Z h a O nm d old) (E : Exa Z h a K)
    (Lw : (Jvm.Cond.lays K O nm d).before a0 Z = true ∨ ((Jvm.Cond.laysFinal K O nm d).before a0 Z = true ∧ y.cls = O ∧ y.name = "<init>")) (wi : (Jvm.Cond.instantiable K kk).before a0 Z = true) (hty : parseFieldDescriptor d = some ty) (hnw : narrow ty v = v') (hft : fits ty v' = true) (ge : n0 ≤ a) (hd : decode co pc = .ok (.putfield ix, 3))
    (H : ∀ T' h', own_S p l e R s m av below meth c Z y co ml rt n0 T' ce sl h' → Wr h h' a (Jvm.RoadKit.slotOf Z O nm d) v' → own_Fin p e below s n0 Q k n T' (mkF m (pc + 3) Ls st)) : own_Fin p e below s n0 Q k n T (mkF m pc Ls (v :: .ref a :: st)) := by
  obtain ⟨C, locs, X, N, eh, hn⟩ := X
  obtain ⟨hx, hby, hml, hown, hnm, -, -, hZ⟩ := id C
  obtain ⟨T', h', X', e', W, st'⟩ := putFN X hx hZ hown w via eh F E (Lw.imp id fun q => ⟨q.1, q.2.1, hnm.trans q.2.2⟩) wi hty hnw hft (g := mkF m pc Ls (v :: .ref a :: st)) rfl rfl (hb hby hd)
  exact own_go st' (H T' h' ⟨C, _, X', Fr.snoc X' N ge, e', hn⟩ W)
theorem own_newO (X : own_S p l e R s m av below meth c Z y co ml rt n0 T ce sl h) {K : String} {ix nn : Nat} (w : (Jvm.Cond.classLink y.cls ix K).before a0 Z = true) (wi : (Jvm.Cond.instantiable K nn).before a0 Z = true) (wz : (Jvm.Cond.initialized K).before a0 Z = true) (hd : decode co pc = .ok (.new ix, 3)) (hc : ce + 1 ≤ R.cells) (hs : sl + nn ≤ R.slots)
    (H : ∀ T' h' (b : Addr), b = h.size → n0 ≤ b → own_S p l e R s m av below meth c Z y co ml rt n0 T' (ce + 1) (sl + nn) h' → Ext h h' → Exa Z h' b K → (∀ {O nm d : String} {ty : FieldType}, Laid Z a0 K O nm d → parseFieldDescriptor d = some ty → Fld Z h' b O nm d (defaultValue ty)) → own_Fin p e below s n0 Q k n T' (mkF m (pc + 3) Ls (.ref b :: st))) : own_Fin p e below s n0 Q k n T (mkF m pc Ls st) := by
  have hz := own_size X
  obtain ⟨C, locs, X, N, eh, hn⟩ := X
  obtain ⟨hx, hby, hml, hown, hnm, -, -, hZ⟩ := id C
  obtain ⟨T', h', X', e', E, A, D, -, st'⟩ := newO X hx hZ hown w wi wz eh (g := mkF m pc Ls st) rfl (hb hby hd) hc hs
  exact own_go st' (H T' h' _ rfl hz ⟨C, _, X', N, e', hn⟩ E A D)
theorem own_initO (X : own_S p l e R s m av below meth c Z y co ml rt n0 T ce sl h) {ix W : Nat} {a : Addr} (w1 : (Jvm.Cond.methodLink y.cls ix Lib.objectInit).before a0 Z = true) (w2 : (Jvm.Cond.instanceMethod Lib.objectInit).before a0 Z = true) (w3 : (Jvm.Cond.code Lib.objectInit object_method_1_code 1 none).before a0 Z = true) (hL : Ls.size = ml) (hd : decode co pc = .ok (.invokespecial ix, 3)) (hf : 1 ≤ R.frames) (hW : (st.map fun v => v.category).sum ≤ W) (hl : W + 12 ≤ R.locals)
    (H : ∀ T', own_S p l e R s m av below meth c Z y co ml rt n0 T' ce sl h → own_Fin p e below s n0 Q k n T' (mkF m (pc + 3) Ls st)) : own_Fin p e below s n0 Q k n T (mkF m pc Ls (.ref a :: st)) := by
  obtain ⟨C, locs, X, N, eh, hn⟩ := X
  obtain ⟨hx, hby, hml, hown, -, -, -, hZ⟩ := id C
  obtain ⟨T', X', e', st'⟩ := initO X hx hZ hown w1 w2 w3 eh (g := mkF m pc Ls (.ref a :: st)) rfl (by rw [hml]; exact hL) rfl (hb hby hd) hf (W := W) (by show 2 * 0 + _ ≤ _; omega) hl
  exact own_go st' (H T' ⟨C, _, X', N, e', hn⟩)
/-- a constructor by its contract -/
theorem own_callI (X : own_S p l e R s m av below meth c Z y co ml rt n0 T ce sl h) {ix : Nat} {y' : MethodName} {co' : ByteArray} {ml' W : Nat} {rm : Room} {Q' : Option Value → Heap → Prop} {a : Addr} {argsL rest stk : List Value} (hi : y'.name = "<init>")
    (w1 : (Jvm.Cond.methodLink y.cls ix y').before a0 Z = true) (w2 : (Jvm.Cond.instanceMethod y').before a0 Z = true) (w3 : (Jvm.Cond.initialized y'.cls).before a0 Z = true) (w4 : (Jvm.Cond.code y' co' ml' none).before a0 Z = true) (hy : y'.cls ≠ "java/lang/invoke/MethodHandle" ∧ y'.cls ≠ "java/lang/invoke/VarHandle")
    (M : own_Met l Z y' co' ml' none [] rm (.ref a :: argsL).toArray h n0 Q') (hf : rm.frames + 1 ≤ R.frames) (hlo : W + (ml' + 11) + rm.locals ≤ R.locals) (hce : ce + rm.cells ≤ R.cells) (hsl : sl + rm.slots ≤ R.slots)
    (hL : Ls.size = ml) (hlen : ∀ sig, parseMethodDescriptor y'.desc = some sig → argsL.length = sig.parameters.length) (hs : stk = argsL.reverse ++ .ref a :: rest) (hW : (rest.map fun v => v.category).sum ≤ W) (hd : decode co pc = .ok (.invokespecial ix, 3))
    (H : ∀ T' h' v, own_S p l e R s m av below meth c Z y co ml rt n0 T' (ce + rm.cells) (sl + rm.slots) h' → Q' v h' → own_Fin p e below s n0 Q k n T' (mkF m (pc + 3) Ls (v.toList ++ rest))) : own_Fin p e below s n0 Q k n T (mkF m pc Ls stk) := by
  obtain ⟨C, locs, X, N, eh, hn⟩ := X
  obtain ⟨hx, hby, hml, hown, -, -, -, hZ⟩ := id C
  obtain ⟨v, _, ⟨T', L', k', n'⟩, -, X', ⟨Lc, ⟨hN, hQ⟩, l1, l2, l3⟩, st'⟩ := X.specialBack hx (y := y') hi hown (mvT hZ w1) (mvT hZ w2) (mvT hZ w4) hy (backOf (Q := fun v h' L => Fr n0 L ∧ Q' v h') (W := W) M hZ w4 w3 hf hlo) (g := mkF m pc Ls stk) rfl (by rw [hml]; exact hL) (Steps.refl _) (a := a) (argsL := argsL) (rest := rest) hlen hs (by show 2 * 0 + _ ≤ _; omega) (hb hby hd) (fun _ _ => ⟨rfl, eh, hce, hsl⟩)
  dsimp only [Pt.U, Pt.locs, Pt.cells, Pt.slots] at X' l1 l2 l3 st' hQ
  subst l1 l2 l3
  exact own_goT st' (H T' T'.heap v ⟨C, _, X', N.app hN, rfl, hn⟩ hQ)
/-- an instance method by its contract -/
theorem own_callV (X : own_S p l e R s m av below meth c Z y co ml rt n0 T ce sl h) {ix : Nat} {K : String} {y' : MethodName} {co' : ByteArray} {ml' W : Nat} {rt' : Option FieldType} {rm : Room} {Q' : Option Value → Heap → Prop} {a : Addr} {argsL rest stk : List Value}
    (w1 : (Jvm.Cond.methodLink y.cls ix y').before a0 Z = true) (w2 : (Jvm.Cond.declares y').before a0 Z = true) (w3 : (Jvm.Cond.selects K y' y').before a0 Z = true) (w5 : (Jvm.Cond.instanceMethod y').before a0 Z = true) (w6 : (Jvm.Cond.initialized y'.cls).before a0 Z = true) (w4 : (Jvm.Cond.code y' co' ml' rt').before a0 Z = true) (hK : K = y'.cls) (hy : y'.cls ≠ "java/lang/invoke/MethodHandle" ∧ y'.cls ≠ "java/lang/invoke/VarHandle")
    (M : own_Met l Z y' co' ml' rt' [] rm (.ref a :: argsL).toArray h n0 Q') (E : Exa Z h a K) (hf : rm.frames + 1 ≤ R.frames) (hlo : W + (ml' + 11) + rm.locals ≤ R.locals) (hce : ce + rm.cells ≤ R.cells) (hsl : sl + rm.slots ≤ R.slots)
    (hL : Ls.size = ml) (hlen : ∀ sig, parseMethodDescriptor y'.desc = some sig → argsL.length = sig.parameters.length) (hs : stk = argsL.reverse ++ .ref a :: rest) (hW : (rest.map fun v => v.category).sum ≤ W) (hd : decode co pc = .ok (.invokevirtual ix, 3))
    (H : ∀ T' h' v, own_S p l e R s m av below meth c Z y co ml rt n0 T' (ce + rm.cells) (sl + rm.slots) h' → Q' v h' → own_Fin p e below s n0 Q k n T' (mkF m (pc + 3) Ls (v.toList ++ rest))) : own_Fin p e below s n0 Q k n T (mkF m pc Ls stk) := by
  subst hK
  obtain ⟨C, locs, X, N, eh, hn⟩ := X
  obtain ⟨hx, hby, hml, hown, -, -, -, hZ⟩ := id C
  obtain ⟨cq, kq, qa, qb, qc⟩ := isOf (T := T) hZ eh E
  obtain ⟨v, _, ⟨T', L', k', n'⟩, -, X', ⟨Lc, ⟨hN, hQ⟩, l1, l2, l3⟩, st'⟩ := X.virtualBack hx (y := y') (z := y') hown (mvT hZ w1) (mvT hZ w2) (notFace_of_selects (args := #[]) (mvT hZ w3)) (mvT hZ w3) (mvT hZ w5) hy (backOf (Q := fun v h' L => Fr n0 L ∧ Q' v h') (W := W) M hZ w4 w6 hf hlo) qa qc (g := mkF m pc Ls stk) rfl (by rw [hml]; exact hL) (Steps.refl _) (argsL := argsL) (rest := rest) hlen hs (by show 2 * 0 + _ ≤ _; omega) (hb hby hd) (fun _ _ => ⟨rfl, eh, hce, hsl⟩)
  dsimp only [Pt.U, Pt.locs, Pt.cells, Pt.slots] at X' l1 l2 l3 st' hQ
  subst l1 l2 l3
  exact own_goT st' (H T' T'.heap v ⟨C, _, X', N.app hN, rfl, hn⟩ hQ)
/-- an array of ints (bytes, chars ..) of N places: place j holds f j -/
def own_AI (Z : State) (h : Heap) (a : Addr) (ty : FieldType) (N : Int32) (f : Int32 → Int32) : Prop := ∃ c : Cell, Arr Z h a c ty ∧ c.slots.size = N.toNatClampNeg ∧ ¬ N < 0 ∧ ∀ j : Int32, ¬ j < 0 → j < N → c.slots[j.toNatClampNeg]? = some (.int (f j)) ∧ fits ty (.int (f j)) = true
def own_AJ (Z : State) (h : Heap) (a : Addr) (N : Int32) (f : Int32 → Int64) : Prop := ∃ c : Cell, Arr Z h a c .long ∧ c.slots.size = N.toNatClampNeg ∧ ¬ N < 0 ∧ ∀ j : Int32, ¬ j < 0 → j < N → c.slots[j.toNatClampNeg]? = some (.long (f j))
def own_upd {α : Type} (f : Int32 → α) (j : Int32) (x : α) : Int32 → α := fun q => if q = j then x else f q
theorem own_upd_hit {α : Type} (f : Int32 → α) (j : Int32) (x : α) : own_upd f j x j = x := if_pos rfl
theorem own_upd_miss {α : Type} {f : Int32 → α} {j i : Int32} {x : α} (q : ¬ i = j) : own_upd f j x i = f i := if_neg q
theorem own_upd_yes {α : Type} {f : Int32 → α} {j i : Int32} {x : α} (q : i = j) : own_upd f j x i = x := if_pos q
theorem own_nat {i j : Int32} (hi : ¬ i < 0) (hj : ¬ j < 0) (ne : ¬ i = j) : i.toNatClampNeg ≠ j.toNatClampNeg := fun q => ne (Int32.toInt_inj.mp (by rw [nat_of hi, nat_of hj, q]))
theorem own_inb {cl : Cell} {j N : Int32} (S : cl.slots.size = N.toNatClampNeg) (h0 : ¬ j < 0) (h1 : j < N) : ¬ (j < 0 ∨ cl.slots.size ≤ j.toNatClampNeg) := inb_of S ⟨h0, h1⟩
section Facts
variable {h' : Heap} {a b : Addr} {ty : FieldType} {N : Int32} {f : Int32 → Int32} {g : Int32 → Int64} {i : Nat} {v : Value} {ws : List Addr}
theorem own_AI.lt (F : own_AI Z h a ty N f) : a < h.size := by obtain ⟨c, A, -⟩ := F; exact A.lt
theorem own_AI.ext (F : own_AI Z h a ty N f) (E : Ext h h') : own_AI Z h' a ty N f := by obtain ⟨c, A, r⟩ := F; exact ⟨c, A.ext E, r⟩
theorem own_AI.other (F : own_AI Z h b ty N f) (W : Wr h h' a i v) (q : b ≠ a) : own_AI Z h' b ty N f := by obtain ⟨c, A, r⟩ := F; exact ⟨c, A.other W q, r⟩
theorem own_AI.keep (F : own_AI Z h a ty N f) (K : Keep h h' ws) (q : a ∉ ws) : own_AI Z h' a ty N f := by obtain ⟨c, A, r⟩ := F; exact ⟨c, ⟨K.2.1 a c A.1 q, A.2⟩, r⟩
theorem own_AI.nn (F : own_AI Z h a ty N f) : ¬ N < 0 := by obtain ⟨c, -, -, r, -⟩ := F; exact r
theorem own_AI.fit (F : own_AI Z h a ty N f) {j : Int32} (h0 : ¬ j < 0) (h1 : j < N) : fits ty (.int (f j)) = true := by obtain ⟨c, -, -, -, r⟩ := F; exact (r j h0 h1).2
theorem own_AI.set (F : own_AI Z h a ty N f) {j x : Int32} (h0 : ¬ j < 0) (h1 : j < N) (W : Wr h h' a j.toNatClampNeg (.int x)) (hf : fits ty (.int x) = true) : own_AI Z h' a ty N (own_upd f j x) := by
  obtain ⟨c, A, S, hN, r⟩ := F
  refine ⟨_, A.same W, (sz_set _ _ _).trans S, hN, fun q q0 q1 => ?_⟩
  by_cases e : q = j
  · subst e; rw [own_upd_hit]; exact ⟨get_hit (own_inb S h0 h1) rfl, hf⟩
  · rw [own_upd_miss e, get_miss h0 q0 e]; exact r q q0 q1
theorem own_AI.eqv (F : own_AI Z h a ty N f) {f' : Int32 → Int32} (q : ∀ j : Int32, ¬ j < 0 → j < N → f j = f' j) : own_AI Z h a ty N f' := by
  obtain ⟨c, A, S, hN, r⟩ := F
  exact ⟨c, A, S, hN, fun j h0 h1 => by rw [← q j h0 h1]; exact r j h0 h1⟩
theorem own_AJ.lt (F : own_AJ Z h a N g) : a < h.size := by obtain ⟨c, A, -⟩ := F; exact A.lt
theorem own_AJ.ext (F : own_AJ Z h a N g) (E : Ext h h') : own_AJ Z h' a N g := by obtain ⟨c, A, r⟩ := F; exact ⟨c, A.ext E, r⟩
theorem own_AJ.other (F : own_AJ Z h b N g) (W : Wr h h' a i v) (q : b ≠ a) : own_AJ Z h' b N g := by obtain ⟨c, A, r⟩ := F; exact ⟨c, A.other W q, r⟩
theorem own_AJ.keep (F : own_AJ Z h a N g) (K : Keep h h' ws) (q : a ∉ ws) : own_AJ Z h' a N g := by obtain ⟨c, A, r⟩ := F; exact ⟨c, ⟨K.2.1 a c A.1 q, A.2⟩, r⟩
theorem own_AJ.set (F : own_AJ Z h a N g) {j : Int32} {x : Int64} (h0 : ¬ j < 0) (h1 : j < N) (W : Wr h h' a j.toNatClampNeg (.long x)) : own_AJ Z h' a N (own_upd g j x) := by
  obtain ⟨c, A, S, hN, r⟩ := F
  refine ⟨_, A.same W, (sz_set _ _ _).trans S, hN, fun q q0 q1 => ?_⟩
  by_cases e : q = j
  · subst e; rw [own_upd_hit]; exact get_hit (own_inb S h0 h1) rfl
  · rw [own_upd_miss e, get_miss h0 q0 e]; exact r q q0 q1
theorem own_ne_ai {K : String} {kk : Nat} (E : Exa Z h a K) (wi : (Jvm.Cond.instantiable K kk).before a0 Z = true) (F : own_AI Z h b ty N f) : a ≠ b := by obtain ⟨c, A, -⟩ := F; exact ne_arr E wi A
theorem own_ne_aj {K : String} {kk : Nat} (E : Exa Z h a K) (wi : (Jvm.Cond.instantiable K kk).before a0 Z = true) (F : own_AJ Z h b N g) : a ≠ b := by obtain ⟨c, A, -⟩ := F; exact ne_arr E wi A
end Facts
theorem own_byteR {z : Int32} (hf : fits .byte (.int z) = true) : -128 ≤ z.toInt ∧ z.toInt < 128 := by
  simp only [fits, Bool.and_eq_true, decide_eq_true_eq, Int32.le_iff_toInt_le, show (-128 : Int32).toInt = -128 from by decide, show (127 : Int32).toInt = 127 from by decide] at hf
  omega
theorem own_alen (X : own_S p l e R s m av below meth c Z y co ml rt n0 T ce sl h) {a : Addr} {ty : FieldType} {N : Int32} {f : Int32 → Int32} (A : own_AI Z h a ty N f) (hd : decode co pc = .ok (.arraylength, 1)) (H : own_Fin p e below s n0 Q k n T (mkF m (pc + 1) Ls (.int N :: st))) : own_Fin p e below s n0 Q k n T (mkF m pc Ls (.ref a :: st)) := by
  obtain ⟨⟨hx, hby, -, -, -, -, -, hZ⟩, locs, X, -, eh, -⟩ := X
  obtain ⟨cl, A, S, hN, -⟩ := A
  refine own_go (fun _ q => X.arraylength hx (by rw [eh]; exact A.1) (State.isArrayOf_alike hZ.alike A.2.1) (g := mkF m pc Ls (.ref a :: st)) rfl rfl (hb hby hd) _ ?_) H
  rw [len_of S hN]; exact q
theorem own_alenJ (X : own_S p l e R s m av below meth c Z y co ml rt n0 T ce sl h) {a : Addr} {N : Int32} {f : Int32 → Int64} (A : own_AJ Z h a N f) (hd : decode co pc = .ok (.arraylength, 1)) (H : own_Fin p e below s n0 Q k n T (mkF m (pc + 1) Ls (.int N :: st))) : own_Fin p e below s n0 Q k n T (mkF m pc Ls (.ref a :: st)) := by
  obtain ⟨⟨hx, hby, -, -, -, -, -, hZ⟩, locs, X, -, eh, -⟩ := X
  obtain ⟨cl, A, S, hN, -⟩ := A
  refine own_go (fun _ q => X.arraylength hx (by rw [eh]; exact A.1) (State.isArrayOf_alike hZ.alike A.2.1) (g := mkF m pc Ls (.ref a :: st)) rfl rfl (hb hby hd) _ ?_) H
  rw [len_of S hN]; exact q
theorem own_iaload (X : own_S p l e R s m av below meth c Z y co ml rt n0 T ce sl h) {a : Addr} {N j : Int32} {f : Int32 → Int32} (A : own_AI Z h a .int N f) (h0 : ¬ j < 0) (h1 : j < N) (hd : decode co pc = .ok (.iaload, 1)) (H : ∀ v, f j = v → -2147483648 ≤ v.toInt → v.toInt < 2147483648 → own_Fin p e below s n0 Q k n T (mkF m (pc + 1) Ls (.int v :: st))) : own_Fin p e below s n0 Q k n T (mkF m pc Ls (.int j :: .ref a :: st)) := by
  obtain ⟨⟨hx, hby, -, -, -, -, -, hZ⟩, locs, X, -, eh, -⟩ := X
  obtain ⟨cl, A, S, hN, r⟩ := A
  exact own_go (fun _ q => X.iaload hx (by rw [eh]; exact A.1) (State.isArrayOf_alike hZ.alike A.2.1) A.2.2 (own_inb S h0 h1) (r j h0 h1).1 (g := mkF m pc Ls (.int j :: .ref a :: st)) rfl rfl (hb hby hd) _ q) (H _ rfl (rng32 _).1 (rng32 _).2)
theorem own_baload (X : own_S p l e R s m av below meth c Z y co ml rt n0 T ce sl h) {a : Addr} {N j : Int32} {f : Int32 → Int32} (A : own_AI Z h a .byte N f) (h0 : ¬ j < 0) (h1 : j < N) (hd : decode co pc = .ok (.baload, 1)) (H : ∀ v, f j = v → -128 ≤ v.toInt → v.toInt < 128 → own_Fin p e below s n0 Q k n T (mkF m (pc + 1) Ls (.int v :: st))) : own_Fin p e below s n0 Q k n T (mkF m pc Ls (.int j :: .ref a :: st)) := by
  obtain ⟨⟨hx, hby, -, -, -, -, -, hZ⟩, locs, X, -, eh, -⟩ := X
  obtain ⟨cl, A, S, hN, r⟩ := A
  exact own_go (fun _ q => X.baloadBytes hx (by rw [eh]; exact A.1) (State.isArrayOf_alike hZ.alike A.2.1) A.2.2 (own_inb S h0 h1) (r j h0 h1).1 (g := mkF m pc Ls (.int j :: .ref a :: st)) rfl rfl (hb hby hd) _ q) (H _ rfl (own_byteR (r j h0 h1).2).1 (own_byteR (r j h0 h1).2).2)
theorem own_laload (X : own_S p l e R s m av below meth c Z y co ml rt n0 T ce sl h) {a : Addr} {N j : Int32} {f : Int32 → Int64} (A : own_AJ Z h a N f) (h0 : ¬ j < 0) (h1 : j < N) (hd : decode co pc = .ok (.laload, 1)) (H : ∀ v, f j = v → -9223372036854775808 ≤ v.toInt → v.toInt < 9223372036854775808 → own_Fin p e below s n0 Q k n T (mkF m (pc + 1) Ls (.long v :: st))) : own_Fin p e below s n0 Q k n T (mkF m pc Ls (.int j :: .ref a :: st)) := by
  obtain ⟨⟨hx, hby, -, -, -, -, -, hZ⟩, locs, X, -, eh, -⟩ := X
  obtain ⟨cl, A, S, hN, r⟩ := A
  exact own_go (fun _ q => X.laload hx (by rw [eh]; exact A.1) (State.isArrayOf_alike hZ.alike A.2.1) A.2.2 (own_inb S h0 h1) (r j h0 h1) (g := mkF m pc Ls (.int j :: .ref a :: st)) rfl rfl (hb hby hd) _ q) (H _ rfl (rng64 _).1 (rng64 _).2)
theorem own_bastore (X : own_S p l e R s m av below meth c Z y co ml rt n0 T ce sl h) {a : Addr} {N j x x' : Int32} {f : Int32 → Int32} (A : own_AI Z h a .byte N f) (h0 : ¬ j < 0) (h1 : j < N) (ge : n0 ≤ a) (hx' : x.toInt8.toInt32 = x') (hd : decode co pc = .ok (.bastore, 1))
    (H : ∀ T' h', own_S p l e R s m av below meth c Z y co ml rt n0 T' ce sl h' → ∀ f', f' = own_upd f j x' → own_AI Z h' a .byte N f' → Wr h h' a j.toNatClampNeg (.int x') → own_Fin p e below s n0 Q k n T' (mkF m (pc + 1) Ls st)) : own_Fin p e below s n0 Q k n T (mkF m pc Ls (.int x :: .int j :: .ref a :: st)) := by
  obtain ⟨C, locs, X, N', eh, hn⟩ := X
  obtain ⟨hx, hby, hml, hown, -, -, -, hZ⟩ := id C
  obtain ⟨cl, A', S, hN, r⟩ := id A
  obtain ⟨T', h', X', e', W, st'⟩ := stB X hx hZ eh A' (j := j) (own_inb S h0 h1) (g := mkF m pc Ls (.int x :: .int j :: .ref a :: st)) rfl rfl (hb hby hd)
  have W' : Wr h h' a j.toNatClampNeg (.int x') := by rw [← hx']; exact W
  exact own_go st' (H T' h' ⟨C, _, X', Fr.snoc X' N' ge, e', hn⟩ _ rfl (A.set h0 h1 W' (by rw [← hx']; exact fits_nar_byte x)) W')
theorem own_iastore (X : own_S p l e R s m av below meth c Z y co ml rt n0 T ce sl h) {a : Addr} {N j x : Int32} {f : Int32 → Int32} (A : own_AI Z h a .int N f) (h0 : ¬ j < 0) (h1 : j < N) (ge : n0 ≤ a) (hd : decode co pc = .ok (.iastore, 1))
    (H : ∀ T' h', own_S p l e R s m av below meth c Z y co ml rt n0 T' ce sl h' → ∀ f', f' = own_upd f j x → own_AI Z h' a .int N f' → Wr h h' a j.toNatClampNeg (.int x) → own_Fin p e below s n0 Q k n T' (mkF m (pc + 1) Ls st)) : own_Fin p e below s n0 Q k n T (mkF m pc Ls (.int x :: .int j :: .ref a :: st)) := by
  obtain ⟨C, locs, X, N', eh, hn⟩ := X
  obtain ⟨hx, hby, hml, hown, -, -, -, hZ⟩ := id C
  obtain ⟨cl, A', S, hN, r⟩ := id A
  obtain ⟨T', h', X', e', W, st'⟩ := stI X hx hZ eh A' (j := j) (own_inb S h0 h1) (g := mkF m pc Ls (.int x :: .int j :: .ref a :: st)) rfl rfl (hb hby hd)
  exact own_go st' (H T' h' ⟨C, _, X', Fr.snoc X' N' ge, e', hn⟩ _ rfl (A.set h0 h1 W rfl) W)
theorem own_lastore (X : own_S p l e R s m av below meth c Z y co ml rt n0 T ce sl h) {a : Addr} {N j : Int32} {x : Int64} {f : Int32 → Int64} (A : own_AJ Z h a N f) (h0 : ¬ j < 0) (h1 : j < N) (ge : n0 ≤ a) (hd : decode co pc = .ok (.lastore, 1))
    (H : ∀ T' h', own_S p l e R s m av below meth c Z y co ml rt n0 T' ce sl h' → ∀ f', f' = own_upd f j x → own_AJ Z h' a N f' → Wr h h' a j.toNatClampNeg (.long x) → own_Fin p e below s n0 Q k n T' (mkF m (pc + 1) Ls st)) : own_Fin p e below s n0 Q k n T (mkF m pc Ls (.long x :: .int j :: .ref a :: st)) := by
  obtain ⟨C, locs, X, N', eh, hn⟩ := X
  obtain ⟨hx, hby, hml, hown, -, -, -, hZ⟩ := id C
  obtain ⟨cl, A', S, hN, r⟩ := id A
  obtain ⟨T', h', X', e', W, st'⟩ := stJ X hx hZ eh A' (j := j) (own_inb S h0 h1) (g := mkF m pc Ls (.long x :: .int j :: .ref a :: st)) rfl rfl (hb hby hd)
  exact own_go st' (H T' h' ⟨C, _, X', Fr.snoc X' N' ge, e', hn⟩ _ rfl (A.set h0 h1 W) W)
theorem own_newP (X : own_S p l e R s m av below meth c Z y co ml rt n0 T ce sl h) {aty : ArrayType} {N : Int32} {cap : Nat} (w : (Jvm.Cond.arrayClass (newarray.typeOf aty)).before a0 Z = true) (hty : defaultValue (newarray.typeOf aty) = .int 0 ∧ fits (newarray.typeOf aty) (.int 0) = true) (hN : ¬ N < 0) (hcap : N.toNatClampNeg ≤ cap) (hb' : cap * 8 ≤ 536870912) (hc : ce + 1 ≤ R.cells) (hs : sl + cap ≤ R.slots) (hd : decode co pc = .ok (.newarray aty, 2))
    (H : ∀ T' h' (b : Addr), b = h.size → n0 ≤ b → own_S p l e R s m av below meth c Z y co ml rt n0 T' (ce + 1) (sl + cap) h' → Ext h h' → ∀ f' : Int32 → Int32, f' = (fun _ => 0) → own_AI Z h' b (newarray.typeOf aty) N f' → own_Fin p e below s n0 Q k n T' (mkF m (pc + 2) Ls (.ref b :: st))) : own_Fin p e below s n0 Q k n T (mkF m pc Ls (.int N :: st)) := by
  have hz := own_size X
  obtain ⟨C, locs, X, N', eh, hn⟩ := X
  obtain ⟨hx, hby, hml, hown, hnm, -, -, hZ⟩ := id C
  obtain ⟨T', h', cA, X', e', E, A, st'⟩ := newP X hx hZ w eh (g := mkF m pc Ls (.int N :: st)) rfl (hb hby hd) rfl hN hcap hb' hc hs
  refine own_go st' (H T' h' _ rfl hz ⟨C, _, X', N', e', hn⟩ E _ rfl ⟨_, A, sz_new _ _ _, hN, fun j h0 h1 => ⟨?_, hty.2⟩⟩)
  rw [get_new (fun q => own_inb (sz_new cA (newarray.typeOf aty) N) h0 h1 (q.imp id fun r => by rw [sz_new]; exact r)), hty.1]
theorem own_newJ (X : own_S p l e R s m av below meth c Z y co ml rt n0 T ce sl h) {N : Int32} {cap : Nat} (w : (Jvm.Cond.arrayClass .long).before a0 Z = true) (hN : ¬ N < 0) (hcap : N.toNatClampNeg ≤ cap) (hb' : cap * 8 ≤ 536870912) (hc : ce + 1 ≤ R.cells) (hs : sl + cap ≤ R.slots) (hd : decode co pc = .ok (.newarray .long, 2))
    (H : ∀ T' h' (b : Addr), b = h.size → n0 ≤ b → own_S p l e R s m av below meth c Z y co ml rt n0 T' (ce + 1) (sl + cap) h' → Ext h h' → ∀ f' : Int32 → Int64, f' = (fun _ => 0) → own_AJ Z h' b N f' → own_Fin p e below s n0 Q k n T' (mkF m (pc + 2) Ls (.ref b :: st))) : own_Fin p e below s n0 Q k n T (mkF m pc Ls (.int N :: st)) := by
  have hz := own_size X
  obtain ⟨C, locs, X, N', eh, hn⟩ := X
  obtain ⟨hx, hby, hml, hown, hnm, -, -, hZ⟩ := id C
  obtain ⟨T', h', cA, X', e', E, A, st'⟩ := newP (aty := .long) X hx hZ w eh (g := mkF m pc Ls (.int N :: st)) rfl (hb hby hd) rfl hN hcap hb' hc hs
  refine own_go st' (H T' h' _ rfl hz ⟨C, _, X', N', e', hn⟩ E _ rfl ⟨_, A, sz_new _ _ _, hN, fun j h0 h1 => ?_⟩)
  exact get_new (fun q => own_inb (sz_new cA .long N) h0 h1 (q.imp id fun r => by rw [sz_new]; exact r))
/-- System.arraycopy of bytes -/
theorem own_nat32 {i : Nat} {N : Int32} (hN : ¬ N < 0) (hi : i < N.toNatClampNeg) : (Int32.ofNat i).toInt = i ∧ (Int32.ofNat i).toNatClampNeg = i ∧ ¬ Int32.ofNat i < 0 ∧ Int32.ofNat i < N := by
  have q := (back32 hN).2
  have e : (Int32.ofNat i).toInt = i := Int32.toInt_ofNat_of_lt (by omega)
  have n := nat_of hN
  refine ⟨e, by simp only [Int32.toNatClampNeg, e]; omega, own_cGe (a := (i : Int)) (b := 0) e rfl (by omega), own_cLt (a := (i : Int)) (b := N.toInt) e rfl (by omega)⟩
def own_vs (N : Int32) (f : Int32 → Int32) : List Value := (List.range N.toNatClampNeg).map fun i => .int (f (Int32.ofNat i))
theorem own_vs_at {N : Int32} {f : Int32 → Int32} {i : Nat} {d : Value} (hi : i < N.toNatClampNeg) : (own_vs N f).getD i d = .int (f (Int32.ofNat i)) := by simp [own_vs, List.getD_eq_getElem?_getD, hi]
theorem own_vs_len (N : Int32) (f : Int32 → Int32) : (own_vs N f).length = N.toNatClampNeg := by simp [own_vs]
theorem own_AI.arv {a : Addr} {ty : FieldType} {N : Int32} {f : Int32 → Int32} (F : own_AI Z h a ty N f) : ∃ k, Arv Z h a k ty N (own_vs N f) (.int 0) := by
  obtain ⟨cl, A, S, hN, r⟩ := F
  refine ⟨cl.cls, cl, A, rfl, S, hN, fun i hi => ?_, fun i hi => ?_⟩
  · rw [S] at hi
    have q := own_nat32 hN hi
    rw [own_vs_at hi, ← (r (Int32.ofNat i) q.2.2.1 q.2.2.2).1, q.2.1]
  · rw [S] at hi
    have q := own_nat32 hN hi
    rw [own_vs_at hi]; exact (r (Int32.ofNat i) q.2.2.1 q.2.2.2).2
theorem own_copyB (X : own_S p l e R s m av below meth c Z y co ml rt n0 T ce sl h) {ix W : Nat} {a b : Addr} {Na Nb sp dp nn : Int32} {fa fb : Int32 → Int32}
    (w1 : (Jvm.Cond.methodLink y.cls ix Jvm.Stand.acN).before a0 Z = true) (w2 : (Jvm.Cond.native Jvm.Stand.acN).before a0 Z = true) (w3 : (Jvm.Cond.static Jvm.Stand.acN).before a0 Z = true) (w4 : (Jvm.Cond.initialized "java/lang/System").before a0 Z = true)
    (A : own_AI Z h a .byte Na fa) (B : own_AI Z h b .byte Nb fb) (h1 : 0 ≤ sp.toInt) (h2 : 0 ≤ dp.toInt) (h3 : 0 ≤ nn.toInt) (h4 : sp.toInt + nn.toInt ≤ Na.toInt) (h5 : dp.toInt + nn.toInt ≤ Nb.toInt) (ge : n0 ≤ b)
    (hL : Ls.size = ml) (hd : decode co pc = .ok (.invokestatic ix, 3)) (hf : 1 ≤ R.frames) (hW : (st.map fun v => v.category).sum ≤ W) (hlo : W + (nativeFrameWords "java/lang/System" "arraycopy" 5 + 11) ≤ R.locals)
    (H : ∀ T' h' f', own_S p l e R s m av below meth c Z y co ml rt n0 T' ce sl h' → Keep h h' [b] → own_AI Z h' b .byte Nb f' → (∀ j : Int32, 0 ≤ j.toInt → j.toInt < Nb.toInt → f' j = if dp.toInt ≤ j.toInt ∧ j.toInt < dp.toInt + nn.toInt then fa (Int32.ofInt (sp.toInt + (j.toInt - dp.toInt))) else fb j) → own_Fin p e below s n0 Q k n T' (mkF m (pc + 3) Ls st)) :
    own_Fin p e below s n0 Q k n T (mkF m pc Ls (.int nn :: .int dp :: .ref b :: .int sp :: .ref a :: st)) := by
  obtain ⟨C, locs, X, N, eh, hn⟩ := X
  obtain ⟨hx, hby, hml, hown, -, -, -, hZ⟩ := id C
  obtain ⟨ka, VA⟩ := A.arv
  obtain ⟨kb, VB⟩ := B.arv
  have hNa := A.nn
  have hNb := B.nn
  have q1 : ¬ sp < 0 := own_cGe (a := sp.toInt) (b := 0) rfl rfl (by omega)
  have q2 : ¬ dp < 0 := own_cGe (a := dp.toInt) (b := 0) rfl rfl (by omega)
  have q3 : ¬ nn < 0 := own_cGe (a := nn.toInt) (b := 0) rfl rfl (by omega)
  have e1 := nat_of q1; have e2 := nat_of q2; have e3 := nat_of q3; have e4 := nat_of hNa; have e5 := nat_of hNb
  have h4' : sp.toNatClampNeg + nn.toNatClampNeg ≤ Na.toNatClampNeg := by omega
  have h5' : dp.toNatClampNeg + nn.toNatClampNeg ≤ Nb.toNatClampNeg := by omega
  obtain ⟨T', h', L', X', e', N', K', B', st'⟩ := cpA X hx hZ hown w1 w2 w3 w4 eh VA VB (Or.inl ⟨rfl, rfl⟩) q1 q2 q3 h4' h5' rfl (by rw [own_vs_len]; exact h5') N ge (g := mkF m pc Ls (.int nn :: .int dp :: .ref b :: .int sp :: .ref a :: st)) rfl (by rw [hml]; exact hL) rfl (hb hby hd) hf (W := W) (by show 2 * 0 + _ ≤ _; omega) hlo
  have key : ∀ us : List Value, us.length = nn.toNatClampNeg → (∀ i, i < nn.toNatClampNeg → us[i]? = some (.int (fa (Int32.ofNat (sp.toNatClampNeg + i))))) → ∀ i, i < Nb.toNatClampNeg → (((own_vs Nb fb).take dp.toNatClampNeg ++ us) ++ (own_vs Nb fb).drop (dp.toNatClampNeg + nn.toNatClampNeg)).getD i (.int 0) = .int (if dp.toNatClampNeg ≤ i ∧ i < dp.toNatClampNeg + nn.toNatClampNeg then fa (Int32.ofNat (sp.toNatClampNeg + (i - dp.toNatClampNeg))) else fb (Int32.ofNat i)) := fun us lm gu i hi => by
    have lt : ((own_vs Nb fb).take dp.toNatClampNeg).length = dp.toNatClampNeg := by rw [List.length_take, own_vs_len]; omega
    rw [List.getD_eq_getElem?_getD]
    by_cases c1 : i < dp.toNatClampNeg
    · rw [if_neg (by omega), List.append_assoc, List.getElem?_append_left (by omega), List.getElem?_take_of_lt c1, ← List.getD_eq_getElem?_getD, own_vs_at hi]
    · by_cases c2 : i < dp.toNatClampNeg + nn.toNatClampNeg
      · rw [if_pos ⟨by omega, c2⟩, List.getElem?_append_left (by rw [List.length_append, lt, lm]; omega), List.getElem?_append_right (by omega), lt, gu _ (by omega)]; rfl
      · rw [if_neg (by omega), List.getElem?_append_right (by rw [List.length_append, lt, lm]; omega), List.length_append, lt, lm, List.getElem?_drop, show dp.toNatClampNeg + nn.toNatClampNeg + (i - (dp.toNatClampNeg + nn.toNatClampNeg)) = i by omega, ← List.getD_eq_getElem?_getD, own_vs_at hi]
  obtain ⟨cl, A', -, S, hN, Hs, G⟩ := B'
  refine own_go st' (H T' h' (fun j => if dp.toInt ≤ j.toInt ∧ j.toInt < dp.toInt + nn.toInt then fa (Int32.ofInt (sp.toInt + (j.toInt - dp.toInt))) else fb j) ⟨C, _, X', N', e', hn⟩ K' ⟨cl, A', S, hN, fun j j0 j1 => ?_⟩ (fun j _ _ => rfl))
  have ej := nat_of j0
  have hj : j.toNatClampNeg < Nb.toNatClampNeg := by rw [Int32.lt_iff_toInt_lt] at j1; omega
  have ej2 : Int32.ofNat j.toNatClampNeg = j := Int32.toInt_inj.mp (by rw [(own_nat32 hNb hj).1, ej])
  have hv := key ((List.range nn.toNatClampNeg).map fun i => (own_vs Na fa).getD (sp.toNatClampNeg + i) (.int 0)) (by simp) (fun i hi => by rw [List.getElem?_map, List.getElem?_range hi]; exact congrArg some (own_vs_at (by omega))) j.toNatClampNeg hj
  have hs := Hs j.toNatClampNeg (by rw [S]; exact hj)
  have hg := G j.toNatClampNeg (by rw [S]; exact hj)
  rw [hv] at hs hg
  have fin : (if dp.toNatClampNeg ≤ j.toNatClampNeg ∧ j.toNatClampNeg < dp.toNatClampNeg + nn.toNatClampNeg then fa (Int32.ofNat (sp.toNatClampNeg + (j.toNatClampNeg - dp.toNatClampNeg))) else fb (Int32.ofNat j.toNatClampNeg)) = (if dp.toInt ≤ j.toInt ∧ j.toInt < dp.toInt + nn.toInt then fa (Int32.ofInt (sp.toInt + (j.toInt - dp.toInt))) else fb j) := by
    by_cases c1 : dp.toInt ≤ j.toInt ∧ j.toInt < dp.toInt + nn.toInt
    · rw [if_pos c1, if_pos (by omega)]
      congr 1
      rw [show sp.toInt + (j.toInt - dp.toInt) = ((sp.toNatClampNeg + (j.toNatClampNeg - dp.toNatClampNeg) : Nat) : Int) by omega]
      exact Int32.ofInt_eq_ofNat.symm
    · rw [if_neg c1, if_neg (by omega), ej2]
  rw [fin] at hs hg
  exact ⟨hs, hg⟩
theorem own_nle {N : Int32} {c : Nat} (h : N.toInt ≤ c) : N.toNatClampNeg ≤ c := by simp only [Int32.toNatClampNeg]; omega
/-- a private instance method by its contract -/
theorem own_callP (X : own_S p l e R s m av below meth c Z y co ml rt n0 T ce sl h) {ix kk : Nat} {y' : MethodName} {co' : ByteArray} {ml' W : Nat} {rt' : Option FieldType} {rm : Room} {Q' : Option Value → Heap → Prop} {a : Addr} {argsL rest stk : List Value}
    (w1 : (Jvm.Cond.methodLink y.cls ix y').before a0 Z = true) (w2 : (Jvm.Cond.instanceMethod y').before a0 Z = true) (w3 : (Jvm.Cond.privateMethod y').before a0 Z = true) (w5 : (Jvm.Cond.instantiable y'.cls kk).before a0 Z = true) (w6 : (Jvm.Cond.initialized y'.cls).before a0 Z = true) (w4 : (Jvm.Cond.code y' co' ml' rt').before a0 Z = true) (hy : y'.cls ≠ "java/lang/invoke/MethodHandle" ∧ y'.cls ≠ "java/lang/invoke/VarHandle")
    (M : own_Met l Z y' co' ml' rt' [] rm (.ref a :: argsL).toArray h n0 Q') (E : Exa Z h a y'.cls) (hf : rm.frames + 1 ≤ R.frames) (hlo : W + (ml' + 11) + rm.locals ≤ R.locals) (hce : ce + rm.cells ≤ R.cells) (hsl : sl + rm.slots ≤ R.slots)
    (hL : Ls.size = ml) (hlen : ∀ sig, parseMethodDescriptor y'.desc = some sig → argsL.length = sig.parameters.length) (hs : stk = argsL.reverse ++ .ref a :: rest) (hW : (rest.map fun v => v.category).sum ≤ W) (hd : decode co pc = .ok (.invokevirtual ix, 3))
    (H : ∀ T' h' v, own_S p l e R s m av below meth c Z y co ml rt n0 T' (ce + rm.cells) (sl + rm.slots) h' → Q' v h' → own_Fin p e below s n0 Q k n T' (mkF m (pc + 3) Ls (v.toList ++ rest))) : own_Fin p e below s n0 Q k n T (mkF m pc Ls stk) := by
  obtain ⟨C, locs, X, N, eh, hn⟩ := X
  obtain ⟨hx, hby, hml, hown, -, -, -, hZ⟩ := id C
  obtain ⟨cq, q1, q2⟩ := E.cell
  obtain ⟨ci, ki, i1, i2, -, i4, -⟩ := Cond.instantiable_spec (show (Jvm.Cond.instantiable y'.cls kk).holds av s none s [] = true from mvT hZ w5)
  have hpr : s.PrivateAt y' := Cond.privateMethod_at (mvP hZ w3 (args := av))
  have hsel : (Jvm.Cond.selects y'.cls y' y').before av s = true := Jvm.Stand.selects_self_of_private i1 i2 (by cases hh : ki.isInterface <;> simp_all) hpr (mvT hZ w2) hy
  obtain ⟨v, _, ⟨T', L', k', n'⟩, -, X', ⟨Lc, ⟨hN, hQ⟩, l1, l2, l3⟩, st'⟩ := X.privateBack hx (y := y') hown (mvT hZ w1) (mvT hZ w2) hsel hpr (mvT hZ w4) hy (backOf (Q := fun v h' L => Fr n0 L ∧ Q' v h') (W := W) M hZ w4 w6 hf hlo) (g := mkF m pc Ls stk) rfl (by rw [hml]; exact hL) (Steps.refl _) (a := a) (by rw [eh]; exact q1) q2 (argsL := argsL) (rest := rest) hlen hs (by show 2 * 0 + _ ≤ _; omega) (hb hby hd) (fun _ _ => ⟨rfl, eh, hce, hsl⟩)
  dsimp only [Pt.U, Pt.locs, Pt.cells, Pt.slots] at X' l1 l2 l3 st' hQ
  subst l1 l2 l3
  exact own_goT st' (H T' T'.heap v ⟨C, _, X', N.app hN, rfl, hn⟩ hQ)
end Own
theorem own_ofInt {j : Int32} {t : Int} (q : j.toInt = t) : Int32.ofInt t = j := by rw [← q]; exact Int32.ofInt_toInt j
theorem ef_rm1 (m : MethodId) (q1 : Int32) (q2 : Int32) (q3 : Int32) : entryFrame m #[(.int q1), (.int q2), (.int q3)] 3 = mkF m 0 #[.val (.int q1), .val (.int q2), .val (.int q3)] [] := by first | (simp [entryFrame, mkF, argsToLocals, Value.category]; done) | rfl
theorem d1_0 : decode method_4_code 0 = .ok (.iload_n 0, 1) := by decide +kernel
theorem d1_1 : decode method_4_code 1 = .ok (.iload_n 2, 1) := by decide +kernel
theorem d1_2 : decode method_4_code 2 = .ok (.iload_n 1, 1) := by decide +kernel
theorem d1_3 : decode method_4_code 3 = .ok (.imul, 1) := by decide +kernel
theorem d1_4 : decode method_4_code 4 = .ok (.iadd, 1) := by decide +kernel
theorem d1_5 : decode method_4_code 5 = .ok (.i2b, 1) := by decide +kernel
theorem d1_6 : decode method_4_code 6 = .ok (.ireturn, 1) := by decide +kernel
theorem pn_1 : plainFor (⟨"com/example/shelfrun/shelfrun/index/JsonBufferReleasePinLaw", "b", "(III)B"⟩ : MethodName) = true := plainFor_of_name (show plainName "com/example/shelfrun/shelfrun/index/JsonBufferReleasePinLaw" = true from by first | (simp [plainName, overriddenIn]; done) | decide +kernel)
set_option maxRecDepth 65536 in
set_option maxHeartbeats 40000000 in
theorem rm1 (l : Launch) (Z : State) (a0 : Array Value) (hw : ∀ d ∈ tables_1, d.before a0 Z = true) (ws : List Jvm.Cond) (q1 : Int32) (q2 : Int32) (q3 : Int32) (h0 : Heap) (n0 : Nat) (hn0 : n0 ≤ h0.size) :
    own_Met l Z (⟨"com/example/shelfrun/shelfrun/index/JsonBufferReleasePinLaw", "b", "(III)B"⟩ : MethodName) method_4_code 3 (some .byte) ws ({ frames := 0, cells := 0, slots := 0, locals := 0 } : Room) #[(.int q1), (.int q2), (.int q3)] h0 n0 (own_QI fun z h => (True) ∧ h = h0) := by
  refine own_met pn_1 hn0 (fun p e s m below meth c T X => ?_)
  refine own_cast (ef_rm1 m q1 q2 q3) ?_
  have r_q1 := rng32 q1
  have r_q2 := rng32 q2
  have r_q3 := rng32 q3
  refine own_iloadN X d1_0 rfl ?_
  refine own_iloadN X d1_1 rfl ?_
  refine own_iloadN X d1_2 rfl ?_
  refine own_imulV X (q3.toInt) (q2.toInt) d1_3 rfl rfl (fun v1 hv1 cv1 lv1 uv1 => ?_)
  refine own_iaddV X (q1.toInt) (v1.toInt) d1_4 rfl rfl (fun v2 hv2 cv2 lv2 uv2 => ?_)
  refine own_i2bV X (v2.toInt) d1_5 rfl (fun v3 hv3 cv3 lv3 uv3 => ?_)
  refine own_retN (t := .byte) X (z' := v3) (Or.inr (Or.inl rfl)) (by show v3.toInt8.toInt32 = v3; rw [← hv3]; exact own_i2b2 _) (by show v3.toInt8.toInt32 = v3; rw [← hv3]; exact own_i2b2 _) d1_6 (by decide) (by decide) ⟨_, rfl, ?_⟩
  exact ⟨trivial, rfl⟩
theorem ef_rm4 (m : MethodId) (q1 : Int32) (q2 : Int32) : entryFrame m #[(.int q1), (.int q2)] 2 = mkF m 0 #[.val (.int q1), .val (.int q2)] [] := by first | (simp [entryFrame, mkF, argsToLocals, Value.category]; done) | rfl
theorem d4_0 : decode jdk_29_method_65_code 0 = .ok (.iload_n 0, 1) := by decide +kernel
theorem d4_1 : decode jdk_29_method_65_code 1 = .ok (.iload_n 1, 1) := by decide +kernel
theorem d4_2 : decode jdk_29_method_65_code 2 = .ok (.if_icmp .lt 7, 3) := by decide +kernel
theorem d4_9 : decode jdk_29_method_65_code 9 = .ok (.iload_n 1, 1) := by decide +kernel
theorem d4_10 : decode jdk_29_method_65_code 10 = .ok (.ireturn, 1) := by decide +kernel
theorem d4_5 : decode jdk_29_method_65_code 5 = .ok (.iload_n 0, 1) := by decide +kernel
theorem d4_6 : decode jdk_29_method_65_code 6 = .ok (.goto 4, 3) := by decide +kernel
theorem pn_4 : plainFor (⟨"java/lang/Math", "max", "(II)I"⟩ : MethodName) = true := by first | exact Jvm.Free.JP.mathPlain rfl (by decide +kernel) | decide +kernel
set_option maxRecDepth 65536 in
set_option maxHeartbeats 40000000 in
theorem rm4 (l : Launch) (Z : State) (a0 : Array Value) (hw : ∀ d ∈ tables_1, d.before a0 Z = true) (ws : List Jvm.Cond) (q1 : Int32) (q2 : Int32) (h0 : Heap) (n0 : Nat) (hn0 : n0 ≤ h0.size) :
    own_Met l Z (⟨"java/lang/Math", "max", "(II)I"⟩ : MethodName) jdk_29_method_65_code 2 (some .int) ws ({ frames := 0, cells := 0, slots := 0, locals := 0 } : Room) #[(.int q1), (.int q2)] h0 n0 (own_QI fun z h => ((q1.toInt < q2.toInt → z.toInt = q2.toInt) ∧ (¬ q1.toInt < q2.toInt → z.toInt = q1.toInt)) ∧ h = h0) := by
  refine own_met pn_4 hn0 (fun p e s m below meth c T X => ?_)
  refine own_cast (ef_rm4 m q1 q2) ?_
  have r_q1 := rng32 q1
  have r_q2 := rng32 q2
  refine own_iloadN X d4_0 rfl ?_
  refine own_iloadN X d4_1 rfl ?_
  by_cases hc1 : q1.toInt < q2.toInt
  · refine own_icmpYes X (pc := 2) (pc' := 9) d4_2 (tlt (own_cLt (a := q1.toInt) (b := q2.toInt) rfl rfl hc1)).1 (by decide) (by decide) ?_
    refine own_iloadN X d4_9 rfl ?_
    refine own_retI X d4_10 (by decide) (by decide) ⟨_, rfl, ?_⟩
    exact ⟨⟨fun _ => by omega, fun _ => by omega⟩, rfl⟩
  · refine own_icmpNo X d4_2 (flt (own_cGe (a := q1.toInt) (b := q2.toInt) rfl rfl hc1)).1 ?_
    refine own_iloadN X d4_5 rfl ?_
    refine own_goto X (pc := 6) (pc' := 10) d4_6 (by decide) (by decide) ?_
    refine own_retI X d4_10 (by decide) (by decide) ⟨_, rfl, ?_⟩
    exact ⟨⟨fun _ => by omega, fun _ => by omega⟩, rfl⟩
theorem ef_rm11 (m : MethodId) (q1 : Int32) (q2 : Int32) : entryFrame m #[(.int q1), (.int q2)] 2 = mkF m 0 #[.val (.int q1), .val (.int q2)] [] := by first | (simp [entryFrame, mkF, argsToLocals, Value.category]; done) | rfl
theorem d11_0 : decode jdk_29_method_69_code 0 = .ok (.iload_n 0, 1) := by decide +kernel
theorem d11_1 : decode jdk_29_method_69_code 1 = .ok (.iload_n 1, 1) := by decide +kernel
theorem d11_2 : decode jdk_29_method_69_code 2 = .ok (.if_icmp .gt 7, 3) := by decide +kernel
theorem d11_9 : decode jdk_29_method_69_code 9 = .ok (.iload_n 1, 1) := by decide +kernel
theorem d11_10 : decode jdk_29_method_69_code 10 = .ok (.ireturn, 1) := by decide +kernel
theorem d11_5 : decode jdk_29_method_69_code 5 = .ok (.iload_n 0, 1) := by decide +kernel
theorem d11_6 : decode jdk_29_method_69_code 6 = .ok (.goto 4, 3) := by decide +kernel
theorem pn_11 : plainFor (⟨"java/lang/Math", "min", "(II)I"⟩ : MethodName) = true := by first | exact Jvm.Free.JP.mathPlain rfl (by decide +kernel) | decide +kernel
set_option maxRecDepth 65536 in
set_option maxHeartbeats 40000000 in
theorem rm11 (l : Launch) (Z : State) (a0 : Array Value) (hw : ∀ d ∈ tables_1, d.before a0 Z = true) (ws : List Jvm.Cond) (q1 : Int32) (q2 : Int32) (h0 : Heap) (n0 : Nat) (hn0 : n0 ≤ h0.size) :
    own_Met l Z (⟨"java/lang/Math", "min", "(II)I"⟩ : MethodName) jdk_29_method_69_code 2 (some .int) ws ({ frames := 0, cells := 0, slots := 0, locals := 0 } : Room) #[(.int q1), (.int q2)] h0 n0 (own_QI fun z h => ((q2.toInt < q1.toInt → z.toInt = q2.toInt) ∧ (¬ q2.toInt < q1.toInt → z.toInt = q1.toInt)) ∧ h = h0) := by
  refine own_met pn_11 hn0 (fun p e s m below meth c T X => ?_)
  refine own_cast (ef_rm11 m q1 q2) ?_
  have r_q1 := rng32 q1
  have r_q2 := rng32 q2
  refine own_iloadN X d11_0 rfl ?_
  refine own_iloadN X d11_1 rfl ?_
  by_cases hc1 : q2.toInt < q1.toInt
  · refine own_icmpYes X (pc := 2) (pc' := 9) d11_2 (tlt (own_cLt (a := q2.toInt) (b := q1.toInt) rfl rfl hc1)).2.2.1 (by decide) (by decide) ?_
    refine own_iloadN X d11_9 rfl ?_
    refine own_retI X d11_10 (by decide) (by decide) ⟨_, rfl, ?_⟩
    exact ⟨⟨fun _ => by omega, fun _ => by omega⟩, rfl⟩
  · refine own_icmpNo X d11_2 (flt (own_cGe (a := q2.toInt) (b := q1.toInt) rfl rfl hc1)).2.2.1 ?_
    refine own_iloadN X d11_5 rfl ?_
    refine own_goto X (pc := 6) (pc' := 10) d11_6 (by decide) (by decide) ?_
    refine own_retI X d11_10 (by decide) (by decide) ⟨_, rfl, ?_⟩
    exact ⟨⟨fun _ => by omega, fun _ => by omega⟩, rfl⟩
theorem ef_rm2 (m : MethodId) (o : Addr) (q : Int32) : entryFrame m #[(.ref o), (.int q)] 2 = mkF m 0 #[.val (.ref o), .val (.int q)] [] := by first | (simp [entryFrame, mkF, argsToLocals, Value.category]; done) | rfl
theorem d2_0 : decode prog_24_method_1_code 0 = .ok (.aload_n 0, 1) := by decide +kernel
theorem d2_1 : decode prog_24_method_1_code 1 = .ok (.invokespecial 1, 3) := by decide +kernel
theorem d2_4 : decode prog_24_method_1_code 4 = .ok (.aload_n 0, 1) := by decide +kernel
theorem d2_5 : decode prog_24_method_1_code 5 = .ok (.iload_n 1, 1) := by decide +kernel
theorem d2_6 : decode prog_24_method_1_code 6 = .ok (.bipush 16, 2) := by decide +kernel
theorem d2_8 : decode prog_24_method_1_code 8 = .ok (.invokestatic 7, 3) := by decide +kernel
theorem pd_4 : parseMethodDescriptor "(II)I" = some ⟨[.int, .int], some .int⟩ := by decide +kernel
theorem d2_11 : decode prog_24_method_1_code 11 = .ok (.newarray .byte, 2) := by decide +kernel
theorem d2_13 : decode prog_24_method_1_code 13 = .ok (.putfield 13, 3) := by decide +kernel
theorem d2_16 : decode prog_24_method_1_code 16 = .ok (.return_, 1) := by decide +kernel
theorem pn_2 : plainFor (⟨"com/example/shelfrun/shelfrun/index/JsonBuffer", "<init>", "(I)V"⟩ : MethodName) = true := plainFor_of_name (show plainName "com/example/shelfrun/shelfrun/index/JsonBuffer" = true from by first | (simp [plainName, overriddenIn]; done) | decide +kernel)
set_option maxRecDepth 65536 in
set_option maxHeartbeats 40000000 in
theorem rm2 (l : Launch) (Z : State) (a0 : Array Value) (hw : ∀ d ∈ tables_1, d.before a0 Z = true) (ws : List Jvm.Cond) (o : Addr) (q : Int32) (h0 : Heap) (n0 : Nat) (hn0 : n0 ≤ h0.size) (E_o : Exa Z h0 o "com/example/shelfrun/shelfrun/index/JsonBuffer") (F_bytes_o : Fld Z h0 o "com/example/shelfrun/shelfrun/index/JsonBuffer" "bytes" "[B" .null) (F_size_o : Fld Z h0 o "com/example/shelfrun/shelfrun/index/JsonBuffer" "size" "I" (.int 0)) (ge_o : n0 ≤ o) (hq1 : -8 ≤ q.toInt) (hq2 : q.toInt ≤ 23) :
    own_Met l Z (⟨"com/example/shelfrun/shelfrun/index/JsonBuffer", "<init>", "(I)V"⟩ : MethodName) prog_24_method_1_code 2 none ws ({ frames := 1, cells := 1, slots := 23, locals := 14 } : Room) #[(.ref o), (.int q)] h0 n0 (own_QV fun h => Keep h0 h [o] ∧ Exa Z h o "com/example/shelfrun/shelfrun/index/JsonBuffer" ∧ Fld Z h o "com/example/shelfrun/shelfrun/index/JsonBuffer" "size" "I" (.int 0) ∧ ∃ (a : Addr) (N : Int32) (f : Int32 → Int32), n0 ≤ a ∧ Fld Z h o "com/example/shelfrun/shelfrun/index/JsonBuffer" "bytes" "[B" (.ref a) ∧ own_AI Z h a .byte N f ∧ 16 ≤ N.toInt ∧ N.toInt ≤ 23 ∧ h0.size ≤ a) := by
  refine own_met pn_2 hn0 (fun p e s m below meth c T X => ?_)
  refine own_cast (ef_rm2 m o q) ?_
  have r_q := rng32 q
  have K := Keep.refl h0 [o]
  refine own_aloadN X d2_0 rfl rfl ?_
  refine own_initO X (W := 0) (hw _ (List.mem_of_getElem? (i := 12) rfl)) (hw _ (List.mem_of_getElem? (i := 13) rfl)) (hw _ (List.mem_of_getElem? (i := 14) rfl)) rfl d2_1 (by decide) (Nat.le_of_eq rfl) (by decide) (fun T X => ?_)
  refine own_aloadN X d2_4 rfl rfl ?_
  refine own_iloadN X d2_5 rfl ?_
  refine own_bipush X (16) d2_6 rfl ?_
  refine own_callS X (W := 1) (argsL := [(.int q), (.int (16 : Int32))]) (rest := [(.ref o)]) (hw _ (List.mem_of_getElem? (i := 15) rfl)) (hw _ (List.mem_of_getElem? (i := 16) rfl)) (hw _ (List.mem_of_getElem? (i := 17) rfl)) (hw _ (List.mem_of_getElem? (i := 18) rfl)) (by decide) (rm4 l Z a0 hw [] q (16 : Int32) h0 n0 (own_size X)) (by decide) (by decide) (by decide) (by decide) rfl (lenOf pd_4 rfl) rfl (Nat.le_of_eq rfl) d2_8 (own_contI fun T v1 X hq1 => ?_)
  rw [show (16 : Int32).toInt = 16 from rfl] at hq1
  obtain ⟨hm1, hm2⟩ := hq1
  have hmb : 16 ≤ v1.toInt ∧ v1.toInt ≤ 23 := by omega
  refine own_newP X (cap := 23) (hw _ (List.mem_of_getElem? (i := 1) rfl)) (by decide) (own_cGe (a := v1.toInt) (b := 0) rfl rfl (by omega)) (own_nle (by omega)) (by decide) (by decide) (by decide) d2_11 (fun T h b2 hb_b2 ge_b2 X E f2 hf2 A_b2 => ?_)
  have A_b2 : own_AI Z h b2 .byte v1 f2 := A_b2
  have ne_o_b2 : o ≠ b2 := Nat.ne_of_lt (Nat.lt_of_lt_of_eq E_o.lt hb_b2.symm)
  have sz_b2 : h0.size ≤ b2 := Nat.le_trans K.1 (Nat.le_of_eq hb_b2.symm)
  have K := K.ext E
  have E_o := E_o.ext E
  have F_bytes_o := F_bytes_o.ext E
  have F_size_o := F_size_o.ext E
  refine own_putF X (host := "") (Or.inl (hw _ (List.mem_of_getElem? (i := 19) rfl))) Via.refl F_bytes_o E_o (Or.inl (hw _ (List.mem_of_getElem? (i := 20) rfl))) (hw _ (List.mem_of_getElem? (i := 7) rfl)) (ty := (.array .byte)) (by decide) rfl rfl ge_o d2_13 (fun T h X W => ?_)
  have F_bytes_o := F_bytes_o.same W
  have K := K.wr W (Or.inl (List.mem_of_getElem? (i := 0) rfl))
  have E_o := E_o.wr W
  have F_size_o := F_size_o.other W (Or.inr (slot_ne (C := "com/example/shelfrun/shelfrun/index/JsonBuffer") (Or.inl (hw _ (List.mem_of_getElem? (i := 31) rfl))) (Or.inl (hw _ (List.mem_of_getElem? (i := 20) rfl))) (by decide) (t := .int) (t' := (.array .byte)) (by decide) (by decide)))
  have A_b2 := A_b2.other W (Ne.symm ne_o_b2)
  refine own_retV X d2_16 (by decide) (by decide) ⟨rfl, ?_⟩
  exact ⟨K, E_o, F_size_o, b2, _, _, ge_b2, F_bytes_o, A_b2, by omega, by omega, sz_b2⟩
theorem ef_rm10 (m : MethodId) (o : Addr) (q : Int32) : entryFrame m #[(.ref o), (.int q)] 3 = mkF m 0 #[.val (.ref o), .val (.int q), .unset] [] := by first | (simp [entryFrame, mkF, argsToLocals, Value.category]; done) | rfl
theorem d10_0 : decode jdk_65_method_121_code 0 = .ok (.iload_n 1, 1) := by decide +kernel
theorem d10_1 : decode jdk_65_method_121_code 1 = .ok (.aload_n 0, 1) := by decide +kernel
theorem d10_2 : decode jdk_65_method_121_code 2 = .ok (.arraylength, 1) := by decide +kernel
theorem d10_3 : decode jdk_65_method_121_code 3 = .ok (.if_icmp .ne 11, 3) := by decide +kernel
theorem d10_14 : decode jdk_65_method_121_code 14 = .ok (.iload_n 1, 1) := by decide +kernel
theorem d10_15 : decode jdk_65_method_121_code 15 = .ok (.newarray .byte, 2) := by decide +kernel
theorem d10_17 : decode jdk_65_method_121_code 17 = .ok (.astore_n 2, 1) := by decide +kernel
theorem d10_18 : decode jdk_65_method_121_code 18 = .ok (.aload_n 0, 1) := by decide +kernel
theorem d10_19 : decode jdk_65_method_121_code 19 = .ok (.iconst 0, 1) := by decide +kernel
theorem d10_20 : decode jdk_65_method_121_code 20 = .ok (.aload_n 2, 1) := by decide +kernel
theorem d10_21 : decode jdk_65_method_121_code 21 = .ok (.iconst 0, 1) := by decide +kernel
theorem d10_22 : decode jdk_65_method_121_code 22 = .ok (.aload_n 0, 1) := by decide +kernel
theorem d10_23 : decode jdk_65_method_121_code 23 = .ok (.arraylength, 1) := by decide +kernel
theorem d10_24 : decode jdk_65_method_121_code 24 = .ok (.iload_n 1, 1) := by decide +kernel
theorem d10_25 : decode jdk_65_method_121_code 25 = .ok (.invokestatic 304, 3) := by decide +kernel
theorem d10_28 : decode jdk_65_method_121_code 28 = .ok (.invokestatic 150, 3) := by decide +kernel
theorem d10_31 : decode jdk_65_method_121_code 31 = .ok (.aload_n 2, 1) := by decide +kernel
theorem d10_32 : decode jdk_65_method_121_code 32 = .ok (.areturn, 1) := by decide +kernel
theorem pn_10 : plainFor (⟨"java/util/Arrays", "copyOf", "([BI)[B"⟩ : MethodName) = true := by first | exact plainFor_of_name (by first | (simp [plainName, overriddenIn]; done) | decide +kernel) | decide +kernel
set_option maxRecDepth 65536 in
set_option maxHeartbeats 40000000 in
theorem rm10 (l : Launch) (Z : State) (a0 : Array Value) (hw : ∀ d ∈ tables_1, d.before a0 Z = true) (ws : List Jvm.Cond) (o : Addr) (q : Int32) (N : Int32) (f : Int32 → Int32) (h0 : Heap) (n0 : Nat) (hn0 : n0 ≤ h0.size) (A_o : own_AI Z h0 o .byte N f) (hq0 : 0 ≤ q.toInt) (hq1 : q.toInt ≤ 46) (hne : ¬ q.toInt = N.toInt) (hN0 : 0 ≤ N.toInt) :
    own_Met l Z (⟨"java/util/Arrays", "copyOf", "([BI)[B"⟩ : MethodName) jdk_65_method_121_code 3 (some (.array .byte)) ws ({ frames := 1, cells := 1, slots := 46, locals := 18 } : Room) #[(.ref o), (.int q)] h0 n0 (own_QR fun z h => Keep h0 h [] ∧ ∃ (b : Addr) (f' : Int32 → Int32), z = .ref b ∧ h0.size ≤ b ∧ n0 ≤ b ∧ own_AI Z h b .byte q f' ∧ ∀ j : Int32, 0 ≤ j.toInt → j.toInt < N.toInt → j.toInt < q.toInt → f' j = f j) := by
  refine own_met pn_10 hn0 (fun p e s m below meth c T X => ?_)
  refine own_cast (ef_rm10 m o q) ?_
  have r_q := rng32 q
  have r_N := rng32 N
  have K := Keep.refl h0 []
  refine own_iloadN X d10_0 rfl ?_
  refine own_aloadN X d10_1 rfl rfl ?_
  refine own_alen X A_o d10_2 ?_
  have hc1 : ¬ (q.toInt = N.toInt) := by omega
  refine own_icmpYes X (pc := 3) (pc' := 14) d10_3 (feq (own_cNe (a := q.toInt) (b := N.toInt) rfl rfl hc1)).2 (by decide) (by decide) ?_
  refine own_iloadN X d10_14 rfl ?_
  refine own_newP X (cap := 46) (hw _ (List.mem_of_getElem? (i := 1) rfl)) (by decide) (own_cGe (a := q.toInt) (b := 0) rfl rfl (by omega)) (own_nle (by omega)) (by decide) (by decide) (by decide) d10_15 (fun T h b2 hb_b2 ge_b2 X E f2 hf2 A_b2 => ?_)
  have A_b2 : own_AI Z h b2 .byte q f2 := A_b2
  have ne_o_b2 : o ≠ b2 := Nat.ne_of_lt (Nat.lt_of_lt_of_eq A_o.lt hb_b2.symm)
  have sz_b2 : h0.size ≤ b2 := Nat.le_trans K.1 (Nat.le_of_eq hb_b2.symm)
  have K := K.ext E
  have A_o := A_o.ext E
  refine own_astoreN X d10_17 rfl (L' := #[.val (.ref o), .val (.int q), .val (.ref b2)]) rfl ?_
  refine own_aloadN X d10_18 rfl rfl ?_
  refine own_iconst X (0) d10_19 rfl ?_
  refine own_aloadN X d10_20 rfl rfl ?_
  refine own_iconst X (0) d10_21 rfl ?_
  refine own_aloadN X d10_22 rfl rfl ?_
  refine own_alen X A_o d10_23 ?_
  refine own_iloadN X d10_24 rfl ?_
  refine own_callS X (W := 4) (argsL := [(.int N), (.int q)]) (rest := [(.int (0 : Int32)), (.ref b2), (.int (0 : Int32)), (.ref o)]) (hw _ (List.mem_of_getElem? (i := 55) rfl)) (hw _ (List.mem_of_getElem? (i := 56) rfl)) (hw _ (List.mem_of_getElem? (i := 17) rfl)) (hw _ (List.mem_of_getElem? (i := 57) rfl)) (by decide) (rm11 l Z a0 hw [] N q h n0 (own_size X)) (by decide) (by decide) (by decide) (by decide) rfl (lenOf pd_4 rfl) rfl (Nat.le_of_eq rfl) d10_25 (own_contI fun T v3 X hq3 => ?_)
  obtain ⟨hm1, hm2⟩ := hq3
  refine own_copyB X (W := 0) (hw _ (List.mem_of_getElem? (i := 58) rfl)) (hw _ (List.mem_of_getElem? (i := 40) rfl)) (hw _ (List.mem_of_getElem? (i := 38) rfl)) (hw _ (List.mem_of_getElem? (i := 39) rfl)) A_o A_b2 (show 0 ≤ 0 from by omega) (show 0 ≤ 0 from by omega) (show 0 ≤ v3.toInt from by omega) (show 0 + v3.toInt ≤ N.toInt from by omega) (show 0 + v3.toInt ≤ q.toInt from by omega) ge_b2 rfl d10_28 (by decide) (Nat.le_of_eq rfl) (by decide) (fun T h f4 X Kc A_b2 hcp4 => ?_)
  have K := K.trans Kc (allS (Or.inr sz_b2) all0)
  have A_o := A_o.keep Kc (ninS ne_o_b2 nin0)
  refine own_aloadN X d10_31 rfl rfl ?_
  refine own_retR X rfl rfl d10_32 (by decide) (by decide) ⟨_, rfl, ?_⟩
  refine ⟨K, b2, f4, rfl, sz_b2, ge_b2, A_b2, fun j j0 j1 j2 => ?_⟩
  have hcp := hcp4 j j0 j2
  rw [show (0 : Int32).toInt = 0 from rfl] at hcp
  rw [hcp, if_pos (by omega), own_ofInt (j := j) (by omega)]
theorem ef_rm6 (m : MethodId) (o : Addr) (q : Int32) : entryFrame m #[(.ref o), (.int q)] 2 = mkF m 0 #[.val (.ref o), .val (.int q)] [] := by first | (simp [entryFrame, mkF, argsToLocals, Value.category]; done) | rfl
theorem d6_0 : decode prog_24_method_13_code 0 = .ok (.aload_n 0, 1) := by decide +kernel
theorem d6_1 : decode prog_24_method_13_code 1 = .ok (.getfield 13, 3) := by decide +kernel
theorem d6_4 : decode prog_24_method_13_code 4 = .ok (.arraylength, 1) := by decide +kernel
theorem d6_5 : decode prog_24_method_13_code 5 = .ok (.aload_n 0, 1) := by decide +kernel
theorem d6_6 : decode prog_24_method_13_code 6 = .ok (.getfield 23, 3) := by decide +kernel
theorem d6_9 : decode prog_24_method_13_code 9 = .ok (.isub, 1) := by decide +kernel
theorem d6_10 : decode prog_24_method_13_code 10 = .ok (.iload_n 1, 1) := by decide +kernel
theorem d6_11 : decode prog_24_method_13_code 11 = .ok (.if_icmp .ge 30, 3) := by decide +kernel
theorem d6_14 : decode prog_24_method_13_code 14 = .ok (.aload_n 0, 1) := by decide +kernel
theorem d6_15 : decode prog_24_method_13_code 15 = .ok (.aload_n 0, 1) := by decide +kernel
theorem d6_16 : decode prog_24_method_13_code 16 = .ok (.getfield 13, 3) := by decide +kernel
theorem d6_19 : decode prog_24_method_13_code 19 = .ok (.iconst 2, 1) := by decide +kernel
theorem d6_20 : decode prog_24_method_13_code 20 = .ok (.aload_n 0, 1) := by decide +kernel
theorem d6_21 : decode prog_24_method_13_code 21 = .ok (.getfield 13, 3) := by decide +kernel
theorem d6_24 : decode prog_24_method_13_code 24 = .ok (.arraylength, 1) := by decide +kernel
theorem d6_25 : decode prog_24_method_13_code 25 = .ok (.imul, 1) := by decide +kernel
theorem d6_26 : decode prog_24_method_13_code 26 = .ok (.aload_n 0, 1) := by decide +kernel
theorem d6_27 : decode prog_24_method_13_code 27 = .ok (.getfield 23, 3) := by decide +kernel
theorem d6_30 : decode prog_24_method_13_code 30 = .ok (.iload_n 1, 1) := by decide +kernel
theorem d6_31 : decode prog_24_method_13_code 31 = .ok (.iadd, 1) := by decide +kernel
theorem d6_32 : decode prog_24_method_13_code 32 = .ok (.invokestatic 7, 3) := by decide +kernel
theorem d6_35 : decode prog_24_method_13_code 35 = .ok (.invokestatic 66, 3) := by decide +kernel
theorem pd_9 : parseMethodDescriptor "([BI)[B" = some ⟨[(.array .byte), .int], some (.array .byte)⟩ := by decide +kernel
theorem d6_38 : decode prog_24_method_13_code 38 = .ok (.putfield 13, 3) := by decide +kernel
theorem d6_41 : decode prog_24_method_13_code 41 = .ok (.return_, 1) := by decide +kernel
theorem pn_6 : plainFor (⟨"com/example/shelfrun/shelfrun/index/JsonBuffer", "room", "(I)V"⟩ : MethodName) = true := plainFor_of_name (show plainName "com/example/shelfrun/shelfrun/index/JsonBuffer" = true from by first | (simp [plainName, overriddenIn]; done) | decide +kernel)
set_option maxRecDepth 65536 in
set_option maxHeartbeats 40000000 in
theorem rm6 (l : Launch) (Z : State) (a0 : Array Value) (hw : ∀ d ∈ tables_1, d.before a0 Z = true) (ws : List Jvm.Cond) (o : Addr) (q : Int32) (a : Addr) (N : Int32) (f : Int32 → Int32) (sz : Int32) (h0 : Heap) (n0 : Nat) (hn0 : n0 ≤ h0.size) (E_o : Exa Z h0 o "com/example/shelfrun/shelfrun/index/JsonBuffer") (F_bytes_o : Fld Z h0 o "com/example/shelfrun/shelfrun/index/JsonBuffer" "bytes" "[B" (.ref a)) (F_size_o : Fld Z h0 o "com/example/shelfrun/shelfrun/index/JsonBuffer" "size" "I" (.int sz)) (A_a : own_AI Z h0 a .byte N f) (ge_o : n0 ≤ o) (ge_a : n0 ≤ a) (hs0 : 0 ≤ sz.toInt) (hsN : sz.toInt ≤ N.toInt) (hN1 : 16 ≤ N.toInt) (hN2 : N.toInt ≤ 23) (hq1 : 0 ≤ q.toInt) (hq2 : q.toInt + sz.toInt ≤ 46) :
    own_Met l Z (⟨"com/example/shelfrun/shelfrun/index/JsonBuffer", "room", "(I)V"⟩ : MethodName) prog_24_method_13_code 2 none ws ({ frames := 2, cells := 1, slots := 46, locals := 33 } : Room) #[(.ref o), (.int q)] h0 n0 (own_QV fun h => Keep h0 h [o] ∧ Exa Z h o "com/example/shelfrun/shelfrun/index/JsonBuffer" ∧ Fld Z h o "com/example/shelfrun/shelfrun/index/JsonBuffer" "size" "I" (.int sz) ∧ ∃ (a' : Addr) (N' : Int32) (f' : Int32 → Int32), (a' = a ∨ h0.size ≤ a') ∧ n0 ≤ a' ∧ Fld Z h o "com/example/shelfrun/shelfrun/index/JsonBuffer" "bytes" "[B" (.ref a') ∧ own_AI Z h a' .byte N' f' ∧ q.toInt + sz.toInt ≤ N'.toInt ∧ N'.toInt ≤ 46 ∧ (∀ j : Int32, 0 ≤ j.toInt → j.toInt < sz.toInt → f' j = f j) ∧ (q.toInt + sz.toInt ≤ N.toInt → a' = a ∧ N' = N)) := by
  refine own_met pn_6 hn0 (fun p e s m below meth c T X => ?_)
  refine own_cast (ef_rm6 m o q) ?_
  have r_q := rng32 q
  have r_N := rng32 N
  have r_sz := rng32 sz
  have K := Keep.refl h0 [o]
  have ne_o_a : o ≠ a := own_ne_ai E_o (hw _ (List.mem_of_getElem? (i := 7) rfl)) A_a
  refine own_aloadN X d6_0 rfl rfl ?_
  refine own_getF X (host := "") (Or.inl (hw _ (List.mem_of_getElem? (i := 19) rfl))) Via.refl F_bytes_o d6_1 (fun T X => ?_)
  refine own_alen X A_a d6_4 ?_
  refine own_aloadN X d6_5 rfl rfl ?_
  refine own_getF X (host := "") (Or.inl (hw _ (List.mem_of_getElem? (i := 30) rfl))) Via.refl F_size_o d6_6 (fun T X => ?_)
  refine own_isubV X (N.toInt) (sz.toInt) d6_9 rfl rfl (fun v1 hv1 cv1 lv1 uv1 => ?_)
  have xv1 : v1.toInt = N.toInt - sz.toInt := by omega
  refine own_iloadN X d6_10 rfl ?_
  by_cases hc2 : v1.toInt < q.toInt
  · refine own_icmpNo X d6_11 (tlt (own_cLt (a := v1.toInt) (b := q.toInt) rfl rfl hc2)).2.1 ?_
    refine own_aloadN X d6_14 rfl rfl ?_
    refine own_aloadN X d6_15 rfl rfl ?_
    refine own_getF X (host := "") (Or.inl (hw _ (List.mem_of_getElem? (i := 19) rfl))) Via.refl F_bytes_o d6_16 (fun T X => ?_)
    refine own_iconst X (2) d6_19 rfl ?_
    refine own_aloadN X d6_20 rfl rfl ?_
    refine own_getF X (host := "") (Or.inl (hw _ (List.mem_of_getElem? (i := 19) rfl))) Via.refl F_bytes_o d6_21 (fun T X => ?_)
    refine own_alen X A_a d6_24 ?_
    refine own_imulV X (2) (N.toInt) d6_25 rfl rfl (fun v3 hv3 cv3 lv3 uv3 => ?_)
    have xv3 : v3.toInt = 2 * N.toInt := by omega
    refine own_aloadN X d6_26 rfl rfl ?_
    refine own_getF X (host := "") (Or.inl (hw _ (List.mem_of_getElem? (i := 30) rfl))) Via.refl F_size_o d6_27 (fun T X => ?_)
    refine own_iloadN X d6_30 rfl ?_
    refine own_iaddV X (sz.toInt) (q.toInt) d6_31 rfl rfl (fun v4 hv4 cv4 lv4 uv4 => ?_)
    have xv4 : v4.toInt = sz.toInt + q.toInt := by omega
    refine own_callS X (W := 2) (argsL := [(.int v3), (.int v4)]) (rest := [(.ref a), (.ref o)]) (hw _ (List.mem_of_getElem? (i := 15) rfl)) (hw _ (List.mem_of_getElem? (i := 16) rfl)) (hw _ (List.mem_of_getElem? (i := 17) rfl)) (hw _ (List.mem_of_getElem? (i := 18) rfl)) (by decide) (rm4 l Z a0 hw [] v3 v4 h0 n0 (own_size X)) (by decide) (by decide) (by decide) (by decide) rfl (lenOf pd_4 rfl) rfl (Nat.le_of_eq rfl) d6_32 (own_contI fun T v5 X hq5 => ?_)
    obtain ⟨hm1, hm2⟩ := hq5
    refine own_callS X (W := 1) (argsL := [(.ref a), (.int v5)]) (rest := [(.ref o)]) (hw _ (List.mem_of_getElem? (i := 51) rfl)) (hw _ (List.mem_of_getElem? (i := 52) rfl)) (hw _ (List.mem_of_getElem? (i := 53) rfl)) (hw _ (List.mem_of_getElem? (i := 54) rfl)) (by decide) (rm10 l Z a0 hw [] a v5 N f h0 n0 (own_size X) A_a (by omega) (by omega) (by omega) (by omega)) (by decide) (by decide) (by decide) (by decide) rfl (lenOf pd_9 rfl) rfl (Nat.le_of_eq rfl) d6_35 (own_contRH fun T h v6 X hq6 => ?_)
    obtain ⟨Kc, cb6, cf6, rfl, hsz6, ge_cb6, A_cb6, hfr6⟩ := hq6
    have K := K.trans Kc all0
    have E_o := E_o.keep Kc
    have F_bytes_o := F_bytes_o.keep Kc nin0
    have F_size_o := F_size_o.keep Kc nin0
    have A_a := A_a.keep Kc nin0
    have ne_o_cb6 : o ≠ cb6 := own_ne_ai E_o (hw _ (List.mem_of_getElem? (i := 7) rfl)) A_cb6
    have sz_cb6 : h0.size ≤ cb6 := Nat.le_trans (Nat.le_refl _) hsz6
    refine own_putF X (host := "") (Or.inl (hw _ (List.mem_of_getElem? (i := 19) rfl))) Via.refl F_bytes_o E_o (Or.inl (hw _ (List.mem_of_getElem? (i := 20) rfl))) (hw _ (List.mem_of_getElem? (i := 7) rfl)) (ty := (.array .byte)) (by decide) rfl rfl ge_o d6_38 (fun T h X W => ?_)
    have F_bytes_o := F_bytes_o.same W
    have K := K.wr W (Or.inl (List.mem_of_getElem? (i := 0) rfl))
    have E_o := E_o.wr W
    have F_size_o := F_size_o.other W (Or.inr (slot_ne (C := "com/example/shelfrun/shelfrun/index/JsonBuffer") (Or.inl (hw _ (List.mem_of_getElem? (i := 31) rfl))) (Or.inl (hw _ (List.mem_of_getElem? (i := 20) rfl))) (by decide) (t := .int) (t' := (.array .byte)) (by decide) (by decide)))
    have A_a := A_a.other W (Ne.symm ne_o_a)
    have A_cb6 := A_cb6.other W (Ne.symm ne_o_cb6)
    refine own_retV X d6_41 (by decide) (by decide) ⟨rfl, ?_⟩
    exact ⟨K, E_o, F_size_o, cb6, _, _, Or.inr sz_cb6, ge_cb6, F_bytes_o, A_cb6, by omega, by omega, fun j j0 j1 => hfr6 j j0 (by omega) (by omega), fun hh => by omega⟩
  · refine own_icmpYes X (pc := 11) (pc' := 41) d6_11 (flt (own_cGe (a := v1.toInt) (b := q.toInt) rfl rfl hc2)).2.1 (by decide) (by decide) ?_
    refine own_retV X d6_41 (by decide) (by decide) ⟨rfl, ?_⟩
    exact ⟨K, E_o, F_size_o, a, N, f, Or.inl rfl, ge_a, F_bytes_o, A_a, by omega, by omega, fun _ _ _ => rfl, fun _ => ⟨rfl, rfl⟩⟩
theorem ef_rmAC (m : MethodId) (o : Addr) (q : Int32) : entryFrame m #[(.ref o), (.int q)] 2 = mkF m 0 #[.val (.ref o), .val (.int q)] [] := by first | (simp [entryFrame, mkF, argsToLocals, Value.category]; done) | rfl
theorem d5_0 : decode prog_24_method_2_code 0 = .ok (.aload_n 0, 1) := by decide +kernel
theorem d5_1 : decode prog_24_method_2_code 1 = .ok (.iconst 1, 1) := by decide +kernel
theorem d5_2 : decode prog_24_method_2_code 2 = .ok (.invokevirtual 19, 3) := by decide +kernel
theorem pd_3 : parseMethodDescriptor "(I)V" = some ⟨[.int], none⟩ := by decide +kernel
theorem d5_5 : decode prog_24_method_2_code 5 = .ok (.aload_n 0, 1) := by decide +kernel
theorem d5_6 : decode prog_24_method_2_code 6 = .ok (.getfield 13, 3) := by decide +kernel
theorem d5_9 : decode prog_24_method_2_code 9 = .ok (.aload_n 0, 1) := by decide +kernel
theorem d5_10 : decode prog_24_method_2_code 10 = .ok (.dup, 1) := by decide +kernel
theorem d5_11 : decode prog_24_method_2_code 11 = .ok (.getfield 23, 3) := by decide +kernel
theorem d5_14 : decode prog_24_method_2_code 14 = .ok (.dup_x1, 1) := by decide +kernel
theorem d5_15 : decode prog_24_method_2_code 15 = .ok (.iconst 1, 1) := by decide +kernel
theorem d5_16 : decode prog_24_method_2_code 16 = .ok (.iadd, 1) := by decide +kernel
theorem d5_17 : decode prog_24_method_2_code 17 = .ok (.putfield 23, 3) := by decide +kernel
theorem d5_20 : decode prog_24_method_2_code 20 = .ok (.iload_n 1, 1) := by decide +kernel
theorem d5_21 : decode prog_24_method_2_code 21 = .ok (.i2b, 1) := by decide +kernel
theorem d5_22 : decode prog_24_method_2_code 22 = .ok (.bastore, 1) := by decide +kernel
theorem d5_23 : decode prog_24_method_2_code 23 = .ok (.aload_n 0, 1) := by decide +kernel
theorem d5_24 : decode prog_24_method_2_code 24 = .ok (.areturn, 1) := by decide +kernel
theorem pn_5 : plainFor (⟨"com/example/shelfrun/shelfrun/index/JsonBuffer", "append", "(C)Lcom/example/shelfrun/shelfrun/index/JsonBuffer;"⟩ : MethodName) = true := plainFor_of_name (show plainName "com/example/shelfrun/shelfrun/index/JsonBuffer" = true from by first | (simp [plainName, overriddenIn]; done) | decide +kernel)
set_option maxRecDepth 65536 in
set_option maxHeartbeats 40000000 in
theorem rmAC (l : Launch) (Z : State) (a0 : Array Value) (hw : ∀ d ∈ tables_1, d.before a0 Z = true) (ws : List Jvm.Cond) (o : Addr) (q : Int32) (a : Addr) (N : Int32) (f : Int32 → Int32) (h0 : Heap) (n0 : Nat) (hn0 : n0 ≤ h0.size) (E_o : Exa Z h0 o "com/example/shelfrun/shelfrun/index/JsonBuffer") (F_bytes_o : Fld Z h0 o "com/example/shelfrun/shelfrun/index/JsonBuffer" "bytes" "[B" (.ref a)) (F_size_o : Fld Z h0 o "com/example/shelfrun/shelfrun/index/JsonBuffer" "size" "I" (.int 0)) (A_a : own_AI Z h0 a .byte N f) (ge_o : n0 ≤ o) (ge_a : n0 ≤ a) (hN1 : 16 ≤ N.toInt) (hN2 : N.toInt ≤ 23) :
    own_Met l Z (⟨"com/example/shelfrun/shelfrun/index/JsonBuffer", "append", "(C)Lcom/example/shelfrun/shelfrun/index/JsonBuffer;"⟩ : MethodName) prog_24_method_2_code 2 (some (.object "com/example/shelfrun/shelfrun/index/JsonBuffer")) ws ({ frames := 3, cells := 1, slots := 46, locals := 46 } : Room) #[(.ref o), (.int q)] h0 n0 (own_QR fun z h => z = .ref o ∧ Keep h0 h [o, a] ∧ Exa Z h o "com/example/shelfrun/shelfrun/index/JsonBuffer" ∧ Fld Z h o "com/example/shelfrun/shelfrun/index/JsonBuffer" "size" "I" (.int 1) ∧ Fld Z h o "com/example/shelfrun/shelfrun/index/JsonBuffer" "bytes" "[B" (.ref a) ∧ ∃ f' : Int32 → Int32, own_AI Z h a .byte N f' ∧ f' 0 = q.toInt8.toInt32) := by
  refine own_met pn_5 hn0 (fun p e s m below meth c T X => ?_)
  refine own_cast (ef_rmAC m o q) ?_
  have r_q := rng32 q
  have r_N := rng32 N
  have K := Keep.refl h0 [o, a]
  have ne_o_a : o ≠ a := own_ne_ai E_o (hw _ (List.mem_of_getElem? (i := 7) rfl)) A_a
  refine own_aloadN X d5_0 rfl rfl ?_
  refine own_iconst X (1) d5_1 rfl ?_
  refine own_callP X (W := 0) (a := o) (argsL := [(.int (1 : Int32))]) (rest := []) (hw _ (List.mem_of_getElem? (i := 26) rfl)) (hw _ (List.mem_of_getElem? (i := 27) rfl)) (hw _ (List.mem_of_getElem? (i := 28) rfl)) (hw _ (List.mem_of_getElem? (i := 7) rfl)) (hw _ (List.mem_of_getElem? (i := 8) rfl)) (hw _ (List.mem_of_getElem? (i := 29) rfl)) (by decide) (rm6 l Z a0 hw [] o (1 : Int32) a N f 0 h0 n0 (own_size X) E_o F_bytes_o F_size_o A_a ge_o ge_a (by decide) (by show (0 : Int) ≤ _; omega) hN1 hN2 (by decide) (by decide)) E_o (by decide) (by decide) (by decide) (by decide) rfl (lenOf pd_3 rfl) rfl (Nat.le_of_eq rfl) d5_2 (own_contVH fun T h X hq1 => ?_)
  obtain ⟨Kc, E_o, F_size_o, a', N', f1, hor, ge_a', F_bytes_o, A_n, hN', hN'', hfr, hsame⟩ := hq1
  obtain ⟨ha', hN3⟩ := hsame (show (1 : Int) + 0 ≤ N.toInt from by omega)
  rw [ha'] at F_bytes_o A_n
  rw [hN3] at A_n
  have K := K.trans Kc (allS (Or.inl (List.mem_of_getElem? (i := 0) rfl)) all0)
  have A_a := A_n
  refine own_aloadN X d5_5 rfl rfl ?_
  refine own_getF X (host := "") (Or.inl (hw _ (List.mem_of_getElem? (i := 19) rfl))) Via.refl F_bytes_o d5_6 (fun T X => ?_)
  refine own_aloadN X d5_9 rfl rfl ?_
  refine own_dup X d5_10 rfl ?_
  refine own_getF X (host := "") (Or.inl (hw _ (List.mem_of_getElem? (i := 30) rfl))) Via.refl F_size_o d5_11 (fun T X => ?_)
  refine own_dupX1 X d5_14 rfl rfl ?_
  refine own_iconst X (1) d5_15 rfl ?_
  refine own_iaddE X d5_16 (1 : Int32) (by decide) ?_
  refine own_putF X (host := "") (Or.inl (hw _ (List.mem_of_getElem? (i := 30) rfl))) Via.refl F_size_o E_o (Or.inl (hw _ (List.mem_of_getElem? (i := 31) rfl))) (hw _ (List.mem_of_getElem? (i := 7) rfl)) (ty := .int) (by decide) rfl rfl ge_o d5_17 (fun T h X W => ?_)
  have F_size_o := F_size_o.same W
  have K := K.wr W (Or.inl (List.mem_of_getElem? (i := 0) rfl))
  have E_o := E_o.wr W
  have A_a := A_a.other W (Ne.symm ne_o_a)
  have F_bytes_o := F_bytes_o.other W (Or.inr (slot_ne (C := "com/example/shelfrun/shelfrun/index/JsonBuffer") (Or.inl (hw _ (List.mem_of_getElem? (i := 20) rfl))) (Or.inl (hw _ (List.mem_of_getElem? (i := 31) rfl))) (by decide) (t := (.array .byte)) (t' := .int) (by decide) (by decide)))
  refine own_iloadN X d5_20 rfl ?_
  refine own_i2bV X (q.toInt) d5_21 rfl (fun v2 hv2 cv2 lv2 uv2 => ?_)
  refine own_bastore X A_a (own_cGe (a := 0) (b := 0) rfl rfl (by omega)) (own_cLt (a := 0) (b := N.toInt) rfl rfl (by omega)) ge_a (x' := v2) (by rw [← hv2]; exact own_i2b2 _) d5_22 (fun T h X f3 hf3 A_a W => ?_)
  have K := K.wr W (Or.inl (List.mem_of_getElem? (i := 1) rfl))
  have E_o := E_o.wr W
  have F_bytes_o := F_bytes_o.other W (Or.inl ne_o_a)
  have F_size_o := F_size_o.other W (Or.inl ne_o_a)
  refine own_aloadN X d5_23 rfl rfl ?_
  refine own_retR X rfl rfl d5_24 (by decide) (by decide) ⟨_, rfl, ?_⟩
  exact ⟨rfl, K, E_o, F_size_o, F_bytes_o, f3, A_a, by rw [hf3, own_upd_hit, ← hv2]⟩
theorem ef_rmAB (m : MethodId) (o : Addr) (d : Addr) (q : Int32) : entryFrame m #[(.ref o), (.ref d), (.int q)] 3 = mkF m 0 #[.val (.ref o), .val (.ref d), .val (.int q)] [] := by first | (simp [entryFrame, mkF, argsToLocals, Value.category]; done) | rfl
theorem d7_0 : decode prog_24_method_11_code 0 = .ok (.aload_n 0, 1) := by decide +kernel
theorem d7_1 : decode prog_24_method_11_code 1 = .ok (.iload_n 2, 1) := by decide +kernel
theorem d7_2 : decode prog_24_method_11_code 2 = .ok (.invokevirtual 19, 3) := by decide +kernel
theorem d7_5 : decode prog_24_method_11_code 5 = .ok (.aload_n 1, 1) := by decide +kernel
theorem d7_6 : decode prog_24_method_11_code 6 = .ok (.iconst 0, 1) := by decide +kernel
theorem d7_7 : decode prog_24_method_11_code 7 = .ok (.aload_n 0, 1) := by decide +kernel
theorem d7_8 : decode prog_24_method_11_code 8 = .ok (.getfield 13, 3) := by decide +kernel
theorem d7_11 : decode prog_24_method_11_code 11 = .ok (.aload_n 0, 1) := by decide +kernel
theorem d7_12 : decode prog_24_method_11_code 12 = .ok (.getfield 23, 3) := by decide +kernel
theorem d7_15 : decode prog_24_method_11_code 15 = .ok (.iload_n 2, 1) := by decide +kernel
theorem d7_16 : decode prog_24_method_11_code 16 = .ok (.invokestatic 50, 3) := by decide +kernel
theorem d7_19 : decode prog_24_method_11_code 19 = .ok (.aload_n 0, 1) := by decide +kernel
theorem d7_20 : decode prog_24_method_11_code 20 = .ok (.dup, 1) := by decide +kernel
theorem d7_21 : decode prog_24_method_11_code 21 = .ok (.getfield 23, 3) := by decide +kernel
theorem d7_24 : decode prog_24_method_11_code 24 = .ok (.iload_n 2, 1) := by decide +kernel
theorem d7_25 : decode prog_24_method_11_code 25 = .ok (.iadd, 1) := by decide +kernel
theorem d7_26 : decode prog_24_method_11_code 26 = .ok (.putfield 23, 3) := by decide +kernel
theorem d7_29 : decode prog_24_method_11_code 29 = .ok (.aload_n 0, 1) := by decide +kernel
theorem d7_30 : decode prog_24_method_11_code 30 = .ok (.areturn, 1) := by decide +kernel
theorem pn_7 : plainFor (⟨"com/example/shelfrun/shelfrun/index/JsonBuffer", "append", "([BI)Lcom/example/shelfrun/shelfrun/index/JsonBuffer;"⟩ : MethodName) = true := plainFor_of_name (show plainName "com/example/shelfrun/shelfrun/index/JsonBuffer" = true from by first | (simp [plainName, overriddenIn]; done) | decide +kernel)
set_option maxRecDepth 65536 in
set_option maxHeartbeats 40000000 in
theorem rmAB (l : Launch) (Z : State) (a0 : Array Value) (hw : ∀ d ∈ tables_1, d.before a0 Z = true) (ws : List Jvm.Cond) (o : Addr) (d : Addr) (q : Int32) (a : Addr) (N : Int32) (f : Int32 → Int32) (fd : Int32 → Int32) (h0 : Heap) (n0 : Nat) (hn0 : n0 ≤ h0.size) (E_o : Exa Z h0 o "com/example/shelfrun/shelfrun/index/JsonBuffer") (F_bytes_o : Fld Z h0 o "com/example/shelfrun/shelfrun/index/JsonBuffer" "bytes" "[B" (.ref a)) (F_size_o : Fld Z h0 o "com/example/shelfrun/shelfrun/index/JsonBuffer" "size" "I" (.int 1)) (A_a : own_AI Z h0 a .byte N f) (ge_o : n0 ≤ o) (ge_a : n0 ≤ a) (A_d : own_AI Z h0 d .byte 24 fd) (ne_a_d : a ≠ d) (hN1 : 16 ≤ N.toInt) (hN2 : N.toInt ≤ 23) (hq1 : 0 ≤ q.toInt) (hq2 : q.toInt ≤ 24) :
    own_Met l Z (⟨"com/example/shelfrun/shelfrun/index/JsonBuffer", "append", "([BI)Lcom/example/shelfrun/shelfrun/index/JsonBuffer;"⟩ : MethodName) prog_24_method_11_code 3 (some (.object "com/example/shelfrun/shelfrun/index/JsonBuffer")) ws ({ frames := 3, cells := 1, slots := 46, locals := 46 } : Room) #[(.ref o), (.ref d), (.int q)] h0 n0 (own_QR fun z h => z = .ref o ∧ Keep h0 h [o, a] ∧ Exa Z h o "com/example/shelfrun/shelfrun/index/JsonBuffer" ∧ ∃ (sz' : Int32) (a' : Addr) (N' : Int32) (f' : Int32 → Int32), Fld Z h o "com/example/shelfrun/shelfrun/index/JsonBuffer" "size" "I" (.int sz') ∧ sz'.toInt = 1 + q.toInt ∧ (a' = a ∨ h0.size ≤ a') ∧ n0 ≤ a' ∧ Fld Z h o "com/example/shelfrun/shelfrun/index/JsonBuffer" "bytes" "[B" (.ref a') ∧ own_AI Z h a' .byte N' f' ∧ 1 + q.toInt ≤ N'.toInt ∧ N'.toInt ≤ 46 ∧ f' 0 = f 0 ∧ ∀ j : Int32, 1 ≤ j.toInt → j.toInt < 1 + q.toInt → f' j = fd (Int32.ofInt (j.toInt - 1))) := by
  refine own_met pn_7 hn0 (fun p e s m below meth c T X => ?_)
  refine own_cast (ef_rmAB m o d q) ?_
  have r_q := rng32 q
  have r_N := rng32 N
  have K := Keep.refl h0 [o, a]
  have ne_o_a : o ≠ a := own_ne_ai E_o (hw _ (List.mem_of_getElem? (i := 7) rfl)) A_a
  have ne_o_d : o ≠ d := own_ne_ai E_o (hw _ (List.mem_of_getElem? (i := 7) rfl)) A_d
  have ltd := A_d.lt
  refine own_aloadN X d7_0 rfl rfl ?_
  refine own_iloadN X d7_1 rfl ?_
  refine own_callP X (W := 0) (a := o) (argsL := [(.int q)]) (rest := []) (hw _ (List.mem_of_getElem? (i := 26) rfl)) (hw _ (List.mem_of_getElem? (i := 27) rfl)) (hw _ (List.mem_of_getElem? (i := 28) rfl)) (hw _ (List.mem_of_getElem? (i := 7) rfl)) (hw _ (List.mem_of_getElem? (i := 8) rfl)) (hw _ (List.mem_of_getElem? (i := 29) rfl)) (by decide) (rm6 l Z a0 hw [] o q a N f 1 h0 n0 (own_size X) E_o F_bytes_o F_size_o A_a ge_o ge_a (by decide) (by show (1 : Int) ≤ _; omega) hN1 hN2 hq1 (by show q.toInt + 1 ≤ 46; omega)) E_o (by decide) (by decide) (by decide) (by decide) rfl (lenOf pd_3 rfl) rfl (Nat.le_of_eq rfl) d7_2 (own_contVH fun T h X hq1 => ?_)
  obtain ⟨Kc, E_o, F_size_o, a', N', f1, hor, ge_a', F_bytes_o, A_a', hN3, hN4, hfr, hsame⟩ := hq1
  have hN3 : q.toInt + 1 ≤ N'.toInt := hN3
  have K := K.trans Kc (allS (Or.inl (List.mem_of_getElem? (i := 0) rfl)) all0)
  have A_d := A_d.keep Kc (ninS (Ne.symm ne_o_d) nin0)
  have ne_o_a' : o ≠ a' := own_ne_ai E_o (hw _ (List.mem_of_getElem? (i := 7) rfl)) A_a'
  have ne_a'_d : a' ≠ d := hor.elim (fun q => q ▸ ne_a_d) (fun q => Nat.ne_of_gt (Nat.lt_of_lt_of_le ltd q))
  have r_N' := rng32 N'
  refine own_aloadN X d7_5 rfl rfl ?_
  refine own_iconst X (0) d7_6 rfl ?_
  refine own_aloadN X d7_7 rfl rfl ?_
  refine own_getF X (host := "") (Or.inl (hw _ (List.mem_of_getElem? (i := 19) rfl))) Via.refl F_bytes_o d7_8 (fun T X => ?_)
  refine own_aloadN X d7_11 rfl rfl ?_
  refine own_getF X (host := "") (Or.inl (hw _ (List.mem_of_getElem? (i := 30) rfl))) Via.refl F_size_o d7_12 (fun T X => ?_)
  refine own_iloadN X d7_15 rfl ?_
  refine own_copyB X (W := 0) (hw _ (List.mem_of_getElem? (i := 37) rfl)) (hw _ (List.mem_of_getElem? (i := 40) rfl)) (hw _ (List.mem_of_getElem? (i := 38) rfl)) (hw _ (List.mem_of_getElem? (i := 39) rfl)) A_d A_a' (show 0 ≤ 0 from by omega) (show 0 ≤ 1 from by omega) (show 0 ≤ q.toInt from by omega) (show 0 + q.toInt ≤ 24 from by omega) (show 1 + q.toInt ≤ N'.toInt from by omega) ge_a' rfl d7_16 (by decide) (Nat.le_of_eq rfl) (by decide) (fun T h f2 X Kc A_a' hcp2 => ?_)
  have K := K.trans Kc (allS (hor.elim (fun q => Or.inl (by rw [q]; exact List.mem_of_getElem? (i := 1) rfl)) Or.inr) all0)
  have E_o := E_o.keep Kc
  have A_d := A_d.keep Kc (ninS (Ne.symm ne_a'_d) nin0)
  have F_bytes_o := F_bytes_o.keep Kc (ninS ne_o_a' nin0)
  have F_size_o := F_size_o.keep Kc (ninS ne_o_a' nin0)
  refine own_aloadN X d7_19 rfl rfl ?_
  refine own_dup X d7_20 rfl ?_
  refine own_getF X (host := "") (Or.inl (hw _ (List.mem_of_getElem? (i := 30) rfl))) Via.refl F_size_o d7_21 (fun T X => ?_)
  refine own_iloadN X d7_24 rfl ?_
  refine own_iaddV X (1) (q.toInt) d7_25 rfl rfl (fun v3 hv3 cv3 lv3 uv3 => ?_)
  refine own_putF X (host := "") (Or.inl (hw _ (List.mem_of_getElem? (i := 30) rfl))) Via.refl F_size_o E_o (Or.inl (hw _ (List.mem_of_getElem? (i := 31) rfl))) (hw _ (List.mem_of_getElem? (i := 7) rfl)) (ty := .int) (by decide) rfl rfl ge_o d7_26 (fun T h X W => ?_)
  have F_size_o := F_size_o.same W
  have K := K.wr W (Or.inl (List.mem_of_getElem? (i := 0) rfl))
  have E_o := E_o.wr W
  have A_d := A_d.other W (Ne.symm ne_o_d)
  have F_bytes_o := F_bytes_o.other W (Or.inr (slot_ne (C := "com/example/shelfrun/shelfrun/index/JsonBuffer") (Or.inl (hw _ (List.mem_of_getElem? (i := 20) rfl))) (Or.inl (hw _ (List.mem_of_getElem? (i := 31) rfl))) (by decide) (t := (.array .byte)) (t' := .int) (by decide) (by decide)))
  have A_a' := A_a'.other W (Ne.symm ne_o_a')
  refine own_aloadN X d7_29 rfl rfl ?_
  refine own_retR X rfl rfl d7_30 (by decide) (by decide) ⟨_, rfl, ?_⟩
  have l1 : (1 : Int32).toInt = 1 := rfl
  have l0 : (0 : Int32).toInt = 0 := rfl
  refine ⟨rfl, K, E_o, v3, a', N', f2, F_size_o, by omega, hor, ge_a', F_bytes_o, A_a', by omega, hN4, ?_, fun j j1 j2 => ?_⟩
  · rw [hcp2 0 (by decide) (by rw [l0]; omega), if_neg (by rw [l0, l1]; omega)]
    exact hfr 0 (by decide) (by decide)
  · rw [hcp2 j (by omega) (by omega), if_pos (by rw [l1]; omega), l0, l1, Int.zero_add]
theorem ef_rm8 (m : MethodId) (o : Addr) (q : Int32) : entryFrame m #[(.ref o), (.int q)] 2 = mkF m 0 #[.val (.ref o), .val (.int q)] [] := by first | (simp [entryFrame, mkF, argsToLocals, Value.category]; done) | rfl
theorem d8_0 : decode prog_24_method_7_code 0 = .ok (.aload_n 0, 1) := by decide +kernel
theorem d8_1 : decode prog_24_method_7_code 1 = .ok (.iload_n 1, 1) := by decide +kernel
theorem d8_2 : decode prog_24_method_7_code 2 = .ok (.putfield 23, 3) := by decide +kernel
theorem d8_5 : decode prog_24_method_7_code 5 = .ok (.return_, 1) := by decide +kernel
theorem pn_8 : plainFor (⟨"com/example/shelfrun/shelfrun/index/JsonBuffer", "truncate", "(I)V"⟩ : MethodName) = true := plainFor_of_name (show plainName "com/example/shelfrun/shelfrun/index/JsonBuffer" = true from by first | (simp [plainName, overriddenIn]; done) | decide +kernel)
set_option maxRecDepth 65536 in
set_option maxHeartbeats 40000000 in
theorem rm8 (l : Launch) (Z : State) (a0 : Array Value) (hw : ∀ d ∈ tables_1, d.before a0 Z = true) (ws : List Jvm.Cond) (o : Addr) (q : Int32) (a : Addr) (sz : Int32) (h0 : Heap) (n0 : Nat) (hn0 : n0 ≤ h0.size) (E_o : Exa Z h0 o "com/example/shelfrun/shelfrun/index/JsonBuffer") (F_bytes_o : Fld Z h0 o "com/example/shelfrun/shelfrun/index/JsonBuffer" "bytes" "[B" (.ref a)) (F_size_o : Fld Z h0 o "com/example/shelfrun/shelfrun/index/JsonBuffer" "size" "I" (.int sz)) (ge_o : n0 ≤ o) :
    own_Met l Z (⟨"com/example/shelfrun/shelfrun/index/JsonBuffer", "truncate", "(I)V"⟩ : MethodName) prog_24_method_7_code 2 none ws ({ frames := 0, cells := 0, slots := 0, locals := 0 } : Room) #[(.ref o), (.int q)] h0 n0 (own_QV fun h => Keep h0 h [o] ∧ Exa Z h o "com/example/shelfrun/shelfrun/index/JsonBuffer" ∧ Fld Z h o "com/example/shelfrun/shelfrun/index/JsonBuffer" "size" "I" (.int q) ∧ Fld Z h o "com/example/shelfrun/shelfrun/index/JsonBuffer" "bytes" "[B" (.ref a)) := by
  refine own_met pn_8 hn0 (fun p e s m below meth c T X => ?_)
  refine own_cast (ef_rm8 m o q) ?_
  have r_q := rng32 q
  have r_sz := rng32 sz
  have K := Keep.refl h0 [o]
  refine own_aloadN X d8_0 rfl rfl ?_
  refine own_iloadN X d8_1 rfl ?_
  refine own_putF X (host := "") (Or.inl (hw _ (List.mem_of_getElem? (i := 30) rfl))) Via.refl F_size_o E_o (Or.inl (hw _ (List.mem_of_getElem? (i := 31) rfl))) (hw _ (List.mem_of_getElem? (i := 7) rfl)) (ty := .int) (by decide) rfl rfl ge_o d8_2 (fun T h X W => ?_)
  have F_size_o := F_size_o.same W
  have K := K.wr W (Or.inl (List.mem_of_getElem? (i := 0) rfl))
  have E_o := E_o.wr W
  have F_bytes_o := F_bytes_o.other W (Or.inr (slot_ne (C := "com/example/shelfrun/shelfrun/index/JsonBuffer") (Or.inl (hw _ (List.mem_of_getElem? (i := 20) rfl))) (Or.inl (hw _ (List.mem_of_getElem? (i := 31) rfl))) (by decide) (t := (.array .byte)) (t' := .int) (by decide) (by decide)))
  refine own_retV X d8_5 (by decide) (by decide) ⟨rfl, ?_⟩
  exact ⟨K, E_o, F_size_o, F_bytes_o⟩
theorem ef_rm9 (m : MethodId) (o : Addr) : entryFrame m #[(.ref o)] 2 = mkF m 0 #[.val (.ref o), .unset] [] := by first | (simp [entryFrame, mkF, argsToLocals, Value.category]; done) | rfl
theorem d9_0 : decode prog_24_method_10_code 0 = .ok (.aload_n 0, 1) := by decide +kernel
theorem d9_1 : decode prog_24_method_10_code 1 = .ok (.getfield 23, 3) := by decide +kernel
theorem d9_4 : decode prog_24_method_10_code 4 = .ok (.aload_n 0, 1) := by decide +kernel
theorem d9_5 : decode prog_24_method_10_code 5 = .ok (.getfield 13, 3) := by decide +kernel
theorem d9_8 : decode prog_24_method_10_code 8 = .ok (.arraylength, 1) := by decide +kernel
theorem d9_9 : decode prog_24_method_10_code 9 = .ok (.if_icmp .ne 10, 3) := by decide +kernel
theorem d9_12 : decode prog_24_method_10_code 12 = .ok (.aload_n 0, 1) := by decide +kernel
theorem d9_13 : decode prog_24_method_10_code 13 = .ok (.getfield 13, 3) := by decide +kernel
theorem d9_16 : decode prog_24_method_10_code 16 = .ok (.goto 14, 3) := by decide +kernel
theorem d9_30 : decode prog_24_method_10_code 30 = .ok (.astore_n 1, 1) := by decide +kernel
theorem d9_31 : decode prog_24_method_10_code 31 = .ok (.aload_n 0, 1) := by decide +kernel
theorem d9_32 : decode prog_24_method_10_code 32 = .ok (.aconst_null, 1) := by decide +kernel
theorem d9_33 : decode prog_24_method_10_code 33 = .ok (.putfield 13, 3) := by decide +kernel
theorem d9_36 : decode prog_24_method_10_code 36 = .ok (.aload_n 1, 1) := by decide +kernel
theorem d9_37 : decode prog_24_method_10_code 37 = .ok (.areturn, 1) := by decide +kernel
theorem d9_19 : decode prog_24_method_10_code 19 = .ok (.aload_n 0, 1) := by decide +kernel
theorem d9_20 : decode prog_24_method_10_code 20 = .ok (.getfield 13, 3) := by decide +kernel
theorem d9_23 : decode prog_24_method_10_code 23 = .ok (.aload_n 0, 1) := by decide +kernel
theorem d9_24 : decode prog_24_method_10_code 24 = .ok (.getfield 23, 3) := by decide +kernel
theorem d9_27 : decode prog_24_method_10_code 27 = .ok (.invokestatic 66, 3) := by decide +kernel
theorem pn_9 : plainFor (⟨"com/example/shelfrun/shelfrun/index/JsonBuffer", "release", "()[B"⟩ : MethodName) = true := plainFor_of_name (show plainName "com/example/shelfrun/shelfrun/index/JsonBuffer" = true from by first | (simp [plainName, overriddenIn]; done) | decide +kernel)
set_option maxRecDepth 65536 in
set_option maxHeartbeats 40000000 in
theorem rm9 (l : Launch) (Z : State) (a0 : Array Value) (hw : ∀ d ∈ tables_1, d.before a0 Z = true) (ws : List Jvm.Cond) (o : Addr) (a : Addr) (N : Int32) (f : Int32 → Int32) (sz : Int32) (h0 : Heap) (n0 : Nat) (hn0 : n0 ≤ h0.size) (E_o : Exa Z h0 o "com/example/shelfrun/shelfrun/index/JsonBuffer") (F_bytes_o : Fld Z h0 o "com/example/shelfrun/shelfrun/index/JsonBuffer" "bytes" "[B" (.ref a)) (F_size_o : Fld Z h0 o "com/example/shelfrun/shelfrun/index/JsonBuffer" "size" "I" (.int sz)) (A_a : own_AI Z h0 a .byte N f) (ge_o : n0 ≤ o) (ge_a : n0 ≤ a) (hs0 : 0 ≤ sz.toInt) (hsN : sz.toInt ≤ N.toInt) (hs2 : sz.toInt ≤ 46) :
    own_Met l Z (⟨"com/example/shelfrun/shelfrun/index/JsonBuffer", "release", "()[B"⟩ : MethodName) prog_24_method_10_code 2 (some (.array .byte)) ws ({ frames := 2, cells := 1, slots := 46, locals := 32 } : Room) #[(.ref o)] h0 n0 (own_QR fun z h => Keep h0 h [o] ∧ ∃ (b : Addr) (f' : Int32 → Int32), z = .ref b ∧ (b = a ∨ h0.size ≤ b) ∧ own_AI Z h b .byte sz f' ∧ ∀ j : Int32, 0 ≤ j.toInt → j.toInt < sz.toInt → f' j = f j) := by
  refine own_met pn_9 hn0 (fun p e s m below meth c T X => ?_)
  refine own_cast (ef_rm9 m o) ?_
  have r_N := rng32 N
  have r_sz := rng32 sz
  have K := Keep.refl h0 [o]
  have ne_o_a : o ≠ a := own_ne_ai E_o (hw _ (List.mem_of_getElem? (i := 7) rfl)) A_a
  refine own_aloadN X d9_0 rfl rfl ?_
  refine own_getF X (host := "") (Or.inl (hw _ (List.mem_of_getElem? (i := 30) rfl))) Via.refl F_size_o d9_1 (fun T X => ?_)
  refine own_aloadN X d9_4 rfl rfl ?_
  refine own_getF X (host := "") (Or.inl (hw _ (List.mem_of_getElem? (i := 19) rfl))) Via.refl F_bytes_o d9_5 (fun T X => ?_)
  refine own_alen X A_a d9_8 ?_
  by_cases hc1 : sz.toInt = N.toInt
  · refine own_icmpNo X d9_9 (teq (own_cEq (a := sz.toInt) (b := N.toInt) rfl rfl hc1)).2 ?_
    refine own_aloadN X d9_12 rfl rfl ?_
    refine own_getF X (host := "") (Or.inl (hw _ (List.mem_of_getElem? (i := 19) rfl))) Via.refl F_bytes_o d9_13 (fun T X => ?_)
    refine own_goto X (pc := 16) (pc' := 30) d9_16 (by decide) (by decide) ?_
    refine own_astoreN X d9_30 rfl (L' := #[.val (.ref o), .val (.ref a)]) rfl ?_
    refine own_aloadN X d9_31 rfl rfl ?_
    refine own_aconstNull X d9_32 ?_
    refine own_putF X (host := "") (Or.inl (hw _ (List.mem_of_getElem? (i := 19) rfl))) Via.refl F_bytes_o E_o (Or.inl (hw _ (List.mem_of_getElem? (i := 20) rfl))) (hw _ (List.mem_of_getElem? (i := 7) rfl)) (ty := (.array .byte)) (by decide) rfl rfl ge_o d9_33 (fun T h X W => ?_)
    have F_bytes_o := F_bytes_o.same W
    have K := K.wr W (Or.inl (List.mem_of_getElem? (i := 0) rfl))
    have E_o := E_o.wr W
    have F_size_o := F_size_o.other W (Or.inr (slot_ne (C := "com/example/shelfrun/shelfrun/index/JsonBuffer") (Or.inl (hw _ (List.mem_of_getElem? (i := 31) rfl))) (Or.inl (hw _ (List.mem_of_getElem? (i := 20) rfl))) (by decide) (t := .int) (t' := (.array .byte)) (by decide) (by decide)))
    have A_a := A_a.other W (Ne.symm ne_o_a)
    refine own_aloadN X d9_36 rfl rfl ?_
    refine own_retR X rfl rfl d9_37 (by decide) (by decide) ⟨_, rfl, ?_⟩
    exact ⟨K, a, f, rfl, Or.inl rfl, (own_cEq (x := N) (y := sz) (a := N.toInt) (b := sz.toInt) rfl rfl (by omega)) ▸ A_a, fun _ _ _ => rfl⟩
  · refine own_icmpYes X (pc := 9) (pc' := 19) d9_9 (feq (own_cNe (a := sz.toInt) (b := N.toInt) rfl rfl hc1)).2 (by decide) (by decide) ?_
    refine own_aloadN X d9_19 rfl rfl ?_
    refine own_getF X (host := "") (Or.inl (hw _ (List.mem_of_getElem? (i := 19) rfl))) Via.refl F_bytes_o d9_20 (fun T X => ?_)
    refine own_aloadN X d9_23 rfl rfl ?_
    refine own_getF X (host := "") (Or.inl (hw _ (List.mem_of_getElem? (i := 30) rfl))) Via.refl F_size_o d9_24 (fun T X => ?_)
    refine own_callS X (W := 0) (argsL := [(.ref a), (.int sz)]) (rest := []) (hw _ (List.mem_of_getElem? (i := 51) rfl)) (hw _ (List.mem_of_getElem? (i := 52) rfl)) (hw _ (List.mem_of_getElem? (i := 53) rfl)) (hw _ (List.mem_of_getElem? (i := 54) rfl)) (by decide) (rm10 l Z a0 hw [] a sz N f h0 n0 (own_size X) A_a (by omega) (by omega) (by omega) (by omega)) (by decide) (by decide) (by decide) (by decide) rfl (lenOf pd_9 rfl) rfl (Nat.le_of_eq rfl) d9_27 (own_contRH fun T h v2 X hq2 => ?_)
    obtain ⟨Kc, cb2, cf2, rfl, hsz2, ge_cb2, A_cb2, hfr2⟩ := hq2
    have K := K.trans Kc all0
    have E_o := E_o.keep Kc
    have F_bytes_o := F_bytes_o.keep Kc nin0
    have F_size_o := F_size_o.keep Kc nin0
    have A_a := A_a.keep Kc nin0
    have ne_o_cb2 : o ≠ cb2 := own_ne_ai E_o (hw _ (List.mem_of_getElem? (i := 7) rfl)) A_cb2
    have sz_cb2 : h0.size ≤ cb2 := Nat.le_trans (Nat.le_refl _) hsz2
    refine own_astoreN X d9_30 rfl (L' := #[.val (.ref o), .val (.ref cb2)]) rfl ?_
    refine own_aloadN X d9_31 rfl rfl ?_
    refine own_aconstNull X d9_32 ?_
    refine own_putF X (host := "") (Or.inl (hw _ (List.mem_of_getElem? (i := 19) rfl))) Via.refl F_bytes_o E_o (Or.inl (hw _ (List.mem_of_getElem? (i := 20) rfl))) (hw _ (List.mem_of_getElem? (i := 7) rfl)) (ty := (.array .byte)) (by decide) rfl rfl ge_o d9_33 (fun T h X W => ?_)
    have F_bytes_o := F_bytes_o.same W
    have K := K.wr W (Or.inl (List.mem_of_getElem? (i := 0) rfl))
    have E_o := E_o.wr W
    have F_size_o := F_size_o.other W (Or.inr (slot_ne (C := "com/example/shelfrun/shelfrun/index/JsonBuffer") (Or.inl (hw _ (List.mem_of_getElem? (i := 31) rfl))) (Or.inl (hw _ (List.mem_of_getElem? (i := 20) rfl))) (by decide) (t := .int) (t' := (.array .byte)) (by decide) (by decide)))
    have A_a := A_a.other W (Ne.symm ne_o_a)
    have A_cb2 := A_cb2.other W (Ne.symm ne_o_cb2)
    refine own_aloadN X d9_36 rfl rfl ?_
    refine own_retR X rfl rfl d9_37 (by decide) (by decide) ⟨_, rfl, ?_⟩
    exact ⟨K, cb2, _, rfl, Or.inr sz_cb2, A_cb2, fun j j0 j1 => hfr2 j j0 (by omega) (by omega)⟩
theorem ef_rm12 (m : MethodId) (o : Addr) (q : Int32) (u : Int32) : entryFrame m #[(.ref o), (.int q), (.int u)] 3 = mkF m 0 #[.val (.ref o), .val (.int q), .val (.int u)] [] := by first | (simp [entryFrame, mkF, argsToLocals, Value.category]; done) | rfl
theorem d12_0 : decode method_3_code 0 = .ok (.iload_n 1, 1) := by decide +kernel
theorem d12_1 : decode method_3_code 1 = .ok (.aload_n 0, 1) := by decide +kernel
theorem d12_2 : decode method_3_code 2 = .ok (.arraylength, 1) := by decide +kernel
theorem d12_3 : decode method_3_code 3 = .ok (.if_icmp .ge 10, 3) := by decide +kernel
theorem d12_6 : decode method_3_code 6 = .ok (.aload_n 0, 1) := by decide +kernel
theorem d12_7 : decode method_3_code 7 = .ok (.iload_n 1, 1) := by decide +kernel
theorem d12_8 : decode method_3_code 8 = .ok (.baload, 1) := by decide +kernel
theorem d12_9 : decode method_3_code 9 = .ok (.iload_n 2, 1) := by decide +kernel
theorem d12_10 : decode method_3_code 10 = .ok (.if_icmp .ne 7, 3) := by decide +kernel
theorem d12_13 : decode method_3_code 13 = .ok (.iconst 1, 1) := by decide +kernel
theorem d12_14 : decode method_3_code 14 = .ok (.goto 4, 3) := by decide +kernel
theorem d12_18 : decode method_3_code 18 = .ok (.ireturn, 1) := by decide +kernel
theorem pn_12 : plainFor (⟨"com/example/shelfrun/shelfrun/index/JsonBufferReleasePinLaw", "ok", "([BIB)Z"⟩ : MethodName) = true := plainFor_of_name (show plainName "com/example/shelfrun/shelfrun/index/JsonBufferReleasePinLaw" = true from by first | (simp [plainName, overriddenIn]; done) | decide +kernel)
set_option maxRecDepth 65536 in
set_option maxHeartbeats 40000000 in
theorem rm12 (l : Launch) (Z : State) (a0 : Array Value) (hw : ∀ d ∈ tables_1, d.before a0 Z = true) (ws : List Jvm.Cond) (o : Addr) (q : Int32) (u : Int32) (N : Int32) (f : Int32 → Int32) (h0 : Heap) (n0 : Nat) (hn0 : n0 ≤ h0.size) (A_o : own_AI Z h0 o .byte N f) (hq : 0 ≤ q.toInt) (H : q.toInt < N.toInt → f q = u) :
    own_Met l Z (⟨"com/example/shelfrun/shelfrun/index/JsonBufferReleasePinLaw", "ok", "([BIB)Z"⟩ : MethodName) method_3_code 3 (some .boolean) ws ({ frames := 0, cells := 0, slots := 0, locals := 0 } : Room) #[(.ref o), (.int q), (.int u)] h0 n0 (own_QI fun z h => (z = 1) ∧ h = h0) := by
  refine own_met pn_12 hn0 (fun p e s m below meth c T X => ?_)
  refine own_cast (ef_rm12 m o q u) ?_
  have r_q := rng32 q
  have r_u := rng32 u
  have r_N := rng32 N
  refine own_iloadN X d12_0 rfl ?_
  refine own_aloadN X d12_1 rfl rfl ?_
  refine own_alen X A_o d12_2 ?_
  by_cases hc1 : q.toInt < N.toInt
  · refine own_icmpNo X d12_3 (tlt (own_cLt (a := q.toInt) (b := N.toInt) rfl rfl hc1)).2.1 ?_
    refine own_aloadN X d12_6 rfl rfl ?_
    refine own_iloadN X d12_7 rfl ?_
    refine own_baload X A_o (own_cGe (a := q.toInt) (b := 0) rfl rfl (by omega)) (own_cLt (a := q.toInt) (b := N.toInt) rfl rfl (by omega)) d12_8 (fun v2 hv2 lv2 uv2 => ?_)
    refine own_iloadN X d12_9 rfl ?_
    have hc3 : v2.toInt = u.toInt := by have hv := congrArg Int32.toInt (H (by omega)); rw [hv2] at hv; exact hv
    refine own_icmpNo X d12_10 (teq (own_cEq (a := v2.toInt) (b := u.toInt) rfl rfl hc3)).2 ?_
    refine own_iconst X (1) d12_13 rfl ?_
    refine own_goto X (pc := 14) (pc' := 18) d12_14 (by decide) (by decide) ?_
    refine own_retN (t := .boolean) X (z' := (1 : Int32)) (Or.inl rfl) rfl rfl d12_18 (by decide) (by decide) ⟨_, rfl, ?_⟩
    exact ⟨rfl, rfl⟩
  · refine own_icmpYes X (pc := 3) (pc' := 13) d12_3 (flt (own_cGe (a := q.toInt) (b := N.toInt) rfl rfl hc1)).2.1 (by decide) (by decide) ?_
    refine own_iconst X (1) d12_13 rfl ?_
    refine own_goto X (pc := 14) (pc' := 18) d12_14 (by decide) (by decide) ?_
    refine own_retN (t := .boolean) X (z' := (1 : Int32)) (Or.inl rfl) rfl rfl d12_18 (by decide) (by decide) ⟨_, rfl, ?_⟩
    exact ⟨rfl, rfl⟩
theorem ef_rm0 (m : MethodId) (x0 : Int32) (x1 : Int32) (x2 : Int32) (x3 : Int32) (x4 : Int32) (x5 : Int32) : entryFrame m #[(.int x0), (.int x1), (.int x2), (.int x3), (.int x4), (.int x5)] maxLocals = mkF m 0 #[.val (.int x0), .val (.int x1), .val (.int x2), .val (.int x3), .val (.int x4), .val (.int x5), .unset, .unset, .unset, .unset, .unset, .unset, .unset, .unset] [] := by first | (simp [entryFrame, mkF, argsToLocals, Value.category, maxLocals]; done) | rfl
theorem pd_5 : parseMethodDescriptor "(III)B" = some ⟨[.int, .int, .int], some .byte⟩ := by decide +kernel
theorem pd_2 : parseMethodDescriptor "(C)Lcom/example/shelfrun/shelfrun/index/JsonBuffer;" = some ⟨[.char], some (.object "com/example/shelfrun/shelfrun/index/JsonBuffer")⟩ := by decide +kernel
theorem pd_8 : parseMethodDescriptor "([BI)Lcom/example/shelfrun/shelfrun/index/JsonBuffer;" = some ⟨[(.array .byte), .int], some (.object "com/example/shelfrun/shelfrun/index/JsonBuffer")⟩ := by decide +kernel
theorem pd_1 : parseMethodDescriptor "()[B" = some ⟨[], some (.array .byte)⟩ := by decide +kernel
theorem pd_10 : parseMethodDescriptor "([BIB)Z" = some ⟨[(.array .byte), .int, .byte], some .boolean⟩ := by decide +kernel
theorem pn_0 : plainFor x = true := plainFor_of_name (show plainName "com/example/shelfrun/shelfrun/index/JsonBufferReleasePinLaw" = true from by first | (simp [plainName, overriddenIn]; done) | decide +kernel)
set_option maxRecDepth 65536 in
set_option maxHeartbeats 40000000 in
theorem rm0 (l : Launch) (Z : State) (a0 : Array Value) (hw : ∀ d ∈ tables_1, d.before a0 Z = true) (ws : List Jvm.Cond) (x0 : Int32) (x1 : Int32) (x2 : Int32) (x3 : Int32) (x4 : Int32) (x5 : Int32) (h0 : Heap) (n0 : Nat) (hn0 : n0 ≤ h0.size) :
    own_Met l Z x code maxLocals ret ws room_1 #[(.int x0), (.int x1), (.int x2), (.int x3), (.int x4), (.int x5)] h0 n0 (own_QI fun z h => z = 1) := by
  refine own_met pn_0 hn0 (fun p e s m below meth c T X => ?_)
  refine own_cast (ef_rm0 m x0 x1 x2 x3 x4 x5) ?_
  change own_S p l e room_1 s m _ below meth c Z x code maxLocals (some .boolean) n0 T 0 0 h0 at X
  have r_x0 := rng32 x0
  have r_x1 := rng32 x1
  have r_x2 := rng32 x2
  have r_x3 := rng32 x3
  have r_x4 := rng32 x4
  have r_x5 := rng32 x5
  refine own_iloadN X at_0 rfl ?_
  refine own_bipush X (31) at_1 rfl ?_
  refine own_iandM X (x0.toInt) 5 32 at_3 rfl (by decide) (by decide) (by decide) (fun v1 hv1 cv1 lv1 uv1 => ?_)
  refine own_bipush X (8) at_4 rfl ?_
  refine own_isubV X (v1.toInt) (8) at_6 rfl rfl (fun v2 hv2 cv2 lv2 uv2 => ?_)
  have xv2 : v2.toInt = v1.toInt - 8 := by omega
  refine own_istore X at_7 (L' := #[.val (.int x0), .val (.int x1), .val (.int x2), .val (.int x3), .val (.int x4), .val (.int x5), .val (.int v2), .unset, .unset, .unset, .unset, .unset, .unset, .unset]) rfl ?_
  refine own_iloadN X at_9 rfl ?_
  refine own_ldc X (hw _ (List.mem_of_getElem? (i := 0) rfl)) at_10 ?_
  refine own_iandM X (x2.toInt) 31 2147483648 at_12 rfl (by decide) (by decide) (by decide) (fun v3 hv3 cv3 lv3 uv3 => ?_)
  refine own_bipush X (25) at_13 rfl ?_
  refine own_iremK X (v3.toInt) (25) at_15 (by decide) rfl rfl (fun v4 hv4 cv4 lv4 uv4 => ?_)
  refine own_istore X at_16 (L' := #[.val (.int x0), .val (.int x1), .val (.int x2), .val (.int x3), .val (.int x4), .val (.int x5), .val (.int v2), .val (.int v4), .unset, .unset, .unset, .unset, .unset, .unset]) rfl ?_
  refine own_iloadN X at_18 rfl ?_
  refine own_bipush X (127) at_19 rfl ?_
  refine own_iandM X (x1.toInt) 7 128 at_21 rfl (by decide) (by decide) (by decide) (fun v5 hv5 cv5 lv5 uv5 => ?_)
  refine own_i2cV X (v5.toInt) at_22 rfl (fun v6 hv6 cv6 lv6 uv6 => ?_)
  refine own_istore X at_23 (L' := #[.val (.int x0), .val (.int x1), .val (.int x2), .val (.int x3), .val (.int x4), .val (.int x5), .val (.int v2), .val (.int v4), .val (.int v6), .unset, .unset, .unset, .unset, .unset]) rfl ?_
  refine own_bipush X (24) at_25 rfl ?_
  refine own_newP X (cap := 24) (hw _ (List.mem_of_getElem? (i := 1) rfl)) (by decide) (by decide) (by decide) (by decide) (by decide) (by decide) at_27 (fun T h b7 hb_b7 ge_b7 X E f7 hf7 A_b7 => ?_)
  have A_b7 : own_AI Z h b7 .byte (24 : Int32) f7 := A_b7
  refine own_dup X at_29 rfl ?_
  refine own_iconst X (0) at_30 rfl ?_
  refine own_iloadN X at_31 rfl ?_
  refine own_iload X at_32 rfl ?_
  refine own_iconst X (0) at_34 rfl ?_
  refine own_callS X (W := 3) (argsL := [(.int x3), (.int x4), (.int (0 : Int32))]) (rest := [(.int (0 : Int32)), (.ref b7), (.ref b7)]) (hw _ (List.mem_of_getElem? (i := 2) rfl)) (hw _ (List.mem_of_getElem? (i := 3) rfl)) (hw _ (List.mem_of_getElem? (i := 4) rfl)) (hw _ (List.mem_of_getElem? (i := 5) rfl)) (by decide) (rm1 l Z a0 hw [] x3 x4 (0 : Int32) h n0 (own_size X)) (by decide) (by decide) (by decide) (by decide) rfl (lenOf pd_5 rfl) rfl (Nat.le_of_eq rfl) at_35 (own_contI fun T v8 X hq8 => ?_)
  refine own_bastore X A_b7 (own_cGe (a := 0) (b := 0) rfl rfl (by omega)) (own_cLt (a := 0) (b := 24) rfl rfl (by omega)) ge_b7 rfl at_38 (fun T h X f9 hf9 A_b7 W => ?_)
  refine own_dup X at_39 rfl ?_
  refine own_iconst X (1) at_40 rfl ?_
  refine own_iloadN X at_41 rfl ?_
  refine own_iload X at_42 rfl ?_
  refine own_iconst X (1) at_44 rfl ?_
  refine own_callS X (W := 3) (argsL := [(.int x3), (.int x4), (.int (1 : Int32))]) (rest := [(.int (1 : Int32)), (.ref b7), (.ref b7)]) (hw _ (List.mem_of_getElem? (i := 2) rfl)) (hw _ (List.mem_of_getElem? (i := 3) rfl)) (hw _ (List.mem_of_getElem? (i := 4) rfl)) (hw _ (List.mem_of_getElem? (i := 5) rfl)) (by decide) (rm1 l Z a0 hw [] x3 x4 (1 : Int32) h n0 (own_size X)) (by decide) (by decide) (by decide) (by decide) rfl (lenOf pd_5 rfl) rfl (Nat.le_of_eq rfl) at_45 (own_contI fun T v10 X hq10 => ?_)
  refine own_bastore X A_b7 (own_cGe (a := 1) (b := 0) rfl rfl (by omega)) (own_cLt (a := 1) (b := 24) rfl rfl (by omega)) ge_b7 rfl at_48 (fun T h X f11 hf11 A_b7 W => ?_)
  refine own_dup X at_49 rfl ?_
  refine own_iconst X (2) at_50 rfl ?_
  refine own_iloadN X at_51 rfl ?_
  refine own_iload X at_52 rfl ?_
  refine own_iconst X (2) at_54 rfl ?_
  refine own_callS X (W := 3) (argsL := [(.int x3), (.int x4), (.int (2 : Int32))]) (rest := [(.int (2 : Int32)), (.ref b7), (.ref b7)]) (hw _ (List.mem_of_getElem? (i := 2) rfl)) (hw _ (List.mem_of_getElem? (i := 3) rfl)) (hw _ (List.mem_of_getElem? (i := 4) rfl)) (hw _ (List.mem_of_getElem? (i := 5) rfl)) (by decide) (rm1 l Z a0 hw [] x3 x4 (2 : Int32) h n0 (own_size X)) (by decide) (by decide) (by decide) (by decide) rfl (lenOf pd_5 rfl) rfl (Nat.le_of_eq rfl) at_55 (own_contI fun T v12 X hq12 => ?_)
  refine own_bastore X A_b7 (own_cGe (a := 2) (b := 0) rfl rfl (by omega)) (own_cLt (a := 2) (b := 24) rfl rfl (by omega)) ge_b7 rfl at_58 (fun T h X f13 hf13 A_b7 W => ?_)
  refine own_dup X at_59 rfl ?_
  refine own_iconst X (3) at_60 rfl ?_
  refine own_iloadN X at_61 rfl ?_
  refine own_iload X at_62 rfl ?_
  refine own_iconst X (3) at_64 rfl ?_
  refine own_callS X (W := 3) (argsL := [(.int x3), (.int x4), (.int (3 : Int32))]) (rest := [(.int (3 : Int32)), (.ref b7), (.ref b7)]) (hw _ (List.mem_of_getElem? (i := 2) rfl)) (hw _ (List.mem_of_getElem? (i := 3) rfl)) (hw _ (List.mem_of_getElem? (i := 4) rfl)) (hw _ (List.mem_of_getElem? (i := 5) rfl)) (by decide) (rm1 l Z a0 hw [] x3 x4 (3 : Int32) h n0 (own_size X)) (by decide) (by decide) (by decide) (by decide) rfl (lenOf pd_5 rfl) rfl (Nat.le_of_eq rfl) at_65 (own_contI fun T v14 X hq14 => ?_)
  refine own_bastore X A_b7 (own_cGe (a := 3) (b := 0) rfl rfl (by omega)) (own_cLt (a := 3) (b := 24) rfl rfl (by omega)) ge_b7 rfl at_68 (fun T h X f15 hf15 A_b7 W => ?_)
  refine own_dup X at_69 rfl ?_
  refine own_iconst X (4) at_70 rfl ?_
  refine own_iloadN X at_71 rfl ?_
  refine own_iload X at_72 rfl ?_
  refine own_iconst X (4) at_74 rfl ?_
  refine own_callS X (W := 3) (argsL := [(.int x3), (.int x4), (.int (4 : Int32))]) (rest := [(.int (4 : Int32)), (.ref b7), (.ref b7)]) (hw _ (List.mem_of_getElem? (i := 2) rfl)) (hw _ (List.mem_of_getElem? (i := 3) rfl)) (hw _ (List.mem_of_getElem? (i := 4) rfl)) (hw _ (List.mem_of_getElem? (i := 5) rfl)) (by decide) (rm1 l Z a0 hw [] x3 x4 (4 : Int32) h n0 (own_size X)) (by decide) (by decide) (by decide) (by decide) rfl (lenOf pd_5 rfl) rfl (Nat.le_of_eq rfl) at_75 (own_contI fun T v16 X hq16 => ?_)
  refine own_bastore X A_b7 (own_cGe (a := 4) (b := 0) rfl rfl (by omega)) (own_cLt (a := 4) (b := 24) rfl rfl (by omega)) ge_b7 rfl at_78 (fun T h X f17 hf17 A_b7 W => ?_)
  refine own_dup X at_79 rfl ?_
  refine own_iconst X (5) at_80 rfl ?_
  refine own_iloadN X at_81 rfl ?_
  refine own_iload X at_82 rfl ?_
  refine own_iconst X (5) at_84 rfl ?_
  refine own_callS X (W := 3) (argsL := [(.int x3), (.int x4), (.int (5 : Int32))]) (rest := [(.int (5 : Int32)), (.ref b7), (.ref b7)]) (hw _ (List.mem_of_getElem? (i := 2) rfl)) (hw _ (List.mem_of_getElem? (i := 3) rfl)) (hw _ (List.mem_of_getElem? (i := 4) rfl)) (hw _ (List.mem_of_getElem? (i := 5) rfl)) (by decide) (rm1 l Z a0 hw [] x3 x4 (5 : Int32) h n0 (own_size X)) (by decide) (by decide) (by decide) (by decide) rfl (lenOf pd_5 rfl) rfl (Nat.le_of_eq rfl) at_85 (own_contI fun T v18 X hq18 => ?_)
  refine own_bastore X A_b7 (own_cGe (a := 5) (b := 0) rfl rfl (by omega)) (own_cLt (a := 5) (b := 24) rfl rfl (by omega)) ge_b7 rfl at_88 (fun T h X f19 hf19 A_b7 W => ?_)
  refine own_dup X at_89 rfl ?_
  refine own_bipush X (6) at_90 rfl ?_
  refine own_iloadN X at_92 rfl ?_
  refine own_iload X at_93 rfl ?_
  refine own_bipush X (6) at_95 rfl ?_
  refine own_callS X (W := 3) (argsL := [(.int x3), (.int x4), (.int (6 : Int32))]) (rest := [(.int (6 : Int32)), (.ref b7), (.ref b7)]) (hw _ (List.mem_of_getElem? (i := 2) rfl)) (hw _ (List.mem_of_getElem? (i := 3) rfl)) (hw _ (List.mem_of_getElem? (i := 4) rfl)) (hw _ (List.mem_of_getElem? (i := 5) rfl)) (by decide) (rm1 l Z a0 hw [] x3 x4 (6 : Int32) h n0 (own_size X)) (by decide) (by decide) (by decide) (by decide) rfl (lenOf pd_5 rfl) rfl (Nat.le_of_eq rfl) at_97 (own_contI fun T v20 X hq20 => ?_)
  refine own_bastore X A_b7 (own_cGe (a := 6) (b := 0) rfl rfl (by omega)) (own_cLt (a := 6) (b := 24) rfl rfl (by omega)) ge_b7 rfl at_100 (fun T h X f21 hf21 A_b7 W => ?_)
  refine own_dup X at_101 rfl ?_
  refine own_bipush X (7) at_102 rfl ?_
  refine own_iloadN X at_104 rfl ?_
  refine own_iload X at_105 rfl ?_
  refine own_bipush X (7) at_107 rfl ?_
  refine own_callS X (W := 3) (argsL := [(.int x3), (.int x4), (.int (7 : Int32))]) (rest := [(.int (7 : Int32)), (.ref b7), (.ref b7)]) (hw _ (List.mem_of_getElem? (i := 2) rfl)) (hw _ (List.mem_of_getElem? (i := 3) rfl)) (hw _ (List.mem_of_getElem? (i := 4) rfl)) (hw _ (List.mem_of_getElem? (i := 5) rfl)) (by decide) (rm1 l Z a0 hw [] x3 x4 (7 : Int32) h n0 (own_size X)) (by decide) (by decide) (by decide) (by decide) rfl (lenOf pd_5 rfl) rfl (Nat.le_of_eq rfl) at_109 (own_contI fun T v22 X hq22 => ?_)
  refine own_bastore X A_b7 (own_cGe (a := 7) (b := 0) rfl rfl (by omega)) (own_cLt (a := 7) (b := 24) rfl rfl (by omega)) ge_b7 rfl at_112 (fun T h X f23 hf23 A_b7 W => ?_)
  refine own_dup X at_113 rfl ?_
  refine own_bipush X (8) at_114 rfl ?_
  refine own_iloadN X at_116 rfl ?_
  refine own_iload X at_117 rfl ?_
  refine own_bipush X (8) at_119 rfl ?_
  refine own_callS X (W := 3) (argsL := [(.int x3), (.int x4), (.int (8 : Int32))]) (rest := [(.int (8 : Int32)), (.ref b7), (.ref b7)]) (hw _ (List.mem_of_getElem? (i := 2) rfl)) (hw _ (List.mem_of_getElem? (i := 3) rfl)) (hw _ (List.mem_of_getElem? (i := 4) rfl)) (hw _ (List.mem_of_getElem? (i := 5) rfl)) (by decide) (rm1 l Z a0 hw [] x3 x4 (8 : Int32) h n0 (own_size X)) (by decide) (by decide) (by decide) (by decide) rfl (lenOf pd_5 rfl) rfl (Nat.le_of_eq rfl) at_121 (own_contI fun T v24 X hq24 => ?_)
  refine own_bastore X A_b7 (own_cGe (a := 8) (b := 0) rfl rfl (by omega)) (own_cLt (a := 8) (b := 24) rfl rfl (by omega)) ge_b7 rfl at_124 (fun T h X f25 hf25 A_b7 W => ?_)
  refine own_dup X at_125 rfl ?_
  refine own_bipush X (9) at_126 rfl ?_
  refine own_iloadN X at_128 rfl ?_
  refine own_iload X at_129 rfl ?_
  refine own_bipush X (9) at_131 rfl ?_
  refine own_callS X (W := 3) (argsL := [(.int x3), (.int x4), (.int (9 : Int32))]) (rest := [(.int (9 : Int32)), (.ref b7), (.ref b7)]) (hw _ (List.mem_of_getElem? (i := 2) rfl)) (hw _ (List.mem_of_getElem? (i := 3) rfl)) (hw _ (List.mem_of_getElem? (i := 4) rfl)) (hw _ (List.mem_of_getElem? (i := 5) rfl)) (by decide) (rm1 l Z a0 hw [] x3 x4 (9 : Int32) h n0 (own_size X)) (by decide) (by decide) (by decide) (by decide) rfl (lenOf pd_5 rfl) rfl (Nat.le_of_eq rfl) at_133 (own_contI fun T v26 X hq26 => ?_)
  refine own_bastore X A_b7 (own_cGe (a := 9) (b := 0) rfl rfl (by omega)) (own_cLt (a := 9) (b := 24) rfl rfl (by omega)) ge_b7 rfl at_136 (fun T h X f27 hf27 A_b7 W => ?_)
  refine own_dup X at_137 rfl ?_
  refine own_bipush X (10) at_138 rfl ?_
  refine own_iloadN X at_140 rfl ?_
  refine own_iload X at_141 rfl ?_
  refine own_bipush X (10) at_143 rfl ?_
  refine own_callS X (W := 3) (argsL := [(.int x3), (.int x4), (.int (10 : Int32))]) (rest := [(.int (10 : Int32)), (.ref b7), (.ref b7)]) (hw _ (List.mem_of_getElem? (i := 2) rfl)) (hw _ (List.mem_of_getElem? (i := 3) rfl)) (hw _ (List.mem_of_getElem? (i := 4) rfl)) (hw _ (List.mem_of_getElem? (i := 5) rfl)) (by decide) (rm1 l Z a0 hw [] x3 x4 (10 : Int32) h n0 (own_size X)) (by decide) (by decide) (by decide) (by decide) rfl (lenOf pd_5 rfl) rfl (Nat.le_of_eq rfl) at_145 (own_contI fun T v28 X hq28 => ?_)
  refine own_bastore X A_b7 (own_cGe (a := 10) (b := 0) rfl rfl (by omega)) (own_cLt (a := 10) (b := 24) rfl rfl (by omega)) ge_b7 rfl at_148 (fun T h X f29 hf29 A_b7 W => ?_)
  refine own_dup X at_149 rfl ?_
  refine own_bipush X (11) at_150 rfl ?_
  refine own_iloadN X at_152 rfl ?_
  refine own_iload X at_153 rfl ?_
  refine own_bipush X (11) at_155 rfl ?_
  refine own_callS X (W := 3) (argsL := [(.int x3), (.int x4), (.int (11 : Int32))]) (rest := [(.int (11 : Int32)), (.ref b7), (.ref b7)]) (hw _ (List.mem_of_getElem? (i := 2) rfl)) (hw _ (List.mem_of_getElem? (i := 3) rfl)) (hw _ (List.mem_of_getElem? (i := 4) rfl)) (hw _ (List.mem_of_getElem? (i := 5) rfl)) (by decide) (rm1 l Z a0 hw [] x3 x4 (11 : Int32) h n0 (own_size X)) (by decide) (by decide) (by decide) (by decide) rfl (lenOf pd_5 rfl) rfl (Nat.le_of_eq rfl) at_157 (own_contI fun T v30 X hq30 => ?_)
  refine own_bastore X A_b7 (own_cGe (a := 11) (b := 0) rfl rfl (by omega)) (own_cLt (a := 11) (b := 24) rfl rfl (by omega)) ge_b7 rfl at_160 (fun T h X f31 hf31 A_b7 W => ?_)
  refine own_dup X at_161 rfl ?_
  refine own_bipush X (12) at_162 rfl ?_
  refine own_iloadN X at_164 rfl ?_
  refine own_iload X at_165 rfl ?_
  refine own_bipush X (12) at_167 rfl ?_
  refine own_callS X (W := 3) (argsL := [(.int x3), (.int x4), (.int (12 : Int32))]) (rest := [(.int (12 : Int32)), (.ref b7), (.ref b7)]) (hw _ (List.mem_of_getElem? (i := 2) rfl)) (hw _ (List.mem_of_getElem? (i := 3) rfl)) (hw _ (List.mem_of_getElem? (i := 4) rfl)) (hw _ (List.mem_of_getElem? (i := 5) rfl)) (by decide) (rm1 l Z a0 hw [] x3 x4 (12 : Int32) h n0 (own_size X)) (by decide) (by decide) (by decide) (by decide) rfl (lenOf pd_5 rfl) rfl (Nat.le_of_eq rfl) at_169 (own_contI fun T v32 X hq32 => ?_)
  refine own_bastore X A_b7 (own_cGe (a := 12) (b := 0) rfl rfl (by omega)) (own_cLt (a := 12) (b := 24) rfl rfl (by omega)) ge_b7 rfl at_172 (fun T h X f33 hf33 A_b7 W => ?_)
  refine own_dup X at_173 rfl ?_
  refine own_bipush X (13) at_174 rfl ?_
  refine own_iloadN X at_176 rfl ?_
  refine own_iload X at_177 rfl ?_
  refine own_bipush X (13) at_179 rfl ?_
  refine own_callS X (W := 3) (argsL := [(.int x3), (.int x4), (.int (13 : Int32))]) (rest := [(.int (13 : Int32)), (.ref b7), (.ref b7)]) (hw _ (List.mem_of_getElem? (i := 2) rfl)) (hw _ (List.mem_of_getElem? (i := 3) rfl)) (hw _ (List.mem_of_getElem? (i := 4) rfl)) (hw _ (List.mem_of_getElem? (i := 5) rfl)) (by decide) (rm1 l Z a0 hw [] x3 x4 (13 : Int32) h n0 (own_size X)) (by decide) (by decide) (by decide) (by decide) rfl (lenOf pd_5 rfl) rfl (Nat.le_of_eq rfl) at_181 (own_contI fun T v34 X hq34 => ?_)
  refine own_bastore X A_b7 (own_cGe (a := 13) (b := 0) rfl rfl (by omega)) (own_cLt (a := 13) (b := 24) rfl rfl (by omega)) ge_b7 rfl at_184 (fun T h X f35 hf35 A_b7 W => ?_)
  refine own_dup X at_185 rfl ?_
  refine own_bipush X (14) at_186 rfl ?_
  refine own_iloadN X at_188 rfl ?_
  refine own_iload X at_189 rfl ?_
  refine own_bipush X (14) at_191 rfl ?_
  refine own_callS X (W := 3) (argsL := [(.int x3), (.int x4), (.int (14 : Int32))]) (rest := [(.int (14 : Int32)), (.ref b7), (.ref b7)]) (hw _ (List.mem_of_getElem? (i := 2) rfl)) (hw _ (List.mem_of_getElem? (i := 3) rfl)) (hw _ (List.mem_of_getElem? (i := 4) rfl)) (hw _ (List.mem_of_getElem? (i := 5) rfl)) (by decide) (rm1 l Z a0 hw [] x3 x4 (14 : Int32) h n0 (own_size X)) (by decide) (by decide) (by decide) (by decide) rfl (lenOf pd_5 rfl) rfl (Nat.le_of_eq rfl) at_193 (own_contI fun T v36 X hq36 => ?_)
  refine own_bastore X A_b7 (own_cGe (a := 14) (b := 0) rfl rfl (by omega)) (own_cLt (a := 14) (b := 24) rfl rfl (by omega)) ge_b7 rfl at_196 (fun T h X f37 hf37 A_b7 W => ?_)
  refine own_dup X at_197 rfl ?_
  refine own_bipush X (15) at_198 rfl ?_
  refine own_iloadN X at_200 rfl ?_
  refine own_iload X at_201 rfl ?_
  refine own_bipush X (15) at_203 rfl ?_
  refine own_callS X (W := 3) (argsL := [(.int x3), (.int x4), (.int (15 : Int32))]) (rest := [(.int (15 : Int32)), (.ref b7), (.ref b7)]) (hw _ (List.mem_of_getElem? (i := 2) rfl)) (hw _ (List.mem_of_getElem? (i := 3) rfl)) (hw _ (List.mem_of_getElem? (i := 4) rfl)) (hw _ (List.mem_of_getElem? (i := 5) rfl)) (by decide) (rm1 l Z a0 hw [] x3 x4 (15 : Int32) h n0 (own_size X)) (by decide) (by decide) (by decide) (by decide) rfl (lenOf pd_5 rfl) rfl (Nat.le_of_eq rfl) at_205 (own_contI fun T v38 X hq38 => ?_)
  refine own_bastore X A_b7 (own_cGe (a := 15) (b := 0) rfl rfl (by omega)) (own_cLt (a := 15) (b := 24) rfl rfl (by omega)) ge_b7 rfl at_208 (fun T h X f39 hf39 A_b7 W => ?_)
  refine own_dup X at_209 rfl ?_
  refine own_bipush X (16) at_210 rfl ?_
  refine own_iloadN X at_212 rfl ?_
  refine own_iload X at_213 rfl ?_
  refine own_bipush X (16) at_215 rfl ?_
  refine own_callS X (W := 3) (argsL := [(.int x3), (.int x4), (.int (16 : Int32))]) (rest := [(.int (16 : Int32)), (.ref b7), (.ref b7)]) (hw _ (List.mem_of_getElem? (i := 2) rfl)) (hw _ (List.mem_of_getElem? (i := 3) rfl)) (hw _ (List.mem_of_getElem? (i := 4) rfl)) (hw _ (List.mem_of_getElem? (i := 5) rfl)) (by decide) (rm1 l Z a0 hw [] x3 x4 (16 : Int32) h n0 (own_size X)) (by decide) (by decide) (by decide) (by decide) rfl (lenOf pd_5 rfl) rfl (Nat.le_of_eq rfl) at_217 (own_contI fun T v40 X hq40 => ?_)
  refine own_bastore X A_b7 (own_cGe (a := 16) (b := 0) rfl rfl (by omega)) (own_cLt (a := 16) (b := 24) rfl rfl (by omega)) ge_b7 rfl at_220 (fun T h X f41 hf41 A_b7 W => ?_)
  refine own_dup X at_221 rfl ?_
  refine own_bipush X (17) at_222 rfl ?_
  refine own_iloadN X at_224 rfl ?_
  refine own_iload X at_225 rfl ?_
  refine own_bipush X (17) at_227 rfl ?_
  refine own_callS X (W := 3) (argsL := [(.int x3), (.int x4), (.int (17 : Int32))]) (rest := [(.int (17 : Int32)), (.ref b7), (.ref b7)]) (hw _ (List.mem_of_getElem? (i := 2) rfl)) (hw _ (List.mem_of_getElem? (i := 3) rfl)) (hw _ (List.mem_of_getElem? (i := 4) rfl)) (hw _ (List.mem_of_getElem? (i := 5) rfl)) (by decide) (rm1 l Z a0 hw [] x3 x4 (17 : Int32) h n0 (own_size X)) (by decide) (by decide) (by decide) (by decide) rfl (lenOf pd_5 rfl) rfl (Nat.le_of_eq rfl) at_229 (own_contI fun T v42 X hq42 => ?_)
  refine own_bastore X A_b7 (own_cGe (a := 17) (b := 0) rfl rfl (by omega)) (own_cLt (a := 17) (b := 24) rfl rfl (by omega)) ge_b7 rfl at_232 (fun T h X f43 hf43 A_b7 W => ?_)
  refine own_dup X at_233 rfl ?_
  refine own_bipush X (18) at_234 rfl ?_
  refine own_iloadN X at_236 rfl ?_
  refine own_iload X at_237 rfl ?_
  refine own_bipush X (18) at_239 rfl ?_
  refine own_callS X (W := 3) (argsL := [(.int x3), (.int x4), (.int (18 : Int32))]) (rest := [(.int (18 : Int32)), (.ref b7), (.ref b7)]) (hw _ (List.mem_of_getElem? (i := 2) rfl)) (hw _ (List.mem_of_getElem? (i := 3) rfl)) (hw _ (List.mem_of_getElem? (i := 4) rfl)) (hw _ (List.mem_of_getElem? (i := 5) rfl)) (by decide) (rm1 l Z a0 hw [] x3 x4 (18 : Int32) h n0 (own_size X)) (by decide) (by decide) (by decide) (by decide) rfl (lenOf pd_5 rfl) rfl (Nat.le_of_eq rfl) at_241 (own_contI fun T v44 X hq44 => ?_)
  refine own_bastore X A_b7 (own_cGe (a := 18) (b := 0) rfl rfl (by omega)) (own_cLt (a := 18) (b := 24) rfl rfl (by omega)) ge_b7 rfl at_244 (fun T h X f45 hf45 A_b7 W => ?_)
  refine own_dup X at_245 rfl ?_
  refine own_bipush X (19) at_246 rfl ?_
  refine own_iloadN X at_248 rfl ?_
  refine own_iload X at_249 rfl ?_
  refine own_bipush X (19) at_251 rfl ?_
  refine own_callS X (W := 3) (argsL := [(.int x3), (.int x4), (.int (19 : Int32))]) (rest := [(.int (19 : Int32)), (.ref b7), (.ref b7)]) (hw _ (List.mem_of_getElem? (i := 2) rfl)) (hw _ (List.mem_of_getElem? (i := 3) rfl)) (hw _ (List.mem_of_getElem? (i := 4) rfl)) (hw _ (List.mem_of_getElem? (i := 5) rfl)) (by decide) (rm1 l Z a0 hw [] x3 x4 (19 : Int32) h n0 (own_size X)) (by decide) (by decide) (by decide) (by decide) rfl (lenOf pd_5 rfl) rfl (Nat.le_of_eq rfl) at_253 (own_contI fun T v46 X hq46 => ?_)
  refine own_bastore X A_b7 (own_cGe (a := 19) (b := 0) rfl rfl (by omega)) (own_cLt (a := 19) (b := 24) rfl rfl (by omega)) ge_b7 rfl at_256 (fun T h X f47 hf47 A_b7 W => ?_)
  refine own_dup X at_257 rfl ?_
  refine own_bipush X (20) at_258 rfl ?_
  refine own_iloadN X at_260 rfl ?_
  refine own_iload X at_261 rfl ?_
  refine own_bipush X (20) at_263 rfl ?_
  refine own_callS X (W := 3) (argsL := [(.int x3), (.int x4), (.int (20 : Int32))]) (rest := [(.int (20 : Int32)), (.ref b7), (.ref b7)]) (hw _ (List.mem_of_getElem? (i := 2) rfl)) (hw _ (List.mem_of_getElem? (i := 3) rfl)) (hw _ (List.mem_of_getElem? (i := 4) rfl)) (hw _ (List.mem_of_getElem? (i := 5) rfl)) (by decide) (rm1 l Z a0 hw [] x3 x4 (20 : Int32) h n0 (own_size X)) (by decide) (by decide) (by decide) (by decide) rfl (lenOf pd_5 rfl) rfl (Nat.le_of_eq rfl) at_265 (own_contI fun T v48 X hq48 => ?_)
  refine own_bastore X A_b7 (own_cGe (a := 20) (b := 0) rfl rfl (by omega)) (own_cLt (a := 20) (b := 24) rfl rfl (by omega)) ge_b7 rfl at_268 (fun T h X f49 hf49 A_b7 W => ?_)
  refine own_dup X at_269 rfl ?_
  refine own_bipush X (21) at_270 rfl ?_
  refine own_iloadN X at_272 rfl ?_
  refine own_iload X at_273 rfl ?_
  refine own_bipush X (21) at_275 rfl ?_
  refine own_callS X (W := 3) (argsL := [(.int x3), (.int x4), (.int (21 : Int32))]) (rest := [(.int (21 : Int32)), (.ref b7), (.ref b7)]) (hw _ (List.mem_of_getElem? (i := 2) rfl)) (hw _ (List.mem_of_getElem? (i := 3) rfl)) (hw _ (List.mem_of_getElem? (i := 4) rfl)) (hw _ (List.mem_of_getElem? (i := 5) rfl)) (by decide) (rm1 l Z a0 hw [] x3 x4 (21 : Int32) h n0 (own_size X)) (by decide) (by decide) (by decide) (by decide) rfl (lenOf pd_5 rfl) rfl (Nat.le_of_eq rfl) at_277 (own_contI fun T v50 X hq50 => ?_)
  refine own_bastore X A_b7 (own_cGe (a := 21) (b := 0) rfl rfl (by omega)) (own_cLt (a := 21) (b := 24) rfl rfl (by omega)) ge_b7 rfl at_280 (fun T h X f51 hf51 A_b7 W => ?_)
  refine own_dup X at_281 rfl ?_
  refine own_bipush X (22) at_282 rfl ?_
  refine own_iloadN X at_284 rfl ?_
  refine own_iload X at_285 rfl ?_
  refine own_bipush X (22) at_287 rfl ?_
  refine own_callS X (W := 3) (argsL := [(.int x3), (.int x4), (.int (22 : Int32))]) (rest := [(.int (22 : Int32)), (.ref b7), (.ref b7)]) (hw _ (List.mem_of_getElem? (i := 2) rfl)) (hw _ (List.mem_of_getElem? (i := 3) rfl)) (hw _ (List.mem_of_getElem? (i := 4) rfl)) (hw _ (List.mem_of_getElem? (i := 5) rfl)) (by decide) (rm1 l Z a0 hw [] x3 x4 (22 : Int32) h n0 (own_size X)) (by decide) (by decide) (by decide) (by decide) rfl (lenOf pd_5 rfl) rfl (Nat.le_of_eq rfl) at_289 (own_contI fun T v52 X hq52 => ?_)
  refine own_bastore X A_b7 (own_cGe (a := 22) (b := 0) rfl rfl (by omega)) (own_cLt (a := 22) (b := 24) rfl rfl (by omega)) ge_b7 rfl at_292 (fun T h X f53 hf53 A_b7 W => ?_)
  refine own_dup X at_293 rfl ?_
  refine own_bipush X (23) at_294 rfl ?_
  refine own_iloadN X at_296 rfl ?_
  refine own_iload X at_297 rfl ?_
  refine own_bipush X (23) at_299 rfl ?_
  refine own_callS X (W := 3) (argsL := [(.int x3), (.int x4), (.int (23 : Int32))]) (rest := [(.int (23 : Int32)), (.ref b7), (.ref b7)]) (hw _ (List.mem_of_getElem? (i := 2) rfl)) (hw _ (List.mem_of_getElem? (i := 3) rfl)) (hw _ (List.mem_of_getElem? (i := 4) rfl)) (hw _ (List.mem_of_getElem? (i := 5) rfl)) (by decide) (rm1 l Z a0 hw [] x3 x4 (23 : Int32) h n0 (own_size X)) (by decide) (by decide) (by decide) (by decide) rfl (lenOf pd_5 rfl) rfl (Nat.le_of_eq rfl) at_301 (own_contI fun T v54 X hq54 => ?_)
  refine own_bastore X A_b7 (own_cGe (a := 23) (b := 0) rfl rfl (by omega)) (own_cLt (a := 23) (b := 24) rfl rfl (by omega)) ge_b7 rfl at_304 (fun T h X f55 hf55 A_b7 W => ?_)
  refine own_astore X at_305 rfl (L' := #[.val (.int x0), .val (.int x1), .val (.int x2), .val (.int x3), .val (.int x4), .val (.int x5), .val (.int v2), .val (.int v4), .val (.int v6), .val (.ref b7), .unset, .unset, .unset, .unset]) rfl ?_
  refine own_newO X (hw _ (List.mem_of_getElem? (i := 6) rfl)) (hw _ (List.mem_of_getElem? (i := 7) rfl)) (hw _ (List.mem_of_getElem? (i := 8) rfl)) at_307 (by decide) (by decide) (fun T h b56 hb_b56 ge_b56 X E E_b56 D => ?_)
  have ne_b7_b56 : b7 ≠ b56 := Nat.ne_of_lt (Nat.lt_of_lt_of_eq A_b7.lt hb_b56.symm)
  have A_b7 := A_b7.ext E
  have F_bytes_b56 : Fld Z h b56 "com/example/shelfrun/shelfrun/index/JsonBuffer" "bytes" "[B" .null := D (Or.inl (hw _ (List.mem_of_getElem? (i := 20) rfl))) (ty := (.array .byte)) (by decide)
  have F_size_b56 : Fld Z h b56 "com/example/shelfrun/shelfrun/index/JsonBuffer" "size" "I" (.int (0 : Int32)) := D (Or.inl (hw _ (List.mem_of_getElem? (i := 31) rfl))) (ty := .int) (by decide)
  refine own_dup X at_310 rfl ?_
  refine own_iload X at_311 rfl ?_
  refine own_callI X (W := 1) (a := b56) (argsL := [(.int v2)]) (rest := [(.ref b56)]) rfl (hw _ (List.mem_of_getElem? (i := 9) rfl)) (hw _ (List.mem_of_getElem? (i := 10) rfl)) (hw _ (List.mem_of_getElem? (i := 8) rfl)) (hw _ (List.mem_of_getElem? (i := 11) rfl)) (by decide) (rm2 l Z a0 hw [] b56 v2 h n0 (own_size X) E_b56 F_bytes_b56 F_size_b56 ge_b56 (by omega) (by omega)) (by decide) (by decide) (by decide) (by decide) rfl (lenOf pd_3 rfl) rfl (Nat.le_of_eq rfl) at_313 (own_contVH fun T h X hq57 => ?_)
  obtain ⟨Kc, E_b56, F_size_b56, ba, bN, fb, ge_ba, F_bytes_b56, A_ba, hbN1, hbN2, hfresh⟩ := hq57
  have ne_ba_d : ba ≠ b7 := Nat.ne_of_gt (Nat.lt_of_lt_of_le A_b7.lt hfresh)
  have A_b7 := A_b7.keep Kc (ninS ne_b7_b56 nin0)
  have ne_b56_ba : b56 ≠ ba := own_ne_ai E_b56 (hw _ (List.mem_of_getElem? (i := 7) rfl)) A_ba
  refine own_astore X at_316 rfl (L' := #[.val (.int x0), .val (.int x1), .val (.int x2), .val (.int x3), .val (.int x4), .val (.int x5), .val (.int v2), .val (.int v4), .val (.int v6), .val (.ref b7), .val (.ref b56), .unset, .unset, .unset]) rfl ?_
  refine own_aload X at_318 rfl rfl ?_
  refine own_iload X at_320 rfl ?_
  refine own_callV X (W := 0) (a := b56) (argsL := [(.int v6)]) (rest := []) (hw _ (List.mem_of_getElem? (i := 21) rfl)) (hw _ (List.mem_of_getElem? (i := 22) rfl)) (hw _ (List.mem_of_getElem? (i := 24) rfl)) (hw _ (List.mem_of_getElem? (i := 23) rfl)) (hw _ (List.mem_of_getElem? (i := 8) rfl)) (hw _ (List.mem_of_getElem? (i := 25) rfl)) rfl (by decide) (rmAC l Z a0 hw [] b56 v6 ba bN fb h n0 (own_size X) E_b56 F_bytes_b56 F_size_b56 A_ba ge_b56 ge_ba hbN1 hbN2) E_b56 (by decide) (by decide) (by decide) (by decide) rfl (lenOf pd_2 rfl) rfl (Nat.le_of_eq rfl) at_322 (own_contRH fun T h v58 X hq58 => ?_)
  obtain ⟨rfl, Kc, E_b56, F_size_b56, F_bytes_b56, fA, A_n, hA0⟩ := hq58
  have A_b7 := A_b7.keep Kc (ninS ne_b7_b56 (ninS (Ne.symm ne_ba_d) nin0))
  have A_ba := A_n
  refine own_pop X at_325 rfl ?_
  refine own_aload X at_326 rfl rfl ?_
  refine own_aload X at_328 rfl rfl ?_
  refine own_iload X at_330 rfl ?_
  refine own_callV X (W := 0) (a := b56) (argsL := [(.ref b7), (.int v4)]) (rest := []) (hw _ (List.mem_of_getElem? (i := 32) rfl)) (hw _ (List.mem_of_getElem? (i := 33) rfl)) (hw _ (List.mem_of_getElem? (i := 35) rfl)) (hw _ (List.mem_of_getElem? (i := 34) rfl)) (hw _ (List.mem_of_getElem? (i := 8) rfl)) (hw _ (List.mem_of_getElem? (i := 36) rfl)) rfl (by decide) (rmAB l Z a0 hw [] b56 b7 v4 ba bN fA f55 h n0 (own_size X) E_b56 F_bytes_b56 F_size_b56 A_ba ge_b56 ge_ba A_b7 ne_ba_d hbN1 hbN2 (by omega) (by omega)) E_b56 (by decide) (by decide) (by decide) (by decide) rfl (lenOf pd_8 rfl) rfl (Nat.le_of_eq rfl) at_332 (own_contRH fun T h v59 X hq59 => ?_)
  have ltd := A_b7.lt
  obtain ⟨rfl, Kc, E_b56, szB, bb, bM, fB, F_size_b56, hszB, hor, ge_bb, F_bytes_b56, A_bb, hM1, hM2, hB0, hBk⟩ := hq59
  have A_b7 := A_b7.keep Kc (ninS ne_b7_b56 (ninS (Ne.symm ne_ba_d) nin0))
  have ne_bb_d : bb ≠ b7 := hor.elim (fun q => q ▸ ne_ba_d) (fun q => Nat.ne_of_gt (Nat.lt_of_lt_of_le ltd q))
  have ne_b56_bb : b56 ≠ bb := own_ne_ai E_b56 (hw _ (List.mem_of_getElem? (i := 7) rfl)) A_bb
  refine own_pop X at_335 rfl ?_
  refine own_iconst X (1) at_336 rfl ?_
  refine own_iload X at_337 rfl ?_
  refine own_iaddV X (1) (v4.toInt) at_339 rfl rfl (fun v60 hv60 cv60 lv60 uv60 => ?_)
  have xv60 : v60.toInt = 1 + v4.toInt := by omega
  refine own_istore X at_340 (L' := #[.val (.int x0), .val (.int x1), .val (.int x2), .val (.int x3), .val (.int x4), .val (.int x5), .val (.int v2), .val (.int v4), .val (.int v6), .val (.ref b7), .val (.ref b56), .val (.int v60), .unset, .unset]) rfl ?_
  refine own_iload X at_342 rfl ?_
  refine own_istore X at_344 (L' := #[.val (.int x0), .val (.int x1), .val (.int x2), .val (.int x3), .val (.int x4), .val (.int x5), .val (.int v2), .val (.int v4), .val (.int v6), .val (.ref b7), .val (.ref b56), .val (.int v60), .val (.int v60), .unset]) rfl ?_
  refine own_iload X at_346 rfl ?_
  refine own_iconst X (1) at_348 rfl ?_
  refine own_iandM X (x5.toInt) 1 2 at_349 rfl (by decide) (by decide) (by decide) (fun v61 hv61 cv61 lv61 uv61 => ?_)
  by_cases hc62 : v61.toInt = 0
  · refine own_ifYes X (pc := 350) (pc' := 371) at_350 ((if0 _ _).trans (teq (own_cEq (a := v61.toInt) (b := 0) rfl rfl hc62)).1) (by decide) (by decide) ?_
    refine own_aload X at_371 rfl rfl ?_
    refine own_callV X (W := 0) (a := b56) (argsL := []) (rest := []) (hw _ (List.mem_of_getElem? (i := 46) rfl)) (hw _ (List.mem_of_getElem? (i := 47) rfl)) (hw _ (List.mem_of_getElem? (i := 49) rfl)) (hw _ (List.mem_of_getElem? (i := 48) rfl)) (hw _ (List.mem_of_getElem? (i := 8) rfl)) (hw _ (List.mem_of_getElem? (i := 50) rfl)) rfl (by decide) (rm9 l Z a0 hw [] b56 bb bM fB szB h n0 (own_size X) E_b56 F_bytes_b56 F_size_b56 A_bb ge_b56 ge_bb (by omega) (by omega) (by omega)) E_b56 (by decide) (by decide) (by decide) (by decide) rfl (lenOf pd_1 rfl) rfl (Nat.le_of_eq rfl) at_373 (own_contRH fun T h v63 X hq63 => ?_)
    obtain ⟨Kc, rb, fR, rfl, horR, A_rb, hR⟩ := hq63
    have A_b7 := A_b7.keep Kc (ninS ne_b7_b56 nin0)
    have A_bb := A_bb.keep Kc (ninS (Ne.symm ne_b56_bb) nin0)
    refine own_astore X at_376 rfl (L' := #[.val (.int x0), .val (.int x1), .val (.int x2), .val (.int x3), .val (.int x4), .val (.int x5), .val (.int v2), .val (.int v4), .val (.int v6), .val (.ref b7), .val (.ref b56), .val (.int v60), .val (.int v60), .val (.ref rb)]) rfl ?_
    refine own_aload X at_378 rfl rfl ?_
    refine own_ifnullNo X at_380 ?_
    refine own_aload X at_383 rfl rfl ?_
    refine own_alen X A_rb at_385 ?_
    refine own_iload X at_386 rfl ?_
    have hc64 : szB.toInt = v60.toInt := by omega
    refine own_icmpYes X (pc := 388) (pc' := 393) at_388 (teq (own_cEq (a := szB.toInt) (b := v60.toInt) rfl rfl hc64)).1 (by decide) (by decide) ?_
    refine own_aload X at_393 rfl rfl ?_
    refine own_iconst X (0) at_395 rfl ?_
    refine own_iload X at_396 rfl ?_
    refine own_i2bV X (v6.toInt) at_398 rfl (fun v65 hv65 cv65 lv65 uv65 => ?_)
    refine own_callS X (W := 0) (argsL := [(.ref rb), (.int (0 : Int32)), (.int v65)]) (rest := []) (hw _ (List.mem_of_getElem? (i := 59) rfl)) (hw _ (List.mem_of_getElem? (i := 60) rfl)) (hw _ (List.mem_of_getElem? (i := 4) rfl)) (hw _ (List.mem_of_getElem? (i := 61) rfl)) (by decide) (rm12 l Z a0 hw [] rb (0 : Int32) v65 szB fR h n0 (own_size X) A_rb (by decide) (fun hh => ((hR 0 (by decide) hh).trans hB0).trans (hA0.trans hv65))) (by decide) (by decide) (by decide) (by decide) rfl (lenOf pd_10 rfl) rfl (Nat.le_of_eq rfl) at_399 (own_contI fun T v66 X hq66 => ?_)
    subst hq66
    refine own_ifNo X at_402 ((if0 _ _).trans (feq (own_cNe (a := 1) (b := 0) rfl rfl (by decide))).1) ?_
    refine own_aload X at_405 rfl rfl ?_
    refine own_iconst X (1) at_407 rfl ?_
    refine own_aload X at_408 rfl rfl ?_
    refine own_iconst X (0) at_410 rfl ?_
    refine own_baload X A_b7 (own_cGe (a := 0) (b := 0) rfl rfl (by omega)) (own_cLt (a := 0) (b := 24) rfl rfl (by omega)) at_411 (fun v67 hv67 lv67 uv67 => ?_)
    refine own_callS X (W := 0) (argsL := [(.ref rb), (.int (1 : Int32)), (.int v67)]) (rest := []) (hw _ (List.mem_of_getElem? (i := 59) rfl)) (hw _ (List.mem_of_getElem? (i := 60) rfl)) (hw _ (List.mem_of_getElem? (i := 4) rfl)) (hw _ (List.mem_of_getElem? (i := 61) rfl)) (by decide) (rm12 l Z a0 hw [] rb (1 : Int32) v67 szB fR h n0 (own_size X) A_rb (by decide) (fun hh => ((hR 1 (by decide) hh).trans (hBk 1 (by decide) (by have hh' : (1 : Int) < szB.toInt := hh; show (1 : Int) < 1 + v4.toInt; omega))).trans (show f55 (Int32.ofInt ((1 : Int32).toInt - 1)) = v67 from hv67))) (by decide) (by decide) (by decide) (by decide) rfl (lenOf pd_10 rfl) rfl (Nat.le_of_eq rfl) at_412 (own_contI fun T v68 X hq68 => ?_)
    subst hq68
    refine own_ifNo X at_415 ((if0 _ _).trans (feq (own_cNe (a := 1) (b := 0) rfl rfl (by decide))).1) ?_
    refine own_aload X at_418 rfl rfl ?_
    refine own_iconst X (2) at_420 rfl ?_
    refine own_aload X at_421 rfl rfl ?_
    refine own_iconst X (1) at_423 rfl ?_
    refine own_baload X A_b7 (own_cGe (a := 1) (b := 0) rfl rfl (by omega)) (own_cLt (a := 1) (b := 24) rfl rfl (by omega)) at_424 (fun v69 hv69 lv69 uv69 => ?_)
    refine own_callS X (W := 0) (argsL := [(.ref rb), (.int (2 : Int32)), (.int v69)]) (rest := []) (hw _ (List.mem_of_getElem? (i := 59) rfl)) (hw _ (List.mem_of_getElem? (i := 60) rfl)) (hw _ (List.mem_of_getElem? (i := 4) rfl)) (hw _ (List.mem_of_getElem? (i := 61) rfl)) (by decide) (rm12 l Z a0 hw [] rb (2 : Int32) v69 szB fR h n0 (own_size X) A_rb (by decide) (fun hh => ((hR 2 (by decide) hh).trans (hBk 2 (by decide) (by have hh' : (2 : Int) < szB.toInt := hh; show (2 : Int) < 1 + v4.toInt; omega))).trans (show f55 (Int32.ofInt ((2 : Int32).toInt - 1)) = v69 from hv69))) (by decide) (by decide) (by decide) (by decide) rfl (lenOf pd_10 rfl) rfl (Nat.le_of_eq rfl) at_425 (own_contI fun T v70 X hq70 => ?_)
    subst hq70
    refine own_ifNo X at_428 ((if0 _ _).trans (feq (own_cNe (a := 1) (b := 0) rfl rfl (by decide))).1) ?_
    refine own_aload X at_431 rfl rfl ?_
    refine own_iconst X (3) at_433 rfl ?_
    refine own_aload X at_434 rfl rfl ?_
    refine own_iconst X (2) at_436 rfl ?_
    refine own_baload X A_b7 (own_cGe (a := 2) (b := 0) rfl rfl (by omega)) (own_cLt (a := 2) (b := 24) rfl rfl (by omega)) at_437 (fun v71 hv71 lv71 uv71 => ?_)
    refine own_callS X (W := 0) (argsL := [(.ref rb), (.int (3 : Int32)), (.int v71)]) (rest := []) (hw _ (List.mem_of_getElem? (i := 59) rfl)) (hw _ (List.mem_of_getElem? (i := 60) rfl)) (hw _ (List.mem_of_getElem? (i := 4) rfl)) (hw _ (List.mem_of_getElem? (i := 61) rfl)) (by decide) (rm12 l Z a0 hw [] rb (3 : Int32) v71 szB fR h n0 (own_size X) A_rb (by decide) (fun hh => ((hR 3 (by decide) hh).trans (hBk 3 (by decide) (by have hh' : (3 : Int) < szB.toInt := hh; show (3 : Int) < 1 + v4.toInt; omega))).trans (show f55 (Int32.ofInt ((3 : Int32).toInt - 1)) = v71 from hv71))) (by decide) (by decide) (by decide) (by decide) rfl (lenOf pd_10 rfl) rfl (Nat.le_of_eq rfl) at_438 (own_contI fun T v72 X hq72 => ?_)
    subst hq72
    refine own_ifNo X at_441 ((if0 _ _).trans (feq (own_cNe (a := 1) (b := 0) rfl rfl (by decide))).1) ?_
    refine own_aload X at_444 rfl rfl ?_
    refine own_iconst X (4) at_446 rfl ?_
    refine own_aload X at_447 rfl rfl ?_
    refine own_iconst X (3) at_449 rfl ?_
    refine own_baload X A_b7 (own_cGe (a := 3) (b := 0) rfl rfl (by omega)) (own_cLt (a := 3) (b := 24) rfl rfl (by omega)) at_450 (fun v73 hv73 lv73 uv73 => ?_)
    refine own_callS X (W := 0) (argsL := [(.ref rb), (.int (4 : Int32)), (.int v73)]) (rest := []) (hw _ (List.mem_of_getElem? (i := 59) rfl)) (hw _ (List.mem_of_getElem? (i := 60) rfl)) (hw _ (List.mem_of_getElem? (i := 4) rfl)) (hw _ (List.mem_of_getElem? (i := 61) rfl)) (by decide) (rm12 l Z a0 hw [] rb (4 : Int32) v73 szB fR h n0 (own_size X) A_rb (by decide) (fun hh => ((hR 4 (by decide) hh).trans (hBk 4 (by decide) (by have hh' : (4 : Int) < szB.toInt := hh; show (4 : Int) < 1 + v4.toInt; omega))).trans (show f55 (Int32.ofInt ((4 : Int32).toInt - 1)) = v73 from hv73))) (by decide) (by decide) (by decide) (by decide) rfl (lenOf pd_10 rfl) rfl (Nat.le_of_eq rfl) at_451 (own_contI fun T v74 X hq74 => ?_)
    subst hq74
    refine own_ifNo X at_454 ((if0 _ _).trans (feq (own_cNe (a := 1) (b := 0) rfl rfl (by decide))).1) ?_
    refine own_aload X at_457 rfl rfl ?_
    refine own_iconst X (5) at_459 rfl ?_
    refine own_aload X at_460 rfl rfl ?_
    refine own_iconst X (4) at_462 rfl ?_
    refine own_baload X A_b7 (own_cGe (a := 4) (b := 0) rfl rfl (by omega)) (own_cLt (a := 4) (b := 24) rfl rfl (by omega)) at_463 (fun v75 hv75 lv75 uv75 => ?_)
    refine own_callS X (W := 0) (argsL := [(.ref rb), (.int (5 : Int32)), (.int v75)]) (rest := []) (hw _ (List.mem_of_getElem? (i := 59) rfl)) (hw _ (List.mem_of_getElem? (i := 60) rfl)) (hw _ (List.mem_of_getElem? (i := 4) rfl)) (hw _ (List.mem_of_getElem? (i := 61) rfl)) (by decide) (rm12 l Z a0 hw [] rb (5 : Int32) v75 szB fR h n0 (own_size X) A_rb (by decide) (fun hh => ((hR 5 (by decide) hh).trans (hBk 5 (by decide) (by have hh' : (5 : Int) < szB.toInt := hh; show (5 : Int) < 1 + v4.toInt; omega))).trans (show f55 (Int32.ofInt ((5 : Int32).toInt - 1)) = v75 from hv75))) (by decide) (by decide) (by decide) (by decide) rfl (lenOf pd_10 rfl) rfl (Nat.le_of_eq rfl) at_464 (own_contI fun T v76 X hq76 => ?_)
    subst hq76
    refine own_ifNo X at_467 ((if0 _ _).trans (feq (own_cNe (a := 1) (b := 0) rfl rfl (by decide))).1) ?_
    refine own_aload X at_470 rfl rfl ?_
    refine own_bipush X (6) at_472 rfl ?_
    refine own_aload X at_474 rfl rfl ?_
    refine own_iconst X (5) at_476 rfl ?_
    refine own_baload X A_b7 (own_cGe (a := 5) (b := 0) rfl rfl (by omega)) (own_cLt (a := 5) (b := 24) rfl rfl (by omega)) at_477 (fun v77 hv77 lv77 uv77 => ?_)
    refine own_callS X (W := 0) (argsL := [(.ref rb), (.int (6 : Int32)), (.int v77)]) (rest := []) (hw _ (List.mem_of_getElem? (i := 59) rfl)) (hw _ (List.mem_of_getElem? (i := 60) rfl)) (hw _ (List.mem_of_getElem? (i := 4) rfl)) (hw _ (List.mem_of_getElem? (i := 61) rfl)) (by decide) (rm12 l Z a0 hw [] rb (6 : Int32) v77 szB fR h n0 (own_size X) A_rb (by decide) (fun hh => ((hR 6 (by decide) hh).trans (hBk 6 (by decide) (by have hh' : (6 : Int) < szB.toInt := hh; show (6 : Int) < 1 + v4.toInt; omega))).trans (show f55 (Int32.ofInt ((6 : Int32).toInt - 1)) = v77 from hv77))) (by decide) (by decide) (by decide) (by decide) rfl (lenOf pd_10 rfl) rfl (Nat.le_of_eq rfl) at_478 (own_contI fun T v78 X hq78 => ?_)
    subst hq78
    refine own_ifNo X at_481 ((if0 _ _).trans (feq (own_cNe (a := 1) (b := 0) rfl rfl (by decide))).1) ?_
    refine own_aload X at_484 rfl rfl ?_
    refine own_bipush X (7) at_486 rfl ?_
    refine own_aload X at_488 rfl rfl ?_
    refine own_bipush X (6) at_490 rfl ?_
    refine own_baload X A_b7 (own_cGe (a := 6) (b := 0) rfl rfl (by omega)) (own_cLt (a := 6) (b := 24) rfl rfl (by omega)) at_492 (fun v79 hv79 lv79 uv79 => ?_)
    refine own_callS X (W := 0) (argsL := [(.ref rb), (.int (7 : Int32)), (.int v79)]) (rest := []) (hw _ (List.mem_of_getElem? (i := 59) rfl)) (hw _ (List.mem_of_getElem? (i := 60) rfl)) (hw _ (List.mem_of_getElem? (i := 4) rfl)) (hw _ (List.mem_of_getElem? (i := 61) rfl)) (by decide) (rm12 l Z a0 hw [] rb (7 : Int32) v79 szB fR h n0 (own_size X) A_rb (by decide) (fun hh => ((hR 7 (by decide) hh).trans (hBk 7 (by decide) (by have hh' : (7 : Int) < szB.toInt := hh; show (7 : Int) < 1 + v4.toInt; omega))).trans (show f55 (Int32.ofInt ((7 : Int32).toInt - 1)) = v79 from hv79))) (by decide) (by decide) (by decide) (by decide) rfl (lenOf pd_10 rfl) rfl (Nat.le_of_eq rfl) at_493 (own_contI fun T v80 X hq80 => ?_)
    subst hq80
    refine own_ifNo X at_496 ((if0 _ _).trans (feq (own_cNe (a := 1) (b := 0) rfl rfl (by decide))).1) ?_
    refine own_aload X at_499 rfl rfl ?_
    refine own_bipush X (8) at_501 rfl ?_
    refine own_aload X at_503 rfl rfl ?_
    refine own_bipush X (7) at_505 rfl ?_
    refine own_baload X A_b7 (own_cGe (a := 7) (b := 0) rfl rfl (by omega)) (own_cLt (a := 7) (b := 24) rfl rfl (by omega)) at_507 (fun v81 hv81 lv81 uv81 => ?_)
    refine own_callS X (W := 0) (argsL := [(.ref rb), (.int (8 : Int32)), (.int v81)]) (rest := []) (hw _ (List.mem_of_getElem? (i := 59) rfl)) (hw _ (List.mem_of_getElem? (i := 60) rfl)) (hw _ (List.mem_of_getElem? (i := 4) rfl)) (hw _ (List.mem_of_getElem? (i := 61) rfl)) (by decide) (rm12 l Z a0 hw [] rb (8 : Int32) v81 szB fR h n0 (own_size X) A_rb (by decide) (fun hh => ((hR 8 (by decide) hh).trans (hBk 8 (by decide) (by have hh' : (8 : Int) < szB.toInt := hh; show (8 : Int) < 1 + v4.toInt; omega))).trans (show f55 (Int32.ofInt ((8 : Int32).toInt - 1)) = v81 from hv81))) (by decide) (by decide) (by decide) (by decide) rfl (lenOf pd_10 rfl) rfl (Nat.le_of_eq rfl) at_508 (own_contI fun T v82 X hq82 => ?_)
    subst hq82
    refine own_ifNo X at_511 ((if0 _ _).trans (feq (own_cNe (a := 1) (b := 0) rfl rfl (by decide))).1) ?_
    refine own_aload X at_514 rfl rfl ?_
    refine own_bipush X (9) at_516 rfl ?_
    refine own_aload X at_518 rfl rfl ?_
    refine own_bipush X (8) at_520 rfl ?_
    refine own_baload X A_b7 (own_cGe (a := 8) (b := 0) rfl rfl (by omega)) (own_cLt (a := 8) (b := 24) rfl rfl (by omega)) at_522 (fun v83 hv83 lv83 uv83 => ?_)
    refine own_callS X (W := 0) (argsL := [(.ref rb), (.int (9 : Int32)), (.int v83)]) (rest := []) (hw _ (List.mem_of_getElem? (i := 59) rfl)) (hw _ (List.mem_of_getElem? (i := 60) rfl)) (hw _ (List.mem_of_getElem? (i := 4) rfl)) (hw _ (List.mem_of_getElem? (i := 61) rfl)) (by decide) (rm12 l Z a0 hw [] rb (9 : Int32) v83 szB fR h n0 (own_size X) A_rb (by decide) (fun hh => ((hR 9 (by decide) hh).trans (hBk 9 (by decide) (by have hh' : (9 : Int) < szB.toInt := hh; show (9 : Int) < 1 + v4.toInt; omega))).trans (show f55 (Int32.ofInt ((9 : Int32).toInt - 1)) = v83 from hv83))) (by decide) (by decide) (by decide) (by decide) rfl (lenOf pd_10 rfl) rfl (Nat.le_of_eq rfl) at_523 (own_contI fun T v84 X hq84 => ?_)
    subst hq84
    refine own_ifNo X at_526 ((if0 _ _).trans (feq (own_cNe (a := 1) (b := 0) rfl rfl (by decide))).1) ?_
    refine own_aload X at_529 rfl rfl ?_
    refine own_bipush X (10) at_531 rfl ?_
    refine own_aload X at_533 rfl rfl ?_
    refine own_bipush X (9) at_535 rfl ?_
    refine own_baload X A_b7 (own_cGe (a := 9) (b := 0) rfl rfl (by omega)) (own_cLt (a := 9) (b := 24) rfl rfl (by omega)) at_537 (fun v85 hv85 lv85 uv85 => ?_)
    refine own_callS X (W := 0) (argsL := [(.ref rb), (.int (10 : Int32)), (.int v85)]) (rest := []) (hw _ (List.mem_of_getElem? (i := 59) rfl)) (hw _ (List.mem_of_getElem? (i := 60) rfl)) (hw _ (List.mem_of_getElem? (i := 4) rfl)) (hw _ (List.mem_of_getElem? (i := 61) rfl)) (by decide) (rm12 l Z a0 hw [] rb (10 : Int32) v85 szB fR h n0 (own_size X) A_rb (by decide) (fun hh => ((hR 10 (by decide) hh).trans (hBk 10 (by decide) (by have hh' : (10 : Int) < szB.toInt := hh; show (10 : Int) < 1 + v4.toInt; omega))).trans (show f55 (Int32.ofInt ((10 : Int32).toInt - 1)) = v85 from hv85))) (by decide) (by decide) (by decide) (by decide) rfl (lenOf pd_10 rfl) rfl (Nat.le_of_eq rfl) at_538 (own_contI fun T v86 X hq86 => ?_)
    subst hq86
    refine own_ifNo X at_541 ((if0 _ _).trans (feq (own_cNe (a := 1) (b := 0) rfl rfl (by decide))).1) ?_
    refine own_aload X at_544 rfl rfl ?_
    refine own_bipush X (11) at_546 rfl ?_
    refine own_aload X at_548 rfl rfl ?_
    refine own_bipush X (10) at_550 rfl ?_
    refine own_baload X A_b7 (own_cGe (a := 10) (b := 0) rfl rfl (by omega)) (own_cLt (a := 10) (b := 24) rfl rfl (by omega)) at_552 (fun v87 hv87 lv87 uv87 => ?_)
    refine own_callS X (W := 0) (argsL := [(.ref rb), (.int (11 : Int32)), (.int v87)]) (rest := []) (hw _ (List.mem_of_getElem? (i := 59) rfl)) (hw _ (List.mem_of_getElem? (i := 60) rfl)) (hw _ (List.mem_of_getElem? (i := 4) rfl)) (hw _ (List.mem_of_getElem? (i := 61) rfl)) (by decide) (rm12 l Z a0 hw [] rb (11 : Int32) v87 szB fR h n0 (own_size X) A_rb (by decide) (fun hh => ((hR 11 (by decide) hh).trans (hBk 11 (by decide) (by have hh' : (11 : Int) < szB.toInt := hh; show (11 : Int) < 1 + v4.toInt; omega))).trans (show f55 (Int32.ofInt ((11 : Int32).toInt - 1)) = v87 from hv87))) (by decide) (by decide) (by decide) (by decide) rfl (lenOf pd_10 rfl) rfl (Nat.le_of_eq rfl) at_553 (own_contI fun T v88 X hq88 => ?_)
    subst hq88
    refine own_ifNo X at_556 ((if0 _ _).trans (feq (own_cNe (a := 1) (b := 0) rfl rfl (by decide))).1) ?_
    refine own_aload X at_559 rfl rfl ?_
    refine own_bipush X (12) at_561 rfl ?_
    refine own_aload X at_563 rfl rfl ?_
    refine own_bipush X (11) at_565 rfl ?_
    refine own_baload X A_b7 (own_cGe (a := 11) (b := 0) rfl rfl (by omega)) (own_cLt (a := 11) (b := 24) rfl rfl (by omega)) at_567 (fun v89 hv89 lv89 uv89 => ?_)
    refine own_callS X (W := 0) (argsL := [(.ref rb), (.int (12 : Int32)), (.int v89)]) (rest := []) (hw _ (List.mem_of_getElem? (i := 59) rfl)) (hw _ (List.mem_of_getElem? (i := 60) rfl)) (hw _ (List.mem_of_getElem? (i := 4) rfl)) (hw _ (List.mem_of_getElem? (i := 61) rfl)) (by decide) (rm12 l Z a0 hw [] rb (12 : Int32) v89 szB fR h n0 (own_size X) A_rb (by decide) (fun hh => ((hR 12 (by decide) hh).trans (hBk 12 (by decide) (by have hh' : (12 : Int) < szB.toInt := hh; show (12 : Int) < 1 + v4.toInt; omega))).trans (show f55 (Int32.ofInt ((12 : Int32).toInt - 1)) = v89 from hv89))) (by decide) (by decide) (by decide) (by decide) rfl (lenOf pd_10 rfl) rfl (Nat.le_of_eq rfl) at_568 (own_contI fun T v90 X hq90 => ?_)
    subst hq90
    refine own_ifNo X at_571 ((if0 _ _).trans (feq (own_cNe (a := 1) (b := 0) rfl rfl (by decide))).1) ?_
    refine own_aload X at_574 rfl rfl ?_
    refine own_bipush X (13) at_576 rfl ?_
    refine own_aload X at_578 rfl rfl ?_
    refine own_bipush X (12) at_580 rfl ?_
    refine own_baload X A_b7 (own_cGe (a := 12) (b := 0) rfl rfl (by omega)) (own_cLt (a := 12) (b := 24) rfl rfl (by omega)) at_582 (fun v91 hv91 lv91 uv91 => ?_)
    refine own_callS X (W := 0) (argsL := [(.ref rb), (.int (13 : Int32)), (.int v91)]) (rest := []) (hw _ (List.mem_of_getElem? (i := 59) rfl)) (hw _ (List.mem_of_getElem? (i := 60) rfl)) (hw _ (List.mem_of_getElem? (i := 4) rfl)) (hw _ (List.mem_of_getElem? (i := 61) rfl)) (by decide) (rm12 l Z a0 hw [] rb (13 : Int32) v91 szB fR h n0 (own_size X) A_rb (by decide) (fun hh => ((hR 13 (by decide) hh).trans (hBk 13 (by decide) (by have hh' : (13 : Int) < szB.toInt := hh; show (13 : Int) < 1 + v4.toInt; omega))).trans (show f55 (Int32.ofInt ((13 : Int32).toInt - 1)) = v91 from hv91))) (by decide) (by decide) (by decide) (by decide) rfl (lenOf pd_10 rfl) rfl (Nat.le_of_eq rfl) at_583 (own_contI fun T v92 X hq92 => ?_)
    subst hq92
    refine own_ifNo X at_586 ((if0 _ _).trans (feq (own_cNe (a := 1) (b := 0) rfl rfl (by decide))).1) ?_
    refine own_aload X at_589 rfl rfl ?_
    refine own_bipush X (14) at_591 rfl ?_
    refine own_aload X at_593 rfl rfl ?_
    refine own_bipush X (13) at_595 rfl ?_
    refine own_baload X A_b7 (own_cGe (a := 13) (b := 0) rfl rfl (by omega)) (own_cLt (a := 13) (b := 24) rfl rfl (by omega)) at_597 (fun v93 hv93 lv93 uv93 => ?_)
    refine own_callS X (W := 0) (argsL := [(.ref rb), (.int (14 : Int32)), (.int v93)]) (rest := []) (hw _ (List.mem_of_getElem? (i := 59) rfl)) (hw _ (List.mem_of_getElem? (i := 60) rfl)) (hw _ (List.mem_of_getElem? (i := 4) rfl)) (hw _ (List.mem_of_getElem? (i := 61) rfl)) (by decide) (rm12 l Z a0 hw [] rb (14 : Int32) v93 szB fR h n0 (own_size X) A_rb (by decide) (fun hh => ((hR 14 (by decide) hh).trans (hBk 14 (by decide) (by have hh' : (14 : Int) < szB.toInt := hh; show (14 : Int) < 1 + v4.toInt; omega))).trans (show f55 (Int32.ofInt ((14 : Int32).toInt - 1)) = v93 from hv93))) (by decide) (by decide) (by decide) (by decide) rfl (lenOf pd_10 rfl) rfl (Nat.le_of_eq rfl) at_598 (own_contI fun T v94 X hq94 => ?_)
    subst hq94
    refine own_ifNo X at_601 ((if0 _ _).trans (feq (own_cNe (a := 1) (b := 0) rfl rfl (by decide))).1) ?_
    refine own_aload X at_604 rfl rfl ?_
    refine own_bipush X (15) at_606 rfl ?_
    refine own_aload X at_608 rfl rfl ?_
    refine own_bipush X (14) at_610 rfl ?_
    refine own_baload X A_b7 (own_cGe (a := 14) (b := 0) rfl rfl (by omega)) (own_cLt (a := 14) (b := 24) rfl rfl (by omega)) at_612 (fun v95 hv95 lv95 uv95 => ?_)
    refine own_callS X (W := 0) (argsL := [(.ref rb), (.int (15 : Int32)), (.int v95)]) (rest := []) (hw _ (List.mem_of_getElem? (i := 59) rfl)) (hw _ (List.mem_of_getElem? (i := 60) rfl)) (hw _ (List.mem_of_getElem? (i := 4) rfl)) (hw _ (List.mem_of_getElem? (i := 61) rfl)) (by decide) (rm12 l Z a0 hw [] rb (15 : Int32) v95 szB fR h n0 (own_size X) A_rb (by decide) (fun hh => ((hR 15 (by decide) hh).trans (hBk 15 (by decide) (by have hh' : (15 : Int) < szB.toInt := hh; show (15 : Int) < 1 + v4.toInt; omega))).trans (show f55 (Int32.ofInt ((15 : Int32).toInt - 1)) = v95 from hv95))) (by decide) (by decide) (by decide) (by decide) rfl (lenOf pd_10 rfl) rfl (Nat.le_of_eq rfl) at_613 (own_contI fun T v96 X hq96 => ?_)
    subst hq96
    refine own_ifNo X at_616 ((if0 _ _).trans (feq (own_cNe (a := 1) (b := 0) rfl rfl (by decide))).1) ?_
    refine own_aload X at_619 rfl rfl ?_
    refine own_bipush X (16) at_621 rfl ?_
    refine own_aload X at_623 rfl rfl ?_
    refine own_bipush X (15) at_625 rfl ?_
    refine own_baload X A_b7 (own_cGe (a := 15) (b := 0) rfl rfl (by omega)) (own_cLt (a := 15) (b := 24) rfl rfl (by omega)) at_627 (fun v97 hv97 lv97 uv97 => ?_)
    refine own_callS X (W := 0) (argsL := [(.ref rb), (.int (16 : Int32)), (.int v97)]) (rest := []) (hw _ (List.mem_of_getElem? (i := 59) rfl)) (hw _ (List.mem_of_getElem? (i := 60) rfl)) (hw _ (List.mem_of_getElem? (i := 4) rfl)) (hw _ (List.mem_of_getElem? (i := 61) rfl)) (by decide) (rm12 l Z a0 hw [] rb (16 : Int32) v97 szB fR h n0 (own_size X) A_rb (by decide) (fun hh => ((hR 16 (by decide) hh).trans (hBk 16 (by decide) (by have hh' : (16 : Int) < szB.toInt := hh; show (16 : Int) < 1 + v4.toInt; omega))).trans (show f55 (Int32.ofInt ((16 : Int32).toInt - 1)) = v97 from hv97))) (by decide) (by decide) (by decide) (by decide) rfl (lenOf pd_10 rfl) rfl (Nat.le_of_eq rfl) at_628 (own_contI fun T v98 X hq98 => ?_)
    subst hq98
    refine own_ifNo X at_631 ((if0 _ _).trans (feq (own_cNe (a := 1) (b := 0) rfl rfl (by decide))).1) ?_
    refine own_aload X at_634 rfl rfl ?_
    refine own_bipush X (17) at_636 rfl ?_
    refine own_aload X at_638 rfl rfl ?_
    refine own_bipush X (16) at_640 rfl ?_
    refine own_baload X A_b7 (own_cGe (a := 16) (b := 0) rfl rfl (by omega)) (own_cLt (a := 16) (b := 24) rfl rfl (by omega)) at_642 (fun v99 hv99 lv99 uv99 => ?_)
    refine own_callS X (W := 0) (argsL := [(.ref rb), (.int (17 : Int32)), (.int v99)]) (rest := []) (hw _ (List.mem_of_getElem? (i := 59) rfl)) (hw _ (List.mem_of_getElem? (i := 60) rfl)) (hw _ (List.mem_of_getElem? (i := 4) rfl)) (hw _ (List.mem_of_getElem? (i := 61) rfl)) (by decide) (rm12 l Z a0 hw [] rb (17 : Int32) v99 szB fR h n0 (own_size X) A_rb (by decide) (fun hh => ((hR 17 (by decide) hh).trans (hBk 17 (by decide) (by have hh' : (17 : Int) < szB.toInt := hh; show (17 : Int) < 1 + v4.toInt; omega))).trans (show f55 (Int32.ofInt ((17 : Int32).toInt - 1)) = v99 from hv99))) (by decide) (by decide) (by decide) (by decide) rfl (lenOf pd_10 rfl) rfl (Nat.le_of_eq rfl) at_643 (own_contI fun T v100 X hq100 => ?_)
    subst hq100
    refine own_ifNo X at_646 ((if0 _ _).trans (feq (own_cNe (a := 1) (b := 0) rfl rfl (by decide))).1) ?_
    refine own_aload X at_649 rfl rfl ?_
    refine own_bipush X (18) at_651 rfl ?_
    refine own_aload X at_653 rfl rfl ?_
    refine own_bipush X (17) at_655 rfl ?_
    refine own_baload X A_b7 (own_cGe (a := 17) (b := 0) rfl rfl (by omega)) (own_cLt (a := 17) (b := 24) rfl rfl (by omega)) at_657 (fun v101 hv101 lv101 uv101 => ?_)
    refine own_callS X (W := 0) (argsL := [(.ref rb), (.int (18 : Int32)), (.int v101)]) (rest := []) (hw _ (List.mem_of_getElem? (i := 59) rfl)) (hw _ (List.mem_of_getElem? (i := 60) rfl)) (hw _ (List.mem_of_getElem? (i := 4) rfl)) (hw _ (List.mem_of_getElem? (i := 61) rfl)) (by decide) (rm12 l Z a0 hw [] rb (18 : Int32) v101 szB fR h n0 (own_size X) A_rb (by decide) (fun hh => ((hR 18 (by decide) hh).trans (hBk 18 (by decide) (by have hh' : (18 : Int) < szB.toInt := hh; show (18 : Int) < 1 + v4.toInt; omega))).trans (show f55 (Int32.ofInt ((18 : Int32).toInt - 1)) = v101 from hv101))) (by decide) (by decide) (by decide) (by decide) rfl (lenOf pd_10 rfl) rfl (Nat.le_of_eq rfl) at_658 (own_contI fun T v102 X hq102 => ?_)
    subst hq102
    refine own_ifNo X at_661 ((if0 _ _).trans (feq (own_cNe (a := 1) (b := 0) rfl rfl (by decide))).1) ?_
    refine own_aload X at_664 rfl rfl ?_
    refine own_bipush X (19) at_666 rfl ?_
    refine own_aload X at_668 rfl rfl ?_
    refine own_bipush X (18) at_670 rfl ?_
    refine own_baload X A_b7 (own_cGe (a := 18) (b := 0) rfl rfl (by omega)) (own_cLt (a := 18) (b := 24) rfl rfl (by omega)) at_672 (fun v103 hv103 lv103 uv103 => ?_)
    refine own_callS X (W := 0) (argsL := [(.ref rb), (.int (19 : Int32)), (.int v103)]) (rest := []) (hw _ (List.mem_of_getElem? (i := 59) rfl)) (hw _ (List.mem_of_getElem? (i := 60) rfl)) (hw _ (List.mem_of_getElem? (i := 4) rfl)) (hw _ (List.mem_of_getElem? (i := 61) rfl)) (by decide) (rm12 l Z a0 hw [] rb (19 : Int32) v103 szB fR h n0 (own_size X) A_rb (by decide) (fun hh => ((hR 19 (by decide) hh).trans (hBk 19 (by decide) (by have hh' : (19 : Int) < szB.toInt := hh; show (19 : Int) < 1 + v4.toInt; omega))).trans (show f55 (Int32.ofInt ((19 : Int32).toInt - 1)) = v103 from hv103))) (by decide) (by decide) (by decide) (by decide) rfl (lenOf pd_10 rfl) rfl (Nat.le_of_eq rfl) at_673 (own_contI fun T v104 X hq104 => ?_)
    subst hq104
    refine own_ifNo X at_676 ((if0 _ _).trans (feq (own_cNe (a := 1) (b := 0) rfl rfl (by decide))).1) ?_
    refine own_aload X at_679 rfl rfl ?_
    refine own_bipush X (20) at_681 rfl ?_
    refine own_aload X at_683 rfl rfl ?_
    refine own_bipush X (19) at_685 rfl ?_
    refine own_baload X A_b7 (own_cGe (a := 19) (b := 0) rfl rfl (by omega)) (own_cLt (a := 19) (b := 24) rfl rfl (by omega)) at_687 (fun v105 hv105 lv105 uv105 => ?_)
    refine own_callS X (W := 0) (argsL := [(.ref rb), (.int (20 : Int32)), (.int v105)]) (rest := []) (hw _ (List.mem_of_getElem? (i := 59) rfl)) (hw _ (List.mem_of_getElem? (i := 60) rfl)) (hw _ (List.mem_of_getElem? (i := 4) rfl)) (hw _ (List.mem_of_getElem? (i := 61) rfl)) (by decide) (rm12 l Z a0 hw [] rb (20 : Int32) v105 szB fR h n0 (own_size X) A_rb (by decide) (fun hh => ((hR 20 (by decide) hh).trans (hBk 20 (by decide) (by have hh' : (20 : Int) < szB.toInt := hh; show (20 : Int) < 1 + v4.toInt; omega))).trans (show f55 (Int32.ofInt ((20 : Int32).toInt - 1)) = v105 from hv105))) (by decide) (by decide) (by decide) (by decide) rfl (lenOf pd_10 rfl) rfl (Nat.le_of_eq rfl) at_688 (own_contI fun T v106 X hq106 => ?_)
    subst hq106
    refine own_ifNo X at_691 ((if0 _ _).trans (feq (own_cNe (a := 1) (b := 0) rfl rfl (by decide))).1) ?_
    refine own_aload X at_694 rfl rfl ?_
    refine own_bipush X (21) at_696 rfl ?_
    refine own_aload X at_698 rfl rfl ?_
    refine own_bipush X (20) at_700 rfl ?_
    refine own_baload X A_b7 (own_cGe (a := 20) (b := 0) rfl rfl (by omega)) (own_cLt (a := 20) (b := 24) rfl rfl (by omega)) at_702 (fun v107 hv107 lv107 uv107 => ?_)
    refine own_callS X (W := 0) (argsL := [(.ref rb), (.int (21 : Int32)), (.int v107)]) (rest := []) (hw _ (List.mem_of_getElem? (i := 59) rfl)) (hw _ (List.mem_of_getElem? (i := 60) rfl)) (hw _ (List.mem_of_getElem? (i := 4) rfl)) (hw _ (List.mem_of_getElem? (i := 61) rfl)) (by decide) (rm12 l Z a0 hw [] rb (21 : Int32) v107 szB fR h n0 (own_size X) A_rb (by decide) (fun hh => ((hR 21 (by decide) hh).trans (hBk 21 (by decide) (by have hh' : (21 : Int) < szB.toInt := hh; show (21 : Int) < 1 + v4.toInt; omega))).trans (show f55 (Int32.ofInt ((21 : Int32).toInt - 1)) = v107 from hv107))) (by decide) (by decide) (by decide) (by decide) rfl (lenOf pd_10 rfl) rfl (Nat.le_of_eq rfl) at_703 (own_contI fun T v108 X hq108 => ?_)
    subst hq108
    refine own_ifNo X at_706 ((if0 _ _).trans (feq (own_cNe (a := 1) (b := 0) rfl rfl (by decide))).1) ?_
    refine own_aload X at_709 rfl rfl ?_
    refine own_bipush X (22) at_711 rfl ?_
    refine own_aload X at_713 rfl rfl ?_
    refine own_bipush X (21) at_715 rfl ?_
    refine own_baload X A_b7 (own_cGe (a := 21) (b := 0) rfl rfl (by omega)) (own_cLt (a := 21) (b := 24) rfl rfl (by omega)) at_717 (fun v109 hv109 lv109 uv109 => ?_)
    refine own_callS X (W := 0) (argsL := [(.ref rb), (.int (22 : Int32)), (.int v109)]) (rest := []) (hw _ (List.mem_of_getElem? (i := 59) rfl)) (hw _ (List.mem_of_getElem? (i := 60) rfl)) (hw _ (List.mem_of_getElem? (i := 4) rfl)) (hw _ (List.mem_of_getElem? (i := 61) rfl)) (by decide) (rm12 l Z a0 hw [] rb (22 : Int32) v109 szB fR h n0 (own_size X) A_rb (by decide) (fun hh => ((hR 22 (by decide) hh).trans (hBk 22 (by decide) (by have hh' : (22 : Int) < szB.toInt := hh; show (22 : Int) < 1 + v4.toInt; omega))).trans (show f55 (Int32.ofInt ((22 : Int32).toInt - 1)) = v109 from hv109))) (by decide) (by decide) (by decide) (by decide) rfl (lenOf pd_10 rfl) rfl (Nat.le_of_eq rfl) at_718 (own_contI fun T v110 X hq110 => ?_)
    subst hq110
    refine own_ifNo X at_721 ((if0 _ _).trans (feq (own_cNe (a := 1) (b := 0) rfl rfl (by decide))).1) ?_
    refine own_aload X at_724 rfl rfl ?_
    refine own_bipush X (23) at_726 rfl ?_
    refine own_aload X at_728 rfl rfl ?_
    refine own_bipush X (22) at_730 rfl ?_
    refine own_baload X A_b7 (own_cGe (a := 22) (b := 0) rfl rfl (by omega)) (own_cLt (a := 22) (b := 24) rfl rfl (by omega)) at_732 (fun v111 hv111 lv111 uv111 => ?_)
    refine own_callS X (W := 0) (argsL := [(.ref rb), (.int (23 : Int32)), (.int v111)]) (rest := []) (hw _ (List.mem_of_getElem? (i := 59) rfl)) (hw _ (List.mem_of_getElem? (i := 60) rfl)) (hw _ (List.mem_of_getElem? (i := 4) rfl)) (hw _ (List.mem_of_getElem? (i := 61) rfl)) (by decide) (rm12 l Z a0 hw [] rb (23 : Int32) v111 szB fR h n0 (own_size X) A_rb (by decide) (fun hh => ((hR 23 (by decide) hh).trans (hBk 23 (by decide) (by have hh' : (23 : Int) < szB.toInt := hh; show (23 : Int) < 1 + v4.toInt; omega))).trans (show f55 (Int32.ofInt ((23 : Int32).toInt - 1)) = v111 from hv111))) (by decide) (by decide) (by decide) (by decide) rfl (lenOf pd_10 rfl) rfl (Nat.le_of_eq rfl) at_733 (own_contI fun T v112 X hq112 => ?_)
    subst hq112
    refine own_ifNo X at_736 ((if0 _ _).trans (feq (own_cNe (a := 1) (b := 0) rfl rfl (by decide))).1) ?_
    refine own_aload X at_739 rfl rfl ?_
    refine own_bipush X (24) at_741 rfl ?_
    refine own_aload X at_743 rfl rfl ?_
    refine own_bipush X (23) at_745 rfl ?_
    refine own_baload X A_b7 (own_cGe (a := 23) (b := 0) rfl rfl (by omega)) (own_cLt (a := 23) (b := 24) rfl rfl (by omega)) at_747 (fun v113 hv113 lv113 uv113 => ?_)
    refine own_callS X (W := 0) (argsL := [(.ref rb), (.int (24 : Int32)), (.int v113)]) (rest := []) (hw _ (List.mem_of_getElem? (i := 59) rfl)) (hw _ (List.mem_of_getElem? (i := 60) rfl)) (hw _ (List.mem_of_getElem? (i := 4) rfl)) (hw _ (List.mem_of_getElem? (i := 61) rfl)) (by decide) (rm12 l Z a0 hw [] rb (24 : Int32) v113 szB fR h n0 (own_size X) A_rb (by decide) (fun hh => ((hR 24 (by decide) hh).trans (hBk 24 (by decide) (by have hh' : (24 : Int) < szB.toInt := hh; show (24 : Int) < 1 + v4.toInt; omega))).trans (show f55 (Int32.ofInt ((24 : Int32).toInt - 1)) = v113 from hv113))) (by decide) (by decide) (by decide) (by decide) rfl (lenOf pd_10 rfl) rfl (Nat.le_of_eq rfl) at_748 (own_contI fun T v114 X hq114 => ?_)
    subst hq114
    refine own_ifNo X at_751 ((if0 _ _).trans (feq (own_cNe (a := 1) (b := 0) rfl rfl (by decide))).1) ?_
    refine own_iconst X (1) at_754 rfl ?_
    refine own_goto X (pc := 755) (pc' := 759) at_755 (by decide) (by decide) ?_
    refine own_retN (t := .boolean) X (z' := (1 : Int32)) (Or.inl rfl) rfl rfl at_759 (by decide) (by decide) ⟨_, rfl, ?_⟩
    rfl
  · refine own_ifNo X at_350 ((if0 _ _).trans (feq (own_cNe (a := v61.toInt) (b := 0) rfl rfl hc62)).1) ?_
    refine own_iload X at_353 rfl ?_
    refine own_iconst X (1) at_355 rfl ?_
    refine own_iushrK X (x5.toInt) 1 2 at_356 rfl (by decide) (by decide) (by decide) (fun v115 hv115 cv115 lv115 uv115 => ?_)
    refine own_iload X at_357 rfl ?_
    refine own_iconst X (1) at_359 rfl ?_
    refine own_iaddV X (v60.toInt) (1) at_360 rfl rfl (fun v116 hv116 cv116 lv116 uv116 => ?_)
    have xv116 : v116.toInt = v60.toInt + 1 := by omega
    refine own_iremB X (v115.toInt) (v116.toInt) at_361 (own_nzI (by omega)) rfl rfl (by omega) (by omega) (fun v117 hv117 cv117 lv117 uv117 => ?_)
    refine own_istore X at_362 (L' := #[.val (.int x0), .val (.int x1), .val (.int x2), .val (.int x3), .val (.int x4), .val (.int x5), .val (.int v2), .val (.int v4), .val (.int v6), .val (.ref b7), .val (.ref b56), .val (.int v60), .val (.int v117), .unset]) rfl ?_
    refine own_aload X at_364 rfl rfl ?_
    refine own_iload X at_366 rfl ?_
    refine own_callV X (W := 0) (a := b56) (argsL := [(.int v117)]) (rest := []) (hw _ (List.mem_of_getElem? (i := 41) rfl)) (hw _ (List.mem_of_getElem? (i := 42) rfl)) (hw _ (List.mem_of_getElem? (i := 44) rfl)) (hw _ (List.mem_of_getElem? (i := 43) rfl)) (hw _ (List.mem_of_getElem? (i := 8) rfl)) (hw _ (List.mem_of_getElem? (i := 45) rfl)) rfl (by decide) (rm8 l Z a0 hw [] b56 v117 bb szB h n0 (own_size X) E_b56 F_bytes_b56 F_size_b56 ge_b56) E_b56 (by decide) (by decide) (by decide) (by decide) rfl (lenOf pd_3 rfl) rfl (Nat.le_of_eq rfl) at_368 (own_contVH fun T h X hq118 => ?_)
    obtain ⟨Kc, E_b56, F_size_b56, F_bytes_b56⟩ := hq118
    have A_b7 := A_b7.keep Kc (ninS ne_b7_b56 nin0)
    have A_bb := A_bb.keep Kc (ninS (Ne.symm ne_b56_bb) nin0)
    refine own_aload X at_371 rfl rfl ?_
    refine own_callV X (W := 0) (a := b56) (argsL := []) (rest := []) (hw _ (List.mem_of_getElem? (i := 46) rfl)) (hw _ (List.mem_of_getElem? (i := 47) rfl)) (hw _ (List.mem_of_getElem? (i := 49) rfl)) (hw _ (List.mem_of_getElem? (i := 48) rfl)) (hw _ (List.mem_of_getElem? (i := 8) rfl)) (hw _ (List.mem_of_getElem? (i := 50) rfl)) rfl (by decide) (rm9 l Z a0 hw [] b56 bb bM fB v117 h n0 (own_size X) E_b56 F_bytes_b56 F_size_b56 A_bb ge_b56 ge_bb (by omega) (by omega) (by omega)) E_b56 (by decide) (by decide) (by decide) (by decide) rfl (lenOf pd_1 rfl) rfl (Nat.le_of_eq rfl) at_373 (own_contRH fun T h v119 X hq119 => ?_)
    obtain ⟨Kc, rb, fR, rfl, horR, A_rb, hR⟩ := hq119
    have A_b7 := A_b7.keep Kc (ninS ne_b7_b56 nin0)
    have A_bb := A_bb.keep Kc (ninS (Ne.symm ne_b56_bb) nin0)
    refine own_astore X at_376 rfl (L' := #[.val (.int x0), .val (.int x1), .val (.int x2), .val (.int x3), .val (.int x4), .val (.int x5), .val (.int v2), .val (.int v4), .val (.int v6), .val (.ref b7), .val (.ref b56), .val (.int v60), .val (.int v117), .val (.ref rb)]) rfl ?_
    refine own_aload X at_378 rfl rfl ?_
    refine own_ifnullNo X at_380 ?_
    refine own_aload X at_383 rfl rfl ?_
    refine own_alen X A_rb at_385 ?_
    refine own_iload X at_386 rfl ?_
    have hc120 : v117.toInt = v117.toInt := by omega
    refine own_icmpYes X (pc := 388) (pc' := 393) at_388 (teq (own_cEq (a := v117.toInt) (b := v117.toInt) rfl rfl hc120)).1 (by decide) (by decide) ?_
    refine own_aload X at_393 rfl rfl ?_
    refine own_iconst X (0) at_395 rfl ?_
    refine own_iload X at_396 rfl ?_
    refine own_i2bV X (v6.toInt) at_398 rfl (fun v121 hv121 cv121 lv121 uv121 => ?_)
    refine own_callS X (W := 0) (argsL := [(.ref rb), (.int (0 : Int32)), (.int v121)]) (rest := []) (hw _ (List.mem_of_getElem? (i := 59) rfl)) (hw _ (List.mem_of_getElem? (i := 60) rfl)) (hw _ (List.mem_of_getElem? (i := 4) rfl)) (hw _ (List.mem_of_getElem? (i := 61) rfl)) (by decide) (rm12 l Z a0 hw [] rb (0 : Int32) v121 v117 fR h n0 (own_size X) A_rb (by decide) (fun hh => ((hR 0 (by decide) hh).trans hB0).trans (hA0.trans hv121))) (by decide) (by decide) (by decide) (by decide) rfl (lenOf pd_10 rfl) rfl (Nat.le_of_eq rfl) at_399 (own_contI fun T v122 X hq122 => ?_)
    subst hq122
    refine own_ifNo X at_402 ((if0 _ _).trans (feq (own_cNe (a := 1) (b := 0) rfl rfl (by decide))).1) ?_
    refine own_aload X at_405 rfl rfl ?_
    refine own_iconst X (1) at_407 rfl ?_
    refine own_aload X at_408 rfl rfl ?_
    refine own_iconst X (0) at_410 rfl ?_
    refine own_baload X A_b7 (own_cGe (a := 0) (b := 0) rfl rfl (by omega)) (own_cLt (a := 0) (b := 24) rfl rfl (by omega)) at_411 (fun v123 hv123 lv123 uv123 => ?_)
    refine own_callS X (W := 0) (argsL := [(.ref rb), (.int (1 : Int32)), (.int v123)]) (rest := []) (hw _ (List.mem_of_getElem? (i := 59) rfl)) (hw _ (List.mem_of_getElem? (i := 60) rfl)) (hw _ (List.mem_of_getElem? (i := 4) rfl)) (hw _ (List.mem_of_getElem? (i := 61) rfl)) (by decide) (rm12 l Z a0 hw [] rb (1 : Int32) v123 v117 fR h n0 (own_size X) A_rb (by decide) (fun hh => ((hR 1 (by decide) hh).trans (hBk 1 (by decide) (by have hh' : (1 : Int) < v117.toInt := hh; show (1 : Int) < 1 + v4.toInt; omega))).trans (show f55 (Int32.ofInt ((1 : Int32).toInt - 1)) = v123 from hv123))) (by decide) (by decide) (by decide) (by decide) rfl (lenOf pd_10 rfl) rfl (Nat.le_of_eq rfl) at_412 (own_contI fun T v124 X hq124 => ?_)
    subst hq124
    refine own_ifNo X at_415 ((if0 _ _).trans (feq (own_cNe (a := 1) (b := 0) rfl rfl (by decide))).1) ?_
    refine own_aload X at_418 rfl rfl ?_
    refine own_iconst X (2) at_420 rfl ?_
    refine own_aload X at_421 rfl rfl ?_
    refine own_iconst X (1) at_423 rfl ?_
    refine own_baload X A_b7 (own_cGe (a := 1) (b := 0) rfl rfl (by omega)) (own_cLt (a := 1) (b := 24) rfl rfl (by omega)) at_424 (fun v125 hv125 lv125 uv125 => ?_)
    refine own_callS X (W := 0) (argsL := [(.ref rb), (.int (2 : Int32)), (.int v125)]) (rest := []) (hw _ (List.mem_of_getElem? (i := 59) rfl)) (hw _ (List.mem_of_getElem? (i := 60) rfl)) (hw _ (List.mem_of_getElem? (i := 4) rfl)) (hw _ (List.mem_of_getElem? (i := 61) rfl)) (by decide) (rm12 l Z a0 hw [] rb (2 : Int32) v125 v117 fR h n0 (own_size X) A_rb (by decide) (fun hh => ((hR 2 (by decide) hh).trans (hBk 2 (by decide) (by have hh' : (2 : Int) < v117.toInt := hh; show (2 : Int) < 1 + v4.toInt; omega))).trans (show f55 (Int32.ofInt ((2 : Int32).toInt - 1)) = v125 from hv125))) (by decide) (by decide) (by decide) (by decide) rfl (lenOf pd_10 rfl) rfl (Nat.le_of_eq rfl) at_425 (own_contI fun T v126 X hq126 => ?_)
    subst hq126
    refine own_ifNo X at_428 ((if0 _ _).trans (feq (own_cNe (a := 1) (b := 0) rfl rfl (by decide))).1) ?_
    refine own_aload X at_431 rfl rfl ?_
    refine own_iconst X (3) at_433 rfl ?_
    refine own_aload X at_434 rfl rfl ?_
    refine own_iconst X (2) at_436 rfl ?_
    refine own_baload X A_b7 (own_cGe (a := 2) (b := 0) rfl rfl (by omega)) (own_cLt (a := 2) (b := 24) rfl rfl (by omega)) at_437 (fun v127 hv127 lv127 uv127 => ?_)
    refine own_callS X (W := 0) (argsL := [(.ref rb), (.int (3 : Int32)), (.int v127)]) (rest := []) (hw _ (List.mem_of_getElem? (i := 59) rfl)) (hw _ (List.mem_of_getElem? (i := 60) rfl)) (hw _ (List.mem_of_getElem? (i := 4) rfl)) (hw _ (List.mem_of_getElem? (i := 61) rfl)) (by decide) (rm12 l Z a0 hw [] rb (3 : Int32) v127 v117 fR h n0 (own_size X) A_rb (by decide) (fun hh => ((hR 3 (by decide) hh).trans (hBk 3 (by decide) (by have hh' : (3 : Int) < v117.toInt := hh; show (3 : Int) < 1 + v4.toInt; omega))).trans (show f55 (Int32.ofInt ((3 : Int32).toInt - 1)) = v127 from hv127))) (by decide) (by decide) (by decide) (by decide) rfl (lenOf pd_10 rfl) rfl (Nat.le_of_eq rfl) at_438 (own_contI fun T v128 X hq128 => ?_)
    subst hq128
    refine own_ifNo X at_441 ((if0 _ _).trans (feq (own_cNe (a := 1) (b := 0) rfl rfl (by decide))).1) ?_
    refine own_aload X at_444 rfl rfl ?_
    refine own_iconst X (4) at_446 rfl ?_
    refine own_aload X at_447 rfl rfl ?_
    refine own_iconst X (3) at_449 rfl ?_
    refine own_baload X A_b7 (own_cGe (a := 3) (b := 0) rfl rfl (by omega)) (own_cLt (a := 3) (b := 24) rfl rfl (by omega)) at_450 (fun v129 hv129 lv129 uv129 => ?_)
    refine own_callS X (W := 0) (argsL := [(.ref rb), (.int (4 : Int32)), (.int v129)]) (rest := []) (hw _ (List.mem_of_getElem? (i := 59) rfl)) (hw _ (List.mem_of_getElem? (i := 60) rfl)) (hw _ (List.mem_of_getElem? (i := 4) rfl)) (hw _ (List.mem_of_getElem? (i := 61) rfl)) (by decide) (rm12 l Z a0 hw [] rb (4 : Int32) v129 v117 fR h n0 (own_size X) A_rb (by decide) (fun hh => ((hR 4 (by decide) hh).trans (hBk 4 (by decide) (by have hh' : (4 : Int) < v117.toInt := hh; show (4 : Int) < 1 + v4.toInt; omega))).trans (show f55 (Int32.ofInt ((4 : Int32).toInt - 1)) = v129 from hv129))) (by decide) (by decide) (by decide) (by decide) rfl (lenOf pd_10 rfl) rfl (Nat.le_of_eq rfl) at_451 (own_contI fun T v130 X hq130 => ?_)
    subst hq130
    refine own_ifNo X at_454 ((if0 _ _).trans (feq (own_cNe (a := 1) (b := 0) rfl rfl (by decide))).1) ?_
    refine own_aload X at_457 rfl rfl ?_
    refine own_iconst X (5) at_459 rfl ?_
    refine own_aload X at_460 rfl rfl ?_
    refine own_iconst X (4) at_462 rfl ?_
    refine own_baload X A_b7 (own_cGe (a := 4) (b := 0) rfl rfl (by omega)) (own_cLt (a := 4) (b := 24) rfl rfl (by omega)) at_463 (fun v131 hv131 lv131 uv131 => ?_)
    refine own_callS X (W := 0) (argsL := [(.ref rb), (.int (5 : Int32)), (.int v131)]) (rest := []) (hw _ (List.mem_of_getElem? (i := 59) rfl)) (hw _ (List.mem_of_getElem? (i := 60) rfl)) (hw _ (List.mem_of_getElem? (i := 4) rfl)) (hw _ (List.mem_of_getElem? (i := 61) rfl)) (by decide) (rm12 l Z a0 hw [] rb (5 : Int32) v131 v117 fR h n0 (own_size X) A_rb (by decide) (fun hh => ((hR 5 (by decide) hh).trans (hBk 5 (by decide) (by have hh' : (5 : Int) < v117.toInt := hh; show (5 : Int) < 1 + v4.toInt; omega))).trans (show f55 (Int32.ofInt ((5 : Int32).toInt - 1)) = v131 from hv131))) (by decide) (by decide) (by decide) (by decide) rfl (lenOf pd_10 rfl) rfl (Nat.le_of_eq rfl) at_464 (own_contI fun T v132 X hq132 => ?_)
    subst hq132
    refine own_ifNo X at_467 ((if0 _ _).trans (feq (own_cNe (a := 1) (b := 0) rfl rfl (by decide))).1) ?_
    refine own_aload X at_470 rfl rfl ?_
    refine own_bipush X (6) at_472 rfl ?_
    refine own_aload X at_474 rfl rfl ?_
    refine own_iconst X (5) at_476 rfl ?_
    refine own_baload X A_b7 (own_cGe (a := 5) (b := 0) rfl rfl (by omega)) (own_cLt (a := 5) (b := 24) rfl rfl (by omega)) at_477 (fun v133 hv133 lv133 uv133 => ?_)
    refine own_callS X (W := 0) (argsL := [(.ref rb), (.int (6 : Int32)), (.int v133)]) (rest := []) (hw _ (List.mem_of_getElem? (i := 59) rfl)) (hw _ (List.mem_of_getElem? (i := 60) rfl)) (hw _ (List.mem_of_getElem? (i := 4) rfl)) (hw _ (List.mem_of_getElem? (i := 61) rfl)) (by decide) (rm12 l Z a0 hw [] rb (6 : Int32) v133 v117 fR h n0 (own_size X) A_rb (by decide) (fun hh => ((hR 6 (by decide) hh).trans (hBk 6 (by decide) (by have hh' : (6 : Int) < v117.toInt := hh; show (6 : Int) < 1 + v4.toInt; omega))).trans (show f55 (Int32.ofInt ((6 : Int32).toInt - 1)) = v133 from hv133))) (by decide) (by decide) (by decide) (by decide) rfl (lenOf pd_10 rfl) rfl (Nat.le_of_eq rfl) at_478 (own_contI fun T v134 X hq134 => ?_)
    subst hq134
    refine own_ifNo X at_481 ((if0 _ _).trans (feq (own_cNe (a := 1) (b := 0) rfl rfl (by decide))).1) ?_
    refine own_aload X at_484 rfl rfl ?_
    refine own_bipush X (7) at_486 rfl ?_
    refine own_aload X at_488 rfl rfl ?_
    refine own_bipush X (6) at_490 rfl ?_
    refine own_baload X A_b7 (own_cGe (a := 6) (b := 0) rfl rfl (by omega)) (own_cLt (a := 6) (b := 24) rfl rfl (by omega)) at_492 (fun v135 hv135 lv135 uv135 => ?_)
    refine own_callS X (W := 0) (argsL := [(.ref rb), (.int (7 : Int32)), (.int v135)]) (rest := []) (hw _ (List.mem_of_getElem? (i := 59) rfl)) (hw _ (List.mem_of_getElem? (i := 60) rfl)) (hw _ (List.mem_of_getElem? (i := 4) rfl)) (hw _ (List.mem_of_getElem? (i := 61) rfl)) (by decide) (rm12 l Z a0 hw [] rb (7 : Int32) v135 v117 fR h n0 (own_size X) A_rb (by decide) (fun hh => ((hR 7 (by decide) hh).trans (hBk 7 (by decide) (by have hh' : (7 : Int) < v117.toInt := hh; show (7 : Int) < 1 + v4.toInt; omega))).trans (show f55 (Int32.ofInt ((7 : Int32).toInt - 1)) = v135 from hv135))) (by decide) (by decide) (by decide) (by decide) rfl (lenOf pd_10 rfl) rfl (Nat.le_of_eq rfl) at_493 (own_contI fun T v136 X hq136 => ?_)
    subst hq136
    refine own_ifNo X at_496 ((if0 _ _).trans (feq (own_cNe (a := 1) (b := 0) rfl rfl (by decide))).1) ?_
    refine own_aload X at_499 rfl rfl ?_
    refine own_bipush X (8) at_501 rfl ?_
    refine own_aload X at_503 rfl rfl ?_
    refine own_bipush X (7) at_505 rfl ?_
    refine own_baload X A_b7 (own_cGe (a := 7) (b := 0) rfl rfl (by omega)) (own_cLt (a := 7) (b := 24) rfl rfl (by omega)) at_507 (fun v137 hv137 lv137 uv137 => ?_)
    refine own_callS X (W := 0) (argsL := [(.ref rb), (.int (8 : Int32)), (.int v137)]) (rest := []) (hw _ (List.mem_of_getElem? (i := 59) rfl)) (hw _ (List.mem_of_getElem? (i := 60) rfl)) (hw _ (List.mem_of_getElem? (i := 4) rfl)) (hw _ (List.mem_of_getElem? (i := 61) rfl)) (by decide) (rm12 l Z a0 hw [] rb (8 : Int32) v137 v117 fR h n0 (own_size X) A_rb (by decide) (fun hh => ((hR 8 (by decide) hh).trans (hBk 8 (by decide) (by have hh' : (8 : Int) < v117.toInt := hh; show (8 : Int) < 1 + v4.toInt; omega))).trans (show f55 (Int32.ofInt ((8 : Int32).toInt - 1)) = v137 from hv137))) (by decide) (by decide) (by decide) (by decide) rfl (lenOf pd_10 rfl) rfl (Nat.le_of_eq rfl) at_508 (own_contI fun T v138 X hq138 => ?_)
    subst hq138
    refine own_ifNo X at_511 ((if0 _ _).trans (feq (own_cNe (a := 1) (b := 0) rfl rfl (by decide))).1) ?_
    refine own_aload X at_514 rfl rfl ?_
    refine own_bipush X (9) at_516 rfl ?_
    refine own_aload X at_518 rfl rfl ?_
    refine own_bipush X (8) at_520 rfl ?_
    refine own_baload X A_b7 (own_cGe (a := 8) (b := 0) rfl rfl (by omega)) (own_cLt (a := 8) (b := 24) rfl rfl (by omega)) at_522 (fun v139 hv139 lv139 uv139 => ?_)
    refine own_callS X (W := 0) (argsL := [(.ref rb), (.int (9 : Int32)), (.int v139)]) (rest := []) (hw _ (List.mem_of_getElem? (i := 59) rfl)) (hw _ (List.mem_of_getElem? (i := 60) rfl)) (hw _ (List.mem_of_getElem? (i := 4) rfl)) (hw _ (List.mem_of_getElem? (i := 61) rfl)) (by decide) (rm12 l Z a0 hw [] rb (9 : Int32) v139 v117 fR h n0 (own_size X) A_rb (by decide) (fun hh => ((hR 9 (by decide) hh).trans (hBk 9 (by decide) (by have hh' : (9 : Int) < v117.toInt := hh; show (9 : Int) < 1 + v4.toInt; omega))).trans (show f55 (Int32.ofInt ((9 : Int32).toInt - 1)) = v139 from hv139))) (by decide) (by decide) (by decide) (by decide) rfl (lenOf pd_10 rfl) rfl (Nat.le_of_eq rfl) at_523 (own_contI fun T v140 X hq140 => ?_)
    subst hq140
    refine own_ifNo X at_526 ((if0 _ _).trans (feq (own_cNe (a := 1) (b := 0) rfl rfl (by decide))).1) ?_
    refine own_aload X at_529 rfl rfl ?_
    refine own_bipush X (10) at_531 rfl ?_
    refine own_aload X at_533 rfl rfl ?_
    refine own_bipush X (9) at_535 rfl ?_
    refine own_baload X A_b7 (own_cGe (a := 9) (b := 0) rfl rfl (by omega)) (own_cLt (a := 9) (b := 24) rfl rfl (by omega)) at_537 (fun v141 hv141 lv141 uv141 => ?_)
    refine own_callS X (W := 0) (argsL := [(.ref rb), (.int (10 : Int32)), (.int v141)]) (rest := []) (hw _ (List.mem_of_getElem? (i := 59) rfl)) (hw _ (List.mem_of_getElem? (i := 60) rfl)) (hw _ (List.mem_of_getElem? (i := 4) rfl)) (hw _ (List.mem_of_getElem? (i := 61) rfl)) (by decide) (rm12 l Z a0 hw [] rb (10 : Int32) v141 v117 fR h n0 (own_size X) A_rb (by decide) (fun hh => ((hR 10 (by decide) hh).trans (hBk 10 (by decide) (by have hh' : (10 : Int) < v117.toInt := hh; show (10 : Int) < 1 + v4.toInt; omega))).trans (show f55 (Int32.ofInt ((10 : Int32).toInt - 1)) = v141 from hv141))) (by decide) (by decide) (by decide) (by decide) rfl (lenOf pd_10 rfl) rfl (Nat.le_of_eq rfl) at_538 (own_contI fun T v142 X hq142 => ?_)
    subst hq142
    refine own_ifNo X at_541 ((if0 _ _).trans (feq (own_cNe (a := 1) (b := 0) rfl rfl (by decide))).1) ?_
    refine own_aload X at_544 rfl rfl ?_
    refine own_bipush X (11) at_546 rfl ?_
    refine own_aload X at_548 rfl rfl ?_
    refine own_bipush X (10) at_550 rfl ?_
    refine own_baload X A_b7 (own_cGe (a := 10) (b := 0) rfl rfl (by omega)) (own_cLt (a := 10) (b := 24) rfl rfl (by omega)) at_552 (fun v143 hv143 lv143 uv143 => ?_)
    refine own_callS X (W := 0) (argsL := [(.ref rb), (.int (11 : Int32)), (.int v143)]) (rest := []) (hw _ (List.mem_of_getElem? (i := 59) rfl)) (hw _ (List.mem_of_getElem? (i := 60) rfl)) (hw _ (List.mem_of_getElem? (i := 4) rfl)) (hw _ (List.mem_of_getElem? (i := 61) rfl)) (by decide) (rm12 l Z a0 hw [] rb (11 : Int32) v143 v117 fR h n0 (own_size X) A_rb (by decide) (fun hh => ((hR 11 (by decide) hh).trans (hBk 11 (by decide) (by have hh' : (11 : Int) < v117.toInt := hh; show (11 : Int) < 1 + v4.toInt; omega))).trans (show f55 (Int32.ofInt ((11 : Int32).toInt - 1)) = v143 from hv143))) (by decide) (by decide) (by decide) (by decide) rfl (lenOf pd_10 rfl) rfl (Nat.le_of_eq rfl) at_553 (own_contI fun T v144 X hq144 => ?_)
    subst hq144
    refine own_ifNo X at_556 ((if0 _ _).trans (feq (own_cNe (a := 1) (b := 0) rfl rfl (by decide))).1) ?_
    refine own_aload X at_559 rfl rfl ?_
    refine own_bipush X (12) at_561 rfl ?_
    refine own_aload X at_563 rfl rfl ?_
    refine own_bipush X (11) at_565 rfl ?_
    refine own_baload X A_b7 (own_cGe (a := 11) (b := 0) rfl rfl (by omega)) (own_cLt (a := 11) (b := 24) rfl rfl (by omega)) at_567 (fun v145 hv145 lv145 uv145 => ?_)
    refine own_callS X (W := 0) (argsL := [(.ref rb), (.int (12 : Int32)), (.int v145)]) (rest := []) (hw _ (List.mem_of_getElem? (i := 59) rfl)) (hw _ (List.mem_of_getElem? (i := 60) rfl)) (hw _ (List.mem_of_getElem? (i := 4) rfl)) (hw _ (List.mem_of_getElem? (i := 61) rfl)) (by decide) (rm12 l Z a0 hw [] rb (12 : Int32) v145 v117 fR h n0 (own_size X) A_rb (by decide) (fun hh => ((hR 12 (by decide) hh).trans (hBk 12 (by decide) (by have hh' : (12 : Int) < v117.toInt := hh; show (12 : Int) < 1 + v4.toInt; omega))).trans (show f55 (Int32.ofInt ((12 : Int32).toInt - 1)) = v145 from hv145))) (by decide) (by decide) (by decide) (by decide) rfl (lenOf pd_10 rfl) rfl (Nat.le_of_eq rfl) at_568 (own_contI fun T v146 X hq146 => ?_)
    subst hq146
    refine own_ifNo X at_571 ((if0 _ _).trans (feq (own_cNe (a := 1) (b := 0) rfl rfl (by decide))).1) ?_
    refine own_aload X at_574 rfl rfl ?_
    refine own_bipush X (13) at_576 rfl ?_
    refine own_aload X at_578 rfl rfl ?_
    refine own_bipush X (12) at_580 rfl ?_
    refine own_baload X A_b7 (own_cGe (a := 12) (b := 0) rfl rfl (by omega)) (own_cLt (a := 12) (b := 24) rfl rfl (by omega)) at_582 (fun v147 hv147 lv147 uv147 => ?_)
    refine own_callS X (W := 0) (argsL := [(.ref rb), (.int (13 : Int32)), (.int v147)]) (rest := []) (hw _ (List.mem_of_getElem? (i := 59) rfl)) (hw _ (List.mem_of_getElem? (i := 60) rfl)) (hw _ (List.mem_of_getElem? (i := 4) rfl)) (hw _ (List.mem_of_getElem? (i := 61) rfl)) (by decide) (rm12 l Z a0 hw [] rb (13 : Int32) v147 v117 fR h n0 (own_size X) A_rb (by decide) (fun hh => ((hR 13 (by decide) hh).trans (hBk 13 (by decide) (by have hh' : (13 : Int) < v117.toInt := hh; show (13 : Int) < 1 + v4.toInt; omega))).trans (show f55 (Int32.ofInt ((13 : Int32).toInt - 1)) = v147 from hv147))) (by decide) (by decide) (by decide) (by decide) rfl (lenOf pd_10 rfl) rfl (Nat.le_of_eq rfl) at_583 (own_contI fun T v148 X hq148 => ?_)
    subst hq148
    refine own_ifNo X at_586 ((if0 _ _).trans (feq (own_cNe (a := 1) (b := 0) rfl rfl (by decide))).1) ?_
    refine own_aload X at_589 rfl rfl ?_
    refine own_bipush X (14) at_591 rfl ?_
    refine own_aload X at_593 rfl rfl ?_
    refine own_bipush X (13) at_595 rfl ?_
    refine own_baload X A_b7 (own_cGe (a := 13) (b := 0) rfl rfl (by omega)) (own_cLt (a := 13) (b := 24) rfl rfl (by omega)) at_597 (fun v149 hv149 lv149 uv149 => ?_)
    refine own_callS X (W := 0) (argsL := [(.ref rb), (.int (14 : Int32)), (.int v149)]) (rest := []) (hw _ (List.mem_of_getElem? (i := 59) rfl)) (hw _ (List.mem_of_getElem? (i := 60) rfl)) (hw _ (List.mem_of_getElem? (i := 4) rfl)) (hw _ (List.mem_of_getElem? (i := 61) rfl)) (by decide) (rm12 l Z a0 hw [] rb (14 : Int32) v149 v117 fR h n0 (own_size X) A_rb (by decide) (fun hh => ((hR 14 (by decide) hh).trans (hBk 14 (by decide) (by have hh' : (14 : Int) < v117.toInt := hh; show (14 : Int) < 1 + v4.toInt; omega))).trans (show f55 (Int32.ofInt ((14 : Int32).toInt - 1)) = v149 from hv149))) (by decide) (by decide) (by decide) (by decide) rfl (lenOf pd_10 rfl) rfl (Nat.le_of_eq rfl) at_598 (own_contI fun T v150 X hq150 => ?_)
    subst hq150
    refine own_ifNo X at_601 ((if0 _ _).trans (feq (own_cNe (a := 1) (b := 0) rfl rfl (by decide))).1) ?_
    refine own_aload X at_604 rfl rfl ?_
    refine own_bipush X (15) at_606 rfl ?_
    refine own_aload X at_608 rfl rfl ?_
    refine own_bipush X (14) at_610 rfl ?_
    refine own_baload X A_b7 (own_cGe (a := 14) (b := 0) rfl rfl (by omega)) (own_cLt (a := 14) (b := 24) rfl rfl (by omega)) at_612 (fun v151 hv151 lv151 uv151 => ?_)
    refine own_callS X (W := 0) (argsL := [(.ref rb), (.int (15 : Int32)), (.int v151)]) (rest := []) (hw _ (List.mem_of_getElem? (i := 59) rfl)) (hw _ (List.mem_of_getElem? (i := 60) rfl)) (hw _ (List.mem_of_getElem? (i := 4) rfl)) (hw _ (List.mem_of_getElem? (i := 61) rfl)) (by decide) (rm12 l Z a0 hw [] rb (15 : Int32) v151 v117 fR h n0 (own_size X) A_rb (by decide) (fun hh => ((hR 15 (by decide) hh).trans (hBk 15 (by decide) (by have hh' : (15 : Int) < v117.toInt := hh; show (15 : Int) < 1 + v4.toInt; omega))).trans (show f55 (Int32.ofInt ((15 : Int32).toInt - 1)) = v151 from hv151))) (by decide) (by decide) (by decide) (by decide) rfl (lenOf pd_10 rfl) rfl (Nat.le_of_eq rfl) at_613 (own_contI fun T v152 X hq152 => ?_)
    subst hq152
    refine own_ifNo X at_616 ((if0 _ _).trans (feq (own_cNe (a := 1) (b := 0) rfl rfl (by decide))).1) ?_
    refine own_aload X at_619 rfl rfl ?_
    refine own_bipush X (16) at_621 rfl ?_
    refine own_aload X at_623 rfl rfl ?_
    refine own_bipush X (15) at_625 rfl ?_
    refine own_baload X A_b7 (own_cGe (a := 15) (b := 0) rfl rfl (by omega)) (own_cLt (a := 15) (b := 24) rfl rfl (by omega)) at_627 (fun v153 hv153 lv153 uv153 => ?_)
    refine own_callS X (W := 0) (argsL := [(.ref rb), (.int (16 : Int32)), (.int v153)]) (rest := []) (hw _ (List.mem_of_getElem? (i := 59) rfl)) (hw _ (List.mem_of_getElem? (i := 60) rfl)) (hw _ (List.mem_of_getElem? (i := 4) rfl)) (hw _ (List.mem_of_getElem? (i := 61) rfl)) (by decide) (rm12 l Z a0 hw [] rb (16 : Int32) v153 v117 fR h n0 (own_size X) A_rb (by decide) (fun hh => ((hR 16 (by decide) hh).trans (hBk 16 (by decide) (by have hh' : (16 : Int) < v117.toInt := hh; show (16 : Int) < 1 + v4.toInt; omega))).trans (show f55 (Int32.ofInt ((16 : Int32).toInt - 1)) = v153 from hv153))) (by decide) (by decide) (by decide) (by decide) rfl (lenOf pd_10 rfl) rfl (Nat.le_of_eq rfl) at_628 (own_contI fun T v154 X hq154 => ?_)
    subst hq154
    refine own_ifNo X at_631 ((if0 _ _).trans (feq (own_cNe (a := 1) (b := 0) rfl rfl (by decide))).1) ?_
    refine own_aload X at_634 rfl rfl ?_
    refine own_bipush X (17) at_636 rfl ?_
    refine own_aload X at_638 rfl rfl ?_
    refine own_bipush X (16) at_640 rfl ?_
    refine own_baload X A_b7 (own_cGe (a := 16) (b := 0) rfl rfl (by omega)) (own_cLt (a := 16) (b := 24) rfl rfl (by omega)) at_642 (fun v155 hv155 lv155 uv155 => ?_)
    refine own_callS X (W := 0) (argsL := [(.ref rb), (.int (17 : Int32)), (.int v155)]) (rest := []) (hw _ (List.mem_of_getElem? (i := 59) rfl)) (hw _ (List.mem_of_getElem? (i := 60) rfl)) (hw _ (List.mem_of_getElem? (i := 4) rfl)) (hw _ (List.mem_of_getElem? (i := 61) rfl)) (by decide) (rm12 l Z a0 hw [] rb (17 : Int32) v155 v117 fR h n0 (own_size X) A_rb (by decide) (fun hh => ((hR 17 (by decide) hh).trans (hBk 17 (by decide) (by have hh' : (17 : Int) < v117.toInt := hh; show (17 : Int) < 1 + v4.toInt; omega))).trans (show f55 (Int32.ofInt ((17 : Int32).toInt - 1)) = v155 from hv155))) (by decide) (by decide) (by decide) (by decide) rfl (lenOf pd_10 rfl) rfl (Nat.le_of_eq rfl) at_643 (own_contI fun T v156 X hq156 => ?_)
    subst hq156
    refine own_ifNo X at_646 ((if0 _ _).trans (feq (own_cNe (a := 1) (b := 0) rfl rfl (by decide))).1) ?_
    refine own_aload X at_649 rfl rfl ?_
    refine own_bipush X (18) at_651 rfl ?_
    refine own_aload X at_653 rfl rfl ?_
    refine own_bipush X (17) at_655 rfl ?_
    refine own_baload X A_b7 (own_cGe (a := 17) (b := 0) rfl rfl (by omega)) (own_cLt (a := 17) (b := 24) rfl rfl (by omega)) at_657 (fun v157 hv157 lv157 uv157 => ?_)
    refine own_callS X (W := 0) (argsL := [(.ref rb), (.int (18 : Int32)), (.int v157)]) (rest := []) (hw _ (List.mem_of_getElem? (i := 59) rfl)) (hw _ (List.mem_of_getElem? (i := 60) rfl)) (hw _ (List.mem_of_getElem? (i := 4) rfl)) (hw _ (List.mem_of_getElem? (i := 61) rfl)) (by decide) (rm12 l Z a0 hw [] rb (18 : Int32) v157 v117 fR h n0 (own_size X) A_rb (by decide) (fun hh => ((hR 18 (by decide) hh).trans (hBk 18 (by decide) (by have hh' : (18 : Int) < v117.toInt := hh; show (18 : Int) < 1 + v4.toInt; omega))).trans (show f55 (Int32.ofInt ((18 : Int32).toInt - 1)) = v157 from hv157))) (by decide) (by decide) (by decide) (by decide) rfl (lenOf pd_10 rfl) rfl (Nat.le_of_eq rfl) at_658 (own_contI fun T v158 X hq158 => ?_)
    subst hq158
    refine own_ifNo X at_661 ((if0 _ _).trans (feq (own_cNe (a := 1) (b := 0) rfl rfl (by decide))).1) ?_
    refine own_aload X at_664 rfl rfl ?_
    refine own_bipush X (19) at_666 rfl ?_
    refine own_aload X at_668 rfl rfl ?_
    refine own_bipush X (18) at_670 rfl ?_
    refine own_baload X A_b7 (own_cGe (a := 18) (b := 0) rfl rfl (by omega)) (own_cLt (a := 18) (b := 24) rfl rfl (by omega)) at_672 (fun v159 hv159 lv159 uv159 => ?_)
    refine own_callS X (W := 0) (argsL := [(.ref rb), (.int (19 : Int32)), (.int v159)]) (rest := []) (hw _ (List.mem_of_getElem? (i := 59) rfl)) (hw _ (List.mem_of_getElem? (i := 60) rfl)) (hw _ (List.mem_of_getElem? (i := 4) rfl)) (hw _ (List.mem_of_getElem? (i := 61) rfl)) (by decide) (rm12 l Z a0 hw [] rb (19 : Int32) v159 v117 fR h n0 (own_size X) A_rb (by decide) (fun hh => ((hR 19 (by decide) hh).trans (hBk 19 (by decide) (by have hh' : (19 : Int) < v117.toInt := hh; show (19 : Int) < 1 + v4.toInt; omega))).trans (show f55 (Int32.ofInt ((19 : Int32).toInt - 1)) = v159 from hv159))) (by decide) (by decide) (by decide) (by decide) rfl (lenOf pd_10 rfl) rfl (Nat.le_of_eq rfl) at_673 (own_contI fun T v160 X hq160 => ?_)
    subst hq160
    refine own_ifNo X at_676 ((if0 _ _).trans (feq (own_cNe (a := 1) (b := 0) rfl rfl (by decide))).1) ?_
    refine own_aload X at_679 rfl rfl ?_
    refine own_bipush X (20) at_681 rfl ?_
    refine own_aload X at_683 rfl rfl ?_
    refine own_bipush X (19) at_685 rfl ?_
    refine own_baload X A_b7 (own_cGe (a := 19) (b := 0) rfl rfl (by omega)) (own_cLt (a := 19) (b := 24) rfl rfl (by omega)) at_687 (fun v161 hv161 lv161 uv161 => ?_)
    refine own_callS X (W := 0) (argsL := [(.ref rb), (.int (20 : Int32)), (.int v161)]) (rest := []) (hw _ (List.mem_of_getElem? (i := 59) rfl)) (hw _ (List.mem_of_getElem? (i := 60) rfl)) (hw _ (List.mem_of_getElem? (i := 4) rfl)) (hw _ (List.mem_of_getElem? (i := 61) rfl)) (by decide) (rm12 l Z a0 hw [] rb (20 : Int32) v161 v117 fR h n0 (own_size X) A_rb (by decide) (fun hh => ((hR 20 (by decide) hh).trans (hBk 20 (by decide) (by have hh' : (20 : Int) < v117.toInt := hh; show (20 : Int) < 1 + v4.toInt; omega))).trans (show f55 (Int32.ofInt ((20 : Int32).toInt - 1)) = v161 from hv161))) (by decide) (by decide) (by decide) (by decide) rfl (lenOf pd_10 rfl) rfl (Nat.le_of_eq rfl) at_688 (own_contI fun T v162 X hq162 => ?_)
    subst hq162
    refine own_ifNo X at_691 ((if0 _ _).trans (feq (own_cNe (a := 1) (b := 0) rfl rfl (by decide))).1) ?_
    refine own_aload X at_694 rfl rfl ?_
    refine own_bipush X (21) at_696 rfl ?_
    refine own_aload X at_698 rfl rfl ?_
    refine own_bipush X (20) at_700 rfl ?_
    refine own_baload X A_b7 (own_cGe (a := 20) (b := 0) rfl rfl (by omega)) (own_cLt (a := 20) (b := 24) rfl rfl (by omega)) at_702 (fun v163 hv163 lv163 uv163 => ?_)
    refine own_callS X (W := 0) (argsL := [(.ref rb), (.int (21 : Int32)), (.int v163)]) (rest := []) (hw _ (List.mem_of_getElem? (i := 59) rfl)) (hw _ (List.mem_of_getElem? (i := 60) rfl)) (hw _ (List.mem_of_getElem? (i := 4) rfl)) (hw _ (List.mem_of_getElem? (i := 61) rfl)) (by decide) (rm12 l Z a0 hw [] rb (21 : Int32) v163 v117 fR h n0 (own_size X) A_rb (by decide) (fun hh => ((hR 21 (by decide) hh).trans (hBk 21 (by decide) (by have hh' : (21 : Int) < v117.toInt := hh; show (21 : Int) < 1 + v4.toInt; omega))).trans (show f55 (Int32.ofInt ((21 : Int32).toInt - 1)) = v163 from hv163))) (by decide) (by decide) (by decide) (by decide) rfl (lenOf pd_10 rfl) rfl (Nat.le_of_eq rfl) at_703 (own_contI fun T v164 X hq164 => ?_)
    subst hq164
    refine own_ifNo X at_706 ((if0 _ _).trans (feq (own_cNe (a := 1) (b := 0) rfl rfl (by decide))).1) ?_
    refine own_aload X at_709 rfl rfl ?_
    refine own_bipush X (22) at_711 rfl ?_
    refine own_aload X at_713 rfl rfl ?_
    refine own_bipush X (21) at_715 rfl ?_
    refine own_baload X A_b7 (own_cGe (a := 21) (b := 0) rfl rfl (by omega)) (own_cLt (a := 21) (b := 24) rfl rfl (by omega)) at_717 (fun v165 hv165 lv165 uv165 => ?_)
    refine own_callS X (W := 0) (argsL := [(.ref rb), (.int (22 : Int32)), (.int v165)]) (rest := []) (hw _ (List.mem_of_getElem? (i := 59) rfl)) (hw _ (List.mem_of_getElem? (i := 60) rfl)) (hw _ (List.mem_of_getElem? (i := 4) rfl)) (hw _ (List.mem_of_getElem? (i := 61) rfl)) (by decide) (rm12 l Z a0 hw [] rb (22 : Int32) v165 v117 fR h n0 (own_size X) A_rb (by decide) (fun hh => ((hR 22 (by decide) hh).trans (hBk 22 (by decide) (by have hh' : (22 : Int) < v117.toInt := hh; show (22 : Int) < 1 + v4.toInt; omega))).trans (show f55 (Int32.ofInt ((22 : Int32).toInt - 1)) = v165 from hv165))) (by decide) (by decide) (by decide) (by decide) rfl (lenOf pd_10 rfl) rfl (Nat.le_of_eq rfl) at_718 (own_contI fun T v166 X hq166 => ?_)
    subst hq166
    refine own_ifNo X at_721 ((if0 _ _).trans (feq (own_cNe (a := 1) (b := 0) rfl rfl (by decide))).1) ?_
    refine own_aload X at_724 rfl rfl ?_
    refine own_bipush X (23) at_726 rfl ?_
    refine own_aload X at_728 rfl rfl ?_
    refine own_bipush X (22) at_730 rfl ?_
    refine own_baload X A_b7 (own_cGe (a := 22) (b := 0) rfl rfl (by omega)) (own_cLt (a := 22) (b := 24) rfl rfl (by omega)) at_732 (fun v167 hv167 lv167 uv167 => ?_)
    refine own_callS X (W := 0) (argsL := [(.ref rb), (.int (23 : Int32)), (.int v167)]) (rest := []) (hw _ (List.mem_of_getElem? (i := 59) rfl)) (hw _ (List.mem_of_getElem? (i := 60) rfl)) (hw _ (List.mem_of_getElem? (i := 4) rfl)) (hw _ (List.mem_of_getElem? (i := 61) rfl)) (by decide) (rm12 l Z a0 hw [] rb (23 : Int32) v167 v117 fR h n0 (own_size X) A_rb (by decide) (fun hh => ((hR 23 (by decide) hh).trans (hBk 23 (by decide) (by have hh' : (23 : Int) < v117.toInt := hh; show (23 : Int) < 1 + v4.toInt; omega))).trans (show f55 (Int32.ofInt ((23 : Int32).toInt - 1)) = v167 from hv167))) (by decide) (by decide) (by decide) (by decide) rfl (lenOf pd_10 rfl) rfl (Nat.le_of_eq rfl) at_733 (own_contI fun T v168 X hq168 => ?_)
    subst hq168
    refine own_ifNo X at_736 ((if0 _ _).trans (feq (own_cNe (a := 1) (b := 0) rfl rfl (by decide))).1) ?_
    refine own_aload X at_739 rfl rfl ?_
    refine own_bipush X (24) at_741 rfl ?_
    refine own_aload X at_743 rfl rfl ?_
    refine own_bipush X (23) at_745 rfl ?_
    refine own_baload X A_b7 (own_cGe (a := 23) (b := 0) rfl rfl (by omega)) (own_cLt (a := 23) (b := 24) rfl rfl (by omega)) at_747 (fun v169 hv169 lv169 uv169 => ?_)
    refine own_callS X (W := 0) (argsL := [(.ref rb), (.int (24 : Int32)), (.int v169)]) (rest := []) (hw _ (List.mem_of_getElem? (i := 59) rfl)) (hw _ (List.mem_of_getElem? (i := 60) rfl)) (hw _ (List.mem_of_getElem? (i := 4) rfl)) (hw _ (List.mem_of_getElem? (i := 61) rfl)) (by decide) (rm12 l Z a0 hw [] rb (24 : Int32) v169 v117 fR h n0 (own_size X) A_rb (by decide) (fun hh => ((hR 24 (by decide) hh).trans (hBk 24 (by decide) (by have hh' : (24 : Int) < v117.toInt := hh; show (24 : Int) < 1 + v4.toInt; omega))).trans (show f55 (Int32.ofInt ((24 : Int32).toInt - 1)) = v169 from hv169))) (by decide) (by decide) (by decide) (by decide) rfl (lenOf pd_10 rfl) rfl (Nat.le_of_eq rfl) at_748 (own_contI fun T v170 X hq170 => ?_)
    subst hq170
    refine own_ifNo X at_751 ((if0 _ _).trans (feq (own_cNe (a := 1) (b := 0) rfl rfl (by decide))).1) ?_
    refine own_iconst X (1) at_754 rfl ?_
    refine own_goto X (pc := 755) (pc' := 759) at_755 (by decide) (by decide) ?_
    refine own_retN (t := .boolean) X (z' := (1 : Int32)) (Or.inl rfl) rfl rfl at_759 (by decide) (by decide) ⟨_, rfl, ?_⟩
    rfl
set_option maxRecDepth 65536 in
set_option maxHeartbeats 40000000 in
theorem comes_1 {Post : Tables → Env → Array Value → State → Outcome → State → Prop} (hpost : ∀ tb e args s v u, (limb_1_1.after args s (.returned v) u = true ∧ limb_1_2.after args s (.returned v) u = true ∧ True) → FrameEnd s (.returned v) u (Jvm.fieldLocs frame_1_writes args s ++ Jvm.arrayLocs frame_1_arrays args s ++ Jvm.staticLocs frame_1_statics s) 24 320 → Post tb e args s (.returned v) u) :
    ArmFor flags0 classFile x code maxLocals ret World_1 tables_1 room_1 Calls_1 rest_1 Pre_1 Post := by
  intro l hfl _ _ p e ha hc hk s m args below hf hA hF happ hP
  obtain ⟨hcalls, hrest, hpre⟩ := hP
  obtain ⟨-, -, -, hnamed, -, -, -, hat⟩ := (Spec.applies_iff hf).mp happ
  obtain ⟨hg, hn⟩ := and_e (Cond.before_iff.mp (show (Jvm.Cond.and given_1 narrow_1).before args s = true from hpre))
  obtain ⟨gcount, gt0⟩ := and_e hg
  obtain ⟨ga0, gt1⟩ := and_e gt0
  obtain ⟨ga1, gt2⟩ := and_e gt1
  obtain ⟨ga2, gt3⟩ := and_e gt2
  obtain ⟨ga3, gt4⟩ := and_e gt3
  obtain ⟨ga4, gt5⟩ := and_e gt4
  obtain ⟨w0, w1, w2, w3, w4, w5, rfl⟩ : ∃ w0 w1 w2 w3 w4 w5 : Value, args = #[w0, w1, w2, w3, w4, w5] := by
    have hs : args.size = 6 := by simpa [Cond.value, given_1] using gcount
    obtain ⟨L⟩ := args
    match L, hs with
    | [w0, w1, w2, w3, w4, w5], _ => exact ⟨w0, w1, w2, w3, w4, w5, rfl⟩
  have hw := fun d (hd : d ∈ tables_1) => atoms_spec (ws := Jvm.Cond.code x code maxLocals ret :: tables_1) hat d (List.mem_cons_of_mem _ hd)
  obtain ⟨i0, ei0⟩ := is_v ga0
  obtain rfl : w0 = (.int i0) := Option.some.inj ei0
  obtain ⟨i1, ei1⟩ := is_v ga1
  obtain rfl : w1 = (.int i1) := Option.some.inj ei1
  obtain ⟨i2, ei2⟩ := is_v ga2
  obtain rfl : w2 = (.int i2) := Option.some.inj ei2
  obtain ⟨i3, ei3⟩ := is_v ga3
  obtain rfl : w3 = (.int i3) := Option.some.inj ei3
  obtain ⟨i4, ei4⟩ := is_v ga4
  obtain rfl : w4 = (.int i4) := Option.some.inj ei4
  obtain ⟨i5, ei5⟩ := is_v gt5
  obtain rfl : w5 = (.int i5) := Option.some.inj ei5
  obtain ⟨n, o, h1, h2, h3, _, L, rfl, ⟨N, z, rfl, hz⟩, hq⟩ := rm0 l s _ hw tables_1 i0 i1 i2 i3 i4 i5 s.heap s.heap.size (Nat.le_refl _) p e ha hc hk s m _ below hf ((Spec.applies_iff_loose hf).mp happ).1 ⟨rfl, State.Warmed39.refl s, rfl⟩ trivial
  subst hz
  refine ⟨n, _, h1, h2, h3, hpost _ _ _ _ _ _ ⟨Cond.after_iff.mpr rfl, Cond.after_iff.mpr (eq_i res_at (Term.int_eval (1)) rfl), trivial⟩ ⟨hq.1, hq.2.1, (hq.2.2.sift fun y hy => Or.inr (N y hy)).mono (by decide) (by decide)⟩⟩
theorem main_1_1 : Claimed_1_1 := comes_1 fun _ _ _ _ _ _ h hF => ⟨h.1, hF⟩
theorem main_1_2 : Claimed_1_2 := comes_1 fun _ _ _ _ _ _ h hF => ⟨h.2.1, hF⟩
end Jvm.Pilot.@@N@@
namespace Jvm.Pilot.@@N@@
open Jvm Jvm.ClassFile Sem Op Lib Jvm.Free Jvm.Stand Jvm.Pilot.@@N@@.Jvm.D
/-! MADE BY PROGRAM (witnessworld.py) out of the Statement's table words and the real class files: 12 classes; the members and pool entries that the words name. The judged class is class 1, her method 1. -/
namespace start1
open Jvm.ClassFile
def u (s : String) : CpInfo := .utf8 (stringToUtf16 s)
/-- a pool by its gaps: so many unusable entries, then the entry; so many at the end -/
def gap : Nat → List CpInfo → List CpInfo
  | 0, r => r
  | n + 1, r => .unusable :: gap n r
def poolList (es : List (Nat × CpInfo)) (last : Nat) : List CpInfo := es.foldr (fun e r => gap e.1 (e.2 :: r)) (gap last [])
def pool (es : List (Nat × CpInfo)) (last : Nat) : Array CpInfo := ⟨poolList es last⟩
def fileOf (pool : Array CpInfo) (this : Nat) (attrs : Array Attribute := #[]) (ms : Array MethodInfo := #[]) (fl : Nat := 33) (sup : Nat := 0) (ifs : Array Nat := #[]) (fds : Array FieldInfo := #[]) : ClassFile where
  minorVersion := 0
  majorVersion := 65
  constantPool := pool
  accessFlags := fl
  thisClass := this
  superClass := sup
  interfaces := ifs
  fields := fds
  methods := ms
  attributes := attrs
def plain (name : String) (sup : Option ClassId) : Class where
  name := name
  kind := .ordinary
  loader := none
  accessFlags := 33
  super := sup
  interfaces := #[]
  cf := none
  fields := #[]
  methods := #[]
  instanceTypes := #[]
  staticTypes := #[]
  resolved := #[]
  callSites := []
  init := .initialized
  statics := none
  mirror := none

def pool0 : Array CpInfo := pool [(5, u "<init>"), (0, u "()V"), (1, .class_ 10), (1, u "java/lang/Object")] 113

def k0c0 : Code := { maxStack := 0, maxLocals := 1, code := object_method_1_code, exceptionTable := #[], attributes := #[] }
def k0m0 : Method := { name := "<init>", desc := "()V", sig := { parameters := [], returnType := none }, accessFlags := 1, code := some k0c0 }
/-- java/lang/Object -/
def k0 : Class := { plain "java/lang/Object" none with
  accessFlags := 33
  interfaces := #[]
  cf := some (fileOf pool0 8 #[] #[{ accessFlags := 1, nameIndex := 5, descriptorIndex := 6, attributes := #[] }] 33 0 #[] #[])
  fields := #[]
  methods := #[k0m0]
  instanceTypes := #[]
  staticTypes := #[]
  resolved := Array.replicate 124 none
  statics := none }

def pool1 : Array CpInfo := pool [(2, .class_ 4), (1, u "java/lang/Object"), (0, u "<init>"), (0, u "()V"), (0, .integer 2147483647), (0, .methodref 9 10), (0, .class_ 11), (0, .nameAndType 12 13), (0, u "com/example/shelfrun/shelfrun/index/JsonBufferReleasePinLaw"), (0, u "b"), (0, u "(III)B"), (0, .class_ 15), (0, u "com/example/shelfrun/shelfrun/index/JsonBuffer"), (0, .methodref 14 17), (0, .nameAndType 5 18), (0, u "(I)V"), (0, .methodref 14 20), (0, .nameAndType 21 22), (0, u "append"), (0, u "(C)Lcom/example/shelfrun/shelfrun/index/JsonBuffer;"), (0, .methodref 14 24), (0, .nameAndType 21 25), (0, u "([BI)Lcom/example/shelfrun/shelfrun/index/JsonBuffer;"), (0, .methodref 14 27), (0, .nameAndType 28 18), (0, u "truncate"), (0, .methodref 14 30), (0, .nameAndType 31 32), (0, u "release"), (0, u "()[B"), (0, .methodref 9 34), (0, .nameAndType 35 36), (0, u "ok"), (0, u "([BIB)Z"), (2, u "law"), (0, u "(IIIIII)Z")] 5

def k1m0 : Method := { name := "<init>", desc := "()V", sig := { parameters := [], returnType := none }, accessFlags := 1, code := none }
def k1c1 : Code := { maxStack := 6, maxLocals := 14, code := code, exceptionTable := #[], attributes := #[] }
def k1m1 : Method := { name := "law", desc := "(IIIIII)Z", sig := { parameters := [.int, .int, .int, .int, .int, .int], returnType := some .boolean }, accessFlags := 9, code := some k1c1 }
def k1c2 : Code := { maxStack := 2, maxLocals := 3, code := method_3_code, exceptionTable := #[], attributes := #[] }
def k1m2 : Method := { name := "ok", desc := "([BIB)Z", sig := { parameters := [(.array .byte), .int, .byte], returnType := some .boolean }, accessFlags := 10, code := some k1c2 }
def k1c3 : Code := { maxStack := 3, maxLocals := 3, code := method_4_code, exceptionTable := #[], attributes := #[] }
def k1m3 : Method := { name := "b", desc := "(III)B", sig := { parameters := [.int, .int, .int], returnType := some .byte }, accessFlags := 10, code := some k1c3 }
/-- com/example/shelfrun/shelfrun/index/JsonBufferReleasePinLaw -/
def k1 : Class := { plain "com/example/shelfrun/shelfrun/index/JsonBufferReleasePinLaw" (some 0) with
  accessFlags := 49
  interfaces := #[]
  cf := some (fileOf pool1 9 #[] #[{ accessFlags := 1, nameIndex := 5, descriptorIndex := 6, attributes := #[] }, { accessFlags := 9, nameIndex := 39, descriptorIndex := 40, attributes := #[] }, { accessFlags := 10, nameIndex := 35, descriptorIndex := 36, attributes := #[] }, { accessFlags := 10, nameIndex := 12, descriptorIndex := 13, attributes := #[] }] 49 2 #[] #[])
  fields := #[]
  methods := #[k1m0, k1m1, k1m2, k1m3]
  instanceTypes := #[]
  staticTypes := #[]
  resolved := Array.replicate 46 none
  statics := none }

def pool2 : Array CpInfo := pool [(1, .methodref 2 3), (0, .class_ 4), (0, .nameAndType 5 6), (0, u "java/lang/Object"), (0, u "<init>"), (0, u "()V"), (0, .methodref 8 9), (0, .class_ 10), (0, .nameAndType 11 12), (0, u "java/lang/Math"), (0, u "max"), (0, u "(II)I"), (0, .fieldref 14 15), (0, .class_ 16), (0, .nameAndType 17 18), (0, u "com/example/shelfrun/shelfrun/index/JsonBuffer"), (0, u "bytes"), (0, u "[B"), (0, .methodref 14 20), (0, .nameAndType 21 22), (0, u "room"), (0, u "(I)V"), (0, .fieldref 14 24), (0, .nameAndType 25 26), (0, u "size"), (0, u "I"), (2, u "append"), (0, u "(C)Lcom/example/shelfrun/shelfrun/index/JsonBuffer;"), (18, u "ESCAPES"), (0, .methodref 51 52), (0, .class_ 53), (0, .nameAndType 54 55), (0, u "java/lang/System"), (0, u "arraycopy"), (0, u "(Ljava/lang/Object;ILjava/lang/Object;II)V"), (10, .methodref 67 68), (0, .class_ 69), (0, .nameAndType 70 71), (0, u "java/util/Arrays"), (0, u "copyOf"), (0, u "([BI)[B"), (2, u "HEX_DIGITS"), (0, u "MAX_ESCAPE"), (9, u "truncate"), (3, u "()[B"), (0, u "release"), (0, u "([BI)Lcom/example/shelfrun/shelfrun/index/JsonBuffer;")] 3

def k2c0 : Code := { maxStack := 3, maxLocals := 2, code := prog_24_method_1_code, exceptionTable := #[], attributes := #[] }
def k2m0 : Method := { name := "<init>", desc := "(I)V", sig := { parameters := [.int], returnType := none }, accessFlags := 1, code := some k2c0 }
def k2c1 : Code := { maxStack := 5, maxLocals := 2, code := prog_24_method_2_code, exceptionTable := #[], attributes := #[] }
def k2m1 : Method := { name := "append", desc := "(C)Lcom/example/shelfrun/shelfrun/index/JsonBuffer;", sig := { parameters := [.char], returnType := some (.object "com/example/shelfrun/shelfrun/index/JsonBuffer") }, accessFlags := 1, code := some k2c1 }
def k2c2 : Code := { maxStack := 2, maxLocals := 2, code := prog_24_method_7_code, exceptionTable := #[], attributes := #[] }
def k2m2 : Method := { name := "truncate", desc := "(I)V", sig := { parameters := [.int], returnType := none }, accessFlags := 0, code := some k2c2 }
def k2c3 : Code := { maxStack := 2, maxLocals := 2, code := prog_24_method_10_code, exceptionTable := #[], attributes := #[] }
def k2m3 : Method := { name := "release", desc := "()[B", sig := { parameters := [], returnType := some (.array .byte) }, accessFlags := 1, code := some k2c3 }
def k2c4 : Code := { maxStack := 5, maxLocals := 3, code := prog_24_method_11_code, exceptionTable := #[], attributes := #[] }
def k2m4 : Method := { name := "append", desc := "([BI)Lcom/example/shelfrun/shelfrun/index/JsonBuffer;", sig := { parameters := [(.array .byte), .int], returnType := some (.object "com/example/shelfrun/shelfrun/index/JsonBuffer") }, accessFlags := 0, code := some k2c4 }
def k2c5 : Code := { maxStack := 5, maxLocals := 2, code := prog_24_method_13_code, exceptionTable := #[], attributes := #[] }
def k2m5 : Method := { name := "room", desc := "(I)V", sig := { parameters := [.int], returnType := none }, accessFlags := 2, code := some k2c5 }
/-- com/example/shelfrun/shelfrun/index/JsonBuffer -/
def k2 : Class := { plain "com/example/shelfrun/shelfrun/index/JsonBuffer" (some 0) with
  accessFlags := 49
  interfaces := #[]
  cf := some (fileOf pool2 14 #[] #[{ accessFlags := 1, nameIndex := 5, descriptorIndex := 22, attributes := #[] }, { accessFlags := 1, nameIndex := 29, descriptorIndex := 30, attributes := #[] }, { accessFlags := 0, nameIndex := 85, descriptorIndex := 22, attributes := #[] }, { accessFlags := 1, nameIndex := 90, descriptorIndex := 89, attributes := #[] }, { accessFlags := 0, nameIndex := 29, descriptorIndex := 91, attributes := #[] }, { accessFlags := 2, nameIndex := 21, descriptorIndex := 22, attributes := #[] }] 49 2 #[] #[{ accessFlags := 26, nameIndex := 74, descriptorIndex := 18, attributes := #[] }, { accessFlags := 26, nameIndex := 49, descriptorIndex := 18, attributes := #[] }, { accessFlags := 26, nameIndex := 75, descriptorIndex := 26, attributes := #[] }, { accessFlags := 2, nameIndex := 17, descriptorIndex := 18, attributes := #[] }, { accessFlags := 2, nameIndex := 25, descriptorIndex := 26, attributes := #[] }])
  fields := #[{ name := "HEX_DIGITS", type := (.array .byte), accessFlags := 26, slot := 0, constantValue := 0 }, { name := "ESCAPES", type := (.array .byte), accessFlags := 26, slot := 1, constantValue := 0 }, { name := "MAX_ESCAPE", type := .int, accessFlags := 26, slot := 2, constantValue := 0 }, { name := "bytes", type := (.array .byte), accessFlags := 2, slot := 0, constantValue := 0 }, { name := "size", type := .int, accessFlags := 2, slot := 1, constantValue := 0 }]
  methods := #[k2m0, k2m1, k2m2, k2m3, k2m4, k2m5]
  instanceTypes := #[(.array .byte), .int]
  staticTypes := #[(.array .byte), (.array .byte), .int]
  resolved := Array.replicate 95 none
  statics := none }

def pool3 : Array CpInfo := pool [(1, .class_ 2), (0, u "java/lang/Math"), (1, .class_ 6), (1, u "java/lang/Object"), (0, u "<init>"), (0, u "()V"), (89, .class_ 100), (1, u "java/lang/Math$RandomNumberGeneratorHolder"), (71, u "negativeZeroFloatBits"), (0, u "J"), (2, u "negativeZeroDoubleBits"), (21, u "max"), (2, u "min"), (43, u "$assertionsDisabled"), (0, u "Z"), (88, u "(II)I"), (2, u "twoToTheDoubleScaleDown"), (0, u "D"), (4, u "twoToTheDoubleScaleUp"), (9, u "E"), (3, u "PI"), (2, u "TAU"), (2, u "DEGREES_TO_RADIANS"), (0, u "RADIANS_TO_DEGREES")] 94

def k3m0 : Method := { name := "<init>", desc := "()V", sig := { parameters := [], returnType := none }, accessFlags := 2, code := none }
def k3c1 : Code := { maxStack := 2, maxLocals := 2, code := jdk_29_method_65_code, exceptionTable := #[], attributes := #[] }
def k3m1 : Method := { name := "max", desc := "(II)I", sig := { parameters := [.int, .int], returnType := some .int }, accessFlags := 9, code := some k3c1 }
def k3c2 : Code := { maxStack := 2, maxLocals := 2, code := jdk_29_method_69_code, exceptionTable := #[], attributes := #[] }
def k3m2 : Method := { name := "min", desc := "(II)I", sig := { parameters := [.int, .int], returnType := some .int }, accessFlags := 9, code := some k3c2 }
/-- java/lang/Math -/
def k3 : Class := { plain "java/lang/Math" (some 0) with
  accessFlags := 49
  interfaces := #[]
  cf := some (fileOf pool3 1 #[.nestMembers #[98]] #[{ accessFlags := 2, nameIndex := 7, descriptorIndex := 8, attributes := #[] }, { accessFlags := 9, nameIndex := 198, descriptorIndex := 335, attributes := #[] }, { accessFlags := 9, nameIndex := 201, descriptorIndex := 335, attributes := #[] }] 49 4 #[] #[{ accessFlags := 25, nameIndex := 354, descriptorIndex := 339, attributes := #[] }, { accessFlags := 25, nameIndex := 358, descriptorIndex := 339, attributes := #[] }, { accessFlags := 25, nameIndex := 361, descriptorIndex := 339, attributes := #[] }, { accessFlags := 26, nameIndex := 364, descriptorIndex := 339, attributes := #[] }, { accessFlags := 26, nameIndex := 365, descriptorIndex := 339, attributes := #[] }, { accessFlags := 26, nameIndex := 172, descriptorIndex := 173, attributes := #[] }, { accessFlags := 26, nameIndex := 176, descriptorIndex := 173, attributes := #[] }, { accessFlags := 8, nameIndex := 344, descriptorIndex := 339, attributes := #[] }, { accessFlags := 8, nameIndex := 338, descriptorIndex := 339, attributes := #[] }, { accessFlags := 4120, nameIndex := 245, descriptorIndex := 246, attributes := #[] }])
  fields := #[{ name := "E", type := .double, accessFlags := 25, slot := 0, constantValue := 0 }, { name := "PI", type := .double, accessFlags := 25, slot := 1, constantValue := 0 }, { name := "TAU", type := .double, accessFlags := 25, slot := 2, constantValue := 0 }, { name := "DEGREES_TO_RADIANS", type := .double, accessFlags := 26, slot := 3, constantValue := 0 }, { name := "RADIANS_TO_DEGREES", type := .double, accessFlags := 26, slot := 4, constantValue := 0 }, { name := "negativeZeroFloatBits", type := .long, accessFlags := 26, slot := 5, constantValue := 0 }, { name := "negativeZeroDoubleBits", type := .long, accessFlags := 26, slot := 6, constantValue := 0 }, { name := "twoToTheDoubleScaleUp", type := .double, accessFlags := 8, slot := 7, constantValue := 0 }, { name := "twoToTheDoubleScaleDown", type := .double, accessFlags := 8, slot := 8, constantValue := 0 }, { name := "$assertionsDisabled", type := .boolean, accessFlags := 4120, slot := 9, constantValue := 0 }]
  methods := #[k3m0, k3m1, k3m2]
  instanceTypes := #[]
  staticTypes := #[.double, .double, .double, .double, .double, .long, .long, .double, .double, .boolean]
  resolved := Array.replicate 460 none
  statics := none }

def pool4 : Array CpInfo := pool [(2, .class_ 4), (1, u "java/lang/Object"), (0, u "<init>"), (0, u "()V"), (1, .class_ 10), (1, u "java/lang/System"), (0, u "allowSecurityManager"), (0, u "I"), (16, u "cons"), (0, u "Ljava/io/Console;"), (77, .class_ 110), (1, u "java/lang/System$CallersHolder"), (43, u "initialErrStream"), (0, u "Ljava/io/PrintStream;"), (19, u "security"), (0, u "Ljava/lang/SecurityManager;"), (31, .class_ 209), (0, u "java/lang/System$1"), (7, u "props"), (0, u "Ljava/util/Properties;"), (2, u "lineSeparator"), (0, u "Ljava/lang/String;"), (96, .class_ 321), (1, u "java/lang/System$LoggerFinder"), (5, .class_ 328), (0, u "java/lang/System$Logger"), (67, u "err"), (2, u "out"), (91, u "notSupportedJnuEncoding"), (15, u "in"), (17, u "initialIn"), (0, u "Ljava/io/InputStream;"), (35, u "bootLayer"), (0, u "Ljava/lang/ModuleLayer;"), (99, .class_ 664), (0, u "java/lang/System$2"), (9, u "NEVER"), (2, u "MAYBE"), (49, u "arraycopy"), (0, u "(Ljava/lang/Object;ILjava/lang/Object;II)V"), (72, .class_ 802), (0, u "java/lang/System$Logger$Level")] 31

def k4m0 : Method := { name := "<init>", desc := "()V", sig := { parameters := [], returnType := none }, accessFlags := 2, code := none }
def k4m1 : Method := { name := "arraycopy", desc := "(Ljava/lang/Object;ILjava/lang/Object;II)V", sig := { parameters := [(.object "java/lang/Object"), .int, (.object "java/lang/Object"), .int, .int], returnType := none }, accessFlags := 265, code := none }
/-- java/lang/System -/
def k4 : Class := { plain "java/lang/System" (some 0) with
  accessFlags := 49
  interfaces := #[]
  cf := some (fileOf pool4 8 #[.nestMembers #[319, 327, 801, 108, 663, 208]] #[{ accessFlags := 2, nameIndex := 5, descriptorIndex := 6, attributes := #[] }, { accessFlags := 265, nameIndex := 727, descriptorIndex := 728, attributes := #[] }] 49 2 #[] #[{ accessFlags := 25, nameIndex := 507, descriptorIndex := 526, attributes := #[] }, { accessFlags := 25, nameIndex := 399, descriptorIndex := 155, attributes := #[] }, { accessFlags := 25, nameIndex := 396, descriptorIndex := 155, attributes := #[] }, { accessFlags := 10, nameIndex := 525, descriptorIndex := 526, attributes := #[] }, { accessFlags := 26, nameIndex := 674, descriptorIndex := 12, attributes := #[] }, { accessFlags := 26, nameIndex := 677, descriptorIndex := 12, attributes := #[] }, { accessFlags := 10, nameIndex := 11, descriptorIndex := 12, attributes := #[] }, { accessFlags := 74, nameIndex := 175, descriptorIndex := 176, attributes := #[] }, { accessFlags := 10, nameIndex := 491, descriptorIndex := 222, attributes := #[] }, { accessFlags := 74, nameIndex := 29, descriptorIndex := 30, attributes := #[] }, { accessFlags := 74, nameIndex := 154, descriptorIndex := 155, attributes := #[] }, { accessFlags := 10, nameIndex := 217, descriptorIndex := 218, attributes := #[] }, { accessFlags := 10, nameIndex := 221, descriptorIndex := 222, attributes := #[] }, { accessFlags := 8, nameIndex := 562, descriptorIndex := 563, attributes := #[] }])
  fields := #[{ name := "in", type := (.object "java/io/InputStream"), accessFlags := 25, slot := 0, constantValue := 0 }, { name := "out", type := (.object "java/io/PrintStream"), accessFlags := 25, slot := 1, constantValue := 0 }, { name := "err", type := (.object "java/io/PrintStream"), accessFlags := 25, slot := 2, constantValue := 0 }, { name := "initialIn", type := (.object "java/io/InputStream"), accessFlags := 10, slot := 3, constantValue := 0 }, { name := "NEVER", type := .int, accessFlags := 26, slot := 4, constantValue := 0 }, { name := "MAYBE", type := .int, accessFlags := 26, slot := 5, constantValue := 0 }, { name := "allowSecurityManager", type := .int, accessFlags := 10, slot := 6, constantValue := 0 }, { name := "security", type := (.object "java/lang/SecurityManager"), accessFlags := 74, slot := 7, constantValue := 0 }, { name := "notSupportedJnuEncoding", type := (.object "java/lang/String"), accessFlags := 10, slot := 8, constantValue := 0 }, { name := "cons", type := (.object "java/io/Console"), accessFlags := 74, slot := 9, constantValue := 0 }, { name := "initialErrStream", type := (.object "java/io/PrintStream"), accessFlags := 74, slot := 10, constantValue := 0 }, { name := "props", type := (.object "java/util/Properties"), accessFlags := 10, slot := 11, constantValue := 0 }, { name := "lineSeparator", type := (.object "java/lang/String"), accessFlags := 10, slot := 12, constantValue := 0 }, { name := "bootLayer", type := (.object "java/lang/ModuleLayer"), accessFlags := 8, slot := 13, constantValue := 0 }]
  methods := #[k4m0, k4m1]
  instanceTypes := #[]
  staticTypes := #[(.object "java/io/InputStream"), (.object "java/io/PrintStream"), (.object "java/io/PrintStream"), (.object "java/io/InputStream"), .int, .int, .int, (.object "java/lang/SecurityManager"), (.object "java/lang/String"), (.object "java/io/Console"), (.object "java/io/PrintStream"), (.object "java/util/Properties"), (.object "java/lang/String"), (.object "java/lang/ModuleLayer")]
  resolved := Array.replicate 834 none
  statics := none }

def pool5 : Array CpInfo := pool [(2, .class_ 4), (1, u "java/lang/Object"), (0, u "<init>"), (0, u "()V"), (7, .class_ 16), (1, u "java/util/Arrays"), (57, .class_ 76), (1, u "java/util/Arrays$NaturalOrder"), (36, .class_ 115), (1, u "java/util/Arrays$LegacyMergeSort"), (1, u "Z"), (32, .methodref 151 152), (0, .class_ 153), (0, .nameAndType 154 155), (0, u "java/lang/System"), (0, u "arraycopy"), (0, u "(Ljava/lang/Object;ILjava/lang/Object;II)V"), (146, u "copyOf"), (1, .methodref 305 306), (0, .class_ 307), (0, .nameAndType 308 309), (0, u "java/lang/Math"), (0, u "min"), (0, u "(II)I"), (65, .class_ 376), (0, u "java/util/Arrays$ArrayList"), (68, u "$assertionsDisabled"), (269, u "MIN_ARRAY_SORT_GRAN"), (0, u "I"), (2, u "INSERTIONSORT_THRESHOLD"), (149, u "([BI)[B"), (105, .class_ 976), (0, u "java/util/Arrays$ArrayItr")] 52

def k5m0 : Method := { name := "<init>", desc := "()V", sig := { parameters := [], returnType := none }, accessFlags := 2, code := none }
def k5c1 : Code := { maxStack := 6, maxLocals := 3, code := jdk_65_method_121_code, exceptionTable := #[], attributes := #[] }
def k5m1 : Method := { name := "copyOf", desc := "([BI)[B", sig := { parameters := [(.array .byte), .int], returnType := some (.array .byte) }, accessFlags := 9, code := some k5c1 }
/-- java/util/Arrays -/
def k5 : Class := { plain "java/util/Arrays" (some 0) with
  accessFlags := 49
  interfaces := #[]
  cf := some (fileOf pool5 14 #[.nestMembers #[975, 375, 113, 74]] #[{ accessFlags := 2, nameIndex := 5, descriptorIndex := 6, attributes := #[] }, { accessFlags := 9, nameIndex := 302, descriptorIndex := 869, attributes := #[] }] 49 2 #[] #[{ accessFlags := 26, nameIndex := 715, descriptorIndex := 716, attributes := #[] }, { accessFlags := 26, nameIndex := 719, descriptorIndex := 716, attributes := #[] }, { accessFlags := 4120, nameIndex := 445, descriptorIndex := 117, attributes := #[] }])
  fields := #[{ name := "MIN_ARRAY_SORT_GRAN", type := .int, accessFlags := 26, slot := 0, constantValue := 0 }, { name := "INSERTIONSORT_THRESHOLD", type := .int, accessFlags := 26, slot := 1, constantValue := 0 }, { name := "$assertionsDisabled", type := .boolean, accessFlags := 4120, slot := 2, constantValue := 0 }]
  methods := #[k5m0, k5m1]
  instanceTypes := #[]
  staticTypes := #[.int, .int, .boolean]
  resolved := Array.replicate 1029 none
  statics := none }

def pool6 : Array CpInfo := pool [(1, u "java/lang/Cloneable"), (0, .class_ 1), (0, u "java/lang/Object"), (0, .class_ 3)] 3

/-- java/lang/Cloneable -/
def k6 : Class := { plain "java/lang/Cloneable" (some 0) with
  accessFlags := 1537
  interfaces := #[]
  cf := some (fileOf pool6 2 #[] #[] 1537 4 #[] #[])
  fields := #[]
  methods := #[]
  instanceTypes := #[]
  staticTypes := #[]
  resolved := Array.replicate 8 none
  statics := none }

def pool7 : Array CpInfo := pool [(1, u "java/io/Serializable"), (0, .class_ 1), (0, u "java/lang/Object"), (0, .class_ 3)] 3

/-- java/io/Serializable -/
def k7 : Class := { plain "java/io/Serializable" (some 0) with
  accessFlags := 1537
  interfaces := #[]
  cf := some (fileOf pool7 2 #[] #[] 1537 4 #[] #[])
  fields := #[]
  methods := #[]
  instanceTypes := #[]
  staticTypes := #[]
  resolved := Array.replicate 8 none
  statics := none }

/-- the primitive byte -/
def k8 : Class := { plain "byte" none with kind := .primitive 'B', accessFlags := 0x411 }
/-- [B -/
def k9 : Class := { plain "[B" (some 0) with kind := .array 8 .byte, interfaces := #[6, 7], accessFlags := 1041 }

/-- the primitive int -/
def k10 : Class := { plain "int" none with kind := .primitive 'I', accessFlags := 0x411 }
/-- [I -/
def k11 : Class := { plain "[I" (some 0) with kind := .array 10 .int, interfaces := #[6, 7], accessFlags := 1041 }

def heap : Heap := #[]
def classes : Array Class := #[k0, k1, k2, k3, k4, k5, k6, k7, k8, k9, k10, k11]
def interned : List (Array UInt16 × Addr) := []
def slotsUsed : Nat := 0
def theMethod : MethodId := ⟨1, 1⟩
def args0 : Array Value := #[.int 50, .int 7, .int 9, .int 1, .int 2, .int 3]
def aboutOver (below : List Frame) : State where
  vm := { classes := classes, interned := interned.toArray }
  heap := heap
  slotsUsed := slotsUsed
  threads := #[{ frames := .invoking theMethod args0 :: below }]
def below0 : List Frame := [.native { method := ⟨0, 0⟩, args := #[] }]
def about1 : State := aboutOver below0
def p0 : Program := .bare "" "" ""
def e0 : Env := launch0.env 0 0 0
theorem w_frames : about1.frames = Frame.invoking theMethod args0 :: below0 := rfl
set_option maxRecDepth 65536 in
theorem w_args : argsFit about1.vm theMethod args0 = true := by decide +kernel
set_option maxRecDepth 65536 in
theorem w_heap : heapFits about1 = true := by decide +kernel
set_option maxRecDepth 65536 in
theorem w_runnable : about1.curStatus? = some .runnable := by decide +kernel
set_option maxRecDepth 65536 in
theorem w_alone : about1.alone = true := by decide +kernel
set_option maxRecDepth 65536 in
theorem w_named : about1.methodNamed? x = some theMethod := by decide +kernel
set_option maxRecDepth 65536 in
theorem w_hears : about1.hears theMethod below0 = true := by decide +kernel
set_option maxRecDepth 65536 in
theorem w_ripe : about1.ripe theMethod args0 below0 = true := by decide +kernel
theorem w_running : about1.status = .running := rfl
set_option maxRecDepth 65536 in
theorem w_room : about1.hasRoom e0.platform room_1 = true :=
  launch0.hasRoom_least _ room_1 (by decide +kernel) (by decide +kernel) (by decide +kernel) (by decide +kernel) (by decide +kernel) (by decide +kernel)
theorem allAtoms_all (ts : List Jvm.Cond) (a : Array Jvm.Value) (st : Jvm.State) : (allAtoms ts).before a st = ts.all (fun c => c.before a st) := by
  induction ts with
  | nil => rfl
  | cons c t ih =>
    show (Jvm.Cond.and c (allAtoms t)).before a st = _
    rw [Jvm.Cond.before_and, ih, List.all_cons]
def words1 : List Jvm.Cond := Jvm.Cond.code x code maxLocals ret :: tables_1
/-- a 'code' word, met by the world's own term for the bytes: nothing is compared byte by byte -/
theorem code_word {y : MethodName} {bytes : ByteArray} {mx : Nat} {rt : Option FieldType} {a : Array Value} {s : State} {m : MethodId} {meth : Method} {c : Code} (h1 : s.methodNamed? y = some m) (h2 : s.vm.method? m = some meth) (h3 : meth.code = some c) (h4 : c.code = bytes)
    (h5 : (c.maxLocals == mx && c.exceptionTable.isEmpty && decide (c.maxStack ≤ mostOperands) && decide (meth.sig.returnType = rt) && !meth.locks && decide (parseMethodDescriptor y.desc = some meth.sig)) = true) : (Jvm.Cond.code y bytes mx rt).before a s = true := by
  simp only [Bool.and_eq_true, beq_iff_eq, Bool.not_eq_true', decide_eq_true_eq] at h5
  obtain ⟨⟨⟨⟨⟨g1, g2⟩, g3⟩, g4⟩, g5⟩, g6⟩ := h5
  simp [Cond.before, Cond.holds, Cond.value, h1, h2, h3, h4, g1, g2, g3, g4, g5, g6]
def isCode : Jvm.Cond → Bool
  | .code _ _ _ _ => true
  | _ => false
theorem all_split {L : List Jvm.Cond} {P : Jvm.Cond → Bool} (h1 : L.all (fun c => isCode c || P c) = true) (h2 : ∀ c ∈ L.filter isCode, P c = true) : L.all P = true := by
  refine List.all_eq_true.mpr fun c hc => ?_
  have h := List.all_eq_true.mp h1 c hc
  rcases Bool.eq_false_or_eq_true (isCode c) with hi | hi
  · exact h2 c (List.mem_filter.mpr ⟨hc, hi⟩)
  · simpa [hi] using h
set_option maxRecDepth 65536 in
theorem w_c0 : (Jvm.Cond.code x code maxLocals ret).before args0 about1 = true := code_word (m := ⟨1, 1⟩) (meth := k1m1) (c := k1c1) (by decide +kernel) rfl rfl rfl (by decide +kernel)
set_option maxRecDepth 65536 in
theorem w_c1 : (Jvm.Cond.code ({ cls := "com/example/shelfrun/shelfrun/index/JsonBufferReleasePinLaw", name := "b", desc := "(III)B" } : Jvm.MethodName) method_4_code (3 : Nat) (Option.some Jvm.ClassFile.FieldType.byte)).before args0 about1 = true := code_word (m := ⟨1, 3⟩) (meth := k1m3) (c := k1c3) (by decide +kernel) rfl rfl rfl (by decide +kernel)
set_option maxRecDepth 65536 in
theorem w_c2 : (Jvm.Cond.code ({ cls := "com/example/shelfrun/shelfrun/index/JsonBuffer", name := "<init>", desc := "(I)V" } : Jvm.MethodName) prog_24_method_1_code (2 : Nat) (Option.none : Option Jvm.ClassFile.FieldType)).before args0 about1 = true := code_word (m := ⟨2, 0⟩) (meth := k2m0) (c := k2c0) (by decide +kernel) rfl rfl rfl (by decide +kernel)
set_option maxRecDepth 65536 in
theorem w_c3 : (Jvm.Cond.code ({ cls := "java/lang/Object", name := "<init>", desc := "()V" } : Jvm.MethodName) object_method_1_code (1 : Nat) (Option.none : Option Jvm.ClassFile.FieldType)).before args0 about1 = true := code_word (m := ⟨0, 0⟩) (meth := k0m0) (c := k0c0) (by decide +kernel) rfl rfl rfl (by decide +kernel)
set_option maxRecDepth 65536 in
theorem w_c4 : (Jvm.Cond.code ({ cls := "java/lang/Math", name := "max", desc := "(II)I" } : Jvm.MethodName) jdk_29_method_65_code (2 : Nat) (Option.some Jvm.ClassFile.FieldType.int)).before args0 about1 = true := code_word (m := ⟨3, 1⟩) (meth := k3m1) (c := k3c1) (by decide +kernel) rfl rfl rfl (by decide +kernel)
set_option maxRecDepth 65536 in
theorem w_c5 : (Jvm.Cond.code ({ cls := "com/example/shelfrun/shelfrun/index/JsonBuffer", name := "append", desc := "(C)Lcom/example/shelfrun/shelfrun/index/JsonBuffer;" } : Jvm.MethodName) prog_24_method_2_code (2 : Nat) (Option.some (Jvm.ClassFile.FieldType.object "com/example/shelfrun/shelfrun/index/JsonBuffer"))).before args0 about1 = true := code_word (m := ⟨2, 1⟩) (meth := k2m1) (c := k2c1) (by decide +kernel) rfl rfl rfl (by decide +kernel)
set_option maxRecDepth 65536 in
theorem w_c6 : (Jvm.Cond.code ({ cls := "com/example/shelfrun/shelfrun/index/JsonBuffer", name := "room", desc := "(I)V" } : Jvm.MethodName) prog_24_method_13_code (2 : Nat) (Option.none : Option Jvm.ClassFile.FieldType)).before args0 about1 = true := code_word (m := ⟨2, 5⟩) (meth := k2m5) (c := k2c5) (by decide +kernel) rfl rfl rfl (by decide +kernel)
set_option maxRecDepth 65536 in
theorem w_c7 : (Jvm.Cond.code ({ cls := "com/example/shelfrun/shelfrun/index/JsonBuffer", name := "append", desc := "([BI)Lcom/example/shelfrun/shelfrun/index/JsonBuffer;" } : Jvm.MethodName) prog_24_method_11_code (3 : Nat) (Option.some (Jvm.ClassFile.FieldType.object "com/example/shelfrun/shelfrun/index/JsonBuffer"))).before args0 about1 = true := code_word (m := ⟨2, 4⟩) (meth := k2m4) (c := k2c4) (by decide +kernel) rfl rfl rfl (by decide +kernel)
set_option maxRecDepth 65536 in
theorem w_c8 : (Jvm.Cond.code ({ cls := "com/example/shelfrun/shelfrun/index/JsonBuffer", name := "truncate", desc := "(I)V" } : Jvm.MethodName) prog_24_method_7_code (2 : Nat) (Option.none : Option Jvm.ClassFile.FieldType)).before args0 about1 = true := code_word (m := ⟨2, 2⟩) (meth := k2m2) (c := k2c2) (by decide +kernel) rfl rfl rfl (by decide +kernel)
set_option maxRecDepth 65536 in
theorem w_c9 : (Jvm.Cond.code ({ cls := "com/example/shelfrun/shelfrun/index/JsonBuffer", name := "release", desc := "()[B" } : Jvm.MethodName) prog_24_method_10_code (2 : Nat) (Option.some (Jvm.ClassFile.FieldType.array Jvm.ClassFile.FieldType.byte))).before args0 about1 = true := code_word (m := ⟨2, 3⟩) (meth := k2m3) (c := k2c3) (by decide +kernel) rfl rfl rfl (by decide +kernel)
set_option maxRecDepth 65536 in
theorem w_c10 : (Jvm.Cond.code ({ cls := "java/util/Arrays", name := "copyOf", desc := "([BI)[B" } : Jvm.MethodName) jdk_65_method_121_code (3 : Nat) (Option.some (Jvm.ClassFile.FieldType.array Jvm.ClassFile.FieldType.byte))).before args0 about1 = true := code_word (m := ⟨5, 1⟩) (meth := k5m1) (c := k5c1) (by decide +kernel) rfl rfl rfl (by decide +kernel)
set_option maxRecDepth 65536 in
theorem w_c11 : (Jvm.Cond.code ({ cls := "java/lang/Math", name := "min", desc := "(II)I" } : Jvm.MethodName) jdk_29_method_69_code (2 : Nat) (Option.some Jvm.ClassFile.FieldType.int)).before args0 about1 = true := code_word (m := ⟨3, 2⟩) (meth := k3m2) (c := k3c2) (by decide +kernel) rfl rfl rfl (by decide +kernel)
set_option maxRecDepth 65536 in
theorem w_c12 : (Jvm.Cond.code ({ cls := "com/example/shelfrun/shelfrun/index/JsonBufferReleasePinLaw", name := "ok", desc := "([BIB)Z" } : Jvm.MethodName) method_3_code (3 : Nat) (Option.some Jvm.ClassFile.FieldType.boolean)).before args0 about1 = true := code_word (m := ⟨1, 2⟩) (meth := k1m2) (c := k1c2) (by decide +kernel) rfl rfl rfl (by decide +kernel)
def codes1 : List Jvm.Cond := [Jvm.Cond.code x code maxLocals ret, Jvm.Cond.code ({ cls := "com/example/shelfrun/shelfrun/index/JsonBufferReleasePinLaw", name := "b", desc := "(III)B" } : Jvm.MethodName) method_4_code (3 : Nat) (Option.some Jvm.ClassFile.FieldType.byte), Jvm.Cond.code ({ cls := "com/example/shelfrun/shelfrun/index/JsonBuffer", name := "<init>", desc := "(I)V" } : Jvm.MethodName) prog_24_method_1_code (2 : Nat) (Option.none : Option Jvm.ClassFile.FieldType), Jvm.Cond.code ({ cls := "java/lang/Object", name := "<init>", desc := "()V" } : Jvm.MethodName) object_method_1_code (1 : Nat) (Option.none : Option Jvm.ClassFile.FieldType), Jvm.Cond.code ({ cls := "java/lang/Math", name := "max", desc := "(II)I" } : Jvm.MethodName) jdk_29_method_65_code (2 : Nat) (Option.some Jvm.ClassFile.FieldType.int), Jvm.Cond.code ({ cls := "com/example/shelfrun/shelfrun/index/JsonBuffer", name := "append", desc := "(C)Lcom/example/shelfrun/shelfrun/index/JsonBuffer;" } : Jvm.MethodName) prog_24_method_2_code (2 : Nat) (Option.some (Jvm.ClassFile.FieldType.object "com/example/shelfrun/shelfrun/index/JsonBuffer")), Jvm.Cond.code ({ cls := "com/example/shelfrun/shelfrun/index/JsonBuffer", name := "room", desc := "(I)V" } : Jvm.MethodName) prog_24_method_13_code (2 : Nat) (Option.none : Option Jvm.ClassFile.FieldType), Jvm.Cond.code ({ cls := "com/example/shelfrun/shelfrun/index/JsonBuffer", name := "append", desc := "([BI)Lcom/example/shelfrun/shelfrun/index/JsonBuffer;" } : Jvm.MethodName) prog_24_method_11_code (3 : Nat) (Option.some (Jvm.ClassFile.FieldType.object "com/example/shelfrun/shelfrun/index/JsonBuffer")), Jvm.Cond.code ({ cls := "com/example/shelfrun/shelfrun/index/JsonBuffer", name := "truncate", desc := "(I)V" } : Jvm.MethodName) prog_24_method_7_code (2 : Nat) (Option.none : Option Jvm.ClassFile.FieldType), Jvm.Cond.code ({ cls := "com/example/shelfrun/shelfrun/index/JsonBuffer", name := "release", desc := "()[B" } : Jvm.MethodName) prog_24_method_10_code (2 : Nat) (Option.some (Jvm.ClassFile.FieldType.array Jvm.ClassFile.FieldType.byte)), Jvm.Cond.code ({ cls := "java/util/Arrays", name := "copyOf", desc := "([BI)[B" } : Jvm.MethodName) jdk_65_method_121_code (3 : Nat) (Option.some (Jvm.ClassFile.FieldType.array Jvm.ClassFile.FieldType.byte)), Jvm.Cond.code ({ cls := "java/lang/Math", name := "min", desc := "(II)I" } : Jvm.MethodName) jdk_29_method_69_code (2 : Nat) (Option.some Jvm.ClassFile.FieldType.int), Jvm.Cond.code ({ cls := "com/example/shelfrun/shelfrun/index/JsonBufferReleasePinLaw", name := "ok", desc := "([BIB)Z" } : Jvm.MethodName) method_3_code (3 : Nat) (Option.some Jvm.ClassFile.FieldType.boolean)]
set_option maxRecDepth 65536 in
theorem codes_eq : words1.filter isCode = codes1 := rfl
theorem w_codes : ∀ c ∈ words1.filter isCode, c.before args0 about1 = true := by
  rw [codes_eq]
  intro c hc
  simp only [codes1, List.mem_cons, List.not_mem_nil, or_false] at hc
  rcases hc with rfl | rfl | rfl | rfl | rfl | rfl | rfl | rfl | rfl | rfl | rfl | rfl | rfl
  · exact w_c0
  · exact w_c1
  · exact w_c2
  · exact w_c3
  · exact w_c4
  · exact w_c5
  · exact w_c6
  · exact w_c7
  · exact w_c8
  · exact w_c9
  · exact w_c10
  · exact w_c11
  · exact w_c12
set_option maxRecDepth 65536 in
theorem w_t1 : (words1.take 24).all (fun c => isCode c || c.before args0 about1) = true := by decide +kernel
set_option maxRecDepth 65536 in
theorem w_t2 : ((words1.drop 24).take 24).all (fun c => isCode c || c.before args0 about1) = true := by decide +kernel
set_option maxRecDepth 65536 in
theorem w_t3 : ((words1.drop 24).drop 24).all (fun c => isCode c || c.before args0 about1) = true := by decide +kernel
theorem w_tables : (allAtoms (Jvm.Cond.code x code maxLocals ret :: tables_1)).before args0 about1 = true := by
  rw [allAtoms_all]
  show words1.all (fun c => c.before args0 about1) = true
  refine all_split ?_ w_codes
  rw [← List.take_append_drop 24 words1, List.all_append, w_t1, ← List.take_append_drop 24 (words1.drop 24), List.all_append, w_t2, w_t3]
  rfl
set_option maxRecDepth 65536 in
theorem w_case : (Jvm.Cond.and given_1 narrow_1).before args0 about1 = true := by decide +kernel
theorem w_applies : (headSpec (Jvm.Cond.code x code maxLocals ret :: tables_1) room_1).applies x e0.platform about1 = true :=
  (Spec.applies_iff w_frames).mpr ⟨w_running, w_runnable, w_alone, w_named, w_hears, w_ripe, w_room, w_tables⟩
theorem atStart : AtStart classFile x code maxLocals ret World_1 tables_1 room_1 Calls_1 rest_1 Pre_1 launch0 p0 e0 about1 theMethod args0 below0 :=
  ⟨lists_1, trivial, launch0.admits_env _ _ _, launch0.least_env, fairChoices_fair.cas, fairChoices_fair.clock, w_frames, w_args, w_heap, w_applies, trivial, trivial, w_case⟩
end start1
theorem witness_1 : WitnessClaimed_1 := ⟨start1.p0, start1.e0, start1.about1, start1.theMethod, start1.args0, start1.below0, start1.atStart⟩
end Jvm.Pilot.@@N@@
