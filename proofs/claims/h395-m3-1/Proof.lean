import JvmDerived
import JvmDerived.Pilot.@@N@@Statement
import JvmDerived.Pilot.@@N@@Code
set_option linter.unusedVariables false
set_option linter.unusedSimpArgs false
set_option maxRecDepth 65536
set_option maxHeartbeats 40000000
@@BLOCK:NumsL.lean.txt@@
namespace Jvm.RoadKit
open Sem ClassFile Op Lib Jvm.Stand Jvm.Free Jvm.LawKit
/-- from U the run comes to an end of the invocation at which P holds -/
def Wp (p : Program) (e : Env) (below : List Frame) (P : State → Outcome → Prop) (U : State) : Prop :=
  ∃ s₂ o, Steps p.tables e below U s₂ ∧ s₂.status = .running ∧ Ended s₂ below o ∧ P s₂ o
theorem Wp.of {p : Program} {e : Env} {below : List Frame} {P : State → Outcome → Prop} {U U' : State} (f : ∀ t, Steps p.tables e below U' t → Steps p.tables e below U t) (k : Wp p e below P U') : Wp p e below P U := by
  obtain ⟨s2, o, a, b⟩ := k; exact ⟨s2, o, f _ a, b⟩
theorem Wp.tr {p : Program} {e : Env} {below : List Frame} {P : State → Outcome → Prop} {U U' : State} (f : Steps p.tables e below U U') (k : Wp p e below P U') : Wp p e below P U := by
  obtain ⟨s2, o, a, b⟩ := k; exact ⟨s2, o, f.trans a, b⟩
theorem Wp.cast {p : Program} {e : Env} {below : List Frame} {P : State → Outcome → Prop} {T : State} {g g' : JFrame} (q : g = g') (k : Wp p e below P (T.setTop g')) : Wp p e below P (T.setTop g) := q ▸ k
/-- where the walk stands: the library's Stand, what stays the same throughout a body, the heap, that only new places were written, that the start's cells are as they were -/
def Sd (Z : State) (n0 kk : Nat) (code : ByteArray) (ml : Nat) (own nm : String) (ret : Option FieldType) (h : Heap) (p : Program) (l : Launch) (e : Env) (R : Room) (s : State) (m : MethodId) (args : Array Value) (below : List Frame) (meth : Method) (c : Code) (T : State) (locs : List Loc) (cells slots : Nat) : Prop :=
  Stand p l e R s m args below meth c T locs cells slots ∧ (p.tables.exec = Jvm.exec ∧ c.code = code ∧ c.maxLocals = ml ∧ s.vm.findClass own = some m.cls ∧ Z.Warmed39 s.vm ∧ meth.sig.returnType = ret ∧ meth.name = nm ∧ meth.locks = false) ∧ T.heap = h ∧ Fr n0 locs ∧ Old Z n0 h ∧ kk ≤ h.size
/-- an instruction of n bytes and the pc behind it -/
def Dc (code : ByteArray) (pc : Nat) (i : Instr) (n pc' : Nat) : Prop := decode code pc = .ok (i, n) ∧ pc + n = pc'
/-- a branch of three bytes, its target and the pc behind it -/
def Bc (code : ByteArray) (pc : Nat) (f : Int → Instr) (t pc' : Nat) : Prop := ∃ o, decode code pc = .ok (f o, 3) ∧ 0 ≤ (pc : Int) + o ∧ ((pc : Int) + o).toNat = t ∧ pc + 3 = pc'

section Sd
variable {Z : State} {n0 kk : Nat} {code : ByteArray} {ml : Nat} {own nm : String} {ret : Option FieldType} {h : Heap} {p : Program} {l : Launch} {e : Env} {R : Room} {s : State} {m : MethodId} {args : Array Value} {below : List Frame} {meth : Method} {c : Code} {T : State} {locs : List Loc} {cells slots : Nat} {P : State → Outcome → Prop} {a0 : Array Value}
theorem Sd.st (X : Sd Z n0 kk code ml own nm ret h p l e R s m args below meth c T locs cells slots) : Stand p l e R s m args below meth c T locs cells slots := X.1
theorem Sd.hx (X : Sd Z n0 kk code ml own nm ret h p l e R s m args below meth c T locs cells slots) : p.tables.exec = Jvm.exec := X.2.1.1
theorem Sd.hb (X : Sd Z n0 kk code ml own nm ret h p l e R s m args below meth c T locs cells slots) {pc : Nat} {r : Except DecodeError (Instr × Nat)} (q : decode code pc = r) : decode c.code pc = r := X.2.1.2.1 ▸ q
theorem Sd.hml (X : Sd Z n0 kk code ml own nm ret h p l e R s m args below meth c T locs cells slots) : c.maxLocals = ml := X.2.1.2.2.1
theorem Sd.hown (X : Sd Z n0 kk code ml own nm ret h p l e R s m args below meth c T locs cells slots) : s.vm.findClass own = some m.cls := X.2.1.2.2.2.1
theorem Sd.hZ (X : Sd Z n0 kk code ml own nm ret h p l e R s m args below meth c T locs cells slots) : Z.Warmed39 s.vm := X.2.1.2.2.2.2.1
theorem Sd.hret (X : Sd Z n0 kk code ml own nm ret h p l e R s m args below meth c T locs cells slots) : meth.sig.returnType = ret := X.2.1.2.2.2.2.2.1
theorem Sd.hnm (X : Sd Z n0 kk code ml own nm ret h p l e R s m args below meth c T locs cells slots) : meth.name = nm := X.2.1.2.2.2.2.2.2.1
theorem Sd.hlk (X : Sd Z n0 kk code ml own nm ret h p l e R s m args below meth c T locs cells slots) : meth.locks = false := X.2.1.2.2.2.2.2.2.2
theorem Sd.eh (X : Sd Z n0 kk code ml own nm ret h p l e R s m args below meth c T locs cells slots) : T.heap = h := X.2.2.1
theorem Sd.fr (X : Sd Z n0 kk code ml own nm ret h p l e R s m args below meth c T locs cells slots) : Fr n0 locs := X.2.2.2.1
theorem Sd.old (X : Sd Z n0 kk code ml own nm ret h p l e R s m args below meth c T locs cells slots) : Old Z n0 h := X.2.2.2.2.1
theorem Sd.hkk (X : Sd Z n0 kk code ml own nm ret h p l e R s m args below meth c T locs cells slots) : kk ≤ h.size := X.2.2.2.2.2
theorem Sd.mk' {h' : Heap} {T' : State} {locs' : List Loc} {c' s' : Nat} (X : Sd Z n0 kk code ml own nm ret h p l e R s m args below meth c T locs cells slots) (Y : Stand p l e R s m args below meth c T' locs' c' s') (q1 : T'.heap = h') (q2 : Fr n0 locs') (q3 : Old Z n0 h') (q4 : h.size ≤ h'.size) : Sd Z n0 kk code ml own nm ret h' p l e R s m args below meth c T' locs' c' s' := ⟨Y, X.2.1, q1, q2, q3, Nat.le_trans X.hkk q4⟩
end Sd
section Steps
variable {Z : State} {n0 kk : Nat} {code : ByteArray} {ml : Nat} {own nm : String} {ret : Option FieldType} {h : Heap} {p : Program} {l : Launch} {e : Env} {R : Room} {s : State} {m : MethodId} {args : Array Value} {below : List Frame} {meth : Method} {c : Code} {T : State} {locs : List Loc} {cells slots : Nat} {P : State → Outcome → Prop} {a0 : Array Value} {pc pc' : Nat} {L : Array Slot} {S : List Value}
theorem w_iloadN (X : Sd Z n0 kk code ml own nm ret h p l e R s m args below meth c T locs cells slots) {k : Fin 4} {v : Int32} (hd : Dc code pc (.iload_n k) 1 pc') (hl : L[k.val]? = some (.val (.int v))) (K : Wp p e below P (T.setTop (mkF m pc' L (.int v :: S)))) : Wp p e below P (T.setTop (mkF m pc L S)) := by
  obtain ⟨hd, rfl⟩ := hd
  exact Wp.of (fun _ k => XS.iloadN X.st.here X.hx rfl (X.hb hd) hl k) K
theorem w_iload (X : Sd Z n0 kk code ml own nm ret h p l e R s m args below meth c T locs cells slots) {k : Nat} {v : Int32} (hd : Dc code pc (.iload k) 2 pc') (hl : L[k]? = some (.val (.int v))) (K : Wp p e below P (T.setTop (mkF m pc' L (.int v :: S)))) : Wp p e below P (T.setTop (mkF m pc L S)) := by
  obtain ⟨hd, rfl⟩ := hd
  exact Wp.of (fun _ k => XS.iload X.st.here X.hx rfl (X.hb hd) hl k) K
theorem w_aloadN (X : Sd Z n0 kk code ml own nm ret h p l e R s m args below meth c T locs cells slots) {k : Fin 4} {v : Value} (hd : Dc code pc (.aload_n k) 1 pc') (hl : L[k.val]? = some (.val v)) (hv : v.isRef = true) (K : Wp p e below P (T.setTop (mkF m pc' L (v :: S)))) : Wp p e below P (T.setTop (mkF m pc L S)) := by
  obtain ⟨hd, rfl⟩ := hd
  exact Wp.of (fun _ k => XS.aloadN X.st.here X.hx rfl (X.hb hd) hl hv k) K
theorem w_aload (X : Sd Z n0 kk code ml own nm ret h p l e R s m args below meth c T locs cells slots) {k : Nat} {v : Value} (hd : Dc code pc (.aload k) 2 pc') (hl : L[k]? = some (.val v)) (hv : v.isRef = true) (K : Wp p e below P (T.setTop (mkF m pc' L (v :: S)))) : Wp p e below P (T.setTop (mkF m pc L S)) := by
  obtain ⟨hd, rfl⟩ := hd
  exact Wp.of (fun _ k => XS.aload X.st.here X.hx rfl (X.hb hd) hl hv k) K
theorem w_istoreN (X : Sd Z n0 kk code ml own nm ret h p l e R s m args below meth c T locs cells slots) {k : Fin 4} {v : Int32} (L' : Array Slot) (hd : Dc code pc (.istore_n k) 1 pc') (hl : storeLocals L k.val (.int v) = some L') (K : Wp p e below P (T.setTop (mkF m pc' L' S))) : Wp p e below P (T.setTop (mkF m pc L (.int v :: S))) := by
  obtain ⟨hd, rfl⟩ := hd
  exact Wp.of (fun _ k => XS.istoreN X.st.here X.hx rfl (X.hb hd) rfl hl k) K
theorem w_istore (X : Sd Z n0 kk code ml own nm ret h p l e R s m args below meth c T locs cells slots) {k : Nat} {v : Int32} (L' : Array Slot) (hd : Dc code pc (.istore k) 2 pc') (hl : storeLocals L k (.int v) = some L') (K : Wp p e below P (T.setTop (mkF m pc' L' S))) : Wp p e below P (T.setTop (mkF m pc L (.int v :: S))) := by
  obtain ⟨hd, rfl⟩ := hd
  exact Wp.of (fun _ k => XS.istore X.st.here X.hx rfl (X.hb hd) rfl hl k) K
theorem w_astoreN (X : Sd Z n0 kk code ml own nm ret h p l e R s m args below meth c T locs cells slots) {k : Fin 4} {v : Value} (L' : Array Slot) (hd : Dc code pc (.astore_n k) 1 pc') (hv : v.isRef = true) (hl : storeLocals L k.val v = some L') (K : Wp p e below P (T.setTop (mkF m pc' L' S))) : Wp p e below P (T.setTop (mkF m pc L (v :: S))) := by
  obtain ⟨hd, rfl⟩ := hd
  exact Wp.of (fun _ k => XS.astoreN X.st.here X.hx rfl (X.hb hd) rfl hv hl k) K
theorem w_astore (X : Sd Z n0 kk code ml own nm ret h p l e R s m args below meth c T locs cells slots) {k : Nat} {v : Value} (L' : Array Slot) (hd : Dc code pc (.astore k) 2 pc') (hv : v.isRef = true) (hl : storeLocals L k v = some L') (K : Wp p e below P (T.setTop (mkF m pc' L' S))) : Wp p e below P (T.setTop (mkF m pc L (v :: S))) := by
  obtain ⟨hd, rfl⟩ := hd
  exact Wp.of (fun _ k => XS.astore X.st.here X.hx rfl (X.hb hd) rfl hv hl k) K
theorem w_iinc (X : Sd Z n0 kk code ml own nm ret h p l e R s m args below meth c T locs cells slots) {k : Nat} {q : Int} {v : Int32} (z : Int32) (L' : Array Slot) (hd : Dc code pc (.iinc k q) 3 pc') (hq : Int32.ofInt q = z) (hg : L[k]? = some (.val (.int v))) (hl : storeLocals L k (.int (v + z)) = some L') (K : Wp p e below P (T.setTop (mkF m pc' L' S))) : Wp p e below P (T.setTop (mkF m pc L S)) := by
  obtain ⟨hd, rfl⟩ := hd
  exact Wp.of (fun _ k => XS.iinc X.st.here X.hx rfl (X.hb hd) hg (hq ▸ hl) k) K
theorem w_iconst (X : Sd Z n0 kk code ml own nm ret h p l e R s m args below meth c T locs cells slots) {i : Int} (v : Int32) (hd : Dc code pc (.iconst i) 1 pc') (hv : Int32.ofInt i = v) (K : Wp p e below P (T.setTop (mkF m pc' L (.int v :: S)))) : Wp p e below P (T.setTop (mkF m pc L S)) := by
  obtain ⟨hd, rfl⟩ := hd
  exact Wp.of (fun _ k => XS.iconst X.st.here X.hx rfl (X.hb hd) (by rw [hv]; exact k)) K
theorem w_bipush (X : Sd Z n0 kk code ml own nm ret h p l e R s m args below meth c T locs cells slots) {i : Int} (v : Int32) (hd : Dc code pc (.bipush i) 2 pc') (hv : (Int8.ofInt i).toInt32 = v) (K : Wp p e below P (T.setTop (mkF m pc' L (.int v :: S)))) : Wp p e below P (T.setTop (mkF m pc L S)) := by
  obtain ⟨hd, rfl⟩ := hd
  exact Wp.of (fun _ k => XS.bipush X.st.here X.hx rfl (X.hb hd) (by rw [hv]; exact k)) K
theorem w_sipush (X : Sd Z n0 kk code ml own nm ret h p l e R s m args below meth c T locs cells slots) {i : Int} (v : Int32) (hd : Dc code pc (.sipush i) 3 pc') (hv : (Int16.ofInt i).toInt32 = v) (K : Wp p e below P (T.setTop (mkF m pc' L (.int v :: S)))) : Wp p e below P (T.setTop (mkF m pc L S)) := by
  obtain ⟨hd, rfl⟩ := hd
  exact Wp.of (fun _ k => XS.sipush X.st.here X.hx rfl (X.hb hd) (by rw [hv]; exact k)) K
theorem w_aconstNull (X : Sd Z n0 kk code ml own nm ret h p l e R s m args below meth c T locs cells slots)  (hd : Dc code pc (.aconst_null) 1 pc')  (K : Wp p e below P (T.setTop (mkF m pc' L (.null :: S)))) : Wp p e below P (T.setTop (mkF m pc L S)) := by
  obtain ⟨hd, rfl⟩ := hd
  exact Wp.of (fun _ k => XS.aconstNull X.st.here X.hx rfl (X.hb hd) k) K
theorem w_iadd (X : Sd Z n0 kk code ml own nm ret h p l e R s m args below meth c T locs cells slots) {x y : Int32} (hd : Dc code pc (.iadd) 1 pc')  (K : Wp p e below P (T.setTop (mkF m pc' L (.int (x + y) :: S)))) : Wp p e below P (T.setTop (mkF m pc L (.int y :: .int x :: S))) := by
  obtain ⟨hd, rfl⟩ := hd
  exact Wp.of (fun _ k => XS.iadd X.st.here X.hx rfl (X.hb hd) rfl k) K
theorem w_isub (X : Sd Z n0 kk code ml own nm ret h p l e R s m args below meth c T locs cells slots) {x y : Int32} (hd : Dc code pc (.isub) 1 pc')  (K : Wp p e below P (T.setTop (mkF m pc' L (.int (x - y) :: S)))) : Wp p e below P (T.setTop (mkF m pc L (.int y :: .int x :: S))) := by
  obtain ⟨hd, rfl⟩ := hd
  exact Wp.of (fun _ k => XS.isub X.st.here X.hx rfl (X.hb hd) rfl k) K
theorem w_iand (X : Sd Z n0 kk code ml own nm ret h p l e R s m args below meth c T locs cells slots) {x y : Int32} (hd : Dc code pc (.iand) 1 pc')  (K : Wp p e below P (T.setTop (mkF m pc' L (.int (x &&& y) :: S)))) : Wp p e below P (T.setTop (mkF m pc L (.int y :: .int x :: S))) := by
  obtain ⟨hd, rfl⟩ := hd
  exact Wp.of (fun _ k => XS.iand X.st.here X.hx rfl (X.hb hd) rfl k) K
theorem w_ior (X : Sd Z n0 kk code ml own nm ret h p l e R s m args below meth c T locs cells slots) {x y : Int32} (hd : Dc code pc (.ior) 1 pc')  (K : Wp p e below P (T.setTop (mkF m pc' L (.int (x ||| y) :: S)))) : Wp p e below P (T.setTop (mkF m pc L (.int y :: .int x :: S))) := by
  obtain ⟨hd, rfl⟩ := hd
  exact Wp.of (fun _ k => XS.ior X.st.here X.hx rfl (X.hb hd) rfl k) K
theorem w_ixor (X : Sd Z n0 kk code ml own nm ret h p l e R s m args below meth c T locs cells slots) {x y : Int32} (hd : Dc code pc (.ixor) 1 pc')  (K : Wp p e below P (T.setTop (mkF m pc' L (.int (x ^^^ y) :: S)))) : Wp p e below P (T.setTop (mkF m pc L (.int y :: .int x :: S))) := by
  obtain ⟨hd, rfl⟩ := hd
  exact Wp.of (fun _ k => XS.ixor X.st.here X.hx rfl (X.hb hd) rfl k) K
theorem own_irem (x y : Int32) : x - (x / y) * y = x % y := by
  apply Int32.toInt_inj.mp
  have h1 := Int32.le_toInt (x % y)
  have h2 := Int32.toInt_lt (x % y)
  rw [Int32.toInt_mod] at h1 h2 ⊢
  rw [Int32.toInt_sub, Int32.toInt_mul, Int32.toInt_div, Int.bmod_mul_bmod, Int.sub_bmod_bmod]
  have e : x.toInt - x.toInt.tdiv y.toInt * y.toInt = x.toInt.tmod y.toInt := by rw [Int.mul_comm]; exact (Int.tmod_def _ _).symm
  rw [e, Int.bmod_eq_of_le (by omega) (by omega)]
theorem w_irem (X : Sd Z n0 kk code ml own nm ret h p l e R s m args below meth c T locs cells slots) {x y : Int32} (hd : Dc code pc (.irem) 1 pc') (hy : ¬ y = 0) (K : Wp p e below P (T.setTop (mkF m pc' L (.int (x % y) :: S)))) : Wp p e below P (T.setTop (mkF m pc L (.int y :: .int x :: S))) := by
  obtain ⟨hd, rfl⟩ := hd
  exact Wp.of (fun _ k => XS.irem X.st.here X.hx rfl (X.hb hd) rfl hy (by rw [own_irem]; exact k)) K
theorem w_ishl (X : Sd Z n0 kk code ml own nm ret h p l e R s m args below meth c T locs cells slots) {x y : Int32} (hd : Dc code pc (.ishl) 1 pc')  (K : Wp p e below P (T.setTop (mkF m pc' L (.int (x <<< (y &&& 31)) :: S)))) : Wp p e below P (T.setTop (mkF m pc L (.int y :: .int x :: S))) := by
  obtain ⟨hd, rfl⟩ := hd
  exact Wp.of (fun _ k => XS.ishl X.st.here X.hx rfl (X.hb hd) rfl k) K
theorem w_ishr (X : Sd Z n0 kk code ml own nm ret h p l e R s m args below meth c T locs cells slots) {x y : Int32} (hd : Dc code pc (.ishr) 1 pc')  (K : Wp p e below P (T.setTop (mkF m pc' L (.int (x >>> (y &&& 31)) :: S)))) : Wp p e below P (T.setTop (mkF m pc L (.int y :: .int x :: S))) := by
  obtain ⟨hd, rfl⟩ := hd
  exact Wp.of (fun _ k => XS.ishr X.st.here X.hx rfl (X.hb hd) rfl k) K
theorem w_iushr (X : Sd Z n0 kk code ml own nm ret h p l e R s m args below meth c T locs cells slots) {x y : Int32} (hd : Dc code pc (.iushr) 1 pc')  (K : Wp p e below P (T.setTop (mkF m pc' L (.int ((x.toUInt32 >>> (y &&& 31).toUInt32).toInt32) :: S)))) : Wp p e below P (T.setTop (mkF m pc L (.int y :: .int x :: S))) := by
  obtain ⟨hd, rfl⟩ := hd
  exact Wp.of (fun _ k => XS.iushr X.st.here X.hx rfl (X.hb hd) rfl k) K
theorem w_i2b (X : Sd Z n0 kk code ml own nm ret h p l e R s m args below meth c T locs cells slots) {x : Int32} (hd : Dc code pc (.i2b) 1 pc')  (K : Wp p e below P (T.setTop (mkF m pc' L (.int (x.toInt8.toInt32) :: S)))) : Wp p e below P (T.setTop (mkF m pc L (.int x :: S))) := by
  obtain ⟨hd, rfl⟩ := hd
  exact Wp.of (fun _ k => XS.i2b X.st.here X.hx rfl (X.hb hd) rfl k) K
theorem w_i2c (X : Sd Z n0 kk code ml own nm ret h p l e R s m args below meth c T locs cells slots) {x : Int32} (hd : Dc code pc (.i2c) 1 pc')  (K : Wp p e below P (T.setTop (mkF m pc' L (.int (x.toUInt32.toUInt16.toUInt32.toInt32) :: S)))) : Wp p e below P (T.setTop (mkF m pc L (.int x :: S))) := by
  obtain ⟨hd, rfl⟩ := hd
  exact Wp.of (fun _ k => XS.i2c X.st.here X.hx rfl (X.hb hd) rfl k) K
theorem w_dup (X : Sd Z n0 kk code ml own nm ret h p l e R s m args below meth c T locs cells slots) {x : Value} (hd : Dc code pc (.dup) 1 pc') (hc : x.category = 1) (K : Wp p e below P (T.setTop (mkF m pc' L (x :: x :: S)))) : Wp p e below P (T.setTop (mkF m pc L (x :: S))) := by
  obtain ⟨hd, rfl⟩ := hd
  exact Wp.of (fun _ k => XS.dup X.st.here X.hx rfl (X.hb hd) rfl hc k) K
theorem w_pop (X : Sd Z n0 kk code ml own nm ret h p l e R s m args below meth c T locs cells slots) {x : Value} (hd : Dc code pc (.pop) 1 pc') (hc : x.category = 1) (K : Wp p e below P (T.setTop (mkF m pc' L S))) : Wp p e below P (T.setTop (mkF m pc L (x :: S))) := by
  obtain ⟨hd, rfl⟩ := hd
  exact Wp.of (fun _ k => XS.pop X.st.here X.hx rfl (X.hb hd) rfl hc k) K
theorem w_goto (X : Sd Z n0 kk code ml own nm ret h p l e R s m args below meth c T locs cells slots) {t : Nat} (hd : Bc code pc .goto t pc') (K : Wp p e below P (T.setTop (mkF m t L S))) : Wp p e below P (T.setTop (mkF m pc L S)) := by
  obtain ⟨o, hd, h1, h2, -⟩ := hd
  exact Wp.of (fun _ k => XS.goto X.st.here X.hx rfl (pc0 := pc) rfl (X.hb hd) h1 h2 k) K
theorem w_ifeq (X : Sd Z n0 kk code ml own nm ret h p l e R s m args below meth c T locs cells slots) {x : Int32} {t : Nat} (hd : Bc code pc (.ifCond .eq) t pc') (K1 : x = 0 → Wp p e below P (T.setTop (mkF m t L S))) (K2 : ¬ x = 0 → Wp p e below P (T.setTop (mkF m pc' L S))) : Wp p e below P (T.setTop (mkF m pc L (.int x :: S))) := by
  obtain ⟨o, hd, h1, h2, rfl⟩ := hd
  by_cases q : ifCond.holds .eq x = true
  · exact Wp.of (fun _ k => XS.ifYes X.st.here X.hx rfl (pc0 := pc) rfl (X.hb hd) rfl q h1 h2 k) (K1 (by simpa [ifCond.holds, Int32.not_lt] using q))
  · exact Wp.of (fun _ k => XS.ifNo X.st.here X.hx rfl (X.hb hd) rfl (by simpa using q) k) (K2 (by simpa [ifCond.holds, Int32.not_lt] using q))
theorem w_icmpeq (X : Sd Z n0 kk code ml own nm ret h p l e R s m args below meth c T locs cells slots) {x y : Int32} {t : Nat} (hd : Bc code pc (.if_icmp .eq) t pc') (K1 : x = y → Wp p e below P (T.setTop (mkF m t L S))) (K2 : ¬ x = y → Wp p e below P (T.setTop (mkF m pc' L S))) : Wp p e below P (T.setTop (mkF m pc L (.int y :: .int x :: S))) := by
  obtain ⟨o, hd, h1, h2, rfl⟩ := hd
  by_cases q : if_icmp.holds .eq x y = true
  · exact Wp.of (fun _ k => XS.icmpYes X.st.here X.hx rfl (pc0 := pc) rfl (X.hb hd) rfl q h1 h2 k) (K1 (by simpa [if_icmp.holds, Int32.not_lt] using q))
  · exact Wp.of (fun _ k => XS.icmpNo X.st.here X.hx rfl (X.hb hd) rfl (by simpa using q) k) (K2 (by simpa [if_icmp.holds, Int32.not_lt] using q))
theorem w_ifne (X : Sd Z n0 kk code ml own nm ret h p l e R s m args below meth c T locs cells slots) {x : Int32} {t : Nat} (hd : Bc code pc (.ifCond .ne) t pc') (K1 : ¬ x = 0 → Wp p e below P (T.setTop (mkF m t L S))) (K2 : x = 0 → Wp p e below P (T.setTop (mkF m pc' L S))) : Wp p e below P (T.setTop (mkF m pc L (.int x :: S))) := by
  obtain ⟨o, hd, h1, h2, rfl⟩ := hd
  by_cases q : ifCond.holds .ne x = true
  · exact Wp.of (fun _ k => XS.ifYes X.st.here X.hx rfl (pc0 := pc) rfl (X.hb hd) rfl q h1 h2 k) (K1 (by simpa [ifCond.holds, Int32.not_lt] using q))
  · exact Wp.of (fun _ k => XS.ifNo X.st.here X.hx rfl (X.hb hd) rfl (by simpa using q) k) (K2 (by simpa [ifCond.holds, Int32.not_lt] using q))
theorem w_icmpne (X : Sd Z n0 kk code ml own nm ret h p l e R s m args below meth c T locs cells slots) {x y : Int32} {t : Nat} (hd : Bc code pc (.if_icmp .ne) t pc') (K1 : ¬ x = y → Wp p e below P (T.setTop (mkF m t L S))) (K2 : x = y → Wp p e below P (T.setTop (mkF m pc' L S))) : Wp p e below P (T.setTop (mkF m pc L (.int y :: .int x :: S))) := by
  obtain ⟨o, hd, h1, h2, rfl⟩ := hd
  by_cases q : if_icmp.holds .ne x y = true
  · exact Wp.of (fun _ k => XS.icmpYes X.st.here X.hx rfl (pc0 := pc) rfl (X.hb hd) rfl q h1 h2 k) (K1 (by simpa [if_icmp.holds, Int32.not_lt] using q))
  · exact Wp.of (fun _ k => XS.icmpNo X.st.here X.hx rfl (X.hb hd) rfl (by simpa using q) k) (K2 (by simpa [if_icmp.holds, Int32.not_lt] using q))
theorem w_iflt (X : Sd Z n0 kk code ml own nm ret h p l e R s m args below meth c T locs cells slots) {x : Int32} {t : Nat} (hd : Bc code pc (.ifCond .lt) t pc') (K1 : x < 0 → Wp p e below P (T.setTop (mkF m t L S))) (K2 : ¬ x < 0 → Wp p e below P (T.setTop (mkF m pc' L S))) : Wp p e below P (T.setTop (mkF m pc L (.int x :: S))) := by
  obtain ⟨o, hd, h1, h2, rfl⟩ := hd
  by_cases q : ifCond.holds .lt x = true
  · exact Wp.of (fun _ k => XS.ifYes X.st.here X.hx rfl (pc0 := pc) rfl (X.hb hd) rfl q h1 h2 k) (K1 (by simpa [ifCond.holds, Int32.not_lt] using q))
  · exact Wp.of (fun _ k => XS.ifNo X.st.here X.hx rfl (X.hb hd) rfl (by simpa using q) k) (K2 (by simpa [ifCond.holds, Int32.not_lt] using q))
theorem w_icmplt (X : Sd Z n0 kk code ml own nm ret h p l e R s m args below meth c T locs cells slots) {x y : Int32} {t : Nat} (hd : Bc code pc (.if_icmp .lt) t pc') (K1 : x < y → Wp p e below P (T.setTop (mkF m t L S))) (K2 : ¬ x < y → Wp p e below P (T.setTop (mkF m pc' L S))) : Wp p e below P (T.setTop (mkF m pc L (.int y :: .int x :: S))) := by
  obtain ⟨o, hd, h1, h2, rfl⟩ := hd
  by_cases q : if_icmp.holds .lt x y = true
  · exact Wp.of (fun _ k => XS.icmpYes X.st.here X.hx rfl (pc0 := pc) rfl (X.hb hd) rfl q h1 h2 k) (K1 (by simpa [if_icmp.holds, Int32.not_lt] using q))
  · exact Wp.of (fun _ k => XS.icmpNo X.st.here X.hx rfl (X.hb hd) rfl (by simpa using q) k) (K2 (by simpa [if_icmp.holds, Int32.not_lt] using q))
theorem w_ifge (X : Sd Z n0 kk code ml own nm ret h p l e R s m args below meth c T locs cells slots) {x : Int32} {t : Nat} (hd : Bc code pc (.ifCond .ge) t pc') (K1 : ¬ x < 0 → Wp p e below P (T.setTop (mkF m t L S))) (K2 : x < 0 → Wp p e below P (T.setTop (mkF m pc' L S))) : Wp p e below P (T.setTop (mkF m pc L (.int x :: S))) := by
  obtain ⟨o, hd, h1, h2, rfl⟩ := hd
  by_cases q : ifCond.holds .ge x = true
  · exact Wp.of (fun _ k => XS.ifYes X.st.here X.hx rfl (pc0 := pc) rfl (X.hb hd) rfl q h1 h2 k) (K1 (by simpa [ifCond.holds, Int32.not_lt] using q))
  · exact Wp.of (fun _ k => XS.ifNo X.st.here X.hx rfl (X.hb hd) rfl (by simpa using q) k) (K2 (by simpa [ifCond.holds, Int32.not_lt] using q))
theorem w_icmpge (X : Sd Z n0 kk code ml own nm ret h p l e R s m args below meth c T locs cells slots) {x y : Int32} {t : Nat} (hd : Bc code pc (.if_icmp .ge) t pc') (K1 : ¬ x < y → Wp p e below P (T.setTop (mkF m t L S))) (K2 : x < y → Wp p e below P (T.setTop (mkF m pc' L S))) : Wp p e below P (T.setTop (mkF m pc L (.int y :: .int x :: S))) := by
  obtain ⟨o, hd, h1, h2, rfl⟩ := hd
  by_cases q : if_icmp.holds .ge x y = true
  · exact Wp.of (fun _ k => XS.icmpYes X.st.here X.hx rfl (pc0 := pc) rfl (X.hb hd) rfl q h1 h2 k) (K1 (by simpa [if_icmp.holds, Int32.not_lt] using q))
  · exact Wp.of (fun _ k => XS.icmpNo X.st.here X.hx rfl (X.hb hd) rfl (by simpa using q) k) (K2 (by simpa [if_icmp.holds, Int32.not_lt] using q))
theorem w_icmpgt (X : Sd Z n0 kk code ml own nm ret h p l e R s m args below meth c T locs cells slots) {x y : Int32} {t : Nat} (hd : Bc code pc (.if_icmp .gt) t pc') (K1 : y < x → Wp p e below P (T.setTop (mkF m t L S))) (K2 : ¬ y < x → Wp p e below P (T.setTop (mkF m pc' L S))) : Wp p e below P (T.setTop (mkF m pc L (.int y :: .int x :: S))) := by
  obtain ⟨o, hd, h1, h2, rfl⟩ := hd
  by_cases q : if_icmp.holds .gt x y = true
  · exact Wp.of (fun _ k => XS.icmpYes X.st.here X.hx rfl (pc0 := pc) rfl (X.hb hd) rfl q h1 h2 k) (K1 (by simpa [if_icmp.holds, Int32.not_lt] using q))
  · exact Wp.of (fun _ k => XS.icmpNo X.st.here X.hx rfl (X.hb hd) rfl (by simpa using q) k) (K2 (by simpa [if_icmp.holds, Int32.not_lt] using q))
theorem w_icmple (X : Sd Z n0 kk code ml own nm ret h p l e R s m args below meth c T locs cells slots) {x y : Int32} {t : Nat} (hd : Bc code pc (.if_icmp .le) t pc') (K1 : ¬ y < x → Wp p e below P (T.setTop (mkF m t L S))) (K2 : y < x → Wp p e below P (T.setTop (mkF m pc' L S))) : Wp p e below P (T.setTop (mkF m pc L (.int y :: .int x :: S))) := by
  obtain ⟨o, hd, h1, h2, rfl⟩ := hd
  by_cases q : if_icmp.holds .le x y = true
  · exact Wp.of (fun _ k => XS.icmpYes X.st.here X.hx rfl (pc0 := pc) rfl (X.hb hd) rfl q h1 h2 k) (K1 (by simpa [if_icmp.holds, Int32.not_lt] using q))
  · exact Wp.of (fun _ k => XS.icmpNo X.st.here X.hx rfl (X.hb hd) rfl (by simpa using q) k) (K2 (by simpa [if_icmp.holds, Int32.not_lt] using q))
theorem w_ifnonnullT (X : Sd Z n0 kk code ml own nm ret h p l e R s m args below meth c T locs cells slots) {t : Nat} {a : Addr} (hd : Bc code pc .ifnonnull t pc') (K : Wp p e below P (T.setTop (mkF m t L S))) : Wp p e below P (T.setTop (mkF m pc L (.ref a :: S))) := by
  obtain ⟨o, hd, h1, h2, -⟩ := hd
  exact Wp.of (fun _ k => XS.ifnonnullYes X.st.here X.hx rfl (pc0 := pc) rfl (X.hb hd) rfl h1 h2 k) K
theorem w_ifnonnullF (X : Sd Z n0 kk code ml own nm ret h p l e R s m args below meth c T locs cells slots) {t : Nat} (hd : Bc code pc .ifnonnull t pc') (K : Wp p e below P (T.setTop (mkF m pc' L S))) : Wp p e below P (T.setTop (mkF m pc L (.null :: S))) := by
  obtain ⟨o, hd, h1, h2, rfl⟩ := hd
  exact Wp.of (fun _ k => XS.ifnonnullNo X.st.here X.hx rfl (X.hb hd) rfl k) K
theorem w_acmpne (X : Sd Z n0 kk code ml own nm ret h p l e R s m args below meth c T locs cells slots) {x y : Value} {t : Nat} (hx' : x.isRef = true) (hy' : y.isRef = true) (hd : Bc code pc (.if_acmp .ne) t pc') (K1 : ¬ x = y → Wp p e below P (T.setTop (mkF m t L S))) (K2 : x = y → Wp p e below P (T.setTop (mkF m pc' L S))) : Wp p e below P (T.setTop (mkF m pc L (y :: x :: S))) := by
  obtain ⟨o, hd, h1, h2, rfl⟩ := hd
  by_cases q : x = y
  · exact Wp.of (fun _ k => Jvm.RoadKit.acmp X.st X.hx rfl hx' hy' (pc0 := pc) (same := true) rfl (X.hb hd) rfl (decide_eq_true q) h1 (by simp [acV, h2]) k) (K2 q)
  · exact Wp.of (fun _ k => Jvm.RoadKit.acmp X.st X.hx rfl hx' hy' (pc0 := pc) (same := false) rfl (X.hb hd) rfl (decide_eq_false q) h1 (by simp [acV, h2]) k) (K1 q)
theorem w_ldcI (X : Sd Z n0 kk code ml own nm ret h p l e R s m args below meth c T locs cells slots) {i : Nat} {v : Int32} (hd : Dc code pc (.ldc i) 2 pc') (hw : (Cond.constant own i v).before a0 Z = true) (K : Wp p e below P (T.setTop (mkF m pc' L (.int v :: S)))) : Wp p e below P (T.setTop (mkF m pc L S)) := by
  obtain ⟨hd, rfl⟩ := hd
  exact Wp.of (fun _ k => X.st.ldcInt X.hx X.hown (mvT X.hZ hw) (g := mkF m pc L S) rfl (X.hb hd) _ k) K
end Steps
/-- what a contract says of the end -/
def Po (Z : State) (n0 : Nat) (s : State) (Q : Option Value → Heap → Prop) (ce sl : Nat) : State → Outcome → Prop := fun U o => ∃ v L, o = .returned v ∧ (Fr n0 L ∧ Old Z n0 U.heap ∧ s.heap.size ≤ U.heap.size ∧ Q v U.heap) ∧ FrameEnd s o U L ce sl
/-- called with these arguments at the heap h0, y returns and Q holds of what it returns and of the heap behind it -/
def Does (l : Launch) (Z : State) (n0 : Nat) (y : MethodName) (code : ByteArray) (ml : Nat) (ret : Option FieldType) (ws : List Cond) (rm : Room) (as' : Array Value) (h0 : Heap) (Q : Option Value → Heap → Prop) : Prop :=
  Old Z n0 h0 → MetFree l y (head1 (Cond.code y code ml ret :: ws) rm) (fun a U => a = as' ∧ Z.Warmed39 U.vm ∧ U.heap = h0) (fun _ _ _ _ _ => True) (fun _ U o U' => ∃ v L, o = .returned v ∧ (Fr n0 L ∧ Old Z n0 U'.heap ∧ h0.size ≤ U'.heap.size ∧ Q v U'.heap) ∧ FrameEnd U o U' L rm.cells rm.slots)
theorem Does.start {l : Launch} {Z : State} {n0 : Nat} {y : MethodName} {code : ByteArray} {ml : Nat} {ret : Option FieldType} {ws : List Cond} {rm : Room} {as' : Array Value} {h0 : Heap} {Q : Option Value → Heap → Prop} (hp : plainFor y = true)
    (body : ∀ p e s m below meth c s₁, Sd Z n0 0 code ml y.cls y.name ret h0 p l e rm s m as' below meth c s₁ [] 0 0 → Wp p e below (Po Z n0 s Q rm.cells rm.slots) (s₁.setTop (entryFrame m as' ml))) : Does l Z n0 y code ml ret ws rm as' h0 Q := by
  intro hold
  refine MetFree.of_bodySF hp hisR ?_
  intro p e s m args below meth c s₁ Bd hml0 hP hK
  obtain ⟨rfl, hZ, hh⟩ := hP
  have hh' := hh
  subst hh
  exact body p e s m below meth c s₁ ⟨Stand.of_body Bd, ⟨Bd.exec, Bd.bytes, hml0, findClass_of_methodNamed Bd.named, hZ, Bd.returns, (name_of_methodNamed Bd.named Bd.method).1, Bd.notSynchronized⟩, by rw [Bd.state]; rfl, Fr.nil n0, hold, Nat.zero_le _⟩
theorem Does.mono {l : Launch} {Z : State} {n0 : Nat} {y : MethodName} {code : ByteArray} {ml : Nat} {ret : Option FieldType} {ws : List Cond} {rm : Room} {as' : Array Value} {h0 : Heap} {Q Q' : Option Value → Heap → Prop} (D : Does l Z n0 y code ml ret ws rm as' h0 Q) (f : ∀ v h, Q v h → Q' v h) : Does l Z n0 y code ml ret ws rm as' h0 Q' := by
  intro hold p e ha hc hk s m args below hf happ hP hK
  obtain ⟨n, o, h1, h2, h3, v, L, e1, ⟨q1, q2, q2', q3⟩, q4⟩ := D hold p e ha hc hk s m args below hf happ hP hK
  exact ⟨n, o, h1, h2, h3, v, L, e1, ⟨q1, q2, q2', f _ _ q3⟩, q4⟩
section Steps2
variable {Z : State} {n0 kk : Nat} {code : ByteArray} {ml : Nat} {own nm : String} {ret : Option FieldType} {h : Heap} {p : Program} {l : Launch} {e : Env} {R : Room} {s : State} {m : MethodId} {args : Array Value} {below : List Frame} {meth : Method} {c : Code} {T : State} {locs : List Loc} {cells slots : Nat} {P : State → Outcome → Prop} {a0 : Array Value} {pc pc' : Nat} {L : Array Slot} {S : List Value} {Q : Option Value → Heap → Prop} {ce sl : Nat}
theorem Sd.done (X : Sd Z n0 kk code ml own nm ret h p l e R s m args below meth c T locs cells slots) {v : Option Value} (hv : ret = none → v = none) (hq : Q v h) (hc : cells ≤ ce) (hs : slots ≤ sl) {g : JFrame} (step : ∀ fs, (∀ (f : JFrame) (acts : List Action), f.method = m → f.locked = none → f.entered = [] → (doReturn e (T.setTop f) acts v).1 = T.setFrames fs) → Steps p.tables e below (T.setTop g) (T.setFrames fs)) : Wp p e below (Po Z n0 s Q ce sl) (T.setTop g) := by
  obtain ⟨fs, hr, hrun, hended, hW, hsame⟩ := X.st.leave (v := v) (fun q => hv (X.hret ▸ q)) X.hlk
  have e1 : (T.setFrames fs).heap = h := X.eh
  refine ⟨_, _, step fs hr, hrun, hended, v, locs, rfl, ⟨X.fr, ?_, X.st.same.2.1, ?_⟩, ⟨_, rfl⟩, hW, hsame.mono hc hs⟩
  · rw [e1]; exact X.old
  · rw [e1]; exact hq
theorem w_retI (X : Sd Z n0 kk code ml own nm (some .int) h p l e R s m args below meth c T locs cells slots) {z : Int32} (hd : Dc code pc .ireturn 1 pc') (hq : Q (some (.int z)) h) (hc : cells ≤ ce) (hs : slots ≤ sl) : Wp p e below (Po Z n0 s Q ce sl) (T.setTop (mkF m pc L (.int z :: S))) :=
  X.done nofun hq hc hs fun fs hr => retOut X.st X.hx X.hret rfl (Or.inl ⟨rfl, Or.inl rfl, z, rfl⟩) (X.hb hd.1) hr
theorem w_ret_boolean (X : Sd Z n0 kk code ml own nm (some .boolean) h p l e R s m args below meth c T locs cells slots) {z : Int32} (z' : Int32) (hz : nar .boolean z = z') (hd : Dc code pc .ireturn 1 pc') (hq : Q (some (.int z')) h) (hc : cells ≤ ce) (hs : slots ≤ sl) : Wp p e below (Po Z n0 s Q ce sl) (T.setTop (mkF m pc L (.int z :: S))) := by
  subst hz
  exact X.done nofun hq hc hs fun fs hr => retN X.st X.hx X.hret (by simp) (X.hb hd.1) hr
theorem w_ret_byte (X : Sd Z n0 kk code ml own nm (some .byte) h p l e R s m args below meth c T locs cells slots) {z : Int32} (z' : Int32) (hz : nar .byte z = z') (hd : Dc code pc .ireturn 1 pc') (hq : Q (some (.int z')) h) (hc : cells ≤ ce) (hs : slots ≤ sl) : Wp p e below (Po Z n0 s Q ce sl) (T.setTop (mkF m pc L (.int z :: S))) := by
  subst hz
  exact X.done nofun hq hc hs fun fs hr => retN X.st X.hx X.hret (by simp) (X.hb hd.1) hr
theorem w_ret_char (X : Sd Z n0 kk code ml own nm (some .char) h p l e R s m args below meth c T locs cells slots) {z : Int32} (z' : Int32) (hz : nar .char z = z') (hd : Dc code pc .ireturn 1 pc') (hq : Q (some (.int z')) h) (hc : cells ≤ ce) (hs : slots ≤ sl) : Wp p e below (Po Z n0 s Q ce sl) (T.setTop (mkF m pc L (.int z :: S))) := by
  subst hz
  exact X.done nofun hq hc hs fun fs hr => retN X.st X.hx X.hret (by simp) (X.hb hd.1) hr
theorem w_retR (X : Sd Z n0 kk code ml own nm ret h p l e R s m args below meth c T locs cells slots) {t : FieldType} {z : Value} (ht : t.isReference = true) (hz : z.isRef = true) (hret : ret = some t) (hd : Dc code pc .areturn 1 pc') (hq : Q (some z) h) (hc : cells ≤ ce) (hs : slots ≤ sl) : Wp p e below (Po Z n0 s Q ce sl) (T.setTop (mkF m pc L (z :: S))) := by
  subst hret
  exact X.done nofun hq hc hs fun fs hr => retOut X.st X.hx X.hret (by rcases ref_cases hz with rfl | ⟨z, rfl⟩ <;> cases t <;> first | rfl | cases ht) (Or.inr (Or.inr (Or.inr (Or.inr ⟨rfl, ht, hz⟩)))) (X.hb hd.1) hr
theorem w_retV (X : Sd Z n0 kk code ml own nm (none) h p l e R s m args below meth c T locs cells slots) (hd : Dc code pc .return_ 1 pc') (hq : Q none h) (hc : cells ≤ ce) (hs : slots ≤ sl) : Wp p e below (Po Z n0 s Q ce sl) (T.setTop (mkF m pc L [])) :=
  X.done (fun _ => rfl) hq hc hs fun fs hr => X.st.returnOut X.hx X.hret (X.hb hd.1) hr
theorem w_getF (X : Sd Z n0 kk code ml own nm ret h p l e R s m args below meth c T locs cells slots) {R0 O n d host : String} {index : Nat} {a : Addr} {v : Value} (hd : Dc code pc (.getfield index) 3 pc') (w : (Cond.fieldLink own index R0 n d).before a0 Z = true ∨ (Cond.fieldLinkNest own index R0 n d host).before a0 Z = true) (via : Via Z R0 O n d) (F : Fld Z h a O n d v) (K : ∀ T', Sd Z n0 kk code ml own nm ret h p l e R s m args below meth c T' locs cells slots → Wp p e below P (T'.setTop (mkF m pc' L (v :: S)))) : Wp p e below P (T.setTop (mkF m pc L (.ref a :: S))) := by
  obtain ⟨hd, rfl⟩ := hd
  obtain ⟨T', X', e', st⟩ := getF X.st X.hx X.hZ X.hown w via X.eh F (g := mkF m pc L (.ref a :: S)) rfl rfl (X.hb hd)
  exact Wp.of st (K T' (X.mk' X' e' X.fr X.old (Nat.le_refl _)))
theorem w_getS (X : Sd Z n0 kk code ml own nm ret h p l e R s m args below meth c T locs cells slots) {R0 O n d host : String} {index : Nat} {v : Value} (hd : Dc code pc (.getstatic index) 3 pc') (w : (Cond.fieldLink own index R0 n d).before a0 Z = true ∨ (Cond.fieldLinkNest own index R0 n d host).before a0 Z = true) (via : Via Z R0 O n d) (F : Sta Z h O n d v) (K : ∀ T', Sd Z n0 kk code ml own nm ret h p l e R s m args below meth c T' locs cells slots → Wp p e below P (T'.setTop (mkF m pc' L (v :: S)))) : Wp p e below P (T.setTop (mkF m pc L S)) := by
  obtain ⟨hd, rfl⟩ := hd
  obtain ⟨T', X', e', st⟩ := getS2 X.st X.hx X.hZ X.hown w via X.eh F (g := mkF m pc L S) rfl (X.hb hd)
  exact Wp.of st (K T' (X.mk' X' e' X.fr X.old (Nat.le_refl _)))
theorem w_putF (X : Sd Z n0 kk code ml own nm ret h p l e R s m args below meth c T locs cells slots) {R0 O n d host C : String} {index ni : Nat} {ty : FieldType} {a : Addr} {v old : Value} (hd : Dc code pc (.putfield index) 3 pc')  (w : (Cond.fieldLink own index R0 n d).before a0 Z = true ∨ (Cond.fieldLinkNest own index R0 n d host).before a0 Z = true) (via : Via Z R0 O n d) (F : Fld Z h a O n d old) (E : Exa Z h a C) (L0 : (Cond.lays C O n d).before a0 Z = true ∨ ((Cond.laysFinal C O n d).before a0 Z = true ∧ own = O ∧ nm = "<init>")) (wi : (Cond.instantiable C ni).before a0 Z = true) (hty : parseFieldDescriptor d = some ty) (hn : narrow ty v = v) (hf : fits ty v = true) (ga : n0 ≤ a) (K : ∀ T' h', Sd Z n0 kk code ml own nm ret h' p l e R s m args below meth c T' (locs ++ [⟨a, slotOf Z O n d⟩]) cells slots → Wr h h' a (slotOf Z O n d) v → Wp p e below P (T'.setTop (mkF m pc' L S))) : Wp p e below P (T.setTop (mkF m pc L (v :: .ref a :: S))) := by
  obtain ⟨hd, rfl⟩ := hd
  obtain ⟨T', h', X', e', W, st⟩ := putF X.st X.hx X.hZ X.hown w via X.eh F E (L0.imp id fun q => ⟨q.1, q.2.1, X.hnm.trans q.2.2⟩) wi hty hn hf (g := mkF m pc L (v :: .ref a :: S)) rfl rfl (X.hb hd)
  exact Wp.of st (K T' h' (X.mk' X' e' (Fr.snoc X' X.fr ga) (X.old.wr W ga) (Nat.le_of_eq W.size.symm)) W)
theorem w_putFN (X : Sd Z n0 kk code ml own nm ret h p l e R s m args below meth c T locs cells slots) {R0 O n d C : String} {index ni : Nat} {ty : FieldType} {a : Addr} {v old : Value} (hd : Dc code pc (.putfield index) 3 pc')  (w : (Cond.fieldLink own index R0 n d).before a0 Z = true) (via : Via Z R0 O n d) (F : Fld Z h a O n d old) (E : Exa Z h a C) (L0 : (Cond.lays C O n d).before a0 Z = true ∨ ((Cond.laysFinal C O n d).before a0 Z = true ∧ own = O ∧ nm = "<init>")) (wi : (Cond.instantiable C ni).before a0 Z = true) (hty : parseFieldDescriptor d = some ty) (v' : Value) (hn : narrow ty v = v') (hf : fits ty v' = true) (ga : n0 ≤ a) (K : ∀ T' h', Sd Z n0 kk code ml own nm ret h' p l e R s m args below meth c T' (locs ++ [⟨a, slotOf Z O n d⟩]) cells slots → Wr h h' a (slotOf Z O n d) v' → Wp p e below P (T'.setTop (mkF m pc' L S))) : Wp p e below P (T.setTop (mkF m pc L (v :: .ref a :: S))) := by
  obtain ⟨hd, rfl⟩ := hd
  obtain ⟨T', h', X', e', W, st⟩ := putFN X.st X.hx X.hZ X.hown w via X.eh F E (L0.imp id fun q => ⟨q.1, q.2.1, X.hnm.trans q.2.2⟩) wi hty hn hf (g := mkF m pc L (v :: .ref a :: S)) rfl rfl (X.hb hd)
  exact Wp.of st (K T' h' (X.mk' X' e' (Fr.snoc X' X.fr ga) (X.old.wr W ga) (Nat.le_of_eq W.size.symm)) W)
theorem w_new (X : Sd Z n0 kk code ml own nm ret h p l e R s m args below meth c T locs cells slots) {C : String} {index n : Nat} (hd : Dc code pc (.new index) 3 pc') (w1 : (Cond.classLink own index C).before a0 Z = true) (wi : (Cond.instantiable C n).before a0 Z = true) (wz : (Cond.initialized C).before a0 Z = true) (hc : cells + 1 ≤ R.cells) (hl : slots + n ≤ R.slots) (K : ∀ T' h' b, b = h.size → n0 ≤ b → Sd Z n0 kk code ml own nm ret h' p l e R s m args below meth c T' locs (cells + 1) (slots + n) → Ext h h' → Exa Z h' b C → (∀ {O nm' d : String} {ty : FieldType}, Laid Z a0 C O nm' d → parseFieldDescriptor d = some ty → Fld Z h' b O nm' d (defaultValue ty)) → Wp p e below P (T'.setTop (mkF m pc' L (.ref b :: S)))) : Wp p e below P (T.setTop (mkF m pc L S)) := by
  obtain ⟨hd, rfl⟩ := hd
  obtain ⟨T', h', X', e', E, A, D, -, st⟩ := newO X.st X.hx X.hZ X.hown w1 wi wz X.eh (g := mkF m pc L S) rfl (X.hb hd) hc hl
  exact Wp.of st (K T' h' _ rfl (X.old.1 ▸ X.old.2.1) (X.mk' X' e' X.fr (X.old.ext E) E.1) E A D)
theorem w_initO (X : Sd Z n0 kk code ml own nm ret h p l e R s m args below meth c T locs cells slots) {index : Nat} {a : Addr} (hd : Dc code pc (.invokespecial index) 3 pc') (w1 : (Cond.methodLink own index Lib.objectInit).before a0 Z = true) (w2 : (Cond.instanceMethod Lib.objectInit).before a0 Z = true) (w3 : (Cond.code Lib.objectInit ⟨#[0xb1]⟩ 1 none).before a0 Z = true) (hsz : L.size = ml) (hf : 1 ≤ R.frames) (hl : (S.map fun v => v.category).sum + 12 ≤ R.locals) (K : ∀ T', Sd Z n0 kk code ml own nm ret h p l e R s m args below meth c T' locs cells slots → Wp p e below P (T'.setTop (mkF m pc' L S))) : Wp p e below P (T.setTop (mkF m pc L (.ref a :: S))) := by
  obtain ⟨hd, rfl⟩ := hd
  obtain ⟨T', X', e', st⟩ := initO X.st X.hx X.hZ X.hown w1 w2 w3 X.eh (g := mkF m pc L (.ref a :: S)) rfl (by rw [X.hml]; exact hsz) rfl (X.hb hd) hf (W := (S.map fun v => v.category).sum) (by show 2 * 0 + _ ≤ _; omega) hl
  exact Wp.of st (K T' (X.mk' X' e' X.fr X.old (Nat.le_refl _)))
theorem w_callS (X : Sd Z n0 kk code ml own nm ret h p l e R s m args below meth c T locs cells slots) {y : MethodName} {bytes : ByteArray} {maxL : Nat} {ret' : Option FieldType} {rm : Room} {index : Nat} {Q' : Option Value → Heap → Prop} {ps : List FieldType} {rr : Option FieldType} {stk : List Value} (hd : Dc code pc (.invokestatic index) 3 pc') (w1 : (Cond.methodLink own index y).before a0 Z = true) (w2 : (Cond.static y).before a0 Z = true) (w3 : (Cond.initialized y.cls).before a0 Z = true) (w4 : (Cond.code y bytes maxL ret').before a0 Z = true) (hy : y.cls ≠ "java/lang/invoke/MethodHandle" ∧ y.cls ≠ "java/lang/invoke/VarHandle") {argsL : List Value} (D : Does l Z n0 y bytes maxL ret' [] rm argsL.toArray h Q') (hpd : parseMethodDescriptor y.desc = some ⟨ps, rr⟩) (hlen : argsL.length = ps.length) (hst : stk = argsL.reverse ++ S) (hsz : L.size = ml) (hf : rm.frames + 1 ≤ R.frames) (hl : (S.map fun v => v.category).sum + (maxL + 11) + rm.locals ≤ R.locals) (hc : cells + rm.cells ≤ R.cells) (hs : slots + rm.slots ≤ R.slots) (K : ∀ T' h' v L', Sd Z n0 kk code ml own nm ret h' p l e R s m args below meth c T' (locs ++ L') (cells + rm.cells) (slots + rm.slots) → Q' v h' → Wp p e below P (T'.setTop (mkF m pc' L (v.toList ++ S)))) : Wp p e below P (T.setTop (mkF m pc L stk)) := by
  obtain ⟨hd, rfl⟩ := hd
  obtain ⟨v, vm1, ⟨T', L1, k1, n1⟩, -, X', ⟨Lc, hQ, l1, y1, z1⟩, st⟩ := Jvm.LawKit.callS X.st X.hx X.hown (mvT X.hZ w1) (mvT X.hZ w2) (mvT X.hZ w3) (mvT X.hZ w4) hy (backOf (Q := fun v h' L => Fr n0 L ∧ Old Z n0 h' ∧ h.size ≤ h'.size ∧ Q' v h') (W := (S.map fun v => v.category).sum) (D X.old) X.hZ w4 w3 hf hl) (g := mkF m pc L stk) rfl (by rw [X.hml]; exact hsz) (argsL := argsL) (rest := S) (lenOf hpd hlen) hst (by show 2 * 0 + _ ≤ _; omega) (X.hb hd) (fun _ _ => ⟨rfl, X.eh, hc, hs⟩)
  dsimp only [Pt.U, Pt.locs, Pt.cells, Pt.slots] at X' l1 y1 z1 st hQ
  subst l1 y1 z1
  exact Wp.of st (K T' _ v Lc (X.mk' X' rfl (X.fr.app hQ.1) hQ.2.1 hQ.2.2.1) hQ.2.2.2)
theorem w_callI (X : Sd Z n0 kk code ml own nm ret h p l e R s m args below meth c T locs cells slots) {y : MethodName} {bytes : ByteArray} {maxL : Nat} {rm : Room} {index : Nat} {Q' : Option Value → Heap → Prop} {ps : List FieldType} {rr : Option FieldType} {stk : List Value} (hd : Dc code pc (.invokespecial index) 3 pc') (hi : y.name = "<init>") (w1 : (Cond.methodLink own index y).before a0 Z = true) (w2 : (Cond.instanceMethod y).before a0 Z = true) (w3 : (Cond.initialized y.cls).before a0 Z = true) (w4 : (Cond.code y bytes maxL none).before a0 Z = true) (hy : y.cls ≠ "java/lang/invoke/MethodHandle" ∧ y.cls ≠ "java/lang/invoke/VarHandle") {a : Addr} {argsL : List Value} (D : Does l Z n0 y bytes maxL none [] rm (.ref a :: argsL).toArray h Q') (hpd : parseMethodDescriptor y.desc = some ⟨ps, rr⟩) (hlen : argsL.length = ps.length) (hst : stk = argsL.reverse ++ .ref a :: S) (hsz : L.size = ml) (hf : rm.frames + 1 ≤ R.frames) (hl : (S.map fun v => v.category).sum + (maxL + 11) + rm.locals ≤ R.locals) (hc : cells + rm.cells ≤ R.cells) (hs : slots + rm.slots ≤ R.slots) (K : ∀ T' h' v L', Sd Z n0 kk code ml own nm ret h' p l e R s m args below meth c T' (locs ++ L') (cells + rm.cells) (slots + rm.slots) → Q' v h' → Wp p e below P (T'.setTop (mkF m pc' L (v.toList ++ S)))) : Wp p e below P (T.setTop (mkF m pc L stk)) := by
  obtain ⟨hd, rfl⟩ := hd
  obtain ⟨v, vm1, ⟨T', L1, k1, n1⟩, -, X', ⟨Lc, hQ, l1, y1, z1⟩, st⟩ := X.st.specialBack X.hx hi X.hown (mvT X.hZ w1) (mvT X.hZ w2) (mvT X.hZ w4) hy (backOf (Q := fun v h' L => Fr n0 L ∧ Old Z n0 h' ∧ h.size ≤ h'.size ∧ Q' v h') (W := (S.map fun v => v.category).sum) (D X.old) X.hZ w4 w3 hf hl) (g := mkF m pc L stk) rfl (by rw [X.hml]; exact hsz) (Steps.refl _) (a := a) (argsL := argsL) (rest := S) (lenOf hpd hlen) hst (by show 2 * 0 + _ ≤ _; omega) (X.hb hd) (fun _ _ => ⟨rfl, X.eh, hc, hs⟩)
  dsimp only [Pt.U, Pt.locs, Pt.cells, Pt.slots] at X' l1 y1 z1 st hQ
  subst l1 y1 z1
  exact Wp.tr st (K T' _ v Lc (X.mk' X' rfl (X.fr.app hQ.1) hQ.2.1 hQ.2.2.1) hQ.2.2.2)
theorem w_callV (X : Sd Z n0 kk code ml own nm ret h p l e R s m args below meth c T locs cells slots) {y : MethodName} {bytes : ByteArray} {maxL : Nat} {ret' : Option FieldType} {rm : Room} {index : Nat} {Q' : Option Value → Heap → Prop} {ps : List FieldType} {rr : Option FieldType} {stk : List Value} {z : MethodName} {C : String} (hd : Dc code pc (.invokevirtual index) 3 pc') (w1 : (Cond.methodLink own index y).before a0 Z = true) (wd : (Cond.declares y).before a0 Z = true) (hnf : NotFace s y) (ws : (Cond.selects C y z).before a0 Z = true) (w2 : (Cond.instanceMethod z).before a0 Z = true) (w3 : (Cond.initialized z.cls).before a0 Z = true) (w4 : (Cond.code z bytes maxL ret').before a0 Z = true) (hy : y.cls ≠ "java/lang/invoke/MethodHandle" ∧ y.cls ≠ "java/lang/invoke/VarHandle") {a : Addr} (E : Exa Z h a C) {argsL : List Value} (D : Does l Z n0 z bytes maxL ret' [] rm (.ref a :: argsL).toArray h Q') (hpd : parseMethodDescriptor y.desc = some ⟨ps, rr⟩) (hlen : argsL.length = ps.length) (hst : stk = argsL.reverse ++ .ref a :: S) (hsz : L.size = ml) (hf : rm.frames + 1 ≤ R.frames) (hl : (S.map fun v => v.category).sum + (maxL + 11) + rm.locals ≤ R.locals) (hc : cells + rm.cells ≤ R.cells) (hs : slots + rm.slots ≤ R.slots) (K : ∀ T' h' v L', Sd Z n0 kk code ml own nm ret h' p l e R s m args below meth c T' (locs ++ L') (cells + rm.cells) (slots + rm.slots) → Q' v h' → Wp p e below P (T'.setTop (mkF m pc' L (v.toList ++ S)))) : Wp p e below P (T.setTop (mkF m pc L stk)) := by
  obtain ⟨hd, rfl⟩ := hd
  obtain ⟨cq, kq, qa, qb, qc⟩ := isOf X.hZ X.eh E
  obtain ⟨v, vm1, ⟨T', L1, k1, n1⟩, -, X', ⟨Lc, hQ, l1, y1, z1⟩, st⟩ := X.st.virtualBack X.hx X.hown (mvT X.hZ w1) (mvT X.hZ wd) hnf (mvT X.hZ ws) (mvT X.hZ w2) hy (backOf (Q := fun v h' L => Fr n0 L ∧ Old Z n0 h' ∧ h.size ≤ h'.size ∧ Q' v h') (W := (S.map fun v => v.category).sum) (D X.old) X.hZ w4 w3 hf hl) qa qc (g := mkF m pc L stk) rfl (by rw [X.hml]; exact hsz) (Steps.refl _) (argsL := argsL) (rest := S) (lenOf hpd hlen) hst (by show 2 * 0 + _ ≤ _; omega) (X.hb hd) (fun _ _ => ⟨rfl, X.eh, hc, hs⟩)
  dsimp only [Pt.U, Pt.locs, Pt.cells, Pt.slots] at X' l1 y1 z1 st hQ
  subst l1 y1 z1
  exact Wp.tr st (K T' _ v Lc (X.mk' X' rfl (X.fr.app hQ.1) hQ.2.1 hQ.2.2.1) hQ.2.2.2)
end Steps2
end Jvm.RoadKit
namespace Jvm.RoadKit
open Sem ClassFile Op Lib Jvm.Stand Jvm.Free Jvm.LawKit
/-- at a lies an array of component type ty that holds just these values -/
def Ary (Z : State) (h : Heap) (a : Addr) (ty : FieldType) (vs : List Value) : Prop := ∃ c : Cell, Arr Z h a c ty ∧ c.slots = vs.toArray ∧ vs.length < 2 ^ 31 ∧ ∀ v ∈ vs, fits ty v = true
section Ary
variable {Z : State} {h h' : Heap} {a b : Addr} {ty : FieldType} {vs : List Value} {sl : Nat} {v : Value} {ws : List Addr}
theorem Ary.lt (A : Ary Z h a ty vs) : a < h.size := by obtain ⟨c, A, -⟩ := A; exact A.lt
theorem Ary.ext (A : Ary Z h a ty vs) (E : Ext h h') : Ary Z h' a ty vs := by obtain ⟨c, A, r⟩ := A; exact ⟨c, A.ext E, r⟩
theorem Ary.other (A : Ary Z h b ty vs) (W : Wr h h' a sl v) (q : b ≠ a) : Ary Z h' b ty vs := by obtain ⟨c, A, r⟩ := A; exact ⟨c, A.other W q, r⟩
theorem Ary.keep (A : Ary Z h a ty vs) (K : Keep h h' ws) (q : a ∉ ws) : Ary Z h' a ty vs := by obtain ⟨c, A, r⟩ := A; exact ⟨c, ⟨K.2.1 a c A.1 q, A.2⟩, r⟩
theorem Ary.set (A : Ary Z h a ty vs) {j : Nat} (hf : fits ty v = true) (W : Wr h h' a j v) : Ary Z h' a ty (vs.set j v) := by
  obtain ⟨c, A, e, l, f⟩ := A
  refine ⟨c.setSlot j v, A.same W, ?_, by rw [List.length_set]; exact l, fun u hu => ?_⟩
  · show c.slots.setIfInBounds j v = _
    rw [e]; simp
  · rcases List.mem_or_eq_of_mem_set hu with q | rfl
    · exact f _ q
    · exact hf
theorem Ary.size {c : Cell} (e : c.slots = vs.toArray) : c.slots.size = vs.length := by rw [e]; simp
theorem own_inb {c : Cell} {j : Int32} (e : c.slots = vs.toArray) (hj : ¬ j < 0) (hv : vs[j.toNatClampNeg]? = some v) : ¬ (j < 0 ∨ c.slots.size ≤ j.toNatClampNeg) := by
  rw [Ary.size e]
  have := (List.getElem?_eq_some_iff.mp hv).1
  rintro (q | q)
  · exact hj q
  · omega
theorem own_at {c : Cell} {j : Nat} (e : c.slots = vs.toArray) (hv : vs[j]? = some v) : c.slots[j]? = some v := by rw [e]; simpa using hv
theorem Ary.new {cA : ClassId} {n : Int32} {k : Nat} (A : Arr Z h a (newA cA ty n) ty) (hk : n.toNatClampNeg = k) (hd : fits ty (defaultValue ty) = true) : Ary Z h a ty (List.replicate k (defaultValue ty)) := by
  refine ⟨_, A, ?_, ?_, fun v hv => by rw [(List.mem_replicate.mp hv).2]; exact hd⟩
  · show Array.replicate n.toNatClampNeg (defaultValue ty) = _
    rw [hk]; simp
  · rw [List.length_replicate, ← hk]; have := Int32.toInt_lt n; simp only [Int32.toNatClampNeg]; omega
end Ary
section StepsA
variable {Z : State} {n0 kk : Nat} {code : ByteArray} {ml : Nat} {own nm : String} {ret : Option FieldType} {h : Heap} {p : Program} {l : Launch} {e : Env} {R : Room} {s : State} {m : MethodId} {args : Array Value} {below : List Frame} {meth : Method} {c : Code} {T : State} {locs : List Loc} {cells slots : Nat} {P : State → Outcome → Prop} {a0 : Array Value} {pc pc' : Nat} {L : Array Slot} {S : List Value}
theorem w_newarr (X : Sd Z n0 kk code ml own nm ret h p l e R s m args below meth c T locs cells slots) {aty : ArrayType} {n : Int32} (hd : Dc code pc (.newarray aty) 2 pc') (w : (Cond.arrayClass (newarray.typeOf aty)).before a0 Z = true) (k cap : Nat) (hn : ¬ n < 0) (hk : n.toNatClampNeg = k) (hcap : k ≤ cap) (hbig : cap * 8 ≤ 536870912) (hc : cells + 1 ≤ R.cells) (hl : slots + cap ≤ R.slots) (K : ∀ T' h' b, b = h.size → n0 ≤ b → Sd Z n0 kk code ml own nm ret h' p l e R s m args below meth c T' locs (cells + 1) (slots + cap) → Ext h h' → Ary Z h' b (newarray.typeOf aty) (List.replicate k (defaultValue (newarray.typeOf aty))) → Wp p e below P (T'.setTop (mkF m pc' L (.ref b :: S)))) : Wp p e below P (T.setTop (mkF m pc L (.int n :: S))) := by
  obtain ⟨hd, rfl⟩ := hd
  obtain ⟨T', h', cA, X', e', E, A, st⟩ := newP X.st X.hx X.hZ w X.eh (g := mkF m pc L (.int n :: S)) rfl (X.hb hd) rfl hn (cap := cap) (hk ▸ hcap) hbig hc hl
  exact Wp.of st (K T' h' _ rfl (X.old.1 ▸ X.old.2.1) (X.mk' X' e' X.fr (X.old.ext E) E.1) E (Ary.new A hk (by cases aty <;> rfl)))
theorem w_caload (X : Sd Z n0 kk code ml own nm ret h p l e R s m args below meth c T locs cells slots) {a : Addr} {j : Int32} {vs : List Value} {v : Value} (hd : Dc code pc .caload 1 pc') (A : Ary Z h a .char vs) (hj : ¬ j < 0) (hv : vs[j.toNatClampNeg]? = some v) (K : Wp p e below P (T.setTop (mkF m pc' L (v :: S)))) : Wp p e below P (T.setTop (mkF m pc L (.int j :: .ref a :: S))) := by
  obtain ⟨hd, rfl⟩ := hd
  obtain ⟨c', A, e, -⟩ := A
  exact Wp.of (fun _ k => X.st.caload X.hx (by rw [X.eh]; exact A.1) (State.isArrayOf_alike X.hZ.alike A.2.1) A.2.2 (own_inb e hj hv) (own_at e hv) (g := mkF m pc L (.int j :: .ref a :: S)) rfl rfl (X.hb hd) _ k) K
theorem w_baload (X : Sd Z n0 kk code ml own nm ret h p l e R s m args below meth c T locs cells slots) {a : Addr} {j : Int32} {vs : List Value} {v : Value} (hd : Dc code pc .baload 1 pc') (A : Ary Z h a .byte vs) (hj : ¬ j < 0) (hv : vs[j.toNatClampNeg]? = some v) (K : Wp p e below P (T.setTop (mkF m pc' L (v :: S)))) : Wp p e below P (T.setTop (mkF m pc L (.int j :: .ref a :: S))) := by
  obtain ⟨hd, rfl⟩ := hd
  obtain ⟨c', A, e, -⟩ := A
  exact Wp.of (fun _ k => X.st.baloadBytes X.hx (by rw [X.eh]; exact A.1) (State.isArrayOf_alike X.hZ.alike A.2.1) A.2.2 (own_inb e hj hv) (own_at e hv) (g := mkF m pc L (.int j :: .ref a :: S)) rfl rfl (X.hb hd) _ k) K
theorem w_arrlen (X : Sd Z n0 kk code ml own nm ret h p l e R s m args below meth c T locs cells slots) {a : Addr} {vs : List Value} {ty : FieldType} (n : Int32) (hd : Dc code pc .arraylength 1 pc') (A : Ary Z h a ty vs) (hn : vs.length.toInt32 = n) (K : Wp p e below P (T.setTop (mkF m pc' L (.int n :: S)))) : Wp p e below P (T.setTop (mkF m pc L (.ref a :: S))) := by
  obtain ⟨hd, rfl⟩ := hd
  obtain ⟨c', A, e, -⟩ := A
  exact Wp.of (fun _ k => X.st.arraylength X.hx (by rw [X.eh]; exact A.1) (State.isArrayOf_alike X.hZ.alike A.2.1) (g := mkF m pc L (.ref a :: S)) rfl rfl (X.hb hd) _ (by rw [Ary.size e, hn]; exact k)) K
theorem w_castore (X : Sd Z n0 kk code ml own nm ret h p l e R s m args below meth c T locs cells slots) {a : Addr} {j : Int32} {x : Int32} {vs : List Value} {u : Value} (hd : Dc code pc .castore 1 pc') (A : Ary Z h a .char vs) (hj : ¬ j < 0) (hv : vs[j.toNatClampNeg]? = some u) (ga : n0 ≤ a) (v' : Value) (e' : (.int (nar .char x) : Value) = v') (vs' : List Value) (hs : vs.set j.toNatClampNeg v' = vs') (K : ∀ T' h', Sd Z n0 kk code ml own nm ret h' p l e R s m args below meth c T' (locs ++ [⟨a, j.toNatClampNeg⟩]) cells slots → Wr h h' a j.toNatClampNeg v' → Ary Z h' a .char vs' → Wp p e below P (T'.setTop (mkF m pc' L S))) : Wp p e below P (T.setTop (mkF m pc L (.int x :: .int j :: .ref a :: S))) := by
  subst e' hs
  obtain ⟨hd, rfl⟩ := hd
  have A0 := A
  obtain ⟨c', A, e, -⟩ := A
  obtain ⟨T', h', X', e', W, st⟩ := stC X.st X.hx X.hZ X.eh A (own_inb e hj hv) (g := mkF m pc L (.int x :: .int j :: .ref a :: S)) rfl rfl (X.hb hd)
  exact Wp.of st (K T' h' (X.mk' X' e' (Fr.snoc X' X.fr ga) (X.old.wr W ga) (Nat.le_of_eq W.size.symm)) W (A0.set (fits_nar_char _) W))
theorem w_bastore (X : Sd Z n0 kk code ml own nm ret h p l e R s m args below meth c T locs cells slots) {a : Addr} {j : Int32} {x : Int32} {vs : List Value} {u : Value} (hd : Dc code pc .bastore 1 pc') (A : Ary Z h a .byte vs) (hj : ¬ j < 0) (hv : vs[j.toNatClampNeg]? = some u) (ga : n0 ≤ a) (v' : Value) (e' : (.int (nar .byte x) : Value) = v') (vs' : List Value) (hs : vs.set j.toNatClampNeg v' = vs') (K : ∀ T' h', Sd Z n0 kk code ml own nm ret h' p l e R s m args below meth c T' (locs ++ [⟨a, j.toNatClampNeg⟩]) cells slots → Wr h h' a j.toNatClampNeg v' → Ary Z h' a .byte vs' → Wp p e below P (T'.setTop (mkF m pc' L S))) : Wp p e below P (T.setTop (mkF m pc L (.int x :: .int j :: .ref a :: S))) := by
  subst e' hs
  obtain ⟨hd, rfl⟩ := hd
  have A0 := A
  obtain ⟨c', A, e, -⟩ := A
  obtain ⟨T', h', X', e', W, st⟩ := stB X.st X.hx X.hZ X.eh A (own_inb e hj hv) (g := mkF m pc L (.int x :: .int j :: .ref a :: S)) rfl rfl (X.hb hd)
  exact Wp.of st (K T' h' (X.mk' X' e' (Fr.snoc X' X.fr ga) (X.old.wr W ga) (Nat.le_of_eq W.size.symm)) W (A0.set (fits_nar_byte _) W))
theorem w_cast (X : Sd Z n0 kk code ml own nm ret h p l e R s m args below meth c T locs cells slots) {K0 : String} {index : Nat} {a : Addr} (hd : Dc code pc (.checkcast index) 3 pc') (w : (Cond.classLink own index K0).before a0 Z = true) (F : Ins Z h a K0 true) (K : ∀ T', Sd Z n0 kk code ml own nm ret h p l e R s m args below meth c T' locs cells slots → Wp p e below P (T'.setTop (mkF m pc' L (.ref a :: S)))) : Wp p e below P (T.setTop (mkF m pc L (.ref a :: S))) := by
  obtain ⟨hd, rfl⟩ := hd
  obtain ⟨T', X', e', st⟩ := castY X.st X.hx X.hZ X.hown w X.eh F (g := mkF m pc L (.ref a :: S)) rfl rfl (X.hb hd)
  exact Wp.of st (K T' (X.mk' X' e' X.fr X.old (Nat.le_refl _)))
theorem w_inst (X : Sd Z n0 kk code ml own nm ret h p l e R s m args below meth c T locs cells slots) {K0 : String} {index : Nat} {a : Addr} (hd : Dc code pc (.instanceof index) 3 pc') (w : (Cond.classLink own index K0).before a0 Z = true) (F : Ins Z h a K0 true) (K : ∀ T', Sd Z n0 kk code ml own nm ret h p l e R s m args below meth c T' locs cells slots → Wp p e below P (T'.setTop (mkF m pc' L (.int (1 : Int32) :: S)))) : Wp p e below P (T.setTop (mkF m pc L (.ref a :: S))) := by
  obtain ⟨hd, rfl⟩ := hd
  obtain ⟨T', X', e', st⟩ := instY X.st X.hx X.hZ X.hown w X.eh F (g := mkF m pc L (.ref a :: S)) rfl rfl (X.hb hd)
  exact Wp.of st (K T' (X.mk' X' e' X.fr X.old (Nat.le_refl _)))
end StepsA
end Jvm.RoadKit
namespace Jvm.RoadKit
open Sem ClassFile Op Lib Jvm.Stand Jvm.Free Jvm.LawKit
def PoW (Z : State) (n0 : Nat) (s : State) (Q : Option Value → Heap → Prop) (ce sl : Nat) : State → Outcome → Prop := fun U o => ∃ v L, o = .returned v ∧ (Fr n0 L ∧ Old Z n0 U.heap ∧ s.heap.size ≤ U.heap.size ∧ Q v U.heap) ∧ ReturnedEndW s o U L ce sl
def DoesW (l : Launch) (Z : State) (n0 : Nat) (y : MethodName) (code : ByteArray) (ml : Nat) (ret : Option FieldType) (ws : List Cond) (rm : Room) (as' : Array Value) (h0 : Heap) (Q : Option Value → Heap → Prop) : Prop :=
  Old Z n0 h0 → MetFree l y (head1 (Cond.code y code ml ret :: ws) rm) (fun a U => a = as' ∧ Z.Warmed39 U.vm ∧ U.heap = h0) (fun _ _ _ _ _ => True) (fun _ U o U' => ∃ v L, o = .returned v ∧ (Fr n0 L ∧ Old Z n0 U'.heap ∧ h0.size ≤ U'.heap.size ∧ Q v U'.heap) ∧ ReturnedEndW U o U' L rm.cells rm.slots)
theorem DoesW.start {l : Launch} {Z : State} {n0 : Nat} {y : MethodName} {code : ByteArray} {ml : Nat} {ret : Option FieldType} {ws : List Cond} {rm : Room} {as' : Array Value} {h0 : Heap} {Q : Option Value → Heap → Prop} (hp : plainFor y = true)
    (body : ∀ p e s m below meth c s₁, Sd Z n0 0 code ml y.cls y.name ret h0 p l e rm (s.setVm s.vm) m as' below meth c s₁ [] 0 0 → s.Since s.vm 0 → s.heap = h0 → Wp p e below (PoW Z n0 s Q rm.cells rm.slots) (s₁.setTop (entryFrame m as' ml))) : DoesW l Z n0 y code ml ret ws rm as' h0 Q := by
  intro hold
  refine MetFree.of_bodySF hp hisR ?_
  intro p e s m args below meth c s₁ Bd hml0 hP hK
  obtain ⟨rfl, hZ, hh⟩ := hP
  have hh' := hh
  subst hh
  exact body p e s m below meth c s₁ ⟨Stand.of_body Bd, ⟨Bd.exec, Bd.bytes, hml0, findClass_of_methodNamed Bd.named, hZ, Bd.returns, (name_of_methodNamed Bd.named Bd.method).1, Bd.notSynchronized⟩, by rw [Bd.state]; rfl, Fr.nil n0, hold, Nat.zero_le _⟩ ((State.WarmedH.refl s).since 0) rfl
theorem DoesW.mono {l : Launch} {Z : State} {n0 : Nat} {y : MethodName} {code : ByteArray} {ml : Nat} {ret : Option FieldType} {ws : List Cond} {rm : Room} {as' : Array Value} {h0 : Heap} {Q Q' : Option Value → Heap → Prop} (D : DoesW l Z n0 y code ml ret ws rm as' h0 Q) (f : ∀ v h, Q v h → Q' v h) : DoesW l Z n0 y code ml ret ws rm as' h0 Q' := by
  intro hold p e ha hc hk s m args below hf happ hP hK
  obtain ⟨n, o, h1, h2, h3, v, L, e1, ⟨q1, q2, q2', q3⟩, q4⟩ := D hold p e ha hc hk s m args below hf happ hP hK
  exact ⟨n, o, h1, h2, h3, v, L, e1, ⟨q1, q2, q2', f _ _ q3⟩, q4⟩
/-- the law's own contract: at the start Z itself -/
def DoesL (l : Launch) (Z : State) (n0 : Nat) (y : MethodName) (code : ByteArray) (ml : Nat) (ret : Option FieldType) (ws : List Cond) (rm : Room) (as' : Array Value) (Q : Option Value → Heap → Prop) : Prop :=
  MetFree l y (head1 (Cond.code y code ml ret :: ws) rm) (fun a U => a = as' ∧ U = Z) (fun _ _ _ _ _ => True) (fun _ U o U' => ∃ v L, o = .returned v ∧ (Fr n0 L ∧ Old Z n0 U'.heap ∧ U.heap.size ≤ U'.heap.size ∧ Q v U'.heap) ∧ ReturnedEndW U o U' L rm.cells rm.slots)
theorem DoesL.start {l : Launch} {Z : State} {n0 : Nat} {y : MethodName} {code : ByteArray} {ml : Nat} {ret : Option FieldType} {ws : List Cond} {rm : Room} {as' : Array Value} {Q : Option Value → Heap → Prop} (hn0 : Z.heap.size = n0) (hp : plainFor y = true)
    (body : ∀ p e s m below meth c s₁, Sd Z n0 0 code ml y.cls y.name ret Z.heap p l e rm (s.setVm s.vm) m as' below meth c s₁ [] 0 0 → s.Since s.vm 0 → s = Z → Wp p e below (PoW Z n0 s Q rm.cells rm.slots) (s₁.setTop (entryFrame m as' ml))) : DoesL l Z n0 y code ml ret ws rm as' Q := by
  refine MetFree.of_bodySF hp hisR ?_
  intro p e s m args below meth c s₁ Bd hml0 hP hK
  obtain ⟨rfl, hh⟩ := hP
  have hh' := hh
  subst hh
  exact body p e s m below meth c s₁ ⟨Stand.of_body Bd, ⟨Bd.exec, Bd.bytes, hml0, findClass_of_methodNamed Bd.named, State.Warmed39.refl s, Bd.returns, (name_of_methodNamed Bd.named Bd.method).1, Bd.notSynchronized⟩, by rw [Bd.state]; rfl, Fr.nil n0, hn0 ▸ Old.start s, Nat.zero_le _⟩ ((State.WarmedH.refl s).since 0) rfl
section StepsW
variable {Z : State} {n0 kk : Nat} {code : ByteArray} {ml : Nat} {own nm : String} {ret : Option FieldType} {h : Heap} {p : Program} {l : Launch} {e : Env} {R : Room} {s : State} {m : MethodId} {args : Array Value} {below : List Frame} {meth : Method} {c : Code} {T : State} {locs : List Loc} {cells slots : Nat} {P : State → Outcome → Prop} {a0 : Array Value} {u : Vm} {pc pc' : Nat} {L : Array Slot} {S : List Value} {Q : Option Value → Heap → Prop} {ce sl : Nat}
theorem Sd.doneW (X : Sd Z n0 kk code ml own nm ret h p l e R (s.setVm u) m args below meth c T locs cells slots) (Y : s.Since u kk) {v : Option Value} (hv : ret = none → v = none) (hq : Q v h) (hc : cells ≤ ce) (hs : slots ≤ sl) {g : JFrame} (step : ∀ fs, (∀ (f : JFrame) (acts : List Action), f.method = m → f.locked = none → f.entered = [] → (doReturn e (T.setTop f) acts v).1 = T.setFrames fs) → Steps p.tables e below (T.setTop g) (T.setFrames fs)) : Wp p e below (PoW Z n0 s Q ce sl) (T.setTop g) := by
  obtain ⟨fs, hr, hrun, hended, hE⟩ := X.st.leaveW Y (by rw [X.eh]; exact X.hkk) (v := v) (fun q => hv (X.hret ▸ q)) X.hlk
  have e1 : (T.setFrames fs).heap = h := X.eh
  refine ⟨_, _, step fs hr, hrun, hended, v, locs, rfl, ⟨X.fr, ?_, X.st.same.2.1, ?_⟩, hE.1, hE.2.1, hE.2.2.1, hE.2.2.2.mono hc hs⟩
  · rw [e1]; exact X.old
  · rw [e1]; exact hq
theorem v_ret_boolean (X : Sd Z n0 kk code ml own nm (some .boolean) h p l e R (s.setVm u) m args below meth c T locs cells slots) (Y : s.Since u kk) {z : Int32} (z' : Int32) (hz : nar .boolean z = z') (hd : Dc code pc .ireturn 1 pc') (hq : Q (some (.int z')) h) (hc : cells ≤ ce) (hs : slots ≤ sl) : Wp p e below (PoW Z n0 s Q ce sl) (T.setTop (mkF m pc L (.int z :: S))) := by
  subst hz
  exact X.doneW Y nofun hq hc hs fun fs hr => retN X.st X.hx X.hret (by simp) (X.hb hd.1) hr
theorem v_retV (X : Sd Z n0 kk code ml own nm (none) h p l e R (s.setVm u) m args below meth c T locs cells slots) (Y : s.Since u kk) (hd : Dc code pc .return_ 1 pc') (hq : Q none h) (hc : cells ≤ ce) (hs : slots ≤ sl) : Wp p e below (PoW Z n0 s Q ce sl) (T.setTop (mkF m pc L [])) :=
  X.doneW Y (fun _ => rfl) hq hc hs fun fs hr => X.st.returnOut X.hx X.hret (X.hb hd.1) hr
theorem v_ldcS (X : Sd Z n0 kk code ml own nm ret h p l e R (s.setVm u) m args below meth c T locs cells slots) (Y : s.Since u kk) {index : Nat} {text : String} (hd : Dc code pc (.ldc index) 2 pc') (w1 : (Cond.stringLink own index text).before a0 Z = true) (wS : ∀ a ∈ Bundle.stringAtoms, a.before a0 Z = true) (n : Nat) (hn : 4 * text.toList.length ≤ n) (hbig : n ≤ 536870912) (hc : cells + 2 ≤ R.cells) (hl : slots + (n + 4) ≤ R.slots) (K : ∀ T' h' u' kk' a, Sd Z n0 kk' code ml own nm ret h' p l e R (s.setVm u') m args below meth c T' locs (cells + 2) (slots + (n + 4)) → s.Since u' kk' → Ext h h' → Wp p e below P (T'.setTop (mkF m pc' L (.ref a :: S)))) : Wp p e below P (T.setTop (mkF m pc L S)) := by
  obtain ⟨hd, rfl⟩ := hd
  obtain ⟨a, T', h', k1, X', e', E, Y', hk, hZ', ho', st⟩ := ldcS X.st X.hx X.hZ X.hown w1 wS X.eh Y X.hkk (g := mkF m pc L S) rfl (X.hb hd) hn hbig hc hl
  exact Wp.of st (K T' h' T'.vm k1 a ⟨X', ⟨X.hx, X.2.1.2.1, X.hml, ho', hZ', X.hret, X.hnm, X.hlk⟩, e', X.fr, X.old.ext E, hk⟩ Y' E)
theorem v_callI (X : Sd Z n0 kk code ml own nm ret h p l e R (s.setVm u) m args below meth c T locs cells slots) (Y : s.Since u kk) {y : MethodName} {bytes : ByteArray} {maxL : Nat} {rm : Room} {index : Nat} {Q' : Option Value → Heap → Prop} {ps : List FieldType} {rr : Option FieldType} {stk : List Value} (hd : Dc code pc (.invokespecial index) 3 pc') (hi : y.name = "<init>") (w1 : (Cond.methodLink own index y).before a0 Z = true) (w2 : (Cond.instanceMethod y).before a0 Z = true) (w3 : (Cond.initialized y.cls).before a0 Z = true) (w4 : (Cond.code y bytes maxL none).before a0 Z = true) (hy : y.cls ≠ "java/lang/invoke/MethodHandle" ∧ y.cls ≠ "java/lang/invoke/VarHandle") {a : Addr} {argsL : List Value} (D : DoesW l Z n0 y bytes maxL none [] rm (.ref a :: argsL).toArray h Q') (hpd : parseMethodDescriptor y.desc = some ⟨ps, rr⟩) (hlen : argsL.length = ps.length) (hst : stk = argsL.reverse ++ .ref a :: S) (hsz : L.size = ml) (hf : rm.frames + 1 ≤ R.frames) (hl : (S.map fun v => v.category).sum + (maxL + 11) + rm.locals ≤ R.locals) (hc : cells + rm.cells ≤ R.cells) (hs : slots + rm.slots ≤ R.slots) (K : ∀ T' h' v L' u' kk', Sd Z n0 kk' code ml own nm ret h' p l e R (s.setVm u') m args below meth c T' (locs ++ L') (cells + rm.cells) (slots + rm.slots) → s.Since u' kk' → Q' v h' → Wp p e below P (T'.setTop (mkF m pc' L (v.toList ++ S)))) : Wp p e below P (T.setTop (mkF m pc L stk)) := by
  obtain ⟨hd, rfl⟩ := hd
  obtain ⟨v, vm1, ⟨T', L1, k1, n1⟩, -, X', hS', hgr, ⟨Lc, hQ, l1, y1, z1⟩, st⟩ := X.st.specialBackS X.hx hi X.hown (mvT X.hZ w1) (mvT X.hZ w2) (mvT X.hZ w4) hy (backOfS (Q := fun v h' L => Fr n0 L ∧ Old Z n0 h' ∧ h.size ≤ h'.size ∧ Q' v h') (W := (S.map fun v => v.category).sum) (D X.old) X.hZ w4 w3 hf hl) (g := mkF m pc L stk) rfl (by rw [X.hml]; exact hsz) (Steps.refl _) (a := a) (argsL := argsL) (rest := S) (lenOf hpd hlen) hst (by show 2 * 0 + _ ≤ _; omega) (X.hb hd) (fun _ _ => ⟨rfl, X.eh, hc, hs⟩)
  dsimp only [Pt.U, Pt.locs, Pt.cells, Pt.slots] at X' hS' hgr l1 y1 z1 st hQ
  subst l1 y1 z1
  exact Wp.tr st (K T' _ v Lc T'.vm T'.heap.size ⟨X', ⟨X.hx, X.2.1.2.1, X.hml, (hS'.1.alike.findClass _ _).trans X.hown, State.Warmed39.trans X.hZ hS'.1, X.hret, X.hnm, X.hlk⟩, rfl, X.fr.app hQ.1, hQ.2.1, Nat.le_refl _⟩ (Y.trans hS' (Nat.le_trans X.hkk (X.eh ▸ hgr))) hQ.2.2.2)
end StepsW
end Jvm.RoadKit
namespace Jvm.RoadKit
open Sem ClassFile Op Lib Jvm.Stand Jvm.Free Jvm.LawKit
def PoG (Z : State) (n0 : Nat) (s : State) (Q : Option Value → Heap → Vm → Prop) (ce sl : Nat) : State → Outcome → Prop := fun U o => ∃ v L, o = .returned v ∧ (Fr n0 L ∧ Old Z n0 U.heap ∧ s.heap.size ≤ U.heap.size ∧ Q v U.heap U.vm) ∧ ReturnedEndW s o U L ce sl
def DoesG (l : Launch) (Z : State) (n0 : Nat) (G : Vm → Prop) (y : MethodName) (code : ByteArray) (ml : Nat) (ret : Option FieldType) (ws : List Cond) (rm : Room) (as' : Array Value) (h0 : Heap) (Q : Option Value → Heap → Vm → Prop) : Prop :=
  Old Z n0 h0 → MetFree l y (head1 (Cond.code y code ml ret :: ws) rm) (fun a U => a = as' ∧ Z.Warmed39 U.vm ∧ U.heap = h0 ∧ G U.vm) (fun _ _ _ _ _ => True) (fun _ U o U' => ∃ v L, o = .returned v ∧ (Fr n0 L ∧ Old Z n0 U'.heap ∧ h0.size ≤ U'.heap.size ∧ Q v U'.heap U'.vm) ∧ ReturnedEndW U o U' L rm.cells rm.slots)
theorem DoesG.start {l : Launch} {Z : State} {n0 : Nat} {G : Vm → Prop} {y : MethodName} {code : ByteArray} {ml : Nat} {ret : Option FieldType} {ws : List Cond} {rm : Room} {as' : Array Value} {h0 : Heap} {Q : Option Value → Heap → Vm → Prop} (hp : plainFor y = true)
    (body : ∀ p e s m below meth c s₁, Sd Z n0 0 code ml y.cls y.name ret h0 p l e rm (s.setVm s.vm) m as' below meth c s₁ [] 0 0 → s.Since s.vm 0 → s.heap = h0 → G s.vm → Wp p e below (PoG Z n0 s Q rm.cells rm.slots) (s₁.setTop (entryFrame m as' ml))) : DoesG l Z n0 G y code ml ret ws rm as' h0 Q := by
  intro hold
  refine MetFree.of_bodySF hp hisR ?_
  intro p e s m args below meth c s₁ Bd hml0 hP hK
  obtain ⟨rfl, hZ, hh, hG⟩ := hP
  have hh' := hh
  subst hh
  exact body p e s m below meth c s₁ ⟨Stand.of_body Bd, ⟨Bd.exec, Bd.bytes, hml0, findClass_of_methodNamed Bd.named, hZ, Bd.returns, (name_of_methodNamed Bd.named Bd.method).1, Bd.notSynchronized⟩, by rw [Bd.state]; rfl, Fr.nil n0, hold, Nat.zero_le _⟩ ((State.WarmedH.refl s).since 0) rfl hG
theorem own_backG {p : Program} {l : Launch} {e : Env} {R : Room} {s : State} {args : Array Value} {below : List Frame} {Z : State} {a0 : Array Value} {h : Heap} {G : Vm → Prop} {y : MethodName} {bytes : ByteArray} {maxL : Nat} {ret : Option FieldType} {rm : Room} {len W : Nat} {as' : Array Value} {Q : Option Value → Heap → Vm → List Loc → Prop}
    (hM : MetFree l y (head1 [Cond.code y bytes maxL ret] rm) (fun a U => a = as' ∧ Z.Warmed39 U.vm ∧ U.heap = h ∧ G U.vm) (fun _ _ _ _ _ => True) (fun _ U o U' => ∃ v L, o = .returned v ∧ Q v U'.heap U'.vm L ∧ ReturnedEndW U o U' L rm.cells rm.slots))
    (hG : ∀ vm', s.WarmedH vm' → G vm') (hZ : Z.Warmed39 s.vm) (wc : (Cond.code y bytes maxL ret).before a0 Z = true) (wz : (Cond.initialized y.cls).before a0 Z = true) (hf : rm.frames + 1 ≤ R.frames) (hl : W + (maxL + 11) + rm.locals ≤ R.locals) :
    BackS l R p e below s args y len W (fun A a => a = as' ∧ A.U.heap = h ∧ A.cells + rm.cells ≤ R.cells ∧ A.slots + rm.slots ≤ R.slots)
      (fun A _ v B => ∃ L, Q v B.U.heap B.U.vm L ∧ B.locs = A.locs ++ L ∧ B.cells = A.cells + rm.cells ∧ B.slots = A.slots + rm.slots) :=
  BackS.of_freeW (bytes := bytes) (maxL := maxL) (ret := ret) (E := fun _ _ o t L k n => k = rm.cells ∧ n = rm.slots ∧ ∃ v, o = .returned v ∧ Q v t.heap t.vm L) hM hf hl
    (fun m meth c A a Y hp => have hU : Z.Warmed39 A.U.vm := wtrans hZ Y.warmed
      ⟨by show (Cond.and _ .tt).before a A.U = true; rw [Cond.before_and, mv hU wc]; rfl, mv hU wc, mv hU wz, hp.2.2.1, hp.2.2.2⟩)
    (fun m meth c A a g mk Y hp => ⟨hp.1, wtrans hZ Y.warmed, hp.2.1, hG _ Y.warmed⟩) (fun _ _ _ _ _ _ _ _ _ => trivial)
    (fun _ _ _ _ ⟨v, L, h1, h2, h3⟩ => ⟨L, _, _, h3, rfl, rfl, v, h1, h2⟩)
    (fun m meth c A a g mk v t L k n Y hp _ _ ⟨e1, e2, v', e3, e4⟩ => by cases e3; subst e1 e2; exact ⟨L, e4, rfl, rfl, rfl⟩)
section StepsG
variable {Z : State} {n0 kk : Nat} {code : ByteArray} {ml : Nat} {own nm : String} {ret : Option FieldType} {h : Heap} {p : Program} {l : Launch} {e : Env} {R : Room} {s : State} {m : MethodId} {args : Array Value} {below : List Frame} {meth : Method} {c : Code} {T : State} {locs : List Loc} {cells slots : Nat} {P : State → Outcome → Prop} {a0 : Array Value} {u : Vm} {pc pc' : Nat} {L : Array Slot} {S : List Value} {Q : Option Value → Heap → Vm → Prop} {ce sl : Nat}
theorem Sd.doneG (X : Sd Z n0 kk code ml own nm ret h p l e R (s.setVm u) m args below meth c T locs cells slots) (Y : s.Since u kk) {v : Option Value} (hv : ret = none → v = none) (hq : ∀ vm', (s.setVm u).WarmedH vm' → Q v h vm') (hc : cells ≤ ce) (hs : slots ≤ sl) {g : JFrame} (step : ∀ fs, (∀ (f : JFrame) (acts : List Action), f.method = m → f.locked = none → f.entered = [] → (doReturn e (T.setTop f) acts v).1 = T.setFrames fs) → Steps p.tables e below (T.setTop g) (T.setFrames fs)) : Wp p e below (PoG Z n0 s Q ce sl) (T.setTop g) := by
  obtain ⟨fs, hr, hrun, hended, hE⟩ := X.st.leaveW Y (by rw [X.eh]; exact X.hkk) (v := v) (fun q => hv (X.hret ▸ q)) X.hlk
  have e1 : (T.setFrames fs).heap = h := X.eh
  refine ⟨_, _, step fs hr, hrun, hended, v, locs, rfl, ⟨X.fr, ?_, X.st.same.2.1, ?_⟩, hE.1, hE.2.1, hE.2.2.1, hE.2.2.2.mono hc hs⟩
  · rw [e1]; exact X.old
  · rw [e1]; exact hq _ X.st.warmed
theorem g_retR (X : Sd Z n0 kk code ml own nm ret h p l e R (s.setVm u) m args below meth c T locs cells slots) (Y : s.Since u kk) {t : FieldType} {z : Value} (ht : t.isReference = true) (hz : z.isRef = true) (hret : ret = some t) (hd : Dc code pc .areturn 1 pc') (hq : ∀ vm', (s.setVm u).WarmedH vm' → Q (some z) h vm') (hc : cells ≤ ce) (hs : slots ≤ sl) : Wp p e below (PoG Z n0 s Q ce sl) (T.setTop (mkF m pc L (z :: S))) := by
  subst hret
  exact X.doneG Y nofun hq hc hs fun fs hr => retOut X.st X.hx X.hret (by rcases ref_cases hz with rfl | ⟨z, rfl⟩ <;> cases t <;> first | rfl | cases ht) (Or.inr (Or.inr (Or.inr (Or.inr ⟨rfl, ht, hz⟩)))) (X.hb hd.1) hr
theorem g_retV (X : Sd Z n0 kk code ml own nm none h p l e R (s.setVm u) m args below meth c T locs cells slots) (Y : s.Since u kk) (hd : Dc code pc .return_ 1 pc') (hq : ∀ vm', (s.setVm u).WarmedH vm' → Q none h vm') (hc : cells ≤ ce) (hs : slots ≤ sl) : Wp p e below (PoG Z n0 s Q ce sl) (T.setTop (mkF m pc L [])) :=
  X.doneG Y (fun _ => rfl) hq hc hs fun fs hr => X.st.returnOut X.hx X.hret (X.hb hd.1) hr
theorem v_ldcA (X : Sd Z n0 kk code ml own nm ret h p l e R (s.setVm u) m args below meth c T locs cells slots) {index : Nat} {text : String} {a : Addr} (hd : Dc code pc (.ldc index) 2 pc') (w1 : (Cond.stringLink own index text).before a0 Z = true) (hL : Lit (s.setVm u) own index a) (K : Wp p e below P (T.setTop (mkF m pc' L (.ref a :: S)))) : Wp p e below P (T.setTop (mkF m pc L S)) := by
  obtain ⟨hd, rfl⟩ := hd
  exact Wp.of (fun _ k => ldcAgain (s := s) X.st X.hx X.hZ X.hown w1 hL (g := mkF m pc L S) rfl (X.hb hd) _ k) K
theorem g_callS (X : Sd Z n0 kk code ml own nm ret h p l e R (s.setVm u) m args below meth c T locs cells slots) (Y : s.Since u kk) {G : Vm → Prop} {y : MethodName} {bytes : ByteArray} {maxL : Nat} {ret' : Option FieldType} {rm : Room} {index : Nat} {Q' : Option Value → Heap → Vm → Prop} {ps : List FieldType} {rr : Option FieldType} {stk : List Value} (hG : ∀ vm', (s.setVm u).WarmedH vm' → G vm') (hd : Dc code pc (.invokestatic index) 3 pc') (w1 : (Cond.methodLink own index y).before a0 Z = true) (w2 : (Cond.static y).before a0 Z = true) (w3 : (Cond.initialized y.cls).before a0 Z = true) (w4 : (Cond.code y bytes maxL ret').before a0 Z = true) (hy : y.cls ≠ "java/lang/invoke/MethodHandle" ∧ y.cls ≠ "java/lang/invoke/VarHandle") {argsL : List Value} (D : DoesG l Z n0 G y bytes maxL ret' [] rm argsL.toArray h Q') (hpd : parseMethodDescriptor y.desc = some ⟨ps, rr⟩) (hlen : argsL.length = ps.length) (hst : stk = argsL.reverse ++ S) (hsz : L.size = ml) (hf : rm.frames + 1 ≤ R.frames) (hl : (S.map fun v => v.category).sum + (maxL + 11) + rm.locals ≤ R.locals) (hc : cells + rm.cells ≤ R.cells) (hs : slots + rm.slots ≤ R.slots) (K : ∀ T' h' v L' u' kk', Sd Z n0 kk' code ml own nm ret h' p l e R (s.setVm u') m args below meth c T' (locs ++ L') (cells + rm.cells) (slots + rm.slots) → s.Since u' kk' → Q' v h' u' → Wp p e below P (T'.setTop (mkF m pc' L (v.toList ++ S)))) : Wp p e below P (T.setTop (mkF m pc L stk)) := by
  obtain ⟨hd, rfl⟩ := hd
  obtain ⟨v, vm1, ⟨T', L1, k1, n1⟩, -, X', hS', hgr, ⟨Lc, hQ, l1, y1, z1⟩, st⟩ := callSS X.st X.hx X.hown (mvT X.hZ w1) (mvT X.hZ w2) (mvT X.hZ w3) (mvT X.hZ w4) hy (own_backG (Q := fun v h' vm' L => Fr n0 L ∧ Old Z n0 h' ∧ h.size ≤ h'.size ∧ Q' v h' vm') (W := (S.map fun v => v.category).sum) (D X.old) hG X.hZ w4 w3 hf hl) (g := mkF m pc L stk) rfl (by rw [X.hml]; exact hsz) (argsL := argsL) (rest := S) (lenOf hpd hlen) hst (by show 2 * 0 + _ ≤ _; omega) (X.hb hd) (fun _ _ => ⟨rfl, X.eh, hc, hs⟩)
  dsimp only [Pt.U, Pt.locs, Pt.cells, Pt.slots] at X' hS' hgr l1 y1 z1 st hQ
  subst l1 y1 z1
  exact Wp.tr st (K T' _ v Lc T'.vm T'.heap.size ⟨X', ⟨X.hx, X.2.1.2.1, X.hml, (hS'.1.alike.findClass _ _).trans X.hown, State.Warmed39.trans X.hZ hS'.1, X.hret, X.hnm, X.hlk⟩, rfl, X.fr.app hQ.1, hQ.2.1, Nat.le_refl _⟩ (Y.trans hS' (Nat.le_trans X.hkk (X.eh ▸ hgr))) hQ.2.2.2)
theorem g_callI (X : Sd Z n0 kk code ml own nm ret h p l e R (s.setVm u) m args below meth c T locs cells slots) (Y : s.Since u kk) {G : Vm → Prop} {y : MethodName} {bytes : ByteArray} {maxL : Nat} {rm : Room} {index : Nat} {Q' : Option Value → Heap → Vm → Prop} {ps : List FieldType} {rr : Option FieldType} {stk : List Value} (hG : ∀ vm', (s.setVm u).WarmedH vm' → G vm') (hd : Dc code pc (.invokespecial index) 3 pc') (hi : y.name = "<init>") (w1 : (Cond.methodLink own index y).before a0 Z = true) (w2 : (Cond.instanceMethod y).before a0 Z = true) (w3 : (Cond.initialized y.cls).before a0 Z = true) (w4 : (Cond.code y bytes maxL none).before a0 Z = true) (hy : y.cls ≠ "java/lang/invoke/MethodHandle" ∧ y.cls ≠ "java/lang/invoke/VarHandle") {a : Addr} {argsL : List Value} (D : DoesG l Z n0 G y bytes maxL none [] rm (.ref a :: argsL).toArray h Q') (hpd : parseMethodDescriptor y.desc = some ⟨ps, rr⟩) (hlen : argsL.length = ps.length) (hst : stk = argsL.reverse ++ .ref a :: S) (hsz : L.size = ml) (hf : rm.frames + 1 ≤ R.frames) (hl : (S.map fun v => v.category).sum + (maxL + 11) + rm.locals ≤ R.locals) (hc : cells + rm.cells ≤ R.cells) (hs : slots + rm.slots ≤ R.slots) (K : ∀ T' h' v L' u' kk', Sd Z n0 kk' code ml own nm ret h' p l e R (s.setVm u') m args below meth c T' (locs ++ L') (cells + rm.cells) (slots + rm.slots) → s.Since u' kk' → Q' v h' u' → Wp p e below P (T'.setTop (mkF m pc' L (v.toList ++ S)))) : Wp p e below P (T.setTop (mkF m pc L stk)) := by
  obtain ⟨hd, rfl⟩ := hd
  obtain ⟨v, vm1, ⟨T', L1, k1, n1⟩, -, X', hS', hgr, ⟨Lc, hQ, l1, y1, z1⟩, st⟩ := X.st.specialBackS X.hx hi X.hown (mvT X.hZ w1) (mvT X.hZ w2) (mvT X.hZ w4) hy (own_backG (Q := fun v h' vm' L => Fr n0 L ∧ Old Z n0 h' ∧ h.size ≤ h'.size ∧ Q' v h' vm') (W := (S.map fun v => v.category).sum) (D X.old) hG X.hZ w4 w3 hf hl) (g := mkF m pc L stk) rfl (by rw [X.hml]; exact hsz) (Steps.refl _) (a := a) (argsL := argsL) (rest := S) (lenOf hpd hlen) hst (by show 2 * 0 + _ ≤ _; omega) (X.hb hd) (fun _ _ => ⟨rfl, X.eh, hc, hs⟩)
  dsimp only [Pt.U, Pt.locs, Pt.cells, Pt.slots] at X' hS' hgr l1 y1 z1 st hQ
  subst l1 y1 z1
  exact Wp.tr st (K T' _ v Lc T'.vm T'.heap.size ⟨X', ⟨X.hx, X.2.1.2.1, X.hml, (hS'.1.alike.findClass _ _).trans X.hown, State.Warmed39.trans X.hZ hS'.1, X.hret, X.hnm, X.hlk⟩, rfl, X.fr.app hQ.1, hQ.2.1, Nat.le_refl _⟩ (Y.trans hS' (Nat.le_trans X.hkk (X.eh ▸ hgr))) hQ.2.2.2)
end StepsG
/-- the constant \"\" of java.lang.String: nobody has loaded a text since the start, or it is loaded and known -/
def Em (Z : State) (h : Heap) (u : Vm) : Prop := IB Z u [] ∨ ∃ a b, Lit (Z.setVm u) "java/lang/String" 7 a ∧ Exa Z h a "java/lang/String" ∧ Fld Z h a "java/lang/String" "coder" "B" (.int (0 : Int32)) ∧ Fld Z h a "java/lang/String" "value" "[B" (.ref b) ∧ Ary Z h b .byte []
theorem Em.warm {Z s : State} {h : Heap} {u vm' : Vm} (M : Em Z h u) (hW : (s.setVm u).WarmedH vm') : Em Z h vm' := by
  rcases M with ⟨more, e, hm⟩ | ⟨a, b, L, r⟩
  · exact Or.inl ⟨more, hW.interned_eq.trans e, hm⟩
  · exact Or.inr ⟨a, b, Lit.stays (s := s) (vm0 := u) (vm1 := vm') L hW.wide, r⟩
theorem Em.keep {Z : State} {h h' : Heap} {u : Vm} (M : Em Z h u) (K : Keep h h' []) : Em Z h' u := by
  rcases M with I | ⟨a, b, L, r1, r2, r3, r4⟩
  · exact Or.inl I
  · exact Or.inr ⟨a, b, L, r1.keep K, r2.keep K List.not_mem_nil, r3.keep K List.not_mem_nil, r4.keep K List.not_mem_nil⟩
theorem Em.ext {Z : State} {h h' : Heap} {u : Vm} (M : Em Z h u) (E : Ext h h') : Em Z h' u := by
  rcases M with I | ⟨a, b, L, r1, r2, r3, r4⟩
  · exact Or.inl I
  · exact Or.inr ⟨a, b, L, r1.ext E, r2.ext E, r3.ext E, r4.ext E⟩
/-- a String whose chars are cs: Latin-1, or UTF-16 in the little order -/
def Txt (Z : State) (h : Heap) (a t : Addr) (cs : List Int32) : Prop := Exa Z h a "java/lang/String" ∧ Fld Z h a "java/lang/String" "value" "[B" (.ref t) ∧ ((Fld Z h a "java/lang/String" "coder" "B" (.int (0 : Int32)) ∧ Ary Z h t .byte (cs.map fun c => .int (c.toInt8.toInt32)) ∧ ∀ c ∈ cs, ¬ (255 : Int32) < c) ∨ (Fld Z h a "java/lang/String" "coder" "B" (.int (1 : Int32)) ∧ Ary Z h t .byte (cs.flatMap fun c => [.int ((c >>> ((0 : Int32) &&& 31)).toInt8.toInt32), .int ((c >>> ((8 : Int32) &&& 31)).toInt8.toInt32)])))
theorem Txt.ext {Z : State} {h h' : Heap} {a t : Addr} {cs : List Int32} (M : Txt Z h a t cs) (E : Ext h h') : Txt Z h' a t cs := ⟨M.1.ext E, M.2.1.ext E, M.2.2.imp (fun q => ⟨q.1.ext E, q.2.1.ext E, q.2.2⟩) fun q => ⟨q.1.ext E, q.2.ext E⟩⟩
theorem Txt.keep {Z : State} {h h' : Heap} {a t : Addr} {cs : List Int32} {ws : List Addr} (M : Txt Z h a t cs) (K : Keep h h' ws) (q1 : a ∉ ws) (q2 : t ∉ ws) : Txt Z h' a t cs := ⟨M.1.keep K, M.2.1.keep K q1, M.2.2.imp (fun q => ⟨q.1.keep K q1, q.2.1.keep K q2, q.2.2⟩) fun q => ⟨q.1.keep K q1, q.2.keep K q2⟩⟩
theorem own_fne {Z : State} {h : Heap} {a b : Addr} {C n d : String} {v w : Value} (F : Fld Z h a C n d v) (G : Fld Z h b C n d w) (q : v ≠ w) : a ≠ b := fun r => by
  subst r
  obtain ⟨c1, _, _, _, f1, h1, h2, -, -, -, -, h3⟩ := F
  obtain ⟨c2, _, _, _, f2, g1, g2, -, -, -, -, g3⟩ := G
  cases h1.symm.trans g1
  cases h2.symm.trans g2
  cases h3.symm.trans g3
  exact q rfl
theorem own_ane {Z : State} {h : Heap} {a b : Addr} {C : String} {a0 : Array Value} {k : Nat} {ty : FieldType} {vs : List Value} (F : Exa Z h a C) (wi : (Cond.instantiable C k).before a0 Z = true) (A : Ary Z h b ty vs) : a ≠ b := by
  obtain ⟨c, A, -⟩ := A
  exact ne_arr F wi A
theorem own_chr {c : Int32} (h : nar .char c = c) : 0 ≤ c.toInt ∧ c.toInt < 65536 := by
  have q := c_i2c c
  rw [show c.toUInt32.toUInt16.toUInt32.toInt32 = c from h] at q
  exact q.2
end Jvm.RoadKit
namespace Jvm.RoadKit
open Sem ClassFile Op Lib Jvm.Stand Jvm.Free Jvm.LawKit
abbrev Hs := List (Nat × Nat × Nat × Nat)
def DoesT (l : Launch) (Z : State) (n0 : Nat) (G : Vm → Prop) (y : MethodName) (code : ByteArray) (ml : Nat) (ret : Option FieldType) (hs : Hs) (rm : Room) (as' : Array Value) (h0 : Heap) (Q : Option Value → Heap → Vm → Prop) : Prop :=
  Old Z n0 h0 → MetFree l y (head1 [Cond.codeWith y code ml ret hs] rm) (fun a U => a = as' ∧ Z.Warmed39 U.vm ∧ U.heap = h0 ∧ G U.vm) (fun _ _ _ _ _ => True) (fun _ U o U' => ∃ v L, o = .returned v ∧ (Fr n0 L ∧ Old Z n0 U'.heap ∧ h0.size ≤ U'.heap.size ∧ Q v U'.heap U'.vm) ∧ ReturnedEndW U o U' L rm.cells rm.slots)
theorem DoesT.start {l : Launch} {Z : State} {n0 : Nat} {G : Vm → Prop} {y : MethodName} {code : ByteArray} {ml : Nat} {ret : Option FieldType} {hs : Hs} {rm : Room} {as' : Array Value} {h0 : Heap} {Q : Option Value → Heap → Vm → Prop} (hp : plainFor y = true)
    (body : ∀ p e s m below meth c s₁, Sd Z n0 0 code ml y.cls y.name ret h0 p l e rm (s.setVm s.vm) m as' below meth c s₁ [] 0 0 → s.Since s.vm 0 → s.heap = h0 → G s.vm → Wp p e below (PoG Z n0 s Q rm.cells rm.slots) (s₁.setTop (entryFrame m as' ml))) : DoesT l Z n0 G y code ml ret hs rm as' h0 Q := by
  intro hold
  refine MetFree.of_bodySF hp hisWith ?_
  intro p e s m args below meth c s₁ Bd hml0 hP hK
  obtain ⟨rfl, hZ, hh, hG⟩ := hP
  have hh' := hh
  subst hh
  exact body p e s m below meth c s₁ ⟨Stand.of_body Bd, ⟨Bd.exec, Bd.bytes, hml0, findClass_of_methodNamed Bd.named, hZ, Bd.returns, (name_of_methodNamed Bd.named Bd.method).1, Bd.notSynchronized⟩, by rw [Bd.state]; rfl, Fr.nil n0, hold, Nat.zero_le _⟩ ((State.WarmedH.refl s).since 0) rfl hG
/-- a state that ended a wide call stands again in the caller's frame -/
theorem own_land {p : Program} {l : Launch} {e : Env} {R : Room} {s : State} {sargs : Array Value} {below : List Frame} {m : MethodId} {meth : Method} {c : Code} {U : State} {Ls : List Loc} {c0 s0 : Nat}
    (X : Stand p l e R s m sargs below meth c U Ls c0 s0) {g : JFrame} (hg : g.method = m) {ig : Instr} {len : Nat} (hdg : decode c.code g.pc = .ok (ig, len)) {mk : MethodId} {a : Array Value} {v : Option Value} {t : State} {L : List Loc} {k n : Nat}
    (hend : Ended t (U.setTop g).frames (.returned v)) (hR : ReturnedEndW (U.calling g mk a) (.returned v) t L k n) :
    Stand p l e R (s.setVm t.vm) m sargs below meth c (({ U with heap := t.heap, slotsUsed := t.slotsUsed } : State).setVm t.vm) (Ls ++ L) (c0 + k) (s0 + n) ∧ s.Since t.vm t.heap.size ∧ U.heap.size ≤ t.heap.size ∧
      t = (({ U with heap := t.heap, slotsUsed := t.slotsUsed } : State).setVm t.vm).setTop { g with pc := g.pc + len, stack := v.toList ++ g.stack } := by
  subst hg
  have at_ := X.here
  obtain ⟨-, warm, born, shape, grow, f3, f4, f5, f6⟩ := hR
  have warmU : U.Warmed39 t.vm := warm
  obtain ⟨top, htop⟩ := Option.isSome_iff_exists.mp at_.top
  obtain ⟨rest, hfs⟩ := State.topJava?_eq_some.mp htop
  have same : U.sameButNew ({ U with heap := t.heap, slotsUsed := t.slotsUsed } : State) L k n := by
    obtain ⟨th, hth, -⟩ := State.frames_cons hfs
    exact ⟨by show ({ U with heap := t.heap, slotsUsed := t.slotsUsed } : State) = ({ U.setFrames U.frames with heap := t.heap, slotsUsed := t.slotsUsed } : State); rw [State.setFrames_self hth], grow, f3, f4, f5, f6⟩
  obtain ⟨X', S'⟩ := X.movedW (T₂ := (({ U with heap := t.heap, slotsUsed := t.slotsUsed } : State).setVm t.vm)) ((at_.setHeapUsed t.heap t.slotsUsed).setVm warmU.alike) X.tail rfl rfl warmU born same
  refine ⟨X', S', same.2.1, ?_⟩
  rw [State.frames_setTop' g at_.top] at hend
  obtain ⟨ct, it, lt, hct, hdt, hft⟩ := hend
  have code_same : t.code? g.method = U.code? g.method := by rw [State.code?_eq, State.code?_eq, warmU.alike.method?]
  obtain rfl : ct = c := Option.some.inj (hct.symm.trans (code_same.trans at_.code))
  obtain rfl : lt = len := by rw [hdg] at hdt; cases hdt; rfl
  have hU : (({ U with heap := t.heap, slotsUsed := t.slotsUsed } : State).setVm t.vm).frames = .java top :: rest := hfs
  have whole : t = ({ (U.calling g mk a).setFrames t.frames with heap := t.heap, slotsUsed := t.slotsUsed } : State).setVm t.vm := by
    have q : t = ({ t with vm := (U.calling g mk a).vm } : State).setVm t.vm := rfl
    rw [shape] at q
    exact q
  refine whole.trans ?_
  rw [hft, State.calling_eq at_.top, State.setFrames_setFrames, State.setTop_of_frames _ hU, hfs]
  rfl
theorem own_backT {p : Program} {l : Launch} {e : Env} {R : Room} {s : State} {args : Array Value} {below : List Frame} {Z : State} {a0 : Array Value} {h : Heap} {G : Vm → Prop} {y : MethodName} {bytes : ByteArray} {maxL : Nat} {ret : Option FieldType} {hs : Hs} {rm : Room} {len W : Nat} {as' : Array Value} {Q : Option Value → Heap → Vm → List Loc → Prop}
    (hM : MetFree l y (head1 [Cond.codeWith y bytes maxL ret hs] rm) (fun a U => a = as' ∧ Z.Warmed39 U.vm ∧ U.heap = h ∧ G U.vm) (fun _ _ _ _ _ => True) (fun _ U o U' => ∃ v L, o = .returned v ∧ Q v U'.heap U'.vm L ∧ ReturnedEndW U o U' L rm.cells rm.slots))
    (hG : ∀ vm', s.WarmedH vm' → G vm') (hZ : Z.Warmed39 s.vm) (wc : (Cond.codeWith y bytes maxL ret hs).before a0 Z = true) (wz : (Cond.initialized y.cls).before a0 Z = true) (hf : rm.frames + 1 ≤ R.frames) (hl : W + (maxL + 11) + rm.locals ≤ R.locals) :
    BackS l R p e below s args y len W (fun A a => a = as' ∧ A.U.heap = h ∧ A.cells + rm.cells ≤ R.cells ∧ A.slots + rm.slots ≤ R.slots)
      (fun A _ v B => ∃ L, Q v B.U.heap B.U.vm L ∧ B.locs = A.locs ++ L ∧ B.cells = A.cells + rm.cells ∧ B.slots = A.slots + rm.slots) := by
  intro m meth c A g ig mk a X hg hsize hdg hW hn hp
  obtain ⟨U, Ls, c0, s0⟩ := A
  dsimp only [Pt.U, Pt.locs, Pt.cells, Pt.slots] at X hn hp ⊢
  obtain ⟨ea, eh, ec, es⟩ := hp
  have hU : Z.Warmed39 U.vm := wtrans hZ X.warmed
  have wcU := mv (args := a) hU wc
  obtain ⟨mk', methY, cY, hn', hmY, hcY, -, hlY, -⟩ := Cond.codeWith_spec wcU
  cases hn.symm.trans hn'
  obtain ⟨kY, hkY, -⟩ := className_of_methodNamed hn
  have hi := Cond.initialized_spec (findClass_of_methodNamed hn) hkY (mv (args := a) hU wz)
  have here : At U g.method c below := hg ▸ X.here
  have hpre : (head1 [Cond.codeWith y bytes maxL ret hs] rm).pre.before a U = true := by show (Cond.and _ .tt).before a U = true; rw [Cond.before_and, wcU]; rfl
  have happ : (head1 [Cond.codeWith y bytes maxL ret hs] rm).appliesLoose y e.platform (U.calling g mk a) = true := Spec.appliesLoose_calling (g := g) here hdg hn hkY hi (X.room_calling (g := g) (R' := rm) hsize hmY hcY hf (by rw [hlY]; omega) ec es) hpre
  obtain ⟨mid, hmid⟩ := here.above
  obtain ⟨o, t, st, -, hend, v, L, eo, hq, hR⟩ := Steps.callFree hM p X.admits X.cas X.clock (acts := []) (show (U.setTop g).frames = (.java g :: mid) ++ below by rw [State.frames_setTop' g here.top, hmid]; rfl) happ ⟨ea, hU, eh, hG _ X.warmed⟩ trivial
  subst eo
  obtain ⟨X', S', gr, et⟩ := own_land X hg hdg hend hR
  refine ⟨v, ⟨(({ U with heap := t.heap, slotsUsed := t.slotsUsed } : State).setVm t.vm), Ls ++ L, c0 + rm.cells, s0 + rm.slots⟩, X', S', gr, ⟨L, hq, rfl, rfl, rfl⟩, ?_⟩
  dsimp only [Pt.U]
  rw [← et]
  exact st
section StepsT
variable {Z : State} {n0 kk : Nat} {code : ByteArray} {ml : Nat} {own nm : String} {ret : Option FieldType} {h : Heap} {p : Program} {l : Launch} {e : Env} {R : Room} {s : State} {m : MethodId} {args : Array Value} {below : List Frame} {meth : Method} {c : Code} {T : State} {locs : List Loc} {cells slots : Nat} {P : State → Outcome → Prop} {a0 : Array Value} {u : Vm} {pc pc' : Nat} {L : Array Slot} {S : List Value} {ce sl : Nat}
end StepsT
end Jvm.RoadKit
namespace Jvm.RoadKit
open Sem ClassFile Op Lib Jvm.Stand Jvm.Free Jvm.LawKit
/-- whoever is booked for the empty text now was booked at the start, or is an empty String at this heap -/
def Eh (Z : State) (h : Heap) (u : Vm) : Prop := ∀ a : Addr, u.interned.find? (fun p => p.1 == (#[] : Array UInt16)) = some (#[], a) → Z.vm.interned.find? (fun p => p.1 == (#[] : Array UInt16)) = some (#[], a) ∨ SlOf (({ Z with heap := h } : State).setVm u) a #[]
theorem Eh.ib {Z : State} {u : Vm} {h : Heap} (I : IB Z u []) : Eh Z h u := by
  obtain ⟨more, e, hm⟩ := I
  intro a hf
  refine Or.inl ?_
  rw [e, Array.find?_append] at hf
  cases hs : Z.vm.interned.find? (fun p => p.1 == (#[] : Array UInt16)) with
  | some pr => rw [hs] at hf; simpa using hf
  | none =>
    rw [hs, Option.none_or] at hf
    obtain ⟨t, ht, -⟩ := hm _ (Array.mem_of_find?_eq_some hf)
    cases ht
theorem Eh.warm {Z s : State} {h : Heap} {u vm' : Vm} (M : Eh Z h u) (hW : (s.setVm u).WarmedH vm') : Eh Z h vm' := fun a hf => by
  have e : vm'.interned = u.interned := hW.interned_eq
  rw [e] at hf
  rcases M a hf with q | q
  · exact Or.inl q
  · exact Or.inr (q.moved (W := (({ Z with heap := h } : State).setVm vm')) (show u.Alike vm' from hW.alike) fun _ _ r => r)
theorem Eh.keep {Z : State} {h h' : Heap} {u : Vm} (M : Eh Z h u) (K : Keep h h' []) : Eh Z h' u := fun a hf => (M a hf).imp id fun q => q.moved (W := (({ Z with heap := h' } : State).setVm u)) (Vm.Alike.refl _) fun b c r => K.2.1 b c r List.not_mem_nil
theorem Eh.ext {Z : State} {h h' : Heap} {u : Vm} (M : Eh Z h u) (E : Ext h h') : Eh Z h' u := fun a hf => (M a hf).imp id fun q => q.moved (W := (({ Z with heap := h' } : State).setVm u)) (Vm.Alike.refl _) fun b c r => E.2 b c r
theorem own_lat0 : ∀ c ∈ "".toList, c.toNat < 256 := by simp
theorem own_units {units : Array UInt16} (h : utf16ToString? units = some "") : units = #[] := by
  have q := Jvm.ClassFile.units_of_text h own_lat0
  exact Array.toList_inj.mp (by rw [q]; rfl)
theorem own_heldE {Z s : State} {a0 : Array Value} {vm0 : Vm} {own : String} {index : Nat} (hW : Z.Warmed39 vm0) (w : (Cond.stringLink own index "").before a0 Z = true) (hkeep : ∀ (b : Addr) (cl : Cell), Z.heap[b]? = some cl → s.heap[b]? = some cl) (hH : ConstHeldL Z own index) (M : Eh Z s.heap vm0) : ConstHeldL (s.setVm vm0) own index := by
  intro c k' cf i units a hc' hk' hcf' hp hu hor
  have hal : Z.vm.Alike vm0 := hW.alike
  have hc : Z.vm.findClass own = some c := by rw [← hal.findClass]; exact hc'
  obtain ⟨k, cf0, i0, units0, hk, hcf, hp0, hu0, hnm, htext, -⟩ := Cond.stringLink_spec hc w
  obtain ⟨k'', hk'', hke, -, ee, -⟩ := hW.2.2.2 c k hk
  cases (show vm0.classes[c]? = some k' from hk').symm.trans hk''
  have hcfk : k'.cf = k.cf := by rw [hke]
  cases (hcfk ▸ hcf').symm.trans hcf
  cases hp.symm.trans hp0
  cases hu.symm.trans hu0
  obtain rfl := own_units htext
  have old : SlOf Z a #[] → SlOf (s.setVm vm0) a #[] := fun q => q.moved (W := s.setVm vm0) hal hkeep
  have fnd : ∀ a, k.resolved[index]? = some none → vm0.interned.find? (fun p => p.1 == (#[] : Array UInt16)) = some (#[], a) → SlOf (s.setVm vm0) a #[] := fun a h0 hf => by
    rcases M a hf with q | q
    · exact (hH c k cf i #[] a hc hk hcf hp hu (Or.inr ⟨h0, q⟩)).moved (W := s.setVm vm0) hal hkeep
    · exact q.moved (W := s.setVm vm0) (Vm.Alike.refl _) fun _ _ r => r
  rcases ee index with e0 | ⟨hop, r, e1, hr | ⟨a3, t, si, us, rfl, -, q3, q4, q5⟩⟩
  · rcases hor with h0 | ⟨h0, hf⟩
    · exact old (hH c k cf i #[] a hc hk hcf hp hu (Or.inl (e0 ▸ h0)))
    · exact fnd a (e0 ▸ h0) hf
  · exfalso
    cases r <;> simp [State.rightAt, hk, hcf, hnm] at hr
  · rw [hcf] at q3 q4
    have e3 : si = i := by simpa using q3.symm.trans hp
    subst e3
    have e4 : us = #[] := by simpa [ConstantPool.utf8?, hu] using q4.symm
    subst e4
    rcases hor with h0 | ⟨h0, -⟩
    · have ea : a3 = a := by simpa using e1.symm.trans h0
      subst ea
      exact fnd a3 hop q5
    · have := e1.symm.trans h0
      simp at this
theorem own_sl {Z W : State} (hal : Z.vm.Alike W.vm) {a : Addr} (hin : SlOf W a #[]) : ∃ b, Exa Z W.heap a "java/lang/String" ∧ Fld Z W.heap a "java/lang/String" "coder" "B" (.int 0) ∧ Fld Z W.heap a "java/lang/String" "value" "[B" (.ref b) ∧ Ary Z W.heap b .byte [] := by
  obtain ⟨q, cS, hqa, ⟨⟨s1, s2, s3, ⟨cv, kv, iv, s4, s4'⟩, ⟨cc, kc, ic, s5, s5'⟩, s6, s7, s8, s9, s10, s11, s12, s13, s14, s15, s16⟩, hfS, hcS⟩, ⟨kS, k1, k2, k3⟩, hB, hbyt⟩ := hin
  subst hqa
  obtain ⟨kv', z4⟩ := ff_back hal s4
  obtain ⟨kc', z5⟩ := ff_back hal s5
  have hfZ : Z.vm.findClass "java/lang/String" = some q.sC.cls := by rw [← hal.findClass, hcS]; exact hfS
  obtain ⟨kz, hkz, -⟩ := Vm.findClass_spec hfZ
  obtain ⟨kz', hkz', ekz⟩ := hal.2.2 _ _ hkz
  have ekS : kz' = kS := Option.some.inj (hkz'.symm.trans (hcS ▸ k1))
  have hBZ : Z.vm.findClass "[B" = some q.SA.cls := by rw [← hal.findClass]; exact hB
  obtain ⟨kb, hkb, -⟩ := Vm.findClass_spec hBZ
  obtain ⟨kb', hkb', ekb⟩ := hal.2.2 _ _ hkb
  obtain ⟨hst, k9, hk9, comp, hkind9⟩ := s11
  have ek9 : k9 = kb' := Option.some.inj (hk9.symm.trans hkb')
  have hAZ : Z.isArrayOf q.SA .byte := ⟨hst, kb, hkb, comp, by rw [ek9, ekb] at hkind9; exact hkind9⟩
  exact ⟨q.sd, ⟨q.sC, kz, s1, hfZ, hkz, s3, fun ho => by rw [k3, ← ekS, ekz]⟩, ⟨q.sC, cc, kc', ic, q.fSC, s1, z5, s7, s2, s3, by rw [← hal.assignable]; exact s5', s9⟩, ⟨q.sC, cv, kv', iv, q.fSV, s1, z4, s6, s2, s3, by rw [← hal.assignable]; exact s4', s8⟩, ⟨q.SA, ⟨s10, hAZ, s12⟩, by rw [hbyt]; simp [stringBytes], by decide, fun v hv => nomatch hv⟩⟩
theorem own_initW {tb : Tables} [Ours tb] {e : Env} {below : List Frame} {s U : State} {mm : MethodId} {cc : Code} (h : At U mm cc below) (hexec : tb.exec = Jvm.exec) (hW : s.WarmedH U.vm)
    (hpl : e.platform.magicAccessors = ({} : Platform).magicAccessors) {own : String} (hown : s.vm.findClass own = some mm.cls) {idx : Nat} {t : MethodName} (ht1 : t.name = "<init>")
    (hnot : t.cls ≠ "java/lang/invoke/MethodHandle" ∧ t.cls ≠ "java/lang/invoke/VarHandle") {args : Array Value}
    (hlink : (Cond.methodLink own idx t).before args s = true) (hinst : (Cond.instanceMethod t).before args s = true) {tm : MethodId} {methO : Method} (hnO : s.methodNamed? t = some tm) (hmO : s.vm.method? tm = some methO) (hsigO : parseMethodDescriptor t.desc = some methO.sig)
    {f : JFrame} (hf : f.method = mm) {a : Addr} {argsL rest : List Value} (hlen : ∀ sig, parseMethodDescriptor t.desc = some sig → argsL.length = sig.parameters.length) (hstack : f.stack = argsL.reverse ++ .ref a :: rest) (hd : decode cc.code f.pc = .ok (.invokespecial idx, 3)) :
    ∃ vm', s.WarmedH vm' ∧ ∀ target, (∀ acts, Steps tb e below (doInvoke e ((U.setVm vm').setTop { f with stack := rest }) acts tm (.ref a :: argsL).toArray).1 target) → Steps tb e below (U.setTop f) target := by
  subst hf
  obtain ⟨tm', methO', hnO', hmO', hstO, habO⟩ := Cond.instanceMethod_spec hinst
  cases hnO.symm.trans hnO'
  cases hmO.symm.trans hmO'
  obtain ⟨kO, hkO, hnameO⟩ := className_of_methodNamed hnO
  obtain ⟨hnameMO, hdescO⟩ := name_of_methodNamed hnO hmO
  obtain ⟨ci, hl, hright⟩ := Cond.methodLink_spec hown hnO hlink e.platform hpl
  have hE : s.MethodEntry e U.vm f.method.cls idx tm ci := State.methodEntry hW hl hright fun k hk => by
    cases hkO.symm.trans hk
    rw [hnameO]; exact hnot
  obtain ⟨dk, cf, nt, _, _, via, _, _, hd', hcf, hcp, -⟩ := hl.here
  have hcp' : cf.constantPool[idx]? = some (.methodref ci nt) ∨ cf.constantPool[idx]? = some (.interfaceMethodref ci nt) := by
    cases via
    · exact Or.inl (by simpa using hcp)
    · exact Or.inr (by simpa using hcp)
  have hwarm := hE.warmed
  have hreadyM := hE.ready
  have hreadyC := hE.classReady
  generalize hvm₂ : U.vm.called f.method.cls ci idx tm = vm₂ at hwarm hreadyM hreadyC
  obtain ⟨dk₂, hdk₂, hed₂⟩ := hwarm.alike.2.2 _ _ hd'
  obtain ⟨kO₂, hkO₂, heO₂⟩ := hwarm.alike.2.2 _ _ hkO
  have hmO₂ : vm₂.method? tm = some methO := by rw [hwarm.alike.method?]; exact hmO
  have hfound : lookupSpecial vm₂ tm.cls "<init>" methO.desc = .method tm := by
    rw [hwarm.alike.lookupSpecial, hdescO, ← ht1]; exact lookupSpecial_of_named hnO hmO hstO
  refine ⟨vm₂, hwarm, fun target hrest => ?_⟩
  have hAt₂ : At (U.setVm vm₂) f.method cc below := h.setVm (hW.alike.symm.trans hwarm.alike)
  jvm_step h [hexec, hd, invokespecial.wp_cold (e := e) (s := U) (s₀ := s) (f := f) (meth := methO) h.top hE hd' hcf hcp' hmO, hvm₂,
    invokespecial.wp_init (e := e) (s := U.setVm vm₂) (k := kO₂) (meth := methO) (m := tm) (a := a) (args := argsL) (rest := rest) (f := f)
      hAt₂.top ⟨dk₂, cf, ci, nt, hdk₂, by rw [hed₂]; exact hcf, hcp', hreadyC⟩ hreadyM hkO₂ hmO₂ (by rw [hnameMO]; exact ht1) hstO habO hfound (hlen _ hsigO) hstack]
  exact hrest
theorem own_specialW {p : Program} {l : Launch} {e : Env} {R : Room} {s : State} {m : MethodId} {args : Array Value} {below : List Frame} {meth : Method} {c : Code} {T : State} {locs : List Loc} {cells slots : Nat}
    (X : Stand p l e R s m args below meth c T locs cells slots) (hexec : p.tables.exec = Jvm.exec) {own : String} {index : Nat} {y : MethodName} (hy1 : y.name = "<init>")
    (hown : s.vm.findClass own = some m.cls) (hlink : (Cond.methodLink own index y).before args s = true) (hinst : (Cond.instanceMethod y).before args s = true)
    {mk : MethodId} {methM : Method} (hnamed : s.methodNamed? y = some mk) (hmethM : s.vm.method? mk = some methM) (hsig : parseMethodDescriptor y.desc = some methM.sig)
    (hy : y.cls ≠ "java/lang/invoke/MethodHandle" ∧ y.cls ≠ "java/lang/invoke/VarHandle")
    {W : Nat} {Pre : Pt → Array Value → Prop} {Post : Pt → Array Value → Option Value → Pt → Prop} (hK : BackS l R p e below s args y 3 W Pre Post)
    {g : JFrame} (hg : g.method = m) (hsize : g.locals.size = c.maxLocals) {a : Addr} {argsL rest : List Value}
    (hlen : ∀ sig, parseMethodDescriptor y.desc = some sig → argsL.length = sig.parameters.length) (hstack : g.stack = argsL.reverse ++ .ref a :: rest) (hW : 2 * g.monitorRoom + (rest.map fun v => v.category).sum ≤ W)
    (hdg : decode c.code g.pc = .ok (.invokespecial index, 3)) (hpre : ∀ vm₁, s.WarmedH vm₁ → Pre ⟨T.setVm vm₁, locs, cells, slots⟩ (.ref a :: argsL).toArray) :
    ∃ (v : Option Value) (vm₁ : Vm) (B : Pt), s.WarmedH vm₁ ∧ Stand p l e R (s.setVm B.U.vm) m args below meth c B.U B.locs B.cells B.slots ∧ s.Since B.U.vm B.U.heap.size ∧ T.heap.size ≤ B.U.heap.size ∧ Post ⟨T.setVm vm₁, locs, cells, slots⟩ (.ref a :: argsL).toArray v B ∧
      Steps p.tables e below (T.setTop g) (B.U.setTop { g with pc := g.pc + 3, stack := v.toList ++ rest }) := by
  have hpl : e.platform.magicAccessors = ({} : Platform).magicAccessors := by rw [X.admits.platform]
  obtain ⟨vm₁, hW₁, hstep₁⟩ := own_initW (e := e) X.here hexec X.warmed hpl hown hy1 hy hlink hinst hnamed hmethM hsig (f := g) hg hlen hstack hdg
  have X₁ := X.noted hW₁
  obtain ⟨v, B, X', hS, hgr, hpost, hsteps⟩ := hK m meth c ⟨T.setVm vm₁, locs, cells, slots⟩ { g with stack := rest } (.invokespecial index) mk (.ref a :: argsL).toArray X₁ hg hsize hdg hW (X₁.named hnamed) (hpre vm₁ hW₁)
  exact ⟨v, vm₁, B, hW₁, X', hS, hgr, hpost, (hstep₁ _ fun acts => by rw [doInvoke_state]; exact Steps.refl _).trans hsteps⟩
section StepsE
variable {Z : State} {n0 kk : Nat} {code : ByteArray} {ml : Nat} {own nm : String} {ret : Option FieldType} {h : Heap} {p : Program} {l : Launch} {e : Env} {R : Room} {s : State} {m : MethodId} {args : Array Value} {below : List Frame} {meth : Method} {c : Code} {T : State} {locs : List Loc} {cells slots : Nat} {P : State → Outcome → Prop} {a0 : Array Value} {u : Vm} {pc pc' : Nat} {L : Array Slot} {S : List Value}
theorem v_ldcE (X : Sd Z n0 kk code ml own nm ret h p l e R (s.setVm u) m args below meth c T locs cells slots) (Y : s.Since u kk) {index : Nat} (hd : Dc code pc (.ldc index) 2 pc') (w1 : (Cond.stringLink own index "").before a0 Z = true) (wS : ∀ a ∈ Bundle.stringAtoms, a.before a0 Z = true) (hlo : Fr s.heap.size locs) (hkeep : ∀ (b : Addr) (cl : Cell), Z.heap[b]? = some cl → s.heap[b]? = some cl) (M0 : Eh Z s.heap u) (M : Eh Z h u) (hh : Jvm.Lit.constHeld Z own index) (hcw : Jvm.Lit.compactW.before a0 Z = true) (hc : cells + 2 ≤ R.cells) (hl : slots + 4 ≤ R.slots) (K : ∀ T' h' u' kk' a b, Sd Z n0 kk' code ml own nm ret h' p l e R (s.setVm u') m args below meth c T' locs (cells + 2) (slots + 4) → s.Since u' kk' → Ext h h' → Exa Z h' a "java/lang/String" → Fld Z h' a "java/lang/String" "coder" "B" (.int 0) → Fld Z h' a "java/lang/String" "value" "[B" (.ref b) → Ary Z h' b .byte [] → Eh Z h' u' → Lit (s.setVm u') own index a → Wp p e below P (T'.setTop (mkF m pc' L (.ref a :: S)))) : Wp p e below P (T.setTop (mkF m pc L S)) := by
  obtain ⟨hd, rfl⟩ := hd
  have wi : (Cond.instantiable "java/lang/String" 4).before a0 Z = true := wS _ (by simp [Bundle.stringAtoms, Bundle.sN])
  have wa : (Cond.arrayClass .byte).before a0 Z = true := wS _ (by simp [Bundle.stringAtoms])
  have hH : ConstHeldL (s.setVm u) own index := own_heldE X.hZ w1 hkeep (heldStart hh w1 own_lat0 hcw wa wi) M0
  have hlk := mvS (args := args) (s := s.setVm u) X.hZ w1
  obtain ⟨k0, cf, i0, units0, hk0, hcf, hp0, hu0, hnm, htext0, hres⟩ := Cond.stringLink_spec X.hown hlk
  obtain rfl := own_units htext0
  by_cases q : ∃ a, Lit (s.setVm u) own index a
  · obtain ⟨a, La⟩ := q
    have rr : k0.resolved[index]? = some (some (.string a)) := by
      have La' : (s.setVm u).resolvedAt? own index = some (.string a) := La
      have ho : u.findClass own = some m.cls := X.hown
      have hk1 : u.classes[m.cls]? = some k0 := hk0
      rcases hres with h0 | ⟨a1, h0⟩
      · simp [State.resolvedAt?, ho, hk1, h0] at La'
      · simp [State.resolvedAt?, ho, hk1, h0] at La'
        rw [h0, La']
    have sl : SlOf (s.setVm u) a #[] := hH _ k0 cf i0 #[] a X.hown hk0 hcf hp0 hu0 (Or.inl rr)
    have slT : SlOf T a #[] := sl.moved (W := T) X.st.warmed.alike (oldF X.st hlo)
    obtain ⟨b, r1, r2, r3, r4⟩ := own_sl (Z := Z) (X.hZ.alike.trans X.st.warmed.alike) slT
    rw [X.eh] at r1 r2 r3 r4
    exact Wp.of (fun _ k => ldcAgain (s := s) X.st X.hx X.hZ X.hown w1 La (g := mkF m pc L S) rfl (X.hb hd) _ k) (K T h u kk a b ⟨X.1.more (Nat.le_add_right _ _) (Nat.le_add_right _ _), X.2⟩ Y ⟨Nat.le_refl _, fun _ _ r => r⟩ r1 r2 r3 r4 M La)
  · obtain ⟨a, T', X', hS', ⟨kq, hkk, hrr⟩, hb, -, hint, ⟨units, htext, hin⟩, st⟩ := X.st.ldcColdF (oldF X.st hlo) X.hx (own := own) X.hown hlk (fun d hd => by
      have q := wS d hd
      simp only [Bundle.stringAtoms, List.mem_cons, List.not_mem_nil, or_false] at hd
      rcases hd with rfl | rfl | rfl | rfl | rfl | rfl | rfl
      · exact mv (s := s.setVm u) X.hZ q
      · exact mv (s := s.setVm u) X.hZ q
      · exact mvA (s := s.setVm u) X.hZ q
      · exact mv (s := s.setVm u) X.hZ q
      · exact mv (s := s.setVm u) X.hZ q
      · exact mv (s := s.setVm u) X.hZ q
      · exact mv (s := s.setVm u) X.hZ q) hH (fun units hu => Jvm.ClassFile.lat_of_text hu own_lat0) (g := mkF m pc L S) rfl (X.hb hd) (n := 0) (by decide) (by decide) hc hl
    obtain rfl := own_units htext
    have E : Ext h T'.heap := X.eh ▸ ext_of hb
    have hW : Z.Warmed39 T'.vm := State.Warmed39.trans (t := s.setVm u) X.hZ hS'.1
    have sl : SlOf T' a #[] := by obtain ⟨q1, q2, h1, h2, h3, h4, h5, -⟩ := hin; exact ⟨q1, q2, h1, h2, h3, h4, h5⟩
    obtain ⟨b, r1, r2, r3, r4⟩ := own_sl (Z := Z) hW.alike sl
    have hTi : T.vm.interned = u.interned := X.st.warmed.interned_eq
    have hfn : T'.vm.findClass own = some m.cls := by rw [hS'.1.alike.findClass]; exact X.hown
    have La : Lit (s.setVm T'.vm) own index a := by simp [Lit, State.resolvedAt?, hfn, hkk, hrr]
    have M' : Eh Z T'.heap T'.vm := by
      intro a2 hf
      have mv2 : SlOf (({ Z with heap := h } : State).setVm u) a2 #[] → SlOf (({ Z with heap := T'.heap } : State).setVm T'.vm) a2 #[] := fun q => q.moved (W := (({ Z with heap := T'.heap } : State).setVm T'.vm)) (show u.Alike T'.vm from hS'.1.alike) (fun x c r => E.2 x c r)
      rcases hint with hi | ⟨us, a', hus, hi⟩
      · rw [hi, hTi] at hf
        exact (M a2 hf).imp id mv2
      · obtain rfl := own_units hus
        have hf0 := hf
        rw [hi, Array.find?_push, hTi] at hf
        cases hq : u.interned.find? (fun p => p.1 == (#[] : Array UInt16)) with
        | some pr => rw [hq] at hf; exact (M a2 (by rw [hq]; simpa using hf)).imp id mv2
        | none =>
          obtain ⟨k2, hk2, -, -, ee, -⟩ := hS'.1.2.2.2 m.cls k0 hk0
          cases hkk.symm.trans hk2
          rcases ee index with e0 | ⟨-, r, e1, hr | ⟨a3, t, si, us, rfl, -, q3, q4, q5⟩⟩
          · refine absurd ⟨a, ?_⟩ q
            have ho : u.findClass own = some m.cls := X.hown
            have hk1 : u.classes[m.cls]? = some k0 := hk0
            simp [Lit, State.resolvedAt?, ho, hk1, e0.symm.trans hrr]
          · exfalso
            have hk1 : u.classes[m.cls]? = some k0 := hk0
            cases r <;> simp [State.rightAt, hk1, hcf, hnm] at hr
          · rw [hcf] at q3 q4
            have e3 : si = i0 := by simpa using q3.symm.trans hp0
            subst e3
            have e4 : us = #[] := by simpa [ConstantPool.utf8?, hu0] using q4.symm
            subst e4
            have e5 : a3 = a := by simpa using e1.symm.trans hrr
            have e6 : a3 = a2 := by simpa using q5.symm.trans hf0
            subst e5 e6
            exact Or.inr (sl.moved (W := (({ Z with heap := T'.heap } : State).setVm T'.vm)) (Vm.Alike.refl _) fun _ _ r => r)
    exact Wp.of st (K T' T'.heap T'.vm T'.heap.size a b ⟨X', ⟨X.hx, X.2.1.2.1, X.hml, hfn, hW, X.hret, X.hnm, X.hlk⟩, rfl, X.fr, X.old.ext E, Nat.le_refl _⟩ (Y.trans hS' (Nat.le_trans X.hkk E.1)) E r1 r2 r3 r4 M' La)
theorem t_callI (X : Sd Z n0 kk code ml own nm ret h p l e R (s.setVm u) m args below meth c T locs cells slots) (Y : s.Since u kk) {G : Vm → Prop} {y : MethodName} {bytes : ByteArray} {maxL : Nat} {rm : Room} {index : Nat} {Q' : Option Value → Heap → Vm → Prop} {ps : List FieldType} {rr : Option FieldType} {stk : List Value} {hs' : Hs} (hG : ∀ vm', (s.setVm u).WarmedH vm' → G vm') (hd : Dc code pc (.invokespecial index) 3 pc') (hi : y.name = "<init>") (w1 : (Cond.methodLink own index y).before a0 Z = true) (w2 : (Cond.instanceMethod y).before a0 Z = true) (w3 : (Cond.initialized y.cls).before a0 Z = true) (w4 : (Cond.codeWith y bytes maxL none hs').before a0 Z = true) (hy : y.cls ≠ "java/lang/invoke/MethodHandle" ∧ y.cls ≠ "java/lang/invoke/VarHandle") {a : Addr} {argsL : List Value} (D : DoesT l Z n0 G y bytes maxL none hs' rm (.ref a :: argsL).toArray h Q') (hpd : parseMethodDescriptor y.desc = some ⟨ps, rr⟩) (hlen : argsL.length = ps.length) (hst : stk = argsL.reverse ++ .ref a :: S) (hsz : L.size = ml) (hf : rm.frames + 1 ≤ R.frames) (hl : (S.map fun v => v.category).sum + (maxL + 11) + rm.locals ≤ R.locals) (hc : cells + rm.cells ≤ R.cells) (hs : slots + rm.slots ≤ R.slots) (K : ∀ T' h' v L' u' kk', Sd Z n0 kk' code ml own nm ret h' p l e R (s.setVm u') m args below meth c T' (locs ++ L') (cells + rm.cells) (slots + rm.slots) → s.Since u' kk' → Q' v h' u' → Wp p e below P (T'.setTop (mkF m pc' L (v.toList ++ S)))) : Wp p e below P (T.setTop (mkF m pc L stk)) := by
  obtain ⟨hd, rfl⟩ := hd
  obtain ⟨mk, methM, cM, nM, mM, -, -, -, -, -, -, sM⟩ := Cond.codeWith_spec (mvT (args := #[]) X.hZ w4)
  obtain ⟨v, vm1, ⟨T', L1, k1, n1⟩, -, X', hS', hgr, ⟨Lc, hQ, l1, y1, z1⟩, st⟩ := own_specialW X.st X.hx hi X.hown (mvT X.hZ w1) (mvT X.hZ w2) nM mM sM hy (own_backT (Q := fun v h' vm' L => Fr n0 L ∧ Old Z n0 h' ∧ h.size ≤ h'.size ∧ Q' v h' vm') (W := (S.map fun v => v.category).sum) (D X.old) hG X.hZ w4 w3 hf hl) (g := mkF m pc L stk) rfl (by rw [X.hml]; exact hsz) (a := a) (argsL := argsL) (rest := S) (lenOf hpd hlen) hst (by show 2 * 0 + _ ≤ _; omega) (X.hb hd) (fun _ _ => ⟨rfl, X.eh, hc, hs⟩)
  dsimp only [Pt.U, Pt.locs, Pt.cells, Pt.slots] at X' hS' hgr l1 y1 z1 st hQ
  subst l1 y1 z1
  exact Wp.tr st (K T' _ v Lc T'.vm T'.heap.size ⟨X', ⟨X.hx, X.2.1.2.1, X.hml, (hS'.1.alike.findClass _ _).trans X.hown, State.Warmed39.trans X.hZ hS'.1, X.hret, X.hnm, X.hlk⟩, rfl, X.fr.app hQ.1, hQ.2.1, Nat.le_refl _⟩ (Y.trans hS' (Nat.le_trans X.hkk (X.eh ▸ hgr))) hQ.2.2.2)
theorem g_callV (X : Sd Z n0 kk code ml own nm ret h p l e R (s.setVm u) m args below meth c T locs cells slots) (Y : s.Since u kk) {G : Vm → Prop} {y : MethodName} {bytes : ByteArray} {maxL : Nat} {ret' : Option FieldType} {rm : Room} {index : Nat} {Q' : Option Value → Heap → Vm → Prop} {ps : List FieldType} {rr : Option FieldType} {stk : List Value} {z : MethodName} {C : String} (hG : ∀ vm', (s.setVm u).WarmedH vm' → G vm') (hd : Dc code pc (.invokevirtual index) 3 pc') (w1 : (Cond.methodLink own index y).before a0 Z = true) (wd : (Cond.declares y).before a0 Z = true) (hnf : NotFace (s.setVm u) y) (ws : (Cond.selects C y z).before a0 Z = true) (w2 : (Cond.instanceMethod z).before a0 Z = true) (w3 : (Cond.initialized z.cls).before a0 Z = true) (w4 : (Cond.code z bytes maxL ret').before a0 Z = true) (hy : y.cls ≠ "java/lang/invoke/MethodHandle" ∧ y.cls ≠ "java/lang/invoke/VarHandle") {a : Addr} (E : Exa Z h a C) {argsL : List Value} (D : DoesG l Z n0 G z bytes maxL ret' [] rm (.ref a :: argsL).toArray h Q') (hpd : parseMethodDescriptor y.desc = some ⟨ps, rr⟩) (hlen : argsL.length = ps.length) (hst : stk = argsL.reverse ++ .ref a :: S) (hsz : L.size = ml) (hf : rm.frames + 1 ≤ R.frames) (hl : (S.map fun v => v.category).sum + (maxL + 11) + rm.locals ≤ R.locals) (hc : cells + rm.cells ≤ R.cells) (hs : slots + rm.slots ≤ R.slots) (K : ∀ T' h' v L' u' kk', Sd Z n0 kk' code ml own nm ret h' p l e R (s.setVm u') m args below meth c T' (locs ++ L') (cells + rm.cells) (slots + rm.slots) → s.Since u' kk' → Q' v h' u' → Wp p e below P (T'.setTop (mkF m pc' L (v.toList ++ S)))) : Wp p e below P (T.setTop (mkF m pc L stk)) := by
  obtain ⟨hd, rfl⟩ := hd
  obtain ⟨cq, kq, qa, qb, qc⟩ := isOf X.hZ X.eh E
  obtain ⟨v, vm1, ⟨T', L1, k1, n1⟩, -, X', hS', hgr, ⟨Lc, hQ, l1, y1, z1⟩, st⟩ := X.st.virtualBackS X.hx X.hown (mvT X.hZ w1) (mvT X.hZ wd) hnf (mvT X.hZ ws) (mvT X.hZ w2) hy (own_backG (Q := fun v h' vm' L => Fr n0 L ∧ Old Z n0 h' ∧ h.size ≤ h'.size ∧ Q' v h' vm') (W := (S.map fun v => v.category).sum) (D X.old) hG X.hZ w4 w3 hf hl) qa qc (g := mkF m pc L stk) rfl (by rw [X.hml]; exact hsz) (Steps.refl _) (argsL := argsL) (rest := S) (lenOf hpd hlen) hst (by show 2 * 0 + _ ≤ _; omega) (X.hb hd) (fun _ _ => ⟨rfl, X.eh, hc, hs⟩)
  dsimp only [Pt.U, Pt.locs, Pt.cells, Pt.slots] at X' hS' hgr l1 y1 z1 st hQ
  subst l1 y1 z1
  exact Wp.tr st (K T' _ v Lc T'.vm T'.heap.size ⟨X', ⟨X.hx, X.2.1.2.1, X.hml, (hS'.1.alike.findClass _ _).trans X.hown, State.Warmed39.trans X.hZ hS'.1, X.hret, X.hnm, X.hlk⟩, rfl, X.fr.app hQ.1, hQ.2.1, Nat.le_refl _⟩ (Y.trans hS' (Nat.le_trans X.hkk (X.eh ▸ hgr))) hQ.2.2.2)
end StepsE
section StepsB
variable {Z : State} {n0 kk : Nat} {code : ByteArray} {ml : Nat} {own nm : String} {ret : Option FieldType} {h : Heap} {p : Program} {l : Launch} {e : Env} {R : Room} {s : State} {m : MethodId} {args : Array Value} {below : List Frame} {meth : Method} {c : Code} {T : State} {locs : List Loc} {cells slots : Nat} {P : State → Outcome → Prop} {a0 : Array Value} {pc pc' : Nat} {L : Array Slot} {S : List Value}
theorem w_ldcWI (X : Sd Z n0 kk code ml own nm ret h p l e R s m args below meth c T locs cells slots) {i : Nat} {v : Int32} (hd : Dc code pc (.ldc_w i) 3 pc') (hw : (Cond.constant own i v).before a0 Z = true) (K : Wp p e below P (T.setTop (mkF m pc' L (.int v :: S)))) : Wp p e below P (T.setTop (mkF m pc L S)) := by
  obtain ⟨hd, rfl⟩ := hd
  exact Wp.of (fun _ k => X.st.ldcWInt X.hx X.hown (mvT X.hZ hw) (g := mkF m pc L S) rfl (X.hb hd) _ k) K
theorem w_newarrE (X : Sd Z n0 kk code ml own nm ret h p l e R s m args below meth c T locs cells slots) {aty : ArrayType} {n : Int32} (hd : Dc code pc (.newarray aty) 2 pc') (w : (Cond.arrayClass (newarray.typeOf aty)).before a0 Z = true) (k cap : Nat) (ad : String) (had : "[" ++ (newarray.typeOf aty).toString = ad) (hn : ¬ n < 0) (hk : n.toNatClampNeg = k) (hcap : k ≤ cap) (hbig : cap * 8 ≤ 536870912) (hc : cells + 1 ≤ R.cells) (hl : slots + cap ≤ R.slots) (K : ∀ T' h' b, b = h.size → n0 ≤ b → Sd Z n0 kk code ml own nm ret h' p l e R s m args below meth c T' locs (cells + 1) (slots + cap) → Ext h h' → Ary Z h' b (newarray.typeOf aty) (List.replicate k (defaultValue (newarray.typeOf aty))) → Exa Z h' b ad → Wp p e below P (T'.setTop (mkF m pc' L (.ref b :: S)))) : Wp p e below P (T.setTop (mkF m pc L (.int n :: S))) := by
  obtain ⟨hd, rfl⟩ := hd
  obtain ⟨T', h', cA, X', e', E, A, Ex, st⟩ := newPE X.st X.hx X.hZ w X.eh (g := mkF m pc L (.int n :: S)) rfl (X.hb hd) rfl hn (cap := cap) (hk ▸ hcap) hbig hc hl had
  exact Wp.of st (K T' h' _ rfl (X.old.1 ▸ X.old.2.1) (X.mk' X' e' X.fr (X.old.ext E) E.1) E (Ary.new A hk (by cases aty <;> rfl)) Ex)
theorem w_clone (X : Sd Z n0 kk code ml own nm ret h p l e R s m args below meth c T locs cells slots) {index : Nat} {a : Addr} {ty : FieldType} {ad : String} {vs : List Value} (k : Nat) (hd : Dc code pc (.invokevirtual index) 3 pc') (w1 : (Cond.methodLink own index ⟨ad, "clone", "()Ljava/lang/Object;"⟩).before a0 Z = true) (w2 : (Cond.sameMethod ad "java/lang/Object" "clone" "()Ljava/lang/Object;").before a0 Z = true) (w3 : (Cond.native ⟨"java/lang/Object", "clone", "()Ljava/lang/Object;"⟩).before a0 Z = true) (w4 : (Cond.instanceMethod ⟨"java/lang/Object", "clone", "()Ljava/lang/Object;"⟩).before a0 Z = true) (w5 : (Cond.selects ad ⟨ad, "clone", "()Ljava/lang/Object;"⟩ ⟨"java/lang/Object", "clone", "()Ljava/lang/Object;"⟩).before a0 Z = true) (w6 : (Cond.castable ad "java/lang/Cloneable").before a0 Z = true) (A : Ary Z h a ty vs) (E : Exa Z h a ad) (hvs : vs.length = k) (hsz : L.size = ml) (hf : 1 ≤ R.frames) (hl : (S.map fun v => v.category).sum + 14 ≤ R.locals) (hc : cells + 1 ≤ R.cells) (hs : slots + k ≤ R.slots) (K : ∀ T' h' b, b = h.size → n0 ≤ b → Sd Z n0 kk code ml own nm ret h' p l e R s m args below meth c T' locs (cells + 1) (slots + k) → Ext h h' → Ary Z h' b ty vs → Exa Z h' b ad → Wp p e below P (T'.setTop (mkF m pc' L (.ref b :: S)))) : Wp p e below P (T.setTop (mkF m pc L (.ref a :: S))) := by
  obtain ⟨hd, rfl⟩ := hd
  obtain ⟨c', A, e, l1, l2⟩ := A
  have F : FitC Z c' := fitC_of A fun i hi v hv => l2 v (by rw [e] at hv; exact List.mem_of_getElem? (by simpa using hv))
  obtain ⟨T', h', X', e', Ex, A', E', st⟩ := cloneA X.st X.hx X.hZ X.hown w1 w2 w3 w4 w5 w6 X.eh A E F (g := mkF m pc L (.ref a :: S)) rfl (by rw [X.hml]; exact hsz) rfl (X.hb hd) hf (W := (S.map fun v => v.category).sum) (by show 2 * 0 + _ ≤ _; omega) hl (cap := k) (by rw [Ary.size e]; omega) hc hs
  exact Wp.of st (K T' h' _ rfl (X.old.1 ▸ X.old.2.1) (X.mk' X' e' X.fr (X.old.ext Ex) Ex.1) Ex ⟨_, A', e, l1, l2⟩ E')
theorem own_setKeep {h : Heap} {b : Addr} {cb cd : Cell} (q : h[b]? = some cb) (h1 : cd.cls = cb.cls) (h2 : cd.vm = cb.vm) (h3 : cd.slots.size = cb.slots.size) : Keep h (h.setIfInBounds b cd) [b] := by
  have hb := (Array.getElem?_eq_some_iff.mp q).1
  refine ⟨by simp, fun x c r n => ?_, fun x c r => ?_⟩
  · rw [Array.getElem?_setIfInBounds, if_neg (fun e => n (by rw [e]; exact List.mem_singleton.mpr rfl))]; exact r
  · rw [Array.getElem?_setIfInBounds]
    by_cases e : b = x
    · subst e
      cases q.symm.trans r
      exact ⟨cd, by simp [hb], h1, h2, h3⟩
    · exact ⟨c, by rw [if_neg e]; exact r, rfl, rfl, rfl⟩
theorem own_getD {c : Cell} {xs : List Value} (e : c.slots = xs.toArray) (i : Nat) : c.slots.getD i .null = xs.getD i .null := by
  rw [e]; simp [List.getD_eq_getElem?_getD, Array.getD_eq_getD_getElem?]
theorem own_copied {ca cb : Cell} {xs zs ys : List Value} {sp n : Int32} (ea : ca.slots = xs.toArray) (eb : cb.slots = zs.toArray) (h4 : zs.length = n.toNatClampNeg) (hy : (List.range n.toNatClampNeg).map (fun i => xs.getD (sp.toNatClampNeg + i) .null) = ys) : (copied ca cb sp 0 n).slots = ys.toArray := by
  have sz : cb.slots.size = n.toNatClampNeg := by rw [Ary.size eb, h4]
  have est : ca.stretch sp.toNatClampNeg n.toNatClampNeg = ys := by rw [← hy]; unfold Cell.stretch; exact List.map_congr_left fun i _ => own_getD ea _
  apply Array.ext_getElem?
  intro j
  show (cb.storeRun (0 : Int32).toNatClampNeg (ca.stretch sp.toNatClampNeg n.toNatClampNeg)).slots[j]? = _
  have hl : (ca.stretch sp.toNatClampNeg n.toNatClampNeg).length = n.toNatClampNeg := Cell.stretch_length _ _ _
  have z0 : (0 : Int32).toNatClampNeg = 0 := rfl
  rw [Cell.storeRun_get _ _ _ _ (by rw [hl, sz, z0]; omega), hl, z0]
  by_cases q : j < n.toNatClampNeg
  · rw [if_pos ⟨Nat.zero_le _, by omega⟩, est]; simp
  · rw [if_neg (by omega), Array.getElem?_eq_none (by omega)]
    have : ys.length = n.toNatClampNeg := by rw [← est, hl]
    simp [List.getElem?_eq_none (show ys.length ≤ j by omega)]
theorem w_cpB (X : Sd Z n0 kk code ml own nm ret h p l e R s m args below meth c T locs cells slots) {index : Nat} (hd : Dc code pc (.invokestatic index) 3 pc') (w1 : (Cond.methodLink own index Jvm.Stand.acN).before a0 Z = true) (w2 : (Cond.native Jvm.Stand.acN).before a0 Z = true) (w3 : (Cond.static Jvm.Stand.acN).before a0 Z = true) (w4 : (Cond.initialized "java/lang/System").before a0 Z = true) {a b : Addr} {ty : FieldType} (hty : refKind ty = false) {xs zs : List Value} {sp n : Int32} (ys : List Value) (A : Ary Z h a ty xs) (B : Ary Z h b ty zs) (gb : n0 ≤ b) (h1 : ¬ sp < 0) (h2 : ¬ n < 0) (h3 : sp.toNatClampNeg + n.toNatClampNeg ≤ xs.length) (h4 : zs.length = n.toNatClampNeg) (hy : (List.range n.toNatClampNeg).map (fun i => xs.getD (sp.toNatClampNeg + i) .null) = ys) (hsz : L.size = ml) (hf : 1 ≤ R.frames) (hl : (S.map fun v => v.category).sum + (nativeFrameWords "java/lang/System" "arraycopy" 5 + 11) ≤ R.locals) (K : ∀ T' h' L', Sd Z n0 kk code ml own nm ret h' p l e R s m args below meth c T' (locs ++ L') cells slots → Keep h h' [b] → Ary Z h' b ty ys → Wp p e below P (T'.setTop (mkF m pc' L S))) : Wp p e below P (T.setTop (mkF m pc L (.int n :: .int (0 : Int32) :: .ref b :: .int sp :: .ref a :: S))) := by
  obtain ⟨hd, rfl⟩ := hd
  obtain ⟨ca, A, ea, la, fa⟩ := A
  obtain ⟨cb, B, eb, lb, fb⟩ := B
  obtain ⟨os, ks, hks, sc, hsk⟩ := State.isArrayOf_alike X.hZ.alike A.2.1
  obtain ⟨od, kd, hkd, dc, hdk⟩ := State.isArrayOf_alike X.hZ.alike B.2.1
  have e1 : sp.toInt = sp.toNatClampNeg := by rw [Int32.lt_iff_toInt_lt, show (0 : Int32).toInt = 0 from rfl] at h1; simp only [Int32.toNatClampNeg]; omega
  have e2 : n.toInt = n.toNatClampNeg := by rw [Int32.lt_iff_toInt_lt, show (0 : Int32).toInt = 0 from rfl] at h2; simp only [Int32.toNatClampNeg]; omega
  have fx : ∀ i, i < n.toNatClampNeg → fits ty (xs.getD (sp.toNatClampNeg + i) .null) = true := fun i hi => by
    have q : sp.toNatClampNeg + i < xs.length := by omega
    rw [List.getD_eq_getElem?_getD, List.getElem?_eq_getElem q]
    exact fa _ (List.getElem_mem q)
  obtain ⟨vm1, hW, X', st⟩ := X.st.arraycopyK X.hx X.hown (mvT X.hZ w1) (mvT X.hZ w2) (mvT X.hZ w3) (mvT X.hZ w4) (src := a) (dst := b) (srcPos := sp) (destPos := 0) (n := n) (by rw [X.eh]; exact A.1) (by rw [X.eh]; exact B.1) os od A.2.2 B.2.2 hks hkd hsk hdk (by simp) h1 (by decide) h2 (by rw [e1, e2, Ary.size ea]; omega) (by rw [e2, Ary.size eb, h4, show (0 : Int32).toInt = 0 from rfl]; omega)
    (fun _ _ i hi => by rw [own_getD ea]; exact ⟨fx i hi, State.takes_of_prim _ _ hty (fx i hi)⟩) (g := mkF m pc L (.int n :: .int (0 : Int32) :: .ref b :: .int sp :: .ref a :: S)) rfl (by rw [X.hml]; exact hsz) rfl (X.hb hd) hf (by show 2 * 0 + _ + _ ≤ _; omega)
  obtain ⟨f1, f2, f3, -⟩ := Cell.storeRun_facts cb (0 : Int32).toNatClampNeg (ca.stretch sp.toNatClampNeg n.toNatClampNeg)
  have Kp : Keep h (h.setIfInBounds b (copied ca cb sp 0 n)) [b] := own_setKeep B.1 f1 f2 f3
  have hb := (Array.getElem?_eq_some_iff.mp B.1).1
  have eh' : ((T.setVm vm1).setCell b (copied ca cb sp 0 n)).heap = h.setIfInBounds b (copied ca cb sp 0 n) := by
    show T.heap.setIfInBounds b _ = _
    rw [X.eh]
  refine Wp.of st (K _ _ _ (X.mk' X' eh' (X.fr.app fun y hy => by obtain ⟨i, -, rfl⟩ := List.mem_map.mp hy; exact gb) (X.old.keep Kp fun x hx => by cases List.mem_singleton.mp hx; exact gb) Kp.1) Kp ⟨copied ca cb sp 0 n, ⟨by rw [Array.getElem?_setIfInBounds, if_pos rfl]; simp [hb], ⟨by rw [f2]; exact B.2.1.1, by rw [f1]; exact B.2.1.2⟩, by rw [f2]; exact B.2.2⟩, own_copied ea eb h4 hy, ?_, fun v hv => ?_⟩)
  · rw [← hy, List.length_map, List.length_range, ← h4]; exact lb
  · rw [← hy] at hv
    obtain ⟨i, hi, rfl⟩ := List.mem_map.mp hv
    exact fx i (List.mem_range.mp hi)
end StepsB
end Jvm.RoadKit
namespace Jvm.RoadKit
theorem own_eqI {args : Array Value} {first s : State} {o : Option Outcome} {idx : List Nat} {a b : Term} {x y : Int32} (ha : a.eval args first o idx s = some (.int x)) (hb : b.eval args first o idx s = some (.int y)) : (Cond.eq a b).value args first o s idx = some (decide (x = y)) := by simp [Cond.value, ha, hb]
end Jvm.RoadKit
namespace Jvm.Pilot.@@N@@
open Jvm Jvm.ClassFile Sem Op Lib Jvm.Free Jvm.Stand Jvm.LawKit Jvm.RoadKit Bundle Jvm.Pilot.@@N@@.Jvm.D
def own_hw (a0 : Array Value) (Z : State) : Prop := ∀ d ∈ tables_1, d.before a0 Z = true
def own_at (d : Jvm.Cond) : Prop := ∀ {a0 : Array Value} {Z : State}, own_hw a0 Z → d.before a0 Z = true
theorem own_mk (i : Nat) {d : Jvm.Cond} (h : tables_1[i]? = some d) : own_at d := fun hw => hw _ (List.mem_of_getElem? h)
theorem leR {a b : Nat} (h : Nat.ble a b = true) : a ≤ b := Nat.le_of_ble_eq_true h
def own_S (Z : State) (zc : Int32) (fm : Value) : Prop := Sta Z Z.heap "java/lang/String" "COMPACT_STRINGS" "Z" (.int zc) ∧ (¬ zc = 0) ∧ Sta Z Z.heap "jdk/internal/util/Preconditions" "SIOOBE_FORMATTER" "Ljava/util/function/BiFunction;" fm ∧ fm.isRef = true
theorem own_nar_c (x : Int32) : nar .char (x.toUInt32.toUInt16.toUInt32.toInt32) = x.toUInt32.toUInt16.toUInt32.toInt32 := by
  show ((x.toUInt32.toUInt16.toUInt32.toInt32).toUInt32.toUInt16.toUInt32.toInt32) = _
  simp only [UInt32.toUInt32_toInt32, UInt16.toUInt16_toUInt32]
theorem own_nar_b (x : Int32) : nar .byte (x.toInt8.toInt32) = x.toInt8.toInt32 := by
  show (x.toInt8.toInt32).toInt8.toInt32 = _
  simp
def own_minI (x y : Int32) : Int32 := if y < x then y else x
/-- a String of that coder whose bytes are vs -/
def Lat (Z : State) (h : Heap) (a t : Addr) (k : Int32) (vs : List Value) : Prop := Exa Z h a "java/lang/String" ∧ Fld Z h a "java/lang/String" "coder" "B" (.int k) ∧ Fld Z h a "java/lang/String" "value" "[B" (.ref t) ∧ Ary Z h t .byte vs
theorem Lat.ext {Z : State} {h h' : Heap} {a t : Addr} {k : Int32} {vs : List Value} (M : Lat Z h a t k vs) (E : Ext h h') : Lat Z h' a t k vs := ⟨M.1.ext E, M.2.1.ext E, M.2.2.1.ext E, M.2.2.2.ext E⟩
theorem Lat.keep {Z : State} {h h' : Heap} {a t : Addr} {k : Int32} {vs : List Value} {ws : List Addr} (M : Lat Z h a t k vs) (K : Keep h h' ws) (q1 : a ∉ ws) (q2 : t ∉ ws) : Lat Z h' a t k vs := ⟨M.1.keep K, M.2.1.keep K q1, M.2.2.1.keep K q1, M.2.2.2.keep K q2⟩
/-- UTF_8, and the constants' words -/
def own_C (Z : State) (u8 : Addr) : Prop := Sta Z Z.heap "java/nio/charset/StandardCharsets" "UTF_8" "Ljava/nio/charset/Charset;" (.ref u8) ∧ Sta Z Z.heap "sun/nio/cs/UTF_8" "INSTANCE" "Lsun/nio/cs/UTF_8;" (.ref u8) ∧ Exa Z Z.heap u8 "sun/nio/cs/UTF_8"
theorem own_le255 (x : Int32) : ¬ (255 : Int32) < (x &&& (255 : Int32)).toUInt32.toUInt16.toUInt32.toInt32 := by
  have h := Jvm.Kit.i32_mask x 255 (k := 8) (by decide) (by decide)
  have q := c_i2c (x &&& (255 : Int32))
  rw [Int32.lt_iff_toInt_lt, show (255 : Int32).toInt = 255 from rfl]
  omega
theorem own_ofN {v : Int32} {k : Nat} (h0 : 0 ≤ v.toInt) (h1 : v.toInt < k) : ∃ n : Fin k, v = Int32.ofNat n.val := by
  refine ⟨⟨v.toInt.toNat, by omega⟩, ?_⟩
  apply Int32.toInt_inj.mp
  have := v.toInt_lt
  rw [Int32.toInt_ofNat', show Int32.size = 4294967296 from rfl]
  rw [Int.bmod_eq_of_le (by simp only; omega) (by simp only; omega)]
  simp only; omega
theorem own_xorN (a b i : Nat) (hb : b < 2 ^ i) : (2 ^ i * a) ^^^ b = 2 ^ i * a + b := by
  apply Nat.eq_of_testBit_eq
  intro j
  rw [Nat.testBit_xor, Nat.testBit_two_pow_mul_add a hb, Nat.testBit_two_pow_mul]
  by_cases q : j < i
  · simp [q, Nat.not_le.mpr q]
  · rw [if_neg q, Nat.testBit_lt_two_pow (Nat.lt_of_lt_of_le hb (Nat.pow_le_pow_right (by decide) (Nat.le_of_not_lt q)))]
    simp [Nat.le_of_not_lt q]
theorem own_xor {x y : Int32} (a i : Nat) (hx : x.toInt = 2 ^ i * a) (hy0 : 0 ≤ y.toInt) (hy : y.toInt < 2 ^ i) : (x ^^^ y).toInt = x.toInt + y.toInt ∨ 2147483648 ≤ x.toInt + y.toInt := by
  by_cases q : 2147483648 ≤ x.toInt + y.toInt
  · exact Or.inr q
  refine Or.inl ?_
  have ex : x.toBitVec.toNat = 2 ^ i * a := by
    have : x.toBitVec.toInt = ((2 ^ i * a : Nat) : Int) := by rw [show x.toBitVec.toInt = x.toInt from rfl, hx]; simp
    rw [BitVec.toInt_eq_toNat_cond] at this
    have := x.toBitVec.isLt
    split at * <;> omega
  have ey : (y.toBitVec.toNat : Int) = y.toInt := by
    have : y.toBitVec.toInt = y.toInt := rfl
    rw [BitVec.toInt_eq_toNat_cond] at this
    have := y.toBitVec.isLt
    split at * <;> omega
  have e : (x ^^^ y).toBitVec.toNat = 2 ^ i * a + y.toBitVec.toNat := by
    rw [Int32.toBitVec_xor, BitVec.toNat_xor, ex]
    exact own_xorN a _ i (by have : (y.toBitVec.toNat : Int) < ((2 ^ i : Nat) : Int) := by rw [ey]; simpa using hy
                             exact Int.ofNat_lt.mp this)
  have : (x ^^^ y).toInt = (x ^^^ y).toBitVec.toInt := rfl
  rw [this, BitVec.toInt_eq_toNat_of_lt (by rw [e]; have : ((2 ^ i * a : Nat) : Int) = x.toInt := by rw [hx]; simp
                                            omega), e]
  have : ((2 ^ i * a : Nat) : Int) = x.toInt := by rw [hx]; simp
  omega
theorem own_dx2 : ∀ n : Fin 32, 1 < n.val → (((192 : Int32) ||| Int32.ofNat n.val).toInt8.toInt32 < 0 ∧ (((192 : Int32) ||| Int32.ofNat n.val).toInt8.toInt32 >>> ((5 : Int32) &&& 31)) = (-2 : Int32) ∧ ¬ (((192 : Int32) ||| Int32.ofNat n.val).toInt8.toInt32 &&& (30 : Int32)) = 0 ∧ (((192 : Int32) ||| Int32.ofNat n.val).toInt8.toInt32 <<< ((6 : Int32) &&& 31)) = (-4096 : Int32) ^^^ Int32.ofNat (64 * n.val) ∧ ((((192 : Int32) ||| Int32.ofNat n.val).toInt8.toInt32 &&& (254 : Int32)) = (194 : Int32) ↔ n.val < 4)) := by decide
theorem own_dy : ∀ n : Fin 64, ((((128 : Int32) ||| Int32.ofNat n.val).toInt8.toInt32 &&& (192 : Int32)) = (128 : Int32) ∧ ((128 : Int32) ||| Int32.ofNat n.val).toInt8.toInt32 < (-64 : Int32) ∧ ((128 : Int32) ||| Int32.ofNat n.val).toInt8.toInt32 = (-128 : Int32) ^^^ Int32.ofNat n.val ∧ (((128 : Int32) ||| Int32.ofNat n.val).toInt8.toInt32 <<< ((6 : Int32) &&& 31)) = (-8192 : Int32) ^^^ Int32.ofNat (64 * n.val) ∧ (31 < n.val → ¬ (((128 : Int32) ||| Int32.ofNat n.val).toInt8.toInt32 &&& (224 : Int32)) = (128 : Int32))) := by decide
theorem own_dx3 : ∀ n : Fin 14, (((224 : Int32) ||| Int32.ofNat n.val).toInt8.toInt32 < 0 ∧ ¬ (((224 : Int32) ||| Int32.ofNat n.val).toInt8.toInt32 &&& (254 : Int32)) = (194 : Int32) ∧ ¬ (((224 : Int32) ||| Int32.ofNat n.val).toInt8.toInt32 >>> ((5 : Int32) &&& 31)) = (-2 : Int32) ∧ (((224 : Int32) ||| Int32.ofNat n.val).toInt8.toInt32 >>> ((4 : Int32) &&& 31)) = (-2 : Int32) ∧ (((224 : Int32) ||| Int32.ofNat n.val).toInt8.toInt32 = (-32 : Int32) → n.val = 0) ∧ (((224 : Int32) ||| Int32.ofNat n.val).toInt8.toInt32 <<< ((12 : Int32) &&& 31)) = (-131072 : Int32) ^^^ Int32.ofNat (4096 * n.val)) := by decide
theorem own_nI (n : Nat) (h : n < 65536) : (Int32.ofNat n).toInt = n := by
  rw [Int32.toInt_ofNat', show Int32.size = 4294967296 from rfl, Int.bmod_eq_of_le (by omega) (by omega)]
theorem own_x2 (k1 k2 x y : Int32) (h : k1 ^^^ k2 ^^^ (3968 : Int32) = 0) : ((k1 ^^^ x) ^^^ (k2 ^^^ y)) ^^^ (3968 : Int32) = x ^^^ y := by
  have : ((k1 ^^^ x) ^^^ (k2 ^^^ y)) ^^^ (3968 : Int32) = (k1 ^^^ k2 ^^^ (3968 : Int32)) ^^^ (x ^^^ y) := by ac_rfl
  rw [this, h, Int32.zero_xor]
theorem own_x3 (k1 k2 k3 k x y z : Int32) (h : k1 ^^^ k2 ^^^ k3 ^^^ k = 0) : ((k1 ^^^ x) ^^^ (k2 ^^^ y)) ^^^ ((k3 ^^^ z) ^^^ k) = (x ^^^ y) ^^^ z := by
  have : ((k1 ^^^ x) ^^^ (k2 ^^^ y)) ^^^ ((k3 ^^^ z) ^^^ k) = (k1 ^^^ k2 ^^^ k3 ^^^ k) ^^^ ((x ^^^ y) ^^^ z) := by ac_rfl
  rw [this, h, Int32.zero_xor]
theorem own_ch {x : Int32} (h0 : 0 ≤ x.toInt) (h1 : x.toInt < 65536) : x.toUInt32.toUInt16.toUInt32.toInt32 = x := by
  apply Int32.toInt_inj.mp
  have q := c_i2c x
  omega
theorem own_n2 {cp : Int32} (lo : 128 ≤ cp.toInt) (hi : cp.toInt ≤ 2047) : (((192 : Int32) ||| (cp >>> ((6 : Int32) &&& 31))).toInt8.toInt32) < 0 ∧ ((((192 : Int32) ||| (cp >>> ((6 : Int32) &&& 31))).toInt8.toInt32) >>> ((5 : Int32) &&& 31)) = (-2 : Int32) ∧ ¬ ((((192 : Int32) ||| (cp >>> ((6 : Int32) &&& 31))).toInt8.toInt32) &&& (30 : Int32)) = 0 ∧ ((((128 : Int32) ||| (cp &&& (63 : Int32))).toInt8.toInt32) &&& (192 : Int32)) = (128 : Int32) ∧ (((((((192 : Int32) ||| (cp >>> ((6 : Int32) &&& 31))).toInt8.toInt32) <<< ((6 : Int32) &&& 31)) ^^^ (((128 : Int32) ||| (cp &&& (63 : Int32))).toInt8.toInt32)) ^^^ (3968 : Int32)).toUInt32.toUInt16.toUInt32.toInt32) = cp ∧ (((128 : Int32) ||| (cp &&& (63 : Int32))).toInt8.toInt32) < (-64 : Int32) := by
  have e6 : (cp >>> ((6 : Int32) &&& 31)).toInt = cp.toInt / 64 := Jvm.Kit.i32_shr cp _ (k := 6) (by decide)
  have e0 : (cp &&& (63 : Int32)).toInt = cp.toInt % 64 := Jvm.Kit.i32_mask cp 63 (k := 6) (by decide) (by decide)
  obtain ⟨x, hx⟩ := own_ofN (k := 32) (v := cp >>> ((6 : Int32) &&& 31)) (by omega) (by omega)
  obtain ⟨z, hz⟩ := own_ofN (k := 64) (v := cp &&& (63 : Int32)) (by omega) (by omega)
  have nx := own_nI x.val (by omega); have nz := own_nI z.val (by omega); have n6 := own_nI (64 * x.val) (by omega)
  rw [hx] at e6 ⊢
  rw [hz] at e0 ⊢
  obtain ⟨a1, a2, a3, a4, -⟩ := own_dx2 x (by omega)
  obtain ⟨b1, b2, b3, -, -⟩ := own_dy z
  refine ⟨a1, a2, a3, b1, ?_, b2⟩
  rw [a4, b3, own_x2 _ _ _ _ (by decide)]
  have q := own_xor (x := Int32.ofNat (64 * x.val)) (y := Int32.ofNat z.val) x.val 6 (by rw [n6]; omega) (by omega) (by omega)
  have e : Int32.ofNat (64 * x.val) ^^^ Int32.ofNat z.val = cp := Int32.toInt_inj.mp (by omega)
  rw [e]; exact own_ch (by omega) (by omega)
theorem own_n2l {cp : Int32} (lo : 128 ≤ cp.toInt) (hl : ¬ (255 : Int32) < cp) : ((((192 : Int32) ||| (cp >>> ((6 : Int32) &&& 31))).toInt8.toInt32) &&& (254 : Int32)) = (194 : Int32) := by
  rw [Int32.lt_iff_toInt_lt, show (255 : Int32).toInt = 255 from rfl] at hl
  have e6 : (cp >>> ((6 : Int32) &&& 31)).toInt = cp.toInt / 64 := Jvm.Kit.i32_shr cp _ (k := 6) (by decide)
  obtain ⟨x, hx⟩ := own_ofN (k := 32) (v := cp >>> ((6 : Int32) &&& 31)) (by omega) (by omega)
  have nx := own_nI x.val (by omega)
  rw [hx] at e6 ⊢
  exact (own_dx2 x (by omega)).2.2.2.2.mpr (by omega)
theorem own_n2u {cp : Int32} (hi : cp.toInt ≤ 2047) (hl : (255 : Int32) < cp) : ¬ ((((192 : Int32) ||| (cp >>> ((6 : Int32) &&& 31))).toInt8.toInt32) &&& (254 : Int32)) = (194 : Int32) := by
  rw [Int32.lt_iff_toInt_lt, show (255 : Int32).toInt = 255 from rfl] at hl
  have e6 : (cp >>> ((6 : Int32) &&& 31)).toInt = cp.toInt / 64 := Jvm.Kit.i32_shr cp _ (k := 6) (by decide)
  obtain ⟨x, hx⟩ := own_ofN (k := 32) (v := cp >>> ((6 : Int32) &&& 31)) (by omega) (by omega)
  have nx := own_nI x.val (by omega)
  rw [hx] at e6 ⊢
  intro r
  have := (own_dx2 x (by omega)).2.2.2.2.mp r
  omega
theorem own_n3 {cp : Int32} (lo : 2048 ≤ cp.toInt) (hi : cp.toInt ≤ 55295) : ¬ ((((224 : Int32) ||| (cp >>> ((12 : Int32) &&& 31))).toInt8.toInt32) &&& (254 : Int32)) = (194 : Int32) ∧ (((224 : Int32) ||| (cp >>> ((12 : Int32) &&& 31))).toInt8.toInt32) < 0 ∧ ¬ ((((224 : Int32) ||| (cp >>> ((12 : Int32) &&& 31))).toInt8.toInt32) >>> ((5 : Int32) &&& 31)) = (-2 : Int32) ∧ ((((224 : Int32) ||| (cp >>> ((12 : Int32) &&& 31))).toInt8.toInt32) >>> ((4 : Int32) &&& 31)) = (-2 : Int32) ∧ ((((224 : Int32) ||| (cp >>> ((12 : Int32) &&& 31))).toInt8.toInt32) = (-32 : Int32) → ¬ ((((128 : Int32) ||| ((cp >>> ((6 : Int32) &&& 31)) &&& (63 : Int32))).toInt8.toInt32) &&& (224 : Int32)) = (128 : Int32)) ∧ ((((128 : Int32) ||| ((cp >>> ((6 : Int32) &&& 31)) &&& (63 : Int32))).toInt8.toInt32) &&& (192 : Int32)) = (128 : Int32) ∧ ((((128 : Int32) ||| (cp &&& (63 : Int32))).toInt8.toInt32) &&& (192 : Int32)) = (128 : Int32) ∧ (((((((224 : Int32) ||| (cp >>> ((12 : Int32) &&& 31))).toInt8.toInt32) <<< ((12 : Int32) &&& 31)) ^^^ ((((128 : Int32) ||| ((cp >>> ((6 : Int32) &&& 31)) &&& (63 : Int32))).toInt8.toInt32) <<< ((6 : Int32) &&& 31))) ^^^ ((((128 : Int32) ||| (cp &&& (63 : Int32))).toInt8.toInt32) ^^^ (-123008 : Int32))).toUInt32.toUInt16.toUInt32.toInt32) = cp := by
  have e12 : (cp >>> ((12 : Int32) &&& 31)).toInt = cp.toInt / 4096 := Jvm.Kit.i32_shr cp _ (k := 12) (by decide)
  have e6 : (cp >>> ((6 : Int32) &&& 31)).toInt = cp.toInt / 64 := Jvm.Kit.i32_shr cp _ (k := 6) (by decide)
  have e66 : ((cp >>> ((6 : Int32) &&& 31)) &&& (63 : Int32)).toInt = cp.toInt / 64 % 64 := by rw [← e6]; exact Jvm.Kit.i32_mask _ 63 (k := 6) (by decide) (by decide)
  have e0 : (cp &&& (63 : Int32)).toInt = cp.toInt % 64 := Jvm.Kit.i32_mask cp 63 (k := 6) (by decide) (by decide)
  obtain ⟨x, hx⟩ := own_ofN (k := 14) (v := cp >>> ((12 : Int32) &&& 31)) (by omega) (by omega)
  obtain ⟨y, hy⟩ := own_ofN (k := 64) (v := (cp >>> ((6 : Int32) &&& 31)) &&& (63 : Int32)) (by omega) (by omega)
  obtain ⟨z, hz⟩ := own_ofN (k := 64) (v := cp &&& (63 : Int32)) (by omega) (by omega)
  have nx := own_nI x.val (by omega); have ny := own_nI y.val (by omega); have nz := own_nI z.val (by omega); have n12 := own_nI (4096 * x.val) (by omega); have n6 := own_nI (64 * y.val) (by omega)
  rw [hx] at e12 ⊢
  rw [hy] at e66 ⊢
  rw [hz] at e0 ⊢
  obtain ⟨a1, a2, a3, a4, a5, a6⟩ := own_dx3 x
  obtain ⟨b1, -, -, b4, b5⟩ := own_dy y
  obtain ⟨c1, -, c3, -, -⟩ := own_dy z
  refine ⟨a2, a1, a3, a4, fun r => b5 (by have := a5 r; omega), b1, c1, ?_⟩
  rw [a6, b4, c3, own_x3 _ _ _ _ _ _ _ (by decide)]
  have q := own_xor (x := Int32.ofNat (4096 * x.val)) (y := Int32.ofNat (64 * y.val)) x.val 12 (by rw [n12]; omega) (by omega) (by omega)
  have q2 := own_xor (x := Int32.ofNat (4096 * x.val) ^^^ Int32.ofNat (64 * y.val)) (y := Int32.ofNat z.val) (64 * x.val + y.val) 6 (by omega) (by omega) (by omega)
  have e : (Int32.ofNat (4096 * x.val) ^^^ Int32.ofNat (64 * y.val)) ^^^ Int32.ofNat z.val = cp := Int32.toInt_inj.mp (by omega)
  rw [e]; exact own_ch (by omega) (by omega)
theorem own_lt55 {cp : Int32} (hi : cp.toInt ≤ 55295) : cp < (55296 : Int32) := by rw [Int32.lt_iff_toInt_lt, show (55296 : Int32).toInt = 55296 from rfl]; omega
theorem own_gt255 {cp : Int32} (hi : 255 < cp.toInt) : (255 : Int32) < cp := by rw [Int32.lt_iff_toInt_lt, show (255 : Int32).toInt = 255 from rfl]; omega
theorem own_m7 (x : Int32) : 0 ≤ (x &&& (127 : Int32)).toInt ∧ (x &&& (127 : Int32)).toInt < 128 := by rw [Jvm.Kit.i32_mask x 127 (k := 7) (by decide) (by decide)]; omega
theorem own_c7 (x : Int32) : (x &&& (127 : Int32)).toUInt32.toUInt16.toUInt32.toInt32 = x &&& (127 : Int32) := own_ch (own_m7 x).1 (by have := own_m7 x; omega)
theorem own_le127 (x : Int32) : ¬ (255 : Int32) < (x &&& (127 : Int32)).toUInt32.toUInt16.toUInt32.toInt32 := by
  rw [own_c7, Int32.lt_iff_toInt_lt, show (255 : Int32).toInt = 255 from rfl]; have := own_m7 x; omega
theorem own_d7 : ∀ n : Fin 128, ¬ (Int32.ofNat n.val).toInt8.toInt32 < 0 := by decide
theorem own_p7 (x : Int32) : ¬ (x &&& (127 : Int32)).toInt8.toInt32 < 0 := by
  obtain ⟨n, hn⟩ := own_ofN (k := 128) (own_m7 x).1 (own_m7 x).2
  rw [hn]; exact own_d7 n
theorem own_msk (x : Int32) : 0 ≤ (x &&& (2147483647 : Int32)).toInt := by rw [Jvm.Kit.i32_mask x 2147483647 (k := 31) (by decide) (by decide)]; omega
theorem own_cp2 (x : Int32) : 128 ≤ ((128 : Int32) + ((x &&& (2147483647 : Int32)) % (1920 : Int32))).toInt ∧ ((128 : Int32) + ((x &&& (2147483647 : Int32)) % (1920 : Int32))).toInt ≤ 2047 := by
  have e : ((x &&& (2147483647 : Int32)) % (1920 : Int32)).toInt = (x &&& (2147483647 : Int32)).toInt % 1920 := Jvm.Kit.i32_rem_nonneg (own_msk x)
  have a := Jvm.Kit.i32_add (p := 128) (q := (x &&& (2147483647 : Int32)) % (1920 : Int32)) (by rw [e, show (128 : Int32).toInt = 128 from rfl]; omega) (by rw [e, show (128 : Int32).toInt = 128 from rfl]; omega)
  rw [a, e, show (128 : Int32).toInt = 128 from rfl]; omega
theorem own_cp3 (x : Int32) : 2048 ≤ ((2048 : Int32) + ((x &&& (2147483647 : Int32)) % (53248 : Int32))).toInt ∧ ((2048 : Int32) + ((x &&& (2147483647 : Int32)) % (53248 : Int32))).toInt ≤ 55295 := by
  have e : ((x &&& (2147483647 : Int32)) % (53248 : Int32)).toInt = (x &&& (2147483647 : Int32)).toInt % 53248 := Jvm.Kit.i32_rem_nonneg (own_msk x)
  have a := Jvm.Kit.i32_add (p := 2048) (q := (x &&& (2147483647 : Int32)) % (53248 : Int32)) (by rw [e, show (2048 : Int32).toInt = 2048 from rfl]; omega) (by rw [e, show (2048 : Int32).toInt = 2048 from rfl]; omega)
  rw [a, e, show (2048 : Int32).toInt = 2048 from rfl]; omega
theorem own_e47 {c : Int32} (h : c = (47 : Int32)) : c.toInt8.toInt32 = (47 : Int32) := by rw [h]; decide
theorem own_d47 : ∀ n : Fin 256, (Int32.ofNat n.val).toInt8.toInt32 = (47 : Int32) → n.val = 47 := by decide
theorem own_f47 {c : Int32} (hc : nar .char c = c) (hl : ¬ (255 : Int32) < c) (h : ¬ c = (47 : Int32)) : ¬ c.toInt8.toInt32 = (47 : Int32) := by
  rw [Int32.lt_iff_toInt_lt, show (255 : Int32).toInt = 255 from rfl] at hl
  have r := own_chr hc
  obtain ⟨n, hn⟩ := own_ofN (k := 256) (v := c) (by omega) (by omega)
  rw [hn] at h ⊢
  intro q
  have := own_d47 n q
  rw [this] at h
  exact h rfl
def own_U (Z : State) (zc : Int32) (fm : Value) : Prop := own_S Z zc fm ∧ Sta Z Z.heap "java/lang/StringUTF16" "$assertionsDisabled" "Z" (.int (1 : Int32)) ∧ Sta Z Z.heap "java/lang/StringUTF16" "HI_BYTE_SHIFT" "I" (.int (0 : Int32)) ∧ Sta Z Z.heap "java/lang/StringUTF16" "LO_BYTE_SHIFT" "I" (.int (8 : Int32))
theorem own_stI {s : State} {args : Array Value} {C n d : String} {o : Int32} (h : (Jvm.Cond.eq (Jvm.Term.static C n d) (Jvm.Term.int o)).value args s none s [] = some true) (hi : (Jvm.Cond.initializedFor C n d).before args s = true ∨ ((Jvm.Cond.initialized C).before args s = true ∧ (Jvm.Cond.laysStatic C n d).before args s = true)) : Sta s s.heap C n d (.int o) := by
  obtain ⟨x, y, h1, h2, k1, k2⟩ := cmp_v (Or.inl h)
  cases h2
  cases x <;> first | (obtain ⟨z, hz⟩ := k2; cases hz; done) | skip
  rename_i z
  have q := gotT (Jvm.RoadKit.own_eqI h1 rfl) h
  subst q
  exact Sta.start h1 hi
theorem own_eqR {args : Array Value} {first s : State} {o : Option Outcome} {idx : List Nat} {a b : Jvm.Term} {x y : Addr} (ha : a.eval args first o idx s = some (.ref x)) (hb : b.eval args first o idx s = some (.ref y)) (h : (Jvm.Cond.eq a b).value args first o s idx = some true) : x = y := by simpa [Jvm.Cond.value, ha, hb] using h
theorem wd_0 : own_at (Cond.constant "com/example/reasoned_retry/reasonedretry/FailureOfPinLaw" 18 (2147483647 : Int32)) := own_mk 0 rfl
theorem wd_1 : own_at (Cond.arrayClass FieldType.byte) := own_mk 1 rfl
theorem wd_2 : own_at (Cond.stringLink "com/example/reasoned_retry/reasonedretry/FailureOfPinLaw" 7 "") := own_mk 2 rfl
theorem wd_3 : own_at (Cond.initialized "java/lang/String") := own_mk 3 rfl
theorem wd_4 : own_at (Cond.instantiable "java/lang/String" 4) := own_mk 4 rfl
theorem wd_5 : own_at (Cond.laysFinal "java/lang/String" "java/lang/String" "value" "[B") := own_mk 5 rfl
theorem wd_6 : own_at (Cond.laysFinal "java/lang/String" "java/lang/String" "coder" "B") := own_mk 6 rfl
theorem wd_7 : own_at (Cond.soleField "java/lang/String" "value") := own_mk 7 rfl
theorem wd_8 : own_at (Cond.soleField "java/lang/String" "coder") := own_mk 8 rfl
theorem wd_9 : own_at (Cond.methodLink "com/example/reasoned_retry/reasonedretry/FailureOfPinLaw" 20 ⟨"com/example/reasoned_retry/reasonedretry/Classifier$Failure", "of", "(Ljava/lang/String;I[B)Lcom/example/reasoned_retry/reasonedretry/Classifier$Failure;"⟩) := own_mk 9 rfl
theorem wd_10 : own_at (Cond.static ⟨"com/example/reasoned_retry/reasonedretry/Classifier$Failure", "of", "(Ljava/lang/String;I[B)Lcom/example/reasoned_retry/reasonedretry/Classifier$Failure;"⟩) := own_mk 10 rfl
theorem wd_11 : own_at (Cond.initialized "com/example/reasoned_retry/reasonedretry/Classifier$Failure") := own_mk 11 rfl
theorem wd_12 : own_at (Cond.code ⟨"com/example/reasoned_retry/reasonedretry/Classifier$Failure", "of", "(Ljava/lang/String;I[B)Lcom/example/reasoned_retry/reasonedretry/Classifier$Failure;"⟩ prog_6_method_2_code 4 (Option.some (FieldType.object "com/example/reasoned_retry/reasonedretry/Classifier$Failure"))) := own_mk 12 rfl
theorem wd_13 : own_at (Cond.classLink "com/example/reasoned_retry/reasonedretry/Classifier$Failure" 16 "com/example/reasoned_retry/reasonedretry/Classifier$Failure") := own_mk 13 rfl
theorem wd_14 : own_at (Cond.instantiable "com/example/reasoned_retry/reasonedretry/Classifier$Failure" 3) := own_mk 14 rfl
theorem wd_15 : own_at (Cond.classLink "com/example/reasoned_retry/reasonedretry/Classifier$Failure" 28 "java/lang/String") := own_mk 15 rfl
theorem wd_16 : own_at (Cond.fieldLink "com/example/reasoned_retry/reasonedretry/Classifier$Failure" 37 "java/nio/charset/StandardCharsets" "UTF_8" "Ljava/nio/charset/Charset;") := own_mk 16 rfl
theorem wd_18 : own_at (Cond.methodLink "com/example/reasoned_retry/reasonedretry/Classifier$Failure" 43 ⟨"java/lang/String", "<init>", "([BLjava/nio/charset/Charset;)V"⟩) := own_mk 18 rfl
theorem wd_19 : own_at (Cond.instanceMethod ⟨"java/lang/String", "<init>", "([BLjava/nio/charset/Charset;)V"⟩) := own_mk 19 rfl
theorem wd_20 : own_at (Cond.code ⟨"java/lang/String", "<init>", "([BLjava/nio/charset/Charset;)V"⟩ jdk_42_method_49_code 3 none) := own_mk 20 rfl
theorem wd_21 : own_at (Cond.methodLink "java/lang/String" 78 ⟨"java/util/Objects", "requireNonNull", "(Ljava/lang/Object;)Ljava/lang/Object;"⟩) := own_mk 21 rfl
theorem wd_22 : own_at (Cond.static ⟨"java/util/Objects", "requireNonNull", "(Ljava/lang/Object;)Ljava/lang/Object;"⟩) := own_mk 22 rfl
theorem wd_23 : own_at (Cond.initialized "java/util/Objects") := own_mk 23 rfl
theorem wd_24 : own_at (Cond.code ⟨"java/util/Objects", "requireNonNull", "(Ljava/lang/Object;)Ljava/lang/Object;"⟩ jdk_31_method_10_code 1 (Option.some (FieldType.object "java/lang/Object"))) := own_mk 24 rfl
theorem wd_25 : own_at (Cond.classLink "java/lang/String" 84 "java/nio/charset/Charset") := own_mk 25 rfl
theorem wd_26 : own_at (Cond.castable "sun/nio/cs/UTF_8" "java/nio/charset/Charset") := own_mk 26 rfl
theorem wd_27 : own_at (Cond.methodLink "java/lang/String" 75 ⟨"java/lang/String", "<init>", "(Ljava/nio/charset/Charset;[BII)V"⟩) := own_mk 27 rfl
theorem wd_28 : own_at (Cond.instanceMethod ⟨"java/lang/String", "<init>", "(Ljava/nio/charset/Charset;[BII)V"⟩) := own_mk 28 rfl
theorem wd_30 : own_at (Cond.codeWith ⟨"java/lang/String", "<init>", "(Ljava/nio/charset/Charset;[BII)V"⟩ jdk_42_method_11_code 11 none [(800, 813, 816, 202)]) := own_mk 30 rfl
theorem wd_31 : own_at (Cond.methodLink "java/lang/String" 1 ⟨"java/lang/Object", "<init>", "()V"⟩) := own_mk 31 rfl
theorem wd_32 : own_at (Cond.instanceMethod ⟨"java/lang/Object", "<init>", "()V"⟩) := own_mk 32 rfl
theorem wd_33 : own_at (Cond.code ⟨"java/lang/Object", "<init>", "()V"⟩ object_method_1_code 1 none) := own_mk 33 rfl
theorem wd_34 : own_at (Cond.stringLink "java/lang/String" 7 "") := own_mk 34 rfl
theorem wd_35 : own_at (Cond.fieldLink "java/lang/String" 9 "java/lang/String" "value" "[B") := own_mk 35 rfl
theorem wd_36 : own_at (Cond.fieldLink "java/lang/String" 15 "java/lang/String" "coder" "B") := own_mk 36 rfl
theorem wd_37 : own_at (Cond.methodLink "com/example/reasoned_retry/reasonedretry/Classifier$Failure" 46 ⟨"com/example/reasoned_retry/reasonedretry/Classifier$Failure", "<init>", "(Ljava/lang/String;ILjava/lang/String;)V"⟩) := own_mk 37 rfl
theorem wd_38 : own_at (Cond.instanceMethod ⟨"com/example/reasoned_retry/reasonedretry/Classifier$Failure", "<init>", "(Ljava/lang/String;ILjava/lang/String;)V"⟩) := own_mk 38 rfl
theorem wd_39 : own_at (Cond.code ⟨"com/example/reasoned_retry/reasonedretry/Classifier$Failure", "<init>", "(Ljava/lang/String;ILjava/lang/String;)V"⟩ prog_6_method_1_code 4 none) := own_mk 39 rfl
theorem wd_40 : own_at (Cond.methodLink "com/example/reasoned_retry/reasonedretry/Classifier$Failure" 1 ⟨"java/lang/Record", "<init>", "()V"⟩) := own_mk 40 rfl
theorem wd_41 : own_at (Cond.instanceMethod ⟨"java/lang/Record", "<init>", "()V"⟩) := own_mk 41 rfl
theorem wd_43 : own_at (Cond.initialized "java/lang/Record") := own_mk 43 rfl
theorem wd_44 : own_at (Cond.code ⟨"java/lang/Record", "<init>", "()V"⟩ jdk_30_method_1_code 1 none) := own_mk 44 rfl
theorem wd_45 : own_at (Cond.methodLink "java/lang/Record" 1 ⟨"java/lang/Object", "<init>", "()V"⟩) := own_mk 45 rfl
theorem wd_46 : own_at (Cond.stringLink "com/example/reasoned_retry/reasonedretry/Classifier$Failure" 7 "output") := own_mk 46 rfl
theorem wd_47 : own_at (Cond.methodLink "com/example/reasoned_retry/reasonedretry/Classifier$Failure" 9 ⟨"java/util/Objects", "requireNonNull", "(Ljava/lang/Object;Ljava/lang/String;)Ljava/lang/Object;"⟩) := own_mk 47 rfl
theorem wd_48 : own_at (Cond.static ⟨"java/util/Objects", "requireNonNull", "(Ljava/lang/Object;Ljava/lang/String;)Ljava/lang/Object;"⟩) := own_mk 48 rfl
theorem wd_49 : own_at (Cond.code ⟨"java/util/Objects", "requireNonNull", "(Ljava/lang/Object;Ljava/lang/String;)Ljava/lang/Object;"⟩ jdk_31_method_11_code 2 (Option.some (FieldType.object "java/lang/Object"))) := own_mk 49 rfl
theorem wd_50 : own_at (Cond.fieldLink "com/example/reasoned_retry/reasonedretry/Classifier$Failure" 15 "com/example/reasoned_retry/reasonedretry/Classifier$Failure" "command" "Ljava/lang/String;") := own_mk 50 rfl
theorem wd_51 : own_at (Cond.laysFinal "com/example/reasoned_retry/reasonedretry/Classifier$Failure" "com/example/reasoned_retry/reasonedretry/Classifier$Failure" "command" "Ljava/lang/String;") := own_mk 51 rfl
theorem wd_52 : own_at (Cond.fieldLink "com/example/reasoned_retry/reasonedretry/Classifier$Failure" 21 "com/example/reasoned_retry/reasonedretry/Classifier$Failure" "exitCode" "I") := own_mk 52 rfl
theorem wd_53 : own_at (Cond.laysFinal "com/example/reasoned_retry/reasonedretry/Classifier$Failure" "com/example/reasoned_retry/reasonedretry/Classifier$Failure" "exitCode" "I") := own_mk 53 rfl
theorem wd_54 : own_at (Cond.fieldLink "com/example/reasoned_retry/reasonedretry/Classifier$Failure" 25 "com/example/reasoned_retry/reasonedretry/Classifier$Failure" "output" "Ljava/lang/String;") := own_mk 54 rfl
theorem wd_55 : own_at (Cond.laysFinal "com/example/reasoned_retry/reasonedretry/Classifier$Failure" "com/example/reasoned_retry/reasonedretry/Classifier$Failure" "output" "Ljava/lang/String;") := own_mk 55 rfl
theorem wd_56 : own_at (Cond.methodLink "com/example/reasoned_retry/reasonedretry/FailureOfPinLaw" 26 ⟨"com/example/reasoned_retry/reasonedretry/Classifier$Failure", "command", "()Ljava/lang/String;"⟩) := own_mk 56 rfl
theorem wd_57 : own_at (Cond.declares ⟨"com/example/reasoned_retry/reasonedretry/Classifier$Failure", "command", "()Ljava/lang/String;"⟩) := own_mk 57 rfl
theorem wd_58 : own_at (Cond.instanceMethod ⟨"com/example/reasoned_retry/reasonedretry/Classifier$Failure", "command", "()Ljava/lang/String;"⟩) := own_mk 58 rfl
theorem wd_59 : own_at (Cond.selects "com/example/reasoned_retry/reasonedretry/Classifier$Failure" ⟨"com/example/reasoned_retry/reasonedretry/Classifier$Failure", "command", "()Ljava/lang/String;"⟩ ⟨"com/example/reasoned_retry/reasonedretry/Classifier$Failure", "command", "()Ljava/lang/String;"⟩) := own_mk 59 rfl
theorem wd_60 : own_at (Cond.code ⟨"com/example/reasoned_retry/reasonedretry/Classifier$Failure", "command", "()Ljava/lang/String;"⟩ prog_6_method_6_code 1 (Option.some (FieldType.object "java/lang/String"))) := own_mk 60 rfl
theorem wd_61 : own_at (Cond.methodLink "com/example/reasoned_retry/reasonedretry/FailureOfPinLaw" 34 ⟨"com/example/reasoned_retry/reasonedretry/Classifier$Failure", "exitCode", "()I"⟩) := own_mk 61 rfl
theorem wd_62 : own_at (Cond.declares ⟨"com/example/reasoned_retry/reasonedretry/Classifier$Failure", "exitCode", "()I"⟩) := own_mk 62 rfl
theorem wd_63 : own_at (Cond.instanceMethod ⟨"com/example/reasoned_retry/reasonedretry/Classifier$Failure", "exitCode", "()I"⟩) := own_mk 63 rfl
theorem wd_64 : own_at (Cond.selects "com/example/reasoned_retry/reasonedretry/Classifier$Failure" ⟨"com/example/reasoned_retry/reasonedretry/Classifier$Failure", "exitCode", "()I"⟩ ⟨"com/example/reasoned_retry/reasonedretry/Classifier$Failure", "exitCode", "()I"⟩) := own_mk 64 rfl
theorem wd_65 : own_at (Cond.code ⟨"com/example/reasoned_retry/reasonedretry/Classifier$Failure", "exitCode", "()I"⟩ prog_6_method_7_code 1 (some .int)) := own_mk 65 rfl
theorem wd_66 : own_at (Cond.methodLink "com/example/reasoned_retry/reasonedretry/FailureOfPinLaw" 38 ⟨"com/example/reasoned_retry/reasonedretry/Classifier$Failure", "output", "()Ljava/lang/String;"⟩) := own_mk 66 rfl
theorem wd_67 : own_at (Cond.declares ⟨"com/example/reasoned_retry/reasonedretry/Classifier$Failure", "output", "()Ljava/lang/String;"⟩) := own_mk 67 rfl
theorem wd_68 : own_at (Cond.instanceMethod ⟨"com/example/reasoned_retry/reasonedretry/Classifier$Failure", "output", "()Ljava/lang/String;"⟩) := own_mk 68 rfl
theorem wd_69 : own_at (Cond.selects "com/example/reasoned_retry/reasonedretry/Classifier$Failure" ⟨"com/example/reasoned_retry/reasonedretry/Classifier$Failure", "output", "()Ljava/lang/String;"⟩ ⟨"com/example/reasoned_retry/reasonedretry/Classifier$Failure", "output", "()Ljava/lang/String;"⟩) := own_mk 69 rfl
theorem wd_70 : own_at (Cond.code ⟨"com/example/reasoned_retry/reasonedretry/Classifier$Failure", "output", "()Ljava/lang/String;"⟩ prog_6_method_8_code 1 (Option.some (FieldType.object "java/lang/String"))) := own_mk 70 rfl
theorem wd_71 : own_at (Cond.methodLink "com/example/reasoned_retry/reasonedretry/FailureOfPinLaw" 30 ⟨"java/lang/String", "equals", "(Ljava/lang/Object;)Z"⟩) := own_mk 71 rfl
theorem wd_72 : own_at (Cond.declares ⟨"java/lang/String", "equals", "(Ljava/lang/Object;)Z"⟩) := own_mk 72 rfl
theorem wd_73 : own_at (Cond.instanceMethod ⟨"java/lang/String", "equals", "(Ljava/lang/Object;)Z"⟩) := own_mk 73 rfl
theorem wd_74 : own_at (Cond.selects "java/lang/String" ⟨"java/lang/String", "equals", "(Ljava/lang/Object;)Z"⟩ ⟨"java/lang/String", "equals", "(Ljava/lang/Object;)Z"⟩) := own_mk 74 rfl
theorem wd_75 : own_at (Cond.code ⟨"java/lang/String", "equals", "(Ljava/lang/Object;)Z"⟩ jdk_42_method_66_code 3 (some .boolean)) := own_mk 75 rfl
theorem wd_76 : own_at (Cond.classLink "java/lang/String" 10 "java/lang/String") := own_mk 76 rfl
theorem wd_77 : own_at (Cond.fieldLink "java/lang/String" 38 "java/lang/String" "COMPACT_STRINGS" "Z") := own_mk 77 rfl
theorem wd_78 : own_at (Cond.methodLink "java/lang/String" 541 ⟨"java/lang/StringLatin1", "equals", "([B[B)Z"⟩) := own_mk 78 rfl
theorem wd_79 : own_at (Cond.static ⟨"java/lang/StringLatin1", "equals", "([B[B)Z"⟩) := own_mk 79 rfl
theorem wd_80 : own_at (Cond.initialized "java/lang/StringLatin1") := own_mk 80 rfl
theorem wd_81 : own_at (Cond.code ⟨"java/lang/StringLatin1", "equals", "([B[B)Z"⟩ jdk_43_method_13_code 3 (some .boolean)) := own_mk 81 rfl
theorem wd_82 : own_at (Cond.constant "com/example/reasoned_retry/reasonedretry/FailureOfPinLaw" 19 (53248 : Int32)) := own_mk 82 rfl
theorem wd_83 : own_at (Cond.methodLink "com/example/reasoned_retry/reasonedretry/FailureOfPinLaw" 14 ⟨"java/lang/String", "valueOf", "(C)Ljava/lang/String;"⟩) := own_mk 83 rfl
theorem wd_84 : own_at (Cond.static ⟨"java/lang/String", "valueOf", "(C)Ljava/lang/String;"⟩) := own_mk 84 rfl
theorem wd_85 : own_at (Cond.code ⟨"java/lang/String", "valueOf", "(C)Ljava/lang/String;"⟩ jdk_42_method_139_code 1 (Option.some (FieldType.object "java/lang/String"))) := own_mk 85 rfl
theorem wd_86 : own_at (Cond.methodLink "java/lang/String" 1015 ⟨"java/lang/StringLatin1", "canEncode", "(C)Z"⟩) := own_mk 86 rfl
theorem wd_87 : own_at (Cond.static ⟨"java/lang/StringLatin1", "canEncode", "(C)Z"⟩) := own_mk 87 rfl
theorem wd_88 : own_at (Cond.code ⟨"java/lang/StringLatin1", "canEncode", "(C)Z"⟩ jdk_43_method_3_code 1 (some .boolean)) := own_mk 88 rfl
theorem wd_89 : own_at (Cond.methodLink "java/lang/String" 1021 ⟨"java/lang/StringUTF16", "toBytes", "(C)[B"⟩) := own_mk 89 rfl
theorem wd_90 : own_at (Cond.static ⟨"java/lang/StringUTF16", "toBytes", "(C)[B"⟩) := own_mk 90 rfl
theorem wd_91 : own_at (Cond.initialized "java/lang/StringUTF16") := own_mk 91 rfl
theorem wd_92 : own_at (Cond.code ⟨"java/lang/StringUTF16", "toBytes", "(C)[B"⟩ jdk_52_method_24_code 2 (Option.some (FieldType.array FieldType.byte))) := own_mk 92 rfl
theorem wd_93 : own_at (Cond.methodLink "java/lang/StringUTF16" 111 ⟨"java/lang/StringUTF16", "putChar", "([BII)V"⟩) := own_mk 93 rfl
theorem wd_94 : own_at (Cond.static ⟨"java/lang/StringUTF16", "putChar", "([BII)V"⟩) := own_mk 94 rfl
theorem wd_95 : own_at (Cond.code ⟨"java/lang/StringUTF16", "putChar", "([BII)V"⟩ jdk_52_method_4_code 3 none) := own_mk 95 rfl
theorem wd_96 : own_at (Cond.fieldLink "java/lang/StringUTF16" 44 "java/lang/StringUTF16" "$assertionsDisabled" "Z") := own_mk 96 rfl
theorem wd_97 : own_at (Cond.fieldLink "java/lang/StringUTF16" 59 "java/lang/StringUTF16" "HI_BYTE_SHIFT" "I") := own_mk 97 rfl
theorem wd_98 : own_at (Cond.fieldLink "java/lang/StringUTF16" 63 "java/lang/StringUTF16" "LO_BYTE_SHIFT" "I") := own_mk 98 rfl
theorem wd_99 : own_at (Cond.methodLink "java/lang/String" 209 ⟨"java/lang/String", "<init>", "([BB)V"⟩) := own_mk 99 rfl
theorem wd_100 : own_at (Cond.instanceMethod ⟨"java/lang/String", "<init>", "([BB)V"⟩) := own_mk 100 rfl
theorem wd_101 : own_at (Cond.code ⟨"java/lang/String", "<init>", "([BB)V"⟩ jdk_42_method_151_code 3 none) := own_mk 101 rfl
theorem wd_102 : own_at (Cond.fieldLink "java/lang/String" 86 "sun/nio/cs/UTF_8" "INSTANCE" "Lsun/nio/cs/UTF_8;") := own_mk 102 rfl
theorem wd_104 : own_at (Cond.methodLink "java/lang/String" 92 ⟨"java/lang/StringCoding", "countPositives", "([BII)I"⟩) := own_mk 104 rfl
theorem wd_105 : own_at (Cond.static ⟨"java/lang/StringCoding", "countPositives", "([BII)I"⟩) := own_mk 105 rfl
theorem wd_106 : own_at (Cond.initialized "java/lang/StringCoding") := own_mk 106 rfl
theorem wd_107 : own_at (Cond.code ⟨"java/lang/StringCoding", "countPositives", "([BII)I"⟩ jdk_123_method_3_code 5 (some .int)) := own_mk 107 rfl
theorem wd_108 : own_at (Cond.methodLink "java/lang/String" 54 ⟨"java/util/Arrays", "copyOfRange", "([BII)[B"⟩) := own_mk 108 rfl
theorem wd_109 : own_at (Cond.static ⟨"java/util/Arrays", "copyOfRange", "([BII)[B"⟩) := own_mk 109 rfl
theorem wd_110 : own_at (Cond.initialized "java/util/Arrays") := own_mk 110 rfl
theorem wd_111 : own_at (Cond.code ⟨"java/util/Arrays", "copyOfRange", "([BII)[B"⟩ jdk_65_method_132_code 3 (Option.some (FieldType.array FieldType.byte))) := own_mk 111 rfl
theorem wd_112 : own_at (Cond.methodLink "java/util/Arrays" 310 ⟨"[B", "clone", "()Ljava/lang/Object;"⟩) := own_mk 112 rfl
theorem wd_113 : own_at (Cond.sameMethod "[B" "java/lang/Object" "clone" "()Ljava/lang/Object;") := own_mk 113 rfl
theorem wd_115 : own_at (Cond.instanceMethod ⟨"java/lang/Object", "clone", "()Ljava/lang/Object;"⟩) := own_mk 115 rfl
theorem wd_116 : own_at (Cond.selects "[B" ⟨"[B", "clone", "()Ljava/lang/Object;"⟩ ⟨"java/lang/Object", "clone", "()Ljava/lang/Object;"⟩) := own_mk 116 rfl
theorem wd_117 : own_at (Cond.native ⟨"java/lang/Object", "clone", "()Ljava/lang/Object;"⟩) := own_mk 117 rfl
theorem wd_118 : own_at (Cond.castable "[B" "java/lang/Cloneable") := own_mk 118 rfl
theorem wd_119 : own_at (Cond.classLink "java/util/Arrays" 311 "[B") := own_mk 119 rfl
theorem wd_121 : own_at (Cond.methodLink "java/lang/String" 60 ⟨"java/lang/StringUTF16", "newBytesFor", "(I)[B"⟩) := own_mk 121 rfl
theorem wd_122 : own_at (Cond.static ⟨"java/lang/StringUTF16", "newBytesFor", "(I)[B"⟩) := own_mk 122 rfl
theorem wd_123 : own_at (Cond.code ⟨"java/lang/StringUTF16", "newBytesFor", "(I)[B"⟩ jdk_52_method_2_code 1 (Option.some (FieldType.array FieldType.byte))) := own_mk 123 rfl
theorem wd_124 : own_at (Cond.methodLink "java/lang/StringUTF16" 11 ⟨"java/lang/StringUTF16", "newBytesLength", "(I)I"⟩) := own_mk 124 rfl
theorem wd_125 : own_at (Cond.static ⟨"java/lang/StringUTF16", "newBytesLength", "(I)I"⟩) := own_mk 125 rfl
theorem wd_126 : own_at (Cond.code ⟨"java/lang/StringUTF16", "newBytesLength", "(I)I"⟩ jdk_52_method_3_code 1 (some .int)) := own_mk 126 rfl
theorem wd_127 : own_at (Cond.constant "java/lang/StringUTF16" 20 (1073741823 : Int32)) := own_mk 127 rfl
theorem wd_128 : own_at (Cond.methodLink "java/lang/String" 106 ⟨"java/lang/StringLatin1", "inflate", "([BI[BII)V"⟩) := own_mk 128 rfl
theorem wd_129 : own_at (Cond.static ⟨"java/lang/StringLatin1", "inflate", "([BI[BII)V"⟩) := own_mk 129 rfl
theorem wd_130 : own_at (Cond.code ⟨"java/lang/StringLatin1", "inflate", "([BI[BII)V"⟩ jdk_43_method_50_code 5 none) := own_mk 130 rfl
theorem wd_131 : own_at (Cond.methodLink "java/lang/StringLatin1" 240 ⟨"java/lang/StringUTF16", "inflate", "([BI[BII)V"⟩) := own_mk 131 rfl
theorem wd_132 : own_at (Cond.static ⟨"java/lang/StringUTF16", "inflate", "([BI[BII)V"⟩) := own_mk 132 rfl
theorem wd_133 : own_at (Cond.code ⟨"java/lang/StringUTF16", "inflate", "([BI[BII)V"⟩ jdk_52_method_86_code 6 none) := own_mk 133 rfl
theorem wd_134 : own_at (Cond.methodLink "java/lang/StringUTF16" 173 ⟨"java/lang/StringUTF16", "checkBoundsOffCount", "(II[B)V"⟩) := own_mk 134 rfl
theorem wd_135 : own_at (Cond.static ⟨"java/lang/StringUTF16", "checkBoundsOffCount", "(II[B)V"⟩) := own_mk 135 rfl
theorem wd_136 : own_at (Cond.code ⟨"java/lang/StringUTF16", "checkBoundsOffCount", "(II[B)V"⟩ jdk_52_method_94_code 3 none) := own_mk 136 rfl
theorem wd_137 : own_at (Cond.methodLink "java/lang/StringUTF16" 48 ⟨"java/lang/StringUTF16", "length", "([B)I"⟩) := own_mk 137 rfl
theorem wd_138 : own_at (Cond.static ⟨"java/lang/StringUTF16", "length", "([B)I"⟩) := own_mk 138 rfl
theorem wd_139 : own_at (Cond.code ⟨"java/lang/StringUTF16", "length", "([B)I"⟩ jdk_52_method_6_code 1 (some .int)) := own_mk 139 rfl
theorem wd_140 : own_at (Cond.methodLink "java/lang/StringUTF16" 419 ⟨"java/lang/String", "checkBoundsOffCount", "(III)I"⟩) := own_mk 140 rfl
theorem wd_141 : own_at (Cond.static ⟨"java/lang/String", "checkBoundsOffCount", "(III)I"⟩) := own_mk 141 rfl
theorem wd_142 : own_at (Cond.code ⟨"java/lang/String", "checkBoundsOffCount", "(III)I"⟩ jdk_42_method_157_code 3 (some .int)) := own_mk 142 rfl
theorem wd_143 : own_at (Cond.fieldLink "java/lang/String" 1053 "jdk/internal/util/Preconditions" "SIOOBE_FORMATTER" "Ljava/util/function/BiFunction;") := own_mk 143 rfl
theorem wd_144 : own_at (Cond.initialized "jdk/internal/util/Preconditions") := own_mk 144 rfl
theorem wd_145 : own_at (Cond.methodLink "java/lang/String" 1065 ⟨"jdk/internal/util/Preconditions", "checkFromIndexSize", "(IIILjava/util/function/BiFunction;)I"⟩) := own_mk 145 rfl
theorem wd_146 : own_at (Cond.static ⟨"jdk/internal/util/Preconditions", "checkFromIndexSize", "(IIILjava/util/function/BiFunction;)I"⟩) := own_mk 146 rfl
theorem wd_147 : own_at (Cond.code ⟨"jdk/internal/util/Preconditions", "checkFromIndexSize", "(IIILjava/util/function/BiFunction;)I"⟩ jdk_41_method_13_code 4 (some .int)) := own_mk 147 rfl
theorem wd_148 : own_at (Cond.methodLink "java/lang/String" 112 ⟨"java/lang/String", "decodeUTF8_UTF16", "([BII[BIZ)I"⟩) := own_mk 148 rfl
theorem wd_149 : own_at (Cond.static ⟨"java/lang/String", "decodeUTF8_UTF16", "([BII[BIZ)I"⟩) := own_mk 149 rfl
theorem wd_150 : own_at (Cond.code ⟨"java/lang/String", "decodeUTF8_UTF16", "([BII[BIZ)I"⟩ jdk_42_method_38_code 11 (some .int)) := own_mk 150 rfl
theorem wd_151 : own_at (Cond.methodLink "java/lang/String" 392 ⟨"java/lang/String", "isMalformed3", "(III)Z"⟩) := own_mk 151 rfl
theorem wd_152 : own_at (Cond.static ⟨"java/lang/String", "isMalformed3", "(III)Z"⟩) := own_mk 152 rfl
theorem wd_153 : own_at (Cond.code ⟨"java/lang/String", "isMalformed3", "(III)Z"⟩ jdk_42_method_30_code 3 (some .boolean)) := own_mk 153 rfl
theorem wd_154 : own_at (Cond.methodLink "java/lang/String" 400 ⟨"java/lang/String", "decode3", "(III)C"⟩) := own_mk 154 rfl
theorem wd_155 : own_at (Cond.static ⟨"java/lang/String", "decode3", "(III)C"⟩) := own_mk 155 rfl
theorem wd_156 : own_at (Cond.code ⟨"java/lang/String", "decode3", "(III)C"⟩ jdk_42_method_36_code 3 (some .char)) := own_mk 156 rfl
theorem wd_157 : own_at (Cond.constant "java/lang/String" 383 (-123008 : Int32)) := own_mk 157 rfl
theorem wd_158 : own_at (Cond.methodLink "java/lang/String" 404 ⟨"java/lang/Character", "isSurrogate", "(C)Z"⟩) := own_mk 158 rfl
theorem wd_159 : own_at (Cond.static ⟨"java/lang/Character", "isSurrogate", "(C)Z"⟩) := own_mk 159 rfl
theorem wd_160 : own_at (Cond.initialized "java/lang/Character") := own_mk 160 rfl
theorem wd_161 : own_at (Cond.code ⟨"java/lang/Character", "isSurrogate", "(C)Z"⟩ jdk_89_method_16_code 1 (some .boolean)) := own_mk 161 rfl
theorem wd_162 : own_at (Cond.constant "java/lang/Character" 75 (55296 : Int32)) := own_mk 162 rfl
theorem wd_163 : own_at (Cond.methodLink "java/lang/String" 64 ⟨"java/lang/StringUTF16", "putChar", "([BII)V"⟩) := own_mk 163 rfl
theorem wd_164 : own_at (Cond.methodLink "java/lang/String" 102 ⟨"java/util/Arrays", "copyOf", "([BI)[B"⟩) := own_mk 164 rfl
theorem wd_165 : own_at (Cond.static ⟨"java/util/Arrays", "copyOf", "([BI)[B"⟩) := own_mk 165 rfl
theorem wd_166 : own_at (Cond.code ⟨"java/util/Arrays", "copyOf", "([BI)[B"⟩ jdk_65_method_121_code 3 (Option.some (FieldType.array FieldType.byte))) := own_mk 166 rfl
theorem wd_167 : own_at (Cond.methodLink "java/util/Arrays" 304 ⟨"java/lang/Math", "min", "(II)I"⟩) := own_mk 167 rfl
theorem wd_168 : own_at (Cond.static ⟨"java/lang/Math", "min", "(II)I"⟩) := own_mk 168 rfl
theorem wd_169 : own_at (Cond.initialized "java/lang/Math") := own_mk 169 rfl
theorem wd_170 : own_at (Cond.code ⟨"java/lang/Math", "min", "(II)I"⟩ jdk_29_method_69_code 2 (some .int)) := own_mk 170 rfl
theorem wd_171 : own_at (Cond.methodLink "java/util/Arrays" 150 ⟨"java/lang/System", "arraycopy", "(Ljava/lang/Object;ILjava/lang/Object;II)V"⟩) := own_mk 171 rfl
theorem wd_172 : own_at (Cond.static ⟨"java/lang/System", "arraycopy", "(Ljava/lang/Object;ILjava/lang/Object;II)V"⟩) := own_mk 172 rfl
theorem wd_173 : own_at (Cond.initialized "java/lang/System") := own_mk 173 rfl
theorem wd_174 : own_at (Cond.native ⟨"java/lang/System", "arraycopy", "(Ljava/lang/Object;ILjava/lang/Object;II)V"⟩) := own_mk 174 rfl
theorem wd_175 : own_at (Cond.classLink "com/example/reasoned_retry/reasonedretry/FailureOfPinLaw" 9 "java/lang/String") := own_mk 175 rfl
theorem wd_176 : own_at (Cond.arrayClass FieldType.char) := own_mk 176 rfl
theorem wd_177 : own_at (Cond.methodLink "com/example/reasoned_retry/reasonedretry/FailureOfPinLaw" 11 ⟨"java/lang/String", "<init>", "([C)V"⟩) := own_mk 177 rfl
theorem wd_178 : own_at (Cond.instanceMethod ⟨"java/lang/String", "<init>", "([C)V"⟩) := own_mk 178 rfl
theorem wd_179 : own_at (Cond.code ⟨"java/lang/String", "<init>", "([C)V"⟩ jdk_42_method_3_code 2 none) := own_mk 179 rfl
theorem wd_180 : own_at (Cond.methodLink "java/lang/String" 27 ⟨"java/lang/String", "<init>", "([CIILjava/lang/Void;)V"⟩) := own_mk 180 rfl
theorem wd_181 : own_at (Cond.instanceMethod ⟨"java/lang/String", "<init>", "([CIILjava/lang/Void;)V"⟩) := own_mk 181 rfl
theorem wd_182 : own_at (Cond.code ⟨"java/lang/String", "<init>", "([CIILjava/lang/Void;)V"⟩ jdk_42_method_149_code 6 none) := own_mk 182 rfl
theorem wd_183 : own_at (Cond.methodLink "java/lang/String" 177 ⟨"java/lang/StringUTF16", "compress", "([CII)[B"⟩) := own_mk 183 rfl
theorem wd_184 : own_at (Cond.static ⟨"java/lang/StringUTF16", "compress", "([CII)[B"⟩) := own_mk 184 rfl
theorem wd_185 : own_at (Cond.code ⟨"java/lang/StringUTF16", "compress", "([CII)[B"⟩ jdk_52_method_16_code 6 (Option.some (FieldType.array FieldType.byte))) := own_mk 185 rfl
theorem wd_186 : own_at (Cond.methodLink "java/lang/StringUTF16" 115 ⟨"java/lang/StringUTF16", "compress", "([CI[BII)I"⟩) := own_mk 186 rfl
theorem wd_187 : own_at (Cond.static ⟨"java/lang/StringUTF16", "compress", "([CI[BII)I"⟩) := own_mk 187 rfl
theorem wd_188 : own_at (Cond.code ⟨"java/lang/StringUTF16", "compress", "([CI[BII)I"⟩ jdk_52_method_21_code 7 (some .int)) := own_mk 188 rfl
theorem wd_189 : own_at (Cond.methodLink "java/lang/String" 47 ⟨"java/lang/StringUTF16", "coderFromArrayLen", "([BI)B"⟩) := own_mk 189 rfl
theorem wd_190 : own_at (Cond.static ⟨"java/lang/StringUTF16", "coderFromArrayLen", "([BI)B"⟩) := own_mk 190 rfl
theorem wd_191 : own_at (Cond.code ⟨"java/lang/StringUTF16", "coderFromArrayLen", "([BI)B"⟩ jdk_52_method_15_code 2 (some .byte)) := own_mk 191 rfl
theorem wd_192 : own_at (Cond.methodLink "com/example/reasoned_retry/reasonedretry/Classifier$Failure" 27 ⟨"java/lang/String", "lastIndexOf", "(I)I"⟩) := own_mk 192 rfl
theorem wd_193 : own_at (Cond.declares ⟨"java/lang/String", "lastIndexOf", "(I)I"⟩) := own_mk 193 rfl
theorem wd_194 : own_at (Cond.instanceMethod ⟨"java/lang/String", "lastIndexOf", "(I)I"⟩) := own_mk 194 rfl
theorem wd_195 : own_at (Cond.selects "java/lang/String" ⟨"java/lang/String", "lastIndexOf", "(I)I"⟩ ⟨"java/lang/String", "lastIndexOf", "(I)I"⟩) := own_mk 195 rfl
theorem wd_196 : own_at (Cond.code ⟨"java/lang/String", "lastIndexOf", "(I)I"⟩ jdk_42_method_82_code 2 (some .int)) := own_mk 196 rfl
theorem wd_197 : own_at (Cond.methodLink "java/lang/String" 505 ⟨"java/lang/String", "length", "()I"⟩) := own_mk 197 rfl
theorem wd_198 : own_at (Cond.declares ⟨"java/lang/String", "length", "()I"⟩) := own_mk 198 rfl
theorem wd_199 : own_at (Cond.instanceMethod ⟨"java/lang/String", "length", "()I"⟩) := own_mk 199 rfl
theorem wd_200 : own_at (Cond.selects "java/lang/String" ⟨"java/lang/String", "length", "()I"⟩ ⟨"java/lang/String", "length", "()I"⟩) := own_mk 200 rfl
theorem wd_201 : own_at (Cond.code ⟨"java/lang/String", "length", "()I"⟩ jdk_42_method_54_code 1 (some .int)) := own_mk 201 rfl
theorem wd_202 : own_at (Cond.methodLink "java/lang/String" 335 ⟨"java/lang/String", "coder", "()B"⟩) := own_mk 202 rfl
theorem wd_203 : own_at (Cond.declares ⟨"java/lang/String", "coder", "()B"⟩) := own_mk 203 rfl
theorem wd_204 : own_at (Cond.instanceMethod ⟨"java/lang/String", "coder", "()B"⟩) := own_mk 204 rfl
theorem wd_205 : own_at (Cond.selects "java/lang/String" ⟨"java/lang/String", "coder", "()B"⟩ ⟨"java/lang/String", "coder", "()B"⟩) := own_mk 205 rfl
theorem wd_206 : own_at (Cond.code ⟨"java/lang/String", "coder", "()B"⟩ jdk_42_method_152_code 1 (some .byte)) := own_mk 206 rfl
theorem wd_207 : own_at (Cond.methodLink "java/lang/String" 641 ⟨"java/lang/String", "lastIndexOf", "(II)I"⟩) := own_mk 207 rfl
theorem wd_208 : own_at (Cond.declares ⟨"java/lang/String", "lastIndexOf", "(II)I"⟩) := own_mk 208 rfl
theorem wd_209 : own_at (Cond.instanceMethod ⟨"java/lang/String", "lastIndexOf", "(II)I"⟩) := own_mk 209 rfl
theorem wd_210 : own_at (Cond.selects "java/lang/String" ⟨"java/lang/String", "lastIndexOf", "(II)I"⟩ ⟨"java/lang/String", "lastIndexOf", "(II)I"⟩) := own_mk 210 rfl
theorem wd_211 : own_at (Cond.code ⟨"java/lang/String", "lastIndexOf", "(II)I"⟩ jdk_42_method_83_code 3 (some .int)) := own_mk 211 rfl
theorem wd_212 : own_at (Cond.methodLink "java/lang/String" 492 ⟨"java/lang/String", "isLatin1", "()Z"⟩) := own_mk 212 rfl
theorem wd_213 : own_at (Cond.declares ⟨"java/lang/String", "isLatin1", "()Z"⟩) := own_mk 213 rfl
theorem wd_214 : own_at (Cond.instanceMethod ⟨"java/lang/String", "isLatin1", "()Z"⟩) := own_mk 214 rfl
theorem wd_215 : own_at (Cond.selects "java/lang/String" ⟨"java/lang/String", "isLatin1", "()Z"⟩ ⟨"java/lang/String", "isLatin1", "()Z"⟩) := own_mk 215 rfl
theorem wd_216 : own_at (Cond.code ⟨"java/lang/String", "isLatin1", "()Z"⟩ jdk_42_method_154_code 1 (some .boolean)) := own_mk 216 rfl
theorem wd_217 : own_at (Cond.methodLink "java/lang/String" 644 ⟨"java/lang/StringLatin1", "lastIndexOf", "([BII)I"⟩) := own_mk 217 rfl
theorem wd_218 : own_at (Cond.static ⟨"java/lang/StringLatin1", "lastIndexOf", "([BII)I"⟩) := own_mk 218 rfl
theorem wd_219 : own_at (Cond.code ⟨"java/lang/StringLatin1", "lastIndexOf", "([BII)I"⟩ jdk_43_method_27_code 4 (some .int)) := own_mk 219 rfl
theorem wd_220 : own_at (Cond.methodLink "java/lang/StringLatin1" 88 ⟨"java/lang/StringLatin1", "canEncode", "(I)Z"⟩) := own_mk 220 rfl
theorem wd_221 : own_at (Cond.static ⟨"java/lang/StringLatin1", "canEncode", "(I)Z"⟩) := own_mk 221 rfl
theorem wd_222 : own_at (Cond.code ⟨"java/lang/StringLatin1", "canEncode", "(I)Z"⟩ jdk_43_method_4_code 1 (some .boolean)) := own_mk 222 rfl
theorem wd_223 : own_at (Cond.methodLink "java/lang/StringLatin1" 38 ⟨"java/lang/Math", "min", "(II)I"⟩) := own_mk 223 rfl
theorem wd_224 : own_at (Cond.methodLink "com/example/reasoned_retry/reasonedretry/Classifier$Failure" 33 ⟨"java/lang/String", "substring", "(I)Ljava/lang/String;"⟩) := own_mk 224 rfl
theorem wd_225 : own_at (Cond.declares ⟨"java/lang/String", "substring", "(I)Ljava/lang/String;"⟩) := own_mk 225 rfl
theorem wd_226 : own_at (Cond.instanceMethod ⟨"java/lang/String", "substring", "(I)Ljava/lang/String;"⟩) := own_mk 226 rfl
theorem wd_227 : own_at (Cond.selects "java/lang/String" ⟨"java/lang/String", "substring", "(I)Ljava/lang/String;"⟩ ⟨"java/lang/String", "substring", "(I)Ljava/lang/String;"⟩) := own_mk 227 rfl
theorem wd_228 : own_at (Cond.code ⟨"java/lang/String", "substring", "(I)Ljava/lang/String;"⟩ jdk_42_method_91_code 2 (Option.some (FieldType.object "java/lang/String"))) := own_mk 228 rfl
theorem wd_229 : own_at (Cond.methodLink "java/lang/String" 681 ⟨"java/lang/String", "substring", "(II)Ljava/lang/String;"⟩) := own_mk 229 rfl
theorem wd_230 : own_at (Cond.declares ⟨"java/lang/String", "substring", "(II)Ljava/lang/String;"⟩) := own_mk 230 rfl
theorem wd_231 : own_at (Cond.instanceMethod ⟨"java/lang/String", "substring", "(II)Ljava/lang/String;"⟩) := own_mk 231 rfl
theorem wd_232 : own_at (Cond.selects "java/lang/String" ⟨"java/lang/String", "substring", "(II)Ljava/lang/String;"⟩ ⟨"java/lang/String", "substring", "(II)Ljava/lang/String;"⟩) := own_mk 232 rfl
theorem wd_233 : own_at (Cond.code ⟨"java/lang/String", "substring", "(II)Ljava/lang/String;"⟩ jdk_42_method_92_code 5 (Option.some (FieldType.object "java/lang/String"))) := own_mk 233 rfl
theorem wd_234 : own_at (Cond.methodLink "java/lang/String" 521 ⟨"java/lang/String", "checkBoundsBeginEnd", "(III)V"⟩) := own_mk 234 rfl
theorem wd_235 : own_at (Cond.static ⟨"java/lang/String", "checkBoundsBeginEnd", "(III)V"⟩) := own_mk 235 rfl
theorem wd_236 : own_at (Cond.code ⟨"java/lang/String", "checkBoundsBeginEnd", "(III)V"⟩ jdk_42_method_158_code 3 none) := own_mk 236 rfl
theorem wd_237 : own_at (Cond.methodLink "java/lang/String" 1062 ⟨"jdk/internal/util/Preconditions", "checkFromToIndex", "(IIILjava/util/function/BiFunction;)I"⟩) := own_mk 237 rfl
theorem wd_238 : own_at (Cond.static ⟨"jdk/internal/util/Preconditions", "checkFromToIndex", "(IIILjava/util/function/BiFunction;)I"⟩) := own_mk 238 rfl
theorem wd_239 : own_at (Cond.code ⟨"jdk/internal/util/Preconditions", "checkFromToIndex", "(IIILjava/util/function/BiFunction;)I"⟩ jdk_41_method_12_code 4 (some .int)) := own_mk 239 rfl
theorem wd_240 : own_at (Cond.methodLink "java/lang/String" 685 ⟨"java/lang/StringLatin1", "newString", "([BII)Ljava/lang/String;"⟩) := own_mk 240 rfl
theorem wd_241 : own_at (Cond.static ⟨"java/lang/StringLatin1", "newString", "([BII)Ljava/lang/String;"⟩) := own_mk 241 rfl
theorem wd_242 : own_at (Cond.code ⟨"java/lang/StringLatin1", "newString", "([BII)Ljava/lang/String;"⟩ jdk_43_method_47_code 3 (Option.some (FieldType.object "java/lang/String"))) := own_mk 242 rfl
theorem wd_243 : own_at (Cond.classLink "java/lang/StringLatin1" 1 "java/lang/String") := own_mk 243 rfl
theorem wd_244 : own_at (Cond.methodLink "java/lang/StringLatin1" 232 ⟨"java/util/Arrays", "copyOfRange", "([BII)[B"⟩) := own_mk 244 rfl
theorem wd_245 : own_at (Cond.methodLink "java/util/Arrays" 339 ⟨"java/util/Arrays", "copyOfRangeByte", "([BII)[B"⟩) := own_mk 245 rfl
theorem wd_246 : own_at (Cond.static ⟨"java/util/Arrays", "copyOfRangeByte", "([BII)[B"⟩) := own_mk 246 rfl
theorem wd_247 : own_at (Cond.code ⟨"java/util/Arrays", "copyOfRangeByte", "([BII)[B"⟩ jdk_65_method_133_code 5 (Option.some (FieldType.array FieldType.byte))) := own_mk 247 rfl
theorem wd_248 : own_at (Cond.methodLink "java/util/Arrays" 343 ⟨"java/util/Arrays", "checkLength", "(II)V"⟩) := own_mk 248 rfl
theorem wd_249 : own_at (Cond.static ⟨"java/util/Arrays", "checkLength", "(II)V"⟩) := own_mk 249 rfl
theorem wd_250 : own_at (Cond.code ⟨"java/util/Arrays", "checkLength", "(II)V"⟩ jdk_65_method_131_code 2 none) := own_mk 250 rfl
theorem wd_251 : own_at (Cond.methodLink "java/lang/StringLatin1" 112 ⟨"java/lang/String", "<init>", "([BB)V"⟩) := own_mk 251 rfl
theorem wd_252 : own_at (Cond.stringLink "java/lang/StringLatin1" 151 "") := own_mk 252 rfl
theorem wd_253 : own_at (Cond.methodLink "java/lang/String" 1018 ⟨"java/lang/StringLatin1", "toBytes", "(C)[B"⟩) := own_mk 253 rfl
theorem wd_254 : own_at (Cond.static ⟨"java/lang/StringLatin1", "toBytes", "(C)[B"⟩) := own_mk 254 rfl
theorem wd_255 : own_at (Cond.code ⟨"java/lang/StringLatin1", "toBytes", "(C)[B"⟩ jdk_43_method_46_code 1 (Option.some (FieldType.array FieldType.byte))) := own_mk 255 rfl
theorem wd_256 : own_at (Cond.methodLink "java/lang/String" 98 ⟨"java/lang/String", "decode2", "(II)C"⟩) := own_mk 256 rfl
theorem wd_257 : own_at (Cond.static ⟨"java/lang/String", "decode2", "(II)C"⟩) := own_mk 257 rfl
theorem wd_258 : own_at (Cond.code ⟨"java/lang/String", "decode2", "(II)C"⟩ jdk_42_method_35_code 2 (some .char)) := own_mk 258 rfl
theorem wd_259 : own_at (Cond.methodLink "java/lang/String" 385 ⟨"java/lang/String", "isNotContinuation", "(I)Z"⟩) := own_mk 259 rfl
theorem wd_260 : own_at (Cond.static ⟨"java/lang/String", "isNotContinuation", "(I)Z"⟩) := own_mk 260 rfl
theorem wd_261 : own_at (Cond.code ⟨"java/lang/String", "isNotContinuation", "(I)Z"⟩ jdk_42_method_29_code 1 (some .boolean)) := own_mk 261 rfl
theorem own_wS {a0 : Array Value} {Z : State} (hw : own_hw a0 Z) : ∀ a ∈ Bundle.stringAtoms, a.before a0 Z = true := by
  intro d hd
  simp only [Bundle.stringAtoms, List.mem_cons, List.not_mem_nil, or_false] at hd
  rcases hd with rfl | rfl | rfl | rfl | rfl | rfl | rfl
  · exact (wd_3 hw)
  · exact (wd_4 hw)
  · exact (wd_1 hw)
  · exact (wd_5 hw)
  · exact (wd_6 hw)
  · exact (wd_7 hw)
  · exact (wd_8 hw)
theorem d_0 : Dc code 0 (.iload_n 1) 1 1 := ⟨at_0, rfl⟩
theorem d_1 : Dc code 1 (.iconst 1) 1 2 := ⟨at_1, rfl⟩
theorem d_2 : Dc code 2 (.iand) 1 3 := ⟨at_2, rfl⟩
theorem d_3 : Bc code 3 (.ifCond .eq) 11 6 := ⟨8, at_3, by decide, by decide, rfl⟩
theorem d_6 : Dc code 6 (.bipush 47) 2 8 := ⟨at_6, rfl⟩
theorem d_8 : Bc code 8 (.goto) 17 11 := ⟨9, at_8, by decide, by decide, rfl⟩
theorem d_11 : Dc code 11 (.iload_n 0) 1 12 := ⟨at_11, rfl⟩
theorem d_12 : Dc code 12 (.sipush 255) 3 15 := ⟨at_12, rfl⟩
theorem d_15 : Dc code 15 (.iand) 1 16 := ⟨at_15, rfl⟩
theorem d_16 : Dc code 16 (.i2c) 1 17 := ⟨at_16, rfl⟩
theorem d_17 : Dc code 17 (.istore 5) 2 19 := ⟨at_17, rfl⟩
theorem d_19 : Dc code 19 (.iload_n 1) 1 20 := ⟨at_19, rfl⟩
theorem d_20 : Dc code 20 (.iconst 2) 1 21 := ⟨at_20, rfl⟩
theorem d_21 : Dc code 21 (.iand) 1 22 := ⟨at_21, rfl⟩
theorem d_22 : Bc code 22 (.ifCond .eq) 30 25 := ⟨8, at_22, by decide, by decide, rfl⟩
theorem d_25 : Dc code 25 (.bipush 47) 2 27 := ⟨at_25, rfl⟩
theorem d_27 : Bc code 27 (.goto) 39 30 := ⟨12, at_27, by decide, by decide, rfl⟩
theorem d_30 : Dc code 30 (.iload_n 0) 1 31 := ⟨at_30, rfl⟩
theorem d_31 : Dc code 31 (.bipush 8) 2 33 := ⟨at_31, rfl⟩
theorem d_33 : Dc code 33 (.iushr) 1 34 := ⟨at_33, rfl⟩
theorem d_34 : Dc code 34 (.sipush 255) 3 37 := ⟨at_34, rfl⟩
theorem d_37 : Dc code 37 (.iand) 1 38 := ⟨at_37, rfl⟩
theorem d_38 : Dc code 38 (.i2c) 1 39 := ⟨at_38, rfl⟩
theorem d_39 : Dc code 39 (.istore 6) 2 41 := ⟨at_39, rfl⟩
theorem d_41 : Dc code 41 (.iload_n 1) 1 42 := ⟨at_41, rfl⟩
theorem d_42 : Dc code 42 (.iconst 4) 1 43 := ⟨at_42, rfl⟩
theorem d_43 : Dc code 43 (.iand) 1 44 := ⟨at_43, rfl⟩
theorem d_44 : Bc code 44 (.ifCond .eq) 52 47 := ⟨8, at_44, by decide, by decide, rfl⟩
theorem d_47 : Dc code 47 (.bipush 47) 2 49 := ⟨at_47, rfl⟩
theorem d_49 : Bc code 49 (.goto) 61 52 := ⟨12, at_49, by decide, by decide, rfl⟩
theorem d_52 : Dc code 52 (.iload_n 0) 1 53 := ⟨at_52, rfl⟩
theorem d_53 : Dc code 53 (.bipush 16) 2 55 := ⟨at_53, rfl⟩
theorem d_55 : Dc code 55 (.iushr) 1 56 := ⟨at_55, rfl⟩
theorem d_56 : Dc code 56 (.sipush 255) 3 59 := ⟨at_56, rfl⟩
theorem d_59 : Dc code 59 (.iand) 1 60 := ⟨at_59, rfl⟩
theorem d_60 : Dc code 60 (.i2c) 1 61 := ⟨at_60, rfl⟩
theorem d_61 : Dc code 61 (.istore 7) 2 63 := ⟨at_61, rfl⟩
theorem d_63 : Dc code 63 (.iload_n 1) 1 64 := ⟨at_63, rfl⟩
theorem d_64 : Dc code 64 (.iconst 3) 1 65 := ⟨at_64, rfl⟩
theorem d_65 : Dc code 65 (.iushr) 1 66 := ⟨at_65, rfl⟩
theorem d_66 : Dc code 66 (.iconst 3) 1 67 := ⟨at_66, rfl⟩
theorem d_67 : Dc code 67 (.irem) 1 68 := ⟨at_67, rfl⟩
theorem d_68 : Dc code 68 (.istore 8) 2 70 := ⟨at_68, rfl⟩
theorem d_70 : Dc code 70 (.iload 8) 2 72 := ⟨at_70, rfl⟩
theorem d_72 : Bc code 72 (.ifCond .ne) 84 75 := ⟨12, at_72, by decide, by decide, rfl⟩
theorem d_75 : Dc code 75 (.aconst_null) 1 76 := ⟨at_75, rfl⟩
theorem d_76 : Dc code 76 (.astore 9) 2 78 := ⟨at_76, rfl⟩
theorem d_78 : Dc code 78 (.aconst_null) 1 79 := ⟨at_78, rfl⟩
theorem d_79 : Dc code 79 (.astore 10) 2 81 := ⟨at_79, rfl⟩
theorem d_81 : Bc code 81 (.goto) 218 84 := ⟨137, at_81, by decide, by decide, rfl⟩
theorem d_84 : Dc code 84 (.iload 8) 2 86 := ⟨at_84, rfl⟩
theorem d_86 : Dc code 86 (.iconst 1) 1 87 := ⟨at_86, rfl⟩
theorem d_87 : Bc code 87 (.if_icmp .ne) 101 90 := ⟨14, at_87, by decide, by decide, rfl⟩
theorem d_90 : Dc code 90 (.ldc 7) 2 92 := ⟨at_90, rfl⟩
theorem d_92 : Dc code 92 (.astore 9) 2 94 := ⟨at_92, rfl⟩
theorem d_94 : Dc code 94 (.ldc 7) 2 96 := ⟨at_94, rfl⟩
theorem d_96 : Dc code 96 (.astore 10) 2 98 := ⟨at_96, rfl⟩
theorem d_98 : Bc code 98 (.goto) 218 101 := ⟨120, at_98, by decide, by decide, rfl⟩
theorem d_101 : Dc code 101 (.new 9) 3 104 := ⟨at_101, rfl⟩
theorem d_104 : Dc code 104 (.dup) 1 105 := ⟨at_104, rfl⟩
theorem d_105 : Dc code 105 (.iconst 3) 1 106 := ⟨at_105, rfl⟩
theorem d_106 : Dc code 106 (.newarray .char) 2 108 := ⟨at_106, rfl⟩
theorem d_108 : Dc code 108 (.dup) 1 109 := ⟨at_108, rfl⟩
theorem d_109 : Dc code 109 (.iconst 0) 1 110 := ⟨at_109, rfl⟩
theorem d_110 : Dc code 110 (.iload 5) 2 112 := ⟨at_110, rfl⟩
theorem d_112 : Dc code 112 (.castore) 1 113 := ⟨at_112, rfl⟩
theorem d_113 : Dc code 113 (.dup) 1 114 := ⟨at_113, rfl⟩
theorem d_114 : Dc code 114 (.iconst 1) 1 115 := ⟨at_114, rfl⟩
theorem d_115 : Dc code 115 (.iload 6) 2 117 := ⟨at_115, rfl⟩
theorem d_117 : Dc code 117 (.castore) 1 118 := ⟨at_117, rfl⟩
theorem d_118 : Dc code 118 (.dup) 1 119 := ⟨at_118, rfl⟩
theorem d_119 : Dc code 119 (.iconst 2) 1 120 := ⟨at_119, rfl⟩
theorem d_120 : Dc code 120 (.iload 7) 2 122 := ⟨at_120, rfl⟩
theorem d_122 : Dc code 122 (.castore) 1 123 := ⟨at_122, rfl⟩
theorem d_123 : Dc code 123 (.invokespecial 11) 3 126 := ⟨at_123, rfl⟩
theorem d_126 : Dc code 126 (.astore 9) 2 128 := ⟨at_126, rfl⟩
theorem d_128 : Dc code 128 (.iload 7) 2 130 := ⟨at_128, rfl⟩
theorem d_130 : Dc code 130 (.bipush 47) 2 132 := ⟨at_130, rfl⟩
theorem d_132 : Bc code 132 (.if_icmp .ne) 142 135 := ⟨10, at_132, by decide, by decide, rfl⟩
theorem d_135 : Dc code 135 (.ldc 7) 2 137 := ⟨at_135, rfl⟩
theorem d_137 : Dc code 137 (.astore 10) 2 139 := ⟨at_137, rfl⟩
theorem d_139 : Bc code 139 (.goto) 218 142 := ⟨79, at_139, by decide, by decide, rfl⟩
theorem d_142 : Dc code 142 (.iload 6) 2 144 := ⟨at_142, rfl⟩
theorem d_144 : Dc code 144 (.bipush 47) 2 146 := ⟨at_144, rfl⟩
theorem d_146 : Bc code 146 (.if_icmp .ne) 159 149 := ⟨13, at_146, by decide, by decide, rfl⟩
theorem d_149 : Dc code 149 (.iload 7) 2 151 := ⟨at_149, rfl⟩
theorem d_151 : Dc code 151 (.invokestatic 14) 3 154 := ⟨at_151, rfl⟩
theorem d_154 : Dc code 154 (.astore 10) 2 156 := ⟨at_154, rfl⟩
theorem d_156 : Bc code 156 (.goto) 218 159 := ⟨62, at_156, by decide, by decide, rfl⟩
theorem d_159 : Dc code 159 (.iload 5) 2 161 := ⟨at_159, rfl⟩
theorem d_161 : Dc code 161 (.bipush 47) 2 163 := ⟨at_161, rfl⟩
theorem d_163 : Bc code 163 (.if_icmp .ne) 191 166 := ⟨28, at_163, by decide, by decide, rfl⟩
theorem d_166 : Dc code 166 (.new 9) 3 169 := ⟨at_166, rfl⟩
theorem d_169 : Dc code 169 (.dup) 1 170 := ⟨at_169, rfl⟩
theorem d_170 : Dc code 170 (.iconst 2) 1 171 := ⟨at_170, rfl⟩
theorem d_171 : Dc code 171 (.newarray .char) 2 173 := ⟨at_171, rfl⟩
theorem d_173 : Dc code 173 (.dup) 1 174 := ⟨at_173, rfl⟩
theorem d_174 : Dc code 174 (.iconst 0) 1 175 := ⟨at_174, rfl⟩
theorem d_175 : Dc code 175 (.iload 6) 2 177 := ⟨at_175, rfl⟩
theorem d_177 : Dc code 177 (.castore) 1 178 := ⟨at_177, rfl⟩
theorem d_178 : Dc code 178 (.dup) 1 179 := ⟨at_178, rfl⟩
theorem d_179 : Dc code 179 (.iconst 1) 1 180 := ⟨at_179, rfl⟩
theorem d_180 : Dc code 180 (.iload 7) 2 182 := ⟨at_180, rfl⟩
theorem d_182 : Dc code 182 (.castore) 1 183 := ⟨at_182, rfl⟩
theorem d_183 : Dc code 183 (.invokespecial 11) 3 186 := ⟨at_183, rfl⟩
theorem d_186 : Dc code 186 (.astore 10) 2 188 := ⟨at_186, rfl⟩
theorem d_188 : Bc code 188 (.goto) 218 191 := ⟨30, at_188, by decide, by decide, rfl⟩
theorem d_191 : Dc code 191 (.new 9) 3 194 := ⟨at_191, rfl⟩
theorem d_194 : Dc code 194 (.dup) 1 195 := ⟨at_194, rfl⟩
theorem d_195 : Dc code 195 (.iconst 3) 1 196 := ⟨at_195, rfl⟩
theorem d_196 : Dc code 196 (.newarray .char) 2 198 := ⟨at_196, rfl⟩
theorem d_198 : Dc code 198 (.dup) 1 199 := ⟨at_198, rfl⟩
theorem d_199 : Dc code 199 (.iconst 0) 1 200 := ⟨at_199, rfl⟩
theorem d_200 : Dc code 200 (.iload 5) 2 202 := ⟨at_200, rfl⟩
theorem d_202 : Dc code 202 (.castore) 1 203 := ⟨at_202, rfl⟩
theorem d_203 : Dc code 203 (.dup) 1 204 := ⟨at_203, rfl⟩
theorem d_204 : Dc code 204 (.iconst 1) 1 205 := ⟨at_204, rfl⟩
theorem d_205 : Dc code 205 (.iload 6) 2 207 := ⟨at_205, rfl⟩
theorem d_207 : Dc code 207 (.castore) 1 208 := ⟨at_207, rfl⟩
theorem d_208 : Dc code 208 (.dup) 1 209 := ⟨at_208, rfl⟩
theorem d_209 : Dc code 209 (.iconst 2) 1 210 := ⟨at_209, rfl⟩
theorem d_210 : Dc code 210 (.iload 7) 2 212 := ⟨at_210, rfl⟩
theorem d_212 : Dc code 212 (.castore) 1 213 := ⟨at_212, rfl⟩
theorem d_213 : Dc code 213 (.invokespecial 11) 3 216 := ⟨at_213, rfl⟩
theorem d_216 : Dc code 216 (.astore 10) 2 218 := ⟨at_216, rfl⟩
theorem d_218 : Dc code 218 (.iload 4) 2 220 := ⟨at_218, rfl⟩
theorem d_220 : Dc code 220 (.ldc 18) 2 222 := ⟨at_220, rfl⟩
theorem d_222 : Dc code 222 (.iand) 1 223 := ⟨at_222, rfl⟩
theorem d_223 : Dc code 223 (.iconst 4) 1 224 := ⟨at_223, rfl⟩
theorem d_224 : Dc code 224 (.irem) 1 225 := ⟨at_224, rfl⟩
theorem d_225 : Dc code 225 (.istore 11) 2 227 := ⟨at_225, rfl⟩
theorem d_227 : Dc code 227 (.iload_n 3) 1 228 := ⟨at_227, rfl⟩
theorem d_228 : Dc code 228 (.ldc 18) 2 230 := ⟨at_228, rfl⟩
theorem d_230 : Dc code 230 (.iand) 1 231 := ⟨at_230, rfl⟩
theorem d_231 : Dc code 231 (.istore 12) 2 233 := ⟨at_231, rfl⟩
theorem d_233 : Dc code 233 (.iload 11) 2 235 := ⟨at_233, rfl⟩
theorem d_235 : Bc code 235 (.ifCond .ne) 250 238 := ⟨15, at_235, by decide, by decide, rfl⟩
theorem d_238 : Dc code 238 (.iconst 0) 1 239 := ⟨at_238, rfl⟩
theorem d_239 : Dc code 239 (.newarray .byte) 2 241 := ⟨at_239, rfl⟩
theorem d_241 : Dc code 241 (.astore 13) 2 243 := ⟨at_241, rfl⟩
theorem d_243 : Dc code 243 (.ldc 7) 2 245 := ⟨at_243, rfl⟩
theorem d_245 : Dc code 245 (.astore 14) 2 247 := ⟨at_245, rfl⟩
theorem d_247 : Bc code 247 (.goto) 441 250 := ⟨194, at_247, by decide, by decide, rfl⟩
theorem d_250 : Dc code 250 (.iload 11) 2 252 := ⟨at_250, rfl⟩
theorem d_252 : Dc code 252 (.iconst 1) 1 253 := ⟨at_252, rfl⟩
theorem d_253 : Bc code 253 (.if_icmp .ne) 315 256 := ⟨62, at_253, by decide, by decide, rfl⟩
theorem d_256 : Dc code 256 (.iload_n 3) 1 257 := ⟨at_256, rfl⟩
theorem d_257 : Dc code 257 (.bipush 127) 2 259 := ⟨at_257, rfl⟩
theorem d_259 : Dc code 259 (.iand) 1 260 := ⟨at_259, rfl⟩
theorem d_260 : Dc code 260 (.istore 15) 2 262 := ⟨at_260, rfl⟩
theorem d_262 : Dc code 262 (.iload_n 3) 1 263 := ⟨at_262, rfl⟩
theorem d_263 : Dc code 263 (.bipush 8) 2 265 := ⟨at_263, rfl⟩
theorem d_265 : Dc code 265 (.iushr) 1 266 := ⟨at_265, rfl⟩
theorem d_266 : Dc code 266 (.bipush 127) 2 268 := ⟨at_266, rfl⟩
theorem d_268 : Dc code 268 (.iand) 1 269 := ⟨at_268, rfl⟩
theorem d_269 : Dc code 269 (.istore 16) 2 271 := ⟨at_269, rfl⟩
theorem d_271 : Dc code 271 (.iconst 2) 1 272 := ⟨at_271, rfl⟩
theorem d_272 : Dc code 272 (.newarray .byte) 2 274 := ⟨at_272, rfl⟩
theorem d_274 : Dc code 274 (.dup) 1 275 := ⟨at_274, rfl⟩
theorem d_275 : Dc code 275 (.iconst 0) 1 276 := ⟨at_275, rfl⟩
theorem d_276 : Dc code 276 (.iload 15) 2 278 := ⟨at_276, rfl⟩
theorem d_278 : Dc code 278 (.i2b) 1 279 := ⟨at_278, rfl⟩
theorem d_279 : Dc code 279 (.bastore) 1 280 := ⟨at_279, rfl⟩
theorem d_280 : Dc code 280 (.dup) 1 281 := ⟨at_280, rfl⟩
theorem d_281 : Dc code 281 (.iconst 1) 1 282 := ⟨at_281, rfl⟩
theorem d_282 : Dc code 282 (.iload 16) 2 284 := ⟨at_282, rfl⟩
theorem d_284 : Dc code 284 (.i2b) 1 285 := ⟨at_284, rfl⟩
theorem d_285 : Dc code 285 (.bastore) 1 286 := ⟨at_285, rfl⟩
theorem d_286 : Dc code 286 (.astore 13) 2 288 := ⟨at_286, rfl⟩
theorem d_288 : Dc code 288 (.new 9) 3 291 := ⟨at_288, rfl⟩
theorem d_291 : Dc code 291 (.dup) 1 292 := ⟨at_291, rfl⟩
theorem d_292 : Dc code 292 (.iconst 2) 1 293 := ⟨at_292, rfl⟩
theorem d_293 : Dc code 293 (.newarray .char) 2 295 := ⟨at_293, rfl⟩
theorem d_295 : Dc code 295 (.dup) 1 296 := ⟨at_295, rfl⟩
theorem d_296 : Dc code 296 (.iconst 0) 1 297 := ⟨at_296, rfl⟩
theorem d_297 : Dc code 297 (.iload 15) 2 299 := ⟨at_297, rfl⟩
theorem d_299 : Dc code 299 (.i2c) 1 300 := ⟨at_299, rfl⟩
theorem d_300 : Dc code 300 (.castore) 1 301 := ⟨at_300, rfl⟩
theorem d_301 : Dc code 301 (.dup) 1 302 := ⟨at_301, rfl⟩
theorem d_302 : Dc code 302 (.iconst 1) 1 303 := ⟨at_302, rfl⟩
theorem d_303 : Dc code 303 (.iload 16) 2 305 := ⟨at_303, rfl⟩
theorem d_305 : Dc code 305 (.i2c) 1 306 := ⟨at_305, rfl⟩
theorem d_306 : Dc code 306 (.castore) 1 307 := ⟨at_306, rfl⟩
theorem d_307 : Dc code 307 (.invokespecial 11) 3 310 := ⟨at_307, rfl⟩
theorem d_310 : Dc code 310 (.astore 14) 2 312 := ⟨at_310, rfl⟩
theorem d_312 : Bc code 312 (.goto) 441 315 := ⟨129, at_312, by decide, by decide, rfl⟩
theorem d_315 : Dc code 315 (.iload 11) 2 317 := ⟨at_315, rfl⟩
theorem d_317 : Dc code 317 (.iconst 2) 1 318 := ⟨at_317, rfl⟩
theorem d_318 : Bc code 318 (.if_icmp .ne) 375 321 := ⟨57, at_318, by decide, by decide, rfl⟩
theorem d_321 : Dc code 321 (.sipush 128) 3 324 := ⟨at_321, rfl⟩
theorem d_324 : Dc code 324 (.iload 12) 2 326 := ⟨at_324, rfl⟩
theorem d_326 : Dc code 326 (.sipush 1920) 3 329 := ⟨at_326, rfl⟩
theorem d_329 : Dc code 329 (.irem) 1 330 := ⟨at_329, rfl⟩
theorem d_330 : Dc code 330 (.iadd) 1 331 := ⟨at_330, rfl⟩
theorem d_331 : Dc code 331 (.istore 15) 2 333 := ⟨at_331, rfl⟩
theorem d_333 : Dc code 333 (.iconst 2) 1 334 := ⟨at_333, rfl⟩
theorem d_334 : Dc code 334 (.newarray .byte) 2 336 := ⟨at_334, rfl⟩
theorem d_336 : Dc code 336 (.dup) 1 337 := ⟨at_336, rfl⟩
theorem d_337 : Dc code 337 (.iconst 0) 1 338 := ⟨at_337, rfl⟩
theorem d_338 : Dc code 338 (.sipush 192) 3 341 := ⟨at_338, rfl⟩
theorem d_341 : Dc code 341 (.iload 15) 2 343 := ⟨at_341, rfl⟩
theorem d_343 : Dc code 343 (.bipush 6) 2 345 := ⟨at_343, rfl⟩
theorem d_345 : Dc code 345 (.ishr) 1 346 := ⟨at_345, rfl⟩
theorem d_346 : Dc code 346 (.ior) 1 347 := ⟨at_346, rfl⟩
theorem d_347 : Dc code 347 (.i2b) 1 348 := ⟨at_347, rfl⟩
theorem d_348 : Dc code 348 (.bastore) 1 349 := ⟨at_348, rfl⟩
theorem d_349 : Dc code 349 (.dup) 1 350 := ⟨at_349, rfl⟩
theorem d_350 : Dc code 350 (.iconst 1) 1 351 := ⟨at_350, rfl⟩
theorem d_351 : Dc code 351 (.sipush 128) 3 354 := ⟨at_351, rfl⟩
theorem d_354 : Dc code 354 (.iload 15) 2 356 := ⟨at_354, rfl⟩
theorem d_356 : Dc code 356 (.bipush 63) 2 358 := ⟨at_356, rfl⟩
theorem d_358 : Dc code 358 (.iand) 1 359 := ⟨at_358, rfl⟩
theorem d_359 : Dc code 359 (.ior) 1 360 := ⟨at_359, rfl⟩
theorem d_360 : Dc code 360 (.i2b) 1 361 := ⟨at_360, rfl⟩
theorem d_361 : Dc code 361 (.bastore) 1 362 := ⟨at_361, rfl⟩
theorem d_362 : Dc code 362 (.astore 13) 2 364 := ⟨at_362, rfl⟩
theorem d_364 : Dc code 364 (.iload 15) 2 366 := ⟨at_364, rfl⟩
theorem d_366 : Dc code 366 (.i2c) 1 367 := ⟨at_366, rfl⟩
theorem d_367 : Dc code 367 (.invokestatic 14) 3 370 := ⟨at_367, rfl⟩
theorem d_370 : Dc code 370 (.astore 14) 2 372 := ⟨at_370, rfl⟩
theorem d_372 : Bc code 372 (.goto) 441 375 := ⟨69, at_372, by decide, by decide, rfl⟩
theorem d_375 : Dc code 375 (.sipush 2048) 3 378 := ⟨at_375, rfl⟩
theorem d_378 : Dc code 378 (.iload 12) 2 380 := ⟨at_378, rfl⟩
theorem d_380 : Dc code 380 (.ldc 19) 2 382 := ⟨at_380, rfl⟩
theorem d_382 : Dc code 382 (.irem) 1 383 := ⟨at_382, rfl⟩
theorem d_383 : Dc code 383 (.iadd) 1 384 := ⟨at_383, rfl⟩
theorem d_384 : Dc code 384 (.istore 15) 2 386 := ⟨at_384, rfl⟩
theorem d_386 : Dc code 386 (.iconst 3) 1 387 := ⟨at_386, rfl⟩
theorem d_387 : Dc code 387 (.newarray .byte) 2 389 := ⟨at_387, rfl⟩
theorem d_389 : Dc code 389 (.dup) 1 390 := ⟨at_389, rfl⟩
theorem d_390 : Dc code 390 (.iconst 0) 1 391 := ⟨at_390, rfl⟩
theorem d_391 : Dc code 391 (.sipush 224) 3 394 := ⟨at_391, rfl⟩
theorem d_394 : Dc code 394 (.iload 15) 2 396 := ⟨at_394, rfl⟩
theorem d_396 : Dc code 396 (.bipush 12) 2 398 := ⟨at_396, rfl⟩
theorem d_398 : Dc code 398 (.ishr) 1 399 := ⟨at_398, rfl⟩
theorem d_399 : Dc code 399 (.ior) 1 400 := ⟨at_399, rfl⟩
theorem d_400 : Dc code 400 (.i2b) 1 401 := ⟨at_400, rfl⟩
theorem d_401 : Dc code 401 (.bastore) 1 402 := ⟨at_401, rfl⟩
theorem d_402 : Dc code 402 (.dup) 1 403 := ⟨at_402, rfl⟩
theorem d_403 : Dc code 403 (.iconst 1) 1 404 := ⟨at_403, rfl⟩
theorem d_404 : Dc code 404 (.sipush 128) 3 407 := ⟨at_404, rfl⟩
theorem d_407 : Dc code 407 (.iload 15) 2 409 := ⟨at_407, rfl⟩
theorem d_409 : Dc code 409 (.bipush 6) 2 411 := ⟨at_409, rfl⟩
theorem d_411 : Dc code 411 (.ishr) 1 412 := ⟨at_411, rfl⟩
theorem d_412 : Dc code 412 (.bipush 63) 2 414 := ⟨at_412, rfl⟩
theorem d_414 : Dc code 414 (.iand) 1 415 := ⟨at_414, rfl⟩
theorem d_415 : Dc code 415 (.ior) 1 416 := ⟨at_415, rfl⟩
theorem d_416 : Dc code 416 (.i2b) 1 417 := ⟨at_416, rfl⟩
theorem d_417 : Dc code 417 (.bastore) 1 418 := ⟨at_417, rfl⟩
theorem d_418 : Dc code 418 (.dup) 1 419 := ⟨at_418, rfl⟩
theorem d_419 : Dc code 419 (.iconst 2) 1 420 := ⟨at_419, rfl⟩
theorem d_420 : Dc code 420 (.sipush 128) 3 423 := ⟨at_420, rfl⟩
theorem d_423 : Dc code 423 (.iload 15) 2 425 := ⟨at_423, rfl⟩
theorem d_425 : Dc code 425 (.bipush 63) 2 427 := ⟨at_425, rfl⟩
theorem d_427 : Dc code 427 (.iand) 1 428 := ⟨at_427, rfl⟩
theorem d_428 : Dc code 428 (.ior) 1 429 := ⟨at_428, rfl⟩
theorem d_429 : Dc code 429 (.i2b) 1 430 := ⟨at_429, rfl⟩
theorem d_430 : Dc code 430 (.bastore) 1 431 := ⟨at_430, rfl⟩
theorem d_431 : Dc code 431 (.astore 13) 2 433 := ⟨at_431, rfl⟩
theorem d_433 : Dc code 433 (.iload 15) 2 435 := ⟨at_433, rfl⟩
theorem d_435 : Dc code 435 (.i2c) 1 436 := ⟨at_435, rfl⟩
theorem d_436 : Dc code 436 (.invokestatic 14) 3 439 := ⟨at_436, rfl⟩
theorem d_439 : Dc code 439 (.astore 14) 2 441 := ⟨at_439, rfl⟩
theorem d_441 : Dc code 441 (.aload 9) 2 443 := ⟨at_441, rfl⟩
theorem d_443 : Dc code 443 (.iload_n 2) 1 444 := ⟨at_443, rfl⟩
theorem d_444 : Dc code 444 (.aload 13) 2 446 := ⟨at_444, rfl⟩
theorem d_446 : Dc code 446 (.invokestatic 20) 3 449 := ⟨at_446, rfl⟩
theorem d_449 : Dc code 449 (.astore 15) 2 451 := ⟨at_449, rfl⟩
theorem d_451 : Dc code 451 (.aload 10) 2 453 := ⟨at_451, rfl⟩
theorem d_453 : Bc code 453 (.ifnonnull) 472 456 := ⟨19, at_453, by decide, by decide, rfl⟩
theorem d_456 : Dc code 456 (.aload 15) 2 458 := ⟨at_456, rfl⟩
theorem d_458 : Dc code 458 (.invokevirtual 26) 3 461 := ⟨at_458, rfl⟩
theorem d_461 : Bc code 461 (.ifnonnull) 468 464 := ⟨7, at_461, by decide, by decide, rfl⟩
theorem d_464 : Dc code 464 (.iconst 1) 1 465 := ⟨at_464, rfl⟩
theorem d_465 : Bc code 465 (.goto) 482 468 := ⟨17, at_465, by decide, by decide, rfl⟩
theorem d_472 : Dc code 472 (.aload 10) 2 474 := ⟨at_472, rfl⟩
theorem d_474 : Dc code 474 (.aload 15) 2 476 := ⟨at_474, rfl⟩
theorem d_476 : Dc code 476 (.invokevirtual 26) 3 479 := ⟨at_476, rfl⟩
theorem d_479 : Dc code 479 (.invokevirtual 30) 3 482 := ⟨at_479, rfl⟩
theorem d_482 : Dc code 482 (.istore 16) 2 484 := ⟨at_482, rfl⟩
theorem d_484 : Dc code 484 (.iload 16) 2 486 := ⟨at_484, rfl⟩
theorem d_486 : Bc code 486 (.ifCond .eq) 515 489 := ⟨29, at_486, by decide, by decide, rfl⟩
theorem d_489 : Dc code 489 (.aload 15) 2 491 := ⟨at_489, rfl⟩
theorem d_491 : Dc code 491 (.invokevirtual 34) 3 494 := ⟨at_491, rfl⟩
theorem d_494 : Dc code 494 (.iload_n 2) 1 495 := ⟨at_494, rfl⟩
theorem d_495 : Bc code 495 (.if_icmp .ne) 515 498 := ⟨20, at_495, by decide, by decide, rfl⟩
theorem d_498 : Dc code 498 (.aload 14) 2 500 := ⟨at_498, rfl⟩
theorem d_500 : Dc code 500 (.aload 15) 2 502 := ⟨at_500, rfl⟩
theorem d_502 : Dc code 502 (.invokevirtual 38) 3 505 := ⟨at_502, rfl⟩
theorem d_505 : Dc code 505 (.invokevirtual 30) 3 508 := ⟨at_505, rfl⟩
theorem d_508 : Bc code 508 (.ifCond .eq) 515 511 := ⟨7, at_508, by decide, by decide, rfl⟩
theorem d_511 : Dc code 511 (.iconst 1) 1 512 := ⟨at_511, rfl⟩
theorem d_512 : Bc code 512 (.goto) 516 515 := ⟨4, at_512, by decide, by decide, rfl⟩
theorem d_516 : Dc code 516 (.ireturn) 1 517 := ⟨at_516, rfl⟩
theorem k123_3_0 : Dc jdk_123_method_3_code 0 (.iload_n 1) 1 1 := ⟨by decide +kernel, rfl⟩
theorem k123_3_1 : Dc jdk_123_method_3_code 1 (.iload_n 2) 1 2 := ⟨by decide +kernel, rfl⟩
theorem k123_3_2 : Dc jdk_123_method_3_code 2 (.iadd) 1 3 := ⟨by decide +kernel, rfl⟩
theorem k123_3_3 : Dc jdk_123_method_3_code 3 (.istore_n 3) 1 4 := ⟨by decide +kernel, rfl⟩
theorem k123_3_4 : Dc jdk_123_method_3_code 4 (.iload_n 1) 1 5 := ⟨by decide +kernel, rfl⟩
theorem k123_3_5 : Dc jdk_123_method_3_code 5 (.istore 4) 2 7 := ⟨by decide +kernel, rfl⟩
theorem k123_3_7 : Dc jdk_123_method_3_code 7 (.iload 4) 2 9 := ⟨by decide +kernel, rfl⟩
theorem k123_3_9 : Dc jdk_123_method_3_code 9 (.iload_n 3) 1 10 := ⟨by decide +kernel, rfl⟩
theorem k123_3_10 : Bc jdk_123_method_3_code 10 (.if_icmp .ge) 31 13 := ⟨21, by decide +kernel, by decide, by decide, rfl⟩
theorem k123_3_13 : Dc jdk_123_method_3_code 13 (.aload_n 0) 1 14 := ⟨by decide +kernel, rfl⟩
theorem k123_3_14 : Dc jdk_123_method_3_code 14 (.iload 4) 2 16 := ⟨by decide +kernel, rfl⟩
theorem k123_3_16 : Dc jdk_123_method_3_code 16 (.baload) 1 17 := ⟨by decide +kernel, rfl⟩
theorem k123_3_17 : Bc jdk_123_method_3_code 17 (.ifCond .ge) 25 20 := ⟨8, by decide +kernel, by decide, by decide, rfl⟩
theorem k123_3_20 : Dc jdk_123_method_3_code 20 (.iload 4) 2 22 := ⟨by decide +kernel, rfl⟩
theorem k123_3_22 : Dc jdk_123_method_3_code 22 (.iload_n 1) 1 23 := ⟨by decide +kernel, rfl⟩
theorem k123_3_23 : Dc jdk_123_method_3_code 23 (.isub) 1 24 := ⟨by decide +kernel, rfl⟩
theorem k123_3_24 : Dc jdk_123_method_3_code 24 (.ireturn) 1 25 := ⟨by decide +kernel, rfl⟩
theorem k123_3_25 : Dc jdk_123_method_3_code 25 (.iinc 4 1) 3 28 := ⟨by decide +kernel, rfl⟩
theorem k123_3_28 : Bc jdk_123_method_3_code 28 (.goto) 7 31 := ⟨(-21), by decide +kernel, by decide, by decide, rfl⟩
theorem k123_3_31 : Dc jdk_123_method_3_code 31 (.iload_n 2) 1 32 := ⟨by decide +kernel, rfl⟩
theorem k123_3_32 : Dc jdk_123_method_3_code 32 (.ireturn) 1 33 := ⟨by decide +kernel, rfl⟩
theorem k29_69_0 : Dc jdk_29_method_69_code 0 (.iload_n 0) 1 1 := ⟨by decide +kernel, rfl⟩
theorem k29_69_1 : Dc jdk_29_method_69_code 1 (.iload_n 1) 1 2 := ⟨by decide +kernel, rfl⟩
theorem k29_69_2 : Bc jdk_29_method_69_code 2 (.if_icmp .gt) 9 5 := ⟨7, by decide +kernel, by decide, by decide, rfl⟩
theorem k29_69_5 : Dc jdk_29_method_69_code 5 (.iload_n 0) 1 6 := ⟨by decide +kernel, rfl⟩
theorem k29_69_6 : Bc jdk_29_method_69_code 6 (.goto) 10 9 := ⟨4, by decide +kernel, by decide, by decide, rfl⟩
theorem k29_69_9 : Dc jdk_29_method_69_code 9 (.iload_n 1) 1 10 := ⟨by decide +kernel, rfl⟩
theorem k29_69_10 : Dc jdk_29_method_69_code 10 (.ireturn) 1 11 := ⟨by decide +kernel, rfl⟩
theorem k30_1_0 : Dc jdk_30_method_1_code 0 (.aload_n 0) 1 1 := ⟨by decide +kernel, rfl⟩
theorem k30_1_1 : Dc jdk_30_method_1_code 1 (.invokespecial 1) 3 4 := ⟨by decide +kernel, rfl⟩
theorem k30_1_4 : Dc jdk_30_method_1_code 4 (.return_) 1 5 := ⟨by decide +kernel, rfl⟩
theorem k31_10_0 : Dc jdk_31_method_10_code 0 (.aload_n 0) 1 1 := ⟨by decide +kernel, rfl⟩
theorem k31_10_1 : Bc jdk_31_method_10_code 1 (.ifnonnull) 12 4 := ⟨11, by decide +kernel, by decide, by decide, rfl⟩
theorem k31_10_12 : Dc jdk_31_method_10_code 12 (.aload_n 0) 1 13 := ⟨by decide +kernel, rfl⟩
theorem k31_10_13 : Dc jdk_31_method_10_code 13 (.areturn) 1 14 := ⟨by decide +kernel, rfl⟩
theorem k31_11_0 : Dc jdk_31_method_11_code 0 (.aload_n 0) 1 1 := ⟨by decide +kernel, rfl⟩
theorem k31_11_1 : Bc jdk_31_method_11_code 1 (.ifnonnull) 13 4 := ⟨12, by decide +kernel, by decide, by decide, rfl⟩
theorem k31_11_13 : Dc jdk_31_method_11_code 13 (.aload_n 0) 1 14 := ⟨by decide +kernel, rfl⟩
theorem k31_11_14 : Dc jdk_31_method_11_code 14 (.areturn) 1 15 := ⟨by decide +kernel, rfl⟩
theorem k41_12_0 : Dc jdk_41_method_12_code 0 (.iload_n 0) 1 1 := ⟨by decide +kernel, rfl⟩
theorem k41_12_1 : Bc jdk_41_method_12_code 1 (.ifCond .lt) 14 4 := ⟨13, by decide +kernel, by decide, by decide, rfl⟩
theorem k41_12_4 : Dc jdk_41_method_12_code 4 (.iload_n 0) 1 5 := ⟨by decide +kernel, rfl⟩
theorem k41_12_5 : Dc jdk_41_method_12_code 5 (.iload_n 1) 1 6 := ⟨by decide +kernel, rfl⟩
theorem k41_12_6 : Bc jdk_41_method_12_code 6 (.if_icmp .gt) 14 9 := ⟨8, by decide +kernel, by decide, by decide, rfl⟩
theorem k41_12_9 : Dc jdk_41_method_12_code 9 (.iload_n 1) 1 10 := ⟨by decide +kernel, rfl⟩
theorem k41_12_10 : Dc jdk_41_method_12_code 10 (.iload_n 2) 1 11 := ⟨by decide +kernel, rfl⟩
theorem k41_12_11 : Bc jdk_41_method_12_code 11 (.if_icmp .le) 22 14 := ⟨11, by decide +kernel, by decide, by decide, rfl⟩
theorem k41_12_22 : Dc jdk_41_method_12_code 22 (.iload_n 0) 1 23 := ⟨by decide +kernel, rfl⟩
theorem k41_12_23 : Dc jdk_41_method_12_code 23 (.ireturn) 1 24 := ⟨by decide +kernel, rfl⟩
theorem k41_13_0 : Dc jdk_41_method_13_code 0 (.iload_n 2) 1 1 := ⟨by decide +kernel, rfl⟩
theorem k41_13_1 : Dc jdk_41_method_13_code 1 (.iload_n 0) 1 2 := ⟨by decide +kernel, rfl⟩
theorem k41_13_2 : Dc jdk_41_method_13_code 2 (.ior) 1 3 := ⟨by decide +kernel, rfl⟩
theorem k41_13_3 : Dc jdk_41_method_13_code 3 (.iload_n 1) 1 4 := ⟨by decide +kernel, rfl⟩
theorem k41_13_4 : Dc jdk_41_method_13_code 4 (.ior) 1 5 := ⟨by decide +kernel, rfl⟩
theorem k41_13_5 : Bc jdk_41_method_13_code 5 (.ifCond .lt) 15 8 := ⟨10, by decide +kernel, by decide, by decide, rfl⟩
theorem k41_13_8 : Dc jdk_41_method_13_code 8 (.iload_n 1) 1 9 := ⟨by decide +kernel, rfl⟩
theorem k41_13_9 : Dc jdk_41_method_13_code 9 (.iload_n 2) 1 10 := ⟨by decide +kernel, rfl⟩
theorem k41_13_10 : Dc jdk_41_method_13_code 10 (.iload_n 0) 1 11 := ⟨by decide +kernel, rfl⟩
theorem k41_13_11 : Dc jdk_41_method_13_code 11 (.isub) 1 12 := ⟨by decide +kernel, rfl⟩
theorem k41_13_12 : Bc jdk_41_method_13_code 12 (.if_icmp .le) 23 15 := ⟨11, by decide +kernel, by decide, by decide, rfl⟩
theorem k41_13_23 : Dc jdk_41_method_13_code 23 (.iload_n 0) 1 24 := ⟨by decide +kernel, rfl⟩
theorem k41_13_24 : Dc jdk_41_method_13_code 24 (.ireturn) 1 25 := ⟨by decide +kernel, rfl⟩
theorem k42_11_0 : Dc jdk_42_method_11_code 0 (.aload_n 0) 1 1 := ⟨by decide +kernel, rfl⟩
theorem k42_11_1 : Dc jdk_42_method_11_code 1 (.invokespecial 1) 3 4 := ⟨by decide +kernel, rfl⟩
theorem k42_11_4 : Dc jdk_42_method_11_code 4 (.iload 4) 2 6 := ⟨by decide +kernel, rfl⟩
theorem k42_11_6 : Bc jdk_42_method_11_code 6 (.ifCond .ne) 30 9 := ⟨24, by decide +kernel, by decide, by decide, rfl⟩
theorem k42_11_9 : Dc jdk_42_method_11_code 9 (.aload_n 0) 1 10 := ⟨by decide +kernel, rfl⟩
theorem k42_11_10 : Dc jdk_42_method_11_code 10 (.ldc 7) 2 12 := ⟨by decide +kernel, rfl⟩
theorem k42_11_12 : Dc jdk_42_method_11_code 12 (.getfield 9) 3 15 := ⟨by decide +kernel, rfl⟩
theorem k42_11_15 : Dc jdk_42_method_11_code 15 (.putfield 9) 3 18 := ⟨by decide +kernel, rfl⟩
theorem k42_11_18 : Dc jdk_42_method_11_code 18 (.aload_n 0) 1 19 := ⟨by decide +kernel, rfl⟩
theorem k42_11_19 : Dc jdk_42_method_11_code 19 (.ldc 7) 2 21 := ⟨by decide +kernel, rfl⟩
theorem k42_11_21 : Dc jdk_42_method_11_code 21 (.getfield 15) 3 24 := ⟨by decide +kernel, rfl⟩
theorem k42_11_24 : Dc jdk_42_method_11_code 24 (.putfield 15) 3 27 := ⟨by decide +kernel, rfl⟩
theorem k42_11_27 : Bc jdk_42_method_11_code 27 (.goto) 879 30 := ⟨852, by decide +kernel, by decide, by decide, rfl⟩
theorem k42_11_30 : Dc jdk_42_method_11_code 30 (.aload_n 1) 1 31 := ⟨by decide +kernel, rfl⟩
theorem k42_11_31 : Dc jdk_42_method_11_code 31 (.getstatic 86) 3 34 := ⟨by decide +kernel, rfl⟩
theorem k42_11_34 : Bc jdk_42_method_11_code 34 (.if_acmp .ne) 346 37 := ⟨312, by decide +kernel, by decide, by decide, rfl⟩
theorem k42_11_37 : Dc jdk_42_method_11_code 37 (.getstatic 38) 3 40 := ⟨by decide +kernel, rfl⟩
theorem k42_11_40 : Bc jdk_42_method_11_code 40 (.ifCond .eq) 292 43 := ⟨252, by decide +kernel, by decide, by decide, rfl⟩
theorem k42_11_43 : Dc jdk_42_method_11_code 43 (.aload_n 2) 1 44 := ⟨by decide +kernel, rfl⟩
theorem k42_11_44 : Dc jdk_42_method_11_code 44 (.iload_n 3) 1 45 := ⟨by decide +kernel, rfl⟩
theorem k42_11_45 : Dc jdk_42_method_11_code 45 (.iload 4) 2 47 := ⟨by decide +kernel, rfl⟩
theorem k42_11_47 : Dc jdk_42_method_11_code 47 (.invokestatic 92) 3 50 := ⟨by decide +kernel, rfl⟩
theorem k42_11_50 : Dc jdk_42_method_11_code 50 (.istore 5) 2 52 := ⟨by decide +kernel, rfl⟩
theorem k42_11_52 : Dc jdk_42_method_11_code 52 (.iload 5) 2 54 := ⟨by decide +kernel, rfl⟩
theorem k42_11_54 : Dc jdk_42_method_11_code 54 (.iload 4) 2 56 := ⟨by decide +kernel, rfl⟩
theorem k42_11_56 : Bc jdk_42_method_11_code 56 (.if_icmp .ne) 78 59 := ⟨22, by decide +kernel, by decide, by decide, rfl⟩
theorem k42_11_59 : Dc jdk_42_method_11_code 59 (.aload_n 0) 1 60 := ⟨by decide +kernel, rfl⟩
theorem k42_11_60 : Dc jdk_42_method_11_code 60 (.aload_n 2) 1 61 := ⟨by decide +kernel, rfl⟩
theorem k42_11_61 : Dc jdk_42_method_11_code 61 (.iload_n 3) 1 62 := ⟨by decide +kernel, rfl⟩
theorem k42_11_62 : Dc jdk_42_method_11_code 62 (.iload_n 3) 1 63 := ⟨by decide +kernel, rfl⟩
theorem k42_11_63 : Dc jdk_42_method_11_code 63 (.iload 4) 2 65 := ⟨by decide +kernel, rfl⟩
theorem k42_11_65 : Dc jdk_42_method_11_code 65 (.iadd) 1 66 := ⟨by decide +kernel, rfl⟩
theorem k42_11_66 : Dc jdk_42_method_11_code 66 (.invokestatic 54) 3 69 := ⟨by decide +kernel, rfl⟩
theorem k42_11_69 : Dc jdk_42_method_11_code 69 (.putfield 9) 3 72 := ⟨by decide +kernel, rfl⟩
theorem k42_11_72 : Dc jdk_42_method_11_code 72 (.aload_n 0) 1 73 := ⟨by decide +kernel, rfl⟩
theorem k42_11_73 : Dc jdk_42_method_11_code 73 (.iconst 0) 1 74 := ⟨by decide +kernel, rfl⟩
theorem k42_11_74 : Dc jdk_42_method_11_code 74 (.putfield 15) 3 77 := ⟨by decide +kernel, rfl⟩
theorem k42_11_77 : Dc jdk_42_method_11_code 77 (.return_) 1 78 := ⟨by decide +kernel, rfl⟩
theorem k42_11_78 : Dc jdk_42_method_11_code 78 (.aload_n 2) 1 79 := ⟨by decide +kernel, rfl⟩
theorem k42_11_79 : Dc jdk_42_method_11_code 79 (.iload_n 3) 1 80 := ⟨by decide +kernel, rfl⟩
theorem k42_11_80 : Dc jdk_42_method_11_code 80 (.iload_n 3) 1 81 := ⟨by decide +kernel, rfl⟩
theorem k42_11_81 : Dc jdk_42_method_11_code 81 (.iload 4) 2 83 := ⟨by decide +kernel, rfl⟩
theorem k42_11_83 : Dc jdk_42_method_11_code 83 (.iadd) 1 84 := ⟨by decide +kernel, rfl⟩
theorem k42_11_84 : Dc jdk_42_method_11_code 84 (.invokestatic 54) 3 87 := ⟨by decide +kernel, rfl⟩
theorem k42_11_87 : Dc jdk_42_method_11_code 87 (.astore 6) 2 89 := ⟨by decide +kernel, rfl⟩
theorem k42_11_89 : Dc jdk_42_method_11_code 89 (.iload 5) 2 91 := ⟨by decide +kernel, rfl⟩
theorem k42_11_91 : Dc jdk_42_method_11_code 91 (.istore 7) 2 93 := ⟨by decide +kernel, rfl⟩
theorem k42_11_93 : Dc jdk_42_method_11_code 93 (.iload 7) 2 95 := ⟨by decide +kernel, rfl⟩
theorem k42_11_95 : Dc jdk_42_method_11_code 95 (.iload 4) 2 97 := ⟨by decide +kernel, rfl⟩
theorem k42_11_97 : Bc jdk_42_method_11_code 97 (.if_icmp .ge) 190 100 := ⟨93, by decide +kernel, by decide, by decide, rfl⟩
theorem k42_11_100 : Dc jdk_42_method_11_code 100 (.aload 6) 2 102 := ⟨by decide +kernel, rfl⟩
theorem k42_11_102 : Dc jdk_42_method_11_code 102 (.iload 7) 2 104 := ⟨by decide +kernel, rfl⟩
theorem k42_11_104 : Dc jdk_42_method_11_code 104 (.iinc 7 1) 3 107 := ⟨by decide +kernel, rfl⟩
theorem k42_11_107 : Dc jdk_42_method_11_code 107 (.baload) 1 108 := ⟨by decide +kernel, rfl⟩
theorem k42_11_108 : Dc jdk_42_method_11_code 108 (.istore 8) 2 110 := ⟨by decide +kernel, rfl⟩
theorem k42_11_110 : Dc jdk_42_method_11_code 110 (.iload 8) 2 112 := ⟨by decide +kernel, rfl⟩
theorem k42_11_112 : Bc jdk_42_method_11_code 112 (.ifCond .lt) 129 115 := ⟨17, by decide +kernel, by decide, by decide, rfl⟩
theorem k42_11_129 : Dc jdk_42_method_11_code 129 (.iload 8) 2 131 := ⟨by decide +kernel, rfl⟩
theorem k42_11_131 : Dc jdk_42_method_11_code 131 (.sipush 254) 3 134 := ⟨by decide +kernel, rfl⟩
theorem k42_11_134 : Dc jdk_42_method_11_code 134 (.iand) 1 135 := ⟨by decide +kernel, rfl⟩
theorem k42_11_135 : Dc jdk_42_method_11_code 135 (.sipush 194) 3 138 := ⟨by decide +kernel, rfl⟩
theorem k42_11_138 : Bc jdk_42_method_11_code 138 (.if_icmp .ne) 184 141 := ⟨46, by decide +kernel, by decide, by decide, rfl⟩
theorem k42_11_141 : Dc jdk_42_method_11_code 141 (.iload 7) 2 143 := ⟨by decide +kernel, rfl⟩
theorem k42_11_143 : Dc jdk_42_method_11_code 143 (.iload 4) 2 145 := ⟨by decide +kernel, rfl⟩
theorem k42_11_145 : Bc jdk_42_method_11_code 145 (.if_icmp .ge) 184 148 := ⟨39, by decide +kernel, by decide, by decide, rfl⟩
theorem k42_11_148 : Dc jdk_42_method_11_code 148 (.aload 6) 2 150 := ⟨by decide +kernel, rfl⟩
theorem k42_11_150 : Dc jdk_42_method_11_code 150 (.iload 7) 2 152 := ⟨by decide +kernel, rfl⟩
theorem k42_11_152 : Dc jdk_42_method_11_code 152 (.baload) 1 153 := ⟨by decide +kernel, rfl⟩
theorem k42_11_153 : Dc jdk_42_method_11_code 153 (.istore 9) 2 155 := ⟨by decide +kernel, rfl⟩
theorem k42_11_155 : Dc jdk_42_method_11_code 155 (.iload 9) 2 157 := ⟨by decide +kernel, rfl⟩
theorem k42_11_157 : Dc jdk_42_method_11_code 157 (.bipush (-64)) 2 159 := ⟨by decide +kernel, rfl⟩
theorem k42_11_159 : Bc jdk_42_method_11_code 159 (.if_icmp .ge) 184 162 := ⟨25, by decide +kernel, by decide, by decide, rfl⟩
theorem k42_11_162 : Dc jdk_42_method_11_code 162 (.aload 6) 2 164 := ⟨by decide +kernel, rfl⟩
theorem k42_11_164 : Dc jdk_42_method_11_code 164 (.iload 5) 2 166 := ⟨by decide +kernel, rfl⟩
theorem k42_11_166 : Dc jdk_42_method_11_code 166 (.iinc 5 1) 3 169 := ⟨by decide +kernel, rfl⟩
theorem k42_11_169 : Dc jdk_42_method_11_code 169 (.iload 8) 2 171 := ⟨by decide +kernel, rfl⟩
theorem k42_11_171 : Dc jdk_42_method_11_code 171 (.iload 9) 2 173 := ⟨by decide +kernel, rfl⟩
theorem k42_11_173 : Dc jdk_42_method_11_code 173 (.invokestatic 98) 3 176 := ⟨by decide +kernel, rfl⟩
theorem k42_11_176 : Dc jdk_42_method_11_code 176 (.i2b) 1 177 := ⟨by decide +kernel, rfl⟩
theorem k42_11_177 : Dc jdk_42_method_11_code 177 (.bastore) 1 178 := ⟨by decide +kernel, rfl⟩
theorem k42_11_178 : Dc jdk_42_method_11_code 178 (.iinc 7 1) 3 181 := ⟨by decide +kernel, rfl⟩
theorem k42_11_181 : Bc jdk_42_method_11_code 181 (.goto) 93 184 := ⟨(-88), by decide +kernel, by decide, by decide, rfl⟩
theorem k42_11_184 : Dc jdk_42_method_11_code 184 (.iinc 7 (-1)) 3 187 := ⟨by decide +kernel, rfl⟩
theorem k42_11_187 : Bc jdk_42_method_11_code 187 (.goto) 190 190 := ⟨3, by decide +kernel, by decide, by decide, rfl⟩
theorem k42_11_190 : Dc jdk_42_method_11_code 190 (.iload 7) 2 192 := ⟨by decide +kernel, rfl⟩
theorem k42_11_192 : Dc jdk_42_method_11_code 192 (.iload 4) 2 194 := ⟨by decide +kernel, rfl⟩
theorem k42_11_194 : Bc jdk_42_method_11_code 194 (.if_icmp .ne) 226 197 := ⟨32, by decide +kernel, by decide, by decide, rfl⟩
theorem k42_11_197 : Dc jdk_42_method_11_code 197 (.iload 5) 2 199 := ⟨by decide +kernel, rfl⟩
theorem k42_11_199 : Dc jdk_42_method_11_code 199 (.aload 6) 2 201 := ⟨by decide +kernel, rfl⟩
theorem k42_11_201 : Dc jdk_42_method_11_code 201 (.arraylength) 1 202 := ⟨by decide +kernel, rfl⟩
theorem k42_11_202 : Bc jdk_42_method_11_code 202 (.if_icmp .eq) 214 205 := ⟨12, by decide +kernel, by decide, by decide, rfl⟩
theorem k42_11_205 : Dc jdk_42_method_11_code 205 (.aload 6) 2 207 := ⟨by decide +kernel, rfl⟩
theorem k42_11_207 : Dc jdk_42_method_11_code 207 (.iload 5) 2 209 := ⟨by decide +kernel, rfl⟩
theorem k42_11_209 : Dc jdk_42_method_11_code 209 (.invokestatic 102) 3 212 := ⟨by decide +kernel, rfl⟩
theorem k42_11_212 : Dc jdk_42_method_11_code 212 (.astore 6) 2 214 := ⟨by decide +kernel, rfl⟩
theorem k42_11_214 : Dc jdk_42_method_11_code 214 (.aload_n 0) 1 215 := ⟨by decide +kernel, rfl⟩
theorem k42_11_215 : Dc jdk_42_method_11_code 215 (.aload 6) 2 217 := ⟨by decide +kernel, rfl⟩
theorem k42_11_217 : Dc jdk_42_method_11_code 217 (.putfield 9) 3 220 := ⟨by decide +kernel, rfl⟩
theorem k42_11_220 : Dc jdk_42_method_11_code 220 (.aload_n 0) 1 221 := ⟨by decide +kernel, rfl⟩
theorem k42_11_221 : Dc jdk_42_method_11_code 221 (.iconst 0) 1 222 := ⟨by decide +kernel, rfl⟩
theorem k42_11_222 : Dc jdk_42_method_11_code 222 (.putfield 15) 3 225 := ⟨by decide +kernel, rfl⟩
theorem k42_11_225 : Dc jdk_42_method_11_code 225 (.return_) 1 226 := ⟨by decide +kernel, rfl⟩
theorem k42_11_226 : Dc jdk_42_method_11_code 226 (.iload 4) 2 228 := ⟨by decide +kernel, rfl⟩
theorem k42_11_228 : Dc jdk_42_method_11_code 228 (.invokestatic 60) 3 231 := ⟨by decide +kernel, rfl⟩
theorem k42_11_231 : Dc jdk_42_method_11_code 231 (.astore 8) 2 233 := ⟨by decide +kernel, rfl⟩
theorem k42_11_233 : Dc jdk_42_method_11_code 233 (.aload 6) 2 235 := ⟨by decide +kernel, rfl⟩
theorem k42_11_235 : Dc jdk_42_method_11_code 235 (.iconst 0) 1 236 := ⟨by decide +kernel, rfl⟩
theorem k42_11_236 : Dc jdk_42_method_11_code 236 (.aload 8) 2 238 := ⟨by decide +kernel, rfl⟩
theorem k42_11_238 : Dc jdk_42_method_11_code 238 (.iconst 0) 1 239 := ⟨by decide +kernel, rfl⟩
theorem k42_11_239 : Dc jdk_42_method_11_code 239 (.iload 5) 2 241 := ⟨by decide +kernel, rfl⟩
theorem k42_11_241 : Dc jdk_42_method_11_code 241 (.invokestatic 106) 3 244 := ⟨by decide +kernel, rfl⟩
theorem k42_11_244 : Dc jdk_42_method_11_code 244 (.aload 6) 2 246 := ⟨by decide +kernel, rfl⟩
theorem k42_11_246 : Dc jdk_42_method_11_code 246 (.iload 7) 2 248 := ⟨by decide +kernel, rfl⟩
theorem k42_11_248 : Dc jdk_42_method_11_code 248 (.iload 4) 2 250 := ⟨by decide +kernel, rfl⟩
theorem k42_11_250 : Dc jdk_42_method_11_code 250 (.aload 8) 2 252 := ⟨by decide +kernel, rfl⟩
theorem k42_11_252 : Dc jdk_42_method_11_code 252 (.iload 5) 2 254 := ⟨by decide +kernel, rfl⟩
theorem k42_11_254 : Dc jdk_42_method_11_code 254 (.iconst 1) 1 255 := ⟨by decide +kernel, rfl⟩
theorem k42_11_255 : Dc jdk_42_method_11_code 255 (.invokestatic 112) 3 258 := ⟨by decide +kernel, rfl⟩
theorem k42_11_258 : Dc jdk_42_method_11_code 258 (.istore 5) 2 260 := ⟨by decide +kernel, rfl⟩
theorem k42_11_260 : Dc jdk_42_method_11_code 260 (.iload 5) 2 262 := ⟨by decide +kernel, rfl⟩
theorem k42_11_262 : Dc jdk_42_method_11_code 262 (.iload 4) 2 264 := ⟨by decide +kernel, rfl⟩
theorem k42_11_264 : Bc jdk_42_method_11_code 264 (.if_icmp .eq) 278 267 := ⟨14, by decide +kernel, by decide, by decide, rfl⟩
theorem k42_11_267 : Dc jdk_42_method_11_code 267 (.aload 8) 2 269 := ⟨by decide +kernel, rfl⟩
theorem k42_11_269 : Dc jdk_42_method_11_code 269 (.iload 5) 2 271 := ⟨by decide +kernel, rfl⟩
theorem k42_11_271 : Dc jdk_42_method_11_code 271 (.iconst 1) 1 272 := ⟨by decide +kernel, rfl⟩
theorem k42_11_272 : Dc jdk_42_method_11_code 272 (.ishl) 1 273 := ⟨by decide +kernel, rfl⟩
theorem k42_11_273 : Dc jdk_42_method_11_code 273 (.invokestatic 102) 3 276 := ⟨by decide +kernel, rfl⟩
theorem k42_11_276 : Dc jdk_42_method_11_code 276 (.astore 8) 2 278 := ⟨by decide +kernel, rfl⟩
theorem k42_11_278 : Dc jdk_42_method_11_code 278 (.aload_n 0) 1 279 := ⟨by decide +kernel, rfl⟩
theorem k42_11_279 : Dc jdk_42_method_11_code 279 (.aload 8) 2 281 := ⟨by decide +kernel, rfl⟩
theorem k42_11_281 : Dc jdk_42_method_11_code 281 (.putfield 9) 3 284 := ⟨by decide +kernel, rfl⟩
theorem k42_11_284 : Dc jdk_42_method_11_code 284 (.aload_n 0) 1 285 := ⟨by decide +kernel, rfl⟩
theorem k42_11_285 : Dc jdk_42_method_11_code 285 (.iconst 1) 1 286 := ⟨by decide +kernel, rfl⟩
theorem k42_11_286 : Dc jdk_42_method_11_code 286 (.putfield 15) 3 289 := ⟨by decide +kernel, rfl⟩
theorem k42_11_289 : Bc jdk_42_method_11_code 289 (.goto) 879 292 := ⟨590, by decide +kernel, by decide, by decide, rfl⟩
theorem k42_11_879 : Dc jdk_42_method_11_code 879 (.return_) 1 880 := ⟨by decide +kernel, rfl⟩
theorem k42_139_0 : Dc jdk_42_method_139_code 0 (.getstatic 38) 3 3 := ⟨by decide +kernel, rfl⟩
theorem k42_139_3 : Bc jdk_42_method_139_code 3 (.ifCond .eq) 26 6 := ⟨23, by decide +kernel, by decide, by decide, rfl⟩
theorem k42_139_6 : Dc jdk_42_method_139_code 6 (.iload_n 0) 1 7 := ⟨by decide +kernel, rfl⟩
theorem k42_139_7 : Dc jdk_42_method_139_code 7 (.invokestatic 1015) 3 10 := ⟨by decide +kernel, rfl⟩
theorem k42_139_10 : Bc jdk_42_method_139_code 10 (.ifCond .eq) 26 13 := ⟨16, by decide +kernel, by decide, by decide, rfl⟩
theorem k42_139_13 : Dc jdk_42_method_139_code 13 (.new 10) 3 16 := ⟨by decide +kernel, rfl⟩
theorem k42_139_16 : Dc jdk_42_method_139_code 16 (.dup) 1 17 := ⟨by decide +kernel, rfl⟩
theorem k42_139_17 : Dc jdk_42_method_139_code 17 (.iload_n 0) 1 18 := ⟨by decide +kernel, rfl⟩
theorem k42_139_18 : Dc jdk_42_method_139_code 18 (.invokestatic 1018) 3 21 := ⟨by decide +kernel, rfl⟩
theorem k42_139_21 : Dc jdk_42_method_139_code 21 (.iconst 0) 1 22 := ⟨by decide +kernel, rfl⟩
theorem k42_139_22 : Dc jdk_42_method_139_code 22 (.invokespecial 209) 3 25 := ⟨by decide +kernel, rfl⟩
theorem k42_139_25 : Dc jdk_42_method_139_code 25 (.areturn) 1 26 := ⟨by decide +kernel, rfl⟩
theorem k42_139_26 : Dc jdk_42_method_139_code 26 (.new 10) 3 29 := ⟨by decide +kernel, rfl⟩
theorem k42_139_29 : Dc jdk_42_method_139_code 29 (.dup) 1 30 := ⟨by decide +kernel, rfl⟩
theorem k42_139_30 : Dc jdk_42_method_139_code 30 (.iload_n 0) 1 31 := ⟨by decide +kernel, rfl⟩
theorem k42_139_31 : Dc jdk_42_method_139_code 31 (.invokestatic 1021) 3 34 := ⟨by decide +kernel, rfl⟩
theorem k42_139_34 : Dc jdk_42_method_139_code 34 (.iconst 1) 1 35 := ⟨by decide +kernel, rfl⟩
theorem k42_139_35 : Dc jdk_42_method_139_code 35 (.invokespecial 209) 3 38 := ⟨by decide +kernel, rfl⟩
theorem k42_139_38 : Dc jdk_42_method_139_code 38 (.areturn) 1 39 := ⟨by decide +kernel, rfl⟩
theorem k42_149_0 : Dc jdk_42_method_149_code 0 (.aload_n 0) 1 1 := ⟨by decide +kernel, rfl⟩
theorem k42_149_1 : Dc jdk_42_method_149_code 1 (.invokespecial 1) 3 4 := ⟨by decide +kernel, rfl⟩
theorem k42_149_4 : Dc jdk_42_method_149_code 4 (.iload_n 3) 1 5 := ⟨by decide +kernel, rfl⟩
theorem k42_149_5 : Bc jdk_42_method_149_code 5 (.ifCond .ne) 27 8 := ⟨22, by decide +kernel, by decide, by decide, rfl⟩
theorem k42_149_27 : Dc jdk_42_method_149_code 27 (.getstatic 38) 3 30 := ⟨by decide +kernel, rfl⟩
theorem k42_149_30 : Bc jdk_42_method_149_code 30 (.ifCond .eq) 58 33 := ⟨28, by decide +kernel, by decide, by decide, rfl⟩
theorem k42_149_33 : Dc jdk_42_method_149_code 33 (.aload_n 1) 1 34 := ⟨by decide +kernel, rfl⟩
theorem k42_149_34 : Dc jdk_42_method_149_code 34 (.iload_n 2) 1 35 := ⟨by decide +kernel, rfl⟩
theorem k42_149_35 : Dc jdk_42_method_149_code 35 (.iload_n 3) 1 36 := ⟨by decide +kernel, rfl⟩
theorem k42_149_36 : Dc jdk_42_method_149_code 36 (.invokestatic 177) 3 39 := ⟨by decide +kernel, rfl⟩
theorem k42_149_39 : Dc jdk_42_method_149_code 39 (.astore 5) 2 41 := ⟨by decide +kernel, rfl⟩
theorem k42_149_41 : Dc jdk_42_method_149_code 41 (.aload_n 0) 1 42 := ⟨by decide +kernel, rfl⟩
theorem k42_149_42 : Dc jdk_42_method_149_code 42 (.aload 5) 2 44 := ⟨by decide +kernel, rfl⟩
theorem k42_149_44 : Dc jdk_42_method_149_code 44 (.iload_n 3) 1 45 := ⟨by decide +kernel, rfl⟩
theorem k42_149_45 : Dc jdk_42_method_149_code 45 (.invokestatic 47) 3 48 := ⟨by decide +kernel, rfl⟩
theorem k42_149_48 : Dc jdk_42_method_149_code 48 (.putfield 15) 3 51 := ⟨by decide +kernel, rfl⟩
theorem k42_149_51 : Dc jdk_42_method_149_code 51 (.aload_n 0) 1 52 := ⟨by decide +kernel, rfl⟩
theorem k42_149_52 : Dc jdk_42_method_149_code 52 (.aload 5) 2 54 := ⟨by decide +kernel, rfl⟩
theorem k42_149_54 : Dc jdk_42_method_149_code 54 (.putfield 9) 3 57 := ⟨by decide +kernel, rfl⟩
theorem k42_149_57 : Dc jdk_42_method_149_code 57 (.return_) 1 58 := ⟨by decide +kernel, rfl⟩
theorem k42_151_0 : Dc jdk_42_method_151_code 0 (.aload_n 0) 1 1 := ⟨by decide +kernel, rfl⟩
theorem k42_151_1 : Dc jdk_42_method_151_code 1 (.invokespecial 1) 3 4 := ⟨by decide +kernel, rfl⟩
theorem k42_151_4 : Dc jdk_42_method_151_code 4 (.aload_n 0) 1 5 := ⟨by decide +kernel, rfl⟩
theorem k42_151_5 : Dc jdk_42_method_151_code 5 (.aload_n 1) 1 6 := ⟨by decide +kernel, rfl⟩
theorem k42_151_6 : Dc jdk_42_method_151_code 6 (.putfield 9) 3 9 := ⟨by decide +kernel, rfl⟩
theorem k42_151_9 : Dc jdk_42_method_151_code 9 (.aload_n 0) 1 10 := ⟨by decide +kernel, rfl⟩
theorem k42_151_10 : Dc jdk_42_method_151_code 10 (.iload_n 2) 1 11 := ⟨by decide +kernel, rfl⟩
theorem k42_151_11 : Dc jdk_42_method_151_code 11 (.putfield 15) 3 14 := ⟨by decide +kernel, rfl⟩
theorem k42_151_14 : Dc jdk_42_method_151_code 14 (.return_) 1 15 := ⟨by decide +kernel, rfl⟩
theorem k42_152_0 : Dc jdk_42_method_152_code 0 (.getstatic 38) 3 3 := ⟨by decide +kernel, rfl⟩
theorem k42_152_3 : Bc jdk_42_method_152_code 3 (.ifCond .eq) 13 6 := ⟨10, by decide +kernel, by decide, by decide, rfl⟩
theorem k42_152_6 : Dc jdk_42_method_152_code 6 (.aload_n 0) 1 7 := ⟨by decide +kernel, rfl⟩
theorem k42_152_7 : Dc jdk_42_method_152_code 7 (.getfield 15) 3 10 := ⟨by decide +kernel, rfl⟩
theorem k42_152_10 : Bc jdk_42_method_152_code 10 (.goto) 14 13 := ⟨4, by decide +kernel, by decide, by decide, rfl⟩
theorem k42_152_14 : Dc jdk_42_method_152_code 14 (.ireturn) 1 15 := ⟨by decide +kernel, rfl⟩
theorem k42_154_0 : Dc jdk_42_method_154_code 0 (.getstatic 38) 3 3 := ⟨by decide +kernel, rfl⟩
theorem k42_154_3 : Bc jdk_42_method_154_code 3 (.ifCond .eq) 17 6 := ⟨14, by decide +kernel, by decide, by decide, rfl⟩
theorem k42_154_6 : Dc jdk_42_method_154_code 6 (.aload_n 0) 1 7 := ⟨by decide +kernel, rfl⟩
theorem k42_154_7 : Dc jdk_42_method_154_code 7 (.getfield 15) 3 10 := ⟨by decide +kernel, rfl⟩
theorem k42_154_10 : Bc jdk_42_method_154_code 10 (.ifCond .ne) 17 13 := ⟨7, by decide +kernel, by decide, by decide, rfl⟩
theorem k42_154_13 : Dc jdk_42_method_154_code 13 (.iconst 1) 1 14 := ⟨by decide +kernel, rfl⟩
theorem k42_154_14 : Bc jdk_42_method_154_code 14 (.goto) 18 17 := ⟨4, by decide +kernel, by decide, by decide, rfl⟩
theorem k42_154_18 : Dc jdk_42_method_154_code 18 (.ireturn) 1 19 := ⟨by decide +kernel, rfl⟩
theorem k42_157_0 : Dc jdk_42_method_157_code 0 (.iload_n 0) 1 1 := ⟨by decide +kernel, rfl⟩
theorem k42_157_1 : Dc jdk_42_method_157_code 1 (.iload_n 1) 1 2 := ⟨by decide +kernel, rfl⟩
theorem k42_157_2 : Dc jdk_42_method_157_code 2 (.iload_n 2) 1 3 := ⟨by decide +kernel, rfl⟩
theorem k42_157_3 : Dc jdk_42_method_157_code 3 (.getstatic 1053) 3 6 := ⟨by decide +kernel, rfl⟩
theorem k42_157_6 : Dc jdk_42_method_157_code 6 (.invokestatic 1065) 3 9 := ⟨by decide +kernel, rfl⟩
theorem k42_157_9 : Dc jdk_42_method_157_code 9 (.ireturn) 1 10 := ⟨by decide +kernel, rfl⟩
theorem k42_158_0 : Dc jdk_42_method_158_code 0 (.iload_n 0) 1 1 := ⟨by decide +kernel, rfl⟩
theorem k42_158_1 : Dc jdk_42_method_158_code 1 (.iload_n 1) 1 2 := ⟨by decide +kernel, rfl⟩
theorem k42_158_2 : Dc jdk_42_method_158_code 2 (.iload_n 2) 1 3 := ⟨by decide +kernel, rfl⟩
theorem k42_158_3 : Dc jdk_42_method_158_code 3 (.getstatic 1053) 3 6 := ⟨by decide +kernel, rfl⟩
theorem k42_158_6 : Dc jdk_42_method_158_code 6 (.invokestatic 1062) 3 9 := ⟨by decide +kernel, rfl⟩
theorem k42_158_9 : Dc jdk_42_method_158_code 9 (.pop) 1 10 := ⟨by decide +kernel, rfl⟩
theorem k42_158_10 : Dc jdk_42_method_158_code 10 (.return_) 1 11 := ⟨by decide +kernel, rfl⟩
theorem k42_29_0 : Dc jdk_42_method_29_code 0 (.iload_n 0) 1 1 := ⟨by decide +kernel, rfl⟩
theorem k42_29_1 : Dc jdk_42_method_29_code 1 (.sipush 192) 3 4 := ⟨by decide +kernel, rfl⟩
theorem k42_29_4 : Dc jdk_42_method_29_code 4 (.iand) 1 5 := ⟨by decide +kernel, rfl⟩
theorem k42_29_5 : Dc jdk_42_method_29_code 5 (.sipush 128) 3 8 := ⟨by decide +kernel, rfl⟩
theorem k42_29_8 : Bc jdk_42_method_29_code 8 (.if_icmp .eq) 15 11 := ⟨7, by decide +kernel, by decide, by decide, rfl⟩
theorem k42_29_15 : Dc jdk_42_method_29_code 15 (.iconst 0) 1 16 := ⟨by decide +kernel, rfl⟩
theorem k42_29_16 : Dc jdk_42_method_29_code 16 (.ireturn) 1 17 := ⟨by decide +kernel, rfl⟩
theorem k42_30_0 : Dc jdk_42_method_30_code 0 (.iload_n 0) 1 1 := ⟨by decide +kernel, rfl⟩
theorem k42_30_1 : Dc jdk_42_method_30_code 1 (.bipush (-32)) 2 3 := ⟨by decide +kernel, rfl⟩
theorem k42_30_3 : Bc jdk_42_method_30_code 3 (.if_icmp .ne) 17 6 := ⟨14, by decide +kernel, by decide, by decide, rfl⟩
theorem k42_30_6 : Dc jdk_42_method_30_code 6 (.iload_n 1) 1 7 := ⟨by decide +kernel, rfl⟩
theorem k42_30_7 : Dc jdk_42_method_30_code 7 (.sipush 224) 3 10 := ⟨by decide +kernel, rfl⟩
theorem k42_30_10 : Dc jdk_42_method_30_code 10 (.iand) 1 11 := ⟨by decide +kernel, rfl⟩
theorem k42_30_11 : Dc jdk_42_method_30_code 11 (.sipush 128) 3 14 := ⟨by decide +kernel, rfl⟩
theorem k42_30_14 : Bc jdk_42_method_30_code 14 (.if_icmp .eq) 39 17 := ⟨25, by decide +kernel, by decide, by decide, rfl⟩
theorem k42_30_17 : Dc jdk_42_method_30_code 17 (.iload_n 1) 1 18 := ⟨by decide +kernel, rfl⟩
theorem k42_30_18 : Dc jdk_42_method_30_code 18 (.sipush 192) 3 21 := ⟨by decide +kernel, rfl⟩
theorem k42_30_21 : Dc jdk_42_method_30_code 21 (.iand) 1 22 := ⟨by decide +kernel, rfl⟩
theorem k42_30_22 : Dc jdk_42_method_30_code 22 (.sipush 128) 3 25 := ⟨by decide +kernel, rfl⟩
theorem k42_30_25 : Bc jdk_42_method_30_code 25 (.if_icmp .ne) 39 28 := ⟨14, by decide +kernel, by decide, by decide, rfl⟩
theorem k42_30_28 : Dc jdk_42_method_30_code 28 (.iload_n 2) 1 29 := ⟨by decide +kernel, rfl⟩
theorem k42_30_29 : Dc jdk_42_method_30_code 29 (.sipush 192) 3 32 := ⟨by decide +kernel, rfl⟩
theorem k42_30_32 : Dc jdk_42_method_30_code 32 (.iand) 1 33 := ⟨by decide +kernel, rfl⟩
theorem k42_30_33 : Dc jdk_42_method_30_code 33 (.sipush 128) 3 36 := ⟨by decide +kernel, rfl⟩
theorem k42_30_36 : Bc jdk_42_method_30_code 36 (.if_icmp .eq) 43 39 := ⟨7, by decide +kernel, by decide, by decide, rfl⟩
theorem k42_30_43 : Dc jdk_42_method_30_code 43 (.iconst 0) 1 44 := ⟨by decide +kernel, rfl⟩
theorem k42_30_44 : Dc jdk_42_method_30_code 44 (.ireturn) 1 45 := ⟨by decide +kernel, rfl⟩
theorem k42_35_0 : Dc jdk_42_method_35_code 0 (.iload_n 0) 1 1 := ⟨by decide +kernel, rfl⟩
theorem k42_35_1 : Dc jdk_42_method_35_code 1 (.bipush 6) 2 3 := ⟨by decide +kernel, rfl⟩
theorem k42_35_3 : Dc jdk_42_method_35_code 3 (.ishl) 1 4 := ⟨by decide +kernel, rfl⟩
theorem k42_35_4 : Dc jdk_42_method_35_code 4 (.iload_n 1) 1 5 := ⟨by decide +kernel, rfl⟩
theorem k42_35_5 : Dc jdk_42_method_35_code 5 (.ixor) 1 6 := ⟨by decide +kernel, rfl⟩
theorem k42_35_6 : Dc jdk_42_method_35_code 6 (.sipush 3968) 3 9 := ⟨by decide +kernel, rfl⟩
theorem k42_35_9 : Dc jdk_42_method_35_code 9 (.ixor) 1 10 := ⟨by decide +kernel, rfl⟩
theorem k42_35_10 : Dc jdk_42_method_35_code 10 (.i2c) 1 11 := ⟨by decide +kernel, rfl⟩
theorem k42_35_11 : Dc jdk_42_method_35_code 11 (.ireturn) 1 12 := ⟨by decide +kernel, rfl⟩
theorem k42_36_0 : Dc jdk_42_method_36_code 0 (.iload_n 0) 1 1 := ⟨by decide +kernel, rfl⟩
theorem k42_36_1 : Dc jdk_42_method_36_code 1 (.bipush 12) 2 3 := ⟨by decide +kernel, rfl⟩
theorem k42_36_3 : Dc jdk_42_method_36_code 3 (.ishl) 1 4 := ⟨by decide +kernel, rfl⟩
theorem k42_36_4 : Dc jdk_42_method_36_code 4 (.iload_n 1) 1 5 := ⟨by decide +kernel, rfl⟩
theorem k42_36_5 : Dc jdk_42_method_36_code 5 (.bipush 6) 2 7 := ⟨by decide +kernel, rfl⟩
theorem k42_36_7 : Dc jdk_42_method_36_code 7 (.ishl) 1 8 := ⟨by decide +kernel, rfl⟩
theorem k42_36_8 : Dc jdk_42_method_36_code 8 (.ixor) 1 9 := ⟨by decide +kernel, rfl⟩
theorem k42_36_9 : Dc jdk_42_method_36_code 9 (.iload_n 2) 1 10 := ⟨by decide +kernel, rfl⟩
theorem k42_36_10 : Dc jdk_42_method_36_code 10 (.ldc_w 383) 3 13 := ⟨by decide +kernel, rfl⟩
theorem k42_36_13 : Dc jdk_42_method_36_code 13 (.ixor) 1 14 := ⟨by decide +kernel, rfl⟩
theorem k42_36_14 : Dc jdk_42_method_36_code 14 (.ixor) 1 15 := ⟨by decide +kernel, rfl⟩
theorem k42_36_15 : Dc jdk_42_method_36_code 15 (.i2c) 1 16 := ⟨by decide +kernel, rfl⟩
theorem k42_36_16 : Dc jdk_42_method_36_code 16 (.ireturn) 1 17 := ⟨by decide +kernel, rfl⟩
theorem k42_38_0 : Dc jdk_42_method_38_code 0 (.iload_n 1) 1 1 := ⟨by decide +kernel, rfl⟩
theorem k42_38_1 : Dc jdk_42_method_38_code 1 (.iload_n 2) 1 2 := ⟨by decide +kernel, rfl⟩
theorem k42_38_2 : Bc jdk_42_method_38_code 2 (.if_icmp .ge) 621 5 := ⟨619, by decide +kernel, by decide, by decide, rfl⟩
theorem k42_38_5 : Dc jdk_42_method_38_code 5 (.aload_n 0) 1 6 := ⟨by decide +kernel, rfl⟩
theorem k42_38_6 : Dc jdk_42_method_38_code 6 (.iload_n 1) 1 7 := ⟨by decide +kernel, rfl⟩
theorem k42_38_7 : Dc jdk_42_method_38_code 7 (.iinc 1 1) 3 10 := ⟨by decide +kernel, rfl⟩
theorem k42_38_10 : Dc jdk_42_method_38_code 10 (.baload) 1 11 := ⟨by decide +kernel, rfl⟩
theorem k42_38_11 : Dc jdk_42_method_38_code 11 (.istore 6) 2 13 := ⟨by decide +kernel, rfl⟩
theorem k42_38_13 : Dc jdk_42_method_38_code 13 (.iload 6) 2 15 := ⟨by decide +kernel, rfl⟩
theorem k42_38_15 : Bc jdk_42_method_38_code 15 (.ifCond .lt) 33 18 := ⟨18, by decide +kernel, by decide, by decide, rfl⟩
theorem k42_38_33 : Dc jdk_42_method_38_code 33 (.iload 6) 2 35 := ⟨by decide +kernel, rfl⟩
theorem k42_38_35 : Dc jdk_42_method_38_code 35 (.iconst 5) 1 36 := ⟨by decide +kernel, rfl⟩
theorem k42_38_36 : Dc jdk_42_method_38_code 36 (.ishr) 1 37 := ⟨by decide +kernel, rfl⟩
theorem k42_38_37 : Dc jdk_42_method_38_code 37 (.bipush (-2)) 2 39 := ⟨by decide +kernel, rfl⟩
theorem k42_38_39 : Bc jdk_42_method_38_code 39 (.if_icmp .ne) 143 42 := ⟨104, by decide +kernel, by decide, by decide, rfl⟩
theorem k42_38_42 : Dc jdk_42_method_38_code 42 (.iload 6) 2 44 := ⟨by decide +kernel, rfl⟩
theorem k42_38_44 : Dc jdk_42_method_38_code 44 (.bipush 30) 2 46 := ⟨by decide +kernel, rfl⟩
theorem k42_38_46 : Dc jdk_42_method_38_code 46 (.iand) 1 47 := ⟨by decide +kernel, rfl⟩
theorem k42_38_47 : Bc jdk_42_method_38_code 47 (.ifCond .eq) 143 50 := ⟨96, by decide +kernel, by decide, by decide, rfl⟩
theorem k42_38_50 : Dc jdk_42_method_38_code 50 (.iload_n 1) 1 51 := ⟨by decide +kernel, rfl⟩
theorem k42_38_51 : Dc jdk_42_method_38_code 51 (.iload_n 2) 1 52 := ⟨by decide +kernel, rfl⟩
theorem k42_38_52 : Bc jdk_42_method_38_code 52 (.if_icmp .ge) 119 55 := ⟨67, by decide +kernel, by decide, by decide, rfl⟩
theorem k42_38_55 : Dc jdk_42_method_38_code 55 (.aload_n 0) 1 56 := ⟨by decide +kernel, rfl⟩
theorem k42_38_56 : Dc jdk_42_method_38_code 56 (.iload_n 1) 1 57 := ⟨by decide +kernel, rfl⟩
theorem k42_38_57 : Dc jdk_42_method_38_code 57 (.iinc 1 1) 3 60 := ⟨by decide +kernel, rfl⟩
theorem k42_38_60 : Dc jdk_42_method_38_code 60 (.baload) 1 61 := ⟨by decide +kernel, rfl⟩
theorem k42_38_61 : Dc jdk_42_method_38_code 61 (.istore 7) 2 63 := ⟨by decide +kernel, rfl⟩
theorem k42_38_63 : Dc jdk_42_method_38_code 63 (.iload 7) 2 65 := ⟨by decide +kernel, rfl⟩
theorem k42_38_65 : Dc jdk_42_method_38_code 65 (.invokestatic 385) 3 68 := ⟨by decide +kernel, rfl⟩
theorem k42_38_68 : Bc jdk_42_method_38_code 68 (.ifCond .eq) 100 71 := ⟨32, by decide +kernel, by decide, by decide, rfl⟩
theorem k42_38_100 : Dc jdk_42_method_38_code 100 (.aload_n 3) 1 101 := ⟨by decide +kernel, rfl⟩
theorem k42_38_101 : Dc jdk_42_method_38_code 101 (.iload 4) 2 103 := ⟨by decide +kernel, rfl⟩
theorem k42_38_103 : Dc jdk_42_method_38_code 103 (.iinc 4 1) 3 106 := ⟨by decide +kernel, rfl⟩
theorem k42_38_106 : Dc jdk_42_method_38_code 106 (.iload 6) 2 108 := ⟨by decide +kernel, rfl⟩
theorem k42_38_108 : Dc jdk_42_method_38_code 108 (.iload 7) 2 110 := ⟨by decide +kernel, rfl⟩
theorem k42_38_110 : Dc jdk_42_method_38_code 110 (.invokestatic 98) 3 113 := ⟨by decide +kernel, rfl⟩
theorem k42_38_113 : Dc jdk_42_method_38_code 113 (.invokestatic 64) 3 116 := ⟨by decide +kernel, rfl⟩
theorem k42_38_116 : Bc jdk_42_method_38_code 116 (.goto) 0 119 := ⟨(-116), by decide +kernel, by decide, by decide, rfl⟩
theorem k42_38_143 : Dc jdk_42_method_38_code 143 (.iload 6) 2 145 := ⟨by decide +kernel, rfl⟩
theorem k42_38_145 : Dc jdk_42_method_38_code 145 (.iconst 4) 1 146 := ⟨by decide +kernel, rfl⟩
theorem k42_38_146 : Dc jdk_42_method_38_code 146 (.ishr) 1 147 := ⟨by decide +kernel, rfl⟩
theorem k42_38_147 : Dc jdk_42_method_38_code 147 (.bipush (-2)) 2 149 := ⟨by decide +kernel, rfl⟩
theorem k42_38_149 : Bc jdk_42_method_38_code 149 (.if_icmp .ne) 349 152 := ⟨200, by decide +kernel, by decide, by decide, rfl⟩
theorem k42_38_152 : Dc jdk_42_method_38_code 152 (.iload_n 1) 1 153 := ⟨by decide +kernel, rfl⟩
theorem k42_38_153 : Dc jdk_42_method_38_code 153 (.iconst 1) 1 154 := ⟨by decide +kernel, rfl⟩
theorem k42_38_154 : Dc jdk_42_method_38_code 154 (.iadd) 1 155 := ⟨by decide +kernel, rfl⟩
theorem k42_38_155 : Dc jdk_42_method_38_code 155 (.iload_n 2) 1 156 := ⟨by decide +kernel, rfl⟩
theorem k42_38_156 : Bc jdk_42_method_38_code 156 (.if_icmp .ge) 283 159 := ⟨127, by decide +kernel, by decide, by decide, rfl⟩
theorem k42_38_159 : Dc jdk_42_method_38_code 159 (.aload_n 0) 1 160 := ⟨by decide +kernel, rfl⟩
theorem k42_38_160 : Dc jdk_42_method_38_code 160 (.iload_n 1) 1 161 := ⟨by decide +kernel, rfl⟩
theorem k42_38_161 : Dc jdk_42_method_38_code 161 (.iinc 1 1) 3 164 := ⟨by decide +kernel, rfl⟩
theorem k42_38_164 : Dc jdk_42_method_38_code 164 (.baload) 1 165 := ⟨by decide +kernel, rfl⟩
theorem k42_38_165 : Dc jdk_42_method_38_code 165 (.istore 7) 2 167 := ⟨by decide +kernel, rfl⟩
theorem k42_38_167 : Dc jdk_42_method_38_code 167 (.aload_n 0) 1 168 := ⟨by decide +kernel, rfl⟩
theorem k42_38_168 : Dc jdk_42_method_38_code 168 (.iload_n 1) 1 169 := ⟨by decide +kernel, rfl⟩
theorem k42_38_169 : Dc jdk_42_method_38_code 169 (.iinc 1 1) 3 172 := ⟨by decide +kernel, rfl⟩
theorem k42_38_172 : Dc jdk_42_method_38_code 172 (.baload) 1 173 := ⟨by decide +kernel, rfl⟩
theorem k42_38_173 : Dc jdk_42_method_38_code 173 (.istore 8) 2 175 := ⟨by decide +kernel, rfl⟩
theorem k42_38_175 : Dc jdk_42_method_38_code 175 (.iload 6) 2 177 := ⟨by decide +kernel, rfl⟩
theorem k42_38_177 : Dc jdk_42_method_38_code 177 (.iload 7) 2 179 := ⟨by decide +kernel, rfl⟩
theorem k42_38_179 : Dc jdk_42_method_38_code 179 (.iload 8) 2 181 := ⟨by decide +kernel, rfl⟩
theorem k42_38_181 : Dc jdk_42_method_38_code 181 (.invokestatic 392) 3 184 := ⟨by decide +kernel, rfl⟩
theorem k42_38_184 : Bc jdk_42_method_38_code 184 (.ifCond .eq) 224 187 := ⟨40, by decide +kernel, by decide, by decide, rfl⟩
theorem k42_38_224 : Dc jdk_42_method_38_code 224 (.iload 6) 2 226 := ⟨by decide +kernel, rfl⟩
theorem k42_38_226 : Dc jdk_42_method_38_code 226 (.iload 7) 2 228 := ⟨by decide +kernel, rfl⟩
theorem k42_38_228 : Dc jdk_42_method_38_code 228 (.iload 8) 2 230 := ⟨by decide +kernel, rfl⟩
theorem k42_38_230 : Dc jdk_42_method_38_code 230 (.invokestatic 400) 3 233 := ⟨by decide +kernel, rfl⟩
theorem k42_38_233 : Dc jdk_42_method_38_code 233 (.istore 9) 2 235 := ⟨by decide +kernel, rfl⟩
theorem k42_38_235 : Dc jdk_42_method_38_code 235 (.iload 9) 2 237 := ⟨by decide +kernel, rfl⟩
theorem k42_38_237 : Dc jdk_42_method_38_code 237 (.invokestatic 404) 3 240 := ⟨by decide +kernel, rfl⟩
theorem k42_38_240 : Bc jdk_42_method_38_code 240 (.ifCond .eq) 269 243 := ⟨29, by decide +kernel, by decide, by decide, rfl⟩
theorem k42_38_269 : Dc jdk_42_method_38_code 269 (.aload_n 3) 1 270 := ⟨by decide +kernel, rfl⟩
theorem k42_38_270 : Dc jdk_42_method_38_code 270 (.iload 4) 2 272 := ⟨by decide +kernel, rfl⟩
theorem k42_38_272 : Dc jdk_42_method_38_code 272 (.iinc 4 1) 3 275 := ⟨by decide +kernel, rfl⟩
theorem k42_38_275 : Dc jdk_42_method_38_code 275 (.iload 9) 2 277 := ⟨by decide +kernel, rfl⟩
theorem k42_38_277 : Dc jdk_42_method_38_code 277 (.invokestatic 64) 3 280 := ⟨by decide +kernel, rfl⟩
theorem k42_38_280 : Bc jdk_42_method_38_code 280 (.goto) 0 283 := ⟨(-280), by decide +kernel, by decide, by decide, rfl⟩
theorem k42_38_621 : Dc jdk_42_method_38_code 621 (.iload 4) 2 623 := ⟨by decide +kernel, rfl⟩
theorem k42_38_623 : Dc jdk_42_method_38_code 623 (.ireturn) 1 624 := ⟨by decide +kernel, rfl⟩
theorem k42_3_0 : Dc jdk_42_method_3_code 0 (.aload_n 0) 1 1 := ⟨by decide +kernel, rfl⟩
theorem k42_3_1 : Dc jdk_42_method_3_code 1 (.aload_n 1) 1 2 := ⟨by decide +kernel, rfl⟩
theorem k42_3_2 : Dc jdk_42_method_3_code 2 (.iconst 0) 1 3 := ⟨by decide +kernel, rfl⟩
theorem k42_3_3 : Dc jdk_42_method_3_code 3 (.aload_n 1) 1 4 := ⟨by decide +kernel, rfl⟩
theorem k42_3_4 : Dc jdk_42_method_3_code 4 (.arraylength) 1 5 := ⟨by decide +kernel, rfl⟩
theorem k42_3_5 : Dc jdk_42_method_3_code 5 (.aconst_null) 1 6 := ⟨by decide +kernel, rfl⟩
theorem k42_3_6 : Dc jdk_42_method_3_code 6 (.invokespecial 27) 3 9 := ⟨by decide +kernel, rfl⟩
theorem k42_3_9 : Dc jdk_42_method_3_code 9 (.return_) 1 10 := ⟨by decide +kernel, rfl⟩
theorem k42_49_0 : Dc jdk_42_method_49_code 0 (.aload_n 0) 1 1 := ⟨by decide +kernel, rfl⟩
theorem k42_49_1 : Dc jdk_42_method_49_code 1 (.aload_n 2) 1 2 := ⟨by decide +kernel, rfl⟩
theorem k42_49_2 : Dc jdk_42_method_49_code 2 (.invokestatic 78) 3 5 := ⟨by decide +kernel, rfl⟩
theorem k42_49_5 : Dc jdk_42_method_49_code 5 (.checkcast 84) 3 8 := ⟨by decide +kernel, rfl⟩
theorem k42_49_8 : Dc jdk_42_method_49_code 8 (.aload_n 1) 1 9 := ⟨by decide +kernel, rfl⟩
theorem k42_49_9 : Dc jdk_42_method_49_code 9 (.iconst 0) 1 10 := ⟨by decide +kernel, rfl⟩
theorem k42_49_10 : Dc jdk_42_method_49_code 10 (.aload_n 1) 1 11 := ⟨by decide +kernel, rfl⟩
theorem k42_49_11 : Dc jdk_42_method_49_code 11 (.arraylength) 1 12 := ⟨by decide +kernel, rfl⟩
theorem k42_49_12 : Dc jdk_42_method_49_code 12 (.invokespecial 75) 3 15 := ⟨by decide +kernel, rfl⟩
theorem k42_49_15 : Dc jdk_42_method_49_code 15 (.return_) 1 16 := ⟨by decide +kernel, rfl⟩
theorem k42_54_0 : Dc jdk_42_method_54_code 0 (.aload_n 0) 1 1 := ⟨by decide +kernel, rfl⟩
theorem k42_54_1 : Dc jdk_42_method_54_code 1 (.getfield 9) 3 4 := ⟨by decide +kernel, rfl⟩
theorem k42_54_4 : Dc jdk_42_method_54_code 4 (.arraylength) 1 5 := ⟨by decide +kernel, rfl⟩
theorem k42_54_5 : Dc jdk_42_method_54_code 5 (.aload_n 0) 1 6 := ⟨by decide +kernel, rfl⟩
theorem k42_54_6 : Dc jdk_42_method_54_code 6 (.invokevirtual 335) 3 9 := ⟨by decide +kernel, rfl⟩
theorem k42_54_9 : Dc jdk_42_method_54_code 9 (.ishr) 1 10 := ⟨by decide +kernel, rfl⟩
theorem k42_54_10 : Dc jdk_42_method_54_code 10 (.ireturn) 1 11 := ⟨by decide +kernel, rfl⟩
theorem k42_66_0 : Dc jdk_42_method_66_code 0 (.aload_n 0) 1 1 := ⟨by decide +kernel, rfl⟩
theorem k42_66_1 : Dc jdk_42_method_66_code 1 (.aload_n 1) 1 2 := ⟨by decide +kernel, rfl⟩
theorem k42_66_2 : Bc jdk_42_method_66_code 2 (.if_acmp .ne) 7 5 := ⟨5, by decide +kernel, by decide, by decide, rfl⟩
theorem k42_66_5 : Dc jdk_42_method_66_code 5 (.iconst 1) 1 6 := ⟨by decide +kernel, rfl⟩
theorem k42_66_6 : Dc jdk_42_method_66_code 6 (.ireturn) 1 7 := ⟨by decide +kernel, rfl⟩
theorem k42_66_7 : Dc jdk_42_method_66_code 7 (.aload_n 1) 1 8 := ⟨by decide +kernel, rfl⟩
theorem k42_66_8 : Dc jdk_42_method_66_code 8 (.instanceof 10) 3 11 := ⟨by decide +kernel, rfl⟩
theorem k42_66_11 : Bc jdk_42_method_66_code 11 (.ifCond .eq) 54 14 := ⟨43, by decide +kernel, by decide, by decide, rfl⟩
theorem k42_66_14 : Dc jdk_42_method_66_code 14 (.aload_n 1) 1 15 := ⟨by decide +kernel, rfl⟩
theorem k42_66_15 : Dc jdk_42_method_66_code 15 (.checkcast 10) 3 18 := ⟨by decide +kernel, rfl⟩
theorem k42_66_18 : Dc jdk_42_method_66_code 18 (.astore_n 2) 1 19 := ⟨by decide +kernel, rfl⟩
theorem k42_66_19 : Dc jdk_42_method_66_code 19 (.getstatic 38) 3 22 := ⟨by decide +kernel, rfl⟩
theorem k42_66_22 : Bc jdk_42_method_66_code 22 (.ifCond .eq) 36 25 := ⟨14, by decide +kernel, by decide, by decide, rfl⟩
theorem k42_66_25 : Dc jdk_42_method_66_code 25 (.aload_n 0) 1 26 := ⟨by decide +kernel, rfl⟩
theorem k42_66_26 : Dc jdk_42_method_66_code 26 (.getfield 15) 3 29 := ⟨by decide +kernel, rfl⟩
theorem k42_66_29 : Dc jdk_42_method_66_code 29 (.aload_n 2) 1 30 := ⟨by decide +kernel, rfl⟩
theorem k42_66_30 : Dc jdk_42_method_66_code 30 (.getfield 15) 3 33 := ⟨by decide +kernel, rfl⟩
theorem k42_66_33 : Bc jdk_42_method_66_code 33 (.if_icmp .ne) 54 36 := ⟨21, by decide +kernel, by decide, by decide, rfl⟩
theorem k42_66_36 : Dc jdk_42_method_66_code 36 (.aload_n 0) 1 37 := ⟨by decide +kernel, rfl⟩
theorem k42_66_37 : Dc jdk_42_method_66_code 37 (.getfield 9) 3 40 := ⟨by decide +kernel, rfl⟩
theorem k42_66_40 : Dc jdk_42_method_66_code 40 (.aload_n 2) 1 41 := ⟨by decide +kernel, rfl⟩
theorem k42_66_41 : Dc jdk_42_method_66_code 41 (.getfield 9) 3 44 := ⟨by decide +kernel, rfl⟩
theorem k42_66_44 : Dc jdk_42_method_66_code 44 (.invokestatic 541) 3 47 := ⟨by decide +kernel, rfl⟩
theorem k42_66_47 : Bc jdk_42_method_66_code 47 (.ifCond .eq) 54 50 := ⟨7, by decide +kernel, by decide, by decide, rfl⟩
theorem k42_66_50 : Dc jdk_42_method_66_code 50 (.iconst 1) 1 51 := ⟨by decide +kernel, rfl⟩
theorem k42_66_51 : Bc jdk_42_method_66_code 51 (.goto) 55 54 := ⟨4, by decide +kernel, by decide, by decide, rfl⟩
theorem k42_66_55 : Dc jdk_42_method_66_code 55 (.ireturn) 1 56 := ⟨by decide +kernel, rfl⟩
theorem k42_82_0 : Dc jdk_42_method_82_code 0 (.aload_n 0) 1 1 := ⟨by decide +kernel, rfl⟩
theorem k42_82_1 : Dc jdk_42_method_82_code 1 (.iload_n 1) 1 2 := ⟨by decide +kernel, rfl⟩
theorem k42_82_2 : Dc jdk_42_method_82_code 2 (.aload_n 0) 1 3 := ⟨by decide +kernel, rfl⟩
theorem k42_82_3 : Dc jdk_42_method_82_code 3 (.invokevirtual 505) 3 6 := ⟨by decide +kernel, rfl⟩
theorem k42_82_6 : Dc jdk_42_method_82_code 6 (.iconst 1) 1 7 := ⟨by decide +kernel, rfl⟩
theorem k42_82_7 : Dc jdk_42_method_82_code 7 (.isub) 1 8 := ⟨by decide +kernel, rfl⟩
theorem k42_82_8 : Dc jdk_42_method_82_code 8 (.invokevirtual 641) 3 11 := ⟨by decide +kernel, rfl⟩
theorem k42_82_11 : Dc jdk_42_method_82_code 11 (.ireturn) 1 12 := ⟨by decide +kernel, rfl⟩
theorem k42_83_0 : Dc jdk_42_method_83_code 0 (.aload_n 0) 1 1 := ⟨by decide +kernel, rfl⟩
theorem k42_83_1 : Dc jdk_42_method_83_code 1 (.invokevirtual 492) 3 4 := ⟨by decide +kernel, rfl⟩
theorem k42_83_4 : Bc jdk_42_method_83_code 4 (.ifCond .eq) 19 7 := ⟨15, by decide +kernel, by decide, by decide, rfl⟩
theorem k42_83_7 : Dc jdk_42_method_83_code 7 (.aload_n 0) 1 8 := ⟨by decide +kernel, rfl⟩
theorem k42_83_8 : Dc jdk_42_method_83_code 8 (.getfield 9) 3 11 := ⟨by decide +kernel, rfl⟩
theorem k42_83_11 : Dc jdk_42_method_83_code 11 (.iload_n 1) 1 12 := ⟨by decide +kernel, rfl⟩
theorem k42_83_12 : Dc jdk_42_method_83_code 12 (.iload_n 2) 1 13 := ⟨by decide +kernel, rfl⟩
theorem k42_83_13 : Dc jdk_42_method_83_code 13 (.invokestatic 644) 3 16 := ⟨by decide +kernel, rfl⟩
theorem k42_83_16 : Bc jdk_42_method_83_code 16 (.goto) 28 19 := ⟨12, by decide +kernel, by decide, by decide, rfl⟩
theorem k42_83_28 : Dc jdk_42_method_83_code 28 (.ireturn) 1 29 := ⟨by decide +kernel, rfl⟩
theorem k42_91_0 : Dc jdk_42_method_91_code 0 (.aload_n 0) 1 1 := ⟨by decide +kernel, rfl⟩
theorem k42_91_1 : Dc jdk_42_method_91_code 1 (.iload_n 1) 1 2 := ⟨by decide +kernel, rfl⟩
theorem k42_91_2 : Dc jdk_42_method_91_code 2 (.aload_n 0) 1 3 := ⟨by decide +kernel, rfl⟩
theorem k42_91_3 : Dc jdk_42_method_91_code 3 (.invokevirtual 505) 3 6 := ⟨by decide +kernel, rfl⟩
theorem k42_91_6 : Dc jdk_42_method_91_code 6 (.invokevirtual 681) 3 9 := ⟨by decide +kernel, rfl⟩
theorem k42_91_9 : Dc jdk_42_method_91_code 9 (.areturn) 1 10 := ⟨by decide +kernel, rfl⟩
theorem k42_92_0 : Dc jdk_42_method_92_code 0 (.aload_n 0) 1 1 := ⟨by decide +kernel, rfl⟩
theorem k42_92_1 : Dc jdk_42_method_92_code 1 (.invokevirtual 505) 3 4 := ⟨by decide +kernel, rfl⟩
theorem k42_92_4 : Dc jdk_42_method_92_code 4 (.istore_n 3) 1 5 := ⟨by decide +kernel, rfl⟩
theorem k42_92_5 : Dc jdk_42_method_92_code 5 (.iload_n 1) 1 6 := ⟨by decide +kernel, rfl⟩
theorem k42_92_6 : Dc jdk_42_method_92_code 6 (.iload_n 2) 1 7 := ⟨by decide +kernel, rfl⟩
theorem k42_92_7 : Dc jdk_42_method_92_code 7 (.iload_n 3) 1 8 := ⟨by decide +kernel, rfl⟩
theorem k42_92_8 : Dc jdk_42_method_92_code 8 (.invokestatic 521) 3 11 := ⟨by decide +kernel, rfl⟩
theorem k42_92_11 : Dc jdk_42_method_92_code 11 (.iload_n 1) 1 12 := ⟨by decide +kernel, rfl⟩
theorem k42_92_12 : Bc jdk_42_method_92_code 12 (.ifCond .ne) 22 15 := ⟨10, by decide +kernel, by decide, by decide, rfl⟩
theorem k42_92_15 : Dc jdk_42_method_92_code 15 (.iload_n 2) 1 16 := ⟨by decide +kernel, rfl⟩
theorem k42_92_16 : Dc jdk_42_method_92_code 16 (.iload_n 3) 1 17 := ⟨by decide +kernel, rfl⟩
theorem k42_92_17 : Bc jdk_42_method_92_code 17 (.if_icmp .ne) 22 20 := ⟨5, by decide +kernel, by decide, by decide, rfl⟩
theorem k42_92_20 : Dc jdk_42_method_92_code 20 (.aload_n 0) 1 21 := ⟨by decide +kernel, rfl⟩
theorem k42_92_21 : Dc jdk_42_method_92_code 21 (.areturn) 1 22 := ⟨by decide +kernel, rfl⟩
theorem k42_92_22 : Dc jdk_42_method_92_code 22 (.iload_n 2) 1 23 := ⟨by decide +kernel, rfl⟩
theorem k42_92_23 : Dc jdk_42_method_92_code 23 (.iload_n 1) 1 24 := ⟨by decide +kernel, rfl⟩
theorem k42_92_24 : Dc jdk_42_method_92_code 24 (.isub) 1 25 := ⟨by decide +kernel, rfl⟩
theorem k42_92_25 : Dc jdk_42_method_92_code 25 (.istore 4) 2 27 := ⟨by decide +kernel, rfl⟩
theorem k42_92_27 : Dc jdk_42_method_92_code 27 (.aload_n 0) 1 28 := ⟨by decide +kernel, rfl⟩
theorem k42_92_28 : Dc jdk_42_method_92_code 28 (.invokevirtual 492) 3 31 := ⟨by decide +kernel, rfl⟩
theorem k42_92_31 : Bc jdk_42_method_92_code 31 (.ifCond .eq) 47 34 := ⟨16, by decide +kernel, by decide, by decide, rfl⟩
theorem k42_92_34 : Dc jdk_42_method_92_code 34 (.aload_n 0) 1 35 := ⟨by decide +kernel, rfl⟩
theorem k42_92_35 : Dc jdk_42_method_92_code 35 (.getfield 9) 3 38 := ⟨by decide +kernel, rfl⟩
theorem k42_92_38 : Dc jdk_42_method_92_code 38 (.iload_n 1) 1 39 := ⟨by decide +kernel, rfl⟩
theorem k42_92_39 : Dc jdk_42_method_92_code 39 (.iload 4) 2 41 := ⟨by decide +kernel, rfl⟩
theorem k42_92_41 : Dc jdk_42_method_92_code 41 (.invokestatic 685) 3 44 := ⟨by decide +kernel, rfl⟩
theorem k42_92_44 : Bc jdk_42_method_92_code 44 (.goto) 57 47 := ⟨13, by decide +kernel, by decide, by decide, rfl⟩
theorem k42_92_57 : Dc jdk_42_method_92_code 57 (.areturn) 1 58 := ⟨by decide +kernel, rfl⟩
theorem k43_13_0 : Dc jdk_43_method_13_code 0 (.aload_n 0) 1 1 := ⟨by decide +kernel, rfl⟩
theorem k43_13_1 : Dc jdk_43_method_13_code 1 (.arraylength) 1 2 := ⟨by decide +kernel, rfl⟩
theorem k43_13_2 : Dc jdk_43_method_13_code 2 (.aload_n 1) 1 3 := ⟨by decide +kernel, rfl⟩
theorem k43_13_3 : Dc jdk_43_method_13_code 3 (.arraylength) 1 4 := ⟨by decide +kernel, rfl⟩
theorem k43_13_4 : Bc jdk_43_method_13_code 4 (.if_icmp .ne) 34 7 := ⟨30, by decide +kernel, by decide, by decide, rfl⟩
theorem k43_13_7 : Dc jdk_43_method_13_code 7 (.iconst 0) 1 8 := ⟨by decide +kernel, rfl⟩
theorem k43_13_8 : Dc jdk_43_method_13_code 8 (.istore_n 2) 1 9 := ⟨by decide +kernel, rfl⟩
theorem k43_13_9 : Dc jdk_43_method_13_code 9 (.iload_n 2) 1 10 := ⟨by decide +kernel, rfl⟩
theorem k43_13_10 : Dc jdk_43_method_13_code 10 (.aload_n 0) 1 11 := ⟨by decide +kernel, rfl⟩
theorem k43_13_11 : Dc jdk_43_method_13_code 11 (.arraylength) 1 12 := ⟨by decide +kernel, rfl⟩
theorem k43_13_12 : Bc jdk_43_method_13_code 12 (.if_icmp .ge) 32 15 := ⟨20, by decide +kernel, by decide, by decide, rfl⟩
theorem k43_13_15 : Dc jdk_43_method_13_code 15 (.aload_n 0) 1 16 := ⟨by decide +kernel, rfl⟩
theorem k43_13_16 : Dc jdk_43_method_13_code 16 (.iload_n 2) 1 17 := ⟨by decide +kernel, rfl⟩
theorem k43_13_17 : Dc jdk_43_method_13_code 17 (.baload) 1 18 := ⟨by decide +kernel, rfl⟩
theorem k43_13_18 : Dc jdk_43_method_13_code 18 (.aload_n 1) 1 19 := ⟨by decide +kernel, rfl⟩
theorem k43_13_19 : Dc jdk_43_method_13_code 19 (.iload_n 2) 1 20 := ⟨by decide +kernel, rfl⟩
theorem k43_13_20 : Dc jdk_43_method_13_code 20 (.baload) 1 21 := ⟨by decide +kernel, rfl⟩
theorem k43_13_21 : Bc jdk_43_method_13_code 21 (.if_icmp .eq) 26 24 := ⟨5, by decide +kernel, by decide, by decide, rfl⟩
theorem k43_13_26 : Dc jdk_43_method_13_code 26 (.iinc 2 1) 3 29 := ⟨by decide +kernel, rfl⟩
theorem k43_13_29 : Bc jdk_43_method_13_code 29 (.goto) 9 32 := ⟨(-20), by decide +kernel, by decide, by decide, rfl⟩
theorem k43_13_32 : Dc jdk_43_method_13_code 32 (.iconst 1) 1 33 := ⟨by decide +kernel, rfl⟩
theorem k43_13_33 : Dc jdk_43_method_13_code 33 (.ireturn) 1 34 := ⟨by decide +kernel, rfl⟩
theorem k43_27_0 : Dc jdk_43_method_27_code 0 (.iload_n 1) 1 1 := ⟨by decide +kernel, rfl⟩
theorem k43_27_1 : Dc jdk_43_method_27_code 1 (.invokestatic 88) 3 4 := ⟨by decide +kernel, rfl⟩
theorem k43_27_4 : Bc jdk_43_method_27_code 4 (.ifCond .ne) 9 7 := ⟨5, by decide +kernel, by decide, by decide, rfl⟩
theorem k43_27_9 : Dc jdk_43_method_27_code 9 (.iload_n 2) 1 10 := ⟨by decide +kernel, rfl⟩
theorem k43_27_10 : Dc jdk_43_method_27_code 10 (.aload_n 0) 1 11 := ⟨by decide +kernel, rfl⟩
theorem k43_27_11 : Dc jdk_43_method_27_code 11 (.arraylength) 1 12 := ⟨by decide +kernel, rfl⟩
theorem k43_27_12 : Dc jdk_43_method_27_code 12 (.iconst 1) 1 13 := ⟨by decide +kernel, rfl⟩
theorem k43_27_13 : Dc jdk_43_method_27_code 13 (.isub) 1 14 := ⟨by decide +kernel, rfl⟩
theorem k43_27_14 : Dc jdk_43_method_27_code 14 (.invokestatic 38) 3 17 := ⟨by decide +kernel, rfl⟩
theorem k43_27_17 : Dc jdk_43_method_27_code 17 (.istore_n 3) 1 18 := ⟨by decide +kernel, rfl⟩
theorem k43_27_18 : Dc jdk_43_method_27_code 18 (.iload_n 3) 1 19 := ⟨by decide +kernel, rfl⟩
theorem k43_27_19 : Bc jdk_43_method_27_code 19 (.ifCond .lt) 38 22 := ⟨19, by decide +kernel, by decide, by decide, rfl⟩
theorem k43_27_22 : Dc jdk_43_method_27_code 22 (.aload_n 0) 1 23 := ⟨by decide +kernel, rfl⟩
theorem k43_27_23 : Dc jdk_43_method_27_code 23 (.iload_n 3) 1 24 := ⟨by decide +kernel, rfl⟩
theorem k43_27_24 : Dc jdk_43_method_27_code 24 (.baload) 1 25 := ⟨by decide +kernel, rfl⟩
theorem k43_27_25 : Dc jdk_43_method_27_code 25 (.iload_n 1) 1 26 := ⟨by decide +kernel, rfl⟩
theorem k43_27_26 : Dc jdk_43_method_27_code 26 (.i2b) 1 27 := ⟨by decide +kernel, rfl⟩
theorem k43_27_27 : Bc jdk_43_method_27_code 27 (.if_icmp .ne) 32 30 := ⟨5, by decide +kernel, by decide, by decide, rfl⟩
theorem k43_27_30 : Dc jdk_43_method_27_code 30 (.iload_n 3) 1 31 := ⟨by decide +kernel, rfl⟩
theorem k43_27_31 : Dc jdk_43_method_27_code 31 (.ireturn) 1 32 := ⟨by decide +kernel, rfl⟩
theorem k43_27_32 : Dc jdk_43_method_27_code 32 (.iinc 3 (-1)) 3 35 := ⟨by decide +kernel, rfl⟩
theorem k43_27_35 : Bc jdk_43_method_27_code 35 (.goto) 18 38 := ⟨(-17), by decide +kernel, by decide, by decide, rfl⟩
theorem k43_27_38 : Dc jdk_43_method_27_code 38 (.iconst (-1)) 1 39 := ⟨by decide +kernel, rfl⟩
theorem k43_27_39 : Dc jdk_43_method_27_code 39 (.ireturn) 1 40 := ⟨by decide +kernel, rfl⟩
theorem k43_3_0 : Dc jdk_43_method_3_code 0 (.iload_n 0) 1 1 := ⟨by decide +kernel, rfl⟩
theorem k43_3_1 : Dc jdk_43_method_3_code 1 (.sipush 255) 3 4 := ⟨by decide +kernel, rfl⟩
theorem k43_3_4 : Bc jdk_43_method_3_code 4 (.if_icmp .gt) 11 7 := ⟨7, by decide +kernel, by decide, by decide, rfl⟩
theorem k43_3_7 : Dc jdk_43_method_3_code 7 (.iconst 1) 1 8 := ⟨by decide +kernel, rfl⟩
theorem k43_3_8 : Bc jdk_43_method_3_code 8 (.goto) 12 11 := ⟨4, by decide +kernel, by decide, by decide, rfl⟩
theorem k43_3_11 : Dc jdk_43_method_3_code 11 (.iconst 0) 1 12 := ⟨by decide +kernel, rfl⟩
theorem k43_3_12 : Dc jdk_43_method_3_code 12 (.ireturn) 1 13 := ⟨by decide +kernel, rfl⟩
theorem k43_46_0 : Dc jdk_43_method_46_code 0 (.iconst 1) 1 1 := ⟨by decide +kernel, rfl⟩
theorem k43_46_1 : Dc jdk_43_method_46_code 1 (.newarray .byte) 2 3 := ⟨by decide +kernel, rfl⟩
theorem k43_46_3 : Dc jdk_43_method_46_code 3 (.dup) 1 4 := ⟨by decide +kernel, rfl⟩
theorem k43_46_4 : Dc jdk_43_method_46_code 4 (.iconst 0) 1 5 := ⟨by decide +kernel, rfl⟩
theorem k43_46_5 : Dc jdk_43_method_46_code 5 (.iload_n 0) 1 6 := ⟨by decide +kernel, rfl⟩
theorem k43_46_6 : Dc jdk_43_method_46_code 6 (.i2b) 1 7 := ⟨by decide +kernel, rfl⟩
theorem k43_46_7 : Dc jdk_43_method_46_code 7 (.bastore) 1 8 := ⟨by decide +kernel, rfl⟩
theorem k43_46_8 : Dc jdk_43_method_46_code 8 (.areturn) 1 9 := ⟨by decide +kernel, rfl⟩
theorem k43_47_0 : Dc jdk_43_method_47_code 0 (.iload_n 2) 1 1 := ⟨by decide +kernel, rfl⟩
theorem k43_47_1 : Bc jdk_43_method_47_code 1 (.ifCond .ne) 7 4 := ⟨6, by decide +kernel, by decide, by decide, rfl⟩
theorem k43_47_4 : Dc jdk_43_method_47_code 4 (.ldc 151) 2 6 := ⟨by decide +kernel, rfl⟩
theorem k43_47_6 : Dc jdk_43_method_47_code 6 (.areturn) 1 7 := ⟨by decide +kernel, rfl⟩
theorem k43_47_7 : Dc jdk_43_method_47_code 7 (.new 1) 3 10 := ⟨by decide +kernel, rfl⟩
theorem k43_47_10 : Dc jdk_43_method_47_code 10 (.dup) 1 11 := ⟨by decide +kernel, rfl⟩
theorem k43_47_11 : Dc jdk_43_method_47_code 11 (.aload_n 0) 1 12 := ⟨by decide +kernel, rfl⟩
theorem k43_47_12 : Dc jdk_43_method_47_code 12 (.iload_n 1) 1 13 := ⟨by decide +kernel, rfl⟩
theorem k43_47_13 : Dc jdk_43_method_47_code 13 (.iload_n 1) 1 14 := ⟨by decide +kernel, rfl⟩
theorem k43_47_14 : Dc jdk_43_method_47_code 14 (.iload_n 2) 1 15 := ⟨by decide +kernel, rfl⟩
theorem k43_47_15 : Dc jdk_43_method_47_code 15 (.iadd) 1 16 := ⟨by decide +kernel, rfl⟩
theorem k43_47_16 : Dc jdk_43_method_47_code 16 (.invokestatic 232) 3 19 := ⟨by decide +kernel, rfl⟩
theorem k43_47_19 : Dc jdk_43_method_47_code 19 (.iconst 0) 1 20 := ⟨by decide +kernel, rfl⟩
theorem k43_47_20 : Dc jdk_43_method_47_code 20 (.invokespecial 112) 3 23 := ⟨by decide +kernel, rfl⟩
theorem k43_47_23 : Dc jdk_43_method_47_code 23 (.areturn) 1 24 := ⟨by decide +kernel, rfl⟩
theorem k43_4_0 : Dc jdk_43_method_4_code 0 (.iload_n 0) 1 1 := ⟨by decide +kernel, rfl⟩
theorem k43_4_1 : Bc jdk_43_method_4_code 1 (.ifCond .lt) 15 4 := ⟨14, by decide +kernel, by decide, by decide, rfl⟩
theorem k43_4_4 : Dc jdk_43_method_4_code 4 (.iload_n 0) 1 5 := ⟨by decide +kernel, rfl⟩
theorem k43_4_5 : Dc jdk_43_method_4_code 5 (.sipush 255) 3 8 := ⟨by decide +kernel, rfl⟩
theorem k43_4_8 : Bc jdk_43_method_4_code 8 (.if_icmp .gt) 15 11 := ⟨7, by decide +kernel, by decide, by decide, rfl⟩
theorem k43_4_11 : Dc jdk_43_method_4_code 11 (.iconst 1) 1 12 := ⟨by decide +kernel, rfl⟩
theorem k43_4_12 : Bc jdk_43_method_4_code 12 (.goto) 16 15 := ⟨4, by decide +kernel, by decide, by decide, rfl⟩
theorem k43_4_16 : Dc jdk_43_method_4_code 16 (.ireturn) 1 17 := ⟨by decide +kernel, rfl⟩
theorem k43_50_0 : Dc jdk_43_method_50_code 0 (.aload_n 0) 1 1 := ⟨by decide +kernel, rfl⟩
theorem k43_50_1 : Dc jdk_43_method_50_code 1 (.iload_n 1) 1 2 := ⟨by decide +kernel, rfl⟩
theorem k43_50_2 : Dc jdk_43_method_50_code 2 (.aload_n 2) 1 3 := ⟨by decide +kernel, rfl⟩
theorem k43_50_3 : Dc jdk_43_method_50_code 3 (.iload_n 3) 1 4 := ⟨by decide +kernel, rfl⟩
theorem k43_50_4 : Dc jdk_43_method_50_code 4 (.iload 4) 2 6 := ⟨by decide +kernel, rfl⟩
theorem k43_50_6 : Dc jdk_43_method_50_code 6 (.invokestatic 240) 3 9 := ⟨by decide +kernel, rfl⟩
theorem k43_50_9 : Dc jdk_43_method_50_code 9 (.return_) 1 10 := ⟨by decide +kernel, rfl⟩
theorem k52_15_0 : Dc jdk_52_method_15_code 0 (.iload_n 1) 1 1 := ⟨by decide +kernel, rfl⟩
theorem k52_15_1 : Dc jdk_52_method_15_code 1 (.aload_n 0) 1 2 := ⟨by decide +kernel, rfl⟩
theorem k52_15_2 : Dc jdk_52_method_15_code 2 (.arraylength) 1 3 := ⟨by decide +kernel, rfl⟩
theorem k52_15_3 : Dc jdk_52_method_15_code 3 (.isub) 1 4 := ⟨by decide +kernel, rfl⟩
theorem k52_15_4 : Dc jdk_52_method_15_code 4 (.bipush 31) 2 6 := ⟨by decide +kernel, rfl⟩
theorem k52_15_6 : Dc jdk_52_method_15_code 6 (.iushr) 1 7 := ⟨by decide +kernel, rfl⟩
theorem k52_15_7 : Dc jdk_52_method_15_code 7 (.i2b) 1 8 := ⟨by decide +kernel, rfl⟩
theorem k52_15_8 : Dc jdk_52_method_15_code 8 (.ireturn) 1 9 := ⟨by decide +kernel, rfl⟩
theorem k52_16_0 : Dc jdk_52_method_16_code 0 (.iload_n 2) 1 1 := ⟨by decide +kernel, rfl⟩
theorem k52_16_1 : Dc jdk_52_method_16_code 1 (.newarray .byte) 2 3 := ⟨by decide +kernel, rfl⟩
theorem k52_16_3 : Dc jdk_52_method_16_code 3 (.astore_n 3) 1 4 := ⟨by decide +kernel, rfl⟩
theorem k52_16_4 : Dc jdk_52_method_16_code 4 (.aload_n 0) 1 5 := ⟨by decide +kernel, rfl⟩
theorem k52_16_5 : Dc jdk_52_method_16_code 5 (.iload_n 1) 1 6 := ⟨by decide +kernel, rfl⟩
theorem k52_16_6 : Dc jdk_52_method_16_code 6 (.aload_n 3) 1 7 := ⟨by decide +kernel, rfl⟩
theorem k52_16_7 : Dc jdk_52_method_16_code 7 (.iconst 0) 1 8 := ⟨by decide +kernel, rfl⟩
theorem k52_16_8 : Dc jdk_52_method_16_code 8 (.iload_n 2) 1 9 := ⟨by decide +kernel, rfl⟩
theorem k52_16_9 : Dc jdk_52_method_16_code 9 (.invokestatic 115) 3 12 := ⟨by decide +kernel, rfl⟩
theorem k52_16_12 : Dc jdk_52_method_16_code 12 (.istore 4) 2 14 := ⟨by decide +kernel, rfl⟩
theorem k52_16_14 : Dc jdk_52_method_16_code 14 (.iload 4) 2 16 := ⟨by decide +kernel, rfl⟩
theorem k52_16_16 : Dc jdk_52_method_16_code 16 (.iload_n 2) 1 17 := ⟨by decide +kernel, rfl⟩
theorem k52_16_17 : Bc jdk_52_method_16_code 17 (.if_icmp .eq) 57 20 := ⟨40, by decide +kernel, by decide, by decide, rfl⟩
theorem k52_16_57 : Dc jdk_52_method_16_code 57 (.aload_n 3) 1 58 := ⟨by decide +kernel, rfl⟩
theorem k52_16_58 : Dc jdk_52_method_16_code 58 (.areturn) 1 59 := ⟨by decide +kernel, rfl⟩
theorem k52_21_0 : Dc jdk_52_method_21_code 0 (.iconst 0) 1 1 := ⟨by decide +kernel, rfl⟩
theorem k52_21_1 : Dc jdk_52_method_21_code 1 (.istore 5) 2 3 := ⟨by decide +kernel, rfl⟩
theorem k52_21_3 : Dc jdk_52_method_21_code 3 (.iload 5) 2 5 := ⟨by decide +kernel, rfl⟩
theorem k52_21_5 : Dc jdk_52_method_21_code 5 (.iload 4) 2 7 := ⟨by decide +kernel, rfl⟩
theorem k52_21_7 : Bc jdk_52_method_21_code 7 (.if_icmp .ge) 44 10 := ⟨37, by decide +kernel, by decide, by decide, rfl⟩
theorem k52_21_10 : Dc jdk_52_method_21_code 10 (.aload_n 0) 1 11 := ⟨by decide +kernel, rfl⟩
theorem k52_21_11 : Dc jdk_52_method_21_code 11 (.iload_n 1) 1 12 := ⟨by decide +kernel, rfl⟩
theorem k52_21_12 : Dc jdk_52_method_21_code 12 (.caload) 1 13 := ⟨by decide +kernel, rfl⟩
theorem k52_21_13 : Dc jdk_52_method_21_code 13 (.istore 6) 2 15 := ⟨by decide +kernel, rfl⟩
theorem k52_21_15 : Dc jdk_52_method_21_code 15 (.iload 6) 2 17 := ⟨by decide +kernel, rfl⟩
theorem k52_21_17 : Dc jdk_52_method_21_code 17 (.sipush 255) 3 20 := ⟨by decide +kernel, rfl⟩
theorem k52_21_20 : Bc jdk_52_method_21_code 20 (.if_icmp .le) 26 23 := ⟨6, by decide +kernel, by decide, by decide, rfl⟩
theorem k52_21_26 : Dc jdk_52_method_21_code 26 (.aload_n 2) 1 27 := ⟨by decide +kernel, rfl⟩
theorem k52_21_27 : Dc jdk_52_method_21_code 27 (.iload_n 3) 1 28 := ⟨by decide +kernel, rfl⟩
theorem k52_21_28 : Dc jdk_52_method_21_code 28 (.iload 6) 2 30 := ⟨by decide +kernel, rfl⟩
theorem k52_21_30 : Dc jdk_52_method_21_code 30 (.i2b) 1 31 := ⟨by decide +kernel, rfl⟩
theorem k52_21_31 : Dc jdk_52_method_21_code 31 (.bastore) 1 32 := ⟨by decide +kernel, rfl⟩
theorem k52_21_32 : Dc jdk_52_method_21_code 32 (.iinc 1 1) 3 35 := ⟨by decide +kernel, rfl⟩
theorem k52_21_35 : Dc jdk_52_method_21_code 35 (.iinc 3 1) 3 38 := ⟨by decide +kernel, rfl⟩
theorem k52_21_38 : Dc jdk_52_method_21_code 38 (.iinc 5 1) 3 41 := ⟨by decide +kernel, rfl⟩
theorem k52_21_41 : Bc jdk_52_method_21_code 41 (.goto) 3 44 := ⟨(-38), by decide +kernel, by decide, by decide, rfl⟩
theorem k52_21_44 : Dc jdk_52_method_21_code 44 (.iload 4) 2 46 := ⟨by decide +kernel, rfl⟩
theorem k52_21_46 : Dc jdk_52_method_21_code 46 (.ireturn) 1 47 := ⟨by decide +kernel, rfl⟩
theorem k52_24_0 : Dc jdk_52_method_24_code 0 (.iconst 2) 1 1 := ⟨by decide +kernel, rfl⟩
theorem k52_24_1 : Dc jdk_52_method_24_code 1 (.newarray .byte) 2 3 := ⟨by decide +kernel, rfl⟩
theorem k52_24_3 : Dc jdk_52_method_24_code 3 (.astore_n 1) 1 4 := ⟨by decide +kernel, rfl⟩
theorem k52_24_4 : Dc jdk_52_method_24_code 4 (.aload_n 1) 1 5 := ⟨by decide +kernel, rfl⟩
theorem k52_24_5 : Dc jdk_52_method_24_code 5 (.iconst 0) 1 6 := ⟨by decide +kernel, rfl⟩
theorem k52_24_6 : Dc jdk_52_method_24_code 6 (.iload_n 0) 1 7 := ⟨by decide +kernel, rfl⟩
theorem k52_24_7 : Dc jdk_52_method_24_code 7 (.invokestatic 111) 3 10 := ⟨by decide +kernel, rfl⟩
theorem k52_24_10 : Dc jdk_52_method_24_code 10 (.aload_n 1) 1 11 := ⟨by decide +kernel, rfl⟩
theorem k52_24_11 : Dc jdk_52_method_24_code 11 (.areturn) 1 12 := ⟨by decide +kernel, rfl⟩
theorem k52_2_0 : Dc jdk_52_method_2_code 0 (.iload_n 0) 1 1 := ⟨by decide +kernel, rfl⟩
theorem k52_2_1 : Dc jdk_52_method_2_code 1 (.invokestatic 11) 3 4 := ⟨by decide +kernel, rfl⟩
theorem k52_2_4 : Dc jdk_52_method_2_code 4 (.newarray .byte) 2 6 := ⟨by decide +kernel, rfl⟩
theorem k52_2_6 : Dc jdk_52_method_2_code 6 (.areturn) 1 7 := ⟨by decide +kernel, rfl⟩
theorem k52_3_0 : Dc jdk_52_method_3_code 0 (.iload_n 0) 1 1 := ⟨by decide +kernel, rfl⟩
theorem k52_3_1 : Bc jdk_52_method_3_code 1 (.ifCond .ge) 12 4 := ⟨11, by decide +kernel, by decide, by decide, rfl⟩
theorem k52_3_12 : Dc jdk_52_method_3_code 12 (.iload_n 0) 1 13 := ⟨by decide +kernel, rfl⟩
theorem k52_3_13 : Dc jdk_52_method_3_code 13 (.ldc 20) 2 15 := ⟨by decide +kernel, rfl⟩
theorem k52_3_15 : Bc jdk_52_method_3_code 15 (.if_icmp .lt) 55 18 := ⟨40, by decide +kernel, by decide, by decide, rfl⟩
theorem k52_3_55 : Dc jdk_52_method_3_code 55 (.iload_n 0) 1 56 := ⟨by decide +kernel, rfl⟩
theorem k52_3_56 : Dc jdk_52_method_3_code 56 (.iconst 1) 1 57 := ⟨by decide +kernel, rfl⟩
theorem k52_3_57 : Dc jdk_52_method_3_code 57 (.ishl) 1 58 := ⟨by decide +kernel, rfl⟩
theorem k52_3_58 : Dc jdk_52_method_3_code 58 (.ireturn) 1 59 := ⟨by decide +kernel, rfl⟩
theorem k52_4_0 : Dc jdk_52_method_4_code 0 (.getstatic 44) 3 3 := ⟨by decide +kernel, rfl⟩
theorem k52_4_3 : Bc jdk_52_method_4_code 3 (.ifCond .ne) 28 6 := ⟨25, by decide +kernel, by decide, by decide, rfl⟩
theorem k52_4_28 : Dc jdk_52_method_4_code 28 (.iload_n 1) 1 29 := ⟨by decide +kernel, rfl⟩
theorem k52_4_29 : Dc jdk_52_method_4_code 29 (.iconst 1) 1 30 := ⟨by decide +kernel, rfl⟩
theorem k52_4_30 : Dc jdk_52_method_4_code 30 (.ishl) 1 31 := ⟨by decide +kernel, rfl⟩
theorem k52_4_31 : Dc jdk_52_method_4_code 31 (.istore_n 1) 1 32 := ⟨by decide +kernel, rfl⟩
theorem k52_4_32 : Dc jdk_52_method_4_code 32 (.aload_n 0) 1 33 := ⟨by decide +kernel, rfl⟩
theorem k52_4_33 : Dc jdk_52_method_4_code 33 (.iload_n 1) 1 34 := ⟨by decide +kernel, rfl⟩
theorem k52_4_34 : Dc jdk_52_method_4_code 34 (.iinc 1 1) 3 37 := ⟨by decide +kernel, rfl⟩
theorem k52_4_37 : Dc jdk_52_method_4_code 37 (.iload_n 2) 1 38 := ⟨by decide +kernel, rfl⟩
theorem k52_4_38 : Dc jdk_52_method_4_code 38 (.getstatic 59) 3 41 := ⟨by decide +kernel, rfl⟩
theorem k52_4_41 : Dc jdk_52_method_4_code 41 (.ishr) 1 42 := ⟨by decide +kernel, rfl⟩
theorem k52_4_42 : Dc jdk_52_method_4_code 42 (.i2b) 1 43 := ⟨by decide +kernel, rfl⟩
theorem k52_4_43 : Dc jdk_52_method_4_code 43 (.bastore) 1 44 := ⟨by decide +kernel, rfl⟩
theorem k52_4_44 : Dc jdk_52_method_4_code 44 (.aload_n 0) 1 45 := ⟨by decide +kernel, rfl⟩
theorem k52_4_45 : Dc jdk_52_method_4_code 45 (.iload_n 1) 1 46 := ⟨by decide +kernel, rfl⟩
theorem k52_4_46 : Dc jdk_52_method_4_code 46 (.iload_n 2) 1 47 := ⟨by decide +kernel, rfl⟩
theorem k52_4_47 : Dc jdk_52_method_4_code 47 (.getstatic 63) 3 50 := ⟨by decide +kernel, rfl⟩
theorem k52_4_50 : Dc jdk_52_method_4_code 50 (.ishr) 1 51 := ⟨by decide +kernel, rfl⟩
theorem k52_4_51 : Dc jdk_52_method_4_code 51 (.i2b) 1 52 := ⟨by decide +kernel, rfl⟩
theorem k52_4_52 : Dc jdk_52_method_4_code 52 (.bastore) 1 53 := ⟨by decide +kernel, rfl⟩
theorem k52_4_53 : Dc jdk_52_method_4_code 53 (.return_) 1 54 := ⟨by decide +kernel, rfl⟩
theorem k52_6_0 : Dc jdk_52_method_6_code 0 (.aload_n 0) 1 1 := ⟨by decide +kernel, rfl⟩
theorem k52_6_1 : Dc jdk_52_method_6_code 1 (.arraylength) 1 2 := ⟨by decide +kernel, rfl⟩
theorem k52_6_2 : Dc jdk_52_method_6_code 2 (.iconst 1) 1 3 := ⟨by decide +kernel, rfl⟩
theorem k52_6_3 : Dc jdk_52_method_6_code 3 (.ishr) 1 4 := ⟨by decide +kernel, rfl⟩
theorem k52_6_4 : Dc jdk_52_method_6_code 4 (.ireturn) 1 5 := ⟨by decide +kernel, rfl⟩
theorem k52_86_0 : Dc jdk_52_method_86_code 0 (.iload_n 3) 1 1 := ⟨by decide +kernel, rfl⟩
theorem k52_86_1 : Dc jdk_52_method_86_code 1 (.iload 4) 2 3 := ⟨by decide +kernel, rfl⟩
theorem k52_86_3 : Dc jdk_52_method_86_code 3 (.aload_n 2) 1 4 := ⟨by decide +kernel, rfl⟩
theorem k52_86_4 : Dc jdk_52_method_86_code 4 (.invokestatic 173) 3 7 := ⟨by decide +kernel, rfl⟩
theorem k52_86_7 : Dc jdk_52_method_86_code 7 (.iconst 0) 1 8 := ⟨by decide +kernel, rfl⟩
theorem k52_86_8 : Dc jdk_52_method_86_code 8 (.istore 5) 2 10 := ⟨by decide +kernel, rfl⟩
theorem k52_86_10 : Dc jdk_52_method_86_code 10 (.iload 5) 2 12 := ⟨by decide +kernel, rfl⟩
theorem k52_86_12 : Dc jdk_52_method_86_code 12 (.iload 4) 2 14 := ⟨by decide +kernel, rfl⟩
theorem k52_86_14 : Bc jdk_52_method_86_code 14 (.if_icmp .ge) 41 17 := ⟨27, by decide +kernel, by decide, by decide, rfl⟩
theorem k52_86_41 : Dc jdk_52_method_86_code 41 (.return_) 1 42 := ⟨by decide +kernel, rfl⟩
theorem k52_94_0 : Dc jdk_52_method_94_code 0 (.iload_n 0) 1 1 := ⟨by decide +kernel, rfl⟩
theorem k52_94_1 : Dc jdk_52_method_94_code 1 (.iload_n 1) 1 2 := ⟨by decide +kernel, rfl⟩
theorem k52_94_2 : Dc jdk_52_method_94_code 2 (.aload_n 2) 1 3 := ⟨by decide +kernel, rfl⟩
theorem k52_94_3 : Dc jdk_52_method_94_code 3 (.invokestatic 48) 3 6 := ⟨by decide +kernel, rfl⟩
theorem k52_94_6 : Dc jdk_52_method_94_code 6 (.invokestatic 419) 3 9 := ⟨by decide +kernel, rfl⟩
theorem k52_94_9 : Dc jdk_52_method_94_code 9 (.pop) 1 10 := ⟨by decide +kernel, rfl⟩
theorem k52_94_10 : Dc jdk_52_method_94_code 10 (.return_) 1 11 := ⟨by decide +kernel, rfl⟩
theorem k65_121_0 : Dc jdk_65_method_121_code 0 (.iload_n 1) 1 1 := ⟨by decide +kernel, rfl⟩
theorem k65_121_1 : Dc jdk_65_method_121_code 1 (.aload_n 0) 1 2 := ⟨by decide +kernel, rfl⟩
theorem k65_121_2 : Dc jdk_65_method_121_code 2 (.arraylength) 1 3 := ⟨by decide +kernel, rfl⟩
theorem k65_121_3 : Bc jdk_65_method_121_code 3 (.if_icmp .ne) 14 6 := ⟨11, by decide +kernel, by decide, by decide, rfl⟩
theorem k65_121_14 : Dc jdk_65_method_121_code 14 (.iload_n 1) 1 15 := ⟨by decide +kernel, rfl⟩
theorem k65_121_15 : Dc jdk_65_method_121_code 15 (.newarray .byte) 2 17 := ⟨by decide +kernel, rfl⟩
theorem k65_121_17 : Dc jdk_65_method_121_code 17 (.astore_n 2) 1 18 := ⟨by decide +kernel, rfl⟩
theorem k65_121_18 : Dc jdk_65_method_121_code 18 (.aload_n 0) 1 19 := ⟨by decide +kernel, rfl⟩
theorem k65_121_19 : Dc jdk_65_method_121_code 19 (.iconst 0) 1 20 := ⟨by decide +kernel, rfl⟩
theorem k65_121_20 : Dc jdk_65_method_121_code 20 (.aload_n 2) 1 21 := ⟨by decide +kernel, rfl⟩
theorem k65_121_21 : Dc jdk_65_method_121_code 21 (.iconst 0) 1 22 := ⟨by decide +kernel, rfl⟩
theorem k65_121_22 : Dc jdk_65_method_121_code 22 (.aload_n 0) 1 23 := ⟨by decide +kernel, rfl⟩
theorem k65_121_23 : Dc jdk_65_method_121_code 23 (.arraylength) 1 24 := ⟨by decide +kernel, rfl⟩
theorem k65_121_24 : Dc jdk_65_method_121_code 24 (.iload_n 1) 1 25 := ⟨by decide +kernel, rfl⟩
theorem k65_121_25 : Dc jdk_65_method_121_code 25 (.invokestatic 304) 3 28 := ⟨by decide +kernel, rfl⟩
theorem k65_121_28 : Dc jdk_65_method_121_code 28 (.invokestatic 150) 3 31 := ⟨by decide +kernel, rfl⟩
theorem k65_121_31 : Dc jdk_65_method_121_code 31 (.aload_n 2) 1 32 := ⟨by decide +kernel, rfl⟩
theorem k65_121_32 : Dc jdk_65_method_121_code 32 (.areturn) 1 33 := ⟨by decide +kernel, rfl⟩
theorem k65_131_0 : Dc jdk_65_method_131_code 0 (.iload_n 1) 1 1 := ⟨by decide +kernel, rfl⟩
theorem k65_131_1 : Dc jdk_65_method_131_code 1 (.iload_n 0) 1 2 := ⟨by decide +kernel, rfl⟩
theorem k65_131_2 : Bc jdk_65_method_131_code 2 (.if_icmp .ge) 37 5 := ⟨35, by decide +kernel, by decide, by decide, rfl⟩
theorem k65_131_37 : Dc jdk_65_method_131_code 37 (.return_) 1 38 := ⟨by decide +kernel, rfl⟩
theorem k65_132_0 : Dc jdk_65_method_132_code 0 (.iload_n 1) 1 1 := ⟨by decide +kernel, rfl⟩
theorem k65_132_1 : Bc jdk_65_method_132_code 1 (.ifCond .ne) 10 4 := ⟨9, by decide +kernel, by decide, by decide, rfl⟩
theorem k65_132_4 : Dc jdk_65_method_132_code 4 (.iload_n 2) 1 5 := ⟨by decide +kernel, rfl⟩
theorem k65_132_5 : Dc jdk_65_method_132_code 5 (.aload_n 0) 1 6 := ⟨by decide +kernel, rfl⟩
theorem k65_132_6 : Dc jdk_65_method_132_code 6 (.arraylength) 1 7 := ⟨by decide +kernel, rfl⟩
theorem k65_132_7 : Bc jdk_65_method_132_code 7 (.if_icmp .eq) 17 10 := ⟨10, by decide +kernel, by decide, by decide, rfl⟩
theorem k65_132_10 : Dc jdk_65_method_132_code 10 (.aload_n 0) 1 11 := ⟨by decide +kernel, rfl⟩
theorem k65_132_11 : Dc jdk_65_method_132_code 11 (.iload_n 1) 1 12 := ⟨by decide +kernel, rfl⟩
theorem k65_132_12 : Dc jdk_65_method_132_code 12 (.iload_n 2) 1 13 := ⟨by decide +kernel, rfl⟩
theorem k65_132_13 : Dc jdk_65_method_132_code 13 (.invokestatic 339) 3 16 := ⟨by decide +kernel, rfl⟩
theorem k65_132_16 : Dc jdk_65_method_132_code 16 (.areturn) 1 17 := ⟨by decide +kernel, rfl⟩
theorem k65_132_17 : Dc jdk_65_method_132_code 17 (.aload_n 0) 1 18 := ⟨by decide +kernel, rfl⟩
theorem k65_132_18 : Dc jdk_65_method_132_code 18 (.invokevirtual 310) 3 21 := ⟨by decide +kernel, rfl⟩
theorem k65_132_21 : Dc jdk_65_method_132_code 21 (.checkcast 311) 3 24 := ⟨by decide +kernel, rfl⟩
theorem k65_132_24 : Dc jdk_65_method_132_code 24 (.areturn) 1 25 := ⟨by decide +kernel, rfl⟩
theorem k65_133_0 : Dc jdk_65_method_133_code 0 (.iload_n 1) 1 1 := ⟨by decide +kernel, rfl⟩
theorem k65_133_1 : Dc jdk_65_method_133_code 1 (.iload_n 2) 1 2 := ⟨by decide +kernel, rfl⟩
theorem k65_133_2 : Dc jdk_65_method_133_code 2 (.invokestatic 343) 3 5 := ⟨by decide +kernel, rfl⟩
theorem k65_133_5 : Dc jdk_65_method_133_code 5 (.iload_n 2) 1 6 := ⟨by decide +kernel, rfl⟩
theorem k65_133_6 : Dc jdk_65_method_133_code 6 (.iload_n 1) 1 7 := ⟨by decide +kernel, rfl⟩
theorem k65_133_7 : Dc jdk_65_method_133_code 7 (.isub) 1 8 := ⟨by decide +kernel, rfl⟩
theorem k65_133_8 : Dc jdk_65_method_133_code 8 (.istore_n 3) 1 9 := ⟨by decide +kernel, rfl⟩
theorem k65_133_9 : Dc jdk_65_method_133_code 9 (.iload_n 3) 1 10 := ⟨by decide +kernel, rfl⟩
theorem k65_133_10 : Dc jdk_65_method_133_code 10 (.newarray .byte) 2 12 := ⟨by decide +kernel, rfl⟩
theorem k65_133_12 : Dc jdk_65_method_133_code 12 (.astore 4) 2 14 := ⟨by decide +kernel, rfl⟩
theorem k65_133_14 : Dc jdk_65_method_133_code 14 (.aload_n 0) 1 15 := ⟨by decide +kernel, rfl⟩
theorem k65_133_15 : Dc jdk_65_method_133_code 15 (.iload_n 1) 1 16 := ⟨by decide +kernel, rfl⟩
theorem k65_133_16 : Dc jdk_65_method_133_code 16 (.aload 4) 2 18 := ⟨by decide +kernel, rfl⟩
theorem k65_133_18 : Dc jdk_65_method_133_code 18 (.iconst 0) 1 19 := ⟨by decide +kernel, rfl⟩
theorem k65_133_19 : Dc jdk_65_method_133_code 19 (.aload_n 0) 1 20 := ⟨by decide +kernel, rfl⟩
theorem k65_133_20 : Dc jdk_65_method_133_code 20 (.arraylength) 1 21 := ⟨by decide +kernel, rfl⟩
theorem k65_133_21 : Dc jdk_65_method_133_code 21 (.iload_n 1) 1 22 := ⟨by decide +kernel, rfl⟩
theorem k65_133_22 : Dc jdk_65_method_133_code 22 (.isub) 1 23 := ⟨by decide +kernel, rfl⟩
theorem k65_133_23 : Dc jdk_65_method_133_code 23 (.iload_n 3) 1 24 := ⟨by decide +kernel, rfl⟩
theorem k65_133_24 : Dc jdk_65_method_133_code 24 (.invokestatic 304) 3 27 := ⟨by decide +kernel, rfl⟩
theorem k65_133_27 : Dc jdk_65_method_133_code 27 (.invokestatic 150) 3 30 := ⟨by decide +kernel, rfl⟩
theorem k65_133_30 : Dc jdk_65_method_133_code 30 (.aload 4) 2 32 := ⟨by decide +kernel, rfl⟩
theorem k65_133_32 : Dc jdk_65_method_133_code 32 (.areturn) 1 33 := ⟨by decide +kernel, rfl⟩
theorem k89_16_0 : Dc jdk_89_method_16_code 0 (.iload_n 0) 1 1 := ⟨by decide +kernel, rfl⟩
theorem k89_16_1 : Dc jdk_89_method_16_code 1 (.ldc 75) 2 3 := ⟨by decide +kernel, rfl⟩
theorem k89_16_3 : Bc jdk_89_method_16_code 3 (.if_icmp .lt) 16 6 := ⟨13, by decide +kernel, by decide, by decide, rfl⟩
theorem k89_16_16 : Dc jdk_89_method_16_code 16 (.iconst 0) 1 17 := ⟨by decide +kernel, rfl⟩
theorem k89_16_17 : Dc jdk_89_method_16_code 17 (.ireturn) 1 18 := ⟨by decide +kernel, rfl⟩
theorem q6_1_0 : Dc prog_6_method_1_code 0 (.aload_n 0) 1 1 := ⟨by decide +kernel, rfl⟩
theorem q6_1_1 : Dc prog_6_method_1_code 1 (.invokespecial 1) 3 4 := ⟨by decide +kernel, rfl⟩
theorem q6_1_4 : Dc prog_6_method_1_code 4 (.aload_n 3) 1 5 := ⟨by decide +kernel, rfl⟩
theorem q6_1_5 : Dc prog_6_method_1_code 5 (.ldc 7) 2 7 := ⟨by decide +kernel, rfl⟩
theorem q6_1_7 : Dc prog_6_method_1_code 7 (.invokestatic 9) 3 10 := ⟨by decide +kernel, rfl⟩
theorem q6_1_10 : Dc prog_6_method_1_code 10 (.pop) 1 11 := ⟨by decide +kernel, rfl⟩
theorem q6_1_11 : Dc prog_6_method_1_code 11 (.aload_n 0) 1 12 := ⟨by decide +kernel, rfl⟩
theorem q6_1_12 : Dc prog_6_method_1_code 12 (.aload_n 1) 1 13 := ⟨by decide +kernel, rfl⟩
theorem q6_1_13 : Dc prog_6_method_1_code 13 (.putfield 15) 3 16 := ⟨by decide +kernel, rfl⟩
theorem q6_1_16 : Dc prog_6_method_1_code 16 (.aload_n 0) 1 17 := ⟨by decide +kernel, rfl⟩
theorem q6_1_17 : Dc prog_6_method_1_code 17 (.iload_n 2) 1 18 := ⟨by decide +kernel, rfl⟩
theorem q6_1_18 : Dc prog_6_method_1_code 18 (.putfield 21) 3 21 := ⟨by decide +kernel, rfl⟩
theorem q6_1_21 : Dc prog_6_method_1_code 21 (.aload_n 0) 1 22 := ⟨by decide +kernel, rfl⟩
theorem q6_1_22 : Dc prog_6_method_1_code 22 (.aload_n 3) 1 23 := ⟨by decide +kernel, rfl⟩
theorem q6_1_23 : Dc prog_6_method_1_code 23 (.putfield 25) 3 26 := ⟨by decide +kernel, rfl⟩
theorem q6_1_26 : Dc prog_6_method_1_code 26 (.return_) 1 27 := ⟨by decide +kernel, rfl⟩
theorem q6_2_0 : Dc prog_6_method_2_code 0 (.aload_n 0) 1 1 := ⟨by decide +kernel, rfl⟩
theorem q6_2_1 : Bc prog_6_method_2_code 1 (.ifnonnull) 8 4 := ⟨7, by decide +kernel, by decide, by decide, rfl⟩
theorem q6_2_4 : Dc prog_6_method_2_code 4 (.aconst_null) 1 5 := ⟨by decide +kernel, rfl⟩
theorem q6_2_5 : Bc prog_6_method_2_code 5 (.goto) 20 8 := ⟨15, by decide +kernel, by decide, by decide, rfl⟩
theorem q6_2_8 : Dc prog_6_method_2_code 8 (.aload_n 0) 1 9 := ⟨by decide +kernel, rfl⟩
theorem q6_2_9 : Dc prog_6_method_2_code 9 (.aload_n 0) 1 10 := ⟨by decide +kernel, rfl⟩
theorem q6_2_10 : Dc prog_6_method_2_code 10 (.bipush 47) 2 12 := ⟨by decide +kernel, rfl⟩
theorem q6_2_12 : Dc prog_6_method_2_code 12 (.invokevirtual 27) 3 15 := ⟨by decide +kernel, rfl⟩
theorem q6_2_15 : Dc prog_6_method_2_code 15 (.iconst 1) 1 16 := ⟨by decide +kernel, rfl⟩
theorem q6_2_16 : Dc prog_6_method_2_code 16 (.iadd) 1 17 := ⟨by decide +kernel, rfl⟩
theorem q6_2_17 : Dc prog_6_method_2_code 17 (.invokevirtual 33) 3 20 := ⟨by decide +kernel, rfl⟩
theorem q6_2_20 : Dc prog_6_method_2_code 20 (.astore_n 3) 1 21 := ⟨by decide +kernel, rfl⟩
theorem q6_2_21 : Dc prog_6_method_2_code 21 (.new 16) 3 24 := ⟨by decide +kernel, rfl⟩
theorem q6_2_24 : Dc prog_6_method_2_code 24 (.dup) 1 25 := ⟨by decide +kernel, rfl⟩
theorem q6_2_25 : Dc prog_6_method_2_code 25 (.aload_n 3) 1 26 := ⟨by decide +kernel, rfl⟩
theorem q6_2_26 : Dc prog_6_method_2_code 26 (.iload_n 1) 1 27 := ⟨by decide +kernel, rfl⟩
theorem q6_2_27 : Dc prog_6_method_2_code 27 (.new 28) 3 30 := ⟨by decide +kernel, rfl⟩
theorem q6_2_30 : Dc prog_6_method_2_code 30 (.dup) 1 31 := ⟨by decide +kernel, rfl⟩
theorem q6_2_31 : Dc prog_6_method_2_code 31 (.aload_n 2) 1 32 := ⟨by decide +kernel, rfl⟩
theorem q6_2_32 : Dc prog_6_method_2_code 32 (.getstatic 37) 3 35 := ⟨by decide +kernel, rfl⟩
theorem q6_2_35 : Dc prog_6_method_2_code 35 (.invokespecial 43) 3 38 := ⟨by decide +kernel, rfl⟩
theorem q6_2_38 : Dc prog_6_method_2_code 38 (.invokespecial 46) 3 41 := ⟨by decide +kernel, rfl⟩
theorem q6_2_41 : Dc prog_6_method_2_code 41 (.areturn) 1 42 := ⟨by decide +kernel, rfl⟩
theorem q6_6_0 : Dc prog_6_method_6_code 0 (.aload_n 0) 1 1 := ⟨by decide +kernel, rfl⟩
theorem q6_6_1 : Dc prog_6_method_6_code 1 (.getfield 15) 3 4 := ⟨by decide +kernel, rfl⟩
theorem q6_6_4 : Dc prog_6_method_6_code 4 (.areturn) 1 5 := ⟨by decide +kernel, rfl⟩
theorem q6_7_0 : Dc prog_6_method_7_code 0 (.aload_n 0) 1 1 := ⟨by decide +kernel, rfl⟩
theorem q6_7_1 : Dc prog_6_method_7_code 1 (.getfield 21) 3 4 := ⟨by decide +kernel, rfl⟩
theorem q6_7_4 : Dc prog_6_method_7_code 4 (.ireturn) 1 5 := ⟨by decide +kernel, rfl⟩
theorem q6_8_0 : Dc prog_6_method_8_code 0 (.aload_n 0) 1 1 := ⟨by decide +kernel, rfl⟩
theorem q6_8_1 : Dc prog_6_method_8_code 1 (.getfield 25) 3 4 := ⟨by decide +kernel, rfl⟩
theorem q6_8_4 : Dc prog_6_method_8_code 4 (.areturn) 1 5 := ⟨by decide +kernel, rfl⟩
theorem pd_0 : parseMethodDescriptor "(II)V" = some ⟨[.int, .int], none⟩ := by decide +kernel
theorem pd_1 : parseMethodDescriptor "(II)I" = some ⟨[.int, .int], some .int⟩ := by decide +kernel
theorem pd_2 : parseMethodDescriptor "([BII)[B" = some ⟨[(.array .byte), .int, .int], some (.array .byte)⟩ := by decide +kernel
theorem pd_3 : parseMethodDescriptor "(IIILjava/util/function/BiFunction;)I" = some ⟨[.int, .int, .int, (.object "java/util/function/BiFunction")], some .int⟩ := by decide +kernel
theorem pd_4 : parseMethodDescriptor "([B)I" = some ⟨[(.array .byte)], some .int⟩ := by decide +kernel
theorem pd_5 : parseMethodDescriptor "(III)I" = some ⟨[.int, .int, .int], some .int⟩ := by decide +kernel
theorem pd_6 : parseMethodDescriptor "(II[B)V" = some ⟨[.int, .int, (.array .byte)], none⟩ := by decide +kernel
theorem pd_7 : parseMethodDescriptor "([BI[BII)V" = some ⟨[(.array .byte), .int, (.array .byte), .int, .int], none⟩ := by decide +kernel
theorem pd_8 : parseMethodDescriptor "(I)Z" = some ⟨[.int], some .boolean⟩ := by decide +kernel
theorem pd_9 : parseMethodDescriptor "(II)C" = some ⟨[.int, .int], some .char⟩ := by decide +kernel
theorem pd_10 : parseMethodDescriptor "([BII)V" = some ⟨[(.array .byte), .int, .int], none⟩ := by decide +kernel
theorem pd_11 : parseMethodDescriptor "(III)Z" = some ⟨[.int, .int, .int], some .boolean⟩ := by decide +kernel
theorem pd_12 : parseMethodDescriptor "(III)C" = some ⟨[.int, .int, .int], some .char⟩ := by decide +kernel
theorem pd_13 : parseMethodDescriptor "(C)Z" = some ⟨[.char], some .boolean⟩ := by decide +kernel
theorem pd_14 : parseMethodDescriptor "(I)I" = some ⟨[.int], some .int⟩ := by decide +kernel
theorem pd_15 : parseMethodDescriptor "([BII)I" = some ⟨[(.array .byte), .int, .int], some .int⟩ := by decide +kernel
theorem pd_16 : parseMethodDescriptor "([BI)[B" = some ⟨[(.array .byte), .int], some (.array .byte)⟩ := by decide +kernel
theorem pd_17 : parseMethodDescriptor "(I)[B" = some ⟨[.int], some (.array .byte)⟩ := by decide +kernel
theorem pd_18 : parseMethodDescriptor "([BII[BIZ)I" = some ⟨[(.array .byte), .int, .int, (.array .byte), .int, .boolean], some .int⟩ := by decide +kernel
theorem pd_19 : parseMethodDescriptor "(Ljava/lang/Object;)Ljava/lang/Object;" = some ⟨[(.object "java/lang/Object")], some (.object "java/lang/Object")⟩ := by decide +kernel
theorem pd_20 : parseMethodDescriptor "(Ljava/nio/charset/Charset;[BII)V" = some ⟨[(.object "java/nio/charset/Charset"), (.array .byte), .int, .int], none⟩ := by decide +kernel
theorem pd_21 : parseMethodDescriptor "()B" = some ⟨[], some .byte⟩ := by decide +kernel
theorem pd_22 : parseMethodDescriptor "()Z" = some ⟨[], some .boolean⟩ := by decide +kernel
theorem pd_23 : parseMethodDescriptor "()I" = some ⟨[], some .int⟩ := by decide +kernel
theorem pd_24 : parseMethodDescriptor "(III)V" = some ⟨[.int, .int, .int], none⟩ := by decide +kernel
theorem pd_25 : parseMethodDescriptor "(II)Ljava/lang/String;" = some ⟨[.int, .int], some (.object "java/lang/String")⟩ := by decide +kernel
theorem pd_26 : parseMethodDescriptor "([BB)V" = some ⟨[(.array .byte), .byte], none⟩ := by decide +kernel
theorem pd_27 : parseMethodDescriptor "([BII)Ljava/lang/String;" = some ⟨[(.array .byte), .int, .int], some (.object "java/lang/String")⟩ := by decide +kernel
theorem pd_28 : parseMethodDescriptor "()V" = some ⟨[], none⟩ := by decide +kernel
theorem pd_29 : parseMethodDescriptor "(Ljava/lang/Object;Ljava/lang/String;)Ljava/lang/Object;" = some ⟨[(.object "java/lang/Object"), (.object "java/lang/String")], some (.object "java/lang/Object")⟩ := by decide +kernel
theorem pd_30 : parseMethodDescriptor "([BLjava/nio/charset/Charset;)V" = some ⟨[(.array .byte), (.object "java/nio/charset/Charset")], none⟩ := by decide +kernel
theorem pd_31 : parseMethodDescriptor "(Ljava/lang/String;ILjava/lang/String;)V" = some ⟨[(.object "java/lang/String"), .int, (.object "java/lang/String")], none⟩ := by decide +kernel
theorem pd_32 : parseMethodDescriptor "(I)Ljava/lang/String;" = some ⟨[.int], some (.object "java/lang/String")⟩ := by decide +kernel
theorem pd_33 : parseMethodDescriptor "([B[B)Z" = some ⟨[(.array .byte), (.array .byte)], some .boolean⟩ := by decide +kernel
theorem pd_34 : parseMethodDescriptor "(C)[B" = some ⟨[.char], some (.array .byte)⟩ := by decide +kernel
theorem pd_35 : parseMethodDescriptor "([CI[BII)I" = some ⟨[(.array .char), .int, (.array .byte), .int, .int], some .int⟩ := by decide +kernel
theorem pd_36 : parseMethodDescriptor "([CII)[B" = some ⟨[(.array .char), .int, .int], some (.array .byte)⟩ := by decide +kernel
theorem pd_37 : parseMethodDescriptor "([BI)B" = some ⟨[(.array .byte), .int], some .byte⟩ := by decide +kernel
theorem pd_38 : parseMethodDescriptor "([CIILjava/lang/Void;)V" = some ⟨[(.array .char), .int, .int, (.object "java/lang/Void")], none⟩ := by decide +kernel
theorem pd_39 : parseMethodDescriptor "([C)V" = some ⟨[(.array .char)], none⟩ := by decide +kernel
theorem pd_40 : parseMethodDescriptor "(C)Ljava/lang/String;" = some ⟨[.char], some (.object "java/lang/String")⟩ := by decide +kernel
theorem pd_41 : parseMethodDescriptor "(Ljava/lang/String;I[B)Lcom/example/reasoned_retry/reasonedretry/Classifier$Failure;" = some ⟨[(.object "java/lang/String"), .int, (.array .byte)], some (.object "com/example/reasoned_retry/reasonedretry/Classifier$Failure")⟩ := by decide +kernel
theorem pd_42 : parseMethodDescriptor "()Ljava/lang/String;" = some ⟨[], some (.object "java/lang/String")⟩ := by decide +kernel
theorem pd_43 : parseMethodDescriptor "(Ljava/lang/Object;)Z" = some ⟨[(.object "java/lang/Object")], some .boolean⟩ := by decide +kernel
theorem pn_0 : plainName "java/util/Objects" = true := by first | (simp [plainName, overriddenIn]; done) | decide +kernel
theorem pn_1 : plainName "java/lang/StringCoding" = true := by first | (simp [plainName, overriddenIn]; done) | decide +kernel
theorem pn_2 : plainName "java/util/Arrays" = true := by first | (simp [plainName, overriddenIn]; done) | decide +kernel
theorem pn_3 : plainName "java/lang/String" = true := by first | (simp [plainName, overriddenIn]; done) | decide +kernel
theorem pn_4 : plainName "java/lang/Character" = true := by first | (simp [plainName, overriddenIn]; done) | decide +kernel
theorem pn_5 : plainName "jdk/internal/util/Preconditions" = true := by first | (simp [plainName, overriddenIn]; done) | decide +kernel
theorem pn_6 : plainName "java/lang/StringUTF16" = true := by first | (simp [plainName, overriddenIn]; done) | decide +kernel
theorem pn_7 : plainName "java/lang/StringLatin1" = true := by first | (simp [plainName, overriddenIn]; done) | decide +kernel
theorem pn_8 : plainName "java/lang/Record" = true := by first | (simp [plainName, overriddenIn]; done) | decide +kernel
theorem pn_9 : plainName "com/example/reasoned_retry/reasonedretry/Classifier$Failure" = true := by first | (simp [plainName, overriddenIn]; done) | decide +kernel
theorem pn_10 : plainName "com/example/reasoned_retry/reasonedretry/FailureOfPinLaw" = true := by first | (simp [plainName, overriddenIn]; done) | decide +kernel
variable {l : Launch} {Z : State} {a0 : Array Value} {n0 : Nat}
theorem m_min (hw : own_hw a0 Z) {h0 : Heap} {r x0 y0 : Int32} (hr : own_minI x0 y0 = r) :
    Does l Z n0 ⟨"java/lang/Math", "min", "(II)I"⟩ jdk_29_method_69_code 2 (some .int) [] { frames := 0, cells := 0, slots := 0, locals := 0 } #[(.int x0), (.int y0)] h0 (fun v h => v = some (.int r) ∧ h0 = h) := by
  refine Does.start (Jvm.Free.JP.mathPlain rfl (by decide +kernel)) ?_
  intro p e s m below meth c T X
  replace X : Sd _ _ _ _ _ "java/lang/Math" "min" _ _ _ _ _ _ _ _ _ _ _ _ _ _ _ _ := X
  refine Wp.cast (g' := mkF m 0 #[.val (.int x0), .val (.int y0)] []) (by first | (simp [entryFrame, mkF, argsToLocals, Value.category, maxLocals]; done) | rfl) ?_
  refine w_iloadN X k29_69_0 rfl ?_
  refine w_iloadN X k29_69_1 rfl ?_
  refine w_icmpgt X k29_69_2 (fun (hc2 : y0 < x0) => ?_) (fun (hc2 : ¬ y0 < x0) => ?_)
  · refine w_iloadN X k29_69_9 rfl ?_
    exact w_retI X k29_69_10 ⟨by rw [← hr]; unfold own_minI; simp only [*, if_true, if_false], rfl⟩ (by decide) (by decide)
  · refine w_iloadN X k29_69_5 rfl ?_
    refine w_goto X k29_69_6 ?_
    exact w_retI X k29_69_10 ⟨by rw [← hr]; unfold own_minI; simp only [*, if_true, if_false], rfl⟩ (by decide) (by decide)
theorem m_rn1 (hw : own_hw a0 Z) {h0 : Heap} {a : Addr}  :
    Does l Z n0 ⟨"java/util/Objects", "requireNonNull", "(Ljava/lang/Object;)Ljava/lang/Object;"⟩ jdk_31_method_10_code 1 (some (.object "java/lang/Object")) [] { frames := 0, cells := 0, slots := 0, locals := 0 } #[(.ref a)] h0 (fun v h => v = some (.ref a) ∧ h0 = h) := by
  refine Does.start (plainFor_of_name pn_0) ?_
  intro p e s m below meth c T X
  replace X : Sd _ _ _ _ _ "java/util/Objects" "requireNonNull" _ _ _ _ _ _ _ _ _ _ _ _ _ _ _ _ := X
  refine Wp.cast (g' := mkF m 0 #[.val (.ref a)] []) (by first | (simp [entryFrame, mkF, argsToLocals, Value.category, maxLocals]; done) | rfl) ?_
  refine w_aloadN X k31_10_0 rfl (rfl) ?_
  refine w_ifnonnullT X k31_10_1 ?_
  refine w_aloadN X k31_10_12 rfl (rfl) ?_
  exact w_retR X rfl (rfl) rfl k31_10_13 ⟨rfl, rfl⟩ (by decide) (by decide)
theorem m_cp_2p (hw : own_hw a0 Z) {h0 : Heap} {a : Addr} {x0 x1 : Int32} (Aa : Ary Z h0 a .byte [(.int x0), (.int x1)]) (p0 : ¬ x0 < 0) (p1 : ¬ x1 < 0) :
    Does l Z n0 ⟨"java/lang/StringCoding", "countPositives", "([BII)I"⟩ jdk_123_method_3_code 5 (some .int) [] { frames := 0, cells := 0, slots := 0, locals := 0 } #[(.ref a), (.int (0 : Int32)), (.int (2 : Int32))] h0 (fun v h => v = some (.int (2 : Int32)) ∧ h0 = h) := by
  refine Does.start (plainFor_of_name pn_1) ?_
  intro p e s m below meth c T X
  replace X : Sd _ _ _ _ _ "java/lang/StringCoding" "countPositives" _ _ _ _ _ _ _ _ _ _ _ _ _ _ _ _ := X
  refine Wp.cast (g' := mkF m 0 #[.val (.ref a), .val (.int (0 : Int32)), .val (.int (2 : Int32)), .unset, .unset] []) (by first | (simp [entryFrame, mkF, argsToLocals, Value.category, maxLocals]; done) | rfl) ?_
  refine w_iloadN X k123_3_0 rfl ?_
  refine w_iloadN X k123_3_1 rfl ?_
  refine w_iadd X k123_3_2 ?_
  refine w_istoreN X #[.val (.ref a), .val (.int (0 : Int32)), .val (.int (2 : Int32)), .val (.int (2 : Int32)), .unset] k123_3_3 rfl ?_
  refine w_iloadN X k123_3_4 rfl ?_
  refine w_istore X #[.val (.ref a), .val (.int (0 : Int32)), .val (.int (2 : Int32)), .val (.int (2 : Int32)), .val (.int (0 : Int32))] k123_3_5 rfl ?_
  refine w_iload X k123_3_7 rfl ?_
  refine w_iloadN X k123_3_9 rfl ?_
  refine w_icmpge X k123_3_10 (fun hc => absurd (by decide) hc) (fun _ => ?_)
  refine w_aloadN X k123_3_13 rfl (rfl) ?_
  refine w_iload X k123_3_14 rfl ?_
  refine w_baload X k123_3_16 Aa (by decide) rfl ?_
  refine w_ifge X k123_3_17 (fun _ => ?_) (fun hc => absurd hc p0)
  refine w_iinc X (1 : Int32) #[.val (.ref a), .val (.int (0 : Int32)), .val (.int (2 : Int32)), .val (.int (2 : Int32)), .val (.int (1 : Int32))] k123_3_25 rfl rfl rfl ?_
  refine w_goto X k123_3_28 ?_
  refine w_iload X k123_3_7 rfl ?_
  refine w_iloadN X k123_3_9 rfl ?_
  refine w_icmpge X k123_3_10 (fun hc => absurd (by decide) hc) (fun _ => ?_)
  refine w_aloadN X k123_3_13 rfl (rfl) ?_
  refine w_iload X k123_3_14 rfl ?_
  refine w_baload X k123_3_16 Aa (by decide) rfl ?_
  refine w_ifge X k123_3_17 (fun _ => ?_) (fun hc => absurd hc p1)
  refine w_iinc X (1 : Int32) #[.val (.ref a), .val (.int (0 : Int32)), .val (.int (2 : Int32)), .val (.int (2 : Int32)), .val (.int (2 : Int32))] k123_3_25 rfl rfl rfl ?_
  refine w_goto X k123_3_28 ?_
  refine w_iload X k123_3_7 rfl ?_
  refine w_iloadN X k123_3_9 rfl ?_
  refine w_icmpge X k123_3_10 (fun _ => ?_) (fun hc => absurd hc Int32.lt_irrefl)
  refine w_iloadN X k123_3_31 rfl ?_
  exact w_retI X k123_3_32 ⟨rfl, rfl⟩ (by decide) (by decide)
theorem m_cp_2n (hw : own_hw a0 Z) {h0 : Heap} {a : Addr} {x0 x1 : Int32} (Aa : Ary Z h0 a .byte [(.int x0), (.int x1)]) (p0 : x0 < 0) :
    Does l Z n0 ⟨"java/lang/StringCoding", "countPositives", "([BII)I"⟩ jdk_123_method_3_code 5 (some .int) [] { frames := 0, cells := 0, slots := 0, locals := 0 } #[(.ref a), (.int (0 : Int32)), (.int (2 : Int32))] h0 (fun v h => v = some (.int (0 : Int32)) ∧ h0 = h) := by
  refine Does.start (plainFor_of_name pn_1) ?_
  intro p e s m below meth c T X
  replace X : Sd _ _ _ _ _ "java/lang/StringCoding" "countPositives" _ _ _ _ _ _ _ _ _ _ _ _ _ _ _ _ := X
  refine Wp.cast (g' := mkF m 0 #[.val (.ref a), .val (.int (0 : Int32)), .val (.int (2 : Int32)), .unset, .unset] []) (by first | (simp [entryFrame, mkF, argsToLocals, Value.category, maxLocals]; done) | rfl) ?_
  refine w_iloadN X k123_3_0 rfl ?_
  refine w_iloadN X k123_3_1 rfl ?_
  refine w_iadd X k123_3_2 ?_
  refine w_istoreN X #[.val (.ref a), .val (.int (0 : Int32)), .val (.int (2 : Int32)), .val (.int (2 : Int32)), .unset] k123_3_3 rfl ?_
  refine w_iloadN X k123_3_4 rfl ?_
  refine w_istore X #[.val (.ref a), .val (.int (0 : Int32)), .val (.int (2 : Int32)), .val (.int (2 : Int32)), .val (.int (0 : Int32))] k123_3_5 rfl ?_
  refine w_iload X k123_3_7 rfl ?_
  refine w_iloadN X k123_3_9 rfl ?_
  refine w_icmpge X k123_3_10 (fun hc => absurd (by decide) hc) (fun _ => ?_)
  refine w_aloadN X k123_3_13 rfl (rfl) ?_
  refine w_iload X k123_3_14 rfl ?_
  refine w_baload X k123_3_16 Aa (by decide) rfl ?_
  refine w_ifge X k123_3_17 (fun hc => absurd p0 hc) (fun _ => ?_)
  refine w_iload X k123_3_20 rfl ?_
  refine w_iloadN X k123_3_22 rfl ?_
  refine w_isub X k123_3_23 ?_
  exact w_retI X k123_3_24 ⟨rfl, rfl⟩ (by decide) (by decide)
theorem m_cp_3n (hw : own_hw a0 Z) {h0 : Heap} {a : Addr} {x0 x1 x2 : Int32} (Aa : Ary Z h0 a .byte [(.int x0), (.int x1), (.int x2)]) (p0 : x0 < 0) :
    Does l Z n0 ⟨"java/lang/StringCoding", "countPositives", "([BII)I"⟩ jdk_123_method_3_code 5 (some .int) [] { frames := 0, cells := 0, slots := 0, locals := 0 } #[(.ref a), (.int (0 : Int32)), (.int (3 : Int32))] h0 (fun v h => v = some (.int (0 : Int32)) ∧ h0 = h) := by
  refine Does.start (plainFor_of_name pn_1) ?_
  intro p e s m below meth c T X
  replace X : Sd _ _ _ _ _ "java/lang/StringCoding" "countPositives" _ _ _ _ _ _ _ _ _ _ _ _ _ _ _ _ := X
  refine Wp.cast (g' := mkF m 0 #[.val (.ref a), .val (.int (0 : Int32)), .val (.int (3 : Int32)), .unset, .unset] []) (by first | (simp [entryFrame, mkF, argsToLocals, Value.category, maxLocals]; done) | rfl) ?_
  refine w_iloadN X k123_3_0 rfl ?_
  refine w_iloadN X k123_3_1 rfl ?_
  refine w_iadd X k123_3_2 ?_
  refine w_istoreN X #[.val (.ref a), .val (.int (0 : Int32)), .val (.int (3 : Int32)), .val (.int (3 : Int32)), .unset] k123_3_3 rfl ?_
  refine w_iloadN X k123_3_4 rfl ?_
  refine w_istore X #[.val (.ref a), .val (.int (0 : Int32)), .val (.int (3 : Int32)), .val (.int (3 : Int32)), .val (.int (0 : Int32))] k123_3_5 rfl ?_
  refine w_iload X k123_3_7 rfl ?_
  refine w_iloadN X k123_3_9 rfl ?_
  refine w_icmpge X k123_3_10 (fun hc => absurd (by decide) hc) (fun _ => ?_)
  refine w_aloadN X k123_3_13 rfl (rfl) ?_
  refine w_iload X k123_3_14 rfl ?_
  refine w_baload X k123_3_16 Aa (by decide) rfl ?_
  refine w_ifge X k123_3_17 (fun hc => absurd p0 hc) (fun _ => ?_)
  refine w_iload X k123_3_20 rfl ?_
  refine w_iloadN X k123_3_22 rfl ?_
  refine w_isub X k123_3_23 ?_
  exact w_retI X k123_3_24 ⟨rfl, rfl⟩ (by decide) (by decide)
theorem m_cor_2 (hw : own_hw a0 Z) {h0 : Heap} {a : Addr} {x0 x1 : Int32} (Aa : Ary Z h0 a .byte [(.int x0), (.int x1)]) (Ea : Exa Z h0 a "[B") :
    Does l Z n0 ⟨"java/util/Arrays", "copyOfRange", "([BII)[B"⟩ jdk_65_method_132_code 3 (some (.array .byte)) [] { frames := 1, cells := 1, slots := 2, locals := 14 } #[(.ref a), (.int (0 : Int32)), (.int (2 : Int32))] h0 (fun v h => ∃ b, v = some (.ref b) ∧ h0.size ≤ b ∧ n0 ≤ b ∧ Ary Z h b .byte [(.int x0), (.int x1)] ∧ Exa Z h b "[B" ∧ Keep h0 h []) := by
  refine Does.start (plainFor_of_name pn_2) ?_
  intro p e s m below meth c T X
  replace X : Sd _ _ _ _ _ "java/util/Arrays" "copyOfRange" _ _ _ _ _ _ _ _ _ _ _ _ _ _ _ _ := X
  refine Wp.cast (g' := mkF m 0 #[.val (.ref a), .val (.int (0 : Int32)), .val (.int (2 : Int32))] []) (by first | (simp [entryFrame, mkF, argsToLocals, Value.category, maxLocals]; done) | rfl) ?_
  refine w_iloadN X k65_132_0 rfl ?_
  refine w_ifne X k65_132_1 (fun hc => absurd rfl hc) (fun _ => ?_)
  refine w_iloadN X k65_132_4 rfl ?_
  refine w_aloadN X k65_132_5 rfl (rfl) ?_
  refine w_arrlen X (2 : Int32) k65_132_6 Aa rfl ?_
  refine w_icmpeq X k65_132_7 (fun _ => ?_) (fun hc => absurd rfl hc)
  refine w_aloadN X k65_132_17 rfl (rfl) ?_
  refine w_clone X 2 k65_132_18 (wd_112 hw) (wd_113 hw) (wd_117 hw) (wd_115 hw) (wd_116 hw) (wd_118 hw) Aa Ea rfl rfl (by decide) (leR rfl) (by decide) (by decide) (fun T h1 b1 g1 gn1 X E1 A1 B1 => ?_)
  have sz_b1 : h0.size ≤ b1 := Nat.le_trans (Keep.refl h0 []).1 (Nat.le_of_eq g1.symm)
  have K1 : Keep h0 h1 [] := (Keep.refl h0 []).ext E1
  refine w_cast X k65_132_21 (wd_119 hw) (Ins.self B1) (fun T X => ?_)
  exact w_retR X rfl (rfl) rfl k65_132_24 ⟨_, rfl, sz_b1, gn1, A1, B1, K1⟩ (by decide) (by decide)
theorem m_cor_3 (hw : own_hw a0 Z) {h0 : Heap} {a : Addr} {x0 x1 x2 : Int32} (Aa : Ary Z h0 a .byte [(.int x0), (.int x1), (.int x2)]) (Ea : Exa Z h0 a "[B") :
    Does l Z n0 ⟨"java/util/Arrays", "copyOfRange", "([BII)[B"⟩ jdk_65_method_132_code 3 (some (.array .byte)) [] { frames := 1, cells := 1, slots := 3, locals := 14 } #[(.ref a), (.int (0 : Int32)), (.int (3 : Int32))] h0 (fun v h => ∃ b, v = some (.ref b) ∧ h0.size ≤ b ∧ n0 ≤ b ∧ Ary Z h b .byte [(.int x0), (.int x1), (.int x2)] ∧ Exa Z h b "[B" ∧ Keep h0 h []) := by
  refine Does.start (plainFor_of_name pn_2) ?_
  intro p e s m below meth c T X
  replace X : Sd _ _ _ _ _ "java/util/Arrays" "copyOfRange" _ _ _ _ _ _ _ _ _ _ _ _ _ _ _ _ := X
  refine Wp.cast (g' := mkF m 0 #[.val (.ref a), .val (.int (0 : Int32)), .val (.int (3 : Int32))] []) (by first | (simp [entryFrame, mkF, argsToLocals, Value.category, maxLocals]; done) | rfl) ?_
  refine w_iloadN X k65_132_0 rfl ?_
  refine w_ifne X k65_132_1 (fun hc => absurd rfl hc) (fun _ => ?_)
  refine w_iloadN X k65_132_4 rfl ?_
  refine w_aloadN X k65_132_5 rfl (rfl) ?_
  refine w_arrlen X (3 : Int32) k65_132_6 Aa rfl ?_
  refine w_icmpeq X k65_132_7 (fun _ => ?_) (fun hc => absurd rfl hc)
  refine w_aloadN X k65_132_17 rfl (rfl) ?_
  refine w_clone X 3 k65_132_18 (wd_112 hw) (wd_113 hw) (wd_117 hw) (wd_115 hw) (wd_116 hw) (wd_118 hw) Aa Ea rfl rfl (by decide) (leR rfl) (by decide) (by decide) (fun T h1 b1 g1 gn1 X E1 A1 B1 => ?_)
  have sz_b1 : h0.size ≤ b1 := Nat.le_trans (Keep.refl h0 []).1 (Nat.le_of_eq g1.symm)
  have K1 : Keep h0 h1 [] := (Keep.refl h0 []).ext E1
  refine w_cast X k65_132_21 (wd_119 hw) (Ins.self B1) (fun T X => ?_)
  exact w_retR X rfl (rfl) rfl k65_132_24 ⟨_, rfl, sz_b1, gn1, A1, B1, K1⟩ (by decide) (by decide)
theorem m_ckl_1_3 (hw : own_hw a0 Z) {h0 : Heap}   :
    Does l Z n0 ⟨"java/util/Arrays", "checkLength", "(II)V"⟩ jdk_65_method_131_code 2 none [] { frames := 0, cells := 0, slots := 0, locals := 0 } #[(.int (1 : Int32)), (.int (3 : Int32))] h0 (fun v h => v = none ∧ h0 = h) := by
  refine Does.start (plainFor_of_name pn_2) ?_
  intro p e s m below meth c T X
  replace X : Sd _ _ _ _ _ "java/util/Arrays" "checkLength" _ _ _ _ _ _ _ _ _ _ _ _ _ _ _ _ := X
  refine Wp.cast (g' := mkF m 0 #[.val (.int (1 : Int32)), .val (.int (3 : Int32))] []) (by first | (simp [entryFrame, mkF, argsToLocals, Value.category, maxLocals]; done) | rfl) ?_
  refine w_iloadN X k65_131_0 rfl ?_
  refine w_iloadN X k65_131_1 rfl ?_
  refine w_icmpge X k65_131_2 (fun _ => ?_) (fun hc => absurd hc (by decide))
  exact w_retV X k65_131_37 ⟨rfl, rfl⟩ (by decide) (by decide)
theorem m_crb_1 (hw : own_hw a0 Z) {h0 : Heap} {a : Addr} {x0 x1 x2 : Int32} (Aa : Ary Z h0 a .byte [(.int x0), (.int x1), (.int x2)]) :
    Does l Z n0 ⟨"java/util/Arrays", "copyOfRangeByte", "([BII)[B"⟩ jdk_65_method_133_code 5 (some (.array .byte)) [] { frames := 1, cells := 1, slots := 2, locals := 40 } #[(.ref a), (.int (1 : Int32)), (.int (3 : Int32))] h0 (fun v h => ∃ b, v = some (.ref b) ∧ h0.size ≤ b ∧ n0 ≤ b ∧ Ary Z h b .byte [(.int x1), (.int x2)] ∧ Keep h0 h []) := by
  refine Does.start (plainFor_of_name pn_2) ?_
  intro p e s m below meth c T X
  replace X : Sd _ _ _ _ _ "java/util/Arrays" "copyOfRangeByte" _ _ _ _ _ _ _ _ _ _ _ _ _ _ _ _ := X
  refine Wp.cast (g' := mkF m 0 #[.val (.ref a), .val (.int (1 : Int32)), .val (.int (3 : Int32)), .unset, .unset] []) (by first | (simp [entryFrame, mkF, argsToLocals, Value.category, maxLocals]; done) | rfl) ?_
  refine w_iloadN X k65_133_0 rfl ?_
  refine w_iloadN X k65_133_1 rfl ?_
  refine w_callS X k65_133_2 (wd_248 hw) (wd_249 hw) (wd_110 hw) (wd_250 hw) (by decide) (argsL := [(.int (1 : Int32)), (.int (3 : Int32))]) (S := []) (m_ckl_1_3 hw) pd_0 rfl rfl rfl (by decide) (leR rfl) (by decide) (by decide) (fun T h1 v1 L1 X q1 => ?_)
  obtain ⟨rfl, rfl⟩ := q1
  show Wp _ _ _ _ (T.setTop (mkF _ _ _ []))
  refine w_iloadN X k65_133_5 rfl ?_
  refine w_iloadN X k65_133_6 rfl ?_
  refine w_isub X k65_133_7 ?_
  refine w_istoreN X #[.val (.ref a), .val (.int (1 : Int32)), .val (.int (3 : Int32)), .val (.int (2 : Int32)), .unset] k65_133_8 rfl ?_
  refine w_iloadN X k65_133_9 rfl ?_
  refine w_newarr X k65_133_10 (wd_1 hw) 2 2 (by decide) (by decide) (by decide) (by decide) (by decide) (by decide) (fun T h2 b2 g2 gn2 X E2 A2 => ?_)
  replace A2 : Ary Z h2 b2 .byte [(.int (0 : Int32)), (.int (0 : Int32))] := A2
  have sz_b2 : h0.size ≤ b2 := Nat.le_trans (Keep.refl h0 []).1 (Nat.le_of_eq g2.symm)
  have K1 : Keep h0 h2 [] := (Keep.refl h0 []).ext E2
  refine w_astore X #[.val (.ref a), .val (.int (1 : Int32)), .val (.int (3 : Int32)), .val (.int (2 : Int32)), .val (.ref b2)] k65_133_12 (rfl) rfl ?_
  refine w_aloadN X k65_133_14 rfl (rfl) ?_
  refine w_iloadN X k65_133_15 rfl ?_
  refine w_aload X k65_133_16 rfl (rfl) ?_
  refine w_iconst X (0 : Int32) k65_133_18 rfl ?_
  refine w_aloadN X k65_133_19 rfl (rfl) ?_
  have f2 := (Aa.ext E2)
  refine w_arrlen X (3 : Int32) k65_133_20 f2 rfl ?_
  refine w_iloadN X k65_133_21 rfl ?_
  refine w_isub X k65_133_22 ?_
  refine w_iloadN X k65_133_23 rfl ?_
  refine w_callS X k65_133_24 (wd_167 hw) (wd_168 hw) (wd_169 hw) (wd_170 hw) (by decide) (argsL := [(.int (2 : Int32)), (.int (2 : Int32))]) (S := [(.int (0 : Int32)), (.ref b2), (.int (1 : Int32)), (.ref a)]) (m_min hw (r := (2 : Int32)) (by decide)) pd_1 rfl rfl rfl (by decide) (leR rfl) (by decide) (by decide) (fun T h3 v3 L3 X q3 => ?_)
  obtain ⟨rfl, rfl⟩ := q3
  show Wp _ _ _ _ (T.setTop (mkF _ _ _ [(.int (2 : Int32)), (.int (0 : Int32)), (.ref b2), (.int (1 : Int32)), (.ref a)]))
  refine w_cpB X k65_133_27 (wd_171 hw) (wd_174 hw) (wd_172 hw) (wd_173 hw) rfl [(.int x1), (.int x2)] f2 A2 gn2 (by decide) (by decide) (leR rfl) rfl rfl rfl (by decide) (leR rfl) (fun T h4 L4 X Kc4 A4 => ?_)
  have K3 : Keep h0 h4 [] := K1.trans Kc4 (fun x hx => by cases List.mem_singleton.mp hx; exact (Or.inr sz_b2))
  refine w_aload X k65_133_30 rfl (rfl) ?_
  exact w_retR X rfl (rfl) rfl k65_133_32 ⟨_, rfl, sz_b2, gn2, A4, K3⟩ (by decide) (by decide)
theorem m_crr_1 (hw : own_hw a0 Z) {h0 : Heap} {a : Addr} {x0 x1 x2 : Int32} (Aa : Ary Z h0 a .byte [(.int x0), (.int x1), (.int x2)]) :
    Does l Z n0 ⟨"java/util/Arrays", "copyOfRange", "([BII)[B"⟩ jdk_65_method_132_code 3 (some (.array .byte)) [] { frames := 2, cells := 1, slots := 2, locals := 56 } #[(.ref a), (.int (1 : Int32)), (.int (3 : Int32))] h0 (fun v h => ∃ b, v = some (.ref b) ∧ h0.size ≤ b ∧ n0 ≤ b ∧ Ary Z h b .byte [(.int x1), (.int x2)] ∧ Keep h0 h []) := by
  refine Does.start (plainFor_of_name pn_2) ?_
  intro p e s m below meth c T X
  replace X : Sd _ _ _ _ _ "java/util/Arrays" "copyOfRange" _ _ _ _ _ _ _ _ _ _ _ _ _ _ _ _ := X
  refine Wp.cast (g' := mkF m 0 #[.val (.ref a), .val (.int (1 : Int32)), .val (.int (3 : Int32))] []) (by first | (simp [entryFrame, mkF, argsToLocals, Value.category, maxLocals]; done) | rfl) ?_
  refine w_iloadN X k65_132_0 rfl ?_
  refine w_ifne X k65_132_1 (fun _ => ?_) (fun hc => absurd hc (by decide))
  refine w_aloadN X k65_132_10 rfl (rfl) ?_
  refine w_iloadN X k65_132_11 rfl ?_
  refine w_iloadN X k65_132_12 rfl ?_
  refine w_callS X k65_132_13 (wd_245 hw) (wd_246 hw) (wd_110 hw) (wd_247 hw) (by decide) (argsL := [(.ref a), (.int (1 : Int32)), (.int (3 : Int32))]) (S := []) (m_crb_1 hw Aa) pd_2 rfl rfl rfl (by decide) (leR rfl) (by decide) (by decide) (fun T h1 v1 L1 X q1 => ?_)
  obtain ⟨t1, rfl, gt1, gn1, At1, Kc1⟩ := q1
  have K1 : Keep h0 h1 [] := (Keep.refl h0 []).trans Kc1 (fun x hx => nomatch hx)
  have sz_t1 : h0.size ≤ t1 := Nat.le_trans (Keep.refl h0 []).1 gt1
  show Wp _ _ _ _ (T.setTop (mkF _ _ _ [(.ref t1)]))
  exact w_retR X rfl (rfl) rfl k65_132_16 ⟨_, rfl, sz_t1, gn1, At1, K1⟩ (by decide) (by decide)
theorem m_ckl_2_3 (hw : own_hw a0 Z) {h0 : Heap}   :
    Does l Z n0 ⟨"java/util/Arrays", "checkLength", "(II)V"⟩ jdk_65_method_131_code 2 none [] { frames := 0, cells := 0, slots := 0, locals := 0 } #[(.int (2 : Int32)), (.int (3 : Int32))] h0 (fun v h => v = none ∧ h0 = h) := by
  refine Does.start (plainFor_of_name pn_2) ?_
  intro p e s m below meth c T X
  replace X : Sd _ _ _ _ _ "java/util/Arrays" "checkLength" _ _ _ _ _ _ _ _ _ _ _ _ _ _ _ _ := X
  refine Wp.cast (g' := mkF m 0 #[.val (.int (2 : Int32)), .val (.int (3 : Int32))] []) (by first | (simp [entryFrame, mkF, argsToLocals, Value.category, maxLocals]; done) | rfl) ?_
  refine w_iloadN X k65_131_0 rfl ?_
  refine w_iloadN X k65_131_1 rfl ?_
  refine w_icmpge X k65_131_2 (fun _ => ?_) (fun hc => absurd hc (by decide))
  exact w_retV X k65_131_37 ⟨rfl, rfl⟩ (by decide) (by decide)
theorem m_crb_2 (hw : own_hw a0 Z) {h0 : Heap} {a : Addr} {x0 x1 x2 : Int32} (Aa : Ary Z h0 a .byte [(.int x0), (.int x1), (.int x2)]) :
    Does l Z n0 ⟨"java/util/Arrays", "copyOfRangeByte", "([BII)[B"⟩ jdk_65_method_133_code 5 (some (.array .byte)) [] { frames := 1, cells := 1, slots := 1, locals := 40 } #[(.ref a), (.int (2 : Int32)), (.int (3 : Int32))] h0 (fun v h => ∃ b, v = some (.ref b) ∧ h0.size ≤ b ∧ n0 ≤ b ∧ Ary Z h b .byte [(.int x2)] ∧ Keep h0 h []) := by
  refine Does.start (plainFor_of_name pn_2) ?_
  intro p e s m below meth c T X
  replace X : Sd _ _ _ _ _ "java/util/Arrays" "copyOfRangeByte" _ _ _ _ _ _ _ _ _ _ _ _ _ _ _ _ := X
  refine Wp.cast (g' := mkF m 0 #[.val (.ref a), .val (.int (2 : Int32)), .val (.int (3 : Int32)), .unset, .unset] []) (by first | (simp [entryFrame, mkF, argsToLocals, Value.category, maxLocals]; done) | rfl) ?_
  refine w_iloadN X k65_133_0 rfl ?_
  refine w_iloadN X k65_133_1 rfl ?_
  refine w_callS X k65_133_2 (wd_248 hw) (wd_249 hw) (wd_110 hw) (wd_250 hw) (by decide) (argsL := [(.int (2 : Int32)), (.int (3 : Int32))]) (S := []) (m_ckl_2_3 hw) pd_0 rfl rfl rfl (by decide) (leR rfl) (by decide) (by decide) (fun T h1 v1 L1 X q1 => ?_)
  obtain ⟨rfl, rfl⟩ := q1
  show Wp _ _ _ _ (T.setTop (mkF _ _ _ []))
  refine w_iloadN X k65_133_5 rfl ?_
  refine w_iloadN X k65_133_6 rfl ?_
  refine w_isub X k65_133_7 ?_
  refine w_istoreN X #[.val (.ref a), .val (.int (2 : Int32)), .val (.int (3 : Int32)), .val (.int (1 : Int32)), .unset] k65_133_8 rfl ?_
  refine w_iloadN X k65_133_9 rfl ?_
  refine w_newarr X k65_133_10 (wd_1 hw) 1 1 (by decide) (by decide) (by decide) (by decide) (by decide) (by decide) (fun T h2 b2 g2 gn2 X E2 A2 => ?_)
  replace A2 : Ary Z h2 b2 .byte [(.int (0 : Int32))] := A2
  have sz_b2 : h0.size ≤ b2 := Nat.le_trans (Keep.refl h0 []).1 (Nat.le_of_eq g2.symm)
  have K1 : Keep h0 h2 [] := (Keep.refl h0 []).ext E2
  refine w_astore X #[.val (.ref a), .val (.int (2 : Int32)), .val (.int (3 : Int32)), .val (.int (1 : Int32)), .val (.ref b2)] k65_133_12 (rfl) rfl ?_
  refine w_aloadN X k65_133_14 rfl (rfl) ?_
  refine w_iloadN X k65_133_15 rfl ?_
  refine w_aload X k65_133_16 rfl (rfl) ?_
  refine w_iconst X (0 : Int32) k65_133_18 rfl ?_
  refine w_aloadN X k65_133_19 rfl (rfl) ?_
  have f2 := (Aa.ext E2)
  refine w_arrlen X (3 : Int32) k65_133_20 f2 rfl ?_
  refine w_iloadN X k65_133_21 rfl ?_
  refine w_isub X k65_133_22 ?_
  refine w_iloadN X k65_133_23 rfl ?_
  refine w_callS X k65_133_24 (wd_167 hw) (wd_168 hw) (wd_169 hw) (wd_170 hw) (by decide) (argsL := [(.int (1 : Int32)), (.int (1 : Int32))]) (S := [(.int (0 : Int32)), (.ref b2), (.int (2 : Int32)), (.ref a)]) (m_min hw (r := (1 : Int32)) (by decide)) pd_1 rfl rfl rfl (by decide) (leR rfl) (by decide) (by decide) (fun T h3 v3 L3 X q3 => ?_)
  obtain ⟨rfl, rfl⟩ := q3
  show Wp _ _ _ _ (T.setTop (mkF _ _ _ [(.int (1 : Int32)), (.int (0 : Int32)), (.ref b2), (.int (2 : Int32)), (.ref a)]))
  refine w_cpB X k65_133_27 (wd_171 hw) (wd_174 hw) (wd_172 hw) (wd_173 hw) rfl [(.int x2)] f2 A2 gn2 (by decide) (by decide) (leR rfl) rfl rfl rfl (by decide) (leR rfl) (fun T h4 L4 X Kc4 A4 => ?_)
  have K3 : Keep h0 h4 [] := K1.trans Kc4 (fun x hx => by cases List.mem_singleton.mp hx; exact (Or.inr sz_b2))
  refine w_aload X k65_133_30 rfl (rfl) ?_
  exact w_retR X rfl (rfl) rfl k65_133_32 ⟨_, rfl, sz_b2, gn2, A4, K3⟩ (by decide) (by decide)
theorem m_crr_2 (hw : own_hw a0 Z) {h0 : Heap} {a : Addr} {x0 x1 x2 : Int32} (Aa : Ary Z h0 a .byte [(.int x0), (.int x1), (.int x2)]) :
    Does l Z n0 ⟨"java/util/Arrays", "copyOfRange", "([BII)[B"⟩ jdk_65_method_132_code 3 (some (.array .byte)) [] { frames := 2, cells := 1, slots := 1, locals := 56 } #[(.ref a), (.int (2 : Int32)), (.int (3 : Int32))] h0 (fun v h => ∃ b, v = some (.ref b) ∧ h0.size ≤ b ∧ n0 ≤ b ∧ Ary Z h b .byte [(.int x2)] ∧ Keep h0 h []) := by
  refine Does.start (plainFor_of_name pn_2) ?_
  intro p e s m below meth c T X
  replace X : Sd _ _ _ _ _ "java/util/Arrays" "copyOfRange" _ _ _ _ _ _ _ _ _ _ _ _ _ _ _ _ := X
  refine Wp.cast (g' := mkF m 0 #[.val (.ref a), .val (.int (2 : Int32)), .val (.int (3 : Int32))] []) (by first | (simp [entryFrame, mkF, argsToLocals, Value.category, maxLocals]; done) | rfl) ?_
  refine w_iloadN X k65_132_0 rfl ?_
  refine w_ifne X k65_132_1 (fun _ => ?_) (fun hc => absurd hc (by decide))
  refine w_aloadN X k65_132_10 rfl (rfl) ?_
  refine w_iloadN X k65_132_11 rfl ?_
  refine w_iloadN X k65_132_12 rfl ?_
  refine w_callS X k65_132_13 (wd_245 hw) (wd_246 hw) (wd_110 hw) (wd_247 hw) (by decide) (argsL := [(.ref a), (.int (2 : Int32)), (.int (3 : Int32))]) (S := []) (m_crb_2 hw Aa) pd_2 rfl rfl rfl (by decide) (leR rfl) (by decide) (by decide) (fun T h1 v1 L1 X q1 => ?_)
  obtain ⟨t1, rfl, gt1, gn1, At1, Kc1⟩ := q1
  have K1 : Keep h0 h1 [] := (Keep.refl h0 []).trans Kc1 (fun x hx => nomatch hx)
  have sz_t1 : h0.size ≤ t1 := Nat.le_trans (Keep.refl h0 []).1 gt1
  show Wp _ _ _ _ (T.setTop (mkF _ _ _ [(.ref t1)]))
  exact w_retR X rfl (rfl) rfl k65_132_16 ⟨_, rfl, sz_t1, gn1, At1, K1⟩ (by decide) (by decide)
theorem m_cpo_2 (hw : own_hw a0 Z) {h0 : Heap} {a : Addr} {x0 x1 : Int32} (Aa : Ary Z h0 a .byte [(.int x0), (.int x1)]) :
    Does l Z n0 ⟨"java/util/Arrays", "copyOf", "([BI)[B"⟩ jdk_65_method_121_code 3 (some (.array .byte)) [] { frames := 1, cells := 1, slots := 1, locals := 40 } #[(.ref a), (.int (1 : Int32))] h0 (fun v h => ∃ b, v = some (.ref b) ∧ h0.size ≤ b ∧ n0 ≤ b ∧ Ary Z h b .byte [(.int x0)] ∧ Keep h0 h []) := by
  refine Does.start (plainFor_of_name pn_2) ?_
  intro p e s m below meth c T X
  replace X : Sd _ _ _ _ _ "java/util/Arrays" "copyOf" _ _ _ _ _ _ _ _ _ _ _ _ _ _ _ _ := X
  refine Wp.cast (g' := mkF m 0 #[.val (.ref a), .val (.int (1 : Int32)), .unset] []) (by first | (simp [entryFrame, mkF, argsToLocals, Value.category, maxLocals]; done) | rfl) ?_
  refine w_iloadN X k65_121_0 rfl ?_
  refine w_aloadN X k65_121_1 rfl (rfl) ?_
  refine w_arrlen X (2 : Int32) k65_121_2 Aa rfl ?_
  refine w_icmpne X k65_121_3 (fun _ => ?_) (fun hc => absurd hc (by decide))
  refine w_iloadN X k65_121_14 rfl ?_
  refine w_newarr X k65_121_15 (wd_1 hw) 1 1 (by decide) (by decide) (by decide) (by decide) (by decide) (by decide) (fun T h1 b1 g1 gn1 X E1 A1 => ?_)
  replace A1 : Ary Z h1 b1 .byte [(.int (0 : Int32))] := A1
  have sz_b1 : h0.size ≤ b1 := Nat.le_trans (Keep.refl h0 []).1 (Nat.le_of_eq g1.symm)
  have K1 : Keep h0 h1 [] := (Keep.refl h0 []).ext E1
  refine w_astoreN X #[.val (.ref a), .val (.int (1 : Int32)), .val (.ref b1)] k65_121_17 (rfl) rfl ?_
  refine w_aloadN X k65_121_18 rfl (rfl) ?_
  refine w_iconst X (0 : Int32) k65_121_19 rfl ?_
  refine w_aloadN X k65_121_20 rfl (rfl) ?_
  refine w_iconst X (0 : Int32) k65_121_21 rfl ?_
  refine w_aloadN X k65_121_22 rfl (rfl) ?_
  have f2 := (Aa.ext E1)
  refine w_arrlen X (2 : Int32) k65_121_23 f2 rfl ?_
  refine w_iloadN X k65_121_24 rfl ?_
  refine w_callS X k65_121_25 (wd_167 hw) (wd_168 hw) (wd_169 hw) (wd_170 hw) (by decide) (argsL := [(.int (2 : Int32)), (.int (1 : Int32))]) (S := [(.int (0 : Int32)), (.ref b1), (.int (0 : Int32)), (.ref a)]) (m_min hw (r := (1 : Int32)) (by decide)) pd_1 rfl rfl rfl (by decide) (leR rfl) (by decide) (by decide) (fun T h2 v2 L2 X q2 => ?_)
  obtain ⟨rfl, rfl⟩ := q2
  show Wp _ _ _ _ (T.setTop (mkF _ _ _ [(.int (1 : Int32)), (.int (0 : Int32)), (.ref b1), (.int (0 : Int32)), (.ref a)]))
  refine w_cpB X k65_121_28 (wd_171 hw) (wd_174 hw) (wd_172 hw) (wd_173 hw) rfl [(.int x0)] f2 A1 gn1 (by decide) (by decide) (leR rfl) rfl rfl rfl (by decide) (leR rfl) (fun T h3 L3 X Kc3 A3 => ?_)
  have K3 : Keep h0 h3 [] := K1.trans Kc3 (fun x hx => by cases List.mem_singleton.mp hx; exact (Or.inr sz_b1))
  refine w_aloadN X k65_121_31 rfl (rfl) ?_
  exact w_retR X rfl (rfl) rfl k65_121_32 ⟨_, rfl, sz_b1, gn1, A3, K3⟩ (by decide) (by decide)
theorem m_cpo_4 (hw : own_hw a0 Z) {h0 : Heap} {a : Addr} {x0 x1 x2 x3 : Int32} (Aa : Ary Z h0 a .byte [(.int x0), (.int x1), (.int x2), (.int x3)]) :
    Does l Z n0 ⟨"java/util/Arrays", "copyOf", "([BI)[B"⟩ jdk_65_method_121_code 3 (some (.array .byte)) [] { frames := 1, cells := 1, slots := 2, locals := 40 } #[(.ref a), (.int (2 : Int32))] h0 (fun v h => ∃ b, v = some (.ref b) ∧ h0.size ≤ b ∧ n0 ≤ b ∧ Ary Z h b .byte [(.int x0), (.int x1)] ∧ Keep h0 h []) := by
  refine Does.start (plainFor_of_name pn_2) ?_
  intro p e s m below meth c T X
  replace X : Sd _ _ _ _ _ "java/util/Arrays" "copyOf" _ _ _ _ _ _ _ _ _ _ _ _ _ _ _ _ := X
  refine Wp.cast (g' := mkF m 0 #[.val (.ref a), .val (.int (2 : Int32)), .unset] []) (by first | (simp [entryFrame, mkF, argsToLocals, Value.category, maxLocals]; done) | rfl) ?_
  refine w_iloadN X k65_121_0 rfl ?_
  refine w_aloadN X k65_121_1 rfl (rfl) ?_
  refine w_arrlen X (4 : Int32) k65_121_2 Aa rfl ?_
  refine w_icmpne X k65_121_3 (fun _ => ?_) (fun hc => absurd hc (by decide))
  refine w_iloadN X k65_121_14 rfl ?_
  refine w_newarr X k65_121_15 (wd_1 hw) 2 2 (by decide) (by decide) (by decide) (by decide) (by decide) (by decide) (fun T h1 b1 g1 gn1 X E1 A1 => ?_)
  replace A1 : Ary Z h1 b1 .byte [(.int (0 : Int32)), (.int (0 : Int32))] := A1
  have sz_b1 : h0.size ≤ b1 := Nat.le_trans (Keep.refl h0 []).1 (Nat.le_of_eq g1.symm)
  have K1 : Keep h0 h1 [] := (Keep.refl h0 []).ext E1
  refine w_astoreN X #[.val (.ref a), .val (.int (2 : Int32)), .val (.ref b1)] k65_121_17 (rfl) rfl ?_
  refine w_aloadN X k65_121_18 rfl (rfl) ?_
  refine w_iconst X (0 : Int32) k65_121_19 rfl ?_
  refine w_aloadN X k65_121_20 rfl (rfl) ?_
  refine w_iconst X (0 : Int32) k65_121_21 rfl ?_
  refine w_aloadN X k65_121_22 rfl (rfl) ?_
  have f2 := (Aa.ext E1)
  refine w_arrlen X (4 : Int32) k65_121_23 f2 rfl ?_
  refine w_iloadN X k65_121_24 rfl ?_
  refine w_callS X k65_121_25 (wd_167 hw) (wd_168 hw) (wd_169 hw) (wd_170 hw) (by decide) (argsL := [(.int (4 : Int32)), (.int (2 : Int32))]) (S := [(.int (0 : Int32)), (.ref b1), (.int (0 : Int32)), (.ref a)]) (m_min hw (r := (2 : Int32)) (by decide)) pd_1 rfl rfl rfl (by decide) (leR rfl) (by decide) (by decide) (fun T h2 v2 L2 X q2 => ?_)
  obtain ⟨rfl, rfl⟩ := q2
  show Wp _ _ _ _ (T.setTop (mkF _ _ _ [(.int (2 : Int32)), (.int (0 : Int32)), (.ref b1), (.int (0 : Int32)), (.ref a)]))
  refine w_cpB X k65_121_28 (wd_171 hw) (wd_174 hw) (wd_172 hw) (wd_173 hw) rfl [(.int x0), (.int x1)] f2 A1 gn1 (by decide) (by decide) (leR rfl) rfl rfl rfl (by decide) (leR rfl) (fun T h3 L3 X Kc3 A3 => ?_)
  have K3 : Keep h0 h3 [] := K1.trans Kc3 (fun x hx => by cases List.mem_singleton.mp hx; exact (Or.inr sz_b1))
  refine w_aloadN X k65_121_31 rfl (rfl) ?_
  exact w_retR X rfl (rfl) rfl k65_121_32 ⟨_, rfl, sz_b1, gn1, A3, K3⟩ (by decide) (by decide)
theorem m_cpo_6 (hw : own_hw a0 Z) {h0 : Heap} {a : Addr} {x0 x1 x2 x3 x4 x5 : Int32} (Aa : Ary Z h0 a .byte [(.int x0), (.int x1), (.int x2), (.int x3), (.int x4), (.int x5)]) :
    Does l Z n0 ⟨"java/util/Arrays", "copyOf", "([BI)[B"⟩ jdk_65_method_121_code 3 (some (.array .byte)) [] { frames := 1, cells := 1, slots := 2, locals := 40 } #[(.ref a), (.int (2 : Int32))] h0 (fun v h => ∃ b, v = some (.ref b) ∧ h0.size ≤ b ∧ n0 ≤ b ∧ Ary Z h b .byte [(.int x0), (.int x1)] ∧ Keep h0 h []) := by
  refine Does.start (plainFor_of_name pn_2) ?_
  intro p e s m below meth c T X
  replace X : Sd _ _ _ _ _ "java/util/Arrays" "copyOf" _ _ _ _ _ _ _ _ _ _ _ _ _ _ _ _ := X
  refine Wp.cast (g' := mkF m 0 #[.val (.ref a), .val (.int (2 : Int32)), .unset] []) (by first | (simp [entryFrame, mkF, argsToLocals, Value.category, maxLocals]; done) | rfl) ?_
  refine w_iloadN X k65_121_0 rfl ?_
  refine w_aloadN X k65_121_1 rfl (rfl) ?_
  refine w_arrlen X (6 : Int32) k65_121_2 Aa rfl ?_
  refine w_icmpne X k65_121_3 (fun _ => ?_) (fun hc => absurd hc (by decide))
  refine w_iloadN X k65_121_14 rfl ?_
  refine w_newarr X k65_121_15 (wd_1 hw) 2 2 (by decide) (by decide) (by decide) (by decide) (by decide) (by decide) (fun T h1 b1 g1 gn1 X E1 A1 => ?_)
  replace A1 : Ary Z h1 b1 .byte [(.int (0 : Int32)), (.int (0 : Int32))] := A1
  have sz_b1 : h0.size ≤ b1 := Nat.le_trans (Keep.refl h0 []).1 (Nat.le_of_eq g1.symm)
  have K1 : Keep h0 h1 [] := (Keep.refl h0 []).ext E1
  refine w_astoreN X #[.val (.ref a), .val (.int (2 : Int32)), .val (.ref b1)] k65_121_17 (rfl) rfl ?_
  refine w_aloadN X k65_121_18 rfl (rfl) ?_
  refine w_iconst X (0 : Int32) k65_121_19 rfl ?_
  refine w_aloadN X k65_121_20 rfl (rfl) ?_
  refine w_iconst X (0 : Int32) k65_121_21 rfl ?_
  refine w_aloadN X k65_121_22 rfl (rfl) ?_
  have f2 := (Aa.ext E1)
  refine w_arrlen X (6 : Int32) k65_121_23 f2 rfl ?_
  refine w_iloadN X k65_121_24 rfl ?_
  refine w_callS X k65_121_25 (wd_167 hw) (wd_168 hw) (wd_169 hw) (wd_170 hw) (by decide) (argsL := [(.int (6 : Int32)), (.int (2 : Int32))]) (S := [(.int (0 : Int32)), (.ref b1), (.int (0 : Int32)), (.ref a)]) (m_min hw (r := (2 : Int32)) (by decide)) pd_1 rfl rfl rfl (by decide) (leR rfl) (by decide) (by decide) (fun T h2 v2 L2 X q2 => ?_)
  obtain ⟨rfl, rfl⟩ := q2
  show Wp _ _ _ _ (T.setTop (mkF _ _ _ [(.int (2 : Int32)), (.int (0 : Int32)), (.ref b1), (.int (0 : Int32)), (.ref a)]))
  refine w_cpB X k65_121_28 (wd_171 hw) (wd_174 hw) (wd_172 hw) (wd_173 hw) rfl [(.int x0), (.int x1)] f2 A1 gn1 (by decide) (by decide) (leR rfl) rfl rfl rfl (by decide) (leR rfl) (fun T h3 L3 X Kc3 A3 => ?_)
  have K3 : Keep h0 h3 [] := K1.trans Kc3 (fun x hx => by cases List.mem_singleton.mp hx; exact (Or.inr sz_b1))
  refine w_aloadN X k65_121_31 rfl (rfl) ?_
  exact w_retR X rfl (rfl) rfl k65_121_32 ⟨_, rfl, sz_b1, gn1, A3, K3⟩ (by decide) (by decide)
theorem m_d2 (hw : own_hw a0 Z) {h0 : Heap} {x y r : Int32} (hr : ((((x <<< ((6 : Int32) &&& 31)) ^^^ y) ^^^ (3968 : Int32)).toUInt32.toUInt16.toUInt32.toInt32) = r) :
    Does l Z n0 ⟨"java/lang/String", "decode2", "(II)C"⟩ jdk_42_method_35_code 2 (some .char) [] { frames := 0, cells := 0, slots := 0, locals := 0 } #[(.int x), (.int y)] h0 (fun v h => v = some (.int r) ∧ h0 = h) := by
  refine Does.start (plainFor_of_name pn_3) ?_
  intro p e s m below meth c T X
  replace X : Sd _ _ _ _ _ "java/lang/String" "decode2" _ _ _ _ _ _ _ _ _ _ _ _ _ _ _ _ := X
  refine Wp.cast (g' := mkF m 0 #[.val (.int x), .val (.int y)] []) (by first | (simp [entryFrame, mkF, argsToLocals, Value.category, maxLocals]; done) | rfl) ?_
  refine w_iloadN X k42_35_0 rfl ?_
  refine w_bipush X (6 : Int32) k42_35_1 rfl ?_
  refine w_ishl X k42_35_3 ?_
  refine w_iloadN X k42_35_4 rfl ?_
  refine w_ixor X k42_35_5 ?_
  refine w_sipush X (3968 : Int32) k42_35_6 rfl ?_
  refine w_ixor X k42_35_9 ?_
  refine w_i2c X k42_35_10 ?_
  exact w_ret_char X ((((x <<< ((6 : Int32) &&& 31)) ^^^ y) ^^^ (3968 : Int32)).toUInt32.toUInt16.toUInt32.toInt32) (own_nar_c _) k42_35_11 ⟨by rw [hr], rfl⟩ (by decide) (by decide)
theorem m_d3 (hw : own_hw a0 Z) {h0 : Heap} {x y z r : Int32} (hr : ((((x <<< ((12 : Int32) &&& 31)) ^^^ (y <<< ((6 : Int32) &&& 31))) ^^^ (z ^^^ (-123008 : Int32))).toUInt32.toUInt16.toUInt32.toInt32) = r) :
    Does l Z n0 ⟨"java/lang/String", "decode3", "(III)C"⟩ jdk_42_method_36_code 3 (some .char) [] { frames := 0, cells := 0, slots := 0, locals := 0 } #[(.int x), (.int y), (.int z)] h0 (fun v h => v = some (.int r) ∧ h0 = h) := by
  refine Does.start (plainFor_of_name pn_3) ?_
  intro p e s m below meth c T X
  replace X : Sd _ _ _ _ _ "java/lang/String" "decode3" _ _ _ _ _ _ _ _ _ _ _ _ _ _ _ _ := X
  refine Wp.cast (g' := mkF m 0 #[.val (.int x), .val (.int y), .val (.int z)] []) (by first | (simp [entryFrame, mkF, argsToLocals, Value.category, maxLocals]; done) | rfl) ?_
  refine w_iloadN X k42_36_0 rfl ?_
  refine w_bipush X (12 : Int32) k42_36_1 rfl ?_
  refine w_ishl X k42_36_3 ?_
  refine w_iloadN X k42_36_4 rfl ?_
  refine w_bipush X (6 : Int32) k42_36_5 rfl ?_
  refine w_ishl X k42_36_7 ?_
  refine w_ixor X k42_36_8 ?_
  refine w_iloadN X k42_36_9 rfl ?_
  refine w_ldcWI X k42_36_10 (wd_157 hw) ?_
  refine w_ixor X k42_36_13 ?_
  refine w_ixor X k42_36_14 ?_
  refine w_i2c X k42_36_15 ?_
  exact w_ret_char X ((((x <<< ((12 : Int32) &&& 31)) ^^^ (y <<< ((6 : Int32) &&& 31))) ^^^ (z ^^^ (-123008 : Int32))).toUInt32.toUInt16.toUInt32.toInt32) (own_nar_c _) k42_36_16 ⟨by rw [hr], rfl⟩ (by decide) (by decide)
theorem m_nc (hw : own_hw a0 Z) {h0 : Heap} {x : Int32} (h7 : (x &&& (192 : Int32)) = (128 : Int32)) :
    Does l Z n0 ⟨"java/lang/String", "isNotContinuation", "(I)Z"⟩ jdk_42_method_29_code 1 (some .boolean) [] { frames := 0, cells := 0, slots := 0, locals := 0 } #[(.int x)] h0 (fun v h => v = some (.int (0 : Int32)) ∧ h0 = h) := by
  refine Does.start (plainFor_of_name pn_3) ?_
  intro p e s m below meth c T X
  replace X : Sd _ _ _ _ _ "java/lang/String" "isNotContinuation" _ _ _ _ _ _ _ _ _ _ _ _ _ _ _ _ := X
  refine Wp.cast (g' := mkF m 0 #[.val (.int x)] []) (by first | (simp [entryFrame, mkF, argsToLocals, Value.category, maxLocals]; done) | rfl) ?_
  refine w_iloadN X k42_29_0 rfl ?_
  refine w_sipush X (192 : Int32) k42_29_1 rfl ?_
  refine w_iand X k42_29_4 ?_
  refine w_sipush X (128 : Int32) k42_29_5 rfl ?_
  refine w_icmpeq X k42_29_8 (fun _ => ?_) (fun hc => absurd h7 hc)
  refine w_iconst X (0 : Int32) k42_29_15 rfl ?_
  exact w_ret_boolean X (0 : Int32) (by decide) k42_29_16 ⟨rfl, rfl⟩ (by decide) (by decide)
theorem m_mf (hw : own_hw a0 Z) {h0 : Heap} {x y z : Int32} (h1 : x = (-32 : Int32) → ¬ (y &&& (224 : Int32)) = (128 : Int32)) (h2 : (y &&& (192 : Int32)) = (128 : Int32)) (h3 : (z &&& (192 : Int32)) = (128 : Int32)) :
    Does l Z n0 ⟨"java/lang/String", "isMalformed3", "(III)Z"⟩ jdk_42_method_30_code 3 (some .boolean) [] { frames := 0, cells := 0, slots := 0, locals := 0 } #[(.int x), (.int y), (.int z)] h0 (fun v h => v = some (.int (0 : Int32)) ∧ h0 = h) := by
  refine Does.start (plainFor_of_name pn_3) ?_
  intro p e s m below meth c T X
  replace X : Sd _ _ _ _ _ "java/lang/String" "isMalformed3" _ _ _ _ _ _ _ _ _ _ _ _ _ _ _ _ := X
  refine Wp.cast (g' := mkF m 0 #[.val (.int x), .val (.int y), .val (.int z)] []) (by first | (simp [entryFrame, mkF, argsToLocals, Value.category, maxLocals]; done) | rfl) ?_
  refine w_iloadN X k42_30_0 rfl ?_
  refine w_bipush X (-32 : Int32) k42_30_1 rfl ?_
  refine w_icmpne X k42_30_3 (fun (hc3 : ¬ x = (-32 : Int32)) => ?_) (fun (hc3 : x = (-32 : Int32)) => ?_)
  · refine w_iloadN X k42_30_17 rfl ?_
    refine w_sipush X (192 : Int32) k42_30_18 rfl ?_
    refine w_iand X k42_30_21 ?_
    refine w_sipush X (128 : Int32) k42_30_22 rfl ?_
    refine w_icmpne X k42_30_25 (fun hc => absurd h2 hc) (fun _ => ?_)
    refine w_iloadN X k42_30_28 rfl ?_
    refine w_sipush X (192 : Int32) k42_30_29 rfl ?_
    refine w_iand X k42_30_32 ?_
    refine w_sipush X (128 : Int32) k42_30_33 rfl ?_
    refine w_icmpeq X k42_30_36 (fun _ => ?_) (fun hc => absurd h3 hc)
    refine w_iconst X (0 : Int32) k42_30_43 rfl ?_
    exact w_ret_boolean X (0 : Int32) (by decide) k42_30_44 ⟨rfl, rfl⟩ (by decide) (by decide)
  · refine w_iloadN X k42_30_6 rfl ?_
    refine w_sipush X (224 : Int32) k42_30_7 rfl ?_
    refine w_iand X k42_30_10 ?_
    refine w_sipush X (128 : Int32) k42_30_11 rfl ?_
    refine w_icmpeq X k42_30_14 (fun hc => absurd hc (h1 hc3)) (fun _ => ?_)
    refine w_iloadN X k42_30_17 rfl ?_
    refine w_sipush X (192 : Int32) k42_30_18 rfl ?_
    refine w_iand X k42_30_21 ?_
    refine w_sipush X (128 : Int32) k42_30_22 rfl ?_
    refine w_icmpne X k42_30_25 (fun hc => absurd h2 hc) (fun _ => ?_)
    refine w_iloadN X k42_30_28 rfl ?_
    refine w_sipush X (192 : Int32) k42_30_29 rfl ?_
    refine w_iand X k42_30_32 ?_
    refine w_sipush X (128 : Int32) k42_30_33 rfl ?_
    refine w_icmpeq X k42_30_36 (fun _ => ?_) (fun hc => absurd h3 hc)
    refine w_iconst X (0 : Int32) k42_30_43 rfl ?_
    exact w_ret_boolean X (0 : Int32) (by decide) k42_30_44 ⟨rfl, rfl⟩ (by decide) (by decide)
theorem m_sur (hw : own_hw a0 Z) {h0 : Heap} {x : Int32} (hx : x < (55296 : Int32)) :
    Does l Z n0 ⟨"java/lang/Character", "isSurrogate", "(C)Z"⟩ jdk_89_method_16_code 1 (some .boolean) [] { frames := 0, cells := 0, slots := 0, locals := 0 } #[(.int x)] h0 (fun v h => v = some (.int (0 : Int32)) ∧ h0 = h) := by
  refine Does.start (plainFor_of_name pn_4) ?_
  intro p e s m below meth c T X
  replace X : Sd _ _ _ _ _ "java/lang/Character" "isSurrogate" _ _ _ _ _ _ _ _ _ _ _ _ _ _ _ _ := X
  refine Wp.cast (g' := mkF m 0 #[.val (.int x)] []) (by first | (simp [entryFrame, mkF, argsToLocals, Value.category, maxLocals]; done) | rfl) ?_
  refine w_iloadN X k89_16_0 rfl ?_
  refine w_ldcI X k89_16_1 (wd_162 hw) ?_
  refine w_icmplt X k89_16_3 (fun _ => ?_) (fun hc => absurd hx hc)
  refine w_iconst X (0 : Int32) k89_16_16 rfl ?_
  exact w_ret_boolean X (0 : Int32) (by decide) k89_16_17 ⟨rfl, rfl⟩ (by decide) (by decide)
theorem m_pfi_2 (hw : own_hw a0 Z) {h0 : Heap} {fm : Value} (hfm : fm.isRef = true) :
    Does l Z n0 ⟨"jdk/internal/util/Preconditions", "checkFromIndexSize", "(IIILjava/util/function/BiFunction;)I"⟩ jdk_41_method_13_code 4 (some .int) [] { frames := 0, cells := 0, slots := 0, locals := 0 } #[(.int (0 : Int32)), (.int (0 : Int32)), (.int (2 : Int32)), fm] h0 (fun v h => v = some (.int (0 : Int32)) ∧ h0 = h) := by
  refine Does.start (plainFor_of_name pn_5) ?_
  intro p e s m below meth c T X
  replace X : Sd _ _ _ _ _ "jdk/internal/util/Preconditions" "checkFromIndexSize" _ _ _ _ _ _ _ _ _ _ _ _ _ _ _ _ := X
  refine Wp.cast (g' := mkF m 0 #[.val (.int (0 : Int32)), .val (.int (0 : Int32)), .val (.int (2 : Int32)), .val fm] []) (by rcases ref_cases hfm with rfl | ⟨_, rfl⟩ <;> first | (simp [entryFrame, mkF, argsToLocals, Value.category, maxLocals]; done) | rfl) ?_
  refine w_iloadN X k41_13_0 rfl ?_
  refine w_iloadN X k41_13_1 rfl ?_
  refine w_ior X k41_13_2 ?_
  refine w_iloadN X k41_13_3 rfl ?_
  refine w_ior X k41_13_4 ?_
  refine w_iflt X k41_13_5 (fun hc => absurd hc (by decide)) (fun _ => ?_)
  refine w_iloadN X k41_13_8 rfl ?_
  refine w_iloadN X k41_13_9 rfl ?_
  refine w_iloadN X k41_13_10 rfl ?_
  refine w_isub X k41_13_11 ?_
  refine w_icmple X k41_13_12 (fun _ => ?_) (fun hc => absurd hc (by decide))
  refine w_iloadN X k41_13_23 rfl ?_
  exact w_retI X k41_13_24 ⟨rfl, rfl⟩ (by decide) (by decide)
theorem m_scb_2 (hw : own_hw a0 Z) {h0 : Heap} {zc : Int32} {fm : Value} (hS : own_S Z zc fm) :
    Does l Z n0 ⟨"java/lang/String", "checkBoundsOffCount", "(III)I"⟩ jdk_42_method_157_code 3 (some .int) [] { frames := 1, cells := 0, slots := 0, locals := 15 } #[(.int (0 : Int32)), (.int (0 : Int32)), (.int (2 : Int32))] h0 (fun v h => v = some (.int (0 : Int32)) ∧ h0 = h) := by
  refine Does.start (plainFor_of_name pn_3) ?_
  obtain ⟨S_zc, hzc, S_fm, hfm⟩ := id hS
  intro p e s m below meth c T X
  replace X : Sd _ _ _ _ _ "java/lang/String" "checkBoundsOffCount" _ _ _ _ _ _ _ _ _ _ _ _ _ _ _ _ := X
  refine Wp.cast (g' := mkF m 0 #[.val (.int (0 : Int32)), .val (.int (0 : Int32)), .val (.int (2 : Int32))] []) (by first | (simp [entryFrame, mkF, argsToLocals, Value.category, maxLocals]; done) | rfl) ?_
  refine w_iloadN X k42_157_0 rfl ?_
  refine w_iloadN X k42_157_1 rfl ?_
  refine w_iloadN X k42_157_2 rfl ?_
  refine w_getS X k42_157_3 (host := "") (Or.inl (wd_143 hw)) Via.refl (S_fm.ext X.old.2) (fun T X => ?_)
  refine w_callS X k42_157_6 (wd_145 hw) (wd_146 hw) (wd_144 hw) (wd_147 hw) (by decide) (argsL := [(.int (0 : Int32)), (.int (0 : Int32)), (.int (2 : Int32)), fm]) (S := []) (m_pfi_2 hw hfm) pd_3 rfl rfl rfl (by decide) (leR rfl) (by decide) (by decide) (fun T h1 v1 L1 X q1 => ?_)
  obtain ⟨rfl, rfl⟩ := q1
  show Wp _ _ _ _ (T.setTop (mkF _ _ _ [(.int (0 : Int32))]))
  exact w_retI X k42_157_9 ⟨rfl, rfl⟩ (by decide) (by decide)
theorem m_ulen_2 (hw : own_hw a0 Z) {h0 : Heap} {a : Addr} {x0 x1 x2 x3 : Int32} (Aa : Ary Z h0 a .byte [(.int x0), (.int x1), (.int x2), (.int x3)]) :
    Does l Z n0 ⟨"java/lang/StringUTF16", "length", "([B)I"⟩ jdk_52_method_6_code 1 (some .int) [] { frames := 0, cells := 0, slots := 0, locals := 0 } #[(.ref a)] h0 (fun v h => v = some (.int (2 : Int32)) ∧ h0 = h) := by
  refine Does.start (plainFor_of_name pn_6) ?_
  intro p e s m below meth c T X
  replace X : Sd _ _ _ _ _ "java/lang/StringUTF16" "length" _ _ _ _ _ _ _ _ _ _ _ _ _ _ _ _ := X
  refine Wp.cast (g' := mkF m 0 #[.val (.ref a)] []) (by first | (simp [entryFrame, mkF, argsToLocals, Value.category, maxLocals]; done) | rfl) ?_
  refine w_aloadN X k52_6_0 rfl (rfl) ?_
  refine w_arrlen X (4 : Int32) k52_6_1 Aa rfl ?_
  refine w_iconst X (1 : Int32) k52_6_2 rfl ?_
  refine w_ishr X k52_6_3 ?_
  exact w_retI X k52_6_4 ⟨rfl, rfl⟩ (by decide) (by decide)
theorem m_cbo_2 (hw : own_hw a0 Z) {h0 : Heap} {zc : Int32} {fm : Value} {a : Addr} {x0 x1 x2 x3 : Int32} (hS : own_S Z zc fm) (Aa : Ary Z h0 a .byte [(.int x0), (.int x1), (.int x2), (.int x3)]) :
    Does l Z n0 ⟨"java/lang/StringUTF16", "checkBoundsOffCount", "(II[B)V"⟩ jdk_52_method_94_code 3 none [] { frames := 2, cells := 0, slots := 0, locals := 29 } #[(.int (0 : Int32)), (.int (0 : Int32)), (.ref a)] h0 (fun v h => v = none ∧ h0 = h) := by
  refine Does.start (plainFor_of_name pn_6) ?_
  obtain ⟨S_zc, hzc, S_fm, hfm⟩ := id hS
  intro p e s m below meth c T X
  replace X : Sd _ _ _ _ _ "java/lang/StringUTF16" "checkBoundsOffCount" _ _ _ _ _ _ _ _ _ _ _ _ _ _ _ _ := X
  refine Wp.cast (g' := mkF m 0 #[.val (.int (0 : Int32)), .val (.int (0 : Int32)), .val (.ref a)] []) (by first | (simp [entryFrame, mkF, argsToLocals, Value.category, maxLocals]; done) | rfl) ?_
  refine w_iloadN X k52_94_0 rfl ?_
  refine w_iloadN X k52_94_1 rfl ?_
  refine w_aloadN X k52_94_2 rfl (rfl) ?_
  refine w_callS X k52_94_3 (wd_137 hw) (wd_138 hw) (wd_91 hw) (wd_139 hw) (by decide) (argsL := [(.ref a)]) (S := [(.int (0 : Int32)), (.int (0 : Int32))]) (m_ulen_2 hw Aa) pd_4 rfl rfl rfl (by decide) (leR rfl) (by decide) (by decide) (fun T h1 v1 L1 X q1 => ?_)
  obtain ⟨rfl, rfl⟩ := q1
  show Wp _ _ _ _ (T.setTop (mkF _ _ _ [(.int (2 : Int32)), (.int (0 : Int32)), (.int (0 : Int32))]))
  refine w_callS X k52_94_6 (wd_140 hw) (wd_141 hw) (wd_3 hw) (wd_142 hw) (by decide) (argsL := [(.int (0 : Int32)), (.int (0 : Int32)), (.int (2 : Int32))]) (S := []) (m_scb_2 hw hS) pd_5 rfl rfl rfl (by decide) (leR rfl) (by decide) (by decide) (fun T h2 v2 L2 X q2 => ?_)
  obtain ⟨rfl, rfl⟩ := q2
  show Wp _ _ _ _ (T.setTop (mkF _ _ _ [(.int (0 : Int32))]))
  refine w_pop X k52_94_9 rfl ?_
  exact w_retV X k52_94_10 ⟨rfl, rfl⟩ (by decide) (by decide)
theorem m_uin_2 (hw : own_hw a0 Z) {h0 : Heap} {zc : Int32} {fm : Value} {a b : Addr} {x0 x1 x2 x3 : Int32} (hS : own_S Z zc fm) (Aa : Ary Z h0 a .byte [(.int x0), (.int x1), (.int x2), (.int x3)]) :
    Does l Z n0 ⟨"java/lang/StringUTF16", "inflate", "([BI[BII)V"⟩ jdk_52_method_86_code 6 none [] { frames := 3, cells := 0, slots := 0, locals := 43 } #[(.ref b), (.int (0 : Int32)), (.ref a), (.int (0 : Int32)), (.int (0 : Int32))] h0 (fun v h => v = none ∧ h0 = h) := by
  refine Does.start (plainFor_of_name pn_6) ?_
  obtain ⟨S_zc, hzc, S_fm, hfm⟩ := id hS
  intro p e s m below meth c T X
  replace X : Sd _ _ _ _ _ "java/lang/StringUTF16" "inflate" _ _ _ _ _ _ _ _ _ _ _ _ _ _ _ _ := X
  refine Wp.cast (g' := mkF m 0 #[.val (.ref b), .val (.int (0 : Int32)), .val (.ref a), .val (.int (0 : Int32)), .val (.int (0 : Int32)), .unset] []) (by first | (simp [entryFrame, mkF, argsToLocals, Value.category, maxLocals]; done) | rfl) ?_
  refine w_iloadN X k52_86_0 rfl ?_
  refine w_iload X k52_86_1 rfl ?_
  refine w_aloadN X k52_86_3 rfl (rfl) ?_
  refine w_callS X k52_86_4 (wd_134 hw) (wd_135 hw) (wd_91 hw) (wd_136 hw) (by decide) (argsL := [(.int (0 : Int32)), (.int (0 : Int32)), (.ref a)]) (S := []) (m_cbo_2 hw hS Aa) pd_6 rfl rfl rfl (by decide) (leR rfl) (by decide) (by decide) (fun T h1 v1 L1 X q1 => ?_)
  obtain ⟨rfl, rfl⟩ := q1
  show Wp _ _ _ _ (T.setTop (mkF _ _ _ []))
  refine w_iconst X (0 : Int32) k52_86_7 rfl ?_
  refine w_istore X #[.val (.ref b), .val (.int (0 : Int32)), .val (.ref a), .val (.int (0 : Int32)), .val (.int (0 : Int32)), .val (.int (0 : Int32))] k52_86_8 rfl ?_
  refine w_iload X k52_86_10 rfl ?_
  refine w_iload X k52_86_12 rfl ?_
  refine w_icmpge X k52_86_14 (fun _ => ?_) (fun hc => absurd hc Int32.lt_irrefl)
  exact w_retV X k52_86_41 ⟨rfl, rfl⟩ (by decide) (by decide)
theorem m_lin_2 (hw : own_hw a0 Z) {h0 : Heap} {zc : Int32} {fm : Value} {a b : Addr} {x0 x1 x2 x3 : Int32} (hS : own_S Z zc fm) (Aa : Ary Z h0 a .byte [(.int x0), (.int x1), (.int x2), (.int x3)]) :
    Does l Z n0 ⟨"java/lang/StringLatin1", "inflate", "([BI[BII)V"⟩ jdk_43_method_50_code 5 none [] { frames := 4, cells := 0, slots := 0, locals := 60 } #[(.ref b), (.int (0 : Int32)), (.ref a), (.int (0 : Int32)), (.int (0 : Int32))] h0 (fun v h => v = none ∧ h0 = h) := by
  refine Does.start (plainFor_of_name pn_7) ?_
  obtain ⟨S_zc, hzc, S_fm, hfm⟩ := id hS
  intro p e s m below meth c T X
  replace X : Sd _ _ _ _ _ "java/lang/StringLatin1" "inflate" _ _ _ _ _ _ _ _ _ _ _ _ _ _ _ _ := X
  refine Wp.cast (g' := mkF m 0 #[.val (.ref b), .val (.int (0 : Int32)), .val (.ref a), .val (.int (0 : Int32)), .val (.int (0 : Int32))] []) (by first | (simp [entryFrame, mkF, argsToLocals, Value.category, maxLocals]; done) | rfl) ?_
  refine w_aloadN X k43_50_0 rfl (rfl) ?_
  refine w_iloadN X k43_50_1 rfl ?_
  refine w_aloadN X k43_50_2 rfl (rfl) ?_
  refine w_iloadN X k43_50_3 rfl ?_
  refine w_iload X k43_50_4 rfl ?_
  refine w_callS X k43_50_6 (wd_131 hw) (wd_132 hw) (wd_91 hw) (wd_133 hw) (by decide) (argsL := [(.ref b), (.int (0 : Int32)), (.ref a), (.int (0 : Int32)), (.int (0 : Int32))]) (S := []) (m_uin_2 hw hS Aa (b := b)) pd_7 rfl rfl rfl (by decide) (leR rfl) (by decide) (by decide) (fun T h1 v1 L1 X q1 => ?_)
  obtain ⟨rfl, rfl⟩ := q1
  show Wp _ _ _ _ (T.setTop (mkF _ _ _ []))
  exact w_retV X k43_50_9 ⟨rfl, rfl⟩ (by decide) (by decide)
theorem m_pfi_3 (hw : own_hw a0 Z) {h0 : Heap} {fm : Value} (hfm : fm.isRef = true) :
    Does l Z n0 ⟨"jdk/internal/util/Preconditions", "checkFromIndexSize", "(IIILjava/util/function/BiFunction;)I"⟩ jdk_41_method_13_code 4 (some .int) [] { frames := 0, cells := 0, slots := 0, locals := 0 } #[(.int (0 : Int32)), (.int (0 : Int32)), (.int (3 : Int32)), fm] h0 (fun v h => v = some (.int (0 : Int32)) ∧ h0 = h) := by
  refine Does.start (plainFor_of_name pn_5) ?_
  intro p e s m below meth c T X
  replace X : Sd _ _ _ _ _ "jdk/internal/util/Preconditions" "checkFromIndexSize" _ _ _ _ _ _ _ _ _ _ _ _ _ _ _ _ := X
  refine Wp.cast (g' := mkF m 0 #[.val (.int (0 : Int32)), .val (.int (0 : Int32)), .val (.int (3 : Int32)), .val fm] []) (by rcases ref_cases hfm with rfl | ⟨_, rfl⟩ <;> first | (simp [entryFrame, mkF, argsToLocals, Value.category, maxLocals]; done) | rfl) ?_
  refine w_iloadN X k41_13_0 rfl ?_
  refine w_iloadN X k41_13_1 rfl ?_
  refine w_ior X k41_13_2 ?_
  refine w_iloadN X k41_13_3 rfl ?_
  refine w_ior X k41_13_4 ?_
  refine w_iflt X k41_13_5 (fun hc => absurd hc (by decide)) (fun _ => ?_)
  refine w_iloadN X k41_13_8 rfl ?_
  refine w_iloadN X k41_13_9 rfl ?_
  refine w_iloadN X k41_13_10 rfl ?_
  refine w_isub X k41_13_11 ?_
  refine w_icmple X k41_13_12 (fun _ => ?_) (fun hc => absurd hc (by decide))
  refine w_iloadN X k41_13_23 rfl ?_
  exact w_retI X k41_13_24 ⟨rfl, rfl⟩ (by decide) (by decide)
theorem m_scb_3 (hw : own_hw a0 Z) {h0 : Heap} {zc : Int32} {fm : Value} (hS : own_S Z zc fm) :
    Does l Z n0 ⟨"java/lang/String", "checkBoundsOffCount", "(III)I"⟩ jdk_42_method_157_code 3 (some .int) [] { frames := 1, cells := 0, slots := 0, locals := 15 } #[(.int (0 : Int32)), (.int (0 : Int32)), (.int (3 : Int32))] h0 (fun v h => v = some (.int (0 : Int32)) ∧ h0 = h) := by
  refine Does.start (plainFor_of_name pn_3) ?_
  obtain ⟨S_zc, hzc, S_fm, hfm⟩ := id hS
  intro p e s m below meth c T X
  replace X : Sd _ _ _ _ _ "java/lang/String" "checkBoundsOffCount" _ _ _ _ _ _ _ _ _ _ _ _ _ _ _ _ := X
  refine Wp.cast (g' := mkF m 0 #[.val (.int (0 : Int32)), .val (.int (0 : Int32)), .val (.int (3 : Int32))] []) (by first | (simp [entryFrame, mkF, argsToLocals, Value.category, maxLocals]; done) | rfl) ?_
  refine w_iloadN X k42_157_0 rfl ?_
  refine w_iloadN X k42_157_1 rfl ?_
  refine w_iloadN X k42_157_2 rfl ?_
  refine w_getS X k42_157_3 (host := "") (Or.inl (wd_143 hw)) Via.refl (S_fm.ext X.old.2) (fun T X => ?_)
  refine w_callS X k42_157_6 (wd_145 hw) (wd_146 hw) (wd_144 hw) (wd_147 hw) (by decide) (argsL := [(.int (0 : Int32)), (.int (0 : Int32)), (.int (3 : Int32)), fm]) (S := []) (m_pfi_3 hw hfm) pd_3 rfl rfl rfl (by decide) (leR rfl) (by decide) (by decide) (fun T h1 v1 L1 X q1 => ?_)
  obtain ⟨rfl, rfl⟩ := q1
  show Wp _ _ _ _ (T.setTop (mkF _ _ _ [(.int (0 : Int32))]))
  exact w_retI X k42_157_9 ⟨rfl, rfl⟩ (by decide) (by decide)
theorem m_ulen_3 (hw : own_hw a0 Z) {h0 : Heap} {a : Addr} {x0 x1 x2 x3 x4 x5 : Int32} (Aa : Ary Z h0 a .byte [(.int x0), (.int x1), (.int x2), (.int x3), (.int x4), (.int x5)]) :
    Does l Z n0 ⟨"java/lang/StringUTF16", "length", "([B)I"⟩ jdk_52_method_6_code 1 (some .int) [] { frames := 0, cells := 0, slots := 0, locals := 0 } #[(.ref a)] h0 (fun v h => v = some (.int (3 : Int32)) ∧ h0 = h) := by
  refine Does.start (plainFor_of_name pn_6) ?_
  intro p e s m below meth c T X
  replace X : Sd _ _ _ _ _ "java/lang/StringUTF16" "length" _ _ _ _ _ _ _ _ _ _ _ _ _ _ _ _ := X
  refine Wp.cast (g' := mkF m 0 #[.val (.ref a)] []) (by first | (simp [entryFrame, mkF, argsToLocals, Value.category, maxLocals]; done) | rfl) ?_
  refine w_aloadN X k52_6_0 rfl (rfl) ?_
  refine w_arrlen X (6 : Int32) k52_6_1 Aa rfl ?_
  refine w_iconst X (1 : Int32) k52_6_2 rfl ?_
  refine w_ishr X k52_6_3 ?_
  exact w_retI X k52_6_4 ⟨rfl, rfl⟩ (by decide) (by decide)
theorem m_cbo_3 (hw : own_hw a0 Z) {h0 : Heap} {zc : Int32} {fm : Value} {a : Addr} {x0 x1 x2 x3 x4 x5 : Int32} (hS : own_S Z zc fm) (Aa : Ary Z h0 a .byte [(.int x0), (.int x1), (.int x2), (.int x3), (.int x4), (.int x5)]) :
    Does l Z n0 ⟨"java/lang/StringUTF16", "checkBoundsOffCount", "(II[B)V"⟩ jdk_52_method_94_code 3 none [] { frames := 2, cells := 0, slots := 0, locals := 29 } #[(.int (0 : Int32)), (.int (0 : Int32)), (.ref a)] h0 (fun v h => v = none ∧ h0 = h) := by
  refine Does.start (plainFor_of_name pn_6) ?_
  obtain ⟨S_zc, hzc, S_fm, hfm⟩ := id hS
  intro p e s m below meth c T X
  replace X : Sd _ _ _ _ _ "java/lang/StringUTF16" "checkBoundsOffCount" _ _ _ _ _ _ _ _ _ _ _ _ _ _ _ _ := X
  refine Wp.cast (g' := mkF m 0 #[.val (.int (0 : Int32)), .val (.int (0 : Int32)), .val (.ref a)] []) (by first | (simp [entryFrame, mkF, argsToLocals, Value.category, maxLocals]; done) | rfl) ?_
  refine w_iloadN X k52_94_0 rfl ?_
  refine w_iloadN X k52_94_1 rfl ?_
  refine w_aloadN X k52_94_2 rfl (rfl) ?_
  refine w_callS X k52_94_3 (wd_137 hw) (wd_138 hw) (wd_91 hw) (wd_139 hw) (by decide) (argsL := [(.ref a)]) (S := [(.int (0 : Int32)), (.int (0 : Int32))]) (m_ulen_3 hw Aa) pd_4 rfl rfl rfl (by decide) (leR rfl) (by decide) (by decide) (fun T h1 v1 L1 X q1 => ?_)
  obtain ⟨rfl, rfl⟩ := q1
  show Wp _ _ _ _ (T.setTop (mkF _ _ _ [(.int (3 : Int32)), (.int (0 : Int32)), (.int (0 : Int32))]))
  refine w_callS X k52_94_6 (wd_140 hw) (wd_141 hw) (wd_3 hw) (wd_142 hw) (by decide) (argsL := [(.int (0 : Int32)), (.int (0 : Int32)), (.int (3 : Int32))]) (S := []) (m_scb_3 hw hS) pd_5 rfl rfl rfl (by decide) (leR rfl) (by decide) (by decide) (fun T h2 v2 L2 X q2 => ?_)
  obtain ⟨rfl, rfl⟩ := q2
  show Wp _ _ _ _ (T.setTop (mkF _ _ _ [(.int (0 : Int32))]))
  refine w_pop X k52_94_9 rfl ?_
  exact w_retV X k52_94_10 ⟨rfl, rfl⟩ (by decide) (by decide)
theorem m_uin_3 (hw : own_hw a0 Z) {h0 : Heap} {zc : Int32} {fm : Value} {a b : Addr} {x0 x1 x2 x3 x4 x5 : Int32} (hS : own_S Z zc fm) (Aa : Ary Z h0 a .byte [(.int x0), (.int x1), (.int x2), (.int x3), (.int x4), (.int x5)]) :
    Does l Z n0 ⟨"java/lang/StringUTF16", "inflate", "([BI[BII)V"⟩ jdk_52_method_86_code 6 none [] { frames := 3, cells := 0, slots := 0, locals := 43 } #[(.ref b), (.int (0 : Int32)), (.ref a), (.int (0 : Int32)), (.int (0 : Int32))] h0 (fun v h => v = none ∧ h0 = h) := by
  refine Does.start (plainFor_of_name pn_6) ?_
  obtain ⟨S_zc, hzc, S_fm, hfm⟩ := id hS
  intro p e s m below meth c T X
  replace X : Sd _ _ _ _ _ "java/lang/StringUTF16" "inflate" _ _ _ _ _ _ _ _ _ _ _ _ _ _ _ _ := X
  refine Wp.cast (g' := mkF m 0 #[.val (.ref b), .val (.int (0 : Int32)), .val (.ref a), .val (.int (0 : Int32)), .val (.int (0 : Int32)), .unset] []) (by first | (simp [entryFrame, mkF, argsToLocals, Value.category, maxLocals]; done) | rfl) ?_
  refine w_iloadN X k52_86_0 rfl ?_
  refine w_iload X k52_86_1 rfl ?_
  refine w_aloadN X k52_86_3 rfl (rfl) ?_
  refine w_callS X k52_86_4 (wd_134 hw) (wd_135 hw) (wd_91 hw) (wd_136 hw) (by decide) (argsL := [(.int (0 : Int32)), (.int (0 : Int32)), (.ref a)]) (S := []) (m_cbo_3 hw hS Aa) pd_6 rfl rfl rfl (by decide) (leR rfl) (by decide) (by decide) (fun T h1 v1 L1 X q1 => ?_)
  obtain ⟨rfl, rfl⟩ := q1
  show Wp _ _ _ _ (T.setTop (mkF _ _ _ []))
  refine w_iconst X (0 : Int32) k52_86_7 rfl ?_
  refine w_istore X #[.val (.ref b), .val (.int (0 : Int32)), .val (.ref a), .val (.int (0 : Int32)), .val (.int (0 : Int32)), .val (.int (0 : Int32))] k52_86_8 rfl ?_
  refine w_iload X k52_86_10 rfl ?_
  refine w_iload X k52_86_12 rfl ?_
  refine w_icmpge X k52_86_14 (fun _ => ?_) (fun hc => absurd hc Int32.lt_irrefl)
  exact w_retV X k52_86_41 ⟨rfl, rfl⟩ (by decide) (by decide)
theorem m_lin_3 (hw : own_hw a0 Z) {h0 : Heap} {zc : Int32} {fm : Value} {a b : Addr} {x0 x1 x2 x3 x4 x5 : Int32} (hS : own_S Z zc fm) (Aa : Ary Z h0 a .byte [(.int x0), (.int x1), (.int x2), (.int x3), (.int x4), (.int x5)]) :
    Does l Z n0 ⟨"java/lang/StringLatin1", "inflate", "([BI[BII)V"⟩ jdk_43_method_50_code 5 none [] { frames := 4, cells := 0, slots := 0, locals := 60 } #[(.ref b), (.int (0 : Int32)), (.ref a), (.int (0 : Int32)), (.int (0 : Int32))] h0 (fun v h => v = none ∧ h0 = h) := by
  refine Does.start (plainFor_of_name pn_7) ?_
  obtain ⟨S_zc, hzc, S_fm, hfm⟩ := id hS
  intro p e s m below meth c T X
  replace X : Sd _ _ _ _ _ "java/lang/StringLatin1" "inflate" _ _ _ _ _ _ _ _ _ _ _ _ _ _ _ _ := X
  refine Wp.cast (g' := mkF m 0 #[.val (.ref b), .val (.int (0 : Int32)), .val (.ref a), .val (.int (0 : Int32)), .val (.int (0 : Int32))] []) (by first | (simp [entryFrame, mkF, argsToLocals, Value.category, maxLocals]; done) | rfl) ?_
  refine w_aloadN X k43_50_0 rfl (rfl) ?_
  refine w_iloadN X k43_50_1 rfl ?_
  refine w_aloadN X k43_50_2 rfl (rfl) ?_
  refine w_iloadN X k43_50_3 rfl ?_
  refine w_iload X k43_50_4 rfl ?_
  refine w_callS X k43_50_6 (wd_131 hw) (wd_132 hw) (wd_91 hw) (wd_133 hw) (by decide) (argsL := [(.ref b), (.int (0 : Int32)), (.ref a), (.int (0 : Int32)), (.int (0 : Int32))]) (S := []) (m_uin_3 hw hS Aa (b := b)) pd_7 rfl rfl rfl (by decide) (leR rfl) (by decide) (by decide) (fun T h1 v1 L1 X q1 => ?_)
  obtain ⟨rfl, rfl⟩ := q1
  show Wp _ _ _ _ (T.setTop (mkF _ _ _ []))
  exact w_retV X k43_50_9 ⟨rfl, rfl⟩ (by decide) (by decide)
theorem m_put_2_0 (hw : own_hw a0 Z) {h0 : Heap} {a : Addr} {x0 x1 x2 x3 d : Int32} {zc : Int32} {fm : Value} (hU : own_U Z zc fm) (ga : n0 ≤ a) (Aa : Ary Z h0 a .byte [(.int x0), (.int x1), (.int x2), (.int x3)]) :
    Does l Z n0 ⟨"java/lang/StringUTF16", "putChar", "([BII)V"⟩ jdk_52_method_4_code 3 none [] { frames := 0, cells := 0, slots := 0, locals := 0 } #[(.ref a), (.int (0 : Int32)), (.int d)] h0 (fun v h => v = none ∧ Ary Z h a .byte [(.int ((d >>> ((0 : Int32) &&& 31)).toInt8.toInt32)), (.int ((d >>> ((8 : Int32) &&& 31)).toInt8.toInt32)), (.int x2), (.int x3)] ∧ Keep h0 h [a]) := by
  refine Does.start (plainFor_of_name pn_6) ?_
  obtain ⟨hS, S_ad, S_hi, S_lo⟩ := id hU
  obtain ⟨S_zc, hzc, S_fm, hfm⟩ := id hS
  intro p e s m below meth c T X
  replace X : Sd _ _ _ _ _ "java/lang/StringUTF16" "putChar" _ _ _ _ _ _ _ _ _ _ _ _ _ _ _ _ := X
  refine Wp.cast (g' := mkF m 0 #[.val (.ref a), .val (.int (0 : Int32)), .val (.int d)] []) (by first | (simp [entryFrame, mkF, argsToLocals, Value.category, maxLocals]; done) | rfl) ?_
  refine w_getS X k52_4_0 (host := "") (Or.inl (wd_96 hw)) Via.refl (S_ad.ext X.old.2) (fun T X => ?_)
  refine w_ifne X k52_4_3 (fun _ => ?_) (fun hc => absurd hc (by decide))
  refine w_iloadN X k52_4_28 rfl ?_
  refine w_iconst X (1 : Int32) k52_4_29 rfl ?_
  refine w_ishl X k52_4_30 ?_
  refine w_istoreN X #[.val (.ref a), .val (.int (0 : Int32)), .val (.int d)] k52_4_31 rfl ?_
  refine w_aloadN X k52_4_32 rfl (rfl) ?_
  refine w_iloadN X k52_4_33 rfl ?_
  refine w_iinc X (1 : Int32) #[.val (.ref a), .val (.int (1 : Int32)), .val (.int d)] k52_4_34 rfl rfl rfl ?_
  refine w_iloadN X k52_4_37 rfl ?_
  refine w_getS X k52_4_38 (host := "") (Or.inl (wd_97 hw)) Via.refl (S_hi.ext X.old.2) (fun T X => ?_)
  refine w_ishr X k52_4_41 ?_
  refine w_i2b X k52_4_42 ?_
  refine w_bastore X k52_4_43 Aa (by decide) rfl ga (.int ((d >>> ((0 : Int32) &&& 31)).toInt8.toInt32)) (congrArg Value.int (own_nar_b _)) [(.int ((d >>> ((0 : Int32) &&& 31)).toInt8.toInt32)), (.int x1), (.int x2), (.int x3)] rfl (fun T h1 X W1 A1 => ?_)
  have K1 : Keep h0 h1 [a] := (Keep.refl h0 [a]).wr W1 (Or.inl (List.mem_of_getElem? (i := 0) rfl))
  refine w_aloadN X k52_4_44 rfl (rfl) ?_
  refine w_iloadN X k52_4_45 rfl ?_
  refine w_iloadN X k52_4_46 rfl ?_
  refine w_getS X k52_4_47 (host := "") (Or.inl (wd_98 hw)) Via.refl (S_lo.ext X.old.2) (fun T X => ?_)
  refine w_ishr X k52_4_50 ?_
  refine w_i2b X k52_4_51 ?_
  refine w_bastore X k52_4_52 A1 (by decide) rfl ga (.int ((d >>> ((8 : Int32) &&& 31)).toInt8.toInt32)) (congrArg Value.int (own_nar_b _)) [(.int ((d >>> ((0 : Int32) &&& 31)).toInt8.toInt32)), (.int ((d >>> ((8 : Int32) &&& 31)).toInt8.toInt32)), (.int x2), (.int x3)] rfl (fun T h2 X W2 A2 => ?_)
  have K2 : Keep h0 h2 [a] := K1.wr W2 (Or.inl (List.mem_of_getElem? (i := 0) rfl))
  exact w_retV X k52_4_53 ⟨rfl, A2, K2⟩ (by decide) (by decide)
theorem m_dU_2 (hw : own_hw a0 Z) {h0 : Heap} {zc : Int32} {fm : Value} {a b : Addr} {x0 x1 r : Int32} (hU : own_U Z zc fm) (gb : n0 ≤ b) (nab : a ≠ b) (Aa : Ary Z h0 a .byte [(.int x0), (.int x1)]) (Ab : Ary Z h0 b .byte [(.int (0 : Int32)), (.int (0 : Int32)), (.int (0 : Int32)), (.int (0 : Int32))]) (n1 : x0 < 0) (n5 : (x0 >>> ((5 : Int32) &&& 31)) = (-2 : Int32)) (n6 : ¬ (x0 &&& (30 : Int32)) = 0) (n7 : (x1 &&& (192 : Int32)) = (128 : Int32)) (n4 : ((((x0 <<< ((6 : Int32) &&& 31)) ^^^ x1) ^^^ (3968 : Int32)).toUInt32.toUInt16.toUInt32.toInt32) = r) :
    Does l Z n0 ⟨"java/lang/String", "decodeUTF8_UTF16", "([BII[BIZ)I"⟩ jdk_42_method_38_code 11 (some .int) [] { frames := 1, cells := 0, slots := 0, locals := 15 } #[(.ref a), (.int (0 : Int32)), (.int (2 : Int32)), (.ref b), (.int (0 : Int32)), (.int (1 : Int32))] h0 (fun v h => v = some (.int (1 : Int32)) ∧ Keep h0 h [b] ∧ Ary Z h b .byte [(.int ((r >>> ((0 : Int32) &&& 31)).toInt8.toInt32)), (.int ((r >>> ((8 : Int32) &&& 31)).toInt8.toInt32)), (.int (0 : Int32)), (.int (0 : Int32))]) := by
  refine Does.start (plainFor_of_name pn_3) ?_
  obtain ⟨hS, S_ad, S_hi, S_lo⟩ := id hU
  obtain ⟨S_zc, hzc, S_fm, hfm⟩ := id hS
  intro p e s m below meth c T X
  replace X : Sd _ _ _ _ _ "java/lang/String" "decodeUTF8_UTF16" _ _ _ _ _ _ _ _ _ _ _ _ _ _ _ _ := X
  refine Wp.cast (g' := mkF m 0 #[.val (.ref a), .val (.int (0 : Int32)), .val (.int (2 : Int32)), .val (.ref b), .val (.int (0 : Int32)), .val (.int (1 : Int32)), .unset, .unset, .unset, .unset, .unset] []) (by first | (simp [entryFrame, mkF, argsToLocals, Value.category, maxLocals]; done) | rfl) ?_
  refine w_iloadN X k42_38_0 rfl ?_
  refine w_iloadN X k42_38_1 rfl ?_
  refine w_icmpge X k42_38_2 (fun hc => absurd (by decide) hc) (fun _ => ?_)
  refine w_aloadN X k42_38_5 rfl (rfl) ?_
  refine w_iloadN X k42_38_6 rfl ?_
  refine w_iinc X (1 : Int32) #[.val (.ref a), .val (.int (1 : Int32)), .val (.int (2 : Int32)), .val (.ref b), .val (.int (0 : Int32)), .val (.int (1 : Int32)), .unset, .unset, .unset, .unset, .unset] k42_38_7 rfl rfl rfl ?_
  refine w_baload X k42_38_10 Aa (by decide) rfl ?_
  refine w_istore X #[.val (.ref a), .val (.int (1 : Int32)), .val (.int (2 : Int32)), .val (.ref b), .val (.int (0 : Int32)), .val (.int (1 : Int32)), .val (.int x0), .unset, .unset, .unset, .unset] k42_38_11 rfl ?_
  refine w_iload X k42_38_13 rfl ?_
  refine w_iflt X k42_38_15 (fun _ => ?_) (fun hc => absurd n1 hc)
  refine w_iload X k42_38_33 rfl ?_
  refine w_iconst X (5 : Int32) k42_38_35 rfl ?_
  refine w_ishr X k42_38_36 ?_
  refine w_bipush X (-2 : Int32) k42_38_37 rfl ?_
  refine w_icmpne X k42_38_39 (fun hc => absurd n5 hc) (fun _ => ?_)
  refine w_iload X k42_38_42 rfl ?_
  refine w_bipush X (30 : Int32) k42_38_44 rfl ?_
  refine w_iand X k42_38_46 ?_
  refine w_ifeq X k42_38_47 (fun hc => absurd hc n6) (fun _ => ?_)
  refine w_iloadN X k42_38_50 rfl ?_
  refine w_iloadN X k42_38_51 rfl ?_
  refine w_icmpge X k42_38_52 (fun hc => absurd (by decide) hc) (fun _ => ?_)
  refine w_aloadN X k42_38_55 rfl (rfl) ?_
  refine w_iloadN X k42_38_56 rfl ?_
  refine w_iinc X (1 : Int32) #[.val (.ref a), .val (.int (2 : Int32)), .val (.int (2 : Int32)), .val (.ref b), .val (.int (0 : Int32)), .val (.int (1 : Int32)), .val (.int x0), .unset, .unset, .unset, .unset] k42_38_57 rfl rfl rfl ?_
  refine w_baload X k42_38_60 Aa (by decide) rfl ?_
  refine w_istore X #[.val (.ref a), .val (.int (2 : Int32)), .val (.int (2 : Int32)), .val (.ref b), .val (.int (0 : Int32)), .val (.int (1 : Int32)), .val (.int x0), .val (.int x1), .unset, .unset, .unset] k42_38_61 rfl ?_
  refine w_iload X k42_38_63 rfl ?_
  refine w_callS X k42_38_65 (wd_259 hw) (wd_260 hw) (wd_3 hw) (wd_261 hw) (by decide) (argsL := [(.int x1)]) (S := []) (m_nc hw n7) pd_8 rfl rfl rfl (by decide) (leR rfl) (by decide) (by decide) (fun T h1 v1 L1 X q1 => ?_)
  obtain ⟨rfl, rfl⟩ := q1
  show Wp _ _ _ _ (T.setTop (mkF _ _ _ [(.int (0 : Int32))]))
  refine w_ifeq X k42_38_68 (fun _ => ?_) (fun hc => absurd rfl hc)
  refine w_aloadN X k42_38_100 rfl (rfl) ?_
  refine w_iload X k42_38_101 rfl ?_
  refine w_iinc X (1 : Int32) #[.val (.ref a), .val (.int (2 : Int32)), .val (.int (2 : Int32)), .val (.ref b), .val (.int (1 : Int32)), .val (.int (1 : Int32)), .val (.int x0), .val (.int x1), .unset, .unset, .unset] k42_38_103 rfl rfl rfl ?_
  refine w_iload X k42_38_106 rfl ?_
  refine w_iload X k42_38_108 rfl ?_
  refine w_callS X k42_38_110 (wd_256 hw) (wd_257 hw) (wd_3 hw) (wd_258 hw) (by decide) (argsL := [(.int x0), (.int x1)]) (S := [(.int (0 : Int32)), (.ref b)]) (m_d2 hw n4) pd_9 rfl rfl rfl (by decide) (leR rfl) (by decide) (by decide) (fun T h2 v2 L2 X q2 => ?_)
  obtain ⟨rfl, rfl⟩ := q2
  show Wp _ _ _ _ (T.setTop (mkF _ _ _ [(.int r), (.int (0 : Int32)), (.ref b)]))
  refine w_callS X k42_38_113 (wd_163 hw) (wd_94 hw) (wd_91 hw) (wd_95 hw) (by decide) (argsL := [(.ref b), (.int (0 : Int32)), (.int r)]) (S := []) (m_put_2_0 hw (d := r) hU gb Ab) pd_10 rfl rfl rfl (by decide) (leR rfl) (by decide) (by decide) (fun T h3 v3 L3 X q3 => ?_)
  obtain ⟨rfl, Ap3, Kc3⟩ := q3
  have K1 : Keep h0 h3 [b] := (Keep.refl h0 [b]).trans Kc3 (fun x hx => by cases List.mem_singleton.mp hx; exact (Or.inl (List.mem_of_getElem? (i := 0) rfl)))
  show Wp _ _ _ _ (T.setTop (mkF _ _ _ []))
  refine w_goto X k42_38_116 ?_
  refine w_iloadN X k42_38_0 rfl ?_
  refine w_iloadN X k42_38_1 rfl ?_
  refine w_icmpge X k42_38_2 (fun _ => ?_) (fun hc => absurd hc Int32.lt_irrefl)
  refine w_iload X k42_38_621 rfl ?_
  exact w_retI X k42_38_623 ⟨rfl, K1, Ap3⟩ (by decide) (by decide)
theorem m_put_3_0 (hw : own_hw a0 Z) {h0 : Heap} {a : Addr} {x0 x1 x2 x3 x4 x5 d : Int32} {zc : Int32} {fm : Value} (hU : own_U Z zc fm) (ga : n0 ≤ a) (Aa : Ary Z h0 a .byte [(.int x0), (.int x1), (.int x2), (.int x3), (.int x4), (.int x5)]) :
    Does l Z n0 ⟨"java/lang/StringUTF16", "putChar", "([BII)V"⟩ jdk_52_method_4_code 3 none [] { frames := 0, cells := 0, slots := 0, locals := 0 } #[(.ref a), (.int (0 : Int32)), (.int d)] h0 (fun v h => v = none ∧ Ary Z h a .byte [(.int ((d >>> ((0 : Int32) &&& 31)).toInt8.toInt32)), (.int ((d >>> ((8 : Int32) &&& 31)).toInt8.toInt32)), (.int x2), (.int x3), (.int x4), (.int x5)] ∧ Keep h0 h [a]) := by
  refine Does.start (plainFor_of_name pn_6) ?_
  obtain ⟨hS, S_ad, S_hi, S_lo⟩ := id hU
  obtain ⟨S_zc, hzc, S_fm, hfm⟩ := id hS
  intro p e s m below meth c T X
  replace X : Sd _ _ _ _ _ "java/lang/StringUTF16" "putChar" _ _ _ _ _ _ _ _ _ _ _ _ _ _ _ _ := X
  refine Wp.cast (g' := mkF m 0 #[.val (.ref a), .val (.int (0 : Int32)), .val (.int d)] []) (by first | (simp [entryFrame, mkF, argsToLocals, Value.category, maxLocals]; done) | rfl) ?_
  refine w_getS X k52_4_0 (host := "") (Or.inl (wd_96 hw)) Via.refl (S_ad.ext X.old.2) (fun T X => ?_)
  refine w_ifne X k52_4_3 (fun _ => ?_) (fun hc => absurd hc (by decide))
  refine w_iloadN X k52_4_28 rfl ?_
  refine w_iconst X (1 : Int32) k52_4_29 rfl ?_
  refine w_ishl X k52_4_30 ?_
  refine w_istoreN X #[.val (.ref a), .val (.int (0 : Int32)), .val (.int d)] k52_4_31 rfl ?_
  refine w_aloadN X k52_4_32 rfl (rfl) ?_
  refine w_iloadN X k52_4_33 rfl ?_
  refine w_iinc X (1 : Int32) #[.val (.ref a), .val (.int (1 : Int32)), .val (.int d)] k52_4_34 rfl rfl rfl ?_
  refine w_iloadN X k52_4_37 rfl ?_
  refine w_getS X k52_4_38 (host := "") (Or.inl (wd_97 hw)) Via.refl (S_hi.ext X.old.2) (fun T X => ?_)
  refine w_ishr X k52_4_41 ?_
  refine w_i2b X k52_4_42 ?_
  refine w_bastore X k52_4_43 Aa (by decide) rfl ga (.int ((d >>> ((0 : Int32) &&& 31)).toInt8.toInt32)) (congrArg Value.int (own_nar_b _)) [(.int ((d >>> ((0 : Int32) &&& 31)).toInt8.toInt32)), (.int x1), (.int x2), (.int x3), (.int x4), (.int x5)] rfl (fun T h1 X W1 A1 => ?_)
  have K1 : Keep h0 h1 [a] := (Keep.refl h0 [a]).wr W1 (Or.inl (List.mem_of_getElem? (i := 0) rfl))
  refine w_aloadN X k52_4_44 rfl (rfl) ?_
  refine w_iloadN X k52_4_45 rfl ?_
  refine w_iloadN X k52_4_46 rfl ?_
  refine w_getS X k52_4_47 (host := "") (Or.inl (wd_98 hw)) Via.refl (S_lo.ext X.old.2) (fun T X => ?_)
  refine w_ishr X k52_4_50 ?_
  refine w_i2b X k52_4_51 ?_
  refine w_bastore X k52_4_52 A1 (by decide) rfl ga (.int ((d >>> ((8 : Int32) &&& 31)).toInt8.toInt32)) (congrArg Value.int (own_nar_b _)) [(.int ((d >>> ((0 : Int32) &&& 31)).toInt8.toInt32)), (.int ((d >>> ((8 : Int32) &&& 31)).toInt8.toInt32)), (.int x2), (.int x3), (.int x4), (.int x5)] rfl (fun T h2 X W2 A2 => ?_)
  have K2 : Keep h0 h2 [a] := K1.wr W2 (Or.inl (List.mem_of_getElem? (i := 0) rfl))
  exact w_retV X k52_4_53 ⟨rfl, A2, K2⟩ (by decide) (by decide)
theorem m_dU_3 (hw : own_hw a0 Z) {h0 : Heap} {zc : Int32} {fm : Value} {a b : Addr} {x0 x1 x2 r : Int32} (hU : own_U Z zc fm) (gb : n0 ≤ b) (nab : a ≠ b) (Aa : Ary Z h0 a .byte [(.int x0), (.int x1), (.int x2)]) (Ab : Ary Z h0 b .byte [(.int (0 : Int32)), (.int (0 : Int32)), (.int (0 : Int32)), (.int (0 : Int32)), (.int (0 : Int32)), (.int (0 : Int32))]) (n1 : x0 < 0) (n5 : ¬ (x0 >>> ((5 : Int32) &&& 31)) = (-2 : Int32)) (n6 : (x0 >>> ((4 : Int32) &&& 31)) = (-2 : Int32)) (n7 : x0 = (-32 : Int32) → ¬ (x1 &&& (224 : Int32)) = (128 : Int32)) (n8 : (x1 &&& (192 : Int32)) = (128 : Int32)) (n9 : (x2 &&& (192 : Int32)) = (128 : Int32)) (n4 : ((((x0 <<< ((12 : Int32) &&& 31)) ^^^ (x1 <<< ((6 : Int32) &&& 31))) ^^^ (x2 ^^^ (-123008 : Int32))).toUInt32.toUInt16.toUInt32.toInt32) = r) (ns : r < (55296 : Int32)) :
    Does l Z n0 ⟨"java/lang/String", "decodeUTF8_UTF16", "([BII[BIZ)I"⟩ jdk_42_method_38_code 11 (some .int) [] { frames := 1, cells := 0, slots := 0, locals := 14 } #[(.ref a), (.int (0 : Int32)), (.int (3 : Int32)), (.ref b), (.int (0 : Int32)), (.int (1 : Int32))] h0 (fun v h => v = some (.int (1 : Int32)) ∧ Keep h0 h [b] ∧ Ary Z h b .byte [(.int ((r >>> ((0 : Int32) &&& 31)).toInt8.toInt32)), (.int ((r >>> ((8 : Int32) &&& 31)).toInt8.toInt32)), (.int (0 : Int32)), (.int (0 : Int32)), (.int (0 : Int32)), (.int (0 : Int32))]) := by
  refine Does.start (plainFor_of_name pn_3) ?_
  obtain ⟨hS, S_ad, S_hi, S_lo⟩ := id hU
  obtain ⟨S_zc, hzc, S_fm, hfm⟩ := id hS
  intro p e s m below meth c T X
  replace X : Sd _ _ _ _ _ "java/lang/String" "decodeUTF8_UTF16" _ _ _ _ _ _ _ _ _ _ _ _ _ _ _ _ := X
  refine Wp.cast (g' := mkF m 0 #[.val (.ref a), .val (.int (0 : Int32)), .val (.int (3 : Int32)), .val (.ref b), .val (.int (0 : Int32)), .val (.int (1 : Int32)), .unset, .unset, .unset, .unset, .unset] []) (by first | (simp [entryFrame, mkF, argsToLocals, Value.category, maxLocals]; done) | rfl) ?_
  refine w_iloadN X k42_38_0 rfl ?_
  refine w_iloadN X k42_38_1 rfl ?_
  refine w_icmpge X k42_38_2 (fun hc => absurd (by decide) hc) (fun _ => ?_)
  refine w_aloadN X k42_38_5 rfl (rfl) ?_
  refine w_iloadN X k42_38_6 rfl ?_
  refine w_iinc X (1 : Int32) #[.val (.ref a), .val (.int (1 : Int32)), .val (.int (3 : Int32)), .val (.ref b), .val (.int (0 : Int32)), .val (.int (1 : Int32)), .unset, .unset, .unset, .unset, .unset] k42_38_7 rfl rfl rfl ?_
  refine w_baload X k42_38_10 Aa (by decide) rfl ?_
  refine w_istore X #[.val (.ref a), .val (.int (1 : Int32)), .val (.int (3 : Int32)), .val (.ref b), .val (.int (0 : Int32)), .val (.int (1 : Int32)), .val (.int x0), .unset, .unset, .unset, .unset] k42_38_11 rfl ?_
  refine w_iload X k42_38_13 rfl ?_
  refine w_iflt X k42_38_15 (fun _ => ?_) (fun hc => absurd n1 hc)
  refine w_iload X k42_38_33 rfl ?_
  refine w_iconst X (5 : Int32) k42_38_35 rfl ?_
  refine w_ishr X k42_38_36 ?_
  refine w_bipush X (-2 : Int32) k42_38_37 rfl ?_
  refine w_icmpne X k42_38_39 (fun _ => ?_) (fun hc => absurd hc n5)
  refine w_iload X k42_38_143 rfl ?_
  refine w_iconst X (4 : Int32) k42_38_145 rfl ?_
  refine w_ishr X k42_38_146 ?_
  refine w_bipush X (-2 : Int32) k42_38_147 rfl ?_
  refine w_icmpne X k42_38_149 (fun hc => absurd n6 hc) (fun _ => ?_)
  refine w_iloadN X k42_38_152 rfl ?_
  refine w_iconst X (1 : Int32) k42_38_153 rfl ?_
  refine w_iadd X k42_38_154 ?_
  refine w_iloadN X k42_38_155 rfl ?_
  refine w_icmpge X k42_38_156 (fun hc => absurd (by decide) hc) (fun _ => ?_)
  refine w_aloadN X k42_38_159 rfl (rfl) ?_
  refine w_iloadN X k42_38_160 rfl ?_
  refine w_iinc X (1 : Int32) #[.val (.ref a), .val (.int (2 : Int32)), .val (.int (3 : Int32)), .val (.ref b), .val (.int (0 : Int32)), .val (.int (1 : Int32)), .val (.int x0), .unset, .unset, .unset, .unset] k42_38_161 rfl rfl rfl ?_
  refine w_baload X k42_38_164 Aa (by decide) rfl ?_
  refine w_istore X #[.val (.ref a), .val (.int (2 : Int32)), .val (.int (3 : Int32)), .val (.ref b), .val (.int (0 : Int32)), .val (.int (1 : Int32)), .val (.int x0), .val (.int x1), .unset, .unset, .unset] k42_38_165 rfl ?_
  refine w_aloadN X k42_38_167 rfl (rfl) ?_
  refine w_iloadN X k42_38_168 rfl ?_
  refine w_iinc X (1 : Int32) #[.val (.ref a), .val (.int (3 : Int32)), .val (.int (3 : Int32)), .val (.ref b), .val (.int (0 : Int32)), .val (.int (1 : Int32)), .val (.int x0), .val (.int x1), .unset, .unset, .unset] k42_38_169 rfl rfl rfl ?_
  refine w_baload X k42_38_172 Aa (by decide) rfl ?_
  refine w_istore X #[.val (.ref a), .val (.int (3 : Int32)), .val (.int (3 : Int32)), .val (.ref b), .val (.int (0 : Int32)), .val (.int (1 : Int32)), .val (.int x0), .val (.int x1), .val (.int x2), .unset, .unset] k42_38_173 rfl ?_
  refine w_iload X k42_38_175 rfl ?_
  refine w_iload X k42_38_177 rfl ?_
  refine w_iload X k42_38_179 rfl ?_
  refine w_callS X k42_38_181 (wd_151 hw) (wd_152 hw) (wd_3 hw) (wd_153 hw) (by decide) (argsL := [(.int x0), (.int x1), (.int x2)]) (S := []) (m_mf hw n7 n8 n9) pd_11 rfl rfl rfl (by decide) (leR rfl) (by decide) (by decide) (fun T h1 v1 L1 X q1 => ?_)
  obtain ⟨rfl, rfl⟩ := q1
  show Wp _ _ _ _ (T.setTop (mkF _ _ _ [(.int (0 : Int32))]))
  refine w_ifeq X k42_38_184 (fun _ => ?_) (fun hc => absurd rfl hc)
  refine w_iload X k42_38_224 rfl ?_
  refine w_iload X k42_38_226 rfl ?_
  refine w_iload X k42_38_228 rfl ?_
  refine w_callS X k42_38_230 (wd_154 hw) (wd_155 hw) (wd_3 hw) (wd_156 hw) (by decide) (argsL := [(.int x0), (.int x1), (.int x2)]) (S := []) (m_d3 hw n4) pd_12 rfl rfl rfl (by decide) (leR rfl) (by decide) (by decide) (fun T h2 v2 L2 X q2 => ?_)
  obtain ⟨rfl, rfl⟩ := q2
  show Wp _ _ _ _ (T.setTop (mkF _ _ _ [(.int r)]))
  refine w_istore X #[.val (.ref a), .val (.int (3 : Int32)), .val (.int (3 : Int32)), .val (.ref b), .val (.int (0 : Int32)), .val (.int (1 : Int32)), .val (.int x0), .val (.int x1), .val (.int x2), .val (.int r), .unset] k42_38_233 rfl ?_
  refine w_iload X k42_38_235 rfl ?_
  refine w_callS X k42_38_237 (wd_158 hw) (wd_159 hw) (wd_160 hw) (wd_161 hw) (by decide) (argsL := [(.int r)]) (S := []) (m_sur hw ns) pd_13 rfl rfl rfl (by decide) (leR rfl) (by decide) (by decide) (fun T h3 v3 L3 X q3 => ?_)
  obtain ⟨rfl, rfl⟩ := q3
  show Wp _ _ _ _ (T.setTop (mkF _ _ _ [(.int (0 : Int32))]))
  refine w_ifeq X k42_38_240 (fun _ => ?_) (fun hc => absurd rfl hc)
  refine w_aloadN X k42_38_269 rfl (rfl) ?_
  refine w_iload X k42_38_270 rfl ?_
  refine w_iinc X (1 : Int32) #[.val (.ref a), .val (.int (3 : Int32)), .val (.int (3 : Int32)), .val (.ref b), .val (.int (1 : Int32)), .val (.int (1 : Int32)), .val (.int x0), .val (.int x1), .val (.int x2), .val (.int r), .unset] k42_38_272 rfl rfl rfl ?_
  refine w_iload X k42_38_275 rfl ?_
  refine w_callS X k42_38_277 (wd_163 hw) (wd_94 hw) (wd_91 hw) (wd_95 hw) (by decide) (argsL := [(.ref b), (.int (0 : Int32)), (.int r)]) (S := []) (m_put_3_0 hw (d := r) hU gb Ab) pd_10 rfl rfl rfl (by decide) (leR rfl) (by decide) (by decide) (fun T h4 v4 L4 X q4 => ?_)
  obtain ⟨rfl, Ap4, Kc4⟩ := q4
  have K1 : Keep h0 h4 [b] := (Keep.refl h0 [b]).trans Kc4 (fun x hx => by cases List.mem_singleton.mp hx; exact (Or.inl (List.mem_of_getElem? (i := 0) rfl)))
  show Wp _ _ _ _ (T.setTop (mkF _ _ _ []))
  refine w_goto X k42_38_280 ?_
  refine w_iloadN X k42_38_0 rfl ?_
  refine w_iloadN X k42_38_1 rfl ?_
  refine w_icmpge X k42_38_2 (fun _ => ?_) (fun hc => absurd hc Int32.lt_irrefl)
  refine w_iload X k42_38_621 rfl ?_
  exact w_retI X k42_38_623 ⟨rfl, K1, Ap4⟩ (by decide) (by decide)
theorem m_nbl_2 (hw : own_hw a0 Z) {h0 : Heap}   :
    Does l Z n0 ⟨"java/lang/StringUTF16", "newBytesLength", "(I)I"⟩ jdk_52_method_3_code 1 (some .int) [] { frames := 0, cells := 0, slots := 0, locals := 0 } #[(.int (2 : Int32))] h0 (fun v h => v = some (.int (4 : Int32)) ∧ h0 = h) := by
  refine Does.start (plainFor_of_name pn_6) ?_
  intro p e s m below meth c T X
  replace X : Sd _ _ _ _ _ "java/lang/StringUTF16" "newBytesLength" _ _ _ _ _ _ _ _ _ _ _ _ _ _ _ _ := X
  refine Wp.cast (g' := mkF m 0 #[.val (.int (2 : Int32))] []) (by first | (simp [entryFrame, mkF, argsToLocals, Value.category, maxLocals]; done) | rfl) ?_
  refine w_iloadN X k52_3_0 rfl ?_
  refine w_ifge X k52_3_1 (fun _ => ?_) (fun hc => absurd hc (by decide))
  refine w_iloadN X k52_3_12 rfl ?_
  refine w_ldcI X k52_3_13 (wd_127 hw) ?_
  refine w_icmplt X k52_3_15 (fun _ => ?_) (fun hc => absurd (by decide) hc)
  refine w_iloadN X k52_3_55 rfl ?_
  refine w_iconst X (1 : Int32) k52_3_56 rfl ?_
  refine w_ishl X k52_3_57 ?_
  exact w_retI X k52_3_58 ⟨rfl, rfl⟩ (by decide) (by decide)
theorem m_nbf_2 (hw : own_hw a0 Z) {h0 : Heap}   :
    Does l Z n0 ⟨"java/lang/StringUTF16", "newBytesFor", "(I)[B"⟩ jdk_52_method_2_code 1 (some (.array .byte)) [] { frames := 1, cells := 1, slots := 4, locals := 12 } #[(.int (2 : Int32))] h0 (fun v h => ∃ t, v = some (.ref t) ∧ h0.size ≤ t ∧ n0 ≤ t ∧ Ary Z h t .byte [(.int (0 : Int32)), (.int (0 : Int32)), (.int (0 : Int32)), (.int (0 : Int32))] ∧ Keep h0 h []) := by
  refine Does.start (plainFor_of_name pn_6) ?_
  intro p e s m below meth c T X
  replace X : Sd _ _ _ _ _ "java/lang/StringUTF16" "newBytesFor" _ _ _ _ _ _ _ _ _ _ _ _ _ _ _ _ := X
  refine Wp.cast (g' := mkF m 0 #[.val (.int (2 : Int32))] []) (by first | (simp [entryFrame, mkF, argsToLocals, Value.category, maxLocals]; done) | rfl) ?_
  refine w_iloadN X k52_2_0 rfl ?_
  refine w_callS X k52_2_1 (wd_124 hw) (wd_125 hw) (wd_91 hw) (wd_126 hw) (by decide) (argsL := [(.int (2 : Int32))]) (S := []) (m_nbl_2 hw) pd_14 rfl rfl rfl (by decide) (leR rfl) (by decide) (by decide) (fun T h1 v1 L1 X q1 => ?_)
  obtain ⟨rfl, rfl⟩ := q1
  show Wp _ _ _ _ (T.setTop (mkF _ _ _ [(.int (4 : Int32))]))
  refine w_newarr X k52_2_4 (wd_1 hw) 4 4 (by decide) (by decide) (by decide) (by decide) (by decide) (by decide) (fun T h2 b2 g2 gn2 X E2 A2 => ?_)
  replace A2 : Ary Z h2 b2 .byte [(.int (0 : Int32)), (.int (0 : Int32)), (.int (0 : Int32)), (.int (0 : Int32))] := A2
  have sz_b2 : h0.size ≤ b2 := Nat.le_trans (Keep.refl h0 []).1 (Nat.le_of_eq g2.symm)
  have K1 : Keep h0 h2 [] := (Keep.refl h0 []).ext E2
  exact w_retR X rfl (rfl) rfl k52_2_6 ⟨_, rfl, sz_b2, gn2, A2, K1⟩ (by decide) (by decide)
theorem m_nbl_3 (hw : own_hw a0 Z) {h0 : Heap}   :
    Does l Z n0 ⟨"java/lang/StringUTF16", "newBytesLength", "(I)I"⟩ jdk_52_method_3_code 1 (some .int) [] { frames := 0, cells := 0, slots := 0, locals := 0 } #[(.int (3 : Int32))] h0 (fun v h => v = some (.int (6 : Int32)) ∧ h0 = h) := by
  refine Does.start (plainFor_of_name pn_6) ?_
  intro p e s m below meth c T X
  replace X : Sd _ _ _ _ _ "java/lang/StringUTF16" "newBytesLength" _ _ _ _ _ _ _ _ _ _ _ _ _ _ _ _ := X
  refine Wp.cast (g' := mkF m 0 #[.val (.int (3 : Int32))] []) (by first | (simp [entryFrame, mkF, argsToLocals, Value.category, maxLocals]; done) | rfl) ?_
  refine w_iloadN X k52_3_0 rfl ?_
  refine w_ifge X k52_3_1 (fun _ => ?_) (fun hc => absurd hc (by decide))
  refine w_iloadN X k52_3_12 rfl ?_
  refine w_ldcI X k52_3_13 (wd_127 hw) ?_
  refine w_icmplt X k52_3_15 (fun _ => ?_) (fun hc => absurd (by decide) hc)
  refine w_iloadN X k52_3_55 rfl ?_
  refine w_iconst X (1 : Int32) k52_3_56 rfl ?_
  refine w_ishl X k52_3_57 ?_
  exact w_retI X k52_3_58 ⟨rfl, rfl⟩ (by decide) (by decide)
theorem m_nbf_3 (hw : own_hw a0 Z) {h0 : Heap}   :
    Does l Z n0 ⟨"java/lang/StringUTF16", "newBytesFor", "(I)[B"⟩ jdk_52_method_2_code 1 (some (.array .byte)) [] { frames := 1, cells := 1, slots := 6, locals := 12 } #[(.int (3 : Int32))] h0 (fun v h => ∃ t, v = some (.ref t) ∧ h0.size ≤ t ∧ n0 ≤ t ∧ Ary Z h t .byte [(.int (0 : Int32)), (.int (0 : Int32)), (.int (0 : Int32)), (.int (0 : Int32)), (.int (0 : Int32)), (.int (0 : Int32))] ∧ Keep h0 h []) := by
  refine Does.start (plainFor_of_name pn_6) ?_
  intro p e s m below meth c T X
  replace X : Sd _ _ _ _ _ "java/lang/StringUTF16" "newBytesFor" _ _ _ _ _ _ _ _ _ _ _ _ _ _ _ _ := X
  refine Wp.cast (g' := mkF m 0 #[.val (.int (3 : Int32))] []) (by first | (simp [entryFrame, mkF, argsToLocals, Value.category, maxLocals]; done) | rfl) ?_
  refine w_iloadN X k52_2_0 rfl ?_
  refine w_callS X k52_2_1 (wd_124 hw) (wd_125 hw) (wd_91 hw) (wd_126 hw) (by decide) (argsL := [(.int (3 : Int32))]) (S := []) (m_nbl_3 hw) pd_14 rfl rfl rfl (by decide) (leR rfl) (by decide) (by decide) (fun T h1 v1 L1 X q1 => ?_)
  obtain ⟨rfl, rfl⟩ := q1
  show Wp _ _ _ _ (T.setTop (mkF _ _ _ [(.int (6 : Int32))]))
  refine w_newarr X k52_2_4 (wd_1 hw) 6 6 (by decide) (by decide) (by decide) (by decide) (by decide) (by decide) (fun T h2 b2 g2 gn2 X E2 A2 => ?_)
  replace A2 : Ary Z h2 b2 .byte [(.int (0 : Int32)), (.int (0 : Int32)), (.int (0 : Int32)), (.int (0 : Int32)), (.int (0 : Int32)), (.int (0 : Int32))] := A2
  have sz_b2 : h0.size ≤ b2 := Nat.le_trans (Keep.refl h0 []).1 (Nat.le_of_eq g2.symm)
  have K1 : Keep h0 h2 [] := (Keep.refl h0 []).ext E2
  exact w_retR X rfl (rfl) rfl k52_2_6 ⟨_, rfl, sz_b2, gn2, A2, K1⟩ (by decide) (by decide)
theorem m_dec_0 (hw : own_hw a0 Z) {h0 : Heap} {zc : Int32} {fm : Value} {a b u8 : Addr}  (hU : own_U Z zc fm) (hC : own_C Z u8) (hheld : ∀ p ∈ consts_1, Jvm.Lit.constHeld Z p.1 p.2) (hcw : Jvm.Lit.compactW.before a0 Z = true) (ga : n0 ≤ a) (Ea : Exa Z h0 a "java/lang/String") (Va : Fld Z h0 a "java/lang/String" "value" "[B" .null) (Ca : Fld Z h0 a "java/lang/String" "coder" "B" (.int (0 : Int32))) (Ab : Ary Z h0 b .byte []) (Eb : Exa Z h0 b "[B")  :
    DoesT l Z n0 (Eh Z h0) ⟨"java/lang/String", "<init>", "(Ljava/nio/charset/Charset;[BII)V"⟩ jdk_42_method_11_code 11 none [((800 : Nat), (813 : Nat), (816 : Nat), (202 : Nat))] { frames := 5, cells := 3, slots := 11, locals := 76 } #[(.ref a), (.ref u8), (.ref b), (.int (0 : Int32)), (.int (0 : Int32))] h0 (fun v h vm => v = none ∧ Keep h0 h [a] ∧ ∃ t, Lat Z h a t (0 : Int32) []) := by
  refine DoesT.start (plainFor_of_name pn_3) ?_
  obtain ⟨hS, S_ad, S_hi, S_lo⟩ := id hU
  obtain ⟨S_zc, hzc, S_fm, hfm⟩ := id hS
  obtain ⟨S_u8, S_in, E_u8⟩ := id hC
  intro p e s m below meth c T X Y hs0 Gs
  replace X : Sd _ _ _ _ _ "java/lang/String" "<init>" _ _ _ _ _ _ _ _ _ _ _ _ _ _ _ _ := X
  refine Wp.cast (g' := mkF m 0 #[.val (.ref a), .val (.ref u8), .val (.ref b), .val (.int (0 : Int32)), .val (.int (0 : Int32)), .unset, .unset, .unset, .unset, .unset, .unset] []) (by first | (simp [entryFrame, mkF, argsToLocals, Value.category, maxLocals]; done) | rfl) ?_
  refine w_aloadN X k42_11_0 rfl (rfl) ?_
  refine w_initO X k42_11_1 (wd_31 hw) (wd_32 hw) (wd_33 hw) rfl (by decide) (leR rfl) (fun T X => ?_)
  refine w_iload X k42_11_4 rfl ?_
  refine w_ifne X k42_11_6 (fun hc => absurd rfl hc) (fun _ => ?_)
  refine w_aloadN X k42_11_9 rfl (rfl) ?_
  refine v_ldcE X Y k42_11_10 (wd_34 hw) (own_wS hw) (Fr.nil _) (by rw [hs0]; exact X.old.2.2) (by rw [hs0]; exact Gs) Gs (hheld _ (List.mem_of_getElem? (i := 2) rfl)) hcw (by decide) (by decide) (fun T h1 u kk a1 b1 X Y Ex1 E1 C1 V1 B1 M1 L1 => ?_)
  have K1 : Keep h0 h1 [a] := (Keep.refl h0 [a]).ext Ex1
  have f2 := (Va.ext Ex1)
  have nA1 : a1 ≠ a := own_fne V1 f2 (by nofun)
  have f3 := (Ea.ext Ex1)
  have nB1 : b1 ≠ a := Ne.symm (own_ane f3 (wd_4 hw) B1)
  refine w_getF X k42_11_12 (host := "") (Or.inl (wd_35 hw)) Via.refl V1 (fun T X => ?_)
  refine w_putF X k42_11_15 (host := "") (Or.inl (wd_35 hw)) Via.refl f2 f3 (Or.inr ⟨(wd_5 hw), rfl, rfl⟩) (wd_4 hw) (ty := (.array .byte)) (by decide) rfl rfl ga (fun T h2 X W2 => ?_)
  have f4 := f2.same W2
  have K5 : Keep h0 h2 [a] := K1.wr W2 (Or.inl (List.mem_of_getElem? (i := 0) rfl))
  refine w_aloadN X k42_11_18 rfl (rfl) ?_
  refine v_ldcA X k42_11_19 (wd_34 hw) L1 ?_
  have f6 := (C1.other W2 (Or.inl nA1))
  refine w_getF X k42_11_21 (host := "") (Or.inl (wd_36 hw)) Via.refl f6 (fun T X => ?_)
  have f7 := (f3.wr W2)
  have f8 := ((Ca.ext Ex1).other W2 (Or.inr (slot_ne (Or.inr (wd_6 hw)) (Or.inr (wd_5 hw)) (by decide) (t := .byte) (t' := (.array .byte)) (by decide) (by decide))))
  refine w_putFN X k42_11_24 (wd_36 hw) Via.refl f8 f7 (Or.inr ⟨(wd_6 hw), rfl, rfl⟩) (wd_4 hw) (ty := .byte) (by decide) (.int (0 : Int32)) rfl (by decide) ga (fun T h3 X W3 => ?_)
  have f9 := f8.same W3
  have K10 : Keep h0 h3 [a] := K5.wr W3 (Or.inl (List.mem_of_getElem? (i := 0) rfl))
  refine w_goto X k42_11_27 ?_
  have f11 := (f7.wr W3)
  have f12 := (f4.other W3 (Or.inr (slot_ne (Or.inr (wd_5 hw)) (Or.inr (wd_6 hw)) (by decide) (t := (.array .byte)) (t' := .byte) (by decide) (by decide))))
  have f13 := ((B1.other W2 nB1).other W3 nB1)
  exact g_retV X Y k42_11_879 (fun vm' hW => ⟨rfl, K10, _, f11, f9, f12, f13⟩) (by decide) (by decide)
theorem m_dec_a (hw : own_hw a0 Z) {h0 : Heap} {zc : Int32} {fm : Value} {a b u8 : Addr} {x0 x1 : Int32} (hU : own_U Z zc fm) (hC : own_C Z u8) (hheld : ∀ p ∈ consts_1, Jvm.Lit.constHeld Z p.1 p.2) (hcw : Jvm.Lit.compactW.before a0 Z = true) (ga : n0 ≤ a) (Ea : Exa Z h0 a "java/lang/String") (Va : Fld Z h0 a "java/lang/String" "value" "[B" .null) (Ca : Fld Z h0 a "java/lang/String" "coder" "B" (.int (0 : Int32))) (Ab : Ary Z h0 b .byte [(.int x0), (.int x1)]) (Eb : Exa Z h0 b "[B") (p0 : ¬ x0 < 0) (p1 : ¬ x1 < 0) :
    DoesT l Z n0 (Eh Z h0) ⟨"java/lang/String", "<init>", "(Ljava/nio/charset/Charset;[BII)V"⟩ jdk_42_method_11_code 11 none [((800 : Nat), (813 : Nat), (816 : Nat), (202 : Nat))] { frames := 5, cells := 3, slots := 11, locals := 76 } #[(.ref a), (.ref u8), (.ref b), (.int (0 : Int32)), (.int (2 : Int32))] h0 (fun v h vm => v = none ∧ Keep h0 h [a] ∧ ∃ t, Lat Z h a t (0 : Int32) [(.int x0), (.int x1)]) := by
  refine DoesT.start (plainFor_of_name pn_3) ?_
  obtain ⟨hS, S_ad, S_hi, S_lo⟩ := id hU
  obtain ⟨S_zc, hzc, S_fm, hfm⟩ := id hS
  obtain ⟨S_u8, S_in, E_u8⟩ := id hC
  intro p e s m below meth c T X Y hs0 Gs
  replace X : Sd _ _ _ _ _ "java/lang/String" "<init>" _ _ _ _ _ _ _ _ _ _ _ _ _ _ _ _ := X
  refine Wp.cast (g' := mkF m 0 #[.val (.ref a), .val (.ref u8), .val (.ref b), .val (.int (0 : Int32)), .val (.int (2 : Int32)), .unset, .unset, .unset, .unset, .unset, .unset] []) (by first | (simp [entryFrame, mkF, argsToLocals, Value.category, maxLocals]; done) | rfl) ?_
  refine w_aloadN X k42_11_0 rfl (rfl) ?_
  refine w_initO X k42_11_1 (wd_31 hw) (wd_32 hw) (wd_33 hw) rfl (by decide) (leR rfl) (fun T X => ?_)
  refine w_iload X k42_11_4 rfl ?_
  refine w_ifne X k42_11_6 (fun _ => ?_) (fun hc => absurd hc (by decide))
  refine w_aloadN X k42_11_30 rfl (rfl) ?_
  refine w_getS X k42_11_31 (host := "") (Or.inl (wd_102 hw)) Via.refl (S_in.ext X.old.2) (fun T X => ?_)
  refine w_acmpne X (rfl) (rfl) k42_11_34 (fun hc => absurd rfl hc) (fun _ => ?_)
  refine w_getS X k42_11_37 (host := "") (Or.inl (wd_77 hw)) Via.refl (S_zc.ext X.old.2) (fun T X => ?_)
  refine w_ifeq X k42_11_40 (fun hc => absurd hc hzc) (fun _ => ?_)
  refine w_aloadN X k42_11_43 rfl (rfl) ?_
  refine w_iloadN X k42_11_44 rfl ?_
  refine w_iload X k42_11_45 rfl ?_
  refine w_callS X k42_11_47 (wd_104 hw) (wd_105 hw) (wd_106 hw) (wd_107 hw) (by decide) (argsL := [(.ref b), (.int (0 : Int32)), (.int (2 : Int32))]) (S := []) (m_cp_2p hw Ab p0 p1) pd_15 rfl rfl rfl (by decide) (leR rfl) (by decide) (by decide) (fun T h1 v1 L1 X q1 => ?_)
  obtain ⟨rfl, rfl⟩ := q1
  show Wp _ _ _ _ (T.setTop (mkF _ _ _ [(.int (2 : Int32))]))
  refine w_istore X #[.val (.ref a), .val (.ref u8), .val (.ref b), .val (.int (0 : Int32)), .val (.int (2 : Int32)), .val (.int (2 : Int32)), .unset, .unset, .unset, .unset, .unset] k42_11_50 rfl ?_
  refine w_iload X k42_11_52 rfl ?_
  refine w_iload X k42_11_54 rfl ?_
  refine w_icmpne X k42_11_56 (fun hc => absurd rfl hc) (fun _ => ?_)
  refine w_aloadN X k42_11_59 rfl (rfl) ?_
  refine w_aloadN X k42_11_60 rfl (rfl) ?_
  refine w_iloadN X k42_11_61 rfl ?_
  refine w_iloadN X k42_11_62 rfl ?_
  refine w_iload X k42_11_63 rfl ?_
  refine w_iadd X k42_11_65 ?_
  refine w_callS X k42_11_66 (wd_108 hw) (wd_109 hw) (wd_110 hw) (wd_111 hw) (by decide) (argsL := [(.ref b), (.int (0 : Int32)), (.int (2 : Int32))]) (S := [(.ref a)]) (m_cor_2 hw Ab Eb) pd_2 rfl rfl rfl (by decide) (leR rfl) (by decide) (by decide) (fun T h2 v2 L2 X q2 => ?_)
  obtain ⟨t2, rfl, gt2, gn2, At2, Et2, Kc2⟩ := q2
  have K1 : Keep h0 h2 [a] := (Keep.refl h0 [a]).trans Kc2 (fun x hx => nomatch hx)
  have sz_t2 : h0.size ≤ t2 := Nat.le_trans (Keep.refl h0 [a]).1 gt2
  show Wp _ _ _ _ (T.setTop (mkF _ _ _ [(.ref t2), (.ref a)]))
  have f2 := (Ea.keep Kc2)
  have f3 := (Va.keep Kc2 (List.not_mem_nil))
  refine w_putF X k42_11_69 (host := "") (Or.inl (wd_35 hw)) Via.refl f3 f2 (Or.inr ⟨(wd_5 hw), rfl, rfl⟩) (wd_4 hw) (ty := (.array .byte)) (by decide) rfl rfl ga (fun T h3 X W3 => ?_)
  have f4 := f3.same W3
  have K5 : Keep h0 h3 [a] := K1.wr W3 (Or.inl (List.mem_of_getElem? (i := 0) rfl))
  refine w_aloadN X k42_11_72 rfl (rfl) ?_
  refine w_iconst X (0 : Int32) k42_11_73 rfl ?_
  have f6 := (f2.wr W3)
  have f7 := ((Ca.keep Kc2 (List.not_mem_nil)).other W3 (Or.inr (slot_ne (Or.inr (wd_6 hw)) (Or.inr (wd_5 hw)) (by decide) (t := .byte) (t' := (.array .byte)) (by decide) (by decide))))
  refine w_putFN X k42_11_74 (wd_36 hw) Via.refl f7 f6 (Or.inr ⟨(wd_6 hw), rfl, rfl⟩) (wd_4 hw) (ty := .byte) (by decide) (.int (0 : Int32)) rfl (by decide) ga (fun T h4 X W4 => ?_)
  have f8 := f7.same W4
  have K9 : Keep h0 h4 [a] := K5.wr W4 (Or.inl (List.mem_of_getElem? (i := 0) rfl))
  have f10 := (f6.wr W4)
  have f11 := (f4.other W4 (Or.inr (slot_ne (Or.inr (wd_5 hw)) (Or.inr (wd_6 hw)) (by decide) (t := (.array .byte)) (t' := .byte) (by decide) (by decide))))
  have f12 := ((At2.other W3 (Ne.symm (Nat.ne_of_lt (Nat.lt_of_lt_of_le Ea.lt gt2)))).other W4 (Ne.symm (Nat.ne_of_lt (Nat.lt_of_lt_of_le Ea.lt gt2))))
  exact g_retV X Y k42_11_77 (fun vm' hW => ⟨rfl, K9, _, f10, f8, f11, f12⟩) (by decide) (by decide)
theorem m_dec_l (hw : own_hw a0 Z) {h0 : Heap} {zc : Int32} {fm : Value} {a b u8 : Addr} {x0 x1 r : Int32} (hU : own_U Z zc fm) (hC : own_C Z u8) (hheld : ∀ p ∈ consts_1, Jvm.Lit.constHeld Z p.1 p.2) (hcw : Jvm.Lit.compactW.before a0 Z = true) (ga : n0 ≤ a) (Ea : Exa Z h0 a "java/lang/String") (Va : Fld Z h0 a "java/lang/String" "value" "[B" .null) (Ca : Fld Z h0 a "java/lang/String" "coder" "B" (.int (0 : Int32))) (Ab : Ary Z h0 b .byte [(.int x0), (.int x1)]) (Eb : Exa Z h0 b "[B") (n1 : x0 < 0) (n2 : (x0 &&& (254 : Int32)) = (194 : Int32)) (n3 : x1 < (-64 : Int32)) (n4 : ((((x0 <<< ((6 : Int32) &&& 31)) ^^^ x1) ^^^ (3968 : Int32)).toUInt32.toUInt16.toUInt32.toInt32) = r) :
    DoesT l Z n0 (Eh Z h0) ⟨"java/lang/String", "<init>", "(Ljava/nio/charset/Charset;[BII)V"⟩ jdk_42_method_11_code 11 none [((800 : Nat), (813 : Nat), (816 : Nat), (202 : Nat))] { frames := 5, cells := 3, slots := 11, locals := 76 } #[(.ref a), (.ref u8), (.ref b), (.int (0 : Int32)), (.int (2 : Int32))] h0 (fun v h vm => v = none ∧ Keep h0 h [a] ∧ ∃ t, Lat Z h a t (0 : Int32) [(.int (r.toInt8.toInt32))]) := by
  refine DoesT.start (plainFor_of_name pn_3) ?_
  obtain ⟨hS, S_ad, S_hi, S_lo⟩ := id hU
  obtain ⟨S_zc, hzc, S_fm, hfm⟩ := id hS
  obtain ⟨S_u8, S_in, E_u8⟩ := id hC
  intro p e s m below meth c T X Y hs0 Gs
  replace X : Sd _ _ _ _ _ "java/lang/String" "<init>" _ _ _ _ _ _ _ _ _ _ _ _ _ _ _ _ := X
  refine Wp.cast (g' := mkF m 0 #[.val (.ref a), .val (.ref u8), .val (.ref b), .val (.int (0 : Int32)), .val (.int (2 : Int32)), .unset, .unset, .unset, .unset, .unset, .unset] []) (by first | (simp [entryFrame, mkF, argsToLocals, Value.category, maxLocals]; done) | rfl) ?_
  refine w_aloadN X k42_11_0 rfl (rfl) ?_
  refine w_initO X k42_11_1 (wd_31 hw) (wd_32 hw) (wd_33 hw) rfl (by decide) (leR rfl) (fun T X => ?_)
  refine w_iload X k42_11_4 rfl ?_
  refine w_ifne X k42_11_6 (fun _ => ?_) (fun hc => absurd hc (by decide))
  refine w_aloadN X k42_11_30 rfl (rfl) ?_
  refine w_getS X k42_11_31 (host := "") (Or.inl (wd_102 hw)) Via.refl (S_in.ext X.old.2) (fun T X => ?_)
  refine w_acmpne X (rfl) (rfl) k42_11_34 (fun hc => absurd rfl hc) (fun _ => ?_)
  refine w_getS X k42_11_37 (host := "") (Or.inl (wd_77 hw)) Via.refl (S_zc.ext X.old.2) (fun T X => ?_)
  refine w_ifeq X k42_11_40 (fun hc => absurd hc hzc) (fun _ => ?_)
  refine w_aloadN X k42_11_43 rfl (rfl) ?_
  refine w_iloadN X k42_11_44 rfl ?_
  refine w_iload X k42_11_45 rfl ?_
  refine w_callS X k42_11_47 (wd_104 hw) (wd_105 hw) (wd_106 hw) (wd_107 hw) (by decide) (argsL := [(.ref b), (.int (0 : Int32)), (.int (2 : Int32))]) (S := []) (m_cp_2n hw Ab n1) pd_15 rfl rfl rfl (by decide) (leR rfl) (by decide) (by decide) (fun T h1 v1 L1 X q1 => ?_)
  obtain ⟨rfl, rfl⟩ := q1
  show Wp _ _ _ _ (T.setTop (mkF _ _ _ [(.int (0 : Int32))]))
  refine w_istore X #[.val (.ref a), .val (.ref u8), .val (.ref b), .val (.int (0 : Int32)), .val (.int (2 : Int32)), .val (.int (0 : Int32)), .unset, .unset, .unset, .unset, .unset] k42_11_50 rfl ?_
  refine w_iload X k42_11_52 rfl ?_
  refine w_iload X k42_11_54 rfl ?_
  refine w_icmpne X k42_11_56 (fun _ => ?_) (fun hc => absurd hc (by decide))
  refine w_aloadN X k42_11_78 rfl (rfl) ?_
  refine w_iloadN X k42_11_79 rfl ?_
  refine w_iloadN X k42_11_80 rfl ?_
  refine w_iload X k42_11_81 rfl ?_
  refine w_iadd X k42_11_83 ?_
  refine w_callS X k42_11_84 (wd_108 hw) (wd_109 hw) (wd_110 hw) (wd_111 hw) (by decide) (argsL := [(.ref b), (.int (0 : Int32)), (.int (2 : Int32))]) (S := []) (m_cor_2 hw Ab Eb) pd_2 rfl rfl rfl (by decide) (leR rfl) (by decide) (by decide) (fun T h2 v2 L2 X q2 => ?_)
  obtain ⟨t2, rfl, gt2, gn2, At2, Et2, Kc2⟩ := q2
  have K1 : Keep h0 h2 [a] := (Keep.refl h0 [a]).trans Kc2 (fun x hx => nomatch hx)
  have sz_t2 : h0.size ≤ t2 := Nat.le_trans (Keep.refl h0 [a]).1 gt2
  show Wp _ _ _ _ (T.setTop (mkF _ _ _ [(.ref t2)]))
  refine w_astore X #[.val (.ref a), .val (.ref u8), .val (.ref b), .val (.int (0 : Int32)), .val (.int (2 : Int32)), .val (.int (0 : Int32)), .val (.ref t2), .unset, .unset, .unset, .unset] k42_11_87 (rfl) rfl ?_
  refine w_iload X k42_11_89 rfl ?_
  refine w_istore X #[.val (.ref a), .val (.ref u8), .val (.ref b), .val (.int (0 : Int32)), .val (.int (2 : Int32)), .val (.int (0 : Int32)), .val (.ref t2), .val (.int (0 : Int32)), .unset, .unset, .unset] k42_11_91 rfl ?_
  refine w_iload X k42_11_93 rfl ?_
  refine w_iload X k42_11_95 rfl ?_
  refine w_icmpge X k42_11_97 (fun hc => absurd (by decide) hc) (fun _ => ?_)
  refine w_aload X k42_11_100 rfl (rfl) ?_
  refine w_iload X k42_11_102 rfl ?_
  refine w_iinc X (1 : Int32) #[.val (.ref a), .val (.ref u8), .val (.ref b), .val (.int (0 : Int32)), .val (.int (2 : Int32)), .val (.int (0 : Int32)), .val (.ref t2), .val (.int (1 : Int32)), .unset, .unset, .unset] k42_11_104 rfl rfl rfl ?_
  refine w_baload X k42_11_107 At2 (by decide) rfl ?_
  refine w_istore X #[.val (.ref a), .val (.ref u8), .val (.ref b), .val (.int (0 : Int32)), .val (.int (2 : Int32)), .val (.int (0 : Int32)), .val (.ref t2), .val (.int (1 : Int32)), .val (.int x0), .unset, .unset] k42_11_108 rfl ?_
  refine w_iload X k42_11_110 rfl ?_
  refine w_iflt X k42_11_112 (fun _ => ?_) (fun hc => absurd n1 hc)
  refine w_iload X k42_11_129 rfl ?_
  refine w_sipush X (254 : Int32) k42_11_131 rfl ?_
  refine w_iand X k42_11_134 ?_
  refine w_sipush X (194 : Int32) k42_11_135 rfl ?_
  refine w_icmpne X k42_11_138 (fun hc => absurd n2 hc) (fun _ => ?_)
  refine w_iload X k42_11_141 rfl ?_
  refine w_iload X k42_11_143 rfl ?_
  refine w_icmpge X k42_11_145 (fun hc => absurd (by decide) hc) (fun _ => ?_)
  refine w_aload X k42_11_148 rfl (rfl) ?_
  refine w_iload X k42_11_150 rfl ?_
  refine w_baload X k42_11_152 At2 (by decide) rfl ?_
  refine w_istore X #[.val (.ref a), .val (.ref u8), .val (.ref b), .val (.int (0 : Int32)), .val (.int (2 : Int32)), .val (.int (0 : Int32)), .val (.ref t2), .val (.int (1 : Int32)), .val (.int x0), .val (.int x1), .unset] k42_11_153 rfl ?_
  refine w_iload X k42_11_155 rfl ?_
  refine w_bipush X (-64 : Int32) k42_11_157 rfl ?_
  refine w_icmpge X k42_11_159 (fun hc => absurd n3 hc) (fun _ => ?_)
  refine w_aload X k42_11_162 rfl (rfl) ?_
  refine w_iload X k42_11_164 rfl ?_
  refine w_iinc X (1 : Int32) #[.val (.ref a), .val (.ref u8), .val (.ref b), .val (.int (0 : Int32)), .val (.int (2 : Int32)), .val (.int (1 : Int32)), .val (.ref t2), .val (.int (1 : Int32)), .val (.int x0), .val (.int x1), .unset] k42_11_166 rfl rfl rfl ?_
  refine w_iload X k42_11_169 rfl ?_
  refine w_iload X k42_11_171 rfl ?_
  refine w_callS X k42_11_173 (wd_256 hw) (wd_257 hw) (wd_3 hw) (wd_258 hw) (by decide) (argsL := [(.int x0), (.int x1)]) (S := [(.int (0 : Int32)), (.ref t2)]) (m_d2 hw n4) pd_9 rfl rfl rfl (by decide) (leR rfl) (by decide) (by decide) (fun T h3 v3 L3 X q3 => ?_)
  obtain ⟨rfl, rfl⟩ := q3
  show Wp _ _ _ _ (T.setTop (mkF _ _ _ [(.int r), (.int (0 : Int32)), (.ref t2)]))
  refine w_i2b X k42_11_176 ?_
  refine w_bastore X k42_11_177 At2 (by decide) rfl gn2 (.int (r.toInt8.toInt32)) (congrArg Value.int (own_nar_b _)) [(.int (r.toInt8.toInt32)), (.int x1)] rfl (fun T h4 X W4 A4 => ?_)
  have K2 : Keep h0 h4 [a] := K1.wr W4 (Or.inr sz_t2)
  refine w_iinc X (1 : Int32) #[.val (.ref a), .val (.ref u8), .val (.ref b), .val (.int (0 : Int32)), .val (.int (2 : Int32)), .val (.int (1 : Int32)), .val (.ref t2), .val (.int (2 : Int32)), .val (.int x0), .val (.int x1), .unset] k42_11_178 rfl rfl rfl ?_
  refine w_goto X k42_11_181 ?_
  refine w_iload X k42_11_93 rfl ?_
  refine w_iload X k42_11_95 rfl ?_
  refine w_icmpge X k42_11_97 (fun _ => ?_) (fun hc => absurd hc Int32.lt_irrefl)
  refine w_iload X k42_11_190 rfl ?_
  refine w_iload X k42_11_192 rfl ?_
  refine w_icmpne X k42_11_194 (fun hc => absurd rfl hc) (fun _ => ?_)
  refine w_iload X k42_11_197 rfl ?_
  refine w_aload X k42_11_199 rfl (rfl) ?_
  refine w_arrlen X (2 : Int32) k42_11_201 A4 rfl ?_
  refine w_icmpeq X k42_11_202 (fun hc => absurd hc (by decide)) (fun _ => ?_)
  refine w_aload X k42_11_205 rfl (rfl) ?_
  refine w_iload X k42_11_207 rfl ?_
  refine w_callS X k42_11_209 (wd_164 hw) (wd_165 hw) (wd_110 hw) (wd_166 hw) (by decide) (argsL := [(.ref t2), (.int (1 : Int32))]) (S := []) (m_cpo_2 hw A4) pd_16 rfl rfl rfl (by decide) (leR rfl) (by decide) (by decide) (fun T h5 v5 L5 X q5 => ?_)
  obtain ⟨t5, rfl, gt5, gn5, At5, Kc5⟩ := q5
  have K3 : Keep h0 h5 [a] := K2.trans Kc5 (fun x hx => nomatch hx)
  have sz_t5 : h0.size ≤ t5 := Nat.le_trans K2.1 gt5
  show Wp _ _ _ _ (T.setTop (mkF _ _ _ [(.ref t5)]))
  refine w_astore X #[.val (.ref a), .val (.ref u8), .val (.ref b), .val (.int (0 : Int32)), .val (.int (2 : Int32)), .val (.int (1 : Int32)), .val (.ref t5), .val (.int (2 : Int32)), .val (.int x0), .val (.int x1), .unset] k42_11_212 (rfl) rfl ?_
  refine w_aloadN X k42_11_214 rfl (rfl) ?_
  refine w_aload X k42_11_215 rfl (rfl) ?_
  have f4 := (((Ea.keep Kc2).wr W4).keep Kc5)
  have f5 := (((Va.keep Kc2 (List.not_mem_nil)).other W4 (Or.inl (Nat.ne_of_lt (Nat.lt_of_lt_of_le Ea.lt gt2)))).keep Kc5 (List.not_mem_nil))
  refine w_putF X k42_11_217 (host := "") (Or.inl (wd_35 hw)) Via.refl f5 f4 (Or.inr ⟨(wd_5 hw), rfl, rfl⟩) (wd_4 hw) (ty := (.array .byte)) (by decide) rfl rfl ga (fun T h6 X W6 => ?_)
  have f6 := f5.same W6
  have K7 : Keep h0 h6 [a] := K3.wr W6 (Or.inl (List.mem_of_getElem? (i := 0) rfl))
  refine w_aloadN X k42_11_220 rfl (rfl) ?_
  refine w_iconst X (0 : Int32) k42_11_221 rfl ?_
  have f8 := (f4.wr W6)
  have f9 := ((((Ca.keep Kc2 (List.not_mem_nil)).other W4 (Or.inl (Nat.ne_of_lt (Nat.lt_of_lt_of_le Ea.lt gt2)))).keep Kc5 (List.not_mem_nil)).other W6 (Or.inr (slot_ne (Or.inr (wd_6 hw)) (Or.inr (wd_5 hw)) (by decide) (t := .byte) (t' := (.array .byte)) (by decide) (by decide))))
  refine w_putFN X k42_11_222 (wd_36 hw) Via.refl f9 f8 (Or.inr ⟨(wd_6 hw), rfl, rfl⟩) (wd_4 hw) (ty := .byte) (by decide) (.int (0 : Int32)) rfl (by decide) ga (fun T h7 X W7 => ?_)
  have f10 := f9.same W7
  have K11 : Keep h0 h7 [a] := K7.wr W7 (Or.inl (List.mem_of_getElem? (i := 0) rfl))
  have f12 := (f8.wr W7)
  have f13 := (f6.other W7 (Or.inr (slot_ne (Or.inr (wd_5 hw)) (Or.inr (wd_6 hw)) (by decide) (t := (.array .byte)) (t' := .byte) (by decide) (by decide))))
  have f14 := ((At5.other W6 (Ne.symm (Nat.ne_of_lt (Nat.lt_of_lt_of_le (Nat.lt_of_lt_of_le (Nat.lt_of_lt_of_le Ea.lt Kc2.1) (Nat.le_of_eq W4.size.symm)) gt5)))).other W7 (Ne.symm (Nat.ne_of_lt (Nat.lt_of_lt_of_le (Nat.lt_of_lt_of_le (Nat.lt_of_lt_of_le Ea.lt Kc2.1) (Nat.le_of_eq W4.size.symm)) gt5))))
  exact g_retV X Y k42_11_225 (fun vm' hW => ⟨rfl, K11, _, f12, f10, f13, f14⟩) (by decide) (by decide)
theorem m_dec_u (hw : own_hw a0 Z) {h0 : Heap} {zc : Int32} {fm : Value} {a b u8 : Addr} {x0 x1 r : Int32} (hU : own_U Z zc fm) (hC : own_C Z u8) (hheld : ∀ p ∈ consts_1, Jvm.Lit.constHeld Z p.1 p.2) (hcw : Jvm.Lit.compactW.before a0 Z = true) (ga : n0 ≤ a) (Ea : Exa Z h0 a "java/lang/String") (Va : Fld Z h0 a "java/lang/String" "value" "[B" .null) (Ca : Fld Z h0 a "java/lang/String" "coder" "B" (.int (0 : Int32))) (Ab : Ary Z h0 b .byte [(.int x0), (.int x1)]) (Eb : Exa Z h0 b "[B") (n2 : ¬ (x0 &&& (254 : Int32)) = (194 : Int32)) (n1 : x0 < 0) (n5 : (x0 >>> ((5 : Int32) &&& 31)) = (-2 : Int32)) (n6 : ¬ (x0 &&& (30 : Int32)) = 0) (n7 : (x1 &&& (192 : Int32)) = (128 : Int32)) (n4 : ((((x0 <<< ((6 : Int32) &&& 31)) ^^^ x1) ^^^ (3968 : Int32)).toUInt32.toUInt16.toUInt32.toInt32) = r) :
    DoesT l Z n0 (Eh Z h0) ⟨"java/lang/String", "<init>", "(Ljava/nio/charset/Charset;[BII)V"⟩ jdk_42_method_11_code 11 none [((800 : Nat), (813 : Nat), (816 : Nat), (202 : Nat))] { frames := 5, cells := 3, slots := 11, locals := 76 } #[(.ref a), (.ref u8), (.ref b), (.int (0 : Int32)), (.int (2 : Int32))] h0 (fun v h vm => v = none ∧ Keep h0 h [a] ∧ ∃ t, Lat Z h a t (1 : Int32) [(.int ((r >>> ((0 : Int32) &&& 31)).toInt8.toInt32)), (.int ((r >>> ((8 : Int32) &&& 31)).toInt8.toInt32))]) := by
  refine DoesT.start (plainFor_of_name pn_3) ?_
  obtain ⟨hS, S_ad, S_hi, S_lo⟩ := id hU
  obtain ⟨S_zc, hzc, S_fm, hfm⟩ := id hS
  obtain ⟨S_u8, S_in, E_u8⟩ := id hC
  intro p e s m below meth c T X Y hs0 Gs
  replace X : Sd _ _ _ _ _ "java/lang/String" "<init>" _ _ _ _ _ _ _ _ _ _ _ _ _ _ _ _ := X
  refine Wp.cast (g' := mkF m 0 #[.val (.ref a), .val (.ref u8), .val (.ref b), .val (.int (0 : Int32)), .val (.int (2 : Int32)), .unset, .unset, .unset, .unset, .unset, .unset] []) (by first | (simp [entryFrame, mkF, argsToLocals, Value.category, maxLocals]; done) | rfl) ?_
  refine w_aloadN X k42_11_0 rfl (rfl) ?_
  refine w_initO X k42_11_1 (wd_31 hw) (wd_32 hw) (wd_33 hw) rfl (by decide) (leR rfl) (fun T X => ?_)
  refine w_iload X k42_11_4 rfl ?_
  refine w_ifne X k42_11_6 (fun _ => ?_) (fun hc => absurd hc (by decide))
  refine w_aloadN X k42_11_30 rfl (rfl) ?_
  refine w_getS X k42_11_31 (host := "") (Or.inl (wd_102 hw)) Via.refl (S_in.ext X.old.2) (fun T X => ?_)
  refine w_acmpne X (rfl) (rfl) k42_11_34 (fun hc => absurd rfl hc) (fun _ => ?_)
  refine w_getS X k42_11_37 (host := "") (Or.inl (wd_77 hw)) Via.refl (S_zc.ext X.old.2) (fun T X => ?_)
  refine w_ifeq X k42_11_40 (fun hc => absurd hc hzc) (fun _ => ?_)
  refine w_aloadN X k42_11_43 rfl (rfl) ?_
  refine w_iloadN X k42_11_44 rfl ?_
  refine w_iload X k42_11_45 rfl ?_
  refine w_callS X k42_11_47 (wd_104 hw) (wd_105 hw) (wd_106 hw) (wd_107 hw) (by decide) (argsL := [(.ref b), (.int (0 : Int32)), (.int (2 : Int32))]) (S := []) (m_cp_2n hw Ab n1) pd_15 rfl rfl rfl (by decide) (leR rfl) (by decide) (by decide) (fun T h1 v1 L1 X q1 => ?_)
  obtain ⟨rfl, rfl⟩ := q1
  show Wp _ _ _ _ (T.setTop (mkF _ _ _ [(.int (0 : Int32))]))
  refine w_istore X #[.val (.ref a), .val (.ref u8), .val (.ref b), .val (.int (0 : Int32)), .val (.int (2 : Int32)), .val (.int (0 : Int32)), .unset, .unset, .unset, .unset, .unset] k42_11_50 rfl ?_
  refine w_iload X k42_11_52 rfl ?_
  refine w_iload X k42_11_54 rfl ?_
  refine w_icmpne X k42_11_56 (fun _ => ?_) (fun hc => absurd hc (by decide))
  refine w_aloadN X k42_11_78 rfl (rfl) ?_
  refine w_iloadN X k42_11_79 rfl ?_
  refine w_iloadN X k42_11_80 rfl ?_
  refine w_iload X k42_11_81 rfl ?_
  refine w_iadd X k42_11_83 ?_
  refine w_callS X k42_11_84 (wd_108 hw) (wd_109 hw) (wd_110 hw) (wd_111 hw) (by decide) (argsL := [(.ref b), (.int (0 : Int32)), (.int (2 : Int32))]) (S := []) (m_cor_2 hw Ab Eb) pd_2 rfl rfl rfl (by decide) (leR rfl) (by decide) (by decide) (fun T h2 v2 L2 X q2 => ?_)
  obtain ⟨t2, rfl, gt2, gn2, At2, Et2, Kc2⟩ := q2
  have K1 : Keep h0 h2 [a] := (Keep.refl h0 [a]).trans Kc2 (fun x hx => nomatch hx)
  have sz_t2 : h0.size ≤ t2 := Nat.le_trans (Keep.refl h0 [a]).1 gt2
  show Wp _ _ _ _ (T.setTop (mkF _ _ _ [(.ref t2)]))
  refine w_astore X #[.val (.ref a), .val (.ref u8), .val (.ref b), .val (.int (0 : Int32)), .val (.int (2 : Int32)), .val (.int (0 : Int32)), .val (.ref t2), .unset, .unset, .unset, .unset] k42_11_87 (rfl) rfl ?_
  refine w_iload X k42_11_89 rfl ?_
  refine w_istore X #[.val (.ref a), .val (.ref u8), .val (.ref b), .val (.int (0 : Int32)), .val (.int (2 : Int32)), .val (.int (0 : Int32)), .val (.ref t2), .val (.int (0 : Int32)), .unset, .unset, .unset] k42_11_91 rfl ?_
  refine w_iload X k42_11_93 rfl ?_
  refine w_iload X k42_11_95 rfl ?_
  refine w_icmpge X k42_11_97 (fun hc => absurd (by decide) hc) (fun _ => ?_)
  refine w_aload X k42_11_100 rfl (rfl) ?_
  refine w_iload X k42_11_102 rfl ?_
  refine w_iinc X (1 : Int32) #[.val (.ref a), .val (.ref u8), .val (.ref b), .val (.int (0 : Int32)), .val (.int (2 : Int32)), .val (.int (0 : Int32)), .val (.ref t2), .val (.int (1 : Int32)), .unset, .unset, .unset] k42_11_104 rfl rfl rfl ?_
  refine w_baload X k42_11_107 At2 (by decide) rfl ?_
  refine w_istore X #[.val (.ref a), .val (.ref u8), .val (.ref b), .val (.int (0 : Int32)), .val (.int (2 : Int32)), .val (.int (0 : Int32)), .val (.ref t2), .val (.int (1 : Int32)), .val (.int x0), .unset, .unset] k42_11_108 rfl ?_
  refine w_iload X k42_11_110 rfl ?_
  refine w_iflt X k42_11_112 (fun _ => ?_) (fun hc => absurd n1 hc)
  refine w_iload X k42_11_129 rfl ?_
  refine w_sipush X (254 : Int32) k42_11_131 rfl ?_
  refine w_iand X k42_11_134 ?_
  refine w_sipush X (194 : Int32) k42_11_135 rfl ?_
  refine w_icmpne X k42_11_138 (fun _ => ?_) (fun hc => absurd hc n2)
  refine w_iinc X (-1 : Int32) #[.val (.ref a), .val (.ref u8), .val (.ref b), .val (.int (0 : Int32)), .val (.int (2 : Int32)), .val (.int (0 : Int32)), .val (.ref t2), .val (.int (0 : Int32)), .val (.int x0), .unset, .unset] k42_11_184 rfl rfl rfl ?_
  refine w_goto X k42_11_187 ?_
  refine w_iload X k42_11_190 rfl ?_
  refine w_iload X k42_11_192 rfl ?_
  refine w_icmpne X k42_11_194 (fun _ => ?_) (fun hc => absurd hc (by decide))
  refine w_iload X k42_11_226 rfl ?_
  refine w_callS X k42_11_228 (wd_121 hw) (wd_122 hw) (wd_91 hw) (wd_123 hw) (by decide) (argsL := [(.int (2 : Int32))]) (S := []) (m_nbf_2 hw) pd_17 rfl rfl rfl (by decide) (leR rfl) (by decide) (by decide) (fun T h3 v3 L3 X q3 => ?_)
  obtain ⟨t3, rfl, gt3, gn3, At3, Kc3⟩ := q3
  have K2 : Keep h0 h3 [a] := K1.trans Kc3 (fun x hx => nomatch hx)
  have sz_t3 : h0.size ≤ t3 := Nat.le_trans K1.1 gt3
  show Wp _ _ _ _ (T.setTop (mkF _ _ _ [(.ref t3)]))
  refine w_astore X #[.val (.ref a), .val (.ref u8), .val (.ref b), .val (.int (0 : Int32)), .val (.int (2 : Int32)), .val (.int (0 : Int32)), .val (.ref t2), .val (.int (0 : Int32)), .val (.ref t3), .unset, .unset] k42_11_231 (rfl) rfl ?_
  refine w_aload X k42_11_233 rfl (rfl) ?_
  refine w_iconst X (0 : Int32) k42_11_235 rfl ?_
  refine w_aload X k42_11_236 rfl (rfl) ?_
  refine w_iconst X (0 : Int32) k42_11_238 rfl ?_
  refine w_iload X k42_11_239 rfl ?_
  refine w_callS X k42_11_241 (wd_128 hw) (wd_129 hw) (wd_80 hw) (wd_130 hw) (by decide) (argsL := [(.ref t2), (.int (0 : Int32)), (.ref t3), (.int (0 : Int32)), (.int (0 : Int32))]) (S := []) (m_lin_2 hw hS At3) pd_7 rfl rfl rfl (by decide) (leR rfl) (by decide) (by decide) (fun T h4 v4 L4 X q4 => ?_)
  obtain ⟨rfl, rfl⟩ := q4
  show Wp _ _ _ _ (T.setTop (mkF _ _ _ []))
  refine w_aload X k42_11_244 rfl (rfl) ?_
  refine w_iload X k42_11_246 rfl ?_
  refine w_iload X k42_11_248 rfl ?_
  refine w_aload X k42_11_250 rfl (rfl) ?_
  refine w_iload X k42_11_252 rfl ?_
  refine w_iconst X (1 : Int32) k42_11_254 rfl ?_
  have f3 := (At2.keep Kc3 (List.not_mem_nil))
  refine w_callS X k42_11_255 (wd_148 hw) (wd_149 hw) (wd_3 hw) (wd_150 hw) (by decide) (argsL := [(.ref t2), (.int (0 : Int32)), (.int (2 : Int32)), (.ref t3), (.int (0 : Int32)), (.int (1 : Int32))]) (S := []) (m_dU_2 hw hU gn3 (Nat.ne_of_lt (Nat.lt_of_lt_of_le At2.lt gt3)) f3 At3 n1 n5 n6 n7 n4) pd_18 rfl rfl rfl (by decide) (leR rfl) (by decide) (by decide) (fun T h5 v5 L5 X q5 => ?_)
  obtain ⟨rfl, Kc5, Ap5⟩ := q5
  have K4 : Keep h0 h5 [a] := K2.trans Kc5 (fun x hx => by cases List.mem_singleton.mp hx; exact (Or.inr sz_t3))
  show Wp _ _ _ _ (T.setTop (mkF _ _ _ [(.int (1 : Int32))]))
  refine w_istore X #[.val (.ref a), .val (.ref u8), .val (.ref b), .val (.int (0 : Int32)), .val (.int (2 : Int32)), .val (.int (1 : Int32)), .val (.ref t2), .val (.int (0 : Int32)), .val (.ref t3), .unset, .unset] k42_11_258 rfl ?_
  refine w_iload X k42_11_260 rfl ?_
  refine w_iload X k42_11_262 rfl ?_
  refine w_icmpeq X k42_11_264 (fun hc => absurd hc (by decide)) (fun _ => ?_)
  refine w_aload X k42_11_267 rfl (rfl) ?_
  refine w_iload X k42_11_269 rfl ?_
  refine w_iconst X (1 : Int32) k42_11_271 rfl ?_
  refine w_ishl X k42_11_272 ?_
  refine w_callS X k42_11_273 (wd_164 hw) (wd_165 hw) (wd_110 hw) (wd_166 hw) (by decide) (argsL := [(.ref t3), (.int (2 : Int32))]) (S := []) (m_cpo_4 hw Ap5) pd_16 rfl rfl rfl (by decide) (leR rfl) (by decide) (by decide) (fun T h6 v6 L6 X q6 => ?_)
  obtain ⟨t6, rfl, gt6, gn6, At6, Kc6⟩ := q6
  have K5 : Keep h0 h6 [a] := K4.trans Kc6 (fun x hx => nomatch hx)
  have sz_t6 : h0.size ≤ t6 := Nat.le_trans K4.1 gt6
  show Wp _ _ _ _ (T.setTop (mkF _ _ _ [(.ref t6)]))
  refine w_astore X #[.val (.ref a), .val (.ref u8), .val (.ref b), .val (.int (0 : Int32)), .val (.int (2 : Int32)), .val (.int (1 : Int32)), .val (.ref t2), .val (.int (0 : Int32)), .val (.ref t6), .unset, .unset] k42_11_276 (rfl) rfl ?_
  refine w_aloadN X k42_11_278 rfl (rfl) ?_
  refine w_aload X k42_11_279 rfl (rfl) ?_
  have f6 := ((((Ea.keep Kc2).keep Kc3).keep Kc5).keep Kc6)
  have f7 := ((((Va.keep Kc2 (List.not_mem_nil)).keep Kc3 (List.not_mem_nil)).keep Kc5 (by simp only [List.mem_cons, List.not_mem_nil, or_false]; exact (Nat.ne_of_lt (Nat.lt_of_lt_of_le (Nat.lt_of_lt_of_le Ea.lt Kc2.1) gt3)))).keep Kc6 (List.not_mem_nil))
  refine w_putF X k42_11_281 (host := "") (Or.inl (wd_35 hw)) Via.refl f7 f6 (Or.inr ⟨(wd_5 hw), rfl, rfl⟩) (wd_4 hw) (ty := (.array .byte)) (by decide) rfl rfl ga (fun T h7 X W7 => ?_)
  have f8 := f7.same W7
  have K9 : Keep h0 h7 [a] := K5.wr W7 (Or.inl (List.mem_of_getElem? (i := 0) rfl))
  refine w_aloadN X k42_11_284 rfl (rfl) ?_
  refine w_iconst X (1 : Int32) k42_11_285 rfl ?_
  have f10 := (f6.wr W7)
  have f11 := (((((Ca.keep Kc2 (List.not_mem_nil)).keep Kc3 (List.not_mem_nil)).keep Kc5 (by simp only [List.mem_cons, List.not_mem_nil, or_false]; exact (Nat.ne_of_lt (Nat.lt_of_lt_of_le (Nat.lt_of_lt_of_le Ea.lt Kc2.1) gt3)))).keep Kc6 (List.not_mem_nil)).other W7 (Or.inr (slot_ne (Or.inr (wd_6 hw)) (Or.inr (wd_5 hw)) (by decide) (t := .byte) (t' := (.array .byte)) (by decide) (by decide))))
  refine w_putFN X k42_11_286 (wd_36 hw) Via.refl f11 f10 (Or.inr ⟨(wd_6 hw), rfl, rfl⟩) (wd_4 hw) (ty := .byte) (by decide) (.int (1 : Int32)) rfl (by decide) ga (fun T h8 X W8 => ?_)
  have f12 := f11.same W8
  have K13 : Keep h0 h8 [a] := K9.wr W8 (Or.inl (List.mem_of_getElem? (i := 0) rfl))
  refine w_goto X k42_11_289 ?_
  have f14 := (f10.wr W8)
  have f15 := (f8.other W8 (Or.inr (slot_ne (Or.inr (wd_5 hw)) (Or.inr (wd_6 hw)) (by decide) (t := (.array .byte)) (t' := .byte) (by decide) (by decide))))
  have f16 := ((At6.other W7 (Ne.symm (Nat.ne_of_lt (Nat.lt_of_lt_of_le (Nat.lt_of_lt_of_le (Nat.lt_of_lt_of_le (Nat.lt_of_lt_of_le Ea.lt Kc2.1) Kc3.1) Kc5.1) gt6)))).other W8 (Ne.symm (Nat.ne_of_lt (Nat.lt_of_lt_of_le (Nat.lt_of_lt_of_le (Nat.lt_of_lt_of_le (Nat.lt_of_lt_of_le Ea.lt Kc2.1) Kc3.1) Kc5.1) gt6))))
  exact g_retV X Y k42_11_879 (fun vm' hW => ⟨rfl, K13, _, f14, f12, f15, f16⟩) (by decide) (by decide)
theorem m_dec_3 (hw : own_hw a0 Z) {h0 : Heap} {zc : Int32} {fm : Value} {a b u8 : Addr} {x0 x1 x2 r : Int32} (hU : own_U Z zc fm) (hC : own_C Z u8) (hheld : ∀ p ∈ consts_1, Jvm.Lit.constHeld Z p.1 p.2) (hcw : Jvm.Lit.compactW.before a0 Z = true) (ga : n0 ≤ a) (Ea : Exa Z h0 a "java/lang/String") (Va : Fld Z h0 a "java/lang/String" "value" "[B" .null) (Ca : Fld Z h0 a "java/lang/String" "coder" "B" (.int (0 : Int32))) (Ab : Ary Z h0 b .byte [(.int x0), (.int x1), (.int x2)]) (Eb : Exa Z h0 b "[B") (n2 : ¬ (x0 &&& (254 : Int32)) = (194 : Int32)) (n1 : x0 < 0) (n5 : ¬ (x0 >>> ((5 : Int32) &&& 31)) = (-2 : Int32)) (n6 : (x0 >>> ((4 : Int32) &&& 31)) = (-2 : Int32)) (n7 : x0 = (-32 : Int32) → ¬ (x1 &&& (224 : Int32)) = (128 : Int32)) (n8 : (x1 &&& (192 : Int32)) = (128 : Int32)) (n9 : (x2 &&& (192 : Int32)) = (128 : Int32)) (n4 : ((((x0 <<< ((12 : Int32) &&& 31)) ^^^ (x1 <<< ((6 : Int32) &&& 31))) ^^^ (x2 ^^^ (-123008 : Int32))).toUInt32.toUInt16.toUInt32.toInt32) = r) (ns : r < (55296 : Int32)) :
    DoesT l Z n0 (Eh Z h0) ⟨"java/lang/String", "<init>", "(Ljava/nio/charset/Charset;[BII)V"⟩ jdk_42_method_11_code 11 none [((800 : Nat), (813 : Nat), (816 : Nat), (202 : Nat))] { frames := 5, cells := 3, slots := 11, locals := 76 } #[(.ref a), (.ref u8), (.ref b), (.int (0 : Int32)), (.int (3 : Int32))] h0 (fun v h vm => v = none ∧ Keep h0 h [a] ∧ ∃ t, Lat Z h a t (1 : Int32) [(.int ((r >>> ((0 : Int32) &&& 31)).toInt8.toInt32)), (.int ((r >>> ((8 : Int32) &&& 31)).toInt8.toInt32))]) := by
  refine DoesT.start (plainFor_of_name pn_3) ?_
  obtain ⟨hS, S_ad, S_hi, S_lo⟩ := id hU
  obtain ⟨S_zc, hzc, S_fm, hfm⟩ := id hS
  obtain ⟨S_u8, S_in, E_u8⟩ := id hC
  intro p e s m below meth c T X Y hs0 Gs
  replace X : Sd _ _ _ _ _ "java/lang/String" "<init>" _ _ _ _ _ _ _ _ _ _ _ _ _ _ _ _ := X
  refine Wp.cast (g' := mkF m 0 #[.val (.ref a), .val (.ref u8), .val (.ref b), .val (.int (0 : Int32)), .val (.int (3 : Int32)), .unset, .unset, .unset, .unset, .unset, .unset] []) (by first | (simp [entryFrame, mkF, argsToLocals, Value.category, maxLocals]; done) | rfl) ?_
  refine w_aloadN X k42_11_0 rfl (rfl) ?_
  refine w_initO X k42_11_1 (wd_31 hw) (wd_32 hw) (wd_33 hw) rfl (by decide) (leR rfl) (fun T X => ?_)
  refine w_iload X k42_11_4 rfl ?_
  refine w_ifne X k42_11_6 (fun _ => ?_) (fun hc => absurd hc (by decide))
  refine w_aloadN X k42_11_30 rfl (rfl) ?_
  refine w_getS X k42_11_31 (host := "") (Or.inl (wd_102 hw)) Via.refl (S_in.ext X.old.2) (fun T X => ?_)
  refine w_acmpne X (rfl) (rfl) k42_11_34 (fun hc => absurd rfl hc) (fun _ => ?_)
  refine w_getS X k42_11_37 (host := "") (Or.inl (wd_77 hw)) Via.refl (S_zc.ext X.old.2) (fun T X => ?_)
  refine w_ifeq X k42_11_40 (fun hc => absurd hc hzc) (fun _ => ?_)
  refine w_aloadN X k42_11_43 rfl (rfl) ?_
  refine w_iloadN X k42_11_44 rfl ?_
  refine w_iload X k42_11_45 rfl ?_
  refine w_callS X k42_11_47 (wd_104 hw) (wd_105 hw) (wd_106 hw) (wd_107 hw) (by decide) (argsL := [(.ref b), (.int (0 : Int32)), (.int (3 : Int32))]) (S := []) (m_cp_3n hw Ab n1) pd_15 rfl rfl rfl (by decide) (leR rfl) (by decide) (by decide) (fun T h1 v1 L1 X q1 => ?_)
  obtain ⟨rfl, rfl⟩ := q1
  show Wp _ _ _ _ (T.setTop (mkF _ _ _ [(.int (0 : Int32))]))
  refine w_istore X #[.val (.ref a), .val (.ref u8), .val (.ref b), .val (.int (0 : Int32)), .val (.int (3 : Int32)), .val (.int (0 : Int32)), .unset, .unset, .unset, .unset, .unset] k42_11_50 rfl ?_
  refine w_iload X k42_11_52 rfl ?_
  refine w_iload X k42_11_54 rfl ?_
  refine w_icmpne X k42_11_56 (fun _ => ?_) (fun hc => absurd hc (by decide))
  refine w_aloadN X k42_11_78 rfl (rfl) ?_
  refine w_iloadN X k42_11_79 rfl ?_
  refine w_iloadN X k42_11_80 rfl ?_
  refine w_iload X k42_11_81 rfl ?_
  refine w_iadd X k42_11_83 ?_
  refine w_callS X k42_11_84 (wd_108 hw) (wd_109 hw) (wd_110 hw) (wd_111 hw) (by decide) (argsL := [(.ref b), (.int (0 : Int32)), (.int (3 : Int32))]) (S := []) (m_cor_3 hw Ab Eb) pd_2 rfl rfl rfl (by decide) (leR rfl) (by decide) (by decide) (fun T h2 v2 L2 X q2 => ?_)
  obtain ⟨t2, rfl, gt2, gn2, At2, Et2, Kc2⟩ := q2
  have K1 : Keep h0 h2 [a] := (Keep.refl h0 [a]).trans Kc2 (fun x hx => nomatch hx)
  have sz_t2 : h0.size ≤ t2 := Nat.le_trans (Keep.refl h0 [a]).1 gt2
  show Wp _ _ _ _ (T.setTop (mkF _ _ _ [(.ref t2)]))
  refine w_astore X #[.val (.ref a), .val (.ref u8), .val (.ref b), .val (.int (0 : Int32)), .val (.int (3 : Int32)), .val (.int (0 : Int32)), .val (.ref t2), .unset, .unset, .unset, .unset] k42_11_87 (rfl) rfl ?_
  refine w_iload X k42_11_89 rfl ?_
  refine w_istore X #[.val (.ref a), .val (.ref u8), .val (.ref b), .val (.int (0 : Int32)), .val (.int (3 : Int32)), .val (.int (0 : Int32)), .val (.ref t2), .val (.int (0 : Int32)), .unset, .unset, .unset] k42_11_91 rfl ?_
  refine w_iload X k42_11_93 rfl ?_
  refine w_iload X k42_11_95 rfl ?_
  refine w_icmpge X k42_11_97 (fun hc => absurd (by decide) hc) (fun _ => ?_)
  refine w_aload X k42_11_100 rfl (rfl) ?_
  refine w_iload X k42_11_102 rfl ?_
  refine w_iinc X (1 : Int32) #[.val (.ref a), .val (.ref u8), .val (.ref b), .val (.int (0 : Int32)), .val (.int (3 : Int32)), .val (.int (0 : Int32)), .val (.ref t2), .val (.int (1 : Int32)), .unset, .unset, .unset] k42_11_104 rfl rfl rfl ?_
  refine w_baload X k42_11_107 At2 (by decide) rfl ?_
  refine w_istore X #[.val (.ref a), .val (.ref u8), .val (.ref b), .val (.int (0 : Int32)), .val (.int (3 : Int32)), .val (.int (0 : Int32)), .val (.ref t2), .val (.int (1 : Int32)), .val (.int x0), .unset, .unset] k42_11_108 rfl ?_
  refine w_iload X k42_11_110 rfl ?_
  refine w_iflt X k42_11_112 (fun _ => ?_) (fun hc => absurd n1 hc)
  refine w_iload X k42_11_129 rfl ?_
  refine w_sipush X (254 : Int32) k42_11_131 rfl ?_
  refine w_iand X k42_11_134 ?_
  refine w_sipush X (194 : Int32) k42_11_135 rfl ?_
  refine w_icmpne X k42_11_138 (fun _ => ?_) (fun hc => absurd hc n2)
  refine w_iinc X (-1 : Int32) #[.val (.ref a), .val (.ref u8), .val (.ref b), .val (.int (0 : Int32)), .val (.int (3 : Int32)), .val (.int (0 : Int32)), .val (.ref t2), .val (.int (0 : Int32)), .val (.int x0), .unset, .unset] k42_11_184 rfl rfl rfl ?_
  refine w_goto X k42_11_187 ?_
  refine w_iload X k42_11_190 rfl ?_
  refine w_iload X k42_11_192 rfl ?_
  refine w_icmpne X k42_11_194 (fun _ => ?_) (fun hc => absurd hc (by decide))
  refine w_iload X k42_11_226 rfl ?_
  refine w_callS X k42_11_228 (wd_121 hw) (wd_122 hw) (wd_91 hw) (wd_123 hw) (by decide) (argsL := [(.int (3 : Int32))]) (S := []) (m_nbf_3 hw) pd_17 rfl rfl rfl (by decide) (leR rfl) (by decide) (by decide) (fun T h3 v3 L3 X q3 => ?_)
  obtain ⟨t3, rfl, gt3, gn3, At3, Kc3⟩ := q3
  have K2 : Keep h0 h3 [a] := K1.trans Kc3 (fun x hx => nomatch hx)
  have sz_t3 : h0.size ≤ t3 := Nat.le_trans K1.1 gt3
  show Wp _ _ _ _ (T.setTop (mkF _ _ _ [(.ref t3)]))
  refine w_astore X #[.val (.ref a), .val (.ref u8), .val (.ref b), .val (.int (0 : Int32)), .val (.int (3 : Int32)), .val (.int (0 : Int32)), .val (.ref t2), .val (.int (0 : Int32)), .val (.ref t3), .unset, .unset] k42_11_231 (rfl) rfl ?_
  refine w_aload X k42_11_233 rfl (rfl) ?_
  refine w_iconst X (0 : Int32) k42_11_235 rfl ?_
  refine w_aload X k42_11_236 rfl (rfl) ?_
  refine w_iconst X (0 : Int32) k42_11_238 rfl ?_
  refine w_iload X k42_11_239 rfl ?_
  refine w_callS X k42_11_241 (wd_128 hw) (wd_129 hw) (wd_80 hw) (wd_130 hw) (by decide) (argsL := [(.ref t2), (.int (0 : Int32)), (.ref t3), (.int (0 : Int32)), (.int (0 : Int32))]) (S := []) (m_lin_3 hw hS At3) pd_7 rfl rfl rfl (by decide) (leR rfl) (by decide) (by decide) (fun T h4 v4 L4 X q4 => ?_)
  obtain ⟨rfl, rfl⟩ := q4
  show Wp _ _ _ _ (T.setTop (mkF _ _ _ []))
  refine w_aload X k42_11_244 rfl (rfl) ?_
  refine w_iload X k42_11_246 rfl ?_
  refine w_iload X k42_11_248 rfl ?_
  refine w_aload X k42_11_250 rfl (rfl) ?_
  refine w_iload X k42_11_252 rfl ?_
  refine w_iconst X (1 : Int32) k42_11_254 rfl ?_
  have f3 := (At2.keep Kc3 (List.not_mem_nil))
  refine w_callS X k42_11_255 (wd_148 hw) (wd_149 hw) (wd_3 hw) (wd_150 hw) (by decide) (argsL := [(.ref t2), (.int (0 : Int32)), (.int (3 : Int32)), (.ref t3), (.int (0 : Int32)), (.int (1 : Int32))]) (S := []) (m_dU_3 hw hU gn3 (Nat.ne_of_lt (Nat.lt_of_lt_of_le At2.lt gt3)) f3 At3 n1 n5 n6 n7 n8 n9 n4 ns) pd_18 rfl rfl rfl (by decide) (leR rfl) (by decide) (by decide) (fun T h5 v5 L5 X q5 => ?_)
  obtain ⟨rfl, Kc5, Ap5⟩ := q5
  have K4 : Keep h0 h5 [a] := K2.trans Kc5 (fun x hx => by cases List.mem_singleton.mp hx; exact (Or.inr sz_t3))
  show Wp _ _ _ _ (T.setTop (mkF _ _ _ [(.int (1 : Int32))]))
  refine w_istore X #[.val (.ref a), .val (.ref u8), .val (.ref b), .val (.int (0 : Int32)), .val (.int (3 : Int32)), .val (.int (1 : Int32)), .val (.ref t2), .val (.int (0 : Int32)), .val (.ref t3), .unset, .unset] k42_11_258 rfl ?_
  refine w_iload X k42_11_260 rfl ?_
  refine w_iload X k42_11_262 rfl ?_
  refine w_icmpeq X k42_11_264 (fun hc => absurd hc (by decide)) (fun _ => ?_)
  refine w_aload X k42_11_267 rfl (rfl) ?_
  refine w_iload X k42_11_269 rfl ?_
  refine w_iconst X (1 : Int32) k42_11_271 rfl ?_
  refine w_ishl X k42_11_272 ?_
  refine w_callS X k42_11_273 (wd_164 hw) (wd_165 hw) (wd_110 hw) (wd_166 hw) (by decide) (argsL := [(.ref t3), (.int (2 : Int32))]) (S := []) (m_cpo_6 hw Ap5) pd_16 rfl rfl rfl (by decide) (leR rfl) (by decide) (by decide) (fun T h6 v6 L6 X q6 => ?_)
  obtain ⟨t6, rfl, gt6, gn6, At6, Kc6⟩ := q6
  have K5 : Keep h0 h6 [a] := K4.trans Kc6 (fun x hx => nomatch hx)
  have sz_t6 : h0.size ≤ t6 := Nat.le_trans K4.1 gt6
  show Wp _ _ _ _ (T.setTop (mkF _ _ _ [(.ref t6)]))
  refine w_astore X #[.val (.ref a), .val (.ref u8), .val (.ref b), .val (.int (0 : Int32)), .val (.int (3 : Int32)), .val (.int (1 : Int32)), .val (.ref t2), .val (.int (0 : Int32)), .val (.ref t6), .unset, .unset] k42_11_276 (rfl) rfl ?_
  refine w_aloadN X k42_11_278 rfl (rfl) ?_
  refine w_aload X k42_11_279 rfl (rfl) ?_
  have f6 := ((((Ea.keep Kc2).keep Kc3).keep Kc5).keep Kc6)
  have f7 := ((((Va.keep Kc2 (List.not_mem_nil)).keep Kc3 (List.not_mem_nil)).keep Kc5 (by simp only [List.mem_cons, List.not_mem_nil, or_false]; exact (Nat.ne_of_lt (Nat.lt_of_lt_of_le (Nat.lt_of_lt_of_le Ea.lt Kc2.1) gt3)))).keep Kc6 (List.not_mem_nil))
  refine w_putF X k42_11_281 (host := "") (Or.inl (wd_35 hw)) Via.refl f7 f6 (Or.inr ⟨(wd_5 hw), rfl, rfl⟩) (wd_4 hw) (ty := (.array .byte)) (by decide) rfl rfl ga (fun T h7 X W7 => ?_)
  have f8 := f7.same W7
  have K9 : Keep h0 h7 [a] := K5.wr W7 (Or.inl (List.mem_of_getElem? (i := 0) rfl))
  refine w_aloadN X k42_11_284 rfl (rfl) ?_
  refine w_iconst X (1 : Int32) k42_11_285 rfl ?_
  have f10 := (f6.wr W7)
  have f11 := (((((Ca.keep Kc2 (List.not_mem_nil)).keep Kc3 (List.not_mem_nil)).keep Kc5 (by simp only [List.mem_cons, List.not_mem_nil, or_false]; exact (Nat.ne_of_lt (Nat.lt_of_lt_of_le (Nat.lt_of_lt_of_le Ea.lt Kc2.1) gt3)))).keep Kc6 (List.not_mem_nil)).other W7 (Or.inr (slot_ne (Or.inr (wd_6 hw)) (Or.inr (wd_5 hw)) (by decide) (t := .byte) (t' := (.array .byte)) (by decide) (by decide))))
  refine w_putFN X k42_11_286 (wd_36 hw) Via.refl f11 f10 (Or.inr ⟨(wd_6 hw), rfl, rfl⟩) (wd_4 hw) (ty := .byte) (by decide) (.int (1 : Int32)) rfl (by decide) ga (fun T h8 X W8 => ?_)
  have f12 := f11.same W8
  have K13 : Keep h0 h8 [a] := K9.wr W8 (Or.inl (List.mem_of_getElem? (i := 0) rfl))
  refine w_goto X k42_11_289 ?_
  have f14 := (f10.wr W8)
  have f15 := (f8.other W8 (Or.inr (slot_ne (Or.inr (wd_5 hw)) (Or.inr (wd_6 hw)) (by decide) (t := (.array .byte)) (t' := .byte) (by decide) (by decide))))
  have f16 := ((At6.other W7 (Ne.symm (Nat.ne_of_lt (Nat.lt_of_lt_of_le (Nat.lt_of_lt_of_le (Nat.lt_of_lt_of_le (Nat.lt_of_lt_of_le Ea.lt Kc2.1) Kc3.1) Kc5.1) gt6)))).other W8 (Ne.symm (Nat.ne_of_lt (Nat.lt_of_lt_of_le (Nat.lt_of_lt_of_le (Nat.lt_of_lt_of_le (Nat.lt_of_lt_of_le Ea.lt Kc2.1) Kc3.1) Kc5.1) gt6))))
  exact g_retV X Y k42_11_879 (fun vm' hW => ⟨rfl, K13, _, f14, f12, f15, f16⟩) (by decide) (by decide)
theorem m_sbc_0 (hw : own_hw a0 Z) {h0 : Heap} {zc : Int32} {fm : Value} {a b u8 : Addr}  (hU : own_U Z zc fm) (hC : own_C Z u8) (hheld : ∀ p ∈ consts_1, Jvm.Lit.constHeld Z p.1 p.2) (hcw : Jvm.Lit.compactW.before a0 Z = true) (ga : n0 ≤ a) (Ea : Exa Z h0 a "java/lang/String") (Va : Fld Z h0 a "java/lang/String" "value" "[B" .null) (Ca : Fld Z h0 a "java/lang/String" "coder" "B" (.int (0 : Int32))) (Ab : Ary Z h0 b .byte []) (Eb : Exa Z h0 b "[B")  :
    DoesG l Z n0 (Eh Z h0) ⟨"java/lang/String", "<init>", "([BLjava/nio/charset/Charset;)V"⟩ jdk_42_method_49_code 3 none [] { frames := 6, cells := 3, slots := 11, locals := 98 } #[(.ref a), (.ref b), (.ref u8)] h0 (fun v h vm => v = none ∧ Keep h0 h [a] ∧ ∃ t, Lat Z h a t (0 : Int32) []) := by
  refine DoesG.start (plainFor_of_name pn_3) ?_
  obtain ⟨hS, S_ad, S_hi, S_lo⟩ := id hU
  obtain ⟨S_zc, hzc, S_fm, hfm⟩ := id hS
  obtain ⟨S_u8, S_in, E_u8⟩ := id hC
  intro p e s m below meth c T X Y hs0 Gs
  replace X : Sd _ _ _ _ _ "java/lang/String" "<init>" _ _ _ _ _ _ _ _ _ _ _ _ _ _ _ _ := X
  refine Wp.cast (g' := mkF m 0 #[.val (.ref a), .val (.ref b), .val (.ref u8)] []) (by first | (simp [entryFrame, mkF, argsToLocals, Value.category, maxLocals]; done) | rfl) ?_
  refine w_aloadN X k42_49_0 rfl (rfl) ?_
  refine w_aloadN X k42_49_1 rfl (rfl) ?_
  refine w_callS X k42_49_2 (wd_21 hw) (wd_22 hw) (wd_23 hw) (wd_24 hw) (by decide) (argsL := [(.ref u8)]) (S := [(.ref a)]) (m_rn1 hw) pd_19 rfl rfl rfl (by decide) (leR rfl) (by decide) (by decide) (fun T h1 v1 L1 X q1 => ?_)
  obtain ⟨rfl, rfl⟩ := q1
  show Wp _ _ _ _ (T.setTop (mkF _ _ _ [(.ref u8), (.ref a)]))
  refine w_cast X k42_49_5 (wd_25 hw) (Ins.of_exa (E_u8.ext X.old.2) (wd_26 hw)) (fun T X => ?_)
  refine w_aloadN X k42_49_8 rfl (rfl) ?_
  refine w_iconst X (0 : Int32) k42_49_9 rfl ?_
  refine w_aloadN X k42_49_10 rfl (rfl) ?_
  refine w_arrlen X (0 : Int32) k42_49_11 Ab rfl ?_
  refine t_callI X Y (fun vm' hW => Gs.warm hW) k42_49_12 rfl (wd_27 hw) (wd_28 hw) (wd_3 hw) (wd_30 hw) (by decide) (argsL := [(.ref u8), (.ref b), (.int (0 : Int32)), (.int (0 : Int32))]) (S := []) (m_dec_0 hw hU hC hheld hcw ga Ea Va Ca Ab Eb ) pd_20 rfl rfl rfl (by decide) (leR rfl) (by decide) (by decide) (fun T h2 v2 L2 u kk X Y q2 => ?_)
  obtain ⟨rfl, r2⟩ := q2
  show Wp _ _ _ _ (T.setTop (mkF _ _ _ []))
  exact g_retV X Y k42_49_15 (fun vm' hW => ⟨rfl, r2⟩) (by decide) (by decide)
theorem m_sbc_a (hw : own_hw a0 Z) {h0 : Heap} {zc : Int32} {fm : Value} {a b u8 : Addr} {x0 x1 : Int32} (hU : own_U Z zc fm) (hC : own_C Z u8) (hheld : ∀ p ∈ consts_1, Jvm.Lit.constHeld Z p.1 p.2) (hcw : Jvm.Lit.compactW.before a0 Z = true) (ga : n0 ≤ a) (Ea : Exa Z h0 a "java/lang/String") (Va : Fld Z h0 a "java/lang/String" "value" "[B" .null) (Ca : Fld Z h0 a "java/lang/String" "coder" "B" (.int (0 : Int32))) (Ab : Ary Z h0 b .byte [(.int x0), (.int x1)]) (Eb : Exa Z h0 b "[B") (p0 : ¬ x0 < 0) (p1 : ¬ x1 < 0) :
    DoesG l Z n0 (Eh Z h0) ⟨"java/lang/String", "<init>", "([BLjava/nio/charset/Charset;)V"⟩ jdk_42_method_49_code 3 none [] { frames := 6, cells := 3, slots := 11, locals := 98 } #[(.ref a), (.ref b), (.ref u8)] h0 (fun v h vm => v = none ∧ Keep h0 h [a] ∧ ∃ t, Lat Z h a t (0 : Int32) [(.int x0), (.int x1)]) := by
  refine DoesG.start (plainFor_of_name pn_3) ?_
  obtain ⟨hS, S_ad, S_hi, S_lo⟩ := id hU
  obtain ⟨S_zc, hzc, S_fm, hfm⟩ := id hS
  obtain ⟨S_u8, S_in, E_u8⟩ := id hC
  intro p e s m below meth c T X Y hs0 Gs
  replace X : Sd _ _ _ _ _ "java/lang/String" "<init>" _ _ _ _ _ _ _ _ _ _ _ _ _ _ _ _ := X
  refine Wp.cast (g' := mkF m 0 #[.val (.ref a), .val (.ref b), .val (.ref u8)] []) (by first | (simp [entryFrame, mkF, argsToLocals, Value.category, maxLocals]; done) | rfl) ?_
  refine w_aloadN X k42_49_0 rfl (rfl) ?_
  refine w_aloadN X k42_49_1 rfl (rfl) ?_
  refine w_callS X k42_49_2 (wd_21 hw) (wd_22 hw) (wd_23 hw) (wd_24 hw) (by decide) (argsL := [(.ref u8)]) (S := [(.ref a)]) (m_rn1 hw) pd_19 rfl rfl rfl (by decide) (leR rfl) (by decide) (by decide) (fun T h1 v1 L1 X q1 => ?_)
  obtain ⟨rfl, rfl⟩ := q1
  show Wp _ _ _ _ (T.setTop (mkF _ _ _ [(.ref u8), (.ref a)]))
  refine w_cast X k42_49_5 (wd_25 hw) (Ins.of_exa (E_u8.ext X.old.2) (wd_26 hw)) (fun T X => ?_)
  refine w_aloadN X k42_49_8 rfl (rfl) ?_
  refine w_iconst X (0 : Int32) k42_49_9 rfl ?_
  refine w_aloadN X k42_49_10 rfl (rfl) ?_
  refine w_arrlen X (2 : Int32) k42_49_11 Ab rfl ?_
  refine t_callI X Y (fun vm' hW => Gs.warm hW) k42_49_12 rfl (wd_27 hw) (wd_28 hw) (wd_3 hw) (wd_30 hw) (by decide) (argsL := [(.ref u8), (.ref b), (.int (0 : Int32)), (.int (2 : Int32))]) (S := []) (m_dec_a hw hU hC hheld hcw ga Ea Va Ca Ab Eb p0 p1) pd_20 rfl rfl rfl (by decide) (leR rfl) (by decide) (by decide) (fun T h2 v2 L2 u kk X Y q2 => ?_)
  obtain ⟨rfl, r2⟩ := q2
  show Wp _ _ _ _ (T.setTop (mkF _ _ _ []))
  exact g_retV X Y k42_49_15 (fun vm' hW => ⟨rfl, r2⟩) (by decide) (by decide)
theorem m_sbc_l (hw : own_hw a0 Z) {h0 : Heap} {zc : Int32} {fm : Value} {a b u8 : Addr} {x0 x1 r : Int32} (hU : own_U Z zc fm) (hC : own_C Z u8) (hheld : ∀ p ∈ consts_1, Jvm.Lit.constHeld Z p.1 p.2) (hcw : Jvm.Lit.compactW.before a0 Z = true) (ga : n0 ≤ a) (Ea : Exa Z h0 a "java/lang/String") (Va : Fld Z h0 a "java/lang/String" "value" "[B" .null) (Ca : Fld Z h0 a "java/lang/String" "coder" "B" (.int (0 : Int32))) (Ab : Ary Z h0 b .byte [(.int x0), (.int x1)]) (Eb : Exa Z h0 b "[B") (n1 : x0 < 0) (n2 : (x0 &&& (254 : Int32)) = (194 : Int32)) (n3 : x1 < (-64 : Int32)) (n4 : ((((x0 <<< ((6 : Int32) &&& 31)) ^^^ x1) ^^^ (3968 : Int32)).toUInt32.toUInt16.toUInt32.toInt32) = r) :
    DoesG l Z n0 (Eh Z h0) ⟨"java/lang/String", "<init>", "([BLjava/nio/charset/Charset;)V"⟩ jdk_42_method_49_code 3 none [] { frames := 6, cells := 3, slots := 11, locals := 98 } #[(.ref a), (.ref b), (.ref u8)] h0 (fun v h vm => v = none ∧ Keep h0 h [a] ∧ ∃ t, Lat Z h a t (0 : Int32) [(.int (r.toInt8.toInt32))]) := by
  refine DoesG.start (plainFor_of_name pn_3) ?_
  obtain ⟨hS, S_ad, S_hi, S_lo⟩ := id hU
  obtain ⟨S_zc, hzc, S_fm, hfm⟩ := id hS
  obtain ⟨S_u8, S_in, E_u8⟩ := id hC
  intro p e s m below meth c T X Y hs0 Gs
  replace X : Sd _ _ _ _ _ "java/lang/String" "<init>" _ _ _ _ _ _ _ _ _ _ _ _ _ _ _ _ := X
  refine Wp.cast (g' := mkF m 0 #[.val (.ref a), .val (.ref b), .val (.ref u8)] []) (by first | (simp [entryFrame, mkF, argsToLocals, Value.category, maxLocals]; done) | rfl) ?_
  refine w_aloadN X k42_49_0 rfl (rfl) ?_
  refine w_aloadN X k42_49_1 rfl (rfl) ?_
  refine w_callS X k42_49_2 (wd_21 hw) (wd_22 hw) (wd_23 hw) (wd_24 hw) (by decide) (argsL := [(.ref u8)]) (S := [(.ref a)]) (m_rn1 hw) pd_19 rfl rfl rfl (by decide) (leR rfl) (by decide) (by decide) (fun T h1 v1 L1 X q1 => ?_)
  obtain ⟨rfl, rfl⟩ := q1
  show Wp _ _ _ _ (T.setTop (mkF _ _ _ [(.ref u8), (.ref a)]))
  refine w_cast X k42_49_5 (wd_25 hw) (Ins.of_exa (E_u8.ext X.old.2) (wd_26 hw)) (fun T X => ?_)
  refine w_aloadN X k42_49_8 rfl (rfl) ?_
  refine w_iconst X (0 : Int32) k42_49_9 rfl ?_
  refine w_aloadN X k42_49_10 rfl (rfl) ?_
  refine w_arrlen X (2 : Int32) k42_49_11 Ab rfl ?_
  refine t_callI X Y (fun vm' hW => Gs.warm hW) k42_49_12 rfl (wd_27 hw) (wd_28 hw) (wd_3 hw) (wd_30 hw) (by decide) (argsL := [(.ref u8), (.ref b), (.int (0 : Int32)), (.int (2 : Int32))]) (S := []) (m_dec_l hw hU hC hheld hcw ga Ea Va Ca Ab Eb n1 n2 n3 n4) pd_20 rfl rfl rfl (by decide) (leR rfl) (by decide) (by decide) (fun T h2 v2 L2 u kk X Y q2 => ?_)
  obtain ⟨rfl, r2⟩ := q2
  show Wp _ _ _ _ (T.setTop (mkF _ _ _ []))
  exact g_retV X Y k42_49_15 (fun vm' hW => ⟨rfl, r2⟩) (by decide) (by decide)
theorem m_sbc_u (hw : own_hw a0 Z) {h0 : Heap} {zc : Int32} {fm : Value} {a b u8 : Addr} {x0 x1 r : Int32} (hU : own_U Z zc fm) (hC : own_C Z u8) (hheld : ∀ p ∈ consts_1, Jvm.Lit.constHeld Z p.1 p.2) (hcw : Jvm.Lit.compactW.before a0 Z = true) (ga : n0 ≤ a) (Ea : Exa Z h0 a "java/lang/String") (Va : Fld Z h0 a "java/lang/String" "value" "[B" .null) (Ca : Fld Z h0 a "java/lang/String" "coder" "B" (.int (0 : Int32))) (Ab : Ary Z h0 b .byte [(.int x0), (.int x1)]) (Eb : Exa Z h0 b "[B") (n2 : ¬ (x0 &&& (254 : Int32)) = (194 : Int32)) (n1 : x0 < 0) (n5 : (x0 >>> ((5 : Int32) &&& 31)) = (-2 : Int32)) (n6 : ¬ (x0 &&& (30 : Int32)) = 0) (n7 : (x1 &&& (192 : Int32)) = (128 : Int32)) (n4 : ((((x0 <<< ((6 : Int32) &&& 31)) ^^^ x1) ^^^ (3968 : Int32)).toUInt32.toUInt16.toUInt32.toInt32) = r) :
    DoesG l Z n0 (Eh Z h0) ⟨"java/lang/String", "<init>", "([BLjava/nio/charset/Charset;)V"⟩ jdk_42_method_49_code 3 none [] { frames := 6, cells := 3, slots := 11, locals := 98 } #[(.ref a), (.ref b), (.ref u8)] h0 (fun v h vm => v = none ∧ Keep h0 h [a] ∧ ∃ t, Lat Z h a t (1 : Int32) [(.int ((r >>> ((0 : Int32) &&& 31)).toInt8.toInt32)), (.int ((r >>> ((8 : Int32) &&& 31)).toInt8.toInt32))]) := by
  refine DoesG.start (plainFor_of_name pn_3) ?_
  obtain ⟨hS, S_ad, S_hi, S_lo⟩ := id hU
  obtain ⟨S_zc, hzc, S_fm, hfm⟩ := id hS
  obtain ⟨S_u8, S_in, E_u8⟩ := id hC
  intro p e s m below meth c T X Y hs0 Gs
  replace X : Sd _ _ _ _ _ "java/lang/String" "<init>" _ _ _ _ _ _ _ _ _ _ _ _ _ _ _ _ := X
  refine Wp.cast (g' := mkF m 0 #[.val (.ref a), .val (.ref b), .val (.ref u8)] []) (by first | (simp [entryFrame, mkF, argsToLocals, Value.category, maxLocals]; done) | rfl) ?_
  refine w_aloadN X k42_49_0 rfl (rfl) ?_
  refine w_aloadN X k42_49_1 rfl (rfl) ?_
  refine w_callS X k42_49_2 (wd_21 hw) (wd_22 hw) (wd_23 hw) (wd_24 hw) (by decide) (argsL := [(.ref u8)]) (S := [(.ref a)]) (m_rn1 hw) pd_19 rfl rfl rfl (by decide) (leR rfl) (by decide) (by decide) (fun T h1 v1 L1 X q1 => ?_)
  obtain ⟨rfl, rfl⟩ := q1
  show Wp _ _ _ _ (T.setTop (mkF _ _ _ [(.ref u8), (.ref a)]))
  refine w_cast X k42_49_5 (wd_25 hw) (Ins.of_exa (E_u8.ext X.old.2) (wd_26 hw)) (fun T X => ?_)
  refine w_aloadN X k42_49_8 rfl (rfl) ?_
  refine w_iconst X (0 : Int32) k42_49_9 rfl ?_
  refine w_aloadN X k42_49_10 rfl (rfl) ?_
  refine w_arrlen X (2 : Int32) k42_49_11 Ab rfl ?_
  refine t_callI X Y (fun vm' hW => Gs.warm hW) k42_49_12 rfl (wd_27 hw) (wd_28 hw) (wd_3 hw) (wd_30 hw) (by decide) (argsL := [(.ref u8), (.ref b), (.int (0 : Int32)), (.int (2 : Int32))]) (S := []) (m_dec_u hw hU hC hheld hcw ga Ea Va Ca Ab Eb n2 n1 n5 n6 n7 n4) pd_20 rfl rfl rfl (by decide) (leR rfl) (by decide) (by decide) (fun T h2 v2 L2 u kk X Y q2 => ?_)
  obtain ⟨rfl, r2⟩ := q2
  show Wp _ _ _ _ (T.setTop (mkF _ _ _ []))
  exact g_retV X Y k42_49_15 (fun vm' hW => ⟨rfl, r2⟩) (by decide) (by decide)
theorem m_sbc_3 (hw : own_hw a0 Z) {h0 : Heap} {zc : Int32} {fm : Value} {a b u8 : Addr} {x0 x1 x2 r : Int32} (hU : own_U Z zc fm) (hC : own_C Z u8) (hheld : ∀ p ∈ consts_1, Jvm.Lit.constHeld Z p.1 p.2) (hcw : Jvm.Lit.compactW.before a0 Z = true) (ga : n0 ≤ a) (Ea : Exa Z h0 a "java/lang/String") (Va : Fld Z h0 a "java/lang/String" "value" "[B" .null) (Ca : Fld Z h0 a "java/lang/String" "coder" "B" (.int (0 : Int32))) (Ab : Ary Z h0 b .byte [(.int x0), (.int x1), (.int x2)]) (Eb : Exa Z h0 b "[B") (n2 : ¬ (x0 &&& (254 : Int32)) = (194 : Int32)) (n1 : x0 < 0) (n5 : ¬ (x0 >>> ((5 : Int32) &&& 31)) = (-2 : Int32)) (n6 : (x0 >>> ((4 : Int32) &&& 31)) = (-2 : Int32)) (n7 : x0 = (-32 : Int32) → ¬ (x1 &&& (224 : Int32)) = (128 : Int32)) (n8 : (x1 &&& (192 : Int32)) = (128 : Int32)) (n9 : (x2 &&& (192 : Int32)) = (128 : Int32)) (n4 : ((((x0 <<< ((12 : Int32) &&& 31)) ^^^ (x1 <<< ((6 : Int32) &&& 31))) ^^^ (x2 ^^^ (-123008 : Int32))).toUInt32.toUInt16.toUInt32.toInt32) = r) (ns : r < (55296 : Int32)) :
    DoesG l Z n0 (Eh Z h0) ⟨"java/lang/String", "<init>", "([BLjava/nio/charset/Charset;)V"⟩ jdk_42_method_49_code 3 none [] { frames := 6, cells := 3, slots := 11, locals := 98 } #[(.ref a), (.ref b), (.ref u8)] h0 (fun v h vm => v = none ∧ Keep h0 h [a] ∧ ∃ t, Lat Z h a t (1 : Int32) [(.int ((r >>> ((0 : Int32) &&& 31)).toInt8.toInt32)), (.int ((r >>> ((8 : Int32) &&& 31)).toInt8.toInt32))]) := by
  refine DoesG.start (plainFor_of_name pn_3) ?_
  obtain ⟨hS, S_ad, S_hi, S_lo⟩ := id hU
  obtain ⟨S_zc, hzc, S_fm, hfm⟩ := id hS
  obtain ⟨S_u8, S_in, E_u8⟩ := id hC
  intro p e s m below meth c T X Y hs0 Gs
  replace X : Sd _ _ _ _ _ "java/lang/String" "<init>" _ _ _ _ _ _ _ _ _ _ _ _ _ _ _ _ := X
  refine Wp.cast (g' := mkF m 0 #[.val (.ref a), .val (.ref b), .val (.ref u8)] []) (by first | (simp [entryFrame, mkF, argsToLocals, Value.category, maxLocals]; done) | rfl) ?_
  refine w_aloadN X k42_49_0 rfl (rfl) ?_
  refine w_aloadN X k42_49_1 rfl (rfl) ?_
  refine w_callS X k42_49_2 (wd_21 hw) (wd_22 hw) (wd_23 hw) (wd_24 hw) (by decide) (argsL := [(.ref u8)]) (S := [(.ref a)]) (m_rn1 hw) pd_19 rfl rfl rfl (by decide) (leR rfl) (by decide) (by decide) (fun T h1 v1 L1 X q1 => ?_)
  obtain ⟨rfl, rfl⟩ := q1
  show Wp _ _ _ _ (T.setTop (mkF _ _ _ [(.ref u8), (.ref a)]))
  refine w_cast X k42_49_5 (wd_25 hw) (Ins.of_exa (E_u8.ext X.old.2) (wd_26 hw)) (fun T X => ?_)
  refine w_aloadN X k42_49_8 rfl (rfl) ?_
  refine w_iconst X (0 : Int32) k42_49_9 rfl ?_
  refine w_aloadN X k42_49_10 rfl (rfl) ?_
  refine w_arrlen X (3 : Int32) k42_49_11 Ab rfl ?_
  refine t_callI X Y (fun vm' hW => Gs.warm hW) k42_49_12 rfl (wd_27 hw) (wd_28 hw) (wd_3 hw) (wd_30 hw) (by decide) (argsL := [(.ref u8), (.ref b), (.int (0 : Int32)), (.int (3 : Int32))]) (S := []) (m_dec_3 hw hU hC hheld hcw ga Ea Va Ca Ab Eb n2 n1 n5 n6 n7 n8 n9 n4 ns) pd_20 rfl rfl rfl (by decide) (leR rfl) (by decide) (by decide) (fun T h2 v2 L2 u kk X Y q2 => ?_)
  obtain ⟨rfl, r2⟩ := q2
  show Wp _ _ _ _ (T.setTop (mkF _ _ _ []))
  exact g_retV X Y k42_49_15 (fun vm' hW => ⟨rfl, r2⟩) (by decide) (by decide)
theorem m_enI (hw : own_hw a0 Z) {h0 : Heap}   :
    Does l Z n0 ⟨"java/lang/StringLatin1", "canEncode", "(I)Z"⟩ jdk_43_method_4_code 1 (some .boolean) [] { frames := 0, cells := 0, slots := 0, locals := 0 } #[(.int (47 : Int32))] h0 (fun v h => v = some (.int (1 : Int32)) ∧ h0 = h) := by
  refine Does.start (plainFor_of_name pn_7) ?_
  intro p e s m below meth c T X
  replace X : Sd _ _ _ _ _ "java/lang/StringLatin1" "canEncode" _ _ _ _ _ _ _ _ _ _ _ _ _ _ _ _ := X
  refine Wp.cast (g' := mkF m 0 #[.val (.int (47 : Int32))] []) (by first | (simp [entryFrame, mkF, argsToLocals, Value.category, maxLocals]; done) | rfl) ?_
  refine w_iloadN X k43_4_0 rfl ?_
  refine w_iflt X k43_4_1 (fun hc => absurd hc (by decide)) (fun _ => ?_)
  refine w_iloadN X k43_4_4 rfl ?_
  refine w_sipush X (255 : Int32) k43_4_5 rfl ?_
  refine w_icmpgt X k43_4_8 (fun hc => absurd hc (by decide)) (fun _ => ?_)
  refine w_iconst X (1 : Int32) k43_4_11 rfl ?_
  refine w_goto X k43_4_12 ?_
  exact w_ret_boolean X (1 : Int32) (by decide) k43_4_16 ⟨rfl, rfl⟩ (by decide) (by decide)
theorem m_isl (hw : own_hw a0 Z) {h0 : Heap} {zc : Int32} {fm : Value} {a : Addr} (hS : own_S Z zc fm) (Ca : Fld Z h0 a "java/lang/String" "coder" "B" (.int (0 : Int32))) :
    Does l Z n0 ⟨"java/lang/String", "isLatin1", "()Z"⟩ jdk_42_method_154_code 1 (some .boolean) [] { frames := 0, cells := 0, slots := 0, locals := 0 } #[(.ref a)] h0 (fun v h => v = some (.int (1 : Int32)) ∧ h0 = h) := by
  refine Does.start (plainFor_of_name pn_3) ?_
  obtain ⟨S_zc, hzc, S_fm, hfm⟩ := id hS
  intro p e s m below meth c T X
  replace X : Sd _ _ _ _ _ "java/lang/String" "isLatin1" _ _ _ _ _ _ _ _ _ _ _ _ _ _ _ _ := X
  refine Wp.cast (g' := mkF m 0 #[.val (.ref a)] []) (by first | (simp [entryFrame, mkF, argsToLocals, Value.category, maxLocals]; done) | rfl) ?_
  refine w_getS X k42_154_0 (host := "") (Or.inl (wd_77 hw)) Via.refl (S_zc.ext X.old.2) (fun T X => ?_)
  refine w_ifeq X k42_154_3 (fun hc => absurd hc hzc) (fun _ => ?_)
  refine w_aloadN X k42_154_6 rfl (rfl) ?_
  refine w_getF X k42_154_7 (host := "") (Or.inl (wd_36 hw)) Via.refl Ca (fun T X => ?_)
  refine w_ifne X k42_154_10 (fun hc => absurd rfl hc) (fun _ => ?_)
  refine w_iconst X (1 : Int32) k42_154_13 rfl ?_
  refine w_goto X k42_154_14 ?_
  exact w_ret_boolean X (1 : Int32) (by decide) k42_154_18 ⟨rfl, rfl⟩ (by decide) (by decide)
theorem m_cdr (hw : own_hw a0 Z) {h0 : Heap} {zc : Int32} {fm : Value} {a : Addr} (hS : own_S Z zc fm) (Ca : Fld Z h0 a "java/lang/String" "coder" "B" (.int (0 : Int32))) :
    Does l Z n0 ⟨"java/lang/String", "coder", "()B"⟩ jdk_42_method_152_code 1 (some .byte) [] { frames := 0, cells := 0, slots := 0, locals := 0 } #[(.ref a)] h0 (fun v h => v = some (.int (0 : Int32)) ∧ h0 = h) := by
  refine Does.start (plainFor_of_name pn_3) ?_
  obtain ⟨S_zc, hzc, S_fm, hfm⟩ := id hS
  intro p e s m below meth c T X
  replace X : Sd _ _ _ _ _ "java/lang/String" "coder" _ _ _ _ _ _ _ _ _ _ _ _ _ _ _ _ := X
  refine Wp.cast (g' := mkF m 0 #[.val (.ref a)] []) (by first | (simp [entryFrame, mkF, argsToLocals, Value.category, maxLocals]; done) | rfl) ?_
  refine w_getS X k42_152_0 (host := "") (Or.inl (wd_77 hw)) Via.refl (S_zc.ext X.old.2) (fun T X => ?_)
  refine w_ifeq X k42_152_3 (fun hc => absurd hc hzc) (fun _ => ?_)
  refine w_aloadN X k42_152_6 rfl (rfl) ?_
  refine w_getF X k42_152_7 (host := "") (Or.inl (wd_36 hw)) Via.refl Ca (fun T X => ?_)
  refine w_goto X k42_152_10 ?_
  exact w_ret_byte X (0 : Int32) (by decide) k42_152_14 ⟨rfl, rfl⟩ (by decide) (by decide)
theorem m_len_0 (hw : own_hw a0 Z) {h0 : Heap} {zc : Int32} {fm : Value} {a t : Addr}  (hS : own_S Z zc fm) (Ea : Exa Z h0 a "java/lang/String") (Ca : Fld Z h0 a "java/lang/String" "coder" "B" (.int (0 : Int32))) (Va : Fld Z h0 a "java/lang/String" "value" "[B" (.ref t)) (At : Ary Z h0 t .byte []) :
    Does l Z n0 ⟨"java/lang/String", "length", "()I"⟩ jdk_42_method_54_code 1 (some .int) [] { frames := 1, cells := 0, slots := 0, locals := 13 } #[(.ref a)] h0 (fun v h => v = some (.int (0 : Int32)) ∧ h0 = h) := by
  refine Does.start (plainFor_of_name pn_3) ?_
  obtain ⟨S_zc, hzc, S_fm, hfm⟩ := id hS
  intro p e s m below meth c T X
  replace X : Sd _ _ _ _ _ "java/lang/String" "length" _ _ _ _ _ _ _ _ _ _ _ _ _ _ _ _ := X
  refine Wp.cast (g' := mkF m 0 #[.val (.ref a)] []) (by first | (simp [entryFrame, mkF, argsToLocals, Value.category, maxLocals]; done) | rfl) ?_
  refine w_aloadN X k42_54_0 rfl (rfl) ?_
  refine w_getF X k42_54_1 (host := "") (Or.inl (wd_35 hw)) Via.refl Va (fun T X => ?_)
  refine w_arrlen X (0 : Int32) k42_54_4 At rfl ?_
  refine w_aloadN X k42_54_5 rfl (rfl) ?_
  refine w_callV X k42_54_6 (wd_202 hw) (wd_203 hw) (notFace_of_selects (args := #[]) (mvT X.hZ (wd_205 hw))) (wd_205 hw) (wd_204 hw) (wd_3 hw) (wd_206 hw) (by decide) Ea (argsL := []) (S := [(.int (0 : Int32))]) (m_cdr hw hS Ca) pd_21 rfl rfl rfl (by decide) (leR rfl) (by decide) (by decide) (fun T h1 v1 L1 X q1 => ?_)
  obtain ⟨rfl, rfl⟩ := q1
  show Wp _ _ _ _ (T.setTop (mkF _ _ _ [(.int (0 : Int32)), (.int (0 : Int32))]))
  refine w_ishr X k42_54_9 ?_
  exact w_retI X k42_54_10 ⟨rfl, rfl⟩ (by decide) (by decide)
theorem m_len_3 (hw : own_hw a0 Z) {h0 : Heap} {zc : Int32} {fm : Value} {a t : Addr} {x0 x1 x2 : Int32} (hS : own_S Z zc fm) (Ea : Exa Z h0 a "java/lang/String") (Ca : Fld Z h0 a "java/lang/String" "coder" "B" (.int (0 : Int32))) (Va : Fld Z h0 a "java/lang/String" "value" "[B" (.ref t)) (At : Ary Z h0 t .byte [(.int x0), (.int x1), (.int x2)]) :
    Does l Z n0 ⟨"java/lang/String", "length", "()I"⟩ jdk_42_method_54_code 1 (some .int) [] { frames := 1, cells := 0, slots := 0, locals := 13 } #[(.ref a)] h0 (fun v h => v = some (.int (3 : Int32)) ∧ h0 = h) := by
  refine Does.start (plainFor_of_name pn_3) ?_
  obtain ⟨S_zc, hzc, S_fm, hfm⟩ := id hS
  intro p e s m below meth c T X
  replace X : Sd _ _ _ _ _ "java/lang/String" "length" _ _ _ _ _ _ _ _ _ _ _ _ _ _ _ _ := X
  refine Wp.cast (g' := mkF m 0 #[.val (.ref a)] []) (by first | (simp [entryFrame, mkF, argsToLocals, Value.category, maxLocals]; done) | rfl) ?_
  refine w_aloadN X k42_54_0 rfl (rfl) ?_
  refine w_getF X k42_54_1 (host := "") (Or.inl (wd_35 hw)) Via.refl Va (fun T X => ?_)
  refine w_arrlen X (3 : Int32) k42_54_4 At rfl ?_
  refine w_aloadN X k42_54_5 rfl (rfl) ?_
  refine w_callV X k42_54_6 (wd_202 hw) (wd_203 hw) (notFace_of_selects (args := #[]) (mvT X.hZ (wd_205 hw))) (wd_205 hw) (wd_204 hw) (wd_3 hw) (wd_206 hw) (by decide) Ea (argsL := []) (S := [(.int (3 : Int32))]) (m_cdr hw hS Ca) pd_21 rfl rfl rfl (by decide) (leR rfl) (by decide) (by decide) (fun T h1 v1 L1 X q1 => ?_)
  obtain ⟨rfl, rfl⟩ := q1
  show Wp _ _ _ _ (T.setTop (mkF _ _ _ [(.int (0 : Int32)), (.int (3 : Int32))]))
  refine w_ishr X k42_54_9 ?_
  exact w_retI X k42_54_10 ⟨rfl, rfl⟩ (by decide) (by decide)
theorem m_sib (hw : own_hw a0 Z) {h0 : Heap} {a b : Addr} (ga : n0 ≤ a) (Ea : Exa Z h0 a "java/lang/String") (Va : Fld Z h0 a "java/lang/String" "value" "[B" .null) (Ca : Fld Z h0 a "java/lang/String" "coder" "B" (.int (0 : Int32))) :
    Does l Z n0 ⟨"java/lang/String", "<init>", "([BB)V"⟩ jdk_42_method_151_code 3 none [] { frames := 1, cells := 0, slots := 0, locals := 12 } #[(.ref a), (.ref b), (.int (0 : Int32))] h0 (fun v h => v = none ∧ Exa Z h a "java/lang/String" ∧ Fld Z h a "java/lang/String" "coder" "B" (.int (0 : Int32)) ∧ Fld Z h a "java/lang/String" "value" "[B" (.ref b) ∧ Keep h0 h [a]) := by
  refine Does.start (plainFor_of_name pn_3) ?_
  intro p e s m below meth c T X
  replace X : Sd _ _ _ _ _ "java/lang/String" "<init>" _ _ _ _ _ _ _ _ _ _ _ _ _ _ _ _ := X
  refine Wp.cast (g' := mkF m 0 #[.val (.ref a), .val (.ref b), .val (.int (0 : Int32))] []) (by first | (simp [entryFrame, mkF, argsToLocals, Value.category, maxLocals]; done) | rfl) ?_
  refine w_aloadN X k42_151_0 rfl (rfl) ?_
  refine w_initO X k42_151_1 (wd_31 hw) (wd_32 hw) (wd_33 hw) rfl (by decide) (leR rfl) (fun T X => ?_)
  refine w_aloadN X k42_151_4 rfl (rfl) ?_
  refine w_aloadN X k42_151_5 rfl (rfl) ?_
  refine w_putF X k42_151_6 (host := "") (Or.inl (wd_35 hw)) Via.refl Va Ea (Or.inr ⟨(wd_5 hw), rfl, rfl⟩) (wd_4 hw) (ty := (.array .byte)) (by decide) rfl rfl ga (fun T h1 X W1 => ?_)
  have f1 := Va.same W1
  have K2 : Keep h0 h1 [a] := (Keep.refl h0 [a]).wr W1 (Or.inl (List.mem_of_getElem? (i := 0) rfl))
  refine w_aloadN X k42_151_9 rfl (rfl) ?_
  refine w_iloadN X k42_151_10 rfl ?_
  have f3 := (Ea.wr W1)
  have f4 := (Ca.other W1 (Or.inr (slot_ne (Or.inr (wd_6 hw)) (Or.inr (wd_5 hw)) (by decide) (t := .byte) (t' := (.array .byte)) (by decide) (by decide))))
  refine w_putFN X k42_151_11 (wd_36 hw) Via.refl f4 f3 (Or.inr ⟨(wd_6 hw), rfl, rfl⟩) (wd_4 hw) (ty := .byte) (by decide) (.int (0 : Int32)) rfl (by decide) ga (fun T h2 X W2 => ?_)
  have f5 := f4.same W2
  have K6 : Keep h0 h2 [a] := K2.wr W2 (Or.inl (List.mem_of_getElem? (i := 0) rfl))
  have f7 := (f3.wr W2)
  have f8 := (f1.other W2 (Or.inr (slot_ne (Or.inr (wd_5 hw)) (Or.inr (wd_6 hw)) (by decide) (t := (.array .byte)) (t' := .byte) (by decide) (by decide))))
  exact w_retV X k42_151_14 ⟨rfl, f7, f5, f8, K6⟩ (by decide) (by decide)
theorem m_l1x_E (hw : own_hw a0 Z) {h0 : Heap} {t : Addr}  (At : Ary Z h0 t .byte [])  :
    Does l Z n0 ⟨"java/lang/StringLatin1", "lastIndexOf", "([BII)I"⟩ jdk_43_method_27_code 4 (some .int) [] { frames := 1, cells := 0, slots := 0, locals := 13 } #[(.ref t), (.int (47 : Int32)), (.int (-1 : Int32))] h0 (fun v h => v = some (.int (-1 : Int32)) ∧ h0 = h) := by
  refine Does.start (plainFor_of_name pn_7) ?_
  intro p e s m below meth c T X
  replace X : Sd _ _ _ _ _ "java/lang/StringLatin1" "lastIndexOf" _ _ _ _ _ _ _ _ _ _ _ _ _ _ _ _ := X
  refine Wp.cast (g' := mkF m 0 #[.val (.ref t), .val (.int (47 : Int32)), .val (.int (-1 : Int32)), .unset] []) (by first | (simp [entryFrame, mkF, argsToLocals, Value.category, maxLocals]; done) | rfl) ?_
  refine w_iloadN X k43_27_0 rfl ?_
  refine w_callS X k43_27_1 (wd_220 hw) (wd_221 hw) (wd_80 hw) (wd_222 hw) (by decide) (argsL := [(.int (47 : Int32))]) (S := []) (m_enI hw) pd_8 rfl rfl rfl (by decide) (leR rfl) (by decide) (by decide) (fun T h1 v1 L1 X q1 => ?_)
  obtain ⟨rfl, rfl⟩ := q1
  show Wp _ _ _ _ (T.setTop (mkF _ _ _ [(.int (1 : Int32))]))
  refine w_ifne X k43_27_4 (fun _ => ?_) (fun hc => absurd hc (by decide))
  refine w_iloadN X k43_27_9 rfl ?_
  refine w_aloadN X k43_27_10 rfl (rfl) ?_
  refine w_arrlen X (0 : Int32) k43_27_11 At rfl ?_
  refine w_iconst X (1 : Int32) k43_27_12 rfl ?_
  refine w_isub X k43_27_13 ?_
  refine w_callS X k43_27_14 (wd_223 hw) (wd_168 hw) (wd_169 hw) (wd_170 hw) (by decide) (argsL := [(.int (-1 : Int32)), (.int (-1 : Int32))]) (S := []) (m_min hw (r := (-1 : Int32)) (by decide)) pd_1 rfl rfl rfl (by decide) (leR rfl) (by decide) (by decide) (fun T h2 v2 L2 X q2 => ?_)
  obtain ⟨rfl, rfl⟩ := q2
  show Wp _ _ _ _ (T.setTop (mkF _ _ _ [(.int (-1 : Int32))]))
  refine w_istoreN X #[.val (.ref t), .val (.int (47 : Int32)), .val (.int (-1 : Int32)), .val (.int (-1 : Int32))] k43_27_17 rfl ?_
  refine w_iloadN X k43_27_18 rfl ?_
  refine w_iflt X k43_27_19 (fun _ => ?_) (fun hc => absurd (by decide) hc)
  refine w_iconst X (-1 : Int32) k43_27_38 rfl ?_
  exact w_retI X k43_27_39 ⟨rfl, rfl⟩ (by decide) (by decide)
theorem m_l2x_E (hw : own_hw a0 Z) {h0 : Heap} {zc : Int32} {fm : Value} {a t : Addr}  (hS : own_S Z zc fm) (Ea : Exa Z h0 a "java/lang/String") (Ca : Fld Z h0 a "java/lang/String" "coder" "B" (.int (0 : Int32))) (Va : Fld Z h0 a "java/lang/String" "value" "[B" (.ref t)) (At : Ary Z h0 t .byte [])  :
    Does l Z n0 ⟨"java/lang/String", "lastIndexOf", "(II)I"⟩ jdk_42_method_83_code 3 (some .int) [] { frames := 2, cells := 0, slots := 0, locals := 28 } #[(.ref a), (.int (47 : Int32)), (.int (-1 : Int32))] h0 (fun v h => v = some (.int (-1 : Int32)) ∧ h0 = h) := by
  refine Does.start (plainFor_of_name pn_3) ?_
  obtain ⟨S_zc, hzc, S_fm, hfm⟩ := id hS
  intro p e s m below meth c T X
  replace X : Sd _ _ _ _ _ "java/lang/String" "lastIndexOf" _ _ _ _ _ _ _ _ _ _ _ _ _ _ _ _ := X
  refine Wp.cast (g' := mkF m 0 #[.val (.ref a), .val (.int (47 : Int32)), .val (.int (-1 : Int32))] []) (by first | (simp [entryFrame, mkF, argsToLocals, Value.category, maxLocals]; done) | rfl) ?_
  refine w_aloadN X k42_83_0 rfl (rfl) ?_
  refine w_callV X k42_83_1 (wd_212 hw) (wd_213 hw) (notFace_of_selects (args := #[]) (mvT X.hZ (wd_215 hw))) (wd_215 hw) (wd_214 hw) (wd_3 hw) (wd_216 hw) (by decide) Ea (argsL := []) (S := []) (m_isl hw hS Ca) pd_22 rfl rfl rfl (by decide) (leR rfl) (by decide) (by decide) (fun T h1 v1 L1 X q1 => ?_)
  obtain ⟨rfl, rfl⟩ := q1
  show Wp _ _ _ _ (T.setTop (mkF _ _ _ [(.int (1 : Int32))]))
  refine w_ifeq X k42_83_4 (fun hc => absurd hc (by decide)) (fun _ => ?_)
  refine w_aloadN X k42_83_7 rfl (rfl) ?_
  refine w_getF X k42_83_8 (host := "") (Or.inl (wd_35 hw)) Via.refl Va (fun T X => ?_)
  refine w_iloadN X k42_83_11 rfl ?_
  refine w_iloadN X k42_83_12 rfl ?_
  refine w_callS X k42_83_13 (wd_217 hw) (wd_218 hw) (wd_80 hw) (wd_219 hw) (by decide) (argsL := [(.ref t), (.int (47 : Int32)), (.int (-1 : Int32))]) (S := []) (m_l1x_E hw At ) pd_15 rfl rfl rfl (by decide) (leR rfl) (by decide) (by decide) (fun T h2 v2 L2 X q2 => ?_)
  obtain ⟨rfl, rfl⟩ := q2
  show Wp _ _ _ _ (T.setTop (mkF _ _ _ [(.int (-1 : Int32))]))
  refine w_goto X k42_83_16 ?_
  exact w_retI X k42_83_28 ⟨rfl, rfl⟩ (by decide) (by decide)
theorem m_l3x_E (hw : own_hw a0 Z) {h0 : Heap} {zc : Int32} {fm : Value} {a t : Addr}  (hS : own_S Z zc fm) (Ea : Exa Z h0 a "java/lang/String") (Ca : Fld Z h0 a "java/lang/String" "coder" "B" (.int (0 : Int32))) (Va : Fld Z h0 a "java/lang/String" "value" "[B" (.ref t)) (At : Ary Z h0 t .byte [])  :
    Does l Z n0 ⟨"java/lang/String", "lastIndexOf", "(I)I"⟩ jdk_42_method_82_code 2 (some .int) [] { frames := 3, cells := 0, slots := 0, locals := 42 } #[(.ref a), (.int (47 : Int32))] h0 (fun v h => v = some (.int (-1 : Int32)) ∧ h0 = h) := by
  refine Does.start (plainFor_of_name pn_3) ?_
  obtain ⟨S_zc, hzc, S_fm, hfm⟩ := id hS
  intro p e s m below meth c T X
  replace X : Sd _ _ _ _ _ "java/lang/String" "lastIndexOf" _ _ _ _ _ _ _ _ _ _ _ _ _ _ _ _ := X
  refine Wp.cast (g' := mkF m 0 #[.val (.ref a), .val (.int (47 : Int32))] []) (by first | (simp [entryFrame, mkF, argsToLocals, Value.category, maxLocals]; done) | rfl) ?_
  refine w_aloadN X k42_82_0 rfl (rfl) ?_
  refine w_iloadN X k42_82_1 rfl ?_
  refine w_aloadN X k42_82_2 rfl (rfl) ?_
  refine w_callV X k42_82_3 (wd_197 hw) (wd_198 hw) (notFace_of_selects (args := #[]) (mvT X.hZ (wd_200 hw))) (wd_200 hw) (wd_199 hw) (wd_3 hw) (wd_201 hw) (by decide) Ea (argsL := []) (S := [(.int (47 : Int32)), (.ref a)]) (m_len_0 hw hS Ea Ca Va At) pd_23 rfl rfl rfl (by decide) (leR rfl) (by decide) (by decide) (fun T h1 v1 L1 X q1 => ?_)
  obtain ⟨rfl, rfl⟩ := q1
  show Wp _ _ _ _ (T.setTop (mkF _ _ _ [(.int (0 : Int32)), (.int (47 : Int32)), (.ref a)]))
  refine w_iconst X (1 : Int32) k42_82_6 rfl ?_
  refine w_isub X k42_82_7 ?_
  refine w_callV X k42_82_8 (wd_207 hw) (wd_208 hw) (notFace_of_selects (args := #[]) (mvT X.hZ (wd_210 hw))) (wd_210 hw) (wd_209 hw) (wd_3 hw) (wd_211 hw) (by decide) Ea (argsL := [(.int (47 : Int32)), (.int (-1 : Int32))]) (S := []) (m_l2x_E hw hS Ea Ca Va At ) pd_1 rfl rfl rfl (by decide) (leR rfl) (by decide) (by decide) (fun T h2 v2 L2 X q2 => ?_)
  obtain ⟨rfl, rfl⟩ := q2
  show Wp _ _ _ _ (T.setTop (mkF _ _ _ [(.int (-1 : Int32))]))
  exact w_retI X k42_82_11 ⟨rfl, rfl⟩ (by decide) (by decide)
theorem m_cft_E (hw : own_hw a0 Z) {h0 : Heap} {fm : Value} (hfm : fm.isRef = true) :
    Does l Z n0 ⟨"jdk/internal/util/Preconditions", "checkFromToIndex", "(IIILjava/util/function/BiFunction;)I"⟩ jdk_41_method_12_code 4 (some .int) [] { frames := 0, cells := 0, slots := 0, locals := 0 } #[(.int (0 : Int32)), (.int (0 : Int32)), (.int (0 : Int32)), fm] h0 (fun v h => v = some (.int (0 : Int32)) ∧ h0 = h) := by
  refine Does.start (plainFor_of_name pn_5) ?_
  intro p e s m below meth c T X
  replace X : Sd _ _ _ _ _ "jdk/internal/util/Preconditions" "checkFromToIndex" _ _ _ _ _ _ _ _ _ _ _ _ _ _ _ _ := X
  refine Wp.cast (g' := mkF m 0 #[.val (.int (0 : Int32)), .val (.int (0 : Int32)), .val (.int (0 : Int32)), .val fm] []) (by rcases ref_cases hfm with rfl | ⟨_, rfl⟩ <;> first | (simp [entryFrame, mkF, argsToLocals, Value.category, maxLocals]; done) | rfl) ?_
  refine w_iloadN X k41_12_0 rfl ?_
  refine w_iflt X k41_12_1 (fun hc => absurd hc Int32.lt_irrefl) (fun _ => ?_)
  refine w_iloadN X k41_12_4 rfl ?_
  refine w_iloadN X k41_12_5 rfl ?_
  refine w_icmpgt X k41_12_6 (fun hc => absurd hc Int32.lt_irrefl) (fun _ => ?_)
  refine w_iloadN X k41_12_9 rfl ?_
  refine w_iloadN X k41_12_10 rfl ?_
  refine w_icmple X k41_12_11 (fun _ => ?_) (fun hc => absurd hc Int32.lt_irrefl)
  refine w_iloadN X k41_12_22 rfl ?_
  exact w_retI X k41_12_23 ⟨rfl, rfl⟩ (by decide) (by decide)
theorem m_cbe_E (hw : own_hw a0 Z) {h0 : Heap} {zc : Int32} {fm : Value} (hS : own_S Z zc fm) :
    Does l Z n0 ⟨"java/lang/String", "checkBoundsBeginEnd", "(III)V"⟩ jdk_42_method_158_code 3 none [] { frames := 1, cells := 0, slots := 0, locals := 15 } #[(.int (0 : Int32)), (.int (0 : Int32)), (.int (0 : Int32))] h0 (fun v h => v = none ∧ h0 = h) := by
  refine Does.start (plainFor_of_name pn_3) ?_
  obtain ⟨S_zc, hzc, S_fm, hfm⟩ := id hS
  intro p e s m below meth c T X
  replace X : Sd _ _ _ _ _ "java/lang/String" "checkBoundsBeginEnd" _ _ _ _ _ _ _ _ _ _ _ _ _ _ _ _ := X
  refine Wp.cast (g' := mkF m 0 #[.val (.int (0 : Int32)), .val (.int (0 : Int32)), .val (.int (0 : Int32))] []) (by first | (simp [entryFrame, mkF, argsToLocals, Value.category, maxLocals]; done) | rfl) ?_
  refine w_iloadN X k42_158_0 rfl ?_
  refine w_iloadN X k42_158_1 rfl ?_
  refine w_iloadN X k42_158_2 rfl ?_
  refine w_getS X k42_158_3 (host := "") (Or.inl (wd_143 hw)) Via.refl (S_fm.ext X.old.2) (fun T X => ?_)
  refine w_callS X k42_158_6 (wd_237 hw) (wd_238 hw) (wd_144 hw) (wd_239 hw) (by decide) (argsL := [(.int (0 : Int32)), (.int (0 : Int32)), (.int (0 : Int32)), fm]) (S := []) (m_cft_E hw hfm) pd_3 rfl rfl rfl (by decide) (leR rfl) (by decide) (by decide) (fun T h1 v1 L1 X q1 => ?_)
  obtain ⟨rfl, rfl⟩ := q1
  show Wp _ _ _ _ (T.setTop (mkF _ _ _ [(.int (0 : Int32))]))
  refine w_pop X k42_158_9 rfl ?_
  exact w_retV X k42_158_10 ⟨rfl, rfl⟩ (by decide) (by decide)
theorem m_sb2_E (hw : own_hw a0 Z) {h0 : Heap} {zc : Int32} {fm : Value} {a t : Addr}  (hS : own_S Z zc fm) (Ea : Exa Z h0 a "java/lang/String") (Ca : Fld Z h0 a "java/lang/String" "coder" "B" (.int (0 : Int32))) (Va : Fld Z h0 a "java/lang/String" "value" "[B" (.ref t)) (At : Ary Z h0 t .byte []) :
    Does l Z n0 ⟨"java/lang/String", "substring", "(II)Ljava/lang/String;"⟩ jdk_42_method_92_code 5 (some (.object "java/lang/String")) [] { frames := 2, cells := 0, slots := 0, locals := 29 } #[(.ref a), (.int (0 : Int32)), (.int (0 : Int32))] h0 (fun v h => v = some (.ref a) ∧ h0 = h) := by
  refine Does.start (plainFor_of_name pn_3) ?_
  obtain ⟨S_zc, hzc, S_fm, hfm⟩ := id hS
  intro p e s m below meth c T X
  replace X : Sd _ _ _ _ _ "java/lang/String" "substring" _ _ _ _ _ _ _ _ _ _ _ _ _ _ _ _ := X
  refine Wp.cast (g' := mkF m 0 #[.val (.ref a), .val (.int (0 : Int32)), .val (.int (0 : Int32)), .unset, .unset] []) (by first | (simp [entryFrame, mkF, argsToLocals, Value.category, maxLocals]; done) | rfl) ?_
  refine w_aloadN X k42_92_0 rfl (rfl) ?_
  refine w_callV X k42_92_1 (wd_197 hw) (wd_198 hw) (notFace_of_selects (args := #[]) (mvT X.hZ (wd_200 hw))) (wd_200 hw) (wd_199 hw) (wd_3 hw) (wd_201 hw) (by decide) Ea (argsL := []) (S := []) (m_len_0 hw hS Ea Ca Va At) pd_23 rfl rfl rfl (by decide) (leR rfl) (by decide) (by decide) (fun T h1 v1 L1 X q1 => ?_)
  obtain ⟨rfl, rfl⟩ := q1
  show Wp _ _ _ _ (T.setTop (mkF _ _ _ [(.int (0 : Int32))]))
  refine w_istoreN X #[.val (.ref a), .val (.int (0 : Int32)), .val (.int (0 : Int32)), .val (.int (0 : Int32)), .unset] k42_92_4 rfl ?_
  refine w_iloadN X k42_92_5 rfl ?_
  refine w_iloadN X k42_92_6 rfl ?_
  refine w_iloadN X k42_92_7 rfl ?_
  refine w_callS X k42_92_8 (wd_234 hw) (wd_235 hw) (wd_3 hw) (wd_236 hw) (by decide) (argsL := [(.int (0 : Int32)), (.int (0 : Int32)), (.int (0 : Int32))]) (S := []) (m_cbe_E hw hS) pd_24 rfl rfl rfl (by decide) (leR rfl) (by decide) (by decide) (fun T h2 v2 L2 X q2 => ?_)
  obtain ⟨rfl, rfl⟩ := q2
  show Wp _ _ _ _ (T.setTop (mkF _ _ _ []))
  refine w_iloadN X k42_92_11 rfl ?_
  refine w_ifne X k42_92_12 (fun hc => absurd rfl hc) (fun _ => ?_)
  refine w_iloadN X k42_92_15 rfl ?_
  refine w_iloadN X k42_92_16 rfl ?_
  refine w_icmpne X k42_92_17 (fun hc => absurd rfl hc) (fun _ => ?_)
  refine w_aloadN X k42_92_20 rfl (rfl) ?_
  exact w_retR X rfl (rfl) rfl k42_92_21 ⟨rfl, rfl⟩ (by decide) (by decide)
theorem m_sb1_E (hw : own_hw a0 Z) {h0 : Heap} {zc : Int32} {fm : Value} {a t : Addr}  (hS : own_S Z zc fm) (Ea : Exa Z h0 a "java/lang/String") (Ca : Fld Z h0 a "java/lang/String" "coder" "B" (.int (0 : Int32))) (Va : Fld Z h0 a "java/lang/String" "value" "[B" (.ref t)) (At : Ary Z h0 t .byte []) :
    Does l Z n0 ⟨"java/lang/String", "substring", "(I)Ljava/lang/String;"⟩ jdk_42_method_91_code 2 (some (.object "java/lang/String")) [] { frames := 3, cells := 0, slots := 0, locals := 45 } #[(.ref a), (.int (0 : Int32))] h0 (fun v h => v = some (.ref a) ∧ h0 = h) := by
  refine Does.start (plainFor_of_name pn_3) ?_
  obtain ⟨S_zc, hzc, S_fm, hfm⟩ := id hS
  intro p e s m below meth c T X
  replace X : Sd _ _ _ _ _ "java/lang/String" "substring" _ _ _ _ _ _ _ _ _ _ _ _ _ _ _ _ := X
  refine Wp.cast (g' := mkF m 0 #[.val (.ref a), .val (.int (0 : Int32))] []) (by first | (simp [entryFrame, mkF, argsToLocals, Value.category, maxLocals]; done) | rfl) ?_
  refine w_aloadN X k42_91_0 rfl (rfl) ?_
  refine w_iloadN X k42_91_1 rfl ?_
  refine w_aloadN X k42_91_2 rfl (rfl) ?_
  refine w_callV X k42_91_3 (wd_197 hw) (wd_198 hw) (notFace_of_selects (args := #[]) (mvT X.hZ (wd_200 hw))) (wd_200 hw) (wd_199 hw) (wd_3 hw) (wd_201 hw) (by decide) Ea (argsL := []) (S := [(.int (0 : Int32)), (.ref a)]) (m_len_0 hw hS Ea Ca Va At) pd_23 rfl rfl rfl (by decide) (leR rfl) (by decide) (by decide) (fun T h1 v1 L1 X q1 => ?_)
  obtain ⟨rfl, rfl⟩ := q1
  show Wp _ _ _ _ (T.setTop (mkF _ _ _ [(.int (0 : Int32)), (.int (0 : Int32)), (.ref a)]))
  refine w_callV X k42_91_6 (wd_229 hw) (wd_230 hw) (notFace_of_selects (args := #[]) (mvT X.hZ (wd_232 hw))) (wd_232 hw) (wd_231 hw) (wd_3 hw) (wd_233 hw) (by decide) Ea (argsL := [(.int (0 : Int32)), (.int (0 : Int32))]) (S := []) (m_sb2_E hw hS Ea Ca Va At) pd_25 rfl rfl rfl (by decide) (leR rfl) (by decide) (by decide) (fun T h2 v2 L2 X q2 => ?_)
  obtain ⟨rfl, rfl⟩ := q2
  show Wp _ _ _ _ (T.setTop (mkF _ _ _ [(.ref a)]))
  exact w_retR X rfl (rfl) rfl k42_91_9 ⟨rfl, rfl⟩ (by decide) (by decide)
theorem m_l1x_0 (hw : own_hw a0 Z) {h0 : Heap} {t : Addr} {x0 x1 x2 : Int32} (At : Ary Z h0 t .byte [(.int x0), (.int x1), (.int x2)]) (f2 : ¬ x2 = (47 : Int32)) (f1 : ¬ x1 = (47 : Int32)) (f0 : ¬ x0 = (47 : Int32)) :
    Does l Z n0 ⟨"java/lang/StringLatin1", "lastIndexOf", "([BII)I"⟩ jdk_43_method_27_code 4 (some .int) [] { frames := 1, cells := 0, slots := 0, locals := 13 } #[(.ref t), (.int (47 : Int32)), (.int (2 : Int32))] h0 (fun v h => v = some (.int (-1 : Int32)) ∧ h0 = h) := by
  refine Does.start (plainFor_of_name pn_7) ?_
  intro p e s m below meth c T X
  replace X : Sd _ _ _ _ _ "java/lang/StringLatin1" "lastIndexOf" _ _ _ _ _ _ _ _ _ _ _ _ _ _ _ _ := X
  refine Wp.cast (g' := mkF m 0 #[.val (.ref t), .val (.int (47 : Int32)), .val (.int (2 : Int32)), .unset] []) (by first | (simp [entryFrame, mkF, argsToLocals, Value.category, maxLocals]; done) | rfl) ?_
  refine w_iloadN X k43_27_0 rfl ?_
  refine w_callS X k43_27_1 (wd_220 hw) (wd_221 hw) (wd_80 hw) (wd_222 hw) (by decide) (argsL := [(.int (47 : Int32))]) (S := []) (m_enI hw) pd_8 rfl rfl rfl (by decide) (leR rfl) (by decide) (by decide) (fun T h1 v1 L1 X q1 => ?_)
  obtain ⟨rfl, rfl⟩ := q1
  show Wp _ _ _ _ (T.setTop (mkF _ _ _ [(.int (1 : Int32))]))
  refine w_ifne X k43_27_4 (fun _ => ?_) (fun hc => absurd hc (by decide))
  refine w_iloadN X k43_27_9 rfl ?_
  refine w_aloadN X k43_27_10 rfl (rfl) ?_
  refine w_arrlen X (3 : Int32) k43_27_11 At rfl ?_
  refine w_iconst X (1 : Int32) k43_27_12 rfl ?_
  refine w_isub X k43_27_13 ?_
  refine w_callS X k43_27_14 (wd_223 hw) (wd_168 hw) (wd_169 hw) (wd_170 hw) (by decide) (argsL := [(.int (2 : Int32)), (.int (2 : Int32))]) (S := []) (m_min hw (r := (2 : Int32)) (by decide)) pd_1 rfl rfl rfl (by decide) (leR rfl) (by decide) (by decide) (fun T h2 v2 L2 X q2 => ?_)
  obtain ⟨rfl, rfl⟩ := q2
  show Wp _ _ _ _ (T.setTop (mkF _ _ _ [(.int (2 : Int32))]))
  refine w_istoreN X #[.val (.ref t), .val (.int (47 : Int32)), .val (.int (2 : Int32)), .val (.int (2 : Int32))] k43_27_17 rfl ?_
  refine w_iloadN X k43_27_18 rfl ?_
  refine w_iflt X k43_27_19 (fun hc => absurd hc (by decide)) (fun _ => ?_)
  refine w_aloadN X k43_27_22 rfl (rfl) ?_
  refine w_iloadN X k43_27_23 rfl ?_
  refine w_baload X k43_27_24 At (by decide) rfl ?_
  refine w_iloadN X k43_27_25 rfl ?_
  refine w_i2b X k43_27_26 ?_
  refine w_icmpne X k43_27_27 (fun _ => ?_) (fun hc => absurd hc f2)
  refine w_iinc X (-1 : Int32) #[.val (.ref t), .val (.int (47 : Int32)), .val (.int (2 : Int32)), .val (.int (1 : Int32))] k43_27_32 rfl rfl rfl ?_
  refine w_goto X k43_27_35 ?_
  refine w_iloadN X k43_27_18 rfl ?_
  refine w_iflt X k43_27_19 (fun hc => absurd hc (by decide)) (fun _ => ?_)
  refine w_aloadN X k43_27_22 rfl (rfl) ?_
  refine w_iloadN X k43_27_23 rfl ?_
  refine w_baload X k43_27_24 At (by decide) rfl ?_
  refine w_iloadN X k43_27_25 rfl ?_
  refine w_i2b X k43_27_26 ?_
  refine w_icmpne X k43_27_27 (fun _ => ?_) (fun hc => absurd hc f1)
  refine w_iinc X (-1 : Int32) #[.val (.ref t), .val (.int (47 : Int32)), .val (.int (2 : Int32)), .val (.int (0 : Int32))] k43_27_32 rfl rfl rfl ?_
  refine w_goto X k43_27_35 ?_
  refine w_iloadN X k43_27_18 rfl ?_
  refine w_iflt X k43_27_19 (fun hc => absurd hc Int32.lt_irrefl) (fun _ => ?_)
  refine w_aloadN X k43_27_22 rfl (rfl) ?_
  refine w_iloadN X k43_27_23 rfl ?_
  refine w_baload X k43_27_24 At (by decide) rfl ?_
  refine w_iloadN X k43_27_25 rfl ?_
  refine w_i2b X k43_27_26 ?_
  refine w_icmpne X k43_27_27 (fun _ => ?_) (fun hc => absurd hc f0)
  refine w_iinc X (-1 : Int32) #[.val (.ref t), .val (.int (47 : Int32)), .val (.int (2 : Int32)), .val (.int (-1 : Int32))] k43_27_32 rfl rfl rfl ?_
  refine w_goto X k43_27_35 ?_
  refine w_iloadN X k43_27_18 rfl ?_
  refine w_iflt X k43_27_19 (fun _ => ?_) (fun hc => absurd (by decide) hc)
  refine w_iconst X (-1 : Int32) k43_27_38 rfl ?_
  exact w_retI X k43_27_39 ⟨rfl, rfl⟩ (by decide) (by decide)
theorem m_l2x_0 (hw : own_hw a0 Z) {h0 : Heap} {zc : Int32} {fm : Value} {a t : Addr} {x0 x1 x2 : Int32} (hS : own_S Z zc fm) (Ea : Exa Z h0 a "java/lang/String") (Ca : Fld Z h0 a "java/lang/String" "coder" "B" (.int (0 : Int32))) (Va : Fld Z h0 a "java/lang/String" "value" "[B" (.ref t)) (At : Ary Z h0 t .byte [(.int x0), (.int x1), (.int x2)]) (f2 : ¬ x2 = (47 : Int32)) (f1 : ¬ x1 = (47 : Int32)) (f0 : ¬ x0 = (47 : Int32)) :
    Does l Z n0 ⟨"java/lang/String", "lastIndexOf", "(II)I"⟩ jdk_42_method_83_code 3 (some .int) [] { frames := 2, cells := 0, slots := 0, locals := 28 } #[(.ref a), (.int (47 : Int32)), (.int (2 : Int32))] h0 (fun v h => v = some (.int (-1 : Int32)) ∧ h0 = h) := by
  refine Does.start (plainFor_of_name pn_3) ?_
  obtain ⟨S_zc, hzc, S_fm, hfm⟩ := id hS
  intro p e s m below meth c T X
  replace X : Sd _ _ _ _ _ "java/lang/String" "lastIndexOf" _ _ _ _ _ _ _ _ _ _ _ _ _ _ _ _ := X
  refine Wp.cast (g' := mkF m 0 #[.val (.ref a), .val (.int (47 : Int32)), .val (.int (2 : Int32))] []) (by first | (simp [entryFrame, mkF, argsToLocals, Value.category, maxLocals]; done) | rfl) ?_
  refine w_aloadN X k42_83_0 rfl (rfl) ?_
  refine w_callV X k42_83_1 (wd_212 hw) (wd_213 hw) (notFace_of_selects (args := #[]) (mvT X.hZ (wd_215 hw))) (wd_215 hw) (wd_214 hw) (wd_3 hw) (wd_216 hw) (by decide) Ea (argsL := []) (S := []) (m_isl hw hS Ca) pd_22 rfl rfl rfl (by decide) (leR rfl) (by decide) (by decide) (fun T h1 v1 L1 X q1 => ?_)
  obtain ⟨rfl, rfl⟩ := q1
  show Wp _ _ _ _ (T.setTop (mkF _ _ _ [(.int (1 : Int32))]))
  refine w_ifeq X k42_83_4 (fun hc => absurd hc (by decide)) (fun _ => ?_)
  refine w_aloadN X k42_83_7 rfl (rfl) ?_
  refine w_getF X k42_83_8 (host := "") (Or.inl (wd_35 hw)) Via.refl Va (fun T X => ?_)
  refine w_iloadN X k42_83_11 rfl ?_
  refine w_iloadN X k42_83_12 rfl ?_
  refine w_callS X k42_83_13 (wd_217 hw) (wd_218 hw) (wd_80 hw) (wd_219 hw) (by decide) (argsL := [(.ref t), (.int (47 : Int32)), (.int (2 : Int32))]) (S := []) (m_l1x_0 hw At f2 f1 f0) pd_15 rfl rfl rfl (by decide) (leR rfl) (by decide) (by decide) (fun T h2 v2 L2 X q2 => ?_)
  obtain ⟨rfl, rfl⟩ := q2
  show Wp _ _ _ _ (T.setTop (mkF _ _ _ [(.int (-1 : Int32))]))
  refine w_goto X k42_83_16 ?_
  exact w_retI X k42_83_28 ⟨rfl, rfl⟩ (by decide) (by decide)
theorem m_l3x_0 (hw : own_hw a0 Z) {h0 : Heap} {zc : Int32} {fm : Value} {a t : Addr} {x0 x1 x2 : Int32} (hS : own_S Z zc fm) (Ea : Exa Z h0 a "java/lang/String") (Ca : Fld Z h0 a "java/lang/String" "coder" "B" (.int (0 : Int32))) (Va : Fld Z h0 a "java/lang/String" "value" "[B" (.ref t)) (At : Ary Z h0 t .byte [(.int x0), (.int x1), (.int x2)]) (f2 : ¬ x2 = (47 : Int32)) (f1 : ¬ x1 = (47 : Int32)) (f0 : ¬ x0 = (47 : Int32)) :
    Does l Z n0 ⟨"java/lang/String", "lastIndexOf", "(I)I"⟩ jdk_42_method_82_code 2 (some .int) [] { frames := 3, cells := 0, slots := 0, locals := 42 } #[(.ref a), (.int (47 : Int32))] h0 (fun v h => v = some (.int (-1 : Int32)) ∧ h0 = h) := by
  refine Does.start (plainFor_of_name pn_3) ?_
  obtain ⟨S_zc, hzc, S_fm, hfm⟩ := id hS
  intro p e s m below meth c T X
  replace X : Sd _ _ _ _ _ "java/lang/String" "lastIndexOf" _ _ _ _ _ _ _ _ _ _ _ _ _ _ _ _ := X
  refine Wp.cast (g' := mkF m 0 #[.val (.ref a), .val (.int (47 : Int32))] []) (by first | (simp [entryFrame, mkF, argsToLocals, Value.category, maxLocals]; done) | rfl) ?_
  refine w_aloadN X k42_82_0 rfl (rfl) ?_
  refine w_iloadN X k42_82_1 rfl ?_
  refine w_aloadN X k42_82_2 rfl (rfl) ?_
  refine w_callV X k42_82_3 (wd_197 hw) (wd_198 hw) (notFace_of_selects (args := #[]) (mvT X.hZ (wd_200 hw))) (wd_200 hw) (wd_199 hw) (wd_3 hw) (wd_201 hw) (by decide) Ea (argsL := []) (S := [(.int (47 : Int32)), (.ref a)]) (m_len_3 hw hS Ea Ca Va At) pd_23 rfl rfl rfl (by decide) (leR rfl) (by decide) (by decide) (fun T h1 v1 L1 X q1 => ?_)
  obtain ⟨rfl, rfl⟩ := q1
  show Wp _ _ _ _ (T.setTop (mkF _ _ _ [(.int (3 : Int32)), (.int (47 : Int32)), (.ref a)]))
  refine w_iconst X (1 : Int32) k42_82_6 rfl ?_
  refine w_isub X k42_82_7 ?_
  refine w_callV X k42_82_8 (wd_207 hw) (wd_208 hw) (notFace_of_selects (args := #[]) (mvT X.hZ (wd_210 hw))) (wd_210 hw) (wd_209 hw) (wd_3 hw) (wd_211 hw) (by decide) Ea (argsL := [(.int (47 : Int32)), (.int (2 : Int32))]) (S := []) (m_l2x_0 hw hS Ea Ca Va At f2 f1 f0) pd_1 rfl rfl rfl (by decide) (leR rfl) (by decide) (by decide) (fun T h2 v2 L2 X q2 => ?_)
  obtain ⟨rfl, rfl⟩ := q2
  show Wp _ _ _ _ (T.setTop (mkF _ _ _ [(.int (-1 : Int32))]))
  exact w_retI X k42_82_11 ⟨rfl, rfl⟩ (by decide) (by decide)
theorem m_cft_0 (hw : own_hw a0 Z) {h0 : Heap} {fm : Value} (hfm : fm.isRef = true) :
    Does l Z n0 ⟨"jdk/internal/util/Preconditions", "checkFromToIndex", "(IIILjava/util/function/BiFunction;)I"⟩ jdk_41_method_12_code 4 (some .int) [] { frames := 0, cells := 0, slots := 0, locals := 0 } #[(.int (0 : Int32)), (.int (3 : Int32)), (.int (3 : Int32)), fm] h0 (fun v h => v = some (.int (0 : Int32)) ∧ h0 = h) := by
  refine Does.start (plainFor_of_name pn_5) ?_
  intro p e s m below meth c T X
  replace X : Sd _ _ _ _ _ "jdk/internal/util/Preconditions" "checkFromToIndex" _ _ _ _ _ _ _ _ _ _ _ _ _ _ _ _ := X
  refine Wp.cast (g' := mkF m 0 #[.val (.int (0 : Int32)), .val (.int (3 : Int32)), .val (.int (3 : Int32)), .val fm] []) (by rcases ref_cases hfm with rfl | ⟨_, rfl⟩ <;> first | (simp [entryFrame, mkF, argsToLocals, Value.category, maxLocals]; done) | rfl) ?_
  refine w_iloadN X k41_12_0 rfl ?_
  refine w_iflt X k41_12_1 (fun hc => absurd hc Int32.lt_irrefl) (fun _ => ?_)
  refine w_iloadN X k41_12_4 rfl ?_
  refine w_iloadN X k41_12_5 rfl ?_
  refine w_icmpgt X k41_12_6 (fun hc => absurd hc (by decide)) (fun _ => ?_)
  refine w_iloadN X k41_12_9 rfl ?_
  refine w_iloadN X k41_12_10 rfl ?_
  refine w_icmple X k41_12_11 (fun _ => ?_) (fun hc => absurd hc Int32.lt_irrefl)
  refine w_iloadN X k41_12_22 rfl ?_
  exact w_retI X k41_12_23 ⟨rfl, rfl⟩ (by decide) (by decide)
theorem m_cbe_0 (hw : own_hw a0 Z) {h0 : Heap} {zc : Int32} {fm : Value} (hS : own_S Z zc fm) :
    Does l Z n0 ⟨"java/lang/String", "checkBoundsBeginEnd", "(III)V"⟩ jdk_42_method_158_code 3 none [] { frames := 1, cells := 0, slots := 0, locals := 15 } #[(.int (0 : Int32)), (.int (3 : Int32)), (.int (3 : Int32))] h0 (fun v h => v = none ∧ h0 = h) := by
  refine Does.start (plainFor_of_name pn_3) ?_
  obtain ⟨S_zc, hzc, S_fm, hfm⟩ := id hS
  intro p e s m below meth c T X
  replace X : Sd _ _ _ _ _ "java/lang/String" "checkBoundsBeginEnd" _ _ _ _ _ _ _ _ _ _ _ _ _ _ _ _ := X
  refine Wp.cast (g' := mkF m 0 #[.val (.int (0 : Int32)), .val (.int (3 : Int32)), .val (.int (3 : Int32))] []) (by first | (simp [entryFrame, mkF, argsToLocals, Value.category, maxLocals]; done) | rfl) ?_
  refine w_iloadN X k42_158_0 rfl ?_
  refine w_iloadN X k42_158_1 rfl ?_
  refine w_iloadN X k42_158_2 rfl ?_
  refine w_getS X k42_158_3 (host := "") (Or.inl (wd_143 hw)) Via.refl (S_fm.ext X.old.2) (fun T X => ?_)
  refine w_callS X k42_158_6 (wd_237 hw) (wd_238 hw) (wd_144 hw) (wd_239 hw) (by decide) (argsL := [(.int (0 : Int32)), (.int (3 : Int32)), (.int (3 : Int32)), fm]) (S := []) (m_cft_0 hw hfm) pd_3 rfl rfl rfl (by decide) (leR rfl) (by decide) (by decide) (fun T h1 v1 L1 X q1 => ?_)
  obtain ⟨rfl, rfl⟩ := q1
  show Wp _ _ _ _ (T.setTop (mkF _ _ _ [(.int (0 : Int32))]))
  refine w_pop X k42_158_9 rfl ?_
  exact w_retV X k42_158_10 ⟨rfl, rfl⟩ (by decide) (by decide)
theorem m_sb2_0 (hw : own_hw a0 Z) {h0 : Heap} {zc : Int32} {fm : Value} {a t : Addr} {x0 x1 x2 : Int32} (hS : own_S Z zc fm) (Ea : Exa Z h0 a "java/lang/String") (Ca : Fld Z h0 a "java/lang/String" "coder" "B" (.int (0 : Int32))) (Va : Fld Z h0 a "java/lang/String" "value" "[B" (.ref t)) (At : Ary Z h0 t .byte [(.int x0), (.int x1), (.int x2)]) :
    Does l Z n0 ⟨"java/lang/String", "substring", "(II)Ljava/lang/String;"⟩ jdk_42_method_92_code 5 (some (.object "java/lang/String")) [] { frames := 2, cells := 0, slots := 0, locals := 29 } #[(.ref a), (.int (0 : Int32)), (.int (3 : Int32))] h0 (fun v h => v = some (.ref a) ∧ h0 = h) := by
  refine Does.start (plainFor_of_name pn_3) ?_
  obtain ⟨S_zc, hzc, S_fm, hfm⟩ := id hS
  intro p e s m below meth c T X
  replace X : Sd _ _ _ _ _ "java/lang/String" "substring" _ _ _ _ _ _ _ _ _ _ _ _ _ _ _ _ := X
  refine Wp.cast (g' := mkF m 0 #[.val (.ref a), .val (.int (0 : Int32)), .val (.int (3 : Int32)), .unset, .unset] []) (by first | (simp [entryFrame, mkF, argsToLocals, Value.category, maxLocals]; done) | rfl) ?_
  refine w_aloadN X k42_92_0 rfl (rfl) ?_
  refine w_callV X k42_92_1 (wd_197 hw) (wd_198 hw) (notFace_of_selects (args := #[]) (mvT X.hZ (wd_200 hw))) (wd_200 hw) (wd_199 hw) (wd_3 hw) (wd_201 hw) (by decide) Ea (argsL := []) (S := []) (m_len_3 hw hS Ea Ca Va At) pd_23 rfl rfl rfl (by decide) (leR rfl) (by decide) (by decide) (fun T h1 v1 L1 X q1 => ?_)
  obtain ⟨rfl, rfl⟩ := q1
  show Wp _ _ _ _ (T.setTop (mkF _ _ _ [(.int (3 : Int32))]))
  refine w_istoreN X #[.val (.ref a), .val (.int (0 : Int32)), .val (.int (3 : Int32)), .val (.int (3 : Int32)), .unset] k42_92_4 rfl ?_
  refine w_iloadN X k42_92_5 rfl ?_
  refine w_iloadN X k42_92_6 rfl ?_
  refine w_iloadN X k42_92_7 rfl ?_
  refine w_callS X k42_92_8 (wd_234 hw) (wd_235 hw) (wd_3 hw) (wd_236 hw) (by decide) (argsL := [(.int (0 : Int32)), (.int (3 : Int32)), (.int (3 : Int32))]) (S := []) (m_cbe_0 hw hS) pd_24 rfl rfl rfl (by decide) (leR rfl) (by decide) (by decide) (fun T h2 v2 L2 X q2 => ?_)
  obtain ⟨rfl, rfl⟩ := q2
  show Wp _ _ _ _ (T.setTop (mkF _ _ _ []))
  refine w_iloadN X k42_92_11 rfl ?_
  refine w_ifne X k42_92_12 (fun hc => absurd rfl hc) (fun _ => ?_)
  refine w_iloadN X k42_92_15 rfl ?_
  refine w_iloadN X k42_92_16 rfl ?_
  refine w_icmpne X k42_92_17 (fun hc => absurd rfl hc) (fun _ => ?_)
  refine w_aloadN X k42_92_20 rfl (rfl) ?_
  exact w_retR X rfl (rfl) rfl k42_92_21 ⟨rfl, rfl⟩ (by decide) (by decide)
theorem m_sb1_0 (hw : own_hw a0 Z) {h0 : Heap} {zc : Int32} {fm : Value} {a t : Addr} {x0 x1 x2 : Int32} (hS : own_S Z zc fm) (Ea : Exa Z h0 a "java/lang/String") (Ca : Fld Z h0 a "java/lang/String" "coder" "B" (.int (0 : Int32))) (Va : Fld Z h0 a "java/lang/String" "value" "[B" (.ref t)) (At : Ary Z h0 t .byte [(.int x0), (.int x1), (.int x2)]) :
    Does l Z n0 ⟨"java/lang/String", "substring", "(I)Ljava/lang/String;"⟩ jdk_42_method_91_code 2 (some (.object "java/lang/String")) [] { frames := 3, cells := 0, slots := 0, locals := 45 } #[(.ref a), (.int (0 : Int32))] h0 (fun v h => v = some (.ref a) ∧ h0 = h) := by
  refine Does.start (plainFor_of_name pn_3) ?_
  obtain ⟨S_zc, hzc, S_fm, hfm⟩ := id hS
  intro p e s m below meth c T X
  replace X : Sd _ _ _ _ _ "java/lang/String" "substring" _ _ _ _ _ _ _ _ _ _ _ _ _ _ _ _ := X
  refine Wp.cast (g' := mkF m 0 #[.val (.ref a), .val (.int (0 : Int32))] []) (by first | (simp [entryFrame, mkF, argsToLocals, Value.category, maxLocals]; done) | rfl) ?_
  refine w_aloadN X k42_91_0 rfl (rfl) ?_
  refine w_iloadN X k42_91_1 rfl ?_
  refine w_aloadN X k42_91_2 rfl (rfl) ?_
  refine w_callV X k42_91_3 (wd_197 hw) (wd_198 hw) (notFace_of_selects (args := #[]) (mvT X.hZ (wd_200 hw))) (wd_200 hw) (wd_199 hw) (wd_3 hw) (wd_201 hw) (by decide) Ea (argsL := []) (S := [(.int (0 : Int32)), (.ref a)]) (m_len_3 hw hS Ea Ca Va At) pd_23 rfl rfl rfl (by decide) (leR rfl) (by decide) (by decide) (fun T h1 v1 L1 X q1 => ?_)
  obtain ⟨rfl, rfl⟩ := q1
  show Wp _ _ _ _ (T.setTop (mkF _ _ _ [(.int (3 : Int32)), (.int (0 : Int32)), (.ref a)]))
  refine w_callV X k42_91_6 (wd_229 hw) (wd_230 hw) (notFace_of_selects (args := #[]) (mvT X.hZ (wd_232 hw))) (wd_232 hw) (wd_231 hw) (wd_3 hw) (wd_233 hw) (by decide) Ea (argsL := [(.int (0 : Int32)), (.int (3 : Int32))]) (S := []) (m_sb2_0 hw hS Ea Ca Va At) pd_25 rfl rfl rfl (by decide) (leR rfl) (by decide) (by decide) (fun T h2 v2 L2 X q2 => ?_)
  obtain ⟨rfl, rfl⟩ := q2
  show Wp _ _ _ _ (T.setTop (mkF _ _ _ [(.ref a)]))
  exact w_retR X rfl (rfl) rfl k42_91_9 ⟨rfl, rfl⟩ (by decide) (by decide)
theorem m_l1x_1 (hw : own_hw a0 Z) {h0 : Heap} {t : Addr} {x0 x1 x2 : Int32} (At : Ary Z h0 t .byte [(.int x0), (.int x1), (.int x2)]) (f2 : ¬ x2 = (47 : Int32)) (f1 : ¬ x1 = (47 : Int32)) (e0 : x0 = (47 : Int32)) :
    Does l Z n0 ⟨"java/lang/StringLatin1", "lastIndexOf", "([BII)I"⟩ jdk_43_method_27_code 4 (some .int) [] { frames := 1, cells := 0, slots := 0, locals := 13 } #[(.ref t), (.int (47 : Int32)), (.int (2 : Int32))] h0 (fun v h => v = some (.int (0 : Int32)) ∧ h0 = h) := by
  refine Does.start (plainFor_of_name pn_7) ?_
  intro p e s m below meth c T X
  replace X : Sd _ _ _ _ _ "java/lang/StringLatin1" "lastIndexOf" _ _ _ _ _ _ _ _ _ _ _ _ _ _ _ _ := X
  refine Wp.cast (g' := mkF m 0 #[.val (.ref t), .val (.int (47 : Int32)), .val (.int (2 : Int32)), .unset] []) (by first | (simp [entryFrame, mkF, argsToLocals, Value.category, maxLocals]; done) | rfl) ?_
  refine w_iloadN X k43_27_0 rfl ?_
  refine w_callS X k43_27_1 (wd_220 hw) (wd_221 hw) (wd_80 hw) (wd_222 hw) (by decide) (argsL := [(.int (47 : Int32))]) (S := []) (m_enI hw) pd_8 rfl rfl rfl (by decide) (leR rfl) (by decide) (by decide) (fun T h1 v1 L1 X q1 => ?_)
  obtain ⟨rfl, rfl⟩ := q1
  show Wp _ _ _ _ (T.setTop (mkF _ _ _ [(.int (1 : Int32))]))
  refine w_ifne X k43_27_4 (fun _ => ?_) (fun hc => absurd hc (by decide))
  refine w_iloadN X k43_27_9 rfl ?_
  refine w_aloadN X k43_27_10 rfl (rfl) ?_
  refine w_arrlen X (3 : Int32) k43_27_11 At rfl ?_
  refine w_iconst X (1 : Int32) k43_27_12 rfl ?_
  refine w_isub X k43_27_13 ?_
  refine w_callS X k43_27_14 (wd_223 hw) (wd_168 hw) (wd_169 hw) (wd_170 hw) (by decide) (argsL := [(.int (2 : Int32)), (.int (2 : Int32))]) (S := []) (m_min hw (r := (2 : Int32)) (by decide)) pd_1 rfl rfl rfl (by decide) (leR rfl) (by decide) (by decide) (fun T h2 v2 L2 X q2 => ?_)
  obtain ⟨rfl, rfl⟩ := q2
  show Wp _ _ _ _ (T.setTop (mkF _ _ _ [(.int (2 : Int32))]))
  refine w_istoreN X #[.val (.ref t), .val (.int (47 : Int32)), .val (.int (2 : Int32)), .val (.int (2 : Int32))] k43_27_17 rfl ?_
  refine w_iloadN X k43_27_18 rfl ?_
  refine w_iflt X k43_27_19 (fun hc => absurd hc (by decide)) (fun _ => ?_)
  refine w_aloadN X k43_27_22 rfl (rfl) ?_
  refine w_iloadN X k43_27_23 rfl ?_
  refine w_baload X k43_27_24 At (by decide) rfl ?_
  refine w_iloadN X k43_27_25 rfl ?_
  refine w_i2b X k43_27_26 ?_
  refine w_icmpne X k43_27_27 (fun _ => ?_) (fun hc => absurd hc f2)
  refine w_iinc X (-1 : Int32) #[.val (.ref t), .val (.int (47 : Int32)), .val (.int (2 : Int32)), .val (.int (1 : Int32))] k43_27_32 rfl rfl rfl ?_
  refine w_goto X k43_27_35 ?_
  refine w_iloadN X k43_27_18 rfl ?_
  refine w_iflt X k43_27_19 (fun hc => absurd hc (by decide)) (fun _ => ?_)
  refine w_aloadN X k43_27_22 rfl (rfl) ?_
  refine w_iloadN X k43_27_23 rfl ?_
  refine w_baload X k43_27_24 At (by decide) rfl ?_
  refine w_iloadN X k43_27_25 rfl ?_
  refine w_i2b X k43_27_26 ?_
  refine w_icmpne X k43_27_27 (fun _ => ?_) (fun hc => absurd hc f1)
  refine w_iinc X (-1 : Int32) #[.val (.ref t), .val (.int (47 : Int32)), .val (.int (2 : Int32)), .val (.int (0 : Int32))] k43_27_32 rfl rfl rfl ?_
  refine w_goto X k43_27_35 ?_
  refine w_iloadN X k43_27_18 rfl ?_
  refine w_iflt X k43_27_19 (fun hc => absurd hc Int32.lt_irrefl) (fun _ => ?_)
  refine w_aloadN X k43_27_22 rfl (rfl) ?_
  refine w_iloadN X k43_27_23 rfl ?_
  refine w_baload X k43_27_24 At (by decide) rfl ?_
  refine w_iloadN X k43_27_25 rfl ?_
  refine w_i2b X k43_27_26 ?_
  refine w_icmpne X k43_27_27 (fun hc => absurd e0 hc) (fun _ => ?_)
  refine w_iloadN X k43_27_30 rfl ?_
  exact w_retI X k43_27_31 ⟨rfl, rfl⟩ (by decide) (by decide)
theorem m_l2x_1 (hw : own_hw a0 Z) {h0 : Heap} {zc : Int32} {fm : Value} {a t : Addr} {x0 x1 x2 : Int32} (hS : own_S Z zc fm) (Ea : Exa Z h0 a "java/lang/String") (Ca : Fld Z h0 a "java/lang/String" "coder" "B" (.int (0 : Int32))) (Va : Fld Z h0 a "java/lang/String" "value" "[B" (.ref t)) (At : Ary Z h0 t .byte [(.int x0), (.int x1), (.int x2)]) (f2 : ¬ x2 = (47 : Int32)) (f1 : ¬ x1 = (47 : Int32)) (e0 : x0 = (47 : Int32)) :
    Does l Z n0 ⟨"java/lang/String", "lastIndexOf", "(II)I"⟩ jdk_42_method_83_code 3 (some .int) [] { frames := 2, cells := 0, slots := 0, locals := 28 } #[(.ref a), (.int (47 : Int32)), (.int (2 : Int32))] h0 (fun v h => v = some (.int (0 : Int32)) ∧ h0 = h) := by
  refine Does.start (plainFor_of_name pn_3) ?_
  obtain ⟨S_zc, hzc, S_fm, hfm⟩ := id hS
  intro p e s m below meth c T X
  replace X : Sd _ _ _ _ _ "java/lang/String" "lastIndexOf" _ _ _ _ _ _ _ _ _ _ _ _ _ _ _ _ := X
  refine Wp.cast (g' := mkF m 0 #[.val (.ref a), .val (.int (47 : Int32)), .val (.int (2 : Int32))] []) (by first | (simp [entryFrame, mkF, argsToLocals, Value.category, maxLocals]; done) | rfl) ?_
  refine w_aloadN X k42_83_0 rfl (rfl) ?_
  refine w_callV X k42_83_1 (wd_212 hw) (wd_213 hw) (notFace_of_selects (args := #[]) (mvT X.hZ (wd_215 hw))) (wd_215 hw) (wd_214 hw) (wd_3 hw) (wd_216 hw) (by decide) Ea (argsL := []) (S := []) (m_isl hw hS Ca) pd_22 rfl rfl rfl (by decide) (leR rfl) (by decide) (by decide) (fun T h1 v1 L1 X q1 => ?_)
  obtain ⟨rfl, rfl⟩ := q1
  show Wp _ _ _ _ (T.setTop (mkF _ _ _ [(.int (1 : Int32))]))
  refine w_ifeq X k42_83_4 (fun hc => absurd hc (by decide)) (fun _ => ?_)
  refine w_aloadN X k42_83_7 rfl (rfl) ?_
  refine w_getF X k42_83_8 (host := "") (Or.inl (wd_35 hw)) Via.refl Va (fun T X => ?_)
  refine w_iloadN X k42_83_11 rfl ?_
  refine w_iloadN X k42_83_12 rfl ?_
  refine w_callS X k42_83_13 (wd_217 hw) (wd_218 hw) (wd_80 hw) (wd_219 hw) (by decide) (argsL := [(.ref t), (.int (47 : Int32)), (.int (2 : Int32))]) (S := []) (m_l1x_1 hw At f2 f1 e0) pd_15 rfl rfl rfl (by decide) (leR rfl) (by decide) (by decide) (fun T h2 v2 L2 X q2 => ?_)
  obtain ⟨rfl, rfl⟩ := q2
  show Wp _ _ _ _ (T.setTop (mkF _ _ _ [(.int (0 : Int32))]))
  refine w_goto X k42_83_16 ?_
  exact w_retI X k42_83_28 ⟨rfl, rfl⟩ (by decide) (by decide)
theorem m_l3x_1 (hw : own_hw a0 Z) {h0 : Heap} {zc : Int32} {fm : Value} {a t : Addr} {x0 x1 x2 : Int32} (hS : own_S Z zc fm) (Ea : Exa Z h0 a "java/lang/String") (Ca : Fld Z h0 a "java/lang/String" "coder" "B" (.int (0 : Int32))) (Va : Fld Z h0 a "java/lang/String" "value" "[B" (.ref t)) (At : Ary Z h0 t .byte [(.int x0), (.int x1), (.int x2)]) (f2 : ¬ x2 = (47 : Int32)) (f1 : ¬ x1 = (47 : Int32)) (e0 : x0 = (47 : Int32)) :
    Does l Z n0 ⟨"java/lang/String", "lastIndexOf", "(I)I"⟩ jdk_42_method_82_code 2 (some .int) [] { frames := 3, cells := 0, slots := 0, locals := 42 } #[(.ref a), (.int (47 : Int32))] h0 (fun v h => v = some (.int (0 : Int32)) ∧ h0 = h) := by
  refine Does.start (plainFor_of_name pn_3) ?_
  obtain ⟨S_zc, hzc, S_fm, hfm⟩ := id hS
  intro p e s m below meth c T X
  replace X : Sd _ _ _ _ _ "java/lang/String" "lastIndexOf" _ _ _ _ _ _ _ _ _ _ _ _ _ _ _ _ := X
  refine Wp.cast (g' := mkF m 0 #[.val (.ref a), .val (.int (47 : Int32))] []) (by first | (simp [entryFrame, mkF, argsToLocals, Value.category, maxLocals]; done) | rfl) ?_
  refine w_aloadN X k42_82_0 rfl (rfl) ?_
  refine w_iloadN X k42_82_1 rfl ?_
  refine w_aloadN X k42_82_2 rfl (rfl) ?_
  refine w_callV X k42_82_3 (wd_197 hw) (wd_198 hw) (notFace_of_selects (args := #[]) (mvT X.hZ (wd_200 hw))) (wd_200 hw) (wd_199 hw) (wd_3 hw) (wd_201 hw) (by decide) Ea (argsL := []) (S := [(.int (47 : Int32)), (.ref a)]) (m_len_3 hw hS Ea Ca Va At) pd_23 rfl rfl rfl (by decide) (leR rfl) (by decide) (by decide) (fun T h1 v1 L1 X q1 => ?_)
  obtain ⟨rfl, rfl⟩ := q1
  show Wp _ _ _ _ (T.setTop (mkF _ _ _ [(.int (3 : Int32)), (.int (47 : Int32)), (.ref a)]))
  refine w_iconst X (1 : Int32) k42_82_6 rfl ?_
  refine w_isub X k42_82_7 ?_
  refine w_callV X k42_82_8 (wd_207 hw) (wd_208 hw) (notFace_of_selects (args := #[]) (mvT X.hZ (wd_210 hw))) (wd_210 hw) (wd_209 hw) (wd_3 hw) (wd_211 hw) (by decide) Ea (argsL := [(.int (47 : Int32)), (.int (2 : Int32))]) (S := []) (m_l2x_1 hw hS Ea Ca Va At f2 f1 e0) pd_1 rfl rfl rfl (by decide) (leR rfl) (by decide) (by decide) (fun T h2 v2 L2 X q2 => ?_)
  obtain ⟨rfl, rfl⟩ := q2
  show Wp _ _ _ _ (T.setTop (mkF _ _ _ [(.int (0 : Int32))]))
  exact w_retI X k42_82_11 ⟨rfl, rfl⟩ (by decide) (by decide)
theorem m_cft_1 (hw : own_hw a0 Z) {h0 : Heap} {fm : Value} (hfm : fm.isRef = true) :
    Does l Z n0 ⟨"jdk/internal/util/Preconditions", "checkFromToIndex", "(IIILjava/util/function/BiFunction;)I"⟩ jdk_41_method_12_code 4 (some .int) [] { frames := 0, cells := 0, slots := 0, locals := 0 } #[(.int (1 : Int32)), (.int (3 : Int32)), (.int (3 : Int32)), fm] h0 (fun v h => v = some (.int (1 : Int32)) ∧ h0 = h) := by
  refine Does.start (plainFor_of_name pn_5) ?_
  intro p e s m below meth c T X
  replace X : Sd _ _ _ _ _ "jdk/internal/util/Preconditions" "checkFromToIndex" _ _ _ _ _ _ _ _ _ _ _ _ _ _ _ _ := X
  refine Wp.cast (g' := mkF m 0 #[.val (.int (1 : Int32)), .val (.int (3 : Int32)), .val (.int (3 : Int32)), .val fm] []) (by rcases ref_cases hfm with rfl | ⟨_, rfl⟩ <;> first | (simp [entryFrame, mkF, argsToLocals, Value.category, maxLocals]; done) | rfl) ?_
  refine w_iloadN X k41_12_0 rfl ?_
  refine w_iflt X k41_12_1 (fun hc => absurd hc (by decide)) (fun _ => ?_)
  refine w_iloadN X k41_12_4 rfl ?_
  refine w_iloadN X k41_12_5 rfl ?_
  refine w_icmpgt X k41_12_6 (fun hc => absurd hc (by decide)) (fun _ => ?_)
  refine w_iloadN X k41_12_9 rfl ?_
  refine w_iloadN X k41_12_10 rfl ?_
  refine w_icmple X k41_12_11 (fun _ => ?_) (fun hc => absurd hc Int32.lt_irrefl)
  refine w_iloadN X k41_12_22 rfl ?_
  exact w_retI X k41_12_23 ⟨rfl, rfl⟩ (by decide) (by decide)
theorem m_cbe_1 (hw : own_hw a0 Z) {h0 : Heap} {zc : Int32} {fm : Value} (hS : own_S Z zc fm) :
    Does l Z n0 ⟨"java/lang/String", "checkBoundsBeginEnd", "(III)V"⟩ jdk_42_method_158_code 3 none [] { frames := 1, cells := 0, slots := 0, locals := 15 } #[(.int (1 : Int32)), (.int (3 : Int32)), (.int (3 : Int32))] h0 (fun v h => v = none ∧ h0 = h) := by
  refine Does.start (plainFor_of_name pn_3) ?_
  obtain ⟨S_zc, hzc, S_fm, hfm⟩ := id hS
  intro p e s m below meth c T X
  replace X : Sd _ _ _ _ _ "java/lang/String" "checkBoundsBeginEnd" _ _ _ _ _ _ _ _ _ _ _ _ _ _ _ _ := X
  refine Wp.cast (g' := mkF m 0 #[.val (.int (1 : Int32)), .val (.int (3 : Int32)), .val (.int (3 : Int32))] []) (by first | (simp [entryFrame, mkF, argsToLocals, Value.category, maxLocals]; done) | rfl) ?_
  refine w_iloadN X k42_158_0 rfl ?_
  refine w_iloadN X k42_158_1 rfl ?_
  refine w_iloadN X k42_158_2 rfl ?_
  refine w_getS X k42_158_3 (host := "") (Or.inl (wd_143 hw)) Via.refl (S_fm.ext X.old.2) (fun T X => ?_)
  refine w_callS X k42_158_6 (wd_237 hw) (wd_238 hw) (wd_144 hw) (wd_239 hw) (by decide) (argsL := [(.int (1 : Int32)), (.int (3 : Int32)), (.int (3 : Int32)), fm]) (S := []) (m_cft_1 hw hfm) pd_3 rfl rfl rfl (by decide) (leR rfl) (by decide) (by decide) (fun T h1 v1 L1 X q1 => ?_)
  obtain ⟨rfl, rfl⟩ := q1
  show Wp _ _ _ _ (T.setTop (mkF _ _ _ [(.int (1 : Int32))]))
  refine w_pop X k42_158_9 rfl ?_
  exact w_retV X k42_158_10 ⟨rfl, rfl⟩ (by decide) (by decide)
theorem m_nst_1 (hw : own_hw a0 Z) {h0 : Heap} {t : Addr} {x0 x1 x2 : Int32} (At : Ary Z h0 t .byte [(.int x0), (.int x1), (.int x2)]) :
    Does l Z n0 ⟨"java/lang/StringLatin1", "newString", "([BII)Ljava/lang/String;"⟩ jdk_43_method_47_code 3 (some (.object "java/lang/String")) [] { frames := 3, cells := 2, slots := 6, locals := 72 } #[(.ref t), (.int (1 : Int32)), (.int (2 : Int32))] h0 (fun v h => ∃ b c, v = some (.ref b) ∧ h0.size ≤ b ∧ n0 ≤ b ∧ h0.size ≤ c ∧ n0 ≤ c ∧ Lat Z h b c (0 : Int32) [(.int x1), (.int x2)] ∧ Keep h0 h []) := by
  refine Does.start (plainFor_of_name pn_7) ?_
  intro p e s m below meth c T X
  replace X : Sd _ _ _ _ _ "java/lang/StringLatin1" "newString" _ _ _ _ _ _ _ _ _ _ _ _ _ _ _ _ := X
  refine Wp.cast (g' := mkF m 0 #[.val (.ref t), .val (.int (1 : Int32)), .val (.int (2 : Int32))] []) (by first | (simp [entryFrame, mkF, argsToLocals, Value.category, maxLocals]; done) | rfl) ?_
  refine w_iloadN X k43_47_0 rfl ?_
  refine w_ifne X k43_47_1 (fun _ => ?_) (fun hc => absurd hc (by decide))
  refine w_new X k43_47_7 (wd_243 hw) (wd_4 hw) (wd_3 hw) (by decide) (by decide) (fun T h1 b1 g1 gn1 X E1 A1 D1 => ?_)
  have sz_b1 : h0.size ≤ b1 := Nat.le_trans (Keep.refl h0 []).1 (Nat.le_of_eq g1.symm)
  have K1 : Keep h0 h1 [] := (Keep.refl h0 []).ext E1
  refine w_dup X k43_47_10 rfl ?_
  refine w_aloadN X k43_47_11 rfl (rfl) ?_
  refine w_iloadN X k43_47_12 rfl ?_
  refine w_iloadN X k43_47_13 rfl ?_
  refine w_iloadN X k43_47_14 rfl ?_
  refine w_iadd X k43_47_15 ?_
  have f2 := (At.ext E1)
  refine w_callS X k43_47_16 (wd_244 hw) (wd_109 hw) (wd_110 hw) (wd_111 hw) (by decide) (argsL := [(.ref t), (.int (1 : Int32)), (.int (3 : Int32))]) (S := [(.ref b1), (.ref b1)]) (m_crr_1 hw f2) pd_2 rfl rfl rfl (by decide) (leR rfl) (by decide) (by decide) (fun T h2 v2 L2 X q2 => ?_)
  obtain ⟨t2, rfl, gt2, gn2, At2, Kc2⟩ := q2
  have K3 : Keep h0 h2 [] := K1.trans Kc2 (fun x hx => nomatch hx)
  have sz_t2 : h0.size ≤ t2 := Nat.le_trans K1.1 gt2
  show Wp _ _ _ _ (T.setTop (mkF _ _ _ [(.ref t2), (.ref b1), (.ref b1)]))
  refine w_iconst X (0 : Int32) k43_47_19 rfl ?_
  have f4 := (A1.keep Kc2)
  have f5 := ((show Fld Z h1 b1 "java/lang/String" "value" "[B" .null from D1 (Or.inr (wd_5 hw)) (ty := (.array .byte)) (by decide)).keep Kc2 (List.not_mem_nil))
  have f6 := ((show Fld Z h1 b1 "java/lang/String" "coder" "B" (.int (0 : Int32)) from D1 (Or.inr (wd_6 hw)) (ty := .byte) (by decide)).keep Kc2 (List.not_mem_nil))
  refine w_callI X k43_47_20 rfl (wd_251 hw) (wd_100 hw) (wd_3 hw) (wd_101 hw) (by decide) (argsL := [(.ref t2), (.int (0 : Int32))]) (S := [(.ref b1)]) (m_sib hw gn1 f4 f5 f6) pd_26 rfl rfl rfl (by decide) (leR rfl) (by decide) (by decide) (fun T h3 v3 L3 X q3 => ?_)
  obtain ⟨rfl, Ex3, Cx3, Vx3, Kc3⟩ := q3
  have K7 : Keep h0 h3 [] := K3.trans Kc3 (fun x hx => by cases List.mem_singleton.mp hx; exact (Or.inr sz_b1))
  show Wp _ _ _ _ (T.setTop (mkF _ _ _ [(.ref b1)]))
  have f8 := (At2.keep Kc3 (by simp only [List.mem_cons, List.not_mem_nil, or_false]; exact (Ne.symm (Nat.ne_of_lt (Nat.lt_of_lt_of_le A1.lt gt2)))))
  exact w_retR X rfl (rfl) rfl k43_47_23 ⟨_, _, rfl, sz_b1, gn1, sz_t2, gn2, ⟨Ex3, Cx3, Vx3, f8⟩, K7⟩ (by decide) (by decide)
theorem m_sb2_1 (hw : own_hw a0 Z) {h0 : Heap} {zc : Int32} {fm : Value} {a t : Addr} {x0 x1 x2 : Int32} (hS : own_S Z zc fm) (Ea : Exa Z h0 a "java/lang/String") (Ca : Fld Z h0 a "java/lang/String" "coder" "B" (.int (0 : Int32))) (Va : Fld Z h0 a "java/lang/String" "value" "[B" (.ref t)) (At : Ary Z h0 t .byte [(.int x0), (.int x1), (.int x2)]) :
    Does l Z n0 ⟨"java/lang/String", "substring", "(II)Ljava/lang/String;"⟩ jdk_42_method_92_code 5 (some (.object "java/lang/String")) [] { frames := 4, cells := 2, slots := 6, locals := 86 } #[(.ref a), (.int (1 : Int32)), (.int (3 : Int32))] h0 (fun v h => ∃ b c, v = some (.ref b) ∧ h0.size ≤ b ∧ n0 ≤ b ∧ h0.size ≤ c ∧ n0 ≤ c ∧ Lat Z h b c (0 : Int32) [(.int x1), (.int x2)] ∧ Keep h0 h []) := by
  refine Does.start (plainFor_of_name pn_3) ?_
  obtain ⟨S_zc, hzc, S_fm, hfm⟩ := id hS
  intro p e s m below meth c T X
  replace X : Sd _ _ _ _ _ "java/lang/String" "substring" _ _ _ _ _ _ _ _ _ _ _ _ _ _ _ _ := X
  refine Wp.cast (g' := mkF m 0 #[.val (.ref a), .val (.int (1 : Int32)), .val (.int (3 : Int32)), .unset, .unset] []) (by first | (simp [entryFrame, mkF, argsToLocals, Value.category, maxLocals]; done) | rfl) ?_
  refine w_aloadN X k42_92_0 rfl (rfl) ?_
  refine w_callV X k42_92_1 (wd_197 hw) (wd_198 hw) (notFace_of_selects (args := #[]) (mvT X.hZ (wd_200 hw))) (wd_200 hw) (wd_199 hw) (wd_3 hw) (wd_201 hw) (by decide) Ea (argsL := []) (S := []) (m_len_3 hw hS Ea Ca Va At) pd_23 rfl rfl rfl (by decide) (leR rfl) (by decide) (by decide) (fun T h1 v1 L1 X q1 => ?_)
  obtain ⟨rfl, rfl⟩ := q1
  show Wp _ _ _ _ (T.setTop (mkF _ _ _ [(.int (3 : Int32))]))
  refine w_istoreN X #[.val (.ref a), .val (.int (1 : Int32)), .val (.int (3 : Int32)), .val (.int (3 : Int32)), .unset] k42_92_4 rfl ?_
  refine w_iloadN X k42_92_5 rfl ?_
  refine w_iloadN X k42_92_6 rfl ?_
  refine w_iloadN X k42_92_7 rfl ?_
  refine w_callS X k42_92_8 (wd_234 hw) (wd_235 hw) (wd_3 hw) (wd_236 hw) (by decide) (argsL := [(.int (1 : Int32)), (.int (3 : Int32)), (.int (3 : Int32))]) (S := []) (m_cbe_1 hw hS) pd_24 rfl rfl rfl (by decide) (leR rfl) (by decide) (by decide) (fun T h2 v2 L2 X q2 => ?_)
  obtain ⟨rfl, rfl⟩ := q2
  show Wp _ _ _ _ (T.setTop (mkF _ _ _ []))
  refine w_iloadN X k42_92_11 rfl ?_
  refine w_ifne X k42_92_12 (fun _ => ?_) (fun hc => absurd hc (by decide))
  refine w_iloadN X k42_92_22 rfl ?_
  refine w_iloadN X k42_92_23 rfl ?_
  refine w_isub X k42_92_24 ?_
  refine w_istore X #[.val (.ref a), .val (.int (1 : Int32)), .val (.int (3 : Int32)), .val (.int (3 : Int32)), .val (.int (2 : Int32))] k42_92_25 rfl ?_
  refine w_aloadN X k42_92_27 rfl (rfl) ?_
  refine w_callV X k42_92_28 (wd_212 hw) (wd_213 hw) (notFace_of_selects (args := #[]) (mvT X.hZ (wd_215 hw))) (wd_215 hw) (wd_214 hw) (wd_3 hw) (wd_216 hw) (by decide) Ea (argsL := []) (S := []) (m_isl hw hS Ca) pd_22 rfl rfl rfl (by decide) (leR rfl) (by decide) (by decide) (fun T h3 v3 L3 X q3 => ?_)
  obtain ⟨rfl, rfl⟩ := q3
  show Wp _ _ _ _ (T.setTop (mkF _ _ _ [(.int (1 : Int32))]))
  refine w_ifeq X k42_92_31 (fun hc => absurd hc (by decide)) (fun _ => ?_)
  refine w_aloadN X k42_92_34 rfl (rfl) ?_
  refine w_getF X k42_92_35 (host := "") (Or.inl (wd_35 hw)) Via.refl Va (fun T X => ?_)
  refine w_iloadN X k42_92_38 rfl ?_
  refine w_iload X k42_92_39 rfl ?_
  refine w_callS X k42_92_41 (wd_240 hw) (wd_241 hw) (wd_80 hw) (wd_242 hw) (by decide) (argsL := [(.ref t), (.int (1 : Int32)), (.int (2 : Int32))]) (S := []) (m_nst_1 hw At) pd_27 rfl rfl rfl (by decide) (leR rfl) (by decide) (by decide) (fun T h4 v4 L4 X q4 => ?_)
  obtain ⟨b4, c4, rfl, r4⟩ := q4
  show Wp _ _ _ _ (T.setTop (mkF _ _ _ [(.ref b4)]))
  refine w_goto X k42_92_44 ?_
  exact w_retR X rfl (rfl) rfl k42_92_57 ⟨b4, c4, rfl, r4⟩ (by decide) (by decide)
theorem m_sb1_1 (hw : own_hw a0 Z) {h0 : Heap} {zc : Int32} {fm : Value} {a t : Addr} {x0 x1 x2 : Int32} (hS : own_S Z zc fm) (Ea : Exa Z h0 a "java/lang/String") (Ca : Fld Z h0 a "java/lang/String" "coder" "B" (.int (0 : Int32))) (Va : Fld Z h0 a "java/lang/String" "value" "[B" (.ref t)) (At : Ary Z h0 t .byte [(.int x0), (.int x1), (.int x2)]) :
    Does l Z n0 ⟨"java/lang/String", "substring", "(I)Ljava/lang/String;"⟩ jdk_42_method_91_code 2 (some (.object "java/lang/String")) [] { frames := 5, cells := 2, slots := 6, locals := 102 } #[(.ref a), (.int (1 : Int32))] h0 (fun v h => ∃ b c, v = some (.ref b) ∧ h0.size ≤ b ∧ n0 ≤ b ∧ h0.size ≤ c ∧ n0 ≤ c ∧ Lat Z h b c (0 : Int32) [(.int x1), (.int x2)] ∧ Keep h0 h []) := by
  refine Does.start (plainFor_of_name pn_3) ?_
  obtain ⟨S_zc, hzc, S_fm, hfm⟩ := id hS
  intro p e s m below meth c T X
  replace X : Sd _ _ _ _ _ "java/lang/String" "substring" _ _ _ _ _ _ _ _ _ _ _ _ _ _ _ _ := X
  refine Wp.cast (g' := mkF m 0 #[.val (.ref a), .val (.int (1 : Int32))] []) (by first | (simp [entryFrame, mkF, argsToLocals, Value.category, maxLocals]; done) | rfl) ?_
  refine w_aloadN X k42_91_0 rfl (rfl) ?_
  refine w_iloadN X k42_91_1 rfl ?_
  refine w_aloadN X k42_91_2 rfl (rfl) ?_
  refine w_callV X k42_91_3 (wd_197 hw) (wd_198 hw) (notFace_of_selects (args := #[]) (mvT X.hZ (wd_200 hw))) (wd_200 hw) (wd_199 hw) (wd_3 hw) (wd_201 hw) (by decide) Ea (argsL := []) (S := [(.int (1 : Int32)), (.ref a)]) (m_len_3 hw hS Ea Ca Va At) pd_23 rfl rfl rfl (by decide) (leR rfl) (by decide) (by decide) (fun T h1 v1 L1 X q1 => ?_)
  obtain ⟨rfl, rfl⟩ := q1
  show Wp _ _ _ _ (T.setTop (mkF _ _ _ [(.int (3 : Int32)), (.int (1 : Int32)), (.ref a)]))
  refine w_callV X k42_91_6 (wd_229 hw) (wd_230 hw) (notFace_of_selects (args := #[]) (mvT X.hZ (wd_232 hw))) (wd_232 hw) (wd_231 hw) (wd_3 hw) (wd_233 hw) (by decide) Ea (argsL := [(.int (1 : Int32)), (.int (3 : Int32))]) (S := []) (m_sb2_1 hw hS Ea Ca Va At) pd_25 rfl rfl rfl (by decide) (leR rfl) (by decide) (by decide) (fun T h2 v2 L2 X q2 => ?_)
  obtain ⟨b2, c2, rfl, r2⟩ := q2
  show Wp _ _ _ _ (T.setTop (mkF _ _ _ [(.ref b2)]))
  exact w_retR X rfl (rfl) rfl k42_91_9 ⟨b2, c2, rfl, r2⟩ (by decide) (by decide)
theorem m_l1x_2 (hw : own_hw a0 Z) {h0 : Heap} {t : Addr} {x0 x1 x2 : Int32} (At : Ary Z h0 t .byte [(.int x0), (.int x1), (.int x2)]) (f2 : ¬ x2 = (47 : Int32)) (e1 : x1 = (47 : Int32)) :
    Does l Z n0 ⟨"java/lang/StringLatin1", "lastIndexOf", "([BII)I"⟩ jdk_43_method_27_code 4 (some .int) [] { frames := 1, cells := 0, slots := 0, locals := 13 } #[(.ref t), (.int (47 : Int32)), (.int (2 : Int32))] h0 (fun v h => v = some (.int (1 : Int32)) ∧ h0 = h) := by
  refine Does.start (plainFor_of_name pn_7) ?_
  intro p e s m below meth c T X
  replace X : Sd _ _ _ _ _ "java/lang/StringLatin1" "lastIndexOf" _ _ _ _ _ _ _ _ _ _ _ _ _ _ _ _ := X
  refine Wp.cast (g' := mkF m 0 #[.val (.ref t), .val (.int (47 : Int32)), .val (.int (2 : Int32)), .unset] []) (by first | (simp [entryFrame, mkF, argsToLocals, Value.category, maxLocals]; done) | rfl) ?_
  refine w_iloadN X k43_27_0 rfl ?_
  refine w_callS X k43_27_1 (wd_220 hw) (wd_221 hw) (wd_80 hw) (wd_222 hw) (by decide) (argsL := [(.int (47 : Int32))]) (S := []) (m_enI hw) pd_8 rfl rfl rfl (by decide) (leR rfl) (by decide) (by decide) (fun T h1 v1 L1 X q1 => ?_)
  obtain ⟨rfl, rfl⟩ := q1
  show Wp _ _ _ _ (T.setTop (mkF _ _ _ [(.int (1 : Int32))]))
  refine w_ifne X k43_27_4 (fun _ => ?_) (fun hc => absurd hc (by decide))
  refine w_iloadN X k43_27_9 rfl ?_
  refine w_aloadN X k43_27_10 rfl (rfl) ?_
  refine w_arrlen X (3 : Int32) k43_27_11 At rfl ?_
  refine w_iconst X (1 : Int32) k43_27_12 rfl ?_
  refine w_isub X k43_27_13 ?_
  refine w_callS X k43_27_14 (wd_223 hw) (wd_168 hw) (wd_169 hw) (wd_170 hw) (by decide) (argsL := [(.int (2 : Int32)), (.int (2 : Int32))]) (S := []) (m_min hw (r := (2 : Int32)) (by decide)) pd_1 rfl rfl rfl (by decide) (leR rfl) (by decide) (by decide) (fun T h2 v2 L2 X q2 => ?_)
  obtain ⟨rfl, rfl⟩ := q2
  show Wp _ _ _ _ (T.setTop (mkF _ _ _ [(.int (2 : Int32))]))
  refine w_istoreN X #[.val (.ref t), .val (.int (47 : Int32)), .val (.int (2 : Int32)), .val (.int (2 : Int32))] k43_27_17 rfl ?_
  refine w_iloadN X k43_27_18 rfl ?_
  refine w_iflt X k43_27_19 (fun hc => absurd hc (by decide)) (fun _ => ?_)
  refine w_aloadN X k43_27_22 rfl (rfl) ?_
  refine w_iloadN X k43_27_23 rfl ?_
  refine w_baload X k43_27_24 At (by decide) rfl ?_
  refine w_iloadN X k43_27_25 rfl ?_
  refine w_i2b X k43_27_26 ?_
  refine w_icmpne X k43_27_27 (fun _ => ?_) (fun hc => absurd hc f2)
  refine w_iinc X (-1 : Int32) #[.val (.ref t), .val (.int (47 : Int32)), .val (.int (2 : Int32)), .val (.int (1 : Int32))] k43_27_32 rfl rfl rfl ?_
  refine w_goto X k43_27_35 ?_
  refine w_iloadN X k43_27_18 rfl ?_
  refine w_iflt X k43_27_19 (fun hc => absurd hc (by decide)) (fun _ => ?_)
  refine w_aloadN X k43_27_22 rfl (rfl) ?_
  refine w_iloadN X k43_27_23 rfl ?_
  refine w_baload X k43_27_24 At (by decide) rfl ?_
  refine w_iloadN X k43_27_25 rfl ?_
  refine w_i2b X k43_27_26 ?_
  refine w_icmpne X k43_27_27 (fun hc => absurd e1 hc) (fun _ => ?_)
  refine w_iloadN X k43_27_30 rfl ?_
  exact w_retI X k43_27_31 ⟨rfl, rfl⟩ (by decide) (by decide)
theorem m_l2x_2 (hw : own_hw a0 Z) {h0 : Heap} {zc : Int32} {fm : Value} {a t : Addr} {x0 x1 x2 : Int32} (hS : own_S Z zc fm) (Ea : Exa Z h0 a "java/lang/String") (Ca : Fld Z h0 a "java/lang/String" "coder" "B" (.int (0 : Int32))) (Va : Fld Z h0 a "java/lang/String" "value" "[B" (.ref t)) (At : Ary Z h0 t .byte [(.int x0), (.int x1), (.int x2)]) (f2 : ¬ x2 = (47 : Int32)) (e1 : x1 = (47 : Int32)) :
    Does l Z n0 ⟨"java/lang/String", "lastIndexOf", "(II)I"⟩ jdk_42_method_83_code 3 (some .int) [] { frames := 2, cells := 0, slots := 0, locals := 28 } #[(.ref a), (.int (47 : Int32)), (.int (2 : Int32))] h0 (fun v h => v = some (.int (1 : Int32)) ∧ h0 = h) := by
  refine Does.start (plainFor_of_name pn_3) ?_
  obtain ⟨S_zc, hzc, S_fm, hfm⟩ := id hS
  intro p e s m below meth c T X
  replace X : Sd _ _ _ _ _ "java/lang/String" "lastIndexOf" _ _ _ _ _ _ _ _ _ _ _ _ _ _ _ _ := X
  refine Wp.cast (g' := mkF m 0 #[.val (.ref a), .val (.int (47 : Int32)), .val (.int (2 : Int32))] []) (by first | (simp [entryFrame, mkF, argsToLocals, Value.category, maxLocals]; done) | rfl) ?_
  refine w_aloadN X k42_83_0 rfl (rfl) ?_
  refine w_callV X k42_83_1 (wd_212 hw) (wd_213 hw) (notFace_of_selects (args := #[]) (mvT X.hZ (wd_215 hw))) (wd_215 hw) (wd_214 hw) (wd_3 hw) (wd_216 hw) (by decide) Ea (argsL := []) (S := []) (m_isl hw hS Ca) pd_22 rfl rfl rfl (by decide) (leR rfl) (by decide) (by decide) (fun T h1 v1 L1 X q1 => ?_)
  obtain ⟨rfl, rfl⟩ := q1
  show Wp _ _ _ _ (T.setTop (mkF _ _ _ [(.int (1 : Int32))]))
  refine w_ifeq X k42_83_4 (fun hc => absurd hc (by decide)) (fun _ => ?_)
  refine w_aloadN X k42_83_7 rfl (rfl) ?_
  refine w_getF X k42_83_8 (host := "") (Or.inl (wd_35 hw)) Via.refl Va (fun T X => ?_)
  refine w_iloadN X k42_83_11 rfl ?_
  refine w_iloadN X k42_83_12 rfl ?_
  refine w_callS X k42_83_13 (wd_217 hw) (wd_218 hw) (wd_80 hw) (wd_219 hw) (by decide) (argsL := [(.ref t), (.int (47 : Int32)), (.int (2 : Int32))]) (S := []) (m_l1x_2 hw At f2 e1) pd_15 rfl rfl rfl (by decide) (leR rfl) (by decide) (by decide) (fun T h2 v2 L2 X q2 => ?_)
  obtain ⟨rfl, rfl⟩ := q2
  show Wp _ _ _ _ (T.setTop (mkF _ _ _ [(.int (1 : Int32))]))
  refine w_goto X k42_83_16 ?_
  exact w_retI X k42_83_28 ⟨rfl, rfl⟩ (by decide) (by decide)
theorem m_l3x_2 (hw : own_hw a0 Z) {h0 : Heap} {zc : Int32} {fm : Value} {a t : Addr} {x0 x1 x2 : Int32} (hS : own_S Z zc fm) (Ea : Exa Z h0 a "java/lang/String") (Ca : Fld Z h0 a "java/lang/String" "coder" "B" (.int (0 : Int32))) (Va : Fld Z h0 a "java/lang/String" "value" "[B" (.ref t)) (At : Ary Z h0 t .byte [(.int x0), (.int x1), (.int x2)]) (f2 : ¬ x2 = (47 : Int32)) (e1 : x1 = (47 : Int32)) :
    Does l Z n0 ⟨"java/lang/String", "lastIndexOf", "(I)I"⟩ jdk_42_method_82_code 2 (some .int) [] { frames := 3, cells := 0, slots := 0, locals := 42 } #[(.ref a), (.int (47 : Int32))] h0 (fun v h => v = some (.int (1 : Int32)) ∧ h0 = h) := by
  refine Does.start (plainFor_of_name pn_3) ?_
  obtain ⟨S_zc, hzc, S_fm, hfm⟩ := id hS
  intro p e s m below meth c T X
  replace X : Sd _ _ _ _ _ "java/lang/String" "lastIndexOf" _ _ _ _ _ _ _ _ _ _ _ _ _ _ _ _ := X
  refine Wp.cast (g' := mkF m 0 #[.val (.ref a), .val (.int (47 : Int32))] []) (by first | (simp [entryFrame, mkF, argsToLocals, Value.category, maxLocals]; done) | rfl) ?_
  refine w_aloadN X k42_82_0 rfl (rfl) ?_
  refine w_iloadN X k42_82_1 rfl ?_
  refine w_aloadN X k42_82_2 rfl (rfl) ?_
  refine w_callV X k42_82_3 (wd_197 hw) (wd_198 hw) (notFace_of_selects (args := #[]) (mvT X.hZ (wd_200 hw))) (wd_200 hw) (wd_199 hw) (wd_3 hw) (wd_201 hw) (by decide) Ea (argsL := []) (S := [(.int (47 : Int32)), (.ref a)]) (m_len_3 hw hS Ea Ca Va At) pd_23 rfl rfl rfl (by decide) (leR rfl) (by decide) (by decide) (fun T h1 v1 L1 X q1 => ?_)
  obtain ⟨rfl, rfl⟩ := q1
  show Wp _ _ _ _ (T.setTop (mkF _ _ _ [(.int (3 : Int32)), (.int (47 : Int32)), (.ref a)]))
  refine w_iconst X (1 : Int32) k42_82_6 rfl ?_
  refine w_isub X k42_82_7 ?_
  refine w_callV X k42_82_8 (wd_207 hw) (wd_208 hw) (notFace_of_selects (args := #[]) (mvT X.hZ (wd_210 hw))) (wd_210 hw) (wd_209 hw) (wd_3 hw) (wd_211 hw) (by decide) Ea (argsL := [(.int (47 : Int32)), (.int (2 : Int32))]) (S := []) (m_l2x_2 hw hS Ea Ca Va At f2 e1) pd_1 rfl rfl rfl (by decide) (leR rfl) (by decide) (by decide) (fun T h2 v2 L2 X q2 => ?_)
  obtain ⟨rfl, rfl⟩ := q2
  show Wp _ _ _ _ (T.setTop (mkF _ _ _ [(.int (1 : Int32))]))
  exact w_retI X k42_82_11 ⟨rfl, rfl⟩ (by decide) (by decide)
theorem m_cft_2 (hw : own_hw a0 Z) {h0 : Heap} {fm : Value} (hfm : fm.isRef = true) :
    Does l Z n0 ⟨"jdk/internal/util/Preconditions", "checkFromToIndex", "(IIILjava/util/function/BiFunction;)I"⟩ jdk_41_method_12_code 4 (some .int) [] { frames := 0, cells := 0, slots := 0, locals := 0 } #[(.int (2 : Int32)), (.int (3 : Int32)), (.int (3 : Int32)), fm] h0 (fun v h => v = some (.int (2 : Int32)) ∧ h0 = h) := by
  refine Does.start (plainFor_of_name pn_5) ?_
  intro p e s m below meth c T X
  replace X : Sd _ _ _ _ _ "jdk/internal/util/Preconditions" "checkFromToIndex" _ _ _ _ _ _ _ _ _ _ _ _ _ _ _ _ := X
  refine Wp.cast (g' := mkF m 0 #[.val (.int (2 : Int32)), .val (.int (3 : Int32)), .val (.int (3 : Int32)), .val fm] []) (by rcases ref_cases hfm with rfl | ⟨_, rfl⟩ <;> first | (simp [entryFrame, mkF, argsToLocals, Value.category, maxLocals]; done) | rfl) ?_
  refine w_iloadN X k41_12_0 rfl ?_
  refine w_iflt X k41_12_1 (fun hc => absurd hc (by decide)) (fun _ => ?_)
  refine w_iloadN X k41_12_4 rfl ?_
  refine w_iloadN X k41_12_5 rfl ?_
  refine w_icmpgt X k41_12_6 (fun hc => absurd hc (by decide)) (fun _ => ?_)
  refine w_iloadN X k41_12_9 rfl ?_
  refine w_iloadN X k41_12_10 rfl ?_
  refine w_icmple X k41_12_11 (fun _ => ?_) (fun hc => absurd hc Int32.lt_irrefl)
  refine w_iloadN X k41_12_22 rfl ?_
  exact w_retI X k41_12_23 ⟨rfl, rfl⟩ (by decide) (by decide)
theorem m_cbe_2 (hw : own_hw a0 Z) {h0 : Heap} {zc : Int32} {fm : Value} (hS : own_S Z zc fm) :
    Does l Z n0 ⟨"java/lang/String", "checkBoundsBeginEnd", "(III)V"⟩ jdk_42_method_158_code 3 none [] { frames := 1, cells := 0, slots := 0, locals := 15 } #[(.int (2 : Int32)), (.int (3 : Int32)), (.int (3 : Int32))] h0 (fun v h => v = none ∧ h0 = h) := by
  refine Does.start (plainFor_of_name pn_3) ?_
  obtain ⟨S_zc, hzc, S_fm, hfm⟩ := id hS
  intro p e s m below meth c T X
  replace X : Sd _ _ _ _ _ "java/lang/String" "checkBoundsBeginEnd" _ _ _ _ _ _ _ _ _ _ _ _ _ _ _ _ := X
  refine Wp.cast (g' := mkF m 0 #[.val (.int (2 : Int32)), .val (.int (3 : Int32)), .val (.int (3 : Int32))] []) (by first | (simp [entryFrame, mkF, argsToLocals, Value.category, maxLocals]; done) | rfl) ?_
  refine w_iloadN X k42_158_0 rfl ?_
  refine w_iloadN X k42_158_1 rfl ?_
  refine w_iloadN X k42_158_2 rfl ?_
  refine w_getS X k42_158_3 (host := "") (Or.inl (wd_143 hw)) Via.refl (S_fm.ext X.old.2) (fun T X => ?_)
  refine w_callS X k42_158_6 (wd_237 hw) (wd_238 hw) (wd_144 hw) (wd_239 hw) (by decide) (argsL := [(.int (2 : Int32)), (.int (3 : Int32)), (.int (3 : Int32)), fm]) (S := []) (m_cft_2 hw hfm) pd_3 rfl rfl rfl (by decide) (leR rfl) (by decide) (by decide) (fun T h1 v1 L1 X q1 => ?_)
  obtain ⟨rfl, rfl⟩ := q1
  show Wp _ _ _ _ (T.setTop (mkF _ _ _ [(.int (2 : Int32))]))
  refine w_pop X k42_158_9 rfl ?_
  exact w_retV X k42_158_10 ⟨rfl, rfl⟩ (by decide) (by decide)
theorem m_nst_2 (hw : own_hw a0 Z) {h0 : Heap} {t : Addr} {x0 x1 x2 : Int32} (At : Ary Z h0 t .byte [(.int x0), (.int x1), (.int x2)]) :
    Does l Z n0 ⟨"java/lang/StringLatin1", "newString", "([BII)Ljava/lang/String;"⟩ jdk_43_method_47_code 3 (some (.object "java/lang/String")) [] { frames := 3, cells := 2, slots := 5, locals := 72 } #[(.ref t), (.int (2 : Int32)), (.int (1 : Int32))] h0 (fun v h => ∃ b c, v = some (.ref b) ∧ h0.size ≤ b ∧ n0 ≤ b ∧ h0.size ≤ c ∧ n0 ≤ c ∧ Lat Z h b c (0 : Int32) [(.int x2)] ∧ Keep h0 h []) := by
  refine Does.start (plainFor_of_name pn_7) ?_
  intro p e s m below meth c T X
  replace X : Sd _ _ _ _ _ "java/lang/StringLatin1" "newString" _ _ _ _ _ _ _ _ _ _ _ _ _ _ _ _ := X
  refine Wp.cast (g' := mkF m 0 #[.val (.ref t), .val (.int (2 : Int32)), .val (.int (1 : Int32))] []) (by first | (simp [entryFrame, mkF, argsToLocals, Value.category, maxLocals]; done) | rfl) ?_
  refine w_iloadN X k43_47_0 rfl ?_
  refine w_ifne X k43_47_1 (fun _ => ?_) (fun hc => absurd hc (by decide))
  refine w_new X k43_47_7 (wd_243 hw) (wd_4 hw) (wd_3 hw) (by decide) (by decide) (fun T h1 b1 g1 gn1 X E1 A1 D1 => ?_)
  have sz_b1 : h0.size ≤ b1 := Nat.le_trans (Keep.refl h0 []).1 (Nat.le_of_eq g1.symm)
  have K1 : Keep h0 h1 [] := (Keep.refl h0 []).ext E1
  refine w_dup X k43_47_10 rfl ?_
  refine w_aloadN X k43_47_11 rfl (rfl) ?_
  refine w_iloadN X k43_47_12 rfl ?_
  refine w_iloadN X k43_47_13 rfl ?_
  refine w_iloadN X k43_47_14 rfl ?_
  refine w_iadd X k43_47_15 ?_
  have f2 := (At.ext E1)
  refine w_callS X k43_47_16 (wd_244 hw) (wd_109 hw) (wd_110 hw) (wd_111 hw) (by decide) (argsL := [(.ref t), (.int (2 : Int32)), (.int (3 : Int32))]) (S := [(.ref b1), (.ref b1)]) (m_crr_2 hw f2) pd_2 rfl rfl rfl (by decide) (leR rfl) (by decide) (by decide) (fun T h2 v2 L2 X q2 => ?_)
  obtain ⟨t2, rfl, gt2, gn2, At2, Kc2⟩ := q2
  have K3 : Keep h0 h2 [] := K1.trans Kc2 (fun x hx => nomatch hx)
  have sz_t2 : h0.size ≤ t2 := Nat.le_trans K1.1 gt2
  show Wp _ _ _ _ (T.setTop (mkF _ _ _ [(.ref t2), (.ref b1), (.ref b1)]))
  refine w_iconst X (0 : Int32) k43_47_19 rfl ?_
  have f4 := (A1.keep Kc2)
  have f5 := ((show Fld Z h1 b1 "java/lang/String" "value" "[B" .null from D1 (Or.inr (wd_5 hw)) (ty := (.array .byte)) (by decide)).keep Kc2 (List.not_mem_nil))
  have f6 := ((show Fld Z h1 b1 "java/lang/String" "coder" "B" (.int (0 : Int32)) from D1 (Or.inr (wd_6 hw)) (ty := .byte) (by decide)).keep Kc2 (List.not_mem_nil))
  refine w_callI X k43_47_20 rfl (wd_251 hw) (wd_100 hw) (wd_3 hw) (wd_101 hw) (by decide) (argsL := [(.ref t2), (.int (0 : Int32))]) (S := [(.ref b1)]) (m_sib hw gn1 f4 f5 f6) pd_26 rfl rfl rfl (by decide) (leR rfl) (by decide) (by decide) (fun T h3 v3 L3 X q3 => ?_)
  obtain ⟨rfl, Ex3, Cx3, Vx3, Kc3⟩ := q3
  have K7 : Keep h0 h3 [] := K3.trans Kc3 (fun x hx => by cases List.mem_singleton.mp hx; exact (Or.inr sz_b1))
  show Wp _ _ _ _ (T.setTop (mkF _ _ _ [(.ref b1)]))
  have f8 := (At2.keep Kc3 (by simp only [List.mem_cons, List.not_mem_nil, or_false]; exact (Ne.symm (Nat.ne_of_lt (Nat.lt_of_lt_of_le A1.lt gt2)))))
  exact w_retR X rfl (rfl) rfl k43_47_23 ⟨_, _, rfl, sz_b1, gn1, sz_t2, gn2, ⟨Ex3, Cx3, Vx3, f8⟩, K7⟩ (by decide) (by decide)
theorem m_sb2_2 (hw : own_hw a0 Z) {h0 : Heap} {zc : Int32} {fm : Value} {a t : Addr} {x0 x1 x2 : Int32} (hS : own_S Z zc fm) (Ea : Exa Z h0 a "java/lang/String") (Ca : Fld Z h0 a "java/lang/String" "coder" "B" (.int (0 : Int32))) (Va : Fld Z h0 a "java/lang/String" "value" "[B" (.ref t)) (At : Ary Z h0 t .byte [(.int x0), (.int x1), (.int x2)]) :
    Does l Z n0 ⟨"java/lang/String", "substring", "(II)Ljava/lang/String;"⟩ jdk_42_method_92_code 5 (some (.object "java/lang/String")) [] { frames := 4, cells := 2, slots := 5, locals := 86 } #[(.ref a), (.int (2 : Int32)), (.int (3 : Int32))] h0 (fun v h => ∃ b c, v = some (.ref b) ∧ h0.size ≤ b ∧ n0 ≤ b ∧ h0.size ≤ c ∧ n0 ≤ c ∧ Lat Z h b c (0 : Int32) [(.int x2)] ∧ Keep h0 h []) := by
  refine Does.start (plainFor_of_name pn_3) ?_
  obtain ⟨S_zc, hzc, S_fm, hfm⟩ := id hS
  intro p e s m below meth c T X
  replace X : Sd _ _ _ _ _ "java/lang/String" "substring" _ _ _ _ _ _ _ _ _ _ _ _ _ _ _ _ := X
  refine Wp.cast (g' := mkF m 0 #[.val (.ref a), .val (.int (2 : Int32)), .val (.int (3 : Int32)), .unset, .unset] []) (by first | (simp [entryFrame, mkF, argsToLocals, Value.category, maxLocals]; done) | rfl) ?_
  refine w_aloadN X k42_92_0 rfl (rfl) ?_
  refine w_callV X k42_92_1 (wd_197 hw) (wd_198 hw) (notFace_of_selects (args := #[]) (mvT X.hZ (wd_200 hw))) (wd_200 hw) (wd_199 hw) (wd_3 hw) (wd_201 hw) (by decide) Ea (argsL := []) (S := []) (m_len_3 hw hS Ea Ca Va At) pd_23 rfl rfl rfl (by decide) (leR rfl) (by decide) (by decide) (fun T h1 v1 L1 X q1 => ?_)
  obtain ⟨rfl, rfl⟩ := q1
  show Wp _ _ _ _ (T.setTop (mkF _ _ _ [(.int (3 : Int32))]))
  refine w_istoreN X #[.val (.ref a), .val (.int (2 : Int32)), .val (.int (3 : Int32)), .val (.int (3 : Int32)), .unset] k42_92_4 rfl ?_
  refine w_iloadN X k42_92_5 rfl ?_
  refine w_iloadN X k42_92_6 rfl ?_
  refine w_iloadN X k42_92_7 rfl ?_
  refine w_callS X k42_92_8 (wd_234 hw) (wd_235 hw) (wd_3 hw) (wd_236 hw) (by decide) (argsL := [(.int (2 : Int32)), (.int (3 : Int32)), (.int (3 : Int32))]) (S := []) (m_cbe_2 hw hS) pd_24 rfl rfl rfl (by decide) (leR rfl) (by decide) (by decide) (fun T h2 v2 L2 X q2 => ?_)
  obtain ⟨rfl, rfl⟩ := q2
  show Wp _ _ _ _ (T.setTop (mkF _ _ _ []))
  refine w_iloadN X k42_92_11 rfl ?_
  refine w_ifne X k42_92_12 (fun _ => ?_) (fun hc => absurd hc (by decide))
  refine w_iloadN X k42_92_22 rfl ?_
  refine w_iloadN X k42_92_23 rfl ?_
  refine w_isub X k42_92_24 ?_
  refine w_istore X #[.val (.ref a), .val (.int (2 : Int32)), .val (.int (3 : Int32)), .val (.int (3 : Int32)), .val (.int (1 : Int32))] k42_92_25 rfl ?_
  refine w_aloadN X k42_92_27 rfl (rfl) ?_
  refine w_callV X k42_92_28 (wd_212 hw) (wd_213 hw) (notFace_of_selects (args := #[]) (mvT X.hZ (wd_215 hw))) (wd_215 hw) (wd_214 hw) (wd_3 hw) (wd_216 hw) (by decide) Ea (argsL := []) (S := []) (m_isl hw hS Ca) pd_22 rfl rfl rfl (by decide) (leR rfl) (by decide) (by decide) (fun T h3 v3 L3 X q3 => ?_)
  obtain ⟨rfl, rfl⟩ := q3
  show Wp _ _ _ _ (T.setTop (mkF _ _ _ [(.int (1 : Int32))]))
  refine w_ifeq X k42_92_31 (fun hc => absurd hc (by decide)) (fun _ => ?_)
  refine w_aloadN X k42_92_34 rfl (rfl) ?_
  refine w_getF X k42_92_35 (host := "") (Or.inl (wd_35 hw)) Via.refl Va (fun T X => ?_)
  refine w_iloadN X k42_92_38 rfl ?_
  refine w_iload X k42_92_39 rfl ?_
  refine w_callS X k42_92_41 (wd_240 hw) (wd_241 hw) (wd_80 hw) (wd_242 hw) (by decide) (argsL := [(.ref t), (.int (2 : Int32)), (.int (1 : Int32))]) (S := []) (m_nst_2 hw At) pd_27 rfl rfl rfl (by decide) (leR rfl) (by decide) (by decide) (fun T h4 v4 L4 X q4 => ?_)
  obtain ⟨b4, c4, rfl, r4⟩ := q4
  show Wp _ _ _ _ (T.setTop (mkF _ _ _ [(.ref b4)]))
  refine w_goto X k42_92_44 ?_
  exact w_retR X rfl (rfl) rfl k42_92_57 ⟨b4, c4, rfl, r4⟩ (by decide) (by decide)
theorem m_sb1_2 (hw : own_hw a0 Z) {h0 : Heap} {zc : Int32} {fm : Value} {a t : Addr} {x0 x1 x2 : Int32} (hS : own_S Z zc fm) (Ea : Exa Z h0 a "java/lang/String") (Ca : Fld Z h0 a "java/lang/String" "coder" "B" (.int (0 : Int32))) (Va : Fld Z h0 a "java/lang/String" "value" "[B" (.ref t)) (At : Ary Z h0 t .byte [(.int x0), (.int x1), (.int x2)]) :
    Does l Z n0 ⟨"java/lang/String", "substring", "(I)Ljava/lang/String;"⟩ jdk_42_method_91_code 2 (some (.object "java/lang/String")) [] { frames := 5, cells := 2, slots := 5, locals := 102 } #[(.ref a), (.int (2 : Int32))] h0 (fun v h => ∃ b c, v = some (.ref b) ∧ h0.size ≤ b ∧ n0 ≤ b ∧ h0.size ≤ c ∧ n0 ≤ c ∧ Lat Z h b c (0 : Int32) [(.int x2)] ∧ Keep h0 h []) := by
  refine Does.start (plainFor_of_name pn_3) ?_
  obtain ⟨S_zc, hzc, S_fm, hfm⟩ := id hS
  intro p e s m below meth c T X
  replace X : Sd _ _ _ _ _ "java/lang/String" "substring" _ _ _ _ _ _ _ _ _ _ _ _ _ _ _ _ := X
  refine Wp.cast (g' := mkF m 0 #[.val (.ref a), .val (.int (2 : Int32))] []) (by first | (simp [entryFrame, mkF, argsToLocals, Value.category, maxLocals]; done) | rfl) ?_
  refine w_aloadN X k42_91_0 rfl (rfl) ?_
  refine w_iloadN X k42_91_1 rfl ?_
  refine w_aloadN X k42_91_2 rfl (rfl) ?_
  refine w_callV X k42_91_3 (wd_197 hw) (wd_198 hw) (notFace_of_selects (args := #[]) (mvT X.hZ (wd_200 hw))) (wd_200 hw) (wd_199 hw) (wd_3 hw) (wd_201 hw) (by decide) Ea (argsL := []) (S := [(.int (2 : Int32)), (.ref a)]) (m_len_3 hw hS Ea Ca Va At) pd_23 rfl rfl rfl (by decide) (leR rfl) (by decide) (by decide) (fun T h1 v1 L1 X q1 => ?_)
  obtain ⟨rfl, rfl⟩ := q1
  show Wp _ _ _ _ (T.setTop (mkF _ _ _ [(.int (3 : Int32)), (.int (2 : Int32)), (.ref a)]))
  refine w_callV X k42_91_6 (wd_229 hw) (wd_230 hw) (notFace_of_selects (args := #[]) (mvT X.hZ (wd_232 hw))) (wd_232 hw) (wd_231 hw) (wd_3 hw) (wd_233 hw) (by decide) Ea (argsL := [(.int (2 : Int32)), (.int (3 : Int32))]) (S := []) (m_sb2_2 hw hS Ea Ca Va At) pd_25 rfl rfl rfl (by decide) (leR rfl) (by decide) (by decide) (fun T h2 v2 L2 X q2 => ?_)
  obtain ⟨b2, c2, rfl, r2⟩ := q2
  show Wp _ _ _ _ (T.setTop (mkF _ _ _ [(.ref b2)]))
  exact w_retR X rfl (rfl) rfl k42_91_9 ⟨b2, c2, rfl, r2⟩ (by decide) (by decide)
theorem m_l1x_3 (hw : own_hw a0 Z) {h0 : Heap} {t : Addr} {x0 x1 x2 : Int32} (At : Ary Z h0 t .byte [(.int x0), (.int x1), (.int x2)]) (e2 : x2 = (47 : Int32)) :
    Does l Z n0 ⟨"java/lang/StringLatin1", "lastIndexOf", "([BII)I"⟩ jdk_43_method_27_code 4 (some .int) [] { frames := 1, cells := 0, slots := 0, locals := 13 } #[(.ref t), (.int (47 : Int32)), (.int (2 : Int32))] h0 (fun v h => v = some (.int (2 : Int32)) ∧ h0 = h) := by
  refine Does.start (plainFor_of_name pn_7) ?_
  intro p e s m below meth c T X
  replace X : Sd _ _ _ _ _ "java/lang/StringLatin1" "lastIndexOf" _ _ _ _ _ _ _ _ _ _ _ _ _ _ _ _ := X
  refine Wp.cast (g' := mkF m 0 #[.val (.ref t), .val (.int (47 : Int32)), .val (.int (2 : Int32)), .unset] []) (by first | (simp [entryFrame, mkF, argsToLocals, Value.category, maxLocals]; done) | rfl) ?_
  refine w_iloadN X k43_27_0 rfl ?_
  refine w_callS X k43_27_1 (wd_220 hw) (wd_221 hw) (wd_80 hw) (wd_222 hw) (by decide) (argsL := [(.int (47 : Int32))]) (S := []) (m_enI hw) pd_8 rfl rfl rfl (by decide) (leR rfl) (by decide) (by decide) (fun T h1 v1 L1 X q1 => ?_)
  obtain ⟨rfl, rfl⟩ := q1
  show Wp _ _ _ _ (T.setTop (mkF _ _ _ [(.int (1 : Int32))]))
  refine w_ifne X k43_27_4 (fun _ => ?_) (fun hc => absurd hc (by decide))
  refine w_iloadN X k43_27_9 rfl ?_
  refine w_aloadN X k43_27_10 rfl (rfl) ?_
  refine w_arrlen X (3 : Int32) k43_27_11 At rfl ?_
  refine w_iconst X (1 : Int32) k43_27_12 rfl ?_
  refine w_isub X k43_27_13 ?_
  refine w_callS X k43_27_14 (wd_223 hw) (wd_168 hw) (wd_169 hw) (wd_170 hw) (by decide) (argsL := [(.int (2 : Int32)), (.int (2 : Int32))]) (S := []) (m_min hw (r := (2 : Int32)) (by decide)) pd_1 rfl rfl rfl (by decide) (leR rfl) (by decide) (by decide) (fun T h2 v2 L2 X q2 => ?_)
  obtain ⟨rfl, rfl⟩ := q2
  show Wp _ _ _ _ (T.setTop (mkF _ _ _ [(.int (2 : Int32))]))
  refine w_istoreN X #[.val (.ref t), .val (.int (47 : Int32)), .val (.int (2 : Int32)), .val (.int (2 : Int32))] k43_27_17 rfl ?_
  refine w_iloadN X k43_27_18 rfl ?_
  refine w_iflt X k43_27_19 (fun hc => absurd hc (by decide)) (fun _ => ?_)
  refine w_aloadN X k43_27_22 rfl (rfl) ?_
  refine w_iloadN X k43_27_23 rfl ?_
  refine w_baload X k43_27_24 At (by decide) rfl ?_
  refine w_iloadN X k43_27_25 rfl ?_
  refine w_i2b X k43_27_26 ?_
  refine w_icmpne X k43_27_27 (fun hc => absurd e2 hc) (fun _ => ?_)
  refine w_iloadN X k43_27_30 rfl ?_
  exact w_retI X k43_27_31 ⟨rfl, rfl⟩ (by decide) (by decide)
theorem m_l2x_3 (hw : own_hw a0 Z) {h0 : Heap} {zc : Int32} {fm : Value} {a t : Addr} {x0 x1 x2 : Int32} (hS : own_S Z zc fm) (Ea : Exa Z h0 a "java/lang/String") (Ca : Fld Z h0 a "java/lang/String" "coder" "B" (.int (0 : Int32))) (Va : Fld Z h0 a "java/lang/String" "value" "[B" (.ref t)) (At : Ary Z h0 t .byte [(.int x0), (.int x1), (.int x2)]) (e2 : x2 = (47 : Int32)) :
    Does l Z n0 ⟨"java/lang/String", "lastIndexOf", "(II)I"⟩ jdk_42_method_83_code 3 (some .int) [] { frames := 2, cells := 0, slots := 0, locals := 28 } #[(.ref a), (.int (47 : Int32)), (.int (2 : Int32))] h0 (fun v h => v = some (.int (2 : Int32)) ∧ h0 = h) := by
  refine Does.start (plainFor_of_name pn_3) ?_
  obtain ⟨S_zc, hzc, S_fm, hfm⟩ := id hS
  intro p e s m below meth c T X
  replace X : Sd _ _ _ _ _ "java/lang/String" "lastIndexOf" _ _ _ _ _ _ _ _ _ _ _ _ _ _ _ _ := X
  refine Wp.cast (g' := mkF m 0 #[.val (.ref a), .val (.int (47 : Int32)), .val (.int (2 : Int32))] []) (by first | (simp [entryFrame, mkF, argsToLocals, Value.category, maxLocals]; done) | rfl) ?_
  refine w_aloadN X k42_83_0 rfl (rfl) ?_
  refine w_callV X k42_83_1 (wd_212 hw) (wd_213 hw) (notFace_of_selects (args := #[]) (mvT X.hZ (wd_215 hw))) (wd_215 hw) (wd_214 hw) (wd_3 hw) (wd_216 hw) (by decide) Ea (argsL := []) (S := []) (m_isl hw hS Ca) pd_22 rfl rfl rfl (by decide) (leR rfl) (by decide) (by decide) (fun T h1 v1 L1 X q1 => ?_)
  obtain ⟨rfl, rfl⟩ := q1
  show Wp _ _ _ _ (T.setTop (mkF _ _ _ [(.int (1 : Int32))]))
  refine w_ifeq X k42_83_4 (fun hc => absurd hc (by decide)) (fun _ => ?_)
  refine w_aloadN X k42_83_7 rfl (rfl) ?_
  refine w_getF X k42_83_8 (host := "") (Or.inl (wd_35 hw)) Via.refl Va (fun T X => ?_)
  refine w_iloadN X k42_83_11 rfl ?_
  refine w_iloadN X k42_83_12 rfl ?_
  refine w_callS X k42_83_13 (wd_217 hw) (wd_218 hw) (wd_80 hw) (wd_219 hw) (by decide) (argsL := [(.ref t), (.int (47 : Int32)), (.int (2 : Int32))]) (S := []) (m_l1x_3 hw At e2) pd_15 rfl rfl rfl (by decide) (leR rfl) (by decide) (by decide) (fun T h2 v2 L2 X q2 => ?_)
  obtain ⟨rfl, rfl⟩ := q2
  show Wp _ _ _ _ (T.setTop (mkF _ _ _ [(.int (2 : Int32))]))
  refine w_goto X k42_83_16 ?_
  exact w_retI X k42_83_28 ⟨rfl, rfl⟩ (by decide) (by decide)
theorem m_l3x_3 (hw : own_hw a0 Z) {h0 : Heap} {zc : Int32} {fm : Value} {a t : Addr} {x0 x1 x2 : Int32} (hS : own_S Z zc fm) (Ea : Exa Z h0 a "java/lang/String") (Ca : Fld Z h0 a "java/lang/String" "coder" "B" (.int (0 : Int32))) (Va : Fld Z h0 a "java/lang/String" "value" "[B" (.ref t)) (At : Ary Z h0 t .byte [(.int x0), (.int x1), (.int x2)]) (e2 : x2 = (47 : Int32)) :
    Does l Z n0 ⟨"java/lang/String", "lastIndexOf", "(I)I"⟩ jdk_42_method_82_code 2 (some .int) [] { frames := 3, cells := 0, slots := 0, locals := 42 } #[(.ref a), (.int (47 : Int32))] h0 (fun v h => v = some (.int (2 : Int32)) ∧ h0 = h) := by
  refine Does.start (plainFor_of_name pn_3) ?_
  obtain ⟨S_zc, hzc, S_fm, hfm⟩ := id hS
  intro p e s m below meth c T X
  replace X : Sd _ _ _ _ _ "java/lang/String" "lastIndexOf" _ _ _ _ _ _ _ _ _ _ _ _ _ _ _ _ := X
  refine Wp.cast (g' := mkF m 0 #[.val (.ref a), .val (.int (47 : Int32))] []) (by first | (simp [entryFrame, mkF, argsToLocals, Value.category, maxLocals]; done) | rfl) ?_
  refine w_aloadN X k42_82_0 rfl (rfl) ?_
  refine w_iloadN X k42_82_1 rfl ?_
  refine w_aloadN X k42_82_2 rfl (rfl) ?_
  refine w_callV X k42_82_3 (wd_197 hw) (wd_198 hw) (notFace_of_selects (args := #[]) (mvT X.hZ (wd_200 hw))) (wd_200 hw) (wd_199 hw) (wd_3 hw) (wd_201 hw) (by decide) Ea (argsL := []) (S := [(.int (47 : Int32)), (.ref a)]) (m_len_3 hw hS Ea Ca Va At) pd_23 rfl rfl rfl (by decide) (leR rfl) (by decide) (by decide) (fun T h1 v1 L1 X q1 => ?_)
  obtain ⟨rfl, rfl⟩ := q1
  show Wp _ _ _ _ (T.setTop (mkF _ _ _ [(.int (3 : Int32)), (.int (47 : Int32)), (.ref a)]))
  refine w_iconst X (1 : Int32) k42_82_6 rfl ?_
  refine w_isub X k42_82_7 ?_
  refine w_callV X k42_82_8 (wd_207 hw) (wd_208 hw) (notFace_of_selects (args := #[]) (mvT X.hZ (wd_210 hw))) (wd_210 hw) (wd_209 hw) (wd_3 hw) (wd_211 hw) (by decide) Ea (argsL := [(.int (47 : Int32)), (.int (2 : Int32))]) (S := []) (m_l2x_3 hw hS Ea Ca Va At e2) pd_1 rfl rfl rfl (by decide) (leR rfl) (by decide) (by decide) (fun T h2 v2 L2 X q2 => ?_)
  obtain ⟨rfl, rfl⟩ := q2
  show Wp _ _ _ _ (T.setTop (mkF _ _ _ [(.int (2 : Int32))]))
  exact w_retI X k42_82_11 ⟨rfl, rfl⟩ (by decide) (by decide)
theorem m_cft_3 (hw : own_hw a0 Z) {h0 : Heap} {fm : Value} (hfm : fm.isRef = true) :
    Does l Z n0 ⟨"jdk/internal/util/Preconditions", "checkFromToIndex", "(IIILjava/util/function/BiFunction;)I"⟩ jdk_41_method_12_code 4 (some .int) [] { frames := 0, cells := 0, slots := 0, locals := 0 } #[(.int (3 : Int32)), (.int (3 : Int32)), (.int (3 : Int32)), fm] h0 (fun v h => v = some (.int (3 : Int32)) ∧ h0 = h) := by
  refine Does.start (plainFor_of_name pn_5) ?_
  intro p e s m below meth c T X
  replace X : Sd _ _ _ _ _ "jdk/internal/util/Preconditions" "checkFromToIndex" _ _ _ _ _ _ _ _ _ _ _ _ _ _ _ _ := X
  refine Wp.cast (g' := mkF m 0 #[.val (.int (3 : Int32)), .val (.int (3 : Int32)), .val (.int (3 : Int32)), .val fm] []) (by rcases ref_cases hfm with rfl | ⟨_, rfl⟩ <;> first | (simp [entryFrame, mkF, argsToLocals, Value.category, maxLocals]; done) | rfl) ?_
  refine w_iloadN X k41_12_0 rfl ?_
  refine w_iflt X k41_12_1 (fun hc => absurd hc (by decide)) (fun _ => ?_)
  refine w_iloadN X k41_12_4 rfl ?_
  refine w_iloadN X k41_12_5 rfl ?_
  refine w_icmpgt X k41_12_6 (fun hc => absurd hc Int32.lt_irrefl) (fun _ => ?_)
  refine w_iloadN X k41_12_9 rfl ?_
  refine w_iloadN X k41_12_10 rfl ?_
  refine w_icmple X k41_12_11 (fun _ => ?_) (fun hc => absurd hc Int32.lt_irrefl)
  refine w_iloadN X k41_12_22 rfl ?_
  exact w_retI X k41_12_23 ⟨rfl, rfl⟩ (by decide) (by decide)
theorem m_cbe_3 (hw : own_hw a0 Z) {h0 : Heap} {zc : Int32} {fm : Value} (hS : own_S Z zc fm) :
    Does l Z n0 ⟨"java/lang/String", "checkBoundsBeginEnd", "(III)V"⟩ jdk_42_method_158_code 3 none [] { frames := 1, cells := 0, slots := 0, locals := 15 } #[(.int (3 : Int32)), (.int (3 : Int32)), (.int (3 : Int32))] h0 (fun v h => v = none ∧ h0 = h) := by
  refine Does.start (plainFor_of_name pn_3) ?_
  obtain ⟨S_zc, hzc, S_fm, hfm⟩ := id hS
  intro p e s m below meth c T X
  replace X : Sd _ _ _ _ _ "java/lang/String" "checkBoundsBeginEnd" _ _ _ _ _ _ _ _ _ _ _ _ _ _ _ _ := X
  refine Wp.cast (g' := mkF m 0 #[.val (.int (3 : Int32)), .val (.int (3 : Int32)), .val (.int (3 : Int32))] []) (by first | (simp [entryFrame, mkF, argsToLocals, Value.category, maxLocals]; done) | rfl) ?_
  refine w_iloadN X k42_158_0 rfl ?_
  refine w_iloadN X k42_158_1 rfl ?_
  refine w_iloadN X k42_158_2 rfl ?_
  refine w_getS X k42_158_3 (host := "") (Or.inl (wd_143 hw)) Via.refl (S_fm.ext X.old.2) (fun T X => ?_)
  refine w_callS X k42_158_6 (wd_237 hw) (wd_238 hw) (wd_144 hw) (wd_239 hw) (by decide) (argsL := [(.int (3 : Int32)), (.int (3 : Int32)), (.int (3 : Int32)), fm]) (S := []) (m_cft_3 hw hfm) pd_3 rfl rfl rfl (by decide) (leR rfl) (by decide) (by decide) (fun T h1 v1 L1 X q1 => ?_)
  obtain ⟨rfl, rfl⟩ := q1
  show Wp _ _ _ _ (T.setTop (mkF _ _ _ [(.int (3 : Int32))]))
  refine w_pop X k42_158_9 rfl ?_
  exact w_retV X k42_158_10 ⟨rfl, rfl⟩ (by decide) (by decide)
theorem m_nst_3 (hw : own_hw a0 Z) {h0 : Heap} {t : Addr}  (hheld : ∀ p ∈ consts_1, Jvm.Lit.constHeld Z p.1 p.2) (hcw : Jvm.Lit.compactW.before a0 Z = true) :
    DoesG l Z n0 (Eh Z h0) ⟨"java/lang/StringLatin1", "newString", "([BII)Ljava/lang/String;"⟩ jdk_43_method_47_code 3 (some (.object "java/lang/String")) [] { frames := 0, cells := 2, slots := 4, locals := 0 } #[(.ref t), (.int (3 : Int32)), (.int (0 : Int32))] h0 (fun v h vm => ∃ b c, v = some (.ref b) ∧ Lat Z h b c (0 : Int32) [] ∧ Keep h0 h [] ∧ Eh Z h vm) := by
  refine DoesG.start (plainFor_of_name pn_7) ?_
  intro p e s m below meth c T X Y hs0 Gs
  replace X : Sd _ _ _ _ _ "java/lang/StringLatin1" "newString" _ _ _ _ _ _ _ _ _ _ _ _ _ _ _ _ := X
  refine Wp.cast (g' := mkF m 0 #[.val (.ref t), .val (.int (3 : Int32)), .val (.int (0 : Int32))] []) (by first | (simp [entryFrame, mkF, argsToLocals, Value.category, maxLocals]; done) | rfl) ?_
  refine w_iloadN X k43_47_0 rfl ?_
  refine w_ifne X k43_47_1 (fun hc => absurd rfl hc) (fun _ => ?_)
  refine v_ldcE X Y k43_47_4 (wd_252 hw) (own_wS hw) (Fr.nil _) (by rw [hs0]; exact X.old.2.2) (by rw [hs0]; exact Gs) Gs (hheld _ (List.mem_of_getElem? (i := 3) rfl)) hcw (by decide) (by decide) (fun T h1 u kk a1 b1 X Y Ex1 E1 C1 V1 B1 M1 L1 => ?_)
  have K1 : Keep h0 h1 [] := (Keep.refl h0 []).ext Ex1
  exact g_retR X Y rfl (rfl) rfl k43_47_6 (fun vm' hW => ⟨_, _, rfl, ⟨E1, C1, V1, B1⟩, K1, M1.warm hW⟩) (by decide) (by decide)
theorem m_sb2_3 (hw : own_hw a0 Z) {h0 : Heap} {zc : Int32} {fm : Value} {a t : Addr} {x0 x1 x2 : Int32} (hS : own_S Z zc fm) (Ea : Exa Z h0 a "java/lang/String") (Ca : Fld Z h0 a "java/lang/String" "coder" "B" (.int (0 : Int32))) (Va : Fld Z h0 a "java/lang/String" "value" "[B" (.ref t)) (At : Ary Z h0 t .byte [(.int x0), (.int x1), (.int x2)]) (hheld : ∀ p ∈ consts_1, Jvm.Lit.constHeld Z p.1 p.2) (hcw : Jvm.Lit.compactW.before a0 Z = true) :
    DoesG l Z n0 (Eh Z h0) ⟨"java/lang/String", "substring", "(II)Ljava/lang/String;"⟩ jdk_42_method_92_code 5 (some (.object "java/lang/String")) [] { frames := 2, cells := 2, slots := 4, locals := 29 } #[(.ref a), (.int (3 : Int32)), (.int (3 : Int32))] h0 (fun v h vm => ∃ b c, v = some (.ref b) ∧ Lat Z h b c (0 : Int32) [] ∧ Keep h0 h [] ∧ Eh Z h vm) := by
  refine DoesG.start (plainFor_of_name pn_3) ?_
  obtain ⟨S_zc, hzc, S_fm, hfm⟩ := id hS
  intro p e s m below meth c T X Y hs0 Gs
  replace X : Sd _ _ _ _ _ "java/lang/String" "substring" _ _ _ _ _ _ _ _ _ _ _ _ _ _ _ _ := X
  refine Wp.cast (g' := mkF m 0 #[.val (.ref a), .val (.int (3 : Int32)), .val (.int (3 : Int32)), .unset, .unset] []) (by first | (simp [entryFrame, mkF, argsToLocals, Value.category, maxLocals]; done) | rfl) ?_
  refine w_aloadN X k42_92_0 rfl (rfl) ?_
  refine w_callV X k42_92_1 (wd_197 hw) (wd_198 hw) (notFace_of_selects (args := #[]) (mvT X.hZ (wd_200 hw))) (wd_200 hw) (wd_199 hw) (wd_3 hw) (wd_201 hw) (by decide) Ea (argsL := []) (S := []) (m_len_3 hw hS Ea Ca Va At) pd_23 rfl rfl rfl (by decide) (leR rfl) (by decide) (by decide) (fun T h1 v1 L1 X q1 => ?_)
  obtain ⟨rfl, rfl⟩ := q1
  show Wp _ _ _ _ (T.setTop (mkF _ _ _ [(.int (3 : Int32))]))
  refine w_istoreN X #[.val (.ref a), .val (.int (3 : Int32)), .val (.int (3 : Int32)), .val (.int (3 : Int32)), .unset] k42_92_4 rfl ?_
  refine w_iloadN X k42_92_5 rfl ?_
  refine w_iloadN X k42_92_6 rfl ?_
  refine w_iloadN X k42_92_7 rfl ?_
  refine w_callS X k42_92_8 (wd_234 hw) (wd_235 hw) (wd_3 hw) (wd_236 hw) (by decide) (argsL := [(.int (3 : Int32)), (.int (3 : Int32)), (.int (3 : Int32))]) (S := []) (m_cbe_3 hw hS) pd_24 rfl rfl rfl (by decide) (leR rfl) (by decide) (by decide) (fun T h2 v2 L2 X q2 => ?_)
  obtain ⟨rfl, rfl⟩ := q2
  show Wp _ _ _ _ (T.setTop (mkF _ _ _ []))
  refine w_iloadN X k42_92_11 rfl ?_
  refine w_ifne X k42_92_12 (fun _ => ?_) (fun hc => absurd hc (by decide))
  refine w_iloadN X k42_92_22 rfl ?_
  refine w_iloadN X k42_92_23 rfl ?_
  refine w_isub X k42_92_24 ?_
  refine w_istore X #[.val (.ref a), .val (.int (3 : Int32)), .val (.int (3 : Int32)), .val (.int (3 : Int32)), .val (.int (0 : Int32))] k42_92_25 rfl ?_
  refine w_aloadN X k42_92_27 rfl (rfl) ?_
  refine w_callV X k42_92_28 (wd_212 hw) (wd_213 hw) (notFace_of_selects (args := #[]) (mvT X.hZ (wd_215 hw))) (wd_215 hw) (wd_214 hw) (wd_3 hw) (wd_216 hw) (by decide) Ea (argsL := []) (S := []) (m_isl hw hS Ca) pd_22 rfl rfl rfl (by decide) (leR rfl) (by decide) (by decide) (fun T h3 v3 L3 X q3 => ?_)
  obtain ⟨rfl, rfl⟩ := q3
  show Wp _ _ _ _ (T.setTop (mkF _ _ _ [(.int (1 : Int32))]))
  refine w_ifeq X k42_92_31 (fun hc => absurd hc (by decide)) (fun _ => ?_)
  refine w_aloadN X k42_92_34 rfl (rfl) ?_
  refine w_getF X k42_92_35 (host := "") (Or.inl (wd_35 hw)) Via.refl Va (fun T X => ?_)
  refine w_iloadN X k42_92_38 rfl ?_
  refine w_iload X k42_92_39 rfl ?_
  refine g_callS X Y (fun vm' hW => Gs.warm hW) k42_92_41 (wd_240 hw) (wd_241 hw) (wd_80 hw) (wd_242 hw) (by decide) (argsL := [(.ref t), (.int (3 : Int32)), (.int (0 : Int32))]) (S := []) (m_nst_3 hw hheld hcw) pd_27 rfl rfl rfl (by decide) (leR rfl) (by decide) (by decide) (fun T h4 v4 L4 u kk X Y q4 => ?_)
  obtain ⟨b4, c4, rfl, r4⟩ := q4
  show Wp _ _ _ _ (T.setTop (mkF _ _ _ [(.ref b4)]))
  refine w_goto X k42_92_44 ?_
  exact g_retR X Y rfl (rfl) rfl k42_92_57 (fun vm' hW => ⟨b4, c4, rfl, r4.1, r4.2.1, r4.2.2.warm hW⟩) (by decide) (by decide)
theorem m_sb1_3 (hw : own_hw a0 Z) {h0 : Heap} {zc : Int32} {fm : Value} {a t : Addr} {x0 x1 x2 : Int32} (hS : own_S Z zc fm) (Ea : Exa Z h0 a "java/lang/String") (Ca : Fld Z h0 a "java/lang/String" "coder" "B" (.int (0 : Int32))) (Va : Fld Z h0 a "java/lang/String" "value" "[B" (.ref t)) (At : Ary Z h0 t .byte [(.int x0), (.int x1), (.int x2)]) (hheld : ∀ p ∈ consts_1, Jvm.Lit.constHeld Z p.1 p.2) (hcw : Jvm.Lit.compactW.before a0 Z = true) :
    DoesG l Z n0 (Eh Z h0) ⟨"java/lang/String", "substring", "(I)Ljava/lang/String;"⟩ jdk_42_method_91_code 2 (some (.object "java/lang/String")) [] { frames := 3, cells := 2, slots := 4, locals := 45 } #[(.ref a), (.int (3 : Int32))] h0 (fun v h vm => ∃ b c, v = some (.ref b) ∧ Lat Z h b c (0 : Int32) [] ∧ Keep h0 h [] ∧ Eh Z h vm) := by
  refine DoesG.start (plainFor_of_name pn_3) ?_
  obtain ⟨S_zc, hzc, S_fm, hfm⟩ := id hS
  intro p e s m below meth c T X Y hs0 Gs
  replace X : Sd _ _ _ _ _ "java/lang/String" "substring" _ _ _ _ _ _ _ _ _ _ _ _ _ _ _ _ := X
  refine Wp.cast (g' := mkF m 0 #[.val (.ref a), .val (.int (3 : Int32))] []) (by first | (simp [entryFrame, mkF, argsToLocals, Value.category, maxLocals]; done) | rfl) ?_
  refine w_aloadN X k42_91_0 rfl (rfl) ?_
  refine w_iloadN X k42_91_1 rfl ?_
  refine w_aloadN X k42_91_2 rfl (rfl) ?_
  refine w_callV X k42_91_3 (wd_197 hw) (wd_198 hw) (notFace_of_selects (args := #[]) (mvT X.hZ (wd_200 hw))) (wd_200 hw) (wd_199 hw) (wd_3 hw) (wd_201 hw) (by decide) Ea (argsL := []) (S := [(.int (3 : Int32)), (.ref a)]) (m_len_3 hw hS Ea Ca Va At) pd_23 rfl rfl rfl (by decide) (leR rfl) (by decide) (by decide) (fun T h1 v1 L1 X q1 => ?_)
  obtain ⟨rfl, rfl⟩ := q1
  show Wp _ _ _ _ (T.setTop (mkF _ _ _ [(.int (3 : Int32)), (.int (3 : Int32)), (.ref a)]))
  refine g_callV X Y (fun vm' hW => Gs.warm hW) k42_91_6 (wd_229 hw) (wd_230 hw) (notFace_of_selects (args := #[]) (mvT X.hZ (wd_232 hw))) (wd_232 hw) (wd_231 hw) (wd_3 hw) (wd_233 hw) (by decide) Ea (argsL := [(.int (3 : Int32)), (.int (3 : Int32))]) (S := []) (m_sb2_3 hw hS Ea Ca Va At hheld hcw) pd_25 rfl rfl rfl (by decide) (leR rfl) (by decide) (by decide) (fun T h2 v2 L2 u kk X Y q2 => ?_)
  obtain ⟨b2, c2, rfl, r2⟩ := q2
  show Wp _ _ _ _ (T.setTop (mkF _ _ _ [(.ref b2)]))
  exact g_retR X Y rfl (rfl) rfl k42_91_9 (fun vm' hW => ⟨b2, c2, rfl, r2.1, r2.2.1, r2.2.2.warm hW⟩) (by decide) (by decide)
theorem m_rec (hw : own_hw a0 Z) {h0 : Heap} {a : Addr}  :
    Does l Z n0 ⟨"java/lang/Record", "<init>", "()V"⟩ jdk_30_method_1_code 1 none [] { frames := 1, cells := 0, slots := 0, locals := 12 } #[(.ref a)] h0 (fun v h => v = none ∧ h0 = h) := by
  refine Does.start (plainFor_of_name pn_8) ?_
  intro p e s m below meth c T X
  replace X : Sd _ _ _ _ _ "java/lang/Record" "<init>" _ _ _ _ _ _ _ _ _ _ _ _ _ _ _ _ := X
  refine Wp.cast (g' := mkF m 0 #[.val (.ref a)] []) (by first | (simp [entryFrame, mkF, argsToLocals, Value.category, maxLocals]; done) | rfl) ?_
  refine w_aloadN X k30_1_0 rfl (rfl) ?_
  refine w_initO X k30_1_1 (wd_45 hw) (wd_32 hw) (wd_33 hw) rfl (by decide) (leR rfl) (fun T X => ?_)
  exact w_retV X k30_1_4 ⟨rfl, rfl⟩ (by decide) (by decide)
theorem m_rnn (hw : own_hw a0 Z) {h0 : Heap} {a b : Addr}  :
    Does l Z n0 ⟨"java/util/Objects", "requireNonNull", "(Ljava/lang/Object;Ljava/lang/String;)Ljava/lang/Object;"⟩ jdk_31_method_11_code 2 (some (.object "java/lang/Object")) [] { frames := 0, cells := 0, slots := 0, locals := 0 } #[(.ref a), (.ref b)] h0 (fun v h => v = some (.ref a) ∧ h0 = h) := by
  refine Does.start (plainFor_of_name pn_0) ?_
  intro p e s m below meth c T X
  replace X : Sd _ _ _ _ _ "java/util/Objects" "requireNonNull" _ _ _ _ _ _ _ _ _ _ _ _ _ _ _ _ := X
  refine Wp.cast (g' := mkF m 0 #[.val (.ref a), .val (.ref b)] []) (by first | (simp [entryFrame, mkF, argsToLocals, Value.category, maxLocals]; done) | rfl) ?_
  refine w_aloadN X k31_11_0 rfl (rfl) ?_
  refine w_ifnonnullT X k31_11_1 ?_
  refine w_aloadN X k31_11_13 rfl (rfl) ?_
  exact w_retR X rfl (rfl) rfl k31_11_14 ⟨rfl, rfl⟩ (by decide) (by decide)
theorem m_fi_0 (hw : own_hw a0 Z) {h0 : Heap} {a o : Addr} {ec : Int32} (ga : n0 ≤ a) (Ea : Exa Z h0 a "com/example/reasoned_retry/reasonedretry/Classifier$Failure") (F1 : Fld Z h0 a "com/example/reasoned_retry/reasonedretry/Classifier$Failure" "command" "Ljava/lang/String;" .null) (F2 : Fld Z h0 a "com/example/reasoned_retry/reasonedretry/Classifier$Failure" "exitCode" "I" (.int (0 : Int32))) (F3 : Fld Z h0 a "com/example/reasoned_retry/reasonedretry/Classifier$Failure" "output" "Ljava/lang/String;" .null) :
    DoesW l Z n0 ⟨"com/example/reasoned_retry/reasonedretry/Classifier$Failure", "<init>", "(Ljava/lang/String;ILjava/lang/String;)V"⟩ prog_6_method_1_code 4 none [] { frames := 2, cells := 2, slots := 28, locals := 24 } #[(.ref a), .null, (.int ec), (.ref o)] h0 (fun v h => v = none ∧ Keep h0 h [a] ∧ Exa Z h a "com/example/reasoned_retry/reasonedretry/Classifier$Failure" ∧ Fld Z h a "com/example/reasoned_retry/reasonedretry/Classifier$Failure" "command" "Ljava/lang/String;" .null ∧ Fld Z h a "com/example/reasoned_retry/reasonedretry/Classifier$Failure" "exitCode" "I" (.int ec) ∧ Fld Z h a "com/example/reasoned_retry/reasonedretry/Classifier$Failure" "output" "Ljava/lang/String;" (.ref o)) := by
  refine DoesW.start (plainFor_of_name pn_9) ?_
  intro p e s m below meth c T X Y hs0
  replace X : Sd _ _ _ _ _ "com/example/reasoned_retry/reasonedretry/Classifier$Failure" "<init>" _ _ _ _ _ _ _ _ _ _ _ _ _ _ _ _ := X
  refine Wp.cast (g' := mkF m 0 #[.val (.ref a), .val .null, .val (.int ec), .val (.ref o)] []) (by first | (simp [entryFrame, mkF, argsToLocals, Value.category, maxLocals]; done) | rfl) ?_
  refine w_aloadN X q6_1_0 rfl (rfl) ?_
  refine w_callI X q6_1_1 rfl (wd_40 hw) (wd_41 hw) (wd_43 hw) (wd_44 hw) (by decide) (argsL := []) (S := []) (m_rec hw) pd_28 rfl rfl rfl (by decide) (leR rfl) (by decide) (by decide) (fun T h1 v1 L1 X q1 => ?_)
  obtain ⟨rfl, rfl⟩ := q1
  show Wp _ _ _ _ (T.setTop (mkF _ _ _ []))
  refine w_aloadN X q6_1_4 rfl (rfl) ?_
  refine v_ldcS X Y q6_1_5 (wd_46 hw) (own_wS hw) 24 (by decide) (by decide) (by decide) (by decide) (fun T h2 u kk a2 X Y E2 => ?_)
  have K1 : Keep h0 h2 [a] := (Keep.refl h0 [a]).ext E2
  refine w_callS X q6_1_7 (wd_47 hw) (wd_48 hw) (wd_23 hw) (wd_49 hw) (by decide) (argsL := [(.ref o), (.ref a2)]) (S := []) (m_rnn hw) pd_29 rfl rfl rfl (by decide) (leR rfl) (by decide) (by decide) (fun T h3 v3 L3 X q3 => ?_)
  obtain ⟨rfl, rfl⟩ := q3
  show Wp _ _ _ _ (T.setTop (mkF _ _ _ [(.ref o)]))
  refine w_pop X q6_1_10 rfl ?_
  refine w_aloadN X q6_1_11 rfl (rfl) ?_
  refine w_aloadN X q6_1_12 rfl (rfl) ?_
  have f2 := (Ea.ext E2)
  have f3 := (F1.ext E2)
  refine w_putF X q6_1_13 (host := "") (Or.inl (wd_50 hw)) Via.refl f3 f2 (Or.inr ⟨(wd_51 hw), rfl, rfl⟩) (wd_14 hw) (ty := (.object "java/lang/String")) (by decide) rfl rfl ga (fun T h4 X W4 => ?_)
  have f4 := f3.same W4
  have K5 : Keep h0 h4 [a] := K1.wr W4 (Or.inl (List.mem_of_getElem? (i := 0) rfl))
  refine w_aloadN X q6_1_16 rfl (rfl) ?_
  refine w_iloadN X q6_1_17 rfl ?_
  have f6 := (f2.wr W4)
  have f7 := ((F2.ext E2).other W4 (Or.inr (slot_ne (Or.inr (wd_53 hw)) (Or.inr (wd_51 hw)) (by decide) (t := .int) (t' := (.object "java/lang/String")) (by decide) (by decide))))
  refine w_putF X q6_1_18 (host := "") (Or.inl (wd_52 hw)) Via.refl f7 f6 (Or.inr ⟨(wd_53 hw), rfl, rfl⟩) (wd_14 hw) (ty := .int) (by decide) rfl rfl ga (fun T h5 X W5 => ?_)
  have f8 := f7.same W5
  have K9 : Keep h0 h5 [a] := K5.wr W5 (Or.inl (List.mem_of_getElem? (i := 0) rfl))
  refine w_aloadN X q6_1_21 rfl (rfl) ?_
  refine w_aloadN X q6_1_22 rfl (rfl) ?_
  have f10 := (f6.wr W5)
  have f11 := (((F3.ext E2).other W4 (Or.inr (slot_ne (Or.inr (wd_55 hw)) (Or.inr (wd_51 hw)) (by decide) (t := (.object "java/lang/String")) (t' := (.object "java/lang/String")) (by decide) (by decide)))).other W5 (Or.inr (slot_ne (Or.inr (wd_55 hw)) (Or.inr (wd_53 hw)) (by decide) (t := (.object "java/lang/String")) (t' := .int) (by decide) (by decide))))
  refine w_putF X q6_1_23 (host := "") (Or.inl (wd_54 hw)) Via.refl f11 f10 (Or.inr ⟨(wd_55 hw), rfl, rfl⟩) (wd_14 hw) (ty := (.object "java/lang/String")) (by decide) rfl rfl ga (fun T h6 X W6 => ?_)
  have f12 := f11.same W6
  have K13 : Keep h0 h6 [a] := K9.wr W6 (Or.inl (List.mem_of_getElem? (i := 0) rfl))
  have f14 := (f10.wr W6)
  have f15 := ((f4.other W5 (Or.inr (slot_ne (Or.inr (wd_51 hw)) (Or.inr (wd_53 hw)) (by decide) (t := (.object "java/lang/String")) (t' := .int) (by decide) (by decide)))).other W6 (Or.inr (slot_ne (Or.inr (wd_51 hw)) (Or.inr (wd_55 hw)) (by decide) (t := (.object "java/lang/String")) (t' := (.object "java/lang/String")) (by decide) (by decide))))
  have f16 := (f8.other W6 (Or.inr (slot_ne (Or.inr (wd_53 hw)) (Or.inr (wd_55 hw)) (by decide) (t := .int) (t' := (.object "java/lang/String")) (by decide) (by decide))))
  exact v_retV X Y q6_1_26 ⟨rfl, K13, f14, f15, f16, f12⟩ (by decide) (by decide)
theorem m_fi_1 (hw : own_hw a0 Z) {h0 : Heap} {a o nm : Addr} {ec : Int32} (ga : n0 ≤ a) (Ea : Exa Z h0 a "com/example/reasoned_retry/reasonedretry/Classifier$Failure") (F1 : Fld Z h0 a "com/example/reasoned_retry/reasonedretry/Classifier$Failure" "command" "Ljava/lang/String;" .null) (F2 : Fld Z h0 a "com/example/reasoned_retry/reasonedretry/Classifier$Failure" "exitCode" "I" (.int (0 : Int32))) (F3 : Fld Z h0 a "com/example/reasoned_retry/reasonedretry/Classifier$Failure" "output" "Ljava/lang/String;" .null) :
    DoesW l Z n0 ⟨"com/example/reasoned_retry/reasonedretry/Classifier$Failure", "<init>", "(Ljava/lang/String;ILjava/lang/String;)V"⟩ prog_6_method_1_code 4 none [] { frames := 2, cells := 2, slots := 28, locals := 24 } #[(.ref a), (.ref nm), (.int ec), (.ref o)] h0 (fun v h => v = none ∧ Keep h0 h [a] ∧ Exa Z h a "com/example/reasoned_retry/reasonedretry/Classifier$Failure" ∧ Fld Z h a "com/example/reasoned_retry/reasonedretry/Classifier$Failure" "command" "Ljava/lang/String;" (.ref nm) ∧ Fld Z h a "com/example/reasoned_retry/reasonedretry/Classifier$Failure" "exitCode" "I" (.int ec) ∧ Fld Z h a "com/example/reasoned_retry/reasonedretry/Classifier$Failure" "output" "Ljava/lang/String;" (.ref o)) := by
  refine DoesW.start (plainFor_of_name pn_9) ?_
  intro p e s m below meth c T X Y hs0
  replace X : Sd _ _ _ _ _ "com/example/reasoned_retry/reasonedretry/Classifier$Failure" "<init>" _ _ _ _ _ _ _ _ _ _ _ _ _ _ _ _ := X
  refine Wp.cast (g' := mkF m 0 #[.val (.ref a), .val (.ref nm), .val (.int ec), .val (.ref o)] []) (by first | (simp [entryFrame, mkF, argsToLocals, Value.category, maxLocals]; done) | rfl) ?_
  refine w_aloadN X q6_1_0 rfl (rfl) ?_
  refine w_callI X q6_1_1 rfl (wd_40 hw) (wd_41 hw) (wd_43 hw) (wd_44 hw) (by decide) (argsL := []) (S := []) (m_rec hw) pd_28 rfl rfl rfl (by decide) (leR rfl) (by decide) (by decide) (fun T h1 v1 L1 X q1 => ?_)
  obtain ⟨rfl, rfl⟩ := q1
  show Wp _ _ _ _ (T.setTop (mkF _ _ _ []))
  refine w_aloadN X q6_1_4 rfl (rfl) ?_
  refine v_ldcS X Y q6_1_5 (wd_46 hw) (own_wS hw) 24 (by decide) (by decide) (by decide) (by decide) (fun T h2 u kk a2 X Y E2 => ?_)
  have K1 : Keep h0 h2 [a] := (Keep.refl h0 [a]).ext E2
  refine w_callS X q6_1_7 (wd_47 hw) (wd_48 hw) (wd_23 hw) (wd_49 hw) (by decide) (argsL := [(.ref o), (.ref a2)]) (S := []) (m_rnn hw) pd_29 rfl rfl rfl (by decide) (leR rfl) (by decide) (by decide) (fun T h3 v3 L3 X q3 => ?_)
  obtain ⟨rfl, rfl⟩ := q3
  show Wp _ _ _ _ (T.setTop (mkF _ _ _ [(.ref o)]))
  refine w_pop X q6_1_10 rfl ?_
  refine w_aloadN X q6_1_11 rfl (rfl) ?_
  refine w_aloadN X q6_1_12 rfl (rfl) ?_
  have f2 := (Ea.ext E2)
  have f3 := (F1.ext E2)
  refine w_putF X q6_1_13 (host := "") (Or.inl (wd_50 hw)) Via.refl f3 f2 (Or.inr ⟨(wd_51 hw), rfl, rfl⟩) (wd_14 hw) (ty := (.object "java/lang/String")) (by decide) rfl rfl ga (fun T h4 X W4 => ?_)
  have f4 := f3.same W4
  have K5 : Keep h0 h4 [a] := K1.wr W4 (Or.inl (List.mem_of_getElem? (i := 0) rfl))
  refine w_aloadN X q6_1_16 rfl (rfl) ?_
  refine w_iloadN X q6_1_17 rfl ?_
  have f6 := (f2.wr W4)
  have f7 := ((F2.ext E2).other W4 (Or.inr (slot_ne (Or.inr (wd_53 hw)) (Or.inr (wd_51 hw)) (by decide) (t := .int) (t' := (.object "java/lang/String")) (by decide) (by decide))))
  refine w_putF X q6_1_18 (host := "") (Or.inl (wd_52 hw)) Via.refl f7 f6 (Or.inr ⟨(wd_53 hw), rfl, rfl⟩) (wd_14 hw) (ty := .int) (by decide) rfl rfl ga (fun T h5 X W5 => ?_)
  have f8 := f7.same W5
  have K9 : Keep h0 h5 [a] := K5.wr W5 (Or.inl (List.mem_of_getElem? (i := 0) rfl))
  refine w_aloadN X q6_1_21 rfl (rfl) ?_
  refine w_aloadN X q6_1_22 rfl (rfl) ?_
  have f10 := (f6.wr W5)
  have f11 := (((F3.ext E2).other W4 (Or.inr (slot_ne (Or.inr (wd_55 hw)) (Or.inr (wd_51 hw)) (by decide) (t := (.object "java/lang/String")) (t' := (.object "java/lang/String")) (by decide) (by decide)))).other W5 (Or.inr (slot_ne (Or.inr (wd_55 hw)) (Or.inr (wd_53 hw)) (by decide) (t := (.object "java/lang/String")) (t' := .int) (by decide) (by decide))))
  refine w_putF X q6_1_23 (host := "") (Or.inl (wd_54 hw)) Via.refl f11 f10 (Or.inr ⟨(wd_55 hw), rfl, rfl⟩) (wd_14 hw) (ty := (.object "java/lang/String")) (by decide) rfl rfl ga (fun T h6 X W6 => ?_)
  have f12 := f11.same W6
  have K13 : Keep h0 h6 [a] := K9.wr W6 (Or.inl (List.mem_of_getElem? (i := 0) rfl))
  have f14 := (f10.wr W6)
  have f15 := ((f4.other W5 (Or.inr (slot_ne (Or.inr (wd_51 hw)) (Or.inr (wd_53 hw)) (by decide) (t := (.object "java/lang/String")) (t' := .int) (by decide) (by decide)))).other W6 (Or.inr (slot_ne (Or.inr (wd_51 hw)) (Or.inr (wd_55 hw)) (by decide) (t := (.object "java/lang/String")) (t' := (.object "java/lang/String")) (by decide) (by decide))))
  have f16 := (f8.other W6 (Or.inr (slot_ne (Or.inr (wd_53 hw)) (Or.inr (wd_55 hw)) (by decide) (t := .int) (t' := (.object "java/lang/String")) (by decide) (by decide))))
  exact v_retV X Y q6_1_26 ⟨rfl, K13, f14, f15, f16, f12⟩ (by decide) (by decide)
theorem m_g_command (hw : own_hw a0 Z) {h0 : Heap} {a : Addr} {r : Value} (F : Fld Z h0 a "com/example/reasoned_retry/reasonedretry/Classifier$Failure" "command" "Ljava/lang/String;" r) (hr : r.isRef = true) :
    Does l Z n0 ⟨"com/example/reasoned_retry/reasonedretry/Classifier$Failure", "command", "()Ljava/lang/String;"⟩ prog_6_method_6_code 1 (some (.object "java/lang/String")) [] { frames := 0, cells := 0, slots := 0, locals := 0 } #[(.ref a)] h0 (fun v h => v = some r ∧ h0 = h) := by
  refine Does.start (plainFor_of_name pn_9) ?_
  intro p e s m below meth c T X
  replace X : Sd _ _ _ _ _ "com/example/reasoned_retry/reasonedretry/Classifier$Failure" "command" _ _ _ _ _ _ _ _ _ _ _ _ _ _ _ _ := X
  refine Wp.cast (g' := mkF m 0 #[.val (.ref a)] []) (by first | (simp [entryFrame, mkF, argsToLocals, Value.category, maxLocals]; done) | rfl) ?_
  refine w_aloadN X q6_6_0 rfl (rfl) ?_
  refine w_getF X q6_6_1 (host := "") (Or.inl (wd_50 hw)) Via.refl F (fun T X => ?_)
  exact w_retR X rfl (hr) rfl q6_6_4 ⟨rfl, rfl⟩ (by decide) (by decide)
theorem m_g_exitCode (hw : own_hw a0 Z) {h0 : Heap} {a : Addr} {r : Int32} (F : Fld Z h0 a "com/example/reasoned_retry/reasonedretry/Classifier$Failure" "exitCode" "I" (.int r)) :
    Does l Z n0 ⟨"com/example/reasoned_retry/reasonedretry/Classifier$Failure", "exitCode", "()I"⟩ prog_6_method_7_code 1 (some .int) [] { frames := 0, cells := 0, slots := 0, locals := 0 } #[(.ref a)] h0 (fun v h => v = some (.int r) ∧ h0 = h) := by
  refine Does.start (plainFor_of_name pn_9) ?_
  intro p e s m below meth c T X
  replace X : Sd _ _ _ _ _ "com/example/reasoned_retry/reasonedretry/Classifier$Failure" "exitCode" _ _ _ _ _ _ _ _ _ _ _ _ _ _ _ _ := X
  refine Wp.cast (g' := mkF m 0 #[.val (.ref a)] []) (by first | (simp [entryFrame, mkF, argsToLocals, Value.category, maxLocals]; done) | rfl) ?_
  refine w_aloadN X q6_7_0 rfl (rfl) ?_
  refine w_getF X q6_7_1 (host := "") (Or.inl (wd_52 hw)) Via.refl F (fun T X => ?_)
  exact w_retI X q6_7_4 ⟨rfl, rfl⟩ (by decide) (by decide)
theorem m_g_output (hw : own_hw a0 Z) {h0 : Heap} {a : Addr} {r : Value} (F : Fld Z h0 a "com/example/reasoned_retry/reasonedretry/Classifier$Failure" "output" "Ljava/lang/String;" r) (hr : r.isRef = true) :
    Does l Z n0 ⟨"com/example/reasoned_retry/reasonedretry/Classifier$Failure", "output", "()Ljava/lang/String;"⟩ prog_6_method_8_code 1 (some (.object "java/lang/String")) [] { frames := 0, cells := 0, slots := 0, locals := 0 } #[(.ref a)] h0 (fun v h => v = some r ∧ h0 = h) := by
  refine Does.start (plainFor_of_name pn_9) ?_
  intro p e s m below meth c T X
  replace X : Sd _ _ _ _ _ "com/example/reasoned_retry/reasonedretry/Classifier$Failure" "output" _ _ _ _ _ _ _ _ _ _ _ _ _ _ _ _ := X
  refine Wp.cast (g' := mkF m 0 #[.val (.ref a)] []) (by first | (simp [entryFrame, mkF, argsToLocals, Value.category, maxLocals]; done) | rfl) ?_
  refine w_aloadN X q6_8_0 rfl (rfl) ?_
  refine w_getF X q6_8_1 (host := "") (Or.inl (wd_54 hw)) Via.refl F (fun T X => ?_)
  exact w_retR X rfl (hr) rfl q6_8_4 ⟨rfl, rfl⟩ (by decide) (by decide)
def own_D (l : Launch) (Z : State) (n0 : Nat) (b u8 : Addr) (bs : List Value) (ka : Int32) (vs : List Value) : Prop := ∀ {h : Heap} {a : Addr}, n0 ≤ a → Exa Z h a "java/lang/String" → Fld Z h a "java/lang/String" "value" "[B" .null → Fld Z h a "java/lang/String" "coder" "B" (.int (0 : Int32)) → Ary Z h b .byte bs → Exa Z h b "[B" → DoesG l Z n0 (Eh Z h) ⟨"java/lang/String", "<init>", "([BLjava/nio/charset/Charset;)V"⟩ jdk_42_method_49_code 3 none [] { frames := 6, cells := 3, slots := 11, locals := 98 } #[.ref a, .ref b, .ref u8] h (fun v h' vm => v = none ∧ Keep h h' [a] ∧ ∃ t, Lat Z h' a t ka vs)
theorem m_of_N (hw : own_hw a0 Z) {h0 : Heap} {zc : Int32} {fm : Value} {b u8 : Addr} {ec ka : Int32} {bs vs : List Value}  (hS : own_S Z zc fm) (hC : own_C Z u8) (hheld : ∀ p ∈ consts_1, Jvm.Lit.constHeld Z p.1 p.2) (hcw : Jvm.Lit.compactW.before a0 Z = true) (Ab : Ary Z h0 b .byte bs) (Eb : Exa Z h0 b "[B") (D : own_D l Z n0 b u8 bs ka vs) :
    DoesG l Z n0 (Eh Z h0) ⟨"com/example/reasoned_retry/reasonedretry/Classifier$Failure", "of", "(Ljava/lang/String;I[B)Lcom/example/reasoned_retry/reasonedretry/Classifier$Failure;"⟩ prog_6_method_2_code 4 (some (.object "com/example/reasoned_retry/reasonedretry/Classifier$Failure")) [] { frames := 7, cells := 7, slots := 46, locals := 117 } #[.null, (.int ec), (.ref b)] h0 (fun v h vm => ∃ f o t, v = some (.ref f) ∧ Exa Z h f "com/example/reasoned_retry/reasonedretry/Classifier$Failure" ∧ Fld Z h f "com/example/reasoned_retry/reasonedretry/Classifier$Failure" "command" "Ljava/lang/String;" .null ∧ Fld Z h f "com/example/reasoned_retry/reasonedretry/Classifier$Failure" "exitCode" "I" (.int ec) ∧ Fld Z h f "com/example/reasoned_retry/reasonedretry/Classifier$Failure" "output" "Ljava/lang/String;" (.ref o) ∧ Lat Z h o t ka vs ∧ Keep h0 h []) := by
  refine DoesG.start (plainFor_of_name pn_9) ?_
  obtain ⟨S_zc, hzc, S_fm, hfm⟩ := id hS
  obtain ⟨S_u8, S_in, E_u8⟩ := id hC
  intro p e s m below meth c T X Y hs0 Gs
  replace X : Sd _ _ _ _ _ "com/example/reasoned_retry/reasonedretry/Classifier$Failure" "of" _ _ _ _ _ _ _ _ _ _ _ _ _ _ _ _ := X
  refine Wp.cast (g' := mkF m 0 #[.val .null, .val (.int ec), .val (.ref b), .unset] []) (by first | (simp [entryFrame, mkF, argsToLocals, Value.category, maxLocals]; done) | rfl) ?_
  refine w_aloadN X q6_2_0 rfl (rfl) ?_
  refine w_ifnonnullF X q6_2_1 ?_
  refine w_aconstNull X q6_2_4 ?_
  refine w_goto X q6_2_5 ?_
  refine w_astoreN X #[.val .null, .val (.int ec), .val (.ref b), .val .null] q6_2_20 (rfl) rfl ?_
  refine w_new X q6_2_21 (wd_13 hw) (wd_14 hw) (wd_11 hw) (by decide) (by decide) (fun T h1 b1 g1 gn1 X E1 A1 D1 => ?_)
  have sz_b1 : h0.size ≤ b1 := Nat.le_trans (Keep.refl h0 []).1 (Nat.le_of_eq g1.symm)
  have K1 : Keep h0 h1 [] := (Keep.refl h0 []).ext E1
  refine w_dup X q6_2_24 rfl ?_
  refine w_aloadN X q6_2_25 rfl (rfl) ?_
  refine w_iloadN X q6_2_26 rfl ?_
  refine w_new X q6_2_27 (wd_15 hw) (wd_4 hw) (wd_3 hw) (by decide) (by decide) (fun T h2 b2 g2 gn2 X E2 A2 D2 => ?_)
  have sz_b2 : h0.size ≤ b2 := Nat.le_trans K1.1 (Nat.le_of_eq g2.symm)
  have K2 : Keep h0 h2 [] := K1.ext E2
  refine w_dup X q6_2_30 rfl ?_
  refine w_aloadN X q6_2_31 rfl (rfl) ?_
  refine w_getS X q6_2_32 (host := "") (Or.inl (wd_16 hw)) Via.refl (S_u8.ext X.old.2) (fun T X => ?_)
  have f3 := ((Ab.ext E1).ext E2)
  have f4 := ((Eb.ext E1).ext E2)
  refine g_callI X Y (fun vm' hW => ((Gs.ext E1).ext E2).warm hW) q6_2_35 rfl (wd_18 hw) (wd_19 hw) (wd_3 hw) (wd_20 hw) (by decide) (argsL := [(.ref b), (.ref u8)]) (S := [(.ref b2), (.int ec), .null, (.ref b1), (.ref b1)]) (D gn2 A2 (show Fld Z h2 b2 "java/lang/String" "value" "[B" .null from D2 (Or.inr (wd_5 hw)) (ty := (.array .byte)) (by decide)) (show Fld Z h2 b2 "java/lang/String" "coder" "B" (.int (0 : Int32)) from D2 (Or.inr (wd_6 hw)) (ty := .byte) (by decide)) f3 f4) pd_30 rfl rfl rfl (by decide) (leR rfl) (by decide) (by decide) (fun T h3 v3 L3 u kk X Y q3 => ?_)
  obtain ⟨rfl, Kc3, t3, To3⟩ := q3
  have K5 : Keep h0 h3 [] := K2.trans Kc3 (fun x hx => by cases List.mem_singleton.mp hx; exact (Or.inr sz_b2))
  have f6 := ((A1.ext E2).keep Kc3)
  have nt3 : t3 ≠ b1 := Ne.symm (own_ane f6 (wd_14 hw) To3.2.2.2)
  show Wp _ _ _ _ (T.setTop (mkF _ _ _ [(.ref b2), (.int ec), .null, (.ref b1), (.ref b1)]))
  have f7 := (((show Fld Z h1 b1 "com/example/reasoned_retry/reasonedretry/Classifier$Failure" "command" "Ljava/lang/String;" .null from D1 (Or.inr (wd_51 hw)) (ty := (.object "java/lang/String")) (by decide)).ext E2).keep Kc3 (by simp only [List.mem_cons, List.not_mem_nil, or_false]; exact (Nat.ne_of_lt (Nat.lt_of_lt_of_le A1.lt (Nat.le_of_eq g2.symm)))))
  have f8 := (((show Fld Z h1 b1 "com/example/reasoned_retry/reasonedretry/Classifier$Failure" "exitCode" "I" (.int (0 : Int32)) from D1 (Or.inr (wd_53 hw)) (ty := .int) (by decide)).ext E2).keep Kc3 (by simp only [List.mem_cons, List.not_mem_nil, or_false]; exact (Nat.ne_of_lt (Nat.lt_of_lt_of_le A1.lt (Nat.le_of_eq g2.symm)))))
  have f9 := (((show Fld Z h1 b1 "com/example/reasoned_retry/reasonedretry/Classifier$Failure" "output" "Ljava/lang/String;" .null from D1 (Or.inr (wd_55 hw)) (ty := (.object "java/lang/String")) (by decide)).ext E2).keep Kc3 (by simp only [List.mem_cons, List.not_mem_nil, or_false]; exact (Nat.ne_of_lt (Nat.lt_of_lt_of_le A1.lt (Nat.le_of_eq g2.symm)))))
  refine v_callI X Y q6_2_38 rfl (wd_37 hw) (wd_38 hw) (wd_11 hw) (wd_39 hw) (by decide) (argsL := [.null, (.int ec), (.ref b2)]) (S := [(.ref b1)]) (m_fi_0 hw gn1 f6 f7 f8 f9) pd_31 rfl rfl rfl (by decide) (leR rfl) (by decide) (by decide) (fun T h4 v4 L4 u kk X Y q4 => ?_)
  obtain ⟨rfl, Kc4, Ef4, Fc4, Fe4, Fo4⟩ := q4
  have K10 : Keep h0 h4 [] := K5.trans Kc4 (fun x hx => by cases List.mem_singleton.mp hx; exact (Or.inr sz_b1))
  show Wp _ _ _ _ (T.setTop (mkF _ _ _ [(.ref b1)]))
  have f11 := (To3.keep Kc4 (by simp only [List.mem_cons, List.not_mem_nil, or_false]; exact (Ne.symm (Nat.ne_of_lt (Nat.lt_of_lt_of_le A1.lt (Nat.le_of_eq g2.symm))))) (by simp only [List.mem_cons, List.not_mem_nil, or_false]; exact nt3))
  exact g_retR X Y rfl (rfl) rfl q6_2_41 (fun vm' hW => ⟨_, _, _, rfl, Ef4, Fc4, Fe4, Fo4, f11, K10⟩) (by decide) (by decide)
theorem m_of_E (hw : own_hw a0 Z) {h0 : Heap} {zc : Int32} {fm : Value} {cm tc b u8 : Addr} {ec ka : Int32} {bs vs : List Value}  (hS : own_S Z zc fm) (hC : own_C Z u8) (hheld : ∀ p ∈ consts_1, Jvm.Lit.constHeld Z p.1 p.2) (hcw : Jvm.Lit.compactW.before a0 Z = true) (Tc : Lat Z h0 cm tc (0 : Int32) [])  (Ab : Ary Z h0 b .byte bs) (Eb : Exa Z h0 b "[B") (D : own_D l Z n0 b u8 bs ka vs) :
    DoesG l Z n0 (Eh Z h0) ⟨"com/example/reasoned_retry/reasonedretry/Classifier$Failure", "of", "(Ljava/lang/String;I[B)Lcom/example/reasoned_retry/reasonedretry/Classifier$Failure;"⟩ prog_6_method_2_code 4 (some (.object "com/example/reasoned_retry/reasonedretry/Classifier$Failure")) [] { frames := 7, cells := 7, slots := 46, locals := 117 } #[(.ref cm), (.int ec), (.ref b)] h0 (fun v h vm => ∃ f o t nm tn, v = some (.ref f) ∧ Exa Z h f "com/example/reasoned_retry/reasonedretry/Classifier$Failure" ∧ Fld Z h f "com/example/reasoned_retry/reasonedretry/Classifier$Failure" "command" "Ljava/lang/String;" (.ref nm) ∧ Fld Z h f "com/example/reasoned_retry/reasonedretry/Classifier$Failure" "exitCode" "I" (.int ec) ∧ Fld Z h f "com/example/reasoned_retry/reasonedretry/Classifier$Failure" "output" "Ljava/lang/String;" (.ref o) ∧ Lat Z h o t ka vs ∧ Lat Z h nm tn (0 : Int32) [] ∧ Keep h0 h []) := by
  refine DoesG.start (plainFor_of_name pn_9) ?_
  obtain ⟨S_zc, hzc, S_fm, hfm⟩ := id hS
  obtain ⟨S_u8, S_in, E_u8⟩ := id hC
  intro p e s m below meth c T X Y hs0 Gs
  replace X : Sd _ _ _ _ _ "com/example/reasoned_retry/reasonedretry/Classifier$Failure" "of" _ _ _ _ _ _ _ _ _ _ _ _ _ _ _ _ := X
  refine Wp.cast (g' := mkF m 0 #[.val (.ref cm), .val (.int ec), .val (.ref b), .unset] []) (by first | (simp [entryFrame, mkF, argsToLocals, Value.category, maxLocals]; done) | rfl) ?_
  refine w_aloadN X q6_2_0 rfl (rfl) ?_
  refine w_ifnonnullT X q6_2_1 ?_
  refine w_aloadN X q6_2_8 rfl (rfl) ?_
  refine w_aloadN X q6_2_9 rfl (rfl) ?_
  refine w_bipush X (47 : Int32) q6_2_10 rfl ?_
  refine w_callV X q6_2_12 (wd_192 hw) (wd_193 hw) (notFace_of_selects (args := #[]) (mvT X.hZ (wd_195 hw))) (wd_195 hw) (wd_194 hw) (wd_3 hw) (wd_196 hw) (by decide) Tc.1 (argsL := [(.int (47 : Int32))]) (S := [(.ref cm)]) (m_l3x_E hw hS Tc.1 Tc.2.1 Tc.2.2.1 Tc.2.2.2 ) pd_14 rfl rfl rfl (by decide) (leR rfl) (by decide) (by decide) (fun T h1 v1 L1 X q1 => ?_)
  obtain ⟨rfl, rfl⟩ := q1
  show Wp _ _ _ _ (T.setTop (mkF _ _ _ [(.int (-1 : Int32)), (.ref cm)]))
  refine w_iconst X (1 : Int32) q6_2_15 rfl ?_
  refine w_iadd X q6_2_16 ?_
  refine w_callV X q6_2_17 (wd_224 hw) (wd_225 hw) (notFace_of_selects (args := #[]) (mvT X.hZ (wd_227 hw))) (wd_227 hw) (wd_226 hw) (wd_3 hw) (wd_228 hw) (by decide) Tc.1 (argsL := [(.int (0 : Int32))]) (S := []) (m_sb1_E hw hS Tc.1 Tc.2.1 Tc.2.2.1 Tc.2.2.2) pd_32 rfl rfl rfl (by decide) (leR rfl) (by decide) (by decide) (fun T h2 v2 L2 X q2 => ?_)
  obtain ⟨rfl, rfl⟩ := q2
  show Wp _ _ _ _ (T.setTop (mkF _ _ _ [(.ref cm)]))
  refine w_astoreN X #[.val (.ref cm), .val (.int ec), .val (.ref b), .val (.ref cm)] q6_2_20 (rfl) rfl ?_
  refine w_new X q6_2_21 (wd_13 hw) (wd_14 hw) (wd_11 hw) (by decide) (by decide) (fun T h3 b3 g3 gn3 X E3 A3 D3 => ?_)
  have sz_b3 : h0.size ≤ b3 := Nat.le_trans (Keep.refl h0 []).1 (Nat.le_of_eq g3.symm)
  have K1 : Keep h0 h3 [] := (Keep.refl h0 []).ext E3
  refine w_dup X q6_2_24 rfl ?_
  refine w_aloadN X q6_2_25 rfl (rfl) ?_
  refine w_iloadN X q6_2_26 rfl ?_
  refine w_new X q6_2_27 (wd_15 hw) (wd_4 hw) (wd_3 hw) (by decide) (by decide) (fun T h4 b4 g4 gn4 X E4 A4 D4 => ?_)
  have sz_b4 : h0.size ≤ b4 := Nat.le_trans K1.1 (Nat.le_of_eq g4.symm)
  have K2 : Keep h0 h4 [] := K1.ext E4
  refine w_dup X q6_2_30 rfl ?_
  refine w_aloadN X q6_2_31 rfl (rfl) ?_
  refine w_getS X q6_2_32 (host := "") (Or.inl (wd_16 hw)) Via.refl (S_u8.ext X.old.2) (fun T X => ?_)
  have f3 := ((Ab.ext E3).ext E4)
  have f4 := ((Eb.ext E3).ext E4)
  refine g_callI X Y (fun vm' hW => ((Gs.ext E3).ext E4).warm hW) q6_2_35 rfl (wd_18 hw) (wd_19 hw) (wd_3 hw) (wd_20 hw) (by decide) (argsL := [(.ref b), (.ref u8)]) (S := [(.ref b4), (.int ec), (.ref cm), (.ref b3), (.ref b3)]) (D gn4 A4 (show Fld Z h4 b4 "java/lang/String" "value" "[B" .null from D4 (Or.inr (wd_5 hw)) (ty := (.array .byte)) (by decide)) (show Fld Z h4 b4 "java/lang/String" "coder" "B" (.int (0 : Int32)) from D4 (Or.inr (wd_6 hw)) (ty := .byte) (by decide)) f3 f4) pd_30 rfl rfl rfl (by decide) (leR rfl) (by decide) (by decide) (fun T h5 v5 L5 u kk X Y q5 => ?_)
  obtain ⟨rfl, Kc5, t5, To5⟩ := q5
  have K5 : Keep h0 h5 [] := K2.trans Kc5 (fun x hx => by cases List.mem_singleton.mp hx; exact (Or.inr sz_b4))
  have f6 := ((A3.ext E4).keep Kc5)
  have nt5 : t5 ≠ b3 := Ne.symm (own_ane f6 (wd_14 hw) To5.2.2.2)
  show Wp _ _ _ _ (T.setTop (mkF _ _ _ [(.ref b4), (.int ec), (.ref cm), (.ref b3), (.ref b3)]))
  have f7 := (((show Fld Z h3 b3 "com/example/reasoned_retry/reasonedretry/Classifier$Failure" "command" "Ljava/lang/String;" .null from D3 (Or.inr (wd_51 hw)) (ty := (.object "java/lang/String")) (by decide)).ext E4).keep Kc5 (by simp only [List.mem_cons, List.not_mem_nil, or_false]; exact (Nat.ne_of_lt (Nat.lt_of_lt_of_le A3.lt (Nat.le_of_eq g4.symm)))))
  have f8 := (((show Fld Z h3 b3 "com/example/reasoned_retry/reasonedretry/Classifier$Failure" "exitCode" "I" (.int (0 : Int32)) from D3 (Or.inr (wd_53 hw)) (ty := .int) (by decide)).ext E4).keep Kc5 (by simp only [List.mem_cons, List.not_mem_nil, or_false]; exact (Nat.ne_of_lt (Nat.lt_of_lt_of_le A3.lt (Nat.le_of_eq g4.symm)))))
  have f9 := (((show Fld Z h3 b3 "com/example/reasoned_retry/reasonedretry/Classifier$Failure" "output" "Ljava/lang/String;" .null from D3 (Or.inr (wd_55 hw)) (ty := (.object "java/lang/String")) (by decide)).ext E4).keep Kc5 (by simp only [List.mem_cons, List.not_mem_nil, or_false]; exact (Nat.ne_of_lt (Nat.lt_of_lt_of_le A3.lt (Nat.le_of_eq g4.symm)))))
  refine v_callI X Y q6_2_38 rfl (wd_37 hw) (wd_38 hw) (wd_11 hw) (wd_39 hw) (by decide) (argsL := [(.ref cm), (.int ec), (.ref b4)]) (S := [(.ref b3)]) (m_fi_1 hw gn3 f6 f7 f8 f9) pd_31 rfl rfl rfl (by decide) (leR rfl) (by decide) (by decide) (fun T h6 v6 L6 u kk X Y q6 => ?_)
  obtain ⟨rfl, Kc6, Ef6, Fc6, Fe6, Fo6⟩ := q6
  have K10 : Keep h0 h6 [] := K5.trans Kc6 (fun x hx => by cases List.mem_singleton.mp hx; exact (Or.inr sz_b3))
  show Wp _ _ _ _ (T.setTop (mkF _ _ _ [(.ref b3)]))
  have f11 := (To5.keep Kc6 (by simp only [List.mem_cons, List.not_mem_nil, or_false]; exact (Ne.symm (Nat.ne_of_lt (Nat.lt_of_lt_of_le A3.lt (Nat.le_of_eq g4.symm))))) (by simp only [List.mem_cons, List.not_mem_nil, or_false]; exact nt5))
  have f12 := ((((Tc.ext E3).ext E4).keep Kc5 (by simp only [List.mem_cons, List.not_mem_nil, or_false]; exact (Nat.ne_of_lt (Nat.lt_of_lt_of_le (Nat.lt_of_lt_of_le Tc.1.lt E3.1) (Nat.le_of_eq g4.symm)))) (by simp only [List.mem_cons, List.not_mem_nil, or_false]; exact (Nat.ne_of_lt (Nat.lt_of_lt_of_le (Nat.lt_of_lt_of_le Tc.2.2.2.lt E3.1) (Nat.le_of_eq g4.symm))))).keep Kc6 (by simp only [List.mem_cons, List.not_mem_nil, or_false]; exact (Nat.ne_of_lt (Nat.lt_of_lt_of_le Tc.1.lt (Nat.le_of_eq g3.symm)))) (by simp only [List.mem_cons, List.not_mem_nil, or_false]; exact (Nat.ne_of_lt (Nat.lt_of_lt_of_le Tc.2.2.2.lt (Nat.le_of_eq g3.symm)))))
  exact g_retR X Y rfl (rfl) rfl q6_2_41 (fun vm' hW => ⟨_, _, _, _, _, rfl, Ef6, Fc6, Fe6, Fo6, f11, f12, K10⟩) (by decide) (by decide)
theorem m_of_0 (hw : own_hw a0 Z) {h0 : Heap} {zc : Int32} {fm : Value} {cm tc b u8 : Addr} {ec ka : Int32} {bs vs : List Value} {x0 x1 x2 : Int32} (hS : own_S Z zc fm) (hC : own_C Z u8) (hheld : ∀ p ∈ consts_1, Jvm.Lit.constHeld Z p.1 p.2) (hcw : Jvm.Lit.compactW.before a0 Z = true) (Tc : Lat Z h0 cm tc (0 : Int32) [(.int x0), (.int x1), (.int x2)]) (f2 : ¬ x2 = (47 : Int32)) (f1 : ¬ x1 = (47 : Int32)) (f0 : ¬ x0 = (47 : Int32)) (Ab : Ary Z h0 b .byte bs) (Eb : Exa Z h0 b "[B") (D : own_D l Z n0 b u8 bs ka vs) :
    DoesG l Z n0 (Eh Z h0) ⟨"com/example/reasoned_retry/reasonedretry/Classifier$Failure", "of", "(Ljava/lang/String;I[B)Lcom/example/reasoned_retry/reasonedretry/Classifier$Failure;"⟩ prog_6_method_2_code 4 (some (.object "com/example/reasoned_retry/reasonedretry/Classifier$Failure")) [] { frames := 7, cells := 7, slots := 46, locals := 117 } #[(.ref cm), (.int ec), (.ref b)] h0 (fun v h vm => ∃ f o t nm tn, v = some (.ref f) ∧ Exa Z h f "com/example/reasoned_retry/reasonedretry/Classifier$Failure" ∧ Fld Z h f "com/example/reasoned_retry/reasonedretry/Classifier$Failure" "command" "Ljava/lang/String;" (.ref nm) ∧ Fld Z h f "com/example/reasoned_retry/reasonedretry/Classifier$Failure" "exitCode" "I" (.int ec) ∧ Fld Z h f "com/example/reasoned_retry/reasonedretry/Classifier$Failure" "output" "Ljava/lang/String;" (.ref o) ∧ Lat Z h o t ka vs ∧ Lat Z h nm tn (0 : Int32) [(.int x0), (.int x1), (.int x2)] ∧ Keep h0 h []) := by
  refine DoesG.start (plainFor_of_name pn_9) ?_
  obtain ⟨S_zc, hzc, S_fm, hfm⟩ := id hS
  obtain ⟨S_u8, S_in, E_u8⟩ := id hC
  intro p e s m below meth c T X Y hs0 Gs
  replace X : Sd _ _ _ _ _ "com/example/reasoned_retry/reasonedretry/Classifier$Failure" "of" _ _ _ _ _ _ _ _ _ _ _ _ _ _ _ _ := X
  refine Wp.cast (g' := mkF m 0 #[.val (.ref cm), .val (.int ec), .val (.ref b), .unset] []) (by first | (simp [entryFrame, mkF, argsToLocals, Value.category, maxLocals]; done) | rfl) ?_
  refine w_aloadN X q6_2_0 rfl (rfl) ?_
  refine w_ifnonnullT X q6_2_1 ?_
  refine w_aloadN X q6_2_8 rfl (rfl) ?_
  refine w_aloadN X q6_2_9 rfl (rfl) ?_
  refine w_bipush X (47 : Int32) q6_2_10 rfl ?_
  refine w_callV X q6_2_12 (wd_192 hw) (wd_193 hw) (notFace_of_selects (args := #[]) (mvT X.hZ (wd_195 hw))) (wd_195 hw) (wd_194 hw) (wd_3 hw) (wd_196 hw) (by decide) Tc.1 (argsL := [(.int (47 : Int32))]) (S := [(.ref cm)]) (m_l3x_0 hw hS Tc.1 Tc.2.1 Tc.2.2.1 Tc.2.2.2 f2 f1 f0) pd_14 rfl rfl rfl (by decide) (leR rfl) (by decide) (by decide) (fun T h1 v1 L1 X q1 => ?_)
  obtain ⟨rfl, rfl⟩ := q1
  show Wp _ _ _ _ (T.setTop (mkF _ _ _ [(.int (-1 : Int32)), (.ref cm)]))
  refine w_iconst X (1 : Int32) q6_2_15 rfl ?_
  refine w_iadd X q6_2_16 ?_
  refine w_callV X q6_2_17 (wd_224 hw) (wd_225 hw) (notFace_of_selects (args := #[]) (mvT X.hZ (wd_227 hw))) (wd_227 hw) (wd_226 hw) (wd_3 hw) (wd_228 hw) (by decide) Tc.1 (argsL := [(.int (0 : Int32))]) (S := []) (m_sb1_0 hw hS Tc.1 Tc.2.1 Tc.2.2.1 Tc.2.2.2) pd_32 rfl rfl rfl (by decide) (leR rfl) (by decide) (by decide) (fun T h2 v2 L2 X q2 => ?_)
  obtain ⟨rfl, rfl⟩ := q2
  show Wp _ _ _ _ (T.setTop (mkF _ _ _ [(.ref cm)]))
  refine w_astoreN X #[.val (.ref cm), .val (.int ec), .val (.ref b), .val (.ref cm)] q6_2_20 (rfl) rfl ?_
  refine w_new X q6_2_21 (wd_13 hw) (wd_14 hw) (wd_11 hw) (by decide) (by decide) (fun T h3 b3 g3 gn3 X E3 A3 D3 => ?_)
  have sz_b3 : h0.size ≤ b3 := Nat.le_trans (Keep.refl h0 []).1 (Nat.le_of_eq g3.symm)
  have K1 : Keep h0 h3 [] := (Keep.refl h0 []).ext E3
  refine w_dup X q6_2_24 rfl ?_
  refine w_aloadN X q6_2_25 rfl (rfl) ?_
  refine w_iloadN X q6_2_26 rfl ?_
  refine w_new X q6_2_27 (wd_15 hw) (wd_4 hw) (wd_3 hw) (by decide) (by decide) (fun T h4 b4 g4 gn4 X E4 A4 D4 => ?_)
  have sz_b4 : h0.size ≤ b4 := Nat.le_trans K1.1 (Nat.le_of_eq g4.symm)
  have K2 : Keep h0 h4 [] := K1.ext E4
  refine w_dup X q6_2_30 rfl ?_
  refine w_aloadN X q6_2_31 rfl (rfl) ?_
  refine w_getS X q6_2_32 (host := "") (Or.inl (wd_16 hw)) Via.refl (S_u8.ext X.old.2) (fun T X => ?_)
  have f3 := ((Ab.ext E3).ext E4)
  have f4 := ((Eb.ext E3).ext E4)
  refine g_callI X Y (fun vm' hW => ((Gs.ext E3).ext E4).warm hW) q6_2_35 rfl (wd_18 hw) (wd_19 hw) (wd_3 hw) (wd_20 hw) (by decide) (argsL := [(.ref b), (.ref u8)]) (S := [(.ref b4), (.int ec), (.ref cm), (.ref b3), (.ref b3)]) (D gn4 A4 (show Fld Z h4 b4 "java/lang/String" "value" "[B" .null from D4 (Or.inr (wd_5 hw)) (ty := (.array .byte)) (by decide)) (show Fld Z h4 b4 "java/lang/String" "coder" "B" (.int (0 : Int32)) from D4 (Or.inr (wd_6 hw)) (ty := .byte) (by decide)) f3 f4) pd_30 rfl rfl rfl (by decide) (leR rfl) (by decide) (by decide) (fun T h5 v5 L5 u kk X Y q5 => ?_)
  obtain ⟨rfl, Kc5, t5, To5⟩ := q5
  have K5 : Keep h0 h5 [] := K2.trans Kc5 (fun x hx => by cases List.mem_singleton.mp hx; exact (Or.inr sz_b4))
  have f6 := ((A3.ext E4).keep Kc5)
  have nt5 : t5 ≠ b3 := Ne.symm (own_ane f6 (wd_14 hw) To5.2.2.2)
  show Wp _ _ _ _ (T.setTop (mkF _ _ _ [(.ref b4), (.int ec), (.ref cm), (.ref b3), (.ref b3)]))
  have f7 := (((show Fld Z h3 b3 "com/example/reasoned_retry/reasonedretry/Classifier$Failure" "command" "Ljava/lang/String;" .null from D3 (Or.inr (wd_51 hw)) (ty := (.object "java/lang/String")) (by decide)).ext E4).keep Kc5 (by simp only [List.mem_cons, List.not_mem_nil, or_false]; exact (Nat.ne_of_lt (Nat.lt_of_lt_of_le A3.lt (Nat.le_of_eq g4.symm)))))
  have f8 := (((show Fld Z h3 b3 "com/example/reasoned_retry/reasonedretry/Classifier$Failure" "exitCode" "I" (.int (0 : Int32)) from D3 (Or.inr (wd_53 hw)) (ty := .int) (by decide)).ext E4).keep Kc5 (by simp only [List.mem_cons, List.not_mem_nil, or_false]; exact (Nat.ne_of_lt (Nat.lt_of_lt_of_le A3.lt (Nat.le_of_eq g4.symm)))))
  have f9 := (((show Fld Z h3 b3 "com/example/reasoned_retry/reasonedretry/Classifier$Failure" "output" "Ljava/lang/String;" .null from D3 (Or.inr (wd_55 hw)) (ty := (.object "java/lang/String")) (by decide)).ext E4).keep Kc5 (by simp only [List.mem_cons, List.not_mem_nil, or_false]; exact (Nat.ne_of_lt (Nat.lt_of_lt_of_le A3.lt (Nat.le_of_eq g4.symm)))))
  refine v_callI X Y q6_2_38 rfl (wd_37 hw) (wd_38 hw) (wd_11 hw) (wd_39 hw) (by decide) (argsL := [(.ref cm), (.int ec), (.ref b4)]) (S := [(.ref b3)]) (m_fi_1 hw gn3 f6 f7 f8 f9) pd_31 rfl rfl rfl (by decide) (leR rfl) (by decide) (by decide) (fun T h6 v6 L6 u kk X Y q6 => ?_)
  obtain ⟨rfl, Kc6, Ef6, Fc6, Fe6, Fo6⟩ := q6
  have K10 : Keep h0 h6 [] := K5.trans Kc6 (fun x hx => by cases List.mem_singleton.mp hx; exact (Or.inr sz_b3))
  show Wp _ _ _ _ (T.setTop (mkF _ _ _ [(.ref b3)]))
  have f11 := (To5.keep Kc6 (by simp only [List.mem_cons, List.not_mem_nil, or_false]; exact (Ne.symm (Nat.ne_of_lt (Nat.lt_of_lt_of_le A3.lt (Nat.le_of_eq g4.symm))))) (by simp only [List.mem_cons, List.not_mem_nil, or_false]; exact nt5))
  have f12 := ((((Tc.ext E3).ext E4).keep Kc5 (by simp only [List.mem_cons, List.not_mem_nil, or_false]; exact (Nat.ne_of_lt (Nat.lt_of_lt_of_le (Nat.lt_of_lt_of_le Tc.1.lt E3.1) (Nat.le_of_eq g4.symm)))) (by simp only [List.mem_cons, List.not_mem_nil, or_false]; exact (Nat.ne_of_lt (Nat.lt_of_lt_of_le (Nat.lt_of_lt_of_le Tc.2.2.2.lt E3.1) (Nat.le_of_eq g4.symm))))).keep Kc6 (by simp only [List.mem_cons, List.not_mem_nil, or_false]; exact (Nat.ne_of_lt (Nat.lt_of_lt_of_le Tc.1.lt (Nat.le_of_eq g3.symm)))) (by simp only [List.mem_cons, List.not_mem_nil, or_false]; exact (Nat.ne_of_lt (Nat.lt_of_lt_of_le Tc.2.2.2.lt (Nat.le_of_eq g3.symm)))))
  exact g_retR X Y rfl (rfl) rfl q6_2_41 (fun vm' hW => ⟨_, _, _, _, _, rfl, Ef6, Fc6, Fe6, Fo6, f11, f12, K10⟩) (by decide) (by decide)
theorem m_of_1 (hw : own_hw a0 Z) {h0 : Heap} {zc : Int32} {fm : Value} {cm tc b u8 : Addr} {ec ka : Int32} {bs vs : List Value} {x0 x1 x2 : Int32} (hS : own_S Z zc fm) (hC : own_C Z u8) (hheld : ∀ p ∈ consts_1, Jvm.Lit.constHeld Z p.1 p.2) (hcw : Jvm.Lit.compactW.before a0 Z = true) (Tc : Lat Z h0 cm tc (0 : Int32) [(.int x0), (.int x1), (.int x2)]) (f2 : ¬ x2 = (47 : Int32)) (f1 : ¬ x1 = (47 : Int32)) (e0 : x0 = (47 : Int32)) (Ab : Ary Z h0 b .byte bs) (Eb : Exa Z h0 b "[B") (D : own_D l Z n0 b u8 bs ka vs) :
    DoesG l Z n0 (Eh Z h0) ⟨"com/example/reasoned_retry/reasonedretry/Classifier$Failure", "of", "(Ljava/lang/String;I[B)Lcom/example/reasoned_retry/reasonedretry/Classifier$Failure;"⟩ prog_6_method_2_code 4 (some (.object "com/example/reasoned_retry/reasonedretry/Classifier$Failure")) [] { frames := 7, cells := 9, slots := 52, locals := 117 } #[(.ref cm), (.int ec), (.ref b)] h0 (fun v h vm => ∃ f o t nm tn, v = some (.ref f) ∧ Exa Z h f "com/example/reasoned_retry/reasonedretry/Classifier$Failure" ∧ Fld Z h f "com/example/reasoned_retry/reasonedretry/Classifier$Failure" "command" "Ljava/lang/String;" (.ref nm) ∧ Fld Z h f "com/example/reasoned_retry/reasonedretry/Classifier$Failure" "exitCode" "I" (.int ec) ∧ Fld Z h f "com/example/reasoned_retry/reasonedretry/Classifier$Failure" "output" "Ljava/lang/String;" (.ref o) ∧ Lat Z h o t ka vs ∧ Lat Z h nm tn (0 : Int32) [(.int x1), (.int x2)] ∧ Keep h0 h []) := by
  refine DoesG.start (plainFor_of_name pn_9) ?_
  obtain ⟨S_zc, hzc, S_fm, hfm⟩ := id hS
  obtain ⟨S_u8, S_in, E_u8⟩ := id hC
  intro p e s m below meth c T X Y hs0 Gs
  replace X : Sd _ _ _ _ _ "com/example/reasoned_retry/reasonedretry/Classifier$Failure" "of" _ _ _ _ _ _ _ _ _ _ _ _ _ _ _ _ := X
  refine Wp.cast (g' := mkF m 0 #[.val (.ref cm), .val (.int ec), .val (.ref b), .unset] []) (by first | (simp [entryFrame, mkF, argsToLocals, Value.category, maxLocals]; done) | rfl) ?_
  refine w_aloadN X q6_2_0 rfl (rfl) ?_
  refine w_ifnonnullT X q6_2_1 ?_
  refine w_aloadN X q6_2_8 rfl (rfl) ?_
  refine w_aloadN X q6_2_9 rfl (rfl) ?_
  refine w_bipush X (47 : Int32) q6_2_10 rfl ?_
  refine w_callV X q6_2_12 (wd_192 hw) (wd_193 hw) (notFace_of_selects (args := #[]) (mvT X.hZ (wd_195 hw))) (wd_195 hw) (wd_194 hw) (wd_3 hw) (wd_196 hw) (by decide) Tc.1 (argsL := [(.int (47 : Int32))]) (S := [(.ref cm)]) (m_l3x_1 hw hS Tc.1 Tc.2.1 Tc.2.2.1 Tc.2.2.2 f2 f1 e0) pd_14 rfl rfl rfl (by decide) (leR rfl) (by decide) (by decide) (fun T h1 v1 L1 X q1 => ?_)
  obtain ⟨rfl, rfl⟩ := q1
  show Wp _ _ _ _ (T.setTop (mkF _ _ _ [(.int (0 : Int32)), (.ref cm)]))
  refine w_iconst X (1 : Int32) q6_2_15 rfl ?_
  refine w_iadd X q6_2_16 ?_
  refine w_callV X q6_2_17 (wd_224 hw) (wd_225 hw) (notFace_of_selects (args := #[]) (mvT X.hZ (wd_227 hw))) (wd_227 hw) (wd_226 hw) (wd_3 hw) (wd_228 hw) (by decide) Tc.1 (argsL := [(.int (1 : Int32))]) (S := []) (m_sb1_1 hw hS Tc.1 Tc.2.1 Tc.2.2.1 Tc.2.2.2) pd_32 rfl rfl rfl (by decide) (leR rfl) (by decide) (by decide) (fun T h2 v2 L2 X q2 => ?_)
  obtain ⟨n2, m2, rfl, ga2, gb2, gc2, gd2, Tn2, Kc2⟩ := q2
  have K1 : Keep h0 h2 [] := (Keep.refl h0 []).trans Kc2 (fun x hx => nomatch hx)
  have sz_n2 : h0.size ≤ n2 := Nat.le_trans (Keep.refl h0 []).1 ga2
  have sz_m2 : h0.size ≤ m2 := Nat.le_trans (Keep.refl h0 []).1 gc2
  show Wp _ _ _ _ (T.setTop (mkF _ _ _ [(.ref n2)]))
  refine w_astoreN X #[.val (.ref cm), .val (.int ec), .val (.ref b), .val (.ref n2)] q6_2_20 (rfl) rfl ?_
  refine w_new X q6_2_21 (wd_13 hw) (wd_14 hw) (wd_11 hw) (by decide) (by decide) (fun T h3 b3 g3 gn3 X E3 A3 D3 => ?_)
  have sz_b3 : h0.size ≤ b3 := Nat.le_trans K1.1 (Nat.le_of_eq g3.symm)
  have K2 : Keep h0 h3 [] := K1.ext E3
  refine w_dup X q6_2_24 rfl ?_
  refine w_aloadN X q6_2_25 rfl (rfl) ?_
  refine w_iloadN X q6_2_26 rfl ?_
  refine w_new X q6_2_27 (wd_15 hw) (wd_4 hw) (wd_3 hw) (by decide) (by decide) (fun T h4 b4 g4 gn4 X E4 A4 D4 => ?_)
  have sz_b4 : h0.size ≤ b4 := Nat.le_trans K2.1 (Nat.le_of_eq g4.symm)
  have K3 : Keep h0 h4 [] := K2.ext E4
  refine w_dup X q6_2_30 rfl ?_
  refine w_aloadN X q6_2_31 rfl (rfl) ?_
  refine w_getS X q6_2_32 (host := "") (Or.inl (wd_16 hw)) Via.refl (S_u8.ext X.old.2) (fun T X => ?_)
  have f4 := (((Ab.keep Kc2 (List.not_mem_nil)).ext E3).ext E4)
  have f5 := (((Eb.keep Kc2).ext E3).ext E4)
  refine g_callI X Y (fun vm' hW => (((Gs.keep Kc2).ext E3).ext E4).warm hW) q6_2_35 rfl (wd_18 hw) (wd_19 hw) (wd_3 hw) (wd_20 hw) (by decide) (argsL := [(.ref b), (.ref u8)]) (S := [(.ref b4), (.int ec), (.ref n2), (.ref b3), (.ref b3)]) (D gn4 A4 (show Fld Z h4 b4 "java/lang/String" "value" "[B" .null from D4 (Or.inr (wd_5 hw)) (ty := (.array .byte)) (by decide)) (show Fld Z h4 b4 "java/lang/String" "coder" "B" (.int (0 : Int32)) from D4 (Or.inr (wd_6 hw)) (ty := .byte) (by decide)) f4 f5) pd_30 rfl rfl rfl (by decide) (leR rfl) (by decide) (by decide) (fun T h5 v5 L5 u kk X Y q5 => ?_)
  obtain ⟨rfl, Kc5, t5, To5⟩ := q5
  have K6 : Keep h0 h5 [] := K3.trans Kc5 (fun x hx => by cases List.mem_singleton.mp hx; exact (Or.inr sz_b4))
  have f7 := ((A3.ext E4).keep Kc5)
  have nt5 : t5 ≠ b3 := Ne.symm (own_ane f7 (wd_14 hw) To5.2.2.2)
  show Wp _ _ _ _ (T.setTop (mkF _ _ _ [(.ref b4), (.int ec), (.ref n2), (.ref b3), (.ref b3)]))
  have f8 := (((show Fld Z h3 b3 "com/example/reasoned_retry/reasonedretry/Classifier$Failure" "command" "Ljava/lang/String;" .null from D3 (Or.inr (wd_51 hw)) (ty := (.object "java/lang/String")) (by decide)).ext E4).keep Kc5 (by simp only [List.mem_cons, List.not_mem_nil, or_false]; exact (Nat.ne_of_lt (Nat.lt_of_lt_of_le A3.lt (Nat.le_of_eq g4.symm)))))
  have f9 := (((show Fld Z h3 b3 "com/example/reasoned_retry/reasonedretry/Classifier$Failure" "exitCode" "I" (.int (0 : Int32)) from D3 (Or.inr (wd_53 hw)) (ty := .int) (by decide)).ext E4).keep Kc5 (by simp only [List.mem_cons, List.not_mem_nil, or_false]; exact (Nat.ne_of_lt (Nat.lt_of_lt_of_le A3.lt (Nat.le_of_eq g4.symm)))))
  have f10 := (((show Fld Z h3 b3 "com/example/reasoned_retry/reasonedretry/Classifier$Failure" "output" "Ljava/lang/String;" .null from D3 (Or.inr (wd_55 hw)) (ty := (.object "java/lang/String")) (by decide)).ext E4).keep Kc5 (by simp only [List.mem_cons, List.not_mem_nil, or_false]; exact (Nat.ne_of_lt (Nat.lt_of_lt_of_le A3.lt (Nat.le_of_eq g4.symm)))))
  refine v_callI X Y q6_2_38 rfl (wd_37 hw) (wd_38 hw) (wd_11 hw) (wd_39 hw) (by decide) (argsL := [(.ref n2), (.int ec), (.ref b4)]) (S := [(.ref b3)]) (m_fi_1 hw gn3 f7 f8 f9 f10) pd_31 rfl rfl rfl (by decide) (leR rfl) (by decide) (by decide) (fun T h6 v6 L6 u kk X Y q6 => ?_)
  obtain ⟨rfl, Kc6, Ef6, Fc6, Fe6, Fo6⟩ := q6
  have K11 : Keep h0 h6 [] := K6.trans Kc6 (fun x hx => by cases List.mem_singleton.mp hx; exact (Or.inr sz_b3))
  show Wp _ _ _ _ (T.setTop (mkF _ _ _ [(.ref b3)]))
  have f12 := (To5.keep Kc6 (by simp only [List.mem_cons, List.not_mem_nil, or_false]; exact (Ne.symm (Nat.ne_of_lt (Nat.lt_of_lt_of_le A3.lt (Nat.le_of_eq g4.symm))))) (by simp only [List.mem_cons, List.not_mem_nil, or_false]; exact nt5))
  have f13 := ((((Tn2.ext E3).ext E4).keep Kc5 (by simp only [List.mem_cons, List.not_mem_nil, or_false]; exact (Nat.ne_of_lt (Nat.lt_of_lt_of_le (Nat.lt_of_lt_of_le Tn2.1.lt E3.1) (Nat.le_of_eq g4.symm)))) (by simp only [List.mem_cons, List.not_mem_nil, or_false]; exact (Nat.ne_of_lt (Nat.lt_of_lt_of_le (Nat.lt_of_lt_of_le Tn2.2.2.2.lt E3.1) (Nat.le_of_eq g4.symm))))).keep Kc6 (by simp only [List.mem_cons, List.not_mem_nil, or_false]; exact (Nat.ne_of_lt (Nat.lt_of_lt_of_le Tn2.1.lt (Nat.le_of_eq g3.symm)))) (by simp only [List.mem_cons, List.not_mem_nil, or_false]; exact (Nat.ne_of_lt (Nat.lt_of_lt_of_le Tn2.2.2.2.lt (Nat.le_of_eq g3.symm)))))
  exact g_retR X Y rfl (rfl) rfl q6_2_41 (fun vm' hW => ⟨_, _, _, _, _, rfl, Ef6, Fc6, Fe6, Fo6, f12, f13, K11⟩) (by decide) (by decide)
theorem m_of_2 (hw : own_hw a0 Z) {h0 : Heap} {zc : Int32} {fm : Value} {cm tc b u8 : Addr} {ec ka : Int32} {bs vs : List Value} {x0 x1 x2 : Int32} (hS : own_S Z zc fm) (hC : own_C Z u8) (hheld : ∀ p ∈ consts_1, Jvm.Lit.constHeld Z p.1 p.2) (hcw : Jvm.Lit.compactW.before a0 Z = true) (Tc : Lat Z h0 cm tc (0 : Int32) [(.int x0), (.int x1), (.int x2)]) (f2 : ¬ x2 = (47 : Int32)) (e1 : x1 = (47 : Int32)) (Ab : Ary Z h0 b .byte bs) (Eb : Exa Z h0 b "[B") (D : own_D l Z n0 b u8 bs ka vs) :
    DoesG l Z n0 (Eh Z h0) ⟨"com/example/reasoned_retry/reasonedretry/Classifier$Failure", "of", "(Ljava/lang/String;I[B)Lcom/example/reasoned_retry/reasonedretry/Classifier$Failure;"⟩ prog_6_method_2_code 4 (some (.object "com/example/reasoned_retry/reasonedretry/Classifier$Failure")) [] { frames := 7, cells := 9, slots := 51, locals := 117 } #[(.ref cm), (.int ec), (.ref b)] h0 (fun v h vm => ∃ f o t nm tn, v = some (.ref f) ∧ Exa Z h f "com/example/reasoned_retry/reasonedretry/Classifier$Failure" ∧ Fld Z h f "com/example/reasoned_retry/reasonedretry/Classifier$Failure" "command" "Ljava/lang/String;" (.ref nm) ∧ Fld Z h f "com/example/reasoned_retry/reasonedretry/Classifier$Failure" "exitCode" "I" (.int ec) ∧ Fld Z h f "com/example/reasoned_retry/reasonedretry/Classifier$Failure" "output" "Ljava/lang/String;" (.ref o) ∧ Lat Z h o t ka vs ∧ Lat Z h nm tn (0 : Int32) [(.int x2)] ∧ Keep h0 h []) := by
  refine DoesG.start (plainFor_of_name pn_9) ?_
  obtain ⟨S_zc, hzc, S_fm, hfm⟩ := id hS
  obtain ⟨S_u8, S_in, E_u8⟩ := id hC
  intro p e s m below meth c T X Y hs0 Gs
  replace X : Sd _ _ _ _ _ "com/example/reasoned_retry/reasonedretry/Classifier$Failure" "of" _ _ _ _ _ _ _ _ _ _ _ _ _ _ _ _ := X
  refine Wp.cast (g' := mkF m 0 #[.val (.ref cm), .val (.int ec), .val (.ref b), .unset] []) (by first | (simp [entryFrame, mkF, argsToLocals, Value.category, maxLocals]; done) | rfl) ?_
  refine w_aloadN X q6_2_0 rfl (rfl) ?_
  refine w_ifnonnullT X q6_2_1 ?_
  refine w_aloadN X q6_2_8 rfl (rfl) ?_
  refine w_aloadN X q6_2_9 rfl (rfl) ?_
  refine w_bipush X (47 : Int32) q6_2_10 rfl ?_
  refine w_callV X q6_2_12 (wd_192 hw) (wd_193 hw) (notFace_of_selects (args := #[]) (mvT X.hZ (wd_195 hw))) (wd_195 hw) (wd_194 hw) (wd_3 hw) (wd_196 hw) (by decide) Tc.1 (argsL := [(.int (47 : Int32))]) (S := [(.ref cm)]) (m_l3x_2 hw hS Tc.1 Tc.2.1 Tc.2.2.1 Tc.2.2.2 f2 e1) pd_14 rfl rfl rfl (by decide) (leR rfl) (by decide) (by decide) (fun T h1 v1 L1 X q1 => ?_)
  obtain ⟨rfl, rfl⟩ := q1
  show Wp _ _ _ _ (T.setTop (mkF _ _ _ [(.int (1 : Int32)), (.ref cm)]))
  refine w_iconst X (1 : Int32) q6_2_15 rfl ?_
  refine w_iadd X q6_2_16 ?_
  refine w_callV X q6_2_17 (wd_224 hw) (wd_225 hw) (notFace_of_selects (args := #[]) (mvT X.hZ (wd_227 hw))) (wd_227 hw) (wd_226 hw) (wd_3 hw) (wd_228 hw) (by decide) Tc.1 (argsL := [(.int (2 : Int32))]) (S := []) (m_sb1_2 hw hS Tc.1 Tc.2.1 Tc.2.2.1 Tc.2.2.2) pd_32 rfl rfl rfl (by decide) (leR rfl) (by decide) (by decide) (fun T h2 v2 L2 X q2 => ?_)
  obtain ⟨n2, m2, rfl, ga2, gb2, gc2, gd2, Tn2, Kc2⟩ := q2
  have K1 : Keep h0 h2 [] := (Keep.refl h0 []).trans Kc2 (fun x hx => nomatch hx)
  have sz_n2 : h0.size ≤ n2 := Nat.le_trans (Keep.refl h0 []).1 ga2
  have sz_m2 : h0.size ≤ m2 := Nat.le_trans (Keep.refl h0 []).1 gc2
  show Wp _ _ _ _ (T.setTop (mkF _ _ _ [(.ref n2)]))
  refine w_astoreN X #[.val (.ref cm), .val (.int ec), .val (.ref b), .val (.ref n2)] q6_2_20 (rfl) rfl ?_
  refine w_new X q6_2_21 (wd_13 hw) (wd_14 hw) (wd_11 hw) (by decide) (by decide) (fun T h3 b3 g3 gn3 X E3 A3 D3 => ?_)
  have sz_b3 : h0.size ≤ b3 := Nat.le_trans K1.1 (Nat.le_of_eq g3.symm)
  have K2 : Keep h0 h3 [] := K1.ext E3
  refine w_dup X q6_2_24 rfl ?_
  refine w_aloadN X q6_2_25 rfl (rfl) ?_
  refine w_iloadN X q6_2_26 rfl ?_
  refine w_new X q6_2_27 (wd_15 hw) (wd_4 hw) (wd_3 hw) (by decide) (by decide) (fun T h4 b4 g4 gn4 X E4 A4 D4 => ?_)
  have sz_b4 : h0.size ≤ b4 := Nat.le_trans K2.1 (Nat.le_of_eq g4.symm)
  have K3 : Keep h0 h4 [] := K2.ext E4
  refine w_dup X q6_2_30 rfl ?_
  refine w_aloadN X q6_2_31 rfl (rfl) ?_
  refine w_getS X q6_2_32 (host := "") (Or.inl (wd_16 hw)) Via.refl (S_u8.ext X.old.2) (fun T X => ?_)
  have f4 := (((Ab.keep Kc2 (List.not_mem_nil)).ext E3).ext E4)
  have f5 := (((Eb.keep Kc2).ext E3).ext E4)
  refine g_callI X Y (fun vm' hW => (((Gs.keep Kc2).ext E3).ext E4).warm hW) q6_2_35 rfl (wd_18 hw) (wd_19 hw) (wd_3 hw) (wd_20 hw) (by decide) (argsL := [(.ref b), (.ref u8)]) (S := [(.ref b4), (.int ec), (.ref n2), (.ref b3), (.ref b3)]) (D gn4 A4 (show Fld Z h4 b4 "java/lang/String" "value" "[B" .null from D4 (Or.inr (wd_5 hw)) (ty := (.array .byte)) (by decide)) (show Fld Z h4 b4 "java/lang/String" "coder" "B" (.int (0 : Int32)) from D4 (Or.inr (wd_6 hw)) (ty := .byte) (by decide)) f4 f5) pd_30 rfl rfl rfl (by decide) (leR rfl) (by decide) (by decide) (fun T h5 v5 L5 u kk X Y q5 => ?_)
  obtain ⟨rfl, Kc5, t5, To5⟩ := q5
  have K6 : Keep h0 h5 [] := K3.trans Kc5 (fun x hx => by cases List.mem_singleton.mp hx; exact (Or.inr sz_b4))
  have f7 := ((A3.ext E4).keep Kc5)
  have nt5 : t5 ≠ b3 := Ne.symm (own_ane f7 (wd_14 hw) To5.2.2.2)
  show Wp _ _ _ _ (T.setTop (mkF _ _ _ [(.ref b4), (.int ec), (.ref n2), (.ref b3), (.ref b3)]))
  have f8 := (((show Fld Z h3 b3 "com/example/reasoned_retry/reasonedretry/Classifier$Failure" "command" "Ljava/lang/String;" .null from D3 (Or.inr (wd_51 hw)) (ty := (.object "java/lang/String")) (by decide)).ext E4).keep Kc5 (by simp only [List.mem_cons, List.not_mem_nil, or_false]; exact (Nat.ne_of_lt (Nat.lt_of_lt_of_le A3.lt (Nat.le_of_eq g4.symm)))))
  have f9 := (((show Fld Z h3 b3 "com/example/reasoned_retry/reasonedretry/Classifier$Failure" "exitCode" "I" (.int (0 : Int32)) from D3 (Or.inr (wd_53 hw)) (ty := .int) (by decide)).ext E4).keep Kc5 (by simp only [List.mem_cons, List.not_mem_nil, or_false]; exact (Nat.ne_of_lt (Nat.lt_of_lt_of_le A3.lt (Nat.le_of_eq g4.symm)))))
  have f10 := (((show Fld Z h3 b3 "com/example/reasoned_retry/reasonedretry/Classifier$Failure" "output" "Ljava/lang/String;" .null from D3 (Or.inr (wd_55 hw)) (ty := (.object "java/lang/String")) (by decide)).ext E4).keep Kc5 (by simp only [List.mem_cons, List.not_mem_nil, or_false]; exact (Nat.ne_of_lt (Nat.lt_of_lt_of_le A3.lt (Nat.le_of_eq g4.symm)))))
  refine v_callI X Y q6_2_38 rfl (wd_37 hw) (wd_38 hw) (wd_11 hw) (wd_39 hw) (by decide) (argsL := [(.ref n2), (.int ec), (.ref b4)]) (S := [(.ref b3)]) (m_fi_1 hw gn3 f7 f8 f9 f10) pd_31 rfl rfl rfl (by decide) (leR rfl) (by decide) (by decide) (fun T h6 v6 L6 u kk X Y q6 => ?_)
  obtain ⟨rfl, Kc6, Ef6, Fc6, Fe6, Fo6⟩ := q6
  have K11 : Keep h0 h6 [] := K6.trans Kc6 (fun x hx => by cases List.mem_singleton.mp hx; exact (Or.inr sz_b3))
  show Wp _ _ _ _ (T.setTop (mkF _ _ _ [(.ref b3)]))
  have f12 := (To5.keep Kc6 (by simp only [List.mem_cons, List.not_mem_nil, or_false]; exact (Ne.symm (Nat.ne_of_lt (Nat.lt_of_lt_of_le A3.lt (Nat.le_of_eq g4.symm))))) (by simp only [List.mem_cons, List.not_mem_nil, or_false]; exact nt5))
  have f13 := ((((Tn2.ext E3).ext E4).keep Kc5 (by simp only [List.mem_cons, List.not_mem_nil, or_false]; exact (Nat.ne_of_lt (Nat.lt_of_lt_of_le (Nat.lt_of_lt_of_le Tn2.1.lt E3.1) (Nat.le_of_eq g4.symm)))) (by simp only [List.mem_cons, List.not_mem_nil, or_false]; exact (Nat.ne_of_lt (Nat.lt_of_lt_of_le (Nat.lt_of_lt_of_le Tn2.2.2.2.lt E3.1) (Nat.le_of_eq g4.symm))))).keep Kc6 (by simp only [List.mem_cons, List.not_mem_nil, or_false]; exact (Nat.ne_of_lt (Nat.lt_of_lt_of_le Tn2.1.lt (Nat.le_of_eq g3.symm)))) (by simp only [List.mem_cons, List.not_mem_nil, or_false]; exact (Nat.ne_of_lt (Nat.lt_of_lt_of_le Tn2.2.2.2.lt (Nat.le_of_eq g3.symm)))))
  exact g_retR X Y rfl (rfl) rfl q6_2_41 (fun vm' hW => ⟨_, _, _, _, _, rfl, Ef6, Fc6, Fe6, Fo6, f12, f13, K11⟩) (by decide) (by decide)
theorem m_of_3 (hw : own_hw a0 Z) {h0 : Heap} {zc : Int32} {fm : Value} {cm tc b u8 : Addr} {ec ka : Int32} {bs vs : List Value} {x0 x1 x2 : Int32} (hS : own_S Z zc fm) (hC : own_C Z u8) (hheld : ∀ p ∈ consts_1, Jvm.Lit.constHeld Z p.1 p.2) (hcw : Jvm.Lit.compactW.before a0 Z = true) (Tc : Lat Z h0 cm tc (0 : Int32) [(.int x0), (.int x1), (.int x2)]) (e2 : x2 = (47 : Int32)) (Ab : Ary Z h0 b .byte bs) (Eb : Exa Z h0 b "[B") (D : own_D l Z n0 b u8 bs ka vs) :
    DoesG l Z n0 (Eh Z h0) ⟨"com/example/reasoned_retry/reasonedretry/Classifier$Failure", "of", "(Ljava/lang/String;I[B)Lcom/example/reasoned_retry/reasonedretry/Classifier$Failure;"⟩ prog_6_method_2_code 4 (some (.object "com/example/reasoned_retry/reasonedretry/Classifier$Failure")) [] { frames := 7, cells := 9, slots := 50, locals := 117 } #[(.ref cm), (.int ec), (.ref b)] h0 (fun v h vm => ∃ f o t nm tn, v = some (.ref f) ∧ Exa Z h f "com/example/reasoned_retry/reasonedretry/Classifier$Failure" ∧ Fld Z h f "com/example/reasoned_retry/reasonedretry/Classifier$Failure" "command" "Ljava/lang/String;" (.ref nm) ∧ Fld Z h f "com/example/reasoned_retry/reasonedretry/Classifier$Failure" "exitCode" "I" (.int ec) ∧ Fld Z h f "com/example/reasoned_retry/reasonedretry/Classifier$Failure" "output" "Ljava/lang/String;" (.ref o) ∧ Lat Z h o t ka vs ∧ Lat Z h nm tn (0 : Int32) [] ∧ Keep h0 h []) := by
  refine DoesG.start (plainFor_of_name pn_9) ?_
  obtain ⟨S_zc, hzc, S_fm, hfm⟩ := id hS
  obtain ⟨S_u8, S_in, E_u8⟩ := id hC
  intro p e s m below meth c T X Y hs0 Gs
  replace X : Sd _ _ _ _ _ "com/example/reasoned_retry/reasonedretry/Classifier$Failure" "of" _ _ _ _ _ _ _ _ _ _ _ _ _ _ _ _ := X
  refine Wp.cast (g' := mkF m 0 #[.val (.ref cm), .val (.int ec), .val (.ref b), .unset] []) (by first | (simp [entryFrame, mkF, argsToLocals, Value.category, maxLocals]; done) | rfl) ?_
  refine w_aloadN X q6_2_0 rfl (rfl) ?_
  refine w_ifnonnullT X q6_2_1 ?_
  refine w_aloadN X q6_2_8 rfl (rfl) ?_
  refine w_aloadN X q6_2_9 rfl (rfl) ?_
  refine w_bipush X (47 : Int32) q6_2_10 rfl ?_
  refine w_callV X q6_2_12 (wd_192 hw) (wd_193 hw) (notFace_of_selects (args := #[]) (mvT X.hZ (wd_195 hw))) (wd_195 hw) (wd_194 hw) (wd_3 hw) (wd_196 hw) (by decide) Tc.1 (argsL := [(.int (47 : Int32))]) (S := [(.ref cm)]) (m_l3x_3 hw hS Tc.1 Tc.2.1 Tc.2.2.1 Tc.2.2.2 e2) pd_14 rfl rfl rfl (by decide) (leR rfl) (by decide) (by decide) (fun T h1 v1 L1 X q1 => ?_)
  obtain ⟨rfl, rfl⟩ := q1
  show Wp _ _ _ _ (T.setTop (mkF _ _ _ [(.int (2 : Int32)), (.ref cm)]))
  refine w_iconst X (1 : Int32) q6_2_15 rfl ?_
  refine w_iadd X q6_2_16 ?_
  refine g_callV X Y (fun vm' hW => Gs.warm hW) q6_2_17 (wd_224 hw) (wd_225 hw) (notFace_of_selects (args := #[]) (mvT X.hZ (wd_227 hw))) (wd_227 hw) (wd_226 hw) (wd_3 hw) (wd_228 hw) (by decide) Tc.1 (argsL := [(.int (3 : Int32))]) (S := []) (m_sb1_3 hw hS Tc.1 Tc.2.1 Tc.2.2.1 Tc.2.2.2 hheld hcw) pd_32 rfl rfl rfl (by decide) (leR rfl) (by decide) (by decide) (fun T h2 v2 L2 u kk X Y q2 => ?_)
  obtain ⟨n2, m2, rfl, Tn2, Kc2, M2⟩ := q2
  have K1 : Keep h0 h2 [] := (Keep.refl h0 []).trans Kc2 (fun x hx => nomatch hx)
  show Wp _ _ _ _ (T.setTop (mkF _ _ _ [(.ref n2)]))
  refine w_astoreN X #[.val (.ref cm), .val (.int ec), .val (.ref b), .val (.ref n2)] q6_2_20 (rfl) rfl ?_
  refine w_new X q6_2_21 (wd_13 hw) (wd_14 hw) (wd_11 hw) (by decide) (by decide) (fun T h3 b3 g3 gn3 X E3 A3 D3 => ?_)
  have sz_b3 : h0.size ≤ b3 := Nat.le_trans K1.1 (Nat.le_of_eq g3.symm)
  have K2 : Keep h0 h3 [] := K1.ext E3
  refine w_dup X q6_2_24 rfl ?_
  refine w_aloadN X q6_2_25 rfl (rfl) ?_
  refine w_iloadN X q6_2_26 rfl ?_
  refine w_new X q6_2_27 (wd_15 hw) (wd_4 hw) (wd_3 hw) (by decide) (by decide) (fun T h4 b4 g4 gn4 X E4 A4 D4 => ?_)
  have sz_b4 : h0.size ≤ b4 := Nat.le_trans K2.1 (Nat.le_of_eq g4.symm)
  have K3 : Keep h0 h4 [] := K2.ext E4
  refine w_dup X q6_2_30 rfl ?_
  refine w_aloadN X q6_2_31 rfl (rfl) ?_
  refine w_getS X q6_2_32 (host := "") (Or.inl (wd_16 hw)) Via.refl (S_u8.ext X.old.2) (fun T X => ?_)
  have f4 := (((Ab.keep Kc2 (List.not_mem_nil)).ext E3).ext E4)
  have f5 := (((Eb.keep Kc2).ext E3).ext E4)
  refine g_callI X Y (fun vm' hW => ((M2.ext E3).ext E4).warm hW) q6_2_35 rfl (wd_18 hw) (wd_19 hw) (wd_3 hw) (wd_20 hw) (by decide) (argsL := [(.ref b), (.ref u8)]) (S := [(.ref b4), (.int ec), (.ref n2), (.ref b3), (.ref b3)]) (D gn4 A4 (show Fld Z h4 b4 "java/lang/String" "value" "[B" .null from D4 (Or.inr (wd_5 hw)) (ty := (.array .byte)) (by decide)) (show Fld Z h4 b4 "java/lang/String" "coder" "B" (.int (0 : Int32)) from D4 (Or.inr (wd_6 hw)) (ty := .byte) (by decide)) f4 f5) pd_30 rfl rfl rfl (by decide) (leR rfl) (by decide) (by decide) (fun T h5 v5 L5 u kk X Y q5 => ?_)
  obtain ⟨rfl, Kc5, t5, To5⟩ := q5
  have K6 : Keep h0 h5 [] := K3.trans Kc5 (fun x hx => by cases List.mem_singleton.mp hx; exact (Or.inr sz_b4))
  have f7 := ((A3.ext E4).keep Kc5)
  have nt5 : t5 ≠ b3 := Ne.symm (own_ane f7 (wd_14 hw) To5.2.2.2)
  show Wp _ _ _ _ (T.setTop (mkF _ _ _ [(.ref b4), (.int ec), (.ref n2), (.ref b3), (.ref b3)]))
  have f8 := (((show Fld Z h3 b3 "com/example/reasoned_retry/reasonedretry/Classifier$Failure" "command" "Ljava/lang/String;" .null from D3 (Or.inr (wd_51 hw)) (ty := (.object "java/lang/String")) (by decide)).ext E4).keep Kc5 (by simp only [List.mem_cons, List.not_mem_nil, or_false]; exact (Nat.ne_of_lt (Nat.lt_of_lt_of_le A3.lt (Nat.le_of_eq g4.symm)))))
  have f9 := (((show Fld Z h3 b3 "com/example/reasoned_retry/reasonedretry/Classifier$Failure" "exitCode" "I" (.int (0 : Int32)) from D3 (Or.inr (wd_53 hw)) (ty := .int) (by decide)).ext E4).keep Kc5 (by simp only [List.mem_cons, List.not_mem_nil, or_false]; exact (Nat.ne_of_lt (Nat.lt_of_lt_of_le A3.lt (Nat.le_of_eq g4.symm)))))
  have f10 := (((show Fld Z h3 b3 "com/example/reasoned_retry/reasonedretry/Classifier$Failure" "output" "Ljava/lang/String;" .null from D3 (Or.inr (wd_55 hw)) (ty := (.object "java/lang/String")) (by decide)).ext E4).keep Kc5 (by simp only [List.mem_cons, List.not_mem_nil, or_false]; exact (Nat.ne_of_lt (Nat.lt_of_lt_of_le A3.lt (Nat.le_of_eq g4.symm)))))
  refine v_callI X Y q6_2_38 rfl (wd_37 hw) (wd_38 hw) (wd_11 hw) (wd_39 hw) (by decide) (argsL := [(.ref n2), (.int ec), (.ref b4)]) (S := [(.ref b3)]) (m_fi_1 hw gn3 f7 f8 f9 f10) pd_31 rfl rfl rfl (by decide) (leR rfl) (by decide) (by decide) (fun T h6 v6 L6 u kk X Y q6 => ?_)
  obtain ⟨rfl, Kc6, Ef6, Fc6, Fe6, Fo6⟩ := q6
  have K11 : Keep h0 h6 [] := K6.trans Kc6 (fun x hx => by cases List.mem_singleton.mp hx; exact (Or.inr sz_b3))
  show Wp _ _ _ _ (T.setTop (mkF _ _ _ [(.ref b3)]))
  have f12 := (To5.keep Kc6 (by simp only [List.mem_cons, List.not_mem_nil, or_false]; exact (Ne.symm (Nat.ne_of_lt (Nat.lt_of_lt_of_le A3.lt (Nat.le_of_eq g4.symm))))) (by simp only [List.mem_cons, List.not_mem_nil, or_false]; exact nt5))
  have f13 := ((((Tn2.ext E3).ext E4).keep Kc5 (by simp only [List.mem_cons, List.not_mem_nil, or_false]; exact (Nat.ne_of_lt (Nat.lt_of_lt_of_le (Nat.lt_of_lt_of_le Tn2.1.lt E3.1) (Nat.le_of_eq g4.symm)))) (by simp only [List.mem_cons, List.not_mem_nil, or_false]; exact (Nat.ne_of_lt (Nat.lt_of_lt_of_le (Nat.lt_of_lt_of_le Tn2.2.2.2.lt E3.1) (Nat.le_of_eq g4.symm))))).keep Kc6 (by simp only [List.mem_cons, List.not_mem_nil, or_false]; exact (Nat.ne_of_lt (Nat.lt_of_lt_of_le Tn2.1.lt (Nat.le_of_eq g3.symm)))) (by simp only [List.mem_cons, List.not_mem_nil, or_false]; exact (Nat.ne_of_lt (Nat.lt_of_lt_of_le Tn2.2.2.2.lt (Nat.le_of_eq g3.symm)))))
  exact g_retR X Y rfl (rfl) rfl q6_2_41 (fun vm' hW => ⟨_, _, _, _, _, rfl, Ef6, Fc6, Fe6, Fo6, f12, f13, K11⟩) (by decide) (by decide)
theorem m_l1e_0 (hw : own_hw a0 Z) {h0 : Heap} {a b : Addr}  (Aa : Ary Z h0 a .byte []) (Ab : Ary Z h0 b .byte []) :
    Does l Z n0 ⟨"java/lang/StringLatin1", "equals", "([B[B)Z"⟩ jdk_43_method_13_code 3 (some .boolean) [] { frames := 0, cells := 0, slots := 0, locals := 0 } #[(.ref a), (.ref b)] h0 (fun v h => v = some (.int (1 : Int32)) ∧ h0 = h) := by
  refine Does.start (plainFor_of_name pn_7) ?_
  intro p e s m below meth c T X
  replace X : Sd _ _ _ _ _ "java/lang/StringLatin1" "equals" _ _ _ _ _ _ _ _ _ _ _ _ _ _ _ _ := X
  refine Wp.cast (g' := mkF m 0 #[.val (.ref a), .val (.ref b), .unset] []) (by first | (simp [entryFrame, mkF, argsToLocals, Value.category, maxLocals]; done) | rfl) ?_
  refine w_aloadN X k43_13_0 rfl (rfl) ?_
  refine w_arrlen X (0 : Int32) k43_13_1 Aa rfl ?_
  refine w_aloadN X k43_13_2 rfl (rfl) ?_
  refine w_arrlen X (0 : Int32) k43_13_3 Ab rfl ?_
  refine w_icmpne X k43_13_4 (fun hc => absurd rfl hc) (fun _ => ?_)
  refine w_iconst X (0 : Int32) k43_13_7 rfl ?_
  refine w_istoreN X #[.val (.ref a), .val (.ref b), .val (.int (0 : Int32))] k43_13_8 rfl ?_
  refine w_iloadN X k43_13_9 rfl ?_
  refine w_aloadN X k43_13_10 rfl (rfl) ?_
  refine w_arrlen X (0 : Int32) k43_13_11 Aa rfl ?_
  refine w_icmpge X k43_13_12 (fun _ => ?_) (fun hc => absurd hc Int32.lt_irrefl)
  refine w_iconst X (1 : Int32) k43_13_32 rfl ?_
  exact w_ret_boolean X (1 : Int32) (by decide) k43_13_33 ⟨rfl, rfl⟩ (by decide) (by decide)
theorem m_eq_0 (hw : own_hw a0 Z) {h0 : Heap} {zc : Int32} {fm : Value} {a b ta tb : Addr} {ka : Int32}  (hS : own_S Z zc fm) (Ta : Lat Z h0 a ta ka []) (Tb : Lat Z h0 b tb ka []) :
    Does l Z n0 ⟨"java/lang/String", "equals", "(Ljava/lang/Object;)Z"⟩ jdk_42_method_66_code 3 (some .boolean) [] { frames := 1, cells := 0, slots := 0, locals := 14 } #[(.ref a), (.ref b)] h0 (fun v h => v = some (.int (1 : Int32)) ∧ h0 = h) := by
  refine Does.start (plainFor_of_name pn_3) ?_
  obtain ⟨S_zc, hzc, S_fm, hfm⟩ := id hS
  intro p e s m below meth c T X
  replace X : Sd _ _ _ _ _ "java/lang/String" "equals" _ _ _ _ _ _ _ _ _ _ _ _ _ _ _ _ := X
  refine Wp.cast (g' := mkF m 0 #[.val (.ref a), .val (.ref b), .unset] []) (by first | (simp [entryFrame, mkF, argsToLocals, Value.category, maxLocals]; done) | rfl) ?_
  refine w_aloadN X k42_66_0 rfl (rfl) ?_
  refine w_aloadN X k42_66_1 rfl (rfl) ?_
  refine w_acmpne X (rfl) (rfl) k42_66_2 (fun (hc2 : ¬ ((.ref a) : Value) = (.ref b)) => ?_) (fun (hc2 : ((.ref a) : Value) = (.ref b)) => ?_)
  · refine w_aloadN X k42_66_7 rfl (rfl) ?_
    refine w_inst X k42_66_8 (wd_76 hw) (Ins.self Tb.1) (fun T X => ?_)
    refine w_ifeq X k42_66_11 (fun hc => absurd hc (by decide)) (fun _ => ?_)
    refine w_aloadN X k42_66_14 rfl (rfl) ?_
    refine w_cast X k42_66_15 (wd_76 hw) (Ins.self Tb.1) (fun T X => ?_)
    refine w_astoreN X #[.val (.ref a), .val (.ref b), .val (.ref b)] k42_66_18 (rfl) rfl ?_
    refine w_getS X k42_66_19 (host := "") (Or.inl (wd_77 hw)) Via.refl (S_zc.ext X.old.2) (fun T X => ?_)
    refine w_ifeq X k42_66_22 (fun hc => absurd hc hzc) (fun _ => ?_)
    refine w_aloadN X k42_66_25 rfl (rfl) ?_
    refine w_getF X k42_66_26 (host := "") (Or.inl (wd_36 hw)) Via.refl Ta.2.1 (fun T X => ?_)
    refine w_aloadN X k42_66_29 rfl (rfl) ?_
    refine w_getF X k42_66_30 (host := "") (Or.inl (wd_36 hw)) Via.refl Tb.2.1 (fun T X => ?_)
    refine w_icmpne X k42_66_33 (fun hc => absurd rfl hc) (fun _ => ?_)
    refine w_aloadN X k42_66_36 rfl (rfl) ?_
    refine w_getF X k42_66_37 (host := "") (Or.inl (wd_35 hw)) Via.refl Ta.2.2.1 (fun T X => ?_)
    refine w_aloadN X k42_66_40 rfl (rfl) ?_
    refine w_getF X k42_66_41 (host := "") (Or.inl (wd_35 hw)) Via.refl Tb.2.2.1 (fun T X => ?_)
    refine w_callS X k42_66_44 (wd_78 hw) (wd_79 hw) (wd_80 hw) (wd_81 hw) (by decide) (argsL := [(.ref ta), (.ref tb)]) (S := []) (m_l1e_0 hw Ta.2.2.2 Tb.2.2.2) pd_33 rfl rfl rfl (by decide) (leR rfl) (by decide) (by decide) (fun T h1 v1 L1 X q1 => ?_)
    obtain ⟨rfl, rfl⟩ := q1
    show Wp _ _ _ _ (T.setTop (mkF _ _ _ [(.int (1 : Int32))]))
    refine w_ifeq X k42_66_47 (fun hc => absurd hc (by decide)) (fun _ => ?_)
    refine w_iconst X (1 : Int32) k42_66_50 rfl ?_
    refine w_goto X k42_66_51 ?_
    exact w_ret_boolean X (1 : Int32) (by decide) k42_66_55 ⟨rfl, rfl⟩ (by decide) (by decide)
  · refine w_iconst X (1 : Int32) k42_66_5 rfl ?_
    exact w_ret_boolean X (1 : Int32) (by decide) k42_66_6 ⟨rfl, rfl⟩ (by decide) (by decide)
theorem m_l1e_1 (hw : own_hw a0 Z) {h0 : Heap} {a b : Addr} {x0 : Int32} (Aa : Ary Z h0 a .byte [(.int x0)]) (Ab : Ary Z h0 b .byte [(.int x0)]) :
    Does l Z n0 ⟨"java/lang/StringLatin1", "equals", "([B[B)Z"⟩ jdk_43_method_13_code 3 (some .boolean) [] { frames := 0, cells := 0, slots := 0, locals := 0 } #[(.ref a), (.ref b)] h0 (fun v h => v = some (.int (1 : Int32)) ∧ h0 = h) := by
  refine Does.start (plainFor_of_name pn_7) ?_
  intro p e s m below meth c T X
  replace X : Sd _ _ _ _ _ "java/lang/StringLatin1" "equals" _ _ _ _ _ _ _ _ _ _ _ _ _ _ _ _ := X
  refine Wp.cast (g' := mkF m 0 #[.val (.ref a), .val (.ref b), .unset] []) (by first | (simp [entryFrame, mkF, argsToLocals, Value.category, maxLocals]; done) | rfl) ?_
  refine w_aloadN X k43_13_0 rfl (rfl) ?_
  refine w_arrlen X (1 : Int32) k43_13_1 Aa rfl ?_
  refine w_aloadN X k43_13_2 rfl (rfl) ?_
  refine w_arrlen X (1 : Int32) k43_13_3 Ab rfl ?_
  refine w_icmpne X k43_13_4 (fun hc => absurd rfl hc) (fun _ => ?_)
  refine w_iconst X (0 : Int32) k43_13_7 rfl ?_
  refine w_istoreN X #[.val (.ref a), .val (.ref b), .val (.int (0 : Int32))] k43_13_8 rfl ?_
  refine w_iloadN X k43_13_9 rfl ?_
  refine w_aloadN X k43_13_10 rfl (rfl) ?_
  refine w_arrlen X (1 : Int32) k43_13_11 Aa rfl ?_
  refine w_icmpge X k43_13_12 (fun hc => absurd (by decide) hc) (fun _ => ?_)
  refine w_aloadN X k43_13_15 rfl (rfl) ?_
  refine w_iloadN X k43_13_16 rfl ?_
  refine w_baload X k43_13_17 Aa (by decide) rfl ?_
  refine w_aloadN X k43_13_18 rfl (rfl) ?_
  refine w_iloadN X k43_13_19 rfl ?_
  refine w_baload X k43_13_20 Ab (by decide) rfl ?_
  refine w_icmpeq X k43_13_21 (fun _ => ?_) (fun hc => absurd rfl hc)
  refine w_iinc X (1 : Int32) #[.val (.ref a), .val (.ref b), .val (.int (1 : Int32))] k43_13_26 rfl rfl rfl ?_
  refine w_goto X k43_13_29 ?_
  refine w_iloadN X k43_13_9 rfl ?_
  refine w_aloadN X k43_13_10 rfl (rfl) ?_
  refine w_arrlen X (1 : Int32) k43_13_11 Aa rfl ?_
  refine w_icmpge X k43_13_12 (fun _ => ?_) (fun hc => absurd hc Int32.lt_irrefl)
  refine w_iconst X (1 : Int32) k43_13_32 rfl ?_
  exact w_ret_boolean X (1 : Int32) (by decide) k43_13_33 ⟨rfl, rfl⟩ (by decide) (by decide)
theorem m_eq_1 (hw : own_hw a0 Z) {h0 : Heap} {zc : Int32} {fm : Value} {a b ta tb : Addr} {ka : Int32} {x0 : Int32} (hS : own_S Z zc fm) (Ta : Lat Z h0 a ta ka [(.int x0)]) (Tb : Lat Z h0 b tb ka [(.int x0)]) :
    Does l Z n0 ⟨"java/lang/String", "equals", "(Ljava/lang/Object;)Z"⟩ jdk_42_method_66_code 3 (some .boolean) [] { frames := 1, cells := 0, slots := 0, locals := 14 } #[(.ref a), (.ref b)] h0 (fun v h => v = some (.int (1 : Int32)) ∧ h0 = h) := by
  refine Does.start (plainFor_of_name pn_3) ?_
  obtain ⟨S_zc, hzc, S_fm, hfm⟩ := id hS
  intro p e s m below meth c T X
  replace X : Sd _ _ _ _ _ "java/lang/String" "equals" _ _ _ _ _ _ _ _ _ _ _ _ _ _ _ _ := X
  refine Wp.cast (g' := mkF m 0 #[.val (.ref a), .val (.ref b), .unset] []) (by first | (simp [entryFrame, mkF, argsToLocals, Value.category, maxLocals]; done) | rfl) ?_
  refine w_aloadN X k42_66_0 rfl (rfl) ?_
  refine w_aloadN X k42_66_1 rfl (rfl) ?_
  refine w_acmpne X (rfl) (rfl) k42_66_2 (fun (hc2 : ¬ ((.ref a) : Value) = (.ref b)) => ?_) (fun (hc2 : ((.ref a) : Value) = (.ref b)) => ?_)
  · refine w_aloadN X k42_66_7 rfl (rfl) ?_
    refine w_inst X k42_66_8 (wd_76 hw) (Ins.self Tb.1) (fun T X => ?_)
    refine w_ifeq X k42_66_11 (fun hc => absurd hc (by decide)) (fun _ => ?_)
    refine w_aloadN X k42_66_14 rfl (rfl) ?_
    refine w_cast X k42_66_15 (wd_76 hw) (Ins.self Tb.1) (fun T X => ?_)
    refine w_astoreN X #[.val (.ref a), .val (.ref b), .val (.ref b)] k42_66_18 (rfl) rfl ?_
    refine w_getS X k42_66_19 (host := "") (Or.inl (wd_77 hw)) Via.refl (S_zc.ext X.old.2) (fun T X => ?_)
    refine w_ifeq X k42_66_22 (fun hc => absurd hc hzc) (fun _ => ?_)
    refine w_aloadN X k42_66_25 rfl (rfl) ?_
    refine w_getF X k42_66_26 (host := "") (Or.inl (wd_36 hw)) Via.refl Ta.2.1 (fun T X => ?_)
    refine w_aloadN X k42_66_29 rfl (rfl) ?_
    refine w_getF X k42_66_30 (host := "") (Or.inl (wd_36 hw)) Via.refl Tb.2.1 (fun T X => ?_)
    refine w_icmpne X k42_66_33 (fun hc => absurd rfl hc) (fun _ => ?_)
    refine w_aloadN X k42_66_36 rfl (rfl) ?_
    refine w_getF X k42_66_37 (host := "") (Or.inl (wd_35 hw)) Via.refl Ta.2.2.1 (fun T X => ?_)
    refine w_aloadN X k42_66_40 rfl (rfl) ?_
    refine w_getF X k42_66_41 (host := "") (Or.inl (wd_35 hw)) Via.refl Tb.2.2.1 (fun T X => ?_)
    refine w_callS X k42_66_44 (wd_78 hw) (wd_79 hw) (wd_80 hw) (wd_81 hw) (by decide) (argsL := [(.ref ta), (.ref tb)]) (S := []) (m_l1e_1 hw Ta.2.2.2 Tb.2.2.2) pd_33 rfl rfl rfl (by decide) (leR rfl) (by decide) (by decide) (fun T h1 v1 L1 X q1 => ?_)
    obtain ⟨rfl, rfl⟩ := q1
    show Wp _ _ _ _ (T.setTop (mkF _ _ _ [(.int (1 : Int32))]))
    refine w_ifeq X k42_66_47 (fun hc => absurd hc (by decide)) (fun _ => ?_)
    refine w_iconst X (1 : Int32) k42_66_50 rfl ?_
    refine w_goto X k42_66_51 ?_
    exact w_ret_boolean X (1 : Int32) (by decide) k42_66_55 ⟨rfl, rfl⟩ (by decide) (by decide)
  · refine w_iconst X (1 : Int32) k42_66_5 rfl ?_
    exact w_ret_boolean X (1 : Int32) (by decide) k42_66_6 ⟨rfl, rfl⟩ (by decide) (by decide)
theorem m_l1e_2 (hw : own_hw a0 Z) {h0 : Heap} {a b : Addr} {x0 x1 : Int32} (Aa : Ary Z h0 a .byte [(.int x0), (.int x1)]) (Ab : Ary Z h0 b .byte [(.int x0), (.int x1)]) :
    Does l Z n0 ⟨"java/lang/StringLatin1", "equals", "([B[B)Z"⟩ jdk_43_method_13_code 3 (some .boolean) [] { frames := 0, cells := 0, slots := 0, locals := 0 } #[(.ref a), (.ref b)] h0 (fun v h => v = some (.int (1 : Int32)) ∧ h0 = h) := by
  refine Does.start (plainFor_of_name pn_7) ?_
  intro p e s m below meth c T X
  replace X : Sd _ _ _ _ _ "java/lang/StringLatin1" "equals" _ _ _ _ _ _ _ _ _ _ _ _ _ _ _ _ := X
  refine Wp.cast (g' := mkF m 0 #[.val (.ref a), .val (.ref b), .unset] []) (by first | (simp [entryFrame, mkF, argsToLocals, Value.category, maxLocals]; done) | rfl) ?_
  refine w_aloadN X k43_13_0 rfl (rfl) ?_
  refine w_arrlen X (2 : Int32) k43_13_1 Aa rfl ?_
  refine w_aloadN X k43_13_2 rfl (rfl) ?_
  refine w_arrlen X (2 : Int32) k43_13_3 Ab rfl ?_
  refine w_icmpne X k43_13_4 (fun hc => absurd rfl hc) (fun _ => ?_)
  refine w_iconst X (0 : Int32) k43_13_7 rfl ?_
  refine w_istoreN X #[.val (.ref a), .val (.ref b), .val (.int (0 : Int32))] k43_13_8 rfl ?_
  refine w_iloadN X k43_13_9 rfl ?_
  refine w_aloadN X k43_13_10 rfl (rfl) ?_
  refine w_arrlen X (2 : Int32) k43_13_11 Aa rfl ?_
  refine w_icmpge X k43_13_12 (fun hc => absurd (by decide) hc) (fun _ => ?_)
  refine w_aloadN X k43_13_15 rfl (rfl) ?_
  refine w_iloadN X k43_13_16 rfl ?_
  refine w_baload X k43_13_17 Aa (by decide) rfl ?_
  refine w_aloadN X k43_13_18 rfl (rfl) ?_
  refine w_iloadN X k43_13_19 rfl ?_
  refine w_baload X k43_13_20 Ab (by decide) rfl ?_
  refine w_icmpeq X k43_13_21 (fun _ => ?_) (fun hc => absurd rfl hc)
  refine w_iinc X (1 : Int32) #[.val (.ref a), .val (.ref b), .val (.int (1 : Int32))] k43_13_26 rfl rfl rfl ?_
  refine w_goto X k43_13_29 ?_
  refine w_iloadN X k43_13_9 rfl ?_
  refine w_aloadN X k43_13_10 rfl (rfl) ?_
  refine w_arrlen X (2 : Int32) k43_13_11 Aa rfl ?_
  refine w_icmpge X k43_13_12 (fun hc => absurd (by decide) hc) (fun _ => ?_)
  refine w_aloadN X k43_13_15 rfl (rfl) ?_
  refine w_iloadN X k43_13_16 rfl ?_
  refine w_baload X k43_13_17 Aa (by decide) rfl ?_
  refine w_aloadN X k43_13_18 rfl (rfl) ?_
  refine w_iloadN X k43_13_19 rfl ?_
  refine w_baload X k43_13_20 Ab (by decide) rfl ?_
  refine w_icmpeq X k43_13_21 (fun _ => ?_) (fun hc => absurd rfl hc)
  refine w_iinc X (1 : Int32) #[.val (.ref a), .val (.ref b), .val (.int (2 : Int32))] k43_13_26 rfl rfl rfl ?_
  refine w_goto X k43_13_29 ?_
  refine w_iloadN X k43_13_9 rfl ?_
  refine w_aloadN X k43_13_10 rfl (rfl) ?_
  refine w_arrlen X (2 : Int32) k43_13_11 Aa rfl ?_
  refine w_icmpge X k43_13_12 (fun _ => ?_) (fun hc => absurd hc Int32.lt_irrefl)
  refine w_iconst X (1 : Int32) k43_13_32 rfl ?_
  exact w_ret_boolean X (1 : Int32) (by decide) k43_13_33 ⟨rfl, rfl⟩ (by decide) (by decide)
theorem m_eq_2 (hw : own_hw a0 Z) {h0 : Heap} {zc : Int32} {fm : Value} {a b ta tb : Addr} {ka : Int32} {x0 x1 : Int32} (hS : own_S Z zc fm) (Ta : Lat Z h0 a ta ka [(.int x0), (.int x1)]) (Tb : Lat Z h0 b tb ka [(.int x0), (.int x1)]) :
    Does l Z n0 ⟨"java/lang/String", "equals", "(Ljava/lang/Object;)Z"⟩ jdk_42_method_66_code 3 (some .boolean) [] { frames := 1, cells := 0, slots := 0, locals := 14 } #[(.ref a), (.ref b)] h0 (fun v h => v = some (.int (1 : Int32)) ∧ h0 = h) := by
  refine Does.start (plainFor_of_name pn_3) ?_
  obtain ⟨S_zc, hzc, S_fm, hfm⟩ := id hS
  intro p e s m below meth c T X
  replace X : Sd _ _ _ _ _ "java/lang/String" "equals" _ _ _ _ _ _ _ _ _ _ _ _ _ _ _ _ := X
  refine Wp.cast (g' := mkF m 0 #[.val (.ref a), .val (.ref b), .unset] []) (by first | (simp [entryFrame, mkF, argsToLocals, Value.category, maxLocals]; done) | rfl) ?_
  refine w_aloadN X k42_66_0 rfl (rfl) ?_
  refine w_aloadN X k42_66_1 rfl (rfl) ?_
  refine w_acmpne X (rfl) (rfl) k42_66_2 (fun (hc2 : ¬ ((.ref a) : Value) = (.ref b)) => ?_) (fun (hc2 : ((.ref a) : Value) = (.ref b)) => ?_)
  · refine w_aloadN X k42_66_7 rfl (rfl) ?_
    refine w_inst X k42_66_8 (wd_76 hw) (Ins.self Tb.1) (fun T X => ?_)
    refine w_ifeq X k42_66_11 (fun hc => absurd hc (by decide)) (fun _ => ?_)
    refine w_aloadN X k42_66_14 rfl (rfl) ?_
    refine w_cast X k42_66_15 (wd_76 hw) (Ins.self Tb.1) (fun T X => ?_)
    refine w_astoreN X #[.val (.ref a), .val (.ref b), .val (.ref b)] k42_66_18 (rfl) rfl ?_
    refine w_getS X k42_66_19 (host := "") (Or.inl (wd_77 hw)) Via.refl (S_zc.ext X.old.2) (fun T X => ?_)
    refine w_ifeq X k42_66_22 (fun hc => absurd hc hzc) (fun _ => ?_)
    refine w_aloadN X k42_66_25 rfl (rfl) ?_
    refine w_getF X k42_66_26 (host := "") (Or.inl (wd_36 hw)) Via.refl Ta.2.1 (fun T X => ?_)
    refine w_aloadN X k42_66_29 rfl (rfl) ?_
    refine w_getF X k42_66_30 (host := "") (Or.inl (wd_36 hw)) Via.refl Tb.2.1 (fun T X => ?_)
    refine w_icmpne X k42_66_33 (fun hc => absurd rfl hc) (fun _ => ?_)
    refine w_aloadN X k42_66_36 rfl (rfl) ?_
    refine w_getF X k42_66_37 (host := "") (Or.inl (wd_35 hw)) Via.refl Ta.2.2.1 (fun T X => ?_)
    refine w_aloadN X k42_66_40 rfl (rfl) ?_
    refine w_getF X k42_66_41 (host := "") (Or.inl (wd_35 hw)) Via.refl Tb.2.2.1 (fun T X => ?_)
    refine w_callS X k42_66_44 (wd_78 hw) (wd_79 hw) (wd_80 hw) (wd_81 hw) (by decide) (argsL := [(.ref ta), (.ref tb)]) (S := []) (m_l1e_2 hw Ta.2.2.2 Tb.2.2.2) pd_33 rfl rfl rfl (by decide) (leR rfl) (by decide) (by decide) (fun T h1 v1 L1 X q1 => ?_)
    obtain ⟨rfl, rfl⟩ := q1
    show Wp _ _ _ _ (T.setTop (mkF _ _ _ [(.int (1 : Int32))]))
    refine w_ifeq X k42_66_47 (fun hc => absurd hc (by decide)) (fun _ => ?_)
    refine w_iconst X (1 : Int32) k42_66_50 rfl ?_
    refine w_goto X k42_66_51 ?_
    exact w_ret_boolean X (1 : Int32) (by decide) k42_66_55 ⟨rfl, rfl⟩ (by decide) (by decide)
  · refine w_iconst X (1 : Int32) k42_66_5 rfl ?_
    exact w_ret_boolean X (1 : Int32) (by decide) k42_66_6 ⟨rfl, rfl⟩ (by decide) (by decide)
theorem m_l1e_3 (hw : own_hw a0 Z) {h0 : Heap} {a b : Addr} {x0 x1 x2 : Int32} (Aa : Ary Z h0 a .byte [(.int x0), (.int x1), (.int x2)]) (Ab : Ary Z h0 b .byte [(.int x0), (.int x1), (.int x2)]) :
    Does l Z n0 ⟨"java/lang/StringLatin1", "equals", "([B[B)Z"⟩ jdk_43_method_13_code 3 (some .boolean) [] { frames := 0, cells := 0, slots := 0, locals := 0 } #[(.ref a), (.ref b)] h0 (fun v h => v = some (.int (1 : Int32)) ∧ h0 = h) := by
  refine Does.start (plainFor_of_name pn_7) ?_
  intro p e s m below meth c T X
  replace X : Sd _ _ _ _ _ "java/lang/StringLatin1" "equals" _ _ _ _ _ _ _ _ _ _ _ _ _ _ _ _ := X
  refine Wp.cast (g' := mkF m 0 #[.val (.ref a), .val (.ref b), .unset] []) (by first | (simp [entryFrame, mkF, argsToLocals, Value.category, maxLocals]; done) | rfl) ?_
  refine w_aloadN X k43_13_0 rfl (rfl) ?_
  refine w_arrlen X (3 : Int32) k43_13_1 Aa rfl ?_
  refine w_aloadN X k43_13_2 rfl (rfl) ?_
  refine w_arrlen X (3 : Int32) k43_13_3 Ab rfl ?_
  refine w_icmpne X k43_13_4 (fun hc => absurd rfl hc) (fun _ => ?_)
  refine w_iconst X (0 : Int32) k43_13_7 rfl ?_
  refine w_istoreN X #[.val (.ref a), .val (.ref b), .val (.int (0 : Int32))] k43_13_8 rfl ?_
  refine w_iloadN X k43_13_9 rfl ?_
  refine w_aloadN X k43_13_10 rfl (rfl) ?_
  refine w_arrlen X (3 : Int32) k43_13_11 Aa rfl ?_
  refine w_icmpge X k43_13_12 (fun hc => absurd (by decide) hc) (fun _ => ?_)
  refine w_aloadN X k43_13_15 rfl (rfl) ?_
  refine w_iloadN X k43_13_16 rfl ?_
  refine w_baload X k43_13_17 Aa (by decide) rfl ?_
  refine w_aloadN X k43_13_18 rfl (rfl) ?_
  refine w_iloadN X k43_13_19 rfl ?_
  refine w_baload X k43_13_20 Ab (by decide) rfl ?_
  refine w_icmpeq X k43_13_21 (fun _ => ?_) (fun hc => absurd rfl hc)
  refine w_iinc X (1 : Int32) #[.val (.ref a), .val (.ref b), .val (.int (1 : Int32))] k43_13_26 rfl rfl rfl ?_
  refine w_goto X k43_13_29 ?_
  refine w_iloadN X k43_13_9 rfl ?_
  refine w_aloadN X k43_13_10 rfl (rfl) ?_
  refine w_arrlen X (3 : Int32) k43_13_11 Aa rfl ?_
  refine w_icmpge X k43_13_12 (fun hc => absurd (by decide) hc) (fun _ => ?_)
  refine w_aloadN X k43_13_15 rfl (rfl) ?_
  refine w_iloadN X k43_13_16 rfl ?_
  refine w_baload X k43_13_17 Aa (by decide) rfl ?_
  refine w_aloadN X k43_13_18 rfl (rfl) ?_
  refine w_iloadN X k43_13_19 rfl ?_
  refine w_baload X k43_13_20 Ab (by decide) rfl ?_
  refine w_icmpeq X k43_13_21 (fun _ => ?_) (fun hc => absurd rfl hc)
  refine w_iinc X (1 : Int32) #[.val (.ref a), .val (.ref b), .val (.int (2 : Int32))] k43_13_26 rfl rfl rfl ?_
  refine w_goto X k43_13_29 ?_
  refine w_iloadN X k43_13_9 rfl ?_
  refine w_aloadN X k43_13_10 rfl (rfl) ?_
  refine w_arrlen X (3 : Int32) k43_13_11 Aa rfl ?_
  refine w_icmpge X k43_13_12 (fun hc => absurd (by decide) hc) (fun _ => ?_)
  refine w_aloadN X k43_13_15 rfl (rfl) ?_
  refine w_iloadN X k43_13_16 rfl ?_
  refine w_baload X k43_13_17 Aa (by decide) rfl ?_
  refine w_aloadN X k43_13_18 rfl (rfl) ?_
  refine w_iloadN X k43_13_19 rfl ?_
  refine w_baload X k43_13_20 Ab (by decide) rfl ?_
  refine w_icmpeq X k43_13_21 (fun _ => ?_) (fun hc => absurd rfl hc)
  refine w_iinc X (1 : Int32) #[.val (.ref a), .val (.ref b), .val (.int (3 : Int32))] k43_13_26 rfl rfl rfl ?_
  refine w_goto X k43_13_29 ?_
  refine w_iloadN X k43_13_9 rfl ?_
  refine w_aloadN X k43_13_10 rfl (rfl) ?_
  refine w_arrlen X (3 : Int32) k43_13_11 Aa rfl ?_
  refine w_icmpge X k43_13_12 (fun _ => ?_) (fun hc => absurd hc Int32.lt_irrefl)
  refine w_iconst X (1 : Int32) k43_13_32 rfl ?_
  exact w_ret_boolean X (1 : Int32) (by decide) k43_13_33 ⟨rfl, rfl⟩ (by decide) (by decide)
theorem m_eq_3 (hw : own_hw a0 Z) {h0 : Heap} {zc : Int32} {fm : Value} {a b ta tb : Addr} {ka : Int32} {x0 x1 x2 : Int32} (hS : own_S Z zc fm) (Ta : Lat Z h0 a ta ka [(.int x0), (.int x1), (.int x2)]) (Tb : Lat Z h0 b tb ka [(.int x0), (.int x1), (.int x2)]) :
    Does l Z n0 ⟨"java/lang/String", "equals", "(Ljava/lang/Object;)Z"⟩ jdk_42_method_66_code 3 (some .boolean) [] { frames := 1, cells := 0, slots := 0, locals := 14 } #[(.ref a), (.ref b)] h0 (fun v h => v = some (.int (1 : Int32)) ∧ h0 = h) := by
  refine Does.start (plainFor_of_name pn_3) ?_
  obtain ⟨S_zc, hzc, S_fm, hfm⟩ := id hS
  intro p e s m below meth c T X
  replace X : Sd _ _ _ _ _ "java/lang/String" "equals" _ _ _ _ _ _ _ _ _ _ _ _ _ _ _ _ := X
  refine Wp.cast (g' := mkF m 0 #[.val (.ref a), .val (.ref b), .unset] []) (by first | (simp [entryFrame, mkF, argsToLocals, Value.category, maxLocals]; done) | rfl) ?_
  refine w_aloadN X k42_66_0 rfl (rfl) ?_
  refine w_aloadN X k42_66_1 rfl (rfl) ?_
  refine w_acmpne X (rfl) (rfl) k42_66_2 (fun (hc2 : ¬ ((.ref a) : Value) = (.ref b)) => ?_) (fun (hc2 : ((.ref a) : Value) = (.ref b)) => ?_)
  · refine w_aloadN X k42_66_7 rfl (rfl) ?_
    refine w_inst X k42_66_8 (wd_76 hw) (Ins.self Tb.1) (fun T X => ?_)
    refine w_ifeq X k42_66_11 (fun hc => absurd hc (by decide)) (fun _ => ?_)
    refine w_aloadN X k42_66_14 rfl (rfl) ?_
    refine w_cast X k42_66_15 (wd_76 hw) (Ins.self Tb.1) (fun T X => ?_)
    refine w_astoreN X #[.val (.ref a), .val (.ref b), .val (.ref b)] k42_66_18 (rfl) rfl ?_
    refine w_getS X k42_66_19 (host := "") (Or.inl (wd_77 hw)) Via.refl (S_zc.ext X.old.2) (fun T X => ?_)
    refine w_ifeq X k42_66_22 (fun hc => absurd hc hzc) (fun _ => ?_)
    refine w_aloadN X k42_66_25 rfl (rfl) ?_
    refine w_getF X k42_66_26 (host := "") (Or.inl (wd_36 hw)) Via.refl Ta.2.1 (fun T X => ?_)
    refine w_aloadN X k42_66_29 rfl (rfl) ?_
    refine w_getF X k42_66_30 (host := "") (Or.inl (wd_36 hw)) Via.refl Tb.2.1 (fun T X => ?_)
    refine w_icmpne X k42_66_33 (fun hc => absurd rfl hc) (fun _ => ?_)
    refine w_aloadN X k42_66_36 rfl (rfl) ?_
    refine w_getF X k42_66_37 (host := "") (Or.inl (wd_35 hw)) Via.refl Ta.2.2.1 (fun T X => ?_)
    refine w_aloadN X k42_66_40 rfl (rfl) ?_
    refine w_getF X k42_66_41 (host := "") (Or.inl (wd_35 hw)) Via.refl Tb.2.2.1 (fun T X => ?_)
    refine w_callS X k42_66_44 (wd_78 hw) (wd_79 hw) (wd_80 hw) (wd_81 hw) (by decide) (argsL := [(.ref ta), (.ref tb)]) (S := []) (m_l1e_3 hw Ta.2.2.2 Tb.2.2.2) pd_33 rfl rfl rfl (by decide) (leR rfl) (by decide) (by decide) (fun T h1 v1 L1 X q1 => ?_)
    obtain ⟨rfl, rfl⟩ := q1
    show Wp _ _ _ _ (T.setTop (mkF _ _ _ [(.int (1 : Int32))]))
    refine w_ifeq X k42_66_47 (fun hc => absurd hc (by decide)) (fun _ => ?_)
    refine w_iconst X (1 : Int32) k42_66_50 rfl ?_
    refine w_goto X k42_66_51 ?_
    exact w_ret_boolean X (1 : Int32) (by decide) k42_66_55 ⟨rfl, rfl⟩ (by decide) (by decide)
  · refine w_iconst X (1 : Int32) k42_66_5 rfl ?_
    exact w_ret_boolean X (1 : Int32) (by decide) k42_66_6 ⟨rfl, rfl⟩ (by decide) (by decide)
theorem m_enN (hw : own_hw a0 Z) {h0 : Heap} {c0 : Int32} (l0 : (255 : Int32) < c0) :
    Does l Z n0 ⟨"java/lang/StringLatin1", "canEncode", "(C)Z"⟩ jdk_43_method_3_code 1 (some .boolean) [] { frames := 0, cells := 0, slots := 0, locals := 0 } #[(.int c0)] h0 (fun v h => v = some (.int (0 : Int32)) ∧ h0 = h) := by
  refine Does.start (plainFor_of_name pn_7) ?_
  intro p e s m below meth c T X
  replace X : Sd _ _ _ _ _ "java/lang/StringLatin1" "canEncode" _ _ _ _ _ _ _ _ _ _ _ _ _ _ _ _ := X
  refine Wp.cast (g' := mkF m 0 #[.val (.int c0)] []) (by first | (simp [entryFrame, mkF, argsToLocals, Value.category, maxLocals]; done) | rfl) ?_
  refine w_iloadN X k43_3_0 rfl ?_
  refine w_sipush X (255 : Int32) k43_3_1 rfl ?_
  refine w_icmpgt X k43_3_4 (fun _ => ?_) (fun hc => absurd l0 hc)
  refine w_iconst X (0 : Int32) k43_3_11 rfl ?_
  exact w_ret_boolean X (0 : Int32) (by decide) k43_3_12 ⟨rfl, rfl⟩ (by decide) (by decide)
theorem m_put_1_0 (hw : own_hw a0 Z) {h0 : Heap} {a : Addr} {x0 x1 d : Int32} {zc : Int32} {fm : Value} (hU : own_U Z zc fm) (ga : n0 ≤ a) (Aa : Ary Z h0 a .byte [(.int x0), (.int x1)]) :
    Does l Z n0 ⟨"java/lang/StringUTF16", "putChar", "([BII)V"⟩ jdk_52_method_4_code 3 none [] { frames := 0, cells := 0, slots := 0, locals := 0 } #[(.ref a), (.int (0 : Int32)), (.int d)] h0 (fun v h => v = none ∧ Ary Z h a .byte [(.int ((d >>> ((0 : Int32) &&& 31)).toInt8.toInt32)), (.int ((d >>> ((8 : Int32) &&& 31)).toInt8.toInt32))] ∧ Keep h0 h [a]) := by
  refine Does.start (plainFor_of_name pn_6) ?_
  obtain ⟨hS, S_ad, S_hi, S_lo⟩ := id hU
  obtain ⟨S_zc, hzc, S_fm, hfm⟩ := id hS
  intro p e s m below meth c T X
  replace X : Sd _ _ _ _ _ "java/lang/StringUTF16" "putChar" _ _ _ _ _ _ _ _ _ _ _ _ _ _ _ _ := X
  refine Wp.cast (g' := mkF m 0 #[.val (.ref a), .val (.int (0 : Int32)), .val (.int d)] []) (by first | (simp [entryFrame, mkF, argsToLocals, Value.category, maxLocals]; done) | rfl) ?_
  refine w_getS X k52_4_0 (host := "") (Or.inl (wd_96 hw)) Via.refl (S_ad.ext X.old.2) (fun T X => ?_)
  refine w_ifne X k52_4_3 (fun _ => ?_) (fun hc => absurd hc (by decide))
  refine w_iloadN X k52_4_28 rfl ?_
  refine w_iconst X (1 : Int32) k52_4_29 rfl ?_
  refine w_ishl X k52_4_30 ?_
  refine w_istoreN X #[.val (.ref a), .val (.int (0 : Int32)), .val (.int d)] k52_4_31 rfl ?_
  refine w_aloadN X k52_4_32 rfl (rfl) ?_
  refine w_iloadN X k52_4_33 rfl ?_
  refine w_iinc X (1 : Int32) #[.val (.ref a), .val (.int (1 : Int32)), .val (.int d)] k52_4_34 rfl rfl rfl ?_
  refine w_iloadN X k52_4_37 rfl ?_
  refine w_getS X k52_4_38 (host := "") (Or.inl (wd_97 hw)) Via.refl (S_hi.ext X.old.2) (fun T X => ?_)
  refine w_ishr X k52_4_41 ?_
  refine w_i2b X k52_4_42 ?_
  refine w_bastore X k52_4_43 Aa (by decide) rfl ga (.int ((d >>> ((0 : Int32) &&& 31)).toInt8.toInt32)) (congrArg Value.int (own_nar_b _)) [(.int ((d >>> ((0 : Int32) &&& 31)).toInt8.toInt32)), (.int x1)] rfl (fun T h1 X W1 A1 => ?_)
  have K1 : Keep h0 h1 [a] := (Keep.refl h0 [a]).wr W1 (Or.inl (List.mem_of_getElem? (i := 0) rfl))
  refine w_aloadN X k52_4_44 rfl (rfl) ?_
  refine w_iloadN X k52_4_45 rfl ?_
  refine w_iloadN X k52_4_46 rfl ?_
  refine w_getS X k52_4_47 (host := "") (Or.inl (wd_98 hw)) Via.refl (S_lo.ext X.old.2) (fun T X => ?_)
  refine w_ishr X k52_4_50 ?_
  refine w_i2b X k52_4_51 ?_
  refine w_bastore X k52_4_52 A1 (by decide) rfl ga (.int ((d >>> ((8 : Int32) &&& 31)).toInt8.toInt32)) (congrArg Value.int (own_nar_b _)) [(.int ((d >>> ((0 : Int32) &&& 31)).toInt8.toInt32)), (.int ((d >>> ((8 : Int32) &&& 31)).toInt8.toInt32))] rfl (fun T h2 X W2 A2 => ?_)
  have K2 : Keep h0 h2 [a] := K1.wr W2 (Or.inl (List.mem_of_getElem? (i := 0) rfl))
  exact w_retV X k52_4_53 ⟨rfl, A2, K2⟩ (by decide) (by decide)
theorem m_tbU (hw : own_hw a0 Z) {h0 : Heap} {zc : Int32} {fm : Value} {c0 : Int32} (hU : own_U Z zc fm) :
    Does l Z n0 ⟨"java/lang/StringUTF16", "toBytes", "(C)[B"⟩ jdk_52_method_24_code 2 (some (.array .byte)) [] { frames := 1, cells := 1, slots := 2, locals := 14 } #[(.int c0)] h0 (fun v h => ∃ b, v = some (.ref b) ∧ h0.size ≤ b ∧ n0 ≤ b ∧ Ary Z h b .byte [(.int ((c0 >>> ((0 : Int32) &&& 31)).toInt8.toInt32)), (.int ((c0 >>> ((8 : Int32) &&& 31)).toInt8.toInt32))] ∧ Keep h0 h []) := by
  refine Does.start (plainFor_of_name pn_6) ?_
  obtain ⟨hS, S_ad, S_hi, S_lo⟩ := id hU
  obtain ⟨S_zc, hzc, S_fm, hfm⟩ := id hS
  intro p e s m below meth c T X
  replace X : Sd _ _ _ _ _ "java/lang/StringUTF16" "toBytes" _ _ _ _ _ _ _ _ _ _ _ _ _ _ _ _ := X
  refine Wp.cast (g' := mkF m 0 #[.val (.int c0), .unset] []) (by first | (simp [entryFrame, mkF, argsToLocals, Value.category, maxLocals]; done) | rfl) ?_
  refine w_iconst X (2 : Int32) k52_24_0 rfl ?_
  refine w_newarr X k52_24_1 (wd_1 hw) 2 2 (by decide) (by decide) (by decide) (by decide) (by decide) (by decide) (fun T h1 b1 g1 gn1 X E1 A1 => ?_)
  replace A1 : Ary Z h1 b1 .byte [(.int (0 : Int32)), (.int (0 : Int32))] := A1
  have sz_b1 : h0.size ≤ b1 := Nat.le_trans (Keep.refl h0 []).1 (Nat.le_of_eq g1.symm)
  have K1 : Keep h0 h1 [] := (Keep.refl h0 []).ext E1
  refine w_astoreN X #[.val (.int c0), .val (.ref b1)] k52_24_3 (rfl) rfl ?_
  refine w_aloadN X k52_24_4 rfl (rfl) ?_
  refine w_iconst X (0 : Int32) k52_24_5 rfl ?_
  refine w_iloadN X k52_24_6 rfl ?_
  refine w_callS X k52_24_7 (wd_93 hw) (wd_94 hw) (wd_91 hw) (wd_95 hw) (by decide) (argsL := [(.ref b1), (.int (0 : Int32)), (.int c0)]) (S := []) (m_put_1_0 hw (d := c0) hU gn1 A1) pd_10 rfl rfl rfl (by decide) (leR rfl) (by decide) (by decide) (fun T h2 v2 L2 X q2 => ?_)
  obtain ⟨rfl, Ap2, Kc2⟩ := q2
  have K2 : Keep h0 h2 [] := K1.trans Kc2 (fun x hx => by cases List.mem_singleton.mp hx; exact (Or.inr sz_b1))
  show Wp _ _ _ _ (T.setTop (mkF _ _ _ []))
  refine w_aloadN X k52_24_10 rfl (rfl) ?_
  exact w_retR X rfl (rfl) rfl k52_24_11 ⟨_, rfl, sz_b1, gn1, Ap2, K2⟩ (by decide) (by decide)
theorem m_sib1 (hw : own_hw a0 Z) {h0 : Heap} {a b : Addr}  (ga : n0 ≤ a) (Ea : Exa Z h0 a "java/lang/String") (Va : Fld Z h0 a "java/lang/String" "value" "[B" .null) (Ca : Fld Z h0 a "java/lang/String" "coder" "B" (.int (0 : Int32))) :
    Does l Z n0 ⟨"java/lang/String", "<init>", "([BB)V"⟩ jdk_42_method_151_code 3 none [] { frames := 1, cells := 0, slots := 0, locals := 12 } #[(.ref a), (.ref b), (.int (1 : Int32))] h0 (fun v h => v = none ∧ Exa Z h a "java/lang/String" ∧ Fld Z h a "java/lang/String" "coder" "B" (.int (1 : Int32)) ∧ Fld Z h a "java/lang/String" "value" "[B" (.ref b) ∧ Keep h0 h [a]) := by
  refine Does.start (plainFor_of_name pn_3) ?_
  intro p e s m below meth c T X
  replace X : Sd _ _ _ _ _ "java/lang/String" "<init>" _ _ _ _ _ _ _ _ _ _ _ _ _ _ _ _ := X
  refine Wp.cast (g' := mkF m 0 #[.val (.ref a), .val (.ref b), .val (.int (1 : Int32))] []) (by first | (simp [entryFrame, mkF, argsToLocals, Value.category, maxLocals]; done) | rfl) ?_
  refine w_aloadN X k42_151_0 rfl (rfl) ?_
  refine w_initO X k42_151_1 (wd_31 hw) (wd_32 hw) (wd_33 hw) rfl (by decide) (leR rfl) (fun T X => ?_)
  refine w_aloadN X k42_151_4 rfl (rfl) ?_
  refine w_aloadN X k42_151_5 rfl (rfl) ?_
  refine w_putF X k42_151_6 (host := "") (Or.inl (wd_35 hw)) Via.refl Va Ea (Or.inr ⟨(wd_5 hw), rfl, rfl⟩) (wd_4 hw) (ty := (.array .byte)) (by decide) rfl rfl ga (fun T h1 X W1 => ?_)
  have f1 := Va.same W1
  have K2 : Keep h0 h1 [a] := (Keep.refl h0 [a]).wr W1 (Or.inl (List.mem_of_getElem? (i := 0) rfl))
  refine w_aloadN X k42_151_9 rfl (rfl) ?_
  refine w_iloadN X k42_151_10 rfl ?_
  have f3 := (Ea.wr W1)
  have f4 := (Ca.other W1 (Or.inr (slot_ne (Or.inr (wd_6 hw)) (Or.inr (wd_5 hw)) (by decide) (t := .byte) (t' := (.array .byte)) (by decide) (by decide))))
  refine w_putFN X k42_151_11 (wd_36 hw) Via.refl f4 f3 (Or.inr ⟨(wd_6 hw), rfl, rfl⟩) (wd_4 hw) (ty := .byte) (by decide) (.int (1 : Int32)) rfl (by decide) ga (fun T h2 X W2 => ?_)
  have f5 := f4.same W2
  have K6 : Keep h0 h2 [a] := K2.wr W2 (Or.inl (List.mem_of_getElem? (i := 0) rfl))
  have f7 := (f3.wr W2)
  have f8 := (f1.other W2 (Or.inr (slot_ne (Or.inr (wd_5 hw)) (Or.inr (wd_6 hw)) (by decide) (t := (.array .byte)) (t' := .byte) (by decide) (by decide))))
  exact w_retV X k42_151_14 ⟨rfl, f7, f5, f8, K6⟩ (by decide) (by decide)
theorem m_vU (hw : own_hw a0 Z) {h0 : Heap} {zc : Int32} {fm : Value} {c0 : Int32} (hU : own_U Z zc fm) (l0 : (255 : Int32) < c0) :
    Does l Z n0 ⟨"java/lang/String", "valueOf", "(C)Ljava/lang/String;"⟩ jdk_42_method_139_code 1 (some (.object "java/lang/String")) [] { frames := 2, cells := 2, slots := 6, locals := 29 } #[(.int c0)] h0 (fun v h => ∃ b c, v = some (.ref b) ∧ h0.size ≤ b ∧ n0 ≤ b ∧ h0.size ≤ c ∧ n0 ≤ c ∧ Lat Z h b c (1 : Int32) [(.int ((c0 >>> ((0 : Int32) &&& 31)).toInt8.toInt32)), (.int ((c0 >>> ((8 : Int32) &&& 31)).toInt8.toInt32))] ∧ Keep h0 h []) := by
  refine Does.start (plainFor_of_name pn_3) ?_
  obtain ⟨hS, S_ad, S_hi, S_lo⟩ := id hU
  obtain ⟨S_zc, hzc, S_fm, hfm⟩ := id hS
  intro p e s m below meth c T X
  replace X : Sd _ _ _ _ _ "java/lang/String" "valueOf" _ _ _ _ _ _ _ _ _ _ _ _ _ _ _ _ := X
  refine Wp.cast (g' := mkF m 0 #[.val (.int c0)] []) (by first | (simp [entryFrame, mkF, argsToLocals, Value.category, maxLocals]; done) | rfl) ?_
  refine w_getS X k42_139_0 (host := "") (Or.inl (wd_77 hw)) Via.refl (S_zc.ext X.old.2) (fun T X => ?_)
  refine w_ifeq X k42_139_3 (fun hc => absurd hc hzc) (fun _ => ?_)
  refine w_iloadN X k42_139_6 rfl ?_
  refine w_callS X k42_139_7 (wd_86 hw) (wd_87 hw) (wd_80 hw) (wd_88 hw) (by decide) (argsL := [(.int c0)]) (S := []) (m_enN hw l0) pd_13 rfl rfl rfl (by decide) (leR rfl) (by decide) (by decide) (fun T h1 v1 L1 X q1 => ?_)
  obtain ⟨rfl, rfl⟩ := q1
  show Wp _ _ _ _ (T.setTop (mkF _ _ _ [(.int (0 : Int32))]))
  refine w_ifeq X k42_139_10 (fun _ => ?_) (fun hc => absurd rfl hc)
  refine w_new X k42_139_26 (wd_76 hw) (wd_4 hw) (wd_3 hw) (by decide) (by decide) (fun T h2 b2 g2 gn2 X E2 A2 D2 => ?_)
  have sz_b2 : h0.size ≤ b2 := Nat.le_trans (Keep.refl h0 []).1 (Nat.le_of_eq g2.symm)
  have K1 : Keep h0 h2 [] := (Keep.refl h0 []).ext E2
  refine w_dup X k42_139_29 rfl ?_
  refine w_iloadN X k42_139_30 rfl ?_
  refine w_callS X k42_139_31 (wd_89 hw) (wd_90 hw) (wd_91 hw) (wd_92 hw) (by decide) (argsL := [(.int c0)]) (S := [(.ref b2), (.ref b2)]) (m_tbU hw hU (c0 := c0)) pd_34 rfl rfl rfl (by decide) (leR rfl) (by decide) (by decide) (fun T h3 v3 L3 X q3 => ?_)
  obtain ⟨t3, rfl, gt3, gn3, At3, Kc3⟩ := q3
  have K2 : Keep h0 h3 [] := K1.trans Kc3 (fun x hx => nomatch hx)
  have sz_t3 : h0.size ≤ t3 := Nat.le_trans K1.1 gt3
  show Wp _ _ _ _ (T.setTop (mkF _ _ _ [(.ref t3), (.ref b2), (.ref b2)]))
  refine w_iconst X (1 : Int32) k42_139_34 rfl ?_
  have f3 := (A2.keep Kc3)
  have f4 := ((show Fld Z h2 b2 "java/lang/String" "value" "[B" .null from D2 (Or.inr (wd_5 hw)) (ty := (.array .byte)) (by decide)).keep Kc3 (List.not_mem_nil))
  have f5 := ((show Fld Z h2 b2 "java/lang/String" "coder" "B" (.int (0 : Int32)) from D2 (Or.inr (wd_6 hw)) (ty := .byte) (by decide)).keep Kc3 (List.not_mem_nil))
  refine w_callI X k42_139_35 rfl (wd_99 hw) (wd_100 hw) (wd_3 hw) (wd_101 hw) (by decide) (argsL := [(.ref t3), (.int (1 : Int32))]) (S := [(.ref b2)]) (m_sib1 hw gn2 f3 f4 f5) pd_26 rfl rfl rfl (by decide) (leR rfl) (by decide) (by decide) (fun T h4 v4 L4 X q4 => ?_)
  obtain ⟨rfl, Ex4, Cx4, Vx4, Kc4⟩ := q4
  have K6 : Keep h0 h4 [] := K2.trans Kc4 (fun x hx => by cases List.mem_singleton.mp hx; exact (Or.inr sz_b2))
  show Wp _ _ _ _ (T.setTop (mkF _ _ _ [(.ref b2)]))
  have f7 := (At3.keep Kc4 (by simp only [List.mem_cons, List.not_mem_nil, or_false]; exact (Ne.symm (Nat.ne_of_lt (Nat.lt_of_lt_of_le A2.lt gt3)))))
  exact w_retR X rfl (rfl) rfl k42_139_38 ⟨_, _, rfl, sz_b2, gn2, sz_t3, gn3, ⟨Ex4, Cx4, Vx4, f7⟩, K6⟩ (by decide) (by decide)
theorem m_enc (hw : own_hw a0 Z) {h0 : Heap} {c0 : Int32} (l0 : ¬ (255 : Int32) < c0) :
    Does l Z n0 ⟨"java/lang/StringLatin1", "canEncode", "(C)Z"⟩ jdk_43_method_3_code 1 (some .boolean) [] { frames := 0, cells := 0, slots := 0, locals := 0 } #[(.int c0)] h0 (fun v h => v = some (.int (1 : Int32)) ∧ h0 = h) := by
  refine Does.start (plainFor_of_name pn_7) ?_
  intro p e s m below meth c T X
  replace X : Sd _ _ _ _ _ "java/lang/StringLatin1" "canEncode" _ _ _ _ _ _ _ _ _ _ _ _ _ _ _ _ := X
  refine Wp.cast (g' := mkF m 0 #[.val (.int c0)] []) (by first | (simp [entryFrame, mkF, argsToLocals, Value.category, maxLocals]; done) | rfl) ?_
  refine w_iloadN X k43_3_0 rfl ?_
  refine w_sipush X (255 : Int32) k43_3_1 rfl ?_
  refine w_icmpgt X k43_3_4 (fun hc => absurd hc l0) (fun _ => ?_)
  refine w_iconst X (1 : Int32) k43_3_7 rfl ?_
  refine w_goto X k43_3_8 ?_
  exact w_ret_boolean X (1 : Int32) (by decide) k43_3_12 ⟨rfl, rfl⟩ (by decide) (by decide)
theorem m_tob (hw : own_hw a0 Z) {h0 : Heap} {c0 : Int32}  :
    Does l Z n0 ⟨"java/lang/StringLatin1", "toBytes", "(C)[B"⟩ jdk_43_method_46_code 1 (some (.array .byte)) [] { frames := 0, cells := 1, slots := 1, locals := 0 } #[(.int c0)] h0 (fun v h => ∃ t, v = some (.ref t) ∧ h0.size ≤ t ∧ n0 ≤ t ∧ Ary Z h t .byte [(.int (c0.toInt8.toInt32))] ∧ Keep h0 h []) := by
  refine Does.start (plainFor_of_name pn_7) ?_
  intro p e s m below meth c T X
  replace X : Sd _ _ _ _ _ "java/lang/StringLatin1" "toBytes" _ _ _ _ _ _ _ _ _ _ _ _ _ _ _ _ := X
  refine Wp.cast (g' := mkF m 0 #[.val (.int c0)] []) (by first | (simp [entryFrame, mkF, argsToLocals, Value.category, maxLocals]; done) | rfl) ?_
  refine w_iconst X (1 : Int32) k43_46_0 rfl ?_
  refine w_newarr X k43_46_1 (wd_1 hw) 1 1 (by decide) (by decide) (by decide) (by decide) (by decide) (by decide) (fun T h1 b1 g1 gn1 X E1 A1 => ?_)
  replace A1 : Ary Z h1 b1 .byte [(.int (0 : Int32))] := A1
  have sz_b1 : h0.size ≤ b1 := Nat.le_trans (Keep.refl h0 []).1 (Nat.le_of_eq g1.symm)
  have K1 : Keep h0 h1 [] := (Keep.refl h0 []).ext E1
  refine w_dup X k43_46_3 rfl ?_
  refine w_iconst X (0 : Int32) k43_46_4 rfl ?_
  refine w_iloadN X k43_46_5 rfl ?_
  refine w_i2b X k43_46_6 ?_
  refine w_bastore X k43_46_7 A1 (by decide) rfl gn1 (.int (c0.toInt8.toInt32)) (congrArg Value.int (own_nar_b _)) [(.int (c0.toInt8.toInt32))] rfl (fun T h2 X W2 A2 => ?_)
  have K2 : Keep h0 h2 [] := K1.wr W2 (Or.inr sz_b1)
  exact w_retR X rfl (rfl) rfl k43_46_8 ⟨_, rfl, sz_b1, gn1, A2, K2⟩ (by decide) (by decide)
theorem m_vof (hw : own_hw a0 Z) {h0 : Heap} {zc : Int32} {fm : Value} {c0 : Int32} (hS : own_S Z zc fm) (l0 : ¬ (255 : Int32) < c0) :
    Does l Z n0 ⟨"java/lang/String", "valueOf", "(C)Ljava/lang/String;"⟩ jdk_42_method_139_code 1 (some (.object "java/lang/String")) [] { frames := 2, cells := 2, slots := 5, locals := 27 } #[(.int c0)] h0 (fun v h => ∃ a t, v = some (.ref a) ∧ h0.size ≤ a ∧ n0 ≤ a ∧ h0.size ≤ t ∧ n0 ≤ t ∧ Exa Z h a "java/lang/String" ∧ Fld Z h a "java/lang/String" "coder" "B" (.int (0 : Int32)) ∧ Fld Z h a "java/lang/String" "value" "[B" (.ref t) ∧ Ary Z h t .byte [(.int (c0.toInt8.toInt32))] ∧ Keep h0 h []) := by
  refine Does.start (plainFor_of_name pn_3) ?_
  obtain ⟨S_zc, hzc, S_fm, hfm⟩ := id hS
  intro p e s m below meth c T X
  replace X : Sd _ _ _ _ _ "java/lang/String" "valueOf" _ _ _ _ _ _ _ _ _ _ _ _ _ _ _ _ := X
  refine Wp.cast (g' := mkF m 0 #[.val (.int c0)] []) (by first | (simp [entryFrame, mkF, argsToLocals, Value.category, maxLocals]; done) | rfl) ?_
  refine w_getS X k42_139_0 (host := "") (Or.inl (wd_77 hw)) Via.refl (S_zc.ext X.old.2) (fun T X => ?_)
  refine w_ifeq X k42_139_3 (fun hc => absurd hc hzc) (fun _ => ?_)
  refine w_iloadN X k42_139_6 rfl ?_
  refine w_callS X k42_139_7 (wd_86 hw) (wd_87 hw) (wd_80 hw) (wd_88 hw) (by decide) (argsL := [(.int c0)]) (S := []) (m_enc hw l0) pd_13 rfl rfl rfl (by decide) (leR rfl) (by decide) (by decide) (fun T h1 v1 L1 X q1 => ?_)
  obtain ⟨rfl, rfl⟩ := q1
  show Wp _ _ _ _ (T.setTop (mkF _ _ _ [(.int (1 : Int32))]))
  refine w_ifeq X k42_139_10 (fun hc => absurd hc (by decide)) (fun _ => ?_)
  refine w_new X k42_139_13 (wd_76 hw) (wd_4 hw) (wd_3 hw) (by decide) (by decide) (fun T h2 b2 g2 gn2 X E2 A2 D2 => ?_)
  have sz_b2 : h0.size ≤ b2 := Nat.le_trans (Keep.refl h0 []).1 (Nat.le_of_eq g2.symm)
  have K1 : Keep h0 h2 [] := (Keep.refl h0 []).ext E2
  refine w_dup X k42_139_16 rfl ?_
  refine w_iloadN X k42_139_17 rfl ?_
  refine w_callS X k42_139_18 (wd_253 hw) (wd_254 hw) (wd_80 hw) (wd_255 hw) (by decide) (argsL := [(.int c0)]) (S := [(.ref b2), (.ref b2)]) (m_tob hw (c0 := c0)) pd_34 rfl rfl rfl (by decide) (leR rfl) (by decide) (by decide) (fun T h3 v3 L3 X q3 => ?_)
  obtain ⟨t3, rfl, gt3, gn3, At3, Kc3⟩ := q3
  have K2 : Keep h0 h3 [] := K1.trans Kc3 (fun x hx => nomatch hx)
  have sz_t3 : h0.size ≤ t3 := Nat.le_trans K1.1 gt3
  show Wp _ _ _ _ (T.setTop (mkF _ _ _ [(.ref t3), (.ref b2), (.ref b2)]))
  refine w_iconst X (0 : Int32) k42_139_21 rfl ?_
  have f3 := (A2.keep Kc3)
  have f4 := ((show Fld Z h2 b2 "java/lang/String" "value" "[B" .null from D2 (Or.inr (wd_5 hw)) (ty := (.array .byte)) (by decide)).keep Kc3 (List.not_mem_nil))
  have f5 := ((show Fld Z h2 b2 "java/lang/String" "coder" "B" (.int (0 : Int32)) from D2 (Or.inr (wd_6 hw)) (ty := .byte) (by decide)).keep Kc3 (List.not_mem_nil))
  refine w_callI X k42_139_22 rfl (wd_99 hw) (wd_100 hw) (wd_3 hw) (wd_101 hw) (by decide) (argsL := [(.ref t3), (.int (0 : Int32))]) (S := [(.ref b2)]) (m_sib hw gn2 f3 f4 f5) pd_26 rfl rfl rfl (by decide) (leR rfl) (by decide) (by decide) (fun T h4 v4 L4 X q4 => ?_)
  obtain ⟨rfl, Ex4, Cx4, Vx4, Kc4⟩ := q4
  have K6 : Keep h0 h4 [] := K2.trans Kc4 (fun x hx => by cases List.mem_singleton.mp hx; exact (Or.inr sz_b2))
  show Wp _ _ _ _ (T.setTop (mkF _ _ _ [(.ref b2)]))
  have f7 := (At3.keep Kc4 (by simp only [List.mem_cons, List.not_mem_nil, or_false]; exact (Ne.symm (Nat.ne_of_lt (Nat.lt_of_lt_of_le A2.lt gt3)))))
  exact w_retR X rfl (rfl) rfl k42_139_25 ⟨_, _, rfl, sz_b2, gn2, sz_t3, gn3, Ex4, Cx4, Vx4, f7, K6⟩ (by decide) (by decide)
theorem m_c5_2 (hw : own_hw a0 Z) {h0 : Heap} {a b : Addr} {c0 c1 : Int32} (Aa : Ary Z h0 a .char [(.int c0), (.int c1)]) (Ab : Ary Z h0 b .byte [(.int (0 : Int32)), (.int (0 : Int32))]) (gb : n0 ≤ b) (nab : a ≠ b) (l0 : ¬ (255 : Int32) < c0) (l1 : ¬ (255 : Int32) < c1) :
    Does l Z n0 ⟨"java/lang/StringUTF16", "compress", "([CI[BII)I"⟩ jdk_52_method_21_code 7 (some .int) [] { frames := 0, cells := 0, slots := 0, locals := 0 } #[(.ref a), (.int (0 : Int32)), (.ref b), (.int (0 : Int32)), (.int (2 : Int32))] h0 (fun v h => v = some (.int (2 : Int32)) ∧ Ary Z h b .byte [(.int (c0.toInt8.toInt32)), (.int (c1.toInt8.toInt32))] ∧ Keep h0 h [b]) := by
  refine Does.start (plainFor_of_name pn_6) ?_
  intro p e s m below meth c T X
  replace X : Sd _ _ _ _ _ "java/lang/StringUTF16" "compress" _ _ _ _ _ _ _ _ _ _ _ _ _ _ _ _ := X
  refine Wp.cast (g' := mkF m 0 #[.val (.ref a), .val (.int (0 : Int32)), .val (.ref b), .val (.int (0 : Int32)), .val (.int (2 : Int32)), .unset, .unset] []) (by first | (simp [entryFrame, mkF, argsToLocals, Value.category, maxLocals]; done) | rfl) ?_
  refine w_iconst X (0 : Int32) k52_21_0 rfl ?_
  refine w_istore X #[.val (.ref a), .val (.int (0 : Int32)), .val (.ref b), .val (.int (0 : Int32)), .val (.int (2 : Int32)), .val (.int (0 : Int32)), .unset] k52_21_1 rfl ?_
  refine w_iload X k52_21_3 rfl ?_
  refine w_iload X k52_21_5 rfl ?_
  refine w_icmpge X k52_21_7 (fun hc => absurd (by decide) hc) (fun _ => ?_)
  refine w_aloadN X k52_21_10 rfl (rfl) ?_
  refine w_iloadN X k52_21_11 rfl ?_
  refine w_caload X k52_21_12 Aa (by decide) rfl ?_
  refine w_istore X #[.val (.ref a), .val (.int (0 : Int32)), .val (.ref b), .val (.int (0 : Int32)), .val (.int (2 : Int32)), .val (.int (0 : Int32)), .val (.int c0)] k52_21_13 rfl ?_
  refine w_iload X k52_21_15 rfl ?_
  refine w_sipush X (255 : Int32) k52_21_17 rfl ?_
  refine w_icmple X k52_21_20 (fun _ => ?_) (fun hc => absurd hc l0)
  refine w_aloadN X k52_21_26 rfl (rfl) ?_
  refine w_iloadN X k52_21_27 rfl ?_
  refine w_iload X k52_21_28 rfl ?_
  refine w_i2b X k52_21_30 ?_
  refine w_bastore X k52_21_31 Ab (by decide) rfl gb (.int (c0.toInt8.toInt32)) (congrArg Value.int (own_nar_b _)) [(.int (c0.toInt8.toInt32)), (.int (0 : Int32))] rfl (fun T h1 X W1 A1 => ?_)
  have K1 : Keep h0 h1 [b] := (Keep.refl h0 [b]).wr W1 (Or.inl (List.mem_of_getElem? (i := 0) rfl))
  refine w_iinc X (1 : Int32) #[.val (.ref a), .val (.int (1 : Int32)), .val (.ref b), .val (.int (0 : Int32)), .val (.int (2 : Int32)), .val (.int (0 : Int32)), .val (.int c0)] k52_21_32 rfl rfl rfl ?_
  refine w_iinc X (1 : Int32) #[.val (.ref a), .val (.int (1 : Int32)), .val (.ref b), .val (.int (1 : Int32)), .val (.int (2 : Int32)), .val (.int (0 : Int32)), .val (.int c0)] k52_21_35 rfl rfl rfl ?_
  refine w_iinc X (1 : Int32) #[.val (.ref a), .val (.int (1 : Int32)), .val (.ref b), .val (.int (1 : Int32)), .val (.int (2 : Int32)), .val (.int (1 : Int32)), .val (.int c0)] k52_21_38 rfl rfl rfl ?_
  refine w_goto X k52_21_41 ?_
  refine w_iload X k52_21_3 rfl ?_
  refine w_iload X k52_21_5 rfl ?_
  refine w_icmpge X k52_21_7 (fun hc => absurd (by decide) hc) (fun _ => ?_)
  refine w_aloadN X k52_21_10 rfl (rfl) ?_
  refine w_iloadN X k52_21_11 rfl ?_
  have f2 := (Aa.other W1 nab)
  refine w_caload X k52_21_12 f2 (by decide) rfl ?_
  refine w_istore X #[.val (.ref a), .val (.int (1 : Int32)), .val (.ref b), .val (.int (1 : Int32)), .val (.int (2 : Int32)), .val (.int (1 : Int32)), .val (.int c1)] k52_21_13 rfl ?_
  refine w_iload X k52_21_15 rfl ?_
  refine w_sipush X (255 : Int32) k52_21_17 rfl ?_
  refine w_icmple X k52_21_20 (fun _ => ?_) (fun hc => absurd hc l1)
  refine w_aloadN X k52_21_26 rfl (rfl) ?_
  refine w_iloadN X k52_21_27 rfl ?_
  refine w_iload X k52_21_28 rfl ?_
  refine w_i2b X k52_21_30 ?_
  refine w_bastore X k52_21_31 A1 (by decide) rfl gb (.int (c1.toInt8.toInt32)) (congrArg Value.int (own_nar_b _)) [(.int (c0.toInt8.toInt32)), (.int (c1.toInt8.toInt32))] rfl (fun T h2 X W2 A2 => ?_)
  have K3 : Keep h0 h2 [b] := K1.wr W2 (Or.inl (List.mem_of_getElem? (i := 0) rfl))
  refine w_iinc X (1 : Int32) #[.val (.ref a), .val (.int (2 : Int32)), .val (.ref b), .val (.int (1 : Int32)), .val (.int (2 : Int32)), .val (.int (1 : Int32)), .val (.int c1)] k52_21_32 rfl rfl rfl ?_
  refine w_iinc X (1 : Int32) #[.val (.ref a), .val (.int (2 : Int32)), .val (.ref b), .val (.int (2 : Int32)), .val (.int (2 : Int32)), .val (.int (1 : Int32)), .val (.int c1)] k52_21_35 rfl rfl rfl ?_
  refine w_iinc X (1 : Int32) #[.val (.ref a), .val (.int (2 : Int32)), .val (.ref b), .val (.int (2 : Int32)), .val (.int (2 : Int32)), .val (.int (2 : Int32)), .val (.int c1)] k52_21_38 rfl rfl rfl ?_
  refine w_goto X k52_21_41 ?_
  refine w_iload X k52_21_3 rfl ?_
  refine w_iload X k52_21_5 rfl ?_
  refine w_icmpge X k52_21_7 (fun _ => ?_) (fun hc => absurd hc Int32.lt_irrefl)
  refine w_iload X k52_21_44 rfl ?_
  exact w_retI X k52_21_46 ⟨rfl, A2, K3⟩ (by decide) (by decide)
theorem m_c3_2 (hw : own_hw a0 Z) {h0 : Heap} {a : Addr} {c0 c1 : Int32} (Aa : Ary Z h0 a .char [(.int c0), (.int c1)]) (l0 : ¬ (255 : Int32) < c0) (l1 : ¬ (255 : Int32) < c1) :
    Does l Z n0 ⟨"java/lang/StringUTF16", "compress", "([CII)[B"⟩ jdk_52_method_16_code 6 (some (.array .byte)) [] { frames := 1, cells := 1, slots := 2, locals := 18 } #[(.ref a), (.int (0 : Int32)), (.int (2 : Int32))] h0 (fun v h => ∃ t, v = some (.ref t) ∧ h0.size ≤ t ∧ n0 ≤ t ∧ Ary Z h t .byte [(.int (c0.toInt8.toInt32)), (.int (c1.toInt8.toInt32))] ∧ Keep h0 h []) := by
  refine Does.start (plainFor_of_name pn_6) ?_
  intro p e s m below meth c T X
  replace X : Sd _ _ _ _ _ "java/lang/StringUTF16" "compress" _ _ _ _ _ _ _ _ _ _ _ _ _ _ _ _ := X
  refine Wp.cast (g' := mkF m 0 #[.val (.ref a), .val (.int (0 : Int32)), .val (.int (2 : Int32)), .unset, .unset, .unset] []) (by first | (simp [entryFrame, mkF, argsToLocals, Value.category, maxLocals]; done) | rfl) ?_
  refine w_iloadN X k52_16_0 rfl ?_
  refine w_newarr X k52_16_1 (wd_1 hw) 2 2 (by decide) (by decide) (by decide) (by decide) (by decide) (by decide) (fun T h1 b1 g1 gn1 X E1 A1 => ?_)
  replace A1 : Ary Z h1 b1 .byte [(.int (0 : Int32)), (.int (0 : Int32))] := A1
  have sz_b1 : h0.size ≤ b1 := Nat.le_trans (Keep.refl h0 []).1 (Nat.le_of_eq g1.symm)
  have K1 : Keep h0 h1 [] := (Keep.refl h0 []).ext E1
  refine w_astoreN X #[.val (.ref a), .val (.int (0 : Int32)), .val (.int (2 : Int32)), .val (.ref b1), .unset, .unset] k52_16_3 (rfl) rfl ?_
  refine w_aloadN X k52_16_4 rfl (rfl) ?_
  refine w_iloadN X k52_16_5 rfl ?_
  refine w_aloadN X k52_16_6 rfl (rfl) ?_
  refine w_iconst X (0 : Int32) k52_16_7 rfl ?_
  refine w_iloadN X k52_16_8 rfl ?_
  have f2 := (Aa.ext E1)
  refine w_callS X k52_16_9 (wd_186 hw) (wd_187 hw) (wd_91 hw) (wd_188 hw) (by decide) (argsL := [(.ref a), (.int (0 : Int32)), (.ref b1), (.int (0 : Int32)), (.int (2 : Int32))]) (S := []) (m_c5_2 hw f2 A1 gn1 (Nat.ne_of_lt (Nat.lt_of_lt_of_le Aa.lt (Nat.le_of_eq g1.symm))) l0 l1) pd_35 rfl rfl rfl (by decide) (leR rfl) (by decide) (by decide) (fun T h2 v2 L2 X q2 => ?_)
  obtain ⟨rfl, Ac2, Kc2⟩ := q2
  have K3 : Keep h0 h2 [] := K1.trans Kc2 (fun x hx => by cases List.mem_singleton.mp hx; exact (Or.inr sz_b1))
  show Wp _ _ _ _ (T.setTop (mkF _ _ _ [(.int (2 : Int32))]))
  refine w_istore X #[.val (.ref a), .val (.int (0 : Int32)), .val (.int (2 : Int32)), .val (.ref b1), .val (.int (2 : Int32)), .unset] k52_16_12 rfl ?_
  refine w_iload X k52_16_14 rfl ?_
  refine w_iloadN X k52_16_16 rfl ?_
  refine w_icmpeq X k52_16_17 (fun _ => ?_) (fun hc => absurd rfl hc)
  refine w_aloadN X k52_16_57 rfl (rfl) ?_
  exact w_retR X rfl (rfl) rfl k52_16_58 ⟨_, rfl, sz_b1, gn1, Ac2, K3⟩ (by decide) (by decide)
theorem m_cfal_2 (hw : own_hw a0 Z) {h0 : Heap} {a : Addr} {v0 v1 : Value} (Aa : Ary Z h0 a .byte [v0, v1]) :
    Does l Z n0 ⟨"java/lang/StringUTF16", "coderFromArrayLen", "([BI)B"⟩ jdk_52_method_15_code 2 (some .byte) [] { frames := 0, cells := 0, slots := 0, locals := 0 } #[(.ref a), (.int (2 : Int32))] h0 (fun v h => v = some (.int (0 : Int32)) ∧ h0 = h) := by
  refine Does.start (plainFor_of_name pn_6) ?_
  intro p e s m below meth c T X
  replace X : Sd _ _ _ _ _ "java/lang/StringUTF16" "coderFromArrayLen" _ _ _ _ _ _ _ _ _ _ _ _ _ _ _ _ := X
  refine Wp.cast (g' := mkF m 0 #[.val (.ref a), .val (.int (2 : Int32))] []) (by first | (simp [entryFrame, mkF, argsToLocals, Value.category, maxLocals]; done) | rfl) ?_
  refine w_iloadN X k52_15_0 rfl ?_
  refine w_aloadN X k52_15_1 rfl (rfl) ?_
  refine w_arrlen X (2 : Int32) k52_15_2 Aa rfl ?_
  refine w_isub X k52_15_3 ?_
  refine w_bipush X (31 : Int32) k52_15_4 rfl ?_
  refine w_iushr X k52_15_6 ?_
  refine w_i2b X k52_15_7 ?_
  exact w_ret_byte X (0 : Int32) (by decide) k52_15_8 ⟨rfl, rfl⟩ (by decide) (by decide)
theorem m_si4_2 (hw : own_hw a0 Z) {h0 : Heap} {zc : Int32} {fm : Value} {a b : Addr} {c0 c1 : Int32} (hS : own_S Z zc fm) (ga : n0 ≤ a) (Ea : Exa Z h0 a "java/lang/String") (Va : Fld Z h0 a "java/lang/String" "value" "[B" .null) (Ca : Fld Z h0 a "java/lang/String" "coder" "B" (.int (0 : Int32))) (Ab : Ary Z h0 b .char [(.int c0), (.int c1)]) (l0 : ¬ (255 : Int32) < c0) (l1 : ¬ (255 : Int32) < c1) :
    Does l Z n0 ⟨"java/lang/String", "<init>", "([CIILjava/lang/Void;)V"⟩ jdk_42_method_149_code 6 none [] { frames := 2, cells := 1, slots := 2, locals := 35 } #[(.ref a), (.ref b), (.int (0 : Int32)), (.int (2 : Int32)), .null] h0 (fun v h => v = none ∧ Exa Z h a "java/lang/String" ∧ Fld Z h a "java/lang/String" "coder" "B" (.int (0 : Int32)) ∧ Keep h0 h [a] ∧ ∃ t, h0.size ≤ t ∧ n0 ≤ t ∧ Fld Z h a "java/lang/String" "value" "[B" (.ref t) ∧ Ary Z h t .byte [(.int (c0.toInt8.toInt32)), (.int (c1.toInt8.toInt32))]) := by
  refine Does.start (plainFor_of_name pn_3) ?_
  obtain ⟨S_zc, hzc, S_fm, hfm⟩ := id hS
  intro p e s m below meth c T X
  replace X : Sd _ _ _ _ _ "java/lang/String" "<init>" _ _ _ _ _ _ _ _ _ _ _ _ _ _ _ _ := X
  refine Wp.cast (g' := mkF m 0 #[.val (.ref a), .val (.ref b), .val (.int (0 : Int32)), .val (.int (2 : Int32)), .val .null, .unset] []) (by first | (simp [entryFrame, mkF, argsToLocals, Value.category, maxLocals]; done) | rfl) ?_
  refine w_aloadN X k42_149_0 rfl (rfl) ?_
  refine w_initO X k42_149_1 (wd_31 hw) (wd_32 hw) (wd_33 hw) rfl (by decide) (leR rfl) (fun T X => ?_)
  refine w_iloadN X k42_149_4 rfl ?_
  refine w_ifne X k42_149_5 (fun _ => ?_) (fun hc => absurd hc (by decide))
  refine w_getS X k42_149_27 (host := "") (Or.inl (wd_77 hw)) Via.refl (S_zc.ext X.old.2) (fun T X => ?_)
  refine w_ifeq X k42_149_30 (fun hc => absurd hc hzc) (fun _ => ?_)
  refine w_aloadN X k42_149_33 rfl (rfl) ?_
  refine w_iloadN X k42_149_34 rfl ?_
  refine w_iloadN X k42_149_35 rfl ?_
  refine w_callS X k42_149_36 (wd_183 hw) (wd_184 hw) (wd_91 hw) (wd_185 hw) (by decide) (argsL := [(.ref b), (.int (0 : Int32)), (.int (2 : Int32))]) (S := []) (m_c3_2 hw Ab l0 l1) pd_36 rfl rfl rfl (by decide) (leR rfl) (by decide) (by decide) (fun T h1 v1 L1 X q1 => ?_)
  obtain ⟨t1, rfl, gt1, gn1, At1, Kc1⟩ := q1
  have K1 : Keep h0 h1 [a] := (Keep.refl h0 [a]).trans Kc1 (fun x hx => nomatch hx)
  have sz_t1 : h0.size ≤ t1 := Nat.le_trans (Keep.refl h0 [a]).1 gt1
  show Wp _ _ _ _ (T.setTop (mkF _ _ _ [(.ref t1)]))
  refine w_astore X #[.val (.ref a), .val (.ref b), .val (.int (0 : Int32)), .val (.int (2 : Int32)), .val .null, .val (.ref t1)] k42_149_39 (rfl) rfl ?_
  refine w_aloadN X k42_149_41 rfl (rfl) ?_
  refine w_aload X k42_149_42 rfl (rfl) ?_
  refine w_iloadN X k42_149_44 rfl ?_
  refine w_callS X k42_149_45 (wd_189 hw) (wd_190 hw) (wd_91 hw) (wd_191 hw) (by decide) (argsL := [(.ref t1), (.int (2 : Int32))]) (S := [(.ref a)]) (m_cfal_2 hw At1) pd_37 rfl rfl rfl (by decide) (leR rfl) (by decide) (by decide) (fun T h2 v2 L2 X q2 => ?_)
  obtain ⟨rfl, rfl⟩ := q2
  show Wp _ _ _ _ (T.setTop (mkF _ _ _ [(.int (0 : Int32)), (.ref a)]))
  have f2 := (Ea.keep Kc1)
  have f3 := (Ca.keep Kc1 (List.not_mem_nil))
  refine w_putFN X k42_149_48 (wd_36 hw) Via.refl f3 f2 (Or.inr ⟨(wd_6 hw), rfl, rfl⟩) (wd_4 hw) (ty := .byte) (by decide) (.int (0 : Int32)) rfl (by decide) ga (fun T h3 X W3 => ?_)
  have f4 := f3.same W3
  have K5 : Keep h0 h3 [a] := K1.wr W3 (Or.inl (List.mem_of_getElem? (i := 0) rfl))
  refine w_aloadN X k42_149_51 rfl (rfl) ?_
  refine w_aload X k42_149_52 rfl (rfl) ?_
  have f6 := (f2.wr W3)
  have f7 := ((Va.keep Kc1 (List.not_mem_nil)).other W3 (Or.inr (slot_ne (Or.inr (wd_5 hw)) (Or.inr (wd_6 hw)) (by decide) (t := (.array .byte)) (t' := .byte) (by decide) (by decide))))
  refine w_putF X k42_149_54 (host := "") (Or.inl (wd_35 hw)) Via.refl f7 f6 (Or.inr ⟨(wd_5 hw), rfl, rfl⟩) (wd_4 hw) (ty := (.array .byte)) (by decide) rfl rfl ga (fun T h4 X W4 => ?_)
  have f8 := f7.same W4
  have K9 : Keep h0 h4 [a] := K5.wr W4 (Or.inl (List.mem_of_getElem? (i := 0) rfl))
  have f10 := (f6.wr W4)
  have f11 := (f4.other W4 (Or.inr (slot_ne (Or.inr (wd_6 hw)) (Or.inr (wd_5 hw)) (by decide) (t := .byte) (t' := (.array .byte)) (by decide) (by decide))))
  have f12 := ((At1.other W3 (Ne.symm (Nat.ne_of_lt (Nat.lt_of_lt_of_le Ea.lt gt1)))).other W4 (Ne.symm (Nat.ne_of_lt (Nat.lt_of_lt_of_le Ea.lt gt1))))
  exact w_retV X k42_149_57 ⟨rfl, f10, f11, K9, _, sz_t1, gn1, f8, f12⟩ (by decide) (by decide)
theorem m_si_2 (hw : own_hw a0 Z) {h0 : Heap} {zc : Int32} {fm : Value} {a b : Addr} {c0 c1 : Int32} (hS : own_S Z zc fm) (ga : n0 ≤ a) (Ea : Exa Z h0 a "java/lang/String") (Va : Fld Z h0 a "java/lang/String" "value" "[B" .null) (Ca : Fld Z h0 a "java/lang/String" "coder" "B" (.int (0 : Int32))) (Ab : Ary Z h0 b .char [(.int c0), (.int c1)]) (l0 : ¬ (255 : Int32) < c0) (l1 : ¬ (255 : Int32) < c1) :
    Does l Z n0 ⟨"java/lang/String", "<init>", "([C)V"⟩ jdk_42_method_3_code 2 none [] { frames := 3, cells := 1, slots := 2, locals := 52 } #[(.ref a), (.ref b)] h0 (fun v h => v = none ∧ Exa Z h a "java/lang/String" ∧ Fld Z h a "java/lang/String" "coder" "B" (.int (0 : Int32)) ∧ Keep h0 h [a] ∧ ∃ t, h0.size ≤ t ∧ n0 ≤ t ∧ Fld Z h a "java/lang/String" "value" "[B" (.ref t) ∧ Ary Z h t .byte [(.int (c0.toInt8.toInt32)), (.int (c1.toInt8.toInt32))]) := by
  refine Does.start (plainFor_of_name pn_3) ?_
  obtain ⟨S_zc, hzc, S_fm, hfm⟩ := id hS
  intro p e s m below meth c T X
  replace X : Sd _ _ _ _ _ "java/lang/String" "<init>" _ _ _ _ _ _ _ _ _ _ _ _ _ _ _ _ := X
  refine Wp.cast (g' := mkF m 0 #[.val (.ref a), .val (.ref b)] []) (by first | (simp [entryFrame, mkF, argsToLocals, Value.category, maxLocals]; done) | rfl) ?_
  refine w_aloadN X k42_3_0 rfl (rfl) ?_
  refine w_aloadN X k42_3_1 rfl (rfl) ?_
  refine w_iconst X (0 : Int32) k42_3_2 rfl ?_
  refine w_aloadN X k42_3_3 rfl (rfl) ?_
  refine w_arrlen X (2 : Int32) k42_3_4 Ab rfl ?_
  refine w_aconstNull X k42_3_5 ?_
  refine w_callI X k42_3_6 rfl (wd_180 hw) (wd_181 hw) (wd_3 hw) (wd_182 hw) (by decide) (argsL := [(.ref b), (.int (0 : Int32)), (.int (2 : Int32)), .null]) (S := []) (m_si4_2 hw hS ga Ea Va Ca Ab l0 l1) pd_38 rfl rfl rfl (by decide) (leR rfl) (by decide) (by decide) (fun T h1 v1 L1 X q1 => ?_)
  obtain ⟨rfl, r1⟩ := q1
  show Wp _ _ _ _ (T.setTop (mkF _ _ _ []))
  exact w_retV X k42_3_9 ⟨rfl, r1⟩ (by decide) (by decide)
theorem m_c5_3 (hw : own_hw a0 Z) {h0 : Heap} {a b : Addr} {c0 c1 c2 : Int32} (Aa : Ary Z h0 a .char [(.int c0), (.int c1), (.int c2)]) (Ab : Ary Z h0 b .byte [(.int (0 : Int32)), (.int (0 : Int32)), (.int (0 : Int32))]) (gb : n0 ≤ b) (nab : a ≠ b) (l0 : ¬ (255 : Int32) < c0) (l1 : ¬ (255 : Int32) < c1) (l2 : ¬ (255 : Int32) < c2) :
    Does l Z n0 ⟨"java/lang/StringUTF16", "compress", "([CI[BII)I"⟩ jdk_52_method_21_code 7 (some .int) [] { frames := 0, cells := 0, slots := 0, locals := 0 } #[(.ref a), (.int (0 : Int32)), (.ref b), (.int (0 : Int32)), (.int (3 : Int32))] h0 (fun v h => v = some (.int (3 : Int32)) ∧ Ary Z h b .byte [(.int (c0.toInt8.toInt32)), (.int (c1.toInt8.toInt32)), (.int (c2.toInt8.toInt32))] ∧ Keep h0 h [b]) := by
  refine Does.start (plainFor_of_name pn_6) ?_
  intro p e s m below meth c T X
  replace X : Sd _ _ _ _ _ "java/lang/StringUTF16" "compress" _ _ _ _ _ _ _ _ _ _ _ _ _ _ _ _ := X
  refine Wp.cast (g' := mkF m 0 #[.val (.ref a), .val (.int (0 : Int32)), .val (.ref b), .val (.int (0 : Int32)), .val (.int (3 : Int32)), .unset, .unset] []) (by first | (simp [entryFrame, mkF, argsToLocals, Value.category, maxLocals]; done) | rfl) ?_
  refine w_iconst X (0 : Int32) k52_21_0 rfl ?_
  refine w_istore X #[.val (.ref a), .val (.int (0 : Int32)), .val (.ref b), .val (.int (0 : Int32)), .val (.int (3 : Int32)), .val (.int (0 : Int32)), .unset] k52_21_1 rfl ?_
  refine w_iload X k52_21_3 rfl ?_
  refine w_iload X k52_21_5 rfl ?_
  refine w_icmpge X k52_21_7 (fun hc => absurd (by decide) hc) (fun _ => ?_)
  refine w_aloadN X k52_21_10 rfl (rfl) ?_
  refine w_iloadN X k52_21_11 rfl ?_
  refine w_caload X k52_21_12 Aa (by decide) rfl ?_
  refine w_istore X #[.val (.ref a), .val (.int (0 : Int32)), .val (.ref b), .val (.int (0 : Int32)), .val (.int (3 : Int32)), .val (.int (0 : Int32)), .val (.int c0)] k52_21_13 rfl ?_
  refine w_iload X k52_21_15 rfl ?_
  refine w_sipush X (255 : Int32) k52_21_17 rfl ?_
  refine w_icmple X k52_21_20 (fun _ => ?_) (fun hc => absurd hc l0)
  refine w_aloadN X k52_21_26 rfl (rfl) ?_
  refine w_iloadN X k52_21_27 rfl ?_
  refine w_iload X k52_21_28 rfl ?_
  refine w_i2b X k52_21_30 ?_
  refine w_bastore X k52_21_31 Ab (by decide) rfl gb (.int (c0.toInt8.toInt32)) (congrArg Value.int (own_nar_b _)) [(.int (c0.toInt8.toInt32)), (.int (0 : Int32)), (.int (0 : Int32))] rfl (fun T h1 X W1 A1 => ?_)
  have K1 : Keep h0 h1 [b] := (Keep.refl h0 [b]).wr W1 (Or.inl (List.mem_of_getElem? (i := 0) rfl))
  refine w_iinc X (1 : Int32) #[.val (.ref a), .val (.int (1 : Int32)), .val (.ref b), .val (.int (0 : Int32)), .val (.int (3 : Int32)), .val (.int (0 : Int32)), .val (.int c0)] k52_21_32 rfl rfl rfl ?_
  refine w_iinc X (1 : Int32) #[.val (.ref a), .val (.int (1 : Int32)), .val (.ref b), .val (.int (1 : Int32)), .val (.int (3 : Int32)), .val (.int (0 : Int32)), .val (.int c0)] k52_21_35 rfl rfl rfl ?_
  refine w_iinc X (1 : Int32) #[.val (.ref a), .val (.int (1 : Int32)), .val (.ref b), .val (.int (1 : Int32)), .val (.int (3 : Int32)), .val (.int (1 : Int32)), .val (.int c0)] k52_21_38 rfl rfl rfl ?_
  refine w_goto X k52_21_41 ?_
  refine w_iload X k52_21_3 rfl ?_
  refine w_iload X k52_21_5 rfl ?_
  refine w_icmpge X k52_21_7 (fun hc => absurd (by decide) hc) (fun _ => ?_)
  refine w_aloadN X k52_21_10 rfl (rfl) ?_
  refine w_iloadN X k52_21_11 rfl ?_
  have f2 := (Aa.other W1 nab)
  refine w_caload X k52_21_12 f2 (by decide) rfl ?_
  refine w_istore X #[.val (.ref a), .val (.int (1 : Int32)), .val (.ref b), .val (.int (1 : Int32)), .val (.int (3 : Int32)), .val (.int (1 : Int32)), .val (.int c1)] k52_21_13 rfl ?_
  refine w_iload X k52_21_15 rfl ?_
  refine w_sipush X (255 : Int32) k52_21_17 rfl ?_
  refine w_icmple X k52_21_20 (fun _ => ?_) (fun hc => absurd hc l1)
  refine w_aloadN X k52_21_26 rfl (rfl) ?_
  refine w_iloadN X k52_21_27 rfl ?_
  refine w_iload X k52_21_28 rfl ?_
  refine w_i2b X k52_21_30 ?_
  refine w_bastore X k52_21_31 A1 (by decide) rfl gb (.int (c1.toInt8.toInt32)) (congrArg Value.int (own_nar_b _)) [(.int (c0.toInt8.toInt32)), (.int (c1.toInt8.toInt32)), (.int (0 : Int32))] rfl (fun T h2 X W2 A2 => ?_)
  have K3 : Keep h0 h2 [b] := K1.wr W2 (Or.inl (List.mem_of_getElem? (i := 0) rfl))
  refine w_iinc X (1 : Int32) #[.val (.ref a), .val (.int (2 : Int32)), .val (.ref b), .val (.int (1 : Int32)), .val (.int (3 : Int32)), .val (.int (1 : Int32)), .val (.int c1)] k52_21_32 rfl rfl rfl ?_
  refine w_iinc X (1 : Int32) #[.val (.ref a), .val (.int (2 : Int32)), .val (.ref b), .val (.int (2 : Int32)), .val (.int (3 : Int32)), .val (.int (1 : Int32)), .val (.int c1)] k52_21_35 rfl rfl rfl ?_
  refine w_iinc X (1 : Int32) #[.val (.ref a), .val (.int (2 : Int32)), .val (.ref b), .val (.int (2 : Int32)), .val (.int (3 : Int32)), .val (.int (2 : Int32)), .val (.int c1)] k52_21_38 rfl rfl rfl ?_
  refine w_goto X k52_21_41 ?_
  refine w_iload X k52_21_3 rfl ?_
  refine w_iload X k52_21_5 rfl ?_
  refine w_icmpge X k52_21_7 (fun hc => absurd (by decide) hc) (fun _ => ?_)
  refine w_aloadN X k52_21_10 rfl (rfl) ?_
  refine w_iloadN X k52_21_11 rfl ?_
  have f4 := (f2.other W2 nab)
  refine w_caload X k52_21_12 f4 (by decide) rfl ?_
  refine w_istore X #[.val (.ref a), .val (.int (2 : Int32)), .val (.ref b), .val (.int (2 : Int32)), .val (.int (3 : Int32)), .val (.int (2 : Int32)), .val (.int c2)] k52_21_13 rfl ?_
  refine w_iload X k52_21_15 rfl ?_
  refine w_sipush X (255 : Int32) k52_21_17 rfl ?_
  refine w_icmple X k52_21_20 (fun _ => ?_) (fun hc => absurd hc l2)
  refine w_aloadN X k52_21_26 rfl (rfl) ?_
  refine w_iloadN X k52_21_27 rfl ?_
  refine w_iload X k52_21_28 rfl ?_
  refine w_i2b X k52_21_30 ?_
  refine w_bastore X k52_21_31 A2 (by decide) rfl gb (.int (c2.toInt8.toInt32)) (congrArg Value.int (own_nar_b _)) [(.int (c0.toInt8.toInt32)), (.int (c1.toInt8.toInt32)), (.int (c2.toInt8.toInt32))] rfl (fun T h3 X W3 A3 => ?_)
  have K5 : Keep h0 h3 [b] := K3.wr W3 (Or.inl (List.mem_of_getElem? (i := 0) rfl))
  refine w_iinc X (1 : Int32) #[.val (.ref a), .val (.int (3 : Int32)), .val (.ref b), .val (.int (2 : Int32)), .val (.int (3 : Int32)), .val (.int (2 : Int32)), .val (.int c2)] k52_21_32 rfl rfl rfl ?_
  refine w_iinc X (1 : Int32) #[.val (.ref a), .val (.int (3 : Int32)), .val (.ref b), .val (.int (3 : Int32)), .val (.int (3 : Int32)), .val (.int (2 : Int32)), .val (.int c2)] k52_21_35 rfl rfl rfl ?_
  refine w_iinc X (1 : Int32) #[.val (.ref a), .val (.int (3 : Int32)), .val (.ref b), .val (.int (3 : Int32)), .val (.int (3 : Int32)), .val (.int (3 : Int32)), .val (.int c2)] k52_21_38 rfl rfl rfl ?_
  refine w_goto X k52_21_41 ?_
  refine w_iload X k52_21_3 rfl ?_
  refine w_iload X k52_21_5 rfl ?_
  refine w_icmpge X k52_21_7 (fun _ => ?_) (fun hc => absurd hc Int32.lt_irrefl)
  refine w_iload X k52_21_44 rfl ?_
  exact w_retI X k52_21_46 ⟨rfl, A3, K5⟩ (by decide) (by decide)
theorem m_c3_3 (hw : own_hw a0 Z) {h0 : Heap} {a : Addr} {c0 c1 c2 : Int32} (Aa : Ary Z h0 a .char [(.int c0), (.int c1), (.int c2)]) (l0 : ¬ (255 : Int32) < c0) (l1 : ¬ (255 : Int32) < c1) (l2 : ¬ (255 : Int32) < c2) :
    Does l Z n0 ⟨"java/lang/StringUTF16", "compress", "([CII)[B"⟩ jdk_52_method_16_code 6 (some (.array .byte)) [] { frames := 1, cells := 1, slots := 3, locals := 18 } #[(.ref a), (.int (0 : Int32)), (.int (3 : Int32))] h0 (fun v h => ∃ t, v = some (.ref t) ∧ h0.size ≤ t ∧ n0 ≤ t ∧ Ary Z h t .byte [(.int (c0.toInt8.toInt32)), (.int (c1.toInt8.toInt32)), (.int (c2.toInt8.toInt32))] ∧ Keep h0 h []) := by
  refine Does.start (plainFor_of_name pn_6) ?_
  intro p e s m below meth c T X
  replace X : Sd _ _ _ _ _ "java/lang/StringUTF16" "compress" _ _ _ _ _ _ _ _ _ _ _ _ _ _ _ _ := X
  refine Wp.cast (g' := mkF m 0 #[.val (.ref a), .val (.int (0 : Int32)), .val (.int (3 : Int32)), .unset, .unset, .unset] []) (by first | (simp [entryFrame, mkF, argsToLocals, Value.category, maxLocals]; done) | rfl) ?_
  refine w_iloadN X k52_16_0 rfl ?_
  refine w_newarr X k52_16_1 (wd_1 hw) 3 3 (by decide) (by decide) (by decide) (by decide) (by decide) (by decide) (fun T h1 b1 g1 gn1 X E1 A1 => ?_)
  replace A1 : Ary Z h1 b1 .byte [(.int (0 : Int32)), (.int (0 : Int32)), (.int (0 : Int32))] := A1
  have sz_b1 : h0.size ≤ b1 := Nat.le_trans (Keep.refl h0 []).1 (Nat.le_of_eq g1.symm)
  have K1 : Keep h0 h1 [] := (Keep.refl h0 []).ext E1
  refine w_astoreN X #[.val (.ref a), .val (.int (0 : Int32)), .val (.int (3 : Int32)), .val (.ref b1), .unset, .unset] k52_16_3 (rfl) rfl ?_
  refine w_aloadN X k52_16_4 rfl (rfl) ?_
  refine w_iloadN X k52_16_5 rfl ?_
  refine w_aloadN X k52_16_6 rfl (rfl) ?_
  refine w_iconst X (0 : Int32) k52_16_7 rfl ?_
  refine w_iloadN X k52_16_8 rfl ?_
  have f2 := (Aa.ext E1)
  refine w_callS X k52_16_9 (wd_186 hw) (wd_187 hw) (wd_91 hw) (wd_188 hw) (by decide) (argsL := [(.ref a), (.int (0 : Int32)), (.ref b1), (.int (0 : Int32)), (.int (3 : Int32))]) (S := []) (m_c5_3 hw f2 A1 gn1 (Nat.ne_of_lt (Nat.lt_of_lt_of_le Aa.lt (Nat.le_of_eq g1.symm))) l0 l1 l2) pd_35 rfl rfl rfl (by decide) (leR rfl) (by decide) (by decide) (fun T h2 v2 L2 X q2 => ?_)
  obtain ⟨rfl, Ac2, Kc2⟩ := q2
  have K3 : Keep h0 h2 [] := K1.trans Kc2 (fun x hx => by cases List.mem_singleton.mp hx; exact (Or.inr sz_b1))
  show Wp _ _ _ _ (T.setTop (mkF _ _ _ [(.int (3 : Int32))]))
  refine w_istore X #[.val (.ref a), .val (.int (0 : Int32)), .val (.int (3 : Int32)), .val (.ref b1), .val (.int (3 : Int32)), .unset] k52_16_12 rfl ?_
  refine w_iload X k52_16_14 rfl ?_
  refine w_iloadN X k52_16_16 rfl ?_
  refine w_icmpeq X k52_16_17 (fun _ => ?_) (fun hc => absurd rfl hc)
  refine w_aloadN X k52_16_57 rfl (rfl) ?_
  exact w_retR X rfl (rfl) rfl k52_16_58 ⟨_, rfl, sz_b1, gn1, Ac2, K3⟩ (by decide) (by decide)
theorem m_cfal_3 (hw : own_hw a0 Z) {h0 : Heap} {a : Addr} {v0 v1 v2 : Value} (Aa : Ary Z h0 a .byte [v0, v1, v2]) :
    Does l Z n0 ⟨"java/lang/StringUTF16", "coderFromArrayLen", "([BI)B"⟩ jdk_52_method_15_code 2 (some .byte) [] { frames := 0, cells := 0, slots := 0, locals := 0 } #[(.ref a), (.int (3 : Int32))] h0 (fun v h => v = some (.int (0 : Int32)) ∧ h0 = h) := by
  refine Does.start (plainFor_of_name pn_6) ?_
  intro p e s m below meth c T X
  replace X : Sd _ _ _ _ _ "java/lang/StringUTF16" "coderFromArrayLen" _ _ _ _ _ _ _ _ _ _ _ _ _ _ _ _ := X
  refine Wp.cast (g' := mkF m 0 #[.val (.ref a), .val (.int (3 : Int32))] []) (by first | (simp [entryFrame, mkF, argsToLocals, Value.category, maxLocals]; done) | rfl) ?_
  refine w_iloadN X k52_15_0 rfl ?_
  refine w_aloadN X k52_15_1 rfl (rfl) ?_
  refine w_arrlen X (3 : Int32) k52_15_2 Aa rfl ?_
  refine w_isub X k52_15_3 ?_
  refine w_bipush X (31 : Int32) k52_15_4 rfl ?_
  refine w_iushr X k52_15_6 ?_
  refine w_i2b X k52_15_7 ?_
  exact w_ret_byte X (0 : Int32) (by decide) k52_15_8 ⟨rfl, rfl⟩ (by decide) (by decide)
theorem m_si4_3 (hw : own_hw a0 Z) {h0 : Heap} {zc : Int32} {fm : Value} {a b : Addr} {c0 c1 c2 : Int32} (hS : own_S Z zc fm) (ga : n0 ≤ a) (Ea : Exa Z h0 a "java/lang/String") (Va : Fld Z h0 a "java/lang/String" "value" "[B" .null) (Ca : Fld Z h0 a "java/lang/String" "coder" "B" (.int (0 : Int32))) (Ab : Ary Z h0 b .char [(.int c0), (.int c1), (.int c2)]) (l0 : ¬ (255 : Int32) < c0) (l1 : ¬ (255 : Int32) < c1) (l2 : ¬ (255 : Int32) < c2) :
    Does l Z n0 ⟨"java/lang/String", "<init>", "([CIILjava/lang/Void;)V"⟩ jdk_42_method_149_code 6 none [] { frames := 2, cells := 1, slots := 3, locals := 35 } #[(.ref a), (.ref b), (.int (0 : Int32)), (.int (3 : Int32)), .null] h0 (fun v h => v = none ∧ Exa Z h a "java/lang/String" ∧ Fld Z h a "java/lang/String" "coder" "B" (.int (0 : Int32)) ∧ Keep h0 h [a] ∧ ∃ t, h0.size ≤ t ∧ n0 ≤ t ∧ Fld Z h a "java/lang/String" "value" "[B" (.ref t) ∧ Ary Z h t .byte [(.int (c0.toInt8.toInt32)), (.int (c1.toInt8.toInt32)), (.int (c2.toInt8.toInt32))]) := by
  refine Does.start (plainFor_of_name pn_3) ?_
  obtain ⟨S_zc, hzc, S_fm, hfm⟩ := id hS
  intro p e s m below meth c T X
  replace X : Sd _ _ _ _ _ "java/lang/String" "<init>" _ _ _ _ _ _ _ _ _ _ _ _ _ _ _ _ := X
  refine Wp.cast (g' := mkF m 0 #[.val (.ref a), .val (.ref b), .val (.int (0 : Int32)), .val (.int (3 : Int32)), .val .null, .unset] []) (by first | (simp [entryFrame, mkF, argsToLocals, Value.category, maxLocals]; done) | rfl) ?_
  refine w_aloadN X k42_149_0 rfl (rfl) ?_
  refine w_initO X k42_149_1 (wd_31 hw) (wd_32 hw) (wd_33 hw) rfl (by decide) (leR rfl) (fun T X => ?_)
  refine w_iloadN X k42_149_4 rfl ?_
  refine w_ifne X k42_149_5 (fun _ => ?_) (fun hc => absurd hc (by decide))
  refine w_getS X k42_149_27 (host := "") (Or.inl (wd_77 hw)) Via.refl (S_zc.ext X.old.2) (fun T X => ?_)
  refine w_ifeq X k42_149_30 (fun hc => absurd hc hzc) (fun _ => ?_)
  refine w_aloadN X k42_149_33 rfl (rfl) ?_
  refine w_iloadN X k42_149_34 rfl ?_
  refine w_iloadN X k42_149_35 rfl ?_
  refine w_callS X k42_149_36 (wd_183 hw) (wd_184 hw) (wd_91 hw) (wd_185 hw) (by decide) (argsL := [(.ref b), (.int (0 : Int32)), (.int (3 : Int32))]) (S := []) (m_c3_3 hw Ab l0 l1 l2) pd_36 rfl rfl rfl (by decide) (leR rfl) (by decide) (by decide) (fun T h1 v1 L1 X q1 => ?_)
  obtain ⟨t1, rfl, gt1, gn1, At1, Kc1⟩ := q1
  have K1 : Keep h0 h1 [a] := (Keep.refl h0 [a]).trans Kc1 (fun x hx => nomatch hx)
  have sz_t1 : h0.size ≤ t1 := Nat.le_trans (Keep.refl h0 [a]).1 gt1
  show Wp _ _ _ _ (T.setTop (mkF _ _ _ [(.ref t1)]))
  refine w_astore X #[.val (.ref a), .val (.ref b), .val (.int (0 : Int32)), .val (.int (3 : Int32)), .val .null, .val (.ref t1)] k42_149_39 (rfl) rfl ?_
  refine w_aloadN X k42_149_41 rfl (rfl) ?_
  refine w_aload X k42_149_42 rfl (rfl) ?_
  refine w_iloadN X k42_149_44 rfl ?_
  refine w_callS X k42_149_45 (wd_189 hw) (wd_190 hw) (wd_91 hw) (wd_191 hw) (by decide) (argsL := [(.ref t1), (.int (3 : Int32))]) (S := [(.ref a)]) (m_cfal_3 hw At1) pd_37 rfl rfl rfl (by decide) (leR rfl) (by decide) (by decide) (fun T h2 v2 L2 X q2 => ?_)
  obtain ⟨rfl, rfl⟩ := q2
  show Wp _ _ _ _ (T.setTop (mkF _ _ _ [(.int (0 : Int32)), (.ref a)]))
  have f2 := (Ea.keep Kc1)
  have f3 := (Ca.keep Kc1 (List.not_mem_nil))
  refine w_putFN X k42_149_48 (wd_36 hw) Via.refl f3 f2 (Or.inr ⟨(wd_6 hw), rfl, rfl⟩) (wd_4 hw) (ty := .byte) (by decide) (.int (0 : Int32)) rfl (by decide) ga (fun T h3 X W3 => ?_)
  have f4 := f3.same W3
  have K5 : Keep h0 h3 [a] := K1.wr W3 (Or.inl (List.mem_of_getElem? (i := 0) rfl))
  refine w_aloadN X k42_149_51 rfl (rfl) ?_
  refine w_aload X k42_149_52 rfl (rfl) ?_
  have f6 := (f2.wr W3)
  have f7 := ((Va.keep Kc1 (List.not_mem_nil)).other W3 (Or.inr (slot_ne (Or.inr (wd_5 hw)) (Or.inr (wd_6 hw)) (by decide) (t := (.array .byte)) (t' := .byte) (by decide) (by decide))))
  refine w_putF X k42_149_54 (host := "") (Or.inl (wd_35 hw)) Via.refl f7 f6 (Or.inr ⟨(wd_5 hw), rfl, rfl⟩) (wd_4 hw) (ty := (.array .byte)) (by decide) rfl rfl ga (fun T h4 X W4 => ?_)
  have f8 := f7.same W4
  have K9 : Keep h0 h4 [a] := K5.wr W4 (Or.inl (List.mem_of_getElem? (i := 0) rfl))
  have f10 := (f6.wr W4)
  have f11 := (f4.other W4 (Or.inr (slot_ne (Or.inr (wd_6 hw)) (Or.inr (wd_5 hw)) (by decide) (t := .byte) (t' := (.array .byte)) (by decide) (by decide))))
  have f12 := ((At1.other W3 (Ne.symm (Nat.ne_of_lt (Nat.lt_of_lt_of_le Ea.lt gt1)))).other W4 (Ne.symm (Nat.ne_of_lt (Nat.lt_of_lt_of_le Ea.lt gt1))))
  exact w_retV X k42_149_57 ⟨rfl, f10, f11, K9, _, sz_t1, gn1, f8, f12⟩ (by decide) (by decide)
theorem m_si_3 (hw : own_hw a0 Z) {h0 : Heap} {zc : Int32} {fm : Value} {a b : Addr} {c0 c1 c2 : Int32} (hS : own_S Z zc fm) (ga : n0 ≤ a) (Ea : Exa Z h0 a "java/lang/String") (Va : Fld Z h0 a "java/lang/String" "value" "[B" .null) (Ca : Fld Z h0 a "java/lang/String" "coder" "B" (.int (0 : Int32))) (Ab : Ary Z h0 b .char [(.int c0), (.int c1), (.int c2)]) (l0 : ¬ (255 : Int32) < c0) (l1 : ¬ (255 : Int32) < c1) (l2 : ¬ (255 : Int32) < c2) :
    Does l Z n0 ⟨"java/lang/String", "<init>", "([C)V"⟩ jdk_42_method_3_code 2 none [] { frames := 3, cells := 1, slots := 3, locals := 52 } #[(.ref a), (.ref b)] h0 (fun v h => v = none ∧ Exa Z h a "java/lang/String" ∧ Fld Z h a "java/lang/String" "coder" "B" (.int (0 : Int32)) ∧ Keep h0 h [a] ∧ ∃ t, h0.size ≤ t ∧ n0 ≤ t ∧ Fld Z h a "java/lang/String" "value" "[B" (.ref t) ∧ Ary Z h t .byte [(.int (c0.toInt8.toInt32)), (.int (c1.toInt8.toInt32)), (.int (c2.toInt8.toInt32))]) := by
  refine Does.start (plainFor_of_name pn_3) ?_
  obtain ⟨S_zc, hzc, S_fm, hfm⟩ := id hS
  intro p e s m below meth c T X
  replace X : Sd _ _ _ _ _ "java/lang/String" "<init>" _ _ _ _ _ _ _ _ _ _ _ _ _ _ _ _ := X
  refine Wp.cast (g' := mkF m 0 #[.val (.ref a), .val (.ref b)] []) (by first | (simp [entryFrame, mkF, argsToLocals, Value.category, maxLocals]; done) | rfl) ?_
  refine w_aloadN X k42_3_0 rfl (rfl) ?_
  refine w_aloadN X k42_3_1 rfl (rfl) ?_
  refine w_iconst X (0 : Int32) k42_3_2 rfl ?_
  refine w_aloadN X k42_3_3 rfl (rfl) ?_
  refine w_arrlen X (3 : Int32) k42_3_4 Ab rfl ?_
  refine w_aconstNull X k42_3_5 ?_
  refine w_callI X k42_3_6 rfl (wd_180 hw) (wd_181 hw) (wd_3 hw) (wd_182 hw) (by decide) (argsL := [(.ref b), (.int (0 : Int32)), (.int (3 : Int32)), .null]) (S := []) (m_si4_3 hw hS ga Ea Va Ca Ab l0 l1 l2) pd_38 rfl rfl rfl (by decide) (leR rfl) (by decide) (by decide) (fun T h1 v1 L1 X q1 => ?_)
  obtain ⟨rfl, r1⟩ := q1
  show Wp _ _ _ _ (T.setTop (mkF _ _ _ []))
  exact w_retV X k42_3_9 ⟨rfl, r1⟩ (by decide) (by decide)
theorem m_lawD_N_0 (hw : own_hw a0 Z) {zc : Int32} {fm : Value} {u8 : Addr} (hU : own_U Z zc fm) (hC : own_C Z u8) (hheld : ∀ p ∈ consts_1, Jvm.Lit.constHeld Z p.1 p.2) (hcw : Jvm.Lit.compactW.before a0 Z = true) {h0 : Heap} {cmd sel ec ou mo c0 c1 c2 ck : Int32} {ok wh ka : Int32}  {b q tq : Addr} {bs : List Value} 
    {p : Program} {e : Env} {s : State} {m : MethodId} {args : Array Value} {below : List Frame} {meth : Method} {c : Code} {T : State} {u : Vm} {kk : Nat} {locs : List Loc} (X : Sd Z n0 kk code 17 "com/example/reasoned_retry/reasonedretry/FailureOfPinLaw" "law" (some .boolean) h0 p l e room_1 (s.setVm u) m args below meth c T locs 10 30) (Y : s.Since u kk) (M : Eh Z h0 u) (Ab : Ary Z h0 b .byte bs) (Eb : Exa Z h0 b "[B") (Tq : Lat Z h0 q tq ka []) (D : own_D l Z n0 b u8 bs ka []) :
    Wp p e below (PoW Z n0 s (fun v _ => v = some (.int 1)) room_1.cells room_1.slots) (T.setTop (mkF m 441 #[.val (.int cmd), .val (.int sel), .val (.int ec), .val (.int ou), .val (.int mo), .val (.int c0), .val (.int c1), .val (.int c2), .val (.int ck), .val .null, .val .null, .val (.int ok), .val (.int wh), .val (.ref b), .val (.ref q), .unset, .unset] [])) := by
  obtain ⟨hS, S_ad, S_hi, S_lo⟩ := id hU
  obtain ⟨S_zc, hzc, S_fm, hfm⟩ := id hS
  refine w_aload X d_441 rfl (rfl) ?_
  refine w_iloadN X d_443 rfl ?_
  refine w_aload X d_444 rfl (rfl) ?_
  refine g_callS X Y (fun vm' hW => M.warm hW) d_446 (wd_9 hw) (wd_10 hw) (wd_11 hw) (wd_12 hw) (by decide) (argsL := [.null, (.int ec), (.ref b)]) (S := []) (m_of_N hw hS hC hheld hcw  Ab Eb D) pd_41 rfl rfl rfl (by decide) (leR rfl) (by decide) (by decide) (fun T h1 v1 L1 u kk X Y q1 => ?_)
  obtain ⟨fx1, o1, t1, rfl, Ef1, Fc1, Fe1, Fo1, To1, Kc1⟩ := q1
  show Wp _ _ _ _ (T.setTop (mkF _ _ _ [(.ref fx1)]))
  refine w_astore X #[.val (.int cmd), .val (.int sel), .val (.int ec), .val (.int ou), .val (.int mo), .val (.int c0), .val (.int c1), .val (.int c2), .val (.int ck), .val .null, .val .null, .val (.int ok), .val (.int wh), .val (.ref b), .val (.ref q), .val (.ref fx1), .unset] d_449 (rfl) rfl ?_
  refine w_aload X d_451 rfl (rfl) ?_
  refine w_ifnonnullF X d_453 ?_
  refine w_aload X d_456 rfl (rfl) ?_
  refine w_callV X d_458 (wd_56 hw) (wd_57 hw) (notFace_of_selects (args := #[]) (mvT X.hZ (wd_59 hw))) (wd_59 hw) (wd_58 hw) (wd_11 hw) (wd_60 hw) (by decide) Ef1 (argsL := []) (S := []) (m_g_command hw Fc1 rfl) pd_42 rfl rfl rfl (by decide) (leR rfl) (by decide) (by decide) (fun T h2 v2 L2 X q2 => ?_)
  obtain ⟨rfl, rfl⟩ := q2
  show Wp _ _ _ _ (T.setTop (mkF _ _ _ [.null]))
  refine w_ifnonnullF X d_461 ?_
  refine w_iconst X (1 : Int32) d_464 rfl ?_
  refine w_goto X d_465 ?_
  refine w_istore X #[.val (.int cmd), .val (.int sel), .val (.int ec), .val (.int ou), .val (.int mo), .val (.int c0), .val (.int c1), .val (.int c2), .val (.int ck), .val .null, .val .null, .val (.int ok), .val (.int wh), .val (.ref b), .val (.ref q), .val (.ref fx1), .val (.int (1 : Int32))] d_482 rfl ?_
  refine w_iload X d_484 rfl ?_
  refine w_ifeq X d_486 (fun hc => absurd hc (by decide)) (fun _ => ?_)
  refine w_aload X d_489 rfl (rfl) ?_
  refine w_callV X d_491 (wd_61 hw) (wd_62 hw) (notFace_of_selects (args := #[]) (mvT X.hZ (wd_64 hw))) (wd_64 hw) (wd_63 hw) (wd_11 hw) (wd_65 hw) (by decide) Ef1 (argsL := []) (S := []) (m_g_exitCode hw Fe1) pd_23 rfl rfl rfl (by decide) (leR rfl) (by decide) (by decide) (fun T h3 v3 L3 X q3 => ?_)
  obtain ⟨rfl, rfl⟩ := q3
  show Wp _ _ _ _ (T.setTop (mkF _ _ _ [(.int ec)]))
  refine w_iloadN X d_494 rfl ?_
  refine w_icmpne X d_495 (fun hc => absurd rfl hc) (fun _ => ?_)
  refine w_aload X d_498 rfl (rfl) ?_
  refine w_aload X d_500 rfl (rfl) ?_
  refine w_callV X d_502 (wd_66 hw) (wd_67 hw) (notFace_of_selects (args := #[]) (mvT X.hZ (wd_69 hw))) (wd_69 hw) (wd_68 hw) (wd_11 hw) (wd_70 hw) (by decide) Ef1 (argsL := []) (S := [(.ref q)]) (m_g_output hw Fo1 rfl) pd_42 rfl rfl rfl (by decide) (leR rfl) (by decide) (by decide) (fun T h4 v4 L4 X q4 => ?_)
  obtain ⟨rfl, rfl⟩ := q4
  show Wp _ _ _ _ (T.setTop (mkF _ _ _ [(.ref o1), (.ref q)]))
  have f1 := (Tq.keep Kc1 (List.not_mem_nil) (List.not_mem_nil))
  have f2 := (Tq.1.keep Kc1)
  refine w_callV X d_505 (wd_71 hw) (wd_72 hw) (notFace_of_selects (args := #[]) (mvT X.hZ (wd_74 hw))) (wd_74 hw) (wd_73 hw) (wd_3 hw) (wd_75 hw) (by decide) f2 (argsL := [(.ref o1)]) (S := []) (m_eq_0 hw hS f1 To1) pd_43 rfl rfl rfl (by decide) (leR rfl) (by decide) (by decide) (fun T h5 v5 L5 X q5 => ?_)
  obtain ⟨rfl, rfl⟩ := q5
  show Wp _ _ _ _ (T.setTop (mkF _ _ _ [(.int (1 : Int32))]))
  refine w_ifeq X d_508 (fun hc => absurd hc (by decide)) (fun _ => ?_)
  refine w_iconst X (1 : Int32) d_511 rfl ?_
  refine w_goto X d_512 ?_
  exact v_ret_boolean X Y (1 : Int32) (by decide) d_516 rfl (by decide) (by decide)
theorem m_lawD_N_1 (hw : own_hw a0 Z) {zc : Int32} {fm : Value} {u8 : Addr} (hU : own_U Z zc fm) (hC : own_C Z u8) (hheld : ∀ p ∈ consts_1, Jvm.Lit.constHeld Z p.1 p.2) (hcw : Jvm.Lit.compactW.before a0 Z = true) {h0 : Heap} {cmd sel ec ou mo c0 c1 c2 ck : Int32} {ok wh ka i15 : Int32} {y0 : Int32} {b q tq : Addr} {bs : List Value} 
    {p : Program} {e : Env} {s : State} {m : MethodId} {args : Array Value} {below : List Frame} {meth : Method} {c : Code} {T : State} {u : Vm} {kk : Nat} {locs : List Loc} (X : Sd Z n0 kk code 17 "com/example/reasoned_retry/reasonedretry/FailureOfPinLaw" "law" (some .boolean) h0 p l e room_1 (s.setVm u) m args below meth c T locs 10 30) (Y : s.Since u kk) (M : Eh Z h0 u) (Ab : Ary Z h0 b .byte bs) (Eb : Exa Z h0 b "[B") (Tq : Lat Z h0 q tq ka [(.int y0)]) (D : own_D l Z n0 b u8 bs ka [(.int y0)]) :
    Wp p e below (PoW Z n0 s (fun v _ => v = some (.int 1)) room_1.cells room_1.slots) (T.setTop (mkF m 441 #[.val (.int cmd), .val (.int sel), .val (.int ec), .val (.int ou), .val (.int mo), .val (.int c0), .val (.int c1), .val (.int c2), .val (.int ck), .val .null, .val .null, .val (.int ok), .val (.int wh), .val (.ref b), .val (.ref q), .val (.int i15), .unset] [])) := by
  obtain ⟨hS, S_ad, S_hi, S_lo⟩ := id hU
  obtain ⟨S_zc, hzc, S_fm, hfm⟩ := id hS
  refine w_aload X d_441 rfl (rfl) ?_
  refine w_iloadN X d_443 rfl ?_
  refine w_aload X d_444 rfl (rfl) ?_
  refine g_callS X Y (fun vm' hW => M.warm hW) d_446 (wd_9 hw) (wd_10 hw) (wd_11 hw) (wd_12 hw) (by decide) (argsL := [.null, (.int ec), (.ref b)]) (S := []) (m_of_N hw hS hC hheld hcw  Ab Eb D) pd_41 rfl rfl rfl (by decide) (leR rfl) (by decide) (by decide) (fun T h1 v1 L1 u kk X Y q1 => ?_)
  obtain ⟨fx1, o1, t1, rfl, Ef1, Fc1, Fe1, Fo1, To1, Kc1⟩ := q1
  show Wp _ _ _ _ (T.setTop (mkF _ _ _ [(.ref fx1)]))
  refine w_astore X #[.val (.int cmd), .val (.int sel), .val (.int ec), .val (.int ou), .val (.int mo), .val (.int c0), .val (.int c1), .val (.int c2), .val (.int ck), .val .null, .val .null, .val (.int ok), .val (.int wh), .val (.ref b), .val (.ref q), .val (.ref fx1), .unset] d_449 (rfl) rfl ?_
  refine w_aload X d_451 rfl (rfl) ?_
  refine w_ifnonnullF X d_453 ?_
  refine w_aload X d_456 rfl (rfl) ?_
  refine w_callV X d_458 (wd_56 hw) (wd_57 hw) (notFace_of_selects (args := #[]) (mvT X.hZ (wd_59 hw))) (wd_59 hw) (wd_58 hw) (wd_11 hw) (wd_60 hw) (by decide) Ef1 (argsL := []) (S := []) (m_g_command hw Fc1 rfl) pd_42 rfl rfl rfl (by decide) (leR rfl) (by decide) (by decide) (fun T h2 v2 L2 X q2 => ?_)
  obtain ⟨rfl, rfl⟩ := q2
  show Wp _ _ _ _ (T.setTop (mkF _ _ _ [.null]))
  refine w_ifnonnullF X d_461 ?_
  refine w_iconst X (1 : Int32) d_464 rfl ?_
  refine w_goto X d_465 ?_
  refine w_istore X #[.val (.int cmd), .val (.int sel), .val (.int ec), .val (.int ou), .val (.int mo), .val (.int c0), .val (.int c1), .val (.int c2), .val (.int ck), .val .null, .val .null, .val (.int ok), .val (.int wh), .val (.ref b), .val (.ref q), .val (.ref fx1), .val (.int (1 : Int32))] d_482 rfl ?_
  refine w_iload X d_484 rfl ?_
  refine w_ifeq X d_486 (fun hc => absurd hc (by decide)) (fun _ => ?_)
  refine w_aload X d_489 rfl (rfl) ?_
  refine w_callV X d_491 (wd_61 hw) (wd_62 hw) (notFace_of_selects (args := #[]) (mvT X.hZ (wd_64 hw))) (wd_64 hw) (wd_63 hw) (wd_11 hw) (wd_65 hw) (by decide) Ef1 (argsL := []) (S := []) (m_g_exitCode hw Fe1) pd_23 rfl rfl rfl (by decide) (leR rfl) (by decide) (by decide) (fun T h3 v3 L3 X q3 => ?_)
  obtain ⟨rfl, rfl⟩ := q3
  show Wp _ _ _ _ (T.setTop (mkF _ _ _ [(.int ec)]))
  refine w_iloadN X d_494 rfl ?_
  refine w_icmpne X d_495 (fun hc => absurd rfl hc) (fun _ => ?_)
  refine w_aload X d_498 rfl (rfl) ?_
  refine w_aload X d_500 rfl (rfl) ?_
  refine w_callV X d_502 (wd_66 hw) (wd_67 hw) (notFace_of_selects (args := #[]) (mvT X.hZ (wd_69 hw))) (wd_69 hw) (wd_68 hw) (wd_11 hw) (wd_70 hw) (by decide) Ef1 (argsL := []) (S := [(.ref q)]) (m_g_output hw Fo1 rfl) pd_42 rfl rfl rfl (by decide) (leR rfl) (by decide) (by decide) (fun T h4 v4 L4 X q4 => ?_)
  obtain ⟨rfl, rfl⟩ := q4
  show Wp _ _ _ _ (T.setTop (mkF _ _ _ [(.ref o1), (.ref q)]))
  have f1 := (Tq.keep Kc1 (List.not_mem_nil) (List.not_mem_nil))
  have f2 := (Tq.1.keep Kc1)
  refine w_callV X d_505 (wd_71 hw) (wd_72 hw) (notFace_of_selects (args := #[]) (mvT X.hZ (wd_74 hw))) (wd_74 hw) (wd_73 hw) (wd_3 hw) (wd_75 hw) (by decide) f2 (argsL := [(.ref o1)]) (S := []) (m_eq_1 hw hS f1 To1) pd_43 rfl rfl rfl (by decide) (leR rfl) (by decide) (by decide) (fun T h5 v5 L5 X q5 => ?_)
  obtain ⟨rfl, rfl⟩ := q5
  show Wp _ _ _ _ (T.setTop (mkF _ _ _ [(.int (1 : Int32))]))
  refine w_ifeq X d_508 (fun hc => absurd hc (by decide)) (fun _ => ?_)
  refine w_iconst X (1 : Int32) d_511 rfl ?_
  refine w_goto X d_512 ?_
  exact v_ret_boolean X Y (1 : Int32) (by decide) d_516 rfl (by decide) (by decide)
theorem m_lawD_N_2 (hw : own_hw a0 Z) {zc : Int32} {fm : Value} {u8 : Addr} (hU : own_U Z zc fm) (hC : own_C Z u8) (hheld : ∀ p ∈ consts_1, Jvm.Lit.constHeld Z p.1 p.2) (hcw : Jvm.Lit.compactW.before a0 Z = true) {h0 : Heap} {cmd sel ec ou mo c0 c1 c2 ck : Int32} {ok wh ka i15 : Int32} {y0 y1 : Int32} {b q tq : Addr} {bs : List Value} 
    {p : Program} {e : Env} {s : State} {m : MethodId} {args : Array Value} {below : List Frame} {meth : Method} {c : Code} {T : State} {u : Vm} {kk : Nat} {locs : List Loc} (X : Sd Z n0 kk code 17 "com/example/reasoned_retry/reasonedretry/FailureOfPinLaw" "law" (some .boolean) h0 p l e room_1 (s.setVm u) m args below meth c T locs 10 30) (Y : s.Since u kk) (M : Eh Z h0 u) (Ab : Ary Z h0 b .byte bs) (Eb : Exa Z h0 b "[B") (Tq : Lat Z h0 q tq ka [(.int y0), (.int y1)]) (D : own_D l Z n0 b u8 bs ka [(.int y0), (.int y1)]) :
    Wp p e below (PoW Z n0 s (fun v _ => v = some (.int 1)) room_1.cells room_1.slots) (T.setTop (mkF m 441 #[.val (.int cmd), .val (.int sel), .val (.int ec), .val (.int ou), .val (.int mo), .val (.int c0), .val (.int c1), .val (.int c2), .val (.int ck), .val .null, .val .null, .val (.int ok), .val (.int wh), .val (.ref b), .val (.ref q), .val (.int i15), .unset] [])) := by
  obtain ⟨hS, S_ad, S_hi, S_lo⟩ := id hU
  obtain ⟨S_zc, hzc, S_fm, hfm⟩ := id hS
  refine w_aload X d_441 rfl (rfl) ?_
  refine w_iloadN X d_443 rfl ?_
  refine w_aload X d_444 rfl (rfl) ?_
  refine g_callS X Y (fun vm' hW => M.warm hW) d_446 (wd_9 hw) (wd_10 hw) (wd_11 hw) (wd_12 hw) (by decide) (argsL := [.null, (.int ec), (.ref b)]) (S := []) (m_of_N hw hS hC hheld hcw  Ab Eb D) pd_41 rfl rfl rfl (by decide) (leR rfl) (by decide) (by decide) (fun T h1 v1 L1 u kk X Y q1 => ?_)
  obtain ⟨fx1, o1, t1, rfl, Ef1, Fc1, Fe1, Fo1, To1, Kc1⟩ := q1
  show Wp _ _ _ _ (T.setTop (mkF _ _ _ [(.ref fx1)]))
  refine w_astore X #[.val (.int cmd), .val (.int sel), .val (.int ec), .val (.int ou), .val (.int mo), .val (.int c0), .val (.int c1), .val (.int c2), .val (.int ck), .val .null, .val .null, .val (.int ok), .val (.int wh), .val (.ref b), .val (.ref q), .val (.ref fx1), .unset] d_449 (rfl) rfl ?_
  refine w_aload X d_451 rfl (rfl) ?_
  refine w_ifnonnullF X d_453 ?_
  refine w_aload X d_456 rfl (rfl) ?_
  refine w_callV X d_458 (wd_56 hw) (wd_57 hw) (notFace_of_selects (args := #[]) (mvT X.hZ (wd_59 hw))) (wd_59 hw) (wd_58 hw) (wd_11 hw) (wd_60 hw) (by decide) Ef1 (argsL := []) (S := []) (m_g_command hw Fc1 rfl) pd_42 rfl rfl rfl (by decide) (leR rfl) (by decide) (by decide) (fun T h2 v2 L2 X q2 => ?_)
  obtain ⟨rfl, rfl⟩ := q2
  show Wp _ _ _ _ (T.setTop (mkF _ _ _ [.null]))
  refine w_ifnonnullF X d_461 ?_
  refine w_iconst X (1 : Int32) d_464 rfl ?_
  refine w_goto X d_465 ?_
  refine w_istore X #[.val (.int cmd), .val (.int sel), .val (.int ec), .val (.int ou), .val (.int mo), .val (.int c0), .val (.int c1), .val (.int c2), .val (.int ck), .val .null, .val .null, .val (.int ok), .val (.int wh), .val (.ref b), .val (.ref q), .val (.ref fx1), .val (.int (1 : Int32))] d_482 rfl ?_
  refine w_iload X d_484 rfl ?_
  refine w_ifeq X d_486 (fun hc => absurd hc (by decide)) (fun _ => ?_)
  refine w_aload X d_489 rfl (rfl) ?_
  refine w_callV X d_491 (wd_61 hw) (wd_62 hw) (notFace_of_selects (args := #[]) (mvT X.hZ (wd_64 hw))) (wd_64 hw) (wd_63 hw) (wd_11 hw) (wd_65 hw) (by decide) Ef1 (argsL := []) (S := []) (m_g_exitCode hw Fe1) pd_23 rfl rfl rfl (by decide) (leR rfl) (by decide) (by decide) (fun T h3 v3 L3 X q3 => ?_)
  obtain ⟨rfl, rfl⟩ := q3
  show Wp _ _ _ _ (T.setTop (mkF _ _ _ [(.int ec)]))
  refine w_iloadN X d_494 rfl ?_
  refine w_icmpne X d_495 (fun hc => absurd rfl hc) (fun _ => ?_)
  refine w_aload X d_498 rfl (rfl) ?_
  refine w_aload X d_500 rfl (rfl) ?_
  refine w_callV X d_502 (wd_66 hw) (wd_67 hw) (notFace_of_selects (args := #[]) (mvT X.hZ (wd_69 hw))) (wd_69 hw) (wd_68 hw) (wd_11 hw) (wd_70 hw) (by decide) Ef1 (argsL := []) (S := [(.ref q)]) (m_g_output hw Fo1 rfl) pd_42 rfl rfl rfl (by decide) (leR rfl) (by decide) (by decide) (fun T h4 v4 L4 X q4 => ?_)
  obtain ⟨rfl, rfl⟩ := q4
  show Wp _ _ _ _ (T.setTop (mkF _ _ _ [(.ref o1), (.ref q)]))
  have f1 := (Tq.keep Kc1 (List.not_mem_nil) (List.not_mem_nil))
  have f2 := (Tq.1.keep Kc1)
  refine w_callV X d_505 (wd_71 hw) (wd_72 hw) (notFace_of_selects (args := #[]) (mvT X.hZ (wd_74 hw))) (wd_74 hw) (wd_73 hw) (wd_3 hw) (wd_75 hw) (by decide) f2 (argsL := [(.ref o1)]) (S := []) (m_eq_2 hw hS f1 To1) pd_43 rfl rfl rfl (by decide) (leR rfl) (by decide) (by decide) (fun T h5 v5 L5 X q5 => ?_)
  obtain ⟨rfl, rfl⟩ := q5
  show Wp _ _ _ _ (T.setTop (mkF _ _ _ [(.int (1 : Int32))]))
  refine w_ifeq X d_508 (fun hc => absurd hc (by decide)) (fun _ => ?_)
  refine w_iconst X (1 : Int32) d_511 rfl ?_
  refine w_goto X d_512 ?_
  exact v_ret_boolean X Y (1 : Int32) (by decide) d_516 rfl (by decide) (by decide)
theorem m_lawD_N_3 (hw : own_hw a0 Z) {zc : Int32} {fm : Value} {u8 : Addr} (hU : own_U Z zc fm) (hC : own_C Z u8) (hheld : ∀ p ∈ consts_1, Jvm.Lit.constHeld Z p.1 p.2) (hcw : Jvm.Lit.compactW.before a0 Z = true) {h0 : Heap} {cmd sel ec ou mo c0 c1 c2 ck : Int32} {ok wh ka i15 i16 : Int32} {y0 y1 : Int32} {b q tq : Addr} {bs : List Value} 
    {p : Program} {e : Env} {s : State} {m : MethodId} {args : Array Value} {below : List Frame} {meth : Method} {c : Code} {T : State} {u : Vm} {kk : Nat} {locs : List Loc} (X : Sd Z n0 kk code 17 "com/example/reasoned_retry/reasonedretry/FailureOfPinLaw" "law" (some .boolean) h0 p l e room_1 (s.setVm u) m args below meth c T locs 10 30) (Y : s.Since u kk) (M : Eh Z h0 u) (Ab : Ary Z h0 b .byte bs) (Eb : Exa Z h0 b "[B") (Tq : Lat Z h0 q tq ka [(.int y0), (.int y1)]) (D : own_D l Z n0 b u8 bs ka [(.int y0), (.int y1)]) :
    Wp p e below (PoW Z n0 s (fun v _ => v = some (.int 1)) room_1.cells room_1.slots) (T.setTop (mkF m 441 #[.val (.int cmd), .val (.int sel), .val (.int ec), .val (.int ou), .val (.int mo), .val (.int c0), .val (.int c1), .val (.int c2), .val (.int ck), .val .null, .val .null, .val (.int ok), .val (.int wh), .val (.ref b), .val (.ref q), .val (.int i15), .val (.int i16)] [])) := by
  obtain ⟨hS, S_ad, S_hi, S_lo⟩ := id hU
  obtain ⟨S_zc, hzc, S_fm, hfm⟩ := id hS
  refine w_aload X d_441 rfl (rfl) ?_
  refine w_iloadN X d_443 rfl ?_
  refine w_aload X d_444 rfl (rfl) ?_
  refine g_callS X Y (fun vm' hW => M.warm hW) d_446 (wd_9 hw) (wd_10 hw) (wd_11 hw) (wd_12 hw) (by decide) (argsL := [.null, (.int ec), (.ref b)]) (S := []) (m_of_N hw hS hC hheld hcw  Ab Eb D) pd_41 rfl rfl rfl (by decide) (leR rfl) (by decide) (by decide) (fun T h1 v1 L1 u kk X Y q1 => ?_)
  obtain ⟨fx1, o1, t1, rfl, Ef1, Fc1, Fe1, Fo1, To1, Kc1⟩ := q1
  show Wp _ _ _ _ (T.setTop (mkF _ _ _ [(.ref fx1)]))
  refine w_astore X #[.val (.int cmd), .val (.int sel), .val (.int ec), .val (.int ou), .val (.int mo), .val (.int c0), .val (.int c1), .val (.int c2), .val (.int ck), .val .null, .val .null, .val (.int ok), .val (.int wh), .val (.ref b), .val (.ref q), .val (.ref fx1), .val (.int i16)] d_449 (rfl) rfl ?_
  refine w_aload X d_451 rfl (rfl) ?_
  refine w_ifnonnullF X d_453 ?_
  refine w_aload X d_456 rfl (rfl) ?_
  refine w_callV X d_458 (wd_56 hw) (wd_57 hw) (notFace_of_selects (args := #[]) (mvT X.hZ (wd_59 hw))) (wd_59 hw) (wd_58 hw) (wd_11 hw) (wd_60 hw) (by decide) Ef1 (argsL := []) (S := []) (m_g_command hw Fc1 rfl) pd_42 rfl rfl rfl (by decide) (leR rfl) (by decide) (by decide) (fun T h2 v2 L2 X q2 => ?_)
  obtain ⟨rfl, rfl⟩ := q2
  show Wp _ _ _ _ (T.setTop (mkF _ _ _ [.null]))
  refine w_ifnonnullF X d_461 ?_
  refine w_iconst X (1 : Int32) d_464 rfl ?_
  refine w_goto X d_465 ?_
  refine w_istore X #[.val (.int cmd), .val (.int sel), .val (.int ec), .val (.int ou), .val (.int mo), .val (.int c0), .val (.int c1), .val (.int c2), .val (.int ck), .val .null, .val .null, .val (.int ok), .val (.int wh), .val (.ref b), .val (.ref q), .val (.ref fx1), .val (.int (1 : Int32))] d_482 rfl ?_
  refine w_iload X d_484 rfl ?_
  refine w_ifeq X d_486 (fun hc => absurd hc (by decide)) (fun _ => ?_)
  refine w_aload X d_489 rfl (rfl) ?_
  refine w_callV X d_491 (wd_61 hw) (wd_62 hw) (notFace_of_selects (args := #[]) (mvT X.hZ (wd_64 hw))) (wd_64 hw) (wd_63 hw) (wd_11 hw) (wd_65 hw) (by decide) Ef1 (argsL := []) (S := []) (m_g_exitCode hw Fe1) pd_23 rfl rfl rfl (by decide) (leR rfl) (by decide) (by decide) (fun T h3 v3 L3 X q3 => ?_)
  obtain ⟨rfl, rfl⟩ := q3
  show Wp _ _ _ _ (T.setTop (mkF _ _ _ [(.int ec)]))
  refine w_iloadN X d_494 rfl ?_
  refine w_icmpne X d_495 (fun hc => absurd rfl hc) (fun _ => ?_)
  refine w_aload X d_498 rfl (rfl) ?_
  refine w_aload X d_500 rfl (rfl) ?_
  refine w_callV X d_502 (wd_66 hw) (wd_67 hw) (notFace_of_selects (args := #[]) (mvT X.hZ (wd_69 hw))) (wd_69 hw) (wd_68 hw) (wd_11 hw) (wd_70 hw) (by decide) Ef1 (argsL := []) (S := [(.ref q)]) (m_g_output hw Fo1 rfl) pd_42 rfl rfl rfl (by decide) (leR rfl) (by decide) (by decide) (fun T h4 v4 L4 X q4 => ?_)
  obtain ⟨rfl, rfl⟩ := q4
  show Wp _ _ _ _ (T.setTop (mkF _ _ _ [(.ref o1), (.ref q)]))
  have f1 := (Tq.keep Kc1 (List.not_mem_nil) (List.not_mem_nil))
  have f2 := (Tq.1.keep Kc1)
  refine w_callV X d_505 (wd_71 hw) (wd_72 hw) (notFace_of_selects (args := #[]) (mvT X.hZ (wd_74 hw))) (wd_74 hw) (wd_73 hw) (wd_3 hw) (wd_75 hw) (by decide) f2 (argsL := [(.ref o1)]) (S := []) (m_eq_2 hw hS f1 To1) pd_43 rfl rfl rfl (by decide) (leR rfl) (by decide) (by decide) (fun T h5 v5 L5 X q5 => ?_)
  obtain ⟨rfl, rfl⟩ := q5
  show Wp _ _ _ _ (T.setTop (mkF _ _ _ [(.int (1 : Int32))]))
  refine w_ifeq X d_508 (fun hc => absurd hc (by decide)) (fun _ => ?_)
  refine w_iconst X (1 : Int32) d_511 rfl ?_
  refine w_goto X d_512 ?_
  exact v_ret_boolean X Y (1 : Int32) (by decide) d_516 rfl (by decide) (by decide)
theorem m_lawD_E_0 (hw : own_hw a0 Z) {zc : Int32} {fm : Value} {u8 : Addr} (hU : own_U Z zc fm) (hC : own_C Z u8) (hheld : ∀ p ∈ consts_1, Jvm.Lit.constHeld Z p.1 p.2) (hcw : Jvm.Lit.compactW.before a0 Z = true) {h0 : Heap} {cmd sel ec ou mo c0 c1 c2 ck : Int32} {ok wh ka : Int32}  {b q tq cc tc en te : Addr} {bs : List Value} (Tc : Lat Z h0 cc tc (0 : Int32) []) (Te : Lat Z h0 en te (0 : Int32) []) 
    {p : Program} {e : Env} {s : State} {m : MethodId} {args : Array Value} {below : List Frame} {meth : Method} {c : Code} {T : State} {u : Vm} {kk : Nat} {locs : List Loc} (X : Sd Z n0 kk code 17 "com/example/reasoned_retry/reasonedretry/FailureOfPinLaw" "law" (some .boolean) h0 p l e room_1 (s.setVm u) m args below meth c T locs 10 30) (Y : s.Since u kk) (M : Eh Z h0 u) (Ab : Ary Z h0 b .byte bs) (Eb : Exa Z h0 b "[B") (Tq : Lat Z h0 q tq ka []) (D : own_D l Z n0 b u8 bs ka []) :
    Wp p e below (PoW Z n0 s (fun v _ => v = some (.int 1)) room_1.cells room_1.slots) (T.setTop (mkF m 441 #[.val (.int cmd), .val (.int sel), .val (.int ec), .val (.int ou), .val (.int mo), .val (.int c0), .val (.int c1), .val (.int c2), .val (.int ck), .val (.ref cc), .val (.ref en), .val (.int ok), .val (.int wh), .val (.ref b), .val (.ref q), .unset, .unset] [])) := by
  obtain ⟨hS, S_ad, S_hi, S_lo⟩ := id hU
  obtain ⟨S_zc, hzc, S_fm, hfm⟩ := id hS
  refine w_aload X d_441 rfl (rfl) ?_
  refine w_iloadN X d_443 rfl ?_
  refine w_aload X d_444 rfl (rfl) ?_
  refine g_callS X Y (fun vm' hW => M.warm hW) d_446 (wd_9 hw) (wd_10 hw) (wd_11 hw) (wd_12 hw) (by decide) (argsL := [(.ref cc), (.int ec), (.ref b)]) (S := []) (m_of_E hw hS hC hheld hcw Tc  Ab Eb D) pd_41 rfl rfl rfl (by decide) (leR rfl) (by decide) (by decide) (fun T h1 v1 L1 u kk X Y q1 => ?_)
  obtain ⟨fx1, o1, t1, nm1, tn1, rfl, Ef1, Fc1, Fe1, Fo1, To1, Tn1, Kc1⟩ := q1
  show Wp _ _ _ _ (T.setTop (mkF _ _ _ [(.ref fx1)]))
  refine w_astore X #[.val (.int cmd), .val (.int sel), .val (.int ec), .val (.int ou), .val (.int mo), .val (.int c0), .val (.int c1), .val (.int c2), .val (.int ck), .val (.ref cc), .val (.ref en), .val (.int ok), .val (.int wh), .val (.ref b), .val (.ref q), .val (.ref fx1), .unset] d_449 (rfl) rfl ?_
  refine w_aload X d_451 rfl (rfl) ?_
  refine w_ifnonnullT X d_453 ?_
  refine w_aload X d_472 rfl (rfl) ?_
  refine w_aload X d_474 rfl (rfl) ?_
  refine w_callV X d_476 (wd_56 hw) (wd_57 hw) (notFace_of_selects (args := #[]) (mvT X.hZ (wd_59 hw))) (wd_59 hw) (wd_58 hw) (wd_11 hw) (wd_60 hw) (by decide) Ef1 (argsL := []) (S := [(.ref en)]) (m_g_command hw Fc1 rfl) pd_42 rfl rfl rfl (by decide) (leR rfl) (by decide) (by decide) (fun T h2 v2 L2 X q2 => ?_)
  obtain ⟨rfl, rfl⟩ := q2
  show Wp _ _ _ _ (T.setTop (mkF _ _ _ [(.ref nm1), (.ref en)]))
  have f1 := (Te.keep Kc1 (List.not_mem_nil) (List.not_mem_nil))
  have f2 := (Te.1.keep Kc1)
  refine w_callV X d_479 (wd_71 hw) (wd_72 hw) (notFace_of_selects (args := #[]) (mvT X.hZ (wd_74 hw))) (wd_74 hw) (wd_73 hw) (wd_3 hw) (wd_75 hw) (by decide) f2 (argsL := [(.ref nm1)]) (S := []) (m_eq_0 hw hS f1 Tn1) pd_43 rfl rfl rfl (by decide) (leR rfl) (by decide) (by decide) (fun T h3 v3 L3 X q3 => ?_)
  obtain ⟨rfl, rfl⟩ := q3
  show Wp _ _ _ _ (T.setTop (mkF _ _ _ [(.int (1 : Int32))]))
  refine w_istore X #[.val (.int cmd), .val (.int sel), .val (.int ec), .val (.int ou), .val (.int mo), .val (.int c0), .val (.int c1), .val (.int c2), .val (.int ck), .val (.ref cc), .val (.ref en), .val (.int ok), .val (.int wh), .val (.ref b), .val (.ref q), .val (.ref fx1), .val (.int (1 : Int32))] d_482 rfl ?_
  refine w_iload X d_484 rfl ?_
  refine w_ifeq X d_486 (fun hc => absurd hc (by decide)) (fun _ => ?_)
  refine w_aload X d_489 rfl (rfl) ?_
  refine w_callV X d_491 (wd_61 hw) (wd_62 hw) (notFace_of_selects (args := #[]) (mvT X.hZ (wd_64 hw))) (wd_64 hw) (wd_63 hw) (wd_11 hw) (wd_65 hw) (by decide) Ef1 (argsL := []) (S := []) (m_g_exitCode hw Fe1) pd_23 rfl rfl rfl (by decide) (leR rfl) (by decide) (by decide) (fun T h4 v4 L4 X q4 => ?_)
  obtain ⟨rfl, rfl⟩ := q4
  show Wp _ _ _ _ (T.setTop (mkF _ _ _ [(.int ec)]))
  refine w_iloadN X d_494 rfl ?_
  refine w_icmpne X d_495 (fun hc => absurd rfl hc) (fun _ => ?_)
  refine w_aload X d_498 rfl (rfl) ?_
  refine w_aload X d_500 rfl (rfl) ?_
  refine w_callV X d_502 (wd_66 hw) (wd_67 hw) (notFace_of_selects (args := #[]) (mvT X.hZ (wd_69 hw))) (wd_69 hw) (wd_68 hw) (wd_11 hw) (wd_70 hw) (by decide) Ef1 (argsL := []) (S := [(.ref q)]) (m_g_output hw Fo1 rfl) pd_42 rfl rfl rfl (by decide) (leR rfl) (by decide) (by decide) (fun T h5 v5 L5 X q5 => ?_)
  obtain ⟨rfl, rfl⟩ := q5
  show Wp _ _ _ _ (T.setTop (mkF _ _ _ [(.ref o1), (.ref q)]))
  have f3 := (Tq.keep Kc1 (List.not_mem_nil) (List.not_mem_nil))
  have f4 := (Tq.1.keep Kc1)
  refine w_callV X d_505 (wd_71 hw) (wd_72 hw) (notFace_of_selects (args := #[]) (mvT X.hZ (wd_74 hw))) (wd_74 hw) (wd_73 hw) (wd_3 hw) (wd_75 hw) (by decide) f4 (argsL := [(.ref o1)]) (S := []) (m_eq_0 hw hS f3 To1) pd_43 rfl rfl rfl (by decide) (leR rfl) (by decide) (by decide) (fun T h6 v6 L6 X q6 => ?_)
  obtain ⟨rfl, rfl⟩ := q6
  show Wp _ _ _ _ (T.setTop (mkF _ _ _ [(.int (1 : Int32))]))
  refine w_ifeq X d_508 (fun hc => absurd hc (by decide)) (fun _ => ?_)
  refine w_iconst X (1 : Int32) d_511 rfl ?_
  refine w_goto X d_512 ?_
  exact v_ret_boolean X Y (1 : Int32) (by decide) d_516 rfl (by decide) (by decide)
theorem m_lawD_E_1 (hw : own_hw a0 Z) {zc : Int32} {fm : Value} {u8 : Addr} (hU : own_U Z zc fm) (hC : own_C Z u8) (hheld : ∀ p ∈ consts_1, Jvm.Lit.constHeld Z p.1 p.2) (hcw : Jvm.Lit.compactW.before a0 Z = true) {h0 : Heap} {cmd sel ec ou mo c0 c1 c2 ck : Int32} {ok wh ka i15 : Int32} {y0 : Int32} {b q tq cc tc en te : Addr} {bs : List Value} (Tc : Lat Z h0 cc tc (0 : Int32) []) (Te : Lat Z h0 en te (0 : Int32) []) 
    {p : Program} {e : Env} {s : State} {m : MethodId} {args : Array Value} {below : List Frame} {meth : Method} {c : Code} {T : State} {u : Vm} {kk : Nat} {locs : List Loc} (X : Sd Z n0 kk code 17 "com/example/reasoned_retry/reasonedretry/FailureOfPinLaw" "law" (some .boolean) h0 p l e room_1 (s.setVm u) m args below meth c T locs 10 30) (Y : s.Since u kk) (M : Eh Z h0 u) (Ab : Ary Z h0 b .byte bs) (Eb : Exa Z h0 b "[B") (Tq : Lat Z h0 q tq ka [(.int y0)]) (D : own_D l Z n0 b u8 bs ka [(.int y0)]) :
    Wp p e below (PoW Z n0 s (fun v _ => v = some (.int 1)) room_1.cells room_1.slots) (T.setTop (mkF m 441 #[.val (.int cmd), .val (.int sel), .val (.int ec), .val (.int ou), .val (.int mo), .val (.int c0), .val (.int c1), .val (.int c2), .val (.int ck), .val (.ref cc), .val (.ref en), .val (.int ok), .val (.int wh), .val (.ref b), .val (.ref q), .val (.int i15), .unset] [])) := by
  obtain ⟨hS, S_ad, S_hi, S_lo⟩ := id hU
  obtain ⟨S_zc, hzc, S_fm, hfm⟩ := id hS
  refine w_aload X d_441 rfl (rfl) ?_
  refine w_iloadN X d_443 rfl ?_
  refine w_aload X d_444 rfl (rfl) ?_
  refine g_callS X Y (fun vm' hW => M.warm hW) d_446 (wd_9 hw) (wd_10 hw) (wd_11 hw) (wd_12 hw) (by decide) (argsL := [(.ref cc), (.int ec), (.ref b)]) (S := []) (m_of_E hw hS hC hheld hcw Tc  Ab Eb D) pd_41 rfl rfl rfl (by decide) (leR rfl) (by decide) (by decide) (fun T h1 v1 L1 u kk X Y q1 => ?_)
  obtain ⟨fx1, o1, t1, nm1, tn1, rfl, Ef1, Fc1, Fe1, Fo1, To1, Tn1, Kc1⟩ := q1
  show Wp _ _ _ _ (T.setTop (mkF _ _ _ [(.ref fx1)]))
  refine w_astore X #[.val (.int cmd), .val (.int sel), .val (.int ec), .val (.int ou), .val (.int mo), .val (.int c0), .val (.int c1), .val (.int c2), .val (.int ck), .val (.ref cc), .val (.ref en), .val (.int ok), .val (.int wh), .val (.ref b), .val (.ref q), .val (.ref fx1), .unset] d_449 (rfl) rfl ?_
  refine w_aload X d_451 rfl (rfl) ?_
  refine w_ifnonnullT X d_453 ?_
  refine w_aload X d_472 rfl (rfl) ?_
  refine w_aload X d_474 rfl (rfl) ?_
  refine w_callV X d_476 (wd_56 hw) (wd_57 hw) (notFace_of_selects (args := #[]) (mvT X.hZ (wd_59 hw))) (wd_59 hw) (wd_58 hw) (wd_11 hw) (wd_60 hw) (by decide) Ef1 (argsL := []) (S := [(.ref en)]) (m_g_command hw Fc1 rfl) pd_42 rfl rfl rfl (by decide) (leR rfl) (by decide) (by decide) (fun T h2 v2 L2 X q2 => ?_)
  obtain ⟨rfl, rfl⟩ := q2
  show Wp _ _ _ _ (T.setTop (mkF _ _ _ [(.ref nm1), (.ref en)]))
  have f1 := (Te.keep Kc1 (List.not_mem_nil) (List.not_mem_nil))
  have f2 := (Te.1.keep Kc1)
  refine w_callV X d_479 (wd_71 hw) (wd_72 hw) (notFace_of_selects (args := #[]) (mvT X.hZ (wd_74 hw))) (wd_74 hw) (wd_73 hw) (wd_3 hw) (wd_75 hw) (by decide) f2 (argsL := [(.ref nm1)]) (S := []) (m_eq_0 hw hS f1 Tn1) pd_43 rfl rfl rfl (by decide) (leR rfl) (by decide) (by decide) (fun T h3 v3 L3 X q3 => ?_)
  obtain ⟨rfl, rfl⟩ := q3
  show Wp _ _ _ _ (T.setTop (mkF _ _ _ [(.int (1 : Int32))]))
  refine w_istore X #[.val (.int cmd), .val (.int sel), .val (.int ec), .val (.int ou), .val (.int mo), .val (.int c0), .val (.int c1), .val (.int c2), .val (.int ck), .val (.ref cc), .val (.ref en), .val (.int ok), .val (.int wh), .val (.ref b), .val (.ref q), .val (.ref fx1), .val (.int (1 : Int32))] d_482 rfl ?_
  refine w_iload X d_484 rfl ?_
  refine w_ifeq X d_486 (fun hc => absurd hc (by decide)) (fun _ => ?_)
  refine w_aload X d_489 rfl (rfl) ?_
  refine w_callV X d_491 (wd_61 hw) (wd_62 hw) (notFace_of_selects (args := #[]) (mvT X.hZ (wd_64 hw))) (wd_64 hw) (wd_63 hw) (wd_11 hw) (wd_65 hw) (by decide) Ef1 (argsL := []) (S := []) (m_g_exitCode hw Fe1) pd_23 rfl rfl rfl (by decide) (leR rfl) (by decide) (by decide) (fun T h4 v4 L4 X q4 => ?_)
  obtain ⟨rfl, rfl⟩ := q4
  show Wp _ _ _ _ (T.setTop (mkF _ _ _ [(.int ec)]))
  refine w_iloadN X d_494 rfl ?_
  refine w_icmpne X d_495 (fun hc => absurd rfl hc) (fun _ => ?_)
  refine w_aload X d_498 rfl (rfl) ?_
  refine w_aload X d_500 rfl (rfl) ?_
  refine w_callV X d_502 (wd_66 hw) (wd_67 hw) (notFace_of_selects (args := #[]) (mvT X.hZ (wd_69 hw))) (wd_69 hw) (wd_68 hw) (wd_11 hw) (wd_70 hw) (by decide) Ef1 (argsL := []) (S := [(.ref q)]) (m_g_output hw Fo1 rfl) pd_42 rfl rfl rfl (by decide) (leR rfl) (by decide) (by decide) (fun T h5 v5 L5 X q5 => ?_)
  obtain ⟨rfl, rfl⟩ := q5
  show Wp _ _ _ _ (T.setTop (mkF _ _ _ [(.ref o1), (.ref q)]))
  have f3 := (Tq.keep Kc1 (List.not_mem_nil) (List.not_mem_nil))
  have f4 := (Tq.1.keep Kc1)
  refine w_callV X d_505 (wd_71 hw) (wd_72 hw) (notFace_of_selects (args := #[]) (mvT X.hZ (wd_74 hw))) (wd_74 hw) (wd_73 hw) (wd_3 hw) (wd_75 hw) (by decide) f4 (argsL := [(.ref o1)]) (S := []) (m_eq_1 hw hS f3 To1) pd_43 rfl rfl rfl (by decide) (leR rfl) (by decide) (by decide) (fun T h6 v6 L6 X q6 => ?_)
  obtain ⟨rfl, rfl⟩ := q6
  show Wp _ _ _ _ (T.setTop (mkF _ _ _ [(.int (1 : Int32))]))
  refine w_ifeq X d_508 (fun hc => absurd hc (by decide)) (fun _ => ?_)
  refine w_iconst X (1 : Int32) d_511 rfl ?_
  refine w_goto X d_512 ?_
  exact v_ret_boolean X Y (1 : Int32) (by decide) d_516 rfl (by decide) (by decide)
theorem m_lawD_E_2 (hw : own_hw a0 Z) {zc : Int32} {fm : Value} {u8 : Addr} (hU : own_U Z zc fm) (hC : own_C Z u8) (hheld : ∀ p ∈ consts_1, Jvm.Lit.constHeld Z p.1 p.2) (hcw : Jvm.Lit.compactW.before a0 Z = true) {h0 : Heap} {cmd sel ec ou mo c0 c1 c2 ck : Int32} {ok wh ka i15 : Int32} {y0 y1 : Int32} {b q tq cc tc en te : Addr} {bs : List Value} (Tc : Lat Z h0 cc tc (0 : Int32) []) (Te : Lat Z h0 en te (0 : Int32) []) 
    {p : Program} {e : Env} {s : State} {m : MethodId} {args : Array Value} {below : List Frame} {meth : Method} {c : Code} {T : State} {u : Vm} {kk : Nat} {locs : List Loc} (X : Sd Z n0 kk code 17 "com/example/reasoned_retry/reasonedretry/FailureOfPinLaw" "law" (some .boolean) h0 p l e room_1 (s.setVm u) m args below meth c T locs 10 30) (Y : s.Since u kk) (M : Eh Z h0 u) (Ab : Ary Z h0 b .byte bs) (Eb : Exa Z h0 b "[B") (Tq : Lat Z h0 q tq ka [(.int y0), (.int y1)]) (D : own_D l Z n0 b u8 bs ka [(.int y0), (.int y1)]) :
    Wp p e below (PoW Z n0 s (fun v _ => v = some (.int 1)) room_1.cells room_1.slots) (T.setTop (mkF m 441 #[.val (.int cmd), .val (.int sel), .val (.int ec), .val (.int ou), .val (.int mo), .val (.int c0), .val (.int c1), .val (.int c2), .val (.int ck), .val (.ref cc), .val (.ref en), .val (.int ok), .val (.int wh), .val (.ref b), .val (.ref q), .val (.int i15), .unset] [])) := by
  obtain ⟨hS, S_ad, S_hi, S_lo⟩ := id hU
  obtain ⟨S_zc, hzc, S_fm, hfm⟩ := id hS
  refine w_aload X d_441 rfl (rfl) ?_
  refine w_iloadN X d_443 rfl ?_
  refine w_aload X d_444 rfl (rfl) ?_
  refine g_callS X Y (fun vm' hW => M.warm hW) d_446 (wd_9 hw) (wd_10 hw) (wd_11 hw) (wd_12 hw) (by decide) (argsL := [(.ref cc), (.int ec), (.ref b)]) (S := []) (m_of_E hw hS hC hheld hcw Tc  Ab Eb D) pd_41 rfl rfl rfl (by decide) (leR rfl) (by decide) (by decide) (fun T h1 v1 L1 u kk X Y q1 => ?_)
  obtain ⟨fx1, o1, t1, nm1, tn1, rfl, Ef1, Fc1, Fe1, Fo1, To1, Tn1, Kc1⟩ := q1
  show Wp _ _ _ _ (T.setTop (mkF _ _ _ [(.ref fx1)]))
  refine w_astore X #[.val (.int cmd), .val (.int sel), .val (.int ec), .val (.int ou), .val (.int mo), .val (.int c0), .val (.int c1), .val (.int c2), .val (.int ck), .val (.ref cc), .val (.ref en), .val (.int ok), .val (.int wh), .val (.ref b), .val (.ref q), .val (.ref fx1), .unset] d_449 (rfl) rfl ?_
  refine w_aload X d_451 rfl (rfl) ?_
  refine w_ifnonnullT X d_453 ?_
  refine w_aload X d_472 rfl (rfl) ?_
  refine w_aload X d_474 rfl (rfl) ?_
  refine w_callV X d_476 (wd_56 hw) (wd_57 hw) (notFace_of_selects (args := #[]) (mvT X.hZ (wd_59 hw))) (wd_59 hw) (wd_58 hw) (wd_11 hw) (wd_60 hw) (by decide) Ef1 (argsL := []) (S := [(.ref en)]) (m_g_command hw Fc1 rfl) pd_42 rfl rfl rfl (by decide) (leR rfl) (by decide) (by decide) (fun T h2 v2 L2 X q2 => ?_)
  obtain ⟨rfl, rfl⟩ := q2
  show Wp _ _ _ _ (T.setTop (mkF _ _ _ [(.ref nm1), (.ref en)]))
  have f1 := (Te.keep Kc1 (List.not_mem_nil) (List.not_mem_nil))
  have f2 := (Te.1.keep Kc1)
  refine w_callV X d_479 (wd_71 hw) (wd_72 hw) (notFace_of_selects (args := #[]) (mvT X.hZ (wd_74 hw))) (wd_74 hw) (wd_73 hw) (wd_3 hw) (wd_75 hw) (by decide) f2 (argsL := [(.ref nm1)]) (S := []) (m_eq_0 hw hS f1 Tn1) pd_43 rfl rfl rfl (by decide) (leR rfl) (by decide) (by decide) (fun T h3 v3 L3 X q3 => ?_)
  obtain ⟨rfl, rfl⟩ := q3
  show Wp _ _ _ _ (T.setTop (mkF _ _ _ [(.int (1 : Int32))]))
  refine w_istore X #[.val (.int cmd), .val (.int sel), .val (.int ec), .val (.int ou), .val (.int mo), .val (.int c0), .val (.int c1), .val (.int c2), .val (.int ck), .val (.ref cc), .val (.ref en), .val (.int ok), .val (.int wh), .val (.ref b), .val (.ref q), .val (.ref fx1), .val (.int (1 : Int32))] d_482 rfl ?_
  refine w_iload X d_484 rfl ?_
  refine w_ifeq X d_486 (fun hc => absurd hc (by decide)) (fun _ => ?_)
  refine w_aload X d_489 rfl (rfl) ?_
  refine w_callV X d_491 (wd_61 hw) (wd_62 hw) (notFace_of_selects (args := #[]) (mvT X.hZ (wd_64 hw))) (wd_64 hw) (wd_63 hw) (wd_11 hw) (wd_65 hw) (by decide) Ef1 (argsL := []) (S := []) (m_g_exitCode hw Fe1) pd_23 rfl rfl rfl (by decide) (leR rfl) (by decide) (by decide) (fun T h4 v4 L4 X q4 => ?_)
  obtain ⟨rfl, rfl⟩ := q4
  show Wp _ _ _ _ (T.setTop (mkF _ _ _ [(.int ec)]))
  refine w_iloadN X d_494 rfl ?_
  refine w_icmpne X d_495 (fun hc => absurd rfl hc) (fun _ => ?_)
  refine w_aload X d_498 rfl (rfl) ?_
  refine w_aload X d_500 rfl (rfl) ?_
  refine w_callV X d_502 (wd_66 hw) (wd_67 hw) (notFace_of_selects (args := #[]) (mvT X.hZ (wd_69 hw))) (wd_69 hw) (wd_68 hw) (wd_11 hw) (wd_70 hw) (by decide) Ef1 (argsL := []) (S := [(.ref q)]) (m_g_output hw Fo1 rfl) pd_42 rfl rfl rfl (by decide) (leR rfl) (by decide) (by decide) (fun T h5 v5 L5 X q5 => ?_)
  obtain ⟨rfl, rfl⟩ := q5
  show Wp _ _ _ _ (T.setTop (mkF _ _ _ [(.ref o1), (.ref q)]))
  have f3 := (Tq.keep Kc1 (List.not_mem_nil) (List.not_mem_nil))
  have f4 := (Tq.1.keep Kc1)
  refine w_callV X d_505 (wd_71 hw) (wd_72 hw) (notFace_of_selects (args := #[]) (mvT X.hZ (wd_74 hw))) (wd_74 hw) (wd_73 hw) (wd_3 hw) (wd_75 hw) (by decide) f4 (argsL := [(.ref o1)]) (S := []) (m_eq_2 hw hS f3 To1) pd_43 rfl rfl rfl (by decide) (leR rfl) (by decide) (by decide) (fun T h6 v6 L6 X q6 => ?_)
  obtain ⟨rfl, rfl⟩ := q6
  show Wp _ _ _ _ (T.setTop (mkF _ _ _ [(.int (1 : Int32))]))
  refine w_ifeq X d_508 (fun hc => absurd hc (by decide)) (fun _ => ?_)
  refine w_iconst X (1 : Int32) d_511 rfl ?_
  refine w_goto X d_512 ?_
  exact v_ret_boolean X Y (1 : Int32) (by decide) d_516 rfl (by decide) (by decide)
theorem m_lawD_E_3 (hw : own_hw a0 Z) {zc : Int32} {fm : Value} {u8 : Addr} (hU : own_U Z zc fm) (hC : own_C Z u8) (hheld : ∀ p ∈ consts_1, Jvm.Lit.constHeld Z p.1 p.2) (hcw : Jvm.Lit.compactW.before a0 Z = true) {h0 : Heap} {cmd sel ec ou mo c0 c1 c2 ck : Int32} {ok wh ka i15 i16 : Int32} {y0 y1 : Int32} {b q tq cc tc en te : Addr} {bs : List Value} (Tc : Lat Z h0 cc tc (0 : Int32) []) (Te : Lat Z h0 en te (0 : Int32) []) 
    {p : Program} {e : Env} {s : State} {m : MethodId} {args : Array Value} {below : List Frame} {meth : Method} {c : Code} {T : State} {u : Vm} {kk : Nat} {locs : List Loc} (X : Sd Z n0 kk code 17 "com/example/reasoned_retry/reasonedretry/FailureOfPinLaw" "law" (some .boolean) h0 p l e room_1 (s.setVm u) m args below meth c T locs 10 30) (Y : s.Since u kk) (M : Eh Z h0 u) (Ab : Ary Z h0 b .byte bs) (Eb : Exa Z h0 b "[B") (Tq : Lat Z h0 q tq ka [(.int y0), (.int y1)]) (D : own_D l Z n0 b u8 bs ka [(.int y0), (.int y1)]) :
    Wp p e below (PoW Z n0 s (fun v _ => v = some (.int 1)) room_1.cells room_1.slots) (T.setTop (mkF m 441 #[.val (.int cmd), .val (.int sel), .val (.int ec), .val (.int ou), .val (.int mo), .val (.int c0), .val (.int c1), .val (.int c2), .val (.int ck), .val (.ref cc), .val (.ref en), .val (.int ok), .val (.int wh), .val (.ref b), .val (.ref q), .val (.int i15), .val (.int i16)] [])) := by
  obtain ⟨hS, S_ad, S_hi, S_lo⟩ := id hU
  obtain ⟨S_zc, hzc, S_fm, hfm⟩ := id hS
  refine w_aload X d_441 rfl (rfl) ?_
  refine w_iloadN X d_443 rfl ?_
  refine w_aload X d_444 rfl (rfl) ?_
  refine g_callS X Y (fun vm' hW => M.warm hW) d_446 (wd_9 hw) (wd_10 hw) (wd_11 hw) (wd_12 hw) (by decide) (argsL := [(.ref cc), (.int ec), (.ref b)]) (S := []) (m_of_E hw hS hC hheld hcw Tc  Ab Eb D) pd_41 rfl rfl rfl (by decide) (leR rfl) (by decide) (by decide) (fun T h1 v1 L1 u kk X Y q1 => ?_)
  obtain ⟨fx1, o1, t1, nm1, tn1, rfl, Ef1, Fc1, Fe1, Fo1, To1, Tn1, Kc1⟩ := q1
  show Wp _ _ _ _ (T.setTop (mkF _ _ _ [(.ref fx1)]))
  refine w_astore X #[.val (.int cmd), .val (.int sel), .val (.int ec), .val (.int ou), .val (.int mo), .val (.int c0), .val (.int c1), .val (.int c2), .val (.int ck), .val (.ref cc), .val (.ref en), .val (.int ok), .val (.int wh), .val (.ref b), .val (.ref q), .val (.ref fx1), .val (.int i16)] d_449 (rfl) rfl ?_
  refine w_aload X d_451 rfl (rfl) ?_
  refine w_ifnonnullT X d_453 ?_
  refine w_aload X d_472 rfl (rfl) ?_
  refine w_aload X d_474 rfl (rfl) ?_
  refine w_callV X d_476 (wd_56 hw) (wd_57 hw) (notFace_of_selects (args := #[]) (mvT X.hZ (wd_59 hw))) (wd_59 hw) (wd_58 hw) (wd_11 hw) (wd_60 hw) (by decide) Ef1 (argsL := []) (S := [(.ref en)]) (m_g_command hw Fc1 rfl) pd_42 rfl rfl rfl (by decide) (leR rfl) (by decide) (by decide) (fun T h2 v2 L2 X q2 => ?_)
  obtain ⟨rfl, rfl⟩ := q2
  show Wp _ _ _ _ (T.setTop (mkF _ _ _ [(.ref nm1), (.ref en)]))
  have f1 := (Te.keep Kc1 (List.not_mem_nil) (List.not_mem_nil))
  have f2 := (Te.1.keep Kc1)
  refine w_callV X d_479 (wd_71 hw) (wd_72 hw) (notFace_of_selects (args := #[]) (mvT X.hZ (wd_74 hw))) (wd_74 hw) (wd_73 hw) (wd_3 hw) (wd_75 hw) (by decide) f2 (argsL := [(.ref nm1)]) (S := []) (m_eq_0 hw hS f1 Tn1) pd_43 rfl rfl rfl (by decide) (leR rfl) (by decide) (by decide) (fun T h3 v3 L3 X q3 => ?_)
  obtain ⟨rfl, rfl⟩ := q3
  show Wp _ _ _ _ (T.setTop (mkF _ _ _ [(.int (1 : Int32))]))
  refine w_istore X #[.val (.int cmd), .val (.int sel), .val (.int ec), .val (.int ou), .val (.int mo), .val (.int c0), .val (.int c1), .val (.int c2), .val (.int ck), .val (.ref cc), .val (.ref en), .val (.int ok), .val (.int wh), .val (.ref b), .val (.ref q), .val (.ref fx1), .val (.int (1 : Int32))] d_482 rfl ?_
  refine w_iload X d_484 rfl ?_
  refine w_ifeq X d_486 (fun hc => absurd hc (by decide)) (fun _ => ?_)
  refine w_aload X d_489 rfl (rfl) ?_
  refine w_callV X d_491 (wd_61 hw) (wd_62 hw) (notFace_of_selects (args := #[]) (mvT X.hZ (wd_64 hw))) (wd_64 hw) (wd_63 hw) (wd_11 hw) (wd_65 hw) (by decide) Ef1 (argsL := []) (S := []) (m_g_exitCode hw Fe1) pd_23 rfl rfl rfl (by decide) (leR rfl) (by decide) (by decide) (fun T h4 v4 L4 X q4 => ?_)
  obtain ⟨rfl, rfl⟩ := q4
  show Wp _ _ _ _ (T.setTop (mkF _ _ _ [(.int ec)]))
  refine w_iloadN X d_494 rfl ?_
  refine w_icmpne X d_495 (fun hc => absurd rfl hc) (fun _ => ?_)
  refine w_aload X d_498 rfl (rfl) ?_
  refine w_aload X d_500 rfl (rfl) ?_
  refine w_callV X d_502 (wd_66 hw) (wd_67 hw) (notFace_of_selects (args := #[]) (mvT X.hZ (wd_69 hw))) (wd_69 hw) (wd_68 hw) (wd_11 hw) (wd_70 hw) (by decide) Ef1 (argsL := []) (S := [(.ref q)]) (m_g_output hw Fo1 rfl) pd_42 rfl rfl rfl (by decide) (leR rfl) (by decide) (by decide) (fun T h5 v5 L5 X q5 => ?_)
  obtain ⟨rfl, rfl⟩ := q5
  show Wp _ _ _ _ (T.setTop (mkF _ _ _ [(.ref o1), (.ref q)]))
  have f3 := (Tq.keep Kc1 (List.not_mem_nil) (List.not_mem_nil))
  have f4 := (Tq.1.keep Kc1)
  refine w_callV X d_505 (wd_71 hw) (wd_72 hw) (notFace_of_selects (args := #[]) (mvT X.hZ (wd_74 hw))) (wd_74 hw) (wd_73 hw) (wd_3 hw) (wd_75 hw) (by decide) f4 (argsL := [(.ref o1)]) (S := []) (m_eq_2 hw hS f3 To1) pd_43 rfl rfl rfl (by decide) (leR rfl) (by decide) (by decide) (fun T h6 v6 L6 X q6 => ?_)
  obtain ⟨rfl, rfl⟩ := q6
  show Wp _ _ _ _ (T.setTop (mkF _ _ _ [(.int (1 : Int32))]))
  refine w_ifeq X d_508 (fun hc => absurd hc (by decide)) (fun _ => ?_)
  refine w_iconst X (1 : Int32) d_511 rfl ?_
  refine w_goto X d_512 ?_
  exact v_ret_boolean X Y (1 : Int32) (by decide) d_516 rfl (by decide) (by decide)
theorem m_lawD_0_0 (hw : own_hw a0 Z) {zc : Int32} {fm : Value} {u8 : Addr} (hU : own_U Z zc fm) (hC : own_C Z u8) (hheld : ∀ p ∈ consts_1, Jvm.Lit.constHeld Z p.1 p.2) (hcw : Jvm.Lit.compactW.before a0 Z = true) {h0 : Heap} {cmd sel ec ou mo c0 c1 c2 ck : Int32} {ok wh ka : Int32} {x0 x1 x2 : Int32} {b q tq cc tc en te : Addr} {bs : List Value} (Tc : Lat Z h0 cc tc (0 : Int32) [(.int x0), (.int x1), (.int x2)]) (Te : Lat Z h0 en te (0 : Int32) [(.int x0), (.int x1), (.int x2)]) (f2 : ¬ x2 = (47 : Int32)) (f1 : ¬ x1 = (47 : Int32)) (f0 : ¬ x0 = (47 : Int32))
    {p : Program} {e : Env} {s : State} {m : MethodId} {args : Array Value} {below : List Frame} {meth : Method} {c : Code} {T : State} {u : Vm} {kk : Nat} {locs : List Loc} (X : Sd Z n0 kk code 17 "com/example/reasoned_retry/reasonedretry/FailureOfPinLaw" "law" (some .boolean) h0 p l e room_1 (s.setVm u) m args below meth c T locs 10 30) (Y : s.Since u kk) (M : Eh Z h0 u) (Ab : Ary Z h0 b .byte bs) (Eb : Exa Z h0 b "[B") (Tq : Lat Z h0 q tq ka []) (D : own_D l Z n0 b u8 bs ka []) :
    Wp p e below (PoW Z n0 s (fun v _ => v = some (.int 1)) room_1.cells room_1.slots) (T.setTop (mkF m 441 #[.val (.int cmd), .val (.int sel), .val (.int ec), .val (.int ou), .val (.int mo), .val (.int c0), .val (.int c1), .val (.int c2), .val (.int ck), .val (.ref cc), .val (.ref en), .val (.int ok), .val (.int wh), .val (.ref b), .val (.ref q), .unset, .unset] [])) := by
  obtain ⟨hS, S_ad, S_hi, S_lo⟩ := id hU
  obtain ⟨S_zc, hzc, S_fm, hfm⟩ := id hS
  refine w_aload X d_441 rfl (rfl) ?_
  refine w_iloadN X d_443 rfl ?_
  refine w_aload X d_444 rfl (rfl) ?_
  refine g_callS X Y (fun vm' hW => M.warm hW) d_446 (wd_9 hw) (wd_10 hw) (wd_11 hw) (wd_12 hw) (by decide) (argsL := [(.ref cc), (.int ec), (.ref b)]) (S := []) (m_of_0 hw hS hC hheld hcw Tc f2 f1 f0 Ab Eb D) pd_41 rfl rfl rfl (by decide) (leR rfl) (by decide) (by decide) (fun T h1 v1 L1 u kk X Y q1 => ?_)
  obtain ⟨fx1, o1, t1, nm1, tn1, rfl, Ef1, Fc1, Fe1, Fo1, To1, Tn1, Kc1⟩ := q1
  show Wp _ _ _ _ (T.setTop (mkF _ _ _ [(.ref fx1)]))
  refine w_astore X #[.val (.int cmd), .val (.int sel), .val (.int ec), .val (.int ou), .val (.int mo), .val (.int c0), .val (.int c1), .val (.int c2), .val (.int ck), .val (.ref cc), .val (.ref en), .val (.int ok), .val (.int wh), .val (.ref b), .val (.ref q), .val (.ref fx1), .unset] d_449 (rfl) rfl ?_
  refine w_aload X d_451 rfl (rfl) ?_
  refine w_ifnonnullT X d_453 ?_
  refine w_aload X d_472 rfl (rfl) ?_
  refine w_aload X d_474 rfl (rfl) ?_
  refine w_callV X d_476 (wd_56 hw) (wd_57 hw) (notFace_of_selects (args := #[]) (mvT X.hZ (wd_59 hw))) (wd_59 hw) (wd_58 hw) (wd_11 hw) (wd_60 hw) (by decide) Ef1 (argsL := []) (S := [(.ref en)]) (m_g_command hw Fc1 rfl) pd_42 rfl rfl rfl (by decide) (leR rfl) (by decide) (by decide) (fun T h2 v2 L2 X q2 => ?_)
  obtain ⟨rfl, rfl⟩ := q2
  show Wp _ _ _ _ (T.setTop (mkF _ _ _ [(.ref nm1), (.ref en)]))
  have f1 := (Te.keep Kc1 (List.not_mem_nil) (List.not_mem_nil))
  have f2 := (Te.1.keep Kc1)
  refine w_callV X d_479 (wd_71 hw) (wd_72 hw) (notFace_of_selects (args := #[]) (mvT X.hZ (wd_74 hw))) (wd_74 hw) (wd_73 hw) (wd_3 hw) (wd_75 hw) (by decide) f2 (argsL := [(.ref nm1)]) (S := []) (m_eq_3 hw hS f1 Tn1) pd_43 rfl rfl rfl (by decide) (leR rfl) (by decide) (by decide) (fun T h3 v3 L3 X q3 => ?_)
  obtain ⟨rfl, rfl⟩ := q3
  show Wp _ _ _ _ (T.setTop (mkF _ _ _ [(.int (1 : Int32))]))
  refine w_istore X #[.val (.int cmd), .val (.int sel), .val (.int ec), .val (.int ou), .val (.int mo), .val (.int c0), .val (.int c1), .val (.int c2), .val (.int ck), .val (.ref cc), .val (.ref en), .val (.int ok), .val (.int wh), .val (.ref b), .val (.ref q), .val (.ref fx1), .val (.int (1 : Int32))] d_482 rfl ?_
  refine w_iload X d_484 rfl ?_
  refine w_ifeq X d_486 (fun hc => absurd hc (by decide)) (fun _ => ?_)
  refine w_aload X d_489 rfl (rfl) ?_
  refine w_callV X d_491 (wd_61 hw) (wd_62 hw) (notFace_of_selects (args := #[]) (mvT X.hZ (wd_64 hw))) (wd_64 hw) (wd_63 hw) (wd_11 hw) (wd_65 hw) (by decide) Ef1 (argsL := []) (S := []) (m_g_exitCode hw Fe1) pd_23 rfl rfl rfl (by decide) (leR rfl) (by decide) (by decide) (fun T h4 v4 L4 X q4 => ?_)
  obtain ⟨rfl, rfl⟩ := q4
  show Wp _ _ _ _ (T.setTop (mkF _ _ _ [(.int ec)]))
  refine w_iloadN X d_494 rfl ?_
  refine w_icmpne X d_495 (fun hc => absurd rfl hc) (fun _ => ?_)
  refine w_aload X d_498 rfl (rfl) ?_
  refine w_aload X d_500 rfl (rfl) ?_
  refine w_callV X d_502 (wd_66 hw) (wd_67 hw) (notFace_of_selects (args := #[]) (mvT X.hZ (wd_69 hw))) (wd_69 hw) (wd_68 hw) (wd_11 hw) (wd_70 hw) (by decide) Ef1 (argsL := []) (S := [(.ref q)]) (m_g_output hw Fo1 rfl) pd_42 rfl rfl rfl (by decide) (leR rfl) (by decide) (by decide) (fun T h5 v5 L5 X q5 => ?_)
  obtain ⟨rfl, rfl⟩ := q5
  show Wp _ _ _ _ (T.setTop (mkF _ _ _ [(.ref o1), (.ref q)]))
  have f3 := (Tq.keep Kc1 (List.not_mem_nil) (List.not_mem_nil))
  have f4 := (Tq.1.keep Kc1)
  refine w_callV X d_505 (wd_71 hw) (wd_72 hw) (notFace_of_selects (args := #[]) (mvT X.hZ (wd_74 hw))) (wd_74 hw) (wd_73 hw) (wd_3 hw) (wd_75 hw) (by decide) f4 (argsL := [(.ref o1)]) (S := []) (m_eq_0 hw hS f3 To1) pd_43 rfl rfl rfl (by decide) (leR rfl) (by decide) (by decide) (fun T h6 v6 L6 X q6 => ?_)
  obtain ⟨rfl, rfl⟩ := q6
  show Wp _ _ _ _ (T.setTop (mkF _ _ _ [(.int (1 : Int32))]))
  refine w_ifeq X d_508 (fun hc => absurd hc (by decide)) (fun _ => ?_)
  refine w_iconst X (1 : Int32) d_511 rfl ?_
  refine w_goto X d_512 ?_
  exact v_ret_boolean X Y (1 : Int32) (by decide) d_516 rfl (by decide) (by decide)
theorem m_lawD_0_1 (hw : own_hw a0 Z) {zc : Int32} {fm : Value} {u8 : Addr} (hU : own_U Z zc fm) (hC : own_C Z u8) (hheld : ∀ p ∈ consts_1, Jvm.Lit.constHeld Z p.1 p.2) (hcw : Jvm.Lit.compactW.before a0 Z = true) {h0 : Heap} {cmd sel ec ou mo c0 c1 c2 ck : Int32} {ok wh ka i15 : Int32} {x0 x1 x2 y0 : Int32} {b q tq cc tc en te : Addr} {bs : List Value} (Tc : Lat Z h0 cc tc (0 : Int32) [(.int x0), (.int x1), (.int x2)]) (Te : Lat Z h0 en te (0 : Int32) [(.int x0), (.int x1), (.int x2)]) (f2 : ¬ x2 = (47 : Int32)) (f1 : ¬ x1 = (47 : Int32)) (f0 : ¬ x0 = (47 : Int32))
    {p : Program} {e : Env} {s : State} {m : MethodId} {args : Array Value} {below : List Frame} {meth : Method} {c : Code} {T : State} {u : Vm} {kk : Nat} {locs : List Loc} (X : Sd Z n0 kk code 17 "com/example/reasoned_retry/reasonedretry/FailureOfPinLaw" "law" (some .boolean) h0 p l e room_1 (s.setVm u) m args below meth c T locs 10 30) (Y : s.Since u kk) (M : Eh Z h0 u) (Ab : Ary Z h0 b .byte bs) (Eb : Exa Z h0 b "[B") (Tq : Lat Z h0 q tq ka [(.int y0)]) (D : own_D l Z n0 b u8 bs ka [(.int y0)]) :
    Wp p e below (PoW Z n0 s (fun v _ => v = some (.int 1)) room_1.cells room_1.slots) (T.setTop (mkF m 441 #[.val (.int cmd), .val (.int sel), .val (.int ec), .val (.int ou), .val (.int mo), .val (.int c0), .val (.int c1), .val (.int c2), .val (.int ck), .val (.ref cc), .val (.ref en), .val (.int ok), .val (.int wh), .val (.ref b), .val (.ref q), .val (.int i15), .unset] [])) := by
  obtain ⟨hS, S_ad, S_hi, S_lo⟩ := id hU
  obtain ⟨S_zc, hzc, S_fm, hfm⟩ := id hS
  refine w_aload X d_441 rfl (rfl) ?_
  refine w_iloadN X d_443 rfl ?_
  refine w_aload X d_444 rfl (rfl) ?_
  refine g_callS X Y (fun vm' hW => M.warm hW) d_446 (wd_9 hw) (wd_10 hw) (wd_11 hw) (wd_12 hw) (by decide) (argsL := [(.ref cc), (.int ec), (.ref b)]) (S := []) (m_of_0 hw hS hC hheld hcw Tc f2 f1 f0 Ab Eb D) pd_41 rfl rfl rfl (by decide) (leR rfl) (by decide) (by decide) (fun T h1 v1 L1 u kk X Y q1 => ?_)
  obtain ⟨fx1, o1, t1, nm1, tn1, rfl, Ef1, Fc1, Fe1, Fo1, To1, Tn1, Kc1⟩ := q1
  show Wp _ _ _ _ (T.setTop (mkF _ _ _ [(.ref fx1)]))
  refine w_astore X #[.val (.int cmd), .val (.int sel), .val (.int ec), .val (.int ou), .val (.int mo), .val (.int c0), .val (.int c1), .val (.int c2), .val (.int ck), .val (.ref cc), .val (.ref en), .val (.int ok), .val (.int wh), .val (.ref b), .val (.ref q), .val (.ref fx1), .unset] d_449 (rfl) rfl ?_
  refine w_aload X d_451 rfl (rfl) ?_
  refine w_ifnonnullT X d_453 ?_
  refine w_aload X d_472 rfl (rfl) ?_
  refine w_aload X d_474 rfl (rfl) ?_
  refine w_callV X d_476 (wd_56 hw) (wd_57 hw) (notFace_of_selects (args := #[]) (mvT X.hZ (wd_59 hw))) (wd_59 hw) (wd_58 hw) (wd_11 hw) (wd_60 hw) (by decide) Ef1 (argsL := []) (S := [(.ref en)]) (m_g_command hw Fc1 rfl) pd_42 rfl rfl rfl (by decide) (leR rfl) (by decide) (by decide) (fun T h2 v2 L2 X q2 => ?_)
  obtain ⟨rfl, rfl⟩ := q2
  show Wp _ _ _ _ (T.setTop (mkF _ _ _ [(.ref nm1), (.ref en)]))
  have f1 := (Te.keep Kc1 (List.not_mem_nil) (List.not_mem_nil))
  have f2 := (Te.1.keep Kc1)
  refine w_callV X d_479 (wd_71 hw) (wd_72 hw) (notFace_of_selects (args := #[]) (mvT X.hZ (wd_74 hw))) (wd_74 hw) (wd_73 hw) (wd_3 hw) (wd_75 hw) (by decide) f2 (argsL := [(.ref nm1)]) (S := []) (m_eq_3 hw hS f1 Tn1) pd_43 rfl rfl rfl (by decide) (leR rfl) (by decide) (by decide) (fun T h3 v3 L3 X q3 => ?_)
  obtain ⟨rfl, rfl⟩ := q3
  show Wp _ _ _ _ (T.setTop (mkF _ _ _ [(.int (1 : Int32))]))
  refine w_istore X #[.val (.int cmd), .val (.int sel), .val (.int ec), .val (.int ou), .val (.int mo), .val (.int c0), .val (.int c1), .val (.int c2), .val (.int ck), .val (.ref cc), .val (.ref en), .val (.int ok), .val (.int wh), .val (.ref b), .val (.ref q), .val (.ref fx1), .val (.int (1 : Int32))] d_482 rfl ?_
  refine w_iload X d_484 rfl ?_
  refine w_ifeq X d_486 (fun hc => absurd hc (by decide)) (fun _ => ?_)
  refine w_aload X d_489 rfl (rfl) ?_
  refine w_callV X d_491 (wd_61 hw) (wd_62 hw) (notFace_of_selects (args := #[]) (mvT X.hZ (wd_64 hw))) (wd_64 hw) (wd_63 hw) (wd_11 hw) (wd_65 hw) (by decide) Ef1 (argsL := []) (S := []) (m_g_exitCode hw Fe1) pd_23 rfl rfl rfl (by decide) (leR rfl) (by decide) (by decide) (fun T h4 v4 L4 X q4 => ?_)
  obtain ⟨rfl, rfl⟩ := q4
  show Wp _ _ _ _ (T.setTop (mkF _ _ _ [(.int ec)]))
  refine w_iloadN X d_494 rfl ?_
  refine w_icmpne X d_495 (fun hc => absurd rfl hc) (fun _ => ?_)
  refine w_aload X d_498 rfl (rfl) ?_
  refine w_aload X d_500 rfl (rfl) ?_
  refine w_callV X d_502 (wd_66 hw) (wd_67 hw) (notFace_of_selects (args := #[]) (mvT X.hZ (wd_69 hw))) (wd_69 hw) (wd_68 hw) (wd_11 hw) (wd_70 hw) (by decide) Ef1 (argsL := []) (S := [(.ref q)]) (m_g_output hw Fo1 rfl) pd_42 rfl rfl rfl (by decide) (leR rfl) (by decide) (by decide) (fun T h5 v5 L5 X q5 => ?_)
  obtain ⟨rfl, rfl⟩ := q5
  show Wp _ _ _ _ (T.setTop (mkF _ _ _ [(.ref o1), (.ref q)]))
  have f3 := (Tq.keep Kc1 (List.not_mem_nil) (List.not_mem_nil))
  have f4 := (Tq.1.keep Kc1)
  refine w_callV X d_505 (wd_71 hw) (wd_72 hw) (notFace_of_selects (args := #[]) (mvT X.hZ (wd_74 hw))) (wd_74 hw) (wd_73 hw) (wd_3 hw) (wd_75 hw) (by decide) f4 (argsL := [(.ref o1)]) (S := []) (m_eq_1 hw hS f3 To1) pd_43 rfl rfl rfl (by decide) (leR rfl) (by decide) (by decide) (fun T h6 v6 L6 X q6 => ?_)
  obtain ⟨rfl, rfl⟩ := q6
  show Wp _ _ _ _ (T.setTop (mkF _ _ _ [(.int (1 : Int32))]))
  refine w_ifeq X d_508 (fun hc => absurd hc (by decide)) (fun _ => ?_)
  refine w_iconst X (1 : Int32) d_511 rfl ?_
  refine w_goto X d_512 ?_
  exact v_ret_boolean X Y (1 : Int32) (by decide) d_516 rfl (by decide) (by decide)
theorem m_lawD_0_2 (hw : own_hw a0 Z) {zc : Int32} {fm : Value} {u8 : Addr} (hU : own_U Z zc fm) (hC : own_C Z u8) (hheld : ∀ p ∈ consts_1, Jvm.Lit.constHeld Z p.1 p.2) (hcw : Jvm.Lit.compactW.before a0 Z = true) {h0 : Heap} {cmd sel ec ou mo c0 c1 c2 ck : Int32} {ok wh ka i15 : Int32} {x0 x1 x2 y0 y1 : Int32} {b q tq cc tc en te : Addr} {bs : List Value} (Tc : Lat Z h0 cc tc (0 : Int32) [(.int x0), (.int x1), (.int x2)]) (Te : Lat Z h0 en te (0 : Int32) [(.int x0), (.int x1), (.int x2)]) (f2 : ¬ x2 = (47 : Int32)) (f1 : ¬ x1 = (47 : Int32)) (f0 : ¬ x0 = (47 : Int32))
    {p : Program} {e : Env} {s : State} {m : MethodId} {args : Array Value} {below : List Frame} {meth : Method} {c : Code} {T : State} {u : Vm} {kk : Nat} {locs : List Loc} (X : Sd Z n0 kk code 17 "com/example/reasoned_retry/reasonedretry/FailureOfPinLaw" "law" (some .boolean) h0 p l e room_1 (s.setVm u) m args below meth c T locs 10 30) (Y : s.Since u kk) (M : Eh Z h0 u) (Ab : Ary Z h0 b .byte bs) (Eb : Exa Z h0 b "[B") (Tq : Lat Z h0 q tq ka [(.int y0), (.int y1)]) (D : own_D l Z n0 b u8 bs ka [(.int y0), (.int y1)]) :
    Wp p e below (PoW Z n0 s (fun v _ => v = some (.int 1)) room_1.cells room_1.slots) (T.setTop (mkF m 441 #[.val (.int cmd), .val (.int sel), .val (.int ec), .val (.int ou), .val (.int mo), .val (.int c0), .val (.int c1), .val (.int c2), .val (.int ck), .val (.ref cc), .val (.ref en), .val (.int ok), .val (.int wh), .val (.ref b), .val (.ref q), .val (.int i15), .unset] [])) := by
  obtain ⟨hS, S_ad, S_hi, S_lo⟩ := id hU
  obtain ⟨S_zc, hzc, S_fm, hfm⟩ := id hS
  refine w_aload X d_441 rfl (rfl) ?_
  refine w_iloadN X d_443 rfl ?_
  refine w_aload X d_444 rfl (rfl) ?_
  refine g_callS X Y (fun vm' hW => M.warm hW) d_446 (wd_9 hw) (wd_10 hw) (wd_11 hw) (wd_12 hw) (by decide) (argsL := [(.ref cc), (.int ec), (.ref b)]) (S := []) (m_of_0 hw hS hC hheld hcw Tc f2 f1 f0 Ab Eb D) pd_41 rfl rfl rfl (by decide) (leR rfl) (by decide) (by decide) (fun T h1 v1 L1 u kk X Y q1 => ?_)
  obtain ⟨fx1, o1, t1, nm1, tn1, rfl, Ef1, Fc1, Fe1, Fo1, To1, Tn1, Kc1⟩ := q1
  show Wp _ _ _ _ (T.setTop (mkF _ _ _ [(.ref fx1)]))
  refine w_astore X #[.val (.int cmd), .val (.int sel), .val (.int ec), .val (.int ou), .val (.int mo), .val (.int c0), .val (.int c1), .val (.int c2), .val (.int ck), .val (.ref cc), .val (.ref en), .val (.int ok), .val (.int wh), .val (.ref b), .val (.ref q), .val (.ref fx1), .unset] d_449 (rfl) rfl ?_
  refine w_aload X d_451 rfl (rfl) ?_
  refine w_ifnonnullT X d_453 ?_
  refine w_aload X d_472 rfl (rfl) ?_
  refine w_aload X d_474 rfl (rfl) ?_
  refine w_callV X d_476 (wd_56 hw) (wd_57 hw) (notFace_of_selects (args := #[]) (mvT X.hZ (wd_59 hw))) (wd_59 hw) (wd_58 hw) (wd_11 hw) (wd_60 hw) (by decide) Ef1 (argsL := []) (S := [(.ref en)]) (m_g_command hw Fc1 rfl) pd_42 rfl rfl rfl (by decide) (leR rfl) (by decide) (by decide) (fun T h2 v2 L2 X q2 => ?_)
  obtain ⟨rfl, rfl⟩ := q2
  show Wp _ _ _ _ (T.setTop (mkF _ _ _ [(.ref nm1), (.ref en)]))
  have f1 := (Te.keep Kc1 (List.not_mem_nil) (List.not_mem_nil))
  have f2 := (Te.1.keep Kc1)
  refine w_callV X d_479 (wd_71 hw) (wd_72 hw) (notFace_of_selects (args := #[]) (mvT X.hZ (wd_74 hw))) (wd_74 hw) (wd_73 hw) (wd_3 hw) (wd_75 hw) (by decide) f2 (argsL := [(.ref nm1)]) (S := []) (m_eq_3 hw hS f1 Tn1) pd_43 rfl rfl rfl (by decide) (leR rfl) (by decide) (by decide) (fun T h3 v3 L3 X q3 => ?_)
  obtain ⟨rfl, rfl⟩ := q3
  show Wp _ _ _ _ (T.setTop (mkF _ _ _ [(.int (1 : Int32))]))
  refine w_istore X #[.val (.int cmd), .val (.int sel), .val (.int ec), .val (.int ou), .val (.int mo), .val (.int c0), .val (.int c1), .val (.int c2), .val (.int ck), .val (.ref cc), .val (.ref en), .val (.int ok), .val (.int wh), .val (.ref b), .val (.ref q), .val (.ref fx1), .val (.int (1 : Int32))] d_482 rfl ?_
  refine w_iload X d_484 rfl ?_
  refine w_ifeq X d_486 (fun hc => absurd hc (by decide)) (fun _ => ?_)
  refine w_aload X d_489 rfl (rfl) ?_
  refine w_callV X d_491 (wd_61 hw) (wd_62 hw) (notFace_of_selects (args := #[]) (mvT X.hZ (wd_64 hw))) (wd_64 hw) (wd_63 hw) (wd_11 hw) (wd_65 hw) (by decide) Ef1 (argsL := []) (S := []) (m_g_exitCode hw Fe1) pd_23 rfl rfl rfl (by decide) (leR rfl) (by decide) (by decide) (fun T h4 v4 L4 X q4 => ?_)
  obtain ⟨rfl, rfl⟩ := q4
  show Wp _ _ _ _ (T.setTop (mkF _ _ _ [(.int ec)]))
  refine w_iloadN X d_494 rfl ?_
  refine w_icmpne X d_495 (fun hc => absurd rfl hc) (fun _ => ?_)
  refine w_aload X d_498 rfl (rfl) ?_
  refine w_aload X d_500 rfl (rfl) ?_
  refine w_callV X d_502 (wd_66 hw) (wd_67 hw) (notFace_of_selects (args := #[]) (mvT X.hZ (wd_69 hw))) (wd_69 hw) (wd_68 hw) (wd_11 hw) (wd_70 hw) (by decide) Ef1 (argsL := []) (S := [(.ref q)]) (m_g_output hw Fo1 rfl) pd_42 rfl rfl rfl (by decide) (leR rfl) (by decide) (by decide) (fun T h5 v5 L5 X q5 => ?_)
  obtain ⟨rfl, rfl⟩ := q5
  show Wp _ _ _ _ (T.setTop (mkF _ _ _ [(.ref o1), (.ref q)]))
  have f3 := (Tq.keep Kc1 (List.not_mem_nil) (List.not_mem_nil))
  have f4 := (Tq.1.keep Kc1)
  refine w_callV X d_505 (wd_71 hw) (wd_72 hw) (notFace_of_selects (args := #[]) (mvT X.hZ (wd_74 hw))) (wd_74 hw) (wd_73 hw) (wd_3 hw) (wd_75 hw) (by decide) f4 (argsL := [(.ref o1)]) (S := []) (m_eq_2 hw hS f3 To1) pd_43 rfl rfl rfl (by decide) (leR rfl) (by decide) (by decide) (fun T h6 v6 L6 X q6 => ?_)
  obtain ⟨rfl, rfl⟩ := q6
  show Wp _ _ _ _ (T.setTop (mkF _ _ _ [(.int (1 : Int32))]))
  refine w_ifeq X d_508 (fun hc => absurd hc (by decide)) (fun _ => ?_)
  refine w_iconst X (1 : Int32) d_511 rfl ?_
  refine w_goto X d_512 ?_
  exact v_ret_boolean X Y (1 : Int32) (by decide) d_516 rfl (by decide) (by decide)
theorem m_lawD_0_3 (hw : own_hw a0 Z) {zc : Int32} {fm : Value} {u8 : Addr} (hU : own_U Z zc fm) (hC : own_C Z u8) (hheld : ∀ p ∈ consts_1, Jvm.Lit.constHeld Z p.1 p.2) (hcw : Jvm.Lit.compactW.before a0 Z = true) {h0 : Heap} {cmd sel ec ou mo c0 c1 c2 ck : Int32} {ok wh ka i15 i16 : Int32} {x0 x1 x2 y0 y1 : Int32} {b q tq cc tc en te : Addr} {bs : List Value} (Tc : Lat Z h0 cc tc (0 : Int32) [(.int x0), (.int x1), (.int x2)]) (Te : Lat Z h0 en te (0 : Int32) [(.int x0), (.int x1), (.int x2)]) (f2 : ¬ x2 = (47 : Int32)) (f1 : ¬ x1 = (47 : Int32)) (f0 : ¬ x0 = (47 : Int32))
    {p : Program} {e : Env} {s : State} {m : MethodId} {args : Array Value} {below : List Frame} {meth : Method} {c : Code} {T : State} {u : Vm} {kk : Nat} {locs : List Loc} (X : Sd Z n0 kk code 17 "com/example/reasoned_retry/reasonedretry/FailureOfPinLaw" "law" (some .boolean) h0 p l e room_1 (s.setVm u) m args below meth c T locs 10 30) (Y : s.Since u kk) (M : Eh Z h0 u) (Ab : Ary Z h0 b .byte bs) (Eb : Exa Z h0 b "[B") (Tq : Lat Z h0 q tq ka [(.int y0), (.int y1)]) (D : own_D l Z n0 b u8 bs ka [(.int y0), (.int y1)]) :
    Wp p e below (PoW Z n0 s (fun v _ => v = some (.int 1)) room_1.cells room_1.slots) (T.setTop (mkF m 441 #[.val (.int cmd), .val (.int sel), .val (.int ec), .val (.int ou), .val (.int mo), .val (.int c0), .val (.int c1), .val (.int c2), .val (.int ck), .val (.ref cc), .val (.ref en), .val (.int ok), .val (.int wh), .val (.ref b), .val (.ref q), .val (.int i15), .val (.int i16)] [])) := by
  obtain ⟨hS, S_ad, S_hi, S_lo⟩ := id hU
  obtain ⟨S_zc, hzc, S_fm, hfm⟩ := id hS
  refine w_aload X d_441 rfl (rfl) ?_
  refine w_iloadN X d_443 rfl ?_
  refine w_aload X d_444 rfl (rfl) ?_
  refine g_callS X Y (fun vm' hW => M.warm hW) d_446 (wd_9 hw) (wd_10 hw) (wd_11 hw) (wd_12 hw) (by decide) (argsL := [(.ref cc), (.int ec), (.ref b)]) (S := []) (m_of_0 hw hS hC hheld hcw Tc f2 f1 f0 Ab Eb D) pd_41 rfl rfl rfl (by decide) (leR rfl) (by decide) (by decide) (fun T h1 v1 L1 u kk X Y q1 => ?_)
  obtain ⟨fx1, o1, t1, nm1, tn1, rfl, Ef1, Fc1, Fe1, Fo1, To1, Tn1, Kc1⟩ := q1
  show Wp _ _ _ _ (T.setTop (mkF _ _ _ [(.ref fx1)]))
  refine w_astore X #[.val (.int cmd), .val (.int sel), .val (.int ec), .val (.int ou), .val (.int mo), .val (.int c0), .val (.int c1), .val (.int c2), .val (.int ck), .val (.ref cc), .val (.ref en), .val (.int ok), .val (.int wh), .val (.ref b), .val (.ref q), .val (.ref fx1), .val (.int i16)] d_449 (rfl) rfl ?_
  refine w_aload X d_451 rfl (rfl) ?_
  refine w_ifnonnullT X d_453 ?_
  refine w_aload X d_472 rfl (rfl) ?_
  refine w_aload X d_474 rfl (rfl) ?_
  refine w_callV X d_476 (wd_56 hw) (wd_57 hw) (notFace_of_selects (args := #[]) (mvT X.hZ (wd_59 hw))) (wd_59 hw) (wd_58 hw) (wd_11 hw) (wd_60 hw) (by decide) Ef1 (argsL := []) (S := [(.ref en)]) (m_g_command hw Fc1 rfl) pd_42 rfl rfl rfl (by decide) (leR rfl) (by decide) (by decide) (fun T h2 v2 L2 X q2 => ?_)
  obtain ⟨rfl, rfl⟩ := q2
  show Wp _ _ _ _ (T.setTop (mkF _ _ _ [(.ref nm1), (.ref en)]))
  have f1 := (Te.keep Kc1 (List.not_mem_nil) (List.not_mem_nil))
  have f2 := (Te.1.keep Kc1)
  refine w_callV X d_479 (wd_71 hw) (wd_72 hw) (notFace_of_selects (args := #[]) (mvT X.hZ (wd_74 hw))) (wd_74 hw) (wd_73 hw) (wd_3 hw) (wd_75 hw) (by decide) f2 (argsL := [(.ref nm1)]) (S := []) (m_eq_3 hw hS f1 Tn1) pd_43 rfl rfl rfl (by decide) (leR rfl) (by decide) (by decide) (fun T h3 v3 L3 X q3 => ?_)
  obtain ⟨rfl, rfl⟩ := q3
  show Wp _ _ _ _ (T.setTop (mkF _ _ _ [(.int (1 : Int32))]))
  refine w_istore X #[.val (.int cmd), .val (.int sel), .val (.int ec), .val (.int ou), .val (.int mo), .val (.int c0), .val (.int c1), .val (.int c2), .val (.int ck), .val (.ref cc), .val (.ref en), .val (.int ok), .val (.int wh), .val (.ref b), .val (.ref q), .val (.ref fx1), .val (.int (1 : Int32))] d_482 rfl ?_
  refine w_iload X d_484 rfl ?_
  refine w_ifeq X d_486 (fun hc => absurd hc (by decide)) (fun _ => ?_)
  refine w_aload X d_489 rfl (rfl) ?_
  refine w_callV X d_491 (wd_61 hw) (wd_62 hw) (notFace_of_selects (args := #[]) (mvT X.hZ (wd_64 hw))) (wd_64 hw) (wd_63 hw) (wd_11 hw) (wd_65 hw) (by decide) Ef1 (argsL := []) (S := []) (m_g_exitCode hw Fe1) pd_23 rfl rfl rfl (by decide) (leR rfl) (by decide) (by decide) (fun T h4 v4 L4 X q4 => ?_)
  obtain ⟨rfl, rfl⟩ := q4
  show Wp _ _ _ _ (T.setTop (mkF _ _ _ [(.int ec)]))
  refine w_iloadN X d_494 rfl ?_
  refine w_icmpne X d_495 (fun hc => absurd rfl hc) (fun _ => ?_)
  refine w_aload X d_498 rfl (rfl) ?_
  refine w_aload X d_500 rfl (rfl) ?_
  refine w_callV X d_502 (wd_66 hw) (wd_67 hw) (notFace_of_selects (args := #[]) (mvT X.hZ (wd_69 hw))) (wd_69 hw) (wd_68 hw) (wd_11 hw) (wd_70 hw) (by decide) Ef1 (argsL := []) (S := [(.ref q)]) (m_g_output hw Fo1 rfl) pd_42 rfl rfl rfl (by decide) (leR rfl) (by decide) (by decide) (fun T h5 v5 L5 X q5 => ?_)
  obtain ⟨rfl, rfl⟩ := q5
  show Wp _ _ _ _ (T.setTop (mkF _ _ _ [(.ref o1), (.ref q)]))
  have f3 := (Tq.keep Kc1 (List.not_mem_nil) (List.not_mem_nil))
  have f4 := (Tq.1.keep Kc1)
  refine w_callV X d_505 (wd_71 hw) (wd_72 hw) (notFace_of_selects (args := #[]) (mvT X.hZ (wd_74 hw))) (wd_74 hw) (wd_73 hw) (wd_3 hw) (wd_75 hw) (by decide) f4 (argsL := [(.ref o1)]) (S := []) (m_eq_2 hw hS f3 To1) pd_43 rfl rfl rfl (by decide) (leR rfl) (by decide) (by decide) (fun T h6 v6 L6 X q6 => ?_)
  obtain ⟨rfl, rfl⟩ := q6
  show Wp _ _ _ _ (T.setTop (mkF _ _ _ [(.int (1 : Int32))]))
  refine w_ifeq X d_508 (fun hc => absurd hc (by decide)) (fun _ => ?_)
  refine w_iconst X (1 : Int32) d_511 rfl ?_
  refine w_goto X d_512 ?_
  exact v_ret_boolean X Y (1 : Int32) (by decide) d_516 rfl (by decide) (by decide)
theorem m_lawD_1_0 (hw : own_hw a0 Z) {zc : Int32} {fm : Value} {u8 : Addr} (hU : own_U Z zc fm) (hC : own_C Z u8) (hheld : ∀ p ∈ consts_1, Jvm.Lit.constHeld Z p.1 p.2) (hcw : Jvm.Lit.compactW.before a0 Z = true) {h0 : Heap} {cmd sel ec ou mo c0 c1 c2 ck : Int32} {ok wh ka : Int32} {x0 x1 x2 : Int32} {b q tq cc tc en te : Addr} {bs : List Value} (Tc : Lat Z h0 cc tc (0 : Int32) [(.int x0), (.int x1), (.int x2)]) (Te : Lat Z h0 en te (0 : Int32) [(.int x1), (.int x2)]) (f2 : ¬ x2 = (47 : Int32)) (f1 : ¬ x1 = (47 : Int32)) (e0 : x0 = (47 : Int32))
    {p : Program} {e : Env} {s : State} {m : MethodId} {args : Array Value} {below : List Frame} {meth : Method} {c : Code} {T : State} {u : Vm} {kk : Nat} {locs : List Loc} (X : Sd Z n0 kk code 17 "com/example/reasoned_retry/reasonedretry/FailureOfPinLaw" "law" (some .boolean) h0 p l e room_1 (s.setVm u) m args below meth c T locs 10 30) (Y : s.Since u kk) (M : Eh Z h0 u) (Ab : Ary Z h0 b .byte bs) (Eb : Exa Z h0 b "[B") (Tq : Lat Z h0 q tq ka []) (D : own_D l Z n0 b u8 bs ka []) :
    Wp p e below (PoW Z n0 s (fun v _ => v = some (.int 1)) room_1.cells room_1.slots) (T.setTop (mkF m 441 #[.val (.int cmd), .val (.int sel), .val (.int ec), .val (.int ou), .val (.int mo), .val (.int c0), .val (.int c1), .val (.int c2), .val (.int ck), .val (.ref cc), .val (.ref en), .val (.int ok), .val (.int wh), .val (.ref b), .val (.ref q), .unset, .unset] [])) := by
  obtain ⟨hS, S_ad, S_hi, S_lo⟩ := id hU
  obtain ⟨S_zc, hzc, S_fm, hfm⟩ := id hS
  refine w_aload X d_441 rfl (rfl) ?_
  refine w_iloadN X d_443 rfl ?_
  refine w_aload X d_444 rfl (rfl) ?_
  refine g_callS X Y (fun vm' hW => M.warm hW) d_446 (wd_9 hw) (wd_10 hw) (wd_11 hw) (wd_12 hw) (by decide) (argsL := [(.ref cc), (.int ec), (.ref b)]) (S := []) (m_of_1 hw hS hC hheld hcw Tc f2 f1 e0 Ab Eb D) pd_41 rfl rfl rfl (by decide) (leR rfl) (by decide) (by decide) (fun T h1 v1 L1 u kk X Y q1 => ?_)
  obtain ⟨fx1, o1, t1, nm1, tn1, rfl, Ef1, Fc1, Fe1, Fo1, To1, Tn1, Kc1⟩ := q1
  show Wp _ _ _ _ (T.setTop (mkF _ _ _ [(.ref fx1)]))
  refine w_astore X #[.val (.int cmd), .val (.int sel), .val (.int ec), .val (.int ou), .val (.int mo), .val (.int c0), .val (.int c1), .val (.int c2), .val (.int ck), .val (.ref cc), .val (.ref en), .val (.int ok), .val (.int wh), .val (.ref b), .val (.ref q), .val (.ref fx1), .unset] d_449 (rfl) rfl ?_
  refine w_aload X d_451 rfl (rfl) ?_
  refine w_ifnonnullT X d_453 ?_
  refine w_aload X d_472 rfl (rfl) ?_
  refine w_aload X d_474 rfl (rfl) ?_
  refine w_callV X d_476 (wd_56 hw) (wd_57 hw) (notFace_of_selects (args := #[]) (mvT X.hZ (wd_59 hw))) (wd_59 hw) (wd_58 hw) (wd_11 hw) (wd_60 hw) (by decide) Ef1 (argsL := []) (S := [(.ref en)]) (m_g_command hw Fc1 rfl) pd_42 rfl rfl rfl (by decide) (leR rfl) (by decide) (by decide) (fun T h2 v2 L2 X q2 => ?_)
  obtain ⟨rfl, rfl⟩ := q2
  show Wp _ _ _ _ (T.setTop (mkF _ _ _ [(.ref nm1), (.ref en)]))
  have f1 := (Te.keep Kc1 (List.not_mem_nil) (List.not_mem_nil))
  have f2 := (Te.1.keep Kc1)
  refine w_callV X d_479 (wd_71 hw) (wd_72 hw) (notFace_of_selects (args := #[]) (mvT X.hZ (wd_74 hw))) (wd_74 hw) (wd_73 hw) (wd_3 hw) (wd_75 hw) (by decide) f2 (argsL := [(.ref nm1)]) (S := []) (m_eq_2 hw hS f1 Tn1) pd_43 rfl rfl rfl (by decide) (leR rfl) (by decide) (by decide) (fun T h3 v3 L3 X q3 => ?_)
  obtain ⟨rfl, rfl⟩ := q3
  show Wp _ _ _ _ (T.setTop (mkF _ _ _ [(.int (1 : Int32))]))
  refine w_istore X #[.val (.int cmd), .val (.int sel), .val (.int ec), .val (.int ou), .val (.int mo), .val (.int c0), .val (.int c1), .val (.int c2), .val (.int ck), .val (.ref cc), .val (.ref en), .val (.int ok), .val (.int wh), .val (.ref b), .val (.ref q), .val (.ref fx1), .val (.int (1 : Int32))] d_482 rfl ?_
  refine w_iload X d_484 rfl ?_
  refine w_ifeq X d_486 (fun hc => absurd hc (by decide)) (fun _ => ?_)
  refine w_aload X d_489 rfl (rfl) ?_
  refine w_callV X d_491 (wd_61 hw) (wd_62 hw) (notFace_of_selects (args := #[]) (mvT X.hZ (wd_64 hw))) (wd_64 hw) (wd_63 hw) (wd_11 hw) (wd_65 hw) (by decide) Ef1 (argsL := []) (S := []) (m_g_exitCode hw Fe1) pd_23 rfl rfl rfl (by decide) (leR rfl) (by decide) (by decide) (fun T h4 v4 L4 X q4 => ?_)
  obtain ⟨rfl, rfl⟩ := q4
  show Wp _ _ _ _ (T.setTop (mkF _ _ _ [(.int ec)]))
  refine w_iloadN X d_494 rfl ?_
  refine w_icmpne X d_495 (fun hc => absurd rfl hc) (fun _ => ?_)
  refine w_aload X d_498 rfl (rfl) ?_
  refine w_aload X d_500 rfl (rfl) ?_
  refine w_callV X d_502 (wd_66 hw) (wd_67 hw) (notFace_of_selects (args := #[]) (mvT X.hZ (wd_69 hw))) (wd_69 hw) (wd_68 hw) (wd_11 hw) (wd_70 hw) (by decide) Ef1 (argsL := []) (S := [(.ref q)]) (m_g_output hw Fo1 rfl) pd_42 rfl rfl rfl (by decide) (leR rfl) (by decide) (by decide) (fun T h5 v5 L5 X q5 => ?_)
  obtain ⟨rfl, rfl⟩ := q5
  show Wp _ _ _ _ (T.setTop (mkF _ _ _ [(.ref o1), (.ref q)]))
  have f3 := (Tq.keep Kc1 (List.not_mem_nil) (List.not_mem_nil))
  have f4 := (Tq.1.keep Kc1)
  refine w_callV X d_505 (wd_71 hw) (wd_72 hw) (notFace_of_selects (args := #[]) (mvT X.hZ (wd_74 hw))) (wd_74 hw) (wd_73 hw) (wd_3 hw) (wd_75 hw) (by decide) f4 (argsL := [(.ref o1)]) (S := []) (m_eq_0 hw hS f3 To1) pd_43 rfl rfl rfl (by decide) (leR rfl) (by decide) (by decide) (fun T h6 v6 L6 X q6 => ?_)
  obtain ⟨rfl, rfl⟩ := q6
  show Wp _ _ _ _ (T.setTop (mkF _ _ _ [(.int (1 : Int32))]))
  refine w_ifeq X d_508 (fun hc => absurd hc (by decide)) (fun _ => ?_)
  refine w_iconst X (1 : Int32) d_511 rfl ?_
  refine w_goto X d_512 ?_
  exact v_ret_boolean X Y (1 : Int32) (by decide) d_516 rfl (by decide) (by decide)
theorem m_lawD_1_1 (hw : own_hw a0 Z) {zc : Int32} {fm : Value} {u8 : Addr} (hU : own_U Z zc fm) (hC : own_C Z u8) (hheld : ∀ p ∈ consts_1, Jvm.Lit.constHeld Z p.1 p.2) (hcw : Jvm.Lit.compactW.before a0 Z = true) {h0 : Heap} {cmd sel ec ou mo c0 c1 c2 ck : Int32} {ok wh ka i15 : Int32} {x0 x1 x2 y0 : Int32} {b q tq cc tc en te : Addr} {bs : List Value} (Tc : Lat Z h0 cc tc (0 : Int32) [(.int x0), (.int x1), (.int x2)]) (Te : Lat Z h0 en te (0 : Int32) [(.int x1), (.int x2)]) (f2 : ¬ x2 = (47 : Int32)) (f1 : ¬ x1 = (47 : Int32)) (e0 : x0 = (47 : Int32))
    {p : Program} {e : Env} {s : State} {m : MethodId} {args : Array Value} {below : List Frame} {meth : Method} {c : Code} {T : State} {u : Vm} {kk : Nat} {locs : List Loc} (X : Sd Z n0 kk code 17 "com/example/reasoned_retry/reasonedretry/FailureOfPinLaw" "law" (some .boolean) h0 p l e room_1 (s.setVm u) m args below meth c T locs 10 30) (Y : s.Since u kk) (M : Eh Z h0 u) (Ab : Ary Z h0 b .byte bs) (Eb : Exa Z h0 b "[B") (Tq : Lat Z h0 q tq ka [(.int y0)]) (D : own_D l Z n0 b u8 bs ka [(.int y0)]) :
    Wp p e below (PoW Z n0 s (fun v _ => v = some (.int 1)) room_1.cells room_1.slots) (T.setTop (mkF m 441 #[.val (.int cmd), .val (.int sel), .val (.int ec), .val (.int ou), .val (.int mo), .val (.int c0), .val (.int c1), .val (.int c2), .val (.int ck), .val (.ref cc), .val (.ref en), .val (.int ok), .val (.int wh), .val (.ref b), .val (.ref q), .val (.int i15), .unset] [])) := by
  obtain ⟨hS, S_ad, S_hi, S_lo⟩ := id hU
  obtain ⟨S_zc, hzc, S_fm, hfm⟩ := id hS
  refine w_aload X d_441 rfl (rfl) ?_
  refine w_iloadN X d_443 rfl ?_
  refine w_aload X d_444 rfl (rfl) ?_
  refine g_callS X Y (fun vm' hW => M.warm hW) d_446 (wd_9 hw) (wd_10 hw) (wd_11 hw) (wd_12 hw) (by decide) (argsL := [(.ref cc), (.int ec), (.ref b)]) (S := []) (m_of_1 hw hS hC hheld hcw Tc f2 f1 e0 Ab Eb D) pd_41 rfl rfl rfl (by decide) (leR rfl) (by decide) (by decide) (fun T h1 v1 L1 u kk X Y q1 => ?_)
  obtain ⟨fx1, o1, t1, nm1, tn1, rfl, Ef1, Fc1, Fe1, Fo1, To1, Tn1, Kc1⟩ := q1
  show Wp _ _ _ _ (T.setTop (mkF _ _ _ [(.ref fx1)]))
  refine w_astore X #[.val (.int cmd), .val (.int sel), .val (.int ec), .val (.int ou), .val (.int mo), .val (.int c0), .val (.int c1), .val (.int c2), .val (.int ck), .val (.ref cc), .val (.ref en), .val (.int ok), .val (.int wh), .val (.ref b), .val (.ref q), .val (.ref fx1), .unset] d_449 (rfl) rfl ?_
  refine w_aload X d_451 rfl (rfl) ?_
  refine w_ifnonnullT X d_453 ?_
  refine w_aload X d_472 rfl (rfl) ?_
  refine w_aload X d_474 rfl (rfl) ?_
  refine w_callV X d_476 (wd_56 hw) (wd_57 hw) (notFace_of_selects (args := #[]) (mvT X.hZ (wd_59 hw))) (wd_59 hw) (wd_58 hw) (wd_11 hw) (wd_60 hw) (by decide) Ef1 (argsL := []) (S := [(.ref en)]) (m_g_command hw Fc1 rfl) pd_42 rfl rfl rfl (by decide) (leR rfl) (by decide) (by decide) (fun T h2 v2 L2 X q2 => ?_)
  obtain ⟨rfl, rfl⟩ := q2
  show Wp _ _ _ _ (T.setTop (mkF _ _ _ [(.ref nm1), (.ref en)]))
  have f1 := (Te.keep Kc1 (List.not_mem_nil) (List.not_mem_nil))
  have f2 := (Te.1.keep Kc1)
  refine w_callV X d_479 (wd_71 hw) (wd_72 hw) (notFace_of_selects (args := #[]) (mvT X.hZ (wd_74 hw))) (wd_74 hw) (wd_73 hw) (wd_3 hw) (wd_75 hw) (by decide) f2 (argsL := [(.ref nm1)]) (S := []) (m_eq_2 hw hS f1 Tn1) pd_43 rfl rfl rfl (by decide) (leR rfl) (by decide) (by decide) (fun T h3 v3 L3 X q3 => ?_)
  obtain ⟨rfl, rfl⟩ := q3
  show Wp _ _ _ _ (T.setTop (mkF _ _ _ [(.int (1 : Int32))]))
  refine w_istore X #[.val (.int cmd), .val (.int sel), .val (.int ec), .val (.int ou), .val (.int mo), .val (.int c0), .val (.int c1), .val (.int c2), .val (.int ck), .val (.ref cc), .val (.ref en), .val (.int ok), .val (.int wh), .val (.ref b), .val (.ref q), .val (.ref fx1), .val (.int (1 : Int32))] d_482 rfl ?_
  refine w_iload X d_484 rfl ?_
  refine w_ifeq X d_486 (fun hc => absurd hc (by decide)) (fun _ => ?_)
  refine w_aload X d_489 rfl (rfl) ?_
  refine w_callV X d_491 (wd_61 hw) (wd_62 hw) (notFace_of_selects (args := #[]) (mvT X.hZ (wd_64 hw))) (wd_64 hw) (wd_63 hw) (wd_11 hw) (wd_65 hw) (by decide) Ef1 (argsL := []) (S := []) (m_g_exitCode hw Fe1) pd_23 rfl rfl rfl (by decide) (leR rfl) (by decide) (by decide) (fun T h4 v4 L4 X q4 => ?_)
  obtain ⟨rfl, rfl⟩ := q4
  show Wp _ _ _ _ (T.setTop (mkF _ _ _ [(.int ec)]))
  refine w_iloadN X d_494 rfl ?_
  refine w_icmpne X d_495 (fun hc => absurd rfl hc) (fun _ => ?_)
  refine w_aload X d_498 rfl (rfl) ?_
  refine w_aload X d_500 rfl (rfl) ?_
  refine w_callV X d_502 (wd_66 hw) (wd_67 hw) (notFace_of_selects (args := #[]) (mvT X.hZ (wd_69 hw))) (wd_69 hw) (wd_68 hw) (wd_11 hw) (wd_70 hw) (by decide) Ef1 (argsL := []) (S := [(.ref q)]) (m_g_output hw Fo1 rfl) pd_42 rfl rfl rfl (by decide) (leR rfl) (by decide) (by decide) (fun T h5 v5 L5 X q5 => ?_)
  obtain ⟨rfl, rfl⟩ := q5
  show Wp _ _ _ _ (T.setTop (mkF _ _ _ [(.ref o1), (.ref q)]))
  have f3 := (Tq.keep Kc1 (List.not_mem_nil) (List.not_mem_nil))
  have f4 := (Tq.1.keep Kc1)
  refine w_callV X d_505 (wd_71 hw) (wd_72 hw) (notFace_of_selects (args := #[]) (mvT X.hZ (wd_74 hw))) (wd_74 hw) (wd_73 hw) (wd_3 hw) (wd_75 hw) (by decide) f4 (argsL := [(.ref o1)]) (S := []) (m_eq_1 hw hS f3 To1) pd_43 rfl rfl rfl (by decide) (leR rfl) (by decide) (by decide) (fun T h6 v6 L6 X q6 => ?_)
  obtain ⟨rfl, rfl⟩ := q6
  show Wp _ _ _ _ (T.setTop (mkF _ _ _ [(.int (1 : Int32))]))
  refine w_ifeq X d_508 (fun hc => absurd hc (by decide)) (fun _ => ?_)
  refine w_iconst X (1 : Int32) d_511 rfl ?_
  refine w_goto X d_512 ?_
  exact v_ret_boolean X Y (1 : Int32) (by decide) d_516 rfl (by decide) (by decide)
theorem m_lawD_1_2 (hw : own_hw a0 Z) {zc : Int32} {fm : Value} {u8 : Addr} (hU : own_U Z zc fm) (hC : own_C Z u8) (hheld : ∀ p ∈ consts_1, Jvm.Lit.constHeld Z p.1 p.2) (hcw : Jvm.Lit.compactW.before a0 Z = true) {h0 : Heap} {cmd sel ec ou mo c0 c1 c2 ck : Int32} {ok wh ka i15 : Int32} {x0 x1 x2 y0 y1 : Int32} {b q tq cc tc en te : Addr} {bs : List Value} (Tc : Lat Z h0 cc tc (0 : Int32) [(.int x0), (.int x1), (.int x2)]) (Te : Lat Z h0 en te (0 : Int32) [(.int x1), (.int x2)]) (f2 : ¬ x2 = (47 : Int32)) (f1 : ¬ x1 = (47 : Int32)) (e0 : x0 = (47 : Int32))
    {p : Program} {e : Env} {s : State} {m : MethodId} {args : Array Value} {below : List Frame} {meth : Method} {c : Code} {T : State} {u : Vm} {kk : Nat} {locs : List Loc} (X : Sd Z n0 kk code 17 "com/example/reasoned_retry/reasonedretry/FailureOfPinLaw" "law" (some .boolean) h0 p l e room_1 (s.setVm u) m args below meth c T locs 10 30) (Y : s.Since u kk) (M : Eh Z h0 u) (Ab : Ary Z h0 b .byte bs) (Eb : Exa Z h0 b "[B") (Tq : Lat Z h0 q tq ka [(.int y0), (.int y1)]) (D : own_D l Z n0 b u8 bs ka [(.int y0), (.int y1)]) :
    Wp p e below (PoW Z n0 s (fun v _ => v = some (.int 1)) room_1.cells room_1.slots) (T.setTop (mkF m 441 #[.val (.int cmd), .val (.int sel), .val (.int ec), .val (.int ou), .val (.int mo), .val (.int c0), .val (.int c1), .val (.int c2), .val (.int ck), .val (.ref cc), .val (.ref en), .val (.int ok), .val (.int wh), .val (.ref b), .val (.ref q), .val (.int i15), .unset] [])) := by
  obtain ⟨hS, S_ad, S_hi, S_lo⟩ := id hU
  obtain ⟨S_zc, hzc, S_fm, hfm⟩ := id hS
  refine w_aload X d_441 rfl (rfl) ?_
  refine w_iloadN X d_443 rfl ?_
  refine w_aload X d_444 rfl (rfl) ?_
  refine g_callS X Y (fun vm' hW => M.warm hW) d_446 (wd_9 hw) (wd_10 hw) (wd_11 hw) (wd_12 hw) (by decide) (argsL := [(.ref cc), (.int ec), (.ref b)]) (S := []) (m_of_1 hw hS hC hheld hcw Tc f2 f1 e0 Ab Eb D) pd_41 rfl rfl rfl (by decide) (leR rfl) (by decide) (by decide) (fun T h1 v1 L1 u kk X Y q1 => ?_)
  obtain ⟨fx1, o1, t1, nm1, tn1, rfl, Ef1, Fc1, Fe1, Fo1, To1, Tn1, Kc1⟩ := q1
  show Wp _ _ _ _ (T.setTop (mkF _ _ _ [(.ref fx1)]))
  refine w_astore X #[.val (.int cmd), .val (.int sel), .val (.int ec), .val (.int ou), .val (.int mo), .val (.int c0), .val (.int c1), .val (.int c2), .val (.int ck), .val (.ref cc), .val (.ref en), .val (.int ok), .val (.int wh), .val (.ref b), .val (.ref q), .val (.ref fx1), .unset] d_449 (rfl) rfl ?_
  refine w_aload X d_451 rfl (rfl) ?_
  refine w_ifnonnullT X d_453 ?_
  refine w_aload X d_472 rfl (rfl) ?_
  refine w_aload X d_474 rfl (rfl) ?_
  refine w_callV X d_476 (wd_56 hw) (wd_57 hw) (notFace_of_selects (args := #[]) (mvT X.hZ (wd_59 hw))) (wd_59 hw) (wd_58 hw) (wd_11 hw) (wd_60 hw) (by decide) Ef1 (argsL := []) (S := [(.ref en)]) (m_g_command hw Fc1 rfl) pd_42 rfl rfl rfl (by decide) (leR rfl) (by decide) (by decide) (fun T h2 v2 L2 X q2 => ?_)
  obtain ⟨rfl, rfl⟩ := q2
  show Wp _ _ _ _ (T.setTop (mkF _ _ _ [(.ref nm1), (.ref en)]))
  have f1 := (Te.keep Kc1 (List.not_mem_nil) (List.not_mem_nil))
  have f2 := (Te.1.keep Kc1)
  refine w_callV X d_479 (wd_71 hw) (wd_72 hw) (notFace_of_selects (args := #[]) (mvT X.hZ (wd_74 hw))) (wd_74 hw) (wd_73 hw) (wd_3 hw) (wd_75 hw) (by decide) f2 (argsL := [(.ref nm1)]) (S := []) (m_eq_2 hw hS f1 Tn1) pd_43 rfl rfl rfl (by decide) (leR rfl) (by decide) (by decide) (fun T h3 v3 L3 X q3 => ?_)
  obtain ⟨rfl, rfl⟩ := q3
  show Wp _ _ _ _ (T.setTop (mkF _ _ _ [(.int (1 : Int32))]))
  refine w_istore X #[.val (.int cmd), .val (.int sel), .val (.int ec), .val (.int ou), .val (.int mo), .val (.int c0), .val (.int c1), .val (.int c2), .val (.int ck), .val (.ref cc), .val (.ref en), .val (.int ok), .val (.int wh), .val (.ref b), .val (.ref q), .val (.ref fx1), .val (.int (1 : Int32))] d_482 rfl ?_
  refine w_iload X d_484 rfl ?_
  refine w_ifeq X d_486 (fun hc => absurd hc (by decide)) (fun _ => ?_)
  refine w_aload X d_489 rfl (rfl) ?_
  refine w_callV X d_491 (wd_61 hw) (wd_62 hw) (notFace_of_selects (args := #[]) (mvT X.hZ (wd_64 hw))) (wd_64 hw) (wd_63 hw) (wd_11 hw) (wd_65 hw) (by decide) Ef1 (argsL := []) (S := []) (m_g_exitCode hw Fe1) pd_23 rfl rfl rfl (by decide) (leR rfl) (by decide) (by decide) (fun T h4 v4 L4 X q4 => ?_)
  obtain ⟨rfl, rfl⟩ := q4
  show Wp _ _ _ _ (T.setTop (mkF _ _ _ [(.int ec)]))
  refine w_iloadN X d_494 rfl ?_
  refine w_icmpne X d_495 (fun hc => absurd rfl hc) (fun _ => ?_)
  refine w_aload X d_498 rfl (rfl) ?_
  refine w_aload X d_500 rfl (rfl) ?_
  refine w_callV X d_502 (wd_66 hw) (wd_67 hw) (notFace_of_selects (args := #[]) (mvT X.hZ (wd_69 hw))) (wd_69 hw) (wd_68 hw) (wd_11 hw) (wd_70 hw) (by decide) Ef1 (argsL := []) (S := [(.ref q)]) (m_g_output hw Fo1 rfl) pd_42 rfl rfl rfl (by decide) (leR rfl) (by decide) (by decide) (fun T h5 v5 L5 X q5 => ?_)
  obtain ⟨rfl, rfl⟩ := q5
  show Wp _ _ _ _ (T.setTop (mkF _ _ _ [(.ref o1), (.ref q)]))
  have f3 := (Tq.keep Kc1 (List.not_mem_nil) (List.not_mem_nil))
  have f4 := (Tq.1.keep Kc1)
  refine w_callV X d_505 (wd_71 hw) (wd_72 hw) (notFace_of_selects (args := #[]) (mvT X.hZ (wd_74 hw))) (wd_74 hw) (wd_73 hw) (wd_3 hw) (wd_75 hw) (by decide) f4 (argsL := [(.ref o1)]) (S := []) (m_eq_2 hw hS f3 To1) pd_43 rfl rfl rfl (by decide) (leR rfl) (by decide) (by decide) (fun T h6 v6 L6 X q6 => ?_)
  obtain ⟨rfl, rfl⟩ := q6
  show Wp _ _ _ _ (T.setTop (mkF _ _ _ [(.int (1 : Int32))]))
  refine w_ifeq X d_508 (fun hc => absurd hc (by decide)) (fun _ => ?_)
  refine w_iconst X (1 : Int32) d_511 rfl ?_
  refine w_goto X d_512 ?_
  exact v_ret_boolean X Y (1 : Int32) (by decide) d_516 rfl (by decide) (by decide)
theorem m_lawD_1_3 (hw : own_hw a0 Z) {zc : Int32} {fm : Value} {u8 : Addr} (hU : own_U Z zc fm) (hC : own_C Z u8) (hheld : ∀ p ∈ consts_1, Jvm.Lit.constHeld Z p.1 p.2) (hcw : Jvm.Lit.compactW.before a0 Z = true) {h0 : Heap} {cmd sel ec ou mo c0 c1 c2 ck : Int32} {ok wh ka i15 i16 : Int32} {x0 x1 x2 y0 y1 : Int32} {b q tq cc tc en te : Addr} {bs : List Value} (Tc : Lat Z h0 cc tc (0 : Int32) [(.int x0), (.int x1), (.int x2)]) (Te : Lat Z h0 en te (0 : Int32) [(.int x1), (.int x2)]) (f2 : ¬ x2 = (47 : Int32)) (f1 : ¬ x1 = (47 : Int32)) (e0 : x0 = (47 : Int32))
    {p : Program} {e : Env} {s : State} {m : MethodId} {args : Array Value} {below : List Frame} {meth : Method} {c : Code} {T : State} {u : Vm} {kk : Nat} {locs : List Loc} (X : Sd Z n0 kk code 17 "com/example/reasoned_retry/reasonedretry/FailureOfPinLaw" "law" (some .boolean) h0 p l e room_1 (s.setVm u) m args below meth c T locs 10 30) (Y : s.Since u kk) (M : Eh Z h0 u) (Ab : Ary Z h0 b .byte bs) (Eb : Exa Z h0 b "[B") (Tq : Lat Z h0 q tq ka [(.int y0), (.int y1)]) (D : own_D l Z n0 b u8 bs ka [(.int y0), (.int y1)]) :
    Wp p e below (PoW Z n0 s (fun v _ => v = some (.int 1)) room_1.cells room_1.slots) (T.setTop (mkF m 441 #[.val (.int cmd), .val (.int sel), .val (.int ec), .val (.int ou), .val (.int mo), .val (.int c0), .val (.int c1), .val (.int c2), .val (.int ck), .val (.ref cc), .val (.ref en), .val (.int ok), .val (.int wh), .val (.ref b), .val (.ref q), .val (.int i15), .val (.int i16)] [])) := by
  obtain ⟨hS, S_ad, S_hi, S_lo⟩ := id hU
  obtain ⟨S_zc, hzc, S_fm, hfm⟩ := id hS
  refine w_aload X d_441 rfl (rfl) ?_
  refine w_iloadN X d_443 rfl ?_
  refine w_aload X d_444 rfl (rfl) ?_
  refine g_callS X Y (fun vm' hW => M.warm hW) d_446 (wd_9 hw) (wd_10 hw) (wd_11 hw) (wd_12 hw) (by decide) (argsL := [(.ref cc), (.int ec), (.ref b)]) (S := []) (m_of_1 hw hS hC hheld hcw Tc f2 f1 e0 Ab Eb D) pd_41 rfl rfl rfl (by decide) (leR rfl) (by decide) (by decide) (fun T h1 v1 L1 u kk X Y q1 => ?_)
  obtain ⟨fx1, o1, t1, nm1, tn1, rfl, Ef1, Fc1, Fe1, Fo1, To1, Tn1, Kc1⟩ := q1
  show Wp _ _ _ _ (T.setTop (mkF _ _ _ [(.ref fx1)]))
  refine w_astore X #[.val (.int cmd), .val (.int sel), .val (.int ec), .val (.int ou), .val (.int mo), .val (.int c0), .val (.int c1), .val (.int c2), .val (.int ck), .val (.ref cc), .val (.ref en), .val (.int ok), .val (.int wh), .val (.ref b), .val (.ref q), .val (.ref fx1), .val (.int i16)] d_449 (rfl) rfl ?_
  refine w_aload X d_451 rfl (rfl) ?_
  refine w_ifnonnullT X d_453 ?_
  refine w_aload X d_472 rfl (rfl) ?_
  refine w_aload X d_474 rfl (rfl) ?_
  refine w_callV X d_476 (wd_56 hw) (wd_57 hw) (notFace_of_selects (args := #[]) (mvT X.hZ (wd_59 hw))) (wd_59 hw) (wd_58 hw) (wd_11 hw) (wd_60 hw) (by decide) Ef1 (argsL := []) (S := [(.ref en)]) (m_g_command hw Fc1 rfl) pd_42 rfl rfl rfl (by decide) (leR rfl) (by decide) (by decide) (fun T h2 v2 L2 X q2 => ?_)
  obtain ⟨rfl, rfl⟩ := q2
  show Wp _ _ _ _ (T.setTop (mkF _ _ _ [(.ref nm1), (.ref en)]))
  have f1 := (Te.keep Kc1 (List.not_mem_nil) (List.not_mem_nil))
  have f2 := (Te.1.keep Kc1)
  refine w_callV X d_479 (wd_71 hw) (wd_72 hw) (notFace_of_selects (args := #[]) (mvT X.hZ (wd_74 hw))) (wd_74 hw) (wd_73 hw) (wd_3 hw) (wd_75 hw) (by decide) f2 (argsL := [(.ref nm1)]) (S := []) (m_eq_2 hw hS f1 Tn1) pd_43 rfl rfl rfl (by decide) (leR rfl) (by decide) (by decide) (fun T h3 v3 L3 X q3 => ?_)
  obtain ⟨rfl, rfl⟩ := q3
  show Wp _ _ _ _ (T.setTop (mkF _ _ _ [(.int (1 : Int32))]))
  refine w_istore X #[.val (.int cmd), .val (.int sel), .val (.int ec), .val (.int ou), .val (.int mo), .val (.int c0), .val (.int c1), .val (.int c2), .val (.int ck), .val (.ref cc), .val (.ref en), .val (.int ok), .val (.int wh), .val (.ref b), .val (.ref q), .val (.ref fx1), .val (.int (1 : Int32))] d_482 rfl ?_
  refine w_iload X d_484 rfl ?_
  refine w_ifeq X d_486 (fun hc => absurd hc (by decide)) (fun _ => ?_)
  refine w_aload X d_489 rfl (rfl) ?_
  refine w_callV X d_491 (wd_61 hw) (wd_62 hw) (notFace_of_selects (args := #[]) (mvT X.hZ (wd_64 hw))) (wd_64 hw) (wd_63 hw) (wd_11 hw) (wd_65 hw) (by decide) Ef1 (argsL := []) (S := []) (m_g_exitCode hw Fe1) pd_23 rfl rfl rfl (by decide) (leR rfl) (by decide) (by decide) (fun T h4 v4 L4 X q4 => ?_)
  obtain ⟨rfl, rfl⟩ := q4
  show Wp _ _ _ _ (T.setTop (mkF _ _ _ [(.int ec)]))
  refine w_iloadN X d_494 rfl ?_
  refine w_icmpne X d_495 (fun hc => absurd rfl hc) (fun _ => ?_)
  refine w_aload X d_498 rfl (rfl) ?_
  refine w_aload X d_500 rfl (rfl) ?_
  refine w_callV X d_502 (wd_66 hw) (wd_67 hw) (notFace_of_selects (args := #[]) (mvT X.hZ (wd_69 hw))) (wd_69 hw) (wd_68 hw) (wd_11 hw) (wd_70 hw) (by decide) Ef1 (argsL := []) (S := [(.ref q)]) (m_g_output hw Fo1 rfl) pd_42 rfl rfl rfl (by decide) (leR rfl) (by decide) (by decide) (fun T h5 v5 L5 X q5 => ?_)
  obtain ⟨rfl, rfl⟩ := q5
  show Wp _ _ _ _ (T.setTop (mkF _ _ _ [(.ref o1), (.ref q)]))
  have f3 := (Tq.keep Kc1 (List.not_mem_nil) (List.not_mem_nil))
  have f4 := (Tq.1.keep Kc1)
  refine w_callV X d_505 (wd_71 hw) (wd_72 hw) (notFace_of_selects (args := #[]) (mvT X.hZ (wd_74 hw))) (wd_74 hw) (wd_73 hw) (wd_3 hw) (wd_75 hw) (by decide) f4 (argsL := [(.ref o1)]) (S := []) (m_eq_2 hw hS f3 To1) pd_43 rfl rfl rfl (by decide) (leR rfl) (by decide) (by decide) (fun T h6 v6 L6 X q6 => ?_)
  obtain ⟨rfl, rfl⟩ := q6
  show Wp _ _ _ _ (T.setTop (mkF _ _ _ [(.int (1 : Int32))]))
  refine w_ifeq X d_508 (fun hc => absurd hc (by decide)) (fun _ => ?_)
  refine w_iconst X (1 : Int32) d_511 rfl ?_
  refine w_goto X d_512 ?_
  exact v_ret_boolean X Y (1 : Int32) (by decide) d_516 rfl (by decide) (by decide)
theorem m_lawD_2_0 (hw : own_hw a0 Z) {zc : Int32} {fm : Value} {u8 : Addr} (hU : own_U Z zc fm) (hC : own_C Z u8) (hheld : ∀ p ∈ consts_1, Jvm.Lit.constHeld Z p.1 p.2) (hcw : Jvm.Lit.compactW.before a0 Z = true) {h0 : Heap} {cmd sel ec ou mo c0 c1 c2 ck : Int32} {ok wh ka : Int32} {x0 x1 x2 : Int32} {b q tq cc tc en te : Addr} {bs : List Value} (Tc : Lat Z h0 cc tc (0 : Int32) [(.int x0), (.int x1), (.int x2)]) (Te : Lat Z h0 en te (0 : Int32) [(.int x2)]) (f2 : ¬ x2 = (47 : Int32)) (e1 : x1 = (47 : Int32))
    {p : Program} {e : Env} {s : State} {m : MethodId} {args : Array Value} {below : List Frame} {meth : Method} {c : Code} {T : State} {u : Vm} {kk : Nat} {locs : List Loc} (X : Sd Z n0 kk code 17 "com/example/reasoned_retry/reasonedretry/FailureOfPinLaw" "law" (some .boolean) h0 p l e room_1 (s.setVm u) m args below meth c T locs 10 30) (Y : s.Since u kk) (M : Eh Z h0 u) (Ab : Ary Z h0 b .byte bs) (Eb : Exa Z h0 b "[B") (Tq : Lat Z h0 q tq ka []) (D : own_D l Z n0 b u8 bs ka []) :
    Wp p e below (PoW Z n0 s (fun v _ => v = some (.int 1)) room_1.cells room_1.slots) (T.setTop (mkF m 441 #[.val (.int cmd), .val (.int sel), .val (.int ec), .val (.int ou), .val (.int mo), .val (.int c0), .val (.int c1), .val (.int c2), .val (.int ck), .val (.ref cc), .val (.ref en), .val (.int ok), .val (.int wh), .val (.ref b), .val (.ref q), .unset, .unset] [])) := by
  obtain ⟨hS, S_ad, S_hi, S_lo⟩ := id hU
  obtain ⟨S_zc, hzc, S_fm, hfm⟩ := id hS
  refine w_aload X d_441 rfl (rfl) ?_
  refine w_iloadN X d_443 rfl ?_
  refine w_aload X d_444 rfl (rfl) ?_
  refine g_callS X Y (fun vm' hW => M.warm hW) d_446 (wd_9 hw) (wd_10 hw) (wd_11 hw) (wd_12 hw) (by decide) (argsL := [(.ref cc), (.int ec), (.ref b)]) (S := []) (m_of_2 hw hS hC hheld hcw Tc f2 e1 Ab Eb D) pd_41 rfl rfl rfl (by decide) (leR rfl) (by decide) (by decide) (fun T h1 v1 L1 u kk X Y q1 => ?_)
  obtain ⟨fx1, o1, t1, nm1, tn1, rfl, Ef1, Fc1, Fe1, Fo1, To1, Tn1, Kc1⟩ := q1
  show Wp _ _ _ _ (T.setTop (mkF _ _ _ [(.ref fx1)]))
  refine w_astore X #[.val (.int cmd), .val (.int sel), .val (.int ec), .val (.int ou), .val (.int mo), .val (.int c0), .val (.int c1), .val (.int c2), .val (.int ck), .val (.ref cc), .val (.ref en), .val (.int ok), .val (.int wh), .val (.ref b), .val (.ref q), .val (.ref fx1), .unset] d_449 (rfl) rfl ?_
  refine w_aload X d_451 rfl (rfl) ?_
  refine w_ifnonnullT X d_453 ?_
  refine w_aload X d_472 rfl (rfl) ?_
  refine w_aload X d_474 rfl (rfl) ?_
  refine w_callV X d_476 (wd_56 hw) (wd_57 hw) (notFace_of_selects (args := #[]) (mvT X.hZ (wd_59 hw))) (wd_59 hw) (wd_58 hw) (wd_11 hw) (wd_60 hw) (by decide) Ef1 (argsL := []) (S := [(.ref en)]) (m_g_command hw Fc1 rfl) pd_42 rfl rfl rfl (by decide) (leR rfl) (by decide) (by decide) (fun T h2 v2 L2 X q2 => ?_)
  obtain ⟨rfl, rfl⟩ := q2
  show Wp _ _ _ _ (T.setTop (mkF _ _ _ [(.ref nm1), (.ref en)]))
  have f1 := (Te.keep Kc1 (List.not_mem_nil) (List.not_mem_nil))
  have f2 := (Te.1.keep Kc1)
  refine w_callV X d_479 (wd_71 hw) (wd_72 hw) (notFace_of_selects (args := #[]) (mvT X.hZ (wd_74 hw))) (wd_74 hw) (wd_73 hw) (wd_3 hw) (wd_75 hw) (by decide) f2 (argsL := [(.ref nm1)]) (S := []) (m_eq_1 hw hS f1 Tn1) pd_43 rfl rfl rfl (by decide) (leR rfl) (by decide) (by decide) (fun T h3 v3 L3 X q3 => ?_)
  obtain ⟨rfl, rfl⟩ := q3
  show Wp _ _ _ _ (T.setTop (mkF _ _ _ [(.int (1 : Int32))]))
  refine w_istore X #[.val (.int cmd), .val (.int sel), .val (.int ec), .val (.int ou), .val (.int mo), .val (.int c0), .val (.int c1), .val (.int c2), .val (.int ck), .val (.ref cc), .val (.ref en), .val (.int ok), .val (.int wh), .val (.ref b), .val (.ref q), .val (.ref fx1), .val (.int (1 : Int32))] d_482 rfl ?_
  refine w_iload X d_484 rfl ?_
  refine w_ifeq X d_486 (fun hc => absurd hc (by decide)) (fun _ => ?_)
  refine w_aload X d_489 rfl (rfl) ?_
  refine w_callV X d_491 (wd_61 hw) (wd_62 hw) (notFace_of_selects (args := #[]) (mvT X.hZ (wd_64 hw))) (wd_64 hw) (wd_63 hw) (wd_11 hw) (wd_65 hw) (by decide) Ef1 (argsL := []) (S := []) (m_g_exitCode hw Fe1) pd_23 rfl rfl rfl (by decide) (leR rfl) (by decide) (by decide) (fun T h4 v4 L4 X q4 => ?_)
  obtain ⟨rfl, rfl⟩ := q4
  show Wp _ _ _ _ (T.setTop (mkF _ _ _ [(.int ec)]))
  refine w_iloadN X d_494 rfl ?_
  refine w_icmpne X d_495 (fun hc => absurd rfl hc) (fun _ => ?_)
  refine w_aload X d_498 rfl (rfl) ?_
  refine w_aload X d_500 rfl (rfl) ?_
  refine w_callV X d_502 (wd_66 hw) (wd_67 hw) (notFace_of_selects (args := #[]) (mvT X.hZ (wd_69 hw))) (wd_69 hw) (wd_68 hw) (wd_11 hw) (wd_70 hw) (by decide) Ef1 (argsL := []) (S := [(.ref q)]) (m_g_output hw Fo1 rfl) pd_42 rfl rfl rfl (by decide) (leR rfl) (by decide) (by decide) (fun T h5 v5 L5 X q5 => ?_)
  obtain ⟨rfl, rfl⟩ := q5
  show Wp _ _ _ _ (T.setTop (mkF _ _ _ [(.ref o1), (.ref q)]))
  have f3 := (Tq.keep Kc1 (List.not_mem_nil) (List.not_mem_nil))
  have f4 := (Tq.1.keep Kc1)
  refine w_callV X d_505 (wd_71 hw) (wd_72 hw) (notFace_of_selects (args := #[]) (mvT X.hZ (wd_74 hw))) (wd_74 hw) (wd_73 hw) (wd_3 hw) (wd_75 hw) (by decide) f4 (argsL := [(.ref o1)]) (S := []) (m_eq_0 hw hS f3 To1) pd_43 rfl rfl rfl (by decide) (leR rfl) (by decide) (by decide) (fun T h6 v6 L6 X q6 => ?_)
  obtain ⟨rfl, rfl⟩ := q6
  show Wp _ _ _ _ (T.setTop (mkF _ _ _ [(.int (1 : Int32))]))
  refine w_ifeq X d_508 (fun hc => absurd hc (by decide)) (fun _ => ?_)
  refine w_iconst X (1 : Int32) d_511 rfl ?_
  refine w_goto X d_512 ?_
  exact v_ret_boolean X Y (1 : Int32) (by decide) d_516 rfl (by decide) (by decide)
theorem m_lawD_2_1 (hw : own_hw a0 Z) {zc : Int32} {fm : Value} {u8 : Addr} (hU : own_U Z zc fm) (hC : own_C Z u8) (hheld : ∀ p ∈ consts_1, Jvm.Lit.constHeld Z p.1 p.2) (hcw : Jvm.Lit.compactW.before a0 Z = true) {h0 : Heap} {cmd sel ec ou mo c0 c1 c2 ck : Int32} {ok wh ka i15 : Int32} {x0 x1 x2 y0 : Int32} {b q tq cc tc en te : Addr} {bs : List Value} (Tc : Lat Z h0 cc tc (0 : Int32) [(.int x0), (.int x1), (.int x2)]) (Te : Lat Z h0 en te (0 : Int32) [(.int x2)]) (f2 : ¬ x2 = (47 : Int32)) (e1 : x1 = (47 : Int32))
    {p : Program} {e : Env} {s : State} {m : MethodId} {args : Array Value} {below : List Frame} {meth : Method} {c : Code} {T : State} {u : Vm} {kk : Nat} {locs : List Loc} (X : Sd Z n0 kk code 17 "com/example/reasoned_retry/reasonedretry/FailureOfPinLaw" "law" (some .boolean) h0 p l e room_1 (s.setVm u) m args below meth c T locs 10 30) (Y : s.Since u kk) (M : Eh Z h0 u) (Ab : Ary Z h0 b .byte bs) (Eb : Exa Z h0 b "[B") (Tq : Lat Z h0 q tq ka [(.int y0)]) (D : own_D l Z n0 b u8 bs ka [(.int y0)]) :
    Wp p e below (PoW Z n0 s (fun v _ => v = some (.int 1)) room_1.cells room_1.slots) (T.setTop (mkF m 441 #[.val (.int cmd), .val (.int sel), .val (.int ec), .val (.int ou), .val (.int mo), .val (.int c0), .val (.int c1), .val (.int c2), .val (.int ck), .val (.ref cc), .val (.ref en), .val (.int ok), .val (.int wh), .val (.ref b), .val (.ref q), .val (.int i15), .unset] [])) := by
  obtain ⟨hS, S_ad, S_hi, S_lo⟩ := id hU
  obtain ⟨S_zc, hzc, S_fm, hfm⟩ := id hS
  refine w_aload X d_441 rfl (rfl) ?_
  refine w_iloadN X d_443 rfl ?_
  refine w_aload X d_444 rfl (rfl) ?_
  refine g_callS X Y (fun vm' hW => M.warm hW) d_446 (wd_9 hw) (wd_10 hw) (wd_11 hw) (wd_12 hw) (by decide) (argsL := [(.ref cc), (.int ec), (.ref b)]) (S := []) (m_of_2 hw hS hC hheld hcw Tc f2 e1 Ab Eb D) pd_41 rfl rfl rfl (by decide) (leR rfl) (by decide) (by decide) (fun T h1 v1 L1 u kk X Y q1 => ?_)
  obtain ⟨fx1, o1, t1, nm1, tn1, rfl, Ef1, Fc1, Fe1, Fo1, To1, Tn1, Kc1⟩ := q1
  show Wp _ _ _ _ (T.setTop (mkF _ _ _ [(.ref fx1)]))
  refine w_astore X #[.val (.int cmd), .val (.int sel), .val (.int ec), .val (.int ou), .val (.int mo), .val (.int c0), .val (.int c1), .val (.int c2), .val (.int ck), .val (.ref cc), .val (.ref en), .val (.int ok), .val (.int wh), .val (.ref b), .val (.ref q), .val (.ref fx1), .unset] d_449 (rfl) rfl ?_
  refine w_aload X d_451 rfl (rfl) ?_
  refine w_ifnonnullT X d_453 ?_
  refine w_aload X d_472 rfl (rfl) ?_
  refine w_aload X d_474 rfl (rfl) ?_
  refine w_callV X d_476 (wd_56 hw) (wd_57 hw) (notFace_of_selects (args := #[]) (mvT X.hZ (wd_59 hw))) (wd_59 hw) (wd_58 hw) (wd_11 hw) (wd_60 hw) (by decide) Ef1 (argsL := []) (S := [(.ref en)]) (m_g_command hw Fc1 rfl) pd_42 rfl rfl rfl (by decide) (leR rfl) (by decide) (by decide) (fun T h2 v2 L2 X q2 => ?_)
  obtain ⟨rfl, rfl⟩ := q2
  show Wp _ _ _ _ (T.setTop (mkF _ _ _ [(.ref nm1), (.ref en)]))
  have f1 := (Te.keep Kc1 (List.not_mem_nil) (List.not_mem_nil))
  have f2 := (Te.1.keep Kc1)
  refine w_callV X d_479 (wd_71 hw) (wd_72 hw) (notFace_of_selects (args := #[]) (mvT X.hZ (wd_74 hw))) (wd_74 hw) (wd_73 hw) (wd_3 hw) (wd_75 hw) (by decide) f2 (argsL := [(.ref nm1)]) (S := []) (m_eq_1 hw hS f1 Tn1) pd_43 rfl rfl rfl (by decide) (leR rfl) (by decide) (by decide) (fun T h3 v3 L3 X q3 => ?_)
  obtain ⟨rfl, rfl⟩ := q3
  show Wp _ _ _ _ (T.setTop (mkF _ _ _ [(.int (1 : Int32))]))
  refine w_istore X #[.val (.int cmd), .val (.int sel), .val (.int ec), .val (.int ou), .val (.int mo), .val (.int c0), .val (.int c1), .val (.int c2), .val (.int ck), .val (.ref cc), .val (.ref en), .val (.int ok), .val (.int wh), .val (.ref b), .val (.ref q), .val (.ref fx1), .val (.int (1 : Int32))] d_482 rfl ?_
  refine w_iload X d_484 rfl ?_
  refine w_ifeq X d_486 (fun hc => absurd hc (by decide)) (fun _ => ?_)
  refine w_aload X d_489 rfl (rfl) ?_
  refine w_callV X d_491 (wd_61 hw) (wd_62 hw) (notFace_of_selects (args := #[]) (mvT X.hZ (wd_64 hw))) (wd_64 hw) (wd_63 hw) (wd_11 hw) (wd_65 hw) (by decide) Ef1 (argsL := []) (S := []) (m_g_exitCode hw Fe1) pd_23 rfl rfl rfl (by decide) (leR rfl) (by decide) (by decide) (fun T h4 v4 L4 X q4 => ?_)
  obtain ⟨rfl, rfl⟩ := q4
  show Wp _ _ _ _ (T.setTop (mkF _ _ _ [(.int ec)]))
  refine w_iloadN X d_494 rfl ?_
  refine w_icmpne X d_495 (fun hc => absurd rfl hc) (fun _ => ?_)
  refine w_aload X d_498 rfl (rfl) ?_
  refine w_aload X d_500 rfl (rfl) ?_
  refine w_callV X d_502 (wd_66 hw) (wd_67 hw) (notFace_of_selects (args := #[]) (mvT X.hZ (wd_69 hw))) (wd_69 hw) (wd_68 hw) (wd_11 hw) (wd_70 hw) (by decide) Ef1 (argsL := []) (S := [(.ref q)]) (m_g_output hw Fo1 rfl) pd_42 rfl rfl rfl (by decide) (leR rfl) (by decide) (by decide) (fun T h5 v5 L5 X q5 => ?_)
  obtain ⟨rfl, rfl⟩ := q5
  show Wp _ _ _ _ (T.setTop (mkF _ _ _ [(.ref o1), (.ref q)]))
  have f3 := (Tq.keep Kc1 (List.not_mem_nil) (List.not_mem_nil))
  have f4 := (Tq.1.keep Kc1)
  refine w_callV X d_505 (wd_71 hw) (wd_72 hw) (notFace_of_selects (args := #[]) (mvT X.hZ (wd_74 hw))) (wd_74 hw) (wd_73 hw) (wd_3 hw) (wd_75 hw) (by decide) f4 (argsL := [(.ref o1)]) (S := []) (m_eq_1 hw hS f3 To1) pd_43 rfl rfl rfl (by decide) (leR rfl) (by decide) (by decide) (fun T h6 v6 L6 X q6 => ?_)
  obtain ⟨rfl, rfl⟩ := q6
  show Wp _ _ _ _ (T.setTop (mkF _ _ _ [(.int (1 : Int32))]))
  refine w_ifeq X d_508 (fun hc => absurd hc (by decide)) (fun _ => ?_)
  refine w_iconst X (1 : Int32) d_511 rfl ?_
  refine w_goto X d_512 ?_
  exact v_ret_boolean X Y (1 : Int32) (by decide) d_516 rfl (by decide) (by decide)
theorem m_lawD_2_2 (hw : own_hw a0 Z) {zc : Int32} {fm : Value} {u8 : Addr} (hU : own_U Z zc fm) (hC : own_C Z u8) (hheld : ∀ p ∈ consts_1, Jvm.Lit.constHeld Z p.1 p.2) (hcw : Jvm.Lit.compactW.before a0 Z = true) {h0 : Heap} {cmd sel ec ou mo c0 c1 c2 ck : Int32} {ok wh ka i15 : Int32} {x0 x1 x2 y0 y1 : Int32} {b q tq cc tc en te : Addr} {bs : List Value} (Tc : Lat Z h0 cc tc (0 : Int32) [(.int x0), (.int x1), (.int x2)]) (Te : Lat Z h0 en te (0 : Int32) [(.int x2)]) (f2 : ¬ x2 = (47 : Int32)) (e1 : x1 = (47 : Int32))
    {p : Program} {e : Env} {s : State} {m : MethodId} {args : Array Value} {below : List Frame} {meth : Method} {c : Code} {T : State} {u : Vm} {kk : Nat} {locs : List Loc} (X : Sd Z n0 kk code 17 "com/example/reasoned_retry/reasonedretry/FailureOfPinLaw" "law" (some .boolean) h0 p l e room_1 (s.setVm u) m args below meth c T locs 10 30) (Y : s.Since u kk) (M : Eh Z h0 u) (Ab : Ary Z h0 b .byte bs) (Eb : Exa Z h0 b "[B") (Tq : Lat Z h0 q tq ka [(.int y0), (.int y1)]) (D : own_D l Z n0 b u8 bs ka [(.int y0), (.int y1)]) :
    Wp p e below (PoW Z n0 s (fun v _ => v = some (.int 1)) room_1.cells room_1.slots) (T.setTop (mkF m 441 #[.val (.int cmd), .val (.int sel), .val (.int ec), .val (.int ou), .val (.int mo), .val (.int c0), .val (.int c1), .val (.int c2), .val (.int ck), .val (.ref cc), .val (.ref en), .val (.int ok), .val (.int wh), .val (.ref b), .val (.ref q), .val (.int i15), .unset] [])) := by
  obtain ⟨hS, S_ad, S_hi, S_lo⟩ := id hU
  obtain ⟨S_zc, hzc, S_fm, hfm⟩ := id hS
  refine w_aload X d_441 rfl (rfl) ?_
  refine w_iloadN X d_443 rfl ?_
  refine w_aload X d_444 rfl (rfl) ?_
  refine g_callS X Y (fun vm' hW => M.warm hW) d_446 (wd_9 hw) (wd_10 hw) (wd_11 hw) (wd_12 hw) (by decide) (argsL := [(.ref cc), (.int ec), (.ref b)]) (S := []) (m_of_2 hw hS hC hheld hcw Tc f2 e1 Ab Eb D) pd_41 rfl rfl rfl (by decide) (leR rfl) (by decide) (by decide) (fun T h1 v1 L1 u kk X Y q1 => ?_)
  obtain ⟨fx1, o1, t1, nm1, tn1, rfl, Ef1, Fc1, Fe1, Fo1, To1, Tn1, Kc1⟩ := q1
  show Wp _ _ _ _ (T.setTop (mkF _ _ _ [(.ref fx1)]))
  refine w_astore X #[.val (.int cmd), .val (.int sel), .val (.int ec), .val (.int ou), .val (.int mo), .val (.int c0), .val (.int c1), .val (.int c2), .val (.int ck), .val (.ref cc), .val (.ref en), .val (.int ok), .val (.int wh), .val (.ref b), .val (.ref q), .val (.ref fx1), .unset] d_449 (rfl) rfl ?_
  refine w_aload X d_451 rfl (rfl) ?_
  refine w_ifnonnullT X d_453 ?_
  refine w_aload X d_472 rfl (rfl) ?_
  refine w_aload X d_474 rfl (rfl) ?_
  refine w_callV X d_476 (wd_56 hw) (wd_57 hw) (notFace_of_selects (args := #[]) (mvT X.hZ (wd_59 hw))) (wd_59 hw) (wd_58 hw) (wd_11 hw) (wd_60 hw) (by decide) Ef1 (argsL := []) (S := [(.ref en)]) (m_g_command hw Fc1 rfl) pd_42 rfl rfl rfl (by decide) (leR rfl) (by decide) (by decide) (fun T h2 v2 L2 X q2 => ?_)
  obtain ⟨rfl, rfl⟩ := q2
  show Wp _ _ _ _ (T.setTop (mkF _ _ _ [(.ref nm1), (.ref en)]))
  have f1 := (Te.keep Kc1 (List.not_mem_nil) (List.not_mem_nil))
  have f2 := (Te.1.keep Kc1)
  refine w_callV X d_479 (wd_71 hw) (wd_72 hw) (notFace_of_selects (args := #[]) (mvT X.hZ (wd_74 hw))) (wd_74 hw) (wd_73 hw) (wd_3 hw) (wd_75 hw) (by decide) f2 (argsL := [(.ref nm1)]) (S := []) (m_eq_1 hw hS f1 Tn1) pd_43 rfl rfl rfl (by decide) (leR rfl) (by decide) (by decide) (fun T h3 v3 L3 X q3 => ?_)
  obtain ⟨rfl, rfl⟩ := q3
  show Wp _ _ _ _ (T.setTop (mkF _ _ _ [(.int (1 : Int32))]))
  refine w_istore X #[.val (.int cmd), .val (.int sel), .val (.int ec), .val (.int ou), .val (.int mo), .val (.int c0), .val (.int c1), .val (.int c2), .val (.int ck), .val (.ref cc), .val (.ref en), .val (.int ok), .val (.int wh), .val (.ref b), .val (.ref q), .val (.ref fx1), .val (.int (1 : Int32))] d_482 rfl ?_
  refine w_iload X d_484 rfl ?_
  refine w_ifeq X d_486 (fun hc => absurd hc (by decide)) (fun _ => ?_)
  refine w_aload X d_489 rfl (rfl) ?_
  refine w_callV X d_491 (wd_61 hw) (wd_62 hw) (notFace_of_selects (args := #[]) (mvT X.hZ (wd_64 hw))) (wd_64 hw) (wd_63 hw) (wd_11 hw) (wd_65 hw) (by decide) Ef1 (argsL := []) (S := []) (m_g_exitCode hw Fe1) pd_23 rfl rfl rfl (by decide) (leR rfl) (by decide) (by decide) (fun T h4 v4 L4 X q4 => ?_)
  obtain ⟨rfl, rfl⟩ := q4
  show Wp _ _ _ _ (T.setTop (mkF _ _ _ [(.int ec)]))
  refine w_iloadN X d_494 rfl ?_
  refine w_icmpne X d_495 (fun hc => absurd rfl hc) (fun _ => ?_)
  refine w_aload X d_498 rfl (rfl) ?_
  refine w_aload X d_500 rfl (rfl) ?_
  refine w_callV X d_502 (wd_66 hw) (wd_67 hw) (notFace_of_selects (args := #[]) (mvT X.hZ (wd_69 hw))) (wd_69 hw) (wd_68 hw) (wd_11 hw) (wd_70 hw) (by decide) Ef1 (argsL := []) (S := [(.ref q)]) (m_g_output hw Fo1 rfl) pd_42 rfl rfl rfl (by decide) (leR rfl) (by decide) (by decide) (fun T h5 v5 L5 X q5 => ?_)
  obtain ⟨rfl, rfl⟩ := q5
  show Wp _ _ _ _ (T.setTop (mkF _ _ _ [(.ref o1), (.ref q)]))
  have f3 := (Tq.keep Kc1 (List.not_mem_nil) (List.not_mem_nil))
  have f4 := (Tq.1.keep Kc1)
  refine w_callV X d_505 (wd_71 hw) (wd_72 hw) (notFace_of_selects (args := #[]) (mvT X.hZ (wd_74 hw))) (wd_74 hw) (wd_73 hw) (wd_3 hw) (wd_75 hw) (by decide) f4 (argsL := [(.ref o1)]) (S := []) (m_eq_2 hw hS f3 To1) pd_43 rfl rfl rfl (by decide) (leR rfl) (by decide) (by decide) (fun T h6 v6 L6 X q6 => ?_)
  obtain ⟨rfl, rfl⟩ := q6
  show Wp _ _ _ _ (T.setTop (mkF _ _ _ [(.int (1 : Int32))]))
  refine w_ifeq X d_508 (fun hc => absurd hc (by decide)) (fun _ => ?_)
  refine w_iconst X (1 : Int32) d_511 rfl ?_
  refine w_goto X d_512 ?_
  exact v_ret_boolean X Y (1 : Int32) (by decide) d_516 rfl (by decide) (by decide)
theorem m_lawD_2_3 (hw : own_hw a0 Z) {zc : Int32} {fm : Value} {u8 : Addr} (hU : own_U Z zc fm) (hC : own_C Z u8) (hheld : ∀ p ∈ consts_1, Jvm.Lit.constHeld Z p.1 p.2) (hcw : Jvm.Lit.compactW.before a0 Z = true) {h0 : Heap} {cmd sel ec ou mo c0 c1 c2 ck : Int32} {ok wh ka i15 i16 : Int32} {x0 x1 x2 y0 y1 : Int32} {b q tq cc tc en te : Addr} {bs : List Value} (Tc : Lat Z h0 cc tc (0 : Int32) [(.int x0), (.int x1), (.int x2)]) (Te : Lat Z h0 en te (0 : Int32) [(.int x2)]) (f2 : ¬ x2 = (47 : Int32)) (e1 : x1 = (47 : Int32))
    {p : Program} {e : Env} {s : State} {m : MethodId} {args : Array Value} {below : List Frame} {meth : Method} {c : Code} {T : State} {u : Vm} {kk : Nat} {locs : List Loc} (X : Sd Z n0 kk code 17 "com/example/reasoned_retry/reasonedretry/FailureOfPinLaw" "law" (some .boolean) h0 p l e room_1 (s.setVm u) m args below meth c T locs 10 30) (Y : s.Since u kk) (M : Eh Z h0 u) (Ab : Ary Z h0 b .byte bs) (Eb : Exa Z h0 b "[B") (Tq : Lat Z h0 q tq ka [(.int y0), (.int y1)]) (D : own_D l Z n0 b u8 bs ka [(.int y0), (.int y1)]) :
    Wp p e below (PoW Z n0 s (fun v _ => v = some (.int 1)) room_1.cells room_1.slots) (T.setTop (mkF m 441 #[.val (.int cmd), .val (.int sel), .val (.int ec), .val (.int ou), .val (.int mo), .val (.int c0), .val (.int c1), .val (.int c2), .val (.int ck), .val (.ref cc), .val (.ref en), .val (.int ok), .val (.int wh), .val (.ref b), .val (.ref q), .val (.int i15), .val (.int i16)] [])) := by
  obtain ⟨hS, S_ad, S_hi, S_lo⟩ := id hU
  obtain ⟨S_zc, hzc, S_fm, hfm⟩ := id hS
  refine w_aload X d_441 rfl (rfl) ?_
  refine w_iloadN X d_443 rfl ?_
  refine w_aload X d_444 rfl (rfl) ?_
  refine g_callS X Y (fun vm' hW => M.warm hW) d_446 (wd_9 hw) (wd_10 hw) (wd_11 hw) (wd_12 hw) (by decide) (argsL := [(.ref cc), (.int ec), (.ref b)]) (S := []) (m_of_2 hw hS hC hheld hcw Tc f2 e1 Ab Eb D) pd_41 rfl rfl rfl (by decide) (leR rfl) (by decide) (by decide) (fun T h1 v1 L1 u kk X Y q1 => ?_)
  obtain ⟨fx1, o1, t1, nm1, tn1, rfl, Ef1, Fc1, Fe1, Fo1, To1, Tn1, Kc1⟩ := q1
  show Wp _ _ _ _ (T.setTop (mkF _ _ _ [(.ref fx1)]))
  refine w_astore X #[.val (.int cmd), .val (.int sel), .val (.int ec), .val (.int ou), .val (.int mo), .val (.int c0), .val (.int c1), .val (.int c2), .val (.int ck), .val (.ref cc), .val (.ref en), .val (.int ok), .val (.int wh), .val (.ref b), .val (.ref q), .val (.ref fx1), .val (.int i16)] d_449 (rfl) rfl ?_
  refine w_aload X d_451 rfl (rfl) ?_
  refine w_ifnonnullT X d_453 ?_
  refine w_aload X d_472 rfl (rfl) ?_
  refine w_aload X d_474 rfl (rfl) ?_
  refine w_callV X d_476 (wd_56 hw) (wd_57 hw) (notFace_of_selects (args := #[]) (mvT X.hZ (wd_59 hw))) (wd_59 hw) (wd_58 hw) (wd_11 hw) (wd_60 hw) (by decide) Ef1 (argsL := []) (S := [(.ref en)]) (m_g_command hw Fc1 rfl) pd_42 rfl rfl rfl (by decide) (leR rfl) (by decide) (by decide) (fun T h2 v2 L2 X q2 => ?_)
  obtain ⟨rfl, rfl⟩ := q2
  show Wp _ _ _ _ (T.setTop (mkF _ _ _ [(.ref nm1), (.ref en)]))
  have f1 := (Te.keep Kc1 (List.not_mem_nil) (List.not_mem_nil))
  have f2 := (Te.1.keep Kc1)
  refine w_callV X d_479 (wd_71 hw) (wd_72 hw) (notFace_of_selects (args := #[]) (mvT X.hZ (wd_74 hw))) (wd_74 hw) (wd_73 hw) (wd_3 hw) (wd_75 hw) (by decide) f2 (argsL := [(.ref nm1)]) (S := []) (m_eq_1 hw hS f1 Tn1) pd_43 rfl rfl rfl (by decide) (leR rfl) (by decide) (by decide) (fun T h3 v3 L3 X q3 => ?_)
  obtain ⟨rfl, rfl⟩ := q3
  show Wp _ _ _ _ (T.setTop (mkF _ _ _ [(.int (1 : Int32))]))
  refine w_istore X #[.val (.int cmd), .val (.int sel), .val (.int ec), .val (.int ou), .val (.int mo), .val (.int c0), .val (.int c1), .val (.int c2), .val (.int ck), .val (.ref cc), .val (.ref en), .val (.int ok), .val (.int wh), .val (.ref b), .val (.ref q), .val (.ref fx1), .val (.int (1 : Int32))] d_482 rfl ?_
  refine w_iload X d_484 rfl ?_
  refine w_ifeq X d_486 (fun hc => absurd hc (by decide)) (fun _ => ?_)
  refine w_aload X d_489 rfl (rfl) ?_
  refine w_callV X d_491 (wd_61 hw) (wd_62 hw) (notFace_of_selects (args := #[]) (mvT X.hZ (wd_64 hw))) (wd_64 hw) (wd_63 hw) (wd_11 hw) (wd_65 hw) (by decide) Ef1 (argsL := []) (S := []) (m_g_exitCode hw Fe1) pd_23 rfl rfl rfl (by decide) (leR rfl) (by decide) (by decide) (fun T h4 v4 L4 X q4 => ?_)
  obtain ⟨rfl, rfl⟩ := q4
  show Wp _ _ _ _ (T.setTop (mkF _ _ _ [(.int ec)]))
  refine w_iloadN X d_494 rfl ?_
  refine w_icmpne X d_495 (fun hc => absurd rfl hc) (fun _ => ?_)
  refine w_aload X d_498 rfl (rfl) ?_
  refine w_aload X d_500 rfl (rfl) ?_
  refine w_callV X d_502 (wd_66 hw) (wd_67 hw) (notFace_of_selects (args := #[]) (mvT X.hZ (wd_69 hw))) (wd_69 hw) (wd_68 hw) (wd_11 hw) (wd_70 hw) (by decide) Ef1 (argsL := []) (S := [(.ref q)]) (m_g_output hw Fo1 rfl) pd_42 rfl rfl rfl (by decide) (leR rfl) (by decide) (by decide) (fun T h5 v5 L5 X q5 => ?_)
  obtain ⟨rfl, rfl⟩ := q5
  show Wp _ _ _ _ (T.setTop (mkF _ _ _ [(.ref o1), (.ref q)]))
  have f3 := (Tq.keep Kc1 (List.not_mem_nil) (List.not_mem_nil))
  have f4 := (Tq.1.keep Kc1)
  refine w_callV X d_505 (wd_71 hw) (wd_72 hw) (notFace_of_selects (args := #[]) (mvT X.hZ (wd_74 hw))) (wd_74 hw) (wd_73 hw) (wd_3 hw) (wd_75 hw) (by decide) f4 (argsL := [(.ref o1)]) (S := []) (m_eq_2 hw hS f3 To1) pd_43 rfl rfl rfl (by decide) (leR rfl) (by decide) (by decide) (fun T h6 v6 L6 X q6 => ?_)
  obtain ⟨rfl, rfl⟩ := q6
  show Wp _ _ _ _ (T.setTop (mkF _ _ _ [(.int (1 : Int32))]))
  refine w_ifeq X d_508 (fun hc => absurd hc (by decide)) (fun _ => ?_)
  refine w_iconst X (1 : Int32) d_511 rfl ?_
  refine w_goto X d_512 ?_
  exact v_ret_boolean X Y (1 : Int32) (by decide) d_516 rfl (by decide) (by decide)
theorem m_lawD_3_0 (hw : own_hw a0 Z) {zc : Int32} {fm : Value} {u8 : Addr} (hU : own_U Z zc fm) (hC : own_C Z u8) (hheld : ∀ p ∈ consts_1, Jvm.Lit.constHeld Z p.1 p.2) (hcw : Jvm.Lit.compactW.before a0 Z = true) {h0 : Heap} {cmd sel ec ou mo c0 c1 c2 ck : Int32} {ok wh ka : Int32} {x0 x1 x2 : Int32} {b q tq cc tc en te : Addr} {bs : List Value} (Tc : Lat Z h0 cc tc (0 : Int32) [(.int x0), (.int x1), (.int x2)]) (Te : Lat Z h0 en te (0 : Int32) []) (e2 : x2 = (47 : Int32))
    {p : Program} {e : Env} {s : State} {m : MethodId} {args : Array Value} {below : List Frame} {meth : Method} {c : Code} {T : State} {u : Vm} {kk : Nat} {locs : List Loc} (X : Sd Z n0 kk code 17 "com/example/reasoned_retry/reasonedretry/FailureOfPinLaw" "law" (some .boolean) h0 p l e room_1 (s.setVm u) m args below meth c T locs 10 30) (Y : s.Since u kk) (M : Eh Z h0 u) (Ab : Ary Z h0 b .byte bs) (Eb : Exa Z h0 b "[B") (Tq : Lat Z h0 q tq ka []) (D : own_D l Z n0 b u8 bs ka []) :
    Wp p e below (PoW Z n0 s (fun v _ => v = some (.int 1)) room_1.cells room_1.slots) (T.setTop (mkF m 441 #[.val (.int cmd), .val (.int sel), .val (.int ec), .val (.int ou), .val (.int mo), .val (.int c0), .val (.int c1), .val (.int c2), .val (.int ck), .val (.ref cc), .val (.ref en), .val (.int ok), .val (.int wh), .val (.ref b), .val (.ref q), .unset, .unset] [])) := by
  obtain ⟨hS, S_ad, S_hi, S_lo⟩ := id hU
  obtain ⟨S_zc, hzc, S_fm, hfm⟩ := id hS
  refine w_aload X d_441 rfl (rfl) ?_
  refine w_iloadN X d_443 rfl ?_
  refine w_aload X d_444 rfl (rfl) ?_
  refine g_callS X Y (fun vm' hW => M.warm hW) d_446 (wd_9 hw) (wd_10 hw) (wd_11 hw) (wd_12 hw) (by decide) (argsL := [(.ref cc), (.int ec), (.ref b)]) (S := []) (m_of_3 hw hS hC hheld hcw Tc e2 Ab Eb D) pd_41 rfl rfl rfl (by decide) (leR rfl) (by decide) (by decide) (fun T h1 v1 L1 u kk X Y q1 => ?_)
  obtain ⟨fx1, o1, t1, nm1, tn1, rfl, Ef1, Fc1, Fe1, Fo1, To1, Tn1, Kc1⟩ := q1
  show Wp _ _ _ _ (T.setTop (mkF _ _ _ [(.ref fx1)]))
  refine w_astore X #[.val (.int cmd), .val (.int sel), .val (.int ec), .val (.int ou), .val (.int mo), .val (.int c0), .val (.int c1), .val (.int c2), .val (.int ck), .val (.ref cc), .val (.ref en), .val (.int ok), .val (.int wh), .val (.ref b), .val (.ref q), .val (.ref fx1), .unset] d_449 (rfl) rfl ?_
  refine w_aload X d_451 rfl (rfl) ?_
  refine w_ifnonnullT X d_453 ?_
  refine w_aload X d_472 rfl (rfl) ?_
  refine w_aload X d_474 rfl (rfl) ?_
  refine w_callV X d_476 (wd_56 hw) (wd_57 hw) (notFace_of_selects (args := #[]) (mvT X.hZ (wd_59 hw))) (wd_59 hw) (wd_58 hw) (wd_11 hw) (wd_60 hw) (by decide) Ef1 (argsL := []) (S := [(.ref en)]) (m_g_command hw Fc1 rfl) pd_42 rfl rfl rfl (by decide) (leR rfl) (by decide) (by decide) (fun T h2 v2 L2 X q2 => ?_)
  obtain ⟨rfl, rfl⟩ := q2
  show Wp _ _ _ _ (T.setTop (mkF _ _ _ [(.ref nm1), (.ref en)]))
  have f1 := (Te.keep Kc1 (List.not_mem_nil) (List.not_mem_nil))
  have f2 := (Te.1.keep Kc1)
  refine w_callV X d_479 (wd_71 hw) (wd_72 hw) (notFace_of_selects (args := #[]) (mvT X.hZ (wd_74 hw))) (wd_74 hw) (wd_73 hw) (wd_3 hw) (wd_75 hw) (by decide) f2 (argsL := [(.ref nm1)]) (S := []) (m_eq_0 hw hS f1 Tn1) pd_43 rfl rfl rfl (by decide) (leR rfl) (by decide) (by decide) (fun T h3 v3 L3 X q3 => ?_)
  obtain ⟨rfl, rfl⟩ := q3
  show Wp _ _ _ _ (T.setTop (mkF _ _ _ [(.int (1 : Int32))]))
  refine w_istore X #[.val (.int cmd), .val (.int sel), .val (.int ec), .val (.int ou), .val (.int mo), .val (.int c0), .val (.int c1), .val (.int c2), .val (.int ck), .val (.ref cc), .val (.ref en), .val (.int ok), .val (.int wh), .val (.ref b), .val (.ref q), .val (.ref fx1), .val (.int (1 : Int32))] d_482 rfl ?_
  refine w_iload X d_484 rfl ?_
  refine w_ifeq X d_486 (fun hc => absurd hc (by decide)) (fun _ => ?_)
  refine w_aload X d_489 rfl (rfl) ?_
  refine w_callV X d_491 (wd_61 hw) (wd_62 hw) (notFace_of_selects (args := #[]) (mvT X.hZ (wd_64 hw))) (wd_64 hw) (wd_63 hw) (wd_11 hw) (wd_65 hw) (by decide) Ef1 (argsL := []) (S := []) (m_g_exitCode hw Fe1) pd_23 rfl rfl rfl (by decide) (leR rfl) (by decide) (by decide) (fun T h4 v4 L4 X q4 => ?_)
  obtain ⟨rfl, rfl⟩ := q4
  show Wp _ _ _ _ (T.setTop (mkF _ _ _ [(.int ec)]))
  refine w_iloadN X d_494 rfl ?_
  refine w_icmpne X d_495 (fun hc => absurd rfl hc) (fun _ => ?_)
  refine w_aload X d_498 rfl (rfl) ?_
  refine w_aload X d_500 rfl (rfl) ?_
  refine w_callV X d_502 (wd_66 hw) (wd_67 hw) (notFace_of_selects (args := #[]) (mvT X.hZ (wd_69 hw))) (wd_69 hw) (wd_68 hw) (wd_11 hw) (wd_70 hw) (by decide) Ef1 (argsL := []) (S := [(.ref q)]) (m_g_output hw Fo1 rfl) pd_42 rfl rfl rfl (by decide) (leR rfl) (by decide) (by decide) (fun T h5 v5 L5 X q5 => ?_)
  obtain ⟨rfl, rfl⟩ := q5
  show Wp _ _ _ _ (T.setTop (mkF _ _ _ [(.ref o1), (.ref q)]))
  have f3 := (Tq.keep Kc1 (List.not_mem_nil) (List.not_mem_nil))
  have f4 := (Tq.1.keep Kc1)
  refine w_callV X d_505 (wd_71 hw) (wd_72 hw) (notFace_of_selects (args := #[]) (mvT X.hZ (wd_74 hw))) (wd_74 hw) (wd_73 hw) (wd_3 hw) (wd_75 hw) (by decide) f4 (argsL := [(.ref o1)]) (S := []) (m_eq_0 hw hS f3 To1) pd_43 rfl rfl rfl (by decide) (leR rfl) (by decide) (by decide) (fun T h6 v6 L6 X q6 => ?_)
  obtain ⟨rfl, rfl⟩ := q6
  show Wp _ _ _ _ (T.setTop (mkF _ _ _ [(.int (1 : Int32))]))
  refine w_ifeq X d_508 (fun hc => absurd hc (by decide)) (fun _ => ?_)
  refine w_iconst X (1 : Int32) d_511 rfl ?_
  refine w_goto X d_512 ?_
  exact v_ret_boolean X Y (1 : Int32) (by decide) d_516 rfl (by decide) (by decide)
theorem m_lawD_3_1 (hw : own_hw a0 Z) {zc : Int32} {fm : Value} {u8 : Addr} (hU : own_U Z zc fm) (hC : own_C Z u8) (hheld : ∀ p ∈ consts_1, Jvm.Lit.constHeld Z p.1 p.2) (hcw : Jvm.Lit.compactW.before a0 Z = true) {h0 : Heap} {cmd sel ec ou mo c0 c1 c2 ck : Int32} {ok wh ka i15 : Int32} {x0 x1 x2 y0 : Int32} {b q tq cc tc en te : Addr} {bs : List Value} (Tc : Lat Z h0 cc tc (0 : Int32) [(.int x0), (.int x1), (.int x2)]) (Te : Lat Z h0 en te (0 : Int32) []) (e2 : x2 = (47 : Int32))
    {p : Program} {e : Env} {s : State} {m : MethodId} {args : Array Value} {below : List Frame} {meth : Method} {c : Code} {T : State} {u : Vm} {kk : Nat} {locs : List Loc} (X : Sd Z n0 kk code 17 "com/example/reasoned_retry/reasonedretry/FailureOfPinLaw" "law" (some .boolean) h0 p l e room_1 (s.setVm u) m args below meth c T locs 10 30) (Y : s.Since u kk) (M : Eh Z h0 u) (Ab : Ary Z h0 b .byte bs) (Eb : Exa Z h0 b "[B") (Tq : Lat Z h0 q tq ka [(.int y0)]) (D : own_D l Z n0 b u8 bs ka [(.int y0)]) :
    Wp p e below (PoW Z n0 s (fun v _ => v = some (.int 1)) room_1.cells room_1.slots) (T.setTop (mkF m 441 #[.val (.int cmd), .val (.int sel), .val (.int ec), .val (.int ou), .val (.int mo), .val (.int c0), .val (.int c1), .val (.int c2), .val (.int ck), .val (.ref cc), .val (.ref en), .val (.int ok), .val (.int wh), .val (.ref b), .val (.ref q), .val (.int i15), .unset] [])) := by
  obtain ⟨hS, S_ad, S_hi, S_lo⟩ := id hU
  obtain ⟨S_zc, hzc, S_fm, hfm⟩ := id hS
  refine w_aload X d_441 rfl (rfl) ?_
  refine w_iloadN X d_443 rfl ?_
  refine w_aload X d_444 rfl (rfl) ?_
  refine g_callS X Y (fun vm' hW => M.warm hW) d_446 (wd_9 hw) (wd_10 hw) (wd_11 hw) (wd_12 hw) (by decide) (argsL := [(.ref cc), (.int ec), (.ref b)]) (S := []) (m_of_3 hw hS hC hheld hcw Tc e2 Ab Eb D) pd_41 rfl rfl rfl (by decide) (leR rfl) (by decide) (by decide) (fun T h1 v1 L1 u kk X Y q1 => ?_)
  obtain ⟨fx1, o1, t1, nm1, tn1, rfl, Ef1, Fc1, Fe1, Fo1, To1, Tn1, Kc1⟩ := q1
  show Wp _ _ _ _ (T.setTop (mkF _ _ _ [(.ref fx1)]))
  refine w_astore X #[.val (.int cmd), .val (.int sel), .val (.int ec), .val (.int ou), .val (.int mo), .val (.int c0), .val (.int c1), .val (.int c2), .val (.int ck), .val (.ref cc), .val (.ref en), .val (.int ok), .val (.int wh), .val (.ref b), .val (.ref q), .val (.ref fx1), .unset] d_449 (rfl) rfl ?_
  refine w_aload X d_451 rfl (rfl) ?_
  refine w_ifnonnullT X d_453 ?_
  refine w_aload X d_472 rfl (rfl) ?_
  refine w_aload X d_474 rfl (rfl) ?_
  refine w_callV X d_476 (wd_56 hw) (wd_57 hw) (notFace_of_selects (args := #[]) (mvT X.hZ (wd_59 hw))) (wd_59 hw) (wd_58 hw) (wd_11 hw) (wd_60 hw) (by decide) Ef1 (argsL := []) (S := [(.ref en)]) (m_g_command hw Fc1 rfl) pd_42 rfl rfl rfl (by decide) (leR rfl) (by decide) (by decide) (fun T h2 v2 L2 X q2 => ?_)
  obtain ⟨rfl, rfl⟩ := q2
  show Wp _ _ _ _ (T.setTop (mkF _ _ _ [(.ref nm1), (.ref en)]))
  have f1 := (Te.keep Kc1 (List.not_mem_nil) (List.not_mem_nil))
  have f2 := (Te.1.keep Kc1)
  refine w_callV X d_479 (wd_71 hw) (wd_72 hw) (notFace_of_selects (args := #[]) (mvT X.hZ (wd_74 hw))) (wd_74 hw) (wd_73 hw) (wd_3 hw) (wd_75 hw) (by decide) f2 (argsL := [(.ref nm1)]) (S := []) (m_eq_0 hw hS f1 Tn1) pd_43 rfl rfl rfl (by decide) (leR rfl) (by decide) (by decide) (fun T h3 v3 L3 X q3 => ?_)
  obtain ⟨rfl, rfl⟩ := q3
  show Wp _ _ _ _ (T.setTop (mkF _ _ _ [(.int (1 : Int32))]))
  refine w_istore X #[.val (.int cmd), .val (.int sel), .val (.int ec), .val (.int ou), .val (.int mo), .val (.int c0), .val (.int c1), .val (.int c2), .val (.int ck), .val (.ref cc), .val (.ref en), .val (.int ok), .val (.int wh), .val (.ref b), .val (.ref q), .val (.ref fx1), .val (.int (1 : Int32))] d_482 rfl ?_
  refine w_iload X d_484 rfl ?_
  refine w_ifeq X d_486 (fun hc => absurd hc (by decide)) (fun _ => ?_)
  refine w_aload X d_489 rfl (rfl) ?_
  refine w_callV X d_491 (wd_61 hw) (wd_62 hw) (notFace_of_selects (args := #[]) (mvT X.hZ (wd_64 hw))) (wd_64 hw) (wd_63 hw) (wd_11 hw) (wd_65 hw) (by decide) Ef1 (argsL := []) (S := []) (m_g_exitCode hw Fe1) pd_23 rfl rfl rfl (by decide) (leR rfl) (by decide) (by decide) (fun T h4 v4 L4 X q4 => ?_)
  obtain ⟨rfl, rfl⟩ := q4
  show Wp _ _ _ _ (T.setTop (mkF _ _ _ [(.int ec)]))
  refine w_iloadN X d_494 rfl ?_
  refine w_icmpne X d_495 (fun hc => absurd rfl hc) (fun _ => ?_)
  refine w_aload X d_498 rfl (rfl) ?_
  refine w_aload X d_500 rfl (rfl) ?_
  refine w_callV X d_502 (wd_66 hw) (wd_67 hw) (notFace_of_selects (args := #[]) (mvT X.hZ (wd_69 hw))) (wd_69 hw) (wd_68 hw) (wd_11 hw) (wd_70 hw) (by decide) Ef1 (argsL := []) (S := [(.ref q)]) (m_g_output hw Fo1 rfl) pd_42 rfl rfl rfl (by decide) (leR rfl) (by decide) (by decide) (fun T h5 v5 L5 X q5 => ?_)
  obtain ⟨rfl, rfl⟩ := q5
  show Wp _ _ _ _ (T.setTop (mkF _ _ _ [(.ref o1), (.ref q)]))
  have f3 := (Tq.keep Kc1 (List.not_mem_nil) (List.not_mem_nil))
  have f4 := (Tq.1.keep Kc1)
  refine w_callV X d_505 (wd_71 hw) (wd_72 hw) (notFace_of_selects (args := #[]) (mvT X.hZ (wd_74 hw))) (wd_74 hw) (wd_73 hw) (wd_3 hw) (wd_75 hw) (by decide) f4 (argsL := [(.ref o1)]) (S := []) (m_eq_1 hw hS f3 To1) pd_43 rfl rfl rfl (by decide) (leR rfl) (by decide) (by decide) (fun T h6 v6 L6 X q6 => ?_)
  obtain ⟨rfl, rfl⟩ := q6
  show Wp _ _ _ _ (T.setTop (mkF _ _ _ [(.int (1 : Int32))]))
  refine w_ifeq X d_508 (fun hc => absurd hc (by decide)) (fun _ => ?_)
  refine w_iconst X (1 : Int32) d_511 rfl ?_
  refine w_goto X d_512 ?_
  exact v_ret_boolean X Y (1 : Int32) (by decide) d_516 rfl (by decide) (by decide)
theorem m_lawD_3_2 (hw : own_hw a0 Z) {zc : Int32} {fm : Value} {u8 : Addr} (hU : own_U Z zc fm) (hC : own_C Z u8) (hheld : ∀ p ∈ consts_1, Jvm.Lit.constHeld Z p.1 p.2) (hcw : Jvm.Lit.compactW.before a0 Z = true) {h0 : Heap} {cmd sel ec ou mo c0 c1 c2 ck : Int32} {ok wh ka i15 : Int32} {x0 x1 x2 y0 y1 : Int32} {b q tq cc tc en te : Addr} {bs : List Value} (Tc : Lat Z h0 cc tc (0 : Int32) [(.int x0), (.int x1), (.int x2)]) (Te : Lat Z h0 en te (0 : Int32) []) (e2 : x2 = (47 : Int32))
    {p : Program} {e : Env} {s : State} {m : MethodId} {args : Array Value} {below : List Frame} {meth : Method} {c : Code} {T : State} {u : Vm} {kk : Nat} {locs : List Loc} (X : Sd Z n0 kk code 17 "com/example/reasoned_retry/reasonedretry/FailureOfPinLaw" "law" (some .boolean) h0 p l e room_1 (s.setVm u) m args below meth c T locs 10 30) (Y : s.Since u kk) (M : Eh Z h0 u) (Ab : Ary Z h0 b .byte bs) (Eb : Exa Z h0 b "[B") (Tq : Lat Z h0 q tq ka [(.int y0), (.int y1)]) (D : own_D l Z n0 b u8 bs ka [(.int y0), (.int y1)]) :
    Wp p e below (PoW Z n0 s (fun v _ => v = some (.int 1)) room_1.cells room_1.slots) (T.setTop (mkF m 441 #[.val (.int cmd), .val (.int sel), .val (.int ec), .val (.int ou), .val (.int mo), .val (.int c0), .val (.int c1), .val (.int c2), .val (.int ck), .val (.ref cc), .val (.ref en), .val (.int ok), .val (.int wh), .val (.ref b), .val (.ref q), .val (.int i15), .unset] [])) := by
  obtain ⟨hS, S_ad, S_hi, S_lo⟩ := id hU
  obtain ⟨S_zc, hzc, S_fm, hfm⟩ := id hS
  refine w_aload X d_441 rfl (rfl) ?_
  refine w_iloadN X d_443 rfl ?_
  refine w_aload X d_444 rfl (rfl) ?_
  refine g_callS X Y (fun vm' hW => M.warm hW) d_446 (wd_9 hw) (wd_10 hw) (wd_11 hw) (wd_12 hw) (by decide) (argsL := [(.ref cc), (.int ec), (.ref b)]) (S := []) (m_of_3 hw hS hC hheld hcw Tc e2 Ab Eb D) pd_41 rfl rfl rfl (by decide) (leR rfl) (by decide) (by decide) (fun T h1 v1 L1 u kk X Y q1 => ?_)
  obtain ⟨fx1, o1, t1, nm1, tn1, rfl, Ef1, Fc1, Fe1, Fo1, To1, Tn1, Kc1⟩ := q1
  show Wp _ _ _ _ (T.setTop (mkF _ _ _ [(.ref fx1)]))
  refine w_astore X #[.val (.int cmd), .val (.int sel), .val (.int ec), .val (.int ou), .val (.int mo), .val (.int c0), .val (.int c1), .val (.int c2), .val (.int ck), .val (.ref cc), .val (.ref en), .val (.int ok), .val (.int wh), .val (.ref b), .val (.ref q), .val (.ref fx1), .unset] d_449 (rfl) rfl ?_
  refine w_aload X d_451 rfl (rfl) ?_
  refine w_ifnonnullT X d_453 ?_
  refine w_aload X d_472 rfl (rfl) ?_
  refine w_aload X d_474 rfl (rfl) ?_
  refine w_callV X d_476 (wd_56 hw) (wd_57 hw) (notFace_of_selects (args := #[]) (mvT X.hZ (wd_59 hw))) (wd_59 hw) (wd_58 hw) (wd_11 hw) (wd_60 hw) (by decide) Ef1 (argsL := []) (S := [(.ref en)]) (m_g_command hw Fc1 rfl) pd_42 rfl rfl rfl (by decide) (leR rfl) (by decide) (by decide) (fun T h2 v2 L2 X q2 => ?_)
  obtain ⟨rfl, rfl⟩ := q2
  show Wp _ _ _ _ (T.setTop (mkF _ _ _ [(.ref nm1), (.ref en)]))
  have f1 := (Te.keep Kc1 (List.not_mem_nil) (List.not_mem_nil))
  have f2 := (Te.1.keep Kc1)
  refine w_callV X d_479 (wd_71 hw) (wd_72 hw) (notFace_of_selects (args := #[]) (mvT X.hZ (wd_74 hw))) (wd_74 hw) (wd_73 hw) (wd_3 hw) (wd_75 hw) (by decide) f2 (argsL := [(.ref nm1)]) (S := []) (m_eq_0 hw hS f1 Tn1) pd_43 rfl rfl rfl (by decide) (leR rfl) (by decide) (by decide) (fun T h3 v3 L3 X q3 => ?_)
  obtain ⟨rfl, rfl⟩ := q3
  show Wp _ _ _ _ (T.setTop (mkF _ _ _ [(.int (1 : Int32))]))
  refine w_istore X #[.val (.int cmd), .val (.int sel), .val (.int ec), .val (.int ou), .val (.int mo), .val (.int c0), .val (.int c1), .val (.int c2), .val (.int ck), .val (.ref cc), .val (.ref en), .val (.int ok), .val (.int wh), .val (.ref b), .val (.ref q), .val (.ref fx1), .val (.int (1 : Int32))] d_482 rfl ?_
  refine w_iload X d_484 rfl ?_
  refine w_ifeq X d_486 (fun hc => absurd hc (by decide)) (fun _ => ?_)
  refine w_aload X d_489 rfl (rfl) ?_
  refine w_callV X d_491 (wd_61 hw) (wd_62 hw) (notFace_of_selects (args := #[]) (mvT X.hZ (wd_64 hw))) (wd_64 hw) (wd_63 hw) (wd_11 hw) (wd_65 hw) (by decide) Ef1 (argsL := []) (S := []) (m_g_exitCode hw Fe1) pd_23 rfl rfl rfl (by decide) (leR rfl) (by decide) (by decide) (fun T h4 v4 L4 X q4 => ?_)
  obtain ⟨rfl, rfl⟩ := q4
  show Wp _ _ _ _ (T.setTop (mkF _ _ _ [(.int ec)]))
  refine w_iloadN X d_494 rfl ?_
  refine w_icmpne X d_495 (fun hc => absurd rfl hc) (fun _ => ?_)
  refine w_aload X d_498 rfl (rfl) ?_
  refine w_aload X d_500 rfl (rfl) ?_
  refine w_callV X d_502 (wd_66 hw) (wd_67 hw) (notFace_of_selects (args := #[]) (mvT X.hZ (wd_69 hw))) (wd_69 hw) (wd_68 hw) (wd_11 hw) (wd_70 hw) (by decide) Ef1 (argsL := []) (S := [(.ref q)]) (m_g_output hw Fo1 rfl) pd_42 rfl rfl rfl (by decide) (leR rfl) (by decide) (by decide) (fun T h5 v5 L5 X q5 => ?_)
  obtain ⟨rfl, rfl⟩ := q5
  show Wp _ _ _ _ (T.setTop (mkF _ _ _ [(.ref o1), (.ref q)]))
  have f3 := (Tq.keep Kc1 (List.not_mem_nil) (List.not_mem_nil))
  have f4 := (Tq.1.keep Kc1)
  refine w_callV X d_505 (wd_71 hw) (wd_72 hw) (notFace_of_selects (args := #[]) (mvT X.hZ (wd_74 hw))) (wd_74 hw) (wd_73 hw) (wd_3 hw) (wd_75 hw) (by decide) f4 (argsL := [(.ref o1)]) (S := []) (m_eq_2 hw hS f3 To1) pd_43 rfl rfl rfl (by decide) (leR rfl) (by decide) (by decide) (fun T h6 v6 L6 X q6 => ?_)
  obtain ⟨rfl, rfl⟩ := q6
  show Wp _ _ _ _ (T.setTop (mkF _ _ _ [(.int (1 : Int32))]))
  refine w_ifeq X d_508 (fun hc => absurd hc (by decide)) (fun _ => ?_)
  refine w_iconst X (1 : Int32) d_511 rfl ?_
  refine w_goto X d_512 ?_
  exact v_ret_boolean X Y (1 : Int32) (by decide) d_516 rfl (by decide) (by decide)
theorem m_lawD_3_3 (hw : own_hw a0 Z) {zc : Int32} {fm : Value} {u8 : Addr} (hU : own_U Z zc fm) (hC : own_C Z u8) (hheld : ∀ p ∈ consts_1, Jvm.Lit.constHeld Z p.1 p.2) (hcw : Jvm.Lit.compactW.before a0 Z = true) {h0 : Heap} {cmd sel ec ou mo c0 c1 c2 ck : Int32} {ok wh ka i15 i16 : Int32} {x0 x1 x2 y0 y1 : Int32} {b q tq cc tc en te : Addr} {bs : List Value} (Tc : Lat Z h0 cc tc (0 : Int32) [(.int x0), (.int x1), (.int x2)]) (Te : Lat Z h0 en te (0 : Int32) []) (e2 : x2 = (47 : Int32))
    {p : Program} {e : Env} {s : State} {m : MethodId} {args : Array Value} {below : List Frame} {meth : Method} {c : Code} {T : State} {u : Vm} {kk : Nat} {locs : List Loc} (X : Sd Z n0 kk code 17 "com/example/reasoned_retry/reasonedretry/FailureOfPinLaw" "law" (some .boolean) h0 p l e room_1 (s.setVm u) m args below meth c T locs 10 30) (Y : s.Since u kk) (M : Eh Z h0 u) (Ab : Ary Z h0 b .byte bs) (Eb : Exa Z h0 b "[B") (Tq : Lat Z h0 q tq ka [(.int y0), (.int y1)]) (D : own_D l Z n0 b u8 bs ka [(.int y0), (.int y1)]) :
    Wp p e below (PoW Z n0 s (fun v _ => v = some (.int 1)) room_1.cells room_1.slots) (T.setTop (mkF m 441 #[.val (.int cmd), .val (.int sel), .val (.int ec), .val (.int ou), .val (.int mo), .val (.int c0), .val (.int c1), .val (.int c2), .val (.int ck), .val (.ref cc), .val (.ref en), .val (.int ok), .val (.int wh), .val (.ref b), .val (.ref q), .val (.int i15), .val (.int i16)] [])) := by
  obtain ⟨hS, S_ad, S_hi, S_lo⟩ := id hU
  obtain ⟨S_zc, hzc, S_fm, hfm⟩ := id hS
  refine w_aload X d_441 rfl (rfl) ?_
  refine w_iloadN X d_443 rfl ?_
  refine w_aload X d_444 rfl (rfl) ?_
  refine g_callS X Y (fun vm' hW => M.warm hW) d_446 (wd_9 hw) (wd_10 hw) (wd_11 hw) (wd_12 hw) (by decide) (argsL := [(.ref cc), (.int ec), (.ref b)]) (S := []) (m_of_3 hw hS hC hheld hcw Tc e2 Ab Eb D) pd_41 rfl rfl rfl (by decide) (leR rfl) (by decide) (by decide) (fun T h1 v1 L1 u kk X Y q1 => ?_)
  obtain ⟨fx1, o1, t1, nm1, tn1, rfl, Ef1, Fc1, Fe1, Fo1, To1, Tn1, Kc1⟩ := q1
  show Wp _ _ _ _ (T.setTop (mkF _ _ _ [(.ref fx1)]))
  refine w_astore X #[.val (.int cmd), .val (.int sel), .val (.int ec), .val (.int ou), .val (.int mo), .val (.int c0), .val (.int c1), .val (.int c2), .val (.int ck), .val (.ref cc), .val (.ref en), .val (.int ok), .val (.int wh), .val (.ref b), .val (.ref q), .val (.ref fx1), .val (.int i16)] d_449 (rfl) rfl ?_
  refine w_aload X d_451 rfl (rfl) ?_
  refine w_ifnonnullT X d_453 ?_
  refine w_aload X d_472 rfl (rfl) ?_
  refine w_aload X d_474 rfl (rfl) ?_
  refine w_callV X d_476 (wd_56 hw) (wd_57 hw) (notFace_of_selects (args := #[]) (mvT X.hZ (wd_59 hw))) (wd_59 hw) (wd_58 hw) (wd_11 hw) (wd_60 hw) (by decide) Ef1 (argsL := []) (S := [(.ref en)]) (m_g_command hw Fc1 rfl) pd_42 rfl rfl rfl (by decide) (leR rfl) (by decide) (by decide) (fun T h2 v2 L2 X q2 => ?_)
  obtain ⟨rfl, rfl⟩ := q2
  show Wp _ _ _ _ (T.setTop (mkF _ _ _ [(.ref nm1), (.ref en)]))
  have f1 := (Te.keep Kc1 (List.not_mem_nil) (List.not_mem_nil))
  have f2 := (Te.1.keep Kc1)
  refine w_callV X d_479 (wd_71 hw) (wd_72 hw) (notFace_of_selects (args := #[]) (mvT X.hZ (wd_74 hw))) (wd_74 hw) (wd_73 hw) (wd_3 hw) (wd_75 hw) (by decide) f2 (argsL := [(.ref nm1)]) (S := []) (m_eq_0 hw hS f1 Tn1) pd_43 rfl rfl rfl (by decide) (leR rfl) (by decide) (by decide) (fun T h3 v3 L3 X q3 => ?_)
  obtain ⟨rfl, rfl⟩ := q3
  show Wp _ _ _ _ (T.setTop (mkF _ _ _ [(.int (1 : Int32))]))
  refine w_istore X #[.val (.int cmd), .val (.int sel), .val (.int ec), .val (.int ou), .val (.int mo), .val (.int c0), .val (.int c1), .val (.int c2), .val (.int ck), .val (.ref cc), .val (.ref en), .val (.int ok), .val (.int wh), .val (.ref b), .val (.ref q), .val (.ref fx1), .val (.int (1 : Int32))] d_482 rfl ?_
  refine w_iload X d_484 rfl ?_
  refine w_ifeq X d_486 (fun hc => absurd hc (by decide)) (fun _ => ?_)
  refine w_aload X d_489 rfl (rfl) ?_
  refine w_callV X d_491 (wd_61 hw) (wd_62 hw) (notFace_of_selects (args := #[]) (mvT X.hZ (wd_64 hw))) (wd_64 hw) (wd_63 hw) (wd_11 hw) (wd_65 hw) (by decide) Ef1 (argsL := []) (S := []) (m_g_exitCode hw Fe1) pd_23 rfl rfl rfl (by decide) (leR rfl) (by decide) (by decide) (fun T h4 v4 L4 X q4 => ?_)
  obtain ⟨rfl, rfl⟩ := q4
  show Wp _ _ _ _ (T.setTop (mkF _ _ _ [(.int ec)]))
  refine w_iloadN X d_494 rfl ?_
  refine w_icmpne X d_495 (fun hc => absurd rfl hc) (fun _ => ?_)
  refine w_aload X d_498 rfl (rfl) ?_
  refine w_aload X d_500 rfl (rfl) ?_
  refine w_callV X d_502 (wd_66 hw) (wd_67 hw) (notFace_of_selects (args := #[]) (mvT X.hZ (wd_69 hw))) (wd_69 hw) (wd_68 hw) (wd_11 hw) (wd_70 hw) (by decide) Ef1 (argsL := []) (S := [(.ref q)]) (m_g_output hw Fo1 rfl) pd_42 rfl rfl rfl (by decide) (leR rfl) (by decide) (by decide) (fun T h5 v5 L5 X q5 => ?_)
  obtain ⟨rfl, rfl⟩ := q5
  show Wp _ _ _ _ (T.setTop (mkF _ _ _ [(.ref o1), (.ref q)]))
  have f3 := (Tq.keep Kc1 (List.not_mem_nil) (List.not_mem_nil))
  have f4 := (Tq.1.keep Kc1)
  refine w_callV X d_505 (wd_71 hw) (wd_72 hw) (notFace_of_selects (args := #[]) (mvT X.hZ (wd_74 hw))) (wd_74 hw) (wd_73 hw) (wd_3 hw) (wd_75 hw) (by decide) f4 (argsL := [(.ref o1)]) (S := []) (m_eq_2 hw hS f3 To1) pd_43 rfl rfl rfl (by decide) (leR rfl) (by decide) (by decide) (fun T h6 v6 L6 X q6 => ?_)
  obtain ⟨rfl, rfl⟩ := q6
  show Wp _ _ _ _ (T.setTop (mkF _ _ _ [(.int (1 : Int32))]))
  refine w_ifeq X d_508 (fun hc => absurd hc (by decide)) (fun _ => ?_)
  refine w_iconst X (1 : Int32) d_511 rfl ?_
  refine w_goto X d_512 ?_
  exact v_ret_boolean X Y (1 : Int32) (by decide) d_516 rfl (by decide) (by decide)
theorem m_lawC2 (hw : own_hw a0 Z) {zc : Int32} {fm : Value} {u8 : Addr} (hU : own_U Z zc fm) (hC : own_C Z u8) (hheld : ∀ p ∈ consts_1, Jvm.Lit.constHeld Z p.1 p.2) (hcw : Jvm.Lit.compactW.before a0 Z = true) {h0 : Heap} {cmd sel ec ou mo c0 c1 c2 ck : Int32} {ok wh cp : Int32} (lo : 128 ≤ cp.toInt) (hi : cp.toInt ≤ 2047) {cv ev : Value} (hcv : cv.isRef = true) (hev : ev.isRef = true)
    {p : Program} {e : Env} {s : State} {m : MethodId} {args : Array Value} {below : List Frame} {meth : Method} {c : Code} {T : State} {u : Vm} {kk : Nat} {locs : List Loc} (X : Sd Z n0 kk code 17 "com/example/reasoned_retry/reasonedretry/FailureOfPinLaw" "law" (some .boolean) h0 p l e room_1 (s.setVm u) m args below meth c T locs 6 20) (Y : s.Since u kk) (M : Eh Z h0 u) (Cn1 : ∀ {T : State} {h : Heap} {u : Vm} {kk : Nat} {locs : List Loc} {b q tq : Addr} {ok wh ka y0 i15 : Int32} {bs : List Value}, Sd Z n0 kk code 17 "com/example/reasoned_retry/reasonedretry/FailureOfPinLaw" "law" (some .boolean) h p l e room_1 (s.setVm u) m args below meth c T locs 10 30 → s.Since u kk → Keep h0 h [] → Eh Z h u → Ary Z h b .byte bs → Exa Z h b "[B" → Lat Z h q tq ka [(.int y0)] → (own_D l Z n0 b u8 bs ka [(.int y0)]) → Wp p e below (PoW Z n0 s (fun v _ => v = some (.int 1)) room_1.cells room_1.slots) (T.setTop (mkF m 441 #[.val (.int cmd), .val (.int sel), .val (.int ec), .val (.int ou), .val (.int mo), .val (.int c0), .val (.int c1), .val (.int c2), .val (.int ck), .val cv, .val ev, .val (.int ok), .val (.int wh), .val (.ref b), .val (.ref q), .val (.int i15), .unset] []))) (Cn2 : ∀ {T : State} {h : Heap} {u : Vm} {kk : Nat} {locs : List Loc} {b q tq : Addr} {ok wh ka y0 y1 i15 : Int32} {bs : List Value}, Sd Z n0 kk code 17 "com/example/reasoned_retry/reasonedretry/FailureOfPinLaw" "law" (some .boolean) h p l e room_1 (s.setVm u) m args below meth c T locs 10 30 → s.Since u kk → Keep h0 h [] → Eh Z h u → Ary Z h b .byte bs → Exa Z h b "[B" → Lat Z h q tq ka [(.int y0), (.int y1)] → (own_D l Z n0 b u8 bs ka [(.int y0), (.int y1)]) → Wp p e below (PoW Z n0 s (fun v _ => v = some (.int 1)) room_1.cells room_1.slots) (T.setTop (mkF m 441 #[.val (.int cmd), .val (.int sel), .val (.int ec), .val (.int ou), .val (.int mo), .val (.int c0), .val (.int c1), .val (.int c2), .val (.int ck), .val cv, .val ev, .val (.int ok), .val (.int wh), .val (.ref b), .val (.ref q), .val (.int i15), .unset] []))) :
    Wp p e below (PoW Z n0 s (fun v _ => v = some (.int 1)) room_1.cells room_1.slots) (T.setTop (mkF m 333 #[.val (.int cmd), .val (.int sel), .val (.int ec), .val (.int ou), .val (.int mo), .val (.int c0), .val (.int c1), .val (.int c2), .val (.int ck), .val cv, .val ev, .val (.int ok), .val (.int wh), .unset, .unset, .val (.int cp), .unset] [])) := by
  obtain ⟨hS, S_ad, S_hi, S_lo⟩ := id hU
  obtain ⟨S_zc, hzc, S_fm, hfm⟩ := id hS
  have ech : (cp.toUInt32.toUInt16.toUInt32.toInt32) = cp := own_ch (by omega) (by omega)
  by_cases hl : (255 : Int32) < cp
  · refine w_iconst X (2 : Int32) d_333 rfl ?_
    refine w_newarrE X d_334 (wd_1 hw) 2 2 "[B" rfl (by decide) (by decide) (by decide) (by decide) (by decide) (by decide) (fun T h1 b1 g1 gn1 X E1 A1 B1 => ?_)
    replace A1 : Ary Z h1 b1 .byte [(.int (0 : Int32)), (.int (0 : Int32))] := A1
    have sz_b1 : h0.size ≤ b1 := Nat.le_trans (Keep.refl h0 []).1 (Nat.le_of_eq g1.symm)
    have K1 : Keep h0 h1 [] := (Keep.refl h0 []).ext E1
    refine w_dup X d_336 rfl ?_
    refine w_iconst X (0 : Int32) d_337 rfl ?_
    refine w_sipush X (192 : Int32) d_338 rfl ?_
    refine w_iload X d_341 rfl ?_
    refine w_bipush X (6 : Int32) d_343 rfl ?_
    refine w_ishr X d_345 ?_
    refine w_ior X d_346 ?_
    refine w_i2b X d_347 ?_
    refine w_bastore X d_348 A1 (by decide) rfl gn1 (.int (((192 : Int32) ||| (cp >>> ((6 : Int32) &&& 31))).toInt8.toInt32)) (congrArg Value.int (own_nar_b _)) [(.int (((192 : Int32) ||| (cp >>> ((6 : Int32) &&& 31))).toInt8.toInt32)), (.int (0 : Int32))] rfl (fun T h2 X W2 A2 => ?_)
    have K2 : Keep h0 h2 [] := K1.wr W2 (Or.inr sz_b1)
    refine w_dup X d_349 rfl ?_
    refine w_iconst X (1 : Int32) d_350 rfl ?_
    refine w_sipush X (128 : Int32) d_351 rfl ?_
    refine w_iload X d_354 rfl ?_
    refine w_bipush X (63 : Int32) d_356 rfl ?_
    refine w_iand X d_358 ?_
    refine w_ior X d_359 ?_
    refine w_i2b X d_360 ?_
    refine w_bastore X d_361 A2 (by decide) rfl gn1 (.int (((128 : Int32) ||| (cp &&& (63 : Int32))).toInt8.toInt32)) (congrArg Value.int (own_nar_b _)) [(.int (((192 : Int32) ||| (cp >>> ((6 : Int32) &&& 31))).toInt8.toInt32)), (.int (((128 : Int32) ||| (cp &&& (63 : Int32))).toInt8.toInt32))] rfl (fun T h3 X W3 A3 => ?_)
    have K3 : Keep h0 h3 [] := K2.wr W3 (Or.inr sz_b1)
    refine w_astore X #[.val (.int cmd), .val (.int sel), .val (.int ec), .val (.int ou), .val (.int mo), .val (.int c0), .val (.int c1), .val (.int c2), .val (.int ck), .val cv, .val ev, .val (.int ok), .val (.int wh), .val (.ref b1), .unset, .val (.int cp), .unset] d_362 (rfl) rfl ?_
    refine w_iload X d_364 rfl ?_
    refine w_i2c X d_366 ?_
    refine w_callS X d_367 (wd_83 hw) (wd_84 hw) (wd_3 hw) (wd_85 hw) (by decide) (argsL := [(.int (cp.toUInt32.toUInt16.toUInt32.toInt32))]) (S := []) (m_vU hw (c0 := (cp.toUInt32.toUInt16.toUInt32.toInt32)) hU (by rw [ech]; exact hl)) pd_40 rfl rfl rfl (by decide) (leR rfl) (by decide) (by decide) (fun T h4 v4 L4 X q4 => ?_)
    obtain ⟨v4, w4, rfl, ga4, gb4, gc4, gd4, Tv4, Kc4⟩ := q4
    have K4 : Keep h0 h4 [] := K3.trans Kc4 (fun x hx => nomatch hx)
    show Wp _ _ _ _ (T.setTop (mkF _ _ _ [(.ref v4)]))
    refine w_astore X #[.val (.int cmd), .val (.int sel), .val (.int ec), .val (.int ou), .val (.int mo), .val (.int c0), .val (.int c1), .val (.int c2), .val (.int ck), .val cv, .val ev, .val (.int ok), .val (.int wh), .val (.ref b1), .val (.ref v4), .val (.int cp), .unset] d_370 (rfl) rfl ?_
    refine w_goto X d_372 ?_
    have Tq := Tv4
    rw [ech] at Tq
    have f5 := (A3.keep Kc4 (List.not_mem_nil))
    have f6 := (((B1.wr W2).wr W3).keep Kc4)
    exact Cn2 ⟨X.1.more (by decide) (by decide), X.2⟩ Y K4 (M.keep K4) f5 f6 Tq (fun {g a} ga Ea Va Ca Ab Eb => m_sbc_u hw hU hC hheld hcw ga Ea Va Ca Ab Eb (own_n2u hi hl) (own_n2 lo hi).1 (own_n2 lo hi).2.1 (own_n2 lo hi).2.2.1 (own_n2 lo hi).2.2.2.1 (own_n2 lo hi).2.2.2.2.1)
  · refine w_iconst X (2 : Int32) d_333 rfl ?_
    refine w_newarrE X d_334 (wd_1 hw) 2 2 "[B" rfl (by decide) (by decide) (by decide) (by decide) (by decide) (by decide) (fun T h5 b5 g5 gn5 X E5 A5 B5 => ?_)
    replace A5 : Ary Z h5 b5 .byte [(.int (0 : Int32)), (.int (0 : Int32))] := A5
    have sz_b5 : h0.size ≤ b5 := Nat.le_trans (Keep.refl h0 []).1 (Nat.le_of_eq g5.symm)
    have K7 : Keep h0 h5 [] := (Keep.refl h0 []).ext E5
    refine w_dup X d_336 rfl ?_
    refine w_iconst X (0 : Int32) d_337 rfl ?_
    refine w_sipush X (192 : Int32) d_338 rfl ?_
    refine w_iload X d_341 rfl ?_
    refine w_bipush X (6 : Int32) d_343 rfl ?_
    refine w_ishr X d_345 ?_
    refine w_ior X d_346 ?_
    refine w_i2b X d_347 ?_
    refine w_bastore X d_348 A5 (by decide) rfl gn5 (.int (((192 : Int32) ||| (cp >>> ((6 : Int32) &&& 31))).toInt8.toInt32)) (congrArg Value.int (own_nar_b _)) [(.int (((192 : Int32) ||| (cp >>> ((6 : Int32) &&& 31))).toInt8.toInt32)), (.int (0 : Int32))] rfl (fun T h6 X W6 A6 => ?_)
    have K8 : Keep h0 h6 [] := K7.wr W6 (Or.inr sz_b5)
    refine w_dup X d_349 rfl ?_
    refine w_iconst X (1 : Int32) d_350 rfl ?_
    refine w_sipush X (128 : Int32) d_351 rfl ?_
    refine w_iload X d_354 rfl ?_
    refine w_bipush X (63 : Int32) d_356 rfl ?_
    refine w_iand X d_358 ?_
    refine w_ior X d_359 ?_
    refine w_i2b X d_360 ?_
    refine w_bastore X d_361 A6 (by decide) rfl gn5 (.int (((128 : Int32) ||| (cp &&& (63 : Int32))).toInt8.toInt32)) (congrArg Value.int (own_nar_b _)) [(.int (((192 : Int32) ||| (cp >>> ((6 : Int32) &&& 31))).toInt8.toInt32)), (.int (((128 : Int32) ||| (cp &&& (63 : Int32))).toInt8.toInt32))] rfl (fun T h7 X W7 A7 => ?_)
    have K9 : Keep h0 h7 [] := K8.wr W7 (Or.inr sz_b5)
    refine w_astore X #[.val (.int cmd), .val (.int sel), .val (.int ec), .val (.int ou), .val (.int mo), .val (.int c0), .val (.int c1), .val (.int c2), .val (.int ck), .val cv, .val ev, .val (.int ok), .val (.int wh), .val (.ref b5), .unset, .val (.int cp), .unset] d_362 (rfl) rfl ?_
    refine w_iload X d_364 rfl ?_
    refine w_i2c X d_366 ?_
    refine w_callS X d_367 (wd_83 hw) (wd_84 hw) (wd_3 hw) (wd_85 hw) (by decide) (argsL := [(.int (cp.toUInt32.toUInt16.toUInt32.toInt32))]) (S := []) (m_vof hw (c0 := (cp.toUInt32.toUInt16.toUInt32.toInt32)) hS (by rw [ech]; exact hl)) pd_40 rfl rfl rfl (by decide) (leR rfl) (by decide) (by decide) (fun T h8 v8 L8 X q8 => ?_)
    obtain ⟨a8, t8, rfl, gta8, gna8, gt8, gn8, Ex8, Cx8, Vx8, At8, Kc8⟩ := q8
    have K10 : Keep h0 h8 [] := K9.trans Kc8 (fun x hx => nomatch hx)
    have sz_t8 : h0.size ≤ t8 := Nat.le_trans K9.1 gt8
    have sz_a8 : h0.size ≤ a8 := Nat.le_trans K9.1 gta8
    show Wp _ _ _ _ (T.setTop (mkF _ _ _ [(.ref a8)]))
    refine w_astore X #[.val (.int cmd), .val (.int sel), .val (.int ec), .val (.int ou), .val (.int mo), .val (.int c0), .val (.int c1), .val (.int c2), .val (.int ck), .val cv, .val ev, .val (.int ok), .val (.int wh), .val (.ref b5), .val (.ref a8), .val (.int cp), .unset] d_370 (rfl) rfl ?_
    refine w_goto X d_372 ?_
    have Tq : Lat Z h8 a8 t8 (0 : Int32) [(.int ((cp.toUInt32.toUInt16.toUInt32.toInt32).toInt8.toInt32))] := ⟨Ex8, Cx8, Vx8, At8⟩
    rw [ech] at Tq
    have f11 := (A7.keep Kc8 (List.not_mem_nil))
    have f12 := (((B5.wr W6).wr W7).keep Kc8)
    exact Cn1 ⟨X.1.more (by decide) (by decide), X.2⟩ Y K10 (M.keep K10) f11 f12 Tq (fun {g a} ga Ea Va Ca Ab Eb => m_sbc_l hw hU hC hheld hcw ga Ea Va Ca Ab Eb (own_n2 lo hi).1 (own_n2l lo hl) (own_n2 lo hi).2.2.2.2.2 (own_n2 lo hi).2.2.2.2.1)
theorem m_lawC3 (hw : own_hw a0 Z) {zc : Int32} {fm : Value} {u8 : Addr} (hU : own_U Z zc fm) (hC : own_C Z u8) (hheld : ∀ p ∈ consts_1, Jvm.Lit.constHeld Z p.1 p.2) (hcw : Jvm.Lit.compactW.before a0 Z = true) {h0 : Heap} {cmd sel ec ou mo c0 c1 c2 ck : Int32} {ok wh cp : Int32} (lo : 2048 ≤ cp.toInt) (hi : cp.toInt ≤ 55295) {cv ev : Value} (hcv : cv.isRef = true) (hev : ev.isRef = true)
    {p : Program} {e : Env} {s : State} {m : MethodId} {args : Array Value} {below : List Frame} {meth : Method} {c : Code} {T : State} {u : Vm} {kk : Nat} {locs : List Loc} (X : Sd Z n0 kk code 17 "com/example/reasoned_retry/reasonedretry/FailureOfPinLaw" "law" (some .boolean) h0 p l e room_1 (s.setVm u) m args below meth c T locs 6 20) (Y : s.Since u kk) (M : Eh Z h0 u) (Cn2 : ∀ {T : State} {h : Heap} {u : Vm} {kk : Nat} {locs : List Loc} {b q tq : Addr} {ok wh ka y0 y1 i15 : Int32} {bs : List Value}, Sd Z n0 kk code 17 "com/example/reasoned_retry/reasonedretry/FailureOfPinLaw" "law" (some .boolean) h p l e room_1 (s.setVm u) m args below meth c T locs 10 30 → s.Since u kk → Keep h0 h [] → Eh Z h u → Ary Z h b .byte bs → Exa Z h b "[B" → Lat Z h q tq ka [(.int y0), (.int y1)] → (own_D l Z n0 b u8 bs ka [(.int y0), (.int y1)]) → Wp p e below (PoW Z n0 s (fun v _ => v = some (.int 1)) room_1.cells room_1.slots) (T.setTop (mkF m 441 #[.val (.int cmd), .val (.int sel), .val (.int ec), .val (.int ou), .val (.int mo), .val (.int c0), .val (.int c1), .val (.int c2), .val (.int ck), .val cv, .val ev, .val (.int ok), .val (.int wh), .val (.ref b), .val (.ref q), .val (.int i15), .unset] []))) :
    Wp p e below (PoW Z n0 s (fun v _ => v = some (.int 1)) room_1.cells room_1.slots) (T.setTop (mkF m 386 #[.val (.int cmd), .val (.int sel), .val (.int ec), .val (.int ou), .val (.int mo), .val (.int c0), .val (.int c1), .val (.int c2), .val (.int ck), .val cv, .val ev, .val (.int ok), .val (.int wh), .unset, .unset, .val (.int cp), .unset] [])) := by
  obtain ⟨hS, S_ad, S_hi, S_lo⟩ := id hU
  obtain ⟨S_zc, hzc, S_fm, hfm⟩ := id hS
  have ech : (cp.toUInt32.toUInt16.toUInt32.toInt32) = cp := own_ch (by omega) (by omega)
  have hl : (255 : Int32) < cp := own_gt255 (by omega)
  refine w_iconst X (3 : Int32) d_386 rfl ?_
  refine w_newarrE X d_387 (wd_1 hw) 3 3 "[B" rfl (by decide) (by decide) (by decide) (by decide) (by decide) (by decide) (fun T h1 b1 g1 gn1 X E1 A1 B1 => ?_)
  replace A1 : Ary Z h1 b1 .byte [(.int (0 : Int32)), (.int (0 : Int32)), (.int (0 : Int32))] := A1
  have sz_b1 : h0.size ≤ b1 := Nat.le_trans (Keep.refl h0 []).1 (Nat.le_of_eq g1.symm)
  have K1 : Keep h0 h1 [] := (Keep.refl h0 []).ext E1
  refine w_dup X d_389 rfl ?_
  refine w_iconst X (0 : Int32) d_390 rfl ?_
  refine w_sipush X (224 : Int32) d_391 rfl ?_
  refine w_iload X d_394 rfl ?_
  refine w_bipush X (12 : Int32) d_396 rfl ?_
  refine w_ishr X d_398 ?_
  refine w_ior X d_399 ?_
  refine w_i2b X d_400 ?_
  refine w_bastore X d_401 A1 (by decide) rfl gn1 (.int (((224 : Int32) ||| (cp >>> ((12 : Int32) &&& 31))).toInt8.toInt32)) (congrArg Value.int (own_nar_b _)) [(.int (((224 : Int32) ||| (cp >>> ((12 : Int32) &&& 31))).toInt8.toInt32)), (.int (0 : Int32)), (.int (0 : Int32))] rfl (fun T h2 X W2 A2 => ?_)
  have K2 : Keep h0 h2 [] := K1.wr W2 (Or.inr sz_b1)
  refine w_dup X d_402 rfl ?_
  refine w_iconst X (1 : Int32) d_403 rfl ?_
  refine w_sipush X (128 : Int32) d_404 rfl ?_
  refine w_iload X d_407 rfl ?_
  refine w_bipush X (6 : Int32) d_409 rfl ?_
  refine w_ishr X d_411 ?_
  refine w_bipush X (63 : Int32) d_412 rfl ?_
  refine w_iand X d_414 ?_
  refine w_ior X d_415 ?_
  refine w_i2b X d_416 ?_
  refine w_bastore X d_417 A2 (by decide) rfl gn1 (.int (((128 : Int32) ||| ((cp >>> ((6 : Int32) &&& 31)) &&& (63 : Int32))).toInt8.toInt32)) (congrArg Value.int (own_nar_b _)) [(.int (((224 : Int32) ||| (cp >>> ((12 : Int32) &&& 31))).toInt8.toInt32)), (.int (((128 : Int32) ||| ((cp >>> ((6 : Int32) &&& 31)) &&& (63 : Int32))).toInt8.toInt32)), (.int (0 : Int32))] rfl (fun T h3 X W3 A3 => ?_)
  have K3 : Keep h0 h3 [] := K2.wr W3 (Or.inr sz_b1)
  refine w_dup X d_418 rfl ?_
  refine w_iconst X (2 : Int32) d_419 rfl ?_
  refine w_sipush X (128 : Int32) d_420 rfl ?_
  refine w_iload X d_423 rfl ?_
  refine w_bipush X (63 : Int32) d_425 rfl ?_
  refine w_iand X d_427 ?_
  refine w_ior X d_428 ?_
  refine w_i2b X d_429 ?_
  refine w_bastore X d_430 A3 (by decide) rfl gn1 (.int (((128 : Int32) ||| (cp &&& (63 : Int32))).toInt8.toInt32)) (congrArg Value.int (own_nar_b _)) [(.int (((224 : Int32) ||| (cp >>> ((12 : Int32) &&& 31))).toInt8.toInt32)), (.int (((128 : Int32) ||| ((cp >>> ((6 : Int32) &&& 31)) &&& (63 : Int32))).toInt8.toInt32)), (.int (((128 : Int32) ||| (cp &&& (63 : Int32))).toInt8.toInt32))] rfl (fun T h4 X W4 A4 => ?_)
  have K4 : Keep h0 h4 [] := K3.wr W4 (Or.inr sz_b1)
  refine w_astore X #[.val (.int cmd), .val (.int sel), .val (.int ec), .val (.int ou), .val (.int mo), .val (.int c0), .val (.int c1), .val (.int c2), .val (.int ck), .val cv, .val ev, .val (.int ok), .val (.int wh), .val (.ref b1), .unset, .val (.int cp), .unset] d_431 (rfl) rfl ?_
  refine w_iload X d_433 rfl ?_
  refine w_i2c X d_435 ?_
  refine w_callS X d_436 (wd_83 hw) (wd_84 hw) (wd_3 hw) (wd_85 hw) (by decide) (argsL := [(.int (cp.toUInt32.toUInt16.toUInt32.toInt32))]) (S := []) (m_vU hw (c0 := (cp.toUInt32.toUInt16.toUInt32.toInt32)) hU (by rw [ech]; exact hl)) pd_40 rfl rfl rfl (by decide) (leR rfl) (by decide) (by decide) (fun T h5 v5 L5 X q5 => ?_)
  obtain ⟨v5, w5, rfl, ga5, gb5, gc5, gd5, Tv5, Kc5⟩ := q5
  have K5 : Keep h0 h5 [] := K4.trans Kc5 (fun x hx => nomatch hx)
  show Wp _ _ _ _ (T.setTop (mkF _ _ _ [(.ref v5)]))
  refine w_astore X #[.val (.int cmd), .val (.int sel), .val (.int ec), .val (.int ou), .val (.int mo), .val (.int c0), .val (.int c1), .val (.int c2), .val (.int ck), .val cv, .val ev, .val (.int ok), .val (.int wh), .val (.ref b1), .val (.ref v5), .val (.int cp), .unset] d_439 (rfl) rfl ?_
  have Tq := Tv5
  rw [ech] at Tq
  have f6 := (A4.keep Kc5 (List.not_mem_nil))
  have f7 := ((((B1.wr W2).wr W3).wr W4).keep Kc5)
  exact Cn2 ⟨X.1.more (by decide) (by decide), X.2⟩ Y K5 (M.keep K5) f6 f7 Tq (fun {g a} ga Ea Va Ca Ab Eb => m_sbc_3 hw hU hC hheld hcw ga Ea Va Ca Ab Eb (own_n3 lo hi).1 (own_n3 lo hi).2.1 (own_n3 lo hi).2.2.1 (own_n3 lo hi).2.2.2.1 (own_n3 lo hi).2.2.2.2.1 (own_n3 lo hi).2.2.2.2.2.1 (own_n3 lo hi).2.2.2.2.2.2.1 (own_n3 lo hi).2.2.2.2.2.2.2 (own_lt55 hi))
theorem m_lawC (hw : own_hw a0 Z) {zc : Int32} {fm : Value} {u8 : Addr} (hU : own_U Z zc fm) (hC : own_C Z u8) (hheld : ∀ p ∈ consts_1, Jvm.Lit.constHeld Z p.1 p.2) (hcw : Jvm.Lit.compactW.before a0 Z = true) {h0 : Heap} {cmd sel ec ou mo c0 c1 c2 ck : Int32} {cv ev : Value} (hcv : cv.isRef = true) (hev : ev.isRef = true)
    {p : Program} {e : Env} {s : State} {m : MethodId} {args : Array Value} {below : List Frame} {meth : Method} {c : Code} {T : State} {u : Vm} {kk : Nat} {locs : List Loc} (X : Sd Z n0 kk code 17 "com/example/reasoned_retry/reasonedretry/FailureOfPinLaw" "law" (some .boolean) h0 p l e room_1 (s.setVm u) m args below meth c T locs 6 20) (Y : s.Since u kk) (hs0 : s.heap.size = n0) (hkp : ∀ (b : Addr) (cl : Cell), Z.heap[b]? = some cl → s.heap[b]? = some cl) (M : Eh Z h0 u) (hL : IB Z u [] ∨ ∃ a7 b7, Lit (s.setVm u) "com/example/reasoned_retry/reasonedretry/FailureOfPinLaw" 7 a7 ∧ Lat Z h0 a7 b7 (0 : Int32) []) (Cn0 : ∀ {T : State} {h : Heap} {u : Vm} {kk : Nat} {locs : List Loc} {b q tq : Addr} {ok wh ka : Int32} {bs : List Value}, Sd Z n0 kk code 17 "com/example/reasoned_retry/reasonedretry/FailureOfPinLaw" "law" (some .boolean) h p l e room_1 (s.setVm u) m args below meth c T locs 10 30 → s.Since u kk → Keep h0 h [] → Eh Z h u → Ary Z h b .byte bs → Exa Z h b "[B" → Lat Z h q tq ka [] → (own_D l Z n0 b u8 bs ka []) → Wp p e below (PoW Z n0 s (fun v _ => v = some (.int 1)) room_1.cells room_1.slots) (T.setTop (mkF m 441 #[.val (.int cmd), .val (.int sel), .val (.int ec), .val (.int ou), .val (.int mo), .val (.int c0), .val (.int c1), .val (.int c2), .val (.int ck), .val cv, .val ev, .val (.int ok), .val (.int wh), .val (.ref b), .val (.ref q), .unset, .unset] []))) (Cn1 : ∀ {T : State} {h : Heap} {u : Vm} {kk : Nat} {locs : List Loc} {b q tq : Addr} {ok wh ka y0 i15 : Int32} {bs : List Value}, Sd Z n0 kk code 17 "com/example/reasoned_retry/reasonedretry/FailureOfPinLaw" "law" (some .boolean) h p l e room_1 (s.setVm u) m args below meth c T locs 10 30 → s.Since u kk → Keep h0 h [] → Eh Z h u → Ary Z h b .byte bs → Exa Z h b "[B" → Lat Z h q tq ka [(.int y0)] → (own_D l Z n0 b u8 bs ka [(.int y0)]) → Wp p e below (PoW Z n0 s (fun v _ => v = some (.int 1)) room_1.cells room_1.slots) (T.setTop (mkF m 441 #[.val (.int cmd), .val (.int sel), .val (.int ec), .val (.int ou), .val (.int mo), .val (.int c0), .val (.int c1), .val (.int c2), .val (.int ck), .val cv, .val ev, .val (.int ok), .val (.int wh), .val (.ref b), .val (.ref q), .val (.int i15), .unset] []))) (Cn2 : ∀ {T : State} {h : Heap} {u : Vm} {kk : Nat} {locs : List Loc} {b q tq : Addr} {ok wh ka y0 y1 i15 : Int32} {bs : List Value}, Sd Z n0 kk code 17 "com/example/reasoned_retry/reasonedretry/FailureOfPinLaw" "law" (some .boolean) h p l e room_1 (s.setVm u) m args below meth c T locs 10 30 → s.Since u kk → Keep h0 h [] → Eh Z h u → Ary Z h b .byte bs → Exa Z h b "[B" → Lat Z h q tq ka [(.int y0), (.int y1)] → (own_D l Z n0 b u8 bs ka [(.int y0), (.int y1)]) → Wp p e below (PoW Z n0 s (fun v _ => v = some (.int 1)) room_1.cells room_1.slots) (T.setTop (mkF m 441 #[.val (.int cmd), .val (.int sel), .val (.int ec), .val (.int ou), .val (.int mo), .val (.int c0), .val (.int c1), .val (.int c2), .val (.int ck), .val cv, .val ev, .val (.int ok), .val (.int wh), .val (.ref b), .val (.ref q), .val (.int i15), .unset] []))) (Cn3 : ∀ {T : State} {h : Heap} {u : Vm} {kk : Nat} {locs : List Loc} {b q tq : Addr} {ok wh ka y0 y1 i15 i16 : Int32} {bs : List Value}, Sd Z n0 kk code 17 "com/example/reasoned_retry/reasonedretry/FailureOfPinLaw" "law" (some .boolean) h p l e room_1 (s.setVm u) m args below meth c T locs 10 30 → s.Since u kk → Keep h0 h [] → Eh Z h u → Ary Z h b .byte bs → Exa Z h b "[B" → Lat Z h q tq ka [(.int y0), (.int y1)] → (own_D l Z n0 b u8 bs ka [(.int y0), (.int y1)]) → Wp p e below (PoW Z n0 s (fun v _ => v = some (.int 1)) room_1.cells room_1.slots) (T.setTop (mkF m 441 #[.val (.int cmd), .val (.int sel), .val (.int ec), .val (.int ou), .val (.int mo), .val (.int c0), .val (.int c1), .val (.int c2), .val (.int ck), .val cv, .val ev, .val (.int ok), .val (.int wh), .val (.ref b), .val (.ref q), .val (.int i15), .val (.int i16)] []))) :
    Wp p e below (PoW Z n0 s (fun v _ => v = some (.int 1)) room_1.cells room_1.slots) (T.setTop (mkF m 218 #[.val (.int cmd), .val (.int sel), .val (.int ec), .val (.int ou), .val (.int mo), .val (.int c0), .val (.int c1), .val (.int c2), .val (.int ck), .val cv, .val ev, .unset, .unset, .unset, .unset, .unset, .unset] [])) := by
  obtain ⟨hS, S_ad, S_hi, S_lo⟩ := id hU
  obtain ⟨S_zc, hzc, S_fm, hfm⟩ := id hS
  refine w_iload X d_218 rfl ?_
  refine w_ldcI X d_220 (wd_0 hw) ?_
  refine w_iand X d_222 ?_
  refine w_iconst X (4 : Int32) d_223 rfl ?_
  refine w_irem X d_224 (by decide) ?_
  refine w_istore X #[.val (.int cmd), .val (.int sel), .val (.int ec), .val (.int ou), .val (.int mo), .val (.int c0), .val (.int c1), .val (.int c2), .val (.int ck), .val cv, .val ev, .val (.int ((mo &&& (2147483647 : Int32)) % (4 : Int32))), .unset, .unset, .unset, .unset, .unset] d_225 rfl ?_
  refine w_iloadN X d_227 rfl ?_
  refine w_ldcI X d_228 (wd_0 hw) ?_
  refine w_iand X d_230 ?_
  refine w_istore X #[.val (.int cmd), .val (.int sel), .val (.int ec), .val (.int ou), .val (.int mo), .val (.int c0), .val (.int c1), .val (.int c2), .val (.int ck), .val cv, .val ev, .val (.int ((mo &&& (2147483647 : Int32)) % (4 : Int32))), .val (.int (ou &&& (2147483647 : Int32))), .unset, .unset, .unset, .unset] d_231 rfl ?_
  refine w_iload X d_233 rfl ?_
  refine w_ifne X d_235 (fun (hc235 : ¬ ((mo &&& (2147483647 : Int32)) % (4 : Int32)) = (0 : Int32)) => ?_) (fun (hc235 : ((mo &&& (2147483647 : Int32)) % (4 : Int32)) = (0 : Int32)) => ?_)
  · refine w_iload X d_250 rfl ?_
    refine w_iconst X (1 : Int32) d_252 rfl ?_
    refine w_icmpne X d_253 (fun (hc253 : ¬ ((mo &&& (2147483647 : Int32)) % (4 : Int32)) = (1 : Int32)) => ?_) (fun (hc253 : ((mo &&& (2147483647 : Int32)) % (4 : Int32)) = (1 : Int32)) => ?_)
    · refine w_iload X d_315 rfl ?_
      refine w_iconst X (2 : Int32) d_317 rfl ?_
      refine w_icmpne X d_318 (fun (hc318 : ¬ ((mo &&& (2147483647 : Int32)) % (4 : Int32)) = (2 : Int32)) => ?_) (fun (hc318 : ((mo &&& (2147483647 : Int32)) % (4 : Int32)) = (2 : Int32)) => ?_)
      · refine w_sipush X (2048 : Int32) d_375 rfl ?_
        refine w_iload X d_378 rfl ?_
        refine w_ldcI X d_380 (wd_82 hw) ?_
        refine w_irem X d_382 (by decide) ?_
        refine w_iadd X d_383 ?_
        refine w_istore X #[.val (.int cmd), .val (.int sel), .val (.int ec), .val (.int ou), .val (.int mo), .val (.int c0), .val (.int c1), .val (.int c2), .val (.int ck), .val cv, .val ev, .val (.int ((mo &&& (2147483647 : Int32)) % (4 : Int32))), .val (.int (ou &&& (2147483647 : Int32))), .unset, .unset, .val (.int ((2048 : Int32) + ((ou &&& (2147483647 : Int32)) % (53248 : Int32)))), .unset] d_384 rfl ?_
        exact m_lawC3 hw hU hC hheld hcw (own_cp3 _).1 (own_cp3 _).2 hcv hev X Y M Cn2
      · refine w_sipush X (128 : Int32) d_321 rfl ?_
        refine w_iload X d_324 rfl ?_
        refine w_sipush X (1920 : Int32) d_326 rfl ?_
        refine w_irem X d_329 (by decide) ?_
        refine w_iadd X d_330 ?_
        refine w_istore X #[.val (.int cmd), .val (.int sel), .val (.int ec), .val (.int ou), .val (.int mo), .val (.int c0), .val (.int c1), .val (.int c2), .val (.int ck), .val cv, .val ev, .val (.int ((mo &&& (2147483647 : Int32)) % (4 : Int32))), .val (.int (ou &&& (2147483647 : Int32))), .unset, .unset, .val (.int ((128 : Int32) + ((ou &&& (2147483647 : Int32)) % (1920 : Int32)))), .unset] d_331 rfl ?_
        exact m_lawC2 hw hU hC hheld hcw (own_cp2 _).1 (own_cp2 _).2 hcv hev X Y M Cn1 Cn2
    · refine w_iloadN X d_256 rfl ?_
      refine w_bipush X (127 : Int32) d_257 rfl ?_
      refine w_iand X d_259 ?_
      refine w_istore X #[.val (.int cmd), .val (.int sel), .val (.int ec), .val (.int ou), .val (.int mo), .val (.int c0), .val (.int c1), .val (.int c2), .val (.int ck), .val cv, .val ev, .val (.int ((mo &&& (2147483647 : Int32)) % (4 : Int32))), .val (.int (ou &&& (2147483647 : Int32))), .unset, .unset, .val (.int (ou &&& (127 : Int32))), .unset] d_260 rfl ?_
      refine w_iloadN X d_262 rfl ?_
      refine w_bipush X (8 : Int32) d_263 rfl ?_
      refine w_iushr X d_265 ?_
      refine w_bipush X (127 : Int32) d_266 rfl ?_
      refine w_iand X d_268 ?_
      refine w_istore X #[.val (.int cmd), .val (.int sel), .val (.int ec), .val (.int ou), .val (.int mo), .val (.int c0), .val (.int c1), .val (.int c2), .val (.int ck), .val cv, .val ev, .val (.int ((mo &&& (2147483647 : Int32)) % (4 : Int32))), .val (.int (ou &&& (2147483647 : Int32))), .unset, .unset, .val (.int (ou &&& (127 : Int32))), .val (.int (((ou.toUInt32 >>> ((8 : Int32) &&& 31).toUInt32).toInt32) &&& (127 : Int32)))] d_269 rfl ?_
      refine w_iconst X (2 : Int32) d_271 rfl ?_
      refine w_newarrE X d_272 (wd_1 hw) 2 2 "[B" rfl (by decide) (by decide) (by decide) (by decide) (by decide) (by decide) (fun T h1 b1 g1 gn1 X E1 A1 B1 => ?_)
      replace A1 : Ary Z h1 b1 .byte [(.int (0 : Int32)), (.int (0 : Int32))] := A1
      have sz_b1 : h0.size ≤ b1 := Nat.le_trans (Keep.refl h0 []).1 (Nat.le_of_eq g1.symm)
      have K1 : Keep h0 h1 [] := (Keep.refl h0 []).ext E1
      refine w_dup X d_274 rfl ?_
      refine w_iconst X (0 : Int32) d_275 rfl ?_
      refine w_iload X d_276 rfl ?_
      refine w_i2b X d_278 ?_
      refine w_bastore X d_279 A1 (by decide) rfl gn1 (.int ((ou &&& (127 : Int32)).toInt8.toInt32)) (congrArg Value.int (own_nar_b _)) [(.int ((ou &&& (127 : Int32)).toInt8.toInt32)), (.int (0 : Int32))] rfl (fun T h2 X W2 A2 => ?_)
      have K2 : Keep h0 h2 [] := K1.wr W2 (Or.inr sz_b1)
      refine w_dup X d_280 rfl ?_
      refine w_iconst X (1 : Int32) d_281 rfl ?_
      refine w_iload X d_282 rfl ?_
      refine w_i2b X d_284 ?_
      refine w_bastore X d_285 A2 (by decide) rfl gn1 (.int ((((ou.toUInt32 >>> ((8 : Int32) &&& 31).toUInt32).toInt32) &&& (127 : Int32)).toInt8.toInt32)) (congrArg Value.int (own_nar_b _)) [(.int ((ou &&& (127 : Int32)).toInt8.toInt32)), (.int ((((ou.toUInt32 >>> ((8 : Int32) &&& 31).toUInt32).toInt32) &&& (127 : Int32)).toInt8.toInt32))] rfl (fun T h3 X W3 A3 => ?_)
      have K3 : Keep h0 h3 [] := K2.wr W3 (Or.inr sz_b1)
      refine w_astore X #[.val (.int cmd), .val (.int sel), .val (.int ec), .val (.int ou), .val (.int mo), .val (.int c0), .val (.int c1), .val (.int c2), .val (.int ck), .val cv, .val ev, .val (.int ((mo &&& (2147483647 : Int32)) % (4 : Int32))), .val (.int (ou &&& (2147483647 : Int32))), .val (.ref b1), .unset, .val (.int (ou &&& (127 : Int32))), .val (.int (((ou.toUInt32 >>> ((8 : Int32) &&& 31).toUInt32).toInt32) &&& (127 : Int32)))] d_286 (rfl) rfl ?_
      refine w_new X d_288 (wd_175 hw) (wd_4 hw) (wd_3 hw) (by decide) (by decide) (fun T h4 b4 g4 gn4 X E4 A4 D4 => ?_)
      have sz_b4 : h0.size ≤ b4 := Nat.le_trans K3.1 (Nat.le_of_eq g4.symm)
      have K4 : Keep h0 h4 [] := K3.ext E4
      refine w_dup X d_291 rfl ?_
      refine w_iconst X (2 : Int32) d_292 rfl ?_
      refine w_newarr X d_293 (wd_176 hw) 2 2 (by decide) (by decide) (by decide) (by decide) (by decide) (by decide) (fun T h5 b5 g5 gn5 X E5 A5 => ?_)
      replace A5 : Ary Z h5 b5 .char [(.int (0 : Int32)), (.int (0 : Int32))] := A5
      have sz_b5 : h0.size ≤ b5 := Nat.le_trans K4.1 (Nat.le_of_eq g5.symm)
      have K5 : Keep h0 h5 [] := K4.ext E5
      refine w_dup X d_295 rfl ?_
      refine w_iconst X (0 : Int32) d_296 rfl ?_
      refine w_iload X d_297 rfl ?_
      refine w_i2c X d_299 ?_
      refine w_castore X d_300 A5 (by decide) rfl gn5 (.int ((ou &&& (127 : Int32)).toUInt32.toUInt16.toUInt32.toInt32)) (congrArg Value.int (own_nar_c _)) [(.int ((ou &&& (127 : Int32)).toUInt32.toUInt16.toUInt32.toInt32)), (.int (0 : Int32))] rfl (fun T h6 X W6 A6 => ?_)
      have K6 : Keep h0 h6 [] := K5.wr W6 (Or.inr sz_b5)
      refine w_dup X d_301 rfl ?_
      refine w_iconst X (1 : Int32) d_302 rfl ?_
      refine w_iload X d_303 rfl ?_
      refine w_i2c X d_305 ?_
      refine w_castore X d_306 A6 (by decide) rfl gn5 (.int ((((ou.toUInt32 >>> ((8 : Int32) &&& 31).toUInt32).toInt32) &&& (127 : Int32)).toUInt32.toUInt16.toUInt32.toInt32)) (congrArg Value.int (own_nar_c _)) [(.int ((ou &&& (127 : Int32)).toUInt32.toUInt16.toUInt32.toInt32)), (.int ((((ou.toUInt32 >>> ((8 : Int32) &&& 31).toUInt32).toInt32) &&& (127 : Int32)).toUInt32.toUInt16.toUInt32.toInt32))] rfl (fun T h7 X W7 A7 => ?_)
      have K7 : Keep h0 h7 [] := K6.wr W7 (Or.inr sz_b5)
      have f8 := (((A4.ext E5).wr W6).wr W7)
      have f9 := ((((show Fld Z h4 b4 "java/lang/String" "value" "[B" .null from D4 (Or.inr (wd_5 hw)) (ty := (.array .byte)) (by decide)).ext E5).other W6 (Or.inl (Nat.ne_of_lt (Nat.lt_of_lt_of_le A4.lt (Nat.le_of_eq g5.symm))))).other W7 (Or.inl (Nat.ne_of_lt (Nat.lt_of_lt_of_le A4.lt (Nat.le_of_eq g5.symm)))))
      have f10 := ((((show Fld Z h4 b4 "java/lang/String" "coder" "B" (.int (0 : Int32)) from D4 (Or.inr (wd_6 hw)) (ty := .byte) (by decide)).ext E5).other W6 (Or.inl (Nat.ne_of_lt (Nat.lt_of_lt_of_le A4.lt (Nat.le_of_eq g5.symm))))).other W7 (Or.inl (Nat.ne_of_lt (Nat.lt_of_lt_of_le A4.lt (Nat.le_of_eq g5.symm)))))
      refine w_callI X d_307 rfl (wd_177 hw) (wd_178 hw) (wd_3 hw) (wd_179 hw) (by decide) (argsL := [(.ref b5)]) (S := [(.ref b4)]) (m_si_2 hw hS gn4 f8 f9 f10 A7 (own_le127 _) (own_le127 _)) pd_39 rfl rfl rfl (by decide) (leR rfl) (by decide) (by decide) (fun T h8 v8 L8 X q8 => ?_)
      obtain ⟨rfl, Ex8, Cx8, Kc8, t8, gt8, gn8, Vx8, At8⟩ := q8
      have K11 : Keep h0 h8 [] := K7.trans Kc8 (fun x hx => by cases List.mem_singleton.mp hx; exact (Or.inr sz_b4))
      have sz_t8 : h0.size ≤ t8 := Nat.le_trans K7.1 gt8
      show Wp _ _ _ _ (T.setTop (mkF _ _ _ [(.ref b4)]))
      refine w_astore X #[.val (.int cmd), .val (.int sel), .val (.int ec), .val (.int ou), .val (.int mo), .val (.int c0), .val (.int c1), .val (.int c2), .val (.int ck), .val cv, .val ev, .val (.int ((mo &&& (2147483647 : Int32)) % (4 : Int32))), .val (.int (ou &&& (2147483647 : Int32))), .val (.ref b1), .val (.ref b4), .val (.int (ou &&& (127 : Int32))), .val (.int (((ou.toUInt32 >>> ((8 : Int32) &&& 31).toUInt32).toInt32) &&& (127 : Int32)))] d_310 (rfl) rfl ?_
      refine w_goto X d_312 ?_
      have Tq : Lat Z h8 b4 t8 (0 : Int32) [(.int (((ou &&& (127 : Int32)).toUInt32.toUInt16.toUInt32.toInt32).toInt8.toInt32)), (.int (((((ou.toUInt32 >>> ((8 : Int32) &&& 31).toUInt32).toInt32) &&& (127 : Int32)).toUInt32.toUInt16.toUInt32.toInt32).toInt8.toInt32))] := ⟨Ex8, Cx8, Vx8, At8⟩
      rw [own_c7, own_c7] at Tq
      have f12 := (((((A3.ext E4).ext E5).other W6 (Nat.ne_of_lt (Nat.lt_of_lt_of_le (Nat.lt_of_lt_of_le (Nat.lt_of_lt_of_le (Nat.lt_of_lt_of_le A1.lt (Nat.le_of_eq W2.size.symm)) (Nat.le_of_eq W3.size.symm)) E4.1) (Nat.le_of_eq g5.symm)))).other W7 (Nat.ne_of_lt (Nat.lt_of_lt_of_le (Nat.lt_of_lt_of_le (Nat.lt_of_lt_of_le (Nat.lt_of_lt_of_le A1.lt (Nat.le_of_eq W2.size.symm)) (Nat.le_of_eq W3.size.symm)) E4.1) (Nat.le_of_eq g5.symm)))).keep Kc8 (by simp only [List.mem_cons, List.not_mem_nil, or_false]; exact (Nat.ne_of_lt (Nat.lt_of_lt_of_le (Nat.lt_of_lt_of_le (Nat.lt_of_lt_of_le A1.lt (Nat.le_of_eq W2.size.symm)) (Nat.le_of_eq W3.size.symm)) (Nat.le_of_eq g4.symm)))))
      have f13 := (((((((B1.wr W2).wr W3).ext E4).ext E5).wr W6).wr W7).keep Kc8)
      exact Cn3 ⟨X.1.more (by decide) (by decide), X.2⟩ Y K11 (M.keep K11) f12 f13 Tq (fun {g a} ga Ea Va Ca Ab Eb => m_sbc_a hw hU hC hheld hcw ga Ea Va Ca Ab Eb (own_p7 _) (own_p7 _))
  · refine w_iconst X (0 : Int32) d_238 rfl ?_
    refine w_newarrE X d_239 (wd_1 hw) 0 0 "[B" rfl (by decide) (by decide) (by decide) (by decide) (by decide) (by decide) (fun T h9 b9 g9 gn9 X E9 A9 B9 => ?_)
    replace A9 : Ary Z h9 b9 .byte [] := A9
    have sz_b9 : h0.size ≤ b9 := Nat.le_trans (Keep.refl h0 []).1 (Nat.le_of_eq g9.symm)
    have K14 : Keep h0 h9 [] := (Keep.refl h0 []).ext E9
    refine w_astore X #[.val (.int cmd), .val (.int sel), .val (.int ec), .val (.int ou), .val (.int mo), .val (.int c0), .val (.int c1), .val (.int c2), .val (.int ck), .val cv, .val ev, .val (.int ((mo &&& (2147483647 : Int32)) % (4 : Int32))), .val (.int (ou &&& (2147483647 : Int32))), .val (.ref b9), .unset, .unset, .unset] d_241 (rfl) rfl ?_
    rcases hL with I0 | ⟨a7, b7, L7, T7⟩
    · refine v_ldcE X Y d_243 (wd_2 hw) (own_wS hw) (by rw [hs0]; exact X.fr) hkp (Eh.ib I0) (Eh.ib I0) (hheld _ (List.mem_of_getElem? (i := 1) rfl)) hcw (by decide) (by decide) (fun T h10 u kk a10 b10 X Y Ex10 E10 C10 V10 B10 M10 L10 => ?_)
      have K15 : Keep h0 h10 [] := K14.ext Ex10
      refine w_astore X #[.val (.int cmd), .val (.int sel), .val (.int ec), .val (.int ou), .val (.int mo), .val (.int c0), .val (.int c1), .val (.int c2), .val (.int ck), .val cv, .val ev, .val (.int ((mo &&& (2147483647 : Int32)) % (4 : Int32))), .val (.int (ou &&& (2147483647 : Int32))), .val (.ref b9), .val (.ref a10), .unset, .unset] d_245 (rfl) rfl ?_
      refine w_goto X d_247 ?_
      have f16 := (A9.ext Ex10)
      have f17 := (B9.ext Ex10)
      exact Cn0 ⟨X.1.more (by decide) (by decide), X.2⟩ Y K15 (M10) f16 f17 ⟨E10, C10, V10, B10⟩ (fun {g a} ga Ea Va Ca Ab Eb => m_sbc_0 hw hU hC hheld hcw ga Ea Va Ca Ab Eb )
    · refine v_ldcA X d_243 (wd_2 hw) L7 ?_
      refine w_astore X #[.val (.int cmd), .val (.int sel), .val (.int ec), .val (.int ou), .val (.int mo), .val (.int c0), .val (.int c1), .val (.int c2), .val (.int ck), .val cv, .val ev, .val (.int ((mo &&& (2147483647 : Int32)) % (4 : Int32))), .val (.int (ou &&& (2147483647 : Int32))), .val (.ref b9), .val (.ref a7), .unset, .unset] d_245 (rfl) rfl ?_
      refine w_goto X d_247 ?_
      have f18 := (T7.ext E9)
      exact Cn0 ⟨X.1.more (by decide) (by decide), X.2⟩ Y K14 (M.keep K14) A9 B9 f18 (fun {g a} ga Ea Va Ca Ab Eb => m_sbc_0 hw hU hC hheld hcw ga Ea Va Ca Ab Eb )
theorem m_lawB (hw : own_hw a0 Z) {zc : Int32} {fm : Value} {u8 : Addr} (hU : own_U Z zc fm) (hC : own_C Z u8) (hheld : ∀ p ∈ consts_1, Jvm.Lit.constHeld Z p.1 p.2) (hcw : Jvm.Lit.compactW.before a0 Z = true) {cmd sel ec ou mo c0 c1 c2 : Int32} (l0 : ¬ (255 : Int32) < c0) (nc0 : nar .char c0 = c0) (l1 : ¬ (255 : Int32) < c1) (nc1 : nar .char c1 = c1) (l2 : ¬ (255 : Int32) < c2) (nc2 : nar .char c2 = c2)
    {p : Program} {e : Env} {s : State} {m : MethodId} {args : Array Value} {below : List Frame} {meth : Method} {c : Code} {T : State} (X : Sd Z n0 0 code 17 "com/example/reasoned_retry/reasonedretry/FailureOfPinLaw" "law" (some .boolean) Z.heap p l e room_1 (s.setVm s.vm) m args below meth c T [] 0 0) (Y : s.Since s.vm 0) (hs0 : s.heap.size = n0) (hkp : ∀ (b : Addr) (cl : Cell), Z.heap[b]? = some cl → s.heap[b]? = some cl) (I0 : IB Z s.vm []) :
    Wp p e below (PoW Z n0 s (fun v _ => v = some (.int 1)) room_1.cells room_1.slots) (T.setTop (mkF m 63 #[.val (.int cmd), .val (.int sel), .val (.int ec), .val (.int ou), .val (.int mo), .val (.int c0), .val (.int c1), .val (.int c2), .unset, .unset, .unset, .unset, .unset, .unset, .unset, .unset, .unset] [])) := by
  obtain ⟨hS, S_ad, S_hi, S_lo⟩ := id hU
  obtain ⟨S_zc, hzc, S_fm, hfm⟩ := id hS
  refine w_iloadN X d_63 rfl ?_
  refine w_iconst X (3 : Int32) d_64 rfl ?_
  refine w_iushr X d_65 ?_
  refine w_iconst X (3 : Int32) d_66 rfl ?_
  refine w_irem X d_67 (by decide) ?_
  refine w_istore X #[.val (.int cmd), .val (.int sel), .val (.int ec), .val (.int ou), .val (.int mo), .val (.int c0), .val (.int c1), .val (.int c2), .val (.int (((sel.toUInt32 >>> ((3 : Int32) &&& 31).toUInt32).toInt32) % (3 : Int32))), .unset, .unset, .unset, .unset, .unset, .unset, .unset, .unset] d_68 rfl ?_
  refine w_iload X d_70 rfl ?_
  refine w_ifne X d_72 (fun (hc72 : ¬ (((sel.toUInt32 >>> ((3 : Int32) &&& 31).toUInt32).toInt32) % (3 : Int32)) = (0 : Int32)) => ?_) (fun (hc72 : (((sel.toUInt32 >>> ((3 : Int32) &&& 31).toUInt32).toInt32) % (3 : Int32)) = (0 : Int32)) => ?_)
  · refine w_iload X d_84 rfl ?_
    refine w_iconst X (1 : Int32) d_86 rfl ?_
    refine w_icmpne X d_87 (fun (hc87 : ¬ (((sel.toUInt32 >>> ((3 : Int32) &&& 31).toUInt32).toInt32) % (3 : Int32)) = (1 : Int32)) => ?_) (fun (hc87 : (((sel.toUInt32 >>> ((3 : Int32) &&& 31).toUInt32).toInt32) % (3 : Int32)) = (1 : Int32)) => ?_)
    · refine w_new X d_101 (wd_175 hw) (wd_4 hw) (wd_3 hw) (by decide) (by decide) (fun T h1 b1 g1 gn1 X E1 A1 D1 => ?_)
      refine w_dup X d_104 rfl ?_
      refine w_iconst X (3 : Int32) d_105 rfl ?_
      refine w_newarr X d_106 (wd_176 hw) 3 3 (by decide) (by decide) (by decide) (by decide) (by decide) (by decide) (fun T h2 b2 g2 gn2 X E2 A2 => ?_)
      replace A2 : Ary Z h2 b2 .char [(.int (0 : Int32)), (.int (0 : Int32)), (.int (0 : Int32))] := A2
      refine w_dup X d_108 rfl ?_
      refine w_iconst X (0 : Int32) d_109 rfl ?_
      refine w_iload X d_110 rfl ?_
      refine w_castore X d_112 A2 (by decide) rfl gn2 (.int c0) (congrArg Value.int nc0) [(.int c0), (.int (0 : Int32)), (.int (0 : Int32))] rfl (fun T h3 X W3 A3 => ?_)
      refine w_dup X d_113 rfl ?_
      refine w_iconst X (1 : Int32) d_114 rfl ?_
      refine w_iload X d_115 rfl ?_
      refine w_castore X d_117 A3 (by decide) rfl gn2 (.int c1) (congrArg Value.int nc1) [(.int c0), (.int c1), (.int (0 : Int32))] rfl (fun T h4 X W4 A4 => ?_)
      refine w_dup X d_118 rfl ?_
      refine w_iconst X (2 : Int32) d_119 rfl ?_
      refine w_iload X d_120 rfl ?_
      refine w_castore X d_122 A4 (by decide) rfl gn2 (.int c2) (congrArg Value.int nc2) [(.int c0), (.int c1), (.int c2)] rfl (fun T h5 X W5 A5 => ?_)
      have f1 := ((((A1.ext E2).wr W3).wr W4).wr W5)
      have f2 := (((((show Fld Z h1 b1 "java/lang/String" "value" "[B" .null from D1 (Or.inr (wd_5 hw)) (ty := (.array .byte)) (by decide)).ext E2).other W3 (Or.inl (Nat.ne_of_lt (Nat.lt_of_lt_of_le A1.lt (Nat.le_of_eq g2.symm))))).other W4 (Or.inl (Nat.ne_of_lt (Nat.lt_of_lt_of_le A1.lt (Nat.le_of_eq g2.symm))))).other W5 (Or.inl (Nat.ne_of_lt (Nat.lt_of_lt_of_le A1.lt (Nat.le_of_eq g2.symm)))))
      have f3 := (((((show Fld Z h1 b1 "java/lang/String" "coder" "B" (.int (0 : Int32)) from D1 (Or.inr (wd_6 hw)) (ty := .byte) (by decide)).ext E2).other W3 (Or.inl (Nat.ne_of_lt (Nat.lt_of_lt_of_le A1.lt (Nat.le_of_eq g2.symm))))).other W4 (Or.inl (Nat.ne_of_lt (Nat.lt_of_lt_of_le A1.lt (Nat.le_of_eq g2.symm))))).other W5 (Or.inl (Nat.ne_of_lt (Nat.lt_of_lt_of_le A1.lt (Nat.le_of_eq g2.symm)))))
      refine w_callI X d_123 rfl (wd_177 hw) (wd_178 hw) (wd_3 hw) (wd_179 hw) (by decide) (argsL := [(.ref b2)]) (S := [(.ref b1)]) (m_si_3 hw hS gn1 f1 f2 f3 A5 l0 l1 l2) pd_39 rfl rfl rfl (by decide) (leR rfl) (by decide) (by decide) (fun T h6 v6 L6 X q6 => ?_)
      obtain ⟨rfl, Ex6, Cx6, Kc6, t6, gt6, gn6, Vx6, At6⟩ := q6
      show Wp _ _ _ _ (T.setTop (mkF _ _ _ [(.ref b1)]))
      refine w_astore X #[.val (.int cmd), .val (.int sel), .val (.int ec), .val (.int ou), .val (.int mo), .val (.int c0), .val (.int c1), .val (.int c2), .val (.int (((sel.toUInt32 >>> ((3 : Int32) &&& 31).toUInt32).toInt32) % (3 : Int32))), .val (.ref b1), .unset, .unset, .unset, .unset, .unset, .unset, .unset] d_126 (rfl) rfl ?_
      refine w_iload X d_128 rfl ?_
      refine w_bipush X (47 : Int32) d_130 rfl ?_
      refine w_icmpne X d_132 (fun (hc132 : ¬ c2 = (47 : Int32)) => ?_) (fun (hc132 : c2 = (47 : Int32)) => ?_)
      · refine w_iload X d_142 rfl ?_
        refine w_bipush X (47 : Int32) d_144 rfl ?_
        refine w_icmpne X d_146 (fun (hc146 : ¬ c1 = (47 : Int32)) => ?_) (fun (hc146 : c1 = (47 : Int32)) => ?_)
        · refine w_iload X d_159 rfl ?_
          refine w_bipush X (47 : Int32) d_161 rfl ?_
          refine w_icmpne X d_163 (fun (hc163 : ¬ c0 = (47 : Int32)) => ?_) (fun (hc163 : c0 = (47 : Int32)) => ?_)
          · refine w_new X d_191 (wd_175 hw) (wd_4 hw) (wd_3 hw) (by decide) (by decide) (fun T h7 b7 g7 gn7 X E7 A7 D7 => ?_)
            refine w_dup X d_194 rfl ?_
            refine w_iconst X (3 : Int32) d_195 rfl ?_
            refine w_newarr X d_196 (wd_176 hw) 3 3 (by decide) (by decide) (by decide) (by decide) (by decide) (by decide) (fun T h8 b8 g8 gn8 X E8 A8 => ?_)
            replace A8 : Ary Z h8 b8 .char [(.int (0 : Int32)), (.int (0 : Int32)), (.int (0 : Int32))] := A8
            refine w_dup X d_198 rfl ?_
            refine w_iconst X (0 : Int32) d_199 rfl ?_
            refine w_iload X d_200 rfl ?_
            refine w_castore X d_202 A8 (by decide) rfl gn8 (.int c0) (congrArg Value.int nc0) [(.int c0), (.int (0 : Int32)), (.int (0 : Int32))] rfl (fun T h9 X W9 A9 => ?_)
            refine w_dup X d_203 rfl ?_
            refine w_iconst X (1 : Int32) d_204 rfl ?_
            refine w_iload X d_205 rfl ?_
            refine w_castore X d_207 A9 (by decide) rfl gn8 (.int c1) (congrArg Value.int nc1) [(.int c0), (.int c1), (.int (0 : Int32))] rfl (fun T h10 X W10 A10 => ?_)
            refine w_dup X d_208 rfl ?_
            refine w_iconst X (2 : Int32) d_209 rfl ?_
            refine w_iload X d_210 rfl ?_
            refine w_castore X d_212 A10 (by decide) rfl gn8 (.int c2) (congrArg Value.int nc2) [(.int c0), (.int c1), (.int c2)] rfl (fun T h11 X W11 A11 => ?_)
            have f4 := ((((A7.ext E8).wr W9).wr W10).wr W11)
            have f5 := (((((show Fld Z h7 b7 "java/lang/String" "value" "[B" .null from D7 (Or.inr (wd_5 hw)) (ty := (.array .byte)) (by decide)).ext E8).other W9 (Or.inl (Nat.ne_of_lt (Nat.lt_of_lt_of_le A7.lt (Nat.le_of_eq g8.symm))))).other W10 (Or.inl (Nat.ne_of_lt (Nat.lt_of_lt_of_le A7.lt (Nat.le_of_eq g8.symm))))).other W11 (Or.inl (Nat.ne_of_lt (Nat.lt_of_lt_of_le A7.lt (Nat.le_of_eq g8.symm)))))
            have f6 := (((((show Fld Z h7 b7 "java/lang/String" "coder" "B" (.int (0 : Int32)) from D7 (Or.inr (wd_6 hw)) (ty := .byte) (by decide)).ext E8).other W9 (Or.inl (Nat.ne_of_lt (Nat.lt_of_lt_of_le A7.lt (Nat.le_of_eq g8.symm))))).other W10 (Or.inl (Nat.ne_of_lt (Nat.lt_of_lt_of_le A7.lt (Nat.le_of_eq g8.symm))))).other W11 (Or.inl (Nat.ne_of_lt (Nat.lt_of_lt_of_le A7.lt (Nat.le_of_eq g8.symm)))))
            refine w_callI X d_213 rfl (wd_177 hw) (wd_178 hw) (wd_3 hw) (wd_179 hw) (by decide) (argsL := [(.ref b8)]) (S := [(.ref b7)]) (m_si_3 hw hS gn7 f4 f5 f6 A11 l0 l1 l2) pd_39 rfl rfl rfl (by decide) (leR rfl) (by decide) (by decide) (fun T h12 v12 L12 X q12 => ?_)
            obtain ⟨rfl, Ex12, Cx12, Kc12, t12, gt12, gn12, Vx12, At12⟩ := q12
            show Wp _ _ _ _ (T.setTop (mkF _ _ _ [(.ref b7)]))
            refine w_astore X #[.val (.int cmd), .val (.int sel), .val (.int ec), .val (.int ou), .val (.int mo), .val (.int c0), .val (.int c1), .val (.int c2), .val (.int (((sel.toUInt32 >>> ((3 : Int32) &&& 31).toUInt32).toInt32) % (3 : Int32))), .val (.ref b1), .val (.ref b7), .unset, .unset, .unset, .unset, .unset, .unset] d_216 (rfl) rfl ?_
            have f7 := ((((((Ex6.ext E7).ext E8).wr W9).wr W10).wr W11).keep Kc12)
            have f8 := ((((((Cx6.ext E7).ext E8).other W9 (Or.inl (Nat.ne_of_lt (Nat.lt_of_lt_of_le (Nat.lt_of_lt_of_le (Nat.lt_of_lt_of_le (Nat.lt_of_lt_of_le (Nat.lt_of_lt_of_le (Nat.lt_of_lt_of_le (Nat.lt_of_lt_of_le A1.lt E2.1) (Nat.le_of_eq W3.size.symm)) (Nat.le_of_eq W4.size.symm)) (Nat.le_of_eq W5.size.symm)) Kc6.1) E7.1) (Nat.le_of_eq g8.symm))))).other W10 (Or.inl (Nat.ne_of_lt (Nat.lt_of_lt_of_le (Nat.lt_of_lt_of_le (Nat.lt_of_lt_of_le (Nat.lt_of_lt_of_le (Nat.lt_of_lt_of_le (Nat.lt_of_lt_of_le (Nat.lt_of_lt_of_le A1.lt E2.1) (Nat.le_of_eq W3.size.symm)) (Nat.le_of_eq W4.size.symm)) (Nat.le_of_eq W5.size.symm)) Kc6.1) E7.1) (Nat.le_of_eq g8.symm))))).other W11 (Or.inl (Nat.ne_of_lt (Nat.lt_of_lt_of_le (Nat.lt_of_lt_of_le (Nat.lt_of_lt_of_le (Nat.lt_of_lt_of_le (Nat.lt_of_lt_of_le (Nat.lt_of_lt_of_le (Nat.lt_of_lt_of_le A1.lt E2.1) (Nat.le_of_eq W3.size.symm)) (Nat.le_of_eq W4.size.symm)) (Nat.le_of_eq W5.size.symm)) Kc6.1) E7.1) (Nat.le_of_eq g8.symm))))).keep Kc12 (by simp only [List.mem_cons, List.not_mem_nil, or_false]; exact (Nat.ne_of_lt (Nat.lt_of_lt_of_le (Nat.lt_of_lt_of_le (Nat.lt_of_lt_of_le (Nat.lt_of_lt_of_le (Nat.lt_of_lt_of_le (Nat.lt_of_lt_of_le A1.lt E2.1) (Nat.le_of_eq W3.size.symm)) (Nat.le_of_eq W4.size.symm)) (Nat.le_of_eq W5.size.symm)) Kc6.1) (Nat.le_of_eq g7.symm)))))
            have f9 := ((((((Vx6.ext E7).ext E8).other W9 (Or.inl (Nat.ne_of_lt (Nat.lt_of_lt_of_le (Nat.lt_of_lt_of_le (Nat.lt_of_lt_of_le (Nat.lt_of_lt_of_le (Nat.lt_of_lt_of_le (Nat.lt_of_lt_of_le (Nat.lt_of_lt_of_le A1.lt E2.1) (Nat.le_of_eq W3.size.symm)) (Nat.le_of_eq W4.size.symm)) (Nat.le_of_eq W5.size.symm)) Kc6.1) E7.1) (Nat.le_of_eq g8.symm))))).other W10 (Or.inl (Nat.ne_of_lt (Nat.lt_of_lt_of_le (Nat.lt_of_lt_of_le (Nat.lt_of_lt_of_le (Nat.lt_of_lt_of_le (Nat.lt_of_lt_of_le (Nat.lt_of_lt_of_le (Nat.lt_of_lt_of_le A1.lt E2.1) (Nat.le_of_eq W3.size.symm)) (Nat.le_of_eq W4.size.symm)) (Nat.le_of_eq W5.size.symm)) Kc6.1) E7.1) (Nat.le_of_eq g8.symm))))).other W11 (Or.inl (Nat.ne_of_lt (Nat.lt_of_lt_of_le (Nat.lt_of_lt_of_le (Nat.lt_of_lt_of_le (Nat.lt_of_lt_of_le (Nat.lt_of_lt_of_le (Nat.lt_of_lt_of_le (Nat.lt_of_lt_of_le A1.lt E2.1) (Nat.le_of_eq W3.size.symm)) (Nat.le_of_eq W4.size.symm)) (Nat.le_of_eq W5.size.symm)) Kc6.1) E7.1) (Nat.le_of_eq g8.symm))))).keep Kc12 (by simp only [List.mem_cons, List.not_mem_nil, or_false]; exact (Nat.ne_of_lt (Nat.lt_of_lt_of_le (Nat.lt_of_lt_of_le (Nat.lt_of_lt_of_le (Nat.lt_of_lt_of_le (Nat.lt_of_lt_of_le (Nat.lt_of_lt_of_le A1.lt E2.1) (Nat.le_of_eq W3.size.symm)) (Nat.le_of_eq W4.size.symm)) (Nat.le_of_eq W5.size.symm)) Kc6.1) (Nat.le_of_eq g7.symm)))))
            have f10 := ((((((At6.ext E7).ext E8).other W9 (Nat.ne_of_lt (Nat.lt_of_lt_of_le (Nat.lt_of_lt_of_le At6.lt E7.1) (Nat.le_of_eq g8.symm)))).other W10 (Nat.ne_of_lt (Nat.lt_of_lt_of_le (Nat.lt_of_lt_of_le At6.lt E7.1) (Nat.le_of_eq g8.symm)))).other W11 (Nat.ne_of_lt (Nat.lt_of_lt_of_le (Nat.lt_of_lt_of_le At6.lt E7.1) (Nat.le_of_eq g8.symm)))).keep Kc12 (by simp only [List.mem_cons, List.not_mem_nil, or_false]; exact (Nat.ne_of_lt (Nat.lt_of_lt_of_le At6.lt (Nat.le_of_eq g7.symm)))))
            have Tc : Lat Z h12 b1 t6 (0 : Int32) [(.int (c0.toInt8.toInt32)), (.int (c1.toInt8.toInt32)), (.int (c2.toInt8.toInt32))] := ⟨f7, f8, f9, f10⟩
            have Te : Lat Z h12 b7 t12 (0 : Int32) [(.int (c0.toInt8.toInt32)), (.int (c1.toInt8.toInt32)), (.int (c2.toInt8.toInt32))] := ⟨Ex12, Cx12, Vx12, At12⟩
            exact m_lawC hw hU hC hheld hcw rfl rfl ⟨X.1.more (by decide) (by decide), X.2⟩ Y hs0 hkp (Eh.ib I0) (Or.inl I0) (fun X Y K M A E T D => m_lawD_0_0 hw hU hC hheld hcw (Tc.keep K List.not_mem_nil List.not_mem_nil) (Te.keep K List.not_mem_nil List.not_mem_nil) (own_f47 nc2 l2 hc132) (own_f47 nc1 l1 hc146) (own_f47 nc0 l0 hc163) X Y M A E T D) (fun X Y K M A E T D => m_lawD_0_1 hw hU hC hheld hcw (Tc.keep K List.not_mem_nil List.not_mem_nil) (Te.keep K List.not_mem_nil List.not_mem_nil) (own_f47 nc2 l2 hc132) (own_f47 nc1 l1 hc146) (own_f47 nc0 l0 hc163) X Y M A E T D) (fun X Y K M A E T D => m_lawD_0_2 hw hU hC hheld hcw (Tc.keep K List.not_mem_nil List.not_mem_nil) (Te.keep K List.not_mem_nil List.not_mem_nil) (own_f47 nc2 l2 hc132) (own_f47 nc1 l1 hc146) (own_f47 nc0 l0 hc163) X Y M A E T D) (fun X Y K M A E T D => m_lawD_0_3 hw hU hC hheld hcw (Tc.keep K List.not_mem_nil List.not_mem_nil) (Te.keep K List.not_mem_nil List.not_mem_nil) (own_f47 nc2 l2 hc132) (own_f47 nc1 l1 hc146) (own_f47 nc0 l0 hc163) X Y M A E T D)
          · refine w_new X d_166 (wd_175 hw) (wd_4 hw) (wd_3 hw) (by decide) (by decide) (fun T h13 b13 g13 gn13 X E13 A13 D13 => ?_)
            refine w_dup X d_169 rfl ?_
            refine w_iconst X (2 : Int32) d_170 rfl ?_
            refine w_newarr X d_171 (wd_176 hw) 2 2 (by decide) (by decide) (by decide) (by decide) (by decide) (by decide) (fun T h14 b14 g14 gn14 X E14 A14 => ?_)
            replace A14 : Ary Z h14 b14 .char [(.int (0 : Int32)), (.int (0 : Int32))] := A14
            refine w_dup X d_173 rfl ?_
            refine w_iconst X (0 : Int32) d_174 rfl ?_
            refine w_iload X d_175 rfl ?_
            refine w_castore X d_177 A14 (by decide) rfl gn14 (.int c1) (congrArg Value.int nc1) [(.int c1), (.int (0 : Int32))] rfl (fun T h15 X W15 A15 => ?_)
            refine w_dup X d_178 rfl ?_
            refine w_iconst X (1 : Int32) d_179 rfl ?_
            refine w_iload X d_180 rfl ?_
            refine w_castore X d_182 A15 (by decide) rfl gn14 (.int c2) (congrArg Value.int nc2) [(.int c1), (.int c2)] rfl (fun T h16 X W16 A16 => ?_)
            have f11 := (((A13.ext E14).wr W15).wr W16)
            have f12 := ((((show Fld Z h13 b13 "java/lang/String" "value" "[B" .null from D13 (Or.inr (wd_5 hw)) (ty := (.array .byte)) (by decide)).ext E14).other W15 (Or.inl (Nat.ne_of_lt (Nat.lt_of_lt_of_le A13.lt (Nat.le_of_eq g14.symm))))).other W16 (Or.inl (Nat.ne_of_lt (Nat.lt_of_lt_of_le A13.lt (Nat.le_of_eq g14.symm)))))
            have f13 := ((((show Fld Z h13 b13 "java/lang/String" "coder" "B" (.int (0 : Int32)) from D13 (Or.inr (wd_6 hw)) (ty := .byte) (by decide)).ext E14).other W15 (Or.inl (Nat.ne_of_lt (Nat.lt_of_lt_of_le A13.lt (Nat.le_of_eq g14.symm))))).other W16 (Or.inl (Nat.ne_of_lt (Nat.lt_of_lt_of_le A13.lt (Nat.le_of_eq g14.symm)))))
            refine w_callI X d_183 rfl (wd_177 hw) (wd_178 hw) (wd_3 hw) (wd_179 hw) (by decide) (argsL := [(.ref b14)]) (S := [(.ref b13)]) (m_si_2 hw hS gn13 f11 f12 f13 A16 l1 l2) pd_39 rfl rfl rfl (by decide) (leR rfl) (by decide) (by decide) (fun T h17 v17 L17 X q17 => ?_)
            obtain ⟨rfl, Ex17, Cx17, Kc17, t17, gt17, gn17, Vx17, At17⟩ := q17
            show Wp _ _ _ _ (T.setTop (mkF _ _ _ [(.ref b13)]))
            refine w_astore X #[.val (.int cmd), .val (.int sel), .val (.int ec), .val (.int ou), .val (.int mo), .val (.int c0), .val (.int c1), .val (.int c2), .val (.int (((sel.toUInt32 >>> ((3 : Int32) &&& 31).toUInt32).toInt32) % (3 : Int32))), .val (.ref b1), .val (.ref b13), .unset, .unset, .unset, .unset, .unset, .unset] d_186 (rfl) rfl ?_
            refine w_goto X d_188 ?_
            have f14 := (((((Ex6.ext E13).ext E14).wr W15).wr W16).keep Kc17)
            have f15 := (((((Cx6.ext E13).ext E14).other W15 (Or.inl (Nat.ne_of_lt (Nat.lt_of_lt_of_le (Nat.lt_of_lt_of_le (Nat.lt_of_lt_of_le (Nat.lt_of_lt_of_le (Nat.lt_of_lt_of_le (Nat.lt_of_lt_of_le (Nat.lt_of_lt_of_le A1.lt E2.1) (Nat.le_of_eq W3.size.symm)) (Nat.le_of_eq W4.size.symm)) (Nat.le_of_eq W5.size.symm)) Kc6.1) E13.1) (Nat.le_of_eq g14.symm))))).other W16 (Or.inl (Nat.ne_of_lt (Nat.lt_of_lt_of_le (Nat.lt_of_lt_of_le (Nat.lt_of_lt_of_le (Nat.lt_of_lt_of_le (Nat.lt_of_lt_of_le (Nat.lt_of_lt_of_le (Nat.lt_of_lt_of_le A1.lt E2.1) (Nat.le_of_eq W3.size.symm)) (Nat.le_of_eq W4.size.symm)) (Nat.le_of_eq W5.size.symm)) Kc6.1) E13.1) (Nat.le_of_eq g14.symm))))).keep Kc17 (by simp only [List.mem_cons, List.not_mem_nil, or_false]; exact (Nat.ne_of_lt (Nat.lt_of_lt_of_le (Nat.lt_of_lt_of_le (Nat.lt_of_lt_of_le (Nat.lt_of_lt_of_le (Nat.lt_of_lt_of_le (Nat.lt_of_lt_of_le A1.lt E2.1) (Nat.le_of_eq W3.size.symm)) (Nat.le_of_eq W4.size.symm)) (Nat.le_of_eq W5.size.symm)) Kc6.1) (Nat.le_of_eq g13.symm)))))
            have f16 := (((((Vx6.ext E13).ext E14).other W15 (Or.inl (Nat.ne_of_lt (Nat.lt_of_lt_of_le (Nat.lt_of_lt_of_le (Nat.lt_of_lt_of_le (Nat.lt_of_lt_of_le (Nat.lt_of_lt_of_le (Nat.lt_of_lt_of_le (Nat.lt_of_lt_of_le A1.lt E2.1) (Nat.le_of_eq W3.size.symm)) (Nat.le_of_eq W4.size.symm)) (Nat.le_of_eq W5.size.symm)) Kc6.1) E13.1) (Nat.le_of_eq g14.symm))))).other W16 (Or.inl (Nat.ne_of_lt (Nat.lt_of_lt_of_le (Nat.lt_of_lt_of_le (Nat.lt_of_lt_of_le (Nat.lt_of_lt_of_le (Nat.lt_of_lt_of_le (Nat.lt_of_lt_of_le (Nat.lt_of_lt_of_le A1.lt E2.1) (Nat.le_of_eq W3.size.symm)) (Nat.le_of_eq W4.size.symm)) (Nat.le_of_eq W5.size.symm)) Kc6.1) E13.1) (Nat.le_of_eq g14.symm))))).keep Kc17 (by simp only [List.mem_cons, List.not_mem_nil, or_false]; exact (Nat.ne_of_lt (Nat.lt_of_lt_of_le (Nat.lt_of_lt_of_le (Nat.lt_of_lt_of_le (Nat.lt_of_lt_of_le (Nat.lt_of_lt_of_le (Nat.lt_of_lt_of_le A1.lt E2.1) (Nat.le_of_eq W3.size.symm)) (Nat.le_of_eq W4.size.symm)) (Nat.le_of_eq W5.size.symm)) Kc6.1) (Nat.le_of_eq g13.symm)))))
            have f17 := (((((At6.ext E13).ext E14).other W15 (Nat.ne_of_lt (Nat.lt_of_lt_of_le (Nat.lt_of_lt_of_le At6.lt E13.1) (Nat.le_of_eq g14.symm)))).other W16 (Nat.ne_of_lt (Nat.lt_of_lt_of_le (Nat.lt_of_lt_of_le At6.lt E13.1) (Nat.le_of_eq g14.symm)))).keep Kc17 (by simp only [List.mem_cons, List.not_mem_nil, or_false]; exact (Nat.ne_of_lt (Nat.lt_of_lt_of_le At6.lt (Nat.le_of_eq g13.symm)))))
            have Tc : Lat Z h17 b1 t6 (0 : Int32) [(.int (c0.toInt8.toInt32)), (.int (c1.toInt8.toInt32)), (.int (c2.toInt8.toInt32))] := ⟨f14, f15, f16, f17⟩
            have Te : Lat Z h17 b13 t17 (0 : Int32) [(.int (c1.toInt8.toInt32)), (.int (c2.toInt8.toInt32))] := ⟨Ex17, Cx17, Vx17, At17⟩
            exact m_lawC hw hU hC hheld hcw rfl rfl ⟨X.1.more (by decide) (by decide), X.2⟩ Y hs0 hkp (Eh.ib I0) (Or.inl I0) (fun X Y K M A E T D => m_lawD_1_0 hw hU hC hheld hcw (Tc.keep K List.not_mem_nil List.not_mem_nil) (Te.keep K List.not_mem_nil List.not_mem_nil) (own_f47 nc2 l2 hc132) (own_f47 nc1 l1 hc146) (own_e47 hc163) X Y M A E T D) (fun X Y K M A E T D => m_lawD_1_1 hw hU hC hheld hcw (Tc.keep K List.not_mem_nil List.not_mem_nil) (Te.keep K List.not_mem_nil List.not_mem_nil) (own_f47 nc2 l2 hc132) (own_f47 nc1 l1 hc146) (own_e47 hc163) X Y M A E T D) (fun X Y K M A E T D => m_lawD_1_2 hw hU hC hheld hcw (Tc.keep K List.not_mem_nil List.not_mem_nil) (Te.keep K List.not_mem_nil List.not_mem_nil) (own_f47 nc2 l2 hc132) (own_f47 nc1 l1 hc146) (own_e47 hc163) X Y M A E T D) (fun X Y K M A E T D => m_lawD_1_3 hw hU hC hheld hcw (Tc.keep K List.not_mem_nil List.not_mem_nil) (Te.keep K List.not_mem_nil List.not_mem_nil) (own_f47 nc2 l2 hc132) (own_f47 nc1 l1 hc146) (own_e47 hc163) X Y M A E T D)
        · refine w_iload X d_149 rfl ?_
          refine w_callS X d_151 (wd_83 hw) (wd_84 hw) (wd_3 hw) (wd_85 hw) (by decide) (argsL := [(.int c2)]) (S := []) (m_vof hw (c0 := c2) hS l2) pd_40 rfl rfl rfl (by decide) (leR rfl) (by decide) (by decide) (fun T h18 v18 L18 X q18 => ?_)
          obtain ⟨a18, t18, rfl, gta18, gna18, gt18, gn18, Ex18, Cx18, Vx18, At18, Kc18⟩ := q18
          show Wp _ _ _ _ (T.setTop (mkF _ _ _ [(.ref a18)]))
          refine w_astore X #[.val (.int cmd), .val (.int sel), .val (.int ec), .val (.int ou), .val (.int mo), .val (.int c0), .val (.int c1), .val (.int c2), .val (.int (((sel.toUInt32 >>> ((3 : Int32) &&& 31).toUInt32).toInt32) % (3 : Int32))), .val (.ref b1), .val (.ref a18), .unset, .unset, .unset, .unset, .unset, .unset] d_154 (rfl) rfl ?_
          refine w_goto X d_156 ?_
          have f18 := (Ex6.keep Kc18)
          have f19 := (Cx6.keep Kc18 (List.not_mem_nil))
          have f20 := (Vx6.keep Kc18 (List.not_mem_nil))
          have f21 := (At6.keep Kc18 (List.not_mem_nil))
          have Tc : Lat Z h18 b1 t6 (0 : Int32) [(.int (c0.toInt8.toInt32)), (.int (c1.toInt8.toInt32)), (.int (c2.toInt8.toInt32))] := ⟨f18, f19, f20, f21⟩
          have Te : Lat Z h18 a18 t18 (0 : Int32) [(.int (c2.toInt8.toInt32))] := ⟨Ex18, Cx18, Vx18, At18⟩
          exact m_lawC hw hU hC hheld hcw rfl rfl ⟨X.1.more (by decide) (by decide), X.2⟩ Y hs0 hkp (Eh.ib I0) (Or.inl I0) (fun X Y K M A E T D => m_lawD_2_0 hw hU hC hheld hcw (Tc.keep K List.not_mem_nil List.not_mem_nil) (Te.keep K List.not_mem_nil List.not_mem_nil) (own_f47 nc2 l2 hc132) (own_e47 hc146) X Y M A E T D) (fun X Y K M A E T D => m_lawD_2_1 hw hU hC hheld hcw (Tc.keep K List.not_mem_nil List.not_mem_nil) (Te.keep K List.not_mem_nil List.not_mem_nil) (own_f47 nc2 l2 hc132) (own_e47 hc146) X Y M A E T D) (fun X Y K M A E T D => m_lawD_2_2 hw hU hC hheld hcw (Tc.keep K List.not_mem_nil List.not_mem_nil) (Te.keep K List.not_mem_nil List.not_mem_nil) (own_f47 nc2 l2 hc132) (own_e47 hc146) X Y M A E T D) (fun X Y K M A E T D => m_lawD_2_3 hw hU hC hheld hcw (Tc.keep K List.not_mem_nil List.not_mem_nil) (Te.keep K List.not_mem_nil List.not_mem_nil) (own_f47 nc2 l2 hc132) (own_e47 hc146) X Y M A E T D)
      · refine v_ldcE X Y d_135 (wd_2 hw) (own_wS hw) (by rw [hs0]; exact X.fr) hkp (Eh.ib I0) (Eh.ib I0) (hheld _ (List.mem_of_getElem? (i := 1) rfl)) hcw (by decide) (by decide) (fun T h19 u kk a19 b19 X Y Ex19 E19 C19 V19 B19 M19 L19 => ?_)
        refine w_astore X #[.val (.int cmd), .val (.int sel), .val (.int ec), .val (.int ou), .val (.int mo), .val (.int c0), .val (.int c1), .val (.int c2), .val (.int (((sel.toUInt32 >>> ((3 : Int32) &&& 31).toUInt32).toInt32) % (3 : Int32))), .val (.ref b1), .val (.ref a19), .unset, .unset, .unset, .unset, .unset, .unset] d_137 (rfl) rfl ?_
        refine w_goto X d_139 ?_
        have f22 := (Ex6.ext Ex19)
        have f23 := (Cx6.ext Ex19)
        have f24 := (Vx6.ext Ex19)
        have f25 := (At6.ext Ex19)
        have Tc : Lat Z h19 b1 t6 (0 : Int32) [(.int (c0.toInt8.toInt32)), (.int (c1.toInt8.toInt32)), (.int (c2.toInt8.toInt32))] := ⟨f22, f23, f24, f25⟩
        have Te : Lat Z h19 a19 b19 (0 : Int32) [] := ⟨E19, C19, V19, B19⟩
        exact m_lawC hw hU hC hheld hcw rfl rfl ⟨X.1.more (by decide) (by decide), X.2⟩ Y hs0 hkp M19 (Or.inr ⟨_, _, L19, ⟨E19, C19, V19, B19⟩⟩) (fun X Y K M A E T D => m_lawD_3_0 hw hU hC hheld hcw (Tc.keep K List.not_mem_nil List.not_mem_nil) (Te.keep K List.not_mem_nil List.not_mem_nil) (own_e47 hc132) X Y M A E T D) (fun X Y K M A E T D => m_lawD_3_1 hw hU hC hheld hcw (Tc.keep K List.not_mem_nil List.not_mem_nil) (Te.keep K List.not_mem_nil List.not_mem_nil) (own_e47 hc132) X Y M A E T D) (fun X Y K M A E T D => m_lawD_3_2 hw hU hC hheld hcw (Tc.keep K List.not_mem_nil List.not_mem_nil) (Te.keep K List.not_mem_nil List.not_mem_nil) (own_e47 hc132) X Y M A E T D) (fun X Y K M A E T D => m_lawD_3_3 hw hU hC hheld hcw (Tc.keep K List.not_mem_nil List.not_mem_nil) (Te.keep K List.not_mem_nil List.not_mem_nil) (own_e47 hc132) X Y M A E T D)
    · refine v_ldcE X Y d_90 (wd_2 hw) (own_wS hw) (by rw [hs0]; exact X.fr) hkp (Eh.ib I0) (Eh.ib I0) (hheld _ (List.mem_of_getElem? (i := 1) rfl)) hcw (by decide) (by decide) (fun T h20 u kk a20 b20 X Y Ex20 E20 C20 V20 B20 M20 L20 => ?_)
      refine w_astore X #[.val (.int cmd), .val (.int sel), .val (.int ec), .val (.int ou), .val (.int mo), .val (.int c0), .val (.int c1), .val (.int c2), .val (.int (((sel.toUInt32 >>> ((3 : Int32) &&& 31).toUInt32).toInt32) % (3 : Int32))), .val (.ref a20), .unset, .unset, .unset, .unset, .unset, .unset, .unset] d_92 (rfl) rfl ?_
      refine v_ldcA X d_94 (wd_2 hw) L20 ?_
      refine w_astore X #[.val (.int cmd), .val (.int sel), .val (.int ec), .val (.int ou), .val (.int mo), .val (.int c0), .val (.int c1), .val (.int c2), .val (.int (((sel.toUInt32 >>> ((3 : Int32) &&& 31).toUInt32).toInt32) % (3 : Int32))), .val (.ref a20), .val (.ref a20), .unset, .unset, .unset, .unset, .unset, .unset] d_96 (rfl) rfl ?_
      refine w_goto X d_98 ?_
      have Tc : Lat Z h20 a20 b20 (0 : Int32) [] := ⟨E20, C20, V20, B20⟩
      have Te : Lat Z h20 a20 b20 (0 : Int32) [] := ⟨E20, C20, V20, B20⟩
      exact m_lawC hw hU hC hheld hcw rfl rfl ⟨X.1.more (by decide) (by decide), X.2⟩ Y hs0 hkp M20 (Or.inr ⟨_, _, L20, ⟨E20, C20, V20, B20⟩⟩) (fun X Y K M A E T D => m_lawD_E_0 hw hU hC hheld hcw (Tc.keep K List.not_mem_nil List.not_mem_nil) (Te.keep K List.not_mem_nil List.not_mem_nil)  X Y M A E T D) (fun X Y K M A E T D => m_lawD_E_1 hw hU hC hheld hcw (Tc.keep K List.not_mem_nil List.not_mem_nil) (Te.keep K List.not_mem_nil List.not_mem_nil)  X Y M A E T D) (fun X Y K M A E T D => m_lawD_E_2 hw hU hC hheld hcw (Tc.keep K List.not_mem_nil List.not_mem_nil) (Te.keep K List.not_mem_nil List.not_mem_nil)  X Y M A E T D) (fun X Y K M A E T D => m_lawD_E_3 hw hU hC hheld hcw (Tc.keep K List.not_mem_nil List.not_mem_nil) (Te.keep K List.not_mem_nil List.not_mem_nil)  X Y M A E T D)
  · refine w_aconstNull X d_75 ?_
    refine w_astore X #[.val (.int cmd), .val (.int sel), .val (.int ec), .val (.int ou), .val (.int mo), .val (.int c0), .val (.int c1), .val (.int c2), .val (.int (((sel.toUInt32 >>> ((3 : Int32) &&& 31).toUInt32).toInt32) % (3 : Int32))), .val .null, .unset, .unset, .unset, .unset, .unset, .unset, .unset] d_76 (rfl) rfl ?_
    refine w_aconstNull X d_78 ?_
    refine w_astore X #[.val (.int cmd), .val (.int sel), .val (.int ec), .val (.int ou), .val (.int mo), .val (.int c0), .val (.int c1), .val (.int c2), .val (.int (((sel.toUInt32 >>> ((3 : Int32) &&& 31).toUInt32).toInt32) % (3 : Int32))), .val .null, .val .null, .unset, .unset, .unset, .unset, .unset, .unset] d_79 (rfl) rfl ?_
    refine w_goto X d_81 ?_
    exact m_lawC hw hU hC hheld hcw rfl rfl ⟨X.1.more (by decide) (by decide), X.2⟩ Y hs0 hkp (Eh.ib I0) (Or.inl I0) (fun X Y K M A E T D => m_lawD_N_0 hw hU hC hheld hcw  X Y M A E T D) (fun X Y K M A E T D => m_lawD_N_1 hw hU hC hheld hcw  X Y M A E T D) (fun X Y K M A E T D => m_lawD_N_2 hw hU hC hheld hcw  X Y M A E T D) (fun X Y K M A E T D => m_lawD_N_3 hw hU hC hheld hcw  X Y M A E T D)
theorem m_law (hw : own_hw a0 Z) (hZs : Z.heap.size = n0) {zc : Int32} {fm : Value} {u8 : Addr} (cmd sel ec ou mo : Int32) (hU : own_U Z zc fm) (hC : own_C Z u8) (hheld : ∀ p ∈ consts_1, Jvm.Lit.constHeld Z p.1 p.2) (hcw : Jvm.Lit.compactW.before a0 Z = true) :
    DoesL l Z n0 x code maxLocals ret tables_1 room_1 #[(.int cmd), (.int sel), (.int ec), (.int ou), (.int mo)] (fun v _ => v = some (.int 1)) := by
  refine DoesL.start hZs (plainFor_of_name pn_10) ?_
  obtain ⟨hS, S_ad, S_hi, S_lo⟩ := id hU
  obtain ⟨S_zc, hzc, S_fm, hfm⟩ := id hS
  obtain ⟨S_u8, S_in, E_u8⟩ := id hC
  intro p e s m below meth c T X Y hsZ
  replace X : Sd _ _ _ _ _ "com/example/reasoned_retry/reasonedretry/FailureOfPinLaw" "law" _ _ _ _ _ _ _ _ _ _ _ _ _ _ _ _ := X
  have hs0 : s.heap.size = n0 := by rw [hsZ]; exact hZs
  have hkp : ∀ (b : Addr) (cl : Cell), Z.heap[b]? = some cl → s.heap[b]? = some cl := by rw [hsZ]; exact fun _ _ q => q
  have I0 : IB Z s.vm [] := by rw [hsZ]; exact IB.start
  refine Wp.cast (g' := mkF m 0 #[.val (.int cmd), .val (.int sel), .val (.int ec), .val (.int ou), .val (.int mo), .unset, .unset, .unset, .unset, .unset, .unset, .unset, .unset, .unset, .unset, .unset, .unset] []) (by first | (simp [entryFrame, mkF, argsToLocals, Value.category, maxLocals]; done) | rfl) ?_
  refine w_iloadN X d_0 rfl ?_
  refine w_iconst X (1 : Int32) d_1 rfl ?_
  refine w_iand X d_2 ?_
  refine w_ifeq X d_3 (fun (hc3 : (sel &&& (1 : Int32)) = (0 : Int32)) => ?_) (fun (hc3 : ¬ (sel &&& (1 : Int32)) = (0 : Int32)) => ?_)
  · refine w_iloadN X d_11 rfl ?_
    refine w_sipush X (255 : Int32) d_12 rfl ?_
    refine w_iand X d_15 ?_
    refine w_i2c X d_16 ?_
    refine w_istore X #[.val (.int cmd), .val (.int sel), .val (.int ec), .val (.int ou), .val (.int mo), .val (.int ((cmd &&& (255 : Int32)).toUInt32.toUInt16.toUInt32.toInt32)), .unset, .unset, .unset, .unset, .unset, .unset, .unset, .unset, .unset, .unset, .unset] d_17 rfl ?_
    refine w_iloadN X d_19 rfl ?_
    refine w_iconst X (2 : Int32) d_20 rfl ?_
    refine w_iand X d_21 ?_
    refine w_ifeq X d_22 (fun (hc22 : (sel &&& (2 : Int32)) = (0 : Int32)) => ?_) (fun (hc22 : ¬ (sel &&& (2 : Int32)) = (0 : Int32)) => ?_)
    · refine w_iloadN X d_30 rfl ?_
      refine w_bipush X (8 : Int32) d_31 rfl ?_
      refine w_iushr X d_33 ?_
      refine w_sipush X (255 : Int32) d_34 rfl ?_
      refine w_iand X d_37 ?_
      refine w_i2c X d_38 ?_
      refine w_istore X #[.val (.int cmd), .val (.int sel), .val (.int ec), .val (.int ou), .val (.int mo), .val (.int ((cmd &&& (255 : Int32)).toUInt32.toUInt16.toUInt32.toInt32)), .val (.int ((((cmd.toUInt32 >>> ((8 : Int32) &&& 31).toUInt32).toInt32) &&& (255 : Int32)).toUInt32.toUInt16.toUInt32.toInt32)), .unset, .unset, .unset, .unset, .unset, .unset, .unset, .unset, .unset, .unset] d_39 rfl ?_
      refine w_iloadN X d_41 rfl ?_
      refine w_iconst X (4 : Int32) d_42 rfl ?_
      refine w_iand X d_43 ?_
      refine w_ifeq X d_44 (fun (hc44 : (sel &&& (4 : Int32)) = (0 : Int32)) => ?_) (fun (hc44 : ¬ (sel &&& (4 : Int32)) = (0 : Int32)) => ?_)
      · refine w_iloadN X d_52 rfl ?_
        refine w_bipush X (16 : Int32) d_53 rfl ?_
        refine w_iushr X d_55 ?_
        refine w_sipush X (255 : Int32) d_56 rfl ?_
        refine w_iand X d_59 ?_
        refine w_i2c X d_60 ?_
        refine w_istore X #[.val (.int cmd), .val (.int sel), .val (.int ec), .val (.int ou), .val (.int mo), .val (.int ((cmd &&& (255 : Int32)).toUInt32.toUInt16.toUInt32.toInt32)), .val (.int ((((cmd.toUInt32 >>> ((8 : Int32) &&& 31).toUInt32).toInt32) &&& (255 : Int32)).toUInt32.toUInt16.toUInt32.toInt32)), .val (.int ((((cmd.toUInt32 >>> ((16 : Int32) &&& 31).toUInt32).toInt32) &&& (255 : Int32)).toUInt32.toUInt16.toUInt32.toInt32)), .unset, .unset, .unset, .unset, .unset, .unset, .unset, .unset, .unset] d_61 rfl ?_
        exact m_lawB hw hU hC hheld hcw (own_le255 _) (own_nar_c _) (own_le255 _) (own_nar_c _) (own_le255 _) (own_nar_c _) X Y hs0 hkp I0
      · refine w_bipush X (47 : Int32) d_47 rfl ?_
        refine w_goto X d_49 ?_
        refine w_istore X #[.val (.int cmd), .val (.int sel), .val (.int ec), .val (.int ou), .val (.int mo), .val (.int ((cmd &&& (255 : Int32)).toUInt32.toUInt16.toUInt32.toInt32)), .val (.int ((((cmd.toUInt32 >>> ((8 : Int32) &&& 31).toUInt32).toInt32) &&& (255 : Int32)).toUInt32.toUInt16.toUInt32.toInt32)), .val (.int (47 : Int32)), .unset, .unset, .unset, .unset, .unset, .unset, .unset, .unset, .unset] d_61 rfl ?_
        exact m_lawB hw hU hC hheld hcw (own_le255 _) (own_nar_c _) (own_le255 _) (own_nar_c _) (by decide) (by decide) X Y hs0 hkp I0
    · refine w_bipush X (47 : Int32) d_25 rfl ?_
      refine w_goto X d_27 ?_
      refine w_istore X #[.val (.int cmd), .val (.int sel), .val (.int ec), .val (.int ou), .val (.int mo), .val (.int ((cmd &&& (255 : Int32)).toUInt32.toUInt16.toUInt32.toInt32)), .val (.int (47 : Int32)), .unset, .unset, .unset, .unset, .unset, .unset, .unset, .unset, .unset, .unset] d_39 rfl ?_
      refine w_iloadN X d_41 rfl ?_
      refine w_iconst X (4 : Int32) d_42 rfl ?_
      refine w_iand X d_43 ?_
      refine w_ifeq X d_44 (fun (hc44 : (sel &&& (4 : Int32)) = (0 : Int32)) => ?_) (fun (hc44 : ¬ (sel &&& (4 : Int32)) = (0 : Int32)) => ?_)
      · refine w_iloadN X d_52 rfl ?_
        refine w_bipush X (16 : Int32) d_53 rfl ?_
        refine w_iushr X d_55 ?_
        refine w_sipush X (255 : Int32) d_56 rfl ?_
        refine w_iand X d_59 ?_
        refine w_i2c X d_60 ?_
        refine w_istore X #[.val (.int cmd), .val (.int sel), .val (.int ec), .val (.int ou), .val (.int mo), .val (.int ((cmd &&& (255 : Int32)).toUInt32.toUInt16.toUInt32.toInt32)), .val (.int (47 : Int32)), .val (.int ((((cmd.toUInt32 >>> ((16 : Int32) &&& 31).toUInt32).toInt32) &&& (255 : Int32)).toUInt32.toUInt16.toUInt32.toInt32)), .unset, .unset, .unset, .unset, .unset, .unset, .unset, .unset, .unset] d_61 rfl ?_
        exact m_lawB hw hU hC hheld hcw (own_le255 _) (own_nar_c _) (by decide) (by decide) (own_le255 _) (own_nar_c _) X Y hs0 hkp I0
      · refine w_bipush X (47 : Int32) d_47 rfl ?_
        refine w_goto X d_49 ?_
        refine w_istore X #[.val (.int cmd), .val (.int sel), .val (.int ec), .val (.int ou), .val (.int mo), .val (.int ((cmd &&& (255 : Int32)).toUInt32.toUInt16.toUInt32.toInt32)), .val (.int (47 : Int32)), .val (.int (47 : Int32)), .unset, .unset, .unset, .unset, .unset, .unset, .unset, .unset, .unset] d_61 rfl ?_
        exact m_lawB hw hU hC hheld hcw (own_le255 _) (own_nar_c _) (by decide) (by decide) (by decide) (by decide) X Y hs0 hkp I0
  · refine w_bipush X (47 : Int32) d_6 rfl ?_
    refine w_goto X d_8 ?_
    refine w_istore X #[.val (.int cmd), .val (.int sel), .val (.int ec), .val (.int ou), .val (.int mo), .val (.int (47 : Int32)), .unset, .unset, .unset, .unset, .unset, .unset, .unset, .unset, .unset, .unset, .unset] d_17 rfl ?_
    refine w_iloadN X d_19 rfl ?_
    refine w_iconst X (2 : Int32) d_20 rfl ?_
    refine w_iand X d_21 ?_
    refine w_ifeq X d_22 (fun (hc22 : (sel &&& (2 : Int32)) = (0 : Int32)) => ?_) (fun (hc22 : ¬ (sel &&& (2 : Int32)) = (0 : Int32)) => ?_)
    · refine w_iloadN X d_30 rfl ?_
      refine w_bipush X (8 : Int32) d_31 rfl ?_
      refine w_iushr X d_33 ?_
      refine w_sipush X (255 : Int32) d_34 rfl ?_
      refine w_iand X d_37 ?_
      refine w_i2c X d_38 ?_
      refine w_istore X #[.val (.int cmd), .val (.int sel), .val (.int ec), .val (.int ou), .val (.int mo), .val (.int (47 : Int32)), .val (.int ((((cmd.toUInt32 >>> ((8 : Int32) &&& 31).toUInt32).toInt32) &&& (255 : Int32)).toUInt32.toUInt16.toUInt32.toInt32)), .unset, .unset, .unset, .unset, .unset, .unset, .unset, .unset, .unset, .unset] d_39 rfl ?_
      refine w_iloadN X d_41 rfl ?_
      refine w_iconst X (4 : Int32) d_42 rfl ?_
      refine w_iand X d_43 ?_
      refine w_ifeq X d_44 (fun (hc44 : (sel &&& (4 : Int32)) = (0 : Int32)) => ?_) (fun (hc44 : ¬ (sel &&& (4 : Int32)) = (0 : Int32)) => ?_)
      · refine w_iloadN X d_52 rfl ?_
        refine w_bipush X (16 : Int32) d_53 rfl ?_
        refine w_iushr X d_55 ?_
        refine w_sipush X (255 : Int32) d_56 rfl ?_
        refine w_iand X d_59 ?_
        refine w_i2c X d_60 ?_
        refine w_istore X #[.val (.int cmd), .val (.int sel), .val (.int ec), .val (.int ou), .val (.int mo), .val (.int (47 : Int32)), .val (.int ((((cmd.toUInt32 >>> ((8 : Int32) &&& 31).toUInt32).toInt32) &&& (255 : Int32)).toUInt32.toUInt16.toUInt32.toInt32)), .val (.int ((((cmd.toUInt32 >>> ((16 : Int32) &&& 31).toUInt32).toInt32) &&& (255 : Int32)).toUInt32.toUInt16.toUInt32.toInt32)), .unset, .unset, .unset, .unset, .unset, .unset, .unset, .unset, .unset] d_61 rfl ?_
        exact m_lawB hw hU hC hheld hcw (by decide) (by decide) (own_le255 _) (own_nar_c _) (own_le255 _) (own_nar_c _) X Y hs0 hkp I0
      · refine w_bipush X (47 : Int32) d_47 rfl ?_
        refine w_goto X d_49 ?_
        refine w_istore X #[.val (.int cmd), .val (.int sel), .val (.int ec), .val (.int ou), .val (.int mo), .val (.int (47 : Int32)), .val (.int ((((cmd.toUInt32 >>> ((8 : Int32) &&& 31).toUInt32).toInt32) &&& (255 : Int32)).toUInt32.toUInt16.toUInt32.toInt32)), .val (.int (47 : Int32)), .unset, .unset, .unset, .unset, .unset, .unset, .unset, .unset, .unset] d_61 rfl ?_
        exact m_lawB hw hU hC hheld hcw (by decide) (by decide) (own_le255 _) (own_nar_c _) (by decide) (by decide) X Y hs0 hkp I0
    · refine w_bipush X (47 : Int32) d_25 rfl ?_
      refine w_goto X d_27 ?_
      refine w_istore X #[.val (.int cmd), .val (.int sel), .val (.int ec), .val (.int ou), .val (.int mo), .val (.int (47 : Int32)), .val (.int (47 : Int32)), .unset, .unset, .unset, .unset, .unset, .unset, .unset, .unset, .unset, .unset] d_39 rfl ?_
      refine w_iloadN X d_41 rfl ?_
      refine w_iconst X (4 : Int32) d_42 rfl ?_
      refine w_iand X d_43 ?_
      refine w_ifeq X d_44 (fun (hc44 : (sel &&& (4 : Int32)) = (0 : Int32)) => ?_) (fun (hc44 : ¬ (sel &&& (4 : Int32)) = (0 : Int32)) => ?_)
      · refine w_iloadN X d_52 rfl ?_
        refine w_bipush X (16 : Int32) d_53 rfl ?_
        refine w_iushr X d_55 ?_
        refine w_sipush X (255 : Int32) d_56 rfl ?_
        refine w_iand X d_59 ?_
        refine w_i2c X d_60 ?_
        refine w_istore X #[.val (.int cmd), .val (.int sel), .val (.int ec), .val (.int ou), .val (.int mo), .val (.int (47 : Int32)), .val (.int (47 : Int32)), .val (.int ((((cmd.toUInt32 >>> ((16 : Int32) &&& 31).toUInt32).toInt32) &&& (255 : Int32)).toUInt32.toUInt16.toUInt32.toInt32)), .unset, .unset, .unset, .unset, .unset, .unset, .unset, .unset, .unset] d_61 rfl ?_
        exact m_lawB hw hU hC hheld hcw (by decide) (by decide) (by decide) (by decide) (own_le255 _) (own_nar_c _) X Y hs0 hkp I0
      · refine w_bipush X (47 : Int32) d_47 rfl ?_
        refine w_goto X d_49 ?_
        refine w_istore X #[.val (.int cmd), .val (.int sel), .val (.int ec), .val (.int ou), .val (.int mo), .val (.int (47 : Int32)), .val (.int (47 : Int32)), .val (.int (47 : Int32)), .unset, .unset, .unset, .unset, .unset, .unset, .unset, .unset, .unset] d_61 rfl ?_
        exact m_lawB hw hU hC hheld hcw (by decide) (by decide) (by decide) (by decide) (by decide) (by decide) X Y hs0 hkp I0
theorem comes_1 {Post : Tables → Env → Array Value → State → Outcome → State → Prop} (hpost : ∀ tb e args s v u, (limb_1_1.after args s (.returned v) u = true ∧ limb_1_2.after args s (.returned v) u = true ∧ True) → ReturnedEndW s (.returned v) u (Jvm.fieldLocs frame_1_writes args s ++ Jvm.arrayLocs frame_1_arrays args s ++ Jvm.staticLocs frame_1_statics s) 48 4288 → Post tb e args s (.returned v) u) :
    ArmFor flags0 classFile x code maxLocals ret World_1 tables_1 room_1 Calls_1 rest_1 Pre_1 Post := by
  intro l hfl _ _ p e ha hc hk s m args below hf hA hF happ hP
  obtain ⟨hcalls, hrest, hpre⟩ := hP
  obtain ⟨-, -, -, hnamed, -, -, -, hat⟩ := (Spec.applies_iff hf).mp happ
  obtain ⟨hg, hn⟩ := and_e (Cond.before_iff.mp (show (Jvm.Cond.and given_1 narrow_1).before args s = true from hpre))
  obtain ⟨hcount, hg1⟩ := and_e hg
  obtain ⟨ha0, hg2⟩ := and_e hg1
  obtain ⟨ha1, hg3⟩ := and_e hg2
  obtain ⟨ha2, hg4⟩ := and_e hg3
  obtain ⟨ha3, hg5⟩ := and_e hg4
  have ha4 := hg5
  obtain ⟨w0, w1, w2, w3, w4, rfl⟩ : ∃ w0 w1 w2 w3 w4 : Value, args = #[w0, w1, w2, w3, w4] := by
    have hs : args.size = 5 := by simpa [Cond.value, given_1] using hcount
    obtain ⟨L⟩ := args
    match L, hs with
    | [w0, w1, w2, w3, w4], _ => exact ⟨w0, w1, w2, w3, w4, rfl⟩
  have hw := fun d (hd : d ∈ tables_1) => atoms_spec (ws := Jvm.Cond.code x code maxLocals ret :: tables_1) hat d (List.mem_cons_of_mem _ hd)
  have hfit : Fit s := fun {y c} hc i hi => by
    obtain ⟨ha, rfl⟩ := Array.getElem?_eq_some_iff.mp hc
    have q := List.all_eq_true.mp ((Array.all_eq_true_iff_forall_mem.mp hF) _ (Array.getElem_mem ha)) i (List.mem_range.mpr hi)
    simpa [Array.getElem?_eq_getElem hi] using q
  obtain ⟨hsets, hown0⟩ := atoms_of _ (rest_1_c_eq ▸ (show rest_1_c.before _ s = true from hrest))
  have hr0 := Cond.before_iff.mp hown0
  obtain ⟨i0, ei0⟩ := is_v ha0
  obtain rfl : w0 = (.int i0) := Option.some.inj ei0
  obtain ⟨i1, ei1⟩ := is_v ha1
  obtain rfl : w1 = (.int i1) := Option.some.inj ei1
  obtain ⟨i2, ei2⟩ := is_v ha2
  obtain rfl : w2 = (.int i2) := Option.some.inj ei2
  obtain ⟨i3, ei3⟩ := is_v ha3
  obtain rfl : w3 = (.int i3) := Option.some.inj ei3
  obtain ⟨i4, ei4⟩ := is_v ha4
  obtain rfl : w4 = (.int i4) := Option.some.inj ei4
  obtain ⟨zc, ezc⟩ := is_v (Cond.before_iff.mp (hsets _ (List.mem_of_getElem? (i := 7) rfl)))
  have S_zc : Sta s s.heap "java/lang/String" "COMPACT_STRINGS" "Z" (.int zc) := Sta.start ezc (Or.inl (hsets _ (List.mem_of_getElem? (i := 6) rfl)))
  have hcw : Jvm.Lit.compactW.before _ s = true := (hsets _ (List.mem_of_getElem? (i := 8) rfl))
  have hzc : ¬ zc = 0 := gotF (own_eqI ezc rfl) (not_v (Cond.before_iff.mp hcw))
  obtain ⟨fm, efm, hfm⟩ := isR_v (Cond.before_iff.mp (hsets _ (List.mem_of_getElem? (i := 14) rfl)))
  have S_fm : Sta s s.heap "jdk/internal/util/Preconditions" "SIOOBE_FORMATTER" "Ljava/util/function/BiFunction;" fm := Sta.start efm (Or.inl (hsets _ (List.mem_of_getElem? (i := 13) rfl)))
  have S_ad : Sta s s.heap "java/lang/StringUTF16" "$assertionsDisabled" "Z" (.int (1 : Int32)) := own_stI (Cond.before_iff.mp (hsets _ (List.mem_of_getElem? (i := 18) rfl))) (Or.inl (hsets _ (List.mem_of_getElem? (i := 17) rfl)))
  have S_hi : Sta s s.heap "java/lang/StringUTF16" "HI_BYTE_SHIFT" "I" (.int (0 : Int32)) := own_stI (Cond.before_iff.mp (hsets _ (List.mem_of_getElem? (i := 21) rfl))) (Or.inl (hsets _ (List.mem_of_getElem? (i := 20) rfl)))
  have S_lo : Sta s s.heap "java/lang/StringUTF16" "LO_BYTE_SHIFT" "I" (.int (8 : Int32)) := own_stI (Cond.before_iff.mp (hsets _ (List.mem_of_getElem? (i := 24) rfl))) (Or.inl (hsets _ (List.mem_of_getElem? (i := 23) rfl)))
  have n_u8 := Cond.before_iff.mp (hsets _ (List.mem_of_getElem? (i := 5) rfl))
  obtain ⟨u8, e_u8⟩ := exa_v n_u8
  have S_u8 : Sta s s.heap "java/nio/charset/StandardCharsets" "UTF_8" "Ljava/nio/charset/Charset;" (.ref u8) := Sta.start e_u8 (Or.inl (hsets _ (List.mem_of_getElem? (i := 1) rfl)))
  have E_u8 := Exa.start e_u8 n_u8
  have n_i8 := Cond.before_iff.mp (hsets _ (List.mem_of_getElem? (i := 27) rfl))
  obtain ⟨i8, e_i8⟩ := exa_v n_i8
  have S_i8 : Sta s s.heap "sun/nio/cs/UTF_8" "INSTANCE" "Lsun/nio/cs/UTF_8;" (.ref i8) := Sta.start e_i8 (Or.inl (hsets _ (List.mem_of_getElem? (i := 3) rfl)))
  obtain rfl := own_eqR e_u8 e_i8 (Cond.before_iff.mp (hsets _ (List.mem_of_getElem? (i := 4) rfl)))
  obtain ⟨n, o, h1, h2, h3, v, L, rfl, ⟨N, -, -, rfl⟩, hq⟩ := m_law (l := l) (Z := s) (n0 := s.heap.size) hw rfl i0 i1 i2 i3 i4 ⟨⟨S_zc, hzc, S_fm, hfm⟩, S_ad, S_hi, S_lo⟩ ⟨S_u8, S_i8, E_u8⟩ (fun p hp => hcalls.1 p hp) hcw p e ha hc hk s m _ below hf ((Spec.applies_iff_loose hf).mp happ).1 ⟨rfl, rfl⟩ trivial
  refine ⟨n, _, h1, h2, h3, hpost _ _ _ _ _ _ ⟨Cond.after_iff.mpr rfl, Cond.after_iff.mpr (eq_i res_at (Term.int_eval (1)) rfl), trivial⟩ ⟨hq.1, hq.2.1, hq.2.2.1, (hq.2.2.2.sift fun y hy => Or.inr (N y hy)).mono (by decide) (by decide)⟩⟩
theorem main_1_1 : Claimed_1_1 := comes_1 fun _ _ _ _ _ _ h hF => ⟨h.1, hF⟩
theorem main_1_2 : Claimed_1_2 := comes_1 fun _ _ _ _ _ _ h hF => ⟨h.2.1, hF⟩
end Jvm.Pilot.@@N@@
namespace Jvm.Pilot.@@N@@
open Jvm Jvm.ClassFile Sem Op Lib Jvm.Free Jvm.Stand Jvm.Pilot.@@N@@.Jvm.D
/-! MADE BY PROGRAM (witnessworld.py) out of the Statement's table words and the real class files: 32 classes; the members and pool entries that the words name. The judged class is class 1, her method 1. -/
namespace start1
open Jvm.ClassFile
def u (s : String) : CpInfo := .utf8 (stringToUtf16 s)
/-- a pool by its gaps: so many unusable entries, then the entry; so many at the end -/
def gap : Nat → List CpInfo → List CpInfo
  | 0, r => r
  | n + 1, r => .unusable :: gap n r
def poolList (es : List (Nat × CpInfo)) (last : Nat) : List CpInfo := es.foldr (fun e r => gap e.1 (e.2 :: r)) (gap last [])
def pool (es : List (Nat × CpInfo)) (last : Nat) : Array CpInfo := ⟨poolList es last⟩
def fileOf (pool : Array CpInfo) (this : Nat) (attrs : Array Attribute := #[]) (ms : Array MethodInfo := #[]) (fl : Nat := 33) (sup : Nat := 0) (ifs : Array Nat := #[]) (fds : Array FieldInfo := #[]) : ClassFile where
  minorVersion := 0
  majorVersion := 65
  constantPool := pool
  accessFlags := fl
  thisClass := this
  superClass := sup
  interfaces := ifs
  fields := fds
  methods := ms
  attributes := attrs
def plain (name : String) (sup : Option ClassId) : Class where
  name := name
  kind := .ordinary
  loader := none
  accessFlags := 33
  super := sup
  interfaces := #[]
  cf := none
  fields := #[]
  methods := #[]
  instanceTypes := #[]
  staticTypes := #[]
  resolved := #[]
  callSites := []
  init := .initialized
  statics := none
  mirror := none

def pool0 : Array CpInfo := pool [(5, u "<init>"), (0, u "()V"), (1, .class_ 10), (1, u "java/lang/Object"), (85, u "clone"), (0, u "()Ljava/lang/Object;")] 26

def k0c0 : Code := { maxStack := 0, maxLocals := 1, code := object_method_1_code, exceptionTable := #[], attributes := #[] }
def k0m0 : Method := { name := "<init>", desc := "()V", sig := { parameters := [], returnType := none }, accessFlags := 1, code := some k0c0 }
def k0m1 : Method := { name := "clone", desc := "()Ljava/lang/Object;", sig := { parameters := [], returnType := some (.object "java/lang/Object") }, accessFlags := 260, code := none }
/-- java/lang/Object -/
def k0 : Class := { plain "java/lang/Object" none with
  accessFlags := 33
  interfaces := #[]
  cf := some (fileOf pool0 8 #[] #[{ accessFlags := 1, nameIndex := 5, descriptorIndex := 6, attributes := #[] }, { accessFlags := 260, nameIndex := 96, descriptorIndex := 97, attributes := #[] }] 33 0 #[] #[])
  fields := #[]
  methods := #[k0m0, k0m1]
  instanceTypes := #[]
  staticTypes := #[]
  resolved := Array.replicate 124 none
  statics := none }

def pool1 : Array CpInfo := pool [(2, .class_ 4), (1, u "java/lang/Object"), (0, u "<init>"), (0, u "()V"), (0, .string 8), (0, u ""), (0, .class_ 10), (0, u "java/lang/String"), (0, .methodref 9 12), (0, .nameAndType 5 13), (0, u "([C)V"), (0, .methodref 9 15), (0, .nameAndType 16 17), (0, u "valueOf"), (0, u "(C)Ljava/lang/String;"), (0, .integer 2147483647), (0, .integer 53248), (0, .methodref 21 22), (0, .class_ 23), (0, .nameAndType 24 25), (0, u "com/example/reasoned_retry/reasonedretry/Classifier$Failure"), (0, u "of"), (0, u "(Ljava/lang/String;I[B)Lcom/example/reasoned_retry/reasonedretry/Classifier$Failure;"), (0, .methodref 21 27), (0, .nameAndType 28 29), (0, u "command"), (0, u "()Ljava/lang/String;"), (0, .methodref 9 31), (0, .nameAndType 32 33), (0, u "equals"), (0, u "(Ljava/lang/Object;)Z"), (0, .methodref 21 35), (0, .nameAndType 36 37), (0, u "exitCode"), (0, u "()I"), (0, .methodref 21 39), (0, .nameAndType 40 29), (0, u "output"), (0, .class_ 42), (0, u "com/example/reasoned_retry/reasonedretry/FailureOfPinLaw"), (2, u "law"), (0, u "(IIIII)Z")] 9

def k1m0 : Method := { name := "<init>", desc := "()V", sig := { parameters := [], returnType := none }, accessFlags := 1, code := none }
def k1c1 : Code := { maxStack := 6, maxLocals := 17, code := code, exceptionTable := #[], attributes := #[] }
def k1m1 : Method := { name := "law", desc := "(IIIII)Z", sig := { parameters := [.int, .int, .int, .int, .int], returnType := some .boolean }, accessFlags := 9, code := some k1c1 }
/-- com/example/reasoned_retry/reasonedretry/FailureOfPinLaw -/
def k1 : Class := { plain "com/example/reasoned_retry/reasonedretry/FailureOfPinLaw" (some 0) with
  accessFlags := 49
  interfaces := #[]
  cf := some (fileOf pool1 41 #[] #[{ accessFlags := 1, nameIndex := 5, descriptorIndex := 6, attributes := #[] }, { accessFlags := 9, nameIndex := 45, descriptorIndex := 46, attributes := #[] }] 49 2 #[] #[])
  fields := #[]
  methods := #[k1m0, k1m1]
  instanceTypes := #[]
  staticTypes := #[]
  resolved := Array.replicate 56 none
  statics := none }

def pool2 : Array CpInfo := pool [(1, .class_ 2), (0, u "java/io/Serializable"), (0, .class_ 4), (0, u "java/lang/Object")] 2

/-- java/io/Serializable -/
def k2 : Class := { plain "java/io/Serializable" (some 0) with
  accessFlags := 1537
  interfaces := #[]
  cf := some (fileOf pool2 1 #[] #[] 1537 3 #[] #[])
  fields := #[]
  methods := #[]
  instanceTypes := #[]
  staticTypes := #[]
  resolved := Array.replicate 7 none
  statics := none }

def pool3 : Array CpInfo := pool [(1, .class_ 2), (0, u "java/lang/Comparable"), (0, .class_ 4), (0, u "java/lang/Object")] 7

/-- java/lang/Comparable -/
def k3 : Class := { plain "java/lang/Comparable" (some 0) with
  accessFlags := 1537
  interfaces := #[]
  cf := some (fileOf pool3 1 #[] #[] 1537 3 #[] #[])
  fields := #[]
  methods := #[]
  instanceTypes := #[]
  staticTypes := #[]
  resolved := Array.replicate 12 none
  statics := none }

def pool4 : Array CpInfo := pool [(2, .class_ 4), (1, u "java/lang/CharSequence"), (42, .class_ 48), (0, u "java/lang/CharSequence$1CodePointIterator"), (10, .class_ 60), (0, u "java/lang/CharSequence$1CharIterator"), (5, .class_ 67), (0, u "java/lang/Object")] 63

/-- java/lang/CharSequence -/
def k4 : Class := { plain "java/lang/CharSequence" (some 0) with
  accessFlags := 1537
  interfaces := #[]
  cf := some (fileOf pool4 2 #[.nestMembers #[47, 59]] #[] 1537 66 #[] #[])
  fields := #[]
  methods := #[]
  instanceTypes := #[]
  staticTypes := #[]
  resolved := Array.replicate 131 none
  statics := none }

def pool5 : Array CpInfo := pool [(1, .class_ 2), (0, u "java/lang/constant/Constable"), (0, .class_ 4), (0, u "java/lang/Object")] 6

/-- java/lang/constant/Constable -/
def k5 : Class := { plain "java/lang/constant/Constable" (some 0) with
  accessFlags := 1537
  interfaces := #[]
  cf := some (fileOf pool5 1 #[] #[] 1537 3 #[] #[])
  fields := #[]
  methods := #[]
  instanceTypes := #[]
  staticTypes := #[]
  resolved := Array.replicate 11 none
  statics := none }

def pool6 : Array CpInfo := pool [(1, .class_ 2), (0, u "java/lang/constant/ConstantDesc"), (0, .class_ 4), (0, u "java/lang/Object")] 32

/-- java/lang/constant/ConstantDesc -/
def k6 : Class := { plain "java/lang/constant/ConstantDesc" (some 0) with
  accessFlags := 1537
  interfaces := #[]
  cf := some (fileOf pool6 1 #[] #[] 1537 3 #[] #[])
  fields := #[]
  methods := #[]
  instanceTypes := #[]
  staticTypes := #[]
  resolved := Array.replicate 37 none
  statics := none }

def pool7 : Array CpInfo := pool [(1, .methodref 2 3), (0, .class_ 4), (0, .nameAndType 5 6), (0, u "java/lang/Object"), (0, u "<init>"), (0, u "()V"), (0, .string 8), (0, u ""), (0, .fieldref 10 11), (0, .class_ 12), (0, .nameAndType 13 14), (0, u "java/lang/String"), (0, u "value"), (0, u "[B"), (0, .fieldref 10 16), (0, .nameAndType 17 18), (0, u "coder"), (0, u "B"), (2, u "hash"), (0, u "I"), (2, u "hashIsZero"), (0, u "Z"), (0, .methodref 10 28), (0, .nameAndType 5 29), (0, u "([CIILjava/lang/Void;)V"), (6, u "checkBoundsOffCount"), (0, u "(III)I"), (0, .fieldref 10 39), (0, .nameAndType 40 26), (0, u "COMPACT_STRINGS"), (1, .class_ 44), (1, u "java/lang/StringUTF16"), (0, u "compress"), (1, .methodref 42 48), (0, .nameAndType 49 50), (0, u "coderFromArrayLen"), (0, u "([BI)B"), (2, u "toBytes"), (0, .methodref 55 56), (0, .class_ 57), (0, .nameAndType 58 59), (0, u "java/util/Arrays"), (0, u "copyOfRange"), (0, u "([BII)[B"), (0, .methodref 42 61), (0, .nameAndType 62 63), (0, u "newBytesFor"), (0, u "(I)[B"), (0, .methodref 42 65), (0, .nameAndType 66 67), (0, u "putChar"), (0, u "([BII)V"), (7, .methodref 10 76), (0, .nameAndType 5 77), (0, u "(Ljava/nio/charset/Charset;[BII)V"), (0, .methodref 79 80), (0, .class_ 81), (0, .nameAndType 82 83), (0, u "java/util/Objects"), (0, u "requireNonNull"), (0, u "(Ljava/lang/Object;)Ljava/lang/Object;"), (0, .class_ 85), (0, u "java/nio/charset/Charset"), (0, .fieldref 87 88), (0, .class_ 89), (0, .nameAndType 90 91), (0, u "sun/nio/cs/UTF_8"), (0, u "INSTANCE"), (0, u "Lsun/nio/cs/UTF_8;"), (0, .methodref 93 94), (0, .class_ 95), (0, .nameAndType 96 97), (0, u "java/lang/StringCoding"), (0, u "countPositives"), (0, u "([BII)I"), (0, .methodref 10 99), (0, .nameAndType 100 101), (0, u "decode2"), (0, u "(II)C"), (0, .methodref 55 103), (0, .nameAndType 104 105), (0, u "copyOf"), (0, u "([BI)[B"), (0, .methodref 107 108), (0, .class_ 109), (0, .nameAndType 110 111), (0, u "java/lang/StringLatin1"), (0, u "inflate"), (0, u "([BI[BII)V"), (0, .methodref 10 113), (0, .nameAndType 114 115), (0, u "decodeUTF8_UTF16"), (0, u "([BII[BIZ)I"), (26, u "()Z"), (34, .methodref 42 178), (0, .nameAndType 45 179), (0, u "([CII)[B"), (29, .methodref 10 210), (0, .nameAndType 5 211), (0, u "([BB)V"), (122, u "()I"), (0, .methodref 10 336), (0, .nameAndType 17 337), (0, u "()B"), (27, .class_ 367), (1, u "java/lang/Character"), (1, u "(C)Z"), (13, .integer 4294844288), (1, .methodref 10 386), (0, .nameAndType 387 388), (0, u "isNotContinuation"), (0, u "(I)Z"), (3, .methodref 10 393), (0, .nameAndType 394 395), (0, u "isMalformed3"), (0, u "(III)Z"), (4, .methodref 10 401), (0, .nameAndType 402 403), (0, u "decode3"), (0, u "(III)C"), (0, .methodref 365 405), (0, .nameAndType 406 369), (0, u "isSurrogate"), (85, .methodref 10 493), (0, .nameAndType 494 142), (0, u "isLatin1"), (10, .methodref 10 506), (0, .nameAndType 507 334), (0, u "length"), (5, u "checkFromToIndex"), (7, .methodref 10 522), (0, .nameAndType 523 524), (0, u "checkBoundsBeginEnd"), (0, u "(III)V"), (16, .methodref 107 542), (0, .nameAndType 543 544), (0, u "equals"), (0, u "([B[B)Z"), (28, u "(Ljava/lang/Object;)Z"), (1, .class_ 576), (0, u "java/lang/CharSequence"), (22, u "CASE_INSENSITIVE_ORDER"), (0, u "Ljava/util/Comparator;"), (35, u "(II)I"), (4, .methodref 10 642), (0, .nameAndType 643 636), (0, u "lastIndexOf"), (0, .methodref 107 645), (0, .nameAndType 643 97), (35, .methodref 10 682), (0, .nameAndType 683 684), (0, u "substring"), (0, u "(II)Ljava/lang/String;"), (0, .methodref 107 686), (0, .nameAndType 687 688), (0, u "newString"), (0, u "([BII)Ljava/lang/String;"), (76, u "(I)I"), (16, u "valueOf"), (0, u "(C)Ljava/lang/String;"), (108, u "(I)Ljava/lang/String;"), (117, u "([C)V"), (4, .methodref 107 1016), (0, .nameAndType 1017 369), (0, u "canEncode"), (0, .methodref 107 1019), (0, .nameAndType 53 1020), (0, u "(C)[B"), (0, .methodref 42 1019), (31, .fieldref 1054 1055), (0, .class_ 1056), (0, .nameAndType 1057 1058), (0, u "jdk/internal/util/Preconditions"), (0, u "SIOOBE_FORMATTER"), (0, u "Ljava/util/function/BiFunction;"), (3, .methodref 1054 1063), (0, .nameAndType 513 1064), (0, u "(IIILjava/util/function/BiFunction;)I"), (0, .methodref 1054 1066), (0, .nameAndType 1067 1064), (0, u "checkFromIndexSize"), (33, u "serialPersistentFields"), (0, u "[Ljava/io/ObjectStreamField;"), (0, .class_ 1104), (0, u "java/lang/String$CaseInsensitiveComparator"), (1, .class_ 1107), (0, u "java/io/Serializable"), (0, .class_ 1109), (0, u "java/lang/Comparable"), (0, .class_ 1111), (0, u "java/lang/constant/Constable"), (0, .class_ 1113), (0, u "java/lang/constant/ConstantDesc"), (2, u "serialVersionUID"), (0, u "J"), (3, u "REPL"), (0, u "C"), (2, u "LATIN1"), (1, u "UTF16"), (101, u "([BLjava/nio/charset/Charset;)V")] 221

def k7m0 : Method := { name := "<init>", desc := "()V", sig := { parameters := [], returnType := none }, accessFlags := 1, code := none }
def k7c1 : Code := { maxStack := 5, maxLocals := 2, code := jdk_42_method_3_code, exceptionTable := #[], attributes := #[] }
def k7m1 : Method := { name := "<init>", desc := "([C)V", sig := { parameters := [(.array .char)], returnType := none }, accessFlags := 1, code := some k7c1 }
def k7c2 : Code := { maxStack := 6, maxLocals := 11, code := jdk_42_method_11_code, exceptionTable := #[{ startPc := 800, endPc := 813, handlerPc := 816, catchType := 202 }], attributes := #[] }
def k7m2 : Method := { name := "<init>", desc := "(Ljava/nio/charset/Charset;[BII)V", sig := { parameters := [(.object "java/nio/charset/Charset"), (.array .byte), .int, .int], returnType := none }, accessFlags := 2, code := some k7c2 }
def k7c3 : Code := { maxStack := 2, maxLocals := 1, code := jdk_42_method_29_code, exceptionTable := #[], attributes := #[] }
def k7m3 : Method := { name := "isNotContinuation", desc := "(I)Z", sig := { parameters := [.int], returnType := some .boolean }, accessFlags := 10, code := some k7c3 }
def k7c4 : Code := { maxStack := 2, maxLocals := 3, code := jdk_42_method_30_code, exceptionTable := #[], attributes := #[] }
def k7m4 : Method := { name := "isMalformed3", desc := "(III)Z", sig := { parameters := [.int, .int, .int], returnType := some .boolean }, accessFlags := 10, code := some k7c4 }
def k7c5 : Code := { maxStack := 2, maxLocals := 2, code := jdk_42_method_35_code, exceptionTable := #[], attributes := #[] }
def k7m5 : Method := { name := "decode2", desc := "(II)C", sig := { parameters := [.int, .int], returnType := some .char }, accessFlags := 10, code := some k7c5 }
def k7c6 : Code := { maxStack := 3, maxLocals := 3, code := jdk_42_method_36_code, exceptionTable := #[], attributes := #[] }
def k7m6 : Method := { name := "decode3", desc := "(III)C", sig := { parameters := [.int, .int, .int], returnType := some .char }, accessFlags := 10, code := some k7c6 }
def k7c7 : Code := { maxStack := 4, maxLocals := 11, code := jdk_42_method_38_code, exceptionTable := #[], attributes := #[] }
def k7m7 : Method := { name := "decodeUTF8_UTF16", desc := "([BII[BIZ)I", sig := { parameters := [(.array .byte), .int, .int, (.array .byte), .int, .boolean], returnType := some .int }, accessFlags := 10, code := some k7c7 }
def k7c8 : Code := { maxStack := 5, maxLocals := 3, code := jdk_42_method_49_code, exceptionTable := #[], attributes := #[] }
def k7m8 : Method := { name := "<init>", desc := "([BLjava/nio/charset/Charset;)V", sig := { parameters := [(.array .byte), (.object "java/nio/charset/Charset")], returnType := none }, accessFlags := 1, code := some k7c8 }
def k7c9 : Code := { maxStack := 2, maxLocals := 1, code := jdk_42_method_54_code, exceptionTable := #[], attributes := #[] }
def k7m9 : Method := { name := "length", desc := "()I", sig := { parameters := [], returnType := some .int }, accessFlags := 1, code := some k7c9 }
def k7c10 : Code := { maxStack := 2, maxLocals := 3, code := jdk_42_method_66_code, exceptionTable := #[], attributes := #[] }
def k7m10 : Method := { name := "equals", desc := "(Ljava/lang/Object;)Z", sig := { parameters := [(.object "java/lang/Object")], returnType := some .boolean }, accessFlags := 1, code := some k7c10 }
def k7c11 : Code := { maxStack := 4, maxLocals := 2, code := jdk_42_method_82_code, exceptionTable := #[], attributes := #[] }
def k7m11 : Method := { name := "lastIndexOf", desc := "(I)I", sig := { parameters := [.int], returnType := some .int }, accessFlags := 1, code := some k7c11 }
def k7c12 : Code := { maxStack := 3, maxLocals := 3, code := jdk_42_method_83_code, exceptionTable := #[], attributes := #[] }
def k7m12 : Method := { name := "lastIndexOf", desc := "(II)I", sig := { parameters := [.int, .int], returnType := some .int }, accessFlags := 1, code := some k7c12 }
def k7c13 : Code := { maxStack := 3, maxLocals := 2, code := jdk_42_method_91_code, exceptionTable := #[], attributes := #[] }
def k7m13 : Method := { name := "substring", desc := "(I)Ljava/lang/String;", sig := { parameters := [.int], returnType := some (.object "java/lang/String") }, accessFlags := 1, code := some k7c13 }
def k7c14 : Code := { maxStack := 3, maxLocals := 5, code := jdk_42_method_92_code, exceptionTable := #[], attributes := #[] }
def k7m14 : Method := { name := "substring", desc := "(II)Ljava/lang/String;", sig := { parameters := [.int, .int], returnType := some (.object "java/lang/String") }, accessFlags := 1, code := some k7c14 }
def k7c15 : Code := { maxStack := 4, maxLocals := 1, code := jdk_42_method_139_code, exceptionTable := #[], attributes := #[] }
def k7m15 : Method := { name := "valueOf", desc := "(C)Ljava/lang/String;", sig := { parameters := [.char], returnType := some (.object "java/lang/String") }, accessFlags := 9, code := some k7c15 }
def k7c16 : Code := { maxStack := 4, maxLocals := 6, code := jdk_42_method_149_code, exceptionTable := #[], attributes := #[] }
def k7m16 : Method := { name := "<init>", desc := "([CIILjava/lang/Void;)V", sig := { parameters := [(.array .char), .int, .int, (.object "java/lang/Void")], returnType := none }, accessFlags := 2, code := some k7c16 }
def k7c17 : Code := { maxStack := 2, maxLocals := 3, code := jdk_42_method_151_code, exceptionTable := #[], attributes := #[] }
def k7m17 : Method := { name := "<init>", desc := "([BB)V", sig := { parameters := [(.array .byte), .byte], returnType := none }, accessFlags := 0, code := some k7c17 }
def k7c18 : Code := { maxStack := 1, maxLocals := 1, code := jdk_42_method_152_code, exceptionTable := #[], attributes := #[] }
def k7m18 : Method := { name := "coder", desc := "()B", sig := { parameters := [], returnType := some .byte }, accessFlags := 0, code := some k7c18 }
def k7c19 : Code := { maxStack := 1, maxLocals := 1, code := jdk_42_method_154_code, exceptionTable := #[], attributes := #[] }
def k7m19 : Method := { name := "isLatin1", desc := "()Z", sig := { parameters := [], returnType := some .boolean }, accessFlags := 0, code := some k7c19 }
def k7c20 : Code := { maxStack := 4, maxLocals := 3, code := jdk_42_method_157_code, exceptionTable := #[], attributes := #[] }
def k7m20 : Method := { name := "checkBoundsOffCount", desc := "(III)I", sig := { parameters := [.int, .int, .int], returnType := some .int }, accessFlags := 8, code := some k7c20 }
def k7c21 : Code := { maxStack := 4, maxLocals := 3, code := jdk_42_method_158_code, exceptionTable := #[], attributes := #[] }
def k7m21 : Method := { name := "checkBoundsBeginEnd", desc := "(III)V", sig := { parameters := [.int, .int, .int], returnType := none }, accessFlags := 8, code := some k7c21 }
/-- java/lang/String -/
def k7 : Class := { plain "java/lang/String" (some 0) with
  accessFlags := 49
  interfaces := #[2, 3, 4, 5, 6]
  cf := some (fileOf pool7 10 #[.nestMembers #[1103]] #[{ accessFlags := 1, nameIndex := 5, descriptorIndex := 6, attributes := #[] }, { accessFlags := 1, nameIndex := 5, descriptorIndex := 1010, attributes := #[] }, { accessFlags := 2, nameIndex := 5, descriptorIndex := 77, attributes := #[] }, { accessFlags := 10, nameIndex := 387, descriptorIndex := 388, attributes := #[] }, { accessFlags := 10, nameIndex := 394, descriptorIndex := 395, attributes := #[] }, { accessFlags := 10, nameIndex := 100, descriptorIndex := 101, attributes := #[] }, { accessFlags := 10, nameIndex := 402, descriptorIndex := 403, attributes := #[] }, { accessFlags := 10, nameIndex := 114, descriptorIndex := 115, attributes := #[] }, { accessFlags := 1, nameIndex := 5, descriptorIndex := 1229, attributes := #[] }, { accessFlags := 1, nameIndex := 507, descriptorIndex := 334, attributes := #[] }, { accessFlags := 1, nameIndex := 543, descriptorIndex := 573, attributes := #[] }, { accessFlags := 1, nameIndex := 643, descriptorIndex := 765, attributes := #[] }, { accessFlags := 1, nameIndex := 643, descriptorIndex := 636, attributes := #[] }, { accessFlags := 1, nameIndex := 683, descriptorIndex := 892, attributes := #[] }, { accessFlags := 1, nameIndex := 683, descriptorIndex := 684, attributes := #[] }, { accessFlags := 9, nameIndex := 782, descriptorIndex := 783, attributes := #[] }, { accessFlags := 2, nameIndex := 5, descriptorIndex := 29, attributes := #[] }, { accessFlags := 0, nameIndex := 5, descriptorIndex := 211, attributes := #[] }, { accessFlags := 0, nameIndex := 17, descriptorIndex := 337, attributes := #[] }, { accessFlags := 0, nameIndex := 494, descriptorIndex := 142, attributes := #[] }, { accessFlags := 8, nameIndex := 36, descriptorIndex := 37, attributes := #[] }, { accessFlags := 8, nameIndex := 523, descriptorIndex := 524, attributes := #[] }] 49 2 #[1106, 1108, 575, 1110, 1112] #[{ accessFlags := 18, nameIndex := 13, descriptorIndex := 14, attributes := #[] }, { accessFlags := 18, nameIndex := 17, descriptorIndex := 18, attributes := #[] }, { accessFlags := 2, nameIndex := 21, descriptorIndex := 22, attributes := #[] }, { accessFlags := 2, nameIndex := 25, descriptorIndex := 26, attributes := #[] }, { accessFlags := 26, nameIndex := 1116, descriptorIndex := 1117, attributes := #[] }, { accessFlags := 24, nameIndex := 40, descriptorIndex := 26, attributes := #[] }, { accessFlags := 26, nameIndex := 1101, descriptorIndex := 1102, attributes := #[] }, { accessFlags := 26, nameIndex := 1121, descriptorIndex := 1122, attributes := #[] }, { accessFlags := 25, nameIndex := 599, descriptorIndex := 600, attributes := #[] }, { accessFlags := 24, nameIndex := 1125, descriptorIndex := 18, attributes := #[] }, { accessFlags := 24, nameIndex := 1127, descriptorIndex := 18, attributes := #[] }])
  fields := #[{ name := "value", type := (.array .byte), accessFlags := 18, slot := 0, constantValue := 0 }, { name := "coder", type := .byte, accessFlags := 18, slot := 1, constantValue := 0 }, { name := "hash", type := .int, accessFlags := 2, slot := 2, constantValue := 0 }, { name := "hashIsZero", type := .boolean, accessFlags := 2, slot := 3, constantValue := 0 }, { name := "serialVersionUID", type := .long, accessFlags := 26, slot := 0, constantValue := 0 }, { name := "COMPACT_STRINGS", type := .boolean, accessFlags := 24, slot := 1, constantValue := 0 }, { name := "serialPersistentFields", type := (.array (.object "java/io/ObjectStreamField")), accessFlags := 26, slot := 2, constantValue := 0 }, { name := "REPL", type := .char, accessFlags := 26, slot := 3, constantValue := 0 }, { name := "CASE_INSENSITIVE_ORDER", type := (.object "java/util/Comparator"), accessFlags := 25, slot := 4, constantValue := 0 }, { name := "LATIN1", type := .byte, accessFlags := 24, slot := 5, constantValue := 0 }, { name := "UTF16", type := .byte, accessFlags := 24, slot := 6, constantValue := 0 }]
  methods := #[k7m0, k7m1, k7m2, k7m3, k7m4, k7m5, k7m6, k7m7, k7m8, k7m9, k7m10, k7m11, k7m12, k7m13, k7m14, k7m15, k7m16, k7m17, k7m18, k7m19, k7m20, k7m21]
  instanceTypes := #[(.array .byte), .byte, .int, .boolean]
  staticTypes := #[.long, .boolean, (.array (.object "java/io/ObjectStreamField")), .char, (.object "java/util/Comparator"), .byte, .byte]
  resolved := Array.replicate 1451 none
  statics := some 0 }

def pool8 : Array CpInfo := pool [(1, .methodref 2 3), (0, .class_ 4), (0, .nameAndType 5 6), (0, u "java/lang/Object"), (0, u "<init>"), (0, u "()V"), (0, .class_ 8), (0, u "java/lang/Record")] 13

def k8c0 : Code := { maxStack := 1, maxLocals := 1, code := jdk_30_method_1_code, exceptionTable := #[], attributes := #[] }
def k8m0 : Method := { name := "<init>", desc := "()V", sig := { parameters := [], returnType := none }, accessFlags := 4, code := some k8c0 }
/-- java/lang/Record -/
def k8 : Class := { plain "java/lang/Record" (some 0) with
  accessFlags := 1057
  interfaces := #[]
  cf := some (fileOf pool8 7 #[] #[{ accessFlags := 4, nameIndex := 5, descriptorIndex := 6, attributes := #[] }] 1057 2 #[] #[])
  fields := #[]
  methods := #[k8m0]
  instanceTypes := #[]
  staticTypes := #[]
  resolved := Array.replicate 22 none
  statics := none }

def pool9 : Array CpInfo := pool [(1, .methodref 2 3), (0, .class_ 4), (0, .nameAndType 5 6), (0, u "java/lang/Record"), (0, u "<init>"), (0, u "()V"), (0, .string 8), (0, u "output"), (0, .methodref 10 11), (0, .class_ 12), (0, .nameAndType 13 14), (0, u "java/util/Objects"), (0, u "requireNonNull"), (0, u "(Ljava/lang/Object;Ljava/lang/String;)Ljava/lang/Object;"), (0, .fieldref 16 17), (0, .class_ 18), (0, .nameAndType 19 20), (0, u "com/example/reasoned_retry/reasonedretry/Classifier$Failure"), (0, u "command"), (0, u "Ljava/lang/String;"), (0, .fieldref 16 22), (0, .nameAndType 23 24), (0, u "exitCode"), (0, u "I"), (0, .fieldref 16 26), (0, .nameAndType 8 20), (0, .methodref 28 29), (0, .class_ 30), (0, .nameAndType 31 32), (0, u "java/lang/String"), (0, u "lastIndexOf"), (0, u "(I)I"), (0, .methodref 28 34), (0, .nameAndType 35 36), (0, u "substring"), (0, u "(I)Ljava/lang/String;"), (0, .fieldref 38 39), (0, .class_ 40), (0, .nameAndType 41 42), (0, u "java/nio/charset/StandardCharsets"), (0, u "UTF_8"), (0, u "Ljava/nio/charset/Charset;"), (0, .methodref 28 44), (0, .nameAndType 5 45), (0, u "([BLjava/nio/charset/Charset;)V"), (0, .methodref 16 47), (0, .nameAndType 5 48), (0, u "(Ljava/lang/String;ILjava/lang/String;)V"), (15, u "of"), (0, u "(Ljava/lang/String;I[B)Lcom/example/reasoned_retry/reasonedretry/Classifier$Failure;"), (1, u "()Ljava/lang/String;"), (0, u "()I"), (4, .class_ 74), (0, u "com/example/reasoned_retry/reasonedretry/Classifier")] 21

def k9c0 : Code := { maxStack := 2, maxLocals := 4, code := prog_6_method_1_code, exceptionTable := #[], attributes := #[] }
def k9m0 : Method := { name := "<init>", desc := "(Ljava/lang/String;ILjava/lang/String;)V", sig := { parameters := [(.object "java/lang/String"), .int, (.object "java/lang/String")], returnType := none }, accessFlags := 0, code := some k9c0 }
def k9c1 : Code := { maxStack := 8, maxLocals := 4, code := prog_6_method_2_code, exceptionTable := #[], attributes := #[] }
def k9m1 : Method := { name := "of", desc := "(Ljava/lang/String;I[B)Lcom/example/reasoned_retry/reasonedretry/Classifier$Failure;", sig := { parameters := [(.object "java/lang/String"), .int, (.array .byte)], returnType := some (.object "com/example/reasoned_retry/reasonedretry/Classifier$Failure") }, accessFlags := 8, code := some k9c1 }
def k9c2 : Code := { maxStack := 1, maxLocals := 1, code := prog_6_method_6_code, exceptionTable := #[], attributes := #[] }
def k9m2 : Method := { name := "command", desc := "()Ljava/lang/String;", sig := { parameters := [], returnType := some (.object "java/lang/String") }, accessFlags := 1, code := some k9c2 }
def k9c3 : Code := { maxStack := 1, maxLocals := 1, code := prog_6_method_7_code, exceptionTable := #[], attributes := #[] }
def k9m3 : Method := { name := "exitCode", desc := "()I", sig := { parameters := [], returnType := some .int }, accessFlags := 1, code := some k9c3 }
def k9c4 : Code := { maxStack := 1, maxLocals := 1, code := prog_6_method_8_code, exceptionTable := #[], attributes := #[] }
def k9m4 : Method := { name := "output", desc := "()Ljava/lang/String;", sig := { parameters := [], returnType := some (.object "java/lang/String") }, accessFlags := 1, code := some k9c4 }
/-- com/example/reasoned_retry/reasonedretry/Classifier$Failure -/
def k9 : Class := { plain "com/example/reasoned_retry/reasonedretry/Classifier$Failure" (some 8) with
  accessFlags := 48
  interfaces := #[]
  cf := some (fileOf pool9 16 #[.nestHost 73] #[{ accessFlags := 0, nameIndex := 5, descriptorIndex := 48, attributes := #[] }, { accessFlags := 8, nameIndex := 64, descriptorIndex := 65, attributes := #[] }, { accessFlags := 1, nameIndex := 19, descriptorIndex := 67, attributes := #[] }, { accessFlags := 1, nameIndex := 23, descriptorIndex := 68, attributes := #[] }, { accessFlags := 1, nameIndex := 8, descriptorIndex := 67, attributes := #[] }] 48 2 #[] #[{ accessFlags := 18, nameIndex := 19, descriptorIndex := 20, attributes := #[] }, { accessFlags := 18, nameIndex := 23, descriptorIndex := 24, attributes := #[] }, { accessFlags := 18, nameIndex := 8, descriptorIndex := 20, attributes := #[] }])
  fields := #[{ name := "command", type := (.object "java/lang/String"), accessFlags := 18, slot := 0, constantValue := 0 }, { name := "exitCode", type := .int, accessFlags := 18, slot := 1, constantValue := 0 }, { name := "output", type := (.object "java/lang/String"), accessFlags := 18, slot := 2, constantValue := 0 }]
  methods := #[k9m0, k9m1, k9m2, k9m3, k9m4]
  instanceTypes := #[(.object "java/lang/String"), .int, (.object "java/lang/String")]
  staticTypes := #[]
  resolved := Array.replicate 96 none
  statics := none }

def pool10 : Array CpInfo := pool [(2, .class_ 4), (1, u "java/lang/Object"), (0, u "<init>"), (0, u "()V"), (14, .class_ 23), (1, u "java/nio/charset/StandardCharsets"), (0, u "US_ASCII"), (0, u "Ljava/nio/charset/Charset;"), (7, u "ISO_8859_1"), (7, u "UTF_8"), (5, u "UTF_16BE"), (5, u "UTF_16LE"), (5, u "UTF_16")] 8

def k10m0 : Method := { name := "<init>", desc := "()V", sig := { parameters := [], returnType := none }, accessFlags := 2, code := none }
/-- java/nio/charset/StandardCharsets -/
def k10 : Class := { plain "java/nio/charset/StandardCharsets" (some 0) with
  accessFlags := 49
  interfaces := #[]
  cf := some (fileOf pool10 21 #[] #[{ accessFlags := 2, nameIndex := 5, descriptorIndex := 6, attributes := #[] }] 49 2 #[] #[{ accessFlags := 25, nameIndex := 24, descriptorIndex := 25, attributes := #[] }, { accessFlags := 25, nameIndex := 33, descriptorIndex := 25, attributes := #[] }, { accessFlags := 25, nameIndex := 41, descriptorIndex := 25, attributes := #[] }, { accessFlags := 25, nameIndex := 47, descriptorIndex := 25, attributes := #[] }, { accessFlags := 25, nameIndex := 53, descriptorIndex := 25, attributes := #[] }, { accessFlags := 25, nameIndex := 59, descriptorIndex := 25, attributes := #[] }])
  fields := #[{ name := "US_ASCII", type := (.object "java/nio/charset/Charset"), accessFlags := 25, slot := 0, constantValue := 0 }, { name := "ISO_8859_1", type := (.object "java/nio/charset/Charset"), accessFlags := 25, slot := 1, constantValue := 0 }, { name := "UTF_8", type := (.object "java/nio/charset/Charset"), accessFlags := 25, slot := 2, constantValue := 0 }, { name := "UTF_16BE", type := (.object "java/nio/charset/Charset"), accessFlags := 25, slot := 3, constantValue := 0 }, { name := "UTF_16LE", type := (.object "java/nio/charset/Charset"), accessFlags := 25, slot := 4, constantValue := 0 }, { name := "UTF_16", type := (.object "java/nio/charset/Charset"), accessFlags := 25, slot := 5, constantValue := 0 }]
  methods := #[k10m0]
  instanceTypes := #[]
  staticTypes := #[(.object "java/nio/charset/Charset"), (.object "java/nio/charset/Charset"), (.object "java/nio/charset/Charset"), (.object "java/nio/charset/Charset"), (.object "java/nio/charset/Charset"), (.object "java/nio/charset/Charset")]
  resolved := Array.replicate 68 none
  statics := some 1 }

def pool11 : Array CpInfo := pool [(2, .class_ 4), (1, u "java/lang/Object"), (0, u "<init>"), (0, u "()V"), (35, .class_ 44), (1, u "java/util/Objects"), (0, u "requireNonNull"), (0, u "(Ljava/lang/Object;)Ljava/lang/Object;"), (47, u "(Ljava/lang/Object;Ljava/lang/String;)Ljava/lang/Object;")] 89

def k11m0 : Method := { name := "<init>", desc := "()V", sig := { parameters := [], returnType := none }, accessFlags := 2, code := none }
def k11c1 : Code := { maxStack := 2, maxLocals := 1, code := jdk_31_method_10_code, exceptionTable := #[], attributes := #[] }
def k11m1 : Method := { name := "requireNonNull", desc := "(Ljava/lang/Object;)Ljava/lang/Object;", sig := { parameters := [(.object "java/lang/Object")], returnType := some (.object "java/lang/Object") }, accessFlags := 9, code := some k11c1 }
def k11c2 : Code := { maxStack := 3, maxLocals := 2, code := jdk_31_method_11_code, exceptionTable := #[], attributes := #[] }
def k11m2 : Method := { name := "requireNonNull", desc := "(Ljava/lang/Object;Ljava/lang/String;)Ljava/lang/Object;", sig := { parameters := [(.object "java/lang/Object"), (.object "java/lang/String")], returnType := some (.object "java/lang/Object") }, accessFlags := 9, code := some k11c2 }
/-- java/util/Objects -/
def k11 : Class := { plain "java/util/Objects" (some 0) with
  accessFlags := 49
  interfaces := #[]
  cf := some (fileOf pool11 42 #[] #[{ accessFlags := 2, nameIndex := 5, descriptorIndex := 6, attributes := #[] }, { accessFlags := 9, nameIndex := 45, descriptorIndex := 46, attributes := #[] }, { accessFlags := 9, nameIndex := 45, descriptorIndex := 94, attributes := #[] }] 49 2 #[] #[])
  fields := #[]
  methods := #[k11m0, k11m1, k11m2]
  instanceTypes := #[]
  staticTypes := #[]
  resolved := Array.replicate 184 none
  statics := none }

def pool12 : Array CpInfo := pool [(18, .class_ 20), (1, u "java/nio/charset/Charset"), (0, u "cache1"), (0, u "[Ljava/lang/Object;"), (2, u "cache2"), (0, .class_ 27), (0, u "java/lang/Object"), (0, .class_ 29), (0, u "java/nio/charset/Charset$1"), (4, .class_ 36), (1, u "java/nio/charset/Charset$ThreadTrackHolder"), (21, .class_ 59), (0, u "java/nio/charset/Charset$2"), (11, .class_ 73), (1, u "java/nio/charset/Charset$ExtendedProviderHolder"), (22, u "standardProvider"), (0, u "Ljava/nio/charset/spi/CharsetProvider;"), (29, u "name"), (7, .class_ 136), (0, u "java/nio/charset/Charset$3"), (5, u "defaultCharset"), (0, u "Ljava/nio/charset/Charset;"), (14, u "zeroAliases"), (0, u "[Ljava/lang/String;"), (29, u "Ljava/lang/String;"), (2, u "aliases"), (2, u "aliasSet"), (0, u "Ljava/util/Set;"), (82, .class_ 280), (0, u "java/lang/Comparable"), (84, .class_ 366), (0, u "java/nio/charset/Charset$ExtendedProviderHolder$1")] 3

/-- java/nio/charset/Charset -/
def k12 : Class := { plain "java/nio/charset/Charset" (some 0) with
  accessFlags := 1057
  interfaces := #[3]
  cf := some (fileOf pool12 18 #[.nestMembers #[71, 365, 34, 135, 58, 28]] #[] 1057 26 #[279] #[{ accessFlags := 26, nameIndex := 96, descriptorIndex := 97, attributes := #[] }, { accessFlags := 26, nameIndex := 158, descriptorIndex := 159, attributes := #[] }, { accessFlags := 74, nameIndex := 21, descriptorIndex := 22, attributes := #[] }, { accessFlags := 74, nameIndex := 25, descriptorIndex := 22, attributes := #[] }, { accessFlags := 10, nameIndex := 142, descriptorIndex := 143, attributes := #[] }, { accessFlags := 18, nameIndex := 127, descriptorIndex := 189, attributes := #[] }, { accessFlags := 18, nameIndex := 192, descriptorIndex := 159, attributes := #[] }, { accessFlags := 2, nameIndex := 195, descriptorIndex := 196, attributes := #[] }])
  fields := #[{ name := "standardProvider", type := (.object "java/nio/charset/spi/CharsetProvider"), accessFlags := 26, slot := 0, constantValue := 0 }, { name := "zeroAliases", type := (.array (.object "java/lang/String")), accessFlags := 26, slot := 1, constantValue := 0 }, { name := "cache1", type := (.array (.object "java/lang/Object")), accessFlags := 74, slot := 2, constantValue := 0 }, { name := "cache2", type := (.array (.object "java/lang/Object")), accessFlags := 74, slot := 3, constantValue := 0 }, { name := "defaultCharset", type := (.object "java/nio/charset/Charset"), accessFlags := 10, slot := 4, constantValue := 0 }, { name := "name", type := (.object "java/lang/String"), accessFlags := 18, slot := 0, constantValue := 0 }, { name := "aliases", type := (.array (.object "java/lang/String")), accessFlags := 18, slot := 1, constantValue := 0 }, { name := "aliasSet", type := (.object "java/util/Set"), accessFlags := 2, slot := 2, constantValue := 0 }]
  methods := #[]
  instanceTypes := #[(.object "java/lang/String"), (.array (.object "java/lang/String")), (.object "java/util/Set")]
  staticTypes := #[(.object "java/nio/charset/spi/CharsetProvider"), (.array (.object "java/lang/String")), (.array (.object "java/lang/Object")), (.array (.object "java/lang/Object")), (.object "java/nio/charset/Charset")]
  resolved := Array.replicate 370 none
  statics := none }

def pool13 : Array CpInfo := pool [(1, .class_ 2), (0, u "sun/nio/cs/HistoricallyNamedCharset"), (0, .class_ 4), (0, u "java/lang/Object")] 4

/-- sun/nio/cs/HistoricallyNamedCharset -/
def k13 : Class := { plain "sun/nio/cs/HistoricallyNamedCharset" (some 0) with
  accessFlags := 1537
  interfaces := #[]
  cf := some (fileOf pool13 1 #[] #[] 1537 3 #[] #[])
  fields := #[]
  methods := #[]
  instanceTypes := #[]
  staticTypes := #[]
  resolved := Array.replicate 9 none
  statics := none }

def pool14 : Array CpInfo := pool [(2, .class_ 4), (1, u "java/nio/charset/Charset"), (130, .class_ 136), (0, u "sun/nio/cs/Unicode"), (0, .class_ 138), (0, u "sun/nio/cs/HistoricallyNamedCharset")] 15

/-- sun/nio/cs/Unicode -/
def k14 : Class := { plain "sun/nio/cs/Unicode" (some 12) with
  accessFlags := 1056
  interfaces := #[13]
  cf := some (fileOf pool14 135 #[] #[] 1056 2 #[137] #[])
  fields := #[]
  methods := #[]
  instanceTypes := #[(.object "java/lang/String"), (.array (.object "java/lang/String")), (.object "java/util/Set")]
  staticTypes := #[]
  resolved := Array.replicate 154 none
  statics := none }

def pool15 : Array CpInfo := pool [(10, .class_ 12), (1, u "sun/nio/cs/Unicode"), (0, u "<init>"), (3, .class_ 18), (0, u "sun/nio/cs/UTF_8$Decoder"), (3, .class_ 23), (0, u "sun/nio/cs/UTF_8$Encoder"), (15, .class_ 40), (0, u "sun/nio/cs/UTF_8"), (2, u "()V"), (2, u "INSTANCE"), (0, u "Lsun/nio/cs/UTF_8;"), (8, u "JLA"), (0, u "Ljdk/internal/access/JavaLangAccess;")] 26

def k15m0 : Method := { name := "<init>", desc := "()V", sig := { parameters := [], returnType := none }, accessFlags := 1, code := none }
/-- sun/nio/cs/UTF_8 -/
def k15 : Class := { plain "sun/nio/cs/UTF_8" (some 14) with
  accessFlags := 49
  interfaces := #[]
  cf := some (fileOf pool15 39 #[.nestMembers #[22, 17]] #[{ accessFlags := 1, nameIndex := 13, descriptorIndex := 43, attributes := #[] }] 49 10 #[] #[{ accessFlags := 25, nameIndex := 46, descriptorIndex := 47, attributes := #[] }, { accessFlags := 26, nameIndex := 56, descriptorIndex := 57, attributes := #[] }])
  fields := #[{ name := "INSTANCE", type := (.object "sun/nio/cs/UTF_8"), accessFlags := 25, slot := 0, constantValue := 0 }, { name := "JLA", type := (.object "jdk/internal/access/JavaLangAccess"), accessFlags := 26, slot := 1, constantValue := 0 }]
  methods := #[k15m0]
  instanceTypes := #[(.object "java/lang/String"), (.array (.object "java/lang/String")), (.object "java/util/Set")]
  staticTypes := #[(.object "sun/nio/cs/UTF_8"), (.object "jdk/internal/access/JavaLangAccess")]
  resolved := Array.replicate 84 none
  statics := some 2 }

def pool16 : Array CpInfo := pool [(1, .class_ 2), (0, u "java/lang/String"), (1, .class_ 6), (1, u "java/lang/Object"), (0, u "<init>"), (0, u "()V"), (5, .class_ 16), (1, u "java/lang/StringLatin1"), (0, u "inflate"), (2, .class_ 22), (1, u "java/lang/StringUTF16"), (3, .nameAndType 17 27), (0, u "([BI[BII)V"), (10, .methodref 39 40), (0, .class_ 41), (0, .nameAndType 42 43), (0, u "java/lang/Math"), (0, u "min"), (0, u "(II)I"), (44, .methodref 14 89), (0, .nameAndType 90 91), (0, u "canEncode"), (0, u "(I)Z"), (13, u "(C)Z"), (6, .methodref 1 113), (0, .nameAndType 7 114), (0, u "([BB)V"), (6, u "$assertionsDisabled"), (0, u "Z"), (8, .class_ 133), (1, u "java/util/Arrays"), (17, .string 152), (0, u ""), (43, u "newString"), (0, u "([BII)Ljava/lang/String;"), (23, .class_ 223), (1, u "java/lang/StringLatin1$LinesSpliterator"), (8, .methodref 131 233), (0, .nameAndType 234 235), (0, u "copyOfRange"), (0, u "([BII)[B"), (4, .methodref 20 26), (20, u "([BII)I"), (19, u "equals"), (0, u "([B[B)Z"), (26, u "lastIndexOf"), (70, u "toBytes"), (1, u "(C)[B"), (7, .class_ 391), (0, u "java/lang/StringLatin1$CharsSpliterator")] 3

def k16m0 : Method := { name := "<init>", desc := "()V", sig := { parameters := [], returnType := none }, accessFlags := 0, code := none }
def k16c1 : Code := { maxStack := 2, maxLocals := 1, code := jdk_43_method_3_code, exceptionTable := #[], attributes := #[] }
def k16m1 : Method := { name := "canEncode", desc := "(C)Z", sig := { parameters := [.char], returnType := some .boolean }, accessFlags := 9, code := some k16c1 }
def k16c2 : Code := { maxStack := 2, maxLocals := 1, code := jdk_43_method_4_code, exceptionTable := #[], attributes := #[] }
def k16m2 : Method := { name := "canEncode", desc := "(I)Z", sig := { parameters := [.int], returnType := some .boolean }, accessFlags := 9, code := some k16c2 }
def k16c3 : Code := { maxStack := 3, maxLocals := 3, code := jdk_43_method_13_code, exceptionTable := #[], attributes := #[] }
def k16m3 : Method := { name := "equals", desc := "([B[B)Z", sig := { parameters := [(.array .byte), (.array .byte)], returnType := some .boolean }, accessFlags := 9, code := some k16c3 }
def k16c4 : Code := { maxStack := 3, maxLocals := 4, code := jdk_43_method_27_code, exceptionTable := #[], attributes := #[] }
def k16m4 : Method := { name := "lastIndexOf", desc := "([BII)I", sig := { parameters := [(.array .byte), .int, .int], returnType := some .int }, accessFlags := 9, code := some k16c4 }
def k16c5 : Code := { maxStack := 4, maxLocals := 1, code := jdk_43_method_46_code, exceptionTable := #[], attributes := #[] }
def k16m5 : Method := { name := "toBytes", desc := "(C)[B", sig := { parameters := [.char], returnType := some (.array .byte) }, accessFlags := 9, code := some k16c5 }
def k16c6 : Code := { maxStack := 6, maxLocals := 3, code := jdk_43_method_47_code, exceptionTable := #[], attributes := #[] }
def k16m6 : Method := { name := "newString", desc := "([BII)Ljava/lang/String;", sig := { parameters := [(.array .byte), .int, .int], returnType := some (.object "java/lang/String") }, accessFlags := 9, code := some k16c6 }
def k16c7 : Code := { maxStack := 5, maxLocals := 5, code := jdk_43_method_50_code, exceptionTable := #[], attributes := #[] }
def k16m7 : Method := { name := "inflate", desc := "([BI[BII)V", sig := { parameters := [(.array .byte), .int, (.array .byte), .int, .int], returnType := none }, accessFlags := 9, code := some k16c7 }
/-- java/lang/StringLatin1 -/
def k16 : Class := { plain "java/lang/StringLatin1" (some 0) with
  accessFlags := 48
  interfaces := #[]
  cf := some (fileOf pool16 14 #[.nestMembers #[390, 221]] #[{ accessFlags := 0, nameIndex := 7, descriptorIndex := 8, attributes := #[] }, { accessFlags := 9, nameIndex := 90, descriptorIndex := 105, attributes := #[] }, { accessFlags := 9, nameIndex := 90, descriptorIndex := 91, attributes := #[] }, { accessFlags := 9, nameIndex := 281, descriptorIndex := 282, attributes := #[] }, { accessFlags := 9, nameIndex := 309, descriptorIndex := 261, attributes := #[] }, { accessFlags := 9, nameIndex := 380, descriptorIndex := 382, attributes := #[] }, { accessFlags := 9, nameIndex := 196, descriptorIndex := 197, attributes := #[] }, { accessFlags := 9, nameIndex := 17, descriptorIndex := 27, attributes := #[] }] 48 4 #[] #[{ accessFlags := 4120, nameIndex := 121, descriptorIndex := 122, attributes := #[] }])
  fields := #[{ name := "$assertionsDisabled", type := .boolean, accessFlags := 4120, slot := 0, constantValue := 0 }]
  methods := #[k16m0, k16m1, k16m2, k16m3, k16m4, k16m5, k16m6, k16m7]
  instanceTypes := #[]
  staticTypes := #[.boolean]
  resolved := Array.replicate 395 none
  statics := none }

def pool17 : Array CpInfo := pool [(3, .class_ 4), (0, u "java/lang/String"), (1, .class_ 8), (1, u "java/lang/Object"), (0, u "<init>"), (0, u "()V"), (0, .methodref 12 13), (0, .class_ 14), (0, .nameAndType 15 16), (0, u "java/lang/StringUTF16"), (0, u "newBytesLength"), (0, u "(I)I"), (3, .integer 1073741823), (23, .fieldref 12 45), (0, .nameAndType 46 47), (0, u "$assertionsDisabled"), (0, u "Z"), (0, .methodref 12 49), (0, .nameAndType 50 51), (0, u "length"), (0, u "([B)I"), (7, .fieldref 12 60), (0, .nameAndType 61 62), (0, u "HI_BYTE_SHIFT"), (0, u "I"), (0, .fieldref 12 64), (0, .nameAndType 65 62), (0, u "LO_BYTE_SHIFT"), (33, u "(II[B)V"), (9, u "newBytesFor"), (0, u "(I)[B"), (0, .methodref 12 112), (0, .nameAndType 113 114), (0, u "putChar"), (0, u "([BII)V"), (0, .methodref 12 116), (0, .nameAndType 117 118), (0, u "compress"), (0, u "([CI[BII)I"), (2, u "toBytes"), (0, u "([CII)[B"), (17, u "inflate"), (0, u "([BI[BII)V"), (31, .methodref 12 174), (0, .nameAndType 175 99), (0, u "checkBoundsOffCount"), (85, u "coderFromArrayLen"), (0, u "([BI)B"), (18, u "(III)I"), (87, .class_ 371), (1, u "java/lang/StringUTF16$LinesSpliterator"), (47, .methodref 3 420), (0, .nameAndType 175 281), (9, u "MAX_LENGTH"), (44, u "(C)[B"), (151, .class_ 628), (0, u "java/lang/StringUTF16$CodePointsSpliterator"), (0, .class_ 630), (0, u "java/lang/StringUTF16$CharsSpliterator")] 4

def k17m0 : Method := { name := "<init>", desc := "()V", sig := { parameters := [], returnType := none }, accessFlags := 0, code := none }
def k17c1 : Code := { maxStack := 1, maxLocals := 1, code := jdk_52_method_2_code, exceptionTable := #[], attributes := #[] }
def k17m1 : Method := { name := "newBytesFor", desc := "(I)[B", sig := { parameters := [.int], returnType := some (.array .byte) }, accessFlags := 9, code := some k17c1 }
def k17c2 : Code := { maxStack := 4, maxLocals := 1, code := jdk_52_method_3_code, exceptionTable := #[], attributes := #[] }
def k17m2 : Method := { name := "newBytesLength", desc := "(I)I", sig := { parameters := [.int], returnType := some .int }, accessFlags := 9, code := some k17c2 }
def k17c3 : Code := { maxStack := 4, maxLocals := 3, code := jdk_52_method_4_code, exceptionTable := #[], attributes := #[] }
def k17m3 : Method := { name := "putChar", desc := "([BII)V", sig := { parameters := [(.array .byte), .int, .int], returnType := none }, accessFlags := 8, code := some k17c3 }
def k17c4 : Code := { maxStack := 2, maxLocals := 1, code := jdk_52_method_6_code, exceptionTable := #[], attributes := #[] }
def k17m4 : Method := { name := "length", desc := "([B)I", sig := { parameters := [(.array .byte)], returnType := some .int }, accessFlags := 9, code := some k17c4 }
def k17c5 : Code := { maxStack := 2, maxLocals := 2, code := jdk_52_method_15_code, exceptionTable := #[], attributes := #[] }
def k17m5 : Method := { name := "coderFromArrayLen", desc := "([BI)B", sig := { parameters := [(.array .byte), .int], returnType := some .byte }, accessFlags := 8, code := some k17c5 }
def k17c6 : Code := { maxStack := 5, maxLocals := 6, code := jdk_52_method_16_code, exceptionTable := #[], attributes := #[] }
def k17m6 : Method := { name := "compress", desc := "([CII)[B", sig := { parameters := [(.array .char), .int, .int], returnType := some (.array .byte) }, accessFlags := 9, code := some k17c6 }
def k17c7 : Code := { maxStack := 3, maxLocals := 7, code := jdk_52_method_21_code, exceptionTable := #[], attributes := #[] }
def k17m7 : Method := { name := "compress", desc := "([CI[BII)I", sig := { parameters := [(.array .char), .int, (.array .byte), .int, .int], returnType := some .int }, accessFlags := 9, code := some k17c7 }
def k17c8 : Code := { maxStack := 3, maxLocals := 2, code := jdk_52_method_24_code, exceptionTable := #[], attributes := #[] }
def k17m8 : Method := { name := "toBytes", desc := "(C)[B", sig := { parameters := [.char], returnType := some (.array .byte) }, accessFlags := 9, code := some k17c8 }
def k17c9 : Code := { maxStack := 4, maxLocals := 6, code := jdk_52_method_86_code, exceptionTable := #[], attributes := #[] }
def k17m9 : Method := { name := "inflate", desc := "([BI[BII)V", sig := { parameters := [(.array .byte), .int, (.array .byte), .int, .int], returnType := none }, accessFlags := 9, code := some k17c9 }
def k17c10 : Code := { maxStack := 3, maxLocals := 3, code := jdk_52_method_94_code, exceptionTable := #[], attributes := #[] }
def k17m10 : Method := { name := "checkBoundsOffCount", desc := "(II[B)V", sig := { parameters := [.int, .int, (.array .byte)], returnType := none }, accessFlags := 9, code := some k17c10 }
/-- java/lang/StringUTF16 -/
def k17 : Class := { plain "java/lang/StringUTF16" (some 0) with
  accessFlags := 48
  interfaces := #[]
  cf := some (fileOf pool17 12 #[.nestMembers #[627, 629, 369]] #[{ accessFlags := 0, nameIndex := 9, descriptorIndex := 10, attributes := #[] }, { accessFlags := 9, nameIndex := 109, descriptorIndex := 110, attributes := #[] }, { accessFlags := 9, nameIndex := 15, descriptorIndex := 16, attributes := #[] }, { accessFlags := 8, nameIndex := 113, descriptorIndex := 114, attributes := #[] }, { accessFlags := 9, nameIndex := 50, descriptorIndex := 51, attributes := #[] }, { accessFlags := 8, nameIndex := 261, descriptorIndex := 262, attributes := #[] }, { accessFlags := 9, nameIndex := 117, descriptorIndex := 122, attributes := #[] }, { accessFlags := 9, nameIndex := 117, descriptorIndex := 118, attributes := #[] }, { accessFlags := 9, nameIndex := 121, descriptorIndex := 475, attributes := #[] }, { accessFlags := 9, nameIndex := 140, descriptorIndex := 141, attributes := #[] }, { accessFlags := 9, nameIndex := 175, descriptorIndex := 99, attributes := #[] }] 48 6 #[] #[{ accessFlags := 26, nameIndex := 61, descriptorIndex := 62, attributes := #[] }, { accessFlags := 26, nameIndex := 65, descriptorIndex := 62, attributes := #[] }, { accessFlags := 24, nameIndex := 430, descriptorIndex := 62, attributes := #[] }, { accessFlags := 4120, nameIndex := 46, descriptorIndex := 47, attributes := #[] }])
  fields := #[{ name := "HI_BYTE_SHIFT", type := .int, accessFlags := 26, slot := 0, constantValue := 0 }, { name := "LO_BYTE_SHIFT", type := .int, accessFlags := 26, slot := 1, constantValue := 0 }, { name := "MAX_LENGTH", type := .int, accessFlags := 24, slot := 2, constantValue := 0 }, { name := "$assertionsDisabled", type := .boolean, accessFlags := 4120, slot := 3, constantValue := 0 }]
  methods := #[k17m0, k17m1, k17m2, k17m3, k17m4, k17m5, k17m6, k17m7, k17m8, k17m9, k17m10]
  instanceTypes := #[]
  staticTypes := #[.int, .int, .int, .boolean]
  resolved := Array.replicate 635 none
  statics := some 3 }

def pool18 : Array CpInfo := pool [(2, .class_ 4), (1, u "java/lang/Object"), (0, u "<init>"), (0, u "()V"), (1, .class_ 10), (1, u "java/lang/StringCoding"), (0, u "countPositives"), (0, u "([BII)I")] 36

def k18m0 : Method := { name := "<init>", desc := "()V", sig := { parameters := [], returnType := none }, accessFlags := 2, code := none }
def k18c1 : Code := { maxStack := 2, maxLocals := 5, code := jdk_123_method_3_code, exceptionTable := #[], attributes := #[] }
def k18m1 : Method := { name := "countPositives", desc := "([BII)I", sig := { parameters := [(.array .byte), .int, .int], returnType := some .int }, accessFlags := 9, code := some k18c1 }
/-- java/lang/StringCoding -/
def k18 : Class := { plain "java/lang/StringCoding" (some 0) with
  accessFlags := 32
  interfaces := #[]
  cf := some (fileOf pool18 8 #[] #[{ accessFlags := 2, nameIndex := 5, descriptorIndex := 6, attributes := #[] }, { accessFlags := 9, nameIndex := 11, descriptorIndex := 12, attributes := #[] }] 32 2 #[] #[])
  fields := #[]
  methods := #[k18m0, k18m1]
  instanceTypes := #[]
  staticTypes := #[]
  resolved := Array.replicate 49 none
  statics := none }

def pool19 : Array CpInfo := pool [(2, .class_ 4), (1, u "java/lang/Object"), (0, u "<init>"), (0, u "()V"), (7, .class_ 16), (1, u "java/util/Arrays"), (57, .class_ 76), (1, u "java/util/Arrays$NaturalOrder"), (32, u "()Ljava/lang/Object;"), (3, .class_ 115), (1, u "java/util/Arrays$LegacyMergeSort"), (1, u "Z"), (10, .nameAndType 129 109), (0, u "clone"), (9, u "copyOfRange"), (10, .methodref 151 152), (0, .class_ 153), (0, .nameAndType 154 155), (0, u "java/lang/System"), (0, u "arraycopy"), (0, u "(Ljava/lang/Object;ILjava/lang/Object;II)V"), (146, u "copyOf"), (1, .methodref 305 306), (0, .class_ 307), (0, .nameAndType 308 309), (0, u "java/lang/Math"), (0, u "min"), (0, u "(II)I"), (0, .methodref 311 128), (0, .class_ 312), (0, u "[B"), (26, .methodref 14 340), (0, .nameAndType 341 342), (0, u "copyOfRangeByte"), (0, u "([BII)[B"), (0, .methodref 14 344), (0, .nameAndType 345 346), (0, u "checkLength"), (0, u "(II)V"), (28, .class_ 376), (0, u "java/util/Arrays$ArrayList"), (68, u "$assertionsDisabled"), (269, u "MIN_ARRAY_SORT_GRAN"), (0, u "I"), (2, u "INSERTIONSORT_THRESHOLD"), (149, u "([BI)[B"), (105, .class_ 976), (0, u "java/util/Arrays$ArrayItr")] 52

def k19m0 : Method := { name := "<init>", desc := "()V", sig := { parameters := [], returnType := none }, accessFlags := 2, code := none }
def k19c1 : Code := { maxStack := 6, maxLocals := 3, code := jdk_65_method_121_code, exceptionTable := #[], attributes := #[] }
def k19m1 : Method := { name := "copyOf", desc := "([BI)[B", sig := { parameters := [(.array .byte), .int], returnType := some (.array .byte) }, accessFlags := 9, code := some k19c1 }
def k19c2 : Code := { maxStack := 4, maxLocals := 2, code := jdk_65_method_131_code, exceptionTable := #[], attributes := #[] }
def k19m2 : Method := { name := "checkLength", desc := "(II)V", sig := { parameters := [.int, .int], returnType := none }, accessFlags := 10, code := some k19c2 }
def k19c3 : Code := { maxStack := 3, maxLocals := 3, code := jdk_65_method_132_code, exceptionTable := #[], attributes := #[] }
def k19m3 : Method := { name := "copyOfRange", desc := "([BII)[B", sig := { parameters := [(.array .byte), .int, .int], returnType := some (.array .byte) }, accessFlags := 9, code := some k19c3 }
def k19c4 : Code := { maxStack := 6, maxLocals := 5, code := jdk_65_method_133_code, exceptionTable := #[], attributes := #[] }
def k19m4 : Method := { name := "copyOfRangeByte", desc := "([BII)[B", sig := { parameters := [(.array .byte), .int, .int], returnType := some (.array .byte) }, accessFlags := 10, code := some k19c4 }
/-- java/util/Arrays -/
def k19 : Class := { plain "java/util/Arrays" (some 0) with
  accessFlags := 49
  interfaces := #[]
  cf := some (fileOf pool19 14 #[.nestMembers #[975, 375, 113, 74]] #[{ accessFlags := 2, nameIndex := 5, descriptorIndex := 6, attributes := #[] }, { accessFlags := 9, nameIndex := 302, descriptorIndex := 869, attributes := #[] }, { accessFlags := 10, nameIndex := 345, descriptorIndex := 346, attributes := #[] }, { accessFlags := 9, nameIndex := 139, descriptorIndex := 342, attributes := #[] }, { accessFlags := 10, nameIndex := 341, descriptorIndex := 342, attributes := #[] }] 49 2 #[] #[{ accessFlags := 26, nameIndex := 715, descriptorIndex := 716, attributes := #[] }, { accessFlags := 26, nameIndex := 719, descriptorIndex := 716, attributes := #[] }, { accessFlags := 4120, nameIndex := 445, descriptorIndex := 117, attributes := #[] }])
  fields := #[{ name := "MIN_ARRAY_SORT_GRAN", type := .int, accessFlags := 26, slot := 0, constantValue := 0 }, { name := "INSERTIONSORT_THRESHOLD", type := .int, accessFlags := 26, slot := 1, constantValue := 0 }, { name := "$assertionsDisabled", type := .boolean, accessFlags := 4120, slot := 2, constantValue := 0 }]
  methods := #[k19m0, k19m1, k19m2, k19m3, k19m4]
  instanceTypes := #[]
  staticTypes := #[.int, .int, .boolean]
  resolved := Array.replicate 1029 none
  statics := none }

def pool20 : Array CpInfo := pool [(1, .class_ 2), (0, u "java/lang/Cloneable"), (0, .class_ 4), (0, u "java/lang/Object")] 2

/-- java/lang/Cloneable -/
def k20 : Class := { plain "java/lang/Cloneable" (some 0) with
  accessFlags := 1537
  interfaces := #[]
  cf := some (fileOf pool20 1 #[] #[] 1537 3 #[] #[])
  fields := #[]
  methods := #[]
  instanceTypes := #[]
  staticTypes := #[]
  resolved := Array.replicate 7 none
  statics := none }

def pool21 : Array CpInfo := pool [(2, .class_ 4), (1, u "java/lang/Object"), (0, u "<init>"), (0, u "()V"), (17, .class_ 26), (1, u "jdk/internal/util/Preconditions"), (20, u "checkFromToIndex"), (1, u "checkFromIndexSize"), (5, .class_ 56), (0, u "jdk/internal/util/Preconditions$4"), (57, .class_ 115), (0, u "jdk/internal/util/Preconditions$1"), (7, u "SIOOBE_FORMATTER"), (0, u "Ljava/util/function/BiFunction;"), (0, .class_ 126), (0, u "jdk/internal/util/Preconditions$2"), (3, u "AIOOBE_FORMATTER"), (0, .class_ 132), (0, u "jdk/internal/util/Preconditions$3"), (3, u "IOOBE_FORMATTER"), (46, u "(IIILjava/util/function/BiFunction;)I")] 10

def k21m0 : Method := { name := "<init>", desc := "()V", sig := { parameters := [], returnType := none }, accessFlags := 1, code := none }
def k21c1 : Code := { maxStack := 4, maxLocals := 4, code := jdk_41_method_12_code, exceptionTable := #[], attributes := #[] }
def k21m1 : Method := { name := "checkFromToIndex", desc := "(IIILjava/util/function/BiFunction;)I", sig := { parameters := [.int, .int, .int, (.object "java/util/function/BiFunction")], returnType := some .int }, accessFlags := 9, code := some k21c1 }
def k21c2 : Code := { maxStack := 4, maxLocals := 4, code := jdk_41_method_13_code, exceptionTable := #[], attributes := #[] }
def k21m2 : Method := { name := "checkFromIndexSize", desc := "(IIILjava/util/function/BiFunction;)I", sig := { parameters := [.int, .int, .int, (.object "java/util/function/BiFunction")], returnType := some .int }, accessFlags := 9, code := some k21c2 }
/-- jdk/internal/util/Preconditions -/
def k21 : Class := { plain "jdk/internal/util/Preconditions" (some 0) with
  accessFlags := 33
  interfaces := #[]
  cf := some (fileOf pool21 24 #[.nestMembers #[55, 131, 125, 114]] #[{ accessFlags := 1, nameIndex := 5, descriptorIndex := 6, attributes := #[] }, { accessFlags := 9, nameIndex := 47, descriptorIndex := 183, attributes := #[] }, { accessFlags := 9, nameIndex := 49, descriptorIndex := 183, attributes := #[] }] 33 2 #[] #[{ accessFlags := 25, nameIndex := 123, descriptorIndex := 124, attributes := #[] }, { accessFlags := 25, nameIndex := 130, descriptorIndex := 124, attributes := #[] }, { accessFlags := 25, nameIndex := 136, descriptorIndex := 124, attributes := #[] }])
  fields := #[{ name := "SIOOBE_FORMATTER", type := (.object "java/util/function/BiFunction"), accessFlags := 25, slot := 0, constantValue := 0 }, { name := "AIOOBE_FORMATTER", type := (.object "java/util/function/BiFunction"), accessFlags := 25, slot := 1, constantValue := 0 }, { name := "IOOBE_FORMATTER", type := (.object "java/util/function/BiFunction"), accessFlags := 25, slot := 2, constantValue := 0 }]
  methods := #[k21m0, k21m1, k21m2]
  instanceTypes := #[]
  staticTypes := #[(.object "java/util/function/BiFunction"), (.object "java/util/function/BiFunction"), (.object "java/util/function/BiFunction")]
  resolved := Array.replicate 194 none
  statics := some 4 }

def pool22 : Array CpInfo := pool [(1, .class_ 2), (0, u "java/lang/Character"), (18, u "value"), (0, u "C"), (19, .class_ 44), (1, u "java/lang/Object"), (3, .class_ 50), (1, u "java/lang/Character$CharacterCache"), (24, .integer 55296), (5, u "(C)Z"), (202, u "$assertionsDisabled"), (0, u "Z"), (21, .class_ 309), (1, u "java/lang/Character$UnicodeBlock"), (73, u "TYPE"), (0, u "Ljava/lang/Class;"), (0, .class_ 386), (0, u "java/io/Serializable"), (0, .class_ 388), (0, u "java/lang/Comparable"), (0, .class_ 390), (0, u "java/lang/constant/Constable"), (0, u "MIN_RADIX"), (0, u "I"), (2, u "MAX_RADIX"), (1, u "MIN_VALUE"), (1, u "MAX_VALUE"), (3, u "UNASSIGNED"), (0, u "B"), (0, u "UPPERCASE_LETTER"), (1, u "LOWERCASE_LETTER"), (0, u "TITLECASE_LETTER"), (1, u "MODIFIER_LETTER"), (1, u "OTHER_LETTER"), (1, u "NON_SPACING_MARK"), (1, u "ENCLOSING_MARK"), (1, u "COMBINING_SPACING_MARK"), (1, u "DECIMAL_DIGIT_NUMBER"), (1, u "LETTER_NUMBER"), (1, u "OTHER_NUMBER"), (1, u "SPACE_SEPARATOR"), (1, u "LINE_SEPARATOR"), (1, u "PARAGRAPH_SEPARATOR"), (1, u "CONTROL"), (1, u "FORMAT"), (1, u "PRIVATE_USE"), (1, u "SURROGATE"), (1, u "DASH_PUNCTUATION"), (1, u "START_PUNCTUATION"), (1, u "END_PUNCTUATION"), (1, u "CONNECTOR_PUNCTUATION"), (1, u "OTHER_PUNCTUATION"), (1, u "MATH_SYMBOL"), (1, u "CURRENCY_SYMBOL"), (1, u "MODIFIER_SYMBOL"), (1, u "OTHER_SYMBOL"), (1, u "INITIAL_QUOTE_PUNCTUATION"), (1, u "FINAL_QUOTE_PUNCTUATION"), (1, u "ERROR"), (1, u "DIRECTIONALITY_UNDEFINED"), (0, u "DIRECTIONALITY_LEFT_TO_RIGHT"), (0, u "DIRECTIONALITY_RIGHT_TO_LEFT"), (0, u "DIRECTIONALITY_RIGHT_TO_LEFT_ARABIC"), (0, u "DIRECTIONALITY_EUROPEAN_NUMBER"), (0, u "DIRECTIONALITY_EUROPEAN_NUMBER_SEPARATOR"), (0, u "DIRECTIONALITY_EUROPEAN_NUMBER_TERMINATOR"), (0, u "DIRECTIONALITY_ARABIC_NUMBER"), (0, u "DIRECTIONALITY_COMMON_NUMBER_SEPARATOR"), (0, u "DIRECTIONALITY_NONSPACING_MARK"), (0, u "DIRECTIONALITY_BOUNDARY_NEUTRAL"), (0, u "DIRECTIONALITY_PARAGRAPH_SEPARATOR"), (0, u "DIRECTIONALITY_SEGMENT_SEPARATOR"), (0, u "DIRECTIONALITY_WHITESPACE"), (0, u "DIRECTIONALITY_OTHER_NEUTRALS"), (0, u "DIRECTIONALITY_LEFT_TO_RIGHT_EMBEDDING"), (0, u "DIRECTIONALITY_LEFT_TO_RIGHT_OVERRIDE"), (0, u "DIRECTIONALITY_RIGHT_TO_LEFT_EMBEDDING"), (0, u "DIRECTIONALITY_RIGHT_TO_LEFT_OVERRIDE"), (1, u "DIRECTIONALITY_POP_DIRECTIONAL_FORMAT"), (0, u "DIRECTIONALITY_LEFT_TO_RIGHT_ISOLATE"), (0, u "DIRECTIONALITY_RIGHT_TO_LEFT_ISOLATE"), (0, u "DIRECTIONALITY_FIRST_STRONG_ISOLATE"), (0, u "DIRECTIONALITY_POP_DIRECTIONAL_ISOLATE"), (0, u "MIN_HIGH_SURROGATE"), (0, u "MAX_HIGH_SURROGATE"), (1, u "MIN_LOW_SURROGATE"), (0, u "MAX_LOW_SURROGATE"), (1, u "MIN_SURROGATE"), (0, u "MAX_SURROGATE"), (0, u "MIN_SUPPLEMENTARY_CODE_POINT"), (0, u "MIN_CODE_POINT"), (0, u "MAX_CODE_POINT"), (1, u "serialVersionUID"), (0, u "J"), (2, u "SIZE"), (0, u "BYTES"), (24, u "isSurrogate"), (63, .class_ 596), (0, u "java/lang/Character$UnicodeScript"), (0, .class_ 598), (0, u "java/lang/Character$Subset")] 5

def k22c0 : Code := { maxStack := 2, maxLocals := 1, code := jdk_89_method_16_code, exceptionTable := #[], attributes := #[] }
def k22m0 : Method := { name := "isSurrogate", desc := "(C)Z", sig := { parameters := [.char], returnType := some .boolean }, accessFlags := 9, code := some k22c0 }
/-- java/lang/Character -/
def k22 : Class := { plain "java/lang/Character" (some 0) with
  accessFlags := 49
  interfaces := #[2, 3, 5]
  cf := some (fileOf pool22 1 #[.nestMembers #[48, 595, 307, 597]] #[{ accessFlags := 9, nameIndex := 531, descriptorIndex := 81, attributes := #[] }] 49 42 #[385, 387, 389] #[{ accessFlags := 25, nameIndex := 391, descriptorIndex := 392, attributes := #[] }, { accessFlags := 25, nameIndex := 395, descriptorIndex := 392, attributes := #[] }, { accessFlags := 25, nameIndex := 397, descriptorIndex := 22, attributes := #[] }, { accessFlags := 25, nameIndex := 399, descriptorIndex := 22, attributes := #[] }, { accessFlags := 25, nameIndex := 383, descriptorIndex := 384, attributes := #[] }, { accessFlags := 25, nameIndex := 403, descriptorIndex := 404, attributes := #[] }, { accessFlags := 25, nameIndex := 405, descriptorIndex := 404, attributes := #[] }, { accessFlags := 25, nameIndex := 407, descriptorIndex := 404, attributes := #[] }, { accessFlags := 25, nameIndex := 408, descriptorIndex := 404, attributes := #[] }, { accessFlags := 25, nameIndex := 410, descriptorIndex := 404, attributes := #[] }, { accessFlags := 25, nameIndex := 412, descriptorIndex := 404, attributes := #[] }, { accessFlags := 25, nameIndex := 414, descriptorIndex := 404, attributes := #[] }, { accessFlags := 25, nameIndex := 416, descriptorIndex := 404, attributes := #[] }, { accessFlags := 25, nameIndex := 418, descriptorIndex := 404, attributes := #[] }, { accessFlags := 25, nameIndex := 420, descriptorIndex := 404, attributes := #[] }, { accessFlags := 25, nameIndex := 422, descriptorIndex := 404, attributes := #[] }, { accessFlags := 25, nameIndex := 424, descriptorIndex := 404, attributes := #[] }, { accessFlags := 25, nameIndex := 426, descriptorIndex := 404, attributes := #[] }, { accessFlags := 25, nameIndex := 428, descriptorIndex := 404, attributes := #[] }, { accessFlags := 25, nameIndex := 430, descriptorIndex := 404, attributes := #[] }, { accessFlags := 25, nameIndex := 432, descriptorIndex := 404, attributes := #[] }, { accessFlags := 25, nameIndex := 434, descriptorIndex := 404, attributes := #[] }, { accessFlags := 25, nameIndex := 436, descriptorIndex := 404, attributes := #[] }, { accessFlags := 25, nameIndex := 438, descriptorIndex := 404, attributes := #[] }, { accessFlags := 25, nameIndex := 440, descriptorIndex := 404, attributes := #[] }, { accessFlags := 25, nameIndex := 442, descriptorIndex := 404, attributes := #[] }, { accessFlags := 25, nameIndex := 444, descriptorIndex := 404, attributes := #[] }, { accessFlags := 25, nameIndex := 446, descriptorIndex := 404, attributes := #[] }, { accessFlags := 25, nameIndex := 448, descriptorIndex := 404, attributes := #[] }, { accessFlags := 25, nameIndex := 450, descriptorIndex := 404, attributes := #[] }, { accessFlags := 25, nameIndex := 452, descriptorIndex := 404, attributes := #[] }, { accessFlags := 25, nameIndex := 454, descriptorIndex := 404, attributes := #[] }, { accessFlags := 25, nameIndex := 456, descriptorIndex := 404, attributes := #[] }, { accessFlags := 25, nameIndex := 458, descriptorIndex := 404, attributes := #[] }, { accessFlags := 25, nameIndex := 460, descriptorIndex := 404, attributes := #[] }, { accessFlags := 24, nameIndex := 462, descriptorIndex := 392, attributes := #[] }, { accessFlags := 25, nameIndex := 464, descriptorIndex := 404, attributes := #[] }, { accessFlags := 25, nameIndex := 465, descriptorIndex := 404, attributes := #[] }, { accessFlags := 25, nameIndex := 466, descriptorIndex := 404, attributes := #[] }, { accessFlags := 25, nameIndex := 467, descriptorIndex := 404, attributes := #[] }, { accessFlags := 25, nameIndex := 468, descriptorIndex := 404, attributes := #[] }, { accessFlags := 25, nameIndex := 469, descriptorIndex := 404, attributes := #[] }, { accessFlags := 25, nameIndex := 470, descriptorIndex := 404, attributes := #[] }, { accessFlags := 25, nameIndex := 471, descriptorIndex := 404, attributes := #[] }, { accessFlags := 25, nameIndex := 472, descriptorIndex := 404, attributes := #[] }, { accessFlags := 25, nameIndex := 473, descriptorIndex := 404, attributes := #[] }, { accessFlags := 25, nameIndex := 474, descriptorIndex := 404, attributes := #[] }, { accessFlags := 25, nameIndex := 475, descriptorIndex := 404, attributes := #[] }, { accessFlags := 25, nameIndex := 476, descriptorIndex := 404, attributes := #[] }, { accessFlags := 25, nameIndex := 477, descriptorIndex := 404, attributes := #[] }, { accessFlags := 25, nameIndex := 478, descriptorIndex := 404, attributes := #[] }, { accessFlags := 25, nameIndex := 479, descriptorIndex := 404, attributes := #[] }, { accessFlags := 25, nameIndex := 480, descriptorIndex := 404, attributes := #[] }, { accessFlags := 25, nameIndex := 481, descriptorIndex := 404, attributes := #[] }, { accessFlags := 25, nameIndex := 482, descriptorIndex := 404, attributes := #[] }, { accessFlags := 25, nameIndex := 484, descriptorIndex := 404, attributes := #[] }, { accessFlags := 25, nameIndex := 485, descriptorIndex := 404, attributes := #[] }, { accessFlags := 25, nameIndex := 486, descriptorIndex := 404, attributes := #[] }, { accessFlags := 25, nameIndex := 487, descriptorIndex := 404, attributes := #[] }, { accessFlags := 25, nameIndex := 488, descriptorIndex := 404, attributes := #[] }, { accessFlags := 25, nameIndex := 489, descriptorIndex := 22, attributes := #[] }, { accessFlags := 25, nameIndex := 490, descriptorIndex := 22, attributes := #[] }, { accessFlags := 25, nameIndex := 492, descriptorIndex := 22, attributes := #[] }, { accessFlags := 25, nameIndex := 493, descriptorIndex := 22, attributes := #[] }, { accessFlags := 25, nameIndex := 495, descriptorIndex := 22, attributes := #[] }, { accessFlags := 25, nameIndex := 496, descriptorIndex := 22, attributes := #[] }, { accessFlags := 25, nameIndex := 497, descriptorIndex := 392, attributes := #[] }, { accessFlags := 25, nameIndex := 498, descriptorIndex := 392, attributes := #[] }, { accessFlags := 25, nameIndex := 499, descriptorIndex := 392, attributes := #[] }, { accessFlags := 18, nameIndex := 21, descriptorIndex := 22, attributes := #[] }, { accessFlags := 26, nameIndex := 501, descriptorIndex := 502, attributes := #[] }, { accessFlags := 25, nameIndex := 505, descriptorIndex := 392, attributes := #[] }, { accessFlags := 25, nameIndex := 506, descriptorIndex := 392, attributes := #[] }, { accessFlags := 4120, nameIndex := 284, descriptorIndex := 285, attributes := #[] }])
  fields := #[{ name := "MIN_RADIX", type := .int, accessFlags := 25, slot := 0, constantValue := 0 }, { name := "MAX_RADIX", type := .int, accessFlags := 25, slot := 1, constantValue := 0 }, { name := "MIN_VALUE", type := .char, accessFlags := 25, slot := 2, constantValue := 0 }, { name := "MAX_VALUE", type := .char, accessFlags := 25, slot := 3, constantValue := 0 }, { name := "TYPE", type := (.object "java/lang/Class"), accessFlags := 25, slot := 4, constantValue := 0 }, { name := "UNASSIGNED", type := .byte, accessFlags := 25, slot := 5, constantValue := 0 }, { name := "UPPERCASE_LETTER", type := .byte, accessFlags := 25, slot := 6, constantValue := 0 }, { name := "LOWERCASE_LETTER", type := .byte, accessFlags := 25, slot := 7, constantValue := 0 }, { name := "TITLECASE_LETTER", type := .byte, accessFlags := 25, slot := 8, constantValue := 0 }, { name := "MODIFIER_LETTER", type := .byte, accessFlags := 25, slot := 9, constantValue := 0 }, { name := "OTHER_LETTER", type := .byte, accessFlags := 25, slot := 10, constantValue := 0 }, { name := "NON_SPACING_MARK", type := .byte, accessFlags := 25, slot := 11, constantValue := 0 }, { name := "ENCLOSING_MARK", type := .byte, accessFlags := 25, slot := 12, constantValue := 0 }, { name := "COMBINING_SPACING_MARK", type := .byte, accessFlags := 25, slot := 13, constantValue := 0 }, { name := "DECIMAL_DIGIT_NUMBER", type := .byte, accessFlags := 25, slot := 14, constantValue := 0 }, { name := "LETTER_NUMBER", type := .byte, accessFlags := 25, slot := 15, constantValue := 0 }, { name := "OTHER_NUMBER", type := .byte, accessFlags := 25, slot := 16, constantValue := 0 }, { name := "SPACE_SEPARATOR", type := .byte, accessFlags := 25, slot := 17, constantValue := 0 }, { name := "LINE_SEPARATOR", type := .byte, accessFlags := 25, slot := 18, constantValue := 0 }, { name := "PARAGRAPH_SEPARATOR", type := .byte, accessFlags := 25, slot := 19, constantValue := 0 }, { name := "CONTROL", type := .byte, accessFlags := 25, slot := 20, constantValue := 0 }, { name := "FORMAT", type := .byte, accessFlags := 25, slot := 21, constantValue := 0 }, { name := "PRIVATE_USE", type := .byte, accessFlags := 25, slot := 22, constantValue := 0 }, { name := "SURROGATE", type := .byte, accessFlags := 25, slot := 23, constantValue := 0 }, { name := "DASH_PUNCTUATION", type := .byte, accessFlags := 25, slot := 24, constantValue := 0 }, { name := "START_PUNCTUATION", type := .byte, accessFlags := 25, slot := 25, constantValue := 0 }, { name := "END_PUNCTUATION", type := .byte, accessFlags := 25, slot := 26, constantValue := 0 }, { name := "CONNECTOR_PUNCTUATION", type := .byte, accessFlags := 25, slot := 27, constantValue := 0 }, { name := "OTHER_PUNCTUATION", type := .byte, accessFlags := 25, slot := 28, constantValue := 0 }, { name := "MATH_SYMBOL", type := .byte, accessFlags := 25, slot := 29, constantValue := 0 }, { name := "CURRENCY_SYMBOL", type := .byte, accessFlags := 25, slot := 30, constantValue := 0 }, { name := "MODIFIER_SYMBOL", type := .byte, accessFlags := 25, slot := 31, constantValue := 0 }, { name := "OTHER_SYMBOL", type := .byte, accessFlags := 25, slot := 32, constantValue := 0 }, { name := "INITIAL_QUOTE_PUNCTUATION", type := .byte, accessFlags := 25, slot := 33, constantValue := 0 }, { name := "FINAL_QUOTE_PUNCTUATION", type := .byte, accessFlags := 25, slot := 34, constantValue := 0 }, { name := "ERROR", type := .int, accessFlags := 24, slot := 35, constantValue := 0 }, { name := "DIRECTIONALITY_UNDEFINED", type := .byte, accessFlags := 25, slot := 36, constantValue := 0 }, { name := "DIRECTIONALITY_LEFT_TO_RIGHT", type := .byte, accessFlags := 25, slot := 37, constantValue := 0 }, { name := "DIRECTIONALITY_RIGHT_TO_LEFT", type := .byte, accessFlags := 25, slot := 38, constantValue := 0 }, { name := "DIRECTIONALITY_RIGHT_TO_LEFT_ARABIC", type := .byte, accessFlags := 25, slot := 39, constantValue := 0 }, { name := "DIRECTIONALITY_EUROPEAN_NUMBER", type := .byte, accessFlags := 25, slot := 40, constantValue := 0 }, { name := "DIRECTIONALITY_EUROPEAN_NUMBER_SEPARATOR", type := .byte, accessFlags := 25, slot := 41, constantValue := 0 }, { name := "DIRECTIONALITY_EUROPEAN_NUMBER_TERMINATOR", type := .byte, accessFlags := 25, slot := 42, constantValue := 0 }, { name := "DIRECTIONALITY_ARABIC_NUMBER", type := .byte, accessFlags := 25, slot := 43, constantValue := 0 }, { name := "DIRECTIONALITY_COMMON_NUMBER_SEPARATOR", type := .byte, accessFlags := 25, slot := 44, constantValue := 0 }, { name := "DIRECTIONALITY_NONSPACING_MARK", type := .byte, accessFlags := 25, slot := 45, constantValue := 0 }, { name := "DIRECTIONALITY_BOUNDARY_NEUTRAL", type := .byte, accessFlags := 25, slot := 46, constantValue := 0 }, { name := "DIRECTIONALITY_PARAGRAPH_SEPARATOR", type := .byte, accessFlags := 25, slot := 47, constantValue := 0 }, { name := "DIRECTIONALITY_SEGMENT_SEPARATOR", type := .byte, accessFlags := 25, slot := 48, constantValue := 0 }, { name := "DIRECTIONALITY_WHITESPACE", type := .byte, accessFlags := 25, slot := 49, constantValue := 0 }, { name := "DIRECTIONALITY_OTHER_NEUTRALS", type := .byte, accessFlags := 25, slot := 50, constantValue := 0 }, { name := "DIRECTIONALITY_LEFT_TO_RIGHT_EMBEDDING", type := .byte, accessFlags := 25, slot := 51, constantValue := 0 }, { name := "DIRECTIONALITY_LEFT_TO_RIGHT_OVERRIDE", type := .byte, accessFlags := 25, slot := 52, constantValue := 0 }, { name := "DIRECTIONALITY_RIGHT_TO_LEFT_EMBEDDING", type := .byte, accessFlags := 25, slot := 53, constantValue := 0 }, { name := "DIRECTIONALITY_RIGHT_TO_LEFT_OVERRIDE", type := .byte, accessFlags := 25, slot := 54, constantValue := 0 }, { name := "DIRECTIONALITY_POP_DIRECTIONAL_FORMAT", type := .byte, accessFlags := 25, slot := 55, constantValue := 0 }, { name := "DIRECTIONALITY_LEFT_TO_RIGHT_ISOLATE", type := .byte, accessFlags := 25, slot := 56, constantValue := 0 }, { name := "DIRECTIONALITY_RIGHT_TO_LEFT_ISOLATE", type := .byte, accessFlags := 25, slot := 57, constantValue := 0 }, { name := "DIRECTIONALITY_FIRST_STRONG_ISOLATE", type := .byte, accessFlags := 25, slot := 58, constantValue := 0 }, { name := "DIRECTIONALITY_POP_DIRECTIONAL_ISOLATE", type := .byte, accessFlags := 25, slot := 59, constantValue := 0 }, { name := "MIN_HIGH_SURROGATE", type := .char, accessFlags := 25, slot := 60, constantValue := 0 }, { name := "MAX_HIGH_SURROGATE", type := .char, accessFlags := 25, slot := 61, constantValue := 0 }, { name := "MIN_LOW_SURROGATE", type := .char, accessFlags := 25, slot := 62, constantValue := 0 }, { name := "MAX_LOW_SURROGATE", type := .char, accessFlags := 25, slot := 63, constantValue := 0 }, { name := "MIN_SURROGATE", type := .char, accessFlags := 25, slot := 64, constantValue := 0 }, { name := "MAX_SURROGATE", type := .char, accessFlags := 25, slot := 65, constantValue := 0 }, { name := "MIN_SUPPLEMENTARY_CODE_POINT", type := .int, accessFlags := 25, slot := 66, constantValue := 0 }, { name := "MIN_CODE_POINT", type := .int, accessFlags := 25, slot := 67, constantValue := 0 }, { name := "MAX_CODE_POINT", type := .int, accessFlags := 25, slot := 68, constantValue := 0 }, { name := "value", type := .char, accessFlags := 18, slot := 0, constantValue := 0 }, { name := "serialVersionUID", type := .long, accessFlags := 26, slot := 69, constantValue := 0 }, { name := "SIZE", type := .int, accessFlags := 25, slot := 70, constantValue := 0 }, { name := "BYTES", type := .int, accessFlags := 25, slot := 71, constantValue := 0 }, { name := "$assertionsDisabled", type := .boolean, accessFlags := 4120, slot := 72, constantValue := 0 }]
  methods := #[k22m0]
  instanceTypes := #[.char]
  staticTypes := #[.int, .int, .char, .char, (.object "java/lang/Class"), .byte, .byte, .byte, .byte, .byte, .byte, .byte, .byte, .byte, .byte, .byte, .byte, .byte, .byte, .byte, .byte, .byte, .byte, .byte, .byte, .byte, .byte, .byte, .byte, .byte, .byte, .byte, .byte, .byte, .byte, .int, .byte, .byte, .byte, .byte, .byte, .byte, .byte, .byte, .byte, .byte, .byte, .byte, .byte, .byte, .byte, .byte, .byte, .byte, .byte, .byte, .byte, .byte, .byte, .byte, .char, .char, .char, .char, .char, .char, .int, .int, .int, .long, .int, .int, .boolean]
  resolved := Array.replicate 604 none
  statics := none }

def pool23 : Array CpInfo := pool [(1, .class_ 2), (0, u "java/lang/Math"), (1, .class_ 6), (1, u "java/lang/Object"), (0, u "<init>"), (0, u "()V"), (89, .class_ 100), (1, u "java/lang/Math$RandomNumberGeneratorHolder"), (71, u "negativeZeroFloatBits"), (0, u "J"), (2, u "negativeZeroDoubleBits"), (24, u "min"), (43, u "$assertionsDisabled"), (0, u "Z"), (88, u "(II)I"), (2, u "twoToTheDoubleScaleDown"), (0, u "D"), (4, u "twoToTheDoubleScaleUp"), (9, u "E"), (3, u "PI"), (2, u "TAU"), (2, u "DEGREES_TO_RADIANS"), (0, u "RADIANS_TO_DEGREES")] 94

def k23m0 : Method := { name := "<init>", desc := "()V", sig := { parameters := [], returnType := none }, accessFlags := 2, code := none }
def k23c1 : Code := { maxStack := 2, maxLocals := 2, code := jdk_29_method_69_code, exceptionTable := #[], attributes := #[] }
def k23m1 : Method := { name := "min", desc := "(II)I", sig := { parameters := [.int, .int], returnType := some .int }, accessFlags := 9, code := some k23c1 }
/-- java/lang/Math -/
def k23 : Class := { plain "java/lang/Math" (some 0) with
  accessFlags := 49
  interfaces := #[]
  cf := some (fileOf pool23 1 #[.nestMembers #[98]] #[{ accessFlags := 2, nameIndex := 7, descriptorIndex := 8, attributes := #[] }, { accessFlags := 9, nameIndex := 201, descriptorIndex := 335, attributes := #[] }] 49 4 #[] #[{ accessFlags := 25, nameIndex := 354, descriptorIndex := 339, attributes := #[] }, { accessFlags := 25, nameIndex := 358, descriptorIndex := 339, attributes := #[] }, { accessFlags := 25, nameIndex := 361, descriptorIndex := 339, attributes := #[] }, { accessFlags := 26, nameIndex := 364, descriptorIndex := 339, attributes := #[] }, { accessFlags := 26, nameIndex := 365, descriptorIndex := 339, attributes := #[] }, { accessFlags := 26, nameIndex := 172, descriptorIndex := 173, attributes := #[] }, { accessFlags := 26, nameIndex := 176, descriptorIndex := 173, attributes := #[] }, { accessFlags := 8, nameIndex := 344, descriptorIndex := 339, attributes := #[] }, { accessFlags := 8, nameIndex := 338, descriptorIndex := 339, attributes := #[] }, { accessFlags := 4120, nameIndex := 245, descriptorIndex := 246, attributes := #[] }])
  fields := #[{ name := "E", type := .double, accessFlags := 25, slot := 0, constantValue := 0 }, { name := "PI", type := .double, accessFlags := 25, slot := 1, constantValue := 0 }, { name := "TAU", type := .double, accessFlags := 25, slot := 2, constantValue := 0 }, { name := "DEGREES_TO_RADIANS", type := .double, accessFlags := 26, slot := 3, constantValue := 0 }, { name := "RADIANS_TO_DEGREES", type := .double, accessFlags := 26, slot := 4, constantValue := 0 }, { name := "negativeZeroFloatBits", type := .long, accessFlags := 26, slot := 5, constantValue := 0 }, { name := "negativeZeroDoubleBits", type := .long, accessFlags := 26, slot := 6, constantValue := 0 }, { name := "twoToTheDoubleScaleUp", type := .double, accessFlags := 8, slot := 7, constantValue := 0 }, { name := "twoToTheDoubleScaleDown", type := .double, accessFlags := 8, slot := 8, constantValue := 0 }, { name := "$assertionsDisabled", type := .boolean, accessFlags := 4120, slot := 9, constantValue := 0 }]
  methods := #[k23m0, k23m1]
  instanceTypes := #[]
  staticTypes := #[.double, .double, .double, .double, .double, .long, .long, .double, .double, .boolean]
  resolved := Array.replicate 460 none
  statics := none }

def pool24 : Array CpInfo := pool [(2, .class_ 4), (1, u "java/lang/Object"), (0, u "<init>"), (0, u "()V"), (1, .class_ 10), (1, u "java/lang/System"), (0, u "allowSecurityManager"), (0, u "I"), (16, u "cons"), (0, u "Ljava/io/Console;"), (77, .class_ 110), (1, u "java/lang/System$CallersHolder"), (43, u "initialErrStream"), (0, u "Ljava/io/PrintStream;"), (19, u "security"), (0, u "Ljava/lang/SecurityManager;"), (31, .class_ 209), (0, u "java/lang/System$1"), (7, u "props"), (0, u "Ljava/util/Properties;"), (2, u "lineSeparator"), (0, u "Ljava/lang/String;"), (96, .class_ 321), (1, u "java/lang/System$LoggerFinder"), (5, .class_ 328), (0, u "java/lang/System$Logger"), (67, u "err"), (2, u "out"), (91, u "notSupportedJnuEncoding"), (15, u "in"), (17, u "initialIn"), (0, u "Ljava/io/InputStream;"), (35, u "bootLayer"), (0, u "Ljava/lang/ModuleLayer;"), (99, .class_ 664), (0, u "java/lang/System$2"), (9, u "NEVER"), (2, u "MAYBE"), (49, u "arraycopy"), (0, u "(Ljava/lang/Object;ILjava/lang/Object;II)V"), (72, .class_ 802), (0, u "java/lang/System$Logger$Level")] 31

def k24m0 : Method := { name := "<init>", desc := "()V", sig := { parameters := [], returnType := none }, accessFlags := 2, code := none }
def k24m1 : Method := { name := "arraycopy", desc := "(Ljava/lang/Object;ILjava/lang/Object;II)V", sig := { parameters := [(.object "java/lang/Object"), .int, (.object "java/lang/Object"), .int, .int], returnType := none }, accessFlags := 265, code := none }
/-- java/lang/System -/
def k24 : Class := { plain "java/lang/System" (some 0) with
  accessFlags := 49
  interfaces := #[]
  cf := some (fileOf pool24 8 #[.nestMembers #[319, 327, 801, 108, 663, 208]] #[{ accessFlags := 2, nameIndex := 5, descriptorIndex := 6, attributes := #[] }, { accessFlags := 265, nameIndex := 727, descriptorIndex := 728, attributes := #[] }] 49 2 #[] #[{ accessFlags := 25, nameIndex := 507, descriptorIndex := 526, attributes := #[] }, { accessFlags := 25, nameIndex := 399, descriptorIndex := 155, attributes := #[] }, { accessFlags := 25, nameIndex := 396, descriptorIndex := 155, attributes := #[] }, { accessFlags := 10, nameIndex := 525, descriptorIndex := 526, attributes := #[] }, { accessFlags := 26, nameIndex := 674, descriptorIndex := 12, attributes := #[] }, { accessFlags := 26, nameIndex := 677, descriptorIndex := 12, attributes := #[] }, { accessFlags := 10, nameIndex := 11, descriptorIndex := 12, attributes := #[] }, { accessFlags := 74, nameIndex := 175, descriptorIndex := 176, attributes := #[] }, { accessFlags := 10, nameIndex := 491, descriptorIndex := 222, attributes := #[] }, { accessFlags := 74, nameIndex := 29, descriptorIndex := 30, attributes := #[] }, { accessFlags := 74, nameIndex := 154, descriptorIndex := 155, attributes := #[] }, { accessFlags := 10, nameIndex := 217, descriptorIndex := 218, attributes := #[] }, { accessFlags := 10, nameIndex := 221, descriptorIndex := 222, attributes := #[] }, { accessFlags := 8, nameIndex := 562, descriptorIndex := 563, attributes := #[] }])
  fields := #[{ name := "in", type := (.object "java/io/InputStream"), accessFlags := 25, slot := 0, constantValue := 0 }, { name := "out", type := (.object "java/io/PrintStream"), accessFlags := 25, slot := 1, constantValue := 0 }, { name := "err", type := (.object "java/io/PrintStream"), accessFlags := 25, slot := 2, constantValue := 0 }, { name := "initialIn", type := (.object "java/io/InputStream"), accessFlags := 10, slot := 3, constantValue := 0 }, { name := "NEVER", type := .int, accessFlags := 26, slot := 4, constantValue := 0 }, { name := "MAYBE", type := .int, accessFlags := 26, slot := 5, constantValue := 0 }, { name := "allowSecurityManager", type := .int, accessFlags := 10, slot := 6, constantValue := 0 }, { name := "security", type := (.object "java/lang/SecurityManager"), accessFlags := 74, slot := 7, constantValue := 0 }, { name := "notSupportedJnuEncoding", type := (.object "java/lang/String"), accessFlags := 10, slot := 8, constantValue := 0 }, { name := "cons", type := (.object "java/io/Console"), accessFlags := 74, slot := 9, constantValue := 0 }, { name := "initialErrStream", type := (.object "java/io/PrintStream"), accessFlags := 74, slot := 10, constantValue := 0 }, { name := "props", type := (.object "java/util/Properties"), accessFlags := 10, slot := 11, constantValue := 0 }, { name := "lineSeparator", type := (.object "java/lang/String"), accessFlags := 10, slot := 12, constantValue := 0 }, { name := "bootLayer", type := (.object "java/lang/ModuleLayer"), accessFlags := 8, slot := 13, constantValue := 0 }]
  methods := #[k24m0, k24m1]
  instanceTypes := #[]
  staticTypes := #[(.object "java/io/InputStream"), (.object "java/io/PrintStream"), (.object "java/io/PrintStream"), (.object "java/io/InputStream"), .int, .int, .int, (.object "java/lang/SecurityManager"), (.object "java/lang/String"), (.object "java/io/Console"), (.object "java/io/PrintStream"), (.object "java/util/Properties"), (.object "java/lang/String"), (.object "java/lang/ModuleLayer")]
  resolved := Array.replicate 834 none
  statics := none }

def pool25 : Array CpInfo := pool [(9, u "<init>"), (6, .class_ 18), (1, u "java/lang/Object"), (0, u "()V"), (1, .class_ 23), (1, u "jdk/internal/util/ArraysSupport"), (0, u "LOG2_ARRAY_LONG_INDEX_SCALE"), (0, u "I"), (2, u "U"), (0, u "Ljdk/internal/misc/Unsafe;"), (8, u "BIG_ENDIAN"), (0, u "Z"), (8, u "LOG2_BYTE_BIT_SIZE"), (4, u "LOG2_ARRAY_INT_INDEX_SCALE"), (54, u "JLA"), (0, u "Ljdk/internal/access/JavaLangAccess;"), (11, u "LOG2_ARRAY_BOOLEAN_INDEX_SCALE"), (9, u "LOG2_ARRAY_BYTE_INDEX_SCALE"), (5, u "LOG2_ARRAY_CHAR_INDEX_SCALE"), (5, u "LOG2_ARRAY_SHORT_INDEX_SCALE"), (18, u "LOG2_ARRAY_FLOAT_INDEX_SCALE"), (24, u "LOG2_ARRAY_DOUBLE_INDEX_SCALE"), (89, u "T_BOOLEAN"), (2, u "T_CHAR"), (1, u "T_FLOAT"), (1, u "T_DOUBLE"), (1, u "T_BYTE"), (1, u "T_SHORT"), (1, u "T_INT"), (1, u "T_LONG"), (1, u "SOFT_MAX_ARRAY_LENGTH")] 83

def k25m0 : Method := { name := "<init>", desc := "()V", sig := { parameters := [], returnType := none }, accessFlags := 2, code := none }
/-- jdk/internal/util/ArraysSupport -/
def k25 : Class := { plain "jdk/internal/util/ArraysSupport" (some 0) with
  accessFlags := 33
  interfaces := #[]
  cf := some (fileOf pool25 21 #[] #[{ accessFlags := 2, nameIndex := 9, descriptorIndex := 19, attributes := #[] }] 33 16 #[] #[{ accessFlags := 24, nameIndex := 28, descriptorIndex := 29, attributes := #[] }, { accessFlags := 26, nameIndex := 38, descriptorIndex := 39, attributes := #[] }, { accessFlags := 25, nameIndex := 121, descriptorIndex := 25, attributes := #[] }, { accessFlags := 25, nameIndex := 131, descriptorIndex := 25, attributes := #[] }, { accessFlags := 25, nameIndex := 137, descriptorIndex := 25, attributes := #[] }, { accessFlags := 25, nameIndex := 143, descriptorIndex := 25, attributes := #[] }, { accessFlags := 25, nameIndex := 53, descriptorIndex := 25, attributes := #[] }, { accessFlags := 25, nameIndex := 24, descriptorIndex := 25, attributes := #[] }, { accessFlags := 25, nameIndex := 162, descriptorIndex := 25, attributes := #[] }, { accessFlags := 25, nameIndex := 187, descriptorIndex := 25, attributes := #[] }, { accessFlags := 26, nameIndex := 48, descriptorIndex := 25, attributes := #[] }, { accessFlags := 25, nameIndex := 277, descriptorIndex := 25, attributes := #[] }, { accessFlags := 25, nameIndex := 280, descriptorIndex := 25, attributes := #[] }, { accessFlags := 25, nameIndex := 282, descriptorIndex := 25, attributes := #[] }, { accessFlags := 25, nameIndex := 284, descriptorIndex := 25, attributes := #[] }, { accessFlags := 25, nameIndex := 286, descriptorIndex := 25, attributes := #[] }, { accessFlags := 25, nameIndex := 288, descriptorIndex := 25, attributes := #[] }, { accessFlags := 25, nameIndex := 290, descriptorIndex := 25, attributes := #[] }, { accessFlags := 25, nameIndex := 292, descriptorIndex := 25, attributes := #[] }, { accessFlags := 26, nameIndex := 108, descriptorIndex := 109, attributes := #[] }, { accessFlags := 25, nameIndex := 294, descriptorIndex := 25, attributes := #[] }])
  fields := #[{ name := "U", type := (.object "jdk/internal/misc/Unsafe"), accessFlags := 24, slot := 0, constantValue := 0 }, { name := "BIG_ENDIAN", type := .boolean, accessFlags := 26, slot := 1, constantValue := 0 }, { name := "LOG2_ARRAY_BOOLEAN_INDEX_SCALE", type := .int, accessFlags := 25, slot := 2, constantValue := 0 }, { name := "LOG2_ARRAY_BYTE_INDEX_SCALE", type := .int, accessFlags := 25, slot := 3, constantValue := 0 }, { name := "LOG2_ARRAY_CHAR_INDEX_SCALE", type := .int, accessFlags := 25, slot := 4, constantValue := 0 }, { name := "LOG2_ARRAY_SHORT_INDEX_SCALE", type := .int, accessFlags := 25, slot := 5, constantValue := 0 }, { name := "LOG2_ARRAY_INT_INDEX_SCALE", type := .int, accessFlags := 25, slot := 6, constantValue := 0 }, { name := "LOG2_ARRAY_LONG_INDEX_SCALE", type := .int, accessFlags := 25, slot := 7, constantValue := 0 }, { name := "LOG2_ARRAY_FLOAT_INDEX_SCALE", type := .int, accessFlags := 25, slot := 8, constantValue := 0 }, { name := "LOG2_ARRAY_DOUBLE_INDEX_SCALE", type := .int, accessFlags := 25, slot := 9, constantValue := 0 }, { name := "LOG2_BYTE_BIT_SIZE", type := .int, accessFlags := 26, slot := 10, constantValue := 0 }, { name := "T_BOOLEAN", type := .int, accessFlags := 25, slot := 11, constantValue := 0 }, { name := "T_CHAR", type := .int, accessFlags := 25, slot := 12, constantValue := 0 }, { name := "T_FLOAT", type := .int, accessFlags := 25, slot := 13, constantValue := 0 }, { name := "T_DOUBLE", type := .int, accessFlags := 25, slot := 14, constantValue := 0 }, { name := "T_BYTE", type := .int, accessFlags := 25, slot := 15, constantValue := 0 }, { name := "T_SHORT", type := .int, accessFlags := 25, slot := 16, constantValue := 0 }, { name := "T_INT", type := .int, accessFlags := 25, slot := 17, constantValue := 0 }, { name := "T_LONG", type := .int, accessFlags := 25, slot := 18, constantValue := 0 }, { name := "JLA", type := (.object "jdk/internal/access/JavaLangAccess"), accessFlags := 26, slot := 19, constantValue := 0 }, { name := "SOFT_MAX_ARRAY_LENGTH", type := .int, accessFlags := 25, slot := 20, constantValue := 0 }]
  methods := #[k25m0]
  instanceTypes := #[]
  staticTypes := #[(.object "jdk/internal/misc/Unsafe"), .boolean, .int, .int, .int, .int, .int, .int, .int, .int, .int, .int, .int, .int, .int, .int, .int, .int, .int, (.object "jdk/internal/access/JavaLangAccess"), .int]
  resolved := Array.replicate 378 none
  statics := none }

/-- the primitive byte -/
def k26 : Class := { plain "byte" none with kind := .primitive 'B', accessFlags := 0x411 }
/-- [B -/
def k27 : Class := { plain "[B" (some 0) with kind := .array 26 .byte, interfaces := #[20, 2], accessFlags := 1041 }

/-- the primitive char -/
def k28 : Class := { plain "char" none with kind := .primitive 'C', accessFlags := 0x411 }
/-- [C -/
def k29 : Class := { plain "[C" (some 0) with kind := .array 28 .char, interfaces := #[20, 2], accessFlags := 1041 }

/-- the primitive int -/
def k30 : Class := { plain "int" none with kind := .primitive 'I', accessFlags := 0x411 }
/-- [I -/
def k31 : Class := { plain "[I" (some 0) with kind := .array 30 .int, interfaces := #[20, 2], accessFlags := 1041 }

def heap : Heap := #[{ cls := 7, slots := #[.long 0, .int 1, .null, .int 0, .null, .int 0, .int 0], vm := .statics 7 },
  { cls := 10, slots := #[.null, .null, .ref 5, .null, .null, .null], vm := .statics 10 },
  { cls := 15, slots := #[.ref 5, .null], vm := .statics 15 },
  { cls := 17, slots := #[.int 0, .int 8, .int 0, .int 1], vm := .statics 17 },
  { cls := 21, slots := #[.null, .null, .null], vm := .statics 21 },
  { cls := 15, slots := #[.null, .null, .null], vm := .none }]
def classes : Array Class := #[k0, k1, k2, k3, k4, k5, k6, k7, k8, k9, k10, k11, k12, k13, k14, k15, k16, k17, k18, k19, k20, k21, k22, k23, k24, k25, k26, k27, k28, k29, k30, k31]
def interned : List (Array UInt16 × Addr) := []
def slotsUsed : Nat := 25
def theMethod : MethodId := ⟨1, 1⟩
def args0 : Array Value := #[.int 65, .int 16, .int 3, .int 7, .int 1]
def aboutOver (below : List Frame) : State where
  vm := { classes := classes, interned := interned.toArray }
  heap := heap
  slotsUsed := slotsUsed
  threads := #[{ frames := .invoking theMethod args0 :: below }]
def below0 : List Frame := [.native { method := ⟨0, 0⟩, args := #[] }]
def about1 : State := aboutOver below0
def p0 : Program := .bare "" "" ""
def e0 : Env := launch0.env 0 0 0
theorem w_frames : about1.frames = Frame.invoking theMethod args0 :: below0 := rfl
theorem w_args : argsFit about1.vm theMethod args0 = true := by decide +kernel
theorem w_heap : heapFits about1 = true := by decide +kernel
theorem w_runnable : about1.curStatus? = some .runnable := by decide +kernel
theorem w_alone : about1.alone = true := by decide +kernel
theorem w_named : about1.methodNamed? x = some theMethod := by decide +kernel
theorem w_hears : about1.hears theMethod below0 = true := by decide +kernel
theorem w_ripe : about1.ripe theMethod args0 below0 = true := by decide +kernel
theorem w_running : about1.status = .running := rfl
theorem w_room : about1.hasRoom e0.platform room_1 = true :=
  launch0.hasRoom_least _ room_1 (by decide +kernel) (by decide +kernel) (by decide +kernel) (by decide +kernel) (by decide +kernel) (by decide +kernel)
theorem allAtoms_all (ts : List Jvm.Cond) (a : Array Jvm.Value) (st : Jvm.State) : (allAtoms ts).before a st = ts.all (fun c => c.before a st) := by
  induction ts with
  | nil => rfl
  | cons c t ih =>
    show (Jvm.Cond.and c (allAtoms t)).before a st = _
    rw [Jvm.Cond.before_and, ih, List.all_cons]
def words1 : List Jvm.Cond := Jvm.Cond.code x code maxLocals ret :: tables_1
/-- a 'code' word, met by the world's own term for the bytes: nothing is compared byte by byte -/
theorem code_word {y : MethodName} {bytes : ByteArray} {mx : Nat} {rt : Option FieldType} {a : Array Value} {s : State} {m : MethodId} {meth : Method} {c : Code} (h1 : s.methodNamed? y = some m) (h2 : s.vm.method? m = some meth) (h3 : meth.code = some c) (h4 : c.code = bytes)
    (h5 : (c.maxLocals == mx && c.exceptionTable.isEmpty && decide (c.maxStack ≤ mostOperands) && decide (meth.sig.returnType = rt) && !meth.locks && decide (parseMethodDescriptor y.desc = some meth.sig)) = true) : (Jvm.Cond.code y bytes mx rt).before a s = true := by
  simp only [Bool.and_eq_true, beq_iff_eq, Bool.not_eq_true', decide_eq_true_eq] at h5
  obtain ⟨⟨⟨⟨⟨g1, g2⟩, g3⟩, g4⟩, g5⟩, g6⟩ := h5
  simp [Cond.before, Cond.holds, Cond.value, h1, h2, h3, h4, g1, g2, g3, g4, g5, g6]
theorem code_wordW {y : MethodName} {bytes : ByteArray} {mx : Nat} {rt : Option FieldType} {hs : List (Nat × Nat × Nat × Nat)} {a : Array Value} {s : State} {m : MethodId} {meth : Method} {c : Code} (h1 : s.methodNamed? y = some m) (h2 : s.vm.method? m = some meth) (h3 : meth.code = some c) (h4 : c.code = bytes)
    (h5 : (c.maxLocals == mx && decide (c.exceptionTable.toList.map (fun h => (h.startPc, h.endPc, h.handlerPc, h.catchType)) = hs) && decide (c.maxStack ≤ mostOperands) && decide (meth.sig.returnType = rt) && !meth.locks && decide (parseMethodDescriptor y.desc = some meth.sig)) = true) : (Jvm.Cond.codeWith y bytes mx rt hs).before a s = true := by
  simp only [Bool.and_eq_true, beq_iff_eq, Bool.not_eq_true', decide_eq_true_eq] at h5
  obtain ⟨⟨⟨⟨⟨g1, g2⟩, g3⟩, g4⟩, g5⟩, g6⟩ := h5
  simp [Cond.before, Cond.holds, Cond.value, h1, h2, h3, h4, g1, g2, g3, g4, g5, g6]
theorem code_wordS {y : MethodName} {bytes : ByteArray} {mx : Nat} {rt : Option FieldType} {a : Array Value} {s : State} {m : MethodId} {meth : Method} {c : Code} (h1 : s.methodNamed? y = some m) (h2 : s.vm.method? m = some meth) (h3 : meth.code = some c) (h4 : c.code = bytes)
    (h5 : (c.maxLocals == mx && c.exceptionTable.isEmpty && decide (c.maxStack ≤ mostOperands) && decide (meth.sig.returnType = rt) && meth.locks && decide (parseMethodDescriptor y.desc = some meth.sig)) = true) : (Jvm.Cond.codeSync y bytes mx rt).before a s = true := by
  simp only [Bool.and_eq_true, beq_iff_eq, Bool.not_eq_true', decide_eq_true_eq] at h5
  obtain ⟨⟨⟨⟨⟨g1, g2⟩, g3⟩, g4⟩, g5⟩, g6⟩ := h5
  simp [Cond.before, Cond.holds, Cond.value, h1, h2, h3, h4, g1, g2, g3, g4, g5, g6]
def isCode : Jvm.Cond → Bool
  | .code _ _ _ _ => true
  | .codeWith _ _ _ _ _ => true
  | .codeSync _ _ _ _ => true
  | _ => false
theorem all_split {L : List Jvm.Cond} {P : Jvm.Cond → Bool} (h1 : L.all (fun c => isCode c || P c) = true) (h2 : ∀ c ∈ L.filter isCode, P c = true) : L.all P = true := by
  refine List.all_eq_true.mpr fun c hc => ?_
  have h := List.all_eq_true.mp h1 c hc
  rcases Bool.eq_false_or_eq_true (isCode c) with hi | hi
  · exact h2 c (List.mem_filter.mpr ⟨hc, hi⟩)
  · simpa [hi] using h
theorem w_c0 : (Jvm.Cond.code x code maxLocals ret).before args0 about1 = true := code_word (m := ⟨1, 1⟩) (meth := k1m1) (c := k1c1) (by decide +kernel) rfl rfl rfl (by decide +kernel)
theorem w_c1 : (Jvm.Cond.code ⟨"com/example/reasoned_retry/reasonedretry/Classifier$Failure", "of", "(Ljava/lang/String;I[B)Lcom/example/reasoned_retry/reasonedretry/Classifier$Failure;"⟩ prog_6_method_2_code 4 (Option.some (Jvm.ClassFile.FieldType.object "com/example/reasoned_retry/reasonedretry/Classifier$Failure"))).before args0 about1 = true := code_word (m := ⟨9, 1⟩) (meth := k9m1) (c := k9c1) (by decide +kernel) rfl rfl rfl (by decide +kernel)
theorem w_c2 : (Jvm.Cond.code ⟨"java/lang/String", "<init>", "([BLjava/nio/charset/Charset;)V"⟩ jdk_42_method_49_code 3 none).before args0 about1 = true := code_word (m := ⟨7, 8⟩) (meth := k7m8) (c := k7c8) (by decide +kernel) rfl rfl rfl (by decide +kernel)
theorem w_c3 : (Jvm.Cond.code ⟨"java/util/Objects", "requireNonNull", "(Ljava/lang/Object;)Ljava/lang/Object;"⟩ jdk_31_method_10_code 1 (Option.some (Jvm.ClassFile.FieldType.object "java/lang/Object"))).before args0 about1 = true := code_word (m := ⟨11, 1⟩) (meth := k11m1) (c := k11c1) (by decide +kernel) rfl rfl rfl (by decide +kernel)
theorem w_c4 : (Jvm.Cond.code ⟨"java/lang/Object", "<init>", "()V"⟩ object_method_1_code 1 none).before args0 about1 = true := code_word (m := ⟨0, 0⟩) (meth := k0m0) (c := k0c0) (by decide +kernel) rfl rfl rfl (by decide +kernel)
theorem w_c5 : (Jvm.Cond.code ⟨"com/example/reasoned_retry/reasonedretry/Classifier$Failure", "<init>", "(Ljava/lang/String;ILjava/lang/String;)V"⟩ prog_6_method_1_code 4 none).before args0 about1 = true := code_word (m := ⟨9, 0⟩) (meth := k9m0) (c := k9c0) (by decide +kernel) rfl rfl rfl (by decide +kernel)
theorem w_c6 : (Jvm.Cond.code ⟨"java/lang/Record", "<init>", "()V"⟩ jdk_30_method_1_code 1 none).before args0 about1 = true := code_word (m := ⟨8, 0⟩) (meth := k8m0) (c := k8c0) (by decide +kernel) rfl rfl rfl (by decide +kernel)
theorem w_c7 : (Jvm.Cond.code ⟨"java/util/Objects", "requireNonNull", "(Ljava/lang/Object;Ljava/lang/String;)Ljava/lang/Object;"⟩ jdk_31_method_11_code 2 (Option.some (Jvm.ClassFile.FieldType.object "java/lang/Object"))).before args0 about1 = true := code_word (m := ⟨11, 2⟩) (meth := k11m2) (c := k11c2) (by decide +kernel) rfl rfl rfl (by decide +kernel)
theorem w_c8 : (Jvm.Cond.code ⟨"com/example/reasoned_retry/reasonedretry/Classifier$Failure", "command", "()Ljava/lang/String;"⟩ prog_6_method_6_code 1 (Option.some (Jvm.ClassFile.FieldType.object "java/lang/String"))).before args0 about1 = true := code_word (m := ⟨9, 2⟩) (meth := k9m2) (c := k9c2) (by decide +kernel) rfl rfl rfl (by decide +kernel)
theorem w_c9 : (Jvm.Cond.code ⟨"com/example/reasoned_retry/reasonedretry/Classifier$Failure", "exitCode", "()I"⟩ prog_6_method_7_code 1 (some .int)).before args0 about1 = true := code_word (m := ⟨9, 3⟩) (meth := k9m3) (c := k9c3) (by decide +kernel) rfl rfl rfl (by decide +kernel)
theorem w_c10 : (Jvm.Cond.code ⟨"com/example/reasoned_retry/reasonedretry/Classifier$Failure", "output", "()Ljava/lang/String;"⟩ prog_6_method_8_code 1 (Option.some (Jvm.ClassFile.FieldType.object "java/lang/String"))).before args0 about1 = true := code_word (m := ⟨9, 4⟩) (meth := k9m4) (c := k9c4) (by decide +kernel) rfl rfl rfl (by decide +kernel)
theorem w_c11 : (Jvm.Cond.code ⟨"java/lang/String", "equals", "(Ljava/lang/Object;)Z"⟩ jdk_42_method_66_code 3 (some .boolean)).before args0 about1 = true := code_word (m := ⟨7, 10⟩) (meth := k7m10) (c := k7c10) (by decide +kernel) rfl rfl rfl (by decide +kernel)
theorem w_c12 : (Jvm.Cond.code ⟨"java/lang/StringLatin1", "equals", "([B[B)Z"⟩ jdk_43_method_13_code 3 (some .boolean)).before args0 about1 = true := code_word (m := ⟨16, 3⟩) (meth := k16m3) (c := k16c3) (by decide +kernel) rfl rfl rfl (by decide +kernel)
theorem w_c13 : (Jvm.Cond.code ⟨"java/lang/String", "valueOf", "(C)Ljava/lang/String;"⟩ jdk_42_method_139_code 1 (Option.some (Jvm.ClassFile.FieldType.object "java/lang/String"))).before args0 about1 = true := code_word (m := ⟨7, 15⟩) (meth := k7m15) (c := k7c15) (by decide +kernel) rfl rfl rfl (by decide +kernel)
theorem w_c14 : (Jvm.Cond.code ⟨"java/lang/StringLatin1", "canEncode", "(C)Z"⟩ jdk_43_method_3_code 1 (some .boolean)).before args0 about1 = true := code_word (m := ⟨16, 1⟩) (meth := k16m1) (c := k16c1) (by decide +kernel) rfl rfl rfl (by decide +kernel)
theorem w_c15 : (Jvm.Cond.code ⟨"java/lang/StringUTF16", "toBytes", "(C)[B"⟩ jdk_52_method_24_code 2 (Option.some (Jvm.ClassFile.FieldType.array Jvm.ClassFile.FieldType.byte))).before args0 about1 = true := code_word (m := ⟨17, 8⟩) (meth := k17m8) (c := k17c8) (by decide +kernel) rfl rfl rfl (by decide +kernel)
theorem w_c16 : (Jvm.Cond.code ⟨"java/lang/StringUTF16", "putChar", "([BII)V"⟩ jdk_52_method_4_code 3 none).before args0 about1 = true := code_word (m := ⟨17, 3⟩) (meth := k17m3) (c := k17c3) (by decide +kernel) rfl rfl rfl (by decide +kernel)
theorem w_c17 : (Jvm.Cond.code ⟨"java/lang/String", "<init>", "([BB)V"⟩ jdk_42_method_151_code 3 none).before args0 about1 = true := code_word (m := ⟨7, 17⟩) (meth := k7m17) (c := k7c17) (by decide +kernel) rfl rfl rfl (by decide +kernel)
theorem w_c18 : (Jvm.Cond.code ⟨"java/lang/StringCoding", "countPositives", "([BII)I"⟩ jdk_123_method_3_code 5 (some .int)).before args0 about1 = true := code_word (m := ⟨18, 1⟩) (meth := k18m1) (c := k18c1) (by decide +kernel) rfl rfl rfl (by decide +kernel)
theorem w_c19 : (Jvm.Cond.code ⟨"java/util/Arrays", "copyOfRange", "([BII)[B"⟩ jdk_65_method_132_code 3 (Option.some (Jvm.ClassFile.FieldType.array Jvm.ClassFile.FieldType.byte))).before args0 about1 = true := code_word (m := ⟨19, 3⟩) (meth := k19m3) (c := k19c3) (by decide +kernel) rfl rfl rfl (by decide +kernel)
theorem w_c20 : (Jvm.Cond.code ⟨"java/lang/StringUTF16", "newBytesFor", "(I)[B"⟩ jdk_52_method_2_code 1 (Option.some (Jvm.ClassFile.FieldType.array Jvm.ClassFile.FieldType.byte))).before args0 about1 = true := code_word (m := ⟨17, 1⟩) (meth := k17m1) (c := k17c1) (by decide +kernel) rfl rfl rfl (by decide +kernel)
theorem w_c21 : (Jvm.Cond.code ⟨"java/lang/StringUTF16", "newBytesLength", "(I)I"⟩ jdk_52_method_3_code 1 (some .int)).before args0 about1 = true := code_word (m := ⟨17, 2⟩) (meth := k17m2) (c := k17c2) (by decide +kernel) rfl rfl rfl (by decide +kernel)
theorem w_c22 : (Jvm.Cond.code ⟨"java/lang/StringLatin1", "inflate", "([BI[BII)V"⟩ jdk_43_method_50_code 5 none).before args0 about1 = true := code_word (m := ⟨16, 7⟩) (meth := k16m7) (c := k16c7) (by decide +kernel) rfl rfl rfl (by decide +kernel)
theorem w_c23 : (Jvm.Cond.code ⟨"java/lang/StringUTF16", "inflate", "([BI[BII)V"⟩ jdk_52_method_86_code 6 none).before args0 about1 = true := code_word (m := ⟨17, 9⟩) (meth := k17m9) (c := k17c9) (by decide +kernel) rfl rfl rfl (by decide +kernel)
theorem w_c24 : (Jvm.Cond.code ⟨"java/lang/StringUTF16", "checkBoundsOffCount", "(II[B)V"⟩ jdk_52_method_94_code 3 none).before args0 about1 = true := code_word (m := ⟨17, 10⟩) (meth := k17m10) (c := k17c10) (by decide +kernel) rfl rfl rfl (by decide +kernel)
theorem w_c25 : (Jvm.Cond.code ⟨"java/lang/StringUTF16", "length", "([B)I"⟩ jdk_52_method_6_code 1 (some .int)).before args0 about1 = true := code_word (m := ⟨17, 4⟩) (meth := k17m4) (c := k17c4) (by decide +kernel) rfl rfl rfl (by decide +kernel)
theorem w_c26 : (Jvm.Cond.code ⟨"java/lang/String", "checkBoundsOffCount", "(III)I"⟩ jdk_42_method_157_code 3 (some .int)).before args0 about1 = true := code_word (m := ⟨7, 20⟩) (meth := k7m20) (c := k7c20) (by decide +kernel) rfl rfl rfl (by decide +kernel)
theorem w_c27 : (Jvm.Cond.code ⟨"jdk/internal/util/Preconditions", "checkFromIndexSize", "(IIILjava/util/function/BiFunction;)I"⟩ jdk_41_method_13_code 4 (some .int)).before args0 about1 = true := code_word (m := ⟨21, 2⟩) (meth := k21m2) (c := k21c2) (by decide +kernel) rfl rfl rfl (by decide +kernel)
theorem w_c28 : (Jvm.Cond.code ⟨"java/lang/String", "decodeUTF8_UTF16", "([BII[BIZ)I"⟩ jdk_42_method_38_code 11 (some .int)).before args0 about1 = true := code_word (m := ⟨7, 7⟩) (meth := k7m7) (c := k7c7) (by decide +kernel) rfl rfl rfl (by decide +kernel)
theorem w_c29 : (Jvm.Cond.code ⟨"java/lang/String", "isMalformed3", "(III)Z"⟩ jdk_42_method_30_code 3 (some .boolean)).before args0 about1 = true := code_word (m := ⟨7, 4⟩) (meth := k7m4) (c := k7c4) (by decide +kernel) rfl rfl rfl (by decide +kernel)
theorem w_c30 : (Jvm.Cond.code ⟨"java/lang/String", "decode3", "(III)C"⟩ jdk_42_method_36_code 3 (some .char)).before args0 about1 = true := code_word (m := ⟨7, 6⟩) (meth := k7m6) (c := k7c6) (by decide +kernel) rfl rfl rfl (by decide +kernel)
theorem w_c31 : (Jvm.Cond.code ⟨"java/lang/Character", "isSurrogate", "(C)Z"⟩ jdk_89_method_16_code 1 (some .boolean)).before args0 about1 = true := code_word (m := ⟨22, 0⟩) (meth := k22m0) (c := k22c0) (by decide +kernel) rfl rfl rfl (by decide +kernel)
theorem w_c32 : (Jvm.Cond.code ⟨"java/util/Arrays", "copyOf", "([BI)[B"⟩ jdk_65_method_121_code 3 (Option.some (Jvm.ClassFile.FieldType.array Jvm.ClassFile.FieldType.byte))).before args0 about1 = true := code_word (m := ⟨19, 1⟩) (meth := k19m1) (c := k19c1) (by decide +kernel) rfl rfl rfl (by decide +kernel)
theorem w_c33 : (Jvm.Cond.code ⟨"java/lang/Math", "min", "(II)I"⟩ jdk_29_method_69_code 2 (some .int)).before args0 about1 = true := code_word (m := ⟨23, 1⟩) (meth := k23m1) (c := k23c1) (by decide +kernel) rfl rfl rfl (by decide +kernel)
theorem w_c34 : (Jvm.Cond.code ⟨"java/lang/String", "<init>", "([C)V"⟩ jdk_42_method_3_code 2 none).before args0 about1 = true := code_word (m := ⟨7, 1⟩) (meth := k7m1) (c := k7c1) (by decide +kernel) rfl rfl rfl (by decide +kernel)
theorem w_c35 : (Jvm.Cond.code ⟨"java/lang/String", "<init>", "([CIILjava/lang/Void;)V"⟩ jdk_42_method_149_code 6 none).before args0 about1 = true := code_word (m := ⟨7, 16⟩) (meth := k7m16) (c := k7c16) (by decide +kernel) rfl rfl rfl (by decide +kernel)
theorem w_c36 : (Jvm.Cond.code ⟨"java/lang/StringUTF16", "compress", "([CII)[B"⟩ jdk_52_method_16_code 6 (Option.some (Jvm.ClassFile.FieldType.array Jvm.ClassFile.FieldType.byte))).before args0 about1 = true := code_word (m := ⟨17, 6⟩) (meth := k17m6) (c := k17c6) (by decide +kernel) rfl rfl rfl (by decide +kernel)
theorem w_c37 : (Jvm.Cond.code ⟨"java/lang/StringUTF16", "compress", "([CI[BII)I"⟩ jdk_52_method_21_code 7 (some .int)).before args0 about1 = true := code_word (m := ⟨17, 7⟩) (meth := k17m7) (c := k17c7) (by decide +kernel) rfl rfl rfl (by decide +kernel)
theorem w_c38 : (Jvm.Cond.code ⟨"java/lang/StringUTF16", "coderFromArrayLen", "([BI)B"⟩ jdk_52_method_15_code 2 (some .byte)).before args0 about1 = true := code_word (m := ⟨17, 5⟩) (meth := k17m5) (c := k17c5) (by decide +kernel) rfl rfl rfl (by decide +kernel)
theorem w_c39 : (Jvm.Cond.code ⟨"java/lang/String", "lastIndexOf", "(I)I"⟩ jdk_42_method_82_code 2 (some .int)).before args0 about1 = true := code_word (m := ⟨7, 11⟩) (meth := k7m11) (c := k7c11) (by decide +kernel) rfl rfl rfl (by decide +kernel)
theorem w_c40 : (Jvm.Cond.code ⟨"java/lang/String", "length", "()I"⟩ jdk_42_method_54_code 1 (some .int)).before args0 about1 = true := code_word (m := ⟨7, 9⟩) (meth := k7m9) (c := k7c9) (by decide +kernel) rfl rfl rfl (by decide +kernel)
theorem w_c41 : (Jvm.Cond.code ⟨"java/lang/String", "coder", "()B"⟩ jdk_42_method_152_code 1 (some .byte)).before args0 about1 = true := code_word (m := ⟨7, 18⟩) (meth := k7m18) (c := k7c18) (by decide +kernel) rfl rfl rfl (by decide +kernel)
theorem w_c42 : (Jvm.Cond.code ⟨"java/lang/String", "lastIndexOf", "(II)I"⟩ jdk_42_method_83_code 3 (some .int)).before args0 about1 = true := code_word (m := ⟨7, 12⟩) (meth := k7m12) (c := k7c12) (by decide +kernel) rfl rfl rfl (by decide +kernel)
theorem w_c43 : (Jvm.Cond.code ⟨"java/lang/String", "isLatin1", "()Z"⟩ jdk_42_method_154_code 1 (some .boolean)).before args0 about1 = true := code_word (m := ⟨7, 19⟩) (meth := k7m19) (c := k7c19) (by decide +kernel) rfl rfl rfl (by decide +kernel)
theorem w_c44 : (Jvm.Cond.code ⟨"java/lang/StringLatin1", "lastIndexOf", "([BII)I"⟩ jdk_43_method_27_code 4 (some .int)).before args0 about1 = true := code_word (m := ⟨16, 4⟩) (meth := k16m4) (c := k16c4) (by decide +kernel) rfl rfl rfl (by decide +kernel)
theorem w_c45 : (Jvm.Cond.code ⟨"java/lang/StringLatin1", "canEncode", "(I)Z"⟩ jdk_43_method_4_code 1 (some .boolean)).before args0 about1 = true := code_word (m := ⟨16, 2⟩) (meth := k16m2) (c := k16c2) (by decide +kernel) rfl rfl rfl (by decide +kernel)
theorem w_c46 : (Jvm.Cond.code ⟨"java/lang/String", "substring", "(I)Ljava/lang/String;"⟩ jdk_42_method_91_code 2 (Option.some (Jvm.ClassFile.FieldType.object "java/lang/String"))).before args0 about1 = true := code_word (m := ⟨7, 13⟩) (meth := k7m13) (c := k7c13) (by decide +kernel) rfl rfl rfl (by decide +kernel)
theorem w_c47 : (Jvm.Cond.code ⟨"java/lang/String", "substring", "(II)Ljava/lang/String;"⟩ jdk_42_method_92_code 5 (Option.some (Jvm.ClassFile.FieldType.object "java/lang/String"))).before args0 about1 = true := code_word (m := ⟨7, 14⟩) (meth := k7m14) (c := k7c14) (by decide +kernel) rfl rfl rfl (by decide +kernel)
theorem w_c48 : (Jvm.Cond.code ⟨"java/lang/String", "checkBoundsBeginEnd", "(III)V"⟩ jdk_42_method_158_code 3 none).before args0 about1 = true := code_word (m := ⟨7, 21⟩) (meth := k7m21) (c := k7c21) (by decide +kernel) rfl rfl rfl (by decide +kernel)
theorem w_c49 : (Jvm.Cond.code ⟨"jdk/internal/util/Preconditions", "checkFromToIndex", "(IIILjava/util/function/BiFunction;)I"⟩ jdk_41_method_12_code 4 (some .int)).before args0 about1 = true := code_word (m := ⟨21, 1⟩) (meth := k21m1) (c := k21c1) (by decide +kernel) rfl rfl rfl (by decide +kernel)
theorem w_c50 : (Jvm.Cond.code ⟨"java/lang/StringLatin1", "newString", "([BII)Ljava/lang/String;"⟩ jdk_43_method_47_code 3 (Option.some (Jvm.ClassFile.FieldType.object "java/lang/String"))).before args0 about1 = true := code_word (m := ⟨16, 6⟩) (meth := k16m6) (c := k16c6) (by decide +kernel) rfl rfl rfl (by decide +kernel)
theorem w_c51 : (Jvm.Cond.code ⟨"java/util/Arrays", "copyOfRangeByte", "([BII)[B"⟩ jdk_65_method_133_code 5 (Option.some (Jvm.ClassFile.FieldType.array Jvm.ClassFile.FieldType.byte))).before args0 about1 = true := code_word (m := ⟨19, 4⟩) (meth := k19m4) (c := k19c4) (by decide +kernel) rfl rfl rfl (by decide +kernel)
theorem w_c52 : (Jvm.Cond.code ⟨"java/util/Arrays", "checkLength", "(II)V"⟩ jdk_65_method_131_code 2 none).before args0 about1 = true := code_word (m := ⟨19, 2⟩) (meth := k19m2) (c := k19c2) (by decide +kernel) rfl rfl rfl (by decide +kernel)
theorem w_c53 : (Jvm.Cond.code ⟨"java/lang/StringLatin1", "toBytes", "(C)[B"⟩ jdk_43_method_46_code 1 (Option.some (Jvm.ClassFile.FieldType.array Jvm.ClassFile.FieldType.byte))).before args0 about1 = true := code_word (m := ⟨16, 5⟩) (meth := k16m5) (c := k16c5) (by decide +kernel) rfl rfl rfl (by decide +kernel)
theorem w_c54 : (Jvm.Cond.code ⟨"java/lang/String", "decode2", "(II)C"⟩ jdk_42_method_35_code 2 (some .char)).before args0 about1 = true := code_word (m := ⟨7, 5⟩) (meth := k7m5) (c := k7c5) (by decide +kernel) rfl rfl rfl (by decide +kernel)
theorem w_c55 : (Jvm.Cond.code ⟨"java/lang/String", "isNotContinuation", "(I)Z"⟩ jdk_42_method_29_code 1 (some .boolean)).before args0 about1 = true := code_word (m := ⟨7, 3⟩) (meth := k7m3) (c := k7c3) (by decide +kernel) rfl rfl rfl (by decide +kernel)
theorem w_z30 : (Jvm.Cond.codeWith ⟨"java/lang/String", "<init>", "(Ljava/nio/charset/Charset;[BII)V"⟩ jdk_42_method_11_code 11 none [(800, 813, 816, 202)]).before args0 about1 = true := code_wordW (m := ⟨7, 2⟩) (meth := k7m2) (c := k7c2) (by decide +kernel) rfl rfl rfl (by decide +kernel)
def codes1 : List Jvm.Cond := [Jvm.Cond.code x code maxLocals ret, Jvm.Cond.code ⟨"com/example/reasoned_retry/reasonedretry/Classifier$Failure", "of", "(Ljava/lang/String;I[B)Lcom/example/reasoned_retry/reasonedretry/Classifier$Failure;"⟩ prog_6_method_2_code 4 (Option.some (Jvm.ClassFile.FieldType.object "com/example/reasoned_retry/reasonedretry/Classifier$Failure")), Jvm.Cond.code ⟨"java/lang/String", "<init>", "([BLjava/nio/charset/Charset;)V"⟩ jdk_42_method_49_code 3 none, Jvm.Cond.code ⟨"java/util/Objects", "requireNonNull", "(Ljava/lang/Object;)Ljava/lang/Object;"⟩ jdk_31_method_10_code 1 (Option.some (Jvm.ClassFile.FieldType.object "java/lang/Object")), Jvm.Cond.codeWith ⟨"java/lang/String", "<init>", "(Ljava/nio/charset/Charset;[BII)V"⟩ jdk_42_method_11_code 11 none [(800, 813, 816, 202)], Jvm.Cond.code ⟨"java/lang/Object", "<init>", "()V"⟩ object_method_1_code 1 none, Jvm.Cond.code ⟨"com/example/reasoned_retry/reasonedretry/Classifier$Failure", "<init>", "(Ljava/lang/String;ILjava/lang/String;)V"⟩ prog_6_method_1_code 4 none, Jvm.Cond.code ⟨"java/lang/Record", "<init>", "()V"⟩ jdk_30_method_1_code 1 none, Jvm.Cond.code ⟨"java/util/Objects", "requireNonNull", "(Ljava/lang/Object;Ljava/lang/String;)Ljava/lang/Object;"⟩ jdk_31_method_11_code 2 (Option.some (Jvm.ClassFile.FieldType.object "java/lang/Object")), Jvm.Cond.code ⟨"com/example/reasoned_retry/reasonedretry/Classifier$Failure", "command", "()Ljava/lang/String;"⟩ prog_6_method_6_code 1 (Option.some (Jvm.ClassFile.FieldType.object "java/lang/String")), Jvm.Cond.code ⟨"com/example/reasoned_retry/reasonedretry/Classifier$Failure", "exitCode", "()I"⟩ prog_6_method_7_code 1 (some .int), Jvm.Cond.code ⟨"com/example/reasoned_retry/reasonedretry/Classifier$Failure", "output", "()Ljava/lang/String;"⟩ prog_6_method_8_code 1 (Option.some (Jvm.ClassFile.FieldType.object "java/lang/String")), Jvm.Cond.code ⟨"java/lang/String", "equals", "(Ljava/lang/Object;)Z"⟩ jdk_42_method_66_code 3 (some .boolean), Jvm.Cond.code ⟨"java/lang/StringLatin1", "equals", "([B[B)Z"⟩ jdk_43_method_13_code 3 (some .boolean), Jvm.Cond.code ⟨"java/lang/String", "valueOf", "(C)Ljava/lang/String;"⟩ jdk_42_method_139_code 1 (Option.some (Jvm.ClassFile.FieldType.object "java/lang/String")), Jvm.Cond.code ⟨"java/lang/StringLatin1", "canEncode", "(C)Z"⟩ jdk_43_method_3_code 1 (some .boolean), Jvm.Cond.code ⟨"java/lang/StringUTF16", "toBytes", "(C)[B"⟩ jdk_52_method_24_code 2 (Option.some (Jvm.ClassFile.FieldType.array Jvm.ClassFile.FieldType.byte)), Jvm.Cond.code ⟨"java/lang/StringUTF16", "putChar", "([BII)V"⟩ jdk_52_method_4_code 3 none, Jvm.Cond.code ⟨"java/lang/String", "<init>", "([BB)V"⟩ jdk_42_method_151_code 3 none, Jvm.Cond.code ⟨"java/lang/StringCoding", "countPositives", "([BII)I"⟩ jdk_123_method_3_code 5 (some .int), Jvm.Cond.code ⟨"java/util/Arrays", "copyOfRange", "([BII)[B"⟩ jdk_65_method_132_code 3 (Option.some (Jvm.ClassFile.FieldType.array Jvm.ClassFile.FieldType.byte)), Jvm.Cond.code ⟨"java/lang/StringUTF16", "newBytesFor", "(I)[B"⟩ jdk_52_method_2_code 1 (Option.some (Jvm.ClassFile.FieldType.array Jvm.ClassFile.FieldType.byte)), Jvm.Cond.code ⟨"java/lang/StringUTF16", "newBytesLength", "(I)I"⟩ jdk_52_method_3_code 1 (some .int), Jvm.Cond.code ⟨"java/lang/StringLatin1", "inflate", "([BI[BII)V"⟩ jdk_43_method_50_code 5 none, Jvm.Cond.code ⟨"java/lang/StringUTF16", "inflate", "([BI[BII)V"⟩ jdk_52_method_86_code 6 none, Jvm.Cond.code ⟨"java/lang/StringUTF16", "checkBoundsOffCount", "(II[B)V"⟩ jdk_52_method_94_code 3 none, Jvm.Cond.code ⟨"java/lang/StringUTF16", "length", "([B)I"⟩ jdk_52_method_6_code 1 (some .int), Jvm.Cond.code ⟨"java/lang/String", "checkBoundsOffCount", "(III)I"⟩ jdk_42_method_157_code 3 (some .int), Jvm.Cond.code ⟨"jdk/internal/util/Preconditions", "checkFromIndexSize", "(IIILjava/util/function/BiFunction;)I"⟩ jdk_41_method_13_code 4 (some .int), Jvm.Cond.code ⟨"java/lang/String", "decodeUTF8_UTF16", "([BII[BIZ)I"⟩ jdk_42_method_38_code 11 (some .int), Jvm.Cond.code ⟨"java/lang/String", "isMalformed3", "(III)Z"⟩ jdk_42_method_30_code 3 (some .boolean), Jvm.Cond.code ⟨"java/lang/String", "decode3", "(III)C"⟩ jdk_42_method_36_code 3 (some .char), Jvm.Cond.code ⟨"java/lang/Character", "isSurrogate", "(C)Z"⟩ jdk_89_method_16_code 1 (some .boolean), Jvm.Cond.code ⟨"java/util/Arrays", "copyOf", "([BI)[B"⟩ jdk_65_method_121_code 3 (Option.some (Jvm.ClassFile.FieldType.array Jvm.ClassFile.FieldType.byte)), Jvm.Cond.code ⟨"java/lang/Math", "min", "(II)I"⟩ jdk_29_method_69_code 2 (some .int), Jvm.Cond.code ⟨"java/lang/String", "<init>", "([C)V"⟩ jdk_42_method_3_code 2 none, Jvm.Cond.code ⟨"java/lang/String", "<init>", "([CIILjava/lang/Void;)V"⟩ jdk_42_method_149_code 6 none, Jvm.Cond.code ⟨"java/lang/StringUTF16", "compress", "([CII)[B"⟩ jdk_52_method_16_code 6 (Option.some (Jvm.ClassFile.FieldType.array Jvm.ClassFile.FieldType.byte)), Jvm.Cond.code ⟨"java/lang/StringUTF16", "compress", "([CI[BII)I"⟩ jdk_52_method_21_code 7 (some .int), Jvm.Cond.code ⟨"java/lang/StringUTF16", "coderFromArrayLen", "([BI)B"⟩ jdk_52_method_15_code 2 (some .byte), Jvm.Cond.code ⟨"java/lang/String", "lastIndexOf", "(I)I"⟩ jdk_42_method_82_code 2 (some .int), Jvm.Cond.code ⟨"java/lang/String", "length", "()I"⟩ jdk_42_method_54_code 1 (some .int), Jvm.Cond.code ⟨"java/lang/String", "coder", "()B"⟩ jdk_42_method_152_code 1 (some .byte), Jvm.Cond.code ⟨"java/lang/String", "lastIndexOf", "(II)I"⟩ jdk_42_method_83_code 3 (some .int), Jvm.Cond.code ⟨"java/lang/String", "isLatin1", "()Z"⟩ jdk_42_method_154_code 1 (some .boolean), Jvm.Cond.code ⟨"java/lang/StringLatin1", "lastIndexOf", "([BII)I"⟩ jdk_43_method_27_code 4 (some .int), Jvm.Cond.code ⟨"java/lang/StringLatin1", "canEncode", "(I)Z"⟩ jdk_43_method_4_code 1 (some .boolean), Jvm.Cond.code ⟨"java/lang/String", "substring", "(I)Ljava/lang/String;"⟩ jdk_42_method_91_code 2 (Option.some (Jvm.ClassFile.FieldType.object "java/lang/String")), Jvm.Cond.code ⟨"java/lang/String", "substring", "(II)Ljava/lang/String;"⟩ jdk_42_method_92_code 5 (Option.some (Jvm.ClassFile.FieldType.object "java/lang/String")), Jvm.Cond.code ⟨"java/lang/String", "checkBoundsBeginEnd", "(III)V"⟩ jdk_42_method_158_code 3 none, Jvm.Cond.code ⟨"jdk/internal/util/Preconditions", "checkFromToIndex", "(IIILjava/util/function/BiFunction;)I"⟩ jdk_41_method_12_code 4 (some .int), Jvm.Cond.code ⟨"java/lang/StringLatin1", "newString", "([BII)Ljava/lang/String;"⟩ jdk_43_method_47_code 3 (Option.some (Jvm.ClassFile.FieldType.object "java/lang/String")), Jvm.Cond.code ⟨"java/util/Arrays", "copyOfRangeByte", "([BII)[B"⟩ jdk_65_method_133_code 5 (Option.some (Jvm.ClassFile.FieldType.array Jvm.ClassFile.FieldType.byte)), Jvm.Cond.code ⟨"java/util/Arrays", "checkLength", "(II)V"⟩ jdk_65_method_131_code 2 none, Jvm.Cond.code ⟨"java/lang/StringLatin1", "toBytes", "(C)[B"⟩ jdk_43_method_46_code 1 (Option.some (Jvm.ClassFile.FieldType.array Jvm.ClassFile.FieldType.byte)), Jvm.Cond.code ⟨"java/lang/String", "decode2", "(II)C"⟩ jdk_42_method_35_code 2 (some .char), Jvm.Cond.code ⟨"java/lang/String", "isNotContinuation", "(I)Z"⟩ jdk_42_method_29_code 1 (some .boolean)]
theorem codes_eq : words1.filter isCode = codes1 := rfl
theorem w_codes : ∀ c ∈ words1.filter isCode, c.before args0 about1 = true := by
  rw [codes_eq]
  intro c hc
  simp only [codes1, List.mem_cons, List.not_mem_nil, or_false] at hc
  rcases hc with rfl | rfl | rfl | rfl | rfl | rfl | rfl | rfl | rfl | rfl | rfl | rfl | rfl | rfl | rfl | rfl | rfl | rfl | rfl | rfl | rfl | rfl | rfl | rfl | rfl | rfl | rfl | rfl | rfl | rfl | rfl | rfl | rfl | rfl | rfl | rfl | rfl | rfl | rfl | rfl | rfl | rfl | rfl | rfl | rfl | rfl | rfl | rfl | rfl | rfl | rfl | rfl | rfl | rfl | rfl | rfl | rfl
  · exact w_c0
  · exact w_c1
  · exact w_c2
  · exact w_c3
  · exact w_z30
  · exact w_c4
  · exact w_c5
  · exact w_c6
  · exact w_c7
  · exact w_c8
  · exact w_c9
  · exact w_c10
  · exact w_c11
  · exact w_c12
  · exact w_c13
  · exact w_c14
  · exact w_c15
  · exact w_c16
  · exact w_c17
  · exact w_c18
  · exact w_c19
  · exact w_c20
  · exact w_c21
  · exact w_c22
  · exact w_c23
  · exact w_c24
  · exact w_c25
  · exact w_c26
  · exact w_c27
  · exact w_c28
  · exact w_c29
  · exact w_c30
  · exact w_c31
  · exact w_c32
  · exact w_c33
  · exact w_c34
  · exact w_c35
  · exact w_c36
  · exact w_c37
  · exact w_c38
  · exact w_c39
  · exact w_c40
  · exact w_c41
  · exact w_c42
  · exact w_c43
  · exact w_c44
  · exact w_c45
  · exact w_c46
  · exact w_c47
  · exact w_c48
  · exact w_c49
  · exact w_c50
  · exact w_c51
  · exact w_c52
  · exact w_c53
  · exact w_c54
  · exact w_c55
theorem w_t1 : (words1.take 24).all (fun c => isCode c || c.before args0 about1) = true := by decide +kernel
theorem w_t2 : ((words1.drop 24).take 24).all (fun c => isCode c || c.before args0 about1) = true := by decide +kernel
theorem w_t3 : (((words1.drop 24).drop 24).take 24).all (fun c => isCode c || c.before args0 about1) = true := by decide +kernel
theorem w_t4 : ((((words1.drop 24).drop 24).drop 24).take 24).all (fun c => isCode c || c.before args0 about1) = true := by decide +kernel
theorem w_t5 : (((((words1.drop 24).drop 24).drop 24).drop 24).take 24).all (fun c => isCode c || c.before args0 about1) = true := by decide +kernel
theorem w_t6 : ((((((words1.drop 24).drop 24).drop 24).drop 24).drop 24).take 24).all (fun c => isCode c || c.before args0 about1) = true := by decide +kernel
theorem w_t7 : (((((((words1.drop 24).drop 24).drop 24).drop 24).drop 24).drop 24).take 24).all (fun c => isCode c || c.before args0 about1) = true := by decide +kernel
theorem w_t8 : ((((((((words1.drop 24).drop 24).drop 24).drop 24).drop 24).drop 24).drop 24).take 24).all (fun c => isCode c || c.before args0 about1) = true := by decide +kernel
theorem w_t9 : (((((((((words1.drop 24).drop 24).drop 24).drop 24).drop 24).drop 24).drop 24).drop 24).take 24).all (fun c => isCode c || c.before args0 about1) = true := by decide +kernel
theorem w_t10 : ((((((((((words1.drop 24).drop 24).drop 24).drop 24).drop 24).drop 24).drop 24).drop 24).drop 24).take 24).all (fun c => isCode c || c.before args0 about1) = true := by decide +kernel
theorem w_t11 : ((((((((((words1.drop 24).drop 24).drop 24).drop 24).drop 24).drop 24).drop 24).drop 24).drop 24).drop 24).all (fun c => isCode c || c.before args0 about1) = true := by decide +kernel
theorem w_tables : (allAtoms (Jvm.Cond.code x code maxLocals ret :: tables_1)).before args0 about1 = true := by
  rw [allAtoms_all]
  show words1.all (fun c => c.before args0 about1) = true
  refine all_split ?_ w_codes
  rw [← List.take_append_drop 24 words1, List.all_append, w_t1, ← List.take_append_drop 24 (words1.drop 24), List.all_append, w_t2, ← List.take_append_drop 24 ((words1.drop 24).drop 24), List.all_append, w_t3, ← List.take_append_drop 24 (((words1.drop 24).drop 24).drop 24), List.all_append, w_t4, ← List.take_append_drop 24 ((((words1.drop 24).drop 24).drop 24).drop 24), List.all_append, w_t5, ← List.take_append_drop 24 (((((words1.drop 24).drop 24).drop 24).drop 24).drop 24), List.all_append, w_t6, ← List.take_append_drop 24 ((((((words1.drop 24).drop 24).drop 24).drop 24).drop 24).drop 24), List.all_append, w_t7, ← List.take_append_drop 24 (((((((words1.drop 24).drop 24).drop 24).drop 24).drop 24).drop 24).drop 24), List.all_append, w_t8, ← List.take_append_drop 24 ((((((((words1.drop 24).drop 24).drop 24).drop 24).drop 24).drop 24).drop 24).drop 24), List.all_append, w_t9, ← List.take_append_drop 24 (((((((((words1.drop 24).drop 24).drop 24).drop 24).drop 24).drop 24).drop 24).drop 24).drop 24), List.all_append, w_t10, w_t11]
  rfl
theorem w_rest : rest_1_c.before args0 about1 = true := by decide +kernel
theorem w_case : (Jvm.Cond.and given_1 narrow_1).before args0 about1 = true := by decide +kernel
theorem w_consts : constsHeld consts_1 about1 := Jvm.Lit.constsHeldB_iff.mp (by decide +kernel)
theorem w_applies : (headSpec (Jvm.Cond.code x code maxLocals ret :: tables_1) room_1).applies x e0.platform about1 = true :=
  (Spec.applies_iff w_frames).mpr ⟨w_running, w_runnable, w_alone, w_named, w_hears, w_ripe, w_room, w_tables⟩
theorem atStart : AtStart classFile x code maxLocals ret World_1 tables_1 room_1 Calls_1 rest_1 Pre_1 launch0 p0 e0 about1 theMethod args0 below0 :=
  ⟨lists_1, trivial, launch0.admits_env _ _ _, launch0.least_env, fairChoices_fair.cas, fairChoices_fair.clock, w_frames, w_args, w_heap, w_applies, ⟨w_consts, trivial⟩, w_rest, w_case⟩
end start1
theorem witness_1 : WitnessClaimed_1 := ⟨start1.p0, start1.e0, start1.about1, start1.theMethod, start1.args0, start1.below0, start1.atStart⟩
end Jvm.Pilot.@@N@@
