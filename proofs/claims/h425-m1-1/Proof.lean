import JvmDerived
import JvmDerived.Pilot.@@N@@Statement
import JvmDerived.Pilot.@@N@@Code
set_option linter.unusedVariables false
set_option linter.unusedSimpArgs false
set_option maxRecDepth 65536
set_option maxHeartbeats 40000000
@@BLOCK:NumsL.lean.txt@@
namespace Jvm.RoadKit
open Sem ClassFile Op Lib Jvm.Stand Jvm.Free Jvm.LawKit
/-- from U the run comes to an end of the invocation at which P holds -/
def Wp (p : Program) (e : Env) (below : List Frame) (P : State → Outcome → Prop) (U : State) : Prop :=
  ∃ s₂ o, Steps p.tables e below U s₂ ∧ s₂.status = .running ∧ Ended s₂ below o ∧ P s₂ o
theorem Wp.of {p : Program} {e : Env} {below : List Frame} {P : State → Outcome → Prop} {U U' : State} (f : ∀ t, Steps p.tables e below U' t → Steps p.tables e below U t) (k : Wp p e below P U') : Wp p e below P U := by
  obtain ⟨s2, o, a, b⟩ := k; exact ⟨s2, o, f _ a, b⟩
theorem Wp.tr {p : Program} {e : Env} {below : List Frame} {P : State → Outcome → Prop} {U U' : State} (f : Steps p.tables e below U U') (k : Wp p e below P U') : Wp p e below P U := by
  obtain ⟨s2, o, a, b⟩ := k; exact ⟨s2, o, f.trans a, b⟩
theorem Wp.cast {p : Program} {e : Env} {below : List Frame} {P : State → Outcome → Prop} {T : State} {g g' : JFrame} (q : g = g') (k : Wp p e below P (T.setTop g')) : Wp p e below P (T.setTop g) := q ▸ k
/-- where the walk stands: the library's Stand, what stays the same throughout a body, the heap, that only new places were written, that the start's cells are as they were -/
def Sd (Z : State) (n0 kk : Nat) (code : ByteArray) (ml : Nat) (own nm : String) (ret : Option FieldType) (h : Heap) (p : Program) (l : Launch) (e : Env) (R : Room) (s : State) (m : MethodId) (args : Array Value) (below : List Frame) (meth : Method) (c : Code) (T : State) (locs : List Loc) (cells slots : Nat) : Prop :=
  Stand p l e R s m args below meth c T locs cells slots ∧ (p.tables.exec = Jvm.exec ∧ c.code = code ∧ c.maxLocals = ml ∧ s.vm.findClass own = some m.cls ∧ Z.Warmed39 s.vm ∧ meth.sig.returnType = ret ∧ meth.name = nm ∧ meth.locks = false) ∧ T.heap = h ∧ Fr n0 locs ∧ Old Z n0 h ∧ kk ≤ h.size
/-- an instruction of n bytes and the pc behind it -/
def Dc (code : ByteArray) (pc : Nat) (i : Instr) (n pc' : Nat) : Prop := decode code pc = .ok (i, n) ∧ pc + n = pc'
/-- a branch of three bytes, its target and the pc behind it -/
def Bc (code : ByteArray) (pc : Nat) (f : Int → Instr) (t pc' : Nat) : Prop := ∃ o, decode code pc = .ok (f o, 3) ∧ 0 ≤ (pc : Int) + o ∧ ((pc : Int) + o).toNat = t ∧ pc + 3 = pc'

section Sd
variable {Z : State} {n0 kk : Nat} {code : ByteArray} {ml : Nat} {own nm : String} {ret : Option FieldType} {h : Heap} {p : Program} {l : Launch} {e : Env} {R : Room} {s : State} {m : MethodId} {args : Array Value} {below : List Frame} {meth : Method} {c : Code} {T : State} {locs : List Loc} {cells slots : Nat} {P : State → Outcome → Prop} {a0 : Array Value}
theorem Sd.st (X : Sd Z n0 kk code ml own nm ret h p l e R s m args below meth c T locs cells slots) : Stand p l e R s m args below meth c T locs cells slots := X.1
theorem Sd.hx (X : Sd Z n0 kk code ml own nm ret h p l e R s m args below meth c T locs cells slots) : p.tables.exec = Jvm.exec := X.2.1.1
theorem Sd.hb (X : Sd Z n0 kk code ml own nm ret h p l e R s m args below meth c T locs cells slots) {pc : Nat} {r : Except DecodeError (Instr × Nat)} (q : decode code pc = r) : decode c.code pc = r := X.2.1.2.1 ▸ q
theorem Sd.hml (X : Sd Z n0 kk code ml own nm ret h p l e R s m args below meth c T locs cells slots) : c.maxLocals = ml := X.2.1.2.2.1
theorem Sd.hown (X : Sd Z n0 kk code ml own nm ret h p l e R s m args below meth c T locs cells slots) : s.vm.findClass own = some m.cls := X.2.1.2.2.2.1
theorem Sd.hZ (X : Sd Z n0 kk code ml own nm ret h p l e R s m args below meth c T locs cells slots) : Z.Warmed39 s.vm := X.2.1.2.2.2.2.1
theorem Sd.hret (X : Sd Z n0 kk code ml own nm ret h p l e R s m args below meth c T locs cells slots) : meth.sig.returnType = ret := X.2.1.2.2.2.2.2.1
theorem Sd.hnm (X : Sd Z n0 kk code ml own nm ret h p l e R s m args below meth c T locs cells slots) : meth.name = nm := X.2.1.2.2.2.2.2.2.1
theorem Sd.hlk (X : Sd Z n0 kk code ml own nm ret h p l e R s m args below meth c T locs cells slots) : meth.locks = false := X.2.1.2.2.2.2.2.2.2
theorem Sd.eh (X : Sd Z n0 kk code ml own nm ret h p l e R s m args below meth c T locs cells slots) : T.heap = h := X.2.2.1
theorem Sd.fr (X : Sd Z n0 kk code ml own nm ret h p l e R s m args below meth c T locs cells slots) : Fr n0 locs := X.2.2.2.1
theorem Sd.old (X : Sd Z n0 kk code ml own nm ret h p l e R s m args below meth c T locs cells slots) : Old Z n0 h := X.2.2.2.2.1
theorem Sd.hkk (X : Sd Z n0 kk code ml own nm ret h p l e R s m args below meth c T locs cells slots) : kk ≤ h.size := X.2.2.2.2.2
theorem Sd.mk' {h' : Heap} {T' : State} {locs' : List Loc} {c' s' : Nat} (X : Sd Z n0 kk code ml own nm ret h p l e R s m args below meth c T locs cells slots) (Y : Stand p l e R s m args below meth c T' locs' c' s') (q1 : T'.heap = h') (q2 : Fr n0 locs') (q3 : Old Z n0 h') (q4 : h.size ≤ h'.size) : Sd Z n0 kk code ml own nm ret h' p l e R s m args below meth c T' locs' c' s' := ⟨Y, X.2.1, q1, q2, q3, Nat.le_trans X.hkk q4⟩
end Sd
section Steps
variable {Z : State} {n0 kk : Nat} {code : ByteArray} {ml : Nat} {own nm : String} {ret : Option FieldType} {h : Heap} {p : Program} {l : Launch} {e : Env} {R : Room} {s : State} {m : MethodId} {args : Array Value} {below : List Frame} {meth : Method} {c : Code} {T : State} {locs : List Loc} {cells slots : Nat} {P : State → Outcome → Prop} {a0 : Array Value} {pc pc' : Nat} {L : Array Slot} {S : List Value}
theorem w_iloadN (X : Sd Z n0 kk code ml own nm ret h p l e R s m args below meth c T locs cells slots) {k : Fin 4} {v : Int32} (hd : Dc code pc (.iload_n k) 1 pc') (hl : L[k.val]? = some (.val (.int v))) (K : Wp p e below P (T.setTop (mkF m pc' L (.int v :: S)))) : Wp p e below P (T.setTop (mkF m pc L S)) := by
  obtain ⟨hd, rfl⟩ := hd
  exact Wp.of (fun _ k => XS.iloadN X.st.here X.hx rfl (X.hb hd) hl k) K
theorem w_iload (X : Sd Z n0 kk code ml own nm ret h p l e R s m args below meth c T locs cells slots) {k : Nat} {v : Int32} (hd : Dc code pc (.iload k) 2 pc') (hl : L[k]? = some (.val (.int v))) (K : Wp p e below P (T.setTop (mkF m pc' L (.int v :: S)))) : Wp p e below P (T.setTop (mkF m pc L S)) := by
  obtain ⟨hd, rfl⟩ := hd
  exact Wp.of (fun _ k => XS.iload X.st.here X.hx rfl (X.hb hd) hl k) K
theorem w_lload (X : Sd Z n0 kk code ml own nm ret h p l e R s m args below meth c T locs cells slots) {k : Nat} {v : Int64} (hd : Dc code pc (.lload k) 2 pc') (hl : L[k]? = some (.val (.long v))) (K : Wp p e below P (T.setTop (mkF m pc' L (.long v :: S)))) : Wp p e below P (T.setTop (mkF m pc L S)) := by
  obtain ⟨hd, rfl⟩ := hd
  exact Wp.of (fun _ k => XS.lload X.st.here X.hx rfl (X.hb hd) hl k) K
theorem w_aloadN (X : Sd Z n0 kk code ml own nm ret h p l e R s m args below meth c T locs cells slots) {k : Fin 4} {v : Value} (hd : Dc code pc (.aload_n k) 1 pc') (hl : L[k.val]? = some (.val v)) (hv : v.isRef = true) (K : Wp p e below P (T.setTop (mkF m pc' L (v :: S)))) : Wp p e below P (T.setTop (mkF m pc L S)) := by
  obtain ⟨hd, rfl⟩ := hd
  exact Wp.of (fun _ k => XS.aloadN X.st.here X.hx rfl (X.hb hd) hl hv k) K
theorem w_aload (X : Sd Z n0 kk code ml own nm ret h p l e R s m args below meth c T locs cells slots) {k : Nat} {v : Value} (hd : Dc code pc (.aload k) 2 pc') (hl : L[k]? = some (.val v)) (hv : v.isRef = true) (K : Wp p e below P (T.setTop (mkF m pc' L (v :: S)))) : Wp p e below P (T.setTop (mkF m pc L S)) := by
  obtain ⟨hd, rfl⟩ := hd
  exact Wp.of (fun _ k => XS.aload X.st.here X.hx rfl (X.hb hd) hl hv k) K
theorem w_istoreN (X : Sd Z n0 kk code ml own nm ret h p l e R s m args below meth c T locs cells slots) {k : Fin 4} {v : Int32} (L' : Array Slot) (hd : Dc code pc (.istore_n k) 1 pc') (hl : storeLocals L k.val (.int v) = some L') (K : Wp p e below P (T.setTop (mkF m pc' L' S))) : Wp p e below P (T.setTop (mkF m pc L (.int v :: S))) := by
  obtain ⟨hd, rfl⟩ := hd
  exact Wp.of (fun _ k => XS.istoreN X.st.here X.hx rfl (X.hb hd) rfl hl k) K
theorem w_istore (X : Sd Z n0 kk code ml own nm ret h p l e R s m args below meth c T locs cells slots) {k : Nat} {v : Int32} (L' : Array Slot) (hd : Dc code pc (.istore k) 2 pc') (hl : storeLocals L k (.int v) = some L') (K : Wp p e below P (T.setTop (mkF m pc' L' S))) : Wp p e below P (T.setTop (mkF m pc L (.int v :: S))) := by
  obtain ⟨hd, rfl⟩ := hd
  exact Wp.of (fun _ k => XS.istore X.st.here X.hx rfl (X.hb hd) rfl hl k) K
theorem w_lstore (X : Sd Z n0 kk code ml own nm ret h p l e R s m args below meth c T locs cells slots) {k : Nat} {v : Int64} (L' : Array Slot) (hd : Dc code pc (.lstore k) 2 pc') (hl : storeLocals L k (.long v) = some L') (K : Wp p e below P (T.setTop (mkF m pc' L' S))) : Wp p e below P (T.setTop (mkF m pc L (.long v :: S))) := by
  obtain ⟨hd, rfl⟩ := hd
  exact Wp.of (fun _ k => XS.lstore X.st.here X.hx rfl (X.hb hd) rfl hl k) K
theorem w_astore (X : Sd Z n0 kk code ml own nm ret h p l e R s m args below meth c T locs cells slots) {k : Nat} {v : Value} (L' : Array Slot) (hd : Dc code pc (.astore k) 2 pc') (hv : v.isRef = true) (hl : storeLocals L k v = some L') (K : Wp p e below P (T.setTop (mkF m pc' L' S))) : Wp p e below P (T.setTop (mkF m pc L (v :: S))) := by
  obtain ⟨hd, rfl⟩ := hd
  exact Wp.of (fun _ k => XS.astore X.st.here X.hx rfl (X.hb hd) rfl hv hl k) K
theorem w_iinc (X : Sd Z n0 kk code ml own nm ret h p l e R s m args below meth c T locs cells slots) {k : Nat} {q : Int} {v : Int32} (z : Int32) (L' : Array Slot) (hd : Dc code pc (.iinc k q) 3 pc') (hq : Int32.ofInt q = z) (hg : L[k]? = some (.val (.int v))) (hl : storeLocals L k (.int (v + z)) = some L') (K : Wp p e below P (T.setTop (mkF m pc' L' S))) : Wp p e below P (T.setTop (mkF m pc L S)) := by
  obtain ⟨hd, rfl⟩ := hd
  exact Wp.of (fun _ k => XS.iinc X.st.here X.hx rfl (X.hb hd) hg (hq ▸ hl) k) K
theorem w_iconst (X : Sd Z n0 kk code ml own nm ret h p l e R s m args below meth c T locs cells slots) {i : Int} (v : Int32) (hd : Dc code pc (.iconst i) 1 pc') (hv : Int32.ofInt i = v) (K : Wp p e below P (T.setTop (mkF m pc' L (.int v :: S)))) : Wp p e below P (T.setTop (mkF m pc L S)) := by
  obtain ⟨hd, rfl⟩ := hd
  exact Wp.of (fun _ k => XS.iconst X.st.here X.hx rfl (X.hb hd) (by rw [hv]; exact k)) K
theorem w_bipush (X : Sd Z n0 kk code ml own nm ret h p l e R s m args below meth c T locs cells slots) {i : Int} (v : Int32) (hd : Dc code pc (.bipush i) 2 pc') (hv : (Int8.ofInt i).toInt32 = v) (K : Wp p e below P (T.setTop (mkF m pc' L (.int v :: S)))) : Wp p e below P (T.setTop (mkF m pc L S)) := by
  obtain ⟨hd, rfl⟩ := hd
  exact Wp.of (fun _ k => XS.bipush X.st.here X.hx rfl (X.hb hd) (by rw [hv]; exact k)) K
theorem w_sipush (X : Sd Z n0 kk code ml own nm ret h p l e R s m args below meth c T locs cells slots) {i : Int} (v : Int32) (hd : Dc code pc (.sipush i) 3 pc') (hv : (Int16.ofInt i).toInt32 = v) (K : Wp p e below P (T.setTop (mkF m pc' L (.int v :: S)))) : Wp p e below P (T.setTop (mkF m pc L S)) := by
  obtain ⟨hd, rfl⟩ := hd
  exact Wp.of (fun _ k => XS.sipush X.st.here X.hx rfl (X.hb hd) (by rw [hv]; exact k)) K
theorem w_aconstNull (X : Sd Z n0 kk code ml own nm ret h p l e R s m args below meth c T locs cells slots)  (hd : Dc code pc (.aconst_null) 1 pc')  (K : Wp p e below P (T.setTop (mkF m pc' L (.null :: S)))) : Wp p e below P (T.setTop (mkF m pc L S)) := by
  obtain ⟨hd, rfl⟩ := hd
  exact Wp.of (fun _ k => XS.aconstNull X.st.here X.hx rfl (X.hb hd) k) K
theorem w_iadd (X : Sd Z n0 kk code ml own nm ret h p l e R s m args below meth c T locs cells slots) {x y : Int32} (hd : Dc code pc (.iadd) 1 pc')  (K : Wp p e below P (T.setTop (mkF m pc' L (.int (x + y) :: S)))) : Wp p e below P (T.setTop (mkF m pc L (.int y :: .int x :: S))) := by
  obtain ⟨hd, rfl⟩ := hd
  exact Wp.of (fun _ k => XS.iadd X.st.here X.hx rfl (X.hb hd) rfl k) K
theorem w_isub (X : Sd Z n0 kk code ml own nm ret h p l e R s m args below meth c T locs cells slots) {x y : Int32} (hd : Dc code pc (.isub) 1 pc')  (K : Wp p e below P (T.setTop (mkF m pc' L (.int (x - y) :: S)))) : Wp p e below P (T.setTop (mkF m pc L (.int y :: .int x :: S))) := by
  obtain ⟨hd, rfl⟩ := hd
  exact Wp.of (fun _ k => XS.isub X.st.here X.hx rfl (X.hb hd) rfl k) K
theorem w_iand (X : Sd Z n0 kk code ml own nm ret h p l e R s m args below meth c T locs cells slots) {x y : Int32} (hd : Dc code pc (.iand) 1 pc')  (K : Wp p e below P (T.setTop (mkF m pc' L (.int (x &&& y) :: S)))) : Wp p e below P (T.setTop (mkF m pc L (.int y :: .int x :: S))) := by
  obtain ⟨hd, rfl⟩ := hd
  exact Wp.of (fun _ k => XS.iand X.st.here X.hx rfl (X.hb hd) rfl k) K
theorem w_lor (X : Sd Z n0 kk code ml own nm ret h p l e R s m args below meth c T locs cells slots) {x y : Int64} (hd : Dc code pc (.lor) 1 pc')  (K : Wp p e below P (T.setTop (mkF m pc' L (.long (x ||| y) :: S)))) : Wp p e below P (T.setTop (mkF m pc L (.long y :: .long x :: S))) := by
  obtain ⟨hd, rfl⟩ := hd
  exact Wp.of (fun _ k => XS.lor X.st.here X.hx rfl (X.hb hd) rfl k) K
theorem own_irem (x y : Int32) : x - (x / y) * y = x % y := by
  apply Int32.toInt_inj.mp
  have h1 := Int32.le_toInt (x % y)
  have h2 := Int32.toInt_lt (x % y)
  rw [Int32.toInt_mod] at h1 h2 ⊢
  rw [Int32.toInt_sub, Int32.toInt_mul, Int32.toInt_div, Int.bmod_mul_bmod, Int.sub_bmod_bmod]
  have e : x.toInt - x.toInt.tdiv y.toInt * y.toInt = x.toInt.tmod y.toInt := by rw [Int.mul_comm]; exact (Int.tmod_def _ _).symm
  rw [e, Int.bmod_eq_of_le (by omega) (by omega)]
theorem w_irem (X : Sd Z n0 kk code ml own nm ret h p l e R s m args below meth c T locs cells slots) {x y : Int32} (hd : Dc code pc (.irem) 1 pc') (hy : ¬ y = 0) (K : Wp p e below P (T.setTop (mkF m pc' L (.int (x % y) :: S)))) : Wp p e below P (T.setTop (mkF m pc L (.int y :: .int x :: S))) := by
  obtain ⟨hd, rfl⟩ := hd
  exact Wp.of (fun _ k => XS.irem X.st.here X.hx rfl (X.hb hd) rfl hy (by rw [own_irem]; exact k)) K
theorem w_ishr (X : Sd Z n0 kk code ml own nm ret h p l e R s m args below meth c T locs cells slots) {x y : Int32} (hd : Dc code pc (.ishr) 1 pc')  (K : Wp p e below P (T.setTop (mkF m pc' L (.int (x >>> (y &&& 31)) :: S)))) : Wp p e below P (T.setTop (mkF m pc L (.int y :: .int x :: S))) := by
  obtain ⟨hd, rfl⟩ := hd
  exact Wp.of (fun _ k => XS.ishr X.st.here X.hx rfl (X.hb hd) rfl k) K
theorem w_iushr (X : Sd Z n0 kk code ml own nm ret h p l e R s m args below meth c T locs cells slots) {x y : Int32} (hd : Dc code pc (.iushr) 1 pc')  (K : Wp p e below P (T.setTop (mkF m pc' L (.int ((x.toUInt32 >>> (y &&& 31).toUInt32).toInt32) :: S)))) : Wp p e below P (T.setTop (mkF m pc L (.int y :: .int x :: S))) := by
  obtain ⟨hd, rfl⟩ := hd
  exact Wp.of (fun _ k => XS.iushr X.st.here X.hx rfl (X.hb hd) rfl k) K
theorem w_lshl (X : Sd Z n0 kk code ml own nm ret h p l e R s m args below meth c T locs cells slots) {x : Int64} {y : Int32} (hd : Dc code pc (.lshl) 1 pc')  (K : Wp p e below P (T.setTop (mkF m pc' L (.long (x <<< (y &&& 0x3f).toInt64) :: S)))) : Wp p e below P (T.setTop (mkF m pc L (.int y :: .long x :: S))) := by
  obtain ⟨hd, rfl⟩ := hd
  exact Wp.of (fun _ k => XS.lshl X.st.here X.hx rfl (X.hb hd) rfl k) K
theorem w_lushr (X : Sd Z n0 kk code ml own nm ret h p l e R s m args below meth c T locs cells slots) {x : Int64} {y : Int32} (hd : Dc code pc (.lushr) 1 pc')  (K : Wp p e below P (T.setTop (mkF m pc' L (.long ((x.toUInt64 >>> (y &&& 0x3f).toInt64.toUInt64).toInt64) :: S)))) : Wp p e below P (T.setTop (mkF m pc L (.int y :: .long x :: S))) := by
  obtain ⟨hd, rfl⟩ := hd
  exact Wp.of (fun _ k => XS.lushr X.st.here X.hx rfl (X.hb hd) rfl k) K
theorem w_i2l (X : Sd Z n0 kk code ml own nm ret h p l e R s m args below meth c T locs cells slots) {x : Int32} (hd : Dc code pc (.i2l) 1 pc')  (K : Wp p e below P (T.setTop (mkF m pc' L (.long (x.toInt64) :: S)))) : Wp p e below P (T.setTop (mkF m pc L (.int x :: S))) := by
  obtain ⟨hd, rfl⟩ := hd
  exact Wp.of (fun _ k => XS.i2l X.st.here X.hx rfl (X.hb hd) rfl k) K
theorem w_l2i (X : Sd Z n0 kk code ml own nm ret h p l e R s m args below meth c T locs cells slots) {x : Int64} (hd : Dc code pc (.l2i) 1 pc')  (K : Wp p e below P (T.setTop (mkF m pc' L (.int (x.toInt32) :: S)))) : Wp p e below P (T.setTop (mkF m pc L (.long x :: S))) := by
  obtain ⟨hd, rfl⟩ := hd
  exact Wp.of (fun _ k => XS.l2i X.st.here X.hx rfl (X.hb hd) rfl k) K
theorem w_lcmp (X : Sd Z n0 kk code ml own nm ret h p l e R s m args below meth c T locs cells slots) {x y : Int64} (hd : Dc code pc (.lcmp) 1 pc')  (K : Wp p e below P (T.setTop (mkF m pc' L (.int (lcmpW x y) :: S)))) : Wp p e below P (T.setTop (mkF m pc L (.long y :: .long x :: S))) := by
  obtain ⟨hd, rfl⟩ := hd
  exact Wp.of (fun _ k => XS.lcmp X.st.here X.hx rfl (X.hb hd) rfl k) K
theorem w_dup (X : Sd Z n0 kk code ml own nm ret h p l e R s m args below meth c T locs cells slots) {x : Value} (hd : Dc code pc (.dup) 1 pc') (hc : x.category = 1) (K : Wp p e below P (T.setTop (mkF m pc' L (x :: x :: S)))) : Wp p e below P (T.setTop (mkF m pc L (x :: S))) := by
  obtain ⟨hd, rfl⟩ := hd
  exact Wp.of (fun _ k => XS.dup X.st.here X.hx rfl (X.hb hd) rfl hc k) K
theorem w_goto (X : Sd Z n0 kk code ml own nm ret h p l e R s m args below meth c T locs cells slots) {t : Nat} (hd : Bc code pc .goto t pc') (K : Wp p e below P (T.setTop (mkF m t L S))) : Wp p e below P (T.setTop (mkF m pc L S)) := by
  obtain ⟨o, hd, h1, h2, -⟩ := hd
  exact Wp.of (fun _ k => XS.goto X.st.here X.hx rfl (pc0 := pc) rfl (X.hb hd) h1 h2 k) K
theorem w_ifeq (X : Sd Z n0 kk code ml own nm ret h p l e R s m args below meth c T locs cells slots) {x : Int32} {t : Nat} (hd : Bc code pc (.ifCond .eq) t pc') (K1 : x = 0 → Wp p e below P (T.setTop (mkF m t L S))) (K2 : ¬ x = 0 → Wp p e below P (T.setTop (mkF m pc' L S))) : Wp p e below P (T.setTop (mkF m pc L (.int x :: S))) := by
  obtain ⟨o, hd, h1, h2, rfl⟩ := hd
  by_cases q : ifCond.holds .eq x = true
  · exact Wp.of (fun _ k => XS.ifYes X.st.here X.hx rfl (pc0 := pc) rfl (X.hb hd) rfl q h1 h2 k) (K1 (by simpa [ifCond.holds, Int32.not_lt] using q))
  · exact Wp.of (fun _ k => XS.ifNo X.st.here X.hx rfl (X.hb hd) rfl (by simpa using q) k) (K2 (by simpa [ifCond.holds, Int32.not_lt] using q))
theorem w_ifne (X : Sd Z n0 kk code ml own nm ret h p l e R s m args below meth c T locs cells slots) {x : Int32} {t : Nat} (hd : Bc code pc (.ifCond .ne) t pc') (K1 : ¬ x = 0 → Wp p e below P (T.setTop (mkF m t L S))) (K2 : x = 0 → Wp p e below P (T.setTop (mkF m pc' L S))) : Wp p e below P (T.setTop (mkF m pc L (.int x :: S))) := by
  obtain ⟨o, hd, h1, h2, rfl⟩ := hd
  by_cases q : ifCond.holds .ne x = true
  · exact Wp.of (fun _ k => XS.ifYes X.st.here X.hx rfl (pc0 := pc) rfl (X.hb hd) rfl q h1 h2 k) (K1 (by simpa [ifCond.holds, Int32.not_lt] using q))
  · exact Wp.of (fun _ k => XS.ifNo X.st.here X.hx rfl (X.hb hd) rfl (by simpa using q) k) (K2 (by simpa [ifCond.holds, Int32.not_lt] using q))
theorem w_icmpne (X : Sd Z n0 kk code ml own nm ret h p l e R s m args below meth c T locs cells slots) {x y : Int32} {t : Nat} (hd : Bc code pc (.if_icmp .ne) t pc') (K1 : ¬ x = y → Wp p e below P (T.setTop (mkF m t L S))) (K2 : x = y → Wp p e below P (T.setTop (mkF m pc' L S))) : Wp p e below P (T.setTop (mkF m pc L (.int y :: .int x :: S))) := by
  obtain ⟨o, hd, h1, h2, rfl⟩ := hd
  by_cases q : if_icmp.holds .ne x y = true
  · exact Wp.of (fun _ k => XS.icmpYes X.st.here X.hx rfl (pc0 := pc) rfl (X.hb hd) rfl q h1 h2 k) (K1 (by simpa [if_icmp.holds, Int32.not_lt] using q))
  · exact Wp.of (fun _ k => XS.icmpNo X.st.here X.hx rfl (X.hb hd) rfl (by simpa using q) k) (K2 (by simpa [if_icmp.holds, Int32.not_lt] using q))
theorem w_iflt (X : Sd Z n0 kk code ml own nm ret h p l e R s m args below meth c T locs cells slots) {x : Int32} {t : Nat} (hd : Bc code pc (.ifCond .lt) t pc') (K1 : x < 0 → Wp p e below P (T.setTop (mkF m t L S))) (K2 : ¬ x < 0 → Wp p e below P (T.setTop (mkF m pc' L S))) : Wp p e below P (T.setTop (mkF m pc L (.int x :: S))) := by
  obtain ⟨o, hd, h1, h2, rfl⟩ := hd
  by_cases q : ifCond.holds .lt x = true
  · exact Wp.of (fun _ k => XS.ifYes X.st.here X.hx rfl (pc0 := pc) rfl (X.hb hd) rfl q h1 h2 k) (K1 (by simpa [ifCond.holds, Int32.not_lt] using q))
  · exact Wp.of (fun _ k => XS.ifNo X.st.here X.hx rfl (X.hb hd) rfl (by simpa using q) k) (K2 (by simpa [ifCond.holds, Int32.not_lt] using q))
theorem w_icmplt (X : Sd Z n0 kk code ml own nm ret h p l e R s m args below meth c T locs cells slots) {x y : Int32} {t : Nat} (hd : Bc code pc (.if_icmp .lt) t pc') (K1 : x < y → Wp p e below P (T.setTop (mkF m t L S))) (K2 : ¬ x < y → Wp p e below P (T.setTop (mkF m pc' L S))) : Wp p e below P (T.setTop (mkF m pc L (.int y :: .int x :: S))) := by
  obtain ⟨o, hd, h1, h2, rfl⟩ := hd
  by_cases q : if_icmp.holds .lt x y = true
  · exact Wp.of (fun _ k => XS.icmpYes X.st.here X.hx rfl (pc0 := pc) rfl (X.hb hd) rfl q h1 h2 k) (K1 (by simpa [if_icmp.holds, Int32.not_lt] using q))
  · exact Wp.of (fun _ k => XS.icmpNo X.st.here X.hx rfl (X.hb hd) rfl (by simpa using q) k) (K2 (by simpa [if_icmp.holds, Int32.not_lt] using q))
theorem w_ifge (X : Sd Z n0 kk code ml own nm ret h p l e R s m args below meth c T locs cells slots) {x : Int32} {t : Nat} (hd : Bc code pc (.ifCond .ge) t pc') (K1 : ¬ x < 0 → Wp p e below P (T.setTop (mkF m t L S))) (K2 : x < 0 → Wp p e below P (T.setTop (mkF m pc' L S))) : Wp p e below P (T.setTop (mkF m pc L (.int x :: S))) := by
  obtain ⟨o, hd, h1, h2, rfl⟩ := hd
  by_cases q : ifCond.holds .ge x = true
  · exact Wp.of (fun _ k => XS.ifYes X.st.here X.hx rfl (pc0 := pc) rfl (X.hb hd) rfl q h1 h2 k) (K1 (by simpa [ifCond.holds, Int32.not_lt] using q))
  · exact Wp.of (fun _ k => XS.ifNo X.st.here X.hx rfl (X.hb hd) rfl (by simpa using q) k) (K2 (by simpa [ifCond.holds, Int32.not_lt] using q))
theorem w_icmpge (X : Sd Z n0 kk code ml own nm ret h p l e R s m args below meth c T locs cells slots) {x y : Int32} {t : Nat} (hd : Bc code pc (.if_icmp .ge) t pc') (K1 : ¬ x < y → Wp p e below P (T.setTop (mkF m t L S))) (K2 : x < y → Wp p e below P (T.setTop (mkF m pc' L S))) : Wp p e below P (T.setTop (mkF m pc L (.int y :: .int x :: S))) := by
  obtain ⟨o, hd, h1, h2, rfl⟩ := hd
  by_cases q : if_icmp.holds .ge x y = true
  · exact Wp.of (fun _ k => XS.icmpYes X.st.here X.hx rfl (pc0 := pc) rfl (X.hb hd) rfl q h1 h2 k) (K1 (by simpa [if_icmp.holds, Int32.not_lt] using q))
  · exact Wp.of (fun _ k => XS.icmpNo X.st.here X.hx rfl (X.hb hd) rfl (by simpa using q) k) (K2 (by simpa [if_icmp.holds, Int32.not_lt] using q))
theorem w_ifle (X : Sd Z n0 kk code ml own nm ret h p l e R s m args below meth c T locs cells slots) {x : Int32} {t : Nat} (hd : Bc code pc (.ifCond .le) t pc') (K1 : ¬ 0 < x → Wp p e below P (T.setTop (mkF m t L S))) (K2 : 0 < x → Wp p e below P (T.setTop (mkF m pc' L S))) : Wp p e below P (T.setTop (mkF m pc L (.int x :: S))) := by
  obtain ⟨o, hd, h1, h2, rfl⟩ := hd
  by_cases q : ifCond.holds .le x = true
  · exact Wp.of (fun _ k => XS.ifYes X.st.here X.hx rfl (pc0 := pc) rfl (X.hb hd) rfl q h1 h2 k) (K1 (by simpa [ifCond.holds, Int32.not_lt] using q))
  · exact Wp.of (fun _ k => XS.ifNo X.st.here X.hx rfl (X.hb hd) rfl (by simpa using q) k) (K2 (by simpa [ifCond.holds, Int32.not_lt] using q))
theorem w_icmple (X : Sd Z n0 kk code ml own nm ret h p l e R s m args below meth c T locs cells slots) {x y : Int32} {t : Nat} (hd : Bc code pc (.if_icmp .le) t pc') (K1 : ¬ y < x → Wp p e below P (T.setTop (mkF m t L S))) (K2 : y < x → Wp p e below P (T.setTop (mkF m pc' L S))) : Wp p e below P (T.setTop (mkF m pc L (.int y :: .int x :: S))) := by
  obtain ⟨o, hd, h1, h2, rfl⟩ := hd
  by_cases q : if_icmp.holds .le x y = true
  · exact Wp.of (fun _ k => XS.icmpYes X.st.here X.hx rfl (pc0 := pc) rfl (X.hb hd) rfl q h1 h2 k) (K1 (by simpa [if_icmp.holds, Int32.not_lt] using q))
  · exact Wp.of (fun _ k => XS.icmpNo X.st.here X.hx rfl (X.hb hd) rfl (by simpa using q) k) (K2 (by simpa [if_icmp.holds, Int32.not_lt] using q))
theorem own_lc (x y : Int64) : (lcmpW x y < 0 ↔ x < y) ∧ (0 < lcmpW x y ↔ y < x) ∧ (lcmpW x y = 0 ↔ x = y) := by rw [lcW]; exact ⟨lc_lt x y, lc_gt x y, lc_eq x y⟩
theorem w_lne (X : Sd Z n0 kk code ml own nm ret h p l e R s m args below meth c T locs cells slots) {x y : Int64} {t pc1 : Nat} (hd : Dc code pc .lcmp 1 pc1) (hd2 : Bc code pc1 (.ifCond .ne) t pc') (K1 : ¬ x = y → Wp p e below P (T.setTop (mkF m t L S))) (K2 : x = y → Wp p e below P (T.setTop (mkF m pc' L S))) : Wp p e below P (T.setTop (mkF m pc L (.long y :: .long x :: S))) :=
  w_lcmp X hd (w_ifne X hd2 (fun q => K1 (fun r => q ((own_lc x y).2.2.mpr r))) (fun q => K2 ((own_lc x y).2.2.mp q)))
theorem w_lge (X : Sd Z n0 kk code ml own nm ret h p l e R s m args below meth c T locs cells slots) {x y : Int64} {t pc1 : Nat} (hd : Dc code pc .lcmp 1 pc1) (hd2 : Bc code pc1 (.ifCond .ge) t pc') (K1 : ¬ x < y → Wp p e below P (T.setTop (mkF m t L S))) (K2 : x < y → Wp p e below P (T.setTop (mkF m pc' L S))) : Wp p e below P (T.setTop (mkF m pc L (.long y :: .long x :: S))) :=
  w_lcmp X hd (w_ifge X hd2 (fun q => K1 (fun r => q ((own_lc x y).1.mpr r))) (fun q => K2 ((own_lc x y).1.mp q)))
theorem w_ifnullT (X : Sd Z n0 kk code ml own nm ret h p l e R s m args below meth c T locs cells slots) {t : Nat} (hd : Bc code pc .ifnull t pc') (K : Wp p e below P (T.setTop (mkF m t L S))) : Wp p e below P (T.setTop (mkF m pc L (.null :: S))) := by
  obtain ⟨o, hd, h1, h2, -⟩ := hd
  exact Wp.of (fun _ k => XS.ifnullYes X.st.here X.hx rfl (pc0 := pc) rfl (X.hb hd) rfl h1 h2 k) K
theorem w_acmpne (X : Sd Z n0 kk code ml own nm ret h p l e R s m args below meth c T locs cells slots) {x y : Value} {t : Nat} (hx' : x.isRef = true) (hy' : y.isRef = true) (hd : Bc code pc (.if_acmp .ne) t pc') (K1 : ¬ x = y → Wp p e below P (T.setTop (mkF m t L S))) (K2 : x = y → Wp p e below P (T.setTop (mkF m pc' L S))) : Wp p e below P (T.setTop (mkF m pc L (y :: x :: S))) := by
  obtain ⟨o, hd, h1, h2, rfl⟩ := hd
  by_cases q : x = y
  · exact Wp.of (fun _ k => Jvm.RoadKit.acmp X.st X.hx rfl hx' hy' (pc0 := pc) (same := true) rfl (X.hb hd) rfl (decide_eq_true q) h1 (by simp [acV, h2]) k) (K2 q)
  · exact Wp.of (fun _ k => Jvm.RoadKit.acmp X.st X.hx rfl hx' hy' (pc0 := pc) (same := false) rfl (X.hb hd) rfl (decide_eq_false q) h1 (by simp [acV, h2]) k) (K1 q)
theorem w_ldcI (X : Sd Z n0 kk code ml own nm ret h p l e R s m args below meth c T locs cells slots) {i : Nat} {v : Int32} (hd : Dc code pc (.ldc i) 2 pc') (hw : (Cond.constant own i v).before a0 Z = true) (K : Wp p e below P (T.setTop (mkF m pc' L (.int v :: S)))) : Wp p e below P (T.setTop (mkF m pc L S)) := by
  obtain ⟨hd, rfl⟩ := hd
  exact Wp.of (fun _ k => X.st.ldcInt X.hx X.hown (mvT X.hZ hw) (g := mkF m pc L S) rfl (X.hb hd) _ k) K
end Steps
/-- what a contract says of the end -/
def Po (Z : State) (n0 : Nat) (s : State) (Q : Option Value → Heap → Prop) (ce sl : Nat) : State → Outcome → Prop := fun U o => ∃ v L, o = .returned v ∧ (Fr n0 L ∧ Old Z n0 U.heap ∧ s.heap.size ≤ U.heap.size ∧ Q v U.heap) ∧ FrameEnd s o U L ce sl
/-- called with these arguments at the heap h0, y returns and Q holds of what it returns and of the heap behind it -/
def Does (l : Launch) (Z : State) (n0 : Nat) (y : MethodName) (code : ByteArray) (ml : Nat) (ret : Option FieldType) (ws : List Cond) (rm : Room) (as' : Array Value) (h0 : Heap) (Q : Option Value → Heap → Prop) : Prop :=
  Old Z n0 h0 → MetFree l y (head1 (Cond.code y code ml ret :: ws) rm) (fun a U => a = as' ∧ Z.Warmed39 U.vm ∧ U.heap = h0) (fun _ _ _ _ _ => True) (fun _ U o U' => ∃ v L, o = .returned v ∧ (Fr n0 L ∧ Old Z n0 U'.heap ∧ h0.size ≤ U'.heap.size ∧ Q v U'.heap) ∧ FrameEnd U o U' L rm.cells rm.slots)
theorem Does.start {l : Launch} {Z : State} {n0 : Nat} {y : MethodName} {code : ByteArray} {ml : Nat} {ret : Option FieldType} {ws : List Cond} {rm : Room} {as' : Array Value} {h0 : Heap} {Q : Option Value → Heap → Prop} (hp : plainFor y = true)
    (body : ∀ p e s m below meth c s₁, Sd Z n0 0 code ml y.cls y.name ret h0 p l e rm s m as' below meth c s₁ [] 0 0 → Wp p e below (Po Z n0 s Q rm.cells rm.slots) (s₁.setTop (entryFrame m as' ml))) : Does l Z n0 y code ml ret ws rm as' h0 Q := by
  intro hold
  refine MetFree.of_bodySF hp hisR ?_
  intro p e s m args below meth c s₁ Bd hml0 hP hK
  obtain ⟨rfl, hZ, hh⟩ := hP
  have hh' := hh
  subst hh
  exact body p e s m below meth c s₁ ⟨Stand.of_body Bd, ⟨Bd.exec, Bd.bytes, hml0, findClass_of_methodNamed Bd.named, hZ, Bd.returns, (name_of_methodNamed Bd.named Bd.method).1, Bd.notSynchronized⟩, by rw [Bd.state]; rfl, Fr.nil n0, hold, Nat.zero_le _⟩
theorem Does.mono {l : Launch} {Z : State} {n0 : Nat} {y : MethodName} {code : ByteArray} {ml : Nat} {ret : Option FieldType} {ws : List Cond} {rm : Room} {as' : Array Value} {h0 : Heap} {Q Q' : Option Value → Heap → Prop} (D : Does l Z n0 y code ml ret ws rm as' h0 Q) (f : ∀ v h, Q v h → Q' v h) : Does l Z n0 y code ml ret ws rm as' h0 Q' := by
  intro hold p e ha hc hk s m args below hf happ hP hK
  obtain ⟨n, o, h1, h2, h3, v, L, e1, ⟨q1, q2, q2', q3⟩, q4⟩ := D hold p e ha hc hk s m args below hf happ hP hK
  exact ⟨n, o, h1, h2, h3, v, L, e1, ⟨q1, q2, q2', f _ _ q3⟩, q4⟩
section Steps2
variable {Z : State} {n0 kk : Nat} {code : ByteArray} {ml : Nat} {own nm : String} {ret : Option FieldType} {h : Heap} {p : Program} {l : Launch} {e : Env} {R : Room} {s : State} {m : MethodId} {args : Array Value} {below : List Frame} {meth : Method} {c : Code} {T : State} {locs : List Loc} {cells slots : Nat} {P : State → Outcome → Prop} {a0 : Array Value} {pc pc' : Nat} {L : Array Slot} {S : List Value} {Q : Option Value → Heap → Prop} {ce sl : Nat}
theorem Sd.done (X : Sd Z n0 kk code ml own nm ret h p l e R s m args below meth c T locs cells slots) {v : Option Value} (hv : ret = none → v = none) (hq : Q v h) (hc : cells ≤ ce) (hs : slots ≤ sl) {g : JFrame} (step : ∀ fs, (∀ (f : JFrame) (acts : List Action), f.method = m → f.locked = none → f.entered = [] → (doReturn e (T.setTop f) acts v).1 = T.setFrames fs) → Steps p.tables e below (T.setTop g) (T.setFrames fs)) : Wp p e below (Po Z n0 s Q ce sl) (T.setTop g) := by
  obtain ⟨fs, hr, hrun, hended, hW, hsame⟩ := X.st.leave (v := v) (fun q => hv (X.hret ▸ q)) X.hlk
  have e1 : (T.setFrames fs).heap = h := X.eh
  refine ⟨_, _, step fs hr, hrun, hended, v, locs, rfl, ⟨X.fr, ?_, X.st.same.2.1, ?_⟩, ⟨_, rfl⟩, hW, hsame.mono hc hs⟩
  · rw [e1]; exact X.old
  · rw [e1]; exact hq
theorem w_retI (X : Sd Z n0 kk code ml own nm (some .int) h p l e R s m args below meth c T locs cells slots) {z : Int32} (hd : Dc code pc .ireturn 1 pc') (hq : Q (some (.int z)) h) (hc : cells ≤ ce) (hs : slots ≤ sl) : Wp p e below (Po Z n0 s Q ce sl) (T.setTop (mkF m pc L (.int z :: S))) :=
  X.done nofun hq hc hs fun fs hr => retOut X.st X.hx X.hret rfl (Or.inl ⟨rfl, Or.inl rfl, z, rfl⟩) (X.hb hd.1) hr
theorem w_retV (X : Sd Z n0 kk code ml own nm (none) h p l e R s m args below meth c T locs cells slots) (hd : Dc code pc .return_ 1 pc') (hq : Q none h) (hc : cells ≤ ce) (hs : slots ≤ sl) : Wp p e below (Po Z n0 s Q ce sl) (T.setTop (mkF m pc L [])) :=
  X.done (fun _ => rfl) hq hc hs fun fs hr => X.st.returnOut X.hx X.hret (X.hb hd.1) hr
theorem w_getF (X : Sd Z n0 kk code ml own nm ret h p l e R s m args below meth c T locs cells slots) {R0 O n d host : String} {index : Nat} {a : Addr} {v : Value} (hd : Dc code pc (.getfield index) 3 pc') (w : (Cond.fieldLink own index R0 n d).before a0 Z = true ∨ (Cond.fieldLinkNest own index R0 n d host).before a0 Z = true) (via : Via Z R0 O n d) (F : Fld Z h a O n d v) (K : ∀ T', Sd Z n0 kk code ml own nm ret h p l e R s m args below meth c T' locs cells slots → Wp p e below P (T'.setTop (mkF m pc' L (v :: S)))) : Wp p e below P (T.setTop (mkF m pc L (.ref a :: S))) := by
  obtain ⟨hd, rfl⟩ := hd
  obtain ⟨T', X', e', st⟩ := getF X.st X.hx X.hZ X.hown w via X.eh F (g := mkF m pc L (.ref a :: S)) rfl rfl (X.hb hd)
  exact Wp.of st (K T' (X.mk' X' e' X.fr X.old (Nat.le_refl _)))
theorem w_getS (X : Sd Z n0 kk code ml own nm ret h p l e R s m args below meth c T locs cells slots) {R0 O n d host : String} {index : Nat} {v : Value} (hd : Dc code pc (.getstatic index) 3 pc') (w : (Cond.fieldLink own index R0 n d).before a0 Z = true ∨ (Cond.fieldLinkNest own index R0 n d host).before a0 Z = true) (via : Via Z R0 O n d) (F : Sta Z h O n d v) (K : ∀ T', Sd Z n0 kk code ml own nm ret h p l e R s m args below meth c T' locs cells slots → Wp p e below P (T'.setTop (mkF m pc' L (v :: S)))) : Wp p e below P (T.setTop (mkF m pc L S)) := by
  obtain ⟨hd, rfl⟩ := hd
  obtain ⟨T', X', e', st⟩ := getS2 X.st X.hx X.hZ X.hown w via X.eh F (g := mkF m pc L S) rfl (X.hb hd)
  exact Wp.of st (K T' (X.mk' X' e' X.fr X.old (Nat.le_refl _)))
theorem w_putF (X : Sd Z n0 kk code ml own nm ret h p l e R s m args below meth c T locs cells slots) {R0 O n d host C : String} {index ni : Nat} {ty : FieldType} {a : Addr} {v old : Value} (hd : Dc code pc (.putfield index) 3 pc')  (w : (Cond.fieldLink own index R0 n d).before a0 Z = true ∨ (Cond.fieldLinkNest own index R0 n d host).before a0 Z = true) (via : Via Z R0 O n d) (F : Fld Z h a O n d old) (E : Exa Z h a C) (L0 : (Cond.lays C O n d).before a0 Z = true ∨ ((Cond.laysFinal C O n d).before a0 Z = true ∧ own = O ∧ nm = "<init>")) (wi : (Cond.instantiable C ni).before a0 Z = true) (hty : parseFieldDescriptor d = some ty) (hn : narrow ty v = v) (hf : fits ty v = true) (ga : n0 ≤ a) (K : ∀ T' h', Sd Z n0 kk code ml own nm ret h' p l e R s m args below meth c T' (locs ++ [⟨a, slotOf Z O n d⟩]) cells slots → Wr h h' a (slotOf Z O n d) v → Wp p e below P (T'.setTop (mkF m pc' L S))) : Wp p e below P (T.setTop (mkF m pc L (v :: .ref a :: S))) := by
  obtain ⟨hd, rfl⟩ := hd
  obtain ⟨T', h', X', e', W, st⟩ := putF X.st X.hx X.hZ X.hown w via X.eh F E (L0.imp id fun q => ⟨q.1, q.2.1, X.hnm.trans q.2.2⟩) wi hty hn hf (g := mkF m pc L (v :: .ref a :: S)) rfl rfl (X.hb hd)
  exact Wp.of st (K T' h' (X.mk' X' e' (Fr.snoc X' X.fr ga) (X.old.wr W ga) (Nat.le_of_eq W.size.symm)) W)
theorem w_putFN (X : Sd Z n0 kk code ml own nm ret h p l e R s m args below meth c T locs cells slots) {R0 O n d C : String} {index ni : Nat} {ty : FieldType} {a : Addr} {v old : Value} (hd : Dc code pc (.putfield index) 3 pc')  (w : (Cond.fieldLink own index R0 n d).before a0 Z = true) (via : Via Z R0 O n d) (F : Fld Z h a O n d old) (E : Exa Z h a C) (L0 : (Cond.lays C O n d).before a0 Z = true ∨ ((Cond.laysFinal C O n d).before a0 Z = true ∧ own = O ∧ nm = "<init>")) (wi : (Cond.instantiable C ni).before a0 Z = true) (hty : parseFieldDescriptor d = some ty) (v' : Value) (hn : narrow ty v = v') (hf : fits ty v' = true) (ga : n0 ≤ a) (K : ∀ T' h', Sd Z n0 kk code ml own nm ret h' p l e R s m args below meth c T' (locs ++ [⟨a, slotOf Z O n d⟩]) cells slots → Wr h h' a (slotOf Z O n d) v' → Wp p e below P (T'.setTop (mkF m pc' L S))) : Wp p e below P (T.setTop (mkF m pc L (v :: .ref a :: S))) := by
  obtain ⟨hd, rfl⟩ := hd
  obtain ⟨T', h', X', e', W, st⟩ := putFN X.st X.hx X.hZ X.hown w via X.eh F E (L0.imp id fun q => ⟨q.1, q.2.1, X.hnm.trans q.2.2⟩) wi hty hn hf (g := mkF m pc L (v :: .ref a :: S)) rfl rfl (X.hb hd)
  exact Wp.of st (K T' h' (X.mk' X' e' (Fr.snoc X' X.fr ga) (X.old.wr W ga) (Nat.le_of_eq W.size.symm)) W)
theorem w_new (X : Sd Z n0 kk code ml own nm ret h p l e R s m args below meth c T locs cells slots) {C : String} {index n : Nat} (hd : Dc code pc (.new index) 3 pc') (w1 : (Cond.classLink own index C).before a0 Z = true) (wi : (Cond.instantiable C n).before a0 Z = true) (wz : (Cond.initialized C).before a0 Z = true) (hc : cells + 1 ≤ R.cells) (hl : slots + n ≤ R.slots) (K : ∀ T' h' b, b = h.size → n0 ≤ b → Sd Z n0 kk code ml own nm ret h' p l e R s m args below meth c T' locs (cells + 1) (slots + n) → Ext h h' → Exa Z h' b C → (∀ {O nm' d : String} {ty : FieldType}, Laid Z a0 C O nm' d → parseFieldDescriptor d = some ty → Fld Z h' b O nm' d (defaultValue ty)) → Wp p e below P (T'.setTop (mkF m pc' L (.ref b :: S)))) : Wp p e below P (T.setTop (mkF m pc L S)) := by
  obtain ⟨hd, rfl⟩ := hd
  obtain ⟨T', h', X', e', E, A, D, -, st⟩ := newO X.st X.hx X.hZ X.hown w1 wi wz X.eh (g := mkF m pc L S) rfl (X.hb hd) hc hl
  exact Wp.of st (K T' h' _ rfl (X.old.1 ▸ X.old.2.1) (X.mk' X' e' X.fr (X.old.ext E) E.1) E A D)
theorem w_initO (X : Sd Z n0 kk code ml own nm ret h p l e R s m args below meth c T locs cells slots) {index : Nat} {a : Addr} (hd : Dc code pc (.invokespecial index) 3 pc') (w1 : (Cond.methodLink own index Lib.objectInit).before a0 Z = true) (w2 : (Cond.instanceMethod Lib.objectInit).before a0 Z = true) (w3 : (Cond.code Lib.objectInit ⟨#[0xb1]⟩ 1 none).before a0 Z = true) (hsz : L.size = ml) (hf : 1 ≤ R.frames) (hl : (S.map fun v => v.category).sum + 12 ≤ R.locals) (K : ∀ T', Sd Z n0 kk code ml own nm ret h p l e R s m args below meth c T' locs cells slots → Wp p e below P (T'.setTop (mkF m pc' L S))) : Wp p e below P (T.setTop (mkF m pc L (.ref a :: S))) := by
  obtain ⟨hd, rfl⟩ := hd
  obtain ⟨T', X', e', st⟩ := initO X.st X.hx X.hZ X.hown w1 w2 w3 X.eh (g := mkF m pc L (.ref a :: S)) rfl (by rw [X.hml]; exact hsz) rfl (X.hb hd) hf (W := (S.map fun v => v.category).sum) (by show 2 * 0 + _ ≤ _; omega) hl
  exact Wp.of st (K T' (X.mk' X' e' X.fr X.old (Nat.le_refl _)))
theorem w_callS (X : Sd Z n0 kk code ml own nm ret h p l e R s m args below meth c T locs cells slots) {y : MethodName} {bytes : ByteArray} {maxL : Nat} {ret' : Option FieldType} {rm : Room} {index : Nat} {Q' : Option Value → Heap → Prop} {ps : List FieldType} {rr : Option FieldType} {stk : List Value} (hd : Dc code pc (.invokestatic index) 3 pc') (w1 : (Cond.methodLink own index y).before a0 Z = true) (w2 : (Cond.static y).before a0 Z = true) (w3 : (Cond.initialized y.cls).before a0 Z = true) (w4 : (Cond.code y bytes maxL ret').before a0 Z = true) (hy : y.cls ≠ "java/lang/invoke/MethodHandle" ∧ y.cls ≠ "java/lang/invoke/VarHandle") {argsL : List Value} (D : Does l Z n0 y bytes maxL ret' [] rm argsL.toArray h Q') (hpd : parseMethodDescriptor y.desc = some ⟨ps, rr⟩) (hlen : argsL.length = ps.length) (hst : stk = argsL.reverse ++ S) (hsz : L.size = ml) (hf : rm.frames + 1 ≤ R.frames) (hl : (S.map fun v => v.category).sum + (maxL + 11) + rm.locals ≤ R.locals) (hc : cells + rm.cells ≤ R.cells) (hs : slots + rm.slots ≤ R.slots) (K : ∀ T' h' v L', Sd Z n0 kk code ml own nm ret h' p l e R s m args below meth c T' (locs ++ L') (cells + rm.cells) (slots + rm.slots) → Q' v h' → Wp p e below P (T'.setTop (mkF m pc' L (v.toList ++ S)))) : Wp p e below P (T.setTop (mkF m pc L stk)) := by
  obtain ⟨hd, rfl⟩ := hd
  obtain ⟨v, vm1, ⟨T', L1, k1, n1⟩, -, X', ⟨Lc, hQ, l1, y1, z1⟩, st⟩ := Jvm.LawKit.callS X.st X.hx X.hown (mvT X.hZ w1) (mvT X.hZ w2) (mvT X.hZ w3) (mvT X.hZ w4) hy (backOf (Q := fun v h' L => Fr n0 L ∧ Old Z n0 h' ∧ h.size ≤ h'.size ∧ Q' v h') (W := (S.map fun v => v.category).sum) (D X.old) X.hZ w4 w3 hf hl) (g := mkF m pc L stk) rfl (by rw [X.hml]; exact hsz) (argsL := argsL) (rest := S) (lenOf hpd hlen) hst (by show 2 * 0 + _ ≤ _; omega) (X.hb hd) (fun _ _ => ⟨rfl, X.eh, hc, hs⟩)
  dsimp only [Pt.U, Pt.locs, Pt.cells, Pt.slots] at X' l1 y1 z1 st hQ
  subst l1 y1 z1
  exact Wp.of st (K T' _ v Lc (X.mk' X' rfl (X.fr.app hQ.1) hQ.2.1 hQ.2.2.1) hQ.2.2.2)
theorem w_callI (X : Sd Z n0 kk code ml own nm ret h p l e R s m args below meth c T locs cells slots) {y : MethodName} {bytes : ByteArray} {maxL : Nat} {rm : Room} {index : Nat} {Q' : Option Value → Heap → Prop} {ps : List FieldType} {rr : Option FieldType} {stk : List Value} (hd : Dc code pc (.invokespecial index) 3 pc') (hi : y.name = "<init>") (w1 : (Cond.methodLink own index y).before a0 Z = true) (w2 : (Cond.instanceMethod y).before a0 Z = true) (w3 : (Cond.initialized y.cls).before a0 Z = true) (w4 : (Cond.code y bytes maxL none).before a0 Z = true) (hy : y.cls ≠ "java/lang/invoke/MethodHandle" ∧ y.cls ≠ "java/lang/invoke/VarHandle") {a : Addr} {argsL : List Value} (D : Does l Z n0 y bytes maxL none [] rm (.ref a :: argsL).toArray h Q') (hpd : parseMethodDescriptor y.desc = some ⟨ps, rr⟩) (hlen : argsL.length = ps.length) (hst : stk = argsL.reverse ++ .ref a :: S) (hsz : L.size = ml) (hf : rm.frames + 1 ≤ R.frames) (hl : (S.map fun v => v.category).sum + (maxL + 11) + rm.locals ≤ R.locals) (hc : cells + rm.cells ≤ R.cells) (hs : slots + rm.slots ≤ R.slots) (K : ∀ T' h' v L', Sd Z n0 kk code ml own nm ret h' p l e R s m args below meth c T' (locs ++ L') (cells + rm.cells) (slots + rm.slots) → Q' v h' → Wp p e below P (T'.setTop (mkF m pc' L (v.toList ++ S)))) : Wp p e below P (T.setTop (mkF m pc L stk)) := by
  obtain ⟨hd, rfl⟩ := hd
  obtain ⟨v, vm1, ⟨T', L1, k1, n1⟩, -, X', ⟨Lc, hQ, l1, y1, z1⟩, st⟩ := X.st.specialBack X.hx hi X.hown (mvT X.hZ w1) (mvT X.hZ w2) (mvT X.hZ w4) hy (backOf (Q := fun v h' L => Fr n0 L ∧ Old Z n0 h' ∧ h.size ≤ h'.size ∧ Q' v h') (W := (S.map fun v => v.category).sum) (D X.old) X.hZ w4 w3 hf hl) (g := mkF m pc L stk) rfl (by rw [X.hml]; exact hsz) (Steps.refl _) (a := a) (argsL := argsL) (rest := S) (lenOf hpd hlen) hst (by show 2 * 0 + _ ≤ _; omega) (X.hb hd) (fun _ _ => ⟨rfl, X.eh, hc, hs⟩)
  dsimp only [Pt.U, Pt.locs, Pt.cells, Pt.slots] at X' l1 y1 z1 st hQ
  subst l1 y1 z1
  exact Wp.tr st (K T' _ v Lc (X.mk' X' rfl (X.fr.app hQ.1) hQ.2.1 hQ.2.2.1) hQ.2.2.2)
theorem w_callV (X : Sd Z n0 kk code ml own nm ret h p l e R s m args below meth c T locs cells slots) {y : MethodName} {bytes : ByteArray} {maxL : Nat} {ret' : Option FieldType} {rm : Room} {index : Nat} {Q' : Option Value → Heap → Prop} {ps : List FieldType} {rr : Option FieldType} {stk : List Value} {z : MethodName} {C : String} (hd : Dc code pc (.invokevirtual index) 3 pc') (w1 : (Cond.methodLink own index y).before a0 Z = true) (wd : (Cond.declares y).before a0 Z = true) (hnf : NotFace s y) (ws : (Cond.selects C y z).before a0 Z = true) (w2 : (Cond.instanceMethod z).before a0 Z = true) (w3 : (Cond.initialized z.cls).before a0 Z = true) (w4 : (Cond.code z bytes maxL ret').before a0 Z = true) (hy : y.cls ≠ "java/lang/invoke/MethodHandle" ∧ y.cls ≠ "java/lang/invoke/VarHandle") {a : Addr} (E : Exa Z h a C) {argsL : List Value} (D : Does l Z n0 z bytes maxL ret' [] rm (.ref a :: argsL).toArray h Q') (hpd : parseMethodDescriptor y.desc = some ⟨ps, rr⟩) (hlen : argsL.length = ps.length) (hst : stk = argsL.reverse ++ .ref a :: S) (hsz : L.size = ml) (hf : rm.frames + 1 ≤ R.frames) (hl : (S.map fun v => v.category).sum + (maxL + 11) + rm.locals ≤ R.locals) (hc : cells + rm.cells ≤ R.cells) (hs : slots + rm.slots ≤ R.slots) (K : ∀ T' h' v L', Sd Z n0 kk code ml own nm ret h' p l e R s m args below meth c T' (locs ++ L') (cells + rm.cells) (slots + rm.slots) → Q' v h' → Wp p e below P (T'.setTop (mkF m pc' L (v.toList ++ S)))) : Wp p e below P (T.setTop (mkF m pc L stk)) := by
  obtain ⟨hd, rfl⟩ := hd
  obtain ⟨cq, kq, qa, qb, qc⟩ := isOf X.hZ X.eh E
  obtain ⟨v, vm1, ⟨T', L1, k1, n1⟩, -, X', ⟨Lc, hQ, l1, y1, z1⟩, st⟩ := X.st.virtualBack X.hx X.hown (mvT X.hZ w1) (mvT X.hZ wd) hnf (mvT X.hZ ws) (mvT X.hZ w2) hy (backOf (Q := fun v h' L => Fr n0 L ∧ Old Z n0 h' ∧ h.size ≤ h'.size ∧ Q' v h') (W := (S.map fun v => v.category).sum) (D X.old) X.hZ w4 w3 hf hl) qa qc (g := mkF m pc L stk) rfl (by rw [X.hml]; exact hsz) (Steps.refl _) (argsL := argsL) (rest := S) (lenOf hpd hlen) hst (by show 2 * 0 + _ ≤ _; omega) (X.hb hd) (fun _ _ => ⟨rfl, X.eh, hc, hs⟩)
  dsimp only [Pt.U, Pt.locs, Pt.cells, Pt.slots] at X' l1 y1 z1 st hQ
  subst l1 y1 z1
  exact Wp.tr st (K T' _ v Lc (X.mk' X' rfl (X.fr.app hQ.1) hQ.2.1 hQ.2.2.1) hQ.2.2.2)
theorem w_callP (X : Sd Z n0 kk code ml own nm ret h p l e R s m args below meth c T locs cells slots) {y : MethodName} {bytes : ByteArray} {maxL : Nat} {ret' : Option FieldType} {rm : Room} {index : Nat} {Q' : Option Value → Heap → Prop} {ps : List FieldType} {rr : Option FieldType} {stk : List Value} (hd : Dc code pc (.invokevirtual index) 3 pc') (w1 : (Cond.methodLink own index y).before a0 Z = true) (w2 : (Cond.instanceMethod y).before a0 Z = true) (ws : (Cond.selects y.cls y y).before a0 Z = true) (wp : (Cond.privateMethod y).before a0 Z = true) (w3 : (Cond.initialized y.cls).before a0 Z = true) (w4 : (Cond.code y bytes maxL ret').before a0 Z = true) (hy : y.cls ≠ "java/lang/invoke/MethodHandle" ∧ y.cls ≠ "java/lang/invoke/VarHandle") {a : Addr} {C : String} (E : Exa Z h a C) {argsL : List Value} (D : Does l Z n0 y bytes maxL ret' [] rm (.ref a :: argsL).toArray h Q') (hpd : parseMethodDescriptor y.desc = some ⟨ps, rr⟩) (hlen : argsL.length = ps.length) (hst : stk = argsL.reverse ++ .ref a :: S) (hsz : L.size = ml) (hf : rm.frames + 1 ≤ R.frames) (hl : (S.map fun v => v.category).sum + (maxL + 11) + rm.locals ≤ R.locals) (hc : cells + rm.cells ≤ R.cells) (hs : slots + rm.slots ≤ R.slots) (K : ∀ T' h' v L', Sd Z n0 kk code ml own nm ret h' p l e R s m args below meth c T' (locs ++ L') (cells + rm.cells) (slots + rm.slots) → Q' v h' → Wp p e below P (T'.setTop (mkF m pc' L (v.toList ++ S)))) : Wp p e below P (T.setTop (mkF m pc L stk)) := by
  obtain ⟨hd, rfl⟩ := hd
  obtain ⟨cq, qa, qb⟩ := E.cell
  obtain ⟨v, vm1, ⟨T', L1, k1, n1⟩, -, X', ⟨Lc, hQ, l1, y1, z1⟩, st⟩ := X.st.privateBack X.hx X.hown (mvT X.hZ w1) (mvT X.hZ w2) (mvT X.hZ ws) (Cond.privateMethod_at (mvP X.hZ wp (args := #[]))) (mvT X.hZ w4) hy (backOf (Q := fun v h' L => Fr n0 L ∧ Old Z n0 h' ∧ h.size ≤ h'.size ∧ Q' v h') (W := (S.map fun v => v.category).sum) (D X.old) X.hZ w4 w3 hf hl) (g := mkF m pc L stk) rfl (by rw [X.hml]; exact hsz) (Steps.refl _) (a := a) (by rw [X.eh]; exact qa) qb (argsL := argsL) (rest := S) (lenOf hpd hlen) hst (by show 2 * 0 + _ ≤ _; omega) (X.hb hd) (fun _ _ => ⟨rfl, X.eh, hc, hs⟩)
  dsimp only [Pt.U, Pt.locs, Pt.cells, Pt.slots] at X' l1 y1 z1 st hQ
  subst l1 y1 z1
  exact Wp.tr st (K T' _ v Lc (X.mk' X' rfl (X.fr.app hQ.1) hQ.2.1 hQ.2.2.1) hQ.2.2.2)
end Steps2
end Jvm.RoadKit
namespace Jvm.RoadKit
open Sem ClassFile Op Lib Jvm.Stand Jvm.Free Jvm.LawKit
/-- at a lies an array of component type ty that holds just these values -/
def Ary (Z : State) (h : Heap) (a : Addr) (ty : FieldType) (vs : List Value) : Prop := ∃ c : Cell, Arr Z h a c ty ∧ c.slots = vs.toArray ∧ vs.length < 2 ^ 31 ∧ ∀ v ∈ vs, fits ty v = true
section Ary
variable {Z : State} {h h' : Heap} {a b : Addr} {ty : FieldType} {vs : List Value} {sl : Nat} {v : Value} {ws : List Addr}
theorem Ary.lt (A : Ary Z h a ty vs) : a < h.size := by obtain ⟨c, A, -⟩ := A; exact A.lt
theorem Ary.ext (A : Ary Z h a ty vs) (E : Ext h h') : Ary Z h' a ty vs := by obtain ⟨c, A, r⟩ := A; exact ⟨c, A.ext E, r⟩
theorem Ary.other (A : Ary Z h b ty vs) (W : Wr h h' a sl v) (q : b ≠ a) : Ary Z h' b ty vs := by obtain ⟨c, A, r⟩ := A; exact ⟨c, A.other W q, r⟩
theorem Ary.keep (A : Ary Z h a ty vs) (K : Keep h h' ws) (q : a ∉ ws) : Ary Z h' a ty vs := by obtain ⟨c, A, r⟩ := A; exact ⟨c, ⟨K.2.1 a c A.1 q, A.2⟩, r⟩
theorem Ary.set (A : Ary Z h a ty vs) {j : Nat} (hf : fits ty v = true) (W : Wr h h' a j v) : Ary Z h' a ty (vs.set j v) := by
  obtain ⟨c, A, e, l, f⟩ := A
  refine ⟨c.setSlot j v, A.same W, ?_, by rw [List.length_set]; exact l, fun u hu => ?_⟩
  · show c.slots.setIfInBounds j v = _
    rw [e]; simp
  · rcases List.mem_or_eq_of_mem_set hu with q | rfl
    · exact f _ q
    · exact hf
theorem Ary.size {c : Cell} (e : c.slots = vs.toArray) : c.slots.size = vs.length := by rw [e]; simp
theorem own_inb {c : Cell} {j : Int32} (e : c.slots = vs.toArray) (hj : ¬ j < 0) (hv : vs[j.toNatClampNeg]? = some v) : ¬ (j < 0 ∨ c.slots.size ≤ j.toNatClampNeg) := by
  rw [Ary.size e]
  have := (List.getElem?_eq_some_iff.mp hv).1
  rintro (q | q)
  · exact hj q
  · omega
theorem own_at {c : Cell} {j : Nat} (e : c.slots = vs.toArray) (hv : vs[j]? = some v) : c.slots[j]? = some v := by rw [e]; simpa using hv
theorem Ary.new {cA : ClassId} {n : Int32} {k : Nat} (A : Arr Z h a (newA cA ty n) ty) (hk : n.toNatClampNeg = k) (hd : fits ty (defaultValue ty) = true) : Ary Z h a ty (List.replicate k (defaultValue ty)) := by
  refine ⟨_, A, ?_, ?_, fun v hv => by rw [(List.mem_replicate.mp hv).2]; exact hd⟩
  · show Array.replicate n.toNatClampNeg (defaultValue ty) = _
    rw [hk]; simp
  · rw [List.length_replicate, ← hk]; have := Int32.toInt_lt n; simp only [Int32.toNatClampNeg]; omega
end Ary
section StepsA
variable {Z : State} {n0 kk : Nat} {code : ByteArray} {ml : Nat} {own nm : String} {ret : Option FieldType} {h : Heap} {p : Program} {l : Launch} {e : Env} {R : Room} {s : State} {m : MethodId} {args : Array Value} {below : List Frame} {meth : Method} {c : Code} {T : State} {locs : List Loc} {cells slots : Nat} {P : State → Outcome → Prop} {a0 : Array Value} {pc pc' : Nat} {L : Array Slot} {S : List Value}
theorem w_newarr (X : Sd Z n0 kk code ml own nm ret h p l e R s m args below meth c T locs cells slots) {aty : ArrayType} {n : Int32} (hd : Dc code pc (.newarray aty) 2 pc') (w : (Cond.arrayClass (newarray.typeOf aty)).before a0 Z = true) (k cap : Nat) (hn : ¬ n < 0) (hk : n.toNatClampNeg = k) (hcap : k ≤ cap) (hbig : cap * 8 ≤ 536870912) (hc : cells + 1 ≤ R.cells) (hl : slots + cap ≤ R.slots) (K : ∀ T' h' b, b = h.size → n0 ≤ b → Sd Z n0 kk code ml own nm ret h' p l e R s m args below meth c T' locs (cells + 1) (slots + cap) → Ext h h' → Ary Z h' b (newarray.typeOf aty) (List.replicate k (defaultValue (newarray.typeOf aty))) → Wp p e below P (T'.setTop (mkF m pc' L (.ref b :: S)))) : Wp p e below P (T.setTop (mkF m pc L (.int n :: S))) := by
  obtain ⟨hd, rfl⟩ := hd
  obtain ⟨T', h', cA, X', e', E, A, st⟩ := newP X.st X.hx X.hZ w X.eh (g := mkF m pc L (.int n :: S)) rfl (X.hb hd) rfl hn (cap := cap) (hk ▸ hcap) hbig hc hl
  exact Wp.of st (K T' h' _ rfl (X.old.1 ▸ X.old.2.1) (X.mk' X' e' X.fr (X.old.ext E) E.1) E (Ary.new A hk (by cases aty <;> rfl)))
theorem w_iaload (X : Sd Z n0 kk code ml own nm ret h p l e R s m args below meth c T locs cells slots) {a : Addr} {j : Int32} {vs : List Value} {v : Value} (hd : Dc code pc .iaload 1 pc') (A : Ary Z h a .int vs) (hj : ¬ j < 0) (hv : vs[j.toNatClampNeg]? = some v) (K : Wp p e below P (T.setTop (mkF m pc' L (v :: S)))) : Wp p e below P (T.setTop (mkF m pc L (.int j :: .ref a :: S))) := by
  obtain ⟨hd, rfl⟩ := hd
  obtain ⟨c', A, e, -⟩ := A
  exact Wp.of (fun _ k => X.st.iaload X.hx (by rw [X.eh]; exact A.1) (State.isArrayOf_alike X.hZ.alike A.2.1) A.2.2 (own_inb e hj hv) (own_at e hv) (g := mkF m pc L (.int j :: .ref a :: S)) rfl rfl (X.hb hd) _ k) K
theorem w_laload (X : Sd Z n0 kk code ml own nm ret h p l e R s m args below meth c T locs cells slots) {a : Addr} {j : Int32} {vs : List Value} {v : Value} (hd : Dc code pc .laload 1 pc') (A : Ary Z h a .long vs) (hj : ¬ j < 0) (hv : vs[j.toNatClampNeg]? = some v) (K : Wp p e below P (T.setTop (mkF m pc' L (v :: S)))) : Wp p e below P (T.setTop (mkF m pc L (.int j :: .ref a :: S))) := by
  obtain ⟨hd, rfl⟩ := hd
  obtain ⟨c', A, e, -⟩ := A
  exact Wp.of (fun _ k => X.st.laload X.hx (by rw [X.eh]; exact A.1) (State.isArrayOf_alike X.hZ.alike A.2.1) A.2.2 (own_inb e hj hv) (own_at e hv) (g := mkF m pc L (.int j :: .ref a :: S)) rfl rfl (X.hb hd) _ k) K
theorem w_arrlen (X : Sd Z n0 kk code ml own nm ret h p l e R s m args below meth c T locs cells slots) {a : Addr} {vs : List Value} {ty : FieldType} (n : Int32) (hd : Dc code pc .arraylength 1 pc') (A : Ary Z h a ty vs) (hn : vs.length.toInt32 = n) (K : Wp p e below P (T.setTop (mkF m pc' L (.int n :: S)))) : Wp p e below P (T.setTop (mkF m pc L (.ref a :: S))) := by
  obtain ⟨hd, rfl⟩ := hd
  obtain ⟨c', A, e, -⟩ := A
  exact Wp.of (fun _ k => X.st.arraylength X.hx (by rw [X.eh]; exact A.1) (State.isArrayOf_alike X.hZ.alike A.2.1) (g := mkF m pc L (.ref a :: S)) rfl rfl (X.hb hd) _ (by rw [Ary.size e, hn]; exact k)) K
theorem w_iastore (X : Sd Z n0 kk code ml own nm ret h p l e R s m args below meth c T locs cells slots) {a : Addr} {j : Int32} {x : Int32} {vs : List Value} {u : Value} (hd : Dc code pc .iastore 1 pc') (A : Ary Z h a .int vs) (hj : ¬ j < 0) (hv : vs[j.toNatClampNeg]? = some u) (ga : n0 ≤ a) (v' : Value) (e' : (.int x : Value) = v') (vs' : List Value) (hs : vs.set j.toNatClampNeg v' = vs') (K : ∀ T' h', Sd Z n0 kk code ml own nm ret h' p l e R s m args below meth c T' (locs ++ [⟨a, j.toNatClampNeg⟩]) cells slots → Wr h h' a j.toNatClampNeg v' → Ary Z h' a .int vs' → Wp p e below P (T'.setTop (mkF m pc' L S))) : Wp p e below P (T.setTop (mkF m pc L (.int x :: .int j :: .ref a :: S))) := by
  subst e' hs
  obtain ⟨hd, rfl⟩ := hd
  have A0 := A
  obtain ⟨c', A, e, -⟩ := A
  obtain ⟨T', h', X', e', W, st⟩ := stI X.st X.hx X.hZ X.eh A (own_inb e hj hv) (g := mkF m pc L (.int x :: .int j :: .ref a :: S)) rfl rfl (X.hb hd)
  exact Wp.of st (K T' h' (X.mk' X' e' (Fr.snoc X' X.fr ga) (X.old.wr W ga) (Nat.le_of_eq W.size.symm)) W (A0.set rfl W))
theorem w_lastore (X : Sd Z n0 kk code ml own nm ret h p l e R s m args below meth c T locs cells slots) {a : Addr} {j : Int32} {x : Int64} {vs : List Value} {u : Value} (hd : Dc code pc .lastore 1 pc') (A : Ary Z h a .long vs) (hj : ¬ j < 0) (hv : vs[j.toNatClampNeg]? = some u) (ga : n0 ≤ a) (v' : Value) (e' : (.long x : Value) = v') (vs' : List Value) (hs : vs.set j.toNatClampNeg v' = vs') (K : ∀ T' h', Sd Z n0 kk code ml own nm ret h' p l e R s m args below meth c T' (locs ++ [⟨a, j.toNatClampNeg⟩]) cells slots → Wr h h' a j.toNatClampNeg v' → Ary Z h' a .long vs' → Wp p e below P (T'.setTop (mkF m pc' L S))) : Wp p e below P (T.setTop (mkF m pc L (.long x :: .int j :: .ref a :: S))) := by
  subst e' hs
  obtain ⟨hd, rfl⟩ := hd
  have A0 := A
  obtain ⟨c', A, e, -⟩ := A
  obtain ⟨T', h', X', e', W, st⟩ := stJ X.st X.hx X.hZ X.eh A (own_inb e hj hv) (g := mkF m pc L (.long x :: .int j :: .ref a :: S)) rfl rfl (X.hb hd)
  exact Wp.of st (K T' h' (X.mk' X' e' (Fr.snoc X' X.fr ga) (X.old.wr W ga) (Nat.le_of_eq W.size.symm)) W (A0.set rfl W))
end StepsA
end Jvm.RoadKit
namespace Jvm.RoadKit
open Sem ClassFile Op Lib Jvm.Stand Jvm.Free Jvm.LawKit
def PoW (Z : State) (n0 : Nat) (s : State) (Q : Option Value → Heap → Prop) (ce sl : Nat) : State → Outcome → Prop := fun U o => ∃ v L, o = .returned v ∧ (Fr n0 L ∧ Old Z n0 U.heap ∧ s.heap.size ≤ U.heap.size ∧ Q v U.heap) ∧ ReturnedEndW s o U L ce sl
def DoesW (l : Launch) (Z : State) (n0 : Nat) (y : MethodName) (code : ByteArray) (ml : Nat) (ret : Option FieldType) (ws : List Cond) (rm : Room) (as' : Array Value) (h0 : Heap) (Q : Option Value → Heap → Prop) : Prop :=
  Old Z n0 h0 → MetFree l y (head1 (Cond.code y code ml ret :: ws) rm) (fun a U => a = as' ∧ Z.Warmed39 U.vm ∧ U.heap = h0) (fun _ _ _ _ _ => True) (fun _ U o U' => ∃ v L, o = .returned v ∧ (Fr n0 L ∧ Old Z n0 U'.heap ∧ h0.size ≤ U'.heap.size ∧ Q v U'.heap) ∧ ReturnedEndW U o U' L rm.cells rm.slots)
theorem DoesW.start {l : Launch} {Z : State} {n0 : Nat} {y : MethodName} {code : ByteArray} {ml : Nat} {ret : Option FieldType} {ws : List Cond} {rm : Room} {as' : Array Value} {h0 : Heap} {Q : Option Value → Heap → Prop} (hp : plainFor y = true)
    (body : ∀ p e s m below meth c s₁, Sd Z n0 0 code ml y.cls y.name ret h0 p l e rm (s.setVm s.vm) m as' below meth c s₁ [] 0 0 → s.Since s.vm 0 → s.heap = h0 → Wp p e below (PoW Z n0 s Q rm.cells rm.slots) (s₁.setTop (entryFrame m as' ml))) : DoesW l Z n0 y code ml ret ws rm as' h0 Q := by
  intro hold
  refine MetFree.of_bodySF hp hisR ?_
  intro p e s m args below meth c s₁ Bd hml0 hP hK
  obtain ⟨rfl, hZ, hh⟩ := hP
  have hh' := hh
  subst hh
  exact body p e s m below meth c s₁ ⟨Stand.of_body Bd, ⟨Bd.exec, Bd.bytes, hml0, findClass_of_methodNamed Bd.named, hZ, Bd.returns, (name_of_methodNamed Bd.named Bd.method).1, Bd.notSynchronized⟩, by rw [Bd.state]; rfl, Fr.nil n0, hold, Nat.zero_le _⟩ ((State.WarmedH.refl s).since 0) rfl
theorem DoesW.mono {l : Launch} {Z : State} {n0 : Nat} {y : MethodName} {code : ByteArray} {ml : Nat} {ret : Option FieldType} {ws : List Cond} {rm : Room} {as' : Array Value} {h0 : Heap} {Q Q' : Option Value → Heap → Prop} (D : DoesW l Z n0 y code ml ret ws rm as' h0 Q) (f : ∀ v h, Q v h → Q' v h) : DoesW l Z n0 y code ml ret ws rm as' h0 Q' := by
  intro hold p e ha hc hk s m args below hf happ hP hK
  obtain ⟨n, o, h1, h2, h3, v, L, e1, ⟨q1, q2, q2', q3⟩, q4⟩ := D hold p e ha hc hk s m args below hf happ hP hK
  exact ⟨n, o, h1, h2, h3, v, L, e1, ⟨q1, q2, q2', f _ _ q3⟩, q4⟩
/-- the law's own contract: at the start Z itself -/
def DoesL (l : Launch) (Z : State) (n0 : Nat) (y : MethodName) (code : ByteArray) (ml : Nat) (ret : Option FieldType) (ws : List Cond) (rm : Room) (as' : Array Value) (Q : Option Value → Heap → Prop) : Prop :=
  MetFree l y (head1 (Cond.code y code ml ret :: ws) rm) (fun a U => a = as' ∧ U = Z) (fun _ _ _ _ _ => True) (fun _ U o U' => ∃ v L, o = .returned v ∧ (Fr n0 L ∧ Old Z n0 U'.heap ∧ U.heap.size ≤ U'.heap.size ∧ Q v U'.heap) ∧ ReturnedEndW U o U' L rm.cells rm.slots)
theorem DoesL.start {l : Launch} {Z : State} {n0 : Nat} {y : MethodName} {code : ByteArray} {ml : Nat} {ret : Option FieldType} {ws : List Cond} {rm : Room} {as' : Array Value} {Q : Option Value → Heap → Prop} (hn0 : Z.heap.size = n0) (hp : plainFor y = true)
    (body : ∀ p e s m below meth c s₁, Sd Z n0 0 code ml y.cls y.name ret Z.heap p l e rm (s.setVm s.vm) m as' below meth c s₁ [] 0 0 → s.Since s.vm 0 → s = Z → Wp p e below (PoW Z n0 s Q rm.cells rm.slots) (s₁.setTop (entryFrame m as' ml))) : DoesL l Z n0 y code ml ret ws rm as' Q := by
  refine MetFree.of_bodySF hp hisR ?_
  intro p e s m args below meth c s₁ Bd hml0 hP hK
  obtain ⟨rfl, hh⟩ := hP
  have hh' := hh
  subst hh
  exact body p e s m below meth c s₁ ⟨Stand.of_body Bd, ⟨Bd.exec, Bd.bytes, hml0, findClass_of_methodNamed Bd.named, State.Warmed39.refl s, Bd.returns, (name_of_methodNamed Bd.named Bd.method).1, Bd.notSynchronized⟩, by rw [Bd.state]; rfl, Fr.nil n0, hn0 ▸ Old.start s, Nat.zero_le _⟩ ((State.WarmedH.refl s).since 0) rfl
section StepsW
variable {Z : State} {n0 kk : Nat} {code : ByteArray} {ml : Nat} {own nm : String} {ret : Option FieldType} {h : Heap} {p : Program} {l : Launch} {e : Env} {R : Room} {s : State} {m : MethodId} {args : Array Value} {below : List Frame} {meth : Method} {c : Code} {T : State} {locs : List Loc} {cells slots : Nat} {P : State → Outcome → Prop} {a0 : Array Value} {u : Vm} {pc pc' : Nat} {L : Array Slot} {S : List Value} {Q : Option Value → Heap → Prop} {ce sl : Nat}
theorem Sd.doneW (X : Sd Z n0 kk code ml own nm ret h p l e R (s.setVm u) m args below meth c T locs cells slots) (Y : s.Since u kk) {v : Option Value} (hv : ret = none → v = none) (hq : Q v h) (hc : cells ≤ ce) (hs : slots ≤ sl) {g : JFrame} (step : ∀ fs, (∀ (f : JFrame) (acts : List Action), f.method = m → f.locked = none → f.entered = [] → (doReturn e (T.setTop f) acts v).1 = T.setFrames fs) → Steps p.tables e below (T.setTop g) (T.setFrames fs)) : Wp p e below (PoW Z n0 s Q ce sl) (T.setTop g) := by
  obtain ⟨fs, hr, hrun, hended, hE⟩ := X.st.leaveW Y (by rw [X.eh]; exact X.hkk) (v := v) (fun q => hv (X.hret ▸ q)) X.hlk
  have e1 : (T.setFrames fs).heap = h := X.eh
  refine ⟨_, _, step fs hr, hrun, hended, v, locs, rfl, ⟨X.fr, ?_, X.st.same.2.1, ?_⟩, hE.1, hE.2.1, hE.2.2.1, hE.2.2.2.mono hc hs⟩
  · rw [e1]; exact X.old
  · rw [e1]; exact hq
theorem v_ret_boolean (X : Sd Z n0 kk code ml own nm (some .boolean) h p l e R (s.setVm u) m args below meth c T locs cells slots) (Y : s.Since u kk) {z : Int32} (z' : Int32) (hz : nar .boolean z = z') (hd : Dc code pc .ireturn 1 pc') (hq : Q (some (.int z')) h) (hc : cells ≤ ce) (hs : slots ≤ sl) : Wp p e below (PoW Z n0 s Q ce sl) (T.setTop (mkF m pc L (.int z :: S))) := by
  subst hz
  exact X.doneW Y nofun hq hc hs fun fs hr => retN X.st X.hx X.hret (by simp) (X.hb hd.1) hr
theorem v_ldcS (X : Sd Z n0 kk code ml own nm ret h p l e R (s.setVm u) m args below meth c T locs cells slots) (Y : s.Since u kk) {index : Nat} {text : String} (hd : Dc code pc (.ldc index) 2 pc') (w1 : (Cond.stringLink own index text).before a0 Z = true) (wS : ∀ a ∈ Bundle.stringAtoms, a.before a0 Z = true) (n : Nat) (hn : 4 * text.toList.length ≤ n) (hbig : n ≤ 536870912) (hc : cells + 2 ≤ R.cells) (hl : slots + (n + 4) ≤ R.slots) (K : ∀ T' h' u' kk' a, Sd Z n0 kk' code ml own nm ret h' p l e R (s.setVm u') m args below meth c T' locs (cells + 2) (slots + (n + 4)) → s.Since u' kk' → Ext h h' → Wp p e below P (T'.setTop (mkF m pc' L (.ref a :: S)))) : Wp p e below P (T.setTop (mkF m pc L S)) := by
  obtain ⟨hd, rfl⟩ := hd
  obtain ⟨a, T', h', k1, X', e', E, Y', hk, hZ', ho', st⟩ := ldcS X.st X.hx X.hZ X.hown w1 wS X.eh Y X.hkk (g := mkF m pc L S) rfl (X.hb hd) hn hbig hc hl
  exact Wp.of st (K T' h' T'.vm k1 a ⟨X', ⟨X.hx, X.2.1.2.1, X.hml, ho', hZ', X.hret, X.hnm, X.hlk⟩, e', X.fr, X.old.ext E, hk⟩ Y' E)
end StepsW
end Jvm.RoadKit
namespace Jvm.RoadKit
open Sem ClassFile Op Lib Jvm.Stand Jvm.Free Jvm.LawKit
theorem own_lookup {vm : Vm} {c : ClassId} {k : Class} {n d : String} {r0 : MethodId} {r : Method} (hk : vm.classes[c]? = some k) (hf : k.findMethod n d = some r0.idx) (hc : r0.cls = c) (hr : vm.method? r0 = some r) (hs : r.isStatic = false) : lookupSpecial vm c n d = .method r0 := by
  have e : (⟨c, r0.idx⟩ : MethodId) = r0 := by rw [← hc]
  simp [lookupSpecial, hk, hf, e, hr, hs]
set_option maxHeartbeats 8000000 in
theorem own_wpSpecial {Q : Unit → Pre} {E : CtlPost} {e : Env} {d : Bool} {acts : List Action} {s : State} {f : JFrame} {index ci a : Nat} {nt : Nat} {r0 : MethodId} {named : ClassId} {ck nk mk : Class} {cf : ClassFile} {r : Method} {args rest : List Value} {cell : Cell} {kcell : Class}
    (hs : s.topJava?.isSome) (hr : s.vm.methodReady f.method.cls index r0) (hrm : s.vm.method? r0 = some r)
    (hck : s.vm.classes[f.method.cls]? = some ck) (hcf : ck.cf = some cf) (hc : cf.constantPool[index]? = some (.methodref ci nt) ∨ cf.constantPool[index]? = some (.interfaceMethodref ci nt))
    (hnamed : s.vm.classReady f.method.cls ci named) (hnk : s.vm.classes[named]? = some nk)
    (hinit : (r.name == "<init>" && r0.cls != named) = false) (hstatic : r.isStatic = false)
    (hsup : ck.super = some named) (hfound : lookupSpecial s.vm named r.name r.desc = .method r0) (hiface : ck.isInterface = false)
    (hmk : s.vm.classes[r0.cls]? = some mk) (habs : r.isAbstract = false)
    (hlen : args.length = r.sig.parameters.length) (hstack : f.stack = args.reverse ++ .ref a :: rest)
    (hcell : s.heap[a]? = some cell) (hobj : ∀ c, cell.vm ≠ .statics c) (hkcell : s.vm.classes[cell.cls]? = some kcell) :
    wp (invokespecial.sem index) Q E e d acts (s.setTop f) ↔ E (.invoke r0 (.ref a :: args).toArray) acts (s.setTop { f with stack := rest }) := by
  have hF : lookupSpecial s.vm (if r.name != "<init>" && !nk.isInterface && (named != f.method.cls && s.vm.isSubclass f.method.cls named) then ck.super.getD named else named) r.name r.desc = .method r0 := by
    rw [hsup]; simpa using hfound
  clear hfound
  simp only [invokespecial.sem, wp_bind', W.resolveMethodAt_ready (State.method?_setTop f hs) hr]
  rcases hc with hc | hc <;>
  (simp only [W.theMethod, State.vm_setTop, hrm, Option.some.injEq, exists_eq_left', Jvm.refClassAt, Jvm.constantAt, wp_bind', W.currentClass, W.theClass,
    State.method?_setTop f hs, hck, hcf, Option.bind_some, hc, wp_pure', W.resolveClassAt_ready (State.method?_setTop f hs) hnamed]
   simp only [W.ite, hinit, hstatic, Bool.false_eq_true, if_false, wp_bind', W.theClass, State.vm_setTop, hck, hnk, Option.some.injEq, exists_eq_left', W.look, hF,
    bne_self_eq_false, wp_pure', Jvm.popArgs, ← hlen, popN_top hs hstack]
   simp [hiface] at hF
   simp [hs, hcell, hobj, hkcell, hck, hiface, hrm, habs, hmk, hF, popN_top hs hstack])
theorem own_special {p : Program} {l : Launch} {e : Env} {R : Room} {s : State} {m : MethodId} {args : Array Value} {below : List Frame} {meth : Method} {c : Code} {T : State} {locs : List Loc} {cells slots : Nat} (X : Stand p l e R s m args below meth c T locs cells slots) (hexec : p.tables.exec = Jvm.exec)
    {own : String} {index : Nat} {y : MethodName} (hown : s.vm.findClass own = some m.cls) (w1 : (Cond.methodLink own index y).before args s = true) (w2 : (Cond.instanceMethod y).before args s = true) (w4 : (Cond.superclass own y.cls).before args s = true) (hni : y.name ≠ "<init>")
    (hy : y.cls ≠ "java/lang/invoke/MethodHandle" ∧ y.cls ≠ "java/lang/invoke/VarHandle") {mk : MethodId} {methM : Method} (hnamed : s.methodNamed? y = some mk) (hmeth : s.vm.method? mk = some methM)
    {a : Addr} {cell : Cell} {kcell : Class} (hcell : T.heap[a]? = some cell) (hobj : ∀ c, cell.vm ≠ .statics c) (hkcell : s.vm.classes[cell.cls]? = some kcell)
    {g : JFrame} (hg : g.method = m) {argsL rest : List Value} (hlen : argsL.length = methM.sig.parameters.length) (hstack : g.stack = argsL.reverse ++ .ref a :: rest) (hdg : decode c.code g.pc = .ok (.invokespecial index, 3)) :
    ∃ vm', Stand p l e R s m args below meth c (T.setVm vm') locs cells slots ∧ ∀ target, Steps p.tables e below (doInvoke e ((T.setVm vm').setTop { g with stack := rest }) [] mk (.ref a :: argsL).toArray).1 target → Steps p.tables e below (T.setTop g) target := by
  have hpl : e.platform.magicAccessors = ({} : Platform).magicAccessors := by rw [X.admits.platform]
  obtain ⟨mk', methM', hn', hm', hstM, habM⟩ := Cond.instanceMethod_spec w2
  cases hnamed.symm.trans hn'
  cases hmeth.symm.trans hm'
  obtain ⟨ci, hl, hright⟩ := Cond.methodLink_spec hown hnamed w1 e.platform hpl
  obtain ⟨kr, hkr, hkn⟩ := className_of_methodNamed hnamed
  have hE : s.MethodEntry e T.vm m.cls index mk ci := State.methodEntry X.warmed hl hright fun k hk => by cases hkr.symm.trans hk; rw [hkn]; exact hy
  obtain ⟨dk, cfile, nt, _, _, via, ck, _, hd, hcf, hcp, -, -, -, hck, -, hnopoly, -⟩ := hl.here
  cases hkr.symm.trans hck
  have hcp' : cfile.constantPool[index]? = some (.methodref ci nt) ∨ cfile.constantPool[index]? = some (.interfaceMethodref ci nt) := by
    cases via
    · exact Or.inl (by simpa using hcp)
    · exact Or.inr (by simpa using hcp)
  have hcn := findClass_of_methodNamed hnamed
  have ws := w4
  simp only [Cond.before, Cond.holds, Cond.value, hown, hcn, hd, hkr, Option.bind_some, Option.map_some] at ws
  have ws' : ((dk.super = some mk.cls ∧ dk.kind = .ordinary) ∧ kr.kind = .ordinary) ∧ dk.isInterface = false := by simpa using ws
  obtain ⟨hrn, hrd⟩ := name_of_methodNamed hnamed hmeth
  have hdecl : kr.findMethod y.name y.desc = some mk.idx := by
    have h' := hnamed
    simp only [State.methodNamed?, hcn, hkr, Option.bind_eq_bind, Option.bind_some, Option.bind_eq_some_iff, Option.pure_def, Option.some.injEq] at h'
    obtain ⟨i, hi, hmi⟩ := h'
    rw [← hmi]; exact hi
  have hfound : lookupSpecial s.vm mk.cls y.name y.desc = .method mk := own_lookup hkr hdecl rfl hmeth hstM
  have alike := hE.warmed.alike
  obtain ⟨dk₂, hdk₂, hres⟩ := hE.classReady
  obtain ⟨dk₃, hdk₃, hed⟩ := alike.2.2 _ _ hd
  cases hdk₂.symm.trans hdk₃
  obtain ⟨kr₂, hkr₂, her⟩ := alike.2.2 _ _ hkr
  obtain ⟨kc₂, hkc₂, -⟩ := alike.2.2 _ _ hkcell
  subst hg
  refine ⟨T.vm.called g.method.cls ci index mk, X.noted hE.warmed, fun target hrest => ?_⟩
  jvm_step X.here [hexec, hdg, invokespecial.wp_cold (e := e) (s := T) (s₀ := s) (f := g) X.here.top hE hd hcf hcp' hmeth,
    own_wpSpecial (e := e) (s := T.setVm (T.vm.called g.method.cls ci index mk)) (f := g) (index := index) (ci := ci) (nt := nt) (a := a) (r0 := mk) (named := mk.cls) (ck := dk₂) (nk := kr₂) (mk := kr₂) (cf := cfile) (r := methM) (args := argsL) (rest := rest) (cell := cell) (kcell := kc₂)
      X.here.top hE.ready (by show (T.vm.called g.method.cls ci index mk).method? mk = some methM; rw [alike.method?]; exact hmeth) hdk₂ (by rw [hed]; exact hcf) hcp' ⟨dk₂, hdk₂, hres⟩ hkr₂ (by rw [hrn]; simp [hni]) hstM (by rw [hed]; exact ws'.1.1.1)
      (by show lookupSpecial (T.vm.called g.method.cls ci index mk) mk.cls methM.name methM.desc = .method mk; rw [alike.lookupSpecial, hrn, hrd]; exact hfound) (by rw [hed]; exact ws'.2) hkr₂ habM hlen hstack hcell hobj hkc₂]
  intro acts1
  rw [doInvoke_state]
  exact hrest
section StepsS
variable {Z : State} {n0 kk : Nat} {code : ByteArray} {ml : Nat} {own nm : String} {ret : Option FieldType} {h : Heap} {p : Program} {l : Launch} {e : Env} {R : Room} {s : State} {m : MethodId} {args : Array Value} {below : List Frame} {meth : Method} {c : Code} {T : State} {locs : List Loc} {cells slots : Nat} {P : State → Outcome → Prop} {a0 : Array Value} {pc pc' : Nat} {L : Array Slot} {S : List Value}
theorem w_callSup (X : Sd Z n0 kk code ml own nm ret h p l e R s m args below meth c T locs cells slots) {y : MethodName} {bytes : ByteArray} {maxL : Nat} {ret' : Option FieldType} {rm : Room} {index : Nat} {Q' : Option Value → Heap → Prop} {ps : List FieldType} {rr : Option FieldType} {stk : List Value} (hd : Dc code pc (.invokespecial index) 3 pc') (hi : y.name ≠ "<init>") (w1 : (Cond.methodLink own index y).before a0 Z = true) (w2 : (Cond.instanceMethod y).before a0 Z = true) (wu : (Cond.superclass own y.cls).before a0 Z = true) (w3 : (Cond.initialized y.cls).before a0 Z = true) (w4 : (Cond.code y bytes maxL ret').before a0 Z = true) (hy : y.cls ≠ "java/lang/invoke/MethodHandle" ∧ y.cls ≠ "java/lang/invoke/VarHandle") {a : Addr} {C : String} (E : Exa Z h a C) {argsL : List Value} (D : Does l Z n0 y bytes maxL ret' [] rm (.ref a :: argsL).toArray h Q') (hpd : parseMethodDescriptor y.desc = some ⟨ps, rr⟩) (hlen : argsL.length = ps.length) (hst : stk = argsL.reverse ++ .ref a :: S) (hsz : L.size = ml) (hf : rm.frames + 1 ≤ R.frames) (hl : (S.map fun v => v.category).sum + (maxL + 11) + rm.locals ≤ R.locals) (hc : cells + rm.cells ≤ R.cells) (hs : slots + rm.slots ≤ R.slots) (K : ∀ T' h' v L', Sd Z n0 kk code ml own nm ret h' p l e R s m args below meth c T' (locs ++ L') (cells + rm.cells) (slots + rm.slots) → Q' v h' → Wp p e below P (T'.setTop (mkF m pc' L (v.toList ++ S)))) : Wp p e below P (T.setTop (mkF m pc L stk)) := by
  obtain ⟨hd, rfl⟩ := hd
  obtain ⟨mk, hnamed⟩ := Cond.code_named (mvT (args := args) X.hZ w4)
  obtain ⟨methM, cM, hmethM, -, -, -, -, -, -, hsig⟩ := Cond.code_spec hnamed (mvT (args := args) X.hZ w4)
  obtain ⟨cq, kq, -, qb, cell, qc, qd, qe⟩ := isOf X.hZ X.eh E
  obtain ⟨vm1, X1, hst1⟩ := own_special X.st X.hx X.hown (mvT X.hZ w1) (mvT X.hZ w2) (mvT X.hZ wu) hi hy hnamed hmethM (a := a) qc (fun q r => by rw [r] at qe; cases qe) (qd ▸ qb) (g := mkF m pc L stk) rfl (argsL := argsL) (rest := S) (lenOf hpd hlen _ hsig) hst (X.hb hd)
  obtain ⟨v, ⟨T', L1, k1, n1⟩, X', ⟨Lc, hQ, l1, y1, z1⟩, st⟩ := (backOf (Q := fun v h' L => Fr n0 L ∧ Old Z n0 h' ∧ h.size ≤ h'.size ∧ Q' v h') (W := (S.map fun v => v.category).sum) (D X.old) X.hZ w4 w3 hf hl) m meth c ⟨T.setVm vm1, locs, cells, slots⟩ { mkF m pc L stk with stack := S } (.invokespecial index) mk (.ref a :: argsL).toArray X1 rfl (by rw [X.hml]; exact hsz) (X.hb hd) (by show 2 * 0 + (S.map fun v => v.category).sum ≤ _; omega) (X1.named hnamed) ⟨rfl, X.eh, hc, hs⟩
  replace st := hst1 _ st
  dsimp only [Pt.U, Pt.locs, Pt.cells, Pt.slots] at X' l1 y1 z1 st hQ
  subst l1 y1 z1
  exact Wp.tr st (K T' _ v Lc (X.mk' X' rfl (X.fr.app hQ.1) hQ.2.1 hQ.2.2.1) hQ.2.2.2)
theorem own_set_self {h : Heap} {b : Addr} {cb : Cell} (q : h[b]? = some cb) : h.setIfInBounds b cb = h := by
  apply Array.ext_getElem?
  intro i
  rw [Array.getElem?_setIfInBounds]
  by_cases e : b = i
  · subst e
    obtain ⟨hb, e2⟩ := Array.getElem?_eq_some_iff.mp q
    simp [hb, e2]
  · simp [e]
theorem w_cp0 (X : Sd Z n0 kk code ml own nm ret h p l e R s m args below meth c T locs cells slots) {index : Nat} (hd : Dc code pc (.invokestatic index) 3 pc') (w1 : (Cond.methodLink own index Jvm.Stand.acN).before a0 Z = true) (w2 : (Cond.native Jvm.Stand.acN).before a0 Z = true) (w3 : (Cond.static Jvm.Stand.acN).before a0 Z = true) (w4 : (Cond.initialized "java/lang/System").before a0 Z = true) {a b : Addr} {ca cb : Cell} {dp : Int32} (A : Arr Z h a ca .int) (B : Arr Z h b cb .int) (hp : ¬ dp < 0) (hp2 : dp.toInt ≤ cb.slots.size) (hsz : L.size = ml) (hf : 1 ≤ R.frames) (hl : (S.map fun v => v.category).sum + (nativeFrameWords "java/lang/System" "arraycopy" 5 + 11) ≤ R.locals) (K : ∀ T', Sd Z n0 kk code ml own nm ret h p l e R s m args below meth c T' locs cells slots → Wp p e below P (T'.setTop (mkF m pc' L S))) : Wp p e below P (T.setTop (mkF m pc L (.int (0 : Int32) :: .int dp :: .ref b :: .int (0 : Int32) :: .ref a :: S))) := by
  obtain ⟨hd, rfl⟩ := hd
  obtain ⟨os, ks, hks, sc, hsk⟩ := State.isArrayOf_alike X.hZ.alike A.2.1
  obtain ⟨od, kd, hkd, dc, hdk⟩ := State.isArrayOf_alike X.hZ.alike B.2.1
  obtain ⟨vm1, hW, X', st⟩ := X.st.arraycopyK X.hx X.hown (mvT X.hZ w1) (mvT X.hZ w2) (mvT X.hZ w3) (mvT X.hZ w4) (src := a) (dst := b) (srcPos := 0) (destPos := dp) (n := 0) (by rw [X.eh]; exact A.1) (by rw [X.eh]; exact B.1) os od A.2.2 B.2.2 hks hkd hsk hdk (by rfl) (by decide) hp (by decide) (by show ¬ ((0 : Int) + 0 > _); omega) (by show ¬ (dp.toInt + 0 > _); omega) (fun _ _ i hi => absurd hi (Nat.not_lt_zero i)) (g := mkF m pc L (.int 0 :: .int dp :: .ref b :: .int 0 :: .ref a :: S)) rfl (by rw [X.hml]; exact hsz) rfl (X.hb hd) hf (by show 2 * 0 + _ + _ ≤ _; omega)
  have e1 : locs ++ copyLocs b dp.toNatClampNeg (0 : Int32).toNatClampNeg = locs := List.append_nil _
  rw [e1] at X'
  have e2 : ((T.setVm vm1).setCell b (copied ca cb 0 dp 0)).heap = h := by
    show T.heap.setIfInBounds b cb = h
    rw [X.eh]; exact own_set_self B.1
  exact Wp.of st (K _ (X.mk' X' e2 X.fr X.old (Nat.le_refl _)))
theorem w_arrlenC (X : Sd Z n0 kk code ml own nm ret h p l e R s m args below meth c T locs cells slots) {a : Addr} {ca : Cell} {ty : FieldType} (n : Int32) (hd : Dc code pc .arraylength 1 pc') (A : Arr Z h a ca ty) (hn : ca.slots.size.toInt32 = n) (K : Wp p e below P (T.setTop (mkF m pc' L (.int n :: S)))) : Wp p e below P (T.setTop (mkF m pc L (.ref a :: S))) := by
  obtain ⟨hd, rfl⟩ := hd
  exact Wp.of (fun _ k => X.st.arraylength X.hx (by rw [X.eh]; exact A.1) (State.isArrayOf_alike X.hZ.alike A.2.1) (g := mkF m pc L (.ref a :: S)) rfl rfl (X.hb hd) _ (by rw [hn]; exact k)) K
end StepsS
end Jvm.RoadKit
namespace Jvm.RoadKit
theorem own_eqI {args : Array Value} {first s : State} {o : Option Outcome} {idx : List Nat} {a b : Term} {x y : Int32} (ha : a.eval args first o idx s = some (.int x)) (hb : b.eval args first o idx s = some (.int y)) : (Cond.eq a b).value args first o s idx = some (decide (x = y)) := by simp [Cond.value, ha, hb]
end Jvm.RoadKit
namespace Jvm.Pilot.@@N@@
open Jvm Jvm.ClassFile Sem Op Lib Jvm.Free Jvm.Stand Jvm.LawKit Jvm.RoadKit Bundle Jvm.Pilot.@@N@@.Jvm.D
def own_hw (a0 : Array Value) (Z : State) : Prop := ∀ d ∈ tables_1, d.before a0 Z = true
def own_S (Z : State) (zc : Int32) (fm : Value) : Prop := Sta Z Z.heap "java/lang/String" "COMPACT_STRINGS" "Z" (.int zc) ∧ (¬ zc = 0) ∧ Sta Z Z.heap "jdk/internal/util/Preconditions" "SIOOBE_FORMATTER" "Ljava/util/function/BiFunction;" fm ∧ fm.isRef = true
theorem own_nar_c (x : Int32) : nar .char (x.toUInt32.toUInt16.toUInt32.toInt32) = x.toUInt32.toUInt16.toUInt32.toInt32 := by
  show ((x.toUInt32.toUInt16.toUInt32.toInt32).toUInt32.toUInt16.toUInt32.toInt32) = _
  simp only [UInt32.toUInt32_toInt32, UInt16.toUInt16_toUInt32]
theorem own_nar_b (x : Int32) : nar .byte (x.toInt8.toInt32) = x.toInt8.toInt32 := by
  show (x.toInt8.toInt32).toInt8.toInt32 = _
  simp
def own_z60 : List Value := List.replicate 60 (.int (0 : Int32))
def own_gap (g : Int32) : Int32 := if g &&& 4 = 0 then g &&& 3 else (g.toUInt32 >>> ((3 : Int32) &&& 31).toUInt32).toInt32 &&& 268435455
def own_place (i n r v : Int32) : Int32 := if v = 0 then (i + r) % n else (n - 1 - i + r) % n
/-- four ints, then sixty noughts -/
def own_I (Z : State) (h : Heap) (p : Addr) : Prop := ∃ a b c d : Int32, Ary Z h p .int (.int a :: .int b :: .int c :: .int d :: own_z60)
theorem own_I.ext {Z : State} {h h' : Heap} {p : Addr} (A : own_I Z h p) (E : Ext h h') : own_I Z h' p := by obtain ⟨a, b, c, d, A⟩ := A; exact ⟨a, b, c, d, A.ext E⟩
theorem own_I.keep {Z : State} {h h' : Heap} {p : Addr} {ws : List Addr} (A : own_I Z h p) (K : Keep h h' ws) (q : p ∉ ws) : own_I Z h' p := by obtain ⟨a, b, c, d, A⟩ := A; exact ⟨a, b, c, d, A.keep K q⟩
def own_GB (Z : State) (h : Heap) (n0 : Nat) (a ids pr nm sb en ln se ss : Addr) (k x0 x1 x2 x3 : Int32) : Prop := n0 ≤ a ∧ a < ids ∧ ids < pr ∧ pr < nm ∧ nm < sb ∧ sb < en ∧ en < ln ∧ ln < se ∧ se < ss ∧ Exa Z h a "com/example/flicker/flicker/game/GameBuilder" ∧ Fld Z h a "com/example/flicker/flicker/game/GameBuilder" "ids" "[I" (.ref ids) ∧ Fld Z h a "com/example/flicker/flicker/game/GameBuilder" "priorities" "[I" (.ref pr) ∧ Fld Z h a "com/example/flicker/flicker/game/GameBuilder" "names" "Lcom/example/flicker/flicker/game/VertexNames;" (.ref nm) ∧ Fld Z h a "com/example/flicker/flicker/game/GameBuilder" "vertexLines" "[I" (.ref ln) ∧ Fld Z h a "com/example/flicker/flicker/game/GameBuilder" "setEnd" "[I" (.ref se) ∧ Fld Z h a "com/example/flicker/flicker/game/GameBuilder" "sets" "[I" (.ref ss) ∧ Fld Z h a "com/example/flicker/flicker/game/GameBuilder" "vertexCount" "I" (.int k) ∧ Fld Z h a "com/example/flicker/flicker/game/GameBuilder" "setLength" "I" (.int (0 : Int32)) ∧ Fld Z h a "com/example/flicker/flicker/game/GameBuilder" "byId" "[J" .null ∧ Exa Z h nm "com/example/flicker/flicker/game/VertexNames" ∧ Fld Z h nm "com/example/flicker/flicker/game/VertexNames" "text" "Ljava/lang/StringBuilder;" (.ref sb) ∧ Fld Z h nm "com/example/flicker/flicker/game/VertexNames" "end" "[I" (.ref en) ∧ Fld Z h nm "com/example/flicker/flicker/game/VertexNames" "count" "I" (.int k) ∧ Exa Z h sb "java/lang/StringBuilder" ∧ Fld Z h sb "java/lang/AbstractStringBuilder" "count" "I" (.int (0 : Int32)) ∧ Ary Z h ids .int (.int x0 :: .int x1 :: .int x2 :: .int x3 :: own_z60) ∧ own_I Z h pr ∧ own_I Z h en ∧ own_I Z h ln ∧ own_I Z h se ∧ own_I Z h ss

def own_insr (x : Int64) : List Int64 → List Int64
  | [] => [x]
  | y :: ys => if x < y then y :: own_insr x ys else x :: y :: ys
def own_srt (l : List Int64) : List Int64 := (l.foldl (fun r x => own_insr x r) []).reverse
def own_hi (z : Int64) : Int64 := ((z.toUInt64 >>> ((32 : Int32) &&& 0x3f).toInt64.toUInt64).toInt64)
def own_key (x : Int32) (p : Int64) : Int64 := ((x.toInt64) <<< ((32 : Int32) &&& 0x3f).toInt64) ||| p
def own_fm_0  : Int32 := (0 : Int32)
def own_fm_1 (z0 : Int64) : Int32 := (if own_hi z0 = (0 : Int64) then (1 : Int32) else (0 : Int32))
def own_fm_2 (z0 z1 : Int64) : Int32 := (if own_hi z0 = (0 : Int64) then (if own_hi z1 = (1 : Int64) then (2 : Int32) else (1 : Int32)) else (0 : Int32))
def own_fm_3 (z0 z1 z2 : Int64) : Int32 := (if own_hi z0 = (0 : Int64) then (if own_hi z1 = (1 : Int64) then (if own_hi z2 = (2 : Int64) then (3 : Int32) else (2 : Int32)) else (1 : Int32)) else (0 : Int32))
def own_fm_4 (z0 z1 z2 z3 : Int64) : Int32 := (if own_hi z0 = (0 : Int64) then (if own_hi z1 = (1 : Int64) then (if own_hi z2 = (2 : Int64) then (if own_hi z3 = (3 : Int64) then (4 : Int32) else (3 : Int32)) else (2 : Int32)) else (1 : Int32)) else (0 : Int32))
theorem own_or3 {A p : Int64} (hA : A.toInt % 4 = 0) (hp : 3 &&& p = p) : A ||| p = A + p := by
  have h1 : A &&& 3 = 0 := Int64.toInt_inj.mp (by rw [Jvm.Kit.i64_mask A 3 (k := 2) (by decide) (by decide)]; exact hA)
  have h2 : A &&& p = 0 := by rw [← hp, ← Int64.and_assoc, h1, Int64.zero_and]
  have h3 : A.toBitVec &&& p.toBitVec = 0#64 := by have := congrArg Int64.toBitVec h2; simpa using this
  apply Int64.toBitVec_inj.mp
  rw [Int64.toBitVec_or, Int64.toBitVec_add]
  exact (BitVec.add_eq_or_of_and_eq_zero _ _ h3).symm
theorem own_keyI {x : Int32} {p : Int64} (hx : 0 ≤ x.toInt) (hp : 3 &&& p = p) (h1 : 0 ≤ p.toInt) (h2 : p.toInt < 4) : (own_key x p).toInt = x.toInt * 4294967296 + p.toInt := by
  have hl := Int32.toInt_lt x
  have e : (x.toInt64 <<< ((32 : Int32) &&& 0x3f).toInt64).toInt = x.toInt * 2 ^ 32 := by
    have := Jvm.Kit.i64_shl x.toInt64 ((32 : Int32) &&& 0x3f).toInt64 (k := 32) (by decide) (by rw [Jvm.Kit.i64_of_i32]; omega) (by rw [Jvm.Kit.i64_of_i32]; omega)
    rw [this, Jvm.Kit.i64_of_i32]
  unfold own_key
  rw [own_or3 (by rw [e]; omega) hp, Jvm.Kit.i64_add (by rw [e]; omega) (by rw [e]; omega), e]
  omega
theorem own_hiK {x : Int32} {p : Int64} (hx : 0 ≤ x.toInt) (hp : 3 &&& p = p) (h1 : 0 ≤ p.toInt) (h2 : p.toInt < 4) : own_hi (own_key x p) = x.toInt64 := by
  have e := own_keyI hx hp h1 h2
  apply Int64.toInt_inj.mp
  unfold own_hi
  rw [Jvm.Kit.i64_lushr (Jvm.Kit.i64_nonneg.mpr (by rw [e]; omega)) (k := 32) (by decide) (by decide), e, Jvm.Kit.i64_of_i32]
  omega
theorem own_keyLt {x y : Int32} {p q : Int64} (hx : 0 ≤ x.toInt) (hy : 0 ≤ y.toInt) (hp : 3 &&& p = p) (h1 : 0 ≤ p.toInt) (h2 : p.toInt < 4) (hq : 3 &&& q = q) (g1 : 0 ≤ q.toInt) (g2 : q.toInt < 4) (h : x.toInt < y.toInt) : own_key x p < own_key y q := by
  rw [Int64.lt_iff_toInt_lt, own_keyI hx hp h1 h2, own_keyI hy hq g1 g2]; omega
theorem own_keyNl {x y : Int32} {p q : Int64} (hx : 0 ≤ x.toInt) (hy : 0 ≤ y.toInt) (hp : 3 &&& p = p) (h1 : 0 ≤ p.toInt) (h2 : p.toInt < 4) (hq : 3 &&& q = q) (g1 : 0 ≤ q.toInt) (g2 : q.toInt < 4) (h : x.toInt < y.toInt) : ¬ own_key y q < own_key x p := by
  rw [Int64.lt_iff_toInt_lt, own_keyI hx hp h1 h2, own_keyI hy hq g1 g2]; omega
theorem own_64 {s t : Int32} : (s.toInt64 = t.toInt64) = (s = t) := propext ⟨fun q => Int32.toInt_inj.mp (by rw [← Jvm.Kit.i64_of_i32, q, Jvm.Kit.i64_of_i32]), fun q => by rw [q]⟩
theorem own_64_0 (s : Int32) : (s.toInt64 = (0 : Int64)) = (s = 0) := own_64 (t := 0)
theorem own_64_1 (s : Int32) : (s.toInt64 = (1 : Int64)) = (s = 1) := own_64 (t := 1)
theorem own_64_2 (s : Int32) : (s.toInt64 = (2 : Int64)) = (s = 2) := own_64 (t := 2)
theorem own_64_3 (s : Int32) : (s.toInt64 = (3 : Int64)) = (s = 3) := own_64 (t := 3)
theorem own_gapR (g : Int32) : 0 ≤ (own_gap g).toInt ∧ (own_gap g).toInt < 268435456 := by
  unfold own_gap
  split
  · rw [Jvm.Kit.i32_mask g 3 (k := 2) (by decide) (by decide)]; omega
  · rw [Jvm.Kit.i32_mask _ 268435455 (k := 28) (by decide) (by decide)]; omega
theorem own_step {s g : Int32} {B : Int} (h0 : 0 ≤ s.toInt) (h1 : s.toInt < B) (hB : B ≤ 1073741824) : s.toInt < ((s + (1 : Int32)) + own_gap g).toInt ∧ ((s + (1 : Int32)) + own_gap g).toInt < B + 268435456 := by
  have r := own_gapR g
  have e1 : (s + (1 : Int32)).toInt = s.toInt + 1 := Jvm.Kit.i32_add (q := 1) (by show _ ≤ s.toInt + 1; omega) (by show s.toInt + 1 < _; omega)
  have e2 : ((s + (1 : Int32)) + own_gap g).toInt = s.toInt + 1 + (own_gap g).toInt := by rw [Jvm.Kit.i32_add (by rw [e1]; omega) (by rw [e1]; omega), e1]
  rw [e2]; omega
theorem own_mod5 (k : Int32) : (k &&& (2147483647 : Int32)) % 5 = 0 ∨ (k &&& (2147483647 : Int32)) % 5 = 1 ∨ (k &&& (2147483647 : Int32)) % 5 = 2 ∨ (k &&& (2147483647 : Int32)) % 5 = 3 ∨ (k &&& (2147483647 : Int32)) % 5 = 4 := by
  have h := Jvm.Kit.i32_mask k 2147483647 (k := 31) (by decide) (by decide)
  have e : ((k &&& (2147483647 : Int32)) % 5).toInt = (k &&& (2147483647 : Int32)).toInt % 5 := Jvm.Kit.i32_rem_nonneg (by rw [h]; omega)
  simp only [← Int32.toInt_inj]
  have e0 : (0 : Int32).toInt = 0 := rfl
  have e1 : (1 : Int32).toInt = 1 := rfl
  have e2 : (2 : Int32).toInt = 2 := rfl
  have e3 : (3 : Int32).toInt = 3 := rfl
  have e4 : (4 : Int32).toInt = 4 := rfl
  omega
theorem own_and3 (k : Int32) : k &&& (3 : Int32) = 0 ∨ k &&& (3 : Int32) = 1 ∨ k &&& (3 : Int32) = 2 ∨ k &&& (3 : Int32) = 3 := by
  have h := Jvm.Kit.i32_mask k 3 (k := 2) (by decide) (by decide)
  simp only [← Int32.toInt_inj]
  have e0 : (0 : Int32).toInt = 0 := rfl
  have e1 : (1 : Int32).toInt = 1 := rfl
  have e2 : (2 : Int32).toInt = 2 := rfl
  have e3 : (3 : Int32).toInt = 3 := rfl
  omega
theorem own_hiN {x y : Int32} {p q : Int64} (hx : 0 ≤ x.toInt) (hy : 0 ≤ y.toInt) (hp : 3 &&& p = p) (h1 : 0 ≤ p.toInt) (h2 : p.toInt < 4) (hq : 3 &&& q = q) (g1 : 0 ≤ q.toInt) (g2 : q.toInt < 4) (h : x.toInt < y.toInt) : ¬ own_hi (own_key y q) = own_hi (own_key x p) := by
  rw [own_hiK hx hp h1 h2, own_hiK hy hq g1 g2, own_64]
  intro e; rw [e] at h; omega
theorem own_s_1_0a {z0 : Int64}  : own_srt [z0] = [z0] := by
  simp only [own_srt, List.foldl_cons, List.foldl_nil, own_insr, if_true, if_false, List.reverse_cons, List.reverse_nil, List.nil_append, List.cons_append]
theorem own_s_1_0 {s0 s1 s2 s3 : Int32} (hb0 : 0 ≤ s0.toInt) (hb1 : s0.toInt < s1.toInt) (hb2 : s1.toInt < s2.toInt) (hb3 : s2.toInt < s3.toInt) : own_srt [own_key s0 (0 : Int64)] = [own_key s0 (0 : Int64)] :=
  own_s_1_0a 
theorem own_s_2_01a {z0 z1 : Int64} (k0_1 : z0 < z1) (l0_1 : ¬ z1 < z0) : own_srt [z0, z1] = [z0, z1] := by
  simp only [own_srt, List.foldl_cons, List.foldl_nil, own_insr, k0_1, l0_1, if_true, if_false, List.reverse_cons, List.reverse_nil, List.nil_append, List.cons_append]
theorem own_s_2_01 {s0 s1 s2 s3 : Int32} (hb0 : 0 ≤ s0.toInt) (hb1 : s0.toInt < s1.toInt) (hb2 : s1.toInt < s2.toInt) (hb3 : s2.toInt < s3.toInt) : own_srt [own_key s0 (0 : Int64), own_key s1 (1 : Int64)] = [own_key s0 (0 : Int64), own_key s1 (1 : Int64)] :=
  own_s_2_01a (own_keyLt (by omega) (by omega) (by decide) (by decide) (by decide) (by decide) (by decide) (by decide) (by omega)) (own_keyNl (by omega) (by omega) (by decide) (by decide) (by decide) (by decide) (by decide) (by decide) (by omega))
theorem own_s_2_10a {z0 z1 : Int64} (k0_1 : z0 < z1) (l0_1 : ¬ z1 < z0) : own_srt [z1, z0] = [z0, z1] := by
  simp only [own_srt, List.foldl_cons, List.foldl_nil, own_insr, k0_1, l0_1, if_true, if_false, List.reverse_cons, List.reverse_nil, List.nil_append, List.cons_append]
theorem own_s_2_10 {s0 s1 s2 s3 : Int32} (hb0 : 0 ≤ s0.toInt) (hb1 : s0.toInt < s1.toInt) (hb2 : s1.toInt < s2.toInt) (hb3 : s2.toInt < s3.toInt) : own_srt [own_key s1 (0 : Int64), own_key s0 (1 : Int64)] = [own_key s0 (1 : Int64), own_key s1 (0 : Int64)] :=
  own_s_2_10a (own_keyLt (by omega) (by omega) (by decide) (by decide) (by decide) (by decide) (by decide) (by decide) (by omega)) (own_keyNl (by omega) (by omega) (by decide) (by decide) (by decide) (by decide) (by decide) (by decide) (by omega))
theorem own_s_3_012a {z0 z1 z2 : Int64} (k0_1 : z0 < z1) (l0_1 : ¬ z1 < z0) (k0_2 : z0 < z2) (l0_2 : ¬ z2 < z0) (k1_2 : z1 < z2) (l1_2 : ¬ z2 < z1) : own_srt [z0, z1, z2] = [z0, z1, z2] := by
  simp only [own_srt, List.foldl_cons, List.foldl_nil, own_insr, k0_1, l0_1, k0_2, l0_2, k1_2, l1_2, if_true, if_false, List.reverse_cons, List.reverse_nil, List.nil_append, List.cons_append]
theorem own_s_3_012 {s0 s1 s2 s3 : Int32} (hb0 : 0 ≤ s0.toInt) (hb1 : s0.toInt < s1.toInt) (hb2 : s1.toInt < s2.toInt) (hb3 : s2.toInt < s3.toInt) : own_srt [own_key s0 (0 : Int64), own_key s1 (1 : Int64), own_key s2 (2 : Int64)] = [own_key s0 (0 : Int64), own_key s1 (1 : Int64), own_key s2 (2 : Int64)] :=
  own_s_3_012a (own_keyLt (by omega) (by omega) (by decide) (by decide) (by decide) (by decide) (by decide) (by decide) (by omega)) (own_keyNl (by omega) (by omega) (by decide) (by decide) (by decide) (by decide) (by decide) (by decide) (by omega)) (own_keyLt (by omega) (by omega) (by decide) (by decide) (by decide) (by decide) (by decide) (by decide) (by omega)) (own_keyNl (by omega) (by omega) (by decide) (by decide) (by decide) (by decide) (by decide) (by decide) (by omega)) (own_keyLt (by omega) (by omega) (by decide) (by decide) (by decide) (by decide) (by decide) (by decide) (by omega)) (own_keyNl (by omega) (by omega) (by decide) (by decide) (by decide) (by decide) (by decide) (by decide) (by omega))
theorem own_s_3_021a {z0 z1 z2 : Int64} (k0_1 : z0 < z1) (l0_1 : ¬ z1 < z0) (k0_2 : z0 < z2) (l0_2 : ¬ z2 < z0) (k1_2 : z1 < z2) (l1_2 : ¬ z2 < z1) : own_srt [z0, z2, z1] = [z0, z1, z2] := by
  simp only [own_srt, List.foldl_cons, List.foldl_nil, own_insr, k0_1, l0_1, k0_2, l0_2, k1_2, l1_2, if_true, if_false, List.reverse_cons, List.reverse_nil, List.nil_append, List.cons_append]
theorem own_s_3_021 {s0 s1 s2 s3 : Int32} (hb0 : 0 ≤ s0.toInt) (hb1 : s0.toInt < s1.toInt) (hb2 : s1.toInt < s2.toInt) (hb3 : s2.toInt < s3.toInt) : own_srt [own_key s0 (0 : Int64), own_key s2 (1 : Int64), own_key s1 (2 : Int64)] = [own_key s0 (0 : Int64), own_key s1 (2 : Int64), own_key s2 (1 : Int64)] :=
  own_s_3_021a (own_keyLt (by omega) (by omega) (by decide) (by decide) (by decide) (by decide) (by decide) (by decide) (by omega)) (own_keyNl (by omega) (by omega) (by decide) (by decide) (by decide) (by decide) (by decide) (by decide) (by omega)) (own_keyLt (by omega) (by omega) (by decide) (by decide) (by decide) (by decide) (by decide) (by decide) (by omega)) (own_keyNl (by omega) (by omega) (by decide) (by decide) (by decide) (by decide) (by decide) (by decide) (by omega)) (own_keyLt (by omega) (by omega) (by decide) (by decide) (by decide) (by decide) (by decide) (by decide) (by omega)) (own_keyNl (by omega) (by omega) (by decide) (by decide) (by decide) (by decide) (by decide) (by decide) (by omega))
theorem own_s_3_102a {z0 z1 z2 : Int64} (k0_1 : z0 < z1) (l0_1 : ¬ z1 < z0) (k0_2 : z0 < z2) (l0_2 : ¬ z2 < z0) (k1_2 : z1 < z2) (l1_2 : ¬ z2 < z1) : own_srt [z1, z0, z2] = [z0, z1, z2] := by
  simp only [own_srt, List.foldl_cons, List.foldl_nil, own_insr, k0_1, l0_1, k0_2, l0_2, k1_2, l1_2, if_true, if_false, List.reverse_cons, List.reverse_nil, List.nil_append, List.cons_append]
theorem own_s_3_102 {s0 s1 s2 s3 : Int32} (hb0 : 0 ≤ s0.toInt) (hb1 : s0.toInt < s1.toInt) (hb2 : s1.toInt < s2.toInt) (hb3 : s2.toInt < s3.toInt) : own_srt [own_key s1 (0 : Int64), own_key s0 (1 : Int64), own_key s2 (2 : Int64)] = [own_key s0 (1 : Int64), own_key s1 (0 : Int64), own_key s2 (2 : Int64)] :=
  own_s_3_102a (own_keyLt (by omega) (by omega) (by decide) (by decide) (by decide) (by decide) (by decide) (by decide) (by omega)) (own_keyNl (by omega) (by omega) (by decide) (by decide) (by decide) (by decide) (by decide) (by decide) (by omega)) (own_keyLt (by omega) (by omega) (by decide) (by decide) (by decide) (by decide) (by decide) (by decide) (by omega)) (own_keyNl (by omega) (by omega) (by decide) (by decide) (by decide) (by decide) (by decide) (by decide) (by omega)) (own_keyLt (by omega) (by omega) (by decide) (by decide) (by decide) (by decide) (by decide) (by decide) (by omega)) (own_keyNl (by omega) (by omega) (by decide) (by decide) (by decide) (by decide) (by decide) (by decide) (by omega))
theorem own_s_3_120a {z0 z1 z2 : Int64} (k0_1 : z0 < z1) (l0_1 : ¬ z1 < z0) (k0_2 : z0 < z2) (l0_2 : ¬ z2 < z0) (k1_2 : z1 < z2) (l1_2 : ¬ z2 < z1) : own_srt [z1, z2, z0] = [z0, z1, z2] := by
  simp only [own_srt, List.foldl_cons, List.foldl_nil, own_insr, k0_1, l0_1, k0_2, l0_2, k1_2, l1_2, if_true, if_false, List.reverse_cons, List.reverse_nil, List.nil_append, List.cons_append]
theorem own_s_3_120 {s0 s1 s2 s3 : Int32} (hb0 : 0 ≤ s0.toInt) (hb1 : s0.toInt < s1.toInt) (hb2 : s1.toInt < s2.toInt) (hb3 : s2.toInt < s3.toInt) : own_srt [own_key s1 (0 : Int64), own_key s2 (1 : Int64), own_key s0 (2 : Int64)] = [own_key s0 (2 : Int64), own_key s1 (0 : Int64), own_key s2 (1 : Int64)] :=
  own_s_3_120a (own_keyLt (by omega) (by omega) (by decide) (by decide) (by decide) (by decide) (by decide) (by decide) (by omega)) (own_keyNl (by omega) (by omega) (by decide) (by decide) (by decide) (by decide) (by decide) (by decide) (by omega)) (own_keyLt (by omega) (by omega) (by decide) (by decide) (by decide) (by decide) (by decide) (by decide) (by omega)) (own_keyNl (by omega) (by omega) (by decide) (by decide) (by decide) (by decide) (by decide) (by decide) (by omega)) (own_keyLt (by omega) (by omega) (by decide) (by decide) (by decide) (by decide) (by decide) (by decide) (by omega)) (own_keyNl (by omega) (by omega) (by decide) (by decide) (by decide) (by decide) (by decide) (by decide) (by omega))
theorem own_s_3_201a {z0 z1 z2 : Int64} (k0_1 : z0 < z1) (l0_1 : ¬ z1 < z0) (k0_2 : z0 < z2) (l0_2 : ¬ z2 < z0) (k1_2 : z1 < z2) (l1_2 : ¬ z2 < z1) : own_srt [z2, z0, z1] = [z0, z1, z2] := by
  simp only [own_srt, List.foldl_cons, List.foldl_nil, own_insr, k0_1, l0_1, k0_2, l0_2, k1_2, l1_2, if_true, if_false, List.reverse_cons, List.reverse_nil, List.nil_append, List.cons_append]
theorem own_s_3_201 {s0 s1 s2 s3 : Int32} (hb0 : 0 ≤ s0.toInt) (hb1 : s0.toInt < s1.toInt) (hb2 : s1.toInt < s2.toInt) (hb3 : s2.toInt < s3.toInt) : own_srt [own_key s2 (0 : Int64), own_key s0 (1 : Int64), own_key s1 (2 : Int64)] = [own_key s0 (1 : Int64), own_key s1 (2 : Int64), own_key s2 (0 : Int64)] :=
  own_s_3_201a (own_keyLt (by omega) (by omega) (by decide) (by decide) (by decide) (by decide) (by decide) (by decide) (by omega)) (own_keyNl (by omega) (by omega) (by decide) (by decide) (by decide) (by decide) (by decide) (by decide) (by omega)) (own_keyLt (by omega) (by omega) (by decide) (by decide) (by decide) (by decide) (by decide) (by decide) (by omega)) (own_keyNl (by omega) (by omega) (by decide) (by decide) (by decide) (by decide) (by decide) (by decide) (by omega)) (own_keyLt (by omega) (by omega) (by decide) (by decide) (by decide) (by decide) (by decide) (by decide) (by omega)) (own_keyNl (by omega) (by omega) (by decide) (by decide) (by decide) (by decide) (by decide) (by decide) (by omega))
theorem own_s_3_210a {z0 z1 z2 : Int64} (k0_1 : z0 < z1) (l0_1 : ¬ z1 < z0) (k0_2 : z0 < z2) (l0_2 : ¬ z2 < z0) (k1_2 : z1 < z2) (l1_2 : ¬ z2 < z1) : own_srt [z2, z1, z0] = [z0, z1, z2] := by
  simp only [own_srt, List.foldl_cons, List.foldl_nil, own_insr, k0_1, l0_1, k0_2, l0_2, k1_2, l1_2, if_true, if_false, List.reverse_cons, List.reverse_nil, List.nil_append, List.cons_append]
theorem own_s_3_210 {s0 s1 s2 s3 : Int32} (hb0 : 0 ≤ s0.toInt) (hb1 : s0.toInt < s1.toInt) (hb2 : s1.toInt < s2.toInt) (hb3 : s2.toInt < s3.toInt) : own_srt [own_key s2 (0 : Int64), own_key s1 (1 : Int64), own_key s0 (2 : Int64)] = [own_key s0 (2 : Int64), own_key s1 (1 : Int64), own_key s2 (0 : Int64)] :=
  own_s_3_210a (own_keyLt (by omega) (by omega) (by decide) (by decide) (by decide) (by decide) (by decide) (by decide) (by omega)) (own_keyNl (by omega) (by omega) (by decide) (by decide) (by decide) (by decide) (by decide) (by decide) (by omega)) (own_keyLt (by omega) (by omega) (by decide) (by decide) (by decide) (by decide) (by decide) (by decide) (by omega)) (own_keyNl (by omega) (by omega) (by decide) (by decide) (by decide) (by decide) (by decide) (by decide) (by omega)) (own_keyLt (by omega) (by omega) (by decide) (by decide) (by decide) (by decide) (by decide) (by decide) (by omega)) (own_keyNl (by omega) (by omega) (by decide) (by decide) (by decide) (by decide) (by decide) (by decide) (by omega))
theorem own_s_4_0123a {z0 z1 z2 z3 : Int64} (k0_1 : z0 < z1) (l0_1 : ¬ z1 < z0) (k0_2 : z0 < z2) (l0_2 : ¬ z2 < z0) (k0_3 : z0 < z3) (l0_3 : ¬ z3 < z0) (k1_2 : z1 < z2) (l1_2 : ¬ z2 < z1) (k1_3 : z1 < z3) (l1_3 : ¬ z3 < z1) (k2_3 : z2 < z3) (l2_3 : ¬ z3 < z2) : own_srt [z0, z1, z2, z3] = [z0, z1, z2, z3] := by
  simp only [own_srt, List.foldl_cons, List.foldl_nil, own_insr, k0_1, l0_1, k0_2, l0_2, k0_3, l0_3, k1_2, l1_2, k1_3, l1_3, k2_3, l2_3, if_true, if_false, List.reverse_cons, List.reverse_nil, List.nil_append, List.cons_append]
theorem own_s_4_0123 {s0 s1 s2 s3 : Int32} (hb0 : 0 ≤ s0.toInt) (hb1 : s0.toInt < s1.toInt) (hb2 : s1.toInt < s2.toInt) (hb3 : s2.toInt < s3.toInt) : own_srt [own_key s0 (0 : Int64), own_key s1 (1 : Int64), own_key s2 (2 : Int64), own_key s3 (3 : Int64)] = [own_key s0 (0 : Int64), own_key s1 (1 : Int64), own_key s2 (2 : Int64), own_key s3 (3 : Int64)] :=
  own_s_4_0123a (own_keyLt (by omega) (by omega) (by decide) (by decide) (by decide) (by decide) (by decide) (by decide) (by omega)) (own_keyNl (by omega) (by omega) (by decide) (by decide) (by decide) (by decide) (by decide) (by decide) (by omega)) (own_keyLt (by omega) (by omega) (by decide) (by decide) (by decide) (by decide) (by decide) (by decide) (by omega)) (own_keyNl (by omega) (by omega) (by decide) (by decide) (by decide) (by decide) (by decide) (by decide) (by omega)) (own_keyLt (by omega) (by omega) (by decide) (by decide) (by decide) (by decide) (by decide) (by decide) (by omega)) (own_keyNl (by omega) (by omega) (by decide) (by decide) (by decide) (by decide) (by decide) (by decide) (by omega)) (own_keyLt (by omega) (by omega) (by decide) (by decide) (by decide) (by decide) (by decide) (by decide) (by omega)) (own_keyNl (by omega) (by omega) (by decide) (by decide) (by decide) (by decide) (by decide) (by decide) (by omega)) (own_keyLt (by omega) (by omega) (by decide) (by decide) (by decide) (by decide) (by decide) (by decide) (by omega)) (own_keyNl (by omega) (by omega) (by decide) (by decide) (by decide) (by decide) (by decide) (by decide) (by omega)) (own_keyLt (by omega) (by omega) (by decide) (by decide) (by decide) (by decide) (by decide) (by decide) (by omega)) (own_keyNl (by omega) (by omega) (by decide) (by decide) (by decide) (by decide) (by decide) (by decide) (by omega))
theorem own_s_4_0321a {z0 z1 z2 z3 : Int64} (k0_1 : z0 < z1) (l0_1 : ¬ z1 < z0) (k0_2 : z0 < z2) (l0_2 : ¬ z2 < z0) (k0_3 : z0 < z3) (l0_3 : ¬ z3 < z0) (k1_2 : z1 < z2) (l1_2 : ¬ z2 < z1) (k1_3 : z1 < z3) (l1_3 : ¬ z3 < z1) (k2_3 : z2 < z3) (l2_3 : ¬ z3 < z2) : own_srt [z0, z3, z2, z1] = [z0, z1, z2, z3] := by
  simp only [own_srt, List.foldl_cons, List.foldl_nil, own_insr, k0_1, l0_1, k0_2, l0_2, k0_3, l0_3, k1_2, l1_2, k1_3, l1_3, k2_3, l2_3, if_true, if_false, List.reverse_cons, List.reverse_nil, List.nil_append, List.cons_append]
theorem own_s_4_0321 {s0 s1 s2 s3 : Int32} (hb0 : 0 ≤ s0.toInt) (hb1 : s0.toInt < s1.toInt) (hb2 : s1.toInt < s2.toInt) (hb3 : s2.toInt < s3.toInt) : own_srt [own_key s0 (0 : Int64), own_key s3 (1 : Int64), own_key s2 (2 : Int64), own_key s1 (3 : Int64)] = [own_key s0 (0 : Int64), own_key s1 (3 : Int64), own_key s2 (2 : Int64), own_key s3 (1 : Int64)] :=
  own_s_4_0321a (own_keyLt (by omega) (by omega) (by decide) (by decide) (by decide) (by decide) (by decide) (by decide) (by omega)) (own_keyNl (by omega) (by omega) (by decide) (by decide) (by decide) (by decide) (by decide) (by decide) (by omega)) (own_keyLt (by omega) (by omega) (by decide) (by decide) (by decide) (by decide) (by decide) (by decide) (by omega)) (own_keyNl (by omega) (by omega) (by decide) (by decide) (by decide) (by decide) (by decide) (by decide) (by omega)) (own_keyLt (by omega) (by omega) (by decide) (by decide) (by decide) (by decide) (by decide) (by decide) (by omega)) (own_keyNl (by omega) (by omega) (by decide) (by decide) (by decide) (by decide) (by decide) (by decide) (by omega)) (own_keyLt (by omega) (by omega) (by decide) (by decide) (by decide) (by decide) (by decide) (by decide) (by omega)) (own_keyNl (by omega) (by omega) (by decide) (by decide) (by decide) (by decide) (by decide) (by decide) (by omega)) (own_keyLt (by omega) (by omega) (by decide) (by decide) (by decide) (by decide) (by decide) (by decide) (by omega)) (own_keyNl (by omega) (by omega) (by decide) (by decide) (by decide) (by decide) (by decide) (by decide) (by omega)) (own_keyLt (by omega) (by omega) (by decide) (by decide) (by decide) (by decide) (by decide) (by decide) (by omega)) (own_keyNl (by omega) (by omega) (by decide) (by decide) (by decide) (by decide) (by decide) (by decide) (by omega))
theorem own_s_4_1032a {z0 z1 z2 z3 : Int64} (k0_1 : z0 < z1) (l0_1 : ¬ z1 < z0) (k0_2 : z0 < z2) (l0_2 : ¬ z2 < z0) (k0_3 : z0 < z3) (l0_3 : ¬ z3 < z0) (k1_2 : z1 < z2) (l1_2 : ¬ z2 < z1) (k1_3 : z1 < z3) (l1_3 : ¬ z3 < z1) (k2_3 : z2 < z3) (l2_3 : ¬ z3 < z2) : own_srt [z1, z0, z3, z2] = [z0, z1, z2, z3] := by
  simp only [own_srt, List.foldl_cons, List.foldl_nil, own_insr, k0_1, l0_1, k0_2, l0_2, k0_3, l0_3, k1_2, l1_2, k1_3, l1_3, k2_3, l2_3, if_true, if_false, List.reverse_cons, List.reverse_nil, List.nil_append, List.cons_append]
theorem own_s_4_1032 {s0 s1 s2 s3 : Int32} (hb0 : 0 ≤ s0.toInt) (hb1 : s0.toInt < s1.toInt) (hb2 : s1.toInt < s2.toInt) (hb3 : s2.toInt < s3.toInt) : own_srt [own_key s1 (0 : Int64), own_key s0 (1 : Int64), own_key s3 (2 : Int64), own_key s2 (3 : Int64)] = [own_key s0 (1 : Int64), own_key s1 (0 : Int64), own_key s2 (3 : Int64), own_key s3 (2 : Int64)] :=
  own_s_4_1032a (own_keyLt (by omega) (by omega) (by decide) (by decide) (by decide) (by decide) (by decide) (by decide) (by omega)) (own_keyNl (by omega) (by omega) (by decide) (by decide) (by decide) (by decide) (by decide) (by decide) (by omega)) (own_keyLt (by omega) (by omega) (by decide) (by decide) (by decide) (by decide) (by decide) (by decide) (by omega)) (own_keyNl (by omega) (by omega) (by decide) (by decide) (by decide) (by decide) (by decide) (by decide) (by omega)) (own_keyLt (by omega) (by omega) (by decide) (by decide) (by decide) (by decide) (by decide) (by decide) (by omega)) (own_keyNl (by omega) (by omega) (by decide) (by decide) (by decide) (by decide) (by decide) (by decide) (by omega)) (own_keyLt (by omega) (by omega) (by decide) (by decide) (by decide) (by decide) (by decide) (by decide) (by omega)) (own_keyNl (by omega) (by omega) (by decide) (by decide) (by decide) (by decide) (by decide) (by decide) (by omega)) (own_keyLt (by omega) (by omega) (by decide) (by decide) (by decide) (by decide) (by decide) (by decide) (by omega)) (own_keyNl (by omega) (by omega) (by decide) (by decide) (by decide) (by decide) (by decide) (by decide) (by omega)) (own_keyLt (by omega) (by omega) (by decide) (by decide) (by decide) (by decide) (by decide) (by decide) (by omega)) (own_keyNl (by omega) (by omega) (by decide) (by decide) (by decide) (by decide) (by decide) (by decide) (by omega))
theorem own_s_4_1230a {z0 z1 z2 z3 : Int64} (k0_1 : z0 < z1) (l0_1 : ¬ z1 < z0) (k0_2 : z0 < z2) (l0_2 : ¬ z2 < z0) (k0_3 : z0 < z3) (l0_3 : ¬ z3 < z0) (k1_2 : z1 < z2) (l1_2 : ¬ z2 < z1) (k1_3 : z1 < z3) (l1_3 : ¬ z3 < z1) (k2_3 : z2 < z3) (l2_3 : ¬ z3 < z2) : own_srt [z1, z2, z3, z0] = [z0, z1, z2, z3] := by
  simp only [own_srt, List.foldl_cons, List.foldl_nil, own_insr, k0_1, l0_1, k0_2, l0_2, k0_3, l0_3, k1_2, l1_2, k1_3, l1_3, k2_3, l2_3, if_true, if_false, List.reverse_cons, List.reverse_nil, List.nil_append, List.cons_append]
theorem own_s_4_1230 {s0 s1 s2 s3 : Int32} (hb0 : 0 ≤ s0.toInt) (hb1 : s0.toInt < s1.toInt) (hb2 : s1.toInt < s2.toInt) (hb3 : s2.toInt < s3.toInt) : own_srt [own_key s1 (0 : Int64), own_key s2 (1 : Int64), own_key s3 (2 : Int64), own_key s0 (3 : Int64)] = [own_key s0 (3 : Int64), own_key s1 (0 : Int64), own_key s2 (1 : Int64), own_key s3 (2 : Int64)] :=
  own_s_4_1230a (own_keyLt (by omega) (by omega) (by decide) (by decide) (by decide) (by decide) (by decide) (by decide) (by omega)) (own_keyNl (by omega) (by omega) (by decide) (by decide) (by decide) (by decide) (by decide) (by decide) (by omega)) (own_keyLt (by omega) (by omega) (by decide) (by decide) (by decide) (by decide) (by decide) (by decide) (by omega)) (own_keyNl (by omega) (by omega) (by decide) (by decide) (by decide) (by decide) (by decide) (by decide) (by omega)) (own_keyLt (by omega) (by omega) (by decide) (by decide) (by decide) (by decide) (by decide) (by decide) (by omega)) (own_keyNl (by omega) (by omega) (by decide) (by decide) (by decide) (by decide) (by decide) (by decide) (by omega)) (own_keyLt (by omega) (by omega) (by decide) (by decide) (by decide) (by decide) (by decide) (by decide) (by omega)) (own_keyNl (by omega) (by omega) (by decide) (by decide) (by decide) (by decide) (by decide) (by decide) (by omega)) (own_keyLt (by omega) (by omega) (by decide) (by decide) (by decide) (by decide) (by decide) (by decide) (by omega)) (own_keyNl (by omega) (by omega) (by decide) (by decide) (by decide) (by decide) (by decide) (by decide) (by omega)) (own_keyLt (by omega) (by omega) (by decide) (by decide) (by decide) (by decide) (by decide) (by decide) (by omega)) (own_keyNl (by omega) (by omega) (by decide) (by decide) (by decide) (by decide) (by decide) (by decide) (by omega))
theorem own_s_4_2103a {z0 z1 z2 z3 : Int64} (k0_1 : z0 < z1) (l0_1 : ¬ z1 < z0) (k0_2 : z0 < z2) (l0_2 : ¬ z2 < z0) (k0_3 : z0 < z3) (l0_3 : ¬ z3 < z0) (k1_2 : z1 < z2) (l1_2 : ¬ z2 < z1) (k1_3 : z1 < z3) (l1_3 : ¬ z3 < z1) (k2_3 : z2 < z3) (l2_3 : ¬ z3 < z2) : own_srt [z2, z1, z0, z3] = [z0, z1, z2, z3] := by
  simp only [own_srt, List.foldl_cons, List.foldl_nil, own_insr, k0_1, l0_1, k0_2, l0_2, k0_3, l0_3, k1_2, l1_2, k1_3, l1_3, k2_3, l2_3, if_true, if_false, List.reverse_cons, List.reverse_nil, List.nil_append, List.cons_append]
theorem own_s_4_2103 {s0 s1 s2 s3 : Int32} (hb0 : 0 ≤ s0.toInt) (hb1 : s0.toInt < s1.toInt) (hb2 : s1.toInt < s2.toInt) (hb3 : s2.toInt < s3.toInt) : own_srt [own_key s2 (0 : Int64), own_key s1 (1 : Int64), own_key s0 (2 : Int64), own_key s3 (3 : Int64)] = [own_key s0 (2 : Int64), own_key s1 (1 : Int64), own_key s2 (0 : Int64), own_key s3 (3 : Int64)] :=
  own_s_4_2103a (own_keyLt (by omega) (by omega) (by decide) (by decide) (by decide) (by decide) (by decide) (by decide) (by omega)) (own_keyNl (by omega) (by omega) (by decide) (by decide) (by decide) (by decide) (by decide) (by decide) (by omega)) (own_keyLt (by omega) (by omega) (by decide) (by decide) (by decide) (by decide) (by decide) (by decide) (by omega)) (own_keyNl (by omega) (by omega) (by decide) (by decide) (by decide) (by decide) (by decide) (by decide) (by omega)) (own_keyLt (by omega) (by omega) (by decide) (by decide) (by decide) (by decide) (by decide) (by decide) (by omega)) (own_keyNl (by omega) (by omega) (by decide) (by decide) (by decide) (by decide) (by decide) (by decide) (by omega)) (own_keyLt (by omega) (by omega) (by decide) (by decide) (by decide) (by decide) (by decide) (by decide) (by omega)) (own_keyNl (by omega) (by omega) (by decide) (by decide) (by decide) (by decide) (by decide) (by decide) (by omega)) (own_keyLt (by omega) (by omega) (by decide) (by decide) (by decide) (by decide) (by decide) (by decide) (by omega)) (own_keyNl (by omega) (by omega) (by decide) (by decide) (by decide) (by decide) (by decide) (by decide) (by omega)) (own_keyLt (by omega) (by omega) (by decide) (by decide) (by decide) (by decide) (by decide) (by decide) (by omega)) (own_keyNl (by omega) (by omega) (by decide) (by decide) (by decide) (by decide) (by decide) (by decide) (by omega))
theorem own_s_4_2301a {z0 z1 z2 z3 : Int64} (k0_1 : z0 < z1) (l0_1 : ¬ z1 < z0) (k0_2 : z0 < z2) (l0_2 : ¬ z2 < z0) (k0_3 : z0 < z3) (l0_3 : ¬ z3 < z0) (k1_2 : z1 < z2) (l1_2 : ¬ z2 < z1) (k1_3 : z1 < z3) (l1_3 : ¬ z3 < z1) (k2_3 : z2 < z3) (l2_3 : ¬ z3 < z2) : own_srt [z2, z3, z0, z1] = [z0, z1, z2, z3] := by
  simp only [own_srt, List.foldl_cons, List.foldl_nil, own_insr, k0_1, l0_1, k0_2, l0_2, k0_3, l0_3, k1_2, l1_2, k1_3, l1_3, k2_3, l2_3, if_true, if_false, List.reverse_cons, List.reverse_nil, List.nil_append, List.cons_append]
theorem own_s_4_2301 {s0 s1 s2 s3 : Int32} (hb0 : 0 ≤ s0.toInt) (hb1 : s0.toInt < s1.toInt) (hb2 : s1.toInt < s2.toInt) (hb3 : s2.toInt < s3.toInt) : own_srt [own_key s2 (0 : Int64), own_key s3 (1 : Int64), own_key s0 (2 : Int64), own_key s1 (3 : Int64)] = [own_key s0 (2 : Int64), own_key s1 (3 : Int64), own_key s2 (0 : Int64), own_key s3 (1 : Int64)] :=
  own_s_4_2301a (own_keyLt (by omega) (by omega) (by decide) (by decide) (by decide) (by decide) (by decide) (by decide) (by omega)) (own_keyNl (by omega) (by omega) (by decide) (by decide) (by decide) (by decide) (by decide) (by decide) (by omega)) (own_keyLt (by omega) (by omega) (by decide) (by decide) (by decide) (by decide) (by decide) (by decide) (by omega)) (own_keyNl (by omega) (by omega) (by decide) (by decide) (by decide) (by decide) (by decide) (by decide) (by omega)) (own_keyLt (by omega) (by omega) (by decide) (by decide) (by decide) (by decide) (by decide) (by decide) (by omega)) (own_keyNl (by omega) (by omega) (by decide) (by decide) (by decide) (by decide) (by decide) (by decide) (by omega)) (own_keyLt (by omega) (by omega) (by decide) (by decide) (by decide) (by decide) (by decide) (by decide) (by omega)) (own_keyNl (by omega) (by omega) (by decide) (by decide) (by decide) (by decide) (by decide) (by decide) (by omega)) (own_keyLt (by omega) (by omega) (by decide) (by decide) (by decide) (by decide) (by decide) (by decide) (by omega)) (own_keyNl (by omega) (by omega) (by decide) (by decide) (by decide) (by decide) (by decide) (by decide) (by omega)) (own_keyLt (by omega) (by omega) (by decide) (by decide) (by decide) (by decide) (by decide) (by decide) (by omega)) (own_keyNl (by omega) (by omega) (by decide) (by decide) (by decide) (by decide) (by decide) (by decide) (by omega))
theorem own_s_4_3012a {z0 z1 z2 z3 : Int64} (k0_1 : z0 < z1) (l0_1 : ¬ z1 < z0) (k0_2 : z0 < z2) (l0_2 : ¬ z2 < z0) (k0_3 : z0 < z3) (l0_3 : ¬ z3 < z0) (k1_2 : z1 < z2) (l1_2 : ¬ z2 < z1) (k1_3 : z1 < z3) (l1_3 : ¬ z3 < z1) (k2_3 : z2 < z3) (l2_3 : ¬ z3 < z2) : own_srt [z3, z0, z1, z2] = [z0, z1, z2, z3] := by
  simp only [own_srt, List.foldl_cons, List.foldl_nil, own_insr, k0_1, l0_1, k0_2, l0_2, k0_3, l0_3, k1_2, l1_2, k1_3, l1_3, k2_3, l2_3, if_true, if_false, List.reverse_cons, List.reverse_nil, List.nil_append, List.cons_append]
theorem own_s_4_3012 {s0 s1 s2 s3 : Int32} (hb0 : 0 ≤ s0.toInt) (hb1 : s0.toInt < s1.toInt) (hb2 : s1.toInt < s2.toInt) (hb3 : s2.toInt < s3.toInt) : own_srt [own_key s3 (0 : Int64), own_key s0 (1 : Int64), own_key s1 (2 : Int64), own_key s2 (3 : Int64)] = [own_key s0 (1 : Int64), own_key s1 (2 : Int64), own_key s2 (3 : Int64), own_key s3 (0 : Int64)] :=
  own_s_4_3012a (own_keyLt (by omega) (by omega) (by decide) (by decide) (by decide) (by decide) (by decide) (by decide) (by omega)) (own_keyNl (by omega) (by omega) (by decide) (by decide) (by decide) (by decide) (by decide) (by decide) (by omega)) (own_keyLt (by omega) (by omega) (by decide) (by decide) (by decide) (by decide) (by decide) (by decide) (by omega)) (own_keyNl (by omega) (by omega) (by decide) (by decide) (by decide) (by decide) (by decide) (by decide) (by omega)) (own_keyLt (by omega) (by omega) (by decide) (by decide) (by decide) (by decide) (by decide) (by decide) (by omega)) (own_keyNl (by omega) (by omega) (by decide) (by decide) (by decide) (by decide) (by decide) (by decide) (by omega)) (own_keyLt (by omega) (by omega) (by decide) (by decide) (by decide) (by decide) (by decide) (by decide) (by omega)) (own_keyNl (by omega) (by omega) (by decide) (by decide) (by decide) (by decide) (by decide) (by decide) (by omega)) (own_keyLt (by omega) (by omega) (by decide) (by decide) (by decide) (by decide) (by decide) (by decide) (by omega)) (own_keyNl (by omega) (by omega) (by decide) (by decide) (by decide) (by decide) (by decide) (by decide) (by omega)) (own_keyLt (by omega) (by omega) (by decide) (by decide) (by decide) (by decide) (by decide) (by decide) (by omega)) (own_keyNl (by omega) (by omega) (by decide) (by decide) (by decide) (by decide) (by decide) (by decide) (by omega))
theorem own_s_4_3210a {z0 z1 z2 z3 : Int64} (k0_1 : z0 < z1) (l0_1 : ¬ z1 < z0) (k0_2 : z0 < z2) (l0_2 : ¬ z2 < z0) (k0_3 : z0 < z3) (l0_3 : ¬ z3 < z0) (k1_2 : z1 < z2) (l1_2 : ¬ z2 < z1) (k1_3 : z1 < z3) (l1_3 : ¬ z3 < z1) (k2_3 : z2 < z3) (l2_3 : ¬ z3 < z2) : own_srt [z3, z2, z1, z0] = [z0, z1, z2, z3] := by
  simp only [own_srt, List.foldl_cons, List.foldl_nil, own_insr, k0_1, l0_1, k0_2, l0_2, k0_3, l0_3, k1_2, l1_2, k1_3, l1_3, k2_3, l2_3, if_true, if_false, List.reverse_cons, List.reverse_nil, List.nil_append, List.cons_append]
theorem own_s_4_3210 {s0 s1 s2 s3 : Int32} (hb0 : 0 ≤ s0.toInt) (hb1 : s0.toInt < s1.toInt) (hb2 : s1.toInt < s2.toInt) (hb3 : s2.toInt < s3.toInt) : own_srt [own_key s3 (0 : Int64), own_key s2 (1 : Int64), own_key s1 (2 : Int64), own_key s0 (3 : Int64)] = [own_key s0 (3 : Int64), own_key s1 (2 : Int64), own_key s2 (1 : Int64), own_key s3 (0 : Int64)] :=
  own_s_4_3210a (own_keyLt (by omega) (by omega) (by decide) (by decide) (by decide) (by decide) (by decide) (by decide) (by omega)) (own_keyNl (by omega) (by omega) (by decide) (by decide) (by decide) (by decide) (by decide) (by decide) (by omega)) (own_keyLt (by omega) (by omega) (by decide) (by decide) (by decide) (by decide) (by decide) (by decide) (by omega)) (own_keyNl (by omega) (by omega) (by decide) (by decide) (by decide) (by decide) (by decide) (by decide) (by omega)) (own_keyLt (by omega) (by omega) (by decide) (by decide) (by decide) (by decide) (by decide) (by decide) (by omega)) (own_keyNl (by omega) (by omega) (by decide) (by decide) (by decide) (by decide) (by decide) (by decide) (by omega)) (own_keyLt (by omega) (by omega) (by decide) (by decide) (by decide) (by decide) (by decide) (by decide) (by omega)) (own_keyNl (by omega) (by omega) (by decide) (by decide) (by decide) (by decide) (by decide) (by decide) (by omega)) (own_keyLt (by omega) (by omega) (by decide) (by decide) (by decide) (by decide) (by decide) (by decide) (by omega)) (own_keyNl (by omega) (by omega) (by decide) (by decide) (by decide) (by decide) (by decide) (by decide) (by omega)) (own_keyLt (by omega) (by omega) (by decide) (by decide) (by decide) (by decide) (by decide) (by decide) (by omega)) (own_keyNl (by omega) (by omega) (by decide) (by decide) (by decide) (by decide) (by decide) (by decide) (by omega))
theorem wd_0 {a0 : Array Value} {Z : State} (hw : own_hw a0 Z) : (Cond.constant "com/example/flicker/flicker/game/GameBuilderFirstMissingIdPinLaw" 7 (2147483647 : Int32)).before a0 Z = true := hw _ (List.mem_of_getElem? (i := 0) rfl)
theorem wd_1 {a0 : Array Value} {Z : State} (hw : own_hw a0 Z) : (Cond.methodLink "com/example/flicker/flicker/game/GameBuilderFirstMissingIdPinLaw" 8 ⟨"com/example/flicker/flicker/game/GameBuilderFirstMissingIdPinLaw", "gap", "(I)I"⟩).before a0 Z = true := hw _ (List.mem_of_getElem? (i := 1) rfl)
theorem wd_2 {a0 : Array Value} {Z : State} (hw : own_hw a0 Z) : (Cond.static ⟨"com/example/flicker/flicker/game/GameBuilderFirstMissingIdPinLaw", "gap", "(I)I"⟩).before a0 Z = true := hw _ (List.mem_of_getElem? (i := 2) rfl)
theorem wd_3 {a0 : Array Value} {Z : State} (hw : own_hw a0 Z) : (Cond.initialized "com/example/flicker/flicker/game/GameBuilderFirstMissingIdPinLaw").before a0 Z = true := hw _ (List.mem_of_getElem? (i := 3) rfl)
theorem wd_4 {a0 : Array Value} {Z : State} (hw : own_hw a0 Z) : (Cond.code ⟨"com/example/flicker/flicker/game/GameBuilderFirstMissingIdPinLaw", "gap", "(I)I"⟩ method_3_code 1 (some .int)).before a0 Z = true := hw _ (List.mem_of_getElem? (i := 4) rfl)
theorem wd_5 {a0 : Array Value} {Z : State} (hw : own_hw a0 Z) : (Cond.arrayClass FieldType.int).before a0 Z = true := hw _ (List.mem_of_getElem? (i := 5) rfl)
theorem wd_6 {a0 : Array Value} {Z : State} (hw : own_hw a0 Z) : (Cond.classLink "com/example/flicker/flicker/game/GameBuilderFirstMissingIdPinLaw" 14 "com/example/flicker/flicker/game/GameBuilder").before a0 Z = true := hw _ (List.mem_of_getElem? (i := 6) rfl)
theorem wd_7 {a0 : Array Value} {Z : State} (hw : own_hw a0 Z) : (Cond.instantiable "com/example/flicker/flicker/game/GameBuilder" 19).before a0 Z = true := hw _ (List.mem_of_getElem? (i := 7) rfl)
theorem wd_8 {a0 : Array Value} {Z : State} (hw : own_hw a0 Z) : (Cond.initialized "com/example/flicker/flicker/game/GameBuilder").before a0 Z = true := hw _ (List.mem_of_getElem? (i := 8) rfl)
theorem wd_9 {a0 : Array Value} {Z : State} (hw : own_hw a0 Z) : (Cond.stringLink "com/example/flicker/flicker/game/GameBuilderFirstMissingIdPinLaw" 16 "s").before a0 Z = true := hw _ (List.mem_of_getElem? (i := 9) rfl)
theorem wd_10 {a0 : Array Value} {Z : State} (hw : own_hw a0 Z) : (Cond.initialized "java/lang/String").before a0 Z = true := hw _ (List.mem_of_getElem? (i := 10) rfl)
theorem wd_11 {a0 : Array Value} {Z : State} (hw : own_hw a0 Z) : (Cond.instantiable "java/lang/String" 4).before a0 Z = true := hw _ (List.mem_of_getElem? (i := 11) rfl)
theorem wd_12 {a0 : Array Value} {Z : State} (hw : own_hw a0 Z) : (Cond.arrayClass FieldType.byte).before a0 Z = true := hw _ (List.mem_of_getElem? (i := 12) rfl)
theorem wd_13 {a0 : Array Value} {Z : State} (hw : own_hw a0 Z) : (Cond.laysFinal "java/lang/String" "java/lang/String" "value" "[B").before a0 Z = true := hw _ (List.mem_of_getElem? (i := 13) rfl)
theorem wd_14 {a0 : Array Value} {Z : State} (hw : own_hw a0 Z) : (Cond.laysFinal "java/lang/String" "java/lang/String" "coder" "B").before a0 Z = true := hw _ (List.mem_of_getElem? (i := 14) rfl)
theorem wd_15 {a0 : Array Value} {Z : State} (hw : own_hw a0 Z) : (Cond.soleField "java/lang/String" "value").before a0 Z = true := hw _ (List.mem_of_getElem? (i := 15) rfl)
theorem wd_16 {a0 : Array Value} {Z : State} (hw : own_hw a0 Z) : (Cond.soleField "java/lang/String" "coder").before a0 Z = true := hw _ (List.mem_of_getElem? (i := 16) rfl)
theorem wd_17 {a0 : Array Value} {Z : State} (hw : own_hw a0 Z) : (Cond.methodLink "com/example/flicker/flicker/game/GameBuilderFirstMissingIdPinLaw" 18 ⟨"com/example/flicker/flicker/game/GameBuilder", "<init>", "(Ljava/lang/String;I)V"⟩).before a0 Z = true := hw _ (List.mem_of_getElem? (i := 17) rfl)
theorem wd_18 {a0 : Array Value} {Z : State} (hw : own_hw a0 Z) : (Cond.instanceMethod ⟨"com/example/flicker/flicker/game/GameBuilder", "<init>", "(Ljava/lang/String;I)V"⟩).before a0 Z = true := hw _ (List.mem_of_getElem? (i := 18) rfl)
theorem wd_19 {a0 : Array Value} {Z : State} (hw : own_hw a0 Z) : (Cond.code ⟨"com/example/flicker/flicker/game/GameBuilder", "<init>", "(Ljava/lang/String;I)V"⟩ prog_7_method_1_code 3 none).before a0 Z = true := hw _ (List.mem_of_getElem? (i := 19) rfl)
theorem wd_20 {a0 : Array Value} {Z : State} (hw : own_hw a0 Z) : (Cond.methodLink "com/example/flicker/flicker/game/GameBuilder" 3 ⟨"java/lang/Object", "<init>", "()V"⟩).before a0 Z = true := hw _ (List.mem_of_getElem? (i := 20) rfl)
theorem wd_21 {a0 : Array Value} {Z : State} (hw : own_hw a0 Z) : (Cond.instanceMethod ⟨"java/lang/Object", "<init>", "()V"⟩).before a0 Z = true := hw _ (List.mem_of_getElem? (i := 21) rfl)
theorem wd_22 {a0 : Array Value} {Z : State} (hw : own_hw a0 Z) : (Cond.code ⟨"java/lang/Object", "<init>", "()V"⟩ object_method_1_code 1 none).before a0 Z = true := hw _ (List.mem_of_getElem? (i := 22) rfl)
theorem wd_23 {a0 : Array Value} {Z : State} (hw : own_hw a0 Z) : (Cond.fieldLink "com/example/flicker/flicker/game/GameBuilder" 9 "com/example/flicker/flicker/game/GameBuilder" "ids" "[I").before a0 Z = true := hw _ (List.mem_of_getElem? (i := 23) rfl)
theorem wd_24 {a0 : Array Value} {Z : State} (hw : own_hw a0 Z) : (Cond.lays "com/example/flicker/flicker/game/GameBuilder" "com/example/flicker/flicker/game/GameBuilder" "ids" "[I").before a0 Z = true := hw _ (List.mem_of_getElem? (i := 24) rfl)
theorem wd_25 {a0 : Array Value} {Z : State} (hw : own_hw a0 Z) : (Cond.fieldLink "com/example/flicker/flicker/game/GameBuilder" 15 "com/example/flicker/flicker/game/GameBuilder" "priorities" "[I").before a0 Z = true := hw _ (List.mem_of_getElem? (i := 25) rfl)
theorem wd_26 {a0 : Array Value} {Z : State} (hw : own_hw a0 Z) : (Cond.lays "com/example/flicker/flicker/game/GameBuilder" "com/example/flicker/flicker/game/GameBuilder" "priorities" "[I").before a0 Z = true := hw _ (List.mem_of_getElem? (i := 26) rfl)
theorem wd_27 {a0 : Array Value} {Z : State} (hw : own_hw a0 Z) : (Cond.classLink "com/example/flicker/flicker/game/GameBuilder" 18 "java/util/BitSet").before a0 Z = true := hw _ (List.mem_of_getElem? (i := 27) rfl)
theorem wd_28 {a0 : Array Value} {Z : State} (hw : own_hw a0 Z) : (Cond.instantiable "java/util/BitSet" 3).before a0 Z = true := hw _ (List.mem_of_getElem? (i := 28) rfl)
theorem wd_29 {a0 : Array Value} {Z : State} (hw : own_hw a0 Z) : (Cond.initialized "java/util/BitSet").before a0 Z = true := hw _ (List.mem_of_getElem? (i := 29) rfl)
theorem wd_30 {a0 : Array Value} {Z : State} (hw : own_hw a0 Z) : (Cond.methodLink "com/example/flicker/flicker/game/GameBuilder" 20 ⟨"java/util/BitSet", "<init>", "()V"⟩).before a0 Z = true := hw _ (List.mem_of_getElem? (i := 30) rfl)
theorem wd_31 {a0 : Array Value} {Z : State} (hw : own_hw a0 Z) : (Cond.instanceMethod ⟨"java/util/BitSet", "<init>", "()V"⟩).before a0 Z = true := hw _ (List.mem_of_getElem? (i := 31) rfl)
theorem wd_32 {a0 : Array Value} {Z : State} (hw : own_hw a0 Z) : (Cond.code ⟨"java/util/BitSet", "<init>", "()V"⟩ jdk_92_method_4_code 1 none).before a0 Z = true := hw _ (List.mem_of_getElem? (i := 32) rfl)
theorem wd_33 {a0 : Array Value} {Z : State} (hw : own_hw a0 Z) : (Cond.methodLink "java/util/BitSet" 21 ⟨"java/lang/Object", "<init>", "()V"⟩).before a0 Z = true := hw _ (List.mem_of_getElem? (i := 33) rfl)
theorem wd_34 {a0 : Array Value} {Z : State} (hw : own_hw a0 Z) : (Cond.fieldLink "java/util/BitSet" 7 "java/util/BitSet" "wordsInUse" "I").before a0 Z = true := hw _ (List.mem_of_getElem? (i := 34) rfl)
theorem wd_35 {a0 : Array Value} {Z : State} (hw : own_hw a0 Z) : (Cond.lays "java/util/BitSet" "java/util/BitSet" "wordsInUse" "I").before a0 Z = true := hw _ (List.mem_of_getElem? (i := 35) rfl)
theorem wd_36 {a0 : Array Value} {Z : State} (hw : own_hw a0 Z) : (Cond.fieldLink "java/util/BitSet" 24 "java/util/BitSet" "sizeIsSticky" "Z").before a0 Z = true := hw _ (List.mem_of_getElem? (i := 36) rfl)
theorem wd_37 {a0 : Array Value} {Z : State} (hw : own_hw a0 Z) : (Cond.lays "java/util/BitSet" "java/util/BitSet" "sizeIsSticky" "Z").before a0 Z = true := hw _ (List.mem_of_getElem? (i := 37) rfl)
theorem wd_38 {a0 : Array Value} {Z : State} (hw : own_hw a0 Z) : (Cond.methodLink "java/util/BitSet" 27 ⟨"java/util/BitSet", "initWords", "(I)V"⟩).before a0 Z = true := hw _ (List.mem_of_getElem? (i := 38) rfl)
theorem wd_39 {a0 : Array Value} {Z : State} (hw : own_hw a0 Z) : (Cond.instanceMethod ⟨"java/util/BitSet", "initWords", "(I)V"⟩).before a0 Z = true := hw _ (List.mem_of_getElem? (i := 39) rfl)
theorem wd_40 {a0 : Array Value} {Z : State} (hw : own_hw a0 Z) : (Cond.privateMethod ⟨"java/util/BitSet", "initWords", "(I)V"⟩).before a0 Z = true := hw _ (List.mem_of_getElem? (i := 40) rfl)
theorem wd_41 {a0 : Array Value} {Z : State} (hw : own_hw a0 Z) : (Cond.selects "java/util/BitSet" ⟨"java/util/BitSet", "initWords", "(I)V"⟩ ⟨"java/util/BitSet", "initWords", "(I)V"⟩).before a0 Z = true := hw _ (List.mem_of_getElem? (i := 41) rfl)
theorem wd_42 {a0 : Array Value} {Z : State} (hw : own_hw a0 Z) : (Cond.code ⟨"java/util/BitSet", "initWords", "(I)V"⟩ jdk_92_method_6_code 2 none).before a0 Z = true := hw _ (List.mem_of_getElem? (i := 42) rfl)
theorem wd_43 {a0 : Array Value} {Z : State} (hw : own_hw a0 Z) : (Cond.methodLink "java/util/BitSet" 52 ⟨"java/util/BitSet", "wordIndex", "(I)I"⟩).before a0 Z = true := hw _ (List.mem_of_getElem? (i := 43) rfl)
theorem wd_44 {a0 : Array Value} {Z : State} (hw : own_hw a0 Z) : (Cond.static ⟨"java/util/BitSet", "wordIndex", "(I)I"⟩).before a0 Z = true := hw _ (List.mem_of_getElem? (i := 44) rfl)
theorem wd_45 {a0 : Array Value} {Z : State} (hw : own_hw a0 Z) : (Cond.code ⟨"java/util/BitSet", "wordIndex", "(I)I"⟩ jdk_92_method_1_code 1 (some .int)).before a0 Z = true := hw _ (List.mem_of_getElem? (i := 45) rfl)
theorem wd_46 {a0 : Array Value} {Z : State} (hw : own_hw a0 Z) : (Cond.arrayClass FieldType.long).before a0 Z = true := hw _ (List.mem_of_getElem? (i := 46) rfl)
theorem wd_47 {a0 : Array Value} {Z : State} (hw : own_hw a0 Z) : (Cond.fieldLink "java/util/BitSet" 11 "java/util/BitSet" "words" "[J").before a0 Z = true := hw _ (List.mem_of_getElem? (i := 47) rfl)
theorem wd_48 {a0 : Array Value} {Z : State} (hw : own_hw a0 Z) : (Cond.lays "java/util/BitSet" "java/util/BitSet" "words" "[J").before a0 Z = true := hw _ (List.mem_of_getElem? (i := 48) rfl)
theorem wd_49 {a0 : Array Value} {Z : State} (hw : own_hw a0 Z) : (Cond.fieldLink "com/example/flicker/flicker/game/GameBuilder" 21 "com/example/flicker/flicker/game/GameBuilder" "playerTwo" "Ljava/util/BitSet;").before a0 Z = true := hw _ (List.mem_of_getElem? (i := 49) rfl)
theorem wd_50 {a0 : Array Value} {Z : State} (hw : own_hw a0 Z) : (Cond.laysFinal "com/example/flicker/flicker/game/GameBuilder" "com/example/flicker/flicker/game/GameBuilder" "playerTwo" "Ljava/util/BitSet;").before a0 Z = true := hw _ (List.mem_of_getElem? (i := 50) rfl)
theorem wd_51 {a0 : Array Value} {Z : State} (hw : own_hw a0 Z) : (Cond.classLink "com/example/flicker/flicker/game/GameBuilder" 25 "com/example/flicker/flicker/game/VertexNames").before a0 Z = true := hw _ (List.mem_of_getElem? (i := 51) rfl)
theorem wd_52 {a0 : Array Value} {Z : State} (hw : own_hw a0 Z) : (Cond.instantiable "com/example/flicker/flicker/game/VertexNames" 4).before a0 Z = true := hw _ (List.mem_of_getElem? (i := 52) rfl)
theorem wd_53 {a0 : Array Value} {Z : State} (hw : own_hw a0 Z) : (Cond.initialized "com/example/flicker/flicker/game/VertexNames").before a0 Z = true := hw _ (List.mem_of_getElem? (i := 53) rfl)
theorem wd_54 {a0 : Array Value} {Z : State} (hw : own_hw a0 Z) : (Cond.methodLink "com/example/flicker/flicker/game/GameBuilder" 27 ⟨"com/example/flicker/flicker/game/VertexNames", "<init>", "()V"⟩).before a0 Z = true := hw _ (List.mem_of_getElem? (i := 54) rfl)
theorem wd_55 {a0 : Array Value} {Z : State} (hw : own_hw a0 Z) : (Cond.instanceMethod ⟨"com/example/flicker/flicker/game/VertexNames", "<init>", "()V"⟩).before a0 Z = true := hw _ (List.mem_of_getElem? (i := 55) rfl)
theorem wd_56 {a0 : Array Value} {Z : State} (hw : own_hw a0 Z) : (Cond.code ⟨"com/example/flicker/flicker/game/VertexNames", "<init>", "()V"⟩ prog_23_method_1_code 1 none).before a0 Z = true := hw _ (List.mem_of_getElem? (i := 56) rfl)
theorem wd_57 {a0 : Array Value} {Z : State} (hw : own_hw a0 Z) : (Cond.methodLink "com/example/flicker/flicker/game/VertexNames" 1 ⟨"java/lang/Object", "<init>", "()V"⟩).before a0 Z = true := hw _ (List.mem_of_getElem? (i := 57) rfl)
theorem wd_58 {a0 : Array Value} {Z : State} (hw : own_hw a0 Z) : (Cond.classLink "com/example/flicker/flicker/game/VertexNames" 7 "java/lang/StringBuilder").before a0 Z = true := hw _ (List.mem_of_getElem? (i := 58) rfl)
theorem wd_59 {a0 : Array Value} {Z : State} (hw : own_hw a0 Z) : (Cond.instantiable "java/lang/StringBuilder" 4).before a0 Z = true := hw _ (List.mem_of_getElem? (i := 59) rfl)
theorem wd_60 {a0 : Array Value} {Z : State} (hw : own_hw a0 Z) : (Cond.initialized "java/lang/StringBuilder").before a0 Z = true := hw _ (List.mem_of_getElem? (i := 60) rfl)
theorem wd_61 {a0 : Array Value} {Z : State} (hw : own_hw a0 Z) : (Cond.methodLink "com/example/flicker/flicker/game/VertexNames" 9 ⟨"java/lang/StringBuilder", "<init>", "()V"⟩).before a0 Z = true := hw _ (List.mem_of_getElem? (i := 61) rfl)
theorem wd_62 {a0 : Array Value} {Z : State} (hw : own_hw a0 Z) : (Cond.instanceMethod ⟨"java/lang/StringBuilder", "<init>", "()V"⟩).before a0 Z = true := hw _ (List.mem_of_getElem? (i := 62) rfl)
theorem wd_63 {a0 : Array Value} {Z : State} (hw : own_hw a0 Z) : (Cond.code ⟨"java/lang/StringBuilder", "<init>", "()V"⟩ jdk_67_method_1_code 1 none).before a0 Z = true := hw _ (List.mem_of_getElem? (i := 63) rfl)
theorem wd_64 {a0 : Array Value} {Z : State} (hw : own_hw a0 Z) : (Cond.methodLink "java/lang/StringBuilder" 1 ⟨"java/lang/AbstractStringBuilder", "<init>", "(I)V"⟩).before a0 Z = true := hw _ (List.mem_of_getElem? (i := 64) rfl)
theorem wd_65 {a0 : Array Value} {Z : State} (hw : own_hw a0 Z) : (Cond.instanceMethod ⟨"java/lang/AbstractStringBuilder", "<init>", "(I)V"⟩).before a0 Z = true := hw _ (List.mem_of_getElem? (i := 65) rfl)
theorem wd_68 {a0 : Array Value} {Z : State} (hw : own_hw a0 Z) : (Cond.initialized "java/lang/AbstractStringBuilder").before a0 Z = true := hw _ (List.mem_of_getElem? (i := 68) rfl)
theorem wd_69 {a0 : Array Value} {Z : State} (hw : own_hw a0 Z) : (Cond.code ⟨"java/lang/AbstractStringBuilder", "<init>", "(I)V"⟩ jdk_68_method_2_code 2 none).before a0 Z = true := hw _ (List.mem_of_getElem? (i := 69) rfl)
theorem wd_70 {a0 : Array Value} {Z : State} (hw : own_hw a0 Z) : (Cond.methodLink "java/lang/AbstractStringBuilder" 3 ⟨"java/lang/Object", "<init>", "()V"⟩).before a0 Z = true := hw _ (List.mem_of_getElem? (i := 70) rfl)
theorem wd_71 {a0 : Array Value} {Z : State} (hw : own_hw a0 Z) : (Cond.fieldLink "java/lang/AbstractStringBuilder" 18 "java/lang/String" "COMPACT_STRINGS" "Z").before a0 Z = true := hw _ (List.mem_of_getElem? (i := 71) rfl)
theorem wd_72 {a0 : Array Value} {Z : State} (hw : own_hw a0 Z) : (Cond.fieldLink "java/lang/AbstractStringBuilder" 15 "java/lang/AbstractStringBuilder" "value" "[B").before a0 Z = true := hw _ (List.mem_of_getElem? (i := 72) rfl)
theorem wd_73 {a0 : Array Value} {Z : State} (hw : own_hw a0 Z) : (Cond.lays "java/lang/StringBuilder" "java/lang/AbstractStringBuilder" "value" "[B").before a0 Z = true := hw _ (List.mem_of_getElem? (i := 73) rfl)
theorem wd_74 {a0 : Array Value} {Z : State} (hw : own_hw a0 Z) : (Cond.fieldLink "java/lang/AbstractStringBuilder" 22 "java/lang/AbstractStringBuilder" "coder" "B").before a0 Z = true := hw _ (List.mem_of_getElem? (i := 74) rfl)
theorem wd_75 {a0 : Array Value} {Z : State} (hw : own_hw a0 Z) : (Cond.lays "java/lang/StringBuilder" "java/lang/AbstractStringBuilder" "coder" "B").before a0 Z = true := hw _ (List.mem_of_getElem? (i := 75) rfl)
theorem wd_76 {a0 : Array Value} {Z : State} (hw : own_hw a0 Z) : (Cond.fieldLink "com/example/flicker/flicker/game/VertexNames" 10 "com/example/flicker/flicker/game/VertexNames" "text" "Ljava/lang/StringBuilder;").before a0 Z = true := hw _ (List.mem_of_getElem? (i := 76) rfl)
theorem wd_77 {a0 : Array Value} {Z : State} (hw : own_hw a0 Z) : (Cond.laysFinal "com/example/flicker/flicker/game/VertexNames" "com/example/flicker/flicker/game/VertexNames" "text" "Ljava/lang/StringBuilder;").before a0 Z = true := hw _ (List.mem_of_getElem? (i := 77) rfl)
theorem wd_78 {a0 : Array Value} {Z : State} (hw : own_hw a0 Z) : (Cond.fieldLink "com/example/flicker/flicker/game/VertexNames" 16 "com/example/flicker/flicker/game/VertexNames" "end" "[I").before a0 Z = true := hw _ (List.mem_of_getElem? (i := 78) rfl)
theorem wd_79 {a0 : Array Value} {Z : State} (hw : own_hw a0 Z) : (Cond.lays "com/example/flicker/flicker/game/VertexNames" "com/example/flicker/flicker/game/VertexNames" "end" "[I").before a0 Z = true := hw _ (List.mem_of_getElem? (i := 79) rfl)
theorem wd_80 {a0 : Array Value} {Z : State} (hw : own_hw a0 Z) : (Cond.classLink "com/example/flicker/flicker/game/VertexNames" 20 "java/util/BitSet").before a0 Z = true := hw _ (List.mem_of_getElem? (i := 80) rfl)
theorem wd_81 {a0 : Array Value} {Z : State} (hw : own_hw a0 Z) : (Cond.methodLink "com/example/flicker/flicker/game/VertexNames" 22 ⟨"java/util/BitSet", "<init>", "()V"⟩).before a0 Z = true := hw _ (List.mem_of_getElem? (i := 81) rfl)
theorem wd_82 {a0 : Array Value} {Z : State} (hw : own_hw a0 Z) : (Cond.fieldLink "com/example/flicker/flicker/game/VertexNames" 23 "com/example/flicker/flicker/game/VertexNames" "present" "Ljava/util/BitSet;").before a0 Z = true := hw _ (List.mem_of_getElem? (i := 82) rfl)
theorem wd_83 {a0 : Array Value} {Z : State} (hw : own_hw a0 Z) : (Cond.laysFinal "com/example/flicker/flicker/game/VertexNames" "com/example/flicker/flicker/game/VertexNames" "present" "Ljava/util/BitSet;").before a0 Z = true := hw _ (List.mem_of_getElem? (i := 83) rfl)
theorem wd_84 {a0 : Array Value} {Z : State} (hw : own_hw a0 Z) : (Cond.fieldLink "com/example/flicker/flicker/game/GameBuilder" 28 "com/example/flicker/flicker/game/GameBuilder" "names" "Lcom/example/flicker/flicker/game/VertexNames;").before a0 Z = true := hw _ (List.mem_of_getElem? (i := 84) rfl)
theorem wd_85 {a0 : Array Value} {Z : State} (hw : own_hw a0 Z) : (Cond.laysFinal "com/example/flicker/flicker/game/GameBuilder" "com/example/flicker/flicker/game/GameBuilder" "names" "Lcom/example/flicker/flicker/game/VertexNames;").before a0 Z = true := hw _ (List.mem_of_getElem? (i := 85) rfl)
theorem wd_86 {a0 : Array Value} {Z : State} (hw : own_hw a0 Z) : (Cond.fieldLink "com/example/flicker/flicker/game/GameBuilder" 32 "com/example/flicker/flicker/game/GameBuilder" "vertexLines" "[I").before a0 Z = true := hw _ (List.mem_of_getElem? (i := 86) rfl)
theorem wd_87 {a0 : Array Value} {Z : State} (hw : own_hw a0 Z) : (Cond.lays "com/example/flicker/flicker/game/GameBuilder" "com/example/flicker/flicker/game/GameBuilder" "vertexLines" "[I").before a0 Z = true := hw _ (List.mem_of_getElem? (i := 87) rfl)
theorem wd_88 {a0 : Array Value} {Z : State} (hw : own_hw a0 Z) : (Cond.fieldLink "com/example/flicker/flicker/game/GameBuilder" 35 "com/example/flicker/flicker/game/GameBuilder" "setEnd" "[I").before a0 Z = true := hw _ (List.mem_of_getElem? (i := 88) rfl)
theorem wd_89 {a0 : Array Value} {Z : State} (hw : own_hw a0 Z) : (Cond.lays "com/example/flicker/flicker/game/GameBuilder" "com/example/flicker/flicker/game/GameBuilder" "setEnd" "[I").before a0 Z = true := hw _ (List.mem_of_getElem? (i := 89) rfl)
theorem wd_90 {a0 : Array Value} {Z : State} (hw : own_hw a0 Z) : (Cond.fieldLink "com/example/flicker/flicker/game/GameBuilder" 38 "com/example/flicker/flicker/game/GameBuilder" "sets" "[I").before a0 Z = true := hw _ (List.mem_of_getElem? (i := 90) rfl)
theorem wd_91 {a0 : Array Value} {Z : State} (hw : own_hw a0 Z) : (Cond.lays "com/example/flicker/flicker/game/GameBuilder" "com/example/flicker/flicker/game/GameBuilder" "sets" "[I").before a0 Z = true := hw _ (List.mem_of_getElem? (i := 91) rfl)
theorem wd_92 {a0 : Array Value} {Z : State} (hw : own_hw a0 Z) : (Cond.fieldLink "com/example/flicker/flicker/game/GameBuilder" 41 "com/example/flicker/flicker/game/GameBuilder" "tails" "[I").before a0 Z = true := hw _ (List.mem_of_getElem? (i := 92) rfl)
theorem wd_93 {a0 : Array Value} {Z : State} (hw : own_hw a0 Z) : (Cond.lays "com/example/flicker/flicker/game/GameBuilder" "com/example/flicker/flicker/game/GameBuilder" "tails" "[I").before a0 Z = true := hw _ (List.mem_of_getElem? (i := 93) rfl)
theorem wd_94 {a0 : Array Value} {Z : State} (hw : own_hw a0 Z) : (Cond.fieldLink "com/example/flicker/flicker/game/GameBuilder" 44 "com/example/flicker/flicker/game/GameBuilder" "heads" "[I").before a0 Z = true := hw _ (List.mem_of_getElem? (i := 94) rfl)
theorem wd_95 {a0 : Array Value} {Z : State} (hw : own_hw a0 Z) : (Cond.lays "com/example/flicker/flicker/game/GameBuilder" "com/example/flicker/flicker/game/GameBuilder" "heads" "[I").before a0 Z = true := hw _ (List.mem_of_getElem? (i := 95) rfl)
theorem wd_96 {a0 : Array Value} {Z : State} (hw : own_hw a0 Z) : (Cond.fieldLink "com/example/flicker/flicker/game/GameBuilder" 47 "com/example/flicker/flicker/game/GameBuilder" "edgeLines" "[I").before a0 Z = true := hw _ (List.mem_of_getElem? (i := 96) rfl)
theorem wd_97 {a0 : Array Value} {Z : State} (hw : own_hw a0 Z) : (Cond.lays "com/example/flicker/flicker/game/GameBuilder" "com/example/flicker/flicker/game/GameBuilder" "edgeLines" "[I").before a0 Z = true := hw _ (List.mem_of_getElem? (i := 97) rfl)
theorem wd_98 {a0 : Array Value} {Z : State} (hw : own_hw a0 Z) : (Cond.fieldLink "com/example/flicker/flicker/game/GameBuilder" 50 "com/example/flicker/flicker/game/GameBuilder" "NO_WEIGHTS" "[J").before a0 Z = true := hw _ (List.mem_of_getElem? (i := 98) rfl)
theorem wd_99 {a0 : Array Value} {Z : State} (hw : own_hw a0 Z) : (Cond.laysStatic "com/example/flicker/flicker/game/GameBuilder" "NO_WEIGHTS" "[J").before a0 Z = true := hw _ (List.mem_of_getElem? (i := 99) rfl)
theorem wd_100 {a0 : Array Value} {Z : State} (hw : own_hw a0 Z) : (Cond.fieldLink "com/example/flicker/flicker/game/GameBuilder" 54 "com/example/flicker/flicker/game/GameBuilder" "weights" "[J").before a0 Z = true := hw _ (List.mem_of_getElem? (i := 100) rfl)
theorem wd_101 {a0 : Array Value} {Z : State} (hw : own_hw a0 Z) : (Cond.lays "com/example/flicker/flicker/game/GameBuilder" "com/example/flicker/flicker/game/GameBuilder" "weights" "[J").before a0 Z = true := hw _ (List.mem_of_getElem? (i := 101) rfl)
theorem wd_102 {a0 : Array Value} {Z : State} (hw : own_hw a0 Z) : (Cond.fieldLink "com/example/flicker/flicker/game/GameBuilder" 57 "com/example/flicker/flicker/game/GameBuilder" "source" "Ljava/lang/String;").before a0 Z = true := hw _ (List.mem_of_getElem? (i := 102) rfl)
theorem wd_103 {a0 : Array Value} {Z : State} (hw : own_hw a0 Z) : (Cond.laysFinal "com/example/flicker/flicker/game/GameBuilder" "com/example/flicker/flicker/game/GameBuilder" "source" "Ljava/lang/String;").before a0 Z = true := hw _ (List.mem_of_getElem? (i := 103) rfl)
theorem wd_104 {a0 : Array Value} {Z : State} (hw : own_hw a0 Z) : (Cond.fieldLink "com/example/flicker/flicker/game/GameBuilder" 61 "com/example/flicker/flicker/game/GameBuilder" "dimensions" "I").before a0 Z = true := hw _ (List.mem_of_getElem? (i := 104) rfl)
theorem wd_105 {a0 : Array Value} {Z : State} (hw : own_hw a0 Z) : (Cond.laysFinal "com/example/flicker/flicker/game/GameBuilder" "com/example/flicker/flicker/game/GameBuilder" "dimensions" "I").before a0 Z = true := hw _ (List.mem_of_getElem? (i := 105) rfl)
theorem wd_106 {a0 : Array Value} {Z : State} (hw : own_hw a0 Z) : (Cond.methodLink "com/example/flicker/flicker/game/GameBuilderFirstMissingIdPinLaw" 39 ⟨"com/example/flicker/flicker/game/GameBuilder", "checkDistinct", "()V"⟩).before a0 Z = true := hw _ (List.mem_of_getElem? (i := 106) rfl)
theorem wd_107 {a0 : Array Value} {Z : State} (hw : own_hw a0 Z) : (Cond.declares ⟨"com/example/flicker/flicker/game/GameBuilder", "checkDistinct", "()V"⟩).before a0 Z = true := hw _ (List.mem_of_getElem? (i := 107) rfl)
theorem wd_108 {a0 : Array Value} {Z : State} (hw : own_hw a0 Z) : (Cond.instanceMethod ⟨"com/example/flicker/flicker/game/GameBuilder", "checkDistinct", "()V"⟩).before a0 Z = true := hw _ (List.mem_of_getElem? (i := 108) rfl)
theorem wd_109 {a0 : Array Value} {Z : State} (hw : own_hw a0 Z) : (Cond.selects "com/example/flicker/flicker/game/GameBuilder" ⟨"com/example/flicker/flicker/game/GameBuilder", "checkDistinct", "()V"⟩ ⟨"com/example/flicker/flicker/game/GameBuilder", "checkDistinct", "()V"⟩).before a0 Z = true := hw _ (List.mem_of_getElem? (i := 109) rfl)
theorem wd_110 {a0 : Array Value} {Z : State} (hw : own_hw a0 Z) : (Cond.code ⟨"com/example/flicker/flicker/game/GameBuilder", "checkDistinct", "()V"⟩ prog_7_method_6_code 6 none).before a0 Z = true := hw _ (List.mem_of_getElem? (i := 110) rfl)
theorem wd_111 {a0 : Array Value} {Z : State} (hw : own_hw a0 Z) : (Cond.fieldLink "com/example/flicker/flicker/game/GameBuilder" 65 "com/example/flicker/flicker/game/GameBuilder" "vertexCount" "I").before a0 Z = true := hw _ (List.mem_of_getElem? (i := 111) rfl)
theorem wd_112 {a0 : Array Value} {Z : State} (hw : own_hw a0 Z) : (Cond.lays "com/example/flicker/flicker/game/GameBuilder" "com/example/flicker/flicker/game/GameBuilder" "vertexCount" "I").before a0 Z = true := hw _ (List.mem_of_getElem? (i := 112) rfl)
theorem wd_113 {a0 : Array Value} {Z : State} (hw : own_hw a0 Z) : (Cond.fieldLink "com/example/flicker/flicker/game/GameBuilder" 127 "com/example/flicker/flicker/game/GameBuilder" "byId" "[J").before a0 Z = true := hw _ (List.mem_of_getElem? (i := 113) rfl)
theorem wd_114 {a0 : Array Value} {Z : State} (hw : own_hw a0 Z) : (Cond.lays "com/example/flicker/flicker/game/GameBuilder" "com/example/flicker/flicker/game/GameBuilder" "byId" "[J").before a0 Z = true := hw _ (List.mem_of_getElem? (i := 114) rfl)
theorem wd_115 {a0 : Array Value} {Z : State} (hw : own_hw a0 Z) : (Cond.methodLink "com/example/flicker/flicker/game/GameBuilder" 130 ⟨"java/util/Arrays", "sort", "([J)V"⟩).before a0 Z = true := hw _ (List.mem_of_getElem? (i := 115) rfl)
theorem wd_116 {a0 : Array Value} {Z : State} (hw : own_hw a0 Z) : (Cond.static ⟨"java/util/Arrays", "sort", "([J)V"⟩).before a0 Z = true := hw _ (List.mem_of_getElem? (i := 116) rfl)
theorem wd_117 {a0 : Array Value} {Z : State} (hw : own_hw a0 Z) : (Cond.initialized "java/util/Arrays").before a0 Z = true := hw _ (List.mem_of_getElem? (i := 117) rfl)
theorem wd_118 {a0 : Array Value} {Z : State} (hw : own_hw a0 Z) : (Cond.code ⟨"java/util/Arrays", "sort", "([J)V"⟩ jdk_65_method_4_code 1 none).before a0 Z = true := hw _ (List.mem_of_getElem? (i := 118) rfl)
theorem wd_119 {a0 : Array Value} {Z : State} (hw : own_hw a0 Z) : (Cond.methodLink "java/util/Arrays" 19 ⟨"java/util/DualPivotQuicksort", "sort", "([JIII)V"⟩).before a0 Z = true := hw _ (List.mem_of_getElem? (i := 119) rfl)
theorem wd_120 {a0 : Array Value} {Z : State} (hw : own_hw a0 Z) : (Cond.static ⟨"java/util/DualPivotQuicksort", "sort", "([JIII)V"⟩).before a0 Z = true := hw _ (List.mem_of_getElem? (i := 120) rfl)
theorem wd_121 {a0 : Array Value} {Z : State} (hw : own_hw a0 Z) : (Cond.initialized "java/util/DualPivotQuicksort").before a0 Z = true := hw _ (List.mem_of_getElem? (i := 121) rfl)
theorem wd_122 {a0 : Array Value} {Z : State} (hw : own_hw a0 Z) : (Cond.code ⟨"java/util/DualPivotQuicksort", "sort", "([JIII)V"⟩ jdk_2529_method_12_code 7 none).before a0 Z = true := hw _ (List.mem_of_getElem? (i := 122) rfl)
theorem wd_123 {a0 : Array Value} {Z : State} (hw : own_hw a0 Z) : (Cond.methodLink "java/util/DualPivotQuicksort" 99 ⟨"java/util/DualPivotQuicksort", "sort", "(Ljava/util/DualPivotQuicksort$Sorter;[JIII)V"⟩).before a0 Z = true := hw _ (List.mem_of_getElem? (i := 123) rfl)
theorem wd_124 {a0 : Array Value} {Z : State} (hw : own_hw a0 Z) : (Cond.static ⟨"java/util/DualPivotQuicksort", "sort", "(Ljava/util/DualPivotQuicksort$Sorter;[JIII)V"⟩).before a0 Z = true := hw _ (List.mem_of_getElem? (i := 124) rfl)
theorem wd_125 {a0 : Array Value} {Z : State} (hw : own_hw a0 Z) : (Cond.code ⟨"java/util/DualPivotQuicksort", "sort", "(Ljava/util/DualPivotQuicksort$Sorter;[JIII)V"⟩ jdk_2529_method_13_code 25 none).before a0 Z = true := hw _ (List.mem_of_getElem? (i := 125) rfl)
theorem wd_126 {a0 : Array Value} {Z : State} (hw : own_hw a0 Z) : (Cond.methodLink "java/util/DualPivotQuicksort" 105 ⟨"java/util/DualPivotQuicksort", "insertionSort", "([JII)V"⟩).before a0 Z = true := hw _ (List.mem_of_getElem? (i := 126) rfl)
theorem wd_127 {a0 : Array Value} {Z : State} (hw : own_hw a0 Z) : (Cond.static ⟨"java/util/DualPivotQuicksort", "insertionSort", "([JII)V"⟩).before a0 Z = true := hw _ (List.mem_of_getElem? (i := 127) rfl)
theorem wd_128 {a0 : Array Value} {Z : State} (hw : own_hw a0 Z) : (Cond.code ⟨"java/util/DualPivotQuicksort", "insertionSort", "([JII)V"⟩ jdk_2529_method_15_code 7 none).before a0 Z = true := hw _ (List.mem_of_getElem? (i := 128) rfl)
theorem wd_129 {a0 : Array Value} {Z : State} (hw : own_hw a0 Z) : (Cond.methodLink "com/example/flicker/flicker/game/GameBuilderFirstMissingIdPinLaw" 42 ⟨"com/example/flicker/flicker/game/GameBuilder", "firstMissingId", "()I"⟩).before a0 Z = true := hw _ (List.mem_of_getElem? (i := 129) rfl)
theorem wd_130 {a0 : Array Value} {Z : State} (hw : own_hw a0 Z) : (Cond.declares ⟨"com/example/flicker/flicker/game/GameBuilder", "firstMissingId", "()I"⟩).before a0 Z = true := hw _ (List.mem_of_getElem? (i := 130) rfl)
theorem wd_131 {a0 : Array Value} {Z : State} (hw : own_hw a0 Z) : (Cond.instanceMethod ⟨"com/example/flicker/flicker/game/GameBuilder", "firstMissingId", "()I"⟩).before a0 Z = true := hw _ (List.mem_of_getElem? (i := 131) rfl)
theorem wd_132 {a0 : Array Value} {Z : State} (hw : own_hw a0 Z) : (Cond.selects "com/example/flicker/flicker/game/GameBuilder" ⟨"com/example/flicker/flicker/game/GameBuilder", "firstMissingId", "()I"⟩ ⟨"com/example/flicker/flicker/game/GameBuilder", "firstMissingId", "()I"⟩).before a0 Z = true := hw _ (List.mem_of_getElem? (i := 132) rfl)
theorem wd_133 {a0 : Array Value} {Z : State} (hw : own_hw a0 Z) : (Cond.code ⟨"com/example/flicker/flicker/game/GameBuilder", "firstMissingId", "()I"⟩ prog_7_method_7_code 2 (some .int)).before a0 Z = true := hw _ (List.mem_of_getElem? (i := 133) rfl)
theorem wd_134 {a0 : Array Value} {Z : State} (hw : own_hw a0 Z) : (Cond.constant "com/example/flicker/flicker/game/GameBuilderFirstMissingIdPinLaw" 46 (268435455 : Int32)).before a0 Z = true := hw _ (List.mem_of_getElem? (i := 134) rfl)
theorem wd_135 {a0 : Array Value} {Z : State} (hw : own_hw a0 Z) : (Cond.methodLink "com/example/flicker/flicker/game/GameBuilderFirstMissingIdPinLaw" 21 ⟨"com/example/flicker/flicker/game/GameBuilderFirstMissingIdPinLaw", "place", "(IIIZ)I"⟩).before a0 Z = true := hw _ (List.mem_of_getElem? (i := 135) rfl)
theorem wd_136 {a0 : Array Value} {Z : State} (hw : own_hw a0 Z) : (Cond.static ⟨"com/example/flicker/flicker/game/GameBuilderFirstMissingIdPinLaw", "place", "(IIIZ)I"⟩).before a0 Z = true := hw _ (List.mem_of_getElem? (i := 136) rfl)
theorem wd_137 {a0 : Array Value} {Z : State} (hw : own_hw a0 Z) : (Cond.code ⟨"com/example/flicker/flicker/game/GameBuilderFirstMissingIdPinLaw", "place", "(IIIZ)I"⟩ method_4_code 5 (some .int)).before a0 Z = true := hw _ (List.mem_of_getElem? (i := 137) rfl)
theorem wd_138 {a0 : Array Value} {Z : State} (hw : own_hw a0 Z) : (Cond.fieldLink "com/example/flicker/flicker/game/GameBuilderFirstMissingIdPinLaw" 25 "com/example/flicker/flicker/game/Player" "ONE" "Lcom/example/flicker/flicker/game/Player;").before a0 Z = true := hw _ (List.mem_of_getElem? (i := 138) rfl)
theorem wd_139 {a0 : Array Value} {Z : State} (hw : own_hw a0 Z) : (Cond.initialized "com/example/flicker/flicker/game/Player").before a0 Z = true := hw _ (List.mem_of_getElem? (i := 139) rfl)
theorem wd_140 {a0 : Array Value} {Z : State} (hw : own_hw a0 Z) : (Cond.laysStatic "com/example/flicker/flicker/game/Player" "ONE" "Lcom/example/flicker/flicker/game/Player;").before a0 Z = true := hw _ (List.mem_of_getElem? (i := 140) rfl)
theorem wd_141 {a0 : Array Value} {Z : State} (hw : own_hw a0 Z) : (Cond.fieldLink "com/example/flicker/flicker/game/GameBuilderFirstMissingIdPinLaw" 31 "com/example/flicker/flicker/game/GameBuilder" "NO_SETS" "[I").before a0 Z = true := hw _ (List.mem_of_getElem? (i := 141) rfl)
theorem wd_142 {a0 : Array Value} {Z : State} (hw : own_hw a0 Z) : (Cond.laysStatic "com/example/flicker/flicker/game/GameBuilder" "NO_SETS" "[I").before a0 Z = true := hw _ (List.mem_of_getElem? (i := 142) rfl)
theorem wd_143 {a0 : Array Value} {Z : State} (hw : own_hw a0 Z) : (Cond.methodLink "com/example/flicker/flicker/game/GameBuilderFirstMissingIdPinLaw" 35 ⟨"com/example/flicker/flicker/game/GameBuilder", "vertex", "(ILcom/example/flicker/flicker/game/Player;ILjava/lang/CharSequence;[II)V"⟩).before a0 Z = true := hw _ (List.mem_of_getElem? (i := 143) rfl)
theorem wd_144 {a0 : Array Value} {Z : State} (hw : own_hw a0 Z) : (Cond.declares ⟨"com/example/flicker/flicker/game/GameBuilder", "vertex", "(ILcom/example/flicker/flicker/game/Player;ILjava/lang/CharSequence;[II)V"⟩).before a0 Z = true := hw _ (List.mem_of_getElem? (i := 144) rfl)
theorem wd_145 {a0 : Array Value} {Z : State} (hw : own_hw a0 Z) : (Cond.instanceMethod ⟨"com/example/flicker/flicker/game/GameBuilder", "vertex", "(ILcom/example/flicker/flicker/game/Player;ILjava/lang/CharSequence;[II)V"⟩).before a0 Z = true := hw _ (List.mem_of_getElem? (i := 145) rfl)
theorem wd_146 {a0 : Array Value} {Z : State} (hw : own_hw a0 Z) : (Cond.selects "com/example/flicker/flicker/game/GameBuilder" ⟨"com/example/flicker/flicker/game/GameBuilder", "vertex", "(ILcom/example/flicker/flicker/game/Player;ILjava/lang/CharSequence;[II)V"⟩ ⟨"com/example/flicker/flicker/game/GameBuilder", "vertex", "(ILcom/example/flicker/flicker/game/Player;ILjava/lang/CharSequence;[II)V"⟩).before a0 Z = true := hw _ (List.mem_of_getElem? (i := 146) rfl)
theorem wd_147 {a0 : Array Value} {Z : State} (hw : own_hw a0 Z) : (Cond.code ⟨"com/example/flicker/flicker/game/GameBuilder", "vertex", "(ILcom/example/flicker/flicker/game/Player;ILjava/lang/CharSequence;[II)V"⟩ prog_7_method_2_code 8 none).before a0 Z = true := hw _ (List.mem_of_getElem? (i := 147) rfl)
theorem wd_148 {a0 : Array Value} {Z : State} (hw : own_hw a0 Z) : (Cond.fieldLink "com/example/flicker/flicker/game/GameBuilder" 74 "com/example/flicker/flicker/game/GameBuilder" "setLength" "I").before a0 Z = true := hw _ (List.mem_of_getElem? (i := 148) rfl)
theorem wd_149 {a0 : Array Value} {Z : State} (hw : own_hw a0 Z) : (Cond.lays "com/example/flicker/flicker/game/GameBuilder" "com/example/flicker/flicker/game/GameBuilder" "setLength" "I").before a0 Z = true := hw _ (List.mem_of_getElem? (i := 149) rfl)
theorem wd_150 {a0 : Array Value} {Z : State} (hw : own_hw a0 Z) : (Cond.fieldLink "com/example/flicker/flicker/game/GameBuilder" 77 "com/example/flicker/flicker/game/Player" "TWO" "Lcom/example/flicker/flicker/game/Player;").before a0 Z = true := hw _ (List.mem_of_getElem? (i := 150) rfl)
theorem wd_151 {a0 : Array Value} {Z : State} (hw : own_hw a0 Z) : (Cond.laysStatic "com/example/flicker/flicker/game/Player" "TWO" "Lcom/example/flicker/flicker/game/Player;").before a0 Z = true := hw _ (List.mem_of_getElem? (i := 151) rfl)
theorem wd_152 {a0 : Array Value} {Z : State} (hw : own_hw a0 Z) : (Cond.methodLink "com/example/flicker/flicker/game/GameBuilder" 87 ⟨"com/example/flicker/flicker/game/VertexNames", "add", "(Ljava/lang/CharSequence;)V"⟩).before a0 Z = true := hw _ (List.mem_of_getElem? (i := 152) rfl)
theorem wd_153 {a0 : Array Value} {Z : State} (hw : own_hw a0 Z) : (Cond.declares ⟨"com/example/flicker/flicker/game/VertexNames", "add", "(Ljava/lang/CharSequence;)V"⟩).before a0 Z = true := hw _ (List.mem_of_getElem? (i := 153) rfl)
theorem wd_154 {a0 : Array Value} {Z : State} (hw : own_hw a0 Z) : (Cond.instanceMethod ⟨"com/example/flicker/flicker/game/VertexNames", "add", "(Ljava/lang/CharSequence;)V"⟩).before a0 Z = true := hw _ (List.mem_of_getElem? (i := 154) rfl)
theorem wd_155 {a0 : Array Value} {Z : State} (hw : own_hw a0 Z) : (Cond.selects "com/example/flicker/flicker/game/VertexNames" ⟨"com/example/flicker/flicker/game/VertexNames", "add", "(Ljava/lang/CharSequence;)V"⟩ ⟨"com/example/flicker/flicker/game/VertexNames", "add", "(Ljava/lang/CharSequence;)V"⟩).before a0 Z = true := hw _ (List.mem_of_getElem? (i := 155) rfl)
theorem wd_156 {a0 : Array Value} {Z : State} (hw : own_hw a0 Z) : (Cond.code ⟨"com/example/flicker/flicker/game/VertexNames", "add", "(Ljava/lang/CharSequence;)V"⟩ prog_23_method_2_code 2 none).before a0 Z = true := hw _ (List.mem_of_getElem? (i := 156) rfl)
theorem wd_157 {a0 : Array Value} {Z : State} (hw : own_hw a0 Z) : (Cond.fieldLink "com/example/flicker/flicker/game/VertexNames" 27 "com/example/flicker/flicker/game/VertexNames" "count" "I").before a0 Z = true := hw _ (List.mem_of_getElem? (i := 157) rfl)
theorem wd_158 {a0 : Array Value} {Z : State} (hw : own_hw a0 Z) : (Cond.lays "com/example/flicker/flicker/game/VertexNames" "com/example/flicker/flicker/game/VertexNames" "count" "I").before a0 Z = true := hw _ (List.mem_of_getElem? (i := 158) rfl)
theorem wd_159 {a0 : Array Value} {Z : State} (hw : own_hw a0 Z) : (Cond.methodLink "com/example/flicker/flicker/game/VertexNames" 45 ⟨"java/lang/StringBuilder", "length", "()I"⟩).before a0 Z = true := hw _ (List.mem_of_getElem? (i := 159) rfl)
theorem wd_160 {a0 : Array Value} {Z : State} (hw : own_hw a0 Z) : (Cond.declares ⟨"java/lang/StringBuilder", "length", "()I"⟩).before a0 Z = true := hw _ (List.mem_of_getElem? (i := 160) rfl)
theorem wd_161 {a0 : Array Value} {Z : State} (hw : own_hw a0 Z) : (Cond.instanceMethod ⟨"java/lang/StringBuilder", "length", "()I"⟩).before a0 Z = true := hw _ (List.mem_of_getElem? (i := 161) rfl)
theorem wd_162 {a0 : Array Value} {Z : State} (hw : own_hw a0 Z) : (Cond.selects "java/lang/StringBuilder" ⟨"java/lang/StringBuilder", "length", "()I"⟩ ⟨"java/lang/StringBuilder", "length", "()I"⟩).before a0 Z = true := hw _ (List.mem_of_getElem? (i := 162) rfl)
theorem wd_163 {a0 : Array Value} {Z : State} (hw : own_hw a0 Z) : (Cond.code ⟨"java/lang/StringBuilder", "length", "()I"⟩ jdk_67_method_93_code 1 (some .int)).before a0 Z = true := hw _ (List.mem_of_getElem? (i := 163) rfl)
theorem wd_164 {a0 : Array Value} {Z : State} (hw : own_hw a0 Z) : (Cond.methodLink "java/lang/StringBuilder" 343 ⟨"java/lang/AbstractStringBuilder", "length", "()I"⟩).before a0 Z = true := hw _ (List.mem_of_getElem? (i := 164) rfl)
theorem wd_165 {a0 : Array Value} {Z : State} (hw : own_hw a0 Z) : (Cond.instanceMethod ⟨"java/lang/AbstractStringBuilder", "length", "()I"⟩).before a0 Z = true := hw _ (List.mem_of_getElem? (i := 165) rfl)
theorem wd_166 {a0 : Array Value} {Z : State} (hw : own_hw a0 Z) : (Cond.superclass "java/lang/StringBuilder" "java/lang/AbstractStringBuilder").before a0 Z = true := hw _ (List.mem_of_getElem? (i := 166) rfl)
theorem wd_168 {a0 : Array Value} {Z : State} (hw : own_hw a0 Z) : (Cond.code ⟨"java/lang/AbstractStringBuilder", "length", "()I"⟩ jdk_68_method_6_code 1 (some .int)).before a0 Z = true := hw _ (List.mem_of_getElem? (i := 168) rfl)
theorem wd_169 {a0 : Array Value} {Z : State} (hw : own_hw a0 Z) : (Cond.fieldLink "java/lang/AbstractStringBuilder" 79 "java/lang/AbstractStringBuilder" "count" "I").before a0 Z = true := hw _ (List.mem_of_getElem? (i := 169) rfl)
theorem wd_170 {a0 : Array Value} {Z : State} (hw : own_hw a0 Z) : (Cond.lays "java/lang/StringBuilder" "java/lang/AbstractStringBuilder" "count" "I").before a0 Z = true := hw _ (List.mem_of_getElem? (i := 170) rfl)
theorem wd_171 {a0 : Array Value} {Z : State} (hw : own_hw a0 Z) : (Cond.methodLink "com/example/flicker/flicker/game/GameBuilder" 91 ⟨"java/lang/System", "arraycopy", "(Ljava/lang/Object;ILjava/lang/Object;II)V"⟩).before a0 Z = true := hw _ (List.mem_of_getElem? (i := 171) rfl)
theorem wd_172 {a0 : Array Value} {Z : State} (hw : own_hw a0 Z) : (Cond.static ⟨"java/lang/System", "arraycopy", "(Ljava/lang/Object;ILjava/lang/Object;II)V"⟩).before a0 Z = true := hw _ (List.mem_of_getElem? (i := 172) rfl)
theorem wd_173 {a0 : Array Value} {Z : State} (hw : own_hw a0 Z) : (Cond.initialized "java/lang/System").before a0 Z = true := hw _ (List.mem_of_getElem? (i := 173) rfl)
theorem wd_174 {a0 : Array Value} {Z : State} (hw : own_hw a0 Z) : (Cond.native ⟨"java/lang/System", "arraycopy", "(Ljava/lang/Object;ILjava/lang/Object;II)V"⟩).before a0 Z = true := hw _ (List.mem_of_getElem? (i := 174) rfl)
theorem own_wS {a0 : Array Value} {Z : State} (hw : own_hw a0 Z) : ∀ a ∈ Bundle.stringAtoms, a.before a0 Z = true := by
  intro d hd
  simp only [Bundle.stringAtoms, List.mem_cons, List.not_mem_nil, or_false] at hd
  rcases hd with rfl | rfl | rfl | rfl | rfl | rfl | rfl
  · exact (wd_10 hw)
  · exact (wd_11 hw)
  · exact (wd_12 hw)
  · exact (wd_13 hw)
  · exact (wd_14 hw)
  · exact (wd_15 hw)
  · exact (wd_16 hw)
theorem d_0 : Dc code 0 (.iload_n 0) 1 1 := ⟨at_0, rfl⟩
theorem d_1 : Dc code 1 (.ldc 7) 2 3 := ⟨at_1, rfl⟩
theorem d_3 : Dc code 3 (.iand) 1 4 := ⟨at_3, rfl⟩
theorem d_4 : Dc code 4 (.iconst 5) 1 5 := ⟨at_4, rfl⟩
theorem d_5 : Dc code 5 (.irem) 1 6 := ⟨at_5, rfl⟩
theorem d_6 : Dc code 6 (.istore 6) 2 8 := ⟨at_6, rfl⟩
theorem d_8 : Dc code 8 (.iload_n 1) 1 9 := ⟨at_8, rfl⟩
theorem d_9 : Dc code 9 (.invokestatic 8) 3 12 := ⟨at_9, rfl⟩
theorem d_12 : Dc code 12 (.istore 7) 2 14 := ⟨at_12, rfl⟩
theorem d_14 : Dc code 14 (.iload 7) 2 16 := ⟨at_14, rfl⟩
theorem d_16 : Dc code 16 (.iconst 1) 1 17 := ⟨at_16, rfl⟩
theorem d_17 : Dc code 17 (.iadd) 1 18 := ⟨at_17, rfl⟩
theorem d_18 : Dc code 18 (.iload_n 2) 1 19 := ⟨at_18, rfl⟩
theorem d_19 : Dc code 19 (.invokestatic 8) 3 22 := ⟨at_19, rfl⟩
theorem d_22 : Dc code 22 (.iadd) 1 23 := ⟨at_22, rfl⟩
theorem d_23 : Dc code 23 (.istore 8) 2 25 := ⟨at_23, rfl⟩
theorem d_25 : Dc code 25 (.iload 8) 2 27 := ⟨at_25, rfl⟩
theorem d_27 : Dc code 27 (.iconst 1) 1 28 := ⟨at_27, rfl⟩
theorem d_28 : Dc code 28 (.iadd) 1 29 := ⟨at_28, rfl⟩
theorem d_29 : Dc code 29 (.iload_n 3) 1 30 := ⟨at_29, rfl⟩
theorem d_30 : Dc code 30 (.invokestatic 8) 3 33 := ⟨at_30, rfl⟩
theorem d_33 : Dc code 33 (.iadd) 1 34 := ⟨at_33, rfl⟩
theorem d_34 : Dc code 34 (.istore 9) 2 36 := ⟨at_34, rfl⟩
theorem d_36 : Dc code 36 (.iload 9) 2 38 := ⟨at_36, rfl⟩
theorem d_38 : Dc code 38 (.iconst 1) 1 39 := ⟨at_38, rfl⟩
theorem d_39 : Dc code 39 (.iadd) 1 40 := ⟨at_39, rfl⟩
theorem d_40 : Dc code 40 (.iload 4) 2 42 := ⟨at_40, rfl⟩
theorem d_42 : Dc code 42 (.invokestatic 8) 3 45 := ⟨at_42, rfl⟩
theorem d_45 : Dc code 45 (.iadd) 1 46 := ⟨at_45, rfl⟩
theorem d_46 : Dc code 46 (.istore 10) 2 48 := ⟨at_46, rfl⟩
theorem d_48 : Dc code 48 (.iconst 4) 1 49 := ⟨at_48, rfl⟩
theorem d_49 : Dc code 49 (.newarray .int) 2 51 := ⟨at_49, rfl⟩
theorem d_51 : Dc code 51 (.dup) 1 52 := ⟨at_51, rfl⟩
theorem d_52 : Dc code 52 (.iconst 0) 1 53 := ⟨at_52, rfl⟩
theorem d_53 : Dc code 53 (.iload 7) 2 55 := ⟨at_53, rfl⟩
theorem d_55 : Dc code 55 (.iastore) 1 56 := ⟨at_55, rfl⟩
theorem d_56 : Dc code 56 (.dup) 1 57 := ⟨at_56, rfl⟩
theorem d_57 : Dc code 57 (.iconst 1) 1 58 := ⟨at_57, rfl⟩
theorem d_58 : Dc code 58 (.iload 8) 2 60 := ⟨at_58, rfl⟩
theorem d_60 : Dc code 60 (.iastore) 1 61 := ⟨at_60, rfl⟩
theorem d_61 : Dc code 61 (.dup) 1 62 := ⟨at_61, rfl⟩
theorem d_62 : Dc code 62 (.iconst 2) 1 63 := ⟨at_62, rfl⟩
theorem d_63 : Dc code 63 (.iload 9) 2 65 := ⟨at_63, rfl⟩
theorem d_65 : Dc code 65 (.iastore) 1 66 := ⟨at_65, rfl⟩
theorem d_66 : Dc code 66 (.dup) 1 67 := ⟨at_66, rfl⟩
theorem d_67 : Dc code 67 (.iconst 3) 1 68 := ⟨at_67, rfl⟩
theorem d_68 : Dc code 68 (.iload 10) 2 70 := ⟨at_68, rfl⟩
theorem d_70 : Dc code 70 (.iastore) 1 71 := ⟨at_70, rfl⟩
theorem d_71 : Dc code 71 (.astore 11) 2 73 := ⟨at_71, rfl⟩
theorem d_73 : Dc code 73 (.iload 5) 2 75 := ⟨at_73, rfl⟩
theorem d_75 : Dc code 75 (.iconst 1) 1 76 := ⟨at_75, rfl⟩
theorem d_76 : Dc code 76 (.iand) 1 77 := ⟨at_76, rfl⟩
theorem d_77 : Bc code 77 (.ifCond .eq) 84 80 := ⟨7, at_77, by decide, by decide, rfl⟩
theorem d_80 : Dc code 80 (.iconst 1) 1 81 := ⟨at_80, rfl⟩
theorem d_81 : Bc code 81 (.goto) 85 84 := ⟨4, at_81, by decide, by decide, rfl⟩
theorem d_84 : Dc code 84 (.iconst 0) 1 85 := ⟨at_84, rfl⟩
theorem d_85 : Dc code 85 (.istore 12) 2 87 := ⟨at_85, rfl⟩
theorem d_87 : Dc code 87 (.iload 5) 2 89 := ⟨at_87, rfl⟩
theorem d_89 : Dc code 89 (.iconst 1) 1 90 := ⟨at_89, rfl⟩
theorem d_90 : Dc code 90 (.iushr) 1 91 := ⟨at_90, rfl⟩
theorem d_91 : Dc code 91 (.iconst 3) 1 92 := ⟨at_91, rfl⟩
theorem d_92 : Dc code 92 (.iand) 1 93 := ⟨at_92, rfl⟩
theorem d_93 : Dc code 93 (.istore 13) 2 95 := ⟨at_93, rfl⟩
theorem d_95 : Dc code 95 (.new 14) 3 98 := ⟨at_95, rfl⟩
theorem d_98 : Dc code 98 (.dup) 1 99 := ⟨at_98, rfl⟩
theorem d_99 : Dc code 99 (.ldc 16) 2 101 := ⟨at_99, rfl⟩
theorem d_101 : Dc code 101 (.iconst 0) 1 102 := ⟨at_101, rfl⟩
theorem d_102 : Dc code 102 (.invokespecial 18) 3 105 := ⟨at_102, rfl⟩
theorem d_105 : Dc code 105 (.astore 14) 2 107 := ⟨at_105, rfl⟩
theorem d_107 : Dc code 107 (.iload 6) 2 109 := ⟨at_107, rfl⟩
theorem d_109 : Bc code 109 (.ifCond .le) 139 112 := ⟨30, at_109, by decide, by decide, rfl⟩
theorem d_112 : Dc code 112 (.aload 14) 2 114 := ⟨at_112, rfl⟩
theorem d_114 : Dc code 114 (.aload 11) 2 116 := ⟨at_114, rfl⟩
theorem d_116 : Dc code 116 (.iconst 0) 1 117 := ⟨at_116, rfl⟩
theorem d_117 : Dc code 117 (.iload 6) 2 119 := ⟨at_117, rfl⟩
theorem d_119 : Dc code 119 (.iload 13) 2 121 := ⟨at_119, rfl⟩
theorem d_121 : Dc code 121 (.iload 12) 2 123 := ⟨at_121, rfl⟩
theorem d_123 : Dc code 123 (.invokestatic 21) 3 126 := ⟨at_123, rfl⟩
theorem d_126 : Dc code 126 (.iaload) 1 127 := ⟨at_126, rfl⟩
theorem d_127 : Dc code 127 (.getstatic 25) 3 130 := ⟨at_127, rfl⟩
theorem d_130 : Dc code 130 (.iconst 0) 1 131 := ⟨at_130, rfl⟩
theorem d_131 : Dc code 131 (.aconst_null) 1 132 := ⟨at_131, rfl⟩
theorem d_132 : Dc code 132 (.getstatic 31) 3 135 := ⟨at_132, rfl⟩
theorem d_135 : Dc code 135 (.iconst 1) 1 136 := ⟨at_135, rfl⟩
theorem d_136 : Dc code 136 (.invokevirtual 35) 3 139 := ⟨at_136, rfl⟩
theorem d_139 : Dc code 139 (.iload 6) 2 141 := ⟨at_139, rfl⟩
theorem d_141 : Dc code 141 (.iconst 1) 1 142 := ⟨at_141, rfl⟩
theorem d_142 : Bc code 142 (.if_icmp .le) 172 145 := ⟨30, at_142, by decide, by decide, rfl⟩
theorem d_145 : Dc code 145 (.aload 14) 2 147 := ⟨at_145, rfl⟩
theorem d_147 : Dc code 147 (.aload 11) 2 149 := ⟨at_147, rfl⟩
theorem d_149 : Dc code 149 (.iconst 1) 1 150 := ⟨at_149, rfl⟩
theorem d_150 : Dc code 150 (.iload 6) 2 152 := ⟨at_150, rfl⟩
theorem d_152 : Dc code 152 (.iload 13) 2 154 := ⟨at_152, rfl⟩
theorem d_154 : Dc code 154 (.iload 12) 2 156 := ⟨at_154, rfl⟩
theorem d_156 : Dc code 156 (.invokestatic 21) 3 159 := ⟨at_156, rfl⟩
theorem d_159 : Dc code 159 (.iaload) 1 160 := ⟨at_159, rfl⟩
theorem d_160 : Dc code 160 (.getstatic 25) 3 163 := ⟨at_160, rfl⟩
theorem d_163 : Dc code 163 (.iconst 0) 1 164 := ⟨at_163, rfl⟩
theorem d_164 : Dc code 164 (.aconst_null) 1 165 := ⟨at_164, rfl⟩
theorem d_165 : Dc code 165 (.getstatic 31) 3 168 := ⟨at_165, rfl⟩
theorem d_168 : Dc code 168 (.iconst 2) 1 169 := ⟨at_168, rfl⟩
theorem d_169 : Dc code 169 (.invokevirtual 35) 3 172 := ⟨at_169, rfl⟩
theorem d_172 : Dc code 172 (.iload 6) 2 174 := ⟨at_172, rfl⟩
theorem d_174 : Dc code 174 (.iconst 2) 1 175 := ⟨at_174, rfl⟩
theorem d_175 : Bc code 175 (.if_icmp .le) 205 178 := ⟨30, at_175, by decide, by decide, rfl⟩
theorem d_178 : Dc code 178 (.aload 14) 2 180 := ⟨at_178, rfl⟩
theorem d_180 : Dc code 180 (.aload 11) 2 182 := ⟨at_180, rfl⟩
theorem d_182 : Dc code 182 (.iconst 2) 1 183 := ⟨at_182, rfl⟩
theorem d_183 : Dc code 183 (.iload 6) 2 185 := ⟨at_183, rfl⟩
theorem d_185 : Dc code 185 (.iload 13) 2 187 := ⟨at_185, rfl⟩
theorem d_187 : Dc code 187 (.iload 12) 2 189 := ⟨at_187, rfl⟩
theorem d_189 : Dc code 189 (.invokestatic 21) 3 192 := ⟨at_189, rfl⟩
theorem d_192 : Dc code 192 (.iaload) 1 193 := ⟨at_192, rfl⟩
theorem d_193 : Dc code 193 (.getstatic 25) 3 196 := ⟨at_193, rfl⟩
theorem d_196 : Dc code 196 (.iconst 0) 1 197 := ⟨at_196, rfl⟩
theorem d_197 : Dc code 197 (.aconst_null) 1 198 := ⟨at_197, rfl⟩
theorem d_198 : Dc code 198 (.getstatic 31) 3 201 := ⟨at_198, rfl⟩
theorem d_201 : Dc code 201 (.iconst 3) 1 202 := ⟨at_201, rfl⟩
theorem d_202 : Dc code 202 (.invokevirtual 35) 3 205 := ⟨at_202, rfl⟩
theorem d_205 : Dc code 205 (.iload 6) 2 207 := ⟨at_205, rfl⟩
theorem d_207 : Dc code 207 (.iconst 3) 1 208 := ⟨at_207, rfl⟩
theorem d_208 : Bc code 208 (.if_icmp .le) 238 211 := ⟨30, at_208, by decide, by decide, rfl⟩
theorem d_211 : Dc code 211 (.aload 14) 2 213 := ⟨at_211, rfl⟩
theorem d_213 : Dc code 213 (.aload 11) 2 215 := ⟨at_213, rfl⟩
theorem d_215 : Dc code 215 (.iconst 3) 1 216 := ⟨at_215, rfl⟩
theorem d_216 : Dc code 216 (.iload 6) 2 218 := ⟨at_216, rfl⟩
theorem d_218 : Dc code 218 (.iload 13) 2 220 := ⟨at_218, rfl⟩
theorem d_220 : Dc code 220 (.iload 12) 2 222 := ⟨at_220, rfl⟩
theorem d_222 : Dc code 222 (.invokestatic 21) 3 225 := ⟨at_222, rfl⟩
theorem d_225 : Dc code 225 (.iaload) 1 226 := ⟨at_225, rfl⟩
theorem d_226 : Dc code 226 (.getstatic 25) 3 229 := ⟨at_226, rfl⟩
theorem d_229 : Dc code 229 (.iconst 0) 1 230 := ⟨at_229, rfl⟩
theorem d_230 : Dc code 230 (.aconst_null) 1 231 := ⟨at_230, rfl⟩
theorem d_231 : Dc code 231 (.getstatic 31) 3 234 := ⟨at_231, rfl⟩
theorem d_234 : Dc code 234 (.iconst 4) 1 235 := ⟨at_234, rfl⟩
theorem d_235 : Dc code 235 (.invokevirtual 35) 3 238 := ⟨at_235, rfl⟩
theorem d_238 : Dc code 238 (.aload 14) 2 240 := ⟨at_238, rfl⟩
theorem d_240 : Dc code 240 (.invokevirtual 39) 3 243 := ⟨at_240, rfl⟩
theorem d_243 : Dc code 243 (.iconst 0) 1 244 := ⟨at_243, rfl⟩
theorem d_244 : Dc code 244 (.istore 15) 2 246 := ⟨at_244, rfl⟩
theorem d_246 : Dc code 246 (.iload 6) 2 248 := ⟨at_246, rfl⟩
theorem d_248 : Bc code 248 (.ifCond .le) 304 251 := ⟨56, at_248, by decide, by decide, rfl⟩
theorem d_251 : Dc code 251 (.iload 7) 2 253 := ⟨at_251, rfl⟩
theorem d_253 : Bc code 253 (.ifCond .ne) 304 256 := ⟨51, at_253, by decide, by decide, rfl⟩
theorem d_256 : Dc code 256 (.iconst 1) 1 257 := ⟨at_256, rfl⟩
theorem d_257 : Dc code 257 (.istore 15) 2 259 := ⟨at_257, rfl⟩
theorem d_259 : Dc code 259 (.iload 6) 2 261 := ⟨at_259, rfl⟩
theorem d_261 : Dc code 261 (.iconst 1) 1 262 := ⟨at_261, rfl⟩
theorem d_262 : Bc code 262 (.if_icmp .le) 304 265 := ⟨42, at_262, by decide, by decide, rfl⟩
theorem d_265 : Dc code 265 (.iload 8) 2 267 := ⟨at_265, rfl⟩
theorem d_267 : Dc code 267 (.iconst 1) 1 268 := ⟨at_267, rfl⟩
theorem d_268 : Bc code 268 (.if_icmp .ne) 304 271 := ⟨36, at_268, by decide, by decide, rfl⟩
theorem d_271 : Dc code 271 (.iconst 2) 1 272 := ⟨at_271, rfl⟩
theorem d_272 : Dc code 272 (.istore 15) 2 274 := ⟨at_272, rfl⟩
theorem d_274 : Dc code 274 (.iload 6) 2 276 := ⟨at_274, rfl⟩
theorem d_276 : Dc code 276 (.iconst 2) 1 277 := ⟨at_276, rfl⟩
theorem d_277 : Bc code 277 (.if_icmp .le) 304 280 := ⟨27, at_277, by decide, by decide, rfl⟩
theorem d_280 : Dc code 280 (.iload 9) 2 282 := ⟨at_280, rfl⟩
theorem d_282 : Dc code 282 (.iconst 2) 1 283 := ⟨at_282, rfl⟩
theorem d_283 : Bc code 283 (.if_icmp .ne) 304 286 := ⟨21, at_283, by decide, by decide, rfl⟩
theorem d_286 : Dc code 286 (.iconst 3) 1 287 := ⟨at_286, rfl⟩
theorem d_287 : Dc code 287 (.istore 15) 2 289 := ⟨at_287, rfl⟩
theorem d_289 : Dc code 289 (.iload 6) 2 291 := ⟨at_289, rfl⟩
theorem d_291 : Dc code 291 (.iconst 3) 1 292 := ⟨at_291, rfl⟩
theorem d_292 : Bc code 292 (.if_icmp .le) 304 295 := ⟨12, at_292, by decide, by decide, rfl⟩
theorem d_295 : Dc code 295 (.iload 10) 2 297 := ⟨at_295, rfl⟩
theorem d_297 : Dc code 297 (.iconst 3) 1 298 := ⟨at_297, rfl⟩
theorem d_298 : Bc code 298 (.if_icmp .ne) 304 301 := ⟨6, at_298, by decide, by decide, rfl⟩
theorem d_301 : Dc code 301 (.iconst 4) 1 302 := ⟨at_301, rfl⟩
theorem d_302 : Dc code 302 (.istore 15) 2 304 := ⟨at_302, rfl⟩
theorem d_304 : Dc code 304 (.aload 14) 2 306 := ⟨at_304, rfl⟩
theorem d_306 : Dc code 306 (.invokevirtual 42) 3 309 := ⟨at_306, rfl⟩
theorem d_309 : Dc code 309 (.iload 15) 2 311 := ⟨at_309, rfl⟩
theorem d_311 : Bc code 311 (.if_icmp .ne) 318 314 := ⟨7, at_311, by decide, by decide, rfl⟩
theorem d_314 : Dc code 314 (.iconst 1) 1 315 := ⟨at_314, rfl⟩
theorem d_315 : Bc code 315 (.goto) 319 318 := ⟨4, at_315, by decide, by decide, rfl⟩
theorem d_319 : Dc code 319 (.ireturn) 1 320 := ⟨at_319, rfl⟩
theorem k2529_12_0 : Dc jdk_2529_method_12_code 0 (.iload_n 3) 1 1 := ⟨by decide +kernel, rfl⟩
theorem k2529_12_1 : Dc jdk_2529_method_12_code 1 (.iload_n 2) 1 2 := ⟨by decide +kernel, rfl⟩
theorem k2529_12_2 : Dc jdk_2529_method_12_code 2 (.isub) 1 3 := ⟨by decide +kernel, rfl⟩
theorem k2529_12_3 : Dc jdk_2529_method_12_code 3 (.istore 4) 2 5 := ⟨by decide +kernel, rfl⟩
theorem k2529_12_5 : Dc jdk_2529_method_12_code 5 (.iload_n 1) 1 6 := ⟨by decide +kernel, rfl⟩
theorem k2529_12_6 : Dc jdk_2529_method_12_code 6 (.iconst 1) 1 7 := ⟨by decide +kernel, rfl⟩
theorem k2529_12_7 : Bc jdk_2529_method_12_code 7 (.if_icmp .le) 68 10 := ⟨61, by decide +kernel, by decide, by decide, rfl⟩
theorem k2529_12_68 : Dc jdk_2529_method_12_code 68 (.aconst_null) 1 69 := ⟨by decide +kernel, rfl⟩
theorem k2529_12_69 : Dc jdk_2529_method_12_code 69 (.aload_n 0) 1 70 := ⟨by decide +kernel, rfl⟩
theorem k2529_12_70 : Dc jdk_2529_method_12_code 70 (.iconst 0) 1 71 := ⟨by decide +kernel, rfl⟩
theorem k2529_12_71 : Dc jdk_2529_method_12_code 71 (.iload_n 2) 1 72 := ⟨by decide +kernel, rfl⟩
theorem k2529_12_72 : Dc jdk_2529_method_12_code 72 (.iload_n 3) 1 73 := ⟨by decide +kernel, rfl⟩
theorem k2529_12_73 : Dc jdk_2529_method_12_code 73 (.invokestatic 99) 3 76 := ⟨by decide +kernel, rfl⟩
theorem k2529_12_76 : Dc jdk_2529_method_12_code 76 (.return_) 1 77 := ⟨by decide +kernel, rfl⟩
theorem k2529_13_0 : Dc jdk_2529_method_13_code 0 (.iload 4) 2 2 := ⟨by decide +kernel, rfl⟩
theorem k2529_13_2 : Dc jdk_2529_method_13_code 2 (.iconst 1) 1 3 := ⟨by decide +kernel, rfl⟩
theorem k2529_13_3 : Dc jdk_2529_method_13_code 3 (.isub) 1 4 := ⟨by decide +kernel, rfl⟩
theorem k2529_13_4 : Dc jdk_2529_method_13_code 4 (.istore 5) 2 6 := ⟨by decide +kernel, rfl⟩
theorem k2529_13_6 : Dc jdk_2529_method_13_code 6 (.iload 4) 2 8 := ⟨by decide +kernel, rfl⟩
theorem k2529_13_8 : Dc jdk_2529_method_13_code 8 (.iload_n 3) 1 9 := ⟨by decide +kernel, rfl⟩
theorem k2529_13_9 : Dc jdk_2529_method_13_code 9 (.isub) 1 10 := ⟨by decide +kernel, rfl⟩
theorem k2529_13_10 : Dc jdk_2529_method_13_code 10 (.istore 6) 2 12 := ⟨by decide +kernel, rfl⟩
theorem k2529_13_12 : Dc jdk_2529_method_13_code 12 (.iload 6) 2 14 := ⟨by decide +kernel, rfl⟩
theorem k2529_13_14 : Dc jdk_2529_method_13_code 14 (.bipush 65) 2 16 := ⟨by decide +kernel, rfl⟩
theorem k2529_13_16 : Dc jdk_2529_method_13_code 16 (.iload_n 2) 1 17 := ⟨by decide +kernel, rfl⟩
theorem k2529_13_17 : Dc jdk_2529_method_13_code 17 (.iadd) 1 18 := ⟨by decide +kernel, rfl⟩
theorem k2529_13_18 : Bc jdk_2529_method_13_code 18 (.if_icmp .ge) 46 21 := ⟨28, by decide +kernel, by decide, by decide, rfl⟩
theorem k2529_13_21 : Dc jdk_2529_method_13_code 21 (.iload_n 2) 1 22 := ⟨by decide +kernel, rfl⟩
theorem k2529_13_22 : Dc jdk_2529_method_13_code 22 (.iconst 1) 1 23 := ⟨by decide +kernel, rfl⟩
theorem k2529_13_23 : Dc jdk_2529_method_13_code 23 (.iand) 1 24 := ⟨by decide +kernel, rfl⟩
theorem k2529_13_24 : Bc jdk_2529_method_13_code 24 (.ifCond .le) 46 27 := ⟨22, by decide +kernel, by decide, by decide, rfl⟩
theorem k2529_13_46 : Dc jdk_2529_method_13_code 46 (.iload 6) 2 48 := ⟨by decide +kernel, rfl⟩
theorem k2529_13_48 : Dc jdk_2529_method_13_code 48 (.bipush 44) 2 50 := ⟨by decide +kernel, rfl⟩
theorem k2529_13_50 : Bc jdk_2529_method_13_code 50 (.if_icmp .ge) 61 53 := ⟨11, by decide +kernel, by decide, by decide, rfl⟩
theorem k2529_13_53 : Dc jdk_2529_method_13_code 53 (.aload_n 1) 1 54 := ⟨by decide +kernel, rfl⟩
theorem k2529_13_54 : Dc jdk_2529_method_13_code 54 (.iload_n 3) 1 55 := ⟨by decide +kernel, rfl⟩
theorem k2529_13_55 : Dc jdk_2529_method_13_code 55 (.iload 4) 2 57 := ⟨by decide +kernel, rfl⟩
theorem k2529_13_57 : Dc jdk_2529_method_13_code 57 (.invokestatic 105) 3 60 := ⟨by decide +kernel, rfl⟩
theorem k2529_13_60 : Dc jdk_2529_method_13_code 60 (.return_) 1 61 := ⟨by decide +kernel, rfl⟩
theorem k2529_15_0 : Dc jdk_2529_method_15_code 0 (.iload_n 1) 1 1 := ⟨by decide +kernel, rfl⟩
theorem k2529_15_1 : Dc jdk_2529_method_15_code 1 (.istore 4) 2 3 := ⟨by decide +kernel, rfl⟩
theorem k2529_15_3 : Dc jdk_2529_method_15_code 3 (.iinc 4 1) 3 6 := ⟨by decide +kernel, rfl⟩
theorem k2529_15_6 : Dc jdk_2529_method_15_code 6 (.iload 4) 2 8 := ⟨by decide +kernel, rfl⟩
theorem k2529_15_8 : Dc jdk_2529_method_15_code 8 (.iload_n 2) 1 9 := ⟨by decide +kernel, rfl⟩
theorem k2529_15_9 : Bc jdk_2529_method_15_code 9 (.if_icmp .ge) 69 12 := ⟨60, by decide +kernel, by decide, by decide, rfl⟩
theorem k2529_15_12 : Dc jdk_2529_method_15_code 12 (.aload_n 0) 1 13 := ⟨by decide +kernel, rfl⟩
theorem k2529_15_13 : Dc jdk_2529_method_15_code 13 (.iload 4) 2 15 := ⟨by decide +kernel, rfl⟩
theorem k2529_15_15 : Dc jdk_2529_method_15_code 15 (.dup) 1 16 := ⟨by decide +kernel, rfl⟩
theorem k2529_15_16 : Dc jdk_2529_method_15_code 16 (.istore_n 3) 1 17 := ⟨by decide +kernel, rfl⟩
theorem k2529_15_17 : Dc jdk_2529_method_15_code 17 (.laload) 1 18 := ⟨by decide +kernel, rfl⟩
theorem k2529_15_18 : Dc jdk_2529_method_15_code 18 (.lstore 5) 2 20 := ⟨by decide +kernel, rfl⟩
theorem k2529_15_20 : Dc jdk_2529_method_15_code 20 (.lload 5) 2 22 := ⟨by decide +kernel, rfl⟩
theorem k2529_15_22 : Dc jdk_2529_method_15_code 22 (.aload_n 0) 1 23 := ⟨by decide +kernel, rfl⟩
theorem k2529_15_23 : Dc jdk_2529_method_15_code 23 (.iload_n 3) 1 24 := ⟨by decide +kernel, rfl⟩
theorem k2529_15_24 : Dc jdk_2529_method_15_code 24 (.iconst 1) 1 25 := ⟨by decide +kernel, rfl⟩
theorem k2529_15_25 : Dc jdk_2529_method_15_code 25 (.isub) 1 26 := ⟨by decide +kernel, rfl⟩
theorem k2529_15_26 : Dc jdk_2529_method_15_code 26 (.laload) 1 27 := ⟨by decide +kernel, rfl⟩
theorem k2529_15_27 : Dc jdk_2529_method_15_code 27 (.lcmp) 1 28 := ⟨by decide +kernel, rfl⟩
theorem k2529_15_28 : Bc jdk_2529_method_15_code 28 (.ifCond .ge) 66 31 := ⟨38, by decide +kernel, by decide, by decide, rfl⟩
theorem k2529_15_31 : Dc jdk_2529_method_15_code 31 (.iinc 3 (-1)) 3 34 := ⟨by decide +kernel, rfl⟩
theorem k2529_15_34 : Dc jdk_2529_method_15_code 34 (.iload_n 3) 1 35 := ⟨by decide +kernel, rfl⟩
theorem k2529_15_35 : Dc jdk_2529_method_15_code 35 (.iload_n 1) 1 36 := ⟨by decide +kernel, rfl⟩
theorem k2529_15_36 : Bc jdk_2529_method_15_code 36 (.if_icmp .lt) 59 39 := ⟨23, by decide +kernel, by decide, by decide, rfl⟩
theorem k2529_15_39 : Dc jdk_2529_method_15_code 39 (.lload 5) 2 41 := ⟨by decide +kernel, rfl⟩
theorem k2529_15_41 : Dc jdk_2529_method_15_code 41 (.aload_n 0) 1 42 := ⟨by decide +kernel, rfl⟩
theorem k2529_15_42 : Dc jdk_2529_method_15_code 42 (.iload_n 3) 1 43 := ⟨by decide +kernel, rfl⟩
theorem k2529_15_43 : Dc jdk_2529_method_15_code 43 (.laload) 1 44 := ⟨by decide +kernel, rfl⟩
theorem k2529_15_44 : Dc jdk_2529_method_15_code 44 (.lcmp) 1 45 := ⟨by decide +kernel, rfl⟩
theorem k2529_15_45 : Bc jdk_2529_method_15_code 45 (.ifCond .ge) 59 48 := ⟨14, by decide +kernel, by decide, by decide, rfl⟩
theorem k2529_15_48 : Dc jdk_2529_method_15_code 48 (.aload_n 0) 1 49 := ⟨by decide +kernel, rfl⟩
theorem k2529_15_49 : Dc jdk_2529_method_15_code 49 (.iload_n 3) 1 50 := ⟨by decide +kernel, rfl⟩
theorem k2529_15_50 : Dc jdk_2529_method_15_code 50 (.iconst 1) 1 51 := ⟨by decide +kernel, rfl⟩
theorem k2529_15_51 : Dc jdk_2529_method_15_code 51 (.iadd) 1 52 := ⟨by decide +kernel, rfl⟩
theorem k2529_15_52 : Dc jdk_2529_method_15_code 52 (.aload_n 0) 1 53 := ⟨by decide +kernel, rfl⟩
theorem k2529_15_53 : Dc jdk_2529_method_15_code 53 (.iload_n 3) 1 54 := ⟨by decide +kernel, rfl⟩
theorem k2529_15_54 : Dc jdk_2529_method_15_code 54 (.laload) 1 55 := ⟨by decide +kernel, rfl⟩
theorem k2529_15_55 : Dc jdk_2529_method_15_code 55 (.lastore) 1 56 := ⟨by decide +kernel, rfl⟩
theorem k2529_15_56 : Bc jdk_2529_method_15_code 56 (.goto) 31 59 := ⟨(-25), by decide +kernel, by decide, by decide, rfl⟩
theorem k2529_15_59 : Dc jdk_2529_method_15_code 59 (.aload_n 0) 1 60 := ⟨by decide +kernel, rfl⟩
theorem k2529_15_60 : Dc jdk_2529_method_15_code 60 (.iload_n 3) 1 61 := ⟨by decide +kernel, rfl⟩
theorem k2529_15_61 : Dc jdk_2529_method_15_code 61 (.iconst 1) 1 62 := ⟨by decide +kernel, rfl⟩
theorem k2529_15_62 : Dc jdk_2529_method_15_code 62 (.iadd) 1 63 := ⟨by decide +kernel, rfl⟩
theorem k2529_15_63 : Dc jdk_2529_method_15_code 63 (.lload 5) 2 65 := ⟨by decide +kernel, rfl⟩
theorem k2529_15_65 : Dc jdk_2529_method_15_code 65 (.lastore) 1 66 := ⟨by decide +kernel, rfl⟩
theorem k2529_15_66 : Bc jdk_2529_method_15_code 66 (.goto) 3 69 := ⟨(-63), by decide +kernel, by decide, by decide, rfl⟩
theorem k2529_15_69 : Dc jdk_2529_method_15_code 69 (.return_) 1 70 := ⟨by decide +kernel, rfl⟩
theorem k65_4_0 : Dc jdk_65_method_4_code 0 (.aload_n 0) 1 1 := ⟨by decide +kernel, rfl⟩
theorem k65_4_1 : Dc jdk_65_method_4_code 1 (.iconst 0) 1 2 := ⟨by decide +kernel, rfl⟩
theorem k65_4_2 : Dc jdk_65_method_4_code 2 (.iconst 0) 1 3 := ⟨by decide +kernel, rfl⟩
theorem k65_4_3 : Dc jdk_65_method_4_code 3 (.aload_n 0) 1 4 := ⟨by decide +kernel, rfl⟩
theorem k65_4_4 : Dc jdk_65_method_4_code 4 (.arraylength) 1 5 := ⟨by decide +kernel, rfl⟩
theorem k65_4_5 : Dc jdk_65_method_4_code 5 (.invokestatic 19) 3 8 := ⟨by decide +kernel, rfl⟩
theorem k65_4_8 : Dc jdk_65_method_4_code 8 (.return_) 1 9 := ⟨by decide +kernel, rfl⟩
theorem k67_1_0 : Dc jdk_67_method_1_code 0 (.aload_n 0) 1 1 := ⟨by decide +kernel, rfl⟩
theorem k67_1_1 : Dc jdk_67_method_1_code 1 (.bipush 16) 2 3 := ⟨by decide +kernel, rfl⟩
theorem k67_1_3 : Dc jdk_67_method_1_code 3 (.invokespecial 1) 3 6 := ⟨by decide +kernel, rfl⟩
theorem k67_1_6 : Dc jdk_67_method_1_code 6 (.return_) 1 7 := ⟨by decide +kernel, rfl⟩
theorem k67_93_0 : Dc jdk_67_method_93_code 0 (.aload_n 0) 1 1 := ⟨by decide +kernel, rfl⟩
theorem k67_93_1 : Dc jdk_67_method_93_code 1 (.invokespecial 343) 3 4 := ⟨by decide +kernel, rfl⟩
theorem k67_93_4 : Dc jdk_67_method_93_code 4 (.ireturn) 1 5 := ⟨by decide +kernel, rfl⟩
theorem k68_2_0 : Dc jdk_68_method_2_code 0 (.aload_n 0) 1 1 := ⟨by decide +kernel, rfl⟩
theorem k68_2_1 : Dc jdk_68_method_2_code 1 (.invokespecial 3) 3 4 := ⟨by decide +kernel, rfl⟩
theorem k68_2_4 : Dc jdk_68_method_2_code 4 (.getstatic 18) 3 7 := ⟨by decide +kernel, rfl⟩
theorem k68_2_7 : Bc jdk_68_method_2_code 7 (.ifCond .eq) 25 10 := ⟨18, by decide +kernel, by decide, by decide, rfl⟩
theorem k68_2_10 : Dc jdk_68_method_2_code 10 (.aload_n 0) 1 11 := ⟨by decide +kernel, rfl⟩
theorem k68_2_11 : Dc jdk_68_method_2_code 11 (.iload_n 1) 1 12 := ⟨by decide +kernel, rfl⟩
theorem k68_2_12 : Dc jdk_68_method_2_code 12 (.newarray .byte) 2 14 := ⟨by decide +kernel, rfl⟩
theorem k68_2_14 : Dc jdk_68_method_2_code 14 (.putfield 15) 3 17 := ⟨by decide +kernel, rfl⟩
theorem k68_2_17 : Dc jdk_68_method_2_code 17 (.aload_n 0) 1 18 := ⟨by decide +kernel, rfl⟩
theorem k68_2_18 : Dc jdk_68_method_2_code 18 (.iconst 0) 1 19 := ⟨by decide +kernel, rfl⟩
theorem k68_2_19 : Dc jdk_68_method_2_code 19 (.putfield 22) 3 22 := ⟨by decide +kernel, rfl⟩
theorem k68_2_22 : Bc jdk_68_method_2_code 22 (.goto) 38 25 := ⟨16, by decide +kernel, by decide, by decide, rfl⟩
theorem k68_2_38 : Dc jdk_68_method_2_code 38 (.return_) 1 39 := ⟨by decide +kernel, rfl⟩
theorem k68_6_0 : Dc jdk_68_method_6_code 0 (.aload_n 0) 1 1 := ⟨by decide +kernel, rfl⟩
theorem k68_6_1 : Dc jdk_68_method_6_code 1 (.getfield 79) 3 4 := ⟨by decide +kernel, rfl⟩
theorem k68_6_4 : Dc jdk_68_method_6_code 4 (.ireturn) 1 5 := ⟨by decide +kernel, rfl⟩
theorem k92_1_0 : Dc jdk_92_method_1_code 0 (.iload_n 0) 1 1 := ⟨by decide +kernel, rfl⟩
theorem k92_1_1 : Dc jdk_92_method_1_code 1 (.bipush 6) 2 3 := ⟨by decide +kernel, rfl⟩
theorem k92_1_3 : Dc jdk_92_method_1_code 3 (.ishr) 1 4 := ⟨by decide +kernel, rfl⟩
theorem k92_1_4 : Dc jdk_92_method_1_code 4 (.ireturn) 1 5 := ⟨by decide +kernel, rfl⟩
theorem k92_4_0 : Dc jdk_92_method_4_code 0 (.aload_n 0) 1 1 := ⟨by decide +kernel, rfl⟩
theorem k92_4_1 : Dc jdk_92_method_4_code 1 (.invokespecial 21) 3 4 := ⟨by decide +kernel, rfl⟩
theorem k92_4_4 : Dc jdk_92_method_4_code 4 (.aload_n 0) 1 5 := ⟨by decide +kernel, rfl⟩
theorem k92_4_5 : Dc jdk_92_method_4_code 5 (.iconst 0) 1 6 := ⟨by decide +kernel, rfl⟩
theorem k92_4_6 : Dc jdk_92_method_4_code 6 (.putfield 7) 3 9 := ⟨by decide +kernel, rfl⟩
theorem k92_4_9 : Dc jdk_92_method_4_code 9 (.aload_n 0) 1 10 := ⟨by decide +kernel, rfl⟩
theorem k92_4_10 : Dc jdk_92_method_4_code 10 (.iconst 0) 1 11 := ⟨by decide +kernel, rfl⟩
theorem k92_4_11 : Dc jdk_92_method_4_code 11 (.putfield 24) 3 14 := ⟨by decide +kernel, rfl⟩
theorem k92_4_14 : Dc jdk_92_method_4_code 14 (.aload_n 0) 1 15 := ⟨by decide +kernel, rfl⟩
theorem k92_4_15 : Dc jdk_92_method_4_code 15 (.bipush 64) 2 17 := ⟨by decide +kernel, rfl⟩
theorem k92_4_17 : Dc jdk_92_method_4_code 17 (.invokevirtual 27) 3 20 := ⟨by decide +kernel, rfl⟩
theorem k92_4_20 : Dc jdk_92_method_4_code 20 (.aload_n 0) 1 21 := ⟨by decide +kernel, rfl⟩
theorem k92_4_21 : Dc jdk_92_method_4_code 21 (.iconst 0) 1 22 := ⟨by decide +kernel, rfl⟩
theorem k92_4_22 : Dc jdk_92_method_4_code 22 (.putfield 24) 3 25 := ⟨by decide +kernel, rfl⟩
theorem k92_4_25 : Dc jdk_92_method_4_code 25 (.return_) 1 26 := ⟨by decide +kernel, rfl⟩
theorem k92_6_0 : Dc jdk_92_method_6_code 0 (.aload_n 0) 1 1 := ⟨by decide +kernel, rfl⟩
theorem k92_6_1 : Dc jdk_92_method_6_code 1 (.iload_n 1) 1 2 := ⟨by decide +kernel, rfl⟩
theorem k92_6_2 : Dc jdk_92_method_6_code 2 (.iconst 1) 1 3 := ⟨by decide +kernel, rfl⟩
theorem k92_6_3 : Dc jdk_92_method_6_code 3 (.isub) 1 4 := ⟨by decide +kernel, rfl⟩
theorem k92_6_4 : Dc jdk_92_method_6_code 4 (.invokestatic 52) 3 7 := ⟨by decide +kernel, rfl⟩
theorem k92_6_7 : Dc jdk_92_method_6_code 7 (.iconst 1) 1 8 := ⟨by decide +kernel, rfl⟩
theorem k92_6_8 : Dc jdk_92_method_6_code 8 (.iadd) 1 9 := ⟨by decide +kernel, rfl⟩
theorem k92_6_9 : Dc jdk_92_method_6_code 9 (.newarray .long) 2 11 := ⟨by decide +kernel, rfl⟩
theorem k92_6_11 : Dc jdk_92_method_6_code 11 (.putfield 11) 3 14 := ⟨by decide +kernel, rfl⟩
theorem k92_6_14 : Dc jdk_92_method_6_code 14 (.return_) 1 15 := ⟨by decide +kernel, rfl⟩
theorem d3_0 : Dc method_3_code 0 (.iload_n 0) 1 1 := ⟨by decide +kernel, rfl⟩
theorem d3_1 : Dc method_3_code 1 (.iconst 4) 1 2 := ⟨by decide +kernel, rfl⟩
theorem d3_2 : Dc method_3_code 2 (.iand) 1 3 := ⟨by decide +kernel, rfl⟩
theorem d3_3 : Bc method_3_code 3 (.ifCond .eq) 15 6 := ⟨12, by decide +kernel, by decide, by decide, rfl⟩
theorem d3_6 : Dc method_3_code 6 (.iload_n 0) 1 7 := ⟨by decide +kernel, rfl⟩
theorem d3_7 : Dc method_3_code 7 (.iconst 3) 1 8 := ⟨by decide +kernel, rfl⟩
theorem d3_8 : Dc method_3_code 8 (.iushr) 1 9 := ⟨by decide +kernel, rfl⟩
theorem d3_9 : Dc method_3_code 9 (.ldc 46) 2 11 := ⟨by decide +kernel, rfl⟩
theorem d3_11 : Dc method_3_code 11 (.iand) 1 12 := ⟨by decide +kernel, rfl⟩
theorem d3_12 : Bc method_3_code 12 (.goto) 18 15 := ⟨6, by decide +kernel, by decide, by decide, rfl⟩
theorem d3_15 : Dc method_3_code 15 (.iload_n 0) 1 16 := ⟨by decide +kernel, rfl⟩
theorem d3_16 : Dc method_3_code 16 (.iconst 3) 1 17 := ⟨by decide +kernel, rfl⟩
theorem d3_17 : Dc method_3_code 17 (.iand) 1 18 := ⟨by decide +kernel, rfl⟩
theorem d3_18 : Dc method_3_code 18 (.ireturn) 1 19 := ⟨by decide +kernel, rfl⟩
theorem d4_0 : Dc method_4_code 0 (.iload_n 3) 1 1 := ⟨by decide +kernel, rfl⟩
theorem d4_1 : Bc method_4_code 1 (.ifCond .eq) 12 4 := ⟨11, by decide +kernel, by decide, by decide, rfl⟩
theorem d4_4 : Dc method_4_code 4 (.iload_n 1) 1 5 := ⟨by decide +kernel, rfl⟩
theorem d4_5 : Dc method_4_code 5 (.iconst 1) 1 6 := ⟨by decide +kernel, rfl⟩
theorem d4_6 : Dc method_4_code 6 (.isub) 1 7 := ⟨by decide +kernel, rfl⟩
theorem d4_7 : Dc method_4_code 7 (.iload_n 0) 1 8 := ⟨by decide +kernel, rfl⟩
theorem d4_8 : Dc method_4_code 8 (.isub) 1 9 := ⟨by decide +kernel, rfl⟩
theorem d4_9 : Bc method_4_code 9 (.goto) 13 12 := ⟨4, by decide +kernel, by decide, by decide, rfl⟩
theorem d4_12 : Dc method_4_code 12 (.iload_n 0) 1 13 := ⟨by decide +kernel, rfl⟩
theorem d4_13 : Dc method_4_code 13 (.istore 4) 2 15 := ⟨by decide +kernel, rfl⟩
theorem d4_15 : Dc method_4_code 15 (.iload 4) 2 17 := ⟨by decide +kernel, rfl⟩
theorem d4_17 : Dc method_4_code 17 (.iload_n 2) 1 18 := ⟨by decide +kernel, rfl⟩
theorem d4_18 : Dc method_4_code 18 (.iadd) 1 19 := ⟨by decide +kernel, rfl⟩
theorem d4_19 : Dc method_4_code 19 (.iload_n 1) 1 20 := ⟨by decide +kernel, rfl⟩
theorem d4_20 : Dc method_4_code 20 (.irem) 1 21 := ⟨by decide +kernel, rfl⟩
theorem d4_21 : Dc method_4_code 21 (.ireturn) 1 22 := ⟨by decide +kernel, rfl⟩
theorem q23_1_0 : Dc prog_23_method_1_code 0 (.aload_n 0) 1 1 := ⟨by decide +kernel, rfl⟩
theorem q23_1_1 : Dc prog_23_method_1_code 1 (.invokespecial 1) 3 4 := ⟨by decide +kernel, rfl⟩
theorem q23_1_4 : Dc prog_23_method_1_code 4 (.aload_n 0) 1 5 := ⟨by decide +kernel, rfl⟩
theorem q23_1_5 : Dc prog_23_method_1_code 5 (.new 7) 3 8 := ⟨by decide +kernel, rfl⟩
theorem q23_1_8 : Dc prog_23_method_1_code 8 (.dup) 1 9 := ⟨by decide +kernel, rfl⟩
theorem q23_1_9 : Dc prog_23_method_1_code 9 (.invokespecial 9) 3 12 := ⟨by decide +kernel, rfl⟩
theorem q23_1_12 : Dc prog_23_method_1_code 12 (.putfield 10) 3 15 := ⟨by decide +kernel, rfl⟩
theorem q23_1_15 : Dc prog_23_method_1_code 15 (.aload_n 0) 1 16 := ⟨by decide +kernel, rfl⟩
theorem q23_1_16 : Dc prog_23_method_1_code 16 (.bipush 64) 2 18 := ⟨by decide +kernel, rfl⟩
theorem q23_1_18 : Dc prog_23_method_1_code 18 (.newarray .int) 2 20 := ⟨by decide +kernel, rfl⟩
theorem q23_1_20 : Dc prog_23_method_1_code 20 (.putfield 16) 3 23 := ⟨by decide +kernel, rfl⟩
theorem q23_1_23 : Dc prog_23_method_1_code 23 (.aload_n 0) 1 24 := ⟨by decide +kernel, rfl⟩
theorem q23_1_24 : Dc prog_23_method_1_code 24 (.new 20) 3 27 := ⟨by decide +kernel, rfl⟩
theorem q23_1_27 : Dc prog_23_method_1_code 27 (.dup) 1 28 := ⟨by decide +kernel, rfl⟩
theorem q23_1_28 : Dc prog_23_method_1_code 28 (.invokespecial 22) 3 31 := ⟨by decide +kernel, rfl⟩
theorem q23_1_31 : Dc prog_23_method_1_code 31 (.putfield 23) 3 34 := ⟨by decide +kernel, rfl⟩
theorem q23_1_34 : Dc prog_23_method_1_code 34 (.return_) 1 35 := ⟨by decide +kernel, rfl⟩
theorem q23_2_0 : Dc prog_23_method_2_code 0 (.aload_n 0) 1 1 := ⟨by decide +kernel, rfl⟩
theorem q23_2_1 : Dc prog_23_method_2_code 1 (.getfield 27) 3 4 := ⟨by decide +kernel, rfl⟩
theorem q23_2_4 : Dc prog_23_method_2_code 4 (.aload_n 0) 1 5 := ⟨by decide +kernel, rfl⟩
theorem q23_2_5 : Dc prog_23_method_2_code 5 (.getfield 16) 3 8 := ⟨by decide +kernel, rfl⟩
theorem q23_2_8 : Dc prog_23_method_2_code 8 (.arraylength) 1 9 := ⟨by decide +kernel, rfl⟩
theorem q23_2_9 : Bc prog_23_method_2_code 9 (.if_icmp .ne) 29 12 := ⟨20, by decide +kernel, by decide, by decide, rfl⟩
theorem q23_2_29 : Dc prog_23_method_2_code 29 (.aload_n 1) 1 30 := ⟨by decide +kernel, rfl⟩
theorem q23_2_30 : Bc prog_23_method_2_code 30 (.ifnull) 53 33 := ⟨23, by decide +kernel, by decide, by decide, rfl⟩
theorem q23_2_53 : Dc prog_23_method_2_code 53 (.aload_n 0) 1 54 := ⟨by decide +kernel, rfl⟩
theorem q23_2_54 : Dc prog_23_method_2_code 54 (.getfield 16) 3 57 := ⟨by decide +kernel, rfl⟩
theorem q23_2_57 : Dc prog_23_method_2_code 57 (.aload_n 0) 1 58 := ⟨by decide +kernel, rfl⟩
theorem q23_2_58 : Dc prog_23_method_2_code 58 (.getfield 27) 3 61 := ⟨by decide +kernel, rfl⟩
theorem q23_2_61 : Dc prog_23_method_2_code 61 (.aload_n 0) 1 62 := ⟨by decide +kernel, rfl⟩
theorem q23_2_62 : Dc prog_23_method_2_code 62 (.getfield 10) 3 65 := ⟨by decide +kernel, rfl⟩
theorem q23_2_65 : Dc prog_23_method_2_code 65 (.invokevirtual 45) 3 68 := ⟨by decide +kernel, rfl⟩
theorem q23_2_68 : Dc prog_23_method_2_code 68 (.iastore) 1 69 := ⟨by decide +kernel, rfl⟩
theorem q23_2_69 : Dc prog_23_method_2_code 69 (.aload_n 0) 1 70 := ⟨by decide +kernel, rfl⟩
theorem q23_2_70 : Dc prog_23_method_2_code 70 (.dup) 1 71 := ⟨by decide +kernel, rfl⟩
theorem q23_2_71 : Dc prog_23_method_2_code 71 (.getfield 27) 3 74 := ⟨by decide +kernel, rfl⟩
theorem q23_2_74 : Dc prog_23_method_2_code 74 (.iconst 1) 1 75 := ⟨by decide +kernel, rfl⟩
theorem q23_2_75 : Dc prog_23_method_2_code 75 (.iadd) 1 76 := ⟨by decide +kernel, rfl⟩
theorem q23_2_76 : Dc prog_23_method_2_code 76 (.putfield 27) 3 79 := ⟨by decide +kernel, rfl⟩
theorem q23_2_79 : Dc prog_23_method_2_code 79 (.return_) 1 80 := ⟨by decide +kernel, rfl⟩
theorem q7_1_0 : Dc prog_7_method_1_code 0 (.aload_n 0) 1 1 := ⟨by decide +kernel, rfl⟩
theorem q7_1_1 : Dc prog_7_method_1_code 1 (.invokespecial 3) 3 4 := ⟨by decide +kernel, rfl⟩
theorem q7_1_4 : Dc prog_7_method_1_code 4 (.aload_n 0) 1 5 := ⟨by decide +kernel, rfl⟩
theorem q7_1_5 : Dc prog_7_method_1_code 5 (.bipush 64) 2 7 := ⟨by decide +kernel, rfl⟩
theorem q7_1_7 : Dc prog_7_method_1_code 7 (.newarray .int) 2 9 := ⟨by decide +kernel, rfl⟩
theorem q7_1_9 : Dc prog_7_method_1_code 9 (.putfield 9) 3 12 := ⟨by decide +kernel, rfl⟩
theorem q7_1_12 : Dc prog_7_method_1_code 12 (.aload_n 0) 1 13 := ⟨by decide +kernel, rfl⟩
theorem q7_1_13 : Dc prog_7_method_1_code 13 (.bipush 64) 2 15 := ⟨by decide +kernel, rfl⟩
theorem q7_1_15 : Dc prog_7_method_1_code 15 (.newarray .int) 2 17 := ⟨by decide +kernel, rfl⟩
theorem q7_1_17 : Dc prog_7_method_1_code 17 (.putfield 15) 3 20 := ⟨by decide +kernel, rfl⟩
theorem q7_1_20 : Dc prog_7_method_1_code 20 (.aload_n 0) 1 21 := ⟨by decide +kernel, rfl⟩
theorem q7_1_21 : Dc prog_7_method_1_code 21 (.new 18) 3 24 := ⟨by decide +kernel, rfl⟩
theorem q7_1_24 : Dc prog_7_method_1_code 24 (.dup) 1 25 := ⟨by decide +kernel, rfl⟩
theorem q7_1_25 : Dc prog_7_method_1_code 25 (.invokespecial 20) 3 28 := ⟨by decide +kernel, rfl⟩
theorem q7_1_28 : Dc prog_7_method_1_code 28 (.putfield 21) 3 31 := ⟨by decide +kernel, rfl⟩
theorem q7_1_31 : Dc prog_7_method_1_code 31 (.aload_n 0) 1 32 := ⟨by decide +kernel, rfl⟩
theorem q7_1_32 : Dc prog_7_method_1_code 32 (.new 25) 3 35 := ⟨by decide +kernel, rfl⟩
theorem q7_1_35 : Dc prog_7_method_1_code 35 (.dup) 1 36 := ⟨by decide +kernel, rfl⟩
theorem q7_1_36 : Dc prog_7_method_1_code 36 (.invokespecial 27) 3 39 := ⟨by decide +kernel, rfl⟩
theorem q7_1_39 : Dc prog_7_method_1_code 39 (.putfield 28) 3 42 := ⟨by decide +kernel, rfl⟩
theorem q7_1_42 : Dc prog_7_method_1_code 42 (.aload_n 0) 1 43 := ⟨by decide +kernel, rfl⟩
theorem q7_1_43 : Dc prog_7_method_1_code 43 (.bipush 64) 2 45 := ⟨by decide +kernel, rfl⟩
theorem q7_1_45 : Dc prog_7_method_1_code 45 (.newarray .int) 2 47 := ⟨by decide +kernel, rfl⟩
theorem q7_1_47 : Dc prog_7_method_1_code 47 (.putfield 32) 3 50 := ⟨by decide +kernel, rfl⟩
theorem q7_1_50 : Dc prog_7_method_1_code 50 (.aload_n 0) 1 51 := ⟨by decide +kernel, rfl⟩
theorem q7_1_51 : Dc prog_7_method_1_code 51 (.bipush 64) 2 53 := ⟨by decide +kernel, rfl⟩
theorem q7_1_53 : Dc prog_7_method_1_code 53 (.newarray .int) 2 55 := ⟨by decide +kernel, rfl⟩
theorem q7_1_55 : Dc prog_7_method_1_code 55 (.putfield 35) 3 58 := ⟨by decide +kernel, rfl⟩
theorem q7_1_58 : Dc prog_7_method_1_code 58 (.aload_n 0) 1 59 := ⟨by decide +kernel, rfl⟩
theorem q7_1_59 : Dc prog_7_method_1_code 59 (.bipush 64) 2 61 := ⟨by decide +kernel, rfl⟩
theorem q7_1_61 : Dc prog_7_method_1_code 61 (.newarray .int) 2 63 := ⟨by decide +kernel, rfl⟩
theorem q7_1_63 : Dc prog_7_method_1_code 63 (.putfield 38) 3 66 := ⟨by decide +kernel, rfl⟩
theorem q7_1_66 : Dc prog_7_method_1_code 66 (.aload_n 0) 1 67 := ⟨by decide +kernel, rfl⟩
theorem q7_1_67 : Dc prog_7_method_1_code 67 (.sipush 256) 3 70 := ⟨by decide +kernel, rfl⟩
theorem q7_1_70 : Dc prog_7_method_1_code 70 (.newarray .int) 2 72 := ⟨by decide +kernel, rfl⟩
theorem q7_1_72 : Dc prog_7_method_1_code 72 (.putfield 41) 3 75 := ⟨by decide +kernel, rfl⟩
theorem q7_1_75 : Dc prog_7_method_1_code 75 (.aload_n 0) 1 76 := ⟨by decide +kernel, rfl⟩
theorem q7_1_76 : Dc prog_7_method_1_code 76 (.sipush 256) 3 79 := ⟨by decide +kernel, rfl⟩
theorem q7_1_79 : Dc prog_7_method_1_code 79 (.newarray .int) 2 81 := ⟨by decide +kernel, rfl⟩
theorem q7_1_81 : Dc prog_7_method_1_code 81 (.putfield 44) 3 84 := ⟨by decide +kernel, rfl⟩
theorem q7_1_84 : Dc prog_7_method_1_code 84 (.aload_n 0) 1 85 := ⟨by decide +kernel, rfl⟩
theorem q7_1_85 : Dc prog_7_method_1_code 85 (.sipush 256) 3 88 := ⟨by decide +kernel, rfl⟩
theorem q7_1_88 : Dc prog_7_method_1_code 88 (.newarray .int) 2 90 := ⟨by decide +kernel, rfl⟩
theorem q7_1_90 : Dc prog_7_method_1_code 90 (.putfield 47) 3 93 := ⟨by decide +kernel, rfl⟩
theorem q7_1_93 : Dc prog_7_method_1_code 93 (.aload_n 0) 1 94 := ⟨by decide +kernel, rfl⟩
theorem q7_1_94 : Dc prog_7_method_1_code 94 (.getstatic 50) 3 97 := ⟨by decide +kernel, rfl⟩
theorem q7_1_97 : Dc prog_7_method_1_code 97 (.putfield 54) 3 100 := ⟨by decide +kernel, rfl⟩
theorem q7_1_100 : Dc prog_7_method_1_code 100 (.aload_n 0) 1 101 := ⟨by decide +kernel, rfl⟩
theorem q7_1_101 : Dc prog_7_method_1_code 101 (.aload_n 1) 1 102 := ⟨by decide +kernel, rfl⟩
theorem q7_1_102 : Dc prog_7_method_1_code 102 (.putfield 57) 3 105 := ⟨by decide +kernel, rfl⟩
theorem q7_1_105 : Dc prog_7_method_1_code 105 (.aload_n 0) 1 106 := ⟨by decide +kernel, rfl⟩
theorem q7_1_106 : Dc prog_7_method_1_code 106 (.iload_n 2) 1 107 := ⟨by decide +kernel, rfl⟩
theorem q7_1_107 : Dc prog_7_method_1_code 107 (.putfield 61) 3 110 := ⟨by decide +kernel, rfl⟩
theorem q7_1_110 : Dc prog_7_method_1_code 110 (.return_) 1 111 := ⟨by decide +kernel, rfl⟩
theorem q7_2_0 : Dc prog_7_method_2_code 0 (.aload_n 0) 1 1 := ⟨by decide +kernel, rfl⟩
theorem q7_2_1 : Dc prog_7_method_2_code 1 (.getfield 65) 3 4 := ⟨by decide +kernel, rfl⟩
theorem q7_2_4 : Dc prog_7_method_2_code 4 (.aload_n 0) 1 5 := ⟨by decide +kernel, rfl⟩
theorem q7_2_5 : Dc prog_7_method_2_code 5 (.getfield 9) 3 8 := ⟨by decide +kernel, rfl⟩
theorem q7_2_8 : Dc prog_7_method_2_code 8 (.arraylength) 1 9 := ⟨by decide +kernel, rfl⟩
theorem q7_2_9 : Bc prog_7_method_2_code 9 (.if_icmp .ne) 72 12 := ⟨63, by decide +kernel, by decide, by decide, rfl⟩
theorem q7_2_72 : Dc prog_7_method_2_code 72 (.aload_n 0) 1 73 := ⟨by decide +kernel, rfl⟩
theorem q7_2_73 : Dc prog_7_method_2_code 73 (.getfield 38) 3 76 := ⟨by decide +kernel, rfl⟩
theorem q7_2_76 : Dc prog_7_method_2_code 76 (.arraylength) 1 77 := ⟨by decide +kernel, rfl⟩
theorem q7_2_77 : Dc prog_7_method_2_code 77 (.aload_n 0) 1 78 := ⟨by decide +kernel, rfl⟩
theorem q7_2_78 : Dc prog_7_method_2_code 78 (.getfield 74) 3 81 := ⟨by decide +kernel, rfl⟩
theorem q7_2_81 : Dc prog_7_method_2_code 81 (.isub) 1 82 := ⟨by decide +kernel, rfl⟩
theorem q7_2_82 : Dc prog_7_method_2_code 82 (.aload 5) 2 84 := ⟨by decide +kernel, rfl⟩
theorem q7_2_84 : Dc prog_7_method_2_code 84 (.arraylength) 1 85 := ⟨by decide +kernel, rfl⟩
theorem q7_2_85 : Bc prog_7_method_2_code 85 (.if_icmp .ge) 109 88 := ⟨24, by decide +kernel, by decide, by decide, rfl⟩
theorem q7_2_109 : Dc prog_7_method_2_code 109 (.aload_n 0) 1 110 := ⟨by decide +kernel, rfl⟩
theorem q7_2_110 : Dc prog_7_method_2_code 110 (.getfield 9) 3 113 := ⟨by decide +kernel, rfl⟩
theorem q7_2_113 : Dc prog_7_method_2_code 113 (.aload_n 0) 1 114 := ⟨by decide +kernel, rfl⟩
theorem q7_2_114 : Dc prog_7_method_2_code 114 (.getfield 65) 3 117 := ⟨by decide +kernel, rfl⟩
theorem q7_2_117 : Dc prog_7_method_2_code 117 (.iload_n 1) 1 118 := ⟨by decide +kernel, rfl⟩
theorem q7_2_118 : Dc prog_7_method_2_code 118 (.iastore) 1 119 := ⟨by decide +kernel, rfl⟩
theorem q7_2_119 : Dc prog_7_method_2_code 119 (.aload_n 0) 1 120 := ⟨by decide +kernel, rfl⟩
theorem q7_2_120 : Dc prog_7_method_2_code 120 (.getfield 15) 3 123 := ⟨by decide +kernel, rfl⟩
theorem q7_2_123 : Dc prog_7_method_2_code 123 (.aload_n 0) 1 124 := ⟨by decide +kernel, rfl⟩
theorem q7_2_124 : Dc prog_7_method_2_code 124 (.getfield 65) 3 127 := ⟨by decide +kernel, rfl⟩
theorem q7_2_127 : Dc prog_7_method_2_code 127 (.iload_n 3) 1 128 := ⟨by decide +kernel, rfl⟩
theorem q7_2_128 : Dc prog_7_method_2_code 128 (.iastore) 1 129 := ⟨by decide +kernel, rfl⟩
theorem q7_2_129 : Dc prog_7_method_2_code 129 (.aload_n 2) 1 130 := ⟨by decide +kernel, rfl⟩
theorem q7_2_130 : Dc prog_7_method_2_code 130 (.getstatic 77) 3 133 := ⟨by decide +kernel, rfl⟩
theorem q7_2_133 : Bc prog_7_method_2_code 133 (.if_acmp .ne) 147 136 := ⟨14, by decide +kernel, by decide, by decide, rfl⟩
theorem q7_2_147 : Dc prog_7_method_2_code 147 (.aload_n 0) 1 148 := ⟨by decide +kernel, rfl⟩
theorem q7_2_148 : Dc prog_7_method_2_code 148 (.getfield 28) 3 151 := ⟨by decide +kernel, rfl⟩
theorem q7_2_151 : Dc prog_7_method_2_code 151 (.aload 4) 2 153 := ⟨by decide +kernel, rfl⟩
theorem q7_2_153 : Dc prog_7_method_2_code 153 (.invokevirtual 87) 3 156 := ⟨by decide +kernel, rfl⟩
theorem q7_2_156 : Dc prog_7_method_2_code 156 (.aload_n 0) 1 157 := ⟨by decide +kernel, rfl⟩
theorem q7_2_157 : Dc prog_7_method_2_code 157 (.getfield 32) 3 160 := ⟨by decide +kernel, rfl⟩
theorem q7_2_160 : Dc prog_7_method_2_code 160 (.aload_n 0) 1 161 := ⟨by decide +kernel, rfl⟩
theorem q7_2_161 : Dc prog_7_method_2_code 161 (.getfield 65) 3 164 := ⟨by decide +kernel, rfl⟩
theorem q7_2_164 : Dc prog_7_method_2_code 164 (.iload 6) 2 166 := ⟨by decide +kernel, rfl⟩
theorem q7_2_166 : Dc prog_7_method_2_code 166 (.iastore) 1 167 := ⟨by decide +kernel, rfl⟩
theorem q7_2_167 : Dc prog_7_method_2_code 167 (.aload 5) 2 169 := ⟨by decide +kernel, rfl⟩
theorem q7_2_169 : Dc prog_7_method_2_code 169 (.iconst 0) 1 170 := ⟨by decide +kernel, rfl⟩
theorem q7_2_170 : Dc prog_7_method_2_code 170 (.aload_n 0) 1 171 := ⟨by decide +kernel, rfl⟩
theorem q7_2_171 : Dc prog_7_method_2_code 171 (.getfield 38) 3 174 := ⟨by decide +kernel, rfl⟩
theorem q7_2_174 : Dc prog_7_method_2_code 174 (.aload_n 0) 1 175 := ⟨by decide +kernel, rfl⟩
theorem q7_2_175 : Dc prog_7_method_2_code 175 (.getfield 74) 3 178 := ⟨by decide +kernel, rfl⟩
theorem q7_2_178 : Dc prog_7_method_2_code 178 (.aload 5) 2 180 := ⟨by decide +kernel, rfl⟩
theorem q7_2_180 : Dc prog_7_method_2_code 180 (.arraylength) 1 181 := ⟨by decide +kernel, rfl⟩
theorem q7_2_181 : Dc prog_7_method_2_code 181 (.invokestatic 91) 3 184 := ⟨by decide +kernel, rfl⟩
theorem q7_2_184 : Dc prog_7_method_2_code 184 (.aload_n 0) 1 185 := ⟨by decide +kernel, rfl⟩
theorem q7_2_185 : Dc prog_7_method_2_code 185 (.dup) 1 186 := ⟨by decide +kernel, rfl⟩
theorem q7_2_186 : Dc prog_7_method_2_code 186 (.getfield 74) 3 189 := ⟨by decide +kernel, rfl⟩
theorem q7_2_189 : Dc prog_7_method_2_code 189 (.aload 5) 2 191 := ⟨by decide +kernel, rfl⟩
theorem q7_2_191 : Dc prog_7_method_2_code 191 (.arraylength) 1 192 := ⟨by decide +kernel, rfl⟩
theorem q7_2_192 : Dc prog_7_method_2_code 192 (.iadd) 1 193 := ⟨by decide +kernel, rfl⟩
theorem q7_2_193 : Dc prog_7_method_2_code 193 (.putfield 74) 3 196 := ⟨by decide +kernel, rfl⟩
theorem q7_2_196 : Dc prog_7_method_2_code 196 (.aload_n 0) 1 197 := ⟨by decide +kernel, rfl⟩
theorem q7_2_197 : Dc prog_7_method_2_code 197 (.getfield 35) 3 200 := ⟨by decide +kernel, rfl⟩
theorem q7_2_200 : Dc prog_7_method_2_code 200 (.aload_n 0) 1 201 := ⟨by decide +kernel, rfl⟩
theorem q7_2_201 : Dc prog_7_method_2_code 201 (.getfield 65) 3 204 := ⟨by decide +kernel, rfl⟩
theorem q7_2_204 : Dc prog_7_method_2_code 204 (.aload_n 0) 1 205 := ⟨by decide +kernel, rfl⟩
theorem q7_2_205 : Dc prog_7_method_2_code 205 (.getfield 74) 3 208 := ⟨by decide +kernel, rfl⟩
theorem q7_2_208 : Dc prog_7_method_2_code 208 (.iastore) 1 209 := ⟨by decide +kernel, rfl⟩
theorem q7_2_209 : Dc prog_7_method_2_code 209 (.aload_n 0) 1 210 := ⟨by decide +kernel, rfl⟩
theorem q7_2_210 : Dc prog_7_method_2_code 210 (.dup) 1 211 := ⟨by decide +kernel, rfl⟩
theorem q7_2_211 : Dc prog_7_method_2_code 211 (.getfield 65) 3 214 := ⟨by decide +kernel, rfl⟩
theorem q7_2_214 : Dc prog_7_method_2_code 214 (.iconst 1) 1 215 := ⟨by decide +kernel, rfl⟩
theorem q7_2_215 : Dc prog_7_method_2_code 215 (.iadd) 1 216 := ⟨by decide +kernel, rfl⟩
theorem q7_2_216 : Dc prog_7_method_2_code 216 (.putfield 65) 3 219 := ⟨by decide +kernel, rfl⟩
theorem q7_2_219 : Dc prog_7_method_2_code 219 (.return_) 1 220 := ⟨by decide +kernel, rfl⟩
theorem q7_6_0 : Dc prog_7_method_6_code 0 (.aload_n 0) 1 1 := ⟨by decide +kernel, rfl⟩
theorem q7_6_1 : Dc prog_7_method_6_code 1 (.aload_n 0) 1 2 := ⟨by decide +kernel, rfl⟩
theorem q7_6_2 : Dc prog_7_method_6_code 2 (.getfield 65) 3 5 := ⟨by decide +kernel, rfl⟩
theorem q7_6_5 : Dc prog_7_method_6_code 5 (.newarray .long) 2 7 := ⟨by decide +kernel, rfl⟩
theorem q7_6_7 : Dc prog_7_method_6_code 7 (.putfield 127) 3 10 := ⟨by decide +kernel, rfl⟩
theorem q7_6_10 : Dc prog_7_method_6_code 10 (.iconst 0) 1 11 := ⟨by decide +kernel, rfl⟩
theorem q7_6_11 : Dc prog_7_method_6_code 11 (.istore_n 1) 1 12 := ⟨by decide +kernel, rfl⟩
theorem q7_6_12 : Dc prog_7_method_6_code 12 (.iload_n 1) 1 13 := ⟨by decide +kernel, rfl⟩
theorem q7_6_13 : Dc prog_7_method_6_code 13 (.aload_n 0) 1 14 := ⟨by decide +kernel, rfl⟩
theorem q7_6_14 : Dc prog_7_method_6_code 14 (.getfield 65) 3 17 := ⟨by decide +kernel, rfl⟩
theorem q7_6_17 : Bc prog_7_method_6_code 17 (.if_icmp .ge) 45 20 := ⟨28, by decide +kernel, by decide, by decide, rfl⟩
theorem q7_6_20 : Dc prog_7_method_6_code 20 (.aload_n 0) 1 21 := ⟨by decide +kernel, rfl⟩
theorem q7_6_21 : Dc prog_7_method_6_code 21 (.getfield 127) 3 24 := ⟨by decide +kernel, rfl⟩
theorem q7_6_24 : Dc prog_7_method_6_code 24 (.iload_n 1) 1 25 := ⟨by decide +kernel, rfl⟩
theorem q7_6_25 : Dc prog_7_method_6_code 25 (.aload_n 0) 1 26 := ⟨by decide +kernel, rfl⟩
theorem q7_6_26 : Dc prog_7_method_6_code 26 (.getfield 9) 3 29 := ⟨by decide +kernel, rfl⟩
theorem q7_6_29 : Dc prog_7_method_6_code 29 (.iload_n 1) 1 30 := ⟨by decide +kernel, rfl⟩
theorem q7_6_30 : Dc prog_7_method_6_code 30 (.iaload) 1 31 := ⟨by decide +kernel, rfl⟩
theorem q7_6_31 : Dc prog_7_method_6_code 31 (.i2l) 1 32 := ⟨by decide +kernel, rfl⟩
theorem q7_6_32 : Dc prog_7_method_6_code 32 (.bipush 32) 2 34 := ⟨by decide +kernel, rfl⟩
theorem q7_6_34 : Dc prog_7_method_6_code 34 (.lshl) 1 35 := ⟨by decide +kernel, rfl⟩
theorem q7_6_35 : Dc prog_7_method_6_code 35 (.iload_n 1) 1 36 := ⟨by decide +kernel, rfl⟩
theorem q7_6_36 : Dc prog_7_method_6_code 36 (.i2l) 1 37 := ⟨by decide +kernel, rfl⟩
theorem q7_6_37 : Dc prog_7_method_6_code 37 (.lor) 1 38 := ⟨by decide +kernel, rfl⟩
theorem q7_6_38 : Dc prog_7_method_6_code 38 (.lastore) 1 39 := ⟨by decide +kernel, rfl⟩
theorem q7_6_39 : Dc prog_7_method_6_code 39 (.iinc 1 1) 3 42 := ⟨by decide +kernel, rfl⟩
theorem q7_6_42 : Bc prog_7_method_6_code 42 (.goto) 12 45 := ⟨(-30), by decide +kernel, by decide, by decide, rfl⟩
theorem q7_6_45 : Dc prog_7_method_6_code 45 (.aload_n 0) 1 46 := ⟨by decide +kernel, rfl⟩
theorem q7_6_46 : Dc prog_7_method_6_code 46 (.getfield 127) 3 49 := ⟨by decide +kernel, rfl⟩
theorem q7_6_49 : Dc prog_7_method_6_code 49 (.invokestatic 130) 3 52 := ⟨by decide +kernel, rfl⟩
theorem q7_6_52 : Dc prog_7_method_6_code 52 (.iconst (-1)) 1 53 := ⟨by decide +kernel, rfl⟩
theorem q7_6_53 : Dc prog_7_method_6_code 53 (.istore_n 1) 1 54 := ⟨by decide +kernel, rfl⟩
theorem q7_6_54 : Dc prog_7_method_6_code 54 (.iconst (-1)) 1 55 := ⟨by decide +kernel, rfl⟩
theorem q7_6_55 : Dc prog_7_method_6_code 55 (.istore_n 2) 1 56 := ⟨by decide +kernel, rfl⟩
theorem q7_6_56 : Dc prog_7_method_6_code 56 (.iconst 1) 1 57 := ⟨by decide +kernel, rfl⟩
theorem q7_6_57 : Dc prog_7_method_6_code 57 (.istore_n 3) 1 58 := ⟨by decide +kernel, rfl⟩
theorem q7_6_58 : Dc prog_7_method_6_code 58 (.iload_n 3) 1 59 := ⟨by decide +kernel, rfl⟩
theorem q7_6_59 : Dc prog_7_method_6_code 59 (.aload_n 0) 1 60 := ⟨by decide +kernel, rfl⟩
theorem q7_6_60 : Dc prog_7_method_6_code 60 (.getfield 65) 3 63 := ⟨by decide +kernel, rfl⟩
theorem q7_6_63 : Bc prog_7_method_6_code 63 (.if_icmp .ge) 140 66 := ⟨77, by decide +kernel, by decide, by decide, rfl⟩
theorem q7_6_66 : Dc prog_7_method_6_code 66 (.aload_n 0) 1 67 := ⟨by decide +kernel, rfl⟩
theorem q7_6_67 : Dc prog_7_method_6_code 67 (.getfield 127) 3 70 := ⟨by decide +kernel, rfl⟩
theorem q7_6_70 : Dc prog_7_method_6_code 70 (.iload_n 3) 1 71 := ⟨by decide +kernel, rfl⟩
theorem q7_6_71 : Dc prog_7_method_6_code 71 (.laload) 1 72 := ⟨by decide +kernel, rfl⟩
theorem q7_6_72 : Dc prog_7_method_6_code 72 (.l2i) 1 73 := ⟨by decide +kernel, rfl⟩
theorem q7_6_73 : Dc prog_7_method_6_code 73 (.istore 4) 2 75 := ⟨by decide +kernel, rfl⟩
theorem q7_6_75 : Dc prog_7_method_6_code 75 (.aload_n 0) 1 76 := ⟨by decide +kernel, rfl⟩
theorem q7_6_76 : Dc prog_7_method_6_code 76 (.getfield 127) 3 79 := ⟨by decide +kernel, rfl⟩
theorem q7_6_79 : Dc prog_7_method_6_code 79 (.iload_n 3) 1 80 := ⟨by decide +kernel, rfl⟩
theorem q7_6_80 : Dc prog_7_method_6_code 80 (.laload) 1 81 := ⟨by decide +kernel, rfl⟩
theorem q7_6_81 : Dc prog_7_method_6_code 81 (.bipush 32) 2 83 := ⟨by decide +kernel, rfl⟩
theorem q7_6_83 : Dc prog_7_method_6_code 83 (.lushr) 1 84 := ⟨by decide +kernel, rfl⟩
theorem q7_6_84 : Dc prog_7_method_6_code 84 (.aload_n 0) 1 85 := ⟨by decide +kernel, rfl⟩
theorem q7_6_85 : Dc prog_7_method_6_code 85 (.getfield 127) 3 88 := ⟨by decide +kernel, rfl⟩
theorem q7_6_88 : Dc prog_7_method_6_code 88 (.iload_n 3) 1 89 := ⟨by decide +kernel, rfl⟩
theorem q7_6_89 : Dc prog_7_method_6_code 89 (.iconst 1) 1 90 := ⟨by decide +kernel, rfl⟩
theorem q7_6_90 : Dc prog_7_method_6_code 90 (.isub) 1 91 := ⟨by decide +kernel, rfl⟩
theorem q7_6_91 : Dc prog_7_method_6_code 91 (.laload) 1 92 := ⟨by decide +kernel, rfl⟩
theorem q7_6_92 : Dc prog_7_method_6_code 92 (.bipush 32) 2 94 := ⟨by decide +kernel, rfl⟩
theorem q7_6_94 : Dc prog_7_method_6_code 94 (.lushr) 1 95 := ⟨by decide +kernel, rfl⟩
theorem q7_6_95 : Dc prog_7_method_6_code 95 (.lcmp) 1 96 := ⟨by decide +kernel, rfl⟩
theorem q7_6_96 : Bc prog_7_method_6_code 96 (.ifCond .ne) 103 99 := ⟨7, by decide +kernel, by decide, by decide, rfl⟩
theorem q7_6_103 : Dc prog_7_method_6_code 103 (.iconst 0) 1 104 := ⟨by decide +kernel, rfl⟩
theorem q7_6_104 : Dc prog_7_method_6_code 104 (.istore 5) 2 106 := ⟨by decide +kernel, rfl⟩
theorem q7_6_106 : Dc prog_7_method_6_code 106 (.iload 5) 2 108 := ⟨by decide +kernel, rfl⟩
theorem q7_6_108 : Bc prog_7_method_6_code 108 (.ifCond .eq) 134 111 := ⟨26, by decide +kernel, by decide, by decide, rfl⟩
theorem q7_6_134 : Dc prog_7_method_6_code 134 (.iinc 3 1) 3 137 := ⟨by decide +kernel, rfl⟩
theorem q7_6_137 : Bc prog_7_method_6_code 137 (.goto) 58 140 := ⟨(-79), by decide +kernel, by decide, by decide, rfl⟩
theorem q7_6_140 : Dc prog_7_method_6_code 140 (.iload_n 1) 1 141 := ⟨by decide +kernel, rfl⟩
theorem q7_6_141 : Bc prog_7_method_6_code 141 (.ifCond .lt) 179 144 := ⟨38, by decide +kernel, by decide, by decide, rfl⟩
theorem q7_6_179 : Dc prog_7_method_6_code 179 (.return_) 1 180 := ⟨by decide +kernel, rfl⟩
theorem q7_7_0 : Dc prog_7_method_7_code 0 (.iconst 0) 1 1 := ⟨by decide +kernel, rfl⟩
theorem q7_7_1 : Dc prog_7_method_7_code 1 (.istore_n 1) 1 2 := ⟨by decide +kernel, rfl⟩
theorem q7_7_2 : Dc prog_7_method_7_code 2 (.iload_n 1) 1 3 := ⟨by decide +kernel, rfl⟩
theorem q7_7_3 : Dc prog_7_method_7_code 3 (.aload_n 0) 1 4 := ⟨by decide +kernel, rfl⟩
theorem q7_7_4 : Dc prog_7_method_7_code 4 (.getfield 65) 3 7 := ⟨by decide +kernel, rfl⟩
theorem q7_7_7 : Bc prog_7_method_7_code 7 (.if_icmp .ge) 31 10 := ⟨24, by decide +kernel, by decide, by decide, rfl⟩
theorem q7_7_10 : Dc prog_7_method_7_code 10 (.aload_n 0) 1 11 := ⟨by decide +kernel, rfl⟩
theorem q7_7_11 : Dc prog_7_method_7_code 11 (.getfield 127) 3 14 := ⟨by decide +kernel, rfl⟩
theorem q7_7_14 : Dc prog_7_method_7_code 14 (.iload_n 1) 1 15 := ⟨by decide +kernel, rfl⟩
theorem q7_7_15 : Dc prog_7_method_7_code 15 (.laload) 1 16 := ⟨by decide +kernel, rfl⟩
theorem q7_7_16 : Dc prog_7_method_7_code 16 (.bipush 32) 2 18 := ⟨by decide +kernel, rfl⟩
theorem q7_7_18 : Dc prog_7_method_7_code 18 (.lushr) 1 19 := ⟨by decide +kernel, rfl⟩
theorem q7_7_19 : Dc prog_7_method_7_code 19 (.iload_n 1) 1 20 := ⟨by decide +kernel, rfl⟩
theorem q7_7_20 : Dc prog_7_method_7_code 20 (.i2l) 1 21 := ⟨by decide +kernel, rfl⟩
theorem q7_7_21 : Dc prog_7_method_7_code 21 (.lcmp) 1 22 := ⟨by decide +kernel, rfl⟩
theorem q7_7_22 : Bc prog_7_method_7_code 22 (.ifCond .ne) 31 25 := ⟨9, by decide +kernel, by decide, by decide, rfl⟩
theorem q7_7_25 : Dc prog_7_method_7_code 25 (.iinc 1 1) 3 28 := ⟨by decide +kernel, rfl⟩
theorem q7_7_28 : Bc prog_7_method_7_code 28 (.goto) 2 31 := ⟨(-26), by decide +kernel, by decide, by decide, rfl⟩
theorem q7_7_31 : Dc prog_7_method_7_code 31 (.iload_n 1) 1 32 := ⟨by decide +kernel, rfl⟩
theorem q7_7_32 : Dc prog_7_method_7_code 32 (.ireturn) 1 33 := ⟨by decide +kernel, rfl⟩
theorem pd_0 : parseMethodDescriptor "(I)I" = some ⟨[.int], some .int⟩ := by decide +kernel
theorem pd_1 : parseMethodDescriptor "(I)V" = some ⟨[.int], none⟩ := by decide +kernel
theorem pd_2 : parseMethodDescriptor "()V" = some ⟨[], none⟩ := by decide +kernel
theorem pd_3 : parseMethodDescriptor "()I" = some ⟨[], some .int⟩ := by decide +kernel
theorem pd_4 : parseMethodDescriptor "(Ljava/lang/CharSequence;)V" = some ⟨[(.object "java/lang/CharSequence")], none⟩ := by decide +kernel
theorem pd_5 : parseMethodDescriptor "([JII)V" = some ⟨[(.array .long), .int, .int], none⟩ := by decide +kernel
theorem pd_6 : parseMethodDescriptor "(Ljava/util/DualPivotQuicksort$Sorter;[JIII)V" = some ⟨[(.object "java/util/DualPivotQuicksort$Sorter"), (.array .long), .int, .int, .int], none⟩ := by decide +kernel
theorem pd_7 : parseMethodDescriptor "([JIII)V" = some ⟨[(.array .long), .int, .int, .int], none⟩ := by decide +kernel
theorem pd_8 : parseMethodDescriptor "([J)V" = some ⟨[(.array .long)], none⟩ := by decide +kernel
theorem pd_9 : parseMethodDescriptor "(Ljava/lang/String;I)V" = some ⟨[(.object "java/lang/String"), .int], none⟩ := by decide +kernel
theorem pd_10 : parseMethodDescriptor "(IIIZ)I" = some ⟨[.int, .int, .int, .boolean], some .int⟩ := by decide +kernel
theorem pd_11 : parseMethodDescriptor "(ILcom/example/flicker/flicker/game/Player;ILjava/lang/CharSequence;[II)V" = some ⟨[.int, (.object "com/example/flicker/flicker/game/Player"), .int, (.object "java/lang/CharSequence"), (.array .int), .int], none⟩ := by decide +kernel
theorem pn_0 : plainName "com/example/flicker/flicker/game/GameBuilderFirstMissingIdPinLaw" = true := by first | (simp [plainName, overriddenIn]; done) | decide +kernel
theorem pn_1 : plainName "java/util/BitSet" = true := by first | (simp [plainName, overriddenIn]; done) | decide +kernel
theorem pn_2 : plainName "java/lang/AbstractStringBuilder" = true := by first | (simp [plainName, overriddenIn]; done) | decide +kernel
theorem pn_3 : plainName "java/lang/StringBuilder" = true := by first | (simp [plainName, overriddenIn]; done) | decide +kernel
theorem pn_4 : plainName "com/example/flicker/flicker/game/VertexNames" = true := by first | (simp [plainName, overriddenIn]; done) | decide +kernel
theorem pn_5 : plainName "com/example/flicker/flicker/game/GameBuilder" = true := by first | (simp [plainName, overriddenIn]; done) | decide +kernel
theorem pn_6 : plainName "java/util/DualPivotQuicksort" = true := by first | (simp [plainName, overriddenIn]; done) | decide +kernel
theorem pn_7 : plainName "java/util/Arrays" = true := by first | (simp [plainName, overriddenIn]; done) | decide +kernel
theorem m_gap {l : Launch} {Z : State} {a0 : Array Value} {n0 : Nat} (hw : own_hw a0 Z) {h0 : Heap} {g0 : Int32}  :
    Does l Z n0 ⟨"com/example/flicker/flicker/game/GameBuilderFirstMissingIdPinLaw", "gap", "(I)I"⟩ method_3_code 1 (some .int) [] { frames := 0, cells := 0, slots := 0, locals := 0 } #[(.int g0)] h0 (fun v h => v = some (.int (own_gap g0)) ∧ h0 = h) := by
  refine Does.start (plainFor_of_name pn_0) ?_
  intro p e s m below meth c T X
  replace X : Sd _ _ _ _ _ "com/example/flicker/flicker/game/GameBuilderFirstMissingIdPinLaw" "gap" _ _ _ _ _ _ _ _ _ _ _ _ _ _ _ _ := X
  refine Wp.cast (g' := mkF m 0 #[.val (.int g0)] []) (by first | (simp [entryFrame, mkF, argsToLocals, Value.category, maxLocals]; done) | rfl) ?_
  refine w_iloadN X d3_0 rfl ?_
  refine w_iconst X (4 : Int32) d3_1 rfl ?_
  refine w_iand X d3_2 ?_
  refine w_ifeq X d3_3 (fun (hc3 : (g0 &&& (4 : Int32)) = (0 : Int32)) => ?_) (fun (hc3 : ¬ (g0 &&& (4 : Int32)) = (0 : Int32)) => ?_)
  · refine w_iloadN X d3_15 rfl ?_
    refine w_iconst X (3 : Int32) d3_16 rfl ?_
    refine w_iand X d3_17 ?_
    exact w_retI X d3_18 ⟨by unfold own_gap; simp only [*, if_true, if_false], rfl⟩ (by decide) (by decide)
  · refine w_iloadN X d3_6 rfl ?_
    refine w_iconst X (3 : Int32) d3_7 rfl ?_
    refine w_iushr X d3_8 ?_
    refine w_ldcI X d3_9 (wd_134 hw) ?_
    refine w_iand X d3_11 ?_
    refine w_goto X d3_12 ?_
    exact w_retI X d3_18 ⟨by unfold own_gap; simp only [*, if_true, if_false], rfl⟩ (by decide) (by decide)
theorem m_place {l : Launch} {Z : State} {a0 : Array Value} {n0 : Nat} (hw : own_hw a0 Z) {h0 : Heap} {i0 n1 r0 b0 k : Int32} (hn : ¬ n1 = 0) (hk : own_place i0 n1 r0 b0 = k) :
    Does l Z n0 ⟨"com/example/flicker/flicker/game/GameBuilderFirstMissingIdPinLaw", "place", "(IIIZ)I"⟩ method_4_code 5 (some .int) [] { frames := 0, cells := 0, slots := 0, locals := 0 } #[(.int i0), (.int n1), (.int r0), (.int b0)] h0 (fun v h => v = some (.int k) ∧ h0 = h) := by
  refine Does.start (plainFor_of_name pn_0) ?_
  intro p e s m below meth c T X
  replace X : Sd _ _ _ _ _ "com/example/flicker/flicker/game/GameBuilderFirstMissingIdPinLaw" "place" _ _ _ _ _ _ _ _ _ _ _ _ _ _ _ _ := X
  refine Wp.cast (g' := mkF m 0 #[.val (.int i0), .val (.int n1), .val (.int r0), .val (.int b0), .unset] []) (by first | (simp [entryFrame, mkF, argsToLocals, Value.category, maxLocals]; done) | rfl) ?_
  refine w_iloadN X d4_0 rfl ?_
  refine w_ifeq X d4_1 (fun (hc1 : b0 = (0 : Int32)) => ?_) (fun (hc1 : ¬ b0 = (0 : Int32)) => ?_)
  · refine w_iloadN X d4_12 rfl ?_
    refine w_istore X #[.val (.int i0), .val (.int n1), .val (.int r0), .val (.int b0), .val (.int i0)] d4_13 rfl ?_
    refine w_iload X d4_15 rfl ?_
    refine w_iloadN X d4_17 rfl ?_
    refine w_iadd X d4_18 ?_
    refine w_iloadN X d4_19 rfl ?_
    refine w_irem X d4_20 hn ?_
    exact w_retI X d4_21 ⟨by rw [← hk]; unfold own_place; simp only [*, if_true, if_false], rfl⟩ (by decide) (by decide)
  · refine w_iloadN X d4_4 rfl ?_
    refine w_iconst X (1 : Int32) d4_5 rfl ?_
    refine w_isub X d4_6 ?_
    refine w_iloadN X d4_7 rfl ?_
    refine w_isub X d4_8 ?_
    refine w_goto X d4_9 ?_
    refine w_istore X #[.val (.int i0), .val (.int n1), .val (.int r0), .val (.int b0), .val (.int ((n1 - (1 : Int32)) - i0))] d4_13 rfl ?_
    refine w_iload X d4_15 rfl ?_
    refine w_iloadN X d4_17 rfl ?_
    refine w_iadd X d4_18 ?_
    refine w_iloadN X d4_19 rfl ?_
    refine w_irem X d4_20 hn ?_
    exact w_retI X d4_21 ⟨by rw [← hk]; unfold own_place; simp only [*, if_true, if_false], rfl⟩ (by decide) (by decide)
theorem m_wi {l : Launch} {Z : State} {a0 : Array Value} {n0 : Nat} (hw : own_hw a0 Z) {h0 : Heap}   :
    Does l Z n0 ⟨"java/util/BitSet", "wordIndex", "(I)I"⟩ jdk_92_method_1_code 1 (some .int) [] { frames := 0, cells := 0, slots := 0, locals := 0 } #[(.int (63 : Int32))] h0 (fun v h => v = some (.int (0 : Int32)) ∧ h0 = h) := by
  refine Does.start (plainFor_of_name pn_1) ?_
  intro p e s m below meth c T X
  replace X : Sd _ _ _ _ _ "java/util/BitSet" "wordIndex" _ _ _ _ _ _ _ _ _ _ _ _ _ _ _ _ := X
  refine Wp.cast (g' := mkF m 0 #[.val (.int (63 : Int32))] []) (by first | (simp [entryFrame, mkF, argsToLocals, Value.category, maxLocals]; done) | rfl) ?_
  refine w_iloadN X k92_1_0 rfl ?_
  refine w_bipush X (6 : Int32) k92_1_1 rfl ?_
  refine w_ishr X k92_1_3 ?_
  exact w_retI X k92_1_4 ⟨rfl, rfl⟩ (by decide) (by decide)
theorem m_iw {l : Launch} {Z : State} {a0 : Array Value} {n0 : Nat} (hw : own_hw a0 Z) {h0 : Heap} {a : Addr} (ga : n0 ≤ a) (Ea : Exa Z h0 a "java/util/BitSet") (F2 : Fld Z h0 a "java/util/BitSet" "sizeIsSticky" "Z" (.int (0 : Int32))) (F3 : Fld Z h0 a "java/util/BitSet" "words" "[J" .null) :
    Does l Z n0 ⟨"java/util/BitSet", "initWords", "(I)V"⟩ jdk_92_method_6_code 2 none [] { frames := 1, cells := 1, slots := 1, locals := 13 } #[(.ref a), (.int (64 : Int32))] h0 (fun v h => v = none ∧ Keep h0 h [a] ∧ Fld Z h a "java/util/BitSet" "sizeIsSticky" "Z" (.int (0 : Int32))) := by
  refine Does.start (plainFor_of_name pn_1) ?_
  intro p e s m below meth c T X
  replace X : Sd _ _ _ _ _ "java/util/BitSet" "initWords" _ _ _ _ _ _ _ _ _ _ _ _ _ _ _ _ := X
  refine Wp.cast (g' := mkF m 0 #[.val (.ref a), .val (.int (64 : Int32))] []) (by first | (simp [entryFrame, mkF, argsToLocals, Value.category, maxLocals]; done) | rfl) ?_
  refine w_aloadN X k92_6_0 rfl (rfl) ?_
  refine w_iloadN X k92_6_1 rfl ?_
  refine w_iconst X (1 : Int32) k92_6_2 rfl ?_
  refine w_isub X k92_6_3 ?_
  refine w_callS X k92_6_4 (wd_43 hw) (wd_44 hw) (wd_29 hw) (wd_45 hw) (by decide) (argsL := [(.int (63 : Int32))]) (S := [(.ref a)]) (m_wi hw) pd_0 rfl rfl rfl (by decide) (Nat.le_of_ble_eq_true rfl) (by decide) (by decide) (fun T h1 v1 L1 X q1 => ?_)
  obtain ⟨rfl, rfl⟩ := q1
  show Wp _ _ _ _ (T.setTop (mkF _ _ _ [(.int (0 : Int32)), (.ref a)]))
  refine w_iconst X (1 : Int32) k92_6_7 rfl ?_
  refine w_iadd X k92_6_8 ?_
  refine w_newarr X k92_6_9 (wd_46 hw) 1 1 (by decide) (by decide) (by decide) (by decide) (by decide) (by decide) (fun T h2 b2 g2 gn2 X E2 A2 => ?_)
  replace A2 : Ary Z h2 b2 .long [(.long (0 : Int64))] := A2
  have sz_b2 : h0.size ≤ b2 := Nat.le_trans (Keep.refl h0 [a]).1 (Nat.le_of_eq g2.symm)
  have K1 : Keep h0 h2 [a] := (Keep.refl h0 [a]).ext E2
  have f2 := (Ea.ext E2)
  have f3 := (F3.ext E2)
  refine w_putF X k92_6_11 (host := "") (Or.inl (wd_47 hw)) Via.refl f3 f2 (Or.inl (wd_48 hw)) (wd_28 hw) (ty := (.array .long)) (by decide) rfl rfl ga (fun T h3 X W3 => ?_)
  have f4 := f3.same W3
  have K5 : Keep h0 h3 [a] := K1.wr W3 (Or.inl (List.mem_of_getElem? (i := 0) rfl))
  have f6 := ((F2.ext E2).other W3 (Or.inr (slot_ne (Or.inl (wd_37 hw)) (Or.inl (wd_48 hw)) (by decide) (t := .boolean) (t' := (.array .long)) (by decide) (by decide))))
  exact w_retV X k92_6_14 ⟨rfl, K5, f6⟩ (by decide) (by decide)
theorem m_bs {l : Launch} {Z : State} {a0 : Array Value} {n0 : Nat} (hw : own_hw a0 Z) {h0 : Heap} {a : Addr} (ga : n0 ≤ a) (Ea : Exa Z h0 a "java/util/BitSet") (F1 : Fld Z h0 a "java/util/BitSet" "wordsInUse" "I" (.int (0 : Int32))) (F2 : Fld Z h0 a "java/util/BitSet" "sizeIsSticky" "Z" (.int (0 : Int32))) (F3 : Fld Z h0 a "java/util/BitSet" "words" "[J" .null) :
    Does l Z n0 ⟨"java/util/BitSet", "<init>", "()V"⟩ jdk_92_method_4_code 1 none [] { frames := 2, cells := 1, slots := 1, locals := 26 } #[(.ref a)] h0 (fun v h => v = none ∧ Keep h0 h [a]) := by
  refine Does.start (plainFor_of_name pn_1) ?_
  intro p e s m below meth c T X
  replace X : Sd _ _ _ _ _ "java/util/BitSet" "<init>" _ _ _ _ _ _ _ _ _ _ _ _ _ _ _ _ := X
  refine Wp.cast (g' := mkF m 0 #[.val (.ref a)] []) (by first | (simp [entryFrame, mkF, argsToLocals, Value.category, maxLocals]; done) | rfl) ?_
  refine w_aloadN X k92_4_0 rfl (rfl) ?_
  refine w_initO X k92_4_1 (wd_33 hw) (wd_21 hw) (wd_22 hw) rfl (by decide) (Nat.le_of_ble_eq_true rfl) (fun T X => ?_)
  refine w_aloadN X k92_4_4 rfl (rfl) ?_
  refine w_iconst X (0 : Int32) k92_4_5 rfl ?_
  refine w_putF X k92_4_6 (host := "") (Or.inl (wd_34 hw)) Via.refl F1 Ea (Or.inl (wd_35 hw)) (wd_28 hw) (ty := .int) (by decide) rfl rfl ga (fun T h1 X W1 => ?_)
  have f1 := F1.same W1
  have K2 : Keep h0 h1 [a] := (Keep.refl h0 [a]).wr W1 (Or.inl (List.mem_of_getElem? (i := 0) rfl))
  refine w_aloadN X k92_4_9 rfl (rfl) ?_
  refine w_iconst X (0 : Int32) k92_4_10 rfl ?_
  have f3 := (Ea.wr W1)
  have f4 := (F2.other W1 (Or.inr (slot_ne (Or.inl (wd_37 hw)) (Or.inl (wd_35 hw)) (by decide) (t := .boolean) (t' := .int) (by decide) (by decide))))
  refine w_putFN X k92_4_11 (wd_36 hw) Via.refl f4 f3 (Or.inl (wd_37 hw)) (wd_28 hw) (ty := .boolean) (by decide) (.int (0 : Int32)) rfl (by decide) ga (fun T h2 X W2 => ?_)
  have f5 := f4.same W2
  have K6 : Keep h0 h2 [a] := K2.wr W2 (Or.inl (List.mem_of_getElem? (i := 0) rfl))
  refine w_aloadN X k92_4_14 rfl (rfl) ?_
  refine w_bipush X (64 : Int32) k92_4_15 rfl ?_
  have f7 := (f3.wr W2)
  have f8 := ((F3.other W1 (Or.inr (slot_ne (Or.inl (wd_48 hw)) (Or.inl (wd_35 hw)) (by decide) (t := (.array .long)) (t' := .int) (by decide) (by decide)))).other W2 (Or.inr (slot_ne (Or.inl (wd_48 hw)) (Or.inl (wd_37 hw)) (by decide) (t := (.array .long)) (t' := .boolean) (by decide) (by decide))))
  refine w_callP X k92_4_17 (wd_38 hw) (wd_39 hw) (wd_41 hw) (wd_40 hw) (wd_29 hw) (wd_42 hw) (by decide) f7 (argsL := [(.int (64 : Int32))]) (S := []) (m_iw hw ga f7 f5 f8) pd_1 rfl rfl rfl (by decide) (Nat.le_of_ble_eq_true rfl) (by decide) (by decide) (fun T h3 v3 L3 X q3 => ?_)
  obtain ⟨rfl, Kc3, Fz3⟩ := q3
  have K9 : Keep h0 h3 [a] := K6.trans Kc3 (fun x hx => by cases List.mem_singleton.mp hx; exact (Or.inl (List.mem_of_getElem? (i := 0) rfl)))
  show Wp _ _ _ _ (T.setTop (mkF _ _ _ []))
  refine w_aloadN X k92_4_20 rfl (rfl) ?_
  refine w_iconst X (0 : Int32) k92_4_21 rfl ?_
  have f10 := (f7.keep Kc3)
  refine w_putFN X k92_4_22 (wd_36 hw) Via.refl Fz3 f10 (Or.inl (wd_37 hw)) (wd_28 hw) (ty := .boolean) (by decide) (.int (0 : Int32)) rfl (by decide) ga (fun T h4 X W4 => ?_)
  have f11 := Fz3.same W4
  have K12 : Keep h0 h4 [a] := K9.wr W4 (Or.inl (List.mem_of_getElem? (i := 0) rfl))
  exact w_retV X k92_4_25 ⟨rfl, K12⟩ (by decide) (by decide)
theorem m_asb {l : Launch} {Z : State} {a0 : Array Value} {n0 : Nat} (hw : own_hw a0 Z) {h0 : Heap} {zc : Int32} {fm : Value} {a : Addr} (hS : own_S Z zc fm) (ga : n0 ≤ a) (Ea : Exa Z h0 a "java/lang/StringBuilder") (F1 : Fld Z h0 a "java/lang/AbstractStringBuilder" "value" "[B" .null) (F2 : Fld Z h0 a "java/lang/AbstractStringBuilder" "coder" "B" (.int (0 : Int32))) (F3 : Fld Z h0 a "java/lang/AbstractStringBuilder" "count" "I" (.int (0 : Int32))) :
    Does l Z n0 ⟨"java/lang/AbstractStringBuilder", "<init>", "(I)V"⟩ jdk_68_method_2_code 2 none [] { frames := 1, cells := 1, slots := 16, locals := 12 } #[(.ref a), (.int (16 : Int32))] h0 (fun v h => v = none ∧ Keep h0 h [a] ∧ Fld Z h a "java/lang/AbstractStringBuilder" "count" "I" (.int (0 : Int32))) := by
  refine Does.start (plainFor_of_name pn_2) ?_
  obtain ⟨S_zc, hzc, S_fm, hfm⟩ := id hS
  intro p e s m below meth c T X
  replace X : Sd _ _ _ _ _ "java/lang/AbstractStringBuilder" "<init>" _ _ _ _ _ _ _ _ _ _ _ _ _ _ _ _ := X
  refine Wp.cast (g' := mkF m 0 #[.val (.ref a), .val (.int (16 : Int32))] []) (by first | (simp [entryFrame, mkF, argsToLocals, Value.category, maxLocals]; done) | rfl) ?_
  refine w_aloadN X k68_2_0 rfl (rfl) ?_
  refine w_initO X k68_2_1 (wd_70 hw) (wd_21 hw) (wd_22 hw) rfl (by decide) (Nat.le_of_ble_eq_true rfl) (fun T X => ?_)
  refine w_getS X k68_2_4 (host := "") (Or.inl (wd_71 hw)) Via.refl (S_zc.ext X.old.2) (fun T X => ?_)
  refine w_ifeq X k68_2_7 (fun hc => absurd hc hzc) (fun _ => ?_)
  refine w_aloadN X k68_2_10 rfl (rfl) ?_
  refine w_iloadN X k68_2_11 rfl ?_
  refine w_newarr X k68_2_12 (wd_12 hw) 16 16 (by decide) (by decide) (by decide) (by decide) (by decide) (by decide) (fun T h1 b1 g1 gn1 X E1 A1 => ?_)
  replace A1 : Ary Z h1 b1 .byte [(.int (0 : Int32)), (.int (0 : Int32)), (.int (0 : Int32)), (.int (0 : Int32)), (.int (0 : Int32)), (.int (0 : Int32)), (.int (0 : Int32)), (.int (0 : Int32)), (.int (0 : Int32)), (.int (0 : Int32)), (.int (0 : Int32)), (.int (0 : Int32)), (.int (0 : Int32)), (.int (0 : Int32)), (.int (0 : Int32)), (.int (0 : Int32))] := A1
  have sz_b1 : h0.size ≤ b1 := Nat.le_trans (Keep.refl h0 [a]).1 (Nat.le_of_eq g1.symm)
  have K1 : Keep h0 h1 [a] := (Keep.refl h0 [a]).ext E1
  have f2 := (Ea.ext E1)
  have f3 := (F1.ext E1)
  refine w_putF X k68_2_14 (host := "") (Or.inl (wd_72 hw)) Via.refl f3 f2 (Or.inl (wd_73 hw)) (wd_59 hw) (ty := (.array .byte)) (by decide) rfl rfl ga (fun T h2 X W2 => ?_)
  have f4 := f3.same W2
  have K5 : Keep h0 h2 [a] := K1.wr W2 (Or.inl (List.mem_of_getElem? (i := 0) rfl))
  refine w_aloadN X k68_2_17 rfl (rfl) ?_
  refine w_iconst X (0 : Int32) k68_2_18 rfl ?_
  have f6 := (f2.wr W2)
  have f7 := ((F2.ext E1).other W2 (Or.inr (slot_ne (Or.inl (wd_75 hw)) (Or.inl (wd_73 hw)) (by decide) (t := .byte) (t' := (.array .byte)) (by decide) (by decide))))
  refine w_putFN X k68_2_19 (wd_74 hw) Via.refl f7 f6 (Or.inl (wd_75 hw)) (wd_59 hw) (ty := .byte) (by decide) (.int (0 : Int32)) rfl (by decide) ga (fun T h3 X W3 => ?_)
  have f8 := f7.same W3
  have K9 : Keep h0 h3 [a] := K5.wr W3 (Or.inl (List.mem_of_getElem? (i := 0) rfl))
  refine w_goto X k68_2_22 ?_
  have f10 := (((F3.ext E1).other W2 (Or.inr (slot_ne (Or.inl (wd_170 hw)) (Or.inl (wd_73 hw)) (by decide) (t := .int) (t' := (.array .byte)) (by decide) (by decide)))).other W3 (Or.inr (slot_ne (Or.inl (wd_170 hw)) (Or.inl (wd_75 hw)) (by decide) (t := .int) (t' := .byte) (by decide) (by decide))))
  exact w_retV X k68_2_38 ⟨rfl, K9, f10⟩ (by decide) (by decide)
theorem m_sb {l : Launch} {Z : State} {a0 : Array Value} {n0 : Nat} (hw : own_hw a0 Z) {h0 : Heap} {zc : Int32} {fm : Value} {a : Addr} (hS : own_S Z zc fm) (ga : n0 ≤ a) (Ea : Exa Z h0 a "java/lang/StringBuilder") (F1 : Fld Z h0 a "java/lang/AbstractStringBuilder" "value" "[B" .null) (F2 : Fld Z h0 a "java/lang/AbstractStringBuilder" "coder" "B" (.int (0 : Int32))) (F3 : Fld Z h0 a "java/lang/AbstractStringBuilder" "count" "I" (.int (0 : Int32))) :
    Does l Z n0 ⟨"java/lang/StringBuilder", "<init>", "()V"⟩ jdk_67_method_1_code 1 none [] { frames := 2, cells := 1, slots := 16, locals := 25 } #[(.ref a)] h0 (fun v h => v = none ∧ Keep h0 h [a] ∧ Fld Z h a "java/lang/AbstractStringBuilder" "count" "I" (.int (0 : Int32))) := by
  refine Does.start (plainFor_of_name pn_3) ?_
  obtain ⟨S_zc, hzc, S_fm, hfm⟩ := id hS
  intro p e s m below meth c T X
  replace X : Sd _ _ _ _ _ "java/lang/StringBuilder" "<init>" _ _ _ _ _ _ _ _ _ _ _ _ _ _ _ _ := X
  refine Wp.cast (g' := mkF m 0 #[.val (.ref a)] []) (by first | (simp [entryFrame, mkF, argsToLocals, Value.category, maxLocals]; done) | rfl) ?_
  refine w_aloadN X k67_1_0 rfl (rfl) ?_
  refine w_bipush X (16 : Int32) k67_1_1 rfl ?_
  refine w_callI X k67_1_3 rfl (wd_64 hw) (wd_65 hw) (wd_68 hw) (wd_69 hw) (by decide) (argsL := [(.int (16 : Int32))]) (S := []) (m_asb hw hS ga Ea F1 F2 F3) pd_1 rfl rfl rfl (by decide) (Nat.le_of_ble_eq_true rfl) (by decide) (by decide) (fun T h1 v1 L1 X q1 => ?_)
  obtain ⟨rfl, Kc1, Fz1⟩ := q1
  have K1 : Keep h0 h1 [a] := (Keep.refl h0 [a]).trans Kc1 (fun x hx => by cases List.mem_singleton.mp hx; exact (Or.inl (List.mem_of_getElem? (i := 0) rfl)))
  show Wp _ _ _ _ (T.setTop (mkF _ _ _ []))
  exact w_retV X k67_1_6 ⟨rfl, K1, Fz1⟩ (by decide) (by decide)
theorem m_vn {l : Launch} {Z : State} {a0 : Array Value} {n0 : Nat} (hw : own_hw a0 Z) {h0 : Heap} {zc : Int32} {fm : Value} {a : Addr} (hS : own_S Z zc fm) (ga : n0 ≤ a) (Ea : Exa Z h0 a "com/example/flicker/flicker/game/VertexNames") (F_text : Fld Z h0 a "com/example/flicker/flicker/game/VertexNames" "text" "Ljava/lang/StringBuilder;" .null) (F_end : Fld Z h0 a "com/example/flicker/flicker/game/VertexNames" "end" "[I" .null) (F_present : Fld Z h0 a "com/example/flicker/flicker/game/VertexNames" "present" "Ljava/util/BitSet;" .null) (F_count : Fld Z h0 a "com/example/flicker/flicker/game/VertexNames" "count" "I" (.int (0 : Int32))) :
    Does l Z n0 ⟨"com/example/flicker/flicker/game/VertexNames", "<init>", "()V"⟩ prog_23_method_1_code 1 none [] { frames := 3, cells := 5, slots := 88, locals := 40 } #[(.ref a)] h0 (fun v h => v = none ∧ Keep h0 h [a] ∧ ∃ s e : Addr, h0.size ≤ s ∧ s < e ∧ e < h.size ∧ Exa Z h a "com/example/flicker/flicker/game/VertexNames" ∧ Fld Z h a "com/example/flicker/flicker/game/VertexNames" "text" "Ljava/lang/StringBuilder;" (.ref s) ∧ Fld Z h a "com/example/flicker/flicker/game/VertexNames" "end" "[I" (.ref e) ∧ Fld Z h a "com/example/flicker/flicker/game/VertexNames" "count" "I" (.int (0 : Int32)) ∧ Exa Z h s "java/lang/StringBuilder" ∧ Fld Z h s "java/lang/AbstractStringBuilder" "count" "I" (.int (0 : Int32)) ∧ own_I Z h e) := by
  refine Does.start (plainFor_of_name pn_4) ?_
  obtain ⟨S_zc, hzc, S_fm, hfm⟩ := id hS
  intro p e s m below meth c T X
  replace X : Sd _ _ _ _ _ "com/example/flicker/flicker/game/VertexNames" "<init>" _ _ _ _ _ _ _ _ _ _ _ _ _ _ _ _ := X
  refine Wp.cast (g' := mkF m 0 #[.val (.ref a)] []) (by first | (simp [entryFrame, mkF, argsToLocals, Value.category, maxLocals]; done) | rfl) ?_
  refine w_aloadN X q23_1_0 rfl (rfl) ?_
  refine w_initO X q23_1_1 (wd_57 hw) (wd_21 hw) (wd_22 hw) rfl (by decide) (Nat.le_of_ble_eq_true rfl) (fun T X => ?_)
  refine w_aloadN X q23_1_4 rfl (rfl) ?_
  refine w_new X q23_1_5 (wd_58 hw) (wd_59 hw) (wd_60 hw) (by decide) (by decide) (fun T h1 b1 g1 gn1 X E1 A1 D1 => ?_)
  have sz_b1 : h0.size ≤ b1 := Nat.le_trans (Keep.refl h0 [a]).1 (Nat.le_of_eq g1.symm)
  have K1 : Keep h0 h1 [a] := (Keep.refl h0 [a]).ext E1
  refine w_dup X q23_1_8 rfl ?_
  refine w_callI X q23_1_9 rfl (wd_61 hw) (wd_62 hw) (wd_60 hw) (wd_63 hw) (by decide) (argsL := []) (S := [(.ref b1), (.ref a)]) (m_sb hw hS gn1 A1 (show Fld Z h1 b1 "java/lang/AbstractStringBuilder" "value" "[B" .null from D1 (Or.inl (wd_73 hw)) (ty := (.array .byte)) (by decide)) (show Fld Z h1 b1 "java/lang/AbstractStringBuilder" "coder" "B" (.int (0 : Int32)) from D1 (Or.inl (wd_75 hw)) (ty := .byte) (by decide)) (show Fld Z h1 b1 "java/lang/AbstractStringBuilder" "count" "I" (.int (0 : Int32)) from D1 (Or.inl (wd_170 hw)) (ty := .int) (by decide))) pd_2 rfl rfl rfl (by decide) (Nat.le_of_ble_eq_true rfl) (by decide) (by decide) (fun T h2 v2 L2 X q2 => ?_)
  obtain ⟨rfl, Kc2, Fz2⟩ := q2
  have K2 : Keep h0 h2 [a] := K1.trans Kc2 (fun x hx => by cases List.mem_singleton.mp hx; exact (Or.inr sz_b1))
  show Wp _ _ _ _ (T.setTop (mkF _ _ _ [(.ref b1), (.ref a)]))
  have f3 := ((Ea.ext E1).keep Kc2)
  have f4 := ((F_text.ext E1).keep Kc2 (by simp only [List.mem_cons, List.not_mem_nil, or_false]; exact (Nat.ne_of_lt (Nat.lt_of_lt_of_le Ea.lt (Nat.le_of_eq g1.symm)))))
  refine w_putF X q23_1_12 (host := "") (Or.inl (wd_76 hw)) Via.refl f4 f3 (Or.inr ⟨(wd_77 hw), rfl, rfl⟩) (wd_52 hw) (ty := (.object "java/lang/StringBuilder")) (by decide) rfl rfl ga (fun T h3 X W3 => ?_)
  have f5 := f4.same W3
  have K6 : Keep h0 h3 [a] := K2.wr W3 (Or.inl (List.mem_of_getElem? (i := 0) rfl))
  refine w_aloadN X q23_1_15 rfl (rfl) ?_
  refine w_bipush X (64 : Int32) q23_1_16 rfl ?_
  refine w_newarr X q23_1_18 (wd_5 hw) 64 64 (by decide) (by decide) (by decide) (by decide) (by decide) (by decide) (fun T h4 b4 g4 gn4 X E4 A4 => ?_)
  replace A4 : Ary Z h4 b4 .int ((.int (0 : Int32)) :: (.int (0 : Int32)) :: (.int (0 : Int32)) :: (.int (0 : Int32)) :: own_z60) := A4
  have sz_b4 : h0.size ≤ b4 := Nat.le_trans K6.1 (Nat.le_of_eq g4.symm)
  have K7 : Keep h0 h4 [a] := K6.ext E4
  have f8 := ((f3.wr W3).ext E4)
  have f9 := ((((F_end.ext E1).keep Kc2 (by simp only [List.mem_cons, List.not_mem_nil, or_false]; exact (Nat.ne_of_lt (Nat.lt_of_lt_of_le Ea.lt (Nat.le_of_eq g1.symm))))).other W3 (Or.inr (slot_ne (Or.inl (wd_79 hw)) (Or.inr (wd_77 hw)) (by decide) (t := (.array .int)) (t' := (.object "java/lang/StringBuilder")) (by decide) (by decide)))).ext E4)
  refine w_putF X q23_1_20 (host := "") (Or.inl (wd_78 hw)) Via.refl f9 f8 (Or.inl (wd_79 hw)) (wd_52 hw) (ty := (.array .int)) (by decide) rfl rfl ga (fun T h5 X W5 => ?_)
  have f10 := f9.same W5
  have K11 : Keep h0 h5 [a] := K7.wr W5 (Or.inl (List.mem_of_getElem? (i := 0) rfl))
  refine w_aloadN X q23_1_23 rfl (rfl) ?_
  refine w_new X q23_1_24 (wd_80 hw) (wd_28 hw) (wd_29 hw) (by decide) (by decide) (fun T h6 b6 g6 gn6 X E6 A6 D6 => ?_)
  have sz_b6 : h0.size ≤ b6 := Nat.le_trans K11.1 (Nat.le_of_eq g6.symm)
  have K12 : Keep h0 h6 [a] := K11.ext E6
  refine w_dup X q23_1_27 rfl ?_
  refine w_callI X q23_1_28 rfl (wd_81 hw) (wd_31 hw) (wd_29 hw) (wd_32 hw) (by decide) (argsL := []) (S := [(.ref b6), (.ref a)]) (m_bs hw gn6 A6 (show Fld Z h6 b6 "java/util/BitSet" "wordsInUse" "I" (.int (0 : Int32)) from D6 (Or.inl (wd_35 hw)) (ty := .int) (by decide)) (show Fld Z h6 b6 "java/util/BitSet" "sizeIsSticky" "Z" (.int (0 : Int32)) from D6 (Or.inl (wd_37 hw)) (ty := .boolean) (by decide)) (show Fld Z h6 b6 "java/util/BitSet" "words" "[J" .null from D6 (Or.inl (wd_48 hw)) (ty := (.array .long)) (by decide))) pd_2 rfl rfl rfl (by decide) (Nat.le_of_ble_eq_true rfl) (by decide) (by decide) (fun T h7 v7 L7 X q7 => ?_)
  obtain ⟨rfl, Kc7⟩ := q7
  have K13 : Keep h0 h7 [a] := K12.trans Kc7 (fun x hx => by cases List.mem_singleton.mp hx; exact (Or.inr sz_b6))
  show Wp _ _ _ _ (T.setTop (mkF _ _ _ [(.ref b6), (.ref a)]))
  have f14 := (((f8.wr W5).ext E6).keep Kc7)
  have f15 := (((((((F_present.ext E1).keep Kc2 (by simp only [List.mem_cons, List.not_mem_nil, or_false]; exact (Nat.ne_of_lt (Nat.lt_of_lt_of_le Ea.lt (Nat.le_of_eq g1.symm))))).other W3 (Or.inr (slot_ne (Or.inr (wd_83 hw)) (Or.inr (wd_77 hw)) (by decide) (t := (.object "java/util/BitSet")) (t' := (.object "java/lang/StringBuilder")) (by decide) (by decide)))).ext E4).other W5 (Or.inr (slot_ne (Or.inr (wd_83 hw)) (Or.inl (wd_79 hw)) (by decide) (t := (.object "java/util/BitSet")) (t' := (.array .int)) (by decide) (by decide)))).ext E6).keep Kc7 (by simp only [List.mem_cons, List.not_mem_nil, or_false]; exact (Nat.ne_of_lt (Nat.lt_of_lt_of_le (Nat.lt_of_lt_of_le (Nat.lt_of_lt_of_le (Nat.lt_of_lt_of_le (Nat.lt_of_lt_of_le (Nat.lt_of_lt_of_le Ea.lt E1.1) Kc2.1) (Nat.le_of_eq W3.size.symm)) E4.1) (Nat.le_of_eq W5.size.symm)) (Nat.le_of_eq g6.symm)))))
  refine w_putF X q23_1_31 (host := "") (Or.inl (wd_82 hw)) Via.refl f15 f14 (Or.inr ⟨(wd_83 hw), rfl, rfl⟩) (wd_52 hw) (ty := (.object "java/util/BitSet")) (by decide) rfl rfl ga (fun T h8 X W8 => ?_)
  have f16 := f15.same W8
  have K17 : Keep h0 h8 [a] := K13.wr W8 (Or.inl (List.mem_of_getElem? (i := 0) rfl))
  have f18 := (f14.wr W8)
  have f19 := (((((f5.ext E4).other W5 (Or.inr (slot_ne (Or.inr (wd_77 hw)) (Or.inl (wd_79 hw)) (by decide) (t := (.object "java/lang/StringBuilder")) (t' := (.array .int)) (by decide) (by decide)))).ext E6).keep Kc7 (by simp only [List.mem_cons, List.not_mem_nil, or_false]; exact (Nat.ne_of_lt (Nat.lt_of_lt_of_le (Nat.lt_of_lt_of_le (Nat.lt_of_lt_of_le (Nat.lt_of_lt_of_le (Nat.lt_of_lt_of_le (Nat.lt_of_lt_of_le Ea.lt E1.1) Kc2.1) (Nat.le_of_eq W3.size.symm)) E4.1) (Nat.le_of_eq W5.size.symm)) (Nat.le_of_eq g6.symm))))).other W8 (Or.inr (slot_ne (Or.inr (wd_77 hw)) (Or.inr (wd_83 hw)) (by decide) (t := (.object "java/lang/StringBuilder")) (t' := (.object "java/util/BitSet")) (by decide) (by decide))))
  have f20 := (((f10.ext E6).keep Kc7 (by simp only [List.mem_cons, List.not_mem_nil, or_false]; exact (Nat.ne_of_lt (Nat.lt_of_lt_of_le (Nat.lt_of_lt_of_le (Nat.lt_of_lt_of_le (Nat.lt_of_lt_of_le (Nat.lt_of_lt_of_le (Nat.lt_of_lt_of_le Ea.lt E1.1) Kc2.1) (Nat.le_of_eq W3.size.symm)) E4.1) (Nat.le_of_eq W5.size.symm)) (Nat.le_of_eq g6.symm))))).other W8 (Or.inr (slot_ne (Or.inl (wd_79 hw)) (Or.inr (wd_83 hw)) (by decide) (t := (.array .int)) (t' := (.object "java/util/BitSet")) (by decide) (by decide))))
  have f21 := ((((((((F_count.ext E1).keep Kc2 (by simp only [List.mem_cons, List.not_mem_nil, or_false]; exact (Nat.ne_of_lt (Nat.lt_of_lt_of_le Ea.lt (Nat.le_of_eq g1.symm))))).other W3 (Or.inr (slot_ne (Or.inl (wd_158 hw)) (Or.inr (wd_77 hw)) (by decide) (t := .int) (t' := (.object "java/lang/StringBuilder")) (by decide) (by decide)))).ext E4).other W5 (Or.inr (slot_ne (Or.inl (wd_158 hw)) (Or.inl (wd_79 hw)) (by decide) (t := .int) (t' := (.array .int)) (by decide) (by decide)))).ext E6).keep Kc7 (by simp only [List.mem_cons, List.not_mem_nil, or_false]; exact (Nat.ne_of_lt (Nat.lt_of_lt_of_le (Nat.lt_of_lt_of_le (Nat.lt_of_lt_of_le (Nat.lt_of_lt_of_le (Nat.lt_of_lt_of_le (Nat.lt_of_lt_of_le Ea.lt E1.1) Kc2.1) (Nat.le_of_eq W3.size.symm)) E4.1) (Nat.le_of_eq W5.size.symm)) (Nat.le_of_eq g6.symm))))).other W8 (Or.inr (slot_ne (Or.inl (wd_158 hw)) (Or.inr (wd_83 hw)) (by decide) (t := .int) (t' := (.object "java/util/BitSet")) (by decide) (by decide))))
  have f22 := (((((((A1.keep Kc2).wr W3).ext E4).wr W5).ext E6).keep Kc7).wr W8)
  have f23 := ((((((Fz2.other W3 (Or.inl (Ne.symm (Nat.ne_of_lt (Nat.lt_of_lt_of_le Ea.lt (Nat.le_of_eq g1.symm)))))).ext E4).other W5 (Or.inl (Ne.symm (Nat.ne_of_lt (Nat.lt_of_lt_of_le Ea.lt (Nat.le_of_eq g1.symm)))))).ext E6).keep Kc7 (by simp only [List.mem_cons, List.not_mem_nil, or_false]; exact (Nat.ne_of_lt (Nat.lt_of_lt_of_le (Nat.lt_of_lt_of_le (Nat.lt_of_lt_of_le (Nat.lt_of_lt_of_le (Nat.lt_of_lt_of_le A1.lt Kc2.1) (Nat.le_of_eq W3.size.symm)) E4.1) (Nat.le_of_eq W5.size.symm)) (Nat.le_of_eq g6.symm))))).other W8 (Or.inl (Ne.symm (Nat.ne_of_lt (Nat.lt_of_lt_of_le Ea.lt (Nat.le_of_eq g1.symm))))))
  have f24 := ((((A4.other W5 (Ne.symm (Nat.ne_of_lt (Nat.lt_of_lt_of_le (Nat.lt_of_lt_of_le (Nat.lt_of_lt_of_le (Nat.lt_of_lt_of_le Ea.lt E1.1) Kc2.1) (Nat.le_of_eq W3.size.symm)) (Nat.le_of_eq g4.symm))))).ext E6).keep Kc7 (by simp only [List.mem_cons, List.not_mem_nil, or_false]; exact (Nat.ne_of_lt (Nat.lt_of_lt_of_le (Nat.lt_of_lt_of_le A4.lt (Nat.le_of_eq W5.size.symm)) (Nat.le_of_eq g6.symm))))).other W8 (Ne.symm (Nat.ne_of_lt (Nat.lt_of_lt_of_le (Nat.lt_of_lt_of_le (Nat.lt_of_lt_of_le (Nat.lt_of_lt_of_le Ea.lt E1.1) Kc2.1) (Nat.le_of_eq W3.size.symm)) (Nat.le_of_eq g4.symm)))))
  exact w_retV X q23_1_34 ⟨rfl, K17, _, _, sz_b1, Nat.lt_of_lt_of_le (Nat.lt_of_lt_of_le (Nat.lt_of_lt_of_le A1.lt Kc2.1) (Nat.le_of_eq W3.size.symm)) (Nat.le_of_eq g4.symm), (Nat.lt_of_lt_of_le (Nat.lt_of_lt_of_le (Nat.lt_of_lt_of_le (Nat.lt_of_lt_of_le A4.lt (Nat.le_of_eq W5.size.symm)) E6.1) Kc7.1) (Nat.le_of_eq W8.size.symm)), f18, f19, f20, f21, f22, f23, ⟨_, _, _, _, f24⟩⟩ (by decide) (by decide)
theorem m_gb {l : Launch} {Z : State} {a0 : Array Value} {n0 : Nat} (hw : own_hw a0 Z) {h0 : Heap} {zc : Int32} {fm : Value} {a src nw : Addr} (hS : own_S Z zc fm) (S_nw : Sta Z Z.heap "com/example/flicker/flicker/game/GameBuilder" "NO_WEIGHTS" "[J" (.ref nw)) (ga : n0 ≤ a) (Ea : Exa Z h0 a "com/example/flicker/flicker/game/GameBuilder") (F_ids : Fld Z h0 a "com/example/flicker/flicker/game/GameBuilder" "ids" "[I" .null) (F_priorities : Fld Z h0 a "com/example/flicker/flicker/game/GameBuilder" "priorities" "[I" .null) (F_playerTwo : Fld Z h0 a "com/example/flicker/flicker/game/GameBuilder" "playerTwo" "Ljava/util/BitSet;" .null) (F_names : Fld Z h0 a "com/example/flicker/flicker/game/GameBuilder" "names" "Lcom/example/flicker/flicker/game/VertexNames;" .null) (F_vertexLines : Fld Z h0 a "com/example/flicker/flicker/game/GameBuilder" "vertexLines" "[I" .null) (F_setEnd : Fld Z h0 a "com/example/flicker/flicker/game/GameBuilder" "setEnd" "[I" .null) (F_sets : Fld Z h0 a "com/example/flicker/flicker/game/GameBuilder" "sets" "[I" .null) (F_tails : Fld Z h0 a "com/example/flicker/flicker/game/GameBuilder" "tails" "[I" .null) (F_heads : Fld Z h0 a "com/example/flicker/flicker/game/GameBuilder" "heads" "[I" .null) (F_edgeLines : Fld Z h0 a "com/example/flicker/flicker/game/GameBuilder" "edgeLines" "[I" .null) (F_weights : Fld Z h0 a "com/example/flicker/flicker/game/GameBuilder" "weights" "[J" .null) (F_source : Fld Z h0 a "com/example/flicker/flicker/game/GameBuilder" "source" "Ljava/lang/String;" .null) (F_byId : Fld Z h0 a "com/example/flicker/flicker/game/GameBuilder" "byId" "[J" .null) (F_dimensions : Fld Z h0 a "com/example/flicker/flicker/game/GameBuilder" "dimensions" "I" (.int (0 : Int32)))  (F_vertexCount : Fld Z h0 a "com/example/flicker/flicker/game/GameBuilder" "vertexCount" "I" (.int (0 : Int32)))  (F_setLength : Fld Z h0 a "com/example/flicker/flicker/game/GameBuilder" "setLength" "I" (.int (0 : Int32))) :
    Does l Z n0 ⟨"com/example/flicker/flicker/game/GameBuilder", "<init>", "(Ljava/lang/String;I)V"⟩ prog_7_method_1_code 3 none [] { frames := 4, cells := 16, slots := 1184, locals := 54 } #[(.ref a), (.ref src), (.int (0 : Int32))] h0 (fun v h => v = none ∧ Keep h0 h [a] ∧ ∃ ids pr nm sb en ln se ss : Addr, h0.size ≤ ids ∧ own_GB Z h n0 a ids pr nm sb en ln se ss (0 : Int32) (0 : Int32) (0 : Int32) (0 : Int32) (0 : Int32)) := by
  refine Does.start (plainFor_of_name pn_5) ?_
  obtain ⟨S_zc, hzc, S_fm, hfm⟩ := id hS
  intro p e s m below meth c T X
  replace X : Sd _ _ _ _ _ "com/example/flicker/flicker/game/GameBuilder" "<init>" _ _ _ _ _ _ _ _ _ _ _ _ _ _ _ _ := X
  refine Wp.cast (g' := mkF m 0 #[.val (.ref a), .val (.ref src), .val (.int (0 : Int32))] []) (by first | (simp [entryFrame, mkF, argsToLocals, Value.category, maxLocals]; done) | rfl) ?_
  refine w_aloadN X q7_1_0 rfl (rfl) ?_
  refine w_initO X q7_1_1 (wd_20 hw) (wd_21 hw) (wd_22 hw) rfl (by decide) (Nat.le_of_ble_eq_true rfl) (fun T X => ?_)
  refine w_aloadN X q7_1_4 rfl (rfl) ?_
  refine w_bipush X (64 : Int32) q7_1_5 rfl ?_
  refine w_newarr X q7_1_7 (wd_5 hw) 64 64 (by decide) (by decide) (by decide) (by decide) (by decide) (by decide) (fun T h1 b1 g1 gn1 X E1 A1 => ?_)
  replace A1 : Ary Z h1 b1 .int ((.int (0 : Int32)) :: (.int (0 : Int32)) :: (.int (0 : Int32)) :: (.int (0 : Int32)) :: own_z60) := A1
  have sz_b1 : h0.size ≤ b1 := Nat.le_trans (Keep.refl h0 [a]).1 (Nat.le_of_eq g1.symm)
  have K1 : Keep h0 h1 [a] := (Keep.refl h0 [a]).ext E1
  have f2 := (Ea.ext E1)
  have f3 := (F_ids.ext E1)
  refine w_putF X q7_1_9 (host := "") (Or.inl (wd_23 hw)) Via.refl f3 f2 (Or.inl (wd_24 hw)) (wd_7 hw) (ty := (.array .int)) (by decide) rfl rfl ga (fun T h2 X W2 => ?_)
  have f4 := f3.same W2
  have K5 : Keep h0 h2 [a] := K1.wr W2 (Or.inl (List.mem_of_getElem? (i := 0) rfl))
  refine w_aloadN X q7_1_12 rfl (rfl) ?_
  refine w_bipush X (64 : Int32) q7_1_13 rfl ?_
  refine w_newarr X q7_1_15 (wd_5 hw) 64 64 (by decide) (by decide) (by decide) (by decide) (by decide) (by decide) (fun T h3 b3 g3 gn3 X E3 A3 => ?_)
  replace A3 : Ary Z h3 b3 .int ((.int (0 : Int32)) :: (.int (0 : Int32)) :: (.int (0 : Int32)) :: (.int (0 : Int32)) :: own_z60) := A3
  have sz_b3 : h0.size ≤ b3 := Nat.le_trans K5.1 (Nat.le_of_eq g3.symm)
  have K6 : Keep h0 h3 [a] := K5.ext E3
  have f7 := ((f2.wr W2).ext E3)
  have f8 := (((F_priorities.ext E1).other W2 (Or.inr (slot_ne (Or.inl (wd_26 hw)) (Or.inl (wd_24 hw)) (by decide) (t := (.array .int)) (t' := (.array .int)) (by decide) (by decide)))).ext E3)
  refine w_putF X q7_1_17 (host := "") (Or.inl (wd_25 hw)) Via.refl f8 f7 (Or.inl (wd_26 hw)) (wd_7 hw) (ty := (.array .int)) (by decide) rfl rfl ga (fun T h4 X W4 => ?_)
  have f9 := f8.same W4
  have K10 : Keep h0 h4 [a] := K6.wr W4 (Or.inl (List.mem_of_getElem? (i := 0) rfl))
  refine w_aloadN X q7_1_20 rfl (rfl) ?_
  refine w_new X q7_1_21 (wd_27 hw) (wd_28 hw) (wd_29 hw) (by decide) (by decide) (fun T h5 b5 g5 gn5 X E5 A5 D5 => ?_)
  have sz_b5 : h0.size ≤ b5 := Nat.le_trans K10.1 (Nat.le_of_eq g5.symm)
  have K11 : Keep h0 h5 [a] := K10.ext E5
  refine w_dup X q7_1_24 rfl ?_
  refine w_callI X q7_1_25 rfl (wd_30 hw) (wd_31 hw) (wd_29 hw) (wd_32 hw) (by decide) (argsL := []) (S := [(.ref b5), (.ref a)]) (m_bs hw gn5 A5 (show Fld Z h5 b5 "java/util/BitSet" "wordsInUse" "I" (.int (0 : Int32)) from D5 (Or.inl (wd_35 hw)) (ty := .int) (by decide)) (show Fld Z h5 b5 "java/util/BitSet" "sizeIsSticky" "Z" (.int (0 : Int32)) from D5 (Or.inl (wd_37 hw)) (ty := .boolean) (by decide)) (show Fld Z h5 b5 "java/util/BitSet" "words" "[J" .null from D5 (Or.inl (wd_48 hw)) (ty := (.array .long)) (by decide))) pd_2 rfl rfl rfl (by decide) (Nat.le_of_ble_eq_true rfl) (by decide) (by decide) (fun T h6 v6 L6 X q6 => ?_)
  obtain ⟨rfl, Kc6⟩ := q6
  have K12 : Keep h0 h6 [a] := K11.trans Kc6 (fun x hx => by cases List.mem_singleton.mp hx; exact (Or.inr sz_b5))
  show Wp _ _ _ _ (T.setTop (mkF _ _ _ [(.ref b5), (.ref a)]))
  have f13 := (((f7.wr W4).ext E5).keep Kc6)
  have f14 := ((((((F_playerTwo.ext E1).other W2 (Or.inr (slot_ne (Or.inr (wd_50 hw)) (Or.inl (wd_24 hw)) (by decide) (t := (.object "java/util/BitSet")) (t' := (.array .int)) (by decide) (by decide)))).ext E3).other W4 (Or.inr (slot_ne (Or.inr (wd_50 hw)) (Or.inl (wd_26 hw)) (by decide) (t := (.object "java/util/BitSet")) (t' := (.array .int)) (by decide) (by decide)))).ext E5).keep Kc6 (by simp only [List.mem_cons, List.not_mem_nil, or_false]; exact (Nat.ne_of_lt (Nat.lt_of_lt_of_le (Nat.lt_of_lt_of_le (Nat.lt_of_lt_of_le (Nat.lt_of_lt_of_le (Nat.lt_of_lt_of_le Ea.lt E1.1) (Nat.le_of_eq W2.size.symm)) E3.1) (Nat.le_of_eq W4.size.symm)) (Nat.le_of_eq g5.symm)))))
  refine w_putF X q7_1_28 (host := "") (Or.inl (wd_49 hw)) Via.refl f14 f13 (Or.inr ⟨(wd_50 hw), rfl, rfl⟩) (wd_7 hw) (ty := (.object "java/util/BitSet")) (by decide) rfl rfl ga (fun T h7 X W7 => ?_)
  have f15 := f14.same W7
  have K16 : Keep h0 h7 [a] := K12.wr W7 (Or.inl (List.mem_of_getElem? (i := 0) rfl))
  refine w_aloadN X q7_1_31 rfl (rfl) ?_
  refine w_new X q7_1_32 (wd_51 hw) (wd_52 hw) (wd_53 hw) (by decide) (by decide) (fun T h8 b8 g8 gn8 X E8 A8 D8 => ?_)
  have sz_b8 : h0.size ≤ b8 := Nat.le_trans K16.1 (Nat.le_of_eq g8.symm)
  have K17 : Keep h0 h8 [a] := K16.ext E8
  refine w_dup X q7_1_35 rfl ?_
  have n0le_h8 : n0 ≤ h8.size := X.old.1 ▸ X.old.2.1
  refine w_callI X q7_1_36 rfl (wd_54 hw) (wd_55 hw) (wd_53 hw) (wd_56 hw) (by decide) (argsL := []) (S := [(.ref b8), (.ref a)]) (m_vn hw hS gn8 A8 (show Fld Z h8 b8 "com/example/flicker/flicker/game/VertexNames" "text" "Ljava/lang/StringBuilder;" .null from D8 (Or.inr (wd_77 hw)) (ty := (.object "java/lang/StringBuilder")) (by decide)) (show Fld Z h8 b8 "com/example/flicker/flicker/game/VertexNames" "end" "[I" .null from D8 (Or.inl (wd_79 hw)) (ty := (.array .int)) (by decide)) (show Fld Z h8 b8 "com/example/flicker/flicker/game/VertexNames" "present" "Ljava/util/BitSet;" .null from D8 (Or.inr (wd_83 hw)) (ty := (.object "java/util/BitSet")) (by decide)) (show Fld Z h8 b8 "com/example/flicker/flicker/game/VertexNames" "count" "I" (.int (0 : Int32)) from D8 (Or.inl (wd_158 hw)) (ty := .int) (by decide))) pd_2 rfl rfl rfl (by decide) (Nat.le_of_ble_eq_true rfl) (by decide) (by decide) (fun T h9 v9 L9 X q9 => ?_)
  obtain ⟨rfl, Kc9, s9, e9, gs9, lse9, le9, Ex9, Ft9, Fe9, Fc9, Es9, Fs9, Ie9⟩ := q9
  have K18 : Keep h0 h9 [a] := K17.trans Kc9 (fun x hx => by cases List.mem_singleton.mp hx; exact (Or.inr sz_b8))
  obtain ⟨q9_0, q9_1, q9_2, q9_3, A9⟩ := Ie9
  have sz_s9 : h0.size ≤ s9 := Nat.le_trans K17.1 gs9
  have sz_e9 : h0.size ≤ e9 := Nat.le_trans K17.1 (Nat.le_of_lt (Nat.lt_of_le_of_lt gs9 lse9))
  show Wp _ _ _ _ (T.setTop (mkF _ _ _ [(.ref b8), (.ref a)]))
  have f19 := (((f13.wr W7).ext E8).keep Kc9)
  have f20 := (((((((((F_names.ext E1).other W2 (Or.inr (slot_ne (Or.inr (wd_85 hw)) (Or.inl (wd_24 hw)) (by decide) (t := (.object "com/example/flicker/flicker/game/VertexNames")) (t' := (.array .int)) (by decide) (by decide)))).ext E3).other W4 (Or.inr (slot_ne (Or.inr (wd_85 hw)) (Or.inl (wd_26 hw)) (by decide) (t := (.object "com/example/flicker/flicker/game/VertexNames")) (t' := (.array .int)) (by decide) (by decide)))).ext E5).keep Kc6 (by simp only [List.mem_cons, List.not_mem_nil, or_false]; exact (Nat.ne_of_lt (Nat.lt_of_lt_of_le (Nat.lt_of_lt_of_le (Nat.lt_of_lt_of_le (Nat.lt_of_lt_of_le (Nat.lt_of_lt_of_le Ea.lt E1.1) (Nat.le_of_eq W2.size.symm)) E3.1) (Nat.le_of_eq W4.size.symm)) (Nat.le_of_eq g5.symm))))).other W7 (Or.inr (slot_ne (Or.inr (wd_85 hw)) (Or.inr (wd_50 hw)) (by decide) (t := (.object "com/example/flicker/flicker/game/VertexNames")) (t' := (.object "java/util/BitSet")) (by decide) (by decide)))).ext E8).keep Kc9 (by simp only [List.mem_cons, List.not_mem_nil, or_false]; exact (Nat.ne_of_lt (Nat.lt_of_lt_of_le (Nat.lt_of_lt_of_le (Nat.lt_of_lt_of_le (Nat.lt_of_lt_of_le (Nat.lt_of_lt_of_le (Nat.lt_of_lt_of_le (Nat.lt_of_lt_of_le (Nat.lt_of_lt_of_le Ea.lt E1.1) (Nat.le_of_eq W2.size.symm)) E3.1) (Nat.le_of_eq W4.size.symm)) E5.1) Kc6.1) (Nat.le_of_eq W7.size.symm)) (Nat.le_of_eq g8.symm)))))
  refine w_putF X q7_1_39 (host := "") (Or.inl (wd_84 hw)) Via.refl f20 f19 (Or.inr ⟨(wd_85 hw), rfl, rfl⟩) (wd_7 hw) (ty := (.object "com/example/flicker/flicker/game/VertexNames")) (by decide) rfl rfl ga (fun T h10 X W10 => ?_)
  have f21 := f20.same W10
  have K22 : Keep h0 h10 [a] := K18.wr W10 (Or.inl (List.mem_of_getElem? (i := 0) rfl))
  refine w_aloadN X q7_1_42 rfl (rfl) ?_
  refine w_bipush X (64 : Int32) q7_1_43 rfl ?_
  refine w_newarr X q7_1_45 (wd_5 hw) 64 64 (by decide) (by decide) (by decide) (by decide) (by decide) (by decide) (fun T h11 b11 g11 gn11 X E11 A11 => ?_)
  replace A11 : Ary Z h11 b11 .int ((.int (0 : Int32)) :: (.int (0 : Int32)) :: (.int (0 : Int32)) :: (.int (0 : Int32)) :: own_z60) := A11
  have sz_b11 : h0.size ≤ b11 := Nat.le_trans K22.1 (Nat.le_of_eq g11.symm)
  have K23 : Keep h0 h11 [a] := K22.ext E11
  have f24 := ((f19.wr W10).ext E11)
  have f25 := (((((((((((F_vertexLines.ext E1).other W2 (Or.inr (slot_ne (Or.inl (wd_87 hw)) (Or.inl (wd_24 hw)) (by decide) (t := (.array .int)) (t' := (.array .int)) (by decide) (by decide)))).ext E3).other W4 (Or.inr (slot_ne (Or.inl (wd_87 hw)) (Or.inl (wd_26 hw)) (by decide) (t := (.array .int)) (t' := (.array .int)) (by decide) (by decide)))).ext E5).keep Kc6 (by simp only [List.mem_cons, List.not_mem_nil, or_false]; exact (Nat.ne_of_lt (Nat.lt_of_lt_of_le (Nat.lt_of_lt_of_le (Nat.lt_of_lt_of_le (Nat.lt_of_lt_of_le (Nat.lt_of_lt_of_le Ea.lt E1.1) (Nat.le_of_eq W2.size.symm)) E3.1) (Nat.le_of_eq W4.size.symm)) (Nat.le_of_eq g5.symm))))).other W7 (Or.inr (slot_ne (Or.inl (wd_87 hw)) (Or.inr (wd_50 hw)) (by decide) (t := (.array .int)) (t' := (.object "java/util/BitSet")) (by decide) (by decide)))).ext E8).keep Kc9 (by simp only [List.mem_cons, List.not_mem_nil, or_false]; exact (Nat.ne_of_lt (Nat.lt_of_lt_of_le (Nat.lt_of_lt_of_le (Nat.lt_of_lt_of_le (Nat.lt_of_lt_of_le (Nat.lt_of_lt_of_le (Nat.lt_of_lt_of_le (Nat.lt_of_lt_of_le (Nat.lt_of_lt_of_le Ea.lt E1.1) (Nat.le_of_eq W2.size.symm)) E3.1) (Nat.le_of_eq W4.size.symm)) E5.1) Kc6.1) (Nat.le_of_eq W7.size.symm)) (Nat.le_of_eq g8.symm))))).other W10 (Or.inr (slot_ne (Or.inl (wd_87 hw)) (Or.inr (wd_85 hw)) (by decide) (t := (.array .int)) (t' := (.object "com/example/flicker/flicker/game/VertexNames")) (by decide) (by decide)))).ext E11)
  refine w_putF X q7_1_47 (host := "") (Or.inl (wd_86 hw)) Via.refl f25 f24 (Or.inl (wd_87 hw)) (wd_7 hw) (ty := (.array .int)) (by decide) rfl rfl ga (fun T h12 X W12 => ?_)
  have f26 := f25.same W12
  have K27 : Keep h0 h12 [a] := K23.wr W12 (Or.inl (List.mem_of_getElem? (i := 0) rfl))
  refine w_aloadN X q7_1_50 rfl (rfl) ?_
  refine w_bipush X (64 : Int32) q7_1_51 rfl ?_
  refine w_newarr X q7_1_53 (wd_5 hw) 64 64 (by decide) (by decide) (by decide) (by decide) (by decide) (by decide) (fun T h13 b13 g13 gn13 X E13 A13 => ?_)
  replace A13 : Ary Z h13 b13 .int ((.int (0 : Int32)) :: (.int (0 : Int32)) :: (.int (0 : Int32)) :: (.int (0 : Int32)) :: own_z60) := A13
  have sz_b13 : h0.size ≤ b13 := Nat.le_trans K27.1 (Nat.le_of_eq g13.symm)
  have K28 : Keep h0 h13 [a] := K27.ext E13
  have f29 := ((f24.wr W12).ext E13)
  have f30 := (((((((((((((F_setEnd.ext E1).other W2 (Or.inr (slot_ne (Or.inl (wd_89 hw)) (Or.inl (wd_24 hw)) (by decide) (t := (.array .int)) (t' := (.array .int)) (by decide) (by decide)))).ext E3).other W4 (Or.inr (slot_ne (Or.inl (wd_89 hw)) (Or.inl (wd_26 hw)) (by decide) (t := (.array .int)) (t' := (.array .int)) (by decide) (by decide)))).ext E5).keep Kc6 (by simp only [List.mem_cons, List.not_mem_nil, or_false]; exact (Nat.ne_of_lt (Nat.lt_of_lt_of_le (Nat.lt_of_lt_of_le (Nat.lt_of_lt_of_le (Nat.lt_of_lt_of_le (Nat.lt_of_lt_of_le Ea.lt E1.1) (Nat.le_of_eq W2.size.symm)) E3.1) (Nat.le_of_eq W4.size.symm)) (Nat.le_of_eq g5.symm))))).other W7 (Or.inr (slot_ne (Or.inl (wd_89 hw)) (Or.inr (wd_50 hw)) (by decide) (t := (.array .int)) (t' := (.object "java/util/BitSet")) (by decide) (by decide)))).ext E8).keep Kc9 (by simp only [List.mem_cons, List.not_mem_nil, or_false]; exact (Nat.ne_of_lt (Nat.lt_of_lt_of_le (Nat.lt_of_lt_of_le (Nat.lt_of_lt_of_le (Nat.lt_of_lt_of_le (Nat.lt_of_lt_of_le (Nat.lt_of_lt_of_le (Nat.lt_of_lt_of_le (Nat.lt_of_lt_of_le Ea.lt E1.1) (Nat.le_of_eq W2.size.symm)) E3.1) (Nat.le_of_eq W4.size.symm)) E5.1) Kc6.1) (Nat.le_of_eq W7.size.symm)) (Nat.le_of_eq g8.symm))))).other W10 (Or.inr (slot_ne (Or.inl (wd_89 hw)) (Or.inr (wd_85 hw)) (by decide) (t := (.array .int)) (t' := (.object "com/example/flicker/flicker/game/VertexNames")) (by decide) (by decide)))).ext E11).other W12 (Or.inr (slot_ne (Or.inl (wd_89 hw)) (Or.inl (wd_87 hw)) (by decide) (t := (.array .int)) (t' := (.array .int)) (by decide) (by decide)))).ext E13)
  refine w_putF X q7_1_55 (host := "") (Or.inl (wd_88 hw)) Via.refl f30 f29 (Or.inl (wd_89 hw)) (wd_7 hw) (ty := (.array .int)) (by decide) rfl rfl ga (fun T h14 X W14 => ?_)
  have f31 := f30.same W14
  have K32 : Keep h0 h14 [a] := K28.wr W14 (Or.inl (List.mem_of_getElem? (i := 0) rfl))
  refine w_aloadN X q7_1_58 rfl (rfl) ?_
  refine w_bipush X (64 : Int32) q7_1_59 rfl ?_
  refine w_newarr X q7_1_61 (wd_5 hw) 64 64 (by decide) (by decide) (by decide) (by decide) (by decide) (by decide) (fun T h15 b15 g15 gn15 X E15 A15 => ?_)
  replace A15 : Ary Z h15 b15 .int ((.int (0 : Int32)) :: (.int (0 : Int32)) :: (.int (0 : Int32)) :: (.int (0 : Int32)) :: own_z60) := A15
  have sz_b15 : h0.size ≤ b15 := Nat.le_trans K32.1 (Nat.le_of_eq g15.symm)
  have K33 : Keep h0 h15 [a] := K32.ext E15
  have f34 := ((f29.wr W14).ext E15)
  have f35 := (((((((((((((((F_sets.ext E1).other W2 (Or.inr (slot_ne (Or.inl (wd_91 hw)) (Or.inl (wd_24 hw)) (by decide) (t := (.array .int)) (t' := (.array .int)) (by decide) (by decide)))).ext E3).other W4 (Or.inr (slot_ne (Or.inl (wd_91 hw)) (Or.inl (wd_26 hw)) (by decide) (t := (.array .int)) (t' := (.array .int)) (by decide) (by decide)))).ext E5).keep Kc6 (by simp only [List.mem_cons, List.not_mem_nil, or_false]; exact (Nat.ne_of_lt (Nat.lt_of_lt_of_le (Nat.lt_of_lt_of_le (Nat.lt_of_lt_of_le (Nat.lt_of_lt_of_le (Nat.lt_of_lt_of_le Ea.lt E1.1) (Nat.le_of_eq W2.size.symm)) E3.1) (Nat.le_of_eq W4.size.symm)) (Nat.le_of_eq g5.symm))))).other W7 (Or.inr (slot_ne (Or.inl (wd_91 hw)) (Or.inr (wd_50 hw)) (by decide) (t := (.array .int)) (t' := (.object "java/util/BitSet")) (by decide) (by decide)))).ext E8).keep Kc9 (by simp only [List.mem_cons, List.not_mem_nil, or_false]; exact (Nat.ne_of_lt (Nat.lt_of_lt_of_le (Nat.lt_of_lt_of_le (Nat.lt_of_lt_of_le (Nat.lt_of_lt_of_le (Nat.lt_of_lt_of_le (Nat.lt_of_lt_of_le (Nat.lt_of_lt_of_le (Nat.lt_of_lt_of_le Ea.lt E1.1) (Nat.le_of_eq W2.size.symm)) E3.1) (Nat.le_of_eq W4.size.symm)) E5.1) Kc6.1) (Nat.le_of_eq W7.size.symm)) (Nat.le_of_eq g8.symm))))).other W10 (Or.inr (slot_ne (Or.inl (wd_91 hw)) (Or.inr (wd_85 hw)) (by decide) (t := (.array .int)) (t' := (.object "com/example/flicker/flicker/game/VertexNames")) (by decide) (by decide)))).ext E11).other W12 (Or.inr (slot_ne (Or.inl (wd_91 hw)) (Or.inl (wd_87 hw)) (by decide) (t := (.array .int)) (t' := (.array .int)) (by decide) (by decide)))).ext E13).other W14 (Or.inr (slot_ne (Or.inl (wd_91 hw)) (Or.inl (wd_89 hw)) (by decide) (t := (.array .int)) (t' := (.array .int)) (by decide) (by decide)))).ext E15)
  refine w_putF X q7_1_63 (host := "") (Or.inl (wd_90 hw)) Via.refl f35 f34 (Or.inl (wd_91 hw)) (wd_7 hw) (ty := (.array .int)) (by decide) rfl rfl ga (fun T h16 X W16 => ?_)
  have f36 := f35.same W16
  have K37 : Keep h0 h16 [a] := K33.wr W16 (Or.inl (List.mem_of_getElem? (i := 0) rfl))
  refine w_aloadN X q7_1_66 rfl (rfl) ?_
  refine w_sipush X (256 : Int32) q7_1_67 rfl ?_
  refine w_newarr X q7_1_70 (wd_5 hw) 256 256 (by decide) (by decide) (by decide) (by decide) (by decide) (by decide) (fun T h17 b17 g17 gn17 X E17 A17 => ?_)
  have sz_b17 : h0.size ≤ b17 := Nat.le_trans K37.1 (Nat.le_of_eq g17.symm)
  have K38 : Keep h0 h17 [a] := K37.ext E17
  have f39 := ((f34.wr W16).ext E17)
  have f40 := (((((((((((((((((F_tails.ext E1).other W2 (Or.inr (slot_ne (Or.inl (wd_93 hw)) (Or.inl (wd_24 hw)) (by decide) (t := (.array .int)) (t' := (.array .int)) (by decide) (by decide)))).ext E3).other W4 (Or.inr (slot_ne (Or.inl (wd_93 hw)) (Or.inl (wd_26 hw)) (by decide) (t := (.array .int)) (t' := (.array .int)) (by decide) (by decide)))).ext E5).keep Kc6 (by simp only [List.mem_cons, List.not_mem_nil, or_false]; exact (Nat.ne_of_lt (Nat.lt_of_lt_of_le (Nat.lt_of_lt_of_le (Nat.lt_of_lt_of_le (Nat.lt_of_lt_of_le (Nat.lt_of_lt_of_le Ea.lt E1.1) (Nat.le_of_eq W2.size.symm)) E3.1) (Nat.le_of_eq W4.size.symm)) (Nat.le_of_eq g5.symm))))).other W7 (Or.inr (slot_ne (Or.inl (wd_93 hw)) (Or.inr (wd_50 hw)) (by decide) (t := (.array .int)) (t' := (.object "java/util/BitSet")) (by decide) (by decide)))).ext E8).keep Kc9 (by simp only [List.mem_cons, List.not_mem_nil, or_false]; exact (Nat.ne_of_lt (Nat.lt_of_lt_of_le (Nat.lt_of_lt_of_le (Nat.lt_of_lt_of_le (Nat.lt_of_lt_of_le (Nat.lt_of_lt_of_le (Nat.lt_of_lt_of_le (Nat.lt_of_lt_of_le (Nat.lt_of_lt_of_le Ea.lt E1.1) (Nat.le_of_eq W2.size.symm)) E3.1) (Nat.le_of_eq W4.size.symm)) E5.1) Kc6.1) (Nat.le_of_eq W7.size.symm)) (Nat.le_of_eq g8.symm))))).other W10 (Or.inr (slot_ne (Or.inl (wd_93 hw)) (Or.inr (wd_85 hw)) (by decide) (t := (.array .int)) (t' := (.object "com/example/flicker/flicker/game/VertexNames")) (by decide) (by decide)))).ext E11).other W12 (Or.inr (slot_ne (Or.inl (wd_93 hw)) (Or.inl (wd_87 hw)) (by decide) (t := (.array .int)) (t' := (.array .int)) (by decide) (by decide)))).ext E13).other W14 (Or.inr (slot_ne (Or.inl (wd_93 hw)) (Or.inl (wd_89 hw)) (by decide) (t := (.array .int)) (t' := (.array .int)) (by decide) (by decide)))).ext E15).other W16 (Or.inr (slot_ne (Or.inl (wd_93 hw)) (Or.inl (wd_91 hw)) (by decide) (t := (.array .int)) (t' := (.array .int)) (by decide) (by decide)))).ext E17)
  refine w_putF X q7_1_72 (host := "") (Or.inl (wd_92 hw)) Via.refl f40 f39 (Or.inl (wd_93 hw)) (wd_7 hw) (ty := (.array .int)) (by decide) rfl rfl ga (fun T h18 X W18 => ?_)
  have f41 := f40.same W18
  have K42 : Keep h0 h18 [a] := K38.wr W18 (Or.inl (List.mem_of_getElem? (i := 0) rfl))
  refine w_aloadN X q7_1_75 rfl (rfl) ?_
  refine w_sipush X (256 : Int32) q7_1_76 rfl ?_
  refine w_newarr X q7_1_79 (wd_5 hw) 256 256 (by decide) (by decide) (by decide) (by decide) (by decide) (by decide) (fun T h19 b19 g19 gn19 X E19 A19 => ?_)
  have sz_b19 : h0.size ≤ b19 := Nat.le_trans K42.1 (Nat.le_of_eq g19.symm)
  have K43 : Keep h0 h19 [a] := K42.ext E19
  have f44 := ((f39.wr W18).ext E19)
  have f45 := (((((((((((((((((((F_heads.ext E1).other W2 (Or.inr (slot_ne (Or.inl (wd_95 hw)) (Or.inl (wd_24 hw)) (by decide) (t := (.array .int)) (t' := (.array .int)) (by decide) (by decide)))).ext E3).other W4 (Or.inr (slot_ne (Or.inl (wd_95 hw)) (Or.inl (wd_26 hw)) (by decide) (t := (.array .int)) (t' := (.array .int)) (by decide) (by decide)))).ext E5).keep Kc6 (by simp only [List.mem_cons, List.not_mem_nil, or_false]; exact (Nat.ne_of_lt (Nat.lt_of_lt_of_le (Nat.lt_of_lt_of_le (Nat.lt_of_lt_of_le (Nat.lt_of_lt_of_le (Nat.lt_of_lt_of_le Ea.lt E1.1) (Nat.le_of_eq W2.size.symm)) E3.1) (Nat.le_of_eq W4.size.symm)) (Nat.le_of_eq g5.symm))))).other W7 (Or.inr (slot_ne (Or.inl (wd_95 hw)) (Or.inr (wd_50 hw)) (by decide) (t := (.array .int)) (t' := (.object "java/util/BitSet")) (by decide) (by decide)))).ext E8).keep Kc9 (by simp only [List.mem_cons, List.not_mem_nil, or_false]; exact (Nat.ne_of_lt (Nat.lt_of_lt_of_le (Nat.lt_of_lt_of_le (Nat.lt_of_lt_of_le (Nat.lt_of_lt_of_le (Nat.lt_of_lt_of_le (Nat.lt_of_lt_of_le (Nat.lt_of_lt_of_le (Nat.lt_of_lt_of_le Ea.lt E1.1) (Nat.le_of_eq W2.size.symm)) E3.1) (Nat.le_of_eq W4.size.symm)) E5.1) Kc6.1) (Nat.le_of_eq W7.size.symm)) (Nat.le_of_eq g8.symm))))).other W10 (Or.inr (slot_ne (Or.inl (wd_95 hw)) (Or.inr (wd_85 hw)) (by decide) (t := (.array .int)) (t' := (.object "com/example/flicker/flicker/game/VertexNames")) (by decide) (by decide)))).ext E11).other W12 (Or.inr (slot_ne (Or.inl (wd_95 hw)) (Or.inl (wd_87 hw)) (by decide) (t := (.array .int)) (t' := (.array .int)) (by decide) (by decide)))).ext E13).other W14 (Or.inr (slot_ne (Or.inl (wd_95 hw)) (Or.inl (wd_89 hw)) (by decide) (t := (.array .int)) (t' := (.array .int)) (by decide) (by decide)))).ext E15).other W16 (Or.inr (slot_ne (Or.inl (wd_95 hw)) (Or.inl (wd_91 hw)) (by decide) (t := (.array .int)) (t' := (.array .int)) (by decide) (by decide)))).ext E17).other W18 (Or.inr (slot_ne (Or.inl (wd_95 hw)) (Or.inl (wd_93 hw)) (by decide) (t := (.array .int)) (t' := (.array .int)) (by decide) (by decide)))).ext E19)
  refine w_putF X q7_1_81 (host := "") (Or.inl (wd_94 hw)) Via.refl f45 f44 (Or.inl (wd_95 hw)) (wd_7 hw) (ty := (.array .int)) (by decide) rfl rfl ga (fun T h20 X W20 => ?_)
  have f46 := f45.same W20
  have K47 : Keep h0 h20 [a] := K43.wr W20 (Or.inl (List.mem_of_getElem? (i := 0) rfl))
  refine w_aloadN X q7_1_84 rfl (rfl) ?_
  refine w_sipush X (256 : Int32) q7_1_85 rfl ?_
  refine w_newarr X q7_1_88 (wd_5 hw) 256 256 (by decide) (by decide) (by decide) (by decide) (by decide) (by decide) (fun T h21 b21 g21 gn21 X E21 A21 => ?_)
  have sz_b21 : h0.size ≤ b21 := Nat.le_trans K47.1 (Nat.le_of_eq g21.symm)
  have K48 : Keep h0 h21 [a] := K47.ext E21
  have f49 := ((f44.wr W20).ext E21)
  have f50 := (((((((((((((((((((((F_edgeLines.ext E1).other W2 (Or.inr (slot_ne (Or.inl (wd_97 hw)) (Or.inl (wd_24 hw)) (by decide) (t := (.array .int)) (t' := (.array .int)) (by decide) (by decide)))).ext E3).other W4 (Or.inr (slot_ne (Or.inl (wd_97 hw)) (Or.inl (wd_26 hw)) (by decide) (t := (.array .int)) (t' := (.array .int)) (by decide) (by decide)))).ext E5).keep Kc6 (by simp only [List.mem_cons, List.not_mem_nil, or_false]; exact (Nat.ne_of_lt (Nat.lt_of_lt_of_le (Nat.lt_of_lt_of_le (Nat.lt_of_lt_of_le (Nat.lt_of_lt_of_le (Nat.lt_of_lt_of_le Ea.lt E1.1) (Nat.le_of_eq W2.size.symm)) E3.1) (Nat.le_of_eq W4.size.symm)) (Nat.le_of_eq g5.symm))))).other W7 (Or.inr (slot_ne (Or.inl (wd_97 hw)) (Or.inr (wd_50 hw)) (by decide) (t := (.array .int)) (t' := (.object "java/util/BitSet")) (by decide) (by decide)))).ext E8).keep Kc9 (by simp only [List.mem_cons, List.not_mem_nil, or_false]; exact (Nat.ne_of_lt (Nat.lt_of_lt_of_le (Nat.lt_of_lt_of_le (Nat.lt_of_lt_of_le (Nat.lt_of_lt_of_le (Nat.lt_of_lt_of_le (Nat.lt_of_lt_of_le (Nat.lt_of_lt_of_le (Nat.lt_of_lt_of_le Ea.lt E1.1) (Nat.le_of_eq W2.size.symm)) E3.1) (Nat.le_of_eq W4.size.symm)) E5.1) Kc6.1) (Nat.le_of_eq W7.size.symm)) (Nat.le_of_eq g8.symm))))).other W10 (Or.inr (slot_ne (Or.inl (wd_97 hw)) (Or.inr (wd_85 hw)) (by decide) (t := (.array .int)) (t' := (.object "com/example/flicker/flicker/game/VertexNames")) (by decide) (by decide)))).ext E11).other W12 (Or.inr (slot_ne (Or.inl (wd_97 hw)) (Or.inl (wd_87 hw)) (by decide) (t := (.array .int)) (t' := (.array .int)) (by decide) (by decide)))).ext E13).other W14 (Or.inr (slot_ne (Or.inl (wd_97 hw)) (Or.inl (wd_89 hw)) (by decide) (t := (.array .int)) (t' := (.array .int)) (by decide) (by decide)))).ext E15).other W16 (Or.inr (slot_ne (Or.inl (wd_97 hw)) (Or.inl (wd_91 hw)) (by decide) (t := (.array .int)) (t' := (.array .int)) (by decide) (by decide)))).ext E17).other W18 (Or.inr (slot_ne (Or.inl (wd_97 hw)) (Or.inl (wd_93 hw)) (by decide) (t := (.array .int)) (t' := (.array .int)) (by decide) (by decide)))).ext E19).other W20 (Or.inr (slot_ne (Or.inl (wd_97 hw)) (Or.inl (wd_95 hw)) (by decide) (t := (.array .int)) (t' := (.array .int)) (by decide) (by decide)))).ext E21)
  refine w_putF X q7_1_90 (host := "") (Or.inl (wd_96 hw)) Via.refl f50 f49 (Or.inl (wd_97 hw)) (wd_7 hw) (ty := (.array .int)) (by decide) rfl rfl ga (fun T h22 X W22 => ?_)
  have f51 := f50.same W22
  have K52 : Keep h0 h22 [a] := K48.wr W22 (Or.inl (List.mem_of_getElem? (i := 0) rfl))
  refine w_aloadN X q7_1_93 rfl (rfl) ?_
  refine w_getS X q7_1_94 (host := "") (Or.inl (wd_98 hw)) Via.refl (S_nw.ext X.old.2) (fun T X => ?_)
  have f53 := (f49.wr W22)
  have f54 := ((((((((((((((((((((((F_weights.ext E1).other W2 (Or.inr (slot_ne (Or.inl (wd_101 hw)) (Or.inl (wd_24 hw)) (by decide) (t := (.array .long)) (t' := (.array .int)) (by decide) (by decide)))).ext E3).other W4 (Or.inr (slot_ne (Or.inl (wd_101 hw)) (Or.inl (wd_26 hw)) (by decide) (t := (.array .long)) (t' := (.array .int)) (by decide) (by decide)))).ext E5).keep Kc6 (by simp only [List.mem_cons, List.not_mem_nil, or_false]; exact (Nat.ne_of_lt (Nat.lt_of_lt_of_le (Nat.lt_of_lt_of_le (Nat.lt_of_lt_of_le (Nat.lt_of_lt_of_le (Nat.lt_of_lt_of_le Ea.lt E1.1) (Nat.le_of_eq W2.size.symm)) E3.1) (Nat.le_of_eq W4.size.symm)) (Nat.le_of_eq g5.symm))))).other W7 (Or.inr (slot_ne (Or.inl (wd_101 hw)) (Or.inr (wd_50 hw)) (by decide) (t := (.array .long)) (t' := (.object "java/util/BitSet")) (by decide) (by decide)))).ext E8).keep Kc9 (by simp only [List.mem_cons, List.not_mem_nil, or_false]; exact (Nat.ne_of_lt (Nat.lt_of_lt_of_le (Nat.lt_of_lt_of_le (Nat.lt_of_lt_of_le (Nat.lt_of_lt_of_le (Nat.lt_of_lt_of_le (Nat.lt_of_lt_of_le (Nat.lt_of_lt_of_le (Nat.lt_of_lt_of_le Ea.lt E1.1) (Nat.le_of_eq W2.size.symm)) E3.1) (Nat.le_of_eq W4.size.symm)) E5.1) Kc6.1) (Nat.le_of_eq W7.size.symm)) (Nat.le_of_eq g8.symm))))).other W10 (Or.inr (slot_ne (Or.inl (wd_101 hw)) (Or.inr (wd_85 hw)) (by decide) (t := (.array .long)) (t' := (.object "com/example/flicker/flicker/game/VertexNames")) (by decide) (by decide)))).ext E11).other W12 (Or.inr (slot_ne (Or.inl (wd_101 hw)) (Or.inl (wd_87 hw)) (by decide) (t := (.array .long)) (t' := (.array .int)) (by decide) (by decide)))).ext E13).other W14 (Or.inr (slot_ne (Or.inl (wd_101 hw)) (Or.inl (wd_89 hw)) (by decide) (t := (.array .long)) (t' := (.array .int)) (by decide) (by decide)))).ext E15).other W16 (Or.inr (slot_ne (Or.inl (wd_101 hw)) (Or.inl (wd_91 hw)) (by decide) (t := (.array .long)) (t' := (.array .int)) (by decide) (by decide)))).ext E17).other W18 (Or.inr (slot_ne (Or.inl (wd_101 hw)) (Or.inl (wd_93 hw)) (by decide) (t := (.array .long)) (t' := (.array .int)) (by decide) (by decide)))).ext E19).other W20 (Or.inr (slot_ne (Or.inl (wd_101 hw)) (Or.inl (wd_95 hw)) (by decide) (t := (.array .long)) (t' := (.array .int)) (by decide) (by decide)))).ext E21).other W22 (Or.inr (slot_ne (Or.inl (wd_101 hw)) (Or.inl (wd_97 hw)) (by decide) (t := (.array .long)) (t' := (.array .int)) (by decide) (by decide))))
  refine w_putF X q7_1_97 (host := "") (Or.inl (wd_100 hw)) Via.refl f54 f53 (Or.inl (wd_101 hw)) (wd_7 hw) (ty := (.array .long)) (by decide) rfl rfl ga (fun T h23 X W23 => ?_)
  have f55 := f54.same W23
  have K56 : Keep h0 h23 [a] := K52.wr W23 (Or.inl (List.mem_of_getElem? (i := 0) rfl))
  refine w_aloadN X q7_1_100 rfl (rfl) ?_
  refine w_aloadN X q7_1_101 rfl (rfl) ?_
  have f57 := (f53.wr W23)
  have f58 := (((((((((((((((((((((((F_source.ext E1).other W2 (Or.inr (slot_ne (Or.inr (wd_103 hw)) (Or.inl (wd_24 hw)) (by decide) (t := (.object "java/lang/String")) (t' := (.array .int)) (by decide) (by decide)))).ext E3).other W4 (Or.inr (slot_ne (Or.inr (wd_103 hw)) (Or.inl (wd_26 hw)) (by decide) (t := (.object "java/lang/String")) (t' := (.array .int)) (by decide) (by decide)))).ext E5).keep Kc6 (by simp only [List.mem_cons, List.not_mem_nil, or_false]; exact (Nat.ne_of_lt (Nat.lt_of_lt_of_le (Nat.lt_of_lt_of_le (Nat.lt_of_lt_of_le (Nat.lt_of_lt_of_le (Nat.lt_of_lt_of_le Ea.lt E1.1) (Nat.le_of_eq W2.size.symm)) E3.1) (Nat.le_of_eq W4.size.symm)) (Nat.le_of_eq g5.symm))))).other W7 (Or.inr (slot_ne (Or.inr (wd_103 hw)) (Or.inr (wd_50 hw)) (by decide) (t := (.object "java/lang/String")) (t' := (.object "java/util/BitSet")) (by decide) (by decide)))).ext E8).keep Kc9 (by simp only [List.mem_cons, List.not_mem_nil, or_false]; exact (Nat.ne_of_lt (Nat.lt_of_lt_of_le (Nat.lt_of_lt_of_le (Nat.lt_of_lt_of_le (Nat.lt_of_lt_of_le (Nat.lt_of_lt_of_le (Nat.lt_of_lt_of_le (Nat.lt_of_lt_of_le (Nat.lt_of_lt_of_le Ea.lt E1.1) (Nat.le_of_eq W2.size.symm)) E3.1) (Nat.le_of_eq W4.size.symm)) E5.1) Kc6.1) (Nat.le_of_eq W7.size.symm)) (Nat.le_of_eq g8.symm))))).other W10 (Or.inr (slot_ne (Or.inr (wd_103 hw)) (Or.inr (wd_85 hw)) (by decide) (t := (.object "java/lang/String")) (t' := (.object "com/example/flicker/flicker/game/VertexNames")) (by decide) (by decide)))).ext E11).other W12 (Or.inr (slot_ne (Or.inr (wd_103 hw)) (Or.inl (wd_87 hw)) (by decide) (t := (.object "java/lang/String")) (t' := (.array .int)) (by decide) (by decide)))).ext E13).other W14 (Or.inr (slot_ne (Or.inr (wd_103 hw)) (Or.inl (wd_89 hw)) (by decide) (t := (.object "java/lang/String")) (t' := (.array .int)) (by decide) (by decide)))).ext E15).other W16 (Or.inr (slot_ne (Or.inr (wd_103 hw)) (Or.inl (wd_91 hw)) (by decide) (t := (.object "java/lang/String")) (t' := (.array .int)) (by decide) (by decide)))).ext E17).other W18 (Or.inr (slot_ne (Or.inr (wd_103 hw)) (Or.inl (wd_93 hw)) (by decide) (t := (.object "java/lang/String")) (t' := (.array .int)) (by decide) (by decide)))).ext E19).other W20 (Or.inr (slot_ne (Or.inr (wd_103 hw)) (Or.inl (wd_95 hw)) (by decide) (t := (.object "java/lang/String")) (t' := (.array .int)) (by decide) (by decide)))).ext E21).other W22 (Or.inr (slot_ne (Or.inr (wd_103 hw)) (Or.inl (wd_97 hw)) (by decide) (t := (.object "java/lang/String")) (t' := (.array .int)) (by decide) (by decide)))).other W23 (Or.inr (slot_ne (Or.inr (wd_103 hw)) (Or.inl (wd_101 hw)) (by decide) (t := (.object "java/lang/String")) (t' := (.array .long)) (by decide) (by decide))))
  refine w_putF X q7_1_102 (host := "") (Or.inl (wd_102 hw)) Via.refl f58 f57 (Or.inr ⟨(wd_103 hw), rfl, rfl⟩) (wd_7 hw) (ty := (.object "java/lang/String")) (by decide) rfl rfl ga (fun T h24 X W24 => ?_)
  have f59 := f58.same W24
  have K60 : Keep h0 h24 [a] := K56.wr W24 (Or.inl (List.mem_of_getElem? (i := 0) rfl))
  refine w_aloadN X q7_1_105 rfl (rfl) ?_
  refine w_iloadN X q7_1_106 rfl ?_
  have f61 := (f57.wr W24)
  have f62 := ((((((((((((((((((((((((F_dimensions.ext E1).other W2 (Or.inr (slot_ne (Or.inr (wd_105 hw)) (Or.inl (wd_24 hw)) (by decide) (t := .int) (t' := (.array .int)) (by decide) (by decide)))).ext E3).other W4 (Or.inr (slot_ne (Or.inr (wd_105 hw)) (Or.inl (wd_26 hw)) (by decide) (t := .int) (t' := (.array .int)) (by decide) (by decide)))).ext E5).keep Kc6 (by simp only [List.mem_cons, List.not_mem_nil, or_false]; exact (Nat.ne_of_lt (Nat.lt_of_lt_of_le (Nat.lt_of_lt_of_le (Nat.lt_of_lt_of_le (Nat.lt_of_lt_of_le (Nat.lt_of_lt_of_le Ea.lt E1.1) (Nat.le_of_eq W2.size.symm)) E3.1) (Nat.le_of_eq W4.size.symm)) (Nat.le_of_eq g5.symm))))).other W7 (Or.inr (slot_ne (Or.inr (wd_105 hw)) (Or.inr (wd_50 hw)) (by decide) (t := .int) (t' := (.object "java/util/BitSet")) (by decide) (by decide)))).ext E8).keep Kc9 (by simp only [List.mem_cons, List.not_mem_nil, or_false]; exact (Nat.ne_of_lt (Nat.lt_of_lt_of_le (Nat.lt_of_lt_of_le (Nat.lt_of_lt_of_le (Nat.lt_of_lt_of_le (Nat.lt_of_lt_of_le (Nat.lt_of_lt_of_le (Nat.lt_of_lt_of_le (Nat.lt_of_lt_of_le Ea.lt E1.1) (Nat.le_of_eq W2.size.symm)) E3.1) (Nat.le_of_eq W4.size.symm)) E5.1) Kc6.1) (Nat.le_of_eq W7.size.symm)) (Nat.le_of_eq g8.symm))))).other W10 (Or.inr (slot_ne (Or.inr (wd_105 hw)) (Or.inr (wd_85 hw)) (by decide) (t := .int) (t' := (.object "com/example/flicker/flicker/game/VertexNames")) (by decide) (by decide)))).ext E11).other W12 (Or.inr (slot_ne (Or.inr (wd_105 hw)) (Or.inl (wd_87 hw)) (by decide) (t := .int) (t' := (.array .int)) (by decide) (by decide)))).ext E13).other W14 (Or.inr (slot_ne (Or.inr (wd_105 hw)) (Or.inl (wd_89 hw)) (by decide) (t := .int) (t' := (.array .int)) (by decide) (by decide)))).ext E15).other W16 (Or.inr (slot_ne (Or.inr (wd_105 hw)) (Or.inl (wd_91 hw)) (by decide) (t := .int) (t' := (.array .int)) (by decide) (by decide)))).ext E17).other W18 (Or.inr (slot_ne (Or.inr (wd_105 hw)) (Or.inl (wd_93 hw)) (by decide) (t := .int) (t' := (.array .int)) (by decide) (by decide)))).ext E19).other W20 (Or.inr (slot_ne (Or.inr (wd_105 hw)) (Or.inl (wd_95 hw)) (by decide) (t := .int) (t' := (.array .int)) (by decide) (by decide)))).ext E21).other W22 (Or.inr (slot_ne (Or.inr (wd_105 hw)) (Or.inl (wd_97 hw)) (by decide) (t := .int) (t' := (.array .int)) (by decide) (by decide)))).other W23 (Or.inr (slot_ne (Or.inr (wd_105 hw)) (Or.inl (wd_101 hw)) (by decide) (t := .int) (t' := (.array .long)) (by decide) (by decide)))).other W24 (Or.inr (slot_ne (Or.inr (wd_105 hw)) (Or.inr (wd_103 hw)) (by decide) (t := .int) (t' := (.object "java/lang/String")) (by decide) (by decide))))
  refine w_putF X q7_1_107 (host := "") (Or.inl (wd_104 hw)) Via.refl f62 f61 (Or.inr ⟨(wd_105 hw), rfl, rfl⟩) (wd_7 hw) (ty := .int) (by decide) rfl rfl ga (fun T h25 X W25 => ?_)
  have f63 := f62.same W25
  have K64 : Keep h0 h25 [a] := K60.wr W25 (Or.inl (List.mem_of_getElem? (i := 0) rfl))
  have f65 := (f61.wr W25)
  have f66 := (((((((((((((((((((((((f4.ext E3).other W4 (Or.inr (slot_ne (Or.inl (wd_24 hw)) (Or.inl (wd_26 hw)) (by decide) (t := (.array .int)) (t' := (.array .int)) (by decide) (by decide)))).ext E5).keep Kc6 (by simp only [List.mem_cons, List.not_mem_nil, or_false]; exact (Nat.ne_of_lt (Nat.lt_of_lt_of_le (Nat.lt_of_lt_of_le (Nat.lt_of_lt_of_le (Nat.lt_of_lt_of_le (Nat.lt_of_lt_of_le Ea.lt E1.1) (Nat.le_of_eq W2.size.symm)) E3.1) (Nat.le_of_eq W4.size.symm)) (Nat.le_of_eq g5.symm))))).other W7 (Or.inr (slot_ne (Or.inl (wd_24 hw)) (Or.inr (wd_50 hw)) (by decide) (t := (.array .int)) (t' := (.object "java/util/BitSet")) (by decide) (by decide)))).ext E8).keep Kc9 (by simp only [List.mem_cons, List.not_mem_nil, or_false]; exact (Nat.ne_of_lt (Nat.lt_of_lt_of_le (Nat.lt_of_lt_of_le (Nat.lt_of_lt_of_le (Nat.lt_of_lt_of_le (Nat.lt_of_lt_of_le (Nat.lt_of_lt_of_le (Nat.lt_of_lt_of_le (Nat.lt_of_lt_of_le Ea.lt E1.1) (Nat.le_of_eq W2.size.symm)) E3.1) (Nat.le_of_eq W4.size.symm)) E5.1) Kc6.1) (Nat.le_of_eq W7.size.symm)) (Nat.le_of_eq g8.symm))))).other W10 (Or.inr (slot_ne (Or.inl (wd_24 hw)) (Or.inr (wd_85 hw)) (by decide) (t := (.array .int)) (t' := (.object "com/example/flicker/flicker/game/VertexNames")) (by decide) (by decide)))).ext E11).other W12 (Or.inr (slot_ne (Or.inl (wd_24 hw)) (Or.inl (wd_87 hw)) (by decide) (t := (.array .int)) (t' := (.array .int)) (by decide) (by decide)))).ext E13).other W14 (Or.inr (slot_ne (Or.inl (wd_24 hw)) (Or.inl (wd_89 hw)) (by decide) (t := (.array .int)) (t' := (.array .int)) (by decide) (by decide)))).ext E15).other W16 (Or.inr (slot_ne (Or.inl (wd_24 hw)) (Or.inl (wd_91 hw)) (by decide) (t := (.array .int)) (t' := (.array .int)) (by decide) (by decide)))).ext E17).other W18 (Or.inr (slot_ne (Or.inl (wd_24 hw)) (Or.inl (wd_93 hw)) (by decide) (t := (.array .int)) (t' := (.array .int)) (by decide) (by decide)))).ext E19).other W20 (Or.inr (slot_ne (Or.inl (wd_24 hw)) (Or.inl (wd_95 hw)) (by decide) (t := (.array .int)) (t' := (.array .int)) (by decide) (by decide)))).ext E21).other W22 (Or.inr (slot_ne (Or.inl (wd_24 hw)) (Or.inl (wd_97 hw)) (by decide) (t := (.array .int)) (t' := (.array .int)) (by decide) (by decide)))).other W23 (Or.inr (slot_ne (Or.inl (wd_24 hw)) (Or.inl (wd_101 hw)) (by decide) (t := (.array .int)) (t' := (.array .long)) (by decide) (by decide)))).other W24 (Or.inr (slot_ne (Or.inl (wd_24 hw)) (Or.inr (wd_103 hw)) (by decide) (t := (.array .int)) (t' := (.object "java/lang/String")) (by decide) (by decide)))).other W25 (Or.inr (slot_ne (Or.inl (wd_24 hw)) (Or.inr (wd_105 hw)) (by decide) (t := (.array .int)) (t' := .int) (by decide) (by decide))))
  have f67 := (((((((((((((((((((((f9.ext E5).keep Kc6 (by simp only [List.mem_cons, List.not_mem_nil, or_false]; exact (Nat.ne_of_lt (Nat.lt_of_lt_of_le (Nat.lt_of_lt_of_le (Nat.lt_of_lt_of_le (Nat.lt_of_lt_of_le (Nat.lt_of_lt_of_le Ea.lt E1.1) (Nat.le_of_eq W2.size.symm)) E3.1) (Nat.le_of_eq W4.size.symm)) (Nat.le_of_eq g5.symm))))).other W7 (Or.inr (slot_ne (Or.inl (wd_26 hw)) (Or.inr (wd_50 hw)) (by decide) (t := (.array .int)) (t' := (.object "java/util/BitSet")) (by decide) (by decide)))).ext E8).keep Kc9 (by simp only [List.mem_cons, List.not_mem_nil, or_false]; exact (Nat.ne_of_lt (Nat.lt_of_lt_of_le (Nat.lt_of_lt_of_le (Nat.lt_of_lt_of_le (Nat.lt_of_lt_of_le (Nat.lt_of_lt_of_le (Nat.lt_of_lt_of_le (Nat.lt_of_lt_of_le (Nat.lt_of_lt_of_le Ea.lt E1.1) (Nat.le_of_eq W2.size.symm)) E3.1) (Nat.le_of_eq W4.size.symm)) E5.1) Kc6.1) (Nat.le_of_eq W7.size.symm)) (Nat.le_of_eq g8.symm))))).other W10 (Or.inr (slot_ne (Or.inl (wd_26 hw)) (Or.inr (wd_85 hw)) (by decide) (t := (.array .int)) (t' := (.object "com/example/flicker/flicker/game/VertexNames")) (by decide) (by decide)))).ext E11).other W12 (Or.inr (slot_ne (Or.inl (wd_26 hw)) (Or.inl (wd_87 hw)) (by decide) (t := (.array .int)) (t' := (.array .int)) (by decide) (by decide)))).ext E13).other W14 (Or.inr (slot_ne (Or.inl (wd_26 hw)) (Or.inl (wd_89 hw)) (by decide) (t := (.array .int)) (t' := (.array .int)) (by decide) (by decide)))).ext E15).other W16 (Or.inr (slot_ne (Or.inl (wd_26 hw)) (Or.inl (wd_91 hw)) (by decide) (t := (.array .int)) (t' := (.array .int)) (by decide) (by decide)))).ext E17).other W18 (Or.inr (slot_ne (Or.inl (wd_26 hw)) (Or.inl (wd_93 hw)) (by decide) (t := (.array .int)) (t' := (.array .int)) (by decide) (by decide)))).ext E19).other W20 (Or.inr (slot_ne (Or.inl (wd_26 hw)) (Or.inl (wd_95 hw)) (by decide) (t := (.array .int)) (t' := (.array .int)) (by decide) (by decide)))).ext E21).other W22 (Or.inr (slot_ne (Or.inl (wd_26 hw)) (Or.inl (wd_97 hw)) (by decide) (t := (.array .int)) (t' := (.array .int)) (by decide) (by decide)))).other W23 (Or.inr (slot_ne (Or.inl (wd_26 hw)) (Or.inl (wd_101 hw)) (by decide) (t := (.array .int)) (t' := (.array .long)) (by decide) (by decide)))).other W24 (Or.inr (slot_ne (Or.inl (wd_26 hw)) (Or.inr (wd_103 hw)) (by decide) (t := (.array .int)) (t' := (.object "java/lang/String")) (by decide) (by decide)))).other W25 (Or.inr (slot_ne (Or.inl (wd_26 hw)) (Or.inr (wd_105 hw)) (by decide) (t := (.array .int)) (t' := .int) (by decide) (by decide))))
  have f68 := (((((((((((((((f21.ext E11).other W12 (Or.inr (slot_ne (Or.inr (wd_85 hw)) (Or.inl (wd_87 hw)) (by decide) (t := (.object "com/example/flicker/flicker/game/VertexNames")) (t' := (.array .int)) (by decide) (by decide)))).ext E13).other W14 (Or.inr (slot_ne (Or.inr (wd_85 hw)) (Or.inl (wd_89 hw)) (by decide) (t := (.object "com/example/flicker/flicker/game/VertexNames")) (t' := (.array .int)) (by decide) (by decide)))).ext E15).other W16 (Or.inr (slot_ne (Or.inr (wd_85 hw)) (Or.inl (wd_91 hw)) (by decide) (t := (.object "com/example/flicker/flicker/game/VertexNames")) (t' := (.array .int)) (by decide) (by decide)))).ext E17).other W18 (Or.inr (slot_ne (Or.inr (wd_85 hw)) (Or.inl (wd_93 hw)) (by decide) (t := (.object "com/example/flicker/flicker/game/VertexNames")) (t' := (.array .int)) (by decide) (by decide)))).ext E19).other W20 (Or.inr (slot_ne (Or.inr (wd_85 hw)) (Or.inl (wd_95 hw)) (by decide) (t := (.object "com/example/flicker/flicker/game/VertexNames")) (t' := (.array .int)) (by decide) (by decide)))).ext E21).other W22 (Or.inr (slot_ne (Or.inr (wd_85 hw)) (Or.inl (wd_97 hw)) (by decide) (t := (.object "com/example/flicker/flicker/game/VertexNames")) (t' := (.array .int)) (by decide) (by decide)))).other W23 (Or.inr (slot_ne (Or.inr (wd_85 hw)) (Or.inl (wd_101 hw)) (by decide) (t := (.object "com/example/flicker/flicker/game/VertexNames")) (t' := (.array .long)) (by decide) (by decide)))).other W24 (Or.inr (slot_ne (Or.inr (wd_85 hw)) (Or.inr (wd_103 hw)) (by decide) (t := (.object "com/example/flicker/flicker/game/VertexNames")) (t' := (.object "java/lang/String")) (by decide) (by decide)))).other W25 (Or.inr (slot_ne (Or.inr (wd_85 hw)) (Or.inr (wd_105 hw)) (by decide) (t := (.object "com/example/flicker/flicker/game/VertexNames")) (t' := .int) (by decide) (by decide))))
  have f69 := (((((((((((((f26.ext E13).other W14 (Or.inr (slot_ne (Or.inl (wd_87 hw)) (Or.inl (wd_89 hw)) (by decide) (t := (.array .int)) (t' := (.array .int)) (by decide) (by decide)))).ext E15).other W16 (Or.inr (slot_ne (Or.inl (wd_87 hw)) (Or.inl (wd_91 hw)) (by decide) (t := (.array .int)) (t' := (.array .int)) (by decide) (by decide)))).ext E17).other W18 (Or.inr (slot_ne (Or.inl (wd_87 hw)) (Or.inl (wd_93 hw)) (by decide) (t := (.array .int)) (t' := (.array .int)) (by decide) (by decide)))).ext E19).other W20 (Or.inr (slot_ne (Or.inl (wd_87 hw)) (Or.inl (wd_95 hw)) (by decide) (t := (.array .int)) (t' := (.array .int)) (by decide) (by decide)))).ext E21).other W22 (Or.inr (slot_ne (Or.inl (wd_87 hw)) (Or.inl (wd_97 hw)) (by decide) (t := (.array .int)) (t' := (.array .int)) (by decide) (by decide)))).other W23 (Or.inr (slot_ne (Or.inl (wd_87 hw)) (Or.inl (wd_101 hw)) (by decide) (t := (.array .int)) (t' := (.array .long)) (by decide) (by decide)))).other W24 (Or.inr (slot_ne (Or.inl (wd_87 hw)) (Or.inr (wd_103 hw)) (by decide) (t := (.array .int)) (t' := (.object "java/lang/String")) (by decide) (by decide)))).other W25 (Or.inr (slot_ne (Or.inl (wd_87 hw)) (Or.inr (wd_105 hw)) (by decide) (t := (.array .int)) (t' := .int) (by decide) (by decide))))
  have f70 := (((((((((((f31.ext E15).other W16 (Or.inr (slot_ne (Or.inl (wd_89 hw)) (Or.inl (wd_91 hw)) (by decide) (t := (.array .int)) (t' := (.array .int)) (by decide) (by decide)))).ext E17).other W18 (Or.inr (slot_ne (Or.inl (wd_89 hw)) (Or.inl (wd_93 hw)) (by decide) (t := (.array .int)) (t' := (.array .int)) (by decide) (by decide)))).ext E19).other W20 (Or.inr (slot_ne (Or.inl (wd_89 hw)) (Or.inl (wd_95 hw)) (by decide) (t := (.array .int)) (t' := (.array .int)) (by decide) (by decide)))).ext E21).other W22 (Or.inr (slot_ne (Or.inl (wd_89 hw)) (Or.inl (wd_97 hw)) (by decide) (t := (.array .int)) (t' := (.array .int)) (by decide) (by decide)))).other W23 (Or.inr (slot_ne (Or.inl (wd_89 hw)) (Or.inl (wd_101 hw)) (by decide) (t := (.array .int)) (t' := (.array .long)) (by decide) (by decide)))).other W24 (Or.inr (slot_ne (Or.inl (wd_89 hw)) (Or.inr (wd_103 hw)) (by decide) (t := (.array .int)) (t' := (.object "java/lang/String")) (by decide) (by decide)))).other W25 (Or.inr (slot_ne (Or.inl (wd_89 hw)) (Or.inr (wd_105 hw)) (by decide) (t := (.array .int)) (t' := .int) (by decide) (by decide))))
  have f71 := (((((((((f36.ext E17).other W18 (Or.inr (slot_ne (Or.inl (wd_91 hw)) (Or.inl (wd_93 hw)) (by decide) (t := (.array .int)) (t' := (.array .int)) (by decide) (by decide)))).ext E19).other W20 (Or.inr (slot_ne (Or.inl (wd_91 hw)) (Or.inl (wd_95 hw)) (by decide) (t := (.array .int)) (t' := (.array .int)) (by decide) (by decide)))).ext E21).other W22 (Or.inr (slot_ne (Or.inl (wd_91 hw)) (Or.inl (wd_97 hw)) (by decide) (t := (.array .int)) (t' := (.array .int)) (by decide) (by decide)))).other W23 (Or.inr (slot_ne (Or.inl (wd_91 hw)) (Or.inl (wd_101 hw)) (by decide) (t := (.array .int)) (t' := (.array .long)) (by decide) (by decide)))).other W24 (Or.inr (slot_ne (Or.inl (wd_91 hw)) (Or.inr (wd_103 hw)) (by decide) (t := (.array .int)) (t' := (.object "java/lang/String")) (by decide) (by decide)))).other W25 (Or.inr (slot_ne (Or.inl (wd_91 hw)) (Or.inr (wd_105 hw)) (by decide) (t := (.array .int)) (t' := .int) (by decide) (by decide))))
  have f72 := (((((((((((((((((((((((((F_vertexCount.ext E1).other W2 (Or.inr (slot_ne (Or.inl (wd_112 hw)) (Or.inl (wd_24 hw)) (by decide) (t := .int) (t' := (.array .int)) (by decide) (by decide)))).ext E3).other W4 (Or.inr (slot_ne (Or.inl (wd_112 hw)) (Or.inl (wd_26 hw)) (by decide) (t := .int) (t' := (.array .int)) (by decide) (by decide)))).ext E5).keep Kc6 (by simp only [List.mem_cons, List.not_mem_nil, or_false]; exact (Nat.ne_of_lt (Nat.lt_of_lt_of_le (Nat.lt_of_lt_of_le (Nat.lt_of_lt_of_le (Nat.lt_of_lt_of_le (Nat.lt_of_lt_of_le Ea.lt E1.1) (Nat.le_of_eq W2.size.symm)) E3.1) (Nat.le_of_eq W4.size.symm)) (Nat.le_of_eq g5.symm))))).other W7 (Or.inr (slot_ne (Or.inl (wd_112 hw)) (Or.inr (wd_50 hw)) (by decide) (t := .int) (t' := (.object "java/util/BitSet")) (by decide) (by decide)))).ext E8).keep Kc9 (by simp only [List.mem_cons, List.not_mem_nil, or_false]; exact (Nat.ne_of_lt (Nat.lt_of_lt_of_le (Nat.lt_of_lt_of_le (Nat.lt_of_lt_of_le (Nat.lt_of_lt_of_le (Nat.lt_of_lt_of_le (Nat.lt_of_lt_of_le (Nat.lt_of_lt_of_le (Nat.lt_of_lt_of_le Ea.lt E1.1) (Nat.le_of_eq W2.size.symm)) E3.1) (Nat.le_of_eq W4.size.symm)) E5.1) Kc6.1) (Nat.le_of_eq W7.size.symm)) (Nat.le_of_eq g8.symm))))).other W10 (Or.inr (slot_ne (Or.inl (wd_112 hw)) (Or.inr (wd_85 hw)) (by decide) (t := .int) (t' := (.object "com/example/flicker/flicker/game/VertexNames")) (by decide) (by decide)))).ext E11).other W12 (Or.inr (slot_ne (Or.inl (wd_112 hw)) (Or.inl (wd_87 hw)) (by decide) (t := .int) (t' := (.array .int)) (by decide) (by decide)))).ext E13).other W14 (Or.inr (slot_ne (Or.inl (wd_112 hw)) (Or.inl (wd_89 hw)) (by decide) (t := .int) (t' := (.array .int)) (by decide) (by decide)))).ext E15).other W16 (Or.inr (slot_ne (Or.inl (wd_112 hw)) (Or.inl (wd_91 hw)) (by decide) (t := .int) (t' := (.array .int)) (by decide) (by decide)))).ext E17).other W18 (Or.inr (slot_ne (Or.inl (wd_112 hw)) (Or.inl (wd_93 hw)) (by decide) (t := .int) (t' := (.array .int)) (by decide) (by decide)))).ext E19).other W20 (Or.inr (slot_ne (Or.inl (wd_112 hw)) (Or.inl (wd_95 hw)) (by decide) (t := .int) (t' := (.array .int)) (by decide) (by decide)))).ext E21).other W22 (Or.inr (slot_ne (Or.inl (wd_112 hw)) (Or.inl (wd_97 hw)) (by decide) (t := .int) (t' := (.array .int)) (by decide) (by decide)))).other W23 (Or.inr (slot_ne (Or.inl (wd_112 hw)) (Or.inl (wd_101 hw)) (by decide) (t := .int) (t' := (.array .long)) (by decide) (by decide)))).other W24 (Or.inr (slot_ne (Or.inl (wd_112 hw)) (Or.inr (wd_103 hw)) (by decide) (t := .int) (t' := (.object "java/lang/String")) (by decide) (by decide)))).other W25 (Or.inr (slot_ne (Or.inl (wd_112 hw)) (Or.inr (wd_105 hw)) (by decide) (t := .int) (t' := .int) (by decide) (by decide))))
  have f73 := (((((((((((((((((((((((((F_setLength.ext E1).other W2 (Or.inr (slot_ne (Or.inl (wd_149 hw)) (Or.inl (wd_24 hw)) (by decide) (t := .int) (t' := (.array .int)) (by decide) (by decide)))).ext E3).other W4 (Or.inr (slot_ne (Or.inl (wd_149 hw)) (Or.inl (wd_26 hw)) (by decide) (t := .int) (t' := (.array .int)) (by decide) (by decide)))).ext E5).keep Kc6 (by simp only [List.mem_cons, List.not_mem_nil, or_false]; exact (Nat.ne_of_lt (Nat.lt_of_lt_of_le (Nat.lt_of_lt_of_le (Nat.lt_of_lt_of_le (Nat.lt_of_lt_of_le (Nat.lt_of_lt_of_le Ea.lt E1.1) (Nat.le_of_eq W2.size.symm)) E3.1) (Nat.le_of_eq W4.size.symm)) (Nat.le_of_eq g5.symm))))).other W7 (Or.inr (slot_ne (Or.inl (wd_149 hw)) (Or.inr (wd_50 hw)) (by decide) (t := .int) (t' := (.object "java/util/BitSet")) (by decide) (by decide)))).ext E8).keep Kc9 (by simp only [List.mem_cons, List.not_mem_nil, or_false]; exact (Nat.ne_of_lt (Nat.lt_of_lt_of_le (Nat.lt_of_lt_of_le (Nat.lt_of_lt_of_le (Nat.lt_of_lt_of_le (Nat.lt_of_lt_of_le (Nat.lt_of_lt_of_le (Nat.lt_of_lt_of_le (Nat.lt_of_lt_of_le Ea.lt E1.1) (Nat.le_of_eq W2.size.symm)) E3.1) (Nat.le_of_eq W4.size.symm)) E5.1) Kc6.1) (Nat.le_of_eq W7.size.symm)) (Nat.le_of_eq g8.symm))))).other W10 (Or.inr (slot_ne (Or.inl (wd_149 hw)) (Or.inr (wd_85 hw)) (by decide) (t := .int) (t' := (.object "com/example/flicker/flicker/game/VertexNames")) (by decide) (by decide)))).ext E11).other W12 (Or.inr (slot_ne (Or.inl (wd_149 hw)) (Or.inl (wd_87 hw)) (by decide) (t := .int) (t' := (.array .int)) (by decide) (by decide)))).ext E13).other W14 (Or.inr (slot_ne (Or.inl (wd_149 hw)) (Or.inl (wd_89 hw)) (by decide) (t := .int) (t' := (.array .int)) (by decide) (by decide)))).ext E15).other W16 (Or.inr (slot_ne (Or.inl (wd_149 hw)) (Or.inl (wd_91 hw)) (by decide) (t := .int) (t' := (.array .int)) (by decide) (by decide)))).ext E17).other W18 (Or.inr (slot_ne (Or.inl (wd_149 hw)) (Or.inl (wd_93 hw)) (by decide) (t := .int) (t' := (.array .int)) (by decide) (by decide)))).ext E19).other W20 (Or.inr (slot_ne (Or.inl (wd_149 hw)) (Or.inl (wd_95 hw)) (by decide) (t := .int) (t' := (.array .int)) (by decide) (by decide)))).ext E21).other W22 (Or.inr (slot_ne (Or.inl (wd_149 hw)) (Or.inl (wd_97 hw)) (by decide) (t := .int) (t' := (.array .int)) (by decide) (by decide)))).other W23 (Or.inr (slot_ne (Or.inl (wd_149 hw)) (Or.inl (wd_101 hw)) (by decide) (t := .int) (t' := (.array .long)) (by decide) (by decide)))).other W24 (Or.inr (slot_ne (Or.inl (wd_149 hw)) (Or.inr (wd_103 hw)) (by decide) (t := .int) (t' := (.object "java/lang/String")) (by decide) (by decide)))).other W25 (Or.inr (slot_ne (Or.inl (wd_149 hw)) (Or.inr (wd_105 hw)) (by decide) (t := .int) (t' := .int) (by decide) (by decide))))
  have f74 := (((((((((((((((((((((((((F_byId.ext E1).other W2 (Or.inr (slot_ne (Or.inl (wd_114 hw)) (Or.inl (wd_24 hw)) (by decide) (t := (.array .long)) (t' := (.array .int)) (by decide) (by decide)))).ext E3).other W4 (Or.inr (slot_ne (Or.inl (wd_114 hw)) (Or.inl (wd_26 hw)) (by decide) (t := (.array .long)) (t' := (.array .int)) (by decide) (by decide)))).ext E5).keep Kc6 (by simp only [List.mem_cons, List.not_mem_nil, or_false]; exact (Nat.ne_of_lt (Nat.lt_of_lt_of_le (Nat.lt_of_lt_of_le (Nat.lt_of_lt_of_le (Nat.lt_of_lt_of_le (Nat.lt_of_lt_of_le Ea.lt E1.1) (Nat.le_of_eq W2.size.symm)) E3.1) (Nat.le_of_eq W4.size.symm)) (Nat.le_of_eq g5.symm))))).other W7 (Or.inr (slot_ne (Or.inl (wd_114 hw)) (Or.inr (wd_50 hw)) (by decide) (t := (.array .long)) (t' := (.object "java/util/BitSet")) (by decide) (by decide)))).ext E8).keep Kc9 (by simp only [List.mem_cons, List.not_mem_nil, or_false]; exact (Nat.ne_of_lt (Nat.lt_of_lt_of_le (Nat.lt_of_lt_of_le (Nat.lt_of_lt_of_le (Nat.lt_of_lt_of_le (Nat.lt_of_lt_of_le (Nat.lt_of_lt_of_le (Nat.lt_of_lt_of_le (Nat.lt_of_lt_of_le Ea.lt E1.1) (Nat.le_of_eq W2.size.symm)) E3.1) (Nat.le_of_eq W4.size.symm)) E5.1) Kc6.1) (Nat.le_of_eq W7.size.symm)) (Nat.le_of_eq g8.symm))))).other W10 (Or.inr (slot_ne (Or.inl (wd_114 hw)) (Or.inr (wd_85 hw)) (by decide) (t := (.array .long)) (t' := (.object "com/example/flicker/flicker/game/VertexNames")) (by decide) (by decide)))).ext E11).other W12 (Or.inr (slot_ne (Or.inl (wd_114 hw)) (Or.inl (wd_87 hw)) (by decide) (t := (.array .long)) (t' := (.array .int)) (by decide) (by decide)))).ext E13).other W14 (Or.inr (slot_ne (Or.inl (wd_114 hw)) (Or.inl (wd_89 hw)) (by decide) (t := (.array .long)) (t' := (.array .int)) (by decide) (by decide)))).ext E15).other W16 (Or.inr (slot_ne (Or.inl (wd_114 hw)) (Or.inl (wd_91 hw)) (by decide) (t := (.array .long)) (t' := (.array .int)) (by decide) (by decide)))).ext E17).other W18 (Or.inr (slot_ne (Or.inl (wd_114 hw)) (Or.inl (wd_93 hw)) (by decide) (t := (.array .long)) (t' := (.array .int)) (by decide) (by decide)))).ext E19).other W20 (Or.inr (slot_ne (Or.inl (wd_114 hw)) (Or.inl (wd_95 hw)) (by decide) (t := (.array .long)) (t' := (.array .int)) (by decide) (by decide)))).ext E21).other W22 (Or.inr (slot_ne (Or.inl (wd_114 hw)) (Or.inl (wd_97 hw)) (by decide) (t := (.array .long)) (t' := (.array .int)) (by decide) (by decide)))).other W23 (Or.inr (slot_ne (Or.inl (wd_114 hw)) (Or.inl (wd_101 hw)) (by decide) (t := (.array .long)) (t' := (.array .long)) (by decide) (by decide)))).other W24 (Or.inr (slot_ne (Or.inl (wd_114 hw)) (Or.inr (wd_103 hw)) (by decide) (t := (.array .long)) (t' := (.object "java/lang/String")) (by decide) (by decide)))).other W25 (Or.inr (slot_ne (Or.inl (wd_114 hw)) (Or.inr (wd_105 hw)) (by decide) (t := (.array .long)) (t' := .int) (by decide) (by decide))))
  have f75 := ((((((((((((((((Ex9.wr W10).ext E11).wr W12).ext E13).wr W14).ext E15).wr W16).ext E17).wr W18).ext E19).wr W20).ext E21).wr W22).wr W23).wr W24).wr W25)
  have f76 := ((((((((((((((((Ft9.other W10 (Or.inl (Ne.symm (Nat.ne_of_lt (Nat.lt_of_lt_of_le (Nat.lt_of_lt_of_le (Nat.lt_of_lt_of_le (Nat.lt_of_lt_of_le (Nat.lt_of_lt_of_le (Nat.lt_of_lt_of_le (Nat.lt_of_lt_of_le (Nat.lt_of_lt_of_le Ea.lt E1.1) (Nat.le_of_eq W2.size.symm)) E3.1) (Nat.le_of_eq W4.size.symm)) E5.1) Kc6.1) (Nat.le_of_eq W7.size.symm)) (Nat.le_of_eq g8.symm)))))).ext E11).other W12 (Or.inl (Ne.symm (Nat.ne_of_lt (Nat.lt_of_lt_of_le (Nat.lt_of_lt_of_le (Nat.lt_of_lt_of_le (Nat.lt_of_lt_of_le (Nat.lt_of_lt_of_le (Nat.lt_of_lt_of_le (Nat.lt_of_lt_of_le (Nat.lt_of_lt_of_le Ea.lt E1.1) (Nat.le_of_eq W2.size.symm)) E3.1) (Nat.le_of_eq W4.size.symm)) E5.1) Kc6.1) (Nat.le_of_eq W7.size.symm)) (Nat.le_of_eq g8.symm)))))).ext E13).other W14 (Or.inl (Ne.symm (Nat.ne_of_lt (Nat.lt_of_lt_of_le (Nat.lt_of_lt_of_le (Nat.lt_of_lt_of_le (Nat.lt_of_lt_of_le (Nat.lt_of_lt_of_le (Nat.lt_of_lt_of_le (Nat.lt_of_lt_of_le (Nat.lt_of_lt_of_le Ea.lt E1.1) (Nat.le_of_eq W2.size.symm)) E3.1) (Nat.le_of_eq W4.size.symm)) E5.1) Kc6.1) (Nat.le_of_eq W7.size.symm)) (Nat.le_of_eq g8.symm)))))).ext E15).other W16 (Or.inl (Ne.symm (Nat.ne_of_lt (Nat.lt_of_lt_of_le (Nat.lt_of_lt_of_le (Nat.lt_of_lt_of_le (Nat.lt_of_lt_of_le (Nat.lt_of_lt_of_le (Nat.lt_of_lt_of_le (Nat.lt_of_lt_of_le (Nat.lt_of_lt_of_le Ea.lt E1.1) (Nat.le_of_eq W2.size.symm)) E3.1) (Nat.le_of_eq W4.size.symm)) E5.1) Kc6.1) (Nat.le_of_eq W7.size.symm)) (Nat.le_of_eq g8.symm)))))).ext E17).other W18 (Or.inl (Ne.symm (Nat.ne_of_lt (Nat.lt_of_lt_of_le (Nat.lt_of_lt_of_le (Nat.lt_of_lt_of_le (Nat.lt_of_lt_of_le (Nat.lt_of_lt_of_le (Nat.lt_of_lt_of_le (Nat.lt_of_lt_of_le (Nat.lt_of_lt_of_le Ea.lt E1.1) (Nat.le_of_eq W2.size.symm)) E3.1) (Nat.le_of_eq W4.size.symm)) E5.1) Kc6.1) (Nat.le_of_eq W7.size.symm)) (Nat.le_of_eq g8.symm)))))).ext E19).other W20 (Or.inl (Ne.symm (Nat.ne_of_lt (Nat.lt_of_lt_of_le (Nat.lt_of_lt_of_le (Nat.lt_of_lt_of_le (Nat.lt_of_lt_of_le (Nat.lt_of_lt_of_le (Nat.lt_of_lt_of_le (Nat.lt_of_lt_of_le (Nat.lt_of_lt_of_le Ea.lt E1.1) (Nat.le_of_eq W2.size.symm)) E3.1) (Nat.le_of_eq W4.size.symm)) E5.1) Kc6.1) (Nat.le_of_eq W7.size.symm)) (Nat.le_of_eq g8.symm)))))).ext E21).other W22 (Or.inl (Ne.symm (Nat.ne_of_lt (Nat.lt_of_lt_of_le (Nat.lt_of_lt_of_le (Nat.lt_of_lt_of_le (Nat.lt_of_lt_of_le (Nat.lt_of_lt_of_le (Nat.lt_of_lt_of_le (Nat.lt_of_lt_of_le (Nat.lt_of_lt_of_le Ea.lt E1.1) (Nat.le_of_eq W2.size.symm)) E3.1) (Nat.le_of_eq W4.size.symm)) E5.1) Kc6.1) (Nat.le_of_eq W7.size.symm)) (Nat.le_of_eq g8.symm)))))).other W23 (Or.inl (Ne.symm (Nat.ne_of_lt (Nat.lt_of_lt_of_le (Nat.lt_of_lt_of_le (Nat.lt_of_lt_of_le (Nat.lt_of_lt_of_le (Nat.lt_of_lt_of_le (Nat.lt_of_lt_of_le (Nat.lt_of_lt_of_le (Nat.lt_of_lt_of_le Ea.lt E1.1) (Nat.le_of_eq W2.size.symm)) E3.1) (Nat.le_of_eq W4.size.symm)) E5.1) Kc6.1) (Nat.le_of_eq W7.size.symm)) (Nat.le_of_eq g8.symm)))))).other W24 (Or.inl (Ne.symm (Nat.ne_of_lt (Nat.lt_of_lt_of_le (Nat.lt_of_lt_of_le (Nat.lt_of_lt_of_le (Nat.lt_of_lt_of_le (Nat.lt_of_lt_of_le (Nat.lt_of_lt_of_le (Nat.lt_of_lt_of_le (Nat.lt_of_lt_of_le Ea.lt E1.1) (Nat.le_of_eq W2.size.symm)) E3.1) (Nat.le_of_eq W4.size.symm)) E5.1) Kc6.1) (Nat.le_of_eq W7.size.symm)) (Nat.le_of_eq g8.symm)))))).other W25 (Or.inl (Ne.symm (Nat.ne_of_lt (Nat.lt_of_lt_of_le (Nat.lt_of_lt_of_le (Nat.lt_of_lt_of_le (Nat.lt_of_lt_of_le (Nat.lt_of_lt_of_le (Nat.lt_of_lt_of_le (Nat.lt_of_lt_of_le (Nat.lt_of_lt_of_le Ea.lt E1.1) (Nat.le_of_eq W2.size.symm)) E3.1) (Nat.le_of_eq W4.size.symm)) E5.1) Kc6.1) (Nat.le_of_eq W7.size.symm)) (Nat.le_of_eq g8.symm))))))
  have f77 := ((((((((((((((((Fe9.other W10 (Or.inl (Ne.symm (Nat.ne_of_lt (Nat.lt_of_lt_of_le (Nat.lt_of_lt_of_le (Nat.lt_of_lt_of_le (Nat.lt_of_lt_of_le (Nat.lt_of_lt_of_le (Nat.lt_of_lt_of_le (Nat.lt_of_lt_of_le (Nat.lt_of_lt_of_le Ea.lt E1.1) (Nat.le_of_eq W2.size.symm)) E3.1) (Nat.le_of_eq W4.size.symm)) E5.1) Kc6.1) (Nat.le_of_eq W7.size.symm)) (Nat.le_of_eq g8.symm)))))).ext E11).other W12 (Or.inl (Ne.symm (Nat.ne_of_lt (Nat.lt_of_lt_of_le (Nat.lt_of_lt_of_le (Nat.lt_of_lt_of_le (Nat.lt_of_lt_of_le (Nat.lt_of_lt_of_le (Nat.lt_of_lt_of_le (Nat.lt_of_lt_of_le (Nat.lt_of_lt_of_le Ea.lt E1.1) (Nat.le_of_eq W2.size.symm)) E3.1) (Nat.le_of_eq W4.size.symm)) E5.1) Kc6.1) (Nat.le_of_eq W7.size.symm)) (Nat.le_of_eq g8.symm)))))).ext E13).other W14 (Or.inl (Ne.symm (Nat.ne_of_lt (Nat.lt_of_lt_of_le (Nat.lt_of_lt_of_le (Nat.lt_of_lt_of_le (Nat.lt_of_lt_of_le (Nat.lt_of_lt_of_le (Nat.lt_of_lt_of_le (Nat.lt_of_lt_of_le (Nat.lt_of_lt_of_le Ea.lt E1.1) (Nat.le_of_eq W2.size.symm)) E3.1) (Nat.le_of_eq W4.size.symm)) E5.1) Kc6.1) (Nat.le_of_eq W7.size.symm)) (Nat.le_of_eq g8.symm)))))).ext E15).other W16 (Or.inl (Ne.symm (Nat.ne_of_lt (Nat.lt_of_lt_of_le (Nat.lt_of_lt_of_le (Nat.lt_of_lt_of_le (Nat.lt_of_lt_of_le (Nat.lt_of_lt_of_le (Nat.lt_of_lt_of_le (Nat.lt_of_lt_of_le (Nat.lt_of_lt_of_le Ea.lt E1.1) (Nat.le_of_eq W2.size.symm)) E3.1) (Nat.le_of_eq W4.size.symm)) E5.1) Kc6.1) (Nat.le_of_eq W7.size.symm)) (Nat.le_of_eq g8.symm)))))).ext E17).other W18 (Or.inl (Ne.symm (Nat.ne_of_lt (Nat.lt_of_lt_of_le (Nat.lt_of_lt_of_le (Nat.lt_of_lt_of_le (Nat.lt_of_lt_of_le (Nat.lt_of_lt_of_le (Nat.lt_of_lt_of_le (Nat.lt_of_lt_of_le (Nat.lt_of_lt_of_le Ea.lt E1.1) (Nat.le_of_eq W2.size.symm)) E3.1) (Nat.le_of_eq W4.size.symm)) E5.1) Kc6.1) (Nat.le_of_eq W7.size.symm)) (Nat.le_of_eq g8.symm)))))).ext E19).other W20 (Or.inl (Ne.symm (Nat.ne_of_lt (Nat.lt_of_lt_of_le (Nat.lt_of_lt_of_le (Nat.lt_of_lt_of_le (Nat.lt_of_lt_of_le (Nat.lt_of_lt_of_le (Nat.lt_of_lt_of_le (Nat.lt_of_lt_of_le (Nat.lt_of_lt_of_le Ea.lt E1.1) (Nat.le_of_eq W2.size.symm)) E3.1) (Nat.le_of_eq W4.size.symm)) E5.1) Kc6.1) (Nat.le_of_eq W7.size.symm)) (Nat.le_of_eq g8.symm)))))).ext E21).other W22 (Or.inl (Ne.symm (Nat.ne_of_lt (Nat.lt_of_lt_of_le (Nat.lt_of_lt_of_le (Nat.lt_of_lt_of_le (Nat.lt_of_lt_of_le (Nat.lt_of_lt_of_le (Nat.lt_of_lt_of_le (Nat.lt_of_lt_of_le (Nat.lt_of_lt_of_le Ea.lt E1.1) (Nat.le_of_eq W2.size.symm)) E3.1) (Nat.le_of_eq W4.size.symm)) E5.1) Kc6.1) (Nat.le_of_eq W7.size.symm)) (Nat.le_of_eq g8.symm)))))).other W23 (Or.inl (Ne.symm (Nat.ne_of_lt (Nat.lt_of_lt_of_le (Nat.lt_of_lt_of_le (Nat.lt_of_lt_of_le (Nat.lt_of_lt_of_le (Nat.lt_of_lt_of_le (Nat.lt_of_lt_of_le (Nat.lt_of_lt_of_le (Nat.lt_of_lt_of_le Ea.lt E1.1) (Nat.le_of_eq W2.size.symm)) E3.1) (Nat.le_of_eq W4.size.symm)) E5.1) Kc6.1) (Nat.le_of_eq W7.size.symm)) (Nat.le_of_eq g8.symm)))))).other W24 (Or.inl (Ne.symm (Nat.ne_of_lt (Nat.lt_of_lt_of_le (Nat.lt_of_lt_of_le (Nat.lt_of_lt_of_le (Nat.lt_of_lt_of_le (Nat.lt_of_lt_of_le (Nat.lt_of_lt_of_le (Nat.lt_of_lt_of_le (Nat.lt_of_lt_of_le Ea.lt E1.1) (Nat.le_of_eq W2.size.symm)) E3.1) (Nat.le_of_eq W4.size.symm)) E5.1) Kc6.1) (Nat.le_of_eq W7.size.symm)) (Nat.le_of_eq g8.symm)))))).other W25 (Or.inl (Ne.symm (Nat.ne_of_lt (Nat.lt_of_lt_of_le (Nat.lt_of_lt_of_le (Nat.lt_of_lt_of_le (Nat.lt_of_lt_of_le (Nat.lt_of_lt_of_le (Nat.lt_of_lt_of_le (Nat.lt_of_lt_of_le (Nat.lt_of_lt_of_le Ea.lt E1.1) (Nat.le_of_eq W2.size.symm)) E3.1) (Nat.le_of_eq W4.size.symm)) E5.1) Kc6.1) (Nat.le_of_eq W7.size.symm)) (Nat.le_of_eq g8.symm))))))
  have f78 := ((((((((((((((((Fc9.other W10 (Or.inl (Ne.symm (Nat.ne_of_lt (Nat.lt_of_lt_of_le (Nat.lt_of_lt_of_le (Nat.lt_of_lt_of_le (Nat.lt_of_lt_of_le (Nat.lt_of_lt_of_le (Nat.lt_of_lt_of_le (Nat.lt_of_lt_of_le (Nat.lt_of_lt_of_le Ea.lt E1.1) (Nat.le_of_eq W2.size.symm)) E3.1) (Nat.le_of_eq W4.size.symm)) E5.1) Kc6.1) (Nat.le_of_eq W7.size.symm)) (Nat.le_of_eq g8.symm)))))).ext E11).other W12 (Or.inl (Ne.symm (Nat.ne_of_lt (Nat.lt_of_lt_of_le (Nat.lt_of_lt_of_le (Nat.lt_of_lt_of_le (Nat.lt_of_lt_of_le (Nat.lt_of_lt_of_le (Nat.lt_of_lt_of_le (Nat.lt_of_lt_of_le (Nat.lt_of_lt_of_le Ea.lt E1.1) (Nat.le_of_eq W2.size.symm)) E3.1) (Nat.le_of_eq W4.size.symm)) E5.1) Kc6.1) (Nat.le_of_eq W7.size.symm)) (Nat.le_of_eq g8.symm)))))).ext E13).other W14 (Or.inl (Ne.symm (Nat.ne_of_lt (Nat.lt_of_lt_of_le (Nat.lt_of_lt_of_le (Nat.lt_of_lt_of_le (Nat.lt_of_lt_of_le (Nat.lt_of_lt_of_le (Nat.lt_of_lt_of_le (Nat.lt_of_lt_of_le (Nat.lt_of_lt_of_le Ea.lt E1.1) (Nat.le_of_eq W2.size.symm)) E3.1) (Nat.le_of_eq W4.size.symm)) E5.1) Kc6.1) (Nat.le_of_eq W7.size.symm)) (Nat.le_of_eq g8.symm)))))).ext E15).other W16 (Or.inl (Ne.symm (Nat.ne_of_lt (Nat.lt_of_lt_of_le (Nat.lt_of_lt_of_le (Nat.lt_of_lt_of_le (Nat.lt_of_lt_of_le (Nat.lt_of_lt_of_le (Nat.lt_of_lt_of_le (Nat.lt_of_lt_of_le (Nat.lt_of_lt_of_le Ea.lt E1.1) (Nat.le_of_eq W2.size.symm)) E3.1) (Nat.le_of_eq W4.size.symm)) E5.1) Kc6.1) (Nat.le_of_eq W7.size.symm)) (Nat.le_of_eq g8.symm)))))).ext E17).other W18 (Or.inl (Ne.symm (Nat.ne_of_lt (Nat.lt_of_lt_of_le (Nat.lt_of_lt_of_le (Nat.lt_of_lt_of_le (Nat.lt_of_lt_of_le (Nat.lt_of_lt_of_le (Nat.lt_of_lt_of_le (Nat.lt_of_lt_of_le (Nat.lt_of_lt_of_le Ea.lt E1.1) (Nat.le_of_eq W2.size.symm)) E3.1) (Nat.le_of_eq W4.size.symm)) E5.1) Kc6.1) (Nat.le_of_eq W7.size.symm)) (Nat.le_of_eq g8.symm)))))).ext E19).other W20 (Or.inl (Ne.symm (Nat.ne_of_lt (Nat.lt_of_lt_of_le (Nat.lt_of_lt_of_le (Nat.lt_of_lt_of_le (Nat.lt_of_lt_of_le (Nat.lt_of_lt_of_le (Nat.lt_of_lt_of_le (Nat.lt_of_lt_of_le (Nat.lt_of_lt_of_le Ea.lt E1.1) (Nat.le_of_eq W2.size.symm)) E3.1) (Nat.le_of_eq W4.size.symm)) E5.1) Kc6.1) (Nat.le_of_eq W7.size.symm)) (Nat.le_of_eq g8.symm)))))).ext E21).other W22 (Or.inl (Ne.symm (Nat.ne_of_lt (Nat.lt_of_lt_of_le (Nat.lt_of_lt_of_le (Nat.lt_of_lt_of_le (Nat.lt_of_lt_of_le (Nat.lt_of_lt_of_le (Nat.lt_of_lt_of_le (Nat.lt_of_lt_of_le (Nat.lt_of_lt_of_le Ea.lt E1.1) (Nat.le_of_eq W2.size.symm)) E3.1) (Nat.le_of_eq W4.size.symm)) E5.1) Kc6.1) (Nat.le_of_eq W7.size.symm)) (Nat.le_of_eq g8.symm)))))).other W23 (Or.inl (Ne.symm (Nat.ne_of_lt (Nat.lt_of_lt_of_le (Nat.lt_of_lt_of_le (Nat.lt_of_lt_of_le (Nat.lt_of_lt_of_le (Nat.lt_of_lt_of_le (Nat.lt_of_lt_of_le (Nat.lt_of_lt_of_le (Nat.lt_of_lt_of_le Ea.lt E1.1) (Nat.le_of_eq W2.size.symm)) E3.1) (Nat.le_of_eq W4.size.symm)) E5.1) Kc6.1) (Nat.le_of_eq W7.size.symm)) (Nat.le_of_eq g8.symm)))))).other W24 (Or.inl (Ne.symm (Nat.ne_of_lt (Nat.lt_of_lt_of_le (Nat.lt_of_lt_of_le (Nat.lt_of_lt_of_le (Nat.lt_of_lt_of_le (Nat.lt_of_lt_of_le (Nat.lt_of_lt_of_le (Nat.lt_of_lt_of_le (Nat.lt_of_lt_of_le Ea.lt E1.1) (Nat.le_of_eq W2.size.symm)) E3.1) (Nat.le_of_eq W4.size.symm)) E5.1) Kc6.1) (Nat.le_of_eq W7.size.symm)) (Nat.le_of_eq g8.symm)))))).other W25 (Or.inl (Ne.symm (Nat.ne_of_lt (Nat.lt_of_lt_of_le (Nat.lt_of_lt_of_le (Nat.lt_of_lt_of_le (Nat.lt_of_lt_of_le (Nat.lt_of_lt_of_le (Nat.lt_of_lt_of_le (Nat.lt_of_lt_of_le (Nat.lt_of_lt_of_le Ea.lt E1.1) (Nat.le_of_eq W2.size.symm)) E3.1) (Nat.le_of_eq W4.size.symm)) E5.1) Kc6.1) (Nat.le_of_eq W7.size.symm)) (Nat.le_of_eq g8.symm))))))
  have f79 := ((((((((((((((((Es9.wr W10).ext E11).wr W12).ext E13).wr W14).ext E15).wr W16).ext E17).wr W18).ext E19).wr W20).ext E21).wr W22).wr W23).wr W24).wr W25)
  have f80 := ((((((((((((((((Fs9.other W10 (Or.inl (Ne.symm (Nat.ne_of_lt (Nat.lt_of_lt_of_le (Nat.lt_of_lt_of_le (Nat.lt_of_lt_of_le (Nat.lt_of_lt_of_le (Nat.lt_of_lt_of_le (Nat.lt_of_lt_of_le (Nat.lt_of_lt_of_le (Nat.lt_of_lt_of_le (Nat.lt_of_lt_of_le Ea.lt E1.1) (Nat.le_of_eq W2.size.symm)) E3.1) (Nat.le_of_eq W4.size.symm)) E5.1) Kc6.1) (Nat.le_of_eq W7.size.symm)) E8.1) gs9))))).ext E11).other W12 (Or.inl (Ne.symm (Nat.ne_of_lt (Nat.lt_of_lt_of_le (Nat.lt_of_lt_of_le (Nat.lt_of_lt_of_le (Nat.lt_of_lt_of_le (Nat.lt_of_lt_of_le (Nat.lt_of_lt_of_le (Nat.lt_of_lt_of_le (Nat.lt_of_lt_of_le (Nat.lt_of_lt_of_le Ea.lt E1.1) (Nat.le_of_eq W2.size.symm)) E3.1) (Nat.le_of_eq W4.size.symm)) E5.1) Kc6.1) (Nat.le_of_eq W7.size.symm)) E8.1) gs9))))).ext E13).other W14 (Or.inl (Ne.symm (Nat.ne_of_lt (Nat.lt_of_lt_of_le (Nat.lt_of_lt_of_le (Nat.lt_of_lt_of_le (Nat.lt_of_lt_of_le (Nat.lt_of_lt_of_le (Nat.lt_of_lt_of_le (Nat.lt_of_lt_of_le (Nat.lt_of_lt_of_le (Nat.lt_of_lt_of_le Ea.lt E1.1) (Nat.le_of_eq W2.size.symm)) E3.1) (Nat.le_of_eq W4.size.symm)) E5.1) Kc6.1) (Nat.le_of_eq W7.size.symm)) E8.1) gs9))))).ext E15).other W16 (Or.inl (Ne.symm (Nat.ne_of_lt (Nat.lt_of_lt_of_le (Nat.lt_of_lt_of_le (Nat.lt_of_lt_of_le (Nat.lt_of_lt_of_le (Nat.lt_of_lt_of_le (Nat.lt_of_lt_of_le (Nat.lt_of_lt_of_le (Nat.lt_of_lt_of_le (Nat.lt_of_lt_of_le Ea.lt E1.1) (Nat.le_of_eq W2.size.symm)) E3.1) (Nat.le_of_eq W4.size.symm)) E5.1) Kc6.1) (Nat.le_of_eq W7.size.symm)) E8.1) gs9))))).ext E17).other W18 (Or.inl (Ne.symm (Nat.ne_of_lt (Nat.lt_of_lt_of_le (Nat.lt_of_lt_of_le (Nat.lt_of_lt_of_le (Nat.lt_of_lt_of_le (Nat.lt_of_lt_of_le (Nat.lt_of_lt_of_le (Nat.lt_of_lt_of_le (Nat.lt_of_lt_of_le (Nat.lt_of_lt_of_le Ea.lt E1.1) (Nat.le_of_eq W2.size.symm)) E3.1) (Nat.le_of_eq W4.size.symm)) E5.1) Kc6.1) (Nat.le_of_eq W7.size.symm)) E8.1) gs9))))).ext E19).other W20 (Or.inl (Ne.symm (Nat.ne_of_lt (Nat.lt_of_lt_of_le (Nat.lt_of_lt_of_le (Nat.lt_of_lt_of_le (Nat.lt_of_lt_of_le (Nat.lt_of_lt_of_le (Nat.lt_of_lt_of_le (Nat.lt_of_lt_of_le (Nat.lt_of_lt_of_le (Nat.lt_of_lt_of_le Ea.lt E1.1) (Nat.le_of_eq W2.size.symm)) E3.1) (Nat.le_of_eq W4.size.symm)) E5.1) Kc6.1) (Nat.le_of_eq W7.size.symm)) E8.1) gs9))))).ext E21).other W22 (Or.inl (Ne.symm (Nat.ne_of_lt (Nat.lt_of_lt_of_le (Nat.lt_of_lt_of_le (Nat.lt_of_lt_of_le (Nat.lt_of_lt_of_le (Nat.lt_of_lt_of_le (Nat.lt_of_lt_of_le (Nat.lt_of_lt_of_le (Nat.lt_of_lt_of_le (Nat.lt_of_lt_of_le Ea.lt E1.1) (Nat.le_of_eq W2.size.symm)) E3.1) (Nat.le_of_eq W4.size.symm)) E5.1) Kc6.1) (Nat.le_of_eq W7.size.symm)) E8.1) gs9))))).other W23 (Or.inl (Ne.symm (Nat.ne_of_lt (Nat.lt_of_lt_of_le (Nat.lt_of_lt_of_le (Nat.lt_of_lt_of_le (Nat.lt_of_lt_of_le (Nat.lt_of_lt_of_le (Nat.lt_of_lt_of_le (Nat.lt_of_lt_of_le (Nat.lt_of_lt_of_le (Nat.lt_of_lt_of_le Ea.lt E1.1) (Nat.le_of_eq W2.size.symm)) E3.1) (Nat.le_of_eq W4.size.symm)) E5.1) Kc6.1) (Nat.le_of_eq W7.size.symm)) E8.1) gs9))))).other W24 (Or.inl (Ne.symm (Nat.ne_of_lt (Nat.lt_of_lt_of_le (Nat.lt_of_lt_of_le (Nat.lt_of_lt_of_le (Nat.lt_of_lt_of_le (Nat.lt_of_lt_of_le (Nat.lt_of_lt_of_le (Nat.lt_of_lt_of_le (Nat.lt_of_lt_of_le (Nat.lt_of_lt_of_le Ea.lt E1.1) (Nat.le_of_eq W2.size.symm)) E3.1) (Nat.le_of_eq W4.size.symm)) E5.1) Kc6.1) (Nat.le_of_eq W7.size.symm)) E8.1) gs9))))).other W25 (Or.inl (Ne.symm (Nat.ne_of_lt (Nat.lt_of_lt_of_le (Nat.lt_of_lt_of_le (Nat.lt_of_lt_of_le (Nat.lt_of_lt_of_le (Nat.lt_of_lt_of_le (Nat.lt_of_lt_of_le (Nat.lt_of_lt_of_le (Nat.lt_of_lt_of_le (Nat.lt_of_lt_of_le Ea.lt E1.1) (Nat.le_of_eq W2.size.symm)) E3.1) (Nat.le_of_eq W4.size.symm)) E5.1) Kc6.1) (Nat.le_of_eq W7.size.symm)) E8.1) gs9)))))
  have f81 := ((((((((((((((((((((((((A1.other W2 (Ne.symm (Nat.ne_of_lt (Nat.lt_of_lt_of_le Ea.lt (Nat.le_of_eq g1.symm))))).ext E3).other W4 (Ne.symm (Nat.ne_of_lt (Nat.lt_of_lt_of_le Ea.lt (Nat.le_of_eq g1.symm))))).ext E5).keep Kc6 (by simp only [List.mem_cons, List.not_mem_nil, or_false]; exact (Nat.ne_of_lt (Nat.lt_of_lt_of_le (Nat.lt_of_lt_of_le (Nat.lt_of_lt_of_le (Nat.lt_of_lt_of_le A1.lt (Nat.le_of_eq W2.size.symm)) E3.1) (Nat.le_of_eq W4.size.symm)) (Nat.le_of_eq g5.symm))))).other W7 (Ne.symm (Nat.ne_of_lt (Nat.lt_of_lt_of_le Ea.lt (Nat.le_of_eq g1.symm))))).ext E8).keep Kc9 (by simp only [List.mem_cons, List.not_mem_nil, or_false]; exact (Nat.ne_of_lt (Nat.lt_of_lt_of_le (Nat.lt_of_lt_of_le (Nat.lt_of_lt_of_le (Nat.lt_of_lt_of_le (Nat.lt_of_lt_of_le (Nat.lt_of_lt_of_le (Nat.lt_of_lt_of_le A1.lt (Nat.le_of_eq W2.size.symm)) E3.1) (Nat.le_of_eq W4.size.symm)) E5.1) Kc6.1) (Nat.le_of_eq W7.size.symm)) (Nat.le_of_eq g8.symm))))).other W10 (Ne.symm (Nat.ne_of_lt (Nat.lt_of_lt_of_le Ea.lt (Nat.le_of_eq g1.symm))))).ext E11).other W12 (Ne.symm (Nat.ne_of_lt (Nat.lt_of_lt_of_le Ea.lt (Nat.le_of_eq g1.symm))))).ext E13).other W14 (Ne.symm (Nat.ne_of_lt (Nat.lt_of_lt_of_le Ea.lt (Nat.le_of_eq g1.symm))))).ext E15).other W16 (Ne.symm (Nat.ne_of_lt (Nat.lt_of_lt_of_le Ea.lt (Nat.le_of_eq g1.symm))))).ext E17).other W18 (Ne.symm (Nat.ne_of_lt (Nat.lt_of_lt_of_le Ea.lt (Nat.le_of_eq g1.symm))))).ext E19).other W20 (Ne.symm (Nat.ne_of_lt (Nat.lt_of_lt_of_le Ea.lt (Nat.le_of_eq g1.symm))))).ext E21).other W22 (Ne.symm (Nat.ne_of_lt (Nat.lt_of_lt_of_le Ea.lt (Nat.le_of_eq g1.symm))))).other W23 (Ne.symm (Nat.ne_of_lt (Nat.lt_of_lt_of_le Ea.lt (Nat.le_of_eq g1.symm))))).other W24 (Ne.symm (Nat.ne_of_lt (Nat.lt_of_lt_of_le Ea.lt (Nat.le_of_eq g1.symm))))).other W25 (Ne.symm (Nat.ne_of_lt (Nat.lt_of_lt_of_le Ea.lt (Nat.le_of_eq g1.symm)))))
  have f82 := ((((((((((((((((((((((A3.other W4 (Ne.symm (Nat.ne_of_lt (Nat.lt_of_lt_of_le (Nat.lt_of_lt_of_le (Nat.lt_of_lt_of_le Ea.lt E1.1) (Nat.le_of_eq W2.size.symm)) (Nat.le_of_eq g3.symm))))).ext E5).keep Kc6 (by simp only [List.mem_cons, List.not_mem_nil, or_false]; exact (Nat.ne_of_lt (Nat.lt_of_lt_of_le (Nat.lt_of_lt_of_le A3.lt (Nat.le_of_eq W4.size.symm)) (Nat.le_of_eq g5.symm))))).other W7 (Ne.symm (Nat.ne_of_lt (Nat.lt_of_lt_of_le (Nat.lt_of_lt_of_le (Nat.lt_of_lt_of_le Ea.lt E1.1) (Nat.le_of_eq W2.size.symm)) (Nat.le_of_eq g3.symm))))).ext E8).keep Kc9 (by simp only [List.mem_cons, List.not_mem_nil, or_false]; exact (Nat.ne_of_lt (Nat.lt_of_lt_of_le (Nat.lt_of_lt_of_le (Nat.lt_of_lt_of_le (Nat.lt_of_lt_of_le (Nat.lt_of_lt_of_le A3.lt (Nat.le_of_eq W4.size.symm)) E5.1) Kc6.1) (Nat.le_of_eq W7.size.symm)) (Nat.le_of_eq g8.symm))))).other W10 (Ne.symm (Nat.ne_of_lt (Nat.lt_of_lt_of_le (Nat.lt_of_lt_of_le (Nat.lt_of_lt_of_le Ea.lt E1.1) (Nat.le_of_eq W2.size.symm)) (Nat.le_of_eq g3.symm))))).ext E11).other W12 (Ne.symm (Nat.ne_of_lt (Nat.lt_of_lt_of_le (Nat.lt_of_lt_of_le (Nat.lt_of_lt_of_le Ea.lt E1.1) (Nat.le_of_eq W2.size.symm)) (Nat.le_of_eq g3.symm))))).ext E13).other W14 (Ne.symm (Nat.ne_of_lt (Nat.lt_of_lt_of_le (Nat.lt_of_lt_of_le (Nat.lt_of_lt_of_le Ea.lt E1.1) (Nat.le_of_eq W2.size.symm)) (Nat.le_of_eq g3.symm))))).ext E15).other W16 (Ne.symm (Nat.ne_of_lt (Nat.lt_of_lt_of_le (Nat.lt_of_lt_of_le (Nat.lt_of_lt_of_le Ea.lt E1.1) (Nat.le_of_eq W2.size.symm)) (Nat.le_of_eq g3.symm))))).ext E17).other W18 (Ne.symm (Nat.ne_of_lt (Nat.lt_of_lt_of_le (Nat.lt_of_lt_of_le (Nat.lt_of_lt_of_le Ea.lt E1.1) (Nat.le_of_eq W2.size.symm)) (Nat.le_of_eq g3.symm))))).ext E19).other W20 (Ne.symm (Nat.ne_of_lt (Nat.lt_of_lt_of_le (Nat.lt_of_lt_of_le (Nat.lt_of_lt_of_le Ea.lt E1.1) (Nat.le_of_eq W2.size.symm)) (Nat.le_of_eq g3.symm))))).ext E21).other W22 (Ne.symm (Nat.ne_of_lt (Nat.lt_of_lt_of_le (Nat.lt_of_lt_of_le (Nat.lt_of_lt_of_le Ea.lt E1.1) (Nat.le_of_eq W2.size.symm)) (Nat.le_of_eq g3.symm))))).other W23 (Ne.symm (Nat.ne_of_lt (Nat.lt_of_lt_of_le (Nat.lt_of_lt_of_le (Nat.lt_of_lt_of_le Ea.lt E1.1) (Nat.le_of_eq W2.size.symm)) (Nat.le_of_eq g3.symm))))).other W24 (Ne.symm (Nat.ne_of_lt (Nat.lt_of_lt_of_le (Nat.lt_of_lt_of_le (Nat.lt_of_lt_of_le Ea.lt E1.1) (Nat.le_of_eq W2.size.symm)) (Nat.le_of_eq g3.symm))))).other W25 (Ne.symm (Nat.ne_of_lt (Nat.lt_of_lt_of_le (Nat.lt_of_lt_of_le (Nat.lt_of_lt_of_le Ea.lt E1.1) (Nat.le_of_eq W2.size.symm)) (Nat.le_of_eq g3.symm)))))
  have f83 := ((((((((((((((((A9.other W10 (Ne.symm (Nat.ne_of_lt (Nat.lt_of_lt_of_le (Nat.lt_of_lt_of_le (Nat.lt_of_lt_of_le (Nat.lt_of_lt_of_le (Nat.lt_of_lt_of_le (Nat.lt_of_lt_of_le (Nat.lt_of_lt_of_le (Nat.lt_of_lt_of_le (Nat.lt_of_lt_of_le Ea.lt E1.1) (Nat.le_of_eq W2.size.symm)) E3.1) (Nat.le_of_eq W4.size.symm)) E5.1) Kc6.1) (Nat.le_of_eq W7.size.symm)) E8.1) (Nat.le_of_lt (Nat.lt_of_le_of_lt gs9 lse9)))))).ext E11).other W12 (Ne.symm (Nat.ne_of_lt (Nat.lt_of_lt_of_le (Nat.lt_of_lt_of_le (Nat.lt_of_lt_of_le (Nat.lt_of_lt_of_le (Nat.lt_of_lt_of_le (Nat.lt_of_lt_of_le (Nat.lt_of_lt_of_le (Nat.lt_of_lt_of_le (Nat.lt_of_lt_of_le Ea.lt E1.1) (Nat.le_of_eq W2.size.symm)) E3.1) (Nat.le_of_eq W4.size.symm)) E5.1) Kc6.1) (Nat.le_of_eq W7.size.symm)) E8.1) (Nat.le_of_lt (Nat.lt_of_le_of_lt gs9 lse9)))))).ext E13).other W14 (Ne.symm (Nat.ne_of_lt (Nat.lt_of_lt_of_le (Nat.lt_of_lt_of_le (Nat.lt_of_lt_of_le (Nat.lt_of_lt_of_le (Nat.lt_of_lt_of_le (Nat.lt_of_lt_of_le (Nat.lt_of_lt_of_le (Nat.lt_of_lt_of_le (Nat.lt_of_lt_of_le Ea.lt E1.1) (Nat.le_of_eq W2.size.symm)) E3.1) (Nat.le_of_eq W4.size.symm)) E5.1) Kc6.1) (Nat.le_of_eq W7.size.symm)) E8.1) (Nat.le_of_lt (Nat.lt_of_le_of_lt gs9 lse9)))))).ext E15).other W16 (Ne.symm (Nat.ne_of_lt (Nat.lt_of_lt_of_le (Nat.lt_of_lt_of_le (Nat.lt_of_lt_of_le (Nat.lt_of_lt_of_le (Nat.lt_of_lt_of_le (Nat.lt_of_lt_of_le (Nat.lt_of_lt_of_le (Nat.lt_of_lt_of_le (Nat.lt_of_lt_of_le Ea.lt E1.1) (Nat.le_of_eq W2.size.symm)) E3.1) (Nat.le_of_eq W4.size.symm)) E5.1) Kc6.1) (Nat.le_of_eq W7.size.symm)) E8.1) (Nat.le_of_lt (Nat.lt_of_le_of_lt gs9 lse9)))))).ext E17).other W18 (Ne.symm (Nat.ne_of_lt (Nat.lt_of_lt_of_le (Nat.lt_of_lt_of_le (Nat.lt_of_lt_of_le (Nat.lt_of_lt_of_le (Nat.lt_of_lt_of_le (Nat.lt_of_lt_of_le (Nat.lt_of_lt_of_le (Nat.lt_of_lt_of_le (Nat.lt_of_lt_of_le Ea.lt E1.1) (Nat.le_of_eq W2.size.symm)) E3.1) (Nat.le_of_eq W4.size.symm)) E5.1) Kc6.1) (Nat.le_of_eq W7.size.symm)) E8.1) (Nat.le_of_lt (Nat.lt_of_le_of_lt gs9 lse9)))))).ext E19).other W20 (Ne.symm (Nat.ne_of_lt (Nat.lt_of_lt_of_le (Nat.lt_of_lt_of_le (Nat.lt_of_lt_of_le (Nat.lt_of_lt_of_le (Nat.lt_of_lt_of_le (Nat.lt_of_lt_of_le (Nat.lt_of_lt_of_le (Nat.lt_of_lt_of_le (Nat.lt_of_lt_of_le Ea.lt E1.1) (Nat.le_of_eq W2.size.symm)) E3.1) (Nat.le_of_eq W4.size.symm)) E5.1) Kc6.1) (Nat.le_of_eq W7.size.symm)) E8.1) (Nat.le_of_lt (Nat.lt_of_le_of_lt gs9 lse9)))))).ext E21).other W22 (Ne.symm (Nat.ne_of_lt (Nat.lt_of_lt_of_le (Nat.lt_of_lt_of_le (Nat.lt_of_lt_of_le (Nat.lt_of_lt_of_le (Nat.lt_of_lt_of_le (Nat.lt_of_lt_of_le (Nat.lt_of_lt_of_le (Nat.lt_of_lt_of_le (Nat.lt_of_lt_of_le Ea.lt E1.1) (Nat.le_of_eq W2.size.symm)) E3.1) (Nat.le_of_eq W4.size.symm)) E5.1) Kc6.1) (Nat.le_of_eq W7.size.symm)) E8.1) (Nat.le_of_lt (Nat.lt_of_le_of_lt gs9 lse9)))))).other W23 (Ne.symm (Nat.ne_of_lt (Nat.lt_of_lt_of_le (Nat.lt_of_lt_of_le (Nat.lt_of_lt_of_le (Nat.lt_of_lt_of_le (Nat.lt_of_lt_of_le (Nat.lt_of_lt_of_le (Nat.lt_of_lt_of_le (Nat.lt_of_lt_of_le (Nat.lt_of_lt_of_le Ea.lt E1.1) (Nat.le_of_eq W2.size.symm)) E3.1) (Nat.le_of_eq W4.size.symm)) E5.1) Kc6.1) (Nat.le_of_eq W7.size.symm)) E8.1) (Nat.le_of_lt (Nat.lt_of_le_of_lt gs9 lse9)))))).other W24 (Ne.symm (Nat.ne_of_lt (Nat.lt_of_lt_of_le (Nat.lt_of_lt_of_le (Nat.lt_of_lt_of_le (Nat.lt_of_lt_of_le (Nat.lt_of_lt_of_le (Nat.lt_of_lt_of_le (Nat.lt_of_lt_of_le (Nat.lt_of_lt_of_le (Nat.lt_of_lt_of_le Ea.lt E1.1) (Nat.le_of_eq W2.size.symm)) E3.1) (Nat.le_of_eq W4.size.symm)) E5.1) Kc6.1) (Nat.le_of_eq W7.size.symm)) E8.1) (Nat.le_of_lt (Nat.lt_of_le_of_lt gs9 lse9)))))).other W25 (Ne.symm (Nat.ne_of_lt (Nat.lt_of_lt_of_le (Nat.lt_of_lt_of_le (Nat.lt_of_lt_of_le (Nat.lt_of_lt_of_le (Nat.lt_of_lt_of_le (Nat.lt_of_lt_of_le (Nat.lt_of_lt_of_le (Nat.lt_of_lt_of_le (Nat.lt_of_lt_of_le Ea.lt E1.1) (Nat.le_of_eq W2.size.symm)) E3.1) (Nat.le_of_eq W4.size.symm)) E5.1) Kc6.1) (Nat.le_of_eq W7.size.symm)) E8.1) (Nat.le_of_lt (Nat.lt_of_le_of_lt gs9 lse9))))))
  have f84 := ((((((((((((((A11.other W12 (Ne.symm (Nat.ne_of_lt (Nat.lt_of_lt_of_le (Nat.lt_of_lt_of_le (Nat.lt_of_lt_of_le (Nat.lt_of_lt_of_le (Nat.lt_of_lt_of_le (Nat.lt_of_lt_of_le (Nat.lt_of_lt_of_le (Nat.lt_of_lt_of_le (Nat.lt_of_lt_of_le (Nat.lt_of_lt_of_le (Nat.lt_of_lt_of_le Ea.lt E1.1) (Nat.le_of_eq W2.size.symm)) E3.1) (Nat.le_of_eq W4.size.symm)) E5.1) Kc6.1) (Nat.le_of_eq W7.size.symm)) E8.1) Kc9.1) (Nat.le_of_eq W10.size.symm)) (Nat.le_of_eq g11.symm))))).ext E13).other W14 (Ne.symm (Nat.ne_of_lt (Nat.lt_of_lt_of_le (Nat.lt_of_lt_of_le (Nat.lt_of_lt_of_le (Nat.lt_of_lt_of_le (Nat.lt_of_lt_of_le (Nat.lt_of_lt_of_le (Nat.lt_of_lt_of_le (Nat.lt_of_lt_of_le (Nat.lt_of_lt_of_le (Nat.lt_of_lt_of_le (Nat.lt_of_lt_of_le Ea.lt E1.1) (Nat.le_of_eq W2.size.symm)) E3.1) (Nat.le_of_eq W4.size.symm)) E5.1) Kc6.1) (Nat.le_of_eq W7.size.symm)) E8.1) Kc9.1) (Nat.le_of_eq W10.size.symm)) (Nat.le_of_eq g11.symm))))).ext E15).other W16 (Ne.symm (Nat.ne_of_lt (Nat.lt_of_lt_of_le (Nat.lt_of_lt_of_le (Nat.lt_of_lt_of_le (Nat.lt_of_lt_of_le (Nat.lt_of_lt_of_le (Nat.lt_of_lt_of_le (Nat.lt_of_lt_of_le (Nat.lt_of_lt_of_le (Nat.lt_of_lt_of_le (Nat.lt_of_lt_of_le (Nat.lt_of_lt_of_le Ea.lt E1.1) (Nat.le_of_eq W2.size.symm)) E3.1) (Nat.le_of_eq W4.size.symm)) E5.1) Kc6.1) (Nat.le_of_eq W7.size.symm)) E8.1) Kc9.1) (Nat.le_of_eq W10.size.symm)) (Nat.le_of_eq g11.symm))))).ext E17).other W18 (Ne.symm (Nat.ne_of_lt (Nat.lt_of_lt_of_le (Nat.lt_of_lt_of_le (Nat.lt_of_lt_of_le (Nat.lt_of_lt_of_le (Nat.lt_of_lt_of_le (Nat.lt_of_lt_of_le (Nat.lt_of_lt_of_le (Nat.lt_of_lt_of_le (Nat.lt_of_lt_of_le (Nat.lt_of_lt_of_le (Nat.lt_of_lt_of_le Ea.lt E1.1) (Nat.le_of_eq W2.size.symm)) E3.1) (Nat.le_of_eq W4.size.symm)) E5.1) Kc6.1) (Nat.le_of_eq W7.size.symm)) E8.1) Kc9.1) (Nat.le_of_eq W10.size.symm)) (Nat.le_of_eq g11.symm))))).ext E19).other W20 (Ne.symm (Nat.ne_of_lt (Nat.lt_of_lt_of_le (Nat.lt_of_lt_of_le (Nat.lt_of_lt_of_le (Nat.lt_of_lt_of_le (Nat.lt_of_lt_of_le (Nat.lt_of_lt_of_le (Nat.lt_of_lt_of_le (Nat.lt_of_lt_of_le (Nat.lt_of_lt_of_le (Nat.lt_of_lt_of_le (Nat.lt_of_lt_of_le Ea.lt E1.1) (Nat.le_of_eq W2.size.symm)) E3.1) (Nat.le_of_eq W4.size.symm)) E5.1) Kc6.1) (Nat.le_of_eq W7.size.symm)) E8.1) Kc9.1) (Nat.le_of_eq W10.size.symm)) (Nat.le_of_eq g11.symm))))).ext E21).other W22 (Ne.symm (Nat.ne_of_lt (Nat.lt_of_lt_of_le (Nat.lt_of_lt_of_le (Nat.lt_of_lt_of_le (Nat.lt_of_lt_of_le (Nat.lt_of_lt_of_le (Nat.lt_of_lt_of_le (Nat.lt_of_lt_of_le (Nat.lt_of_lt_of_le (Nat.lt_of_lt_of_le (Nat.lt_of_lt_of_le (Nat.lt_of_lt_of_le Ea.lt E1.1) (Nat.le_of_eq W2.size.symm)) E3.1) (Nat.le_of_eq W4.size.symm)) E5.1) Kc6.1) (Nat.le_of_eq W7.size.symm)) E8.1) Kc9.1) (Nat.le_of_eq W10.size.symm)) (Nat.le_of_eq g11.symm))))).other W23 (Ne.symm (Nat.ne_of_lt (Nat.lt_of_lt_of_le (Nat.lt_of_lt_of_le (Nat.lt_of_lt_of_le (Nat.lt_of_lt_of_le (Nat.lt_of_lt_of_le (Nat.lt_of_lt_of_le (Nat.lt_of_lt_of_le (Nat.lt_of_lt_of_le (Nat.lt_of_lt_of_le (Nat.lt_of_lt_of_le (Nat.lt_of_lt_of_le Ea.lt E1.1) (Nat.le_of_eq W2.size.symm)) E3.1) (Nat.le_of_eq W4.size.symm)) E5.1) Kc6.1) (Nat.le_of_eq W7.size.symm)) E8.1) Kc9.1) (Nat.le_of_eq W10.size.symm)) (Nat.le_of_eq g11.symm))))).other W24 (Ne.symm (Nat.ne_of_lt (Nat.lt_of_lt_of_le (Nat.lt_of_lt_of_le (Nat.lt_of_lt_of_le (Nat.lt_of_lt_of_le (Nat.lt_of_lt_of_le (Nat.lt_of_lt_of_le (Nat.lt_of_lt_of_le (Nat.lt_of_lt_of_le (Nat.lt_of_lt_of_le (Nat.lt_of_lt_of_le (Nat.lt_of_lt_of_le Ea.lt E1.1) (Nat.le_of_eq W2.size.symm)) E3.1) (Nat.le_of_eq W4.size.symm)) E5.1) Kc6.1) (Nat.le_of_eq W7.size.symm)) E8.1) Kc9.1) (Nat.le_of_eq W10.size.symm)) (Nat.le_of_eq g11.symm))))).other W25 (Ne.symm (Nat.ne_of_lt (Nat.lt_of_lt_of_le (Nat.lt_of_lt_of_le (Nat.lt_of_lt_of_le (Nat.lt_of_lt_of_le (Nat.lt_of_lt_of_le (Nat.lt_of_lt_of_le (Nat.lt_of_lt_of_le (Nat.lt_of_lt_of_le (Nat.lt_of_lt_of_le (Nat.lt_of_lt_of_le (Nat.lt_of_lt_of_le Ea.lt E1.1) (Nat.le_of_eq W2.size.symm)) E3.1) (Nat.le_of_eq W4.size.symm)) E5.1) Kc6.1) (Nat.le_of_eq W7.size.symm)) E8.1) Kc9.1) (Nat.le_of_eq W10.size.symm)) (Nat.le_of_eq g11.symm)))))
  have f85 := ((((((((((((A13.other W14 (Ne.symm (Nat.ne_of_lt (Nat.lt_of_lt_of_le (Nat.lt_of_lt_of_le (Nat.lt_of_lt_of_le (Nat.lt_of_lt_of_le (Nat.lt_of_lt_of_le (Nat.lt_of_lt_of_le (Nat.lt_of_lt_of_le (Nat.lt_of_lt_of_le (Nat.lt_of_lt_of_le (Nat.lt_of_lt_of_le (Nat.lt_of_lt_of_le (Nat.lt_of_lt_of_le (Nat.lt_of_lt_of_le Ea.lt E1.1) (Nat.le_of_eq W2.size.symm)) E3.1) (Nat.le_of_eq W4.size.symm)) E5.1) Kc6.1) (Nat.le_of_eq W7.size.symm)) E8.1) Kc9.1) (Nat.le_of_eq W10.size.symm)) E11.1) (Nat.le_of_eq W12.size.symm)) (Nat.le_of_eq g13.symm))))).ext E15).other W16 (Ne.symm (Nat.ne_of_lt (Nat.lt_of_lt_of_le (Nat.lt_of_lt_of_le (Nat.lt_of_lt_of_le (Nat.lt_of_lt_of_le (Nat.lt_of_lt_of_le (Nat.lt_of_lt_of_le (Nat.lt_of_lt_of_le (Nat.lt_of_lt_of_le (Nat.lt_of_lt_of_le (Nat.lt_of_lt_of_le (Nat.lt_of_lt_of_le (Nat.lt_of_lt_of_le (Nat.lt_of_lt_of_le Ea.lt E1.1) (Nat.le_of_eq W2.size.symm)) E3.1) (Nat.le_of_eq W4.size.symm)) E5.1) Kc6.1) (Nat.le_of_eq W7.size.symm)) E8.1) Kc9.1) (Nat.le_of_eq W10.size.symm)) E11.1) (Nat.le_of_eq W12.size.symm)) (Nat.le_of_eq g13.symm))))).ext E17).other W18 (Ne.symm (Nat.ne_of_lt (Nat.lt_of_lt_of_le (Nat.lt_of_lt_of_le (Nat.lt_of_lt_of_le (Nat.lt_of_lt_of_le (Nat.lt_of_lt_of_le (Nat.lt_of_lt_of_le (Nat.lt_of_lt_of_le (Nat.lt_of_lt_of_le (Nat.lt_of_lt_of_le (Nat.lt_of_lt_of_le (Nat.lt_of_lt_of_le (Nat.lt_of_lt_of_le (Nat.lt_of_lt_of_le Ea.lt E1.1) (Nat.le_of_eq W2.size.symm)) E3.1) (Nat.le_of_eq W4.size.symm)) E5.1) Kc6.1) (Nat.le_of_eq W7.size.symm)) E8.1) Kc9.1) (Nat.le_of_eq W10.size.symm)) E11.1) (Nat.le_of_eq W12.size.symm)) (Nat.le_of_eq g13.symm))))).ext E19).other W20 (Ne.symm (Nat.ne_of_lt (Nat.lt_of_lt_of_le (Nat.lt_of_lt_of_le (Nat.lt_of_lt_of_le (Nat.lt_of_lt_of_le (Nat.lt_of_lt_of_le (Nat.lt_of_lt_of_le (Nat.lt_of_lt_of_le (Nat.lt_of_lt_of_le (Nat.lt_of_lt_of_le (Nat.lt_of_lt_of_le (Nat.lt_of_lt_of_le (Nat.lt_of_lt_of_le (Nat.lt_of_lt_of_le Ea.lt E1.1) (Nat.le_of_eq W2.size.symm)) E3.1) (Nat.le_of_eq W4.size.symm)) E5.1) Kc6.1) (Nat.le_of_eq W7.size.symm)) E8.1) Kc9.1) (Nat.le_of_eq W10.size.symm)) E11.1) (Nat.le_of_eq W12.size.symm)) (Nat.le_of_eq g13.symm))))).ext E21).other W22 (Ne.symm (Nat.ne_of_lt (Nat.lt_of_lt_of_le (Nat.lt_of_lt_of_le (Nat.lt_of_lt_of_le (Nat.lt_of_lt_of_le (Nat.lt_of_lt_of_le (Nat.lt_of_lt_of_le (Nat.lt_of_lt_of_le (Nat.lt_of_lt_of_le (Nat.lt_of_lt_of_le (Nat.lt_of_lt_of_le (Nat.lt_of_lt_of_le (Nat.lt_of_lt_of_le (Nat.lt_of_lt_of_le Ea.lt E1.1) (Nat.le_of_eq W2.size.symm)) E3.1) (Nat.le_of_eq W4.size.symm)) E5.1) Kc6.1) (Nat.le_of_eq W7.size.symm)) E8.1) Kc9.1) (Nat.le_of_eq W10.size.symm)) E11.1) (Nat.le_of_eq W12.size.symm)) (Nat.le_of_eq g13.symm))))).other W23 (Ne.symm (Nat.ne_of_lt (Nat.lt_of_lt_of_le (Nat.lt_of_lt_of_le (Nat.lt_of_lt_of_le (Nat.lt_of_lt_of_le (Nat.lt_of_lt_of_le (Nat.lt_of_lt_of_le (Nat.lt_of_lt_of_le (Nat.lt_of_lt_of_le (Nat.lt_of_lt_of_le (Nat.lt_of_lt_of_le (Nat.lt_of_lt_of_le (Nat.lt_of_lt_of_le (Nat.lt_of_lt_of_le Ea.lt E1.1) (Nat.le_of_eq W2.size.symm)) E3.1) (Nat.le_of_eq W4.size.symm)) E5.1) Kc6.1) (Nat.le_of_eq W7.size.symm)) E8.1) Kc9.1) (Nat.le_of_eq W10.size.symm)) E11.1) (Nat.le_of_eq W12.size.symm)) (Nat.le_of_eq g13.symm))))).other W24 (Ne.symm (Nat.ne_of_lt (Nat.lt_of_lt_of_le (Nat.lt_of_lt_of_le (Nat.lt_of_lt_of_le (Nat.lt_of_lt_of_le (Nat.lt_of_lt_of_le (Nat.lt_of_lt_of_le (Nat.lt_of_lt_of_le (Nat.lt_of_lt_of_le (Nat.lt_of_lt_of_le (Nat.lt_of_lt_of_le (Nat.lt_of_lt_of_le (Nat.lt_of_lt_of_le (Nat.lt_of_lt_of_le Ea.lt E1.1) (Nat.le_of_eq W2.size.symm)) E3.1) (Nat.le_of_eq W4.size.symm)) E5.1) Kc6.1) (Nat.le_of_eq W7.size.symm)) E8.1) Kc9.1) (Nat.le_of_eq W10.size.symm)) E11.1) (Nat.le_of_eq W12.size.symm)) (Nat.le_of_eq g13.symm))))).other W25 (Ne.symm (Nat.ne_of_lt (Nat.lt_of_lt_of_le (Nat.lt_of_lt_of_le (Nat.lt_of_lt_of_le (Nat.lt_of_lt_of_le (Nat.lt_of_lt_of_le (Nat.lt_of_lt_of_le (Nat.lt_of_lt_of_le (Nat.lt_of_lt_of_le (Nat.lt_of_lt_of_le (Nat.lt_of_lt_of_le (Nat.lt_of_lt_of_le (Nat.lt_of_lt_of_le (Nat.lt_of_lt_of_le Ea.lt E1.1) (Nat.le_of_eq W2.size.symm)) E3.1) (Nat.le_of_eq W4.size.symm)) E5.1) Kc6.1) (Nat.le_of_eq W7.size.symm)) E8.1) Kc9.1) (Nat.le_of_eq W10.size.symm)) E11.1) (Nat.le_of_eq W12.size.symm)) (Nat.le_of_eq g13.symm)))))
  have f86 := ((((((((((A15.other W16 (Ne.symm (Nat.ne_of_lt (Nat.lt_of_lt_of_le (Nat.lt_of_lt_of_le (Nat.lt_of_lt_of_le (Nat.lt_of_lt_of_le (Nat.lt_of_lt_of_le (Nat.lt_of_lt_of_le (Nat.lt_of_lt_of_le (Nat.lt_of_lt_of_le (Nat.lt_of_lt_of_le (Nat.lt_of_lt_of_le (Nat.lt_of_lt_of_le (Nat.lt_of_lt_of_le (Nat.lt_of_lt_of_le (Nat.lt_of_lt_of_le (Nat.lt_of_lt_of_le Ea.lt E1.1) (Nat.le_of_eq W2.size.symm)) E3.1) (Nat.le_of_eq W4.size.symm)) E5.1) Kc6.1) (Nat.le_of_eq W7.size.symm)) E8.1) Kc9.1) (Nat.le_of_eq W10.size.symm)) E11.1) (Nat.le_of_eq W12.size.symm)) E13.1) (Nat.le_of_eq W14.size.symm)) (Nat.le_of_eq g15.symm))))).ext E17).other W18 (Ne.symm (Nat.ne_of_lt (Nat.lt_of_lt_of_le (Nat.lt_of_lt_of_le (Nat.lt_of_lt_of_le (Nat.lt_of_lt_of_le (Nat.lt_of_lt_of_le (Nat.lt_of_lt_of_le (Nat.lt_of_lt_of_le (Nat.lt_of_lt_of_le (Nat.lt_of_lt_of_le (Nat.lt_of_lt_of_le (Nat.lt_of_lt_of_le (Nat.lt_of_lt_of_le (Nat.lt_of_lt_of_le (Nat.lt_of_lt_of_le (Nat.lt_of_lt_of_le Ea.lt E1.1) (Nat.le_of_eq W2.size.symm)) E3.1) (Nat.le_of_eq W4.size.symm)) E5.1) Kc6.1) (Nat.le_of_eq W7.size.symm)) E8.1) Kc9.1) (Nat.le_of_eq W10.size.symm)) E11.1) (Nat.le_of_eq W12.size.symm)) E13.1) (Nat.le_of_eq W14.size.symm)) (Nat.le_of_eq g15.symm))))).ext E19).other W20 (Ne.symm (Nat.ne_of_lt (Nat.lt_of_lt_of_le (Nat.lt_of_lt_of_le (Nat.lt_of_lt_of_le (Nat.lt_of_lt_of_le (Nat.lt_of_lt_of_le (Nat.lt_of_lt_of_le (Nat.lt_of_lt_of_le (Nat.lt_of_lt_of_le (Nat.lt_of_lt_of_le (Nat.lt_of_lt_of_le (Nat.lt_of_lt_of_le (Nat.lt_of_lt_of_le (Nat.lt_of_lt_of_le (Nat.lt_of_lt_of_le (Nat.lt_of_lt_of_le Ea.lt E1.1) (Nat.le_of_eq W2.size.symm)) E3.1) (Nat.le_of_eq W4.size.symm)) E5.1) Kc6.1) (Nat.le_of_eq W7.size.symm)) E8.1) Kc9.1) (Nat.le_of_eq W10.size.symm)) E11.1) (Nat.le_of_eq W12.size.symm)) E13.1) (Nat.le_of_eq W14.size.symm)) (Nat.le_of_eq g15.symm))))).ext E21).other W22 (Ne.symm (Nat.ne_of_lt (Nat.lt_of_lt_of_le (Nat.lt_of_lt_of_le (Nat.lt_of_lt_of_le (Nat.lt_of_lt_of_le (Nat.lt_of_lt_of_le (Nat.lt_of_lt_of_le (Nat.lt_of_lt_of_le (Nat.lt_of_lt_of_le (Nat.lt_of_lt_of_le (Nat.lt_of_lt_of_le (Nat.lt_of_lt_of_le (Nat.lt_of_lt_of_le (Nat.lt_of_lt_of_le (Nat.lt_of_lt_of_le (Nat.lt_of_lt_of_le Ea.lt E1.1) (Nat.le_of_eq W2.size.symm)) E3.1) (Nat.le_of_eq W4.size.symm)) E5.1) Kc6.1) (Nat.le_of_eq W7.size.symm)) E8.1) Kc9.1) (Nat.le_of_eq W10.size.symm)) E11.1) (Nat.le_of_eq W12.size.symm)) E13.1) (Nat.le_of_eq W14.size.symm)) (Nat.le_of_eq g15.symm))))).other W23 (Ne.symm (Nat.ne_of_lt (Nat.lt_of_lt_of_le (Nat.lt_of_lt_of_le (Nat.lt_of_lt_of_le (Nat.lt_of_lt_of_le (Nat.lt_of_lt_of_le (Nat.lt_of_lt_of_le (Nat.lt_of_lt_of_le (Nat.lt_of_lt_of_le (Nat.lt_of_lt_of_le (Nat.lt_of_lt_of_le (Nat.lt_of_lt_of_le (Nat.lt_of_lt_of_le (Nat.lt_of_lt_of_le (Nat.lt_of_lt_of_le (Nat.lt_of_lt_of_le Ea.lt E1.1) (Nat.le_of_eq W2.size.symm)) E3.1) (Nat.le_of_eq W4.size.symm)) E5.1) Kc6.1) (Nat.le_of_eq W7.size.symm)) E8.1) Kc9.1) (Nat.le_of_eq W10.size.symm)) E11.1) (Nat.le_of_eq W12.size.symm)) E13.1) (Nat.le_of_eq W14.size.symm)) (Nat.le_of_eq g15.symm))))).other W24 (Ne.symm (Nat.ne_of_lt (Nat.lt_of_lt_of_le (Nat.lt_of_lt_of_le (Nat.lt_of_lt_of_le (Nat.lt_of_lt_of_le (Nat.lt_of_lt_of_le (Nat.lt_of_lt_of_le (Nat.lt_of_lt_of_le (Nat.lt_of_lt_of_le (Nat.lt_of_lt_of_le (Nat.lt_of_lt_of_le (Nat.lt_of_lt_of_le (Nat.lt_of_lt_of_le (Nat.lt_of_lt_of_le (Nat.lt_of_lt_of_le (Nat.lt_of_lt_of_le Ea.lt E1.1) (Nat.le_of_eq W2.size.symm)) E3.1) (Nat.le_of_eq W4.size.symm)) E5.1) Kc6.1) (Nat.le_of_eq W7.size.symm)) E8.1) Kc9.1) (Nat.le_of_eq W10.size.symm)) E11.1) (Nat.le_of_eq W12.size.symm)) E13.1) (Nat.le_of_eq W14.size.symm)) (Nat.le_of_eq g15.symm))))).other W25 (Ne.symm (Nat.ne_of_lt (Nat.lt_of_lt_of_le (Nat.lt_of_lt_of_le (Nat.lt_of_lt_of_le (Nat.lt_of_lt_of_le (Nat.lt_of_lt_of_le (Nat.lt_of_lt_of_le (Nat.lt_of_lt_of_le (Nat.lt_of_lt_of_le (Nat.lt_of_lt_of_le (Nat.lt_of_lt_of_le (Nat.lt_of_lt_of_le (Nat.lt_of_lt_of_le (Nat.lt_of_lt_of_le (Nat.lt_of_lt_of_le (Nat.lt_of_lt_of_le Ea.lt E1.1) (Nat.le_of_eq W2.size.symm)) E3.1) (Nat.le_of_eq W4.size.symm)) E5.1) Kc6.1) (Nat.le_of_eq W7.size.symm)) E8.1) Kc9.1) (Nat.le_of_eq W10.size.symm)) E11.1) (Nat.le_of_eq W12.size.symm)) E13.1) (Nat.le_of_eq W14.size.symm)) (Nat.le_of_eq g15.symm)))))
  exact w_retV X q7_1_110 ⟨rfl, K64, _, _, _, _, _, _, _, _, sz_b1, ga, (Nat.lt_of_lt_of_le Ea.lt (Nat.le_of_eq g1.symm)), (Nat.lt_of_lt_of_le (Nat.lt_of_lt_of_le A1.lt (Nat.le_of_eq W2.size.symm)) (Nat.le_of_eq g3.symm)), (Nat.lt_of_lt_of_le (Nat.lt_of_lt_of_le (Nat.lt_of_lt_of_le (Nat.lt_of_lt_of_le (Nat.lt_of_lt_of_le A3.lt (Nat.le_of_eq W4.size.symm)) E5.1) Kc6.1) (Nat.le_of_eq W7.size.symm)) (Nat.le_of_eq g8.symm)), (Nat.lt_of_lt_of_le A8.lt gs9), lse9, (Nat.lt_of_lt_of_le (Nat.lt_of_lt_of_le le9 (Nat.le_of_eq W10.size.symm)) (Nat.le_of_eq g11.symm)), (Nat.lt_of_lt_of_le (Nat.lt_of_lt_of_le A11.lt (Nat.le_of_eq W12.size.symm)) (Nat.le_of_eq g13.symm)), (Nat.lt_of_lt_of_le (Nat.lt_of_lt_of_le A13.lt (Nat.le_of_eq W14.size.symm)) (Nat.le_of_eq g15.symm)), f65, f66, f67, f68, f69, f70, f71, f72, f73, f74, f75, f76, f77, f78, f79, f80, f81, ⟨_, _, _, _, f82⟩, ⟨_, _, _, _, f83⟩, ⟨_, _, _, _, f84⟩, ⟨_, _, _, _, f85⟩, ⟨_, _, _, _, f86⟩⟩ (by decide) (by decide)
theorem m_al {l : Launch} {Z : State} {a0 : Array Value} {n0 : Nat} (hw : own_hw a0 Z) {h0 : Heap} {a : Addr} {n1 : Int32} (Fs : Fld Z h0 a "java/lang/AbstractStringBuilder" "count" "I" (.int n1)) :
    Does l Z n0 ⟨"java/lang/AbstractStringBuilder", "length", "()I"⟩ jdk_68_method_6_code 1 (some .int) [] { frames := 0, cells := 0, slots := 0, locals := 0 } #[(.ref a)] h0 (fun v h => v = some (.int n1) ∧ h0 = h) := by
  refine Does.start (plainFor_of_name pn_2) ?_
  intro p e s m below meth c T X
  replace X : Sd _ _ _ _ _ "java/lang/AbstractStringBuilder" "length" _ _ _ _ _ _ _ _ _ _ _ _ _ _ _ _ := X
  refine Wp.cast (g' := mkF m 0 #[.val (.ref a)] []) (by first | (simp [entryFrame, mkF, argsToLocals, Value.category, maxLocals]; done) | rfl) ?_
  refine w_aloadN X k68_6_0 rfl (rfl) ?_
  refine w_getF X k68_6_1 (host := "") (Or.inl (wd_169 hw)) Via.refl Fs (fun T X => ?_)
  exact w_retI X k68_6_4 ⟨rfl, rfl⟩ (by decide) (by decide)
theorem m_bl {l : Launch} {Z : State} {a0 : Array Value} {n0 : Nat} (hw : own_hw a0 Z) {h0 : Heap} {a : Addr} {n1 : Int32} (Es : Exa Z h0 a "java/lang/StringBuilder") (Fs : Fld Z h0 a "java/lang/AbstractStringBuilder" "count" "I" (.int n1)) :
    Does l Z n0 ⟨"java/lang/StringBuilder", "length", "()I"⟩ jdk_67_method_93_code 1 (some .int) [] { frames := 1, cells := 0, slots := 0, locals := 12 } #[(.ref a)] h0 (fun v h => v = some (.int n1) ∧ h0 = h) := by
  refine Does.start (plainFor_of_name pn_3) ?_
  intro p e s m below meth c T X
  replace X : Sd _ _ _ _ _ "java/lang/StringBuilder" "length" _ _ _ _ _ _ _ _ _ _ _ _ _ _ _ _ := X
  refine Wp.cast (g' := mkF m 0 #[.val (.ref a)] []) (by first | (simp [entryFrame, mkF, argsToLocals, Value.category, maxLocals]; done) | rfl) ?_
  refine w_aloadN X k67_93_0 rfl (rfl) ?_
  refine w_callSup X k67_93_1 (by decide) (wd_164 hw) (wd_165 hw) (wd_166 hw) (wd_68 hw) (wd_168 hw) (by decide) Es (argsL := []) (S := []) (m_al hw Fs) pd_3 rfl rfl rfl (by decide) (Nat.le_of_ble_eq_true rfl) (by decide) (by decide) (fun T h1 v1 L1 X q1 => ?_)
  obtain ⟨rfl, rfl⟩ := q1
  show Wp _ _ _ _ (T.setTop (mkF _ _ _ [(.int n1)]))
  exact w_retI X k67_93_4 ⟨rfl, rfl⟩ (by decide) (by decide)
theorem m_add_0 {l : Launch} {Z : State} {a0 : Array Value} {n0 : Nat} (hw : own_hw a0 Z) {h0 : Heap} {nm sb en : Addr} {q0 q1 q2 q3 : Int32} (gn : n0 ≤ nm) (ge : n0 ≤ en) (nse : sb ≠ en) (nme : nm ≠ en) (nms : nm ≠ sb) (En : Exa Z h0 nm "com/example/flicker/flicker/game/VertexNames") (Ft : Fld Z h0 nm "com/example/flicker/flicker/game/VertexNames" "text" "Ljava/lang/StringBuilder;" (.ref sb)) (Fe : Fld Z h0 nm "com/example/flicker/flicker/game/VertexNames" "end" "[I" (.ref en)) (Fc : Fld Z h0 nm "com/example/flicker/flicker/game/VertexNames" "count" "I" (.int (0 : Int32))) (Es : Exa Z h0 sb "java/lang/StringBuilder") (Fs : Fld Z h0 sb "java/lang/AbstractStringBuilder" "count" "I" (.int (0 : Int32))) (Ae : Ary Z h0 en .int (.int q0 :: .int q1 :: .int q2 :: .int q3 :: own_z60)) :
    Does l Z n0 ⟨"com/example/flicker/flicker/game/VertexNames", "add", "(Ljava/lang/CharSequence;)V"⟩ prog_23_method_2_code 2 none [] { frames := 2, cells := 0, slots := 0, locals := 26 } #[(.ref nm), .null] h0 (fun v h => v = none ∧ Keep h0 h [nm, en] ∧ Fld Z h nm "com/example/flicker/flicker/game/VertexNames" "text" "Ljava/lang/StringBuilder;" (.ref sb) ∧ Fld Z h nm "com/example/flicker/flicker/game/VertexNames" "end" "[I" (.ref en) ∧ Fld Z h nm "com/example/flicker/flicker/game/VertexNames" "count" "I" (.int (1 : Int32)) ∧ own_I Z h en) := by
  refine Does.start (plainFor_of_name pn_4) ?_
  intro p e s m below meth c T X
  replace X : Sd _ _ _ _ _ "com/example/flicker/flicker/game/VertexNames" "add" _ _ _ _ _ _ _ _ _ _ _ _ _ _ _ _ := X
  refine Wp.cast (g' := mkF m 0 #[.val (.ref nm), .val .null] []) (by first | (simp [entryFrame, mkF, argsToLocals, Value.category, maxLocals]; done) | rfl) ?_
  refine w_aloadN X q23_2_0 rfl (rfl) ?_
  refine w_getF X q23_2_1 (host := "") (Or.inl (wd_157 hw)) Via.refl Fc (fun T X => ?_)
  refine w_aloadN X q23_2_4 rfl (rfl) ?_
  refine w_getF X q23_2_5 (host := "") (Or.inl (wd_78 hw)) Via.refl Fe (fun T X => ?_)
  refine w_arrlen X (64 : Int32) q23_2_8 Ae rfl ?_
  refine w_icmpne X q23_2_9 (fun _ => ?_) (fun hc => absurd hc (by decide))
  refine w_aloadN X q23_2_29 rfl (rfl) ?_
  refine w_ifnullT X q23_2_30 ?_
  refine w_aloadN X q23_2_53 rfl (rfl) ?_
  refine w_getF X q23_2_54 (host := "") (Or.inl (wd_78 hw)) Via.refl Fe (fun T X => ?_)
  refine w_aloadN X q23_2_57 rfl (rfl) ?_
  refine w_getF X q23_2_58 (host := "") (Or.inl (wd_157 hw)) Via.refl Fc (fun T X => ?_)
  refine w_aloadN X q23_2_61 rfl (rfl) ?_
  refine w_getF X q23_2_62 (host := "") (Or.inl (wd_76 hw)) Via.refl Ft (fun T X => ?_)
  refine w_callV X q23_2_65 (wd_159 hw) (wd_160 hw) (notFace_of_selects (args := #[]) (mvT X.hZ (wd_162 hw))) (wd_162 hw) (wd_161 hw) (wd_60 hw) (wd_163 hw) (by decide) Es (argsL := []) (S := [(.int (0 : Int32)), (.ref en)]) (m_bl hw Es Fs) pd_3 rfl rfl rfl (by decide) (Nat.le_of_ble_eq_true rfl) (by decide) (by decide) (fun T h1 v1 L1 X q1 => ?_)
  obtain ⟨rfl, rfl⟩ := q1
  show Wp _ _ _ _ (T.setTop (mkF _ _ _ [(.int (0 : Int32)), (.int (0 : Int32)), (.ref en)]))
  refine w_iastore X q23_2_68 Ae (by decide) rfl ge (.int (0 : Int32)) rfl ((.int (0 : Int32)) :: (.int q1) :: (.int q2) :: (.int q3) :: own_z60) rfl (fun T h2 X W2 A2 => ?_)
  have K1 : Keep h0 h2 [nm, en] := (Keep.refl h0 [nm, en]).wr W2 (Or.inl (List.mem_of_getElem? (i := 1) rfl))
  refine w_aloadN X q23_2_69 rfl (rfl) ?_
  refine w_dup X q23_2_70 rfl ?_
  have f2 := (Fc.other W2 (Or.inl nme))
  refine w_getF X q23_2_71 (host := "") (Or.inl (wd_157 hw)) Via.refl f2 (fun T X => ?_)
  refine w_iconst X (1 : Int32) q23_2_74 rfl ?_
  refine w_iadd X q23_2_75 ?_
  have f3 := (En.wr W2)
  refine w_putF X q23_2_76 (host := "") (Or.inl (wd_157 hw)) Via.refl f2 f3 (Or.inl (wd_158 hw)) (wd_52 hw) (ty := .int) (by decide) rfl rfl gn (fun T h3 X W3 => ?_)
  have f4 := f2.same W3
  have K5 : Keep h0 h3 [nm, en] := K1.wr W3 (Or.inl (List.mem_of_getElem? (i := 0) rfl))
  have f6 := ((Ft.other W2 (Or.inl nme)).other W3 (Or.inr (slot_ne (Or.inr (wd_77 hw)) (Or.inl (wd_158 hw)) (by decide) (t := (.object "java/lang/StringBuilder")) (t' := .int) (by decide) (by decide))))
  have f7 := ((Fe.other W2 (Or.inl nme)).other W3 (Or.inr (slot_ne (Or.inl (wd_79 hw)) (Or.inl (wd_158 hw)) (by decide) (t := (.array .int)) (t' := .int) (by decide) (by decide))))
  have f8 := (A2.other W3 (Ne.symm nme))
  exact w_retV X q23_2_79 ⟨rfl, K5, f6, f7, f4, ⟨_, _, _, _, f8⟩⟩ (by decide) (by decide)
theorem m_add_1 {l : Launch} {Z : State} {a0 : Array Value} {n0 : Nat} (hw : own_hw a0 Z) {h0 : Heap} {nm sb en : Addr} {q0 q1 q2 q3 : Int32} (gn : n0 ≤ nm) (ge : n0 ≤ en) (nse : sb ≠ en) (nme : nm ≠ en) (nms : nm ≠ sb) (En : Exa Z h0 nm "com/example/flicker/flicker/game/VertexNames") (Ft : Fld Z h0 nm "com/example/flicker/flicker/game/VertexNames" "text" "Ljava/lang/StringBuilder;" (.ref sb)) (Fe : Fld Z h0 nm "com/example/flicker/flicker/game/VertexNames" "end" "[I" (.ref en)) (Fc : Fld Z h0 nm "com/example/flicker/flicker/game/VertexNames" "count" "I" (.int (1 : Int32))) (Es : Exa Z h0 sb "java/lang/StringBuilder") (Fs : Fld Z h0 sb "java/lang/AbstractStringBuilder" "count" "I" (.int (0 : Int32))) (Ae : Ary Z h0 en .int (.int q0 :: .int q1 :: .int q2 :: .int q3 :: own_z60)) :
    Does l Z n0 ⟨"com/example/flicker/flicker/game/VertexNames", "add", "(Ljava/lang/CharSequence;)V"⟩ prog_23_method_2_code 2 none [] { frames := 2, cells := 0, slots := 0, locals := 26 } #[(.ref nm), .null] h0 (fun v h => v = none ∧ Keep h0 h [nm, en] ∧ Fld Z h nm "com/example/flicker/flicker/game/VertexNames" "text" "Ljava/lang/StringBuilder;" (.ref sb) ∧ Fld Z h nm "com/example/flicker/flicker/game/VertexNames" "end" "[I" (.ref en) ∧ Fld Z h nm "com/example/flicker/flicker/game/VertexNames" "count" "I" (.int (2 : Int32)) ∧ own_I Z h en) := by
  refine Does.start (plainFor_of_name pn_4) ?_
  intro p e s m below meth c T X
  replace X : Sd _ _ _ _ _ "com/example/flicker/flicker/game/VertexNames" "add" _ _ _ _ _ _ _ _ _ _ _ _ _ _ _ _ := X
  refine Wp.cast (g' := mkF m 0 #[.val (.ref nm), .val .null] []) (by first | (simp [entryFrame, mkF, argsToLocals, Value.category, maxLocals]; done) | rfl) ?_
  refine w_aloadN X q23_2_0 rfl (rfl) ?_
  refine w_getF X q23_2_1 (host := "") (Or.inl (wd_157 hw)) Via.refl Fc (fun T X => ?_)
  refine w_aloadN X q23_2_4 rfl (rfl) ?_
  refine w_getF X q23_2_5 (host := "") (Or.inl (wd_78 hw)) Via.refl Fe (fun T X => ?_)
  refine w_arrlen X (64 : Int32) q23_2_8 Ae rfl ?_
  refine w_icmpne X q23_2_9 (fun _ => ?_) (fun hc => absurd hc (by decide))
  refine w_aloadN X q23_2_29 rfl (rfl) ?_
  refine w_ifnullT X q23_2_30 ?_
  refine w_aloadN X q23_2_53 rfl (rfl) ?_
  refine w_getF X q23_2_54 (host := "") (Or.inl (wd_78 hw)) Via.refl Fe (fun T X => ?_)
  refine w_aloadN X q23_2_57 rfl (rfl) ?_
  refine w_getF X q23_2_58 (host := "") (Or.inl (wd_157 hw)) Via.refl Fc (fun T X => ?_)
  refine w_aloadN X q23_2_61 rfl (rfl) ?_
  refine w_getF X q23_2_62 (host := "") (Or.inl (wd_76 hw)) Via.refl Ft (fun T X => ?_)
  refine w_callV X q23_2_65 (wd_159 hw) (wd_160 hw) (notFace_of_selects (args := #[]) (mvT X.hZ (wd_162 hw))) (wd_162 hw) (wd_161 hw) (wd_60 hw) (wd_163 hw) (by decide) Es (argsL := []) (S := [(.int (1 : Int32)), (.ref en)]) (m_bl hw Es Fs) pd_3 rfl rfl rfl (by decide) (Nat.le_of_ble_eq_true rfl) (by decide) (by decide) (fun T h1 v1 L1 X q1 => ?_)
  obtain ⟨rfl, rfl⟩ := q1
  show Wp _ _ _ _ (T.setTop (mkF _ _ _ [(.int (0 : Int32)), (.int (1 : Int32)), (.ref en)]))
  refine w_iastore X q23_2_68 Ae (by decide) rfl ge (.int (0 : Int32)) rfl ((.int q0) :: (.int (0 : Int32)) :: (.int q2) :: (.int q3) :: own_z60) rfl (fun T h2 X W2 A2 => ?_)
  have K1 : Keep h0 h2 [nm, en] := (Keep.refl h0 [nm, en]).wr W2 (Or.inl (List.mem_of_getElem? (i := 1) rfl))
  refine w_aloadN X q23_2_69 rfl (rfl) ?_
  refine w_dup X q23_2_70 rfl ?_
  have f2 := (Fc.other W2 (Or.inl nme))
  refine w_getF X q23_2_71 (host := "") (Or.inl (wd_157 hw)) Via.refl f2 (fun T X => ?_)
  refine w_iconst X (1 : Int32) q23_2_74 rfl ?_
  refine w_iadd X q23_2_75 ?_
  have f3 := (En.wr W2)
  refine w_putF X q23_2_76 (host := "") (Or.inl (wd_157 hw)) Via.refl f2 f3 (Or.inl (wd_158 hw)) (wd_52 hw) (ty := .int) (by decide) rfl rfl gn (fun T h3 X W3 => ?_)
  have f4 := f2.same W3
  have K5 : Keep h0 h3 [nm, en] := K1.wr W3 (Or.inl (List.mem_of_getElem? (i := 0) rfl))
  have f6 := ((Ft.other W2 (Or.inl nme)).other W3 (Or.inr (slot_ne (Or.inr (wd_77 hw)) (Or.inl (wd_158 hw)) (by decide) (t := (.object "java/lang/StringBuilder")) (t' := .int) (by decide) (by decide))))
  have f7 := ((Fe.other W2 (Or.inl nme)).other W3 (Or.inr (slot_ne (Or.inl (wd_79 hw)) (Or.inl (wd_158 hw)) (by decide) (t := (.array .int)) (t' := .int) (by decide) (by decide))))
  have f8 := (A2.other W3 (Ne.symm nme))
  exact w_retV X q23_2_79 ⟨rfl, K5, f6, f7, f4, ⟨_, _, _, _, f8⟩⟩ (by decide) (by decide)
theorem m_add_2 {l : Launch} {Z : State} {a0 : Array Value} {n0 : Nat} (hw : own_hw a0 Z) {h0 : Heap} {nm sb en : Addr} {q0 q1 q2 q3 : Int32} (gn : n0 ≤ nm) (ge : n0 ≤ en) (nse : sb ≠ en) (nme : nm ≠ en) (nms : nm ≠ sb) (En : Exa Z h0 nm "com/example/flicker/flicker/game/VertexNames") (Ft : Fld Z h0 nm "com/example/flicker/flicker/game/VertexNames" "text" "Ljava/lang/StringBuilder;" (.ref sb)) (Fe : Fld Z h0 nm "com/example/flicker/flicker/game/VertexNames" "end" "[I" (.ref en)) (Fc : Fld Z h0 nm "com/example/flicker/flicker/game/VertexNames" "count" "I" (.int (2 : Int32))) (Es : Exa Z h0 sb "java/lang/StringBuilder") (Fs : Fld Z h0 sb "java/lang/AbstractStringBuilder" "count" "I" (.int (0 : Int32))) (Ae : Ary Z h0 en .int (.int q0 :: .int q1 :: .int q2 :: .int q3 :: own_z60)) :
    Does l Z n0 ⟨"com/example/flicker/flicker/game/VertexNames", "add", "(Ljava/lang/CharSequence;)V"⟩ prog_23_method_2_code 2 none [] { frames := 2, cells := 0, slots := 0, locals := 26 } #[(.ref nm), .null] h0 (fun v h => v = none ∧ Keep h0 h [nm, en] ∧ Fld Z h nm "com/example/flicker/flicker/game/VertexNames" "text" "Ljava/lang/StringBuilder;" (.ref sb) ∧ Fld Z h nm "com/example/flicker/flicker/game/VertexNames" "end" "[I" (.ref en) ∧ Fld Z h nm "com/example/flicker/flicker/game/VertexNames" "count" "I" (.int (3 : Int32)) ∧ own_I Z h en) := by
  refine Does.start (plainFor_of_name pn_4) ?_
  intro p e s m below meth c T X
  replace X : Sd _ _ _ _ _ "com/example/flicker/flicker/game/VertexNames" "add" _ _ _ _ _ _ _ _ _ _ _ _ _ _ _ _ := X
  refine Wp.cast (g' := mkF m 0 #[.val (.ref nm), .val .null] []) (by first | (simp [entryFrame, mkF, argsToLocals, Value.category, maxLocals]; done) | rfl) ?_
  refine w_aloadN X q23_2_0 rfl (rfl) ?_
  refine w_getF X q23_2_1 (host := "") (Or.inl (wd_157 hw)) Via.refl Fc (fun T X => ?_)
  refine w_aloadN X q23_2_4 rfl (rfl) ?_
  refine w_getF X q23_2_5 (host := "") (Or.inl (wd_78 hw)) Via.refl Fe (fun T X => ?_)
  refine w_arrlen X (64 : Int32) q23_2_8 Ae rfl ?_
  refine w_icmpne X q23_2_9 (fun _ => ?_) (fun hc => absurd hc (by decide))
  refine w_aloadN X q23_2_29 rfl (rfl) ?_
  refine w_ifnullT X q23_2_30 ?_
  refine w_aloadN X q23_2_53 rfl (rfl) ?_
  refine w_getF X q23_2_54 (host := "") (Or.inl (wd_78 hw)) Via.refl Fe (fun T X => ?_)
  refine w_aloadN X q23_2_57 rfl (rfl) ?_
  refine w_getF X q23_2_58 (host := "") (Or.inl (wd_157 hw)) Via.refl Fc (fun T X => ?_)
  refine w_aloadN X q23_2_61 rfl (rfl) ?_
  refine w_getF X q23_2_62 (host := "") (Or.inl (wd_76 hw)) Via.refl Ft (fun T X => ?_)
  refine w_callV X q23_2_65 (wd_159 hw) (wd_160 hw) (notFace_of_selects (args := #[]) (mvT X.hZ (wd_162 hw))) (wd_162 hw) (wd_161 hw) (wd_60 hw) (wd_163 hw) (by decide) Es (argsL := []) (S := [(.int (2 : Int32)), (.ref en)]) (m_bl hw Es Fs) pd_3 rfl rfl rfl (by decide) (Nat.le_of_ble_eq_true rfl) (by decide) (by decide) (fun T h1 v1 L1 X q1 => ?_)
  obtain ⟨rfl, rfl⟩ := q1
  show Wp _ _ _ _ (T.setTop (mkF _ _ _ [(.int (0 : Int32)), (.int (2 : Int32)), (.ref en)]))
  refine w_iastore X q23_2_68 Ae (by decide) rfl ge (.int (0 : Int32)) rfl ((.int q0) :: (.int q1) :: (.int (0 : Int32)) :: (.int q3) :: own_z60) rfl (fun T h2 X W2 A2 => ?_)
  have K1 : Keep h0 h2 [nm, en] := (Keep.refl h0 [nm, en]).wr W2 (Or.inl (List.mem_of_getElem? (i := 1) rfl))
  refine w_aloadN X q23_2_69 rfl (rfl) ?_
  refine w_dup X q23_2_70 rfl ?_
  have f2 := (Fc.other W2 (Or.inl nme))
  refine w_getF X q23_2_71 (host := "") (Or.inl (wd_157 hw)) Via.refl f2 (fun T X => ?_)
  refine w_iconst X (1 : Int32) q23_2_74 rfl ?_
  refine w_iadd X q23_2_75 ?_
  have f3 := (En.wr W2)
  refine w_putF X q23_2_76 (host := "") (Or.inl (wd_157 hw)) Via.refl f2 f3 (Or.inl (wd_158 hw)) (wd_52 hw) (ty := .int) (by decide) rfl rfl gn (fun T h3 X W3 => ?_)
  have f4 := f2.same W3
  have K5 : Keep h0 h3 [nm, en] := K1.wr W3 (Or.inl (List.mem_of_getElem? (i := 0) rfl))
  have f6 := ((Ft.other W2 (Or.inl nme)).other W3 (Or.inr (slot_ne (Or.inr (wd_77 hw)) (Or.inl (wd_158 hw)) (by decide) (t := (.object "java/lang/StringBuilder")) (t' := .int) (by decide) (by decide))))
  have f7 := ((Fe.other W2 (Or.inl nme)).other W3 (Or.inr (slot_ne (Or.inl (wd_79 hw)) (Or.inl (wd_158 hw)) (by decide) (t := (.array .int)) (t' := .int) (by decide) (by decide))))
  have f8 := (A2.other W3 (Ne.symm nme))
  exact w_retV X q23_2_79 ⟨rfl, K5, f6, f7, f4, ⟨_, _, _, _, f8⟩⟩ (by decide) (by decide)
theorem m_add_3 {l : Launch} {Z : State} {a0 : Array Value} {n0 : Nat} (hw : own_hw a0 Z) {h0 : Heap} {nm sb en : Addr} {q0 q1 q2 q3 : Int32} (gn : n0 ≤ nm) (ge : n0 ≤ en) (nse : sb ≠ en) (nme : nm ≠ en) (nms : nm ≠ sb) (En : Exa Z h0 nm "com/example/flicker/flicker/game/VertexNames") (Ft : Fld Z h0 nm "com/example/flicker/flicker/game/VertexNames" "text" "Ljava/lang/StringBuilder;" (.ref sb)) (Fe : Fld Z h0 nm "com/example/flicker/flicker/game/VertexNames" "end" "[I" (.ref en)) (Fc : Fld Z h0 nm "com/example/flicker/flicker/game/VertexNames" "count" "I" (.int (3 : Int32))) (Es : Exa Z h0 sb "java/lang/StringBuilder") (Fs : Fld Z h0 sb "java/lang/AbstractStringBuilder" "count" "I" (.int (0 : Int32))) (Ae : Ary Z h0 en .int (.int q0 :: .int q1 :: .int q2 :: .int q3 :: own_z60)) :
    Does l Z n0 ⟨"com/example/flicker/flicker/game/VertexNames", "add", "(Ljava/lang/CharSequence;)V"⟩ prog_23_method_2_code 2 none [] { frames := 2, cells := 0, slots := 0, locals := 26 } #[(.ref nm), .null] h0 (fun v h => v = none ∧ Keep h0 h [nm, en] ∧ Fld Z h nm "com/example/flicker/flicker/game/VertexNames" "text" "Ljava/lang/StringBuilder;" (.ref sb) ∧ Fld Z h nm "com/example/flicker/flicker/game/VertexNames" "end" "[I" (.ref en) ∧ Fld Z h nm "com/example/flicker/flicker/game/VertexNames" "count" "I" (.int (4 : Int32)) ∧ own_I Z h en) := by
  refine Does.start (plainFor_of_name pn_4) ?_
  intro p e s m below meth c T X
  replace X : Sd _ _ _ _ _ "com/example/flicker/flicker/game/VertexNames" "add" _ _ _ _ _ _ _ _ _ _ _ _ _ _ _ _ := X
  refine Wp.cast (g' := mkF m 0 #[.val (.ref nm), .val .null] []) (by first | (simp [entryFrame, mkF, argsToLocals, Value.category, maxLocals]; done) | rfl) ?_
  refine w_aloadN X q23_2_0 rfl (rfl) ?_
  refine w_getF X q23_2_1 (host := "") (Or.inl (wd_157 hw)) Via.refl Fc (fun T X => ?_)
  refine w_aloadN X q23_2_4 rfl (rfl) ?_
  refine w_getF X q23_2_5 (host := "") (Or.inl (wd_78 hw)) Via.refl Fe (fun T X => ?_)
  refine w_arrlen X (64 : Int32) q23_2_8 Ae rfl ?_
  refine w_icmpne X q23_2_9 (fun _ => ?_) (fun hc => absurd hc (by decide))
  refine w_aloadN X q23_2_29 rfl (rfl) ?_
  refine w_ifnullT X q23_2_30 ?_
  refine w_aloadN X q23_2_53 rfl (rfl) ?_
  refine w_getF X q23_2_54 (host := "") (Or.inl (wd_78 hw)) Via.refl Fe (fun T X => ?_)
  refine w_aloadN X q23_2_57 rfl (rfl) ?_
  refine w_getF X q23_2_58 (host := "") (Or.inl (wd_157 hw)) Via.refl Fc (fun T X => ?_)
  refine w_aloadN X q23_2_61 rfl (rfl) ?_
  refine w_getF X q23_2_62 (host := "") (Or.inl (wd_76 hw)) Via.refl Ft (fun T X => ?_)
  refine w_callV X q23_2_65 (wd_159 hw) (wd_160 hw) (notFace_of_selects (args := #[]) (mvT X.hZ (wd_162 hw))) (wd_162 hw) (wd_161 hw) (wd_60 hw) (wd_163 hw) (by decide) Es (argsL := []) (S := [(.int (3 : Int32)), (.ref en)]) (m_bl hw Es Fs) pd_3 rfl rfl rfl (by decide) (Nat.le_of_ble_eq_true rfl) (by decide) (by decide) (fun T h1 v1 L1 X q1 => ?_)
  obtain ⟨rfl, rfl⟩ := q1
  show Wp _ _ _ _ (T.setTop (mkF _ _ _ [(.int (0 : Int32)), (.int (3 : Int32)), (.ref en)]))
  refine w_iastore X q23_2_68 Ae (by decide) rfl ge (.int (0 : Int32)) rfl ((.int q0) :: (.int q1) :: (.int q2) :: (.int (0 : Int32)) :: own_z60) rfl (fun T h2 X W2 A2 => ?_)
  have K1 : Keep h0 h2 [nm, en] := (Keep.refl h0 [nm, en]).wr W2 (Or.inl (List.mem_of_getElem? (i := 1) rfl))
  refine w_aloadN X q23_2_69 rfl (rfl) ?_
  refine w_dup X q23_2_70 rfl ?_
  have f2 := (Fc.other W2 (Or.inl nme))
  refine w_getF X q23_2_71 (host := "") (Or.inl (wd_157 hw)) Via.refl f2 (fun T X => ?_)
  refine w_iconst X (1 : Int32) q23_2_74 rfl ?_
  refine w_iadd X q23_2_75 ?_
  have f3 := (En.wr W2)
  refine w_putF X q23_2_76 (host := "") (Or.inl (wd_157 hw)) Via.refl f2 f3 (Or.inl (wd_158 hw)) (wd_52 hw) (ty := .int) (by decide) rfl rfl gn (fun T h3 X W3 => ?_)
  have f4 := f2.same W3
  have K5 : Keep h0 h3 [nm, en] := K1.wr W3 (Or.inl (List.mem_of_getElem? (i := 0) rfl))
  have f6 := ((Ft.other W2 (Or.inl nme)).other W3 (Or.inr (slot_ne (Or.inr (wd_77 hw)) (Or.inl (wd_158 hw)) (by decide) (t := (.object "java/lang/StringBuilder")) (t' := .int) (by decide) (by decide))))
  have f7 := ((Fe.other W2 (Or.inl nme)).other W3 (Or.inr (slot_ne (Or.inl (wd_79 hw)) (Or.inl (wd_158 hw)) (by decide) (t := (.array .int)) (t' := .int) (by decide) (by decide))))
  have f8 := (A2.other W3 (Ne.symm nme))
  exact w_retV X q23_2_79 ⟨rfl, K5, f6, f7, f4, ⟨_, _, _, _, f8⟩⟩ (by decide) (by decide)
theorem m_vtx_0 {l : Launch} {Z : State} {a0 : Array Value} {n0 : Nat} (hw : own_hw a0 Z) {h0 : Heap} {a ids pr nm sb en ln se ss : Addr} {x0 x1 x2 x3 : Int32} {p1 p2 ns : Addr} {cN : Cell} {id0 line0 : Int32} (S_p2 : Sta Z Z.heap "com/example/flicker/flicker/game/Player" "TWO" "Lcom/example/flicker/flicker/game/Player;" (.ref p2)) (np : p1 ≠ p2) (A_ns : Arr Z Z.heap ns cN .int) (hns : cN.slots.size.toInt32 = 0) (hG : own_GB Z h0 n0 a ids pr nm sb en ln se ss (0 : Int32) x0 x1 x2 x3) :
    Does l Z n0 ⟨"com/example/flicker/flicker/game/GameBuilder", "vertex", "(ILcom/example/flicker/flicker/game/Player;ILjava/lang/CharSequence;[II)V"⟩ prog_7_method_2_code 8 none [] { frames := 3, cells := 0, slots := 0, locals := 39 } #[(.ref a), (.int id0), (.ref p1), (.int (0 : Int32)), .null, (.ref ns), (.int line0)] h0 (fun v h => v = none ∧ Keep h0 h [a, nm, ids, pr, ln, se, en] ∧ own_GB Z h n0 a ids pr nm sb en ln se ss (1 : Int32) id0 x1 x2 x3) := by
  refine Does.start (plainFor_of_name pn_5) ?_
  intro p e s m below meth c T X
  replace X : Sd _ _ _ _ _ "com/example/flicker/flicker/game/GameBuilder" "vertex" _ _ _ _ _ _ _ _ _ _ _ _ _ _ _ _ := X
  refine Wp.cast (g' := mkF m 0 #[.val (.ref a), .val (.int id0), .val (.ref p1), .val (.int (0 : Int32)), .val .null, .val (.ref ns), .val (.int line0), .unset] []) (by first | (simp [entryFrame, mkF, argsToLocals, Value.category, maxLocals]; done) | rfl) ?_
  obtain ⟨ga, o0, o1, o2, o3, o4, o5, o6, o7, Ea, F_ids, F_priorities, F_names, F_vertexLines, F_setEnd, F_sets, F_vc, F_sl, Fb, En, Ft, Fe, Fc, Es, Fs, Ai, Ip, Ie, Il, Is, It⟩ := hG
  obtain ⟨pr0, pr1, pr2, pr3, A_pr⟩ := Ip
  obtain ⟨en0, en1, en2, en3, A_en⟩ := Ie
  obtain ⟨ln0, ln1, ln2, ln3, A_ln⟩ := Il
  obtain ⟨se0, se1, se2, se3, A_se⟩ := Is
  obtain ⟨ss0, ss1, ss2, ss3, A_ss⟩ := It
  refine w_aloadN X q7_2_0 rfl (rfl) ?_
  refine w_getF X q7_2_1 (host := "") (Or.inl (wd_111 hw)) Via.refl F_vc (fun T X => ?_)
  refine w_aloadN X q7_2_4 rfl (rfl) ?_
  refine w_getF X q7_2_5 (host := "") (Or.inl (wd_23 hw)) Via.refl F_ids (fun T X => ?_)
  refine w_arrlen X (64 : Int32) q7_2_8 Ai rfl ?_
  refine w_icmpne X q7_2_9 (fun _ => ?_) (fun hc => absurd hc (by decide))
  refine w_aloadN X q7_2_72 rfl (rfl) ?_
  refine w_getF X q7_2_73 (host := "") (Or.inl (wd_90 hw)) Via.refl F_sets (fun T X => ?_)
  refine w_arrlen X (64 : Int32) q7_2_76 A_ss rfl ?_
  refine w_aloadN X q7_2_77 rfl (rfl) ?_
  refine w_getF X q7_2_78 (host := "") (Or.inl (wd_148 hw)) Via.refl F_sl (fun T X => ?_)
  refine w_isub X q7_2_81 ?_
  refine w_aload X q7_2_82 rfl (rfl) ?_
  refine w_arrlenC X (0 : Int32) q7_2_84 (A_ns.ext X.old.2) hns ?_
  refine w_icmpge X q7_2_85 (fun _ => ?_) (fun hc => absurd hc (by decide))
  refine w_aloadN X q7_2_109 rfl (rfl) ?_
  refine w_getF X q7_2_110 (host := "") (Or.inl (wd_23 hw)) Via.refl F_ids (fun T X => ?_)
  refine w_aloadN X q7_2_113 rfl (rfl) ?_
  refine w_getF X q7_2_114 (host := "") (Or.inl (wd_111 hw)) Via.refl F_vc (fun T X => ?_)
  refine w_iloadN X q7_2_117 rfl ?_
  refine w_iastore X q7_2_118 Ai (by decide) rfl (Nat.le_trans ga (Nat.le_of_lt o0)) (.int id0) rfl ((.int id0) :: (.int x1) :: (.int x2) :: (.int x3) :: own_z60) rfl (fun T h1 X W1 A1 => ?_)
  have K1 : Keep h0 h1 [a, nm, ids, pr, ln, se, en] := (Keep.refl h0 [a, nm, ids, pr, ln, se, en]).wr W1 (Or.inl (List.mem_of_getElem? (i := 2) rfl))
  refine w_aloadN X q7_2_119 rfl (rfl) ?_
  have f2 := (F_priorities.other W1 (Or.inl (Nat.ne_of_lt o0)))
  refine w_getF X q7_2_120 (host := "") (Or.inl (wd_25 hw)) Via.refl f2 (fun T X => ?_)
  refine w_aloadN X q7_2_123 rfl (rfl) ?_
  have f3 := (F_vc.other W1 (Or.inl (Nat.ne_of_lt o0)))
  refine w_getF X q7_2_124 (host := "") (Or.inl (wd_111 hw)) Via.refl f3 (fun T X => ?_)
  refine w_iloadN X q7_2_127 rfl ?_
  have f4 := (A_pr.other W1 (Ne.symm (Nat.ne_of_lt o1)))
  refine w_iastore X q7_2_128 f4 (by decide) rfl (Nat.le_trans ga (Nat.le_of_lt (Nat.lt_trans o0 o1))) (.int (0 : Int32)) rfl ((.int (0 : Int32)) :: (.int pr1) :: (.int pr2) :: (.int pr3) :: own_z60) rfl (fun T h2 X W2 A2 => ?_)
  have K5 : Keep h0 h2 [a, nm, ids, pr, ln, se, en] := K1.wr W2 (Or.inl (List.mem_of_getElem? (i := 3) rfl))
  refine w_aloadN X q7_2_129 rfl (rfl) ?_
  refine w_getS X q7_2_130 (host := "") (Or.inl (wd_150 hw)) Via.refl (S_p2.ext X.old.2) (fun T X => ?_)
  refine w_acmpne X (rfl) (rfl) q7_2_133 (fun _ => ?_) (fun hc => absurd hc (fun q => np (Value.ref.inj q)))
  refine w_aloadN X q7_2_147 rfl (rfl) ?_
  have f6 := ((F_names.other W1 (Or.inl (Nat.ne_of_lt o0))).other W2 (Or.inl (Nat.ne_of_lt (Nat.lt_trans o0 o1))))
  refine w_getF X q7_2_148 (host := "") (Or.inl (wd_84 hw)) Via.refl f6 (fun T X => ?_)
  refine w_aload X q7_2_151 rfl (rfl) ?_
  have f7 := ((En.wr W1).wr W2)
  have f8 := ((Ft.other W1 (Or.inl (Ne.symm (Nat.ne_of_lt (Nat.lt_trans o1 o2))))).other W2 (Or.inl (Ne.symm (Nat.ne_of_lt o2))))
  have f9 := ((Fe.other W1 (Or.inl (Ne.symm (Nat.ne_of_lt (Nat.lt_trans o1 o2))))).other W2 (Or.inl (Ne.symm (Nat.ne_of_lt o2))))
  have f10 := ((Fc.other W1 (Or.inl (Ne.symm (Nat.ne_of_lt (Nat.lt_trans o1 o2))))).other W2 (Or.inl (Ne.symm (Nat.ne_of_lt o2))))
  have f11 := ((Es.wr W1).wr W2)
  have f12 := ((Fs.other W1 (Or.inl (Ne.symm (Nat.ne_of_lt (Nat.lt_trans (Nat.lt_trans o1 o2) o3))))).other W2 (Or.inl (Ne.symm (Nat.ne_of_lt (Nat.lt_trans o2 o3)))))
  have f13 := ((A_en.other W1 (Ne.symm (Nat.ne_of_lt (Nat.lt_trans (Nat.lt_trans (Nat.lt_trans o1 o2) o3) o4)))).other W2 (Ne.symm (Nat.ne_of_lt (Nat.lt_trans (Nat.lt_trans o2 o3) o4))))
  refine w_callV X q7_2_153 (wd_152 hw) (wd_153 hw) (notFace_of_selects (args := #[]) (mvT X.hZ (wd_155 hw))) (wd_155 hw) (wd_154 hw) (wd_53 hw) (wd_156 hw) (by decide) f7 (argsL := [.null]) (S := []) (m_add_0 hw (Nat.le_trans ga (Nat.le_of_lt (Nat.lt_trans (Nat.lt_trans o0 o1) o2))) (Nat.le_trans ga (Nat.le_of_lt (Nat.lt_trans (Nat.lt_trans (Nat.lt_trans (Nat.lt_trans o0 o1) o2) o3) o4))) (Nat.ne_of_lt o4) (Nat.ne_of_lt (Nat.lt_trans o3 o4)) (Nat.ne_of_lt o3) f7 f8 f9 f10 f11 f12 f13) pd_4 rfl rfl rfl (by decide) (Nat.le_of_ble_eq_true rfl) (by decide) (by decide) (fun T h3 v3 L3 X q3 => ?_)
  obtain ⟨rfl, Kc3, Ft3, Fe3, Fc3, Ie3⟩ := q3
  have K14 : Keep h0 h3 [a, nm, ids, pr, ln, se, en] := K5.trans Kc3 (fun x hx => by simp only [List.mem_cons, List.not_mem_nil, or_false] at hx; rcases hx with rfl | rfl <;> first | exact (Or.inl (List.mem_of_getElem? (i := 1) rfl)) | exact (Or.inl (List.mem_of_getElem? (i := 6) rfl)))
  obtain ⟨en0, en1, en2, en3, A3⟩ := Ie3
  show Wp _ _ _ _ (T.setTop (mkF _ _ _ []))
  refine w_aloadN X q7_2_156 rfl (rfl) ?_
  have f15 := (((F_vertexLines.other W1 (Or.inl (Nat.ne_of_lt o0))).other W2 (Or.inl (Nat.ne_of_lt (Nat.lt_trans o0 o1)))).keep Kc3 (by simp only [List.mem_cons, List.not_mem_nil, or_false, not_or]; exact ⟨(Nat.ne_of_lt (Nat.lt_trans (Nat.lt_trans o0 o1) o2)), (Nat.ne_of_lt (Nat.lt_trans (Nat.lt_trans (Nat.lt_trans (Nat.lt_trans o0 o1) o2) o3) o4))⟩))
  refine w_getF X q7_2_157 (host := "") (Or.inl (wd_86 hw)) Via.refl f15 (fun T X => ?_)
  refine w_aloadN X q7_2_160 rfl (rfl) ?_
  have f16 := ((f3.other W2 (Or.inl (Nat.ne_of_lt (Nat.lt_trans o0 o1)))).keep Kc3 (by simp only [List.mem_cons, List.not_mem_nil, or_false, not_or]; exact ⟨(Nat.ne_of_lt (Nat.lt_trans (Nat.lt_trans o0 o1) o2)), (Nat.ne_of_lt (Nat.lt_trans (Nat.lt_trans (Nat.lt_trans (Nat.lt_trans o0 o1) o2) o3) o4))⟩))
  refine w_getF X q7_2_161 (host := "") (Or.inl (wd_111 hw)) Via.refl f16 (fun T X => ?_)
  refine w_iload X q7_2_164 rfl ?_
  have f17 := (((A_ln.other W1 (Ne.symm (Nat.ne_of_lt (Nat.lt_trans (Nat.lt_trans (Nat.lt_trans (Nat.lt_trans o1 o2) o3) o4) o5)))).other W2 (Ne.symm (Nat.ne_of_lt (Nat.lt_trans (Nat.lt_trans (Nat.lt_trans o2 o3) o4) o5)))).keep Kc3 (by simp only [List.mem_cons, List.not_mem_nil, or_false, not_or]; exact ⟨(Ne.symm (Nat.ne_of_lt (Nat.lt_trans (Nat.lt_trans o3 o4) o5))), (Ne.symm (Nat.ne_of_lt o5))⟩))
  refine w_iastore X q7_2_166 f17 (by decide) rfl (Nat.le_trans ga (Nat.le_of_lt (Nat.lt_trans (Nat.lt_trans (Nat.lt_trans (Nat.lt_trans (Nat.lt_trans o0 o1) o2) o3) o4) o5))) (.int line0) rfl ((.int line0) :: (.int ln1) :: (.int ln2) :: (.int ln3) :: own_z60) rfl (fun T h4 X W4 A4 => ?_)
  have K18 : Keep h0 h4 [a, nm, ids, pr, ln, se, en] := K14.wr W4 (Or.inl (List.mem_of_getElem? (i := 4) rfl))
  refine w_aload X q7_2_167 rfl (rfl) ?_
  refine w_iconst X (0 : Int32) q7_2_169 rfl ?_
  refine w_aloadN X q7_2_170 rfl (rfl) ?_
  have f19 := ((((F_sets.other W1 (Or.inl (Nat.ne_of_lt o0))).other W2 (Or.inl (Nat.ne_of_lt (Nat.lt_trans o0 o1)))).keep Kc3 (by simp only [List.mem_cons, List.not_mem_nil, or_false, not_or]; exact ⟨(Nat.ne_of_lt (Nat.lt_trans (Nat.lt_trans o0 o1) o2)), (Nat.ne_of_lt (Nat.lt_trans (Nat.lt_trans (Nat.lt_trans (Nat.lt_trans o0 o1) o2) o3) o4))⟩)).other W4 (Or.inl (Nat.ne_of_lt (Nat.lt_trans (Nat.lt_trans (Nat.lt_trans (Nat.lt_trans (Nat.lt_trans o0 o1) o2) o3) o4) o5))))
  refine w_getF X q7_2_171 (host := "") (Or.inl (wd_90 hw)) Via.refl f19 (fun T X => ?_)
  refine w_aloadN X q7_2_174 rfl (rfl) ?_
  have f20 := ((((F_sl.other W1 (Or.inl (Nat.ne_of_lt o0))).other W2 (Or.inl (Nat.ne_of_lt (Nat.lt_trans o0 o1)))).keep Kc3 (by simp only [List.mem_cons, List.not_mem_nil, or_false, not_or]; exact ⟨(Nat.ne_of_lt (Nat.lt_trans (Nat.lt_trans o0 o1) o2)), (Nat.ne_of_lt (Nat.lt_trans (Nat.lt_trans (Nat.lt_trans (Nat.lt_trans o0 o1) o2) o3) o4))⟩)).other W4 (Or.inl (Nat.ne_of_lt (Nat.lt_trans (Nat.lt_trans (Nat.lt_trans (Nat.lt_trans (Nat.lt_trans o0 o1) o2) o3) o4) o5))))
  refine w_getF X q7_2_175 (host := "") (Or.inl (wd_148 hw)) Via.refl f20 (fun T X => ?_)
  refine w_aload X q7_2_178 rfl (rfl) ?_
  refine w_arrlenC X (0 : Int32) q7_2_180 (A_ns.ext X.old.2) hns ?_
  have f21 := ((((A_ss.other W1 (Ne.symm (Nat.ne_of_lt (Nat.lt_trans (Nat.lt_trans (Nat.lt_trans (Nat.lt_trans (Nat.lt_trans (Nat.lt_trans o1 o2) o3) o4) o5) o6) o7)))).other W2 (Ne.symm (Nat.ne_of_lt (Nat.lt_trans (Nat.lt_trans (Nat.lt_trans (Nat.lt_trans (Nat.lt_trans o2 o3) o4) o5) o6) o7)))).keep Kc3 (by simp only [List.mem_cons, List.not_mem_nil, or_false, not_or]; exact ⟨(Ne.symm (Nat.ne_of_lt (Nat.lt_trans (Nat.lt_trans (Nat.lt_trans (Nat.lt_trans o3 o4) o5) o6) o7))), (Ne.symm (Nat.ne_of_lt (Nat.lt_trans (Nat.lt_trans o5 o6) o7)))⟩)).other W4 (Ne.symm (Nat.ne_of_lt (Nat.lt_trans o6 o7))))
  obtain ⟨c22, Ac22, -⟩ := id f21
  refine w_cp0 X q7_2_181 (wd_171 hw) (wd_174 hw) (wd_172 hw) (wd_173 hw) (A_ns.ext X.old.2) Ac22 (by decide) (by show (0 : Int) ≤ _; omega) rfl (by decide) (Nat.le_of_ble_eq_true rfl) (fun T X => ?_)
  show Wp _ _ _ _ (T.setTop (mkF _ _ _ []))
  refine w_aloadN X q7_2_184 rfl (rfl) ?_
  refine w_dup X q7_2_185 rfl ?_
  refine w_getF X q7_2_186 (host := "") (Or.inl (wd_148 hw)) Via.refl f20 (fun T X => ?_)
  refine w_aload X q7_2_189 rfl (rfl) ?_
  refine w_arrlenC X (0 : Int32) q7_2_191 (A_ns.ext X.old.2) hns ?_
  refine w_iadd X q7_2_192 ?_
  have f23 := ((((Ea.wr W1).wr W2).keep Kc3).wr W4)
  refine w_putF X q7_2_193 (host := "") (Or.inl (wd_148 hw)) Via.refl f20 f23 (Or.inl (wd_149 hw)) (wd_7 hw) (ty := .int) (by decide) rfl rfl ga (fun T h5 X W5 => ?_)
  have f24 := f20.same W5
  have K25 : Keep h0 h5 [a, nm, ids, pr, ln, se, en] := K18.wr W5 (Or.inl (List.mem_of_getElem? (i := 0) rfl))
  refine w_aloadN X q7_2_196 rfl (rfl) ?_
  have f26 := (((((F_setEnd.other W1 (Or.inl (Nat.ne_of_lt o0))).other W2 (Or.inl (Nat.ne_of_lt (Nat.lt_trans o0 o1)))).keep Kc3 (by simp only [List.mem_cons, List.not_mem_nil, or_false, not_or]; exact ⟨(Nat.ne_of_lt (Nat.lt_trans (Nat.lt_trans o0 o1) o2)), (Nat.ne_of_lt (Nat.lt_trans (Nat.lt_trans (Nat.lt_trans (Nat.lt_trans o0 o1) o2) o3) o4))⟩)).other W4 (Or.inl (Nat.ne_of_lt (Nat.lt_trans (Nat.lt_trans (Nat.lt_trans (Nat.lt_trans (Nat.lt_trans o0 o1) o2) o3) o4) o5)))).other W5 (Or.inr (slot_ne (Or.inl (wd_89 hw)) (Or.inl (wd_149 hw)) (by decide) (t := (.array .int)) (t' := .int) (by decide) (by decide))))
  refine w_getF X q7_2_197 (host := "") (Or.inl (wd_88 hw)) Via.refl f26 (fun T X => ?_)
  refine w_aloadN X q7_2_200 rfl (rfl) ?_
  have f27 := ((f16.other W4 (Or.inl (Nat.ne_of_lt (Nat.lt_trans (Nat.lt_trans (Nat.lt_trans (Nat.lt_trans (Nat.lt_trans o0 o1) o2) o3) o4) o5)))).other W5 (Or.inr (slot_ne (Or.inl (wd_112 hw)) (Or.inl (wd_149 hw)) (by decide) (t := .int) (t' := .int) (by decide) (by decide))))
  refine w_getF X q7_2_201 (host := "") (Or.inl (wd_111 hw)) Via.refl f27 (fun T X => ?_)
  refine w_aloadN X q7_2_204 rfl (rfl) ?_
  refine w_getF X q7_2_205 (host := "") (Or.inl (wd_148 hw)) Via.refl f24 (fun T X => ?_)
  have f28 := (((((A_se.other W1 (Ne.symm (Nat.ne_of_lt (Nat.lt_trans (Nat.lt_trans (Nat.lt_trans (Nat.lt_trans (Nat.lt_trans o1 o2) o3) o4) o5) o6)))).other W2 (Ne.symm (Nat.ne_of_lt (Nat.lt_trans (Nat.lt_trans (Nat.lt_trans (Nat.lt_trans o2 o3) o4) o5) o6)))).keep Kc3 (by simp only [List.mem_cons, List.not_mem_nil, or_false, not_or]; exact ⟨(Ne.symm (Nat.ne_of_lt (Nat.lt_trans (Nat.lt_trans (Nat.lt_trans o3 o4) o5) o6))), (Ne.symm (Nat.ne_of_lt (Nat.lt_trans o5 o6)))⟩)).other W4 (Ne.symm (Nat.ne_of_lt o6))).other W5 (Ne.symm (Nat.ne_of_lt (Nat.lt_trans (Nat.lt_trans (Nat.lt_trans (Nat.lt_trans (Nat.lt_trans (Nat.lt_trans o0 o1) o2) o3) o4) o5) o6))))
  refine w_iastore X q7_2_208 f28 (by decide) rfl (Nat.le_trans ga (Nat.le_of_lt (Nat.lt_trans (Nat.lt_trans (Nat.lt_trans (Nat.lt_trans (Nat.lt_trans (Nat.lt_trans o0 o1) o2) o3) o4) o5) o6))) (.int (0 : Int32)) rfl ((.int (0 : Int32)) :: (.int se1) :: (.int se2) :: (.int se3) :: own_z60) rfl (fun T h6 X W6 A6 => ?_)
  have K29 : Keep h0 h6 [a, nm, ids, pr, ln, se, en] := K25.wr W6 (Or.inl (List.mem_of_getElem? (i := 5) rfl))
  refine w_aloadN X q7_2_209 rfl (rfl) ?_
  refine w_dup X q7_2_210 rfl ?_
  have f30 := (f27.other W6 (Or.inl (Nat.ne_of_lt (Nat.lt_trans (Nat.lt_trans (Nat.lt_trans (Nat.lt_trans (Nat.lt_trans (Nat.lt_trans o0 o1) o2) o3) o4) o5) o6))))
  refine w_getF X q7_2_211 (host := "") (Or.inl (wd_111 hw)) Via.refl f30 (fun T X => ?_)
  refine w_iconst X (1 : Int32) q7_2_214 rfl ?_
  refine w_iadd X q7_2_215 ?_
  have f31 := ((f23.wr W5).wr W6)
  refine w_putF X q7_2_216 (host := "") (Or.inl (wd_111 hw)) Via.refl f30 f31 (Or.inl (wd_112 hw)) (wd_7 hw) (ty := .int) (by decide) rfl rfl ga (fun T h7 X W7 => ?_)
  have f32 := f30.same W7
  have K33 : Keep h0 h7 [a, nm, ids, pr, ln, se, en] := K29.wr W7 (Or.inl (List.mem_of_getElem? (i := 0) rfl))
  have f34 := (f31.wr W7)
  have f35 := (((((((F_ids.other W1 (Or.inl (Nat.ne_of_lt o0))).other W2 (Or.inl (Nat.ne_of_lt (Nat.lt_trans o0 o1)))).keep Kc3 (by simp only [List.mem_cons, List.not_mem_nil, or_false, not_or]; exact ⟨(Nat.ne_of_lt (Nat.lt_trans (Nat.lt_trans o0 o1) o2)), (Nat.ne_of_lt (Nat.lt_trans (Nat.lt_trans (Nat.lt_trans (Nat.lt_trans o0 o1) o2) o3) o4))⟩)).other W4 (Or.inl (Nat.ne_of_lt (Nat.lt_trans (Nat.lt_trans (Nat.lt_trans (Nat.lt_trans (Nat.lt_trans o0 o1) o2) o3) o4) o5)))).other W5 (Or.inr (slot_ne (Or.inl (wd_24 hw)) (Or.inl (wd_149 hw)) (by decide) (t := (.array .int)) (t' := .int) (by decide) (by decide)))).other W6 (Or.inl (Nat.ne_of_lt (Nat.lt_trans (Nat.lt_trans (Nat.lt_trans (Nat.lt_trans (Nat.lt_trans (Nat.lt_trans o0 o1) o2) o3) o4) o5) o6)))).other W7 (Or.inr (slot_ne (Or.inl (wd_24 hw)) (Or.inl (wd_112 hw)) (by decide) (t := (.array .int)) (t' := .int) (by decide) (by decide))))
  have f36 := ((((((f2.other W2 (Or.inl (Nat.ne_of_lt (Nat.lt_trans o0 o1)))).keep Kc3 (by simp only [List.mem_cons, List.not_mem_nil, or_false, not_or]; exact ⟨(Nat.ne_of_lt (Nat.lt_trans (Nat.lt_trans o0 o1) o2)), (Nat.ne_of_lt (Nat.lt_trans (Nat.lt_trans (Nat.lt_trans (Nat.lt_trans o0 o1) o2) o3) o4))⟩)).other W4 (Or.inl (Nat.ne_of_lt (Nat.lt_trans (Nat.lt_trans (Nat.lt_trans (Nat.lt_trans (Nat.lt_trans o0 o1) o2) o3) o4) o5)))).other W5 (Or.inr (slot_ne (Or.inl (wd_26 hw)) (Or.inl (wd_149 hw)) (by decide) (t := (.array .int)) (t' := .int) (by decide) (by decide)))).other W6 (Or.inl (Nat.ne_of_lt (Nat.lt_trans (Nat.lt_trans (Nat.lt_trans (Nat.lt_trans (Nat.lt_trans (Nat.lt_trans o0 o1) o2) o3) o4) o5) o6)))).other W7 (Or.inr (slot_ne (Or.inl (wd_26 hw)) (Or.inl (wd_112 hw)) (by decide) (t := (.array .int)) (t' := .int) (by decide) (by decide))))
  have f37 := (((((f6.keep Kc3 (by simp only [List.mem_cons, List.not_mem_nil, or_false, not_or]; exact ⟨(Nat.ne_of_lt (Nat.lt_trans (Nat.lt_trans o0 o1) o2)), (Nat.ne_of_lt (Nat.lt_trans (Nat.lt_trans (Nat.lt_trans (Nat.lt_trans o0 o1) o2) o3) o4))⟩)).other W4 (Or.inl (Nat.ne_of_lt (Nat.lt_trans (Nat.lt_trans (Nat.lt_trans (Nat.lt_trans (Nat.lt_trans o0 o1) o2) o3) o4) o5)))).other W5 (Or.inr (slot_ne (Or.inr (wd_85 hw)) (Or.inl (wd_149 hw)) (by decide) (t := (.object "com/example/flicker/flicker/game/VertexNames")) (t' := .int) (by decide) (by decide)))).other W6 (Or.inl (Nat.ne_of_lt (Nat.lt_trans (Nat.lt_trans (Nat.lt_trans (Nat.lt_trans (Nat.lt_trans (Nat.lt_trans o0 o1) o2) o3) o4) o5) o6)))).other W7 (Or.inr (slot_ne (Or.inr (wd_85 hw)) (Or.inl (wd_112 hw)) (by decide) (t := (.object "com/example/flicker/flicker/game/VertexNames")) (t' := .int) (by decide) (by decide))))
  have f38 := ((((f15.other W4 (Or.inl (Nat.ne_of_lt (Nat.lt_trans (Nat.lt_trans (Nat.lt_trans (Nat.lt_trans (Nat.lt_trans o0 o1) o2) o3) o4) o5)))).other W5 (Or.inr (slot_ne (Or.inl (wd_87 hw)) (Or.inl (wd_149 hw)) (by decide) (t := (.array .int)) (t' := .int) (by decide) (by decide)))).other W6 (Or.inl (Nat.ne_of_lt (Nat.lt_trans (Nat.lt_trans (Nat.lt_trans (Nat.lt_trans (Nat.lt_trans (Nat.lt_trans o0 o1) o2) o3) o4) o5) o6)))).other W7 (Or.inr (slot_ne (Or.inl (wd_87 hw)) (Or.inl (wd_112 hw)) (by decide) (t := (.array .int)) (t' := .int) (by decide) (by decide))))
  have f39 := ((f26.other W6 (Or.inl (Nat.ne_of_lt (Nat.lt_trans (Nat.lt_trans (Nat.lt_trans (Nat.lt_trans (Nat.lt_trans (Nat.lt_trans o0 o1) o2) o3) o4) o5) o6)))).other W7 (Or.inr (slot_ne (Or.inl (wd_89 hw)) (Or.inl (wd_112 hw)) (by decide) (t := (.array .int)) (t' := .int) (by decide) (by decide))))
  have f40 := (((f19.other W5 (Or.inr (slot_ne (Or.inl (wd_91 hw)) (Or.inl (wd_149 hw)) (by decide) (t := (.array .int)) (t' := .int) (by decide) (by decide)))).other W6 (Or.inl (Nat.ne_of_lt (Nat.lt_trans (Nat.lt_trans (Nat.lt_trans (Nat.lt_trans (Nat.lt_trans (Nat.lt_trans o0 o1) o2) o3) o4) o5) o6)))).other W7 (Or.inr (slot_ne (Or.inl (wd_91 hw)) (Or.inl (wd_112 hw)) (by decide) (t := (.array .int)) (t' := .int) (by decide) (by decide))))
  have f41 := ((f24.other W6 (Or.inl (Nat.ne_of_lt (Nat.lt_trans (Nat.lt_trans (Nat.lt_trans (Nat.lt_trans (Nat.lt_trans (Nat.lt_trans o0 o1) o2) o3) o4) o5) o6)))).other W7 (Or.inr (slot_ne (Or.inl (wd_149 hw)) (Or.inl (wd_112 hw)) (by decide) (t := .int) (t' := .int) (by decide) (by decide))))
  have f42 := (((((((Fb.other W1 (Or.inl (Nat.ne_of_lt o0))).other W2 (Or.inl (Nat.ne_of_lt (Nat.lt_trans o0 o1)))).keep Kc3 (by simp only [List.mem_cons, List.not_mem_nil, or_false, not_or]; exact ⟨(Nat.ne_of_lt (Nat.lt_trans (Nat.lt_trans o0 o1) o2)), (Nat.ne_of_lt (Nat.lt_trans (Nat.lt_trans (Nat.lt_trans (Nat.lt_trans o0 o1) o2) o3) o4))⟩)).other W4 (Or.inl (Nat.ne_of_lt (Nat.lt_trans (Nat.lt_trans (Nat.lt_trans (Nat.lt_trans (Nat.lt_trans o0 o1) o2) o3) o4) o5)))).other W5 (Or.inr (slot_ne (Or.inl (wd_114 hw)) (Or.inl (wd_149 hw)) (by decide) (t := (.array .long)) (t' := .int) (by decide) (by decide)))).other W6 (Or.inl (Nat.ne_of_lt (Nat.lt_trans (Nat.lt_trans (Nat.lt_trans (Nat.lt_trans (Nat.lt_trans (Nat.lt_trans o0 o1) o2) o3) o4) o5) o6)))).other W7 (Or.inr (slot_ne (Or.inl (wd_114 hw)) (Or.inl (wd_112 hw)) (by decide) (t := (.array .long)) (t' := .int) (by decide) (by decide))))
  have f43 := (((((f7.keep Kc3).wr W4).wr W5).wr W6).wr W7)
  have f44 := ((((Ft3.other W4 (Or.inl (Nat.ne_of_lt (Nat.lt_trans (Nat.lt_trans o3 o4) o5)))).other W5 (Or.inl (Ne.symm (Nat.ne_of_lt (Nat.lt_trans (Nat.lt_trans o0 o1) o2))))).other W6 (Or.inl (Nat.ne_of_lt (Nat.lt_trans (Nat.lt_trans (Nat.lt_trans o3 o4) o5) o6)))).other W7 (Or.inl (Ne.symm (Nat.ne_of_lt (Nat.lt_trans (Nat.lt_trans o0 o1) o2)))))
  have f45 := ((((Fe3.other W4 (Or.inl (Nat.ne_of_lt (Nat.lt_trans (Nat.lt_trans o3 o4) o5)))).other W5 (Or.inl (Ne.symm (Nat.ne_of_lt (Nat.lt_trans (Nat.lt_trans o0 o1) o2))))).other W6 (Or.inl (Nat.ne_of_lt (Nat.lt_trans (Nat.lt_trans (Nat.lt_trans o3 o4) o5) o6)))).other W7 (Or.inl (Ne.symm (Nat.ne_of_lt (Nat.lt_trans (Nat.lt_trans o0 o1) o2)))))
  have f46 := ((((Fc3.other W4 (Or.inl (Nat.ne_of_lt (Nat.lt_trans (Nat.lt_trans o3 o4) o5)))).other W5 (Or.inl (Ne.symm (Nat.ne_of_lt (Nat.lt_trans (Nat.lt_trans o0 o1) o2))))).other W6 (Or.inl (Nat.ne_of_lt (Nat.lt_trans (Nat.lt_trans (Nat.lt_trans o3 o4) o5) o6)))).other W7 (Or.inl (Ne.symm (Nat.ne_of_lt (Nat.lt_trans (Nat.lt_trans o0 o1) o2)))))
  have f47 := (((((f11.keep Kc3).wr W4).wr W5).wr W6).wr W7)
  have f48 := (((((f12.keep Kc3 (by simp only [List.mem_cons, List.not_mem_nil, or_false, not_or]; exact ⟨(Ne.symm (Nat.ne_of_lt o3)), (Nat.ne_of_lt o4)⟩)).other W4 (Or.inl (Nat.ne_of_lt (Nat.lt_trans o4 o5)))).other W5 (Or.inl (Ne.symm (Nat.ne_of_lt (Nat.lt_trans (Nat.lt_trans (Nat.lt_trans o0 o1) o2) o3))))).other W6 (Or.inl (Nat.ne_of_lt (Nat.lt_trans (Nat.lt_trans o4 o5) o6)))).other W7 (Or.inl (Ne.symm (Nat.ne_of_lt (Nat.lt_trans (Nat.lt_trans (Nat.lt_trans o0 o1) o2) o3)))))
  have f49 := ((((((A1.other W2 (Nat.ne_of_lt o1)).keep Kc3 (by simp only [List.mem_cons, List.not_mem_nil, or_false, not_or]; exact ⟨(Nat.ne_of_lt (Nat.lt_trans o1 o2)), (Nat.ne_of_lt (Nat.lt_trans (Nat.lt_trans (Nat.lt_trans o1 o2) o3) o4))⟩)).other W4 (Nat.ne_of_lt (Nat.lt_trans (Nat.lt_trans (Nat.lt_trans (Nat.lt_trans o1 o2) o3) o4) o5))).other W5 (Ne.symm (Nat.ne_of_lt o0))).other W6 (Nat.ne_of_lt (Nat.lt_trans (Nat.lt_trans (Nat.lt_trans (Nat.lt_trans (Nat.lt_trans o1 o2) o3) o4) o5) o6))).other W7 (Ne.symm (Nat.ne_of_lt o0)))
  have f50 := (((((A2.keep Kc3 (by simp only [List.mem_cons, List.not_mem_nil, or_false, not_or]; exact ⟨(Nat.ne_of_lt o2), (Nat.ne_of_lt (Nat.lt_trans (Nat.lt_trans o2 o3) o4))⟩)).other W4 (Nat.ne_of_lt (Nat.lt_trans (Nat.lt_trans (Nat.lt_trans o2 o3) o4) o5))).other W5 (Ne.symm (Nat.ne_of_lt (Nat.lt_trans o0 o1)))).other W6 (Nat.ne_of_lt (Nat.lt_trans (Nat.lt_trans (Nat.lt_trans (Nat.lt_trans o2 o3) o4) o5) o6))).other W7 (Ne.symm (Nat.ne_of_lt (Nat.lt_trans o0 o1))))
  have f51 := ((((A3.other W4 (Nat.ne_of_lt o5)).other W5 (Ne.symm (Nat.ne_of_lt (Nat.lt_trans (Nat.lt_trans (Nat.lt_trans (Nat.lt_trans o0 o1) o2) o3) o4)))).other W6 (Nat.ne_of_lt (Nat.lt_trans o5 o6))).other W7 (Ne.symm (Nat.ne_of_lt (Nat.lt_trans (Nat.lt_trans (Nat.lt_trans (Nat.lt_trans o0 o1) o2) o3) o4))))
  have f52 := (((A4.other W5 (Ne.symm (Nat.ne_of_lt (Nat.lt_trans (Nat.lt_trans (Nat.lt_trans (Nat.lt_trans (Nat.lt_trans o0 o1) o2) o3) o4) o5)))).other W6 (Nat.ne_of_lt o6)).other W7 (Ne.symm (Nat.ne_of_lt (Nat.lt_trans (Nat.lt_trans (Nat.lt_trans (Nat.lt_trans (Nat.lt_trans o0 o1) o2) o3) o4) o5))))
  have f53 := (A6.other W7 (Ne.symm (Nat.ne_of_lt (Nat.lt_trans (Nat.lt_trans (Nat.lt_trans (Nat.lt_trans (Nat.lt_trans (Nat.lt_trans o0 o1) o2) o3) o4) o5) o6))))
  have f54 := (((f21.other W5 (Ne.symm (Nat.ne_of_lt (Nat.lt_trans (Nat.lt_trans (Nat.lt_trans (Nat.lt_trans (Nat.lt_trans (Nat.lt_trans (Nat.lt_trans o0 o1) o2) o3) o4) o5) o6) o7)))).other W6 (Ne.symm (Nat.ne_of_lt o7))).other W7 (Ne.symm (Nat.ne_of_lt (Nat.lt_trans (Nat.lt_trans (Nat.lt_trans (Nat.lt_trans (Nat.lt_trans (Nat.lt_trans (Nat.lt_trans o0 o1) o2) o3) o4) o5) o6) o7))))
  exact w_retV X q7_2_219 ⟨rfl, K33, ga, o0, o1, o2, o3, o4, o5, o6, o7, f34, f35, f36, f37, f38, f39, f40, f32, f41, f42, f43, f44, f45, f46, f47, f48, f49, ⟨_, _, _, _, f50⟩, ⟨_, _, _, _, f51⟩, ⟨_, _, _, _, f52⟩, ⟨_, _, _, _, f53⟩, ⟨_, _, _, _, f54⟩⟩ (by decide) (by decide)
theorem m_vtx_1 {l : Launch} {Z : State} {a0 : Array Value} {n0 : Nat} (hw : own_hw a0 Z) {h0 : Heap} {a ids pr nm sb en ln se ss : Addr} {x0 x1 x2 x3 : Int32} {p1 p2 ns : Addr} {cN : Cell} {id0 line0 : Int32} (S_p2 : Sta Z Z.heap "com/example/flicker/flicker/game/Player" "TWO" "Lcom/example/flicker/flicker/game/Player;" (.ref p2)) (np : p1 ≠ p2) (A_ns : Arr Z Z.heap ns cN .int) (hns : cN.slots.size.toInt32 = 0) (hG : own_GB Z h0 n0 a ids pr nm sb en ln se ss (1 : Int32) x0 x1 x2 x3) :
    Does l Z n0 ⟨"com/example/flicker/flicker/game/GameBuilder", "vertex", "(ILcom/example/flicker/flicker/game/Player;ILjava/lang/CharSequence;[II)V"⟩ prog_7_method_2_code 8 none [] { frames := 3, cells := 0, slots := 0, locals := 39 } #[(.ref a), (.int id0), (.ref p1), (.int (0 : Int32)), .null, (.ref ns), (.int line0)] h0 (fun v h => v = none ∧ Keep h0 h [a, nm, ids, pr, ln, se, en] ∧ own_GB Z h n0 a ids pr nm sb en ln se ss (2 : Int32) x0 id0 x2 x3) := by
  refine Does.start (plainFor_of_name pn_5) ?_
  intro p e s m below meth c T X
  replace X : Sd _ _ _ _ _ "com/example/flicker/flicker/game/GameBuilder" "vertex" _ _ _ _ _ _ _ _ _ _ _ _ _ _ _ _ := X
  refine Wp.cast (g' := mkF m 0 #[.val (.ref a), .val (.int id0), .val (.ref p1), .val (.int (0 : Int32)), .val .null, .val (.ref ns), .val (.int line0), .unset] []) (by first | (simp [entryFrame, mkF, argsToLocals, Value.category, maxLocals]; done) | rfl) ?_
  obtain ⟨ga, o0, o1, o2, o3, o4, o5, o6, o7, Ea, F_ids, F_priorities, F_names, F_vertexLines, F_setEnd, F_sets, F_vc, F_sl, Fb, En, Ft, Fe, Fc, Es, Fs, Ai, Ip, Ie, Il, Is, It⟩ := hG
  obtain ⟨pr0, pr1, pr2, pr3, A_pr⟩ := Ip
  obtain ⟨en0, en1, en2, en3, A_en⟩ := Ie
  obtain ⟨ln0, ln1, ln2, ln3, A_ln⟩ := Il
  obtain ⟨se0, se1, se2, se3, A_se⟩ := Is
  obtain ⟨ss0, ss1, ss2, ss3, A_ss⟩ := It
  refine w_aloadN X q7_2_0 rfl (rfl) ?_
  refine w_getF X q7_2_1 (host := "") (Or.inl (wd_111 hw)) Via.refl F_vc (fun T X => ?_)
  refine w_aloadN X q7_2_4 rfl (rfl) ?_
  refine w_getF X q7_2_5 (host := "") (Or.inl (wd_23 hw)) Via.refl F_ids (fun T X => ?_)
  refine w_arrlen X (64 : Int32) q7_2_8 Ai rfl ?_
  refine w_icmpne X q7_2_9 (fun _ => ?_) (fun hc => absurd hc (by decide))
  refine w_aloadN X q7_2_72 rfl (rfl) ?_
  refine w_getF X q7_2_73 (host := "") (Or.inl (wd_90 hw)) Via.refl F_sets (fun T X => ?_)
  refine w_arrlen X (64 : Int32) q7_2_76 A_ss rfl ?_
  refine w_aloadN X q7_2_77 rfl (rfl) ?_
  refine w_getF X q7_2_78 (host := "") (Or.inl (wd_148 hw)) Via.refl F_sl (fun T X => ?_)
  refine w_isub X q7_2_81 ?_
  refine w_aload X q7_2_82 rfl (rfl) ?_
  refine w_arrlenC X (0 : Int32) q7_2_84 (A_ns.ext X.old.2) hns ?_
  refine w_icmpge X q7_2_85 (fun _ => ?_) (fun hc => absurd hc (by decide))
  refine w_aloadN X q7_2_109 rfl (rfl) ?_
  refine w_getF X q7_2_110 (host := "") (Or.inl (wd_23 hw)) Via.refl F_ids (fun T X => ?_)
  refine w_aloadN X q7_2_113 rfl (rfl) ?_
  refine w_getF X q7_2_114 (host := "") (Or.inl (wd_111 hw)) Via.refl F_vc (fun T X => ?_)
  refine w_iloadN X q7_2_117 rfl ?_
  refine w_iastore X q7_2_118 Ai (by decide) rfl (Nat.le_trans ga (Nat.le_of_lt o0)) (.int id0) rfl ((.int x0) :: (.int id0) :: (.int x2) :: (.int x3) :: own_z60) rfl (fun T h1 X W1 A1 => ?_)
  have K1 : Keep h0 h1 [a, nm, ids, pr, ln, se, en] := (Keep.refl h0 [a, nm, ids, pr, ln, se, en]).wr W1 (Or.inl (List.mem_of_getElem? (i := 2) rfl))
  refine w_aloadN X q7_2_119 rfl (rfl) ?_
  have f2 := (F_priorities.other W1 (Or.inl (Nat.ne_of_lt o0)))
  refine w_getF X q7_2_120 (host := "") (Or.inl (wd_25 hw)) Via.refl f2 (fun T X => ?_)
  refine w_aloadN X q7_2_123 rfl (rfl) ?_
  have f3 := (F_vc.other W1 (Or.inl (Nat.ne_of_lt o0)))
  refine w_getF X q7_2_124 (host := "") (Or.inl (wd_111 hw)) Via.refl f3 (fun T X => ?_)
  refine w_iloadN X q7_2_127 rfl ?_
  have f4 := (A_pr.other W1 (Ne.symm (Nat.ne_of_lt o1)))
  refine w_iastore X q7_2_128 f4 (by decide) rfl (Nat.le_trans ga (Nat.le_of_lt (Nat.lt_trans o0 o1))) (.int (0 : Int32)) rfl ((.int pr0) :: (.int (0 : Int32)) :: (.int pr2) :: (.int pr3) :: own_z60) rfl (fun T h2 X W2 A2 => ?_)
  have K5 : Keep h0 h2 [a, nm, ids, pr, ln, se, en] := K1.wr W2 (Or.inl (List.mem_of_getElem? (i := 3) rfl))
  refine w_aloadN X q7_2_129 rfl (rfl) ?_
  refine w_getS X q7_2_130 (host := "") (Or.inl (wd_150 hw)) Via.refl (S_p2.ext X.old.2) (fun T X => ?_)
  refine w_acmpne X (rfl) (rfl) q7_2_133 (fun _ => ?_) (fun hc => absurd hc (fun q => np (Value.ref.inj q)))
  refine w_aloadN X q7_2_147 rfl (rfl) ?_
  have f6 := ((F_names.other W1 (Or.inl (Nat.ne_of_lt o0))).other W2 (Or.inl (Nat.ne_of_lt (Nat.lt_trans o0 o1))))
  refine w_getF X q7_2_148 (host := "") (Or.inl (wd_84 hw)) Via.refl f6 (fun T X => ?_)
  refine w_aload X q7_2_151 rfl (rfl) ?_
  have f7 := ((En.wr W1).wr W2)
  have f8 := ((Ft.other W1 (Or.inl (Ne.symm (Nat.ne_of_lt (Nat.lt_trans o1 o2))))).other W2 (Or.inl (Ne.symm (Nat.ne_of_lt o2))))
  have f9 := ((Fe.other W1 (Or.inl (Ne.symm (Nat.ne_of_lt (Nat.lt_trans o1 o2))))).other W2 (Or.inl (Ne.symm (Nat.ne_of_lt o2))))
  have f10 := ((Fc.other W1 (Or.inl (Ne.symm (Nat.ne_of_lt (Nat.lt_trans o1 o2))))).other W2 (Or.inl (Ne.symm (Nat.ne_of_lt o2))))
  have f11 := ((Es.wr W1).wr W2)
  have f12 := ((Fs.other W1 (Or.inl (Ne.symm (Nat.ne_of_lt (Nat.lt_trans (Nat.lt_trans o1 o2) o3))))).other W2 (Or.inl (Ne.symm (Nat.ne_of_lt (Nat.lt_trans o2 o3)))))
  have f13 := ((A_en.other W1 (Ne.symm (Nat.ne_of_lt (Nat.lt_trans (Nat.lt_trans (Nat.lt_trans o1 o2) o3) o4)))).other W2 (Ne.symm (Nat.ne_of_lt (Nat.lt_trans (Nat.lt_trans o2 o3) o4))))
  refine w_callV X q7_2_153 (wd_152 hw) (wd_153 hw) (notFace_of_selects (args := #[]) (mvT X.hZ (wd_155 hw))) (wd_155 hw) (wd_154 hw) (wd_53 hw) (wd_156 hw) (by decide) f7 (argsL := [.null]) (S := []) (m_add_1 hw (Nat.le_trans ga (Nat.le_of_lt (Nat.lt_trans (Nat.lt_trans o0 o1) o2))) (Nat.le_trans ga (Nat.le_of_lt (Nat.lt_trans (Nat.lt_trans (Nat.lt_trans (Nat.lt_trans o0 o1) o2) o3) o4))) (Nat.ne_of_lt o4) (Nat.ne_of_lt (Nat.lt_trans o3 o4)) (Nat.ne_of_lt o3) f7 f8 f9 f10 f11 f12 f13) pd_4 rfl rfl rfl (by decide) (Nat.le_of_ble_eq_true rfl) (by decide) (by decide) (fun T h3 v3 L3 X q3 => ?_)
  obtain ⟨rfl, Kc3, Ft3, Fe3, Fc3, Ie3⟩ := q3
  have K14 : Keep h0 h3 [a, nm, ids, pr, ln, se, en] := K5.trans Kc3 (fun x hx => by simp only [List.mem_cons, List.not_mem_nil, or_false] at hx; rcases hx with rfl | rfl <;> first | exact (Or.inl (List.mem_of_getElem? (i := 1) rfl)) | exact (Or.inl (List.mem_of_getElem? (i := 6) rfl)))
  obtain ⟨en0, en1, en2, en3, A3⟩ := Ie3
  show Wp _ _ _ _ (T.setTop (mkF _ _ _ []))
  refine w_aloadN X q7_2_156 rfl (rfl) ?_
  have f15 := (((F_vertexLines.other W1 (Or.inl (Nat.ne_of_lt o0))).other W2 (Or.inl (Nat.ne_of_lt (Nat.lt_trans o0 o1)))).keep Kc3 (by simp only [List.mem_cons, List.not_mem_nil, or_false, not_or]; exact ⟨(Nat.ne_of_lt (Nat.lt_trans (Nat.lt_trans o0 o1) o2)), (Nat.ne_of_lt (Nat.lt_trans (Nat.lt_trans (Nat.lt_trans (Nat.lt_trans o0 o1) o2) o3) o4))⟩))
  refine w_getF X q7_2_157 (host := "") (Or.inl (wd_86 hw)) Via.refl f15 (fun T X => ?_)
  refine w_aloadN X q7_2_160 rfl (rfl) ?_
  have f16 := ((f3.other W2 (Or.inl (Nat.ne_of_lt (Nat.lt_trans o0 o1)))).keep Kc3 (by simp only [List.mem_cons, List.not_mem_nil, or_false, not_or]; exact ⟨(Nat.ne_of_lt (Nat.lt_trans (Nat.lt_trans o0 o1) o2)), (Nat.ne_of_lt (Nat.lt_trans (Nat.lt_trans (Nat.lt_trans (Nat.lt_trans o0 o1) o2) o3) o4))⟩))
  refine w_getF X q7_2_161 (host := "") (Or.inl (wd_111 hw)) Via.refl f16 (fun T X => ?_)
  refine w_iload X q7_2_164 rfl ?_
  have f17 := (((A_ln.other W1 (Ne.symm (Nat.ne_of_lt (Nat.lt_trans (Nat.lt_trans (Nat.lt_trans (Nat.lt_trans o1 o2) o3) o4) o5)))).other W2 (Ne.symm (Nat.ne_of_lt (Nat.lt_trans (Nat.lt_trans (Nat.lt_trans o2 o3) o4) o5)))).keep Kc3 (by simp only [List.mem_cons, List.not_mem_nil, or_false, not_or]; exact ⟨(Ne.symm (Nat.ne_of_lt (Nat.lt_trans (Nat.lt_trans o3 o4) o5))), (Ne.symm (Nat.ne_of_lt o5))⟩))
  refine w_iastore X q7_2_166 f17 (by decide) rfl (Nat.le_trans ga (Nat.le_of_lt (Nat.lt_trans (Nat.lt_trans (Nat.lt_trans (Nat.lt_trans (Nat.lt_trans o0 o1) o2) o3) o4) o5))) (.int line0) rfl ((.int ln0) :: (.int line0) :: (.int ln2) :: (.int ln3) :: own_z60) rfl (fun T h4 X W4 A4 => ?_)
  have K18 : Keep h0 h4 [a, nm, ids, pr, ln, se, en] := K14.wr W4 (Or.inl (List.mem_of_getElem? (i := 4) rfl))
  refine w_aload X q7_2_167 rfl (rfl) ?_
  refine w_iconst X (0 : Int32) q7_2_169 rfl ?_
  refine w_aloadN X q7_2_170 rfl (rfl) ?_
  have f19 := ((((F_sets.other W1 (Or.inl (Nat.ne_of_lt o0))).other W2 (Or.inl (Nat.ne_of_lt (Nat.lt_trans o0 o1)))).keep Kc3 (by simp only [List.mem_cons, List.not_mem_nil, or_false, not_or]; exact ⟨(Nat.ne_of_lt (Nat.lt_trans (Nat.lt_trans o0 o1) o2)), (Nat.ne_of_lt (Nat.lt_trans (Nat.lt_trans (Nat.lt_trans (Nat.lt_trans o0 o1) o2) o3) o4))⟩)).other W4 (Or.inl (Nat.ne_of_lt (Nat.lt_trans (Nat.lt_trans (Nat.lt_trans (Nat.lt_trans (Nat.lt_trans o0 o1) o2) o3) o4) o5))))
  refine w_getF X q7_2_171 (host := "") (Or.inl (wd_90 hw)) Via.refl f19 (fun T X => ?_)
  refine w_aloadN X q7_2_174 rfl (rfl) ?_
  have f20 := ((((F_sl.other W1 (Or.inl (Nat.ne_of_lt o0))).other W2 (Or.inl (Nat.ne_of_lt (Nat.lt_trans o0 o1)))).keep Kc3 (by simp only [List.mem_cons, List.not_mem_nil, or_false, not_or]; exact ⟨(Nat.ne_of_lt (Nat.lt_trans (Nat.lt_trans o0 o1) o2)), (Nat.ne_of_lt (Nat.lt_trans (Nat.lt_trans (Nat.lt_trans (Nat.lt_trans o0 o1) o2) o3) o4))⟩)).other W4 (Or.inl (Nat.ne_of_lt (Nat.lt_trans (Nat.lt_trans (Nat.lt_trans (Nat.lt_trans (Nat.lt_trans o0 o1) o2) o3) o4) o5))))
  refine w_getF X q7_2_175 (host := "") (Or.inl (wd_148 hw)) Via.refl f20 (fun T X => ?_)
  refine w_aload X q7_2_178 rfl (rfl) ?_
  refine w_arrlenC X (0 : Int32) q7_2_180 (A_ns.ext X.old.2) hns ?_
  have f21 := ((((A_ss.other W1 (Ne.symm (Nat.ne_of_lt (Nat.lt_trans (Nat.lt_trans (Nat.lt_trans (Nat.lt_trans (Nat.lt_trans (Nat.lt_trans o1 o2) o3) o4) o5) o6) o7)))).other W2 (Ne.symm (Nat.ne_of_lt (Nat.lt_trans (Nat.lt_trans (Nat.lt_trans (Nat.lt_trans (Nat.lt_trans o2 o3) o4) o5) o6) o7)))).keep Kc3 (by simp only [List.mem_cons, List.not_mem_nil, or_false, not_or]; exact ⟨(Ne.symm (Nat.ne_of_lt (Nat.lt_trans (Nat.lt_trans (Nat.lt_trans (Nat.lt_trans o3 o4) o5) o6) o7))), (Ne.symm (Nat.ne_of_lt (Nat.lt_trans (Nat.lt_trans o5 o6) o7)))⟩)).other W4 (Ne.symm (Nat.ne_of_lt (Nat.lt_trans o6 o7))))
  obtain ⟨c22, Ac22, -⟩ := id f21
  refine w_cp0 X q7_2_181 (wd_171 hw) (wd_174 hw) (wd_172 hw) (wd_173 hw) (A_ns.ext X.old.2) Ac22 (by decide) (by show (0 : Int) ≤ _; omega) rfl (by decide) (Nat.le_of_ble_eq_true rfl) (fun T X => ?_)
  show Wp _ _ _ _ (T.setTop (mkF _ _ _ []))
  refine w_aloadN X q7_2_184 rfl (rfl) ?_
  refine w_dup X q7_2_185 rfl ?_
  refine w_getF X q7_2_186 (host := "") (Or.inl (wd_148 hw)) Via.refl f20 (fun T X => ?_)
  refine w_aload X q7_2_189 rfl (rfl) ?_
  refine w_arrlenC X (0 : Int32) q7_2_191 (A_ns.ext X.old.2) hns ?_
  refine w_iadd X q7_2_192 ?_
  have f23 := ((((Ea.wr W1).wr W2).keep Kc3).wr W4)
  refine w_putF X q7_2_193 (host := "") (Or.inl (wd_148 hw)) Via.refl f20 f23 (Or.inl (wd_149 hw)) (wd_7 hw) (ty := .int) (by decide) rfl rfl ga (fun T h5 X W5 => ?_)
  have f24 := f20.same W5
  have K25 : Keep h0 h5 [a, nm, ids, pr, ln, se, en] := K18.wr W5 (Or.inl (List.mem_of_getElem? (i := 0) rfl))
  refine w_aloadN X q7_2_196 rfl (rfl) ?_
  have f26 := (((((F_setEnd.other W1 (Or.inl (Nat.ne_of_lt o0))).other W2 (Or.inl (Nat.ne_of_lt (Nat.lt_trans o0 o1)))).keep Kc3 (by simp only [List.mem_cons, List.not_mem_nil, or_false, not_or]; exact ⟨(Nat.ne_of_lt (Nat.lt_trans (Nat.lt_trans o0 o1) o2)), (Nat.ne_of_lt (Nat.lt_trans (Nat.lt_trans (Nat.lt_trans (Nat.lt_trans o0 o1) o2) o3) o4))⟩)).other W4 (Or.inl (Nat.ne_of_lt (Nat.lt_trans (Nat.lt_trans (Nat.lt_trans (Nat.lt_trans (Nat.lt_trans o0 o1) o2) o3) o4) o5)))).other W5 (Or.inr (slot_ne (Or.inl (wd_89 hw)) (Or.inl (wd_149 hw)) (by decide) (t := (.array .int)) (t' := .int) (by decide) (by decide))))
  refine w_getF X q7_2_197 (host := "") (Or.inl (wd_88 hw)) Via.refl f26 (fun T X => ?_)
  refine w_aloadN X q7_2_200 rfl (rfl) ?_
  have f27 := ((f16.other W4 (Or.inl (Nat.ne_of_lt (Nat.lt_trans (Nat.lt_trans (Nat.lt_trans (Nat.lt_trans (Nat.lt_trans o0 o1) o2) o3) o4) o5)))).other W5 (Or.inr (slot_ne (Or.inl (wd_112 hw)) (Or.inl (wd_149 hw)) (by decide) (t := .int) (t' := .int) (by decide) (by decide))))
  refine w_getF X q7_2_201 (host := "") (Or.inl (wd_111 hw)) Via.refl f27 (fun T X => ?_)
  refine w_aloadN X q7_2_204 rfl (rfl) ?_
  refine w_getF X q7_2_205 (host := "") (Or.inl (wd_148 hw)) Via.refl f24 (fun T X => ?_)
  have f28 := (((((A_se.other W1 (Ne.symm (Nat.ne_of_lt (Nat.lt_trans (Nat.lt_trans (Nat.lt_trans (Nat.lt_trans (Nat.lt_trans o1 o2) o3) o4) o5) o6)))).other W2 (Ne.symm (Nat.ne_of_lt (Nat.lt_trans (Nat.lt_trans (Nat.lt_trans (Nat.lt_trans o2 o3) o4) o5) o6)))).keep Kc3 (by simp only [List.mem_cons, List.not_mem_nil, or_false, not_or]; exact ⟨(Ne.symm (Nat.ne_of_lt (Nat.lt_trans (Nat.lt_trans (Nat.lt_trans o3 o4) o5) o6))), (Ne.symm (Nat.ne_of_lt (Nat.lt_trans o5 o6)))⟩)).other W4 (Ne.symm (Nat.ne_of_lt o6))).other W5 (Ne.symm (Nat.ne_of_lt (Nat.lt_trans (Nat.lt_trans (Nat.lt_trans (Nat.lt_trans (Nat.lt_trans (Nat.lt_trans o0 o1) o2) o3) o4) o5) o6))))
  refine w_iastore X q7_2_208 f28 (by decide) rfl (Nat.le_trans ga (Nat.le_of_lt (Nat.lt_trans (Nat.lt_trans (Nat.lt_trans (Nat.lt_trans (Nat.lt_trans (Nat.lt_trans o0 o1) o2) o3) o4) o5) o6))) (.int (0 : Int32)) rfl ((.int se0) :: (.int (0 : Int32)) :: (.int se2) :: (.int se3) :: own_z60) rfl (fun T h6 X W6 A6 => ?_)
  have K29 : Keep h0 h6 [a, nm, ids, pr, ln, se, en] := K25.wr W6 (Or.inl (List.mem_of_getElem? (i := 5) rfl))
  refine w_aloadN X q7_2_209 rfl (rfl) ?_
  refine w_dup X q7_2_210 rfl ?_
  have f30 := (f27.other W6 (Or.inl (Nat.ne_of_lt (Nat.lt_trans (Nat.lt_trans (Nat.lt_trans (Nat.lt_trans (Nat.lt_trans (Nat.lt_trans o0 o1) o2) o3) o4) o5) o6))))
  refine w_getF X q7_2_211 (host := "") (Or.inl (wd_111 hw)) Via.refl f30 (fun T X => ?_)
  refine w_iconst X (1 : Int32) q7_2_214 rfl ?_
  refine w_iadd X q7_2_215 ?_
  have f31 := ((f23.wr W5).wr W6)
  refine w_putF X q7_2_216 (host := "") (Or.inl (wd_111 hw)) Via.refl f30 f31 (Or.inl (wd_112 hw)) (wd_7 hw) (ty := .int) (by decide) rfl rfl ga (fun T h7 X W7 => ?_)
  have f32 := f30.same W7
  have K33 : Keep h0 h7 [a, nm, ids, pr, ln, se, en] := K29.wr W7 (Or.inl (List.mem_of_getElem? (i := 0) rfl))
  have f34 := (f31.wr W7)
  have f35 := (((((((F_ids.other W1 (Or.inl (Nat.ne_of_lt o0))).other W2 (Or.inl (Nat.ne_of_lt (Nat.lt_trans o0 o1)))).keep Kc3 (by simp only [List.mem_cons, List.not_mem_nil, or_false, not_or]; exact ⟨(Nat.ne_of_lt (Nat.lt_trans (Nat.lt_trans o0 o1) o2)), (Nat.ne_of_lt (Nat.lt_trans (Nat.lt_trans (Nat.lt_trans (Nat.lt_trans o0 o1) o2) o3) o4))⟩)).other W4 (Or.inl (Nat.ne_of_lt (Nat.lt_trans (Nat.lt_trans (Nat.lt_trans (Nat.lt_trans (Nat.lt_trans o0 o1) o2) o3) o4) o5)))).other W5 (Or.inr (slot_ne (Or.inl (wd_24 hw)) (Or.inl (wd_149 hw)) (by decide) (t := (.array .int)) (t' := .int) (by decide) (by decide)))).other W6 (Or.inl (Nat.ne_of_lt (Nat.lt_trans (Nat.lt_trans (Nat.lt_trans (Nat.lt_trans (Nat.lt_trans (Nat.lt_trans o0 o1) o2) o3) o4) o5) o6)))).other W7 (Or.inr (slot_ne (Or.inl (wd_24 hw)) (Or.inl (wd_112 hw)) (by decide) (t := (.array .int)) (t' := .int) (by decide) (by decide))))
  have f36 := ((((((f2.other W2 (Or.inl (Nat.ne_of_lt (Nat.lt_trans o0 o1)))).keep Kc3 (by simp only [List.mem_cons, List.not_mem_nil, or_false, not_or]; exact ⟨(Nat.ne_of_lt (Nat.lt_trans (Nat.lt_trans o0 o1) o2)), (Nat.ne_of_lt (Nat.lt_trans (Nat.lt_trans (Nat.lt_trans (Nat.lt_trans o0 o1) o2) o3) o4))⟩)).other W4 (Or.inl (Nat.ne_of_lt (Nat.lt_trans (Nat.lt_trans (Nat.lt_trans (Nat.lt_trans (Nat.lt_trans o0 o1) o2) o3) o4) o5)))).other W5 (Or.inr (slot_ne (Or.inl (wd_26 hw)) (Or.inl (wd_149 hw)) (by decide) (t := (.array .int)) (t' := .int) (by decide) (by decide)))).other W6 (Or.inl (Nat.ne_of_lt (Nat.lt_trans (Nat.lt_trans (Nat.lt_trans (Nat.lt_trans (Nat.lt_trans (Nat.lt_trans o0 o1) o2) o3) o4) o5) o6)))).other W7 (Or.inr (slot_ne (Or.inl (wd_26 hw)) (Or.inl (wd_112 hw)) (by decide) (t := (.array .int)) (t' := .int) (by decide) (by decide))))
  have f37 := (((((f6.keep Kc3 (by simp only [List.mem_cons, List.not_mem_nil, or_false, not_or]; exact ⟨(Nat.ne_of_lt (Nat.lt_trans (Nat.lt_trans o0 o1) o2)), (Nat.ne_of_lt (Nat.lt_trans (Nat.lt_trans (Nat.lt_trans (Nat.lt_trans o0 o1) o2) o3) o4))⟩)).other W4 (Or.inl (Nat.ne_of_lt (Nat.lt_trans (Nat.lt_trans (Nat.lt_trans (Nat.lt_trans (Nat.lt_trans o0 o1) o2) o3) o4) o5)))).other W5 (Or.inr (slot_ne (Or.inr (wd_85 hw)) (Or.inl (wd_149 hw)) (by decide) (t := (.object "com/example/flicker/flicker/game/VertexNames")) (t' := .int) (by decide) (by decide)))).other W6 (Or.inl (Nat.ne_of_lt (Nat.lt_trans (Nat.lt_trans (Nat.lt_trans (Nat.lt_trans (Nat.lt_trans (Nat.lt_trans o0 o1) o2) o3) o4) o5) o6)))).other W7 (Or.inr (slot_ne (Or.inr (wd_85 hw)) (Or.inl (wd_112 hw)) (by decide) (t := (.object "com/example/flicker/flicker/game/VertexNames")) (t' := .int) (by decide) (by decide))))
  have f38 := ((((f15.other W4 (Or.inl (Nat.ne_of_lt (Nat.lt_trans (Nat.lt_trans (Nat.lt_trans (Nat.lt_trans (Nat.lt_trans o0 o1) o2) o3) o4) o5)))).other W5 (Or.inr (slot_ne (Or.inl (wd_87 hw)) (Or.inl (wd_149 hw)) (by decide) (t := (.array .int)) (t' := .int) (by decide) (by decide)))).other W6 (Or.inl (Nat.ne_of_lt (Nat.lt_trans (Nat.lt_trans (Nat.lt_trans (Nat.lt_trans (Nat.lt_trans (Nat.lt_trans o0 o1) o2) o3) o4) o5) o6)))).other W7 (Or.inr (slot_ne (Or.inl (wd_87 hw)) (Or.inl (wd_112 hw)) (by decide) (t := (.array .int)) (t' := .int) (by decide) (by decide))))
  have f39 := ((f26.other W6 (Or.inl (Nat.ne_of_lt (Nat.lt_trans (Nat.lt_trans (Nat.lt_trans (Nat.lt_trans (Nat.lt_trans (Nat.lt_trans o0 o1) o2) o3) o4) o5) o6)))).other W7 (Or.inr (slot_ne (Or.inl (wd_89 hw)) (Or.inl (wd_112 hw)) (by decide) (t := (.array .int)) (t' := .int) (by decide) (by decide))))
  have f40 := (((f19.other W5 (Or.inr (slot_ne (Or.inl (wd_91 hw)) (Or.inl (wd_149 hw)) (by decide) (t := (.array .int)) (t' := .int) (by decide) (by decide)))).other W6 (Or.inl (Nat.ne_of_lt (Nat.lt_trans (Nat.lt_trans (Nat.lt_trans (Nat.lt_trans (Nat.lt_trans (Nat.lt_trans o0 o1) o2) o3) o4) o5) o6)))).other W7 (Or.inr (slot_ne (Or.inl (wd_91 hw)) (Or.inl (wd_112 hw)) (by decide) (t := (.array .int)) (t' := .int) (by decide) (by decide))))
  have f41 := ((f24.other W6 (Or.inl (Nat.ne_of_lt (Nat.lt_trans (Nat.lt_trans (Nat.lt_trans (Nat.lt_trans (Nat.lt_trans (Nat.lt_trans o0 o1) o2) o3) o4) o5) o6)))).other W7 (Or.inr (slot_ne (Or.inl (wd_149 hw)) (Or.inl (wd_112 hw)) (by decide) (t := .int) (t' := .int) (by decide) (by decide))))
  have f42 := (((((((Fb.other W1 (Or.inl (Nat.ne_of_lt o0))).other W2 (Or.inl (Nat.ne_of_lt (Nat.lt_trans o0 o1)))).keep Kc3 (by simp only [List.mem_cons, List.not_mem_nil, or_false, not_or]; exact ⟨(Nat.ne_of_lt (Nat.lt_trans (Nat.lt_trans o0 o1) o2)), (Nat.ne_of_lt (Nat.lt_trans (Nat.lt_trans (Nat.lt_trans (Nat.lt_trans o0 o1) o2) o3) o4))⟩)).other W4 (Or.inl (Nat.ne_of_lt (Nat.lt_trans (Nat.lt_trans (Nat.lt_trans (Nat.lt_trans (Nat.lt_trans o0 o1) o2) o3) o4) o5)))).other W5 (Or.inr (slot_ne (Or.inl (wd_114 hw)) (Or.inl (wd_149 hw)) (by decide) (t := (.array .long)) (t' := .int) (by decide) (by decide)))).other W6 (Or.inl (Nat.ne_of_lt (Nat.lt_trans (Nat.lt_trans (Nat.lt_trans (Nat.lt_trans (Nat.lt_trans (Nat.lt_trans o0 o1) o2) o3) o4) o5) o6)))).other W7 (Or.inr (slot_ne (Or.inl (wd_114 hw)) (Or.inl (wd_112 hw)) (by decide) (t := (.array .long)) (t' := .int) (by decide) (by decide))))
  have f43 := (((((f7.keep Kc3).wr W4).wr W5).wr W6).wr W7)
  have f44 := ((((Ft3.other W4 (Or.inl (Nat.ne_of_lt (Nat.lt_trans (Nat.lt_trans o3 o4) o5)))).other W5 (Or.inl (Ne.symm (Nat.ne_of_lt (Nat.lt_trans (Nat.lt_trans o0 o1) o2))))).other W6 (Or.inl (Nat.ne_of_lt (Nat.lt_trans (Nat.lt_trans (Nat.lt_trans o3 o4) o5) o6)))).other W7 (Or.inl (Ne.symm (Nat.ne_of_lt (Nat.lt_trans (Nat.lt_trans o0 o1) o2)))))
  have f45 := ((((Fe3.other W4 (Or.inl (Nat.ne_of_lt (Nat.lt_trans (Nat.lt_trans o3 o4) o5)))).other W5 (Or.inl (Ne.symm (Nat.ne_of_lt (Nat.lt_trans (Nat.lt_trans o0 o1) o2))))).other W6 (Or.inl (Nat.ne_of_lt (Nat.lt_trans (Nat.lt_trans (Nat.lt_trans o3 o4) o5) o6)))).other W7 (Or.inl (Ne.symm (Nat.ne_of_lt (Nat.lt_trans (Nat.lt_trans o0 o1) o2)))))
  have f46 := ((((Fc3.other W4 (Or.inl (Nat.ne_of_lt (Nat.lt_trans (Nat.lt_trans o3 o4) o5)))).other W5 (Or.inl (Ne.symm (Nat.ne_of_lt (Nat.lt_trans (Nat.lt_trans o0 o1) o2))))).other W6 (Or.inl (Nat.ne_of_lt (Nat.lt_trans (Nat.lt_trans (Nat.lt_trans o3 o4) o5) o6)))).other W7 (Or.inl (Ne.symm (Nat.ne_of_lt (Nat.lt_trans (Nat.lt_trans o0 o1) o2)))))
  have f47 := (((((f11.keep Kc3).wr W4).wr W5).wr W6).wr W7)
  have f48 := (((((f12.keep Kc3 (by simp only [List.mem_cons, List.not_mem_nil, or_false, not_or]; exact ⟨(Ne.symm (Nat.ne_of_lt o3)), (Nat.ne_of_lt o4)⟩)).other W4 (Or.inl (Nat.ne_of_lt (Nat.lt_trans o4 o5)))).other W5 (Or.inl (Ne.symm (Nat.ne_of_lt (Nat.lt_trans (Nat.lt_trans (Nat.lt_trans o0 o1) o2) o3))))).other W6 (Or.inl (Nat.ne_of_lt (Nat.lt_trans (Nat.lt_trans o4 o5) o6)))).other W7 (Or.inl (Ne.symm (Nat.ne_of_lt (Nat.lt_trans (Nat.lt_trans (Nat.lt_trans o0 o1) o2) o3)))))
  have f49 := ((((((A1.other W2 (Nat.ne_of_lt o1)).keep Kc3 (by simp only [List.mem_cons, List.not_mem_nil, or_false, not_or]; exact ⟨(Nat.ne_of_lt (Nat.lt_trans o1 o2)), (Nat.ne_of_lt (Nat.lt_trans (Nat.lt_trans (Nat.lt_trans o1 o2) o3) o4))⟩)).other W4 (Nat.ne_of_lt (Nat.lt_trans (Nat.lt_trans (Nat.lt_trans (Nat.lt_trans o1 o2) o3) o4) o5))).other W5 (Ne.symm (Nat.ne_of_lt o0))).other W6 (Nat.ne_of_lt (Nat.lt_trans (Nat.lt_trans (Nat.lt_trans (Nat.lt_trans (Nat.lt_trans o1 o2) o3) o4) o5) o6))).other W7 (Ne.symm (Nat.ne_of_lt o0)))
  have f50 := (((((A2.keep Kc3 (by simp only [List.mem_cons, List.not_mem_nil, or_false, not_or]; exact ⟨(Nat.ne_of_lt o2), (Nat.ne_of_lt (Nat.lt_trans (Nat.lt_trans o2 o3) o4))⟩)).other W4 (Nat.ne_of_lt (Nat.lt_trans (Nat.lt_trans (Nat.lt_trans o2 o3) o4) o5))).other W5 (Ne.symm (Nat.ne_of_lt (Nat.lt_trans o0 o1)))).other W6 (Nat.ne_of_lt (Nat.lt_trans (Nat.lt_trans (Nat.lt_trans (Nat.lt_trans o2 o3) o4) o5) o6))).other W7 (Ne.symm (Nat.ne_of_lt (Nat.lt_trans o0 o1))))
  have f51 := ((((A3.other W4 (Nat.ne_of_lt o5)).other W5 (Ne.symm (Nat.ne_of_lt (Nat.lt_trans (Nat.lt_trans (Nat.lt_trans (Nat.lt_trans o0 o1) o2) o3) o4)))).other W6 (Nat.ne_of_lt (Nat.lt_trans o5 o6))).other W7 (Ne.symm (Nat.ne_of_lt (Nat.lt_trans (Nat.lt_trans (Nat.lt_trans (Nat.lt_trans o0 o1) o2) o3) o4))))
  have f52 := (((A4.other W5 (Ne.symm (Nat.ne_of_lt (Nat.lt_trans (Nat.lt_trans (Nat.lt_trans (Nat.lt_trans (Nat.lt_trans o0 o1) o2) o3) o4) o5)))).other W6 (Nat.ne_of_lt o6)).other W7 (Ne.symm (Nat.ne_of_lt (Nat.lt_trans (Nat.lt_trans (Nat.lt_trans (Nat.lt_trans (Nat.lt_trans o0 o1) o2) o3) o4) o5))))
  have f53 := (A6.other W7 (Ne.symm (Nat.ne_of_lt (Nat.lt_trans (Nat.lt_trans (Nat.lt_trans (Nat.lt_trans (Nat.lt_trans (Nat.lt_trans o0 o1) o2) o3) o4) o5) o6))))
  have f54 := (((f21.other W5 (Ne.symm (Nat.ne_of_lt (Nat.lt_trans (Nat.lt_trans (Nat.lt_trans (Nat.lt_trans (Nat.lt_trans (Nat.lt_trans (Nat.lt_trans o0 o1) o2) o3) o4) o5) o6) o7)))).other W6 (Ne.symm (Nat.ne_of_lt o7))).other W7 (Ne.symm (Nat.ne_of_lt (Nat.lt_trans (Nat.lt_trans (Nat.lt_trans (Nat.lt_trans (Nat.lt_trans (Nat.lt_trans (Nat.lt_trans o0 o1) o2) o3) o4) o5) o6) o7))))
  exact w_retV X q7_2_219 ⟨rfl, K33, ga, o0, o1, o2, o3, o4, o5, o6, o7, f34, f35, f36, f37, f38, f39, f40, f32, f41, f42, f43, f44, f45, f46, f47, f48, f49, ⟨_, _, _, _, f50⟩, ⟨_, _, _, _, f51⟩, ⟨_, _, _, _, f52⟩, ⟨_, _, _, _, f53⟩, ⟨_, _, _, _, f54⟩⟩ (by decide) (by decide)
theorem m_vtx_2 {l : Launch} {Z : State} {a0 : Array Value} {n0 : Nat} (hw : own_hw a0 Z) {h0 : Heap} {a ids pr nm sb en ln se ss : Addr} {x0 x1 x2 x3 : Int32} {p1 p2 ns : Addr} {cN : Cell} {id0 line0 : Int32} (S_p2 : Sta Z Z.heap "com/example/flicker/flicker/game/Player" "TWO" "Lcom/example/flicker/flicker/game/Player;" (.ref p2)) (np : p1 ≠ p2) (A_ns : Arr Z Z.heap ns cN .int) (hns : cN.slots.size.toInt32 = 0) (hG : own_GB Z h0 n0 a ids pr nm sb en ln se ss (2 : Int32) x0 x1 x2 x3) :
    Does l Z n0 ⟨"com/example/flicker/flicker/game/GameBuilder", "vertex", "(ILcom/example/flicker/flicker/game/Player;ILjava/lang/CharSequence;[II)V"⟩ prog_7_method_2_code 8 none [] { frames := 3, cells := 0, slots := 0, locals := 39 } #[(.ref a), (.int id0), (.ref p1), (.int (0 : Int32)), .null, (.ref ns), (.int line0)] h0 (fun v h => v = none ∧ Keep h0 h [a, nm, ids, pr, ln, se, en] ∧ own_GB Z h n0 a ids pr nm sb en ln se ss (3 : Int32) x0 x1 id0 x3) := by
  refine Does.start (plainFor_of_name pn_5) ?_
  intro p e s m below meth c T X
  replace X : Sd _ _ _ _ _ "com/example/flicker/flicker/game/GameBuilder" "vertex" _ _ _ _ _ _ _ _ _ _ _ _ _ _ _ _ := X
  refine Wp.cast (g' := mkF m 0 #[.val (.ref a), .val (.int id0), .val (.ref p1), .val (.int (0 : Int32)), .val .null, .val (.ref ns), .val (.int line0), .unset] []) (by first | (simp [entryFrame, mkF, argsToLocals, Value.category, maxLocals]; done) | rfl) ?_
  obtain ⟨ga, o0, o1, o2, o3, o4, o5, o6, o7, Ea, F_ids, F_priorities, F_names, F_vertexLines, F_setEnd, F_sets, F_vc, F_sl, Fb, En, Ft, Fe, Fc, Es, Fs, Ai, Ip, Ie, Il, Is, It⟩ := hG
  obtain ⟨pr0, pr1, pr2, pr3, A_pr⟩ := Ip
  obtain ⟨en0, en1, en2, en3, A_en⟩ := Ie
  obtain ⟨ln0, ln1, ln2, ln3, A_ln⟩ := Il
  obtain ⟨se0, se1, se2, se3, A_se⟩ := Is
  obtain ⟨ss0, ss1, ss2, ss3, A_ss⟩ := It
  refine w_aloadN X q7_2_0 rfl (rfl) ?_
  refine w_getF X q7_2_1 (host := "") (Or.inl (wd_111 hw)) Via.refl F_vc (fun T X => ?_)
  refine w_aloadN X q7_2_4 rfl (rfl) ?_
  refine w_getF X q7_2_5 (host := "") (Or.inl (wd_23 hw)) Via.refl F_ids (fun T X => ?_)
  refine w_arrlen X (64 : Int32) q7_2_8 Ai rfl ?_
  refine w_icmpne X q7_2_9 (fun _ => ?_) (fun hc => absurd hc (by decide))
  refine w_aloadN X q7_2_72 rfl (rfl) ?_
  refine w_getF X q7_2_73 (host := "") (Or.inl (wd_90 hw)) Via.refl F_sets (fun T X => ?_)
  refine w_arrlen X (64 : Int32) q7_2_76 A_ss rfl ?_
  refine w_aloadN X q7_2_77 rfl (rfl) ?_
  refine w_getF X q7_2_78 (host := "") (Or.inl (wd_148 hw)) Via.refl F_sl (fun T X => ?_)
  refine w_isub X q7_2_81 ?_
  refine w_aload X q7_2_82 rfl (rfl) ?_
  refine w_arrlenC X (0 : Int32) q7_2_84 (A_ns.ext X.old.2) hns ?_
  refine w_icmpge X q7_2_85 (fun _ => ?_) (fun hc => absurd hc (by decide))
  refine w_aloadN X q7_2_109 rfl (rfl) ?_
  refine w_getF X q7_2_110 (host := "") (Or.inl (wd_23 hw)) Via.refl F_ids (fun T X => ?_)
  refine w_aloadN X q7_2_113 rfl (rfl) ?_
  refine w_getF X q7_2_114 (host := "") (Or.inl (wd_111 hw)) Via.refl F_vc (fun T X => ?_)
  refine w_iloadN X q7_2_117 rfl ?_
  refine w_iastore X q7_2_118 Ai (by decide) rfl (Nat.le_trans ga (Nat.le_of_lt o0)) (.int id0) rfl ((.int x0) :: (.int x1) :: (.int id0) :: (.int x3) :: own_z60) rfl (fun T h1 X W1 A1 => ?_)
  have K1 : Keep h0 h1 [a, nm, ids, pr, ln, se, en] := (Keep.refl h0 [a, nm, ids, pr, ln, se, en]).wr W1 (Or.inl (List.mem_of_getElem? (i := 2) rfl))
  refine w_aloadN X q7_2_119 rfl (rfl) ?_
  have f2 := (F_priorities.other W1 (Or.inl (Nat.ne_of_lt o0)))
  refine w_getF X q7_2_120 (host := "") (Or.inl (wd_25 hw)) Via.refl f2 (fun T X => ?_)
  refine w_aloadN X q7_2_123 rfl (rfl) ?_
  have f3 := (F_vc.other W1 (Or.inl (Nat.ne_of_lt o0)))
  refine w_getF X q7_2_124 (host := "") (Or.inl (wd_111 hw)) Via.refl f3 (fun T X => ?_)
  refine w_iloadN X q7_2_127 rfl ?_
  have f4 := (A_pr.other W1 (Ne.symm (Nat.ne_of_lt o1)))
  refine w_iastore X q7_2_128 f4 (by decide) rfl (Nat.le_trans ga (Nat.le_of_lt (Nat.lt_trans o0 o1))) (.int (0 : Int32)) rfl ((.int pr0) :: (.int pr1) :: (.int (0 : Int32)) :: (.int pr3) :: own_z60) rfl (fun T h2 X W2 A2 => ?_)
  have K5 : Keep h0 h2 [a, nm, ids, pr, ln, se, en] := K1.wr W2 (Or.inl (List.mem_of_getElem? (i := 3) rfl))
  refine w_aloadN X q7_2_129 rfl (rfl) ?_
  refine w_getS X q7_2_130 (host := "") (Or.inl (wd_150 hw)) Via.refl (S_p2.ext X.old.2) (fun T X => ?_)
  refine w_acmpne X (rfl) (rfl) q7_2_133 (fun _ => ?_) (fun hc => absurd hc (fun q => np (Value.ref.inj q)))
  refine w_aloadN X q7_2_147 rfl (rfl) ?_
  have f6 := ((F_names.other W1 (Or.inl (Nat.ne_of_lt o0))).other W2 (Or.inl (Nat.ne_of_lt (Nat.lt_trans o0 o1))))
  refine w_getF X q7_2_148 (host := "") (Or.inl (wd_84 hw)) Via.refl f6 (fun T X => ?_)
  refine w_aload X q7_2_151 rfl (rfl) ?_
  have f7 := ((En.wr W1).wr W2)
  have f8 := ((Ft.other W1 (Or.inl (Ne.symm (Nat.ne_of_lt (Nat.lt_trans o1 o2))))).other W2 (Or.inl (Ne.symm (Nat.ne_of_lt o2))))
  have f9 := ((Fe.other W1 (Or.inl (Ne.symm (Nat.ne_of_lt (Nat.lt_trans o1 o2))))).other W2 (Or.inl (Ne.symm (Nat.ne_of_lt o2))))
  have f10 := ((Fc.other W1 (Or.inl (Ne.symm (Nat.ne_of_lt (Nat.lt_trans o1 o2))))).other W2 (Or.inl (Ne.symm (Nat.ne_of_lt o2))))
  have f11 := ((Es.wr W1).wr W2)
  have f12 := ((Fs.other W1 (Or.inl (Ne.symm (Nat.ne_of_lt (Nat.lt_trans (Nat.lt_trans o1 o2) o3))))).other W2 (Or.inl (Ne.symm (Nat.ne_of_lt (Nat.lt_trans o2 o3)))))
  have f13 := ((A_en.other W1 (Ne.symm (Nat.ne_of_lt (Nat.lt_trans (Nat.lt_trans (Nat.lt_trans o1 o2) o3) o4)))).other W2 (Ne.symm (Nat.ne_of_lt (Nat.lt_trans (Nat.lt_trans o2 o3) o4))))
  refine w_callV X q7_2_153 (wd_152 hw) (wd_153 hw) (notFace_of_selects (args := #[]) (mvT X.hZ (wd_155 hw))) (wd_155 hw) (wd_154 hw) (wd_53 hw) (wd_156 hw) (by decide) f7 (argsL := [.null]) (S := []) (m_add_2 hw (Nat.le_trans ga (Nat.le_of_lt (Nat.lt_trans (Nat.lt_trans o0 o1) o2))) (Nat.le_trans ga (Nat.le_of_lt (Nat.lt_trans (Nat.lt_trans (Nat.lt_trans (Nat.lt_trans o0 o1) o2) o3) o4))) (Nat.ne_of_lt o4) (Nat.ne_of_lt (Nat.lt_trans o3 o4)) (Nat.ne_of_lt o3) f7 f8 f9 f10 f11 f12 f13) pd_4 rfl rfl rfl (by decide) (Nat.le_of_ble_eq_true rfl) (by decide) (by decide) (fun T h3 v3 L3 X q3 => ?_)
  obtain ⟨rfl, Kc3, Ft3, Fe3, Fc3, Ie3⟩ := q3
  have K14 : Keep h0 h3 [a, nm, ids, pr, ln, se, en] := K5.trans Kc3 (fun x hx => by simp only [List.mem_cons, List.not_mem_nil, or_false] at hx; rcases hx with rfl | rfl <;> first | exact (Or.inl (List.mem_of_getElem? (i := 1) rfl)) | exact (Or.inl (List.mem_of_getElem? (i := 6) rfl)))
  obtain ⟨en0, en1, en2, en3, A3⟩ := Ie3
  show Wp _ _ _ _ (T.setTop (mkF _ _ _ []))
  refine w_aloadN X q7_2_156 rfl (rfl) ?_
  have f15 := (((F_vertexLines.other W1 (Or.inl (Nat.ne_of_lt o0))).other W2 (Or.inl (Nat.ne_of_lt (Nat.lt_trans o0 o1)))).keep Kc3 (by simp only [List.mem_cons, List.not_mem_nil, or_false, not_or]; exact ⟨(Nat.ne_of_lt (Nat.lt_trans (Nat.lt_trans o0 o1) o2)), (Nat.ne_of_lt (Nat.lt_trans (Nat.lt_trans (Nat.lt_trans (Nat.lt_trans o0 o1) o2) o3) o4))⟩))
  refine w_getF X q7_2_157 (host := "") (Or.inl (wd_86 hw)) Via.refl f15 (fun T X => ?_)
  refine w_aloadN X q7_2_160 rfl (rfl) ?_
  have f16 := ((f3.other W2 (Or.inl (Nat.ne_of_lt (Nat.lt_trans o0 o1)))).keep Kc3 (by simp only [List.mem_cons, List.not_mem_nil, or_false, not_or]; exact ⟨(Nat.ne_of_lt (Nat.lt_trans (Nat.lt_trans o0 o1) o2)), (Nat.ne_of_lt (Nat.lt_trans (Nat.lt_trans (Nat.lt_trans (Nat.lt_trans o0 o1) o2) o3) o4))⟩))
  refine w_getF X q7_2_161 (host := "") (Or.inl (wd_111 hw)) Via.refl f16 (fun T X => ?_)
  refine w_iload X q7_2_164 rfl ?_
  have f17 := (((A_ln.other W1 (Ne.symm (Nat.ne_of_lt (Nat.lt_trans (Nat.lt_trans (Nat.lt_trans (Nat.lt_trans o1 o2) o3) o4) o5)))).other W2 (Ne.symm (Nat.ne_of_lt (Nat.lt_trans (Nat.lt_trans (Nat.lt_trans o2 o3) o4) o5)))).keep Kc3 (by simp only [List.mem_cons, List.not_mem_nil, or_false, not_or]; exact ⟨(Ne.symm (Nat.ne_of_lt (Nat.lt_trans (Nat.lt_trans o3 o4) o5))), (Ne.symm (Nat.ne_of_lt o5))⟩))
  refine w_iastore X q7_2_166 f17 (by decide) rfl (Nat.le_trans ga (Nat.le_of_lt (Nat.lt_trans (Nat.lt_trans (Nat.lt_trans (Nat.lt_trans (Nat.lt_trans o0 o1) o2) o3) o4) o5))) (.int line0) rfl ((.int ln0) :: (.int ln1) :: (.int line0) :: (.int ln3) :: own_z60) rfl (fun T h4 X W4 A4 => ?_)
  have K18 : Keep h0 h4 [a, nm, ids, pr, ln, se, en] := K14.wr W4 (Or.inl (List.mem_of_getElem? (i := 4) rfl))
  refine w_aload X q7_2_167 rfl (rfl) ?_
  refine w_iconst X (0 : Int32) q7_2_169 rfl ?_
  refine w_aloadN X q7_2_170 rfl (rfl) ?_
  have f19 := ((((F_sets.other W1 (Or.inl (Nat.ne_of_lt o0))).other W2 (Or.inl (Nat.ne_of_lt (Nat.lt_trans o0 o1)))).keep Kc3 (by simp only [List.mem_cons, List.not_mem_nil, or_false, not_or]; exact ⟨(Nat.ne_of_lt (Nat.lt_trans (Nat.lt_trans o0 o1) o2)), (Nat.ne_of_lt (Nat.lt_trans (Nat.lt_trans (Nat.lt_trans (Nat.lt_trans o0 o1) o2) o3) o4))⟩)).other W4 (Or.inl (Nat.ne_of_lt (Nat.lt_trans (Nat.lt_trans (Nat.lt_trans (Nat.lt_trans (Nat.lt_trans o0 o1) o2) o3) o4) o5))))
  refine w_getF X q7_2_171 (host := "") (Or.inl (wd_90 hw)) Via.refl f19 (fun T X => ?_)
  refine w_aloadN X q7_2_174 rfl (rfl) ?_
  have f20 := ((((F_sl.other W1 (Or.inl (Nat.ne_of_lt o0))).other W2 (Or.inl (Nat.ne_of_lt (Nat.lt_trans o0 o1)))).keep Kc3 (by simp only [List.mem_cons, List.not_mem_nil, or_false, not_or]; exact ⟨(Nat.ne_of_lt (Nat.lt_trans (Nat.lt_trans o0 o1) o2)), (Nat.ne_of_lt (Nat.lt_trans (Nat.lt_trans (Nat.lt_trans (Nat.lt_trans o0 o1) o2) o3) o4))⟩)).other W4 (Or.inl (Nat.ne_of_lt (Nat.lt_trans (Nat.lt_trans (Nat.lt_trans (Nat.lt_trans (Nat.lt_trans o0 o1) o2) o3) o4) o5))))
  refine w_getF X q7_2_175 (host := "") (Or.inl (wd_148 hw)) Via.refl f20 (fun T X => ?_)
  refine w_aload X q7_2_178 rfl (rfl) ?_
  refine w_arrlenC X (0 : Int32) q7_2_180 (A_ns.ext X.old.2) hns ?_
  have f21 := ((((A_ss.other W1 (Ne.symm (Nat.ne_of_lt (Nat.lt_trans (Nat.lt_trans (Nat.lt_trans (Nat.lt_trans (Nat.lt_trans (Nat.lt_trans o1 o2) o3) o4) o5) o6) o7)))).other W2 (Ne.symm (Nat.ne_of_lt (Nat.lt_trans (Nat.lt_trans (Nat.lt_trans (Nat.lt_trans (Nat.lt_trans o2 o3) o4) o5) o6) o7)))).keep Kc3 (by simp only [List.mem_cons, List.not_mem_nil, or_false, not_or]; exact ⟨(Ne.symm (Nat.ne_of_lt (Nat.lt_trans (Nat.lt_trans (Nat.lt_trans (Nat.lt_trans o3 o4) o5) o6) o7))), (Ne.symm (Nat.ne_of_lt (Nat.lt_trans (Nat.lt_trans o5 o6) o7)))⟩)).other W4 (Ne.symm (Nat.ne_of_lt (Nat.lt_trans o6 o7))))
  obtain ⟨c22, Ac22, -⟩ := id f21
  refine w_cp0 X q7_2_181 (wd_171 hw) (wd_174 hw) (wd_172 hw) (wd_173 hw) (A_ns.ext X.old.2) Ac22 (by decide) (by show (0 : Int) ≤ _; omega) rfl (by decide) (Nat.le_of_ble_eq_true rfl) (fun T X => ?_)
  show Wp _ _ _ _ (T.setTop (mkF _ _ _ []))
  refine w_aloadN X q7_2_184 rfl (rfl) ?_
  refine w_dup X q7_2_185 rfl ?_
  refine w_getF X q7_2_186 (host := "") (Or.inl (wd_148 hw)) Via.refl f20 (fun T X => ?_)
  refine w_aload X q7_2_189 rfl (rfl) ?_
  refine w_arrlenC X (0 : Int32) q7_2_191 (A_ns.ext X.old.2) hns ?_
  refine w_iadd X q7_2_192 ?_
  have f23 := ((((Ea.wr W1).wr W2).keep Kc3).wr W4)
  refine w_putF X q7_2_193 (host := "") (Or.inl (wd_148 hw)) Via.refl f20 f23 (Or.inl (wd_149 hw)) (wd_7 hw) (ty := .int) (by decide) rfl rfl ga (fun T h5 X W5 => ?_)
  have f24 := f20.same W5
  have K25 : Keep h0 h5 [a, nm, ids, pr, ln, se, en] := K18.wr W5 (Or.inl (List.mem_of_getElem? (i := 0) rfl))
  refine w_aloadN X q7_2_196 rfl (rfl) ?_
  have f26 := (((((F_setEnd.other W1 (Or.inl (Nat.ne_of_lt o0))).other W2 (Or.inl (Nat.ne_of_lt (Nat.lt_trans o0 o1)))).keep Kc3 (by simp only [List.mem_cons, List.not_mem_nil, or_false, not_or]; exact ⟨(Nat.ne_of_lt (Nat.lt_trans (Nat.lt_trans o0 o1) o2)), (Nat.ne_of_lt (Nat.lt_trans (Nat.lt_trans (Nat.lt_trans (Nat.lt_trans o0 o1) o2) o3) o4))⟩)).other W4 (Or.inl (Nat.ne_of_lt (Nat.lt_trans (Nat.lt_trans (Nat.lt_trans (Nat.lt_trans (Nat.lt_trans o0 o1) o2) o3) o4) o5)))).other W5 (Or.inr (slot_ne (Or.inl (wd_89 hw)) (Or.inl (wd_149 hw)) (by decide) (t := (.array .int)) (t' := .int) (by decide) (by decide))))
  refine w_getF X q7_2_197 (host := "") (Or.inl (wd_88 hw)) Via.refl f26 (fun T X => ?_)
  refine w_aloadN X q7_2_200 rfl (rfl) ?_
  have f27 := ((f16.other W4 (Or.inl (Nat.ne_of_lt (Nat.lt_trans (Nat.lt_trans (Nat.lt_trans (Nat.lt_trans (Nat.lt_trans o0 o1) o2) o3) o4) o5)))).other W5 (Or.inr (slot_ne (Or.inl (wd_112 hw)) (Or.inl (wd_149 hw)) (by decide) (t := .int) (t' := .int) (by decide) (by decide))))
  refine w_getF X q7_2_201 (host := "") (Or.inl (wd_111 hw)) Via.refl f27 (fun T X => ?_)
  refine w_aloadN X q7_2_204 rfl (rfl) ?_
  refine w_getF X q7_2_205 (host := "") (Or.inl (wd_148 hw)) Via.refl f24 (fun T X => ?_)
  have f28 := (((((A_se.other W1 (Ne.symm (Nat.ne_of_lt (Nat.lt_trans (Nat.lt_trans (Nat.lt_trans (Nat.lt_trans (Nat.lt_trans o1 o2) o3) o4) o5) o6)))).other W2 (Ne.symm (Nat.ne_of_lt (Nat.lt_trans (Nat.lt_trans (Nat.lt_trans (Nat.lt_trans o2 o3) o4) o5) o6)))).keep Kc3 (by simp only [List.mem_cons, List.not_mem_nil, or_false, not_or]; exact ⟨(Ne.symm (Nat.ne_of_lt (Nat.lt_trans (Nat.lt_trans (Nat.lt_trans o3 o4) o5) o6))), (Ne.symm (Nat.ne_of_lt (Nat.lt_trans o5 o6)))⟩)).other W4 (Ne.symm (Nat.ne_of_lt o6))).other W5 (Ne.symm (Nat.ne_of_lt (Nat.lt_trans (Nat.lt_trans (Nat.lt_trans (Nat.lt_trans (Nat.lt_trans (Nat.lt_trans o0 o1) o2) o3) o4) o5) o6))))
  refine w_iastore X q7_2_208 f28 (by decide) rfl (Nat.le_trans ga (Nat.le_of_lt (Nat.lt_trans (Nat.lt_trans (Nat.lt_trans (Nat.lt_trans (Nat.lt_trans (Nat.lt_trans o0 o1) o2) o3) o4) o5) o6))) (.int (0 : Int32)) rfl ((.int se0) :: (.int se1) :: (.int (0 : Int32)) :: (.int se3) :: own_z60) rfl (fun T h6 X W6 A6 => ?_)
  have K29 : Keep h0 h6 [a, nm, ids, pr, ln, se, en] := K25.wr W6 (Or.inl (List.mem_of_getElem? (i := 5) rfl))
  refine w_aloadN X q7_2_209 rfl (rfl) ?_
  refine w_dup X q7_2_210 rfl ?_
  have f30 := (f27.other W6 (Or.inl (Nat.ne_of_lt (Nat.lt_trans (Nat.lt_trans (Nat.lt_trans (Nat.lt_trans (Nat.lt_trans (Nat.lt_trans o0 o1) o2) o3) o4) o5) o6))))
  refine w_getF X q7_2_211 (host := "") (Or.inl (wd_111 hw)) Via.refl f30 (fun T X => ?_)
  refine w_iconst X (1 : Int32) q7_2_214 rfl ?_
  refine w_iadd X q7_2_215 ?_
  have f31 := ((f23.wr W5).wr W6)
  refine w_putF X q7_2_216 (host := "") (Or.inl (wd_111 hw)) Via.refl f30 f31 (Or.inl (wd_112 hw)) (wd_7 hw) (ty := .int) (by decide) rfl rfl ga (fun T h7 X W7 => ?_)
  have f32 := f30.same W7
  have K33 : Keep h0 h7 [a, nm, ids, pr, ln, se, en] := K29.wr W7 (Or.inl (List.mem_of_getElem? (i := 0) rfl))
  have f34 := (f31.wr W7)
  have f35 := (((((((F_ids.other W1 (Or.inl (Nat.ne_of_lt o0))).other W2 (Or.inl (Nat.ne_of_lt (Nat.lt_trans o0 o1)))).keep Kc3 (by simp only [List.mem_cons, List.not_mem_nil, or_false, not_or]; exact ⟨(Nat.ne_of_lt (Nat.lt_trans (Nat.lt_trans o0 o1) o2)), (Nat.ne_of_lt (Nat.lt_trans (Nat.lt_trans (Nat.lt_trans (Nat.lt_trans o0 o1) o2) o3) o4))⟩)).other W4 (Or.inl (Nat.ne_of_lt (Nat.lt_trans (Nat.lt_trans (Nat.lt_trans (Nat.lt_trans (Nat.lt_trans o0 o1) o2) o3) o4) o5)))).other W5 (Or.inr (slot_ne (Or.inl (wd_24 hw)) (Or.inl (wd_149 hw)) (by decide) (t := (.array .int)) (t' := .int) (by decide) (by decide)))).other W6 (Or.inl (Nat.ne_of_lt (Nat.lt_trans (Nat.lt_trans (Nat.lt_trans (Nat.lt_trans (Nat.lt_trans (Nat.lt_trans o0 o1) o2) o3) o4) o5) o6)))).other W7 (Or.inr (slot_ne (Or.inl (wd_24 hw)) (Or.inl (wd_112 hw)) (by decide) (t := (.array .int)) (t' := .int) (by decide) (by decide))))
  have f36 := ((((((f2.other W2 (Or.inl (Nat.ne_of_lt (Nat.lt_trans o0 o1)))).keep Kc3 (by simp only [List.mem_cons, List.not_mem_nil, or_false, not_or]; exact ⟨(Nat.ne_of_lt (Nat.lt_trans (Nat.lt_trans o0 o1) o2)), (Nat.ne_of_lt (Nat.lt_trans (Nat.lt_trans (Nat.lt_trans (Nat.lt_trans o0 o1) o2) o3) o4))⟩)).other W4 (Or.inl (Nat.ne_of_lt (Nat.lt_trans (Nat.lt_trans (Nat.lt_trans (Nat.lt_trans (Nat.lt_trans o0 o1) o2) o3) o4) o5)))).other W5 (Or.inr (slot_ne (Or.inl (wd_26 hw)) (Or.inl (wd_149 hw)) (by decide) (t := (.array .int)) (t' := .int) (by decide) (by decide)))).other W6 (Or.inl (Nat.ne_of_lt (Nat.lt_trans (Nat.lt_trans (Nat.lt_trans (Nat.lt_trans (Nat.lt_trans (Nat.lt_trans o0 o1) o2) o3) o4) o5) o6)))).other W7 (Or.inr (slot_ne (Or.inl (wd_26 hw)) (Or.inl (wd_112 hw)) (by decide) (t := (.array .int)) (t' := .int) (by decide) (by decide))))
  have f37 := (((((f6.keep Kc3 (by simp only [List.mem_cons, List.not_mem_nil, or_false, not_or]; exact ⟨(Nat.ne_of_lt (Nat.lt_trans (Nat.lt_trans o0 o1) o2)), (Nat.ne_of_lt (Nat.lt_trans (Nat.lt_trans (Nat.lt_trans (Nat.lt_trans o0 o1) o2) o3) o4))⟩)).other W4 (Or.inl (Nat.ne_of_lt (Nat.lt_trans (Nat.lt_trans (Nat.lt_trans (Nat.lt_trans (Nat.lt_trans o0 o1) o2) o3) o4) o5)))).other W5 (Or.inr (slot_ne (Or.inr (wd_85 hw)) (Or.inl (wd_149 hw)) (by decide) (t := (.object "com/example/flicker/flicker/game/VertexNames")) (t' := .int) (by decide) (by decide)))).other W6 (Or.inl (Nat.ne_of_lt (Nat.lt_trans (Nat.lt_trans (Nat.lt_trans (Nat.lt_trans (Nat.lt_trans (Nat.lt_trans o0 o1) o2) o3) o4) o5) o6)))).other W7 (Or.inr (slot_ne (Or.inr (wd_85 hw)) (Or.inl (wd_112 hw)) (by decide) (t := (.object "com/example/flicker/flicker/game/VertexNames")) (t' := .int) (by decide) (by decide))))
  have f38 := ((((f15.other W4 (Or.inl (Nat.ne_of_lt (Nat.lt_trans (Nat.lt_trans (Nat.lt_trans (Nat.lt_trans (Nat.lt_trans o0 o1) o2) o3) o4) o5)))).other W5 (Or.inr (slot_ne (Or.inl (wd_87 hw)) (Or.inl (wd_149 hw)) (by decide) (t := (.array .int)) (t' := .int) (by decide) (by decide)))).other W6 (Or.inl (Nat.ne_of_lt (Nat.lt_trans (Nat.lt_trans (Nat.lt_trans (Nat.lt_trans (Nat.lt_trans (Nat.lt_trans o0 o1) o2) o3) o4) o5) o6)))).other W7 (Or.inr (slot_ne (Or.inl (wd_87 hw)) (Or.inl (wd_112 hw)) (by decide) (t := (.array .int)) (t' := .int) (by decide) (by decide))))
  have f39 := ((f26.other W6 (Or.inl (Nat.ne_of_lt (Nat.lt_trans (Nat.lt_trans (Nat.lt_trans (Nat.lt_trans (Nat.lt_trans (Nat.lt_trans o0 o1) o2) o3) o4) o5) o6)))).other W7 (Or.inr (slot_ne (Or.inl (wd_89 hw)) (Or.inl (wd_112 hw)) (by decide) (t := (.array .int)) (t' := .int) (by decide) (by decide))))
  have f40 := (((f19.other W5 (Or.inr (slot_ne (Or.inl (wd_91 hw)) (Or.inl (wd_149 hw)) (by decide) (t := (.array .int)) (t' := .int) (by decide) (by decide)))).other W6 (Or.inl (Nat.ne_of_lt (Nat.lt_trans (Nat.lt_trans (Nat.lt_trans (Nat.lt_trans (Nat.lt_trans (Nat.lt_trans o0 o1) o2) o3) o4) o5) o6)))).other W7 (Or.inr (slot_ne (Or.inl (wd_91 hw)) (Or.inl (wd_112 hw)) (by decide) (t := (.array .int)) (t' := .int) (by decide) (by decide))))
  have f41 := ((f24.other W6 (Or.inl (Nat.ne_of_lt (Nat.lt_trans (Nat.lt_trans (Nat.lt_trans (Nat.lt_trans (Nat.lt_trans (Nat.lt_trans o0 o1) o2) o3) o4) o5) o6)))).other W7 (Or.inr (slot_ne (Or.inl (wd_149 hw)) (Or.inl (wd_112 hw)) (by decide) (t := .int) (t' := .int) (by decide) (by decide))))
  have f42 := (((((((Fb.other W1 (Or.inl (Nat.ne_of_lt o0))).other W2 (Or.inl (Nat.ne_of_lt (Nat.lt_trans o0 o1)))).keep Kc3 (by simp only [List.mem_cons, List.not_mem_nil, or_false, not_or]; exact ⟨(Nat.ne_of_lt (Nat.lt_trans (Nat.lt_trans o0 o1) o2)), (Nat.ne_of_lt (Nat.lt_trans (Nat.lt_trans (Nat.lt_trans (Nat.lt_trans o0 o1) o2) o3) o4))⟩)).other W4 (Or.inl (Nat.ne_of_lt (Nat.lt_trans (Nat.lt_trans (Nat.lt_trans (Nat.lt_trans (Nat.lt_trans o0 o1) o2) o3) o4) o5)))).other W5 (Or.inr (slot_ne (Or.inl (wd_114 hw)) (Or.inl (wd_149 hw)) (by decide) (t := (.array .long)) (t' := .int) (by decide) (by decide)))).other W6 (Or.inl (Nat.ne_of_lt (Nat.lt_trans (Nat.lt_trans (Nat.lt_trans (Nat.lt_trans (Nat.lt_trans (Nat.lt_trans o0 o1) o2) o3) o4) o5) o6)))).other W7 (Or.inr (slot_ne (Or.inl (wd_114 hw)) (Or.inl (wd_112 hw)) (by decide) (t := (.array .long)) (t' := .int) (by decide) (by decide))))
  have f43 := (((((f7.keep Kc3).wr W4).wr W5).wr W6).wr W7)
  have f44 := ((((Ft3.other W4 (Or.inl (Nat.ne_of_lt (Nat.lt_trans (Nat.lt_trans o3 o4) o5)))).other W5 (Or.inl (Ne.symm (Nat.ne_of_lt (Nat.lt_trans (Nat.lt_trans o0 o1) o2))))).other W6 (Or.inl (Nat.ne_of_lt (Nat.lt_trans (Nat.lt_trans (Nat.lt_trans o3 o4) o5) o6)))).other W7 (Or.inl (Ne.symm (Nat.ne_of_lt (Nat.lt_trans (Nat.lt_trans o0 o1) o2)))))
  have f45 := ((((Fe3.other W4 (Or.inl (Nat.ne_of_lt (Nat.lt_trans (Nat.lt_trans o3 o4) o5)))).other W5 (Or.inl (Ne.symm (Nat.ne_of_lt (Nat.lt_trans (Nat.lt_trans o0 o1) o2))))).other W6 (Or.inl (Nat.ne_of_lt (Nat.lt_trans (Nat.lt_trans (Nat.lt_trans o3 o4) o5) o6)))).other W7 (Or.inl (Ne.symm (Nat.ne_of_lt (Nat.lt_trans (Nat.lt_trans o0 o1) o2)))))
  have f46 := ((((Fc3.other W4 (Or.inl (Nat.ne_of_lt (Nat.lt_trans (Nat.lt_trans o3 o4) o5)))).other W5 (Or.inl (Ne.symm (Nat.ne_of_lt (Nat.lt_trans (Nat.lt_trans o0 o1) o2))))).other W6 (Or.inl (Nat.ne_of_lt (Nat.lt_trans (Nat.lt_trans (Nat.lt_trans o3 o4) o5) o6)))).other W7 (Or.inl (Ne.symm (Nat.ne_of_lt (Nat.lt_trans (Nat.lt_trans o0 o1) o2)))))
  have f47 := (((((f11.keep Kc3).wr W4).wr W5).wr W6).wr W7)
  have f48 := (((((f12.keep Kc3 (by simp only [List.mem_cons, List.not_mem_nil, or_false, not_or]; exact ⟨(Ne.symm (Nat.ne_of_lt o3)), (Nat.ne_of_lt o4)⟩)).other W4 (Or.inl (Nat.ne_of_lt (Nat.lt_trans o4 o5)))).other W5 (Or.inl (Ne.symm (Nat.ne_of_lt (Nat.lt_trans (Nat.lt_trans (Nat.lt_trans o0 o1) o2) o3))))).other W6 (Or.inl (Nat.ne_of_lt (Nat.lt_trans (Nat.lt_trans o4 o5) o6)))).other W7 (Or.inl (Ne.symm (Nat.ne_of_lt (Nat.lt_trans (Nat.lt_trans (Nat.lt_trans o0 o1) o2) o3)))))
  have f49 := ((((((A1.other W2 (Nat.ne_of_lt o1)).keep Kc3 (by simp only [List.mem_cons, List.not_mem_nil, or_false, not_or]; exact ⟨(Nat.ne_of_lt (Nat.lt_trans o1 o2)), (Nat.ne_of_lt (Nat.lt_trans (Nat.lt_trans (Nat.lt_trans o1 o2) o3) o4))⟩)).other W4 (Nat.ne_of_lt (Nat.lt_trans (Nat.lt_trans (Nat.lt_trans (Nat.lt_trans o1 o2) o3) o4) o5))).other W5 (Ne.symm (Nat.ne_of_lt o0))).other W6 (Nat.ne_of_lt (Nat.lt_trans (Nat.lt_trans (Nat.lt_trans (Nat.lt_trans (Nat.lt_trans o1 o2) o3) o4) o5) o6))).other W7 (Ne.symm (Nat.ne_of_lt o0)))
  have f50 := (((((A2.keep Kc3 (by simp only [List.mem_cons, List.not_mem_nil, or_false, not_or]; exact ⟨(Nat.ne_of_lt o2), (Nat.ne_of_lt (Nat.lt_trans (Nat.lt_trans o2 o3) o4))⟩)).other W4 (Nat.ne_of_lt (Nat.lt_trans (Nat.lt_trans (Nat.lt_trans o2 o3) o4) o5))).other W5 (Ne.symm (Nat.ne_of_lt (Nat.lt_trans o0 o1)))).other W6 (Nat.ne_of_lt (Nat.lt_trans (Nat.lt_trans (Nat.lt_trans (Nat.lt_trans o2 o3) o4) o5) o6))).other W7 (Ne.symm (Nat.ne_of_lt (Nat.lt_trans o0 o1))))
  have f51 := ((((A3.other W4 (Nat.ne_of_lt o5)).other W5 (Ne.symm (Nat.ne_of_lt (Nat.lt_trans (Nat.lt_trans (Nat.lt_trans (Nat.lt_trans o0 o1) o2) o3) o4)))).other W6 (Nat.ne_of_lt (Nat.lt_trans o5 o6))).other W7 (Ne.symm (Nat.ne_of_lt (Nat.lt_trans (Nat.lt_trans (Nat.lt_trans (Nat.lt_trans o0 o1) o2) o3) o4))))
  have f52 := (((A4.other W5 (Ne.symm (Nat.ne_of_lt (Nat.lt_trans (Nat.lt_trans (Nat.lt_trans (Nat.lt_trans (Nat.lt_trans o0 o1) o2) o3) o4) o5)))).other W6 (Nat.ne_of_lt o6)).other W7 (Ne.symm (Nat.ne_of_lt (Nat.lt_trans (Nat.lt_trans (Nat.lt_trans (Nat.lt_trans (Nat.lt_trans o0 o1) o2) o3) o4) o5))))
  have f53 := (A6.other W7 (Ne.symm (Nat.ne_of_lt (Nat.lt_trans (Nat.lt_trans (Nat.lt_trans (Nat.lt_trans (Nat.lt_trans (Nat.lt_trans o0 o1) o2) o3) o4) o5) o6))))
  have f54 := (((f21.other W5 (Ne.symm (Nat.ne_of_lt (Nat.lt_trans (Nat.lt_trans (Nat.lt_trans (Nat.lt_trans (Nat.lt_trans (Nat.lt_trans (Nat.lt_trans o0 o1) o2) o3) o4) o5) o6) o7)))).other W6 (Ne.symm (Nat.ne_of_lt o7))).other W7 (Ne.symm (Nat.ne_of_lt (Nat.lt_trans (Nat.lt_trans (Nat.lt_trans (Nat.lt_trans (Nat.lt_trans (Nat.lt_trans (Nat.lt_trans o0 o1) o2) o3) o4) o5) o6) o7))))
  exact w_retV X q7_2_219 ⟨rfl, K33, ga, o0, o1, o2, o3, o4, o5, o6, o7, f34, f35, f36, f37, f38, f39, f40, f32, f41, f42, f43, f44, f45, f46, f47, f48, f49, ⟨_, _, _, _, f50⟩, ⟨_, _, _, _, f51⟩, ⟨_, _, _, _, f52⟩, ⟨_, _, _, _, f53⟩, ⟨_, _, _, _, f54⟩⟩ (by decide) (by decide)
theorem m_vtx_3 {l : Launch} {Z : State} {a0 : Array Value} {n0 : Nat} (hw : own_hw a0 Z) {h0 : Heap} {a ids pr nm sb en ln se ss : Addr} {x0 x1 x2 x3 : Int32} {p1 p2 ns : Addr} {cN : Cell} {id0 line0 : Int32} (S_p2 : Sta Z Z.heap "com/example/flicker/flicker/game/Player" "TWO" "Lcom/example/flicker/flicker/game/Player;" (.ref p2)) (np : p1 ≠ p2) (A_ns : Arr Z Z.heap ns cN .int) (hns : cN.slots.size.toInt32 = 0) (hG : own_GB Z h0 n0 a ids pr nm sb en ln se ss (3 : Int32) x0 x1 x2 x3) :
    Does l Z n0 ⟨"com/example/flicker/flicker/game/GameBuilder", "vertex", "(ILcom/example/flicker/flicker/game/Player;ILjava/lang/CharSequence;[II)V"⟩ prog_7_method_2_code 8 none [] { frames := 3, cells := 0, slots := 0, locals := 39 } #[(.ref a), (.int id0), (.ref p1), (.int (0 : Int32)), .null, (.ref ns), (.int line0)] h0 (fun v h => v = none ∧ Keep h0 h [a, nm, ids, pr, ln, se, en] ∧ own_GB Z h n0 a ids pr nm sb en ln se ss (4 : Int32) x0 x1 x2 id0) := by
  refine Does.start (plainFor_of_name pn_5) ?_
  intro p e s m below meth c T X
  replace X : Sd _ _ _ _ _ "com/example/flicker/flicker/game/GameBuilder" "vertex" _ _ _ _ _ _ _ _ _ _ _ _ _ _ _ _ := X
  refine Wp.cast (g' := mkF m 0 #[.val (.ref a), .val (.int id0), .val (.ref p1), .val (.int (0 : Int32)), .val .null, .val (.ref ns), .val (.int line0), .unset] []) (by first | (simp [entryFrame, mkF, argsToLocals, Value.category, maxLocals]; done) | rfl) ?_
  obtain ⟨ga, o0, o1, o2, o3, o4, o5, o6, o7, Ea, F_ids, F_priorities, F_names, F_vertexLines, F_setEnd, F_sets, F_vc, F_sl, Fb, En, Ft, Fe, Fc, Es, Fs, Ai, Ip, Ie, Il, Is, It⟩ := hG
  obtain ⟨pr0, pr1, pr2, pr3, A_pr⟩ := Ip
  obtain ⟨en0, en1, en2, en3, A_en⟩ := Ie
  obtain ⟨ln0, ln1, ln2, ln3, A_ln⟩ := Il
  obtain ⟨se0, se1, se2, se3, A_se⟩ := Is
  obtain ⟨ss0, ss1, ss2, ss3, A_ss⟩ := It
  refine w_aloadN X q7_2_0 rfl (rfl) ?_
  refine w_getF X q7_2_1 (host := "") (Or.inl (wd_111 hw)) Via.refl F_vc (fun T X => ?_)
  refine w_aloadN X q7_2_4 rfl (rfl) ?_
  refine w_getF X q7_2_5 (host := "") (Or.inl (wd_23 hw)) Via.refl F_ids (fun T X => ?_)
  refine w_arrlen X (64 : Int32) q7_2_8 Ai rfl ?_
  refine w_icmpne X q7_2_9 (fun _ => ?_) (fun hc => absurd hc (by decide))
  refine w_aloadN X q7_2_72 rfl (rfl) ?_
  refine w_getF X q7_2_73 (host := "") (Or.inl (wd_90 hw)) Via.refl F_sets (fun T X => ?_)
  refine w_arrlen X (64 : Int32) q7_2_76 A_ss rfl ?_
  refine w_aloadN X q7_2_77 rfl (rfl) ?_
  refine w_getF X q7_2_78 (host := "") (Or.inl (wd_148 hw)) Via.refl F_sl (fun T X => ?_)
  refine w_isub X q7_2_81 ?_
  refine w_aload X q7_2_82 rfl (rfl) ?_
  refine w_arrlenC X (0 : Int32) q7_2_84 (A_ns.ext X.old.2) hns ?_
  refine w_icmpge X q7_2_85 (fun _ => ?_) (fun hc => absurd hc (by decide))
  refine w_aloadN X q7_2_109 rfl (rfl) ?_
  refine w_getF X q7_2_110 (host := "") (Or.inl (wd_23 hw)) Via.refl F_ids (fun T X => ?_)
  refine w_aloadN X q7_2_113 rfl (rfl) ?_
  refine w_getF X q7_2_114 (host := "") (Or.inl (wd_111 hw)) Via.refl F_vc (fun T X => ?_)
  refine w_iloadN X q7_2_117 rfl ?_
  refine w_iastore X q7_2_118 Ai (by decide) rfl (Nat.le_trans ga (Nat.le_of_lt o0)) (.int id0) rfl ((.int x0) :: (.int x1) :: (.int x2) :: (.int id0) :: own_z60) rfl (fun T h1 X W1 A1 => ?_)
  have K1 : Keep h0 h1 [a, nm, ids, pr, ln, se, en] := (Keep.refl h0 [a, nm, ids, pr, ln, se, en]).wr W1 (Or.inl (List.mem_of_getElem? (i := 2) rfl))
  refine w_aloadN X q7_2_119 rfl (rfl) ?_
  have f2 := (F_priorities.other W1 (Or.inl (Nat.ne_of_lt o0)))
  refine w_getF X q7_2_120 (host := "") (Or.inl (wd_25 hw)) Via.refl f2 (fun T X => ?_)
  refine w_aloadN X q7_2_123 rfl (rfl) ?_
  have f3 := (F_vc.other W1 (Or.inl (Nat.ne_of_lt o0)))
  refine w_getF X q7_2_124 (host := "") (Or.inl (wd_111 hw)) Via.refl f3 (fun T X => ?_)
  refine w_iloadN X q7_2_127 rfl ?_
  have f4 := (A_pr.other W1 (Ne.symm (Nat.ne_of_lt o1)))
  refine w_iastore X q7_2_128 f4 (by decide) rfl (Nat.le_trans ga (Nat.le_of_lt (Nat.lt_trans o0 o1))) (.int (0 : Int32)) rfl ((.int pr0) :: (.int pr1) :: (.int pr2) :: (.int (0 : Int32)) :: own_z60) rfl (fun T h2 X W2 A2 => ?_)
  have K5 : Keep h0 h2 [a, nm, ids, pr, ln, se, en] := K1.wr W2 (Or.inl (List.mem_of_getElem? (i := 3) rfl))
  refine w_aloadN X q7_2_129 rfl (rfl) ?_
  refine w_getS X q7_2_130 (host := "") (Or.inl (wd_150 hw)) Via.refl (S_p2.ext X.old.2) (fun T X => ?_)
  refine w_acmpne X (rfl) (rfl) q7_2_133 (fun _ => ?_) (fun hc => absurd hc (fun q => np (Value.ref.inj q)))
  refine w_aloadN X q7_2_147 rfl (rfl) ?_
  have f6 := ((F_names.other W1 (Or.inl (Nat.ne_of_lt o0))).other W2 (Or.inl (Nat.ne_of_lt (Nat.lt_trans o0 o1))))
  refine w_getF X q7_2_148 (host := "") (Or.inl (wd_84 hw)) Via.refl f6 (fun T X => ?_)
  refine w_aload X q7_2_151 rfl (rfl) ?_
  have f7 := ((En.wr W1).wr W2)
  have f8 := ((Ft.other W1 (Or.inl (Ne.symm (Nat.ne_of_lt (Nat.lt_trans o1 o2))))).other W2 (Or.inl (Ne.symm (Nat.ne_of_lt o2))))
  have f9 := ((Fe.other W1 (Or.inl (Ne.symm (Nat.ne_of_lt (Nat.lt_trans o1 o2))))).other W2 (Or.inl (Ne.symm (Nat.ne_of_lt o2))))
  have f10 := ((Fc.other W1 (Or.inl (Ne.symm (Nat.ne_of_lt (Nat.lt_trans o1 o2))))).other W2 (Or.inl (Ne.symm (Nat.ne_of_lt o2))))
  have f11 := ((Es.wr W1).wr W2)
  have f12 := ((Fs.other W1 (Or.inl (Ne.symm (Nat.ne_of_lt (Nat.lt_trans (Nat.lt_trans o1 o2) o3))))).other W2 (Or.inl (Ne.symm (Nat.ne_of_lt (Nat.lt_trans o2 o3)))))
  have f13 := ((A_en.other W1 (Ne.symm (Nat.ne_of_lt (Nat.lt_trans (Nat.lt_trans (Nat.lt_trans o1 o2) o3) o4)))).other W2 (Ne.symm (Nat.ne_of_lt (Nat.lt_trans (Nat.lt_trans o2 o3) o4))))
  refine w_callV X q7_2_153 (wd_152 hw) (wd_153 hw) (notFace_of_selects (args := #[]) (mvT X.hZ (wd_155 hw))) (wd_155 hw) (wd_154 hw) (wd_53 hw) (wd_156 hw) (by decide) f7 (argsL := [.null]) (S := []) (m_add_3 hw (Nat.le_trans ga (Nat.le_of_lt (Nat.lt_trans (Nat.lt_trans o0 o1) o2))) (Nat.le_trans ga (Nat.le_of_lt (Nat.lt_trans (Nat.lt_trans (Nat.lt_trans (Nat.lt_trans o0 o1) o2) o3) o4))) (Nat.ne_of_lt o4) (Nat.ne_of_lt (Nat.lt_trans o3 o4)) (Nat.ne_of_lt o3) f7 f8 f9 f10 f11 f12 f13) pd_4 rfl rfl rfl (by decide) (Nat.le_of_ble_eq_true rfl) (by decide) (by decide) (fun T h3 v3 L3 X q3 => ?_)
  obtain ⟨rfl, Kc3, Ft3, Fe3, Fc3, Ie3⟩ := q3
  have K14 : Keep h0 h3 [a, nm, ids, pr, ln, se, en] := K5.trans Kc3 (fun x hx => by simp only [List.mem_cons, List.not_mem_nil, or_false] at hx; rcases hx with rfl | rfl <;> first | exact (Or.inl (List.mem_of_getElem? (i := 1) rfl)) | exact (Or.inl (List.mem_of_getElem? (i := 6) rfl)))
  obtain ⟨en0, en1, en2, en3, A3⟩ := Ie3
  show Wp _ _ _ _ (T.setTop (mkF _ _ _ []))
  refine w_aloadN X q7_2_156 rfl (rfl) ?_
  have f15 := (((F_vertexLines.other W1 (Or.inl (Nat.ne_of_lt o0))).other W2 (Or.inl (Nat.ne_of_lt (Nat.lt_trans o0 o1)))).keep Kc3 (by simp only [List.mem_cons, List.not_mem_nil, or_false, not_or]; exact ⟨(Nat.ne_of_lt (Nat.lt_trans (Nat.lt_trans o0 o1) o2)), (Nat.ne_of_lt (Nat.lt_trans (Nat.lt_trans (Nat.lt_trans (Nat.lt_trans o0 o1) o2) o3) o4))⟩))
  refine w_getF X q7_2_157 (host := "") (Or.inl (wd_86 hw)) Via.refl f15 (fun T X => ?_)
  refine w_aloadN X q7_2_160 rfl (rfl) ?_
  have f16 := ((f3.other W2 (Or.inl (Nat.ne_of_lt (Nat.lt_trans o0 o1)))).keep Kc3 (by simp only [List.mem_cons, List.not_mem_nil, or_false, not_or]; exact ⟨(Nat.ne_of_lt (Nat.lt_trans (Nat.lt_trans o0 o1) o2)), (Nat.ne_of_lt (Nat.lt_trans (Nat.lt_trans (Nat.lt_trans (Nat.lt_trans o0 o1) o2) o3) o4))⟩))
  refine w_getF X q7_2_161 (host := "") (Or.inl (wd_111 hw)) Via.refl f16 (fun T X => ?_)
  refine w_iload X q7_2_164 rfl ?_
  have f17 := (((A_ln.other W1 (Ne.symm (Nat.ne_of_lt (Nat.lt_trans (Nat.lt_trans (Nat.lt_trans (Nat.lt_trans o1 o2) o3) o4) o5)))).other W2 (Ne.symm (Nat.ne_of_lt (Nat.lt_trans (Nat.lt_trans (Nat.lt_trans o2 o3) o4) o5)))).keep Kc3 (by simp only [List.mem_cons, List.not_mem_nil, or_false, not_or]; exact ⟨(Ne.symm (Nat.ne_of_lt (Nat.lt_trans (Nat.lt_trans o3 o4) o5))), (Ne.symm (Nat.ne_of_lt o5))⟩))
  refine w_iastore X q7_2_166 f17 (by decide) rfl (Nat.le_trans ga (Nat.le_of_lt (Nat.lt_trans (Nat.lt_trans (Nat.lt_trans (Nat.lt_trans (Nat.lt_trans o0 o1) o2) o3) o4) o5))) (.int line0) rfl ((.int ln0) :: (.int ln1) :: (.int ln2) :: (.int line0) :: own_z60) rfl (fun T h4 X W4 A4 => ?_)
  have K18 : Keep h0 h4 [a, nm, ids, pr, ln, se, en] := K14.wr W4 (Or.inl (List.mem_of_getElem? (i := 4) rfl))
  refine w_aload X q7_2_167 rfl (rfl) ?_
  refine w_iconst X (0 : Int32) q7_2_169 rfl ?_
  refine w_aloadN X q7_2_170 rfl (rfl) ?_
  have f19 := ((((F_sets.other W1 (Or.inl (Nat.ne_of_lt o0))).other W2 (Or.inl (Nat.ne_of_lt (Nat.lt_trans o0 o1)))).keep Kc3 (by simp only [List.mem_cons, List.not_mem_nil, or_false, not_or]; exact ⟨(Nat.ne_of_lt (Nat.lt_trans (Nat.lt_trans o0 o1) o2)), (Nat.ne_of_lt (Nat.lt_trans (Nat.lt_trans (Nat.lt_trans (Nat.lt_trans o0 o1) o2) o3) o4))⟩)).other W4 (Or.inl (Nat.ne_of_lt (Nat.lt_trans (Nat.lt_trans (Nat.lt_trans (Nat.lt_trans (Nat.lt_trans o0 o1) o2) o3) o4) o5))))
  refine w_getF X q7_2_171 (host := "") (Or.inl (wd_90 hw)) Via.refl f19 (fun T X => ?_)
  refine w_aloadN X q7_2_174 rfl (rfl) ?_
  have f20 := ((((F_sl.other W1 (Or.inl (Nat.ne_of_lt o0))).other W2 (Or.inl (Nat.ne_of_lt (Nat.lt_trans o0 o1)))).keep Kc3 (by simp only [List.mem_cons, List.not_mem_nil, or_false, not_or]; exact ⟨(Nat.ne_of_lt (Nat.lt_trans (Nat.lt_trans o0 o1) o2)), (Nat.ne_of_lt (Nat.lt_trans (Nat.lt_trans (Nat.lt_trans (Nat.lt_trans o0 o1) o2) o3) o4))⟩)).other W4 (Or.inl (Nat.ne_of_lt (Nat.lt_trans (Nat.lt_trans (Nat.lt_trans (Nat.lt_trans (Nat.lt_trans o0 o1) o2) o3) o4) o5))))
  refine w_getF X q7_2_175 (host := "") (Or.inl (wd_148 hw)) Via.refl f20 (fun T X => ?_)
  refine w_aload X q7_2_178 rfl (rfl) ?_
  refine w_arrlenC X (0 : Int32) q7_2_180 (A_ns.ext X.old.2) hns ?_
  have f21 := ((((A_ss.other W1 (Ne.symm (Nat.ne_of_lt (Nat.lt_trans (Nat.lt_trans (Nat.lt_trans (Nat.lt_trans (Nat.lt_trans (Nat.lt_trans o1 o2) o3) o4) o5) o6) o7)))).other W2 (Ne.symm (Nat.ne_of_lt (Nat.lt_trans (Nat.lt_trans (Nat.lt_trans (Nat.lt_trans (Nat.lt_trans o2 o3) o4) o5) o6) o7)))).keep Kc3 (by simp only [List.mem_cons, List.not_mem_nil, or_false, not_or]; exact ⟨(Ne.symm (Nat.ne_of_lt (Nat.lt_trans (Nat.lt_trans (Nat.lt_trans (Nat.lt_trans o3 o4) o5) o6) o7))), (Ne.symm (Nat.ne_of_lt (Nat.lt_trans (Nat.lt_trans o5 o6) o7)))⟩)).other W4 (Ne.symm (Nat.ne_of_lt (Nat.lt_trans o6 o7))))
  obtain ⟨c22, Ac22, -⟩ := id f21
  refine w_cp0 X q7_2_181 (wd_171 hw) (wd_174 hw) (wd_172 hw) (wd_173 hw) (A_ns.ext X.old.2) Ac22 (by decide) (by show (0 : Int) ≤ _; omega) rfl (by decide) (Nat.le_of_ble_eq_true rfl) (fun T X => ?_)
  show Wp _ _ _ _ (T.setTop (mkF _ _ _ []))
  refine w_aloadN X q7_2_184 rfl (rfl) ?_
  refine w_dup X q7_2_185 rfl ?_
  refine w_getF X q7_2_186 (host := "") (Or.inl (wd_148 hw)) Via.refl f20 (fun T X => ?_)
  refine w_aload X q7_2_189 rfl (rfl) ?_
  refine w_arrlenC X (0 : Int32) q7_2_191 (A_ns.ext X.old.2) hns ?_
  refine w_iadd X q7_2_192 ?_
  have f23 := ((((Ea.wr W1).wr W2).keep Kc3).wr W4)
  refine w_putF X q7_2_193 (host := "") (Or.inl (wd_148 hw)) Via.refl f20 f23 (Or.inl (wd_149 hw)) (wd_7 hw) (ty := .int) (by decide) rfl rfl ga (fun T h5 X W5 => ?_)
  have f24 := f20.same W5
  have K25 : Keep h0 h5 [a, nm, ids, pr, ln, se, en] := K18.wr W5 (Or.inl (List.mem_of_getElem? (i := 0) rfl))
  refine w_aloadN X q7_2_196 rfl (rfl) ?_
  have f26 := (((((F_setEnd.other W1 (Or.inl (Nat.ne_of_lt o0))).other W2 (Or.inl (Nat.ne_of_lt (Nat.lt_trans o0 o1)))).keep Kc3 (by simp only [List.mem_cons, List.not_mem_nil, or_false, not_or]; exact ⟨(Nat.ne_of_lt (Nat.lt_trans (Nat.lt_trans o0 o1) o2)), (Nat.ne_of_lt (Nat.lt_trans (Nat.lt_trans (Nat.lt_trans (Nat.lt_trans o0 o1) o2) o3) o4))⟩)).other W4 (Or.inl (Nat.ne_of_lt (Nat.lt_trans (Nat.lt_trans (Nat.lt_trans (Nat.lt_trans (Nat.lt_trans o0 o1) o2) o3) o4) o5)))).other W5 (Or.inr (slot_ne (Or.inl (wd_89 hw)) (Or.inl (wd_149 hw)) (by decide) (t := (.array .int)) (t' := .int) (by decide) (by decide))))
  refine w_getF X q7_2_197 (host := "") (Or.inl (wd_88 hw)) Via.refl f26 (fun T X => ?_)
  refine w_aloadN X q7_2_200 rfl (rfl) ?_
  have f27 := ((f16.other W4 (Or.inl (Nat.ne_of_lt (Nat.lt_trans (Nat.lt_trans (Nat.lt_trans (Nat.lt_trans (Nat.lt_trans o0 o1) o2) o3) o4) o5)))).other W5 (Or.inr (slot_ne (Or.inl (wd_112 hw)) (Or.inl (wd_149 hw)) (by decide) (t := .int) (t' := .int) (by decide) (by decide))))
  refine w_getF X q7_2_201 (host := "") (Or.inl (wd_111 hw)) Via.refl f27 (fun T X => ?_)
  refine w_aloadN X q7_2_204 rfl (rfl) ?_
  refine w_getF X q7_2_205 (host := "") (Or.inl (wd_148 hw)) Via.refl f24 (fun T X => ?_)
  have f28 := (((((A_se.other W1 (Ne.symm (Nat.ne_of_lt (Nat.lt_trans (Nat.lt_trans (Nat.lt_trans (Nat.lt_trans (Nat.lt_trans o1 o2) o3) o4) o5) o6)))).other W2 (Ne.symm (Nat.ne_of_lt (Nat.lt_trans (Nat.lt_trans (Nat.lt_trans (Nat.lt_trans o2 o3) o4) o5) o6)))).keep Kc3 (by simp only [List.mem_cons, List.not_mem_nil, or_false, not_or]; exact ⟨(Ne.symm (Nat.ne_of_lt (Nat.lt_trans (Nat.lt_trans (Nat.lt_trans o3 o4) o5) o6))), (Ne.symm (Nat.ne_of_lt (Nat.lt_trans o5 o6)))⟩)).other W4 (Ne.symm (Nat.ne_of_lt o6))).other W5 (Ne.symm (Nat.ne_of_lt (Nat.lt_trans (Nat.lt_trans (Nat.lt_trans (Nat.lt_trans (Nat.lt_trans (Nat.lt_trans o0 o1) o2) o3) o4) o5) o6))))
  refine w_iastore X q7_2_208 f28 (by decide) rfl (Nat.le_trans ga (Nat.le_of_lt (Nat.lt_trans (Nat.lt_trans (Nat.lt_trans (Nat.lt_trans (Nat.lt_trans (Nat.lt_trans o0 o1) o2) o3) o4) o5) o6))) (.int (0 : Int32)) rfl ((.int se0) :: (.int se1) :: (.int se2) :: (.int (0 : Int32)) :: own_z60) rfl (fun T h6 X W6 A6 => ?_)
  have K29 : Keep h0 h6 [a, nm, ids, pr, ln, se, en] := K25.wr W6 (Or.inl (List.mem_of_getElem? (i := 5) rfl))
  refine w_aloadN X q7_2_209 rfl (rfl) ?_
  refine w_dup X q7_2_210 rfl ?_
  have f30 := (f27.other W6 (Or.inl (Nat.ne_of_lt (Nat.lt_trans (Nat.lt_trans (Nat.lt_trans (Nat.lt_trans (Nat.lt_trans (Nat.lt_trans o0 o1) o2) o3) o4) o5) o6))))
  refine w_getF X q7_2_211 (host := "") (Or.inl (wd_111 hw)) Via.refl f30 (fun T X => ?_)
  refine w_iconst X (1 : Int32) q7_2_214 rfl ?_
  refine w_iadd X q7_2_215 ?_
  have f31 := ((f23.wr W5).wr W6)
  refine w_putF X q7_2_216 (host := "") (Or.inl (wd_111 hw)) Via.refl f30 f31 (Or.inl (wd_112 hw)) (wd_7 hw) (ty := .int) (by decide) rfl rfl ga (fun T h7 X W7 => ?_)
  have f32 := f30.same W7
  have K33 : Keep h0 h7 [a, nm, ids, pr, ln, se, en] := K29.wr W7 (Or.inl (List.mem_of_getElem? (i := 0) rfl))
  have f34 := (f31.wr W7)
  have f35 := (((((((F_ids.other W1 (Or.inl (Nat.ne_of_lt o0))).other W2 (Or.inl (Nat.ne_of_lt (Nat.lt_trans o0 o1)))).keep Kc3 (by simp only [List.mem_cons, List.not_mem_nil, or_false, not_or]; exact ⟨(Nat.ne_of_lt (Nat.lt_trans (Nat.lt_trans o0 o1) o2)), (Nat.ne_of_lt (Nat.lt_trans (Nat.lt_trans (Nat.lt_trans (Nat.lt_trans o0 o1) o2) o3) o4))⟩)).other W4 (Or.inl (Nat.ne_of_lt (Nat.lt_trans (Nat.lt_trans (Nat.lt_trans (Nat.lt_trans (Nat.lt_trans o0 o1) o2) o3) o4) o5)))).other W5 (Or.inr (slot_ne (Or.inl (wd_24 hw)) (Or.inl (wd_149 hw)) (by decide) (t := (.array .int)) (t' := .int) (by decide) (by decide)))).other W6 (Or.inl (Nat.ne_of_lt (Nat.lt_trans (Nat.lt_trans (Nat.lt_trans (Nat.lt_trans (Nat.lt_trans (Nat.lt_trans o0 o1) o2) o3) o4) o5) o6)))).other W7 (Or.inr (slot_ne (Or.inl (wd_24 hw)) (Or.inl (wd_112 hw)) (by decide) (t := (.array .int)) (t' := .int) (by decide) (by decide))))
  have f36 := ((((((f2.other W2 (Or.inl (Nat.ne_of_lt (Nat.lt_trans o0 o1)))).keep Kc3 (by simp only [List.mem_cons, List.not_mem_nil, or_false, not_or]; exact ⟨(Nat.ne_of_lt (Nat.lt_trans (Nat.lt_trans o0 o1) o2)), (Nat.ne_of_lt (Nat.lt_trans (Nat.lt_trans (Nat.lt_trans (Nat.lt_trans o0 o1) o2) o3) o4))⟩)).other W4 (Or.inl (Nat.ne_of_lt (Nat.lt_trans (Nat.lt_trans (Nat.lt_trans (Nat.lt_trans (Nat.lt_trans o0 o1) o2) o3) o4) o5)))).other W5 (Or.inr (slot_ne (Or.inl (wd_26 hw)) (Or.inl (wd_149 hw)) (by decide) (t := (.array .int)) (t' := .int) (by decide) (by decide)))).other W6 (Or.inl (Nat.ne_of_lt (Nat.lt_trans (Nat.lt_trans (Nat.lt_trans (Nat.lt_trans (Nat.lt_trans (Nat.lt_trans o0 o1) o2) o3) o4) o5) o6)))).other W7 (Or.inr (slot_ne (Or.inl (wd_26 hw)) (Or.inl (wd_112 hw)) (by decide) (t := (.array .int)) (t' := .int) (by decide) (by decide))))
  have f37 := (((((f6.keep Kc3 (by simp only [List.mem_cons, List.not_mem_nil, or_false, not_or]; exact ⟨(Nat.ne_of_lt (Nat.lt_trans (Nat.lt_trans o0 o1) o2)), (Nat.ne_of_lt (Nat.lt_trans (Nat.lt_trans (Nat.lt_trans (Nat.lt_trans o0 o1) o2) o3) o4))⟩)).other W4 (Or.inl (Nat.ne_of_lt (Nat.lt_trans (Nat.lt_trans (Nat.lt_trans (Nat.lt_trans (Nat.lt_trans o0 o1) o2) o3) o4) o5)))).other W5 (Or.inr (slot_ne (Or.inr (wd_85 hw)) (Or.inl (wd_149 hw)) (by decide) (t := (.object "com/example/flicker/flicker/game/VertexNames")) (t' := .int) (by decide) (by decide)))).other W6 (Or.inl (Nat.ne_of_lt (Nat.lt_trans (Nat.lt_trans (Nat.lt_trans (Nat.lt_trans (Nat.lt_trans (Nat.lt_trans o0 o1) o2) o3) o4) o5) o6)))).other W7 (Or.inr (slot_ne (Or.inr (wd_85 hw)) (Or.inl (wd_112 hw)) (by decide) (t := (.object "com/example/flicker/flicker/game/VertexNames")) (t' := .int) (by decide) (by decide))))
  have f38 := ((((f15.other W4 (Or.inl (Nat.ne_of_lt (Nat.lt_trans (Nat.lt_trans (Nat.lt_trans (Nat.lt_trans (Nat.lt_trans o0 o1) o2) o3) o4) o5)))).other W5 (Or.inr (slot_ne (Or.inl (wd_87 hw)) (Or.inl (wd_149 hw)) (by decide) (t := (.array .int)) (t' := .int) (by decide) (by decide)))).other W6 (Or.inl (Nat.ne_of_lt (Nat.lt_trans (Nat.lt_trans (Nat.lt_trans (Nat.lt_trans (Nat.lt_trans (Nat.lt_trans o0 o1) o2) o3) o4) o5) o6)))).other W7 (Or.inr (slot_ne (Or.inl (wd_87 hw)) (Or.inl (wd_112 hw)) (by decide) (t := (.array .int)) (t' := .int) (by decide) (by decide))))
  have f39 := ((f26.other W6 (Or.inl (Nat.ne_of_lt (Nat.lt_trans (Nat.lt_trans (Nat.lt_trans (Nat.lt_trans (Nat.lt_trans (Nat.lt_trans o0 o1) o2) o3) o4) o5) o6)))).other W7 (Or.inr (slot_ne (Or.inl (wd_89 hw)) (Or.inl (wd_112 hw)) (by decide) (t := (.array .int)) (t' := .int) (by decide) (by decide))))
  have f40 := (((f19.other W5 (Or.inr (slot_ne (Or.inl (wd_91 hw)) (Or.inl (wd_149 hw)) (by decide) (t := (.array .int)) (t' := .int) (by decide) (by decide)))).other W6 (Or.inl (Nat.ne_of_lt (Nat.lt_trans (Nat.lt_trans (Nat.lt_trans (Nat.lt_trans (Nat.lt_trans (Nat.lt_trans o0 o1) o2) o3) o4) o5) o6)))).other W7 (Or.inr (slot_ne (Or.inl (wd_91 hw)) (Or.inl (wd_112 hw)) (by decide) (t := (.array .int)) (t' := .int) (by decide) (by decide))))
  have f41 := ((f24.other W6 (Or.inl (Nat.ne_of_lt (Nat.lt_trans (Nat.lt_trans (Nat.lt_trans (Nat.lt_trans (Nat.lt_trans (Nat.lt_trans o0 o1) o2) o3) o4) o5) o6)))).other W7 (Or.inr (slot_ne (Or.inl (wd_149 hw)) (Or.inl (wd_112 hw)) (by decide) (t := .int) (t' := .int) (by decide) (by decide))))
  have f42 := (((((((Fb.other W1 (Or.inl (Nat.ne_of_lt o0))).other W2 (Or.inl (Nat.ne_of_lt (Nat.lt_trans o0 o1)))).keep Kc3 (by simp only [List.mem_cons, List.not_mem_nil, or_false, not_or]; exact ⟨(Nat.ne_of_lt (Nat.lt_trans (Nat.lt_trans o0 o1) o2)), (Nat.ne_of_lt (Nat.lt_trans (Nat.lt_trans (Nat.lt_trans (Nat.lt_trans o0 o1) o2) o3) o4))⟩)).other W4 (Or.inl (Nat.ne_of_lt (Nat.lt_trans (Nat.lt_trans (Nat.lt_trans (Nat.lt_trans (Nat.lt_trans o0 o1) o2) o3) o4) o5)))).other W5 (Or.inr (slot_ne (Or.inl (wd_114 hw)) (Or.inl (wd_149 hw)) (by decide) (t := (.array .long)) (t' := .int) (by decide) (by decide)))).other W6 (Or.inl (Nat.ne_of_lt (Nat.lt_trans (Nat.lt_trans (Nat.lt_trans (Nat.lt_trans (Nat.lt_trans (Nat.lt_trans o0 o1) o2) o3) o4) o5) o6)))).other W7 (Or.inr (slot_ne (Or.inl (wd_114 hw)) (Or.inl (wd_112 hw)) (by decide) (t := (.array .long)) (t' := .int) (by decide) (by decide))))
  have f43 := (((((f7.keep Kc3).wr W4).wr W5).wr W6).wr W7)
  have f44 := ((((Ft3.other W4 (Or.inl (Nat.ne_of_lt (Nat.lt_trans (Nat.lt_trans o3 o4) o5)))).other W5 (Or.inl (Ne.symm (Nat.ne_of_lt (Nat.lt_trans (Nat.lt_trans o0 o1) o2))))).other W6 (Or.inl (Nat.ne_of_lt (Nat.lt_trans (Nat.lt_trans (Nat.lt_trans o3 o4) o5) o6)))).other W7 (Or.inl (Ne.symm (Nat.ne_of_lt (Nat.lt_trans (Nat.lt_trans o0 o1) o2)))))
  have f45 := ((((Fe3.other W4 (Or.inl (Nat.ne_of_lt (Nat.lt_trans (Nat.lt_trans o3 o4) o5)))).other W5 (Or.inl (Ne.symm (Nat.ne_of_lt (Nat.lt_trans (Nat.lt_trans o0 o1) o2))))).other W6 (Or.inl (Nat.ne_of_lt (Nat.lt_trans (Nat.lt_trans (Nat.lt_trans o3 o4) o5) o6)))).other W7 (Or.inl (Ne.symm (Nat.ne_of_lt (Nat.lt_trans (Nat.lt_trans o0 o1) o2)))))
  have f46 := ((((Fc3.other W4 (Or.inl (Nat.ne_of_lt (Nat.lt_trans (Nat.lt_trans o3 o4) o5)))).other W5 (Or.inl (Ne.symm (Nat.ne_of_lt (Nat.lt_trans (Nat.lt_trans o0 o1) o2))))).other W6 (Or.inl (Nat.ne_of_lt (Nat.lt_trans (Nat.lt_trans (Nat.lt_trans o3 o4) o5) o6)))).other W7 (Or.inl (Ne.symm (Nat.ne_of_lt (Nat.lt_trans (Nat.lt_trans o0 o1) o2)))))
  have f47 := (((((f11.keep Kc3).wr W4).wr W5).wr W6).wr W7)
  have f48 := (((((f12.keep Kc3 (by simp only [List.mem_cons, List.not_mem_nil, or_false, not_or]; exact ⟨(Ne.symm (Nat.ne_of_lt o3)), (Nat.ne_of_lt o4)⟩)).other W4 (Or.inl (Nat.ne_of_lt (Nat.lt_trans o4 o5)))).other W5 (Or.inl (Ne.symm (Nat.ne_of_lt (Nat.lt_trans (Nat.lt_trans (Nat.lt_trans o0 o1) o2) o3))))).other W6 (Or.inl (Nat.ne_of_lt (Nat.lt_trans (Nat.lt_trans o4 o5) o6)))).other W7 (Or.inl (Ne.symm (Nat.ne_of_lt (Nat.lt_trans (Nat.lt_trans (Nat.lt_trans o0 o1) o2) o3)))))
  have f49 := ((((((A1.other W2 (Nat.ne_of_lt o1)).keep Kc3 (by simp only [List.mem_cons, List.not_mem_nil, or_false, not_or]; exact ⟨(Nat.ne_of_lt (Nat.lt_trans o1 o2)), (Nat.ne_of_lt (Nat.lt_trans (Nat.lt_trans (Nat.lt_trans o1 o2) o3) o4))⟩)).other W4 (Nat.ne_of_lt (Nat.lt_trans (Nat.lt_trans (Nat.lt_trans (Nat.lt_trans o1 o2) o3) o4) o5))).other W5 (Ne.symm (Nat.ne_of_lt o0))).other W6 (Nat.ne_of_lt (Nat.lt_trans (Nat.lt_trans (Nat.lt_trans (Nat.lt_trans (Nat.lt_trans o1 o2) o3) o4) o5) o6))).other W7 (Ne.symm (Nat.ne_of_lt o0)))
  have f50 := (((((A2.keep Kc3 (by simp only [List.mem_cons, List.not_mem_nil, or_false, not_or]; exact ⟨(Nat.ne_of_lt o2), (Nat.ne_of_lt (Nat.lt_trans (Nat.lt_trans o2 o3) o4))⟩)).other W4 (Nat.ne_of_lt (Nat.lt_trans (Nat.lt_trans (Nat.lt_trans o2 o3) o4) o5))).other W5 (Ne.symm (Nat.ne_of_lt (Nat.lt_trans o0 o1)))).other W6 (Nat.ne_of_lt (Nat.lt_trans (Nat.lt_trans (Nat.lt_trans (Nat.lt_trans o2 o3) o4) o5) o6))).other W7 (Ne.symm (Nat.ne_of_lt (Nat.lt_trans o0 o1))))
  have f51 := ((((A3.other W4 (Nat.ne_of_lt o5)).other W5 (Ne.symm (Nat.ne_of_lt (Nat.lt_trans (Nat.lt_trans (Nat.lt_trans (Nat.lt_trans o0 o1) o2) o3) o4)))).other W6 (Nat.ne_of_lt (Nat.lt_trans o5 o6))).other W7 (Ne.symm (Nat.ne_of_lt (Nat.lt_trans (Nat.lt_trans (Nat.lt_trans (Nat.lt_trans o0 o1) o2) o3) o4))))
  have f52 := (((A4.other W5 (Ne.symm (Nat.ne_of_lt (Nat.lt_trans (Nat.lt_trans (Nat.lt_trans (Nat.lt_trans (Nat.lt_trans o0 o1) o2) o3) o4) o5)))).other W6 (Nat.ne_of_lt o6)).other W7 (Ne.symm (Nat.ne_of_lt (Nat.lt_trans (Nat.lt_trans (Nat.lt_trans (Nat.lt_trans (Nat.lt_trans o0 o1) o2) o3) o4) o5))))
  have f53 := (A6.other W7 (Ne.symm (Nat.ne_of_lt (Nat.lt_trans (Nat.lt_trans (Nat.lt_trans (Nat.lt_trans (Nat.lt_trans (Nat.lt_trans o0 o1) o2) o3) o4) o5) o6))))
  have f54 := (((f21.other W5 (Ne.symm (Nat.ne_of_lt (Nat.lt_trans (Nat.lt_trans (Nat.lt_trans (Nat.lt_trans (Nat.lt_trans (Nat.lt_trans (Nat.lt_trans o0 o1) o2) o3) o4) o5) o6) o7)))).other W6 (Ne.symm (Nat.ne_of_lt o7))).other W7 (Ne.symm (Nat.ne_of_lt (Nat.lt_trans (Nat.lt_trans (Nat.lt_trans (Nat.lt_trans (Nat.lt_trans (Nat.lt_trans (Nat.lt_trans o0 o1) o2) o3) o4) o5) o6) o7))))
  exact w_retV X q7_2_219 ⟨rfl, K33, ga, o0, o1, o2, o3, o4, o5, o6, o7, f34, f35, f36, f37, f38, f39, f40, f32, f41, f42, f43, f44, f45, f46, f47, f48, f49, ⟨_, _, _, _, f50⟩, ⟨_, _, _, _, f51⟩, ⟨_, _, _, _, f52⟩, ⟨_, _, _, _, f53⟩, ⟨_, _, _, _, f54⟩⟩ (by decide) (by decide)
theorem m_ins_0 {l : Launch} {Z : State} {a0 : Array Value} {n0 : Nat} (hw : own_hw a0 Z) {h0 : Heap} {b : Addr}  (gb : n0 ≤ b) (Ab : Ary Z h0 b .long []) :
    Does l Z n0 ⟨"java/util/DualPivotQuicksort", "insertionSort", "([JII)V"⟩ jdk_2529_method_15_code 7 none [] { frames := 0, cells := 0, slots := 0, locals := 0 } #[(.ref b), (.int (0 : Int32)), (.int (0 : Int32))] h0 (fun v h => v = none ∧ Keep h0 h [b] ∧ Ary Z h b .long [] ∧ own_srt [] = []) := by
  refine Does.start (plainFor_of_name pn_6) ?_
  intro p e s m below meth c T X
  replace X : Sd _ _ _ _ _ "java/util/DualPivotQuicksort" "insertionSort" _ _ _ _ _ _ _ _ _ _ _ _ _ _ _ _ := X
  refine Wp.cast (g' := mkF m 0 #[.val (.ref b), .val (.int (0 : Int32)), .val (.int (0 : Int32)), .unset, .unset, .unset, .unset] []) (by first | (simp [entryFrame, mkF, argsToLocals, Value.category, maxLocals]; done) | rfl) ?_
  refine w_iloadN X k2529_15_0 rfl ?_
  refine w_istore X #[.val (.ref b), .val (.int (0 : Int32)), .val (.int (0 : Int32)), .unset, .val (.int (0 : Int32)), .unset, .unset] k2529_15_1 rfl ?_
  refine w_iinc X (1 : Int32) #[.val (.ref b), .val (.int (0 : Int32)), .val (.int (0 : Int32)), .unset, .val (.int (1 : Int32)), .unset, .unset] k2529_15_3 rfl rfl rfl ?_
  refine w_iload X k2529_15_6 rfl ?_
  refine w_iloadN X k2529_15_8 rfl ?_
  refine w_icmpge X k2529_15_9 (fun _ => ?_) (fun hc => absurd hc (by decide))
  exact w_retV X k2529_15_69 ⟨rfl, (Keep.refl h0 [b]), Ab, by simp only [own_srt, List.foldl_cons, List.foldl_nil, own_insr, if_true, if_false, List.reverse_cons, List.reverse_nil, List.nil_append, List.cons_append]⟩ (by decide) (by decide)
theorem m_srt1_0 {l : Launch} {Z : State} {a0 : Array Value} {n0 : Nat} (hw : own_hw a0 Z) {h0 : Heap} {b : Addr}  (gb : n0 ≤ b) (Ab : Ary Z h0 b .long []) :
    Does l Z n0 ⟨"java/util/DualPivotQuicksort", "sort", "(Ljava/util/DualPivotQuicksort$Sorter;[JIII)V"⟩ jdk_2529_method_13_code 25 none [] { frames := 1, cells := 0, slots := 0, locals := 18 } #[.null, (.ref b), (.int (0 : Int32)), (.int (0 : Int32)), (.int (0 : Int32))] h0 (fun v h => v = none ∧ Keep h0 h [b] ∧ Ary Z h b .long [] ∧ own_srt [] = []) := by
  refine Does.start (plainFor_of_name pn_6) ?_
  intro p e s m below meth c T X
  replace X : Sd _ _ _ _ _ "java/util/DualPivotQuicksort" "sort" _ _ _ _ _ _ _ _ _ _ _ _ _ _ _ _ := X
  refine Wp.cast (g' := mkF m 0 #[.val .null, .val (.ref b), .val (.int (0 : Int32)), .val (.int (0 : Int32)), .val (.int (0 : Int32)), .unset, .unset, .unset, .unset, .unset, .unset, .unset, .unset, .unset, .unset, .unset, .unset, .unset, .unset, .unset, .unset, .unset, .unset, .unset, .unset] []) (by first | (simp [entryFrame, mkF, argsToLocals, Value.category, maxLocals]; done) | rfl) ?_
  refine w_iload X k2529_13_0 rfl ?_
  refine w_iconst X (1 : Int32) k2529_13_2 rfl ?_
  refine w_isub X k2529_13_3 ?_
  refine w_istore X #[.val .null, .val (.ref b), .val (.int (0 : Int32)), .val (.int (0 : Int32)), .val (.int (0 : Int32)), .val (.int (-1 : Int32)), .unset, .unset, .unset, .unset, .unset, .unset, .unset, .unset, .unset, .unset, .unset, .unset, .unset, .unset, .unset, .unset, .unset, .unset, .unset] k2529_13_4 rfl ?_
  refine w_iload X k2529_13_6 rfl ?_
  refine w_iloadN X k2529_13_8 rfl ?_
  refine w_isub X k2529_13_9 ?_
  refine w_istore X #[.val .null, .val (.ref b), .val (.int (0 : Int32)), .val (.int (0 : Int32)), .val (.int (0 : Int32)), .val (.int (-1 : Int32)), .val (.int (0 : Int32)), .unset, .unset, .unset, .unset, .unset, .unset, .unset, .unset, .unset, .unset, .unset, .unset, .unset, .unset, .unset, .unset, .unset, .unset] k2529_13_10 rfl ?_
  refine w_iload X k2529_13_12 rfl ?_
  refine w_bipush X (65 : Int32) k2529_13_14 rfl ?_
  refine w_iloadN X k2529_13_16 rfl ?_
  refine w_iadd X k2529_13_17 ?_
  refine w_icmpge X k2529_13_18 (fun hc => absurd (by decide) hc) (fun _ => ?_)
  refine w_iloadN X k2529_13_21 rfl ?_
  refine w_iconst X (1 : Int32) k2529_13_22 rfl ?_
  refine w_iand X k2529_13_23 ?_
  refine w_ifle X k2529_13_24 (fun _ => ?_) (fun hc => absurd hc Int32.lt_irrefl)
  refine w_iload X k2529_13_46 rfl ?_
  refine w_bipush X (44 : Int32) k2529_13_48 rfl ?_
  refine w_icmpge X k2529_13_50 (fun hc => absurd (by decide) hc) (fun _ => ?_)
  refine w_aloadN X k2529_13_53 rfl (rfl) ?_
  refine w_iloadN X k2529_13_54 rfl ?_
  refine w_iload X k2529_13_55 rfl ?_
  refine w_callS X k2529_13_57 (wd_126 hw) (wd_127 hw) (wd_121 hw) (wd_128 hw) (by decide) (argsL := [(.ref b), (.int (0 : Int32)), (.int (0 : Int32))]) (S := []) (m_ins_0 hw gb Ab) pd_5 rfl rfl rfl (by decide) (Nat.le_of_ble_eq_true rfl) (by decide) (by decide) (fun T h1 v1 L1 X q1 => ?_)
  obtain ⟨rfl, r1⟩ := q1
  show Wp _ _ _ _ (T.setTop (mkF _ _ _ []))
  exact w_retV X k2529_13_60 ⟨rfl, r1⟩ (by decide) (by decide)
theorem m_srt2_0 {l : Launch} {Z : State} {a0 : Array Value} {n0 : Nat} (hw : own_hw a0 Z) {h0 : Heap} {b : Addr}  (gb : n0 ≤ b) (Ab : Ary Z h0 b .long []) :
    Does l Z n0 ⟨"java/util/DualPivotQuicksort", "sort", "([JIII)V"⟩ jdk_2529_method_12_code 7 none [] { frames := 2, cells := 0, slots := 0, locals := 54 } #[(.ref b), (.int (0 : Int32)), (.int (0 : Int32)), (.int (0 : Int32))] h0 (fun v h => v = none ∧ Keep h0 h [b] ∧ Ary Z h b .long [] ∧ own_srt [] = []) := by
  refine Does.start (plainFor_of_name pn_6) ?_
  intro p e s m below meth c T X
  replace X : Sd _ _ _ _ _ "java/util/DualPivotQuicksort" "sort" _ _ _ _ _ _ _ _ _ _ _ _ _ _ _ _ := X
  refine Wp.cast (g' := mkF m 0 #[.val (.ref b), .val (.int (0 : Int32)), .val (.int (0 : Int32)), .val (.int (0 : Int32)), .unset, .unset, .unset] []) (by first | (simp [entryFrame, mkF, argsToLocals, Value.category, maxLocals]; done) | rfl) ?_
  refine w_iloadN X k2529_12_0 rfl ?_
  refine w_iloadN X k2529_12_1 rfl ?_
  refine w_isub X k2529_12_2 ?_
  refine w_istore X #[.val (.ref b), .val (.int (0 : Int32)), .val (.int (0 : Int32)), .val (.int (0 : Int32)), .val (.int (0 : Int32)), .unset, .unset] k2529_12_3 rfl ?_
  refine w_iloadN X k2529_12_5 rfl ?_
  refine w_iconst X (1 : Int32) k2529_12_6 rfl ?_
  refine w_icmple X k2529_12_7 (fun _ => ?_) (fun hc => absurd hc (by decide))
  refine w_aconstNull X k2529_12_68 ?_
  refine w_aloadN X k2529_12_69 rfl (rfl) ?_
  refine w_iconst X (0 : Int32) k2529_12_70 rfl ?_
  refine w_iloadN X k2529_12_71 rfl ?_
  refine w_iloadN X k2529_12_72 rfl ?_
  refine w_callS X k2529_12_73 (wd_123 hw) (wd_124 hw) (wd_121 hw) (wd_125 hw) (by decide) (argsL := [.null, (.ref b), (.int (0 : Int32)), (.int (0 : Int32)), (.int (0 : Int32))]) (S := []) (m_srt1_0 hw gb Ab) pd_6 rfl rfl rfl (by decide) (Nat.le_of_ble_eq_true rfl) (by decide) (by decide) (fun T h1 v1 L1 X q1 => ?_)
  obtain ⟨rfl, r1⟩ := q1
  show Wp _ _ _ _ (T.setTop (mkF _ _ _ []))
  exact w_retV X k2529_12_76 ⟨rfl, r1⟩ (by decide) (by decide)
theorem m_srt3_0 {l : Launch} {Z : State} {a0 : Array Value} {n0 : Nat} (hw : own_hw a0 Z) {h0 : Heap} {b : Addr}  (gb : n0 ≤ b) (Ab : Ary Z h0 b .long []) :
    Does l Z n0 ⟨"java/util/Arrays", "sort", "([J)V"⟩ jdk_65_method_4_code 1 none [] { frames := 3, cells := 0, slots := 0, locals := 72 } #[(.ref b)] h0 (fun v h => v = none ∧ Keep h0 h [b] ∧ Ary Z h b .long [] ∧ own_srt [] = []) := by
  refine Does.start (plainFor_of_name pn_7) ?_
  intro p e s m below meth c T X
  replace X : Sd _ _ _ _ _ "java/util/Arrays" "sort" _ _ _ _ _ _ _ _ _ _ _ _ _ _ _ _ := X
  refine Wp.cast (g' := mkF m 0 #[.val (.ref b)] []) (by first | (simp [entryFrame, mkF, argsToLocals, Value.category, maxLocals]; done) | rfl) ?_
  refine w_aloadN X k65_4_0 rfl (rfl) ?_
  refine w_iconst X (0 : Int32) k65_4_1 rfl ?_
  refine w_iconst X (0 : Int32) k65_4_2 rfl ?_
  refine w_aloadN X k65_4_3 rfl (rfl) ?_
  refine w_arrlen X (0 : Int32) k65_4_4 Ab rfl ?_
  refine w_callS X k65_4_5 (wd_119 hw) (wd_120 hw) (wd_121 hw) (wd_122 hw) (by decide) (argsL := [(.ref b), (.int (0 : Int32)), (.int (0 : Int32)), (.int (0 : Int32))]) (S := []) (m_srt2_0 hw gb Ab) pd_7 rfl rfl rfl (by decide) (Nat.le_of_ble_eq_true rfl) (by decide) (by decide) (fun T h1 v1 L1 X q1 => ?_)
  obtain ⟨rfl, r1⟩ := q1
  show Wp _ _ _ _ (T.setTop (mkF _ _ _ []))
  exact w_retV X k65_4_8 ⟨rfl, r1⟩ (by decide) (by decide)
theorem m_ins_1 {l : Launch} {Z : State} {a0 : Array Value} {n0 : Nat} (hw : own_hw a0 Z) {h0 : Heap} {b : Addr} {y0 : Int64} (gb : n0 ≤ b) (Ab : Ary Z h0 b .long [(.long y0)]) :
    Does l Z n0 ⟨"java/util/DualPivotQuicksort", "insertionSort", "([JII)V"⟩ jdk_2529_method_15_code 7 none [] { frames := 0, cells := 0, slots := 0, locals := 0 } #[(.ref b), (.int (0 : Int32)), (.int (1 : Int32))] h0 (fun v h => v = none ∧ Keep h0 h [b] ∧ ∃ z0 : Int64, Ary Z h b .long [(.long z0)] ∧ own_srt [y0] = [z0]) := by
  refine Does.start (plainFor_of_name pn_6) ?_
  intro p e s m below meth c T X
  replace X : Sd _ _ _ _ _ "java/util/DualPivotQuicksort" "insertionSort" _ _ _ _ _ _ _ _ _ _ _ _ _ _ _ _ := X
  refine Wp.cast (g' := mkF m 0 #[.val (.ref b), .val (.int (0 : Int32)), .val (.int (1 : Int32)), .unset, .unset, .unset, .unset] []) (by first | (simp [entryFrame, mkF, argsToLocals, Value.category, maxLocals]; done) | rfl) ?_
  refine w_iloadN X k2529_15_0 rfl ?_
  refine w_istore X #[.val (.ref b), .val (.int (0 : Int32)), .val (.int (1 : Int32)), .unset, .val (.int (0 : Int32)), .unset, .unset] k2529_15_1 rfl ?_
  refine w_iinc X (1 : Int32) #[.val (.ref b), .val (.int (0 : Int32)), .val (.int (1 : Int32)), .unset, .val (.int (1 : Int32)), .unset, .unset] k2529_15_3 rfl rfl rfl ?_
  refine w_iload X k2529_15_6 rfl ?_
  refine w_iloadN X k2529_15_8 rfl ?_
  refine w_icmpge X k2529_15_9 (fun _ => ?_) (fun hc => absurd hc Int32.lt_irrefl)
  exact w_retV X k2529_15_69 ⟨rfl, (Keep.refl h0 [b]), _, Ab, by simp only [own_srt, List.foldl_cons, List.foldl_nil, own_insr, if_true, if_false, List.reverse_cons, List.reverse_nil, List.nil_append, List.cons_append]⟩ (by decide) (by decide)
theorem m_srt1_1 {l : Launch} {Z : State} {a0 : Array Value} {n0 : Nat} (hw : own_hw a0 Z) {h0 : Heap} {b : Addr} {y0 : Int64} (gb : n0 ≤ b) (Ab : Ary Z h0 b .long [(.long y0)]) :
    Does l Z n0 ⟨"java/util/DualPivotQuicksort", "sort", "(Ljava/util/DualPivotQuicksort$Sorter;[JIII)V"⟩ jdk_2529_method_13_code 25 none [] { frames := 1, cells := 0, slots := 0, locals := 18 } #[.null, (.ref b), (.int (0 : Int32)), (.int (0 : Int32)), (.int (1 : Int32))] h0 (fun v h => v = none ∧ Keep h0 h [b] ∧ ∃ z0 : Int64, Ary Z h b .long [(.long z0)] ∧ own_srt [y0] = [z0]) := by
  refine Does.start (plainFor_of_name pn_6) ?_
  intro p e s m below meth c T X
  replace X : Sd _ _ _ _ _ "java/util/DualPivotQuicksort" "sort" _ _ _ _ _ _ _ _ _ _ _ _ _ _ _ _ := X
  refine Wp.cast (g' := mkF m 0 #[.val .null, .val (.ref b), .val (.int (0 : Int32)), .val (.int (0 : Int32)), .val (.int (1 : Int32)), .unset, .unset, .unset, .unset, .unset, .unset, .unset, .unset, .unset, .unset, .unset, .unset, .unset, .unset, .unset, .unset, .unset, .unset, .unset, .unset] []) (by first | (simp [entryFrame, mkF, argsToLocals, Value.category, maxLocals]; done) | rfl) ?_
  refine w_iload X k2529_13_0 rfl ?_
  refine w_iconst X (1 : Int32) k2529_13_2 rfl ?_
  refine w_isub X k2529_13_3 ?_
  refine w_istore X #[.val .null, .val (.ref b), .val (.int (0 : Int32)), .val (.int (0 : Int32)), .val (.int (1 : Int32)), .val (.int (0 : Int32)), .unset, .unset, .unset, .unset, .unset, .unset, .unset, .unset, .unset, .unset, .unset, .unset, .unset, .unset, .unset, .unset, .unset, .unset, .unset] k2529_13_4 rfl ?_
  refine w_iload X k2529_13_6 rfl ?_
  refine w_iloadN X k2529_13_8 rfl ?_
  refine w_isub X k2529_13_9 ?_
  refine w_istore X #[.val .null, .val (.ref b), .val (.int (0 : Int32)), .val (.int (0 : Int32)), .val (.int (1 : Int32)), .val (.int (0 : Int32)), .val (.int (1 : Int32)), .unset, .unset, .unset, .unset, .unset, .unset, .unset, .unset, .unset, .unset, .unset, .unset, .unset, .unset, .unset, .unset, .unset, .unset] k2529_13_10 rfl ?_
  refine w_iload X k2529_13_12 rfl ?_
  refine w_bipush X (65 : Int32) k2529_13_14 rfl ?_
  refine w_iloadN X k2529_13_16 rfl ?_
  refine w_iadd X k2529_13_17 ?_
  refine w_icmpge X k2529_13_18 (fun hc => absurd (by decide) hc) (fun _ => ?_)
  refine w_iloadN X k2529_13_21 rfl ?_
  refine w_iconst X (1 : Int32) k2529_13_22 rfl ?_
  refine w_iand X k2529_13_23 ?_
  refine w_ifle X k2529_13_24 (fun _ => ?_) (fun hc => absurd hc Int32.lt_irrefl)
  refine w_iload X k2529_13_46 rfl ?_
  refine w_bipush X (44 : Int32) k2529_13_48 rfl ?_
  refine w_icmpge X k2529_13_50 (fun hc => absurd (by decide) hc) (fun _ => ?_)
  refine w_aloadN X k2529_13_53 rfl (rfl) ?_
  refine w_iloadN X k2529_13_54 rfl ?_
  refine w_iload X k2529_13_55 rfl ?_
  refine w_callS X k2529_13_57 (wd_126 hw) (wd_127 hw) (wd_121 hw) (wd_128 hw) (by decide) (argsL := [(.ref b), (.int (0 : Int32)), (.int (1 : Int32))]) (S := []) (m_ins_1 hw gb Ab) pd_5 rfl rfl rfl (by decide) (Nat.le_of_ble_eq_true rfl) (by decide) (by decide) (fun T h1 v1 L1 X q1 => ?_)
  obtain ⟨rfl, r1⟩ := q1
  show Wp _ _ _ _ (T.setTop (mkF _ _ _ []))
  exact w_retV X k2529_13_60 ⟨rfl, r1⟩ (by decide) (by decide)
theorem m_srt2_1 {l : Launch} {Z : State} {a0 : Array Value} {n0 : Nat} (hw : own_hw a0 Z) {h0 : Heap} {b : Addr} {y0 : Int64} (gb : n0 ≤ b) (Ab : Ary Z h0 b .long [(.long y0)]) :
    Does l Z n0 ⟨"java/util/DualPivotQuicksort", "sort", "([JIII)V"⟩ jdk_2529_method_12_code 7 none [] { frames := 2, cells := 0, slots := 0, locals := 54 } #[(.ref b), (.int (0 : Int32)), (.int (0 : Int32)), (.int (1 : Int32))] h0 (fun v h => v = none ∧ Keep h0 h [b] ∧ ∃ z0 : Int64, Ary Z h b .long [(.long z0)] ∧ own_srt [y0] = [z0]) := by
  refine Does.start (plainFor_of_name pn_6) ?_
  intro p e s m below meth c T X
  replace X : Sd _ _ _ _ _ "java/util/DualPivotQuicksort" "sort" _ _ _ _ _ _ _ _ _ _ _ _ _ _ _ _ := X
  refine Wp.cast (g' := mkF m 0 #[.val (.ref b), .val (.int (0 : Int32)), .val (.int (0 : Int32)), .val (.int (1 : Int32)), .unset, .unset, .unset] []) (by first | (simp [entryFrame, mkF, argsToLocals, Value.category, maxLocals]; done) | rfl) ?_
  refine w_iloadN X k2529_12_0 rfl ?_
  refine w_iloadN X k2529_12_1 rfl ?_
  refine w_isub X k2529_12_2 ?_
  refine w_istore X #[.val (.ref b), .val (.int (0 : Int32)), .val (.int (0 : Int32)), .val (.int (1 : Int32)), .val (.int (1 : Int32)), .unset, .unset] k2529_12_3 rfl ?_
  refine w_iloadN X k2529_12_5 rfl ?_
  refine w_iconst X (1 : Int32) k2529_12_6 rfl ?_
  refine w_icmple X k2529_12_7 (fun _ => ?_) (fun hc => absurd hc (by decide))
  refine w_aconstNull X k2529_12_68 ?_
  refine w_aloadN X k2529_12_69 rfl (rfl) ?_
  refine w_iconst X (0 : Int32) k2529_12_70 rfl ?_
  refine w_iloadN X k2529_12_71 rfl ?_
  refine w_iloadN X k2529_12_72 rfl ?_
  refine w_callS X k2529_12_73 (wd_123 hw) (wd_124 hw) (wd_121 hw) (wd_125 hw) (by decide) (argsL := [.null, (.ref b), (.int (0 : Int32)), (.int (0 : Int32)), (.int (1 : Int32))]) (S := []) (m_srt1_1 hw gb Ab) pd_6 rfl rfl rfl (by decide) (Nat.le_of_ble_eq_true rfl) (by decide) (by decide) (fun T h1 v1 L1 X q1 => ?_)
  obtain ⟨rfl, r1⟩ := q1
  show Wp _ _ _ _ (T.setTop (mkF _ _ _ []))
  exact w_retV X k2529_12_76 ⟨rfl, r1⟩ (by decide) (by decide)
theorem m_srt3_1 {l : Launch} {Z : State} {a0 : Array Value} {n0 : Nat} (hw : own_hw a0 Z) {h0 : Heap} {b : Addr} {y0 : Int64} (gb : n0 ≤ b) (Ab : Ary Z h0 b .long [(.long y0)]) :
    Does l Z n0 ⟨"java/util/Arrays", "sort", "([J)V"⟩ jdk_65_method_4_code 1 none [] { frames := 3, cells := 0, slots := 0, locals := 72 } #[(.ref b)] h0 (fun v h => v = none ∧ Keep h0 h [b] ∧ ∃ z0 : Int64, Ary Z h b .long [(.long z0)] ∧ own_srt [y0] = [z0]) := by
  refine Does.start (plainFor_of_name pn_7) ?_
  intro p e s m below meth c T X
  replace X : Sd _ _ _ _ _ "java/util/Arrays" "sort" _ _ _ _ _ _ _ _ _ _ _ _ _ _ _ _ := X
  refine Wp.cast (g' := mkF m 0 #[.val (.ref b)] []) (by first | (simp [entryFrame, mkF, argsToLocals, Value.category, maxLocals]; done) | rfl) ?_
  refine w_aloadN X k65_4_0 rfl (rfl) ?_
  refine w_iconst X (0 : Int32) k65_4_1 rfl ?_
  refine w_iconst X (0 : Int32) k65_4_2 rfl ?_
  refine w_aloadN X k65_4_3 rfl (rfl) ?_
  refine w_arrlen X (1 : Int32) k65_4_4 Ab rfl ?_
  refine w_callS X k65_4_5 (wd_119 hw) (wd_120 hw) (wd_121 hw) (wd_122 hw) (by decide) (argsL := [(.ref b), (.int (0 : Int32)), (.int (0 : Int32)), (.int (1 : Int32))]) (S := []) (m_srt2_1 hw gb Ab) pd_7 rfl rfl rfl (by decide) (Nat.le_of_ble_eq_true rfl) (by decide) (by decide) (fun T h1 v1 L1 X q1 => ?_)
  obtain ⟨rfl, r1⟩ := q1
  show Wp _ _ _ _ (T.setTop (mkF _ _ _ []))
  exact w_retV X k65_4_8 ⟨rfl, r1⟩ (by decide) (by decide)
theorem m_ins_2 {l : Launch} {Z : State} {a0 : Array Value} {n0 : Nat} (hw : own_hw a0 Z) {h0 : Heap} {b : Addr} {y0 y1 : Int64} (gb : n0 ≤ b) (Ab : Ary Z h0 b .long [(.long y0), (.long y1)]) :
    Does l Z n0 ⟨"java/util/DualPivotQuicksort", "insertionSort", "([JII)V"⟩ jdk_2529_method_15_code 7 none [] { frames := 0, cells := 0, slots := 0, locals := 0 } #[(.ref b), (.int (0 : Int32)), (.int (2 : Int32))] h0 (fun v h => v = none ∧ Keep h0 h [b] ∧ ∃ z0 z1 : Int64, Ary Z h b .long [(.long z0), (.long z1)] ∧ own_srt [y0, y1] = [z0, z1]) := by
  refine Does.start (plainFor_of_name pn_6) ?_
  intro p e s m below meth c T X
  replace X : Sd _ _ _ _ _ "java/util/DualPivotQuicksort" "insertionSort" _ _ _ _ _ _ _ _ _ _ _ _ _ _ _ _ := X
  refine Wp.cast (g' := mkF m 0 #[.val (.ref b), .val (.int (0 : Int32)), .val (.int (2 : Int32)), .unset, .unset, .unset, .unset] []) (by first | (simp [entryFrame, mkF, argsToLocals, Value.category, maxLocals]; done) | rfl) ?_
  refine w_iloadN X k2529_15_0 rfl ?_
  refine w_istore X #[.val (.ref b), .val (.int (0 : Int32)), .val (.int (2 : Int32)), .unset, .val (.int (0 : Int32)), .unset, .unset] k2529_15_1 rfl ?_
  refine w_iinc X (1 : Int32) #[.val (.ref b), .val (.int (0 : Int32)), .val (.int (2 : Int32)), .unset, .val (.int (1 : Int32)), .unset, .unset] k2529_15_3 rfl rfl rfl ?_
  refine w_iload X k2529_15_6 rfl ?_
  refine w_iloadN X k2529_15_8 rfl ?_
  refine w_icmpge X k2529_15_9 (fun hc => absurd (by decide) hc) (fun _ => ?_)
  refine w_aloadN X k2529_15_12 rfl (rfl) ?_
  refine w_iload X k2529_15_13 rfl ?_
  refine w_dup X k2529_15_15 rfl ?_
  refine w_istoreN X #[.val (.ref b), .val (.int (0 : Int32)), .val (.int (2 : Int32)), .val (.int (1 : Int32)), .val (.int (1 : Int32)), .unset, .unset] k2529_15_16 rfl ?_
  refine w_laload X k2529_15_17 Ab (by decide) rfl ?_
  refine w_lstore X #[.val (.ref b), .val (.int (0 : Int32)), .val (.int (2 : Int32)), .val (.int (1 : Int32)), .val (.int (1 : Int32)), .val (.long y1), .second] k2529_15_18 rfl ?_
  refine w_lload X k2529_15_20 rfl ?_
  refine w_aloadN X k2529_15_22 rfl (rfl) ?_
  refine w_iloadN X k2529_15_23 rfl ?_
  refine w_iconst X (1 : Int32) k2529_15_24 rfl ?_
  refine w_isub X k2529_15_25 ?_
  refine w_laload X k2529_15_26 Ab (by decide) rfl ?_
  refine w_lge X k2529_15_27 k2529_15_28 (fun (hc28 : ¬ y1 < y0) => ?_) (fun (hc28 : y1 < y0) => ?_)
  · refine w_goto X k2529_15_66 ?_
    refine w_iinc X (1 : Int32) #[.val (.ref b), .val (.int (0 : Int32)), .val (.int (2 : Int32)), .val (.int (1 : Int32)), .val (.int (2 : Int32)), .val (.long y1), .second] k2529_15_3 rfl rfl rfl ?_
    refine w_iload X k2529_15_6 rfl ?_
    refine w_iloadN X k2529_15_8 rfl ?_
    refine w_icmpge X k2529_15_9 (fun _ => ?_) (fun hc => absurd hc Int32.lt_irrefl)
    exact w_retV X k2529_15_69 ⟨rfl, (Keep.refl h0 [b]), _, _, Ab, by simp only [own_srt, List.foldl_cons, List.foldl_nil, own_insr, hc28, if_true, if_false, List.reverse_cons, List.reverse_nil, List.nil_append, List.cons_append]⟩ (by decide) (by decide)
  · refine w_iinc X (-1 : Int32) #[.val (.ref b), .val (.int (0 : Int32)), .val (.int (2 : Int32)), .val (.int (0 : Int32)), .val (.int (1 : Int32)), .val (.long y1), .second] k2529_15_31 rfl rfl rfl ?_
    refine w_iloadN X k2529_15_34 rfl ?_
    refine w_iloadN X k2529_15_35 rfl ?_
    refine w_icmplt X k2529_15_36 (fun hc => absurd hc Int32.lt_irrefl) (fun _ => ?_)
    refine w_lload X k2529_15_39 rfl ?_
    refine w_aloadN X k2529_15_41 rfl (rfl) ?_
    refine w_iloadN X k2529_15_42 rfl ?_
    refine w_laload X k2529_15_43 Ab (by decide) rfl ?_
    refine w_lge X k2529_15_44 k2529_15_45 (fun hc => absurd hc28 hc) (fun _ => ?_)
    refine w_aloadN X k2529_15_48 rfl (rfl) ?_
    refine w_iloadN X k2529_15_49 rfl ?_
    refine w_iconst X (1 : Int32) k2529_15_50 rfl ?_
    refine w_iadd X k2529_15_51 ?_
    refine w_aloadN X k2529_15_52 rfl (rfl) ?_
    refine w_iloadN X k2529_15_53 rfl ?_
    refine w_laload X k2529_15_54 Ab (by decide) rfl ?_
    refine w_lastore X k2529_15_55 Ab (by decide) rfl gb (.long y0) rfl [(.long y0), (.long y0)] rfl (fun T h1 X W1 A1 => ?_)
    have K1 : Keep h0 h1 [b] := (Keep.refl h0 [b]).wr W1 (Or.inl (List.mem_of_getElem? (i := 0) rfl))
    refine w_goto X k2529_15_56 ?_
    refine w_iinc X (-1 : Int32) #[.val (.ref b), .val (.int (0 : Int32)), .val (.int (2 : Int32)), .val (.int (-1 : Int32)), .val (.int (1 : Int32)), .val (.long y1), .second] k2529_15_31 rfl rfl rfl ?_
    refine w_iloadN X k2529_15_34 rfl ?_
    refine w_iloadN X k2529_15_35 rfl ?_
    refine w_icmplt X k2529_15_36 (fun _ => ?_) (fun hc => absurd (by decide) hc)
    refine w_aloadN X k2529_15_59 rfl (rfl) ?_
    refine w_iloadN X k2529_15_60 rfl ?_
    refine w_iconst X (1 : Int32) k2529_15_61 rfl ?_
    refine w_iadd X k2529_15_62 ?_
    refine w_lload X k2529_15_63 rfl ?_
    refine w_lastore X k2529_15_65 A1 (by decide) rfl gb (.long y1) rfl [(.long y1), (.long y0)] rfl (fun T h2 X W2 A2 => ?_)
    have K2 : Keep h0 h2 [b] := K1.wr W2 (Or.inl (List.mem_of_getElem? (i := 0) rfl))
    refine w_goto X k2529_15_66 ?_
    refine w_iinc X (1 : Int32) #[.val (.ref b), .val (.int (0 : Int32)), .val (.int (2 : Int32)), .val (.int (-1 : Int32)), .val (.int (2 : Int32)), .val (.long y1), .second] k2529_15_3 rfl rfl rfl ?_
    refine w_iload X k2529_15_6 rfl ?_
    refine w_iloadN X k2529_15_8 rfl ?_
    refine w_icmpge X k2529_15_9 (fun _ => ?_) (fun hc => absurd hc Int32.lt_irrefl)
    exact w_retV X k2529_15_69 ⟨rfl, K2, _, _, A2, by simp only [own_srt, List.foldl_cons, List.foldl_nil, own_insr, hc28, if_true, if_false, List.reverse_cons, List.reverse_nil, List.nil_append, List.cons_append]⟩ (by decide) (by decide)
theorem m_srt1_2 {l : Launch} {Z : State} {a0 : Array Value} {n0 : Nat} (hw : own_hw a0 Z) {h0 : Heap} {b : Addr} {y0 y1 : Int64} (gb : n0 ≤ b) (Ab : Ary Z h0 b .long [(.long y0), (.long y1)]) :
    Does l Z n0 ⟨"java/util/DualPivotQuicksort", "sort", "(Ljava/util/DualPivotQuicksort$Sorter;[JIII)V"⟩ jdk_2529_method_13_code 25 none [] { frames := 1, cells := 0, slots := 0, locals := 18 } #[.null, (.ref b), (.int (0 : Int32)), (.int (0 : Int32)), (.int (2 : Int32))] h0 (fun v h => v = none ∧ Keep h0 h [b] ∧ ∃ z0 z1 : Int64, Ary Z h b .long [(.long z0), (.long z1)] ∧ own_srt [y0, y1] = [z0, z1]) := by
  refine Does.start (plainFor_of_name pn_6) ?_
  intro p e s m below meth c T X
  replace X : Sd _ _ _ _ _ "java/util/DualPivotQuicksort" "sort" _ _ _ _ _ _ _ _ _ _ _ _ _ _ _ _ := X
  refine Wp.cast (g' := mkF m 0 #[.val .null, .val (.ref b), .val (.int (0 : Int32)), .val (.int (0 : Int32)), .val (.int (2 : Int32)), .unset, .unset, .unset, .unset, .unset, .unset, .unset, .unset, .unset, .unset, .unset, .unset, .unset, .unset, .unset, .unset, .unset, .unset, .unset, .unset] []) (by first | (simp [entryFrame, mkF, argsToLocals, Value.category, maxLocals]; done) | rfl) ?_
  refine w_iload X k2529_13_0 rfl ?_
  refine w_iconst X (1 : Int32) k2529_13_2 rfl ?_
  refine w_isub X k2529_13_3 ?_
  refine w_istore X #[.val .null, .val (.ref b), .val (.int (0 : Int32)), .val (.int (0 : Int32)), .val (.int (2 : Int32)), .val (.int (1 : Int32)), .unset, .unset, .unset, .unset, .unset, .unset, .unset, .unset, .unset, .unset, .unset, .unset, .unset, .unset, .unset, .unset, .unset, .unset, .unset] k2529_13_4 rfl ?_
  refine w_iload X k2529_13_6 rfl ?_
  refine w_iloadN X k2529_13_8 rfl ?_
  refine w_isub X k2529_13_9 ?_
  refine w_istore X #[.val .null, .val (.ref b), .val (.int (0 : Int32)), .val (.int (0 : Int32)), .val (.int (2 : Int32)), .val (.int (1 : Int32)), .val (.int (2 : Int32)), .unset, .unset, .unset, .unset, .unset, .unset, .unset, .unset, .unset, .unset, .unset, .unset, .unset, .unset, .unset, .unset, .unset, .unset] k2529_13_10 rfl ?_
  refine w_iload X k2529_13_12 rfl ?_
  refine w_bipush X (65 : Int32) k2529_13_14 rfl ?_
  refine w_iloadN X k2529_13_16 rfl ?_
  refine w_iadd X k2529_13_17 ?_
  refine w_icmpge X k2529_13_18 (fun hc => absurd (by decide) hc) (fun _ => ?_)
  refine w_iloadN X k2529_13_21 rfl ?_
  refine w_iconst X (1 : Int32) k2529_13_22 rfl ?_
  refine w_iand X k2529_13_23 ?_
  refine w_ifle X k2529_13_24 (fun _ => ?_) (fun hc => absurd hc Int32.lt_irrefl)
  refine w_iload X k2529_13_46 rfl ?_
  refine w_bipush X (44 : Int32) k2529_13_48 rfl ?_
  refine w_icmpge X k2529_13_50 (fun hc => absurd (by decide) hc) (fun _ => ?_)
  refine w_aloadN X k2529_13_53 rfl (rfl) ?_
  refine w_iloadN X k2529_13_54 rfl ?_
  refine w_iload X k2529_13_55 rfl ?_
  refine w_callS X k2529_13_57 (wd_126 hw) (wd_127 hw) (wd_121 hw) (wd_128 hw) (by decide) (argsL := [(.ref b), (.int (0 : Int32)), (.int (2 : Int32))]) (S := []) (m_ins_2 hw gb Ab) pd_5 rfl rfl rfl (by decide) (Nat.le_of_ble_eq_true rfl) (by decide) (by decide) (fun T h1 v1 L1 X q1 => ?_)
  obtain ⟨rfl, r1⟩ := q1
  show Wp _ _ _ _ (T.setTop (mkF _ _ _ []))
  exact w_retV X k2529_13_60 ⟨rfl, r1⟩ (by decide) (by decide)
theorem m_srt2_2 {l : Launch} {Z : State} {a0 : Array Value} {n0 : Nat} (hw : own_hw a0 Z) {h0 : Heap} {b : Addr} {y0 y1 : Int64} (gb : n0 ≤ b) (Ab : Ary Z h0 b .long [(.long y0), (.long y1)]) :
    Does l Z n0 ⟨"java/util/DualPivotQuicksort", "sort", "([JIII)V"⟩ jdk_2529_method_12_code 7 none [] { frames := 2, cells := 0, slots := 0, locals := 54 } #[(.ref b), (.int (0 : Int32)), (.int (0 : Int32)), (.int (2 : Int32))] h0 (fun v h => v = none ∧ Keep h0 h [b] ∧ ∃ z0 z1 : Int64, Ary Z h b .long [(.long z0), (.long z1)] ∧ own_srt [y0, y1] = [z0, z1]) := by
  refine Does.start (plainFor_of_name pn_6) ?_
  intro p e s m below meth c T X
  replace X : Sd _ _ _ _ _ "java/util/DualPivotQuicksort" "sort" _ _ _ _ _ _ _ _ _ _ _ _ _ _ _ _ := X
  refine Wp.cast (g' := mkF m 0 #[.val (.ref b), .val (.int (0 : Int32)), .val (.int (0 : Int32)), .val (.int (2 : Int32)), .unset, .unset, .unset] []) (by first | (simp [entryFrame, mkF, argsToLocals, Value.category, maxLocals]; done) | rfl) ?_
  refine w_iloadN X k2529_12_0 rfl ?_
  refine w_iloadN X k2529_12_1 rfl ?_
  refine w_isub X k2529_12_2 ?_
  refine w_istore X #[.val (.ref b), .val (.int (0 : Int32)), .val (.int (0 : Int32)), .val (.int (2 : Int32)), .val (.int (2 : Int32)), .unset, .unset] k2529_12_3 rfl ?_
  refine w_iloadN X k2529_12_5 rfl ?_
  refine w_iconst X (1 : Int32) k2529_12_6 rfl ?_
  refine w_icmple X k2529_12_7 (fun _ => ?_) (fun hc => absurd hc (by decide))
  refine w_aconstNull X k2529_12_68 ?_
  refine w_aloadN X k2529_12_69 rfl (rfl) ?_
  refine w_iconst X (0 : Int32) k2529_12_70 rfl ?_
  refine w_iloadN X k2529_12_71 rfl ?_
  refine w_iloadN X k2529_12_72 rfl ?_
  refine w_callS X k2529_12_73 (wd_123 hw) (wd_124 hw) (wd_121 hw) (wd_125 hw) (by decide) (argsL := [.null, (.ref b), (.int (0 : Int32)), (.int (0 : Int32)), (.int (2 : Int32))]) (S := []) (m_srt1_2 hw gb Ab) pd_6 rfl rfl rfl (by decide) (Nat.le_of_ble_eq_true rfl) (by decide) (by decide) (fun T h1 v1 L1 X q1 => ?_)
  obtain ⟨rfl, r1⟩ := q1
  show Wp _ _ _ _ (T.setTop (mkF _ _ _ []))
  exact w_retV X k2529_12_76 ⟨rfl, r1⟩ (by decide) (by decide)
theorem m_srt3_2 {l : Launch} {Z : State} {a0 : Array Value} {n0 : Nat} (hw : own_hw a0 Z) {h0 : Heap} {b : Addr} {y0 y1 : Int64} (gb : n0 ≤ b) (Ab : Ary Z h0 b .long [(.long y0), (.long y1)]) :
    Does l Z n0 ⟨"java/util/Arrays", "sort", "([J)V"⟩ jdk_65_method_4_code 1 none [] { frames := 3, cells := 0, slots := 0, locals := 72 } #[(.ref b)] h0 (fun v h => v = none ∧ Keep h0 h [b] ∧ ∃ z0 z1 : Int64, Ary Z h b .long [(.long z0), (.long z1)] ∧ own_srt [y0, y1] = [z0, z1]) := by
  refine Does.start (plainFor_of_name pn_7) ?_
  intro p e s m below meth c T X
  replace X : Sd _ _ _ _ _ "java/util/Arrays" "sort" _ _ _ _ _ _ _ _ _ _ _ _ _ _ _ _ := X
  refine Wp.cast (g' := mkF m 0 #[.val (.ref b)] []) (by first | (simp [entryFrame, mkF, argsToLocals, Value.category, maxLocals]; done) | rfl) ?_
  refine w_aloadN X k65_4_0 rfl (rfl) ?_
  refine w_iconst X (0 : Int32) k65_4_1 rfl ?_
  refine w_iconst X (0 : Int32) k65_4_2 rfl ?_
  refine w_aloadN X k65_4_3 rfl (rfl) ?_
  refine w_arrlen X (2 : Int32) k65_4_4 Ab rfl ?_
  refine w_callS X k65_4_5 (wd_119 hw) (wd_120 hw) (wd_121 hw) (wd_122 hw) (by decide) (argsL := [(.ref b), (.int (0 : Int32)), (.int (0 : Int32)), (.int (2 : Int32))]) (S := []) (m_srt2_2 hw gb Ab) pd_7 rfl rfl rfl (by decide) (Nat.le_of_ble_eq_true rfl) (by decide) (by decide) (fun T h1 v1 L1 X q1 => ?_)
  obtain ⟨rfl, r1⟩ := q1
  show Wp _ _ _ _ (T.setTop (mkF _ _ _ []))
  exact w_retV X k65_4_8 ⟨rfl, r1⟩ (by decide) (by decide)
theorem m_ins_3 {l : Launch} {Z : State} {a0 : Array Value} {n0 : Nat} (hw : own_hw a0 Z) {h0 : Heap} {b : Addr} {y0 y1 y2 : Int64} (gb : n0 ≤ b) (Ab : Ary Z h0 b .long [(.long y0), (.long y1), (.long y2)]) :
    Does l Z n0 ⟨"java/util/DualPivotQuicksort", "insertionSort", "([JII)V"⟩ jdk_2529_method_15_code 7 none [] { frames := 0, cells := 0, slots := 0, locals := 0 } #[(.ref b), (.int (0 : Int32)), (.int (3 : Int32))] h0 (fun v h => v = none ∧ Keep h0 h [b] ∧ ∃ z0 z1 z2 : Int64, Ary Z h b .long [(.long z0), (.long z1), (.long z2)] ∧ own_srt [y0, y1, y2] = [z0, z1, z2]) := by
  refine Does.start (plainFor_of_name pn_6) ?_
  intro p e s m below meth c T X
  replace X : Sd _ _ _ _ _ "java/util/DualPivotQuicksort" "insertionSort" _ _ _ _ _ _ _ _ _ _ _ _ _ _ _ _ := X
  refine Wp.cast (g' := mkF m 0 #[.val (.ref b), .val (.int (0 : Int32)), .val (.int (3 : Int32)), .unset, .unset, .unset, .unset] []) (by first | (simp [entryFrame, mkF, argsToLocals, Value.category, maxLocals]; done) | rfl) ?_
  refine w_iloadN X k2529_15_0 rfl ?_
  refine w_istore X #[.val (.ref b), .val (.int (0 : Int32)), .val (.int (3 : Int32)), .unset, .val (.int (0 : Int32)), .unset, .unset] k2529_15_1 rfl ?_
  refine w_iinc X (1 : Int32) #[.val (.ref b), .val (.int (0 : Int32)), .val (.int (3 : Int32)), .unset, .val (.int (1 : Int32)), .unset, .unset] k2529_15_3 rfl rfl rfl ?_
  refine w_iload X k2529_15_6 rfl ?_
  refine w_iloadN X k2529_15_8 rfl ?_
  refine w_icmpge X k2529_15_9 (fun hc => absurd (by decide) hc) (fun _ => ?_)
  refine w_aloadN X k2529_15_12 rfl (rfl) ?_
  refine w_iload X k2529_15_13 rfl ?_
  refine w_dup X k2529_15_15 rfl ?_
  refine w_istoreN X #[.val (.ref b), .val (.int (0 : Int32)), .val (.int (3 : Int32)), .val (.int (1 : Int32)), .val (.int (1 : Int32)), .unset, .unset] k2529_15_16 rfl ?_
  refine w_laload X k2529_15_17 Ab (by decide) rfl ?_
  refine w_lstore X #[.val (.ref b), .val (.int (0 : Int32)), .val (.int (3 : Int32)), .val (.int (1 : Int32)), .val (.int (1 : Int32)), .val (.long y1), .second] k2529_15_18 rfl ?_
  refine w_lload X k2529_15_20 rfl ?_
  refine w_aloadN X k2529_15_22 rfl (rfl) ?_
  refine w_iloadN X k2529_15_23 rfl ?_
  refine w_iconst X (1 : Int32) k2529_15_24 rfl ?_
  refine w_isub X k2529_15_25 ?_
  refine w_laload X k2529_15_26 Ab (by decide) rfl ?_
  refine w_lge X k2529_15_27 k2529_15_28 (fun (hc28 : ¬ y1 < y0) => ?_) (fun (hc28 : y1 < y0) => ?_)
  · refine w_goto X k2529_15_66 ?_
    refine w_iinc X (1 : Int32) #[.val (.ref b), .val (.int (0 : Int32)), .val (.int (3 : Int32)), .val (.int (1 : Int32)), .val (.int (2 : Int32)), .val (.long y1), .second] k2529_15_3 rfl rfl rfl ?_
    refine w_iload X k2529_15_6 rfl ?_
    refine w_iloadN X k2529_15_8 rfl ?_
    refine w_icmpge X k2529_15_9 (fun hc => absurd (by decide) hc) (fun _ => ?_)
    refine w_aloadN X k2529_15_12 rfl (rfl) ?_
    refine w_iload X k2529_15_13 rfl ?_
    refine w_dup X k2529_15_15 rfl ?_
    refine w_istoreN X #[.val (.ref b), .val (.int (0 : Int32)), .val (.int (3 : Int32)), .val (.int (2 : Int32)), .val (.int (2 : Int32)), .val (.long y1), .second] k2529_15_16 rfl ?_
    refine w_laload X k2529_15_17 Ab (by decide) rfl ?_
    refine w_lstore X #[.val (.ref b), .val (.int (0 : Int32)), .val (.int (3 : Int32)), .val (.int (2 : Int32)), .val (.int (2 : Int32)), .val (.long y2), .second] k2529_15_18 rfl ?_
    refine w_lload X k2529_15_20 rfl ?_
    refine w_aloadN X k2529_15_22 rfl (rfl) ?_
    refine w_iloadN X k2529_15_23 rfl ?_
    refine w_iconst X (1 : Int32) k2529_15_24 rfl ?_
    refine w_isub X k2529_15_25 ?_
    refine w_laload X k2529_15_26 Ab (by decide) rfl ?_
    refine w_lge X k2529_15_27 k2529_15_28 (fun (hc28_1 : ¬ y2 < y1) => ?_) (fun (hc28_1 : y2 < y1) => ?_)
    · refine w_goto X k2529_15_66 ?_
      refine w_iinc X (1 : Int32) #[.val (.ref b), .val (.int (0 : Int32)), .val (.int (3 : Int32)), .val (.int (2 : Int32)), .val (.int (3 : Int32)), .val (.long y2), .second] k2529_15_3 rfl rfl rfl ?_
      refine w_iload X k2529_15_6 rfl ?_
      refine w_iloadN X k2529_15_8 rfl ?_
      refine w_icmpge X k2529_15_9 (fun _ => ?_) (fun hc => absurd hc Int32.lt_irrefl)
      exact w_retV X k2529_15_69 ⟨rfl, (Keep.refl h0 [b]), _, _, _, Ab, by simp only [own_srt, List.foldl_cons, List.foldl_nil, own_insr, hc28, hc28_1, if_true, if_false, List.reverse_cons, List.reverse_nil, List.nil_append, List.cons_append]⟩ (by decide) (by decide)
    · refine w_iinc X (-1 : Int32) #[.val (.ref b), .val (.int (0 : Int32)), .val (.int (3 : Int32)), .val (.int (1 : Int32)), .val (.int (2 : Int32)), .val (.long y2), .second] k2529_15_31 rfl rfl rfl ?_
      refine w_iloadN X k2529_15_34 rfl ?_
      refine w_iloadN X k2529_15_35 rfl ?_
      refine w_icmplt X k2529_15_36 (fun hc => absurd hc (by decide)) (fun _ => ?_)
      refine w_lload X k2529_15_39 rfl ?_
      refine w_aloadN X k2529_15_41 rfl (rfl) ?_
      refine w_iloadN X k2529_15_42 rfl ?_
      refine w_laload X k2529_15_43 Ab (by decide) rfl ?_
      refine w_lge X k2529_15_44 k2529_15_45 (fun hc => absurd hc28_1 hc) (fun _ => ?_)
      refine w_aloadN X k2529_15_48 rfl (rfl) ?_
      refine w_iloadN X k2529_15_49 rfl ?_
      refine w_iconst X (1 : Int32) k2529_15_50 rfl ?_
      refine w_iadd X k2529_15_51 ?_
      refine w_aloadN X k2529_15_52 rfl (rfl) ?_
      refine w_iloadN X k2529_15_53 rfl ?_
      refine w_laload X k2529_15_54 Ab (by decide) rfl ?_
      refine w_lastore X k2529_15_55 Ab (by decide) rfl gb (.long y1) rfl [(.long y0), (.long y1), (.long y1)] rfl (fun T h1 X W1 A1 => ?_)
      have K1 : Keep h0 h1 [b] := (Keep.refl h0 [b]).wr W1 (Or.inl (List.mem_of_getElem? (i := 0) rfl))
      refine w_goto X k2529_15_56 ?_
      refine w_iinc X (-1 : Int32) #[.val (.ref b), .val (.int (0 : Int32)), .val (.int (3 : Int32)), .val (.int (0 : Int32)), .val (.int (2 : Int32)), .val (.long y2), .second] k2529_15_31 rfl rfl rfl ?_
      refine w_iloadN X k2529_15_34 rfl ?_
      refine w_iloadN X k2529_15_35 rfl ?_
      refine w_icmplt X k2529_15_36 (fun hc => absurd hc Int32.lt_irrefl) (fun _ => ?_)
      refine w_lload X k2529_15_39 rfl ?_
      refine w_aloadN X k2529_15_41 rfl (rfl) ?_
      refine w_iloadN X k2529_15_42 rfl ?_
      refine w_laload X k2529_15_43 A1 (by decide) rfl ?_
      refine w_lge X k2529_15_44 k2529_15_45 (fun (hc45 : ¬ y2 < y0) => ?_) (fun (hc45 : y2 < y0) => ?_)
      · refine w_aloadN X k2529_15_59 rfl (rfl) ?_
        refine w_iloadN X k2529_15_60 rfl ?_
        refine w_iconst X (1 : Int32) k2529_15_61 rfl ?_
        refine w_iadd X k2529_15_62 ?_
        refine w_lload X k2529_15_63 rfl ?_
        refine w_lastore X k2529_15_65 A1 (by decide) rfl gb (.long y2) rfl [(.long y0), (.long y2), (.long y1)] rfl (fun T h2 X W2 A2 => ?_)
        have K2 : Keep h0 h2 [b] := K1.wr W2 (Or.inl (List.mem_of_getElem? (i := 0) rfl))
        refine w_goto X k2529_15_66 ?_
        refine w_iinc X (1 : Int32) #[.val (.ref b), .val (.int (0 : Int32)), .val (.int (3 : Int32)), .val (.int (0 : Int32)), .val (.int (3 : Int32)), .val (.long y2), .second] k2529_15_3 rfl rfl rfl ?_
        refine w_iload X k2529_15_6 rfl ?_
        refine w_iloadN X k2529_15_8 rfl ?_
        refine w_icmpge X k2529_15_9 (fun _ => ?_) (fun hc => absurd hc Int32.lt_irrefl)
        exact w_retV X k2529_15_69 ⟨rfl, K2, _, _, _, A2, by simp only [own_srt, List.foldl_cons, List.foldl_nil, own_insr, hc28, hc28_1, hc45, if_true, if_false, List.reverse_cons, List.reverse_nil, List.nil_append, List.cons_append]⟩ (by decide) (by decide)
      · refine w_aloadN X k2529_15_48 rfl (rfl) ?_
        refine w_iloadN X k2529_15_49 rfl ?_
        refine w_iconst X (1 : Int32) k2529_15_50 rfl ?_
        refine w_iadd X k2529_15_51 ?_
        refine w_aloadN X k2529_15_52 rfl (rfl) ?_
        refine w_iloadN X k2529_15_53 rfl ?_
        refine w_laload X k2529_15_54 A1 (by decide) rfl ?_
        refine w_lastore X k2529_15_55 A1 (by decide) rfl gb (.long y0) rfl [(.long y0), (.long y0), (.long y1)] rfl (fun T h3 X W3 A3 => ?_)
        have K3 : Keep h0 h3 [b] := K1.wr W3 (Or.inl (List.mem_of_getElem? (i := 0) rfl))
        refine w_goto X k2529_15_56 ?_
        refine w_iinc X (-1 : Int32) #[.val (.ref b), .val (.int (0 : Int32)), .val (.int (3 : Int32)), .val (.int (-1 : Int32)), .val (.int (2 : Int32)), .val (.long y2), .second] k2529_15_31 rfl rfl rfl ?_
        refine w_iloadN X k2529_15_34 rfl ?_
        refine w_iloadN X k2529_15_35 rfl ?_
        refine w_icmplt X k2529_15_36 (fun _ => ?_) (fun hc => absurd (by decide) hc)
        refine w_aloadN X k2529_15_59 rfl (rfl) ?_
        refine w_iloadN X k2529_15_60 rfl ?_
        refine w_iconst X (1 : Int32) k2529_15_61 rfl ?_
        refine w_iadd X k2529_15_62 ?_
        refine w_lload X k2529_15_63 rfl ?_
        refine w_lastore X k2529_15_65 A3 (by decide) rfl gb (.long y2) rfl [(.long y2), (.long y0), (.long y1)] rfl (fun T h4 X W4 A4 => ?_)
        have K4 : Keep h0 h4 [b] := K3.wr W4 (Or.inl (List.mem_of_getElem? (i := 0) rfl))
        refine w_goto X k2529_15_66 ?_
        refine w_iinc X (1 : Int32) #[.val (.ref b), .val (.int (0 : Int32)), .val (.int (3 : Int32)), .val (.int (-1 : Int32)), .val (.int (3 : Int32)), .val (.long y2), .second] k2529_15_3 rfl rfl rfl ?_
        refine w_iload X k2529_15_6 rfl ?_
        refine w_iloadN X k2529_15_8 rfl ?_
        refine w_icmpge X k2529_15_9 (fun _ => ?_) (fun hc => absurd hc Int32.lt_irrefl)
        exact w_retV X k2529_15_69 ⟨rfl, K4, _, _, _, A4, by simp only [own_srt, List.foldl_cons, List.foldl_nil, own_insr, hc28, hc28_1, hc45, if_true, if_false, List.reverse_cons, List.reverse_nil, List.nil_append, List.cons_append]⟩ (by decide) (by decide)
  · refine w_iinc X (-1 : Int32) #[.val (.ref b), .val (.int (0 : Int32)), .val (.int (3 : Int32)), .val (.int (0 : Int32)), .val (.int (1 : Int32)), .val (.long y1), .second] k2529_15_31 rfl rfl rfl ?_
    refine w_iloadN X k2529_15_34 rfl ?_
    refine w_iloadN X k2529_15_35 rfl ?_
    refine w_icmplt X k2529_15_36 (fun hc => absurd hc Int32.lt_irrefl) (fun _ => ?_)
    refine w_lload X k2529_15_39 rfl ?_
    refine w_aloadN X k2529_15_41 rfl (rfl) ?_
    refine w_iloadN X k2529_15_42 rfl ?_
    refine w_laload X k2529_15_43 Ab (by decide) rfl ?_
    refine w_lge X k2529_15_44 k2529_15_45 (fun hc => absurd hc28 hc) (fun _ => ?_)
    refine w_aloadN X k2529_15_48 rfl (rfl) ?_
    refine w_iloadN X k2529_15_49 rfl ?_
    refine w_iconst X (1 : Int32) k2529_15_50 rfl ?_
    refine w_iadd X k2529_15_51 ?_
    refine w_aloadN X k2529_15_52 rfl (rfl) ?_
    refine w_iloadN X k2529_15_53 rfl ?_
    refine w_laload X k2529_15_54 Ab (by decide) rfl ?_
    refine w_lastore X k2529_15_55 Ab (by decide) rfl gb (.long y0) rfl [(.long y0), (.long y0), (.long y2)] rfl (fun T h5 X W5 A5 => ?_)
    have K5 : Keep h0 h5 [b] := (Keep.refl h0 [b]).wr W5 (Or.inl (List.mem_of_getElem? (i := 0) rfl))
    refine w_goto X k2529_15_56 ?_
    refine w_iinc X (-1 : Int32) #[.val (.ref b), .val (.int (0 : Int32)), .val (.int (3 : Int32)), .val (.int (-1 : Int32)), .val (.int (1 : Int32)), .val (.long y1), .second] k2529_15_31 rfl rfl rfl ?_
    refine w_iloadN X k2529_15_34 rfl ?_
    refine w_iloadN X k2529_15_35 rfl ?_
    refine w_icmplt X k2529_15_36 (fun _ => ?_) (fun hc => absurd (by decide) hc)
    refine w_aloadN X k2529_15_59 rfl (rfl) ?_
    refine w_iloadN X k2529_15_60 rfl ?_
    refine w_iconst X (1 : Int32) k2529_15_61 rfl ?_
    refine w_iadd X k2529_15_62 ?_
    refine w_lload X k2529_15_63 rfl ?_
    refine w_lastore X k2529_15_65 A5 (by decide) rfl gb (.long y1) rfl [(.long y1), (.long y0), (.long y2)] rfl (fun T h6 X W6 A6 => ?_)
    have K6 : Keep h0 h6 [b] := K5.wr W6 (Or.inl (List.mem_of_getElem? (i := 0) rfl))
    refine w_goto X k2529_15_66 ?_
    refine w_iinc X (1 : Int32) #[.val (.ref b), .val (.int (0 : Int32)), .val (.int (3 : Int32)), .val (.int (-1 : Int32)), .val (.int (2 : Int32)), .val (.long y1), .second] k2529_15_3 rfl rfl rfl ?_
    refine w_iload X k2529_15_6 rfl ?_
    refine w_iloadN X k2529_15_8 rfl ?_
    refine w_icmpge X k2529_15_9 (fun hc => absurd (by decide) hc) (fun _ => ?_)
    refine w_aloadN X k2529_15_12 rfl (rfl) ?_
    refine w_iload X k2529_15_13 rfl ?_
    refine w_dup X k2529_15_15 rfl ?_
    refine w_istoreN X #[.val (.ref b), .val (.int (0 : Int32)), .val (.int (3 : Int32)), .val (.int (2 : Int32)), .val (.int (2 : Int32)), .val (.long y1), .second] k2529_15_16 rfl ?_
    refine w_laload X k2529_15_17 A6 (by decide) rfl ?_
    refine w_lstore X #[.val (.ref b), .val (.int (0 : Int32)), .val (.int (3 : Int32)), .val (.int (2 : Int32)), .val (.int (2 : Int32)), .val (.long y2), .second] k2529_15_18 rfl ?_
    refine w_lload X k2529_15_20 rfl ?_
    refine w_aloadN X k2529_15_22 rfl (rfl) ?_
    refine w_iloadN X k2529_15_23 rfl ?_
    refine w_iconst X (1 : Int32) k2529_15_24 rfl ?_
    refine w_isub X k2529_15_25 ?_
    refine w_laload X k2529_15_26 A6 (by decide) rfl ?_
    refine w_lge X k2529_15_27 k2529_15_28 (fun (hc28_1 : ¬ y2 < y0) => ?_) (fun (hc28_1 : y2 < y0) => ?_)
    · refine w_goto X k2529_15_66 ?_
      refine w_iinc X (1 : Int32) #[.val (.ref b), .val (.int (0 : Int32)), .val (.int (3 : Int32)), .val (.int (2 : Int32)), .val (.int (3 : Int32)), .val (.long y2), .second] k2529_15_3 rfl rfl rfl ?_
      refine w_iload X k2529_15_6 rfl ?_
      refine w_iloadN X k2529_15_8 rfl ?_
      refine w_icmpge X k2529_15_9 (fun _ => ?_) (fun hc => absurd hc Int32.lt_irrefl)
      exact w_retV X k2529_15_69 ⟨rfl, K6, _, _, _, A6, by simp only [own_srt, List.foldl_cons, List.foldl_nil, own_insr, hc28, hc28_1, if_true, if_false, List.reverse_cons, List.reverse_nil, List.nil_append, List.cons_append]⟩ (by decide) (by decide)
    · refine w_iinc X (-1 : Int32) #[.val (.ref b), .val (.int (0 : Int32)), .val (.int (3 : Int32)), .val (.int (1 : Int32)), .val (.int (2 : Int32)), .val (.long y2), .second] k2529_15_31 rfl rfl rfl ?_
      refine w_iloadN X k2529_15_34 rfl ?_
      refine w_iloadN X k2529_15_35 rfl ?_
      refine w_icmplt X k2529_15_36 (fun hc => absurd hc (by decide)) (fun _ => ?_)
      refine w_lload X k2529_15_39 rfl ?_
      refine w_aloadN X k2529_15_41 rfl (rfl) ?_
      refine w_iloadN X k2529_15_42 rfl ?_
      refine w_laload X k2529_15_43 A6 (by decide) rfl ?_
      refine w_lge X k2529_15_44 k2529_15_45 (fun hc => absurd hc28_1 hc) (fun _ => ?_)
      refine w_aloadN X k2529_15_48 rfl (rfl) ?_
      refine w_iloadN X k2529_15_49 rfl ?_
      refine w_iconst X (1 : Int32) k2529_15_50 rfl ?_
      refine w_iadd X k2529_15_51 ?_
      refine w_aloadN X k2529_15_52 rfl (rfl) ?_
      refine w_iloadN X k2529_15_53 rfl ?_
      refine w_laload X k2529_15_54 A6 (by decide) rfl ?_
      refine w_lastore X k2529_15_55 A6 (by decide) rfl gb (.long y0) rfl [(.long y1), (.long y0), (.long y0)] rfl (fun T h7 X W7 A7 => ?_)
      have K7 : Keep h0 h7 [b] := K6.wr W7 (Or.inl (List.mem_of_getElem? (i := 0) rfl))
      refine w_goto X k2529_15_56 ?_
      refine w_iinc X (-1 : Int32) #[.val (.ref b), .val (.int (0 : Int32)), .val (.int (3 : Int32)), .val (.int (0 : Int32)), .val (.int (2 : Int32)), .val (.long y2), .second] k2529_15_31 rfl rfl rfl ?_
      refine w_iloadN X k2529_15_34 rfl ?_
      refine w_iloadN X k2529_15_35 rfl ?_
      refine w_icmplt X k2529_15_36 (fun hc => absurd hc Int32.lt_irrefl) (fun _ => ?_)
      refine w_lload X k2529_15_39 rfl ?_
      refine w_aloadN X k2529_15_41 rfl (rfl) ?_
      refine w_iloadN X k2529_15_42 rfl ?_
      refine w_laload X k2529_15_43 A7 (by decide) rfl ?_
      refine w_lge X k2529_15_44 k2529_15_45 (fun (hc45 : ¬ y2 < y1) => ?_) (fun (hc45 : y2 < y1) => ?_)
      · refine w_aloadN X k2529_15_59 rfl (rfl) ?_
        refine w_iloadN X k2529_15_60 rfl ?_
        refine w_iconst X (1 : Int32) k2529_15_61 rfl ?_
        refine w_iadd X k2529_15_62 ?_
        refine w_lload X k2529_15_63 rfl ?_
        refine w_lastore X k2529_15_65 A7 (by decide) rfl gb (.long y2) rfl [(.long y1), (.long y2), (.long y0)] rfl (fun T h8 X W8 A8 => ?_)
        have K8 : Keep h0 h8 [b] := K7.wr W8 (Or.inl (List.mem_of_getElem? (i := 0) rfl))
        refine w_goto X k2529_15_66 ?_
        refine w_iinc X (1 : Int32) #[.val (.ref b), .val (.int (0 : Int32)), .val (.int (3 : Int32)), .val (.int (0 : Int32)), .val (.int (3 : Int32)), .val (.long y2), .second] k2529_15_3 rfl rfl rfl ?_
        refine w_iload X k2529_15_6 rfl ?_
        refine w_iloadN X k2529_15_8 rfl ?_
        refine w_icmpge X k2529_15_9 (fun _ => ?_) (fun hc => absurd hc Int32.lt_irrefl)
        exact w_retV X k2529_15_69 ⟨rfl, K8, _, _, _, A8, by simp only [own_srt, List.foldl_cons, List.foldl_nil, own_insr, hc28, hc28_1, hc45, if_true, if_false, List.reverse_cons, List.reverse_nil, List.nil_append, List.cons_append]⟩ (by decide) (by decide)
      · refine w_aloadN X k2529_15_48 rfl (rfl) ?_
        refine w_iloadN X k2529_15_49 rfl ?_
        refine w_iconst X (1 : Int32) k2529_15_50 rfl ?_
        refine w_iadd X k2529_15_51 ?_
        refine w_aloadN X k2529_15_52 rfl (rfl) ?_
        refine w_iloadN X k2529_15_53 rfl ?_
        refine w_laload X k2529_15_54 A7 (by decide) rfl ?_
        refine w_lastore X k2529_15_55 A7 (by decide) rfl gb (.long y1) rfl [(.long y1), (.long y1), (.long y0)] rfl (fun T h9 X W9 A9 => ?_)
        have K9 : Keep h0 h9 [b] := K7.wr W9 (Or.inl (List.mem_of_getElem? (i := 0) rfl))
        refine w_goto X k2529_15_56 ?_
        refine w_iinc X (-1 : Int32) #[.val (.ref b), .val (.int (0 : Int32)), .val (.int (3 : Int32)), .val (.int (-1 : Int32)), .val (.int (2 : Int32)), .val (.long y2), .second] k2529_15_31 rfl rfl rfl ?_
        refine w_iloadN X k2529_15_34 rfl ?_
        refine w_iloadN X k2529_15_35 rfl ?_
        refine w_icmplt X k2529_15_36 (fun _ => ?_) (fun hc => absurd (by decide) hc)
        refine w_aloadN X k2529_15_59 rfl (rfl) ?_
        refine w_iloadN X k2529_15_60 rfl ?_
        refine w_iconst X (1 : Int32) k2529_15_61 rfl ?_
        refine w_iadd X k2529_15_62 ?_
        refine w_lload X k2529_15_63 rfl ?_
        refine w_lastore X k2529_15_65 A9 (by decide) rfl gb (.long y2) rfl [(.long y2), (.long y1), (.long y0)] rfl (fun T h10 X W10 A10 => ?_)
        have K10 : Keep h0 h10 [b] := K9.wr W10 (Or.inl (List.mem_of_getElem? (i := 0) rfl))
        refine w_goto X k2529_15_66 ?_
        refine w_iinc X (1 : Int32) #[.val (.ref b), .val (.int (0 : Int32)), .val (.int (3 : Int32)), .val (.int (-1 : Int32)), .val (.int (3 : Int32)), .val (.long y2), .second] k2529_15_3 rfl rfl rfl ?_
        refine w_iload X k2529_15_6 rfl ?_
        refine w_iloadN X k2529_15_8 rfl ?_
        refine w_icmpge X k2529_15_9 (fun _ => ?_) (fun hc => absurd hc Int32.lt_irrefl)
        exact w_retV X k2529_15_69 ⟨rfl, K10, _, _, _, A10, by simp only [own_srt, List.foldl_cons, List.foldl_nil, own_insr, hc28, hc28_1, hc45, if_true, if_false, List.reverse_cons, List.reverse_nil, List.nil_append, List.cons_append]⟩ (by decide) (by decide)
theorem m_srt1_3 {l : Launch} {Z : State} {a0 : Array Value} {n0 : Nat} (hw : own_hw a0 Z) {h0 : Heap} {b : Addr} {y0 y1 y2 : Int64} (gb : n0 ≤ b) (Ab : Ary Z h0 b .long [(.long y0), (.long y1), (.long y2)]) :
    Does l Z n0 ⟨"java/util/DualPivotQuicksort", "sort", "(Ljava/util/DualPivotQuicksort$Sorter;[JIII)V"⟩ jdk_2529_method_13_code 25 none [] { frames := 1, cells := 0, slots := 0, locals := 18 } #[.null, (.ref b), (.int (0 : Int32)), (.int (0 : Int32)), (.int (3 : Int32))] h0 (fun v h => v = none ∧ Keep h0 h [b] ∧ ∃ z0 z1 z2 : Int64, Ary Z h b .long [(.long z0), (.long z1), (.long z2)] ∧ own_srt [y0, y1, y2] = [z0, z1, z2]) := by
  refine Does.start (plainFor_of_name pn_6) ?_
  intro p e s m below meth c T X
  replace X : Sd _ _ _ _ _ "java/util/DualPivotQuicksort" "sort" _ _ _ _ _ _ _ _ _ _ _ _ _ _ _ _ := X
  refine Wp.cast (g' := mkF m 0 #[.val .null, .val (.ref b), .val (.int (0 : Int32)), .val (.int (0 : Int32)), .val (.int (3 : Int32)), .unset, .unset, .unset, .unset, .unset, .unset, .unset, .unset, .unset, .unset, .unset, .unset, .unset, .unset, .unset, .unset, .unset, .unset, .unset, .unset] []) (by first | (simp [entryFrame, mkF, argsToLocals, Value.category, maxLocals]; done) | rfl) ?_
  refine w_iload X k2529_13_0 rfl ?_
  refine w_iconst X (1 : Int32) k2529_13_2 rfl ?_
  refine w_isub X k2529_13_3 ?_
  refine w_istore X #[.val .null, .val (.ref b), .val (.int (0 : Int32)), .val (.int (0 : Int32)), .val (.int (3 : Int32)), .val (.int (2 : Int32)), .unset, .unset, .unset, .unset, .unset, .unset, .unset, .unset, .unset, .unset, .unset, .unset, .unset, .unset, .unset, .unset, .unset, .unset, .unset] k2529_13_4 rfl ?_
  refine w_iload X k2529_13_6 rfl ?_
  refine w_iloadN X k2529_13_8 rfl ?_
  refine w_isub X k2529_13_9 ?_
  refine w_istore X #[.val .null, .val (.ref b), .val (.int (0 : Int32)), .val (.int (0 : Int32)), .val (.int (3 : Int32)), .val (.int (2 : Int32)), .val (.int (3 : Int32)), .unset, .unset, .unset, .unset, .unset, .unset, .unset, .unset, .unset, .unset, .unset, .unset, .unset, .unset, .unset, .unset, .unset, .unset] k2529_13_10 rfl ?_
  refine w_iload X k2529_13_12 rfl ?_
  refine w_bipush X (65 : Int32) k2529_13_14 rfl ?_
  refine w_iloadN X k2529_13_16 rfl ?_
  refine w_iadd X k2529_13_17 ?_
  refine w_icmpge X k2529_13_18 (fun hc => absurd (by decide) hc) (fun _ => ?_)
  refine w_iloadN X k2529_13_21 rfl ?_
  refine w_iconst X (1 : Int32) k2529_13_22 rfl ?_
  refine w_iand X k2529_13_23 ?_
  refine w_ifle X k2529_13_24 (fun _ => ?_) (fun hc => absurd hc Int32.lt_irrefl)
  refine w_iload X k2529_13_46 rfl ?_
  refine w_bipush X (44 : Int32) k2529_13_48 rfl ?_
  refine w_icmpge X k2529_13_50 (fun hc => absurd (by decide) hc) (fun _ => ?_)
  refine w_aloadN X k2529_13_53 rfl (rfl) ?_
  refine w_iloadN X k2529_13_54 rfl ?_
  refine w_iload X k2529_13_55 rfl ?_
  refine w_callS X k2529_13_57 (wd_126 hw) (wd_127 hw) (wd_121 hw) (wd_128 hw) (by decide) (argsL := [(.ref b), (.int (0 : Int32)), (.int (3 : Int32))]) (S := []) (m_ins_3 hw gb Ab) pd_5 rfl rfl rfl (by decide) (Nat.le_of_ble_eq_true rfl) (by decide) (by decide) (fun T h1 v1 L1 X q1 => ?_)
  obtain ⟨rfl, r1⟩ := q1
  show Wp _ _ _ _ (T.setTop (mkF _ _ _ []))
  exact w_retV X k2529_13_60 ⟨rfl, r1⟩ (by decide) (by decide)
theorem m_srt2_3 {l : Launch} {Z : State} {a0 : Array Value} {n0 : Nat} (hw : own_hw a0 Z) {h0 : Heap} {b : Addr} {y0 y1 y2 : Int64} (gb : n0 ≤ b) (Ab : Ary Z h0 b .long [(.long y0), (.long y1), (.long y2)]) :
    Does l Z n0 ⟨"java/util/DualPivotQuicksort", "sort", "([JIII)V"⟩ jdk_2529_method_12_code 7 none [] { frames := 2, cells := 0, slots := 0, locals := 54 } #[(.ref b), (.int (0 : Int32)), (.int (0 : Int32)), (.int (3 : Int32))] h0 (fun v h => v = none ∧ Keep h0 h [b] ∧ ∃ z0 z1 z2 : Int64, Ary Z h b .long [(.long z0), (.long z1), (.long z2)] ∧ own_srt [y0, y1, y2] = [z0, z1, z2]) := by
  refine Does.start (plainFor_of_name pn_6) ?_
  intro p e s m below meth c T X
  replace X : Sd _ _ _ _ _ "java/util/DualPivotQuicksort" "sort" _ _ _ _ _ _ _ _ _ _ _ _ _ _ _ _ := X
  refine Wp.cast (g' := mkF m 0 #[.val (.ref b), .val (.int (0 : Int32)), .val (.int (0 : Int32)), .val (.int (3 : Int32)), .unset, .unset, .unset] []) (by first | (simp [entryFrame, mkF, argsToLocals, Value.category, maxLocals]; done) | rfl) ?_
  refine w_iloadN X k2529_12_0 rfl ?_
  refine w_iloadN X k2529_12_1 rfl ?_
  refine w_isub X k2529_12_2 ?_
  refine w_istore X #[.val (.ref b), .val (.int (0 : Int32)), .val (.int (0 : Int32)), .val (.int (3 : Int32)), .val (.int (3 : Int32)), .unset, .unset] k2529_12_3 rfl ?_
  refine w_iloadN X k2529_12_5 rfl ?_
  refine w_iconst X (1 : Int32) k2529_12_6 rfl ?_
  refine w_icmple X k2529_12_7 (fun _ => ?_) (fun hc => absurd hc (by decide))
  refine w_aconstNull X k2529_12_68 ?_
  refine w_aloadN X k2529_12_69 rfl (rfl) ?_
  refine w_iconst X (0 : Int32) k2529_12_70 rfl ?_
  refine w_iloadN X k2529_12_71 rfl ?_
  refine w_iloadN X k2529_12_72 rfl ?_
  refine w_callS X k2529_12_73 (wd_123 hw) (wd_124 hw) (wd_121 hw) (wd_125 hw) (by decide) (argsL := [.null, (.ref b), (.int (0 : Int32)), (.int (0 : Int32)), (.int (3 : Int32))]) (S := []) (m_srt1_3 hw gb Ab) pd_6 rfl rfl rfl (by decide) (Nat.le_of_ble_eq_true rfl) (by decide) (by decide) (fun T h1 v1 L1 X q1 => ?_)
  obtain ⟨rfl, r1⟩ := q1
  show Wp _ _ _ _ (T.setTop (mkF _ _ _ []))
  exact w_retV X k2529_12_76 ⟨rfl, r1⟩ (by decide) (by decide)
theorem m_srt3_3 {l : Launch} {Z : State} {a0 : Array Value} {n0 : Nat} (hw : own_hw a0 Z) {h0 : Heap} {b : Addr} {y0 y1 y2 : Int64} (gb : n0 ≤ b) (Ab : Ary Z h0 b .long [(.long y0), (.long y1), (.long y2)]) :
    Does l Z n0 ⟨"java/util/Arrays", "sort", "([J)V"⟩ jdk_65_method_4_code 1 none [] { frames := 3, cells := 0, slots := 0, locals := 72 } #[(.ref b)] h0 (fun v h => v = none ∧ Keep h0 h [b] ∧ ∃ z0 z1 z2 : Int64, Ary Z h b .long [(.long z0), (.long z1), (.long z2)] ∧ own_srt [y0, y1, y2] = [z0, z1, z2]) := by
  refine Does.start (plainFor_of_name pn_7) ?_
  intro p e s m below meth c T X
  replace X : Sd _ _ _ _ _ "java/util/Arrays" "sort" _ _ _ _ _ _ _ _ _ _ _ _ _ _ _ _ := X
  refine Wp.cast (g' := mkF m 0 #[.val (.ref b)] []) (by first | (simp [entryFrame, mkF, argsToLocals, Value.category, maxLocals]; done) | rfl) ?_
  refine w_aloadN X k65_4_0 rfl (rfl) ?_
  refine w_iconst X (0 : Int32) k65_4_1 rfl ?_
  refine w_iconst X (0 : Int32) k65_4_2 rfl ?_
  refine w_aloadN X k65_4_3 rfl (rfl) ?_
  refine w_arrlen X (3 : Int32) k65_4_4 Ab rfl ?_
  refine w_callS X k65_4_5 (wd_119 hw) (wd_120 hw) (wd_121 hw) (wd_122 hw) (by decide) (argsL := [(.ref b), (.int (0 : Int32)), (.int (0 : Int32)), (.int (3 : Int32))]) (S := []) (m_srt2_3 hw gb Ab) pd_7 rfl rfl rfl (by decide) (Nat.le_of_ble_eq_true rfl) (by decide) (by decide) (fun T h1 v1 L1 X q1 => ?_)
  obtain ⟨rfl, r1⟩ := q1
  show Wp _ _ _ _ (T.setTop (mkF _ _ _ []))
  exact w_retV X k65_4_8 ⟨rfl, r1⟩ (by decide) (by decide)
theorem m_ins_4 {l : Launch} {Z : State} {a0 : Array Value} {n0 : Nat} (hw : own_hw a0 Z) {h0 : Heap} {b : Addr} {y0 y1 y2 y3 : Int64} (gb : n0 ≤ b) (Ab : Ary Z h0 b .long [(.long y0), (.long y1), (.long y2), (.long y3)]) :
    Does l Z n0 ⟨"java/util/DualPivotQuicksort", "insertionSort", "([JII)V"⟩ jdk_2529_method_15_code 7 none [] { frames := 0, cells := 0, slots := 0, locals := 0 } #[(.ref b), (.int (0 : Int32)), (.int (4 : Int32))] h0 (fun v h => v = none ∧ Keep h0 h [b] ∧ ∃ z0 z1 z2 z3 : Int64, Ary Z h b .long [(.long z0), (.long z1), (.long z2), (.long z3)] ∧ own_srt [y0, y1, y2, y3] = [z0, z1, z2, z3]) := by
  refine Does.start (plainFor_of_name pn_6) ?_
  intro p e s m below meth c T X
  replace X : Sd _ _ _ _ _ "java/util/DualPivotQuicksort" "insertionSort" _ _ _ _ _ _ _ _ _ _ _ _ _ _ _ _ := X
  refine Wp.cast (g' := mkF m 0 #[.val (.ref b), .val (.int (0 : Int32)), .val (.int (4 : Int32)), .unset, .unset, .unset, .unset] []) (by first | (simp [entryFrame, mkF, argsToLocals, Value.category, maxLocals]; done) | rfl) ?_
  refine w_iloadN X k2529_15_0 rfl ?_
  refine w_istore X #[.val (.ref b), .val (.int (0 : Int32)), .val (.int (4 : Int32)), .unset, .val (.int (0 : Int32)), .unset, .unset] k2529_15_1 rfl ?_
  refine w_iinc X (1 : Int32) #[.val (.ref b), .val (.int (0 : Int32)), .val (.int (4 : Int32)), .unset, .val (.int (1 : Int32)), .unset, .unset] k2529_15_3 rfl rfl rfl ?_
  refine w_iload X k2529_15_6 rfl ?_
  refine w_iloadN X k2529_15_8 rfl ?_
  refine w_icmpge X k2529_15_9 (fun hc => absurd (by decide) hc) (fun _ => ?_)
  refine w_aloadN X k2529_15_12 rfl (rfl) ?_
  refine w_iload X k2529_15_13 rfl ?_
  refine w_dup X k2529_15_15 rfl ?_
  refine w_istoreN X #[.val (.ref b), .val (.int (0 : Int32)), .val (.int (4 : Int32)), .val (.int (1 : Int32)), .val (.int (1 : Int32)), .unset, .unset] k2529_15_16 rfl ?_
  refine w_laload X k2529_15_17 Ab (by decide) rfl ?_
  refine w_lstore X #[.val (.ref b), .val (.int (0 : Int32)), .val (.int (4 : Int32)), .val (.int (1 : Int32)), .val (.int (1 : Int32)), .val (.long y1), .second] k2529_15_18 rfl ?_
  refine w_lload X k2529_15_20 rfl ?_
  refine w_aloadN X k2529_15_22 rfl (rfl) ?_
  refine w_iloadN X k2529_15_23 rfl ?_
  refine w_iconst X (1 : Int32) k2529_15_24 rfl ?_
  refine w_isub X k2529_15_25 ?_
  refine w_laload X k2529_15_26 Ab (by decide) rfl ?_
  refine w_lge X k2529_15_27 k2529_15_28 (fun (hc28 : ¬ y1 < y0) => ?_) (fun (hc28 : y1 < y0) => ?_)
  · refine w_goto X k2529_15_66 ?_
    refine w_iinc X (1 : Int32) #[.val (.ref b), .val (.int (0 : Int32)), .val (.int (4 : Int32)), .val (.int (1 : Int32)), .val (.int (2 : Int32)), .val (.long y1), .second] k2529_15_3 rfl rfl rfl ?_
    refine w_iload X k2529_15_6 rfl ?_
    refine w_iloadN X k2529_15_8 rfl ?_
    refine w_icmpge X k2529_15_9 (fun hc => absurd (by decide) hc) (fun _ => ?_)
    refine w_aloadN X k2529_15_12 rfl (rfl) ?_
    refine w_iload X k2529_15_13 rfl ?_
    refine w_dup X k2529_15_15 rfl ?_
    refine w_istoreN X #[.val (.ref b), .val (.int (0 : Int32)), .val (.int (4 : Int32)), .val (.int (2 : Int32)), .val (.int (2 : Int32)), .val (.long y1), .second] k2529_15_16 rfl ?_
    refine w_laload X k2529_15_17 Ab (by decide) rfl ?_
    refine w_lstore X #[.val (.ref b), .val (.int (0 : Int32)), .val (.int (4 : Int32)), .val (.int (2 : Int32)), .val (.int (2 : Int32)), .val (.long y2), .second] k2529_15_18 rfl ?_
    refine w_lload X k2529_15_20 rfl ?_
    refine w_aloadN X k2529_15_22 rfl (rfl) ?_
    refine w_iloadN X k2529_15_23 rfl ?_
    refine w_iconst X (1 : Int32) k2529_15_24 rfl ?_
    refine w_isub X k2529_15_25 ?_
    refine w_laload X k2529_15_26 Ab (by decide) rfl ?_
    refine w_lge X k2529_15_27 k2529_15_28 (fun (hc28_1 : ¬ y2 < y1) => ?_) (fun (hc28_1 : y2 < y1) => ?_)
    · refine w_goto X k2529_15_66 ?_
      refine w_iinc X (1 : Int32) #[.val (.ref b), .val (.int (0 : Int32)), .val (.int (4 : Int32)), .val (.int (2 : Int32)), .val (.int (3 : Int32)), .val (.long y2), .second] k2529_15_3 rfl rfl rfl ?_
      refine w_iload X k2529_15_6 rfl ?_
      refine w_iloadN X k2529_15_8 rfl ?_
      refine w_icmpge X k2529_15_9 (fun hc => absurd (by decide) hc) (fun _ => ?_)
      refine w_aloadN X k2529_15_12 rfl (rfl) ?_
      refine w_iload X k2529_15_13 rfl ?_
      refine w_dup X k2529_15_15 rfl ?_
      refine w_istoreN X #[.val (.ref b), .val (.int (0 : Int32)), .val (.int (4 : Int32)), .val (.int (3 : Int32)), .val (.int (3 : Int32)), .val (.long y2), .second] k2529_15_16 rfl ?_
      refine w_laload X k2529_15_17 Ab (by decide) rfl ?_
      refine w_lstore X #[.val (.ref b), .val (.int (0 : Int32)), .val (.int (4 : Int32)), .val (.int (3 : Int32)), .val (.int (3 : Int32)), .val (.long y3), .second] k2529_15_18 rfl ?_
      refine w_lload X k2529_15_20 rfl ?_
      refine w_aloadN X k2529_15_22 rfl (rfl) ?_
      refine w_iloadN X k2529_15_23 rfl ?_
      refine w_iconst X (1 : Int32) k2529_15_24 rfl ?_
      refine w_isub X k2529_15_25 ?_
      refine w_laload X k2529_15_26 Ab (by decide) rfl ?_
      refine w_lge X k2529_15_27 k2529_15_28 (fun (hc28_2 : ¬ y3 < y2) => ?_) (fun (hc28_2 : y3 < y2) => ?_)
      · refine w_goto X k2529_15_66 ?_
        refine w_iinc X (1 : Int32) #[.val (.ref b), .val (.int (0 : Int32)), .val (.int (4 : Int32)), .val (.int (3 : Int32)), .val (.int (4 : Int32)), .val (.long y3), .second] k2529_15_3 rfl rfl rfl ?_
        refine w_iload X k2529_15_6 rfl ?_
        refine w_iloadN X k2529_15_8 rfl ?_
        refine w_icmpge X k2529_15_9 (fun _ => ?_) (fun hc => absurd hc Int32.lt_irrefl)
        exact w_retV X k2529_15_69 ⟨rfl, (Keep.refl h0 [b]), _, _, _, _, Ab, by simp only [own_srt, List.foldl_cons, List.foldl_nil, own_insr, hc28, hc28_1, hc28_2, if_true, if_false, List.reverse_cons, List.reverse_nil, List.nil_append, List.cons_append]⟩ (by decide) (by decide)
      · refine w_iinc X (-1 : Int32) #[.val (.ref b), .val (.int (0 : Int32)), .val (.int (4 : Int32)), .val (.int (2 : Int32)), .val (.int (3 : Int32)), .val (.long y3), .second] k2529_15_31 rfl rfl rfl ?_
        refine w_iloadN X k2529_15_34 rfl ?_
        refine w_iloadN X k2529_15_35 rfl ?_
        refine w_icmplt X k2529_15_36 (fun hc => absurd hc (by decide)) (fun _ => ?_)
        refine w_lload X k2529_15_39 rfl ?_
        refine w_aloadN X k2529_15_41 rfl (rfl) ?_
        refine w_iloadN X k2529_15_42 rfl ?_
        refine w_laload X k2529_15_43 Ab (by decide) rfl ?_
        refine w_lge X k2529_15_44 k2529_15_45 (fun hc => absurd hc28_2 hc) (fun _ => ?_)
        refine w_aloadN X k2529_15_48 rfl (rfl) ?_
        refine w_iloadN X k2529_15_49 rfl ?_
        refine w_iconst X (1 : Int32) k2529_15_50 rfl ?_
        refine w_iadd X k2529_15_51 ?_
        refine w_aloadN X k2529_15_52 rfl (rfl) ?_
        refine w_iloadN X k2529_15_53 rfl ?_
        refine w_laload X k2529_15_54 Ab (by decide) rfl ?_
        refine w_lastore X k2529_15_55 Ab (by decide) rfl gb (.long y2) rfl [(.long y0), (.long y1), (.long y2), (.long y2)] rfl (fun T h1 X W1 A1 => ?_)
        have K1 : Keep h0 h1 [b] := (Keep.refl h0 [b]).wr W1 (Or.inl (List.mem_of_getElem? (i := 0) rfl))
        refine w_goto X k2529_15_56 ?_
        refine w_iinc X (-1 : Int32) #[.val (.ref b), .val (.int (0 : Int32)), .val (.int (4 : Int32)), .val (.int (1 : Int32)), .val (.int (3 : Int32)), .val (.long y3), .second] k2529_15_31 rfl rfl rfl ?_
        refine w_iloadN X k2529_15_34 rfl ?_
        refine w_iloadN X k2529_15_35 rfl ?_
        refine w_icmplt X k2529_15_36 (fun hc => absurd hc (by decide)) (fun _ => ?_)
        refine w_lload X k2529_15_39 rfl ?_
        refine w_aloadN X k2529_15_41 rfl (rfl) ?_
        refine w_iloadN X k2529_15_42 rfl ?_
        refine w_laload X k2529_15_43 A1 (by decide) rfl ?_
        refine w_lge X k2529_15_44 k2529_15_45 (fun (hc45 : ¬ y3 < y1) => ?_) (fun (hc45 : y3 < y1) => ?_)
        · refine w_aloadN X k2529_15_59 rfl (rfl) ?_
          refine w_iloadN X k2529_15_60 rfl ?_
          refine w_iconst X (1 : Int32) k2529_15_61 rfl ?_
          refine w_iadd X k2529_15_62 ?_
          refine w_lload X k2529_15_63 rfl ?_
          refine w_lastore X k2529_15_65 A1 (by decide) rfl gb (.long y3) rfl [(.long y0), (.long y1), (.long y3), (.long y2)] rfl (fun T h2 X W2 A2 => ?_)
          have K2 : Keep h0 h2 [b] := K1.wr W2 (Or.inl (List.mem_of_getElem? (i := 0) rfl))
          refine w_goto X k2529_15_66 ?_
          refine w_iinc X (1 : Int32) #[.val (.ref b), .val (.int (0 : Int32)), .val (.int (4 : Int32)), .val (.int (1 : Int32)), .val (.int (4 : Int32)), .val (.long y3), .second] k2529_15_3 rfl rfl rfl ?_
          refine w_iload X k2529_15_6 rfl ?_
          refine w_iloadN X k2529_15_8 rfl ?_
          refine w_icmpge X k2529_15_9 (fun _ => ?_) (fun hc => absurd hc Int32.lt_irrefl)
          exact w_retV X k2529_15_69 ⟨rfl, K2, _, _, _, _, A2, by simp only [own_srt, List.foldl_cons, List.foldl_nil, own_insr, hc28, hc28_1, hc28_2, hc45, if_true, if_false, List.reverse_cons, List.reverse_nil, List.nil_append, List.cons_append]⟩ (by decide) (by decide)
        · refine w_aloadN X k2529_15_48 rfl (rfl) ?_
          refine w_iloadN X k2529_15_49 rfl ?_
          refine w_iconst X (1 : Int32) k2529_15_50 rfl ?_
          refine w_iadd X k2529_15_51 ?_
          refine w_aloadN X k2529_15_52 rfl (rfl) ?_
          refine w_iloadN X k2529_15_53 rfl ?_
          refine w_laload X k2529_15_54 A1 (by decide) rfl ?_
          refine w_lastore X k2529_15_55 A1 (by decide) rfl gb (.long y1) rfl [(.long y0), (.long y1), (.long y1), (.long y2)] rfl (fun T h3 X W3 A3 => ?_)
          have K3 : Keep h0 h3 [b] := K1.wr W3 (Or.inl (List.mem_of_getElem? (i := 0) rfl))
          refine w_goto X k2529_15_56 ?_
          refine w_iinc X (-1 : Int32) #[.val (.ref b), .val (.int (0 : Int32)), .val (.int (4 : Int32)), .val (.int (0 : Int32)), .val (.int (3 : Int32)), .val (.long y3), .second] k2529_15_31 rfl rfl rfl ?_
          refine w_iloadN X k2529_15_34 rfl ?_
          refine w_iloadN X k2529_15_35 rfl ?_
          refine w_icmplt X k2529_15_36 (fun hc => absurd hc Int32.lt_irrefl) (fun _ => ?_)
          refine w_lload X k2529_15_39 rfl ?_
          refine w_aloadN X k2529_15_41 rfl (rfl) ?_
          refine w_iloadN X k2529_15_42 rfl ?_
          refine w_laload X k2529_15_43 A3 (by decide) rfl ?_
          refine w_lge X k2529_15_44 k2529_15_45 (fun (hc45_1 : ¬ y3 < y0) => ?_) (fun (hc45_1 : y3 < y0) => ?_)
          · refine w_aloadN X k2529_15_59 rfl (rfl) ?_
            refine w_iloadN X k2529_15_60 rfl ?_
            refine w_iconst X (1 : Int32) k2529_15_61 rfl ?_
            refine w_iadd X k2529_15_62 ?_
            refine w_lload X k2529_15_63 rfl ?_
            refine w_lastore X k2529_15_65 A3 (by decide) rfl gb (.long y3) rfl [(.long y0), (.long y3), (.long y1), (.long y2)] rfl (fun T h4 X W4 A4 => ?_)
            have K4 : Keep h0 h4 [b] := K3.wr W4 (Or.inl (List.mem_of_getElem? (i := 0) rfl))
            refine w_goto X k2529_15_66 ?_
            refine w_iinc X (1 : Int32) #[.val (.ref b), .val (.int (0 : Int32)), .val (.int (4 : Int32)), .val (.int (0 : Int32)), .val (.int (4 : Int32)), .val (.long y3), .second] k2529_15_3 rfl rfl rfl ?_
            refine w_iload X k2529_15_6 rfl ?_
            refine w_iloadN X k2529_15_8 rfl ?_
            refine w_icmpge X k2529_15_9 (fun _ => ?_) (fun hc => absurd hc Int32.lt_irrefl)
            exact w_retV X k2529_15_69 ⟨rfl, K4, _, _, _, _, A4, by simp only [own_srt, List.foldl_cons, List.foldl_nil, own_insr, hc28, hc28_1, hc28_2, hc45, hc45_1, if_true, if_false, List.reverse_cons, List.reverse_nil, List.nil_append, List.cons_append]⟩ (by decide) (by decide)
          · refine w_aloadN X k2529_15_48 rfl (rfl) ?_
            refine w_iloadN X k2529_15_49 rfl ?_
            refine w_iconst X (1 : Int32) k2529_15_50 rfl ?_
            refine w_iadd X k2529_15_51 ?_
            refine w_aloadN X k2529_15_52 rfl (rfl) ?_
            refine w_iloadN X k2529_15_53 rfl ?_
            refine w_laload X k2529_15_54 A3 (by decide) rfl ?_
            refine w_lastore X k2529_15_55 A3 (by decide) rfl gb (.long y0) rfl [(.long y0), (.long y0), (.long y1), (.long y2)] rfl (fun T h5 X W5 A5 => ?_)
            have K5 : Keep h0 h5 [b] := K3.wr W5 (Or.inl (List.mem_of_getElem? (i := 0) rfl))
            refine w_goto X k2529_15_56 ?_
            refine w_iinc X (-1 : Int32) #[.val (.ref b), .val (.int (0 : Int32)), .val (.int (4 : Int32)), .val (.int (-1 : Int32)), .val (.int (3 : Int32)), .val (.long y3), .second] k2529_15_31 rfl rfl rfl ?_
            refine w_iloadN X k2529_15_34 rfl ?_
            refine w_iloadN X k2529_15_35 rfl ?_
            refine w_icmplt X k2529_15_36 (fun _ => ?_) (fun hc => absurd (by decide) hc)
            refine w_aloadN X k2529_15_59 rfl (rfl) ?_
            refine w_iloadN X k2529_15_60 rfl ?_
            refine w_iconst X (1 : Int32) k2529_15_61 rfl ?_
            refine w_iadd X k2529_15_62 ?_
            refine w_lload X k2529_15_63 rfl ?_
            refine w_lastore X k2529_15_65 A5 (by decide) rfl gb (.long y3) rfl [(.long y3), (.long y0), (.long y1), (.long y2)] rfl (fun T h6 X W6 A6 => ?_)
            have K6 : Keep h0 h6 [b] := K5.wr W6 (Or.inl (List.mem_of_getElem? (i := 0) rfl))
            refine w_goto X k2529_15_66 ?_
            refine w_iinc X (1 : Int32) #[.val (.ref b), .val (.int (0 : Int32)), .val (.int (4 : Int32)), .val (.int (-1 : Int32)), .val (.int (4 : Int32)), .val (.long y3), .second] k2529_15_3 rfl rfl rfl ?_
            refine w_iload X k2529_15_6 rfl ?_
            refine w_iloadN X k2529_15_8 rfl ?_
            refine w_icmpge X k2529_15_9 (fun _ => ?_) (fun hc => absurd hc Int32.lt_irrefl)
            exact w_retV X k2529_15_69 ⟨rfl, K6, _, _, _, _, A6, by simp only [own_srt, List.foldl_cons, List.foldl_nil, own_insr, hc28, hc28_1, hc28_2, hc45, hc45_1, if_true, if_false, List.reverse_cons, List.reverse_nil, List.nil_append, List.cons_append]⟩ (by decide) (by decide)
    · refine w_iinc X (-1 : Int32) #[.val (.ref b), .val (.int (0 : Int32)), .val (.int (4 : Int32)), .val (.int (1 : Int32)), .val (.int (2 : Int32)), .val (.long y2), .second] k2529_15_31 rfl rfl rfl ?_
      refine w_iloadN X k2529_15_34 rfl ?_
      refine w_iloadN X k2529_15_35 rfl ?_
      refine w_icmplt X k2529_15_36 (fun hc => absurd hc (by decide)) (fun _ => ?_)
      refine w_lload X k2529_15_39 rfl ?_
      refine w_aloadN X k2529_15_41 rfl (rfl) ?_
      refine w_iloadN X k2529_15_42 rfl ?_
      refine w_laload X k2529_15_43 Ab (by decide) rfl ?_
      refine w_lge X k2529_15_44 k2529_15_45 (fun hc => absurd hc28_1 hc) (fun _ => ?_)
      refine w_aloadN X k2529_15_48 rfl (rfl) ?_
      refine w_iloadN X k2529_15_49 rfl ?_
      refine w_iconst X (1 : Int32) k2529_15_50 rfl ?_
      refine w_iadd X k2529_15_51 ?_
      refine w_aloadN X k2529_15_52 rfl (rfl) ?_
      refine w_iloadN X k2529_15_53 rfl ?_
      refine w_laload X k2529_15_54 Ab (by decide) rfl ?_
      refine w_lastore X k2529_15_55 Ab (by decide) rfl gb (.long y1) rfl [(.long y0), (.long y1), (.long y1), (.long y3)] rfl (fun T h7 X W7 A7 => ?_)
      have K7 : Keep h0 h7 [b] := (Keep.refl h0 [b]).wr W7 (Or.inl (List.mem_of_getElem? (i := 0) rfl))
      refine w_goto X k2529_15_56 ?_
      refine w_iinc X (-1 : Int32) #[.val (.ref b), .val (.int (0 : Int32)), .val (.int (4 : Int32)), .val (.int (0 : Int32)), .val (.int (2 : Int32)), .val (.long y2), .second] k2529_15_31 rfl rfl rfl ?_
      refine w_iloadN X k2529_15_34 rfl ?_
      refine w_iloadN X k2529_15_35 rfl ?_
      refine w_icmplt X k2529_15_36 (fun hc => absurd hc Int32.lt_irrefl) (fun _ => ?_)
      refine w_lload X k2529_15_39 rfl ?_
      refine w_aloadN X k2529_15_41 rfl (rfl) ?_
      refine w_iloadN X k2529_15_42 rfl ?_
      refine w_laload X k2529_15_43 A7 (by decide) rfl ?_
      refine w_lge X k2529_15_44 k2529_15_45 (fun (hc45 : ¬ y2 < y0) => ?_) (fun (hc45 : y2 < y0) => ?_)
      · refine w_aloadN X k2529_15_59 rfl (rfl) ?_
        refine w_iloadN X k2529_15_60 rfl ?_
        refine w_iconst X (1 : Int32) k2529_15_61 rfl ?_
        refine w_iadd X k2529_15_62 ?_
        refine w_lload X k2529_15_63 rfl ?_
        refine w_lastore X k2529_15_65 A7 (by decide) rfl gb (.long y2) rfl [(.long y0), (.long y2), (.long y1), (.long y3)] rfl (fun T h8 X W8 A8 => ?_)
        have K8 : Keep h0 h8 [b] := K7.wr W8 (Or.inl (List.mem_of_getElem? (i := 0) rfl))
        refine w_goto X k2529_15_66 ?_
        refine w_iinc X (1 : Int32) #[.val (.ref b), .val (.int (0 : Int32)), .val (.int (4 : Int32)), .val (.int (0 : Int32)), .val (.int (3 : Int32)), .val (.long y2), .second] k2529_15_3 rfl rfl rfl ?_
        refine w_iload X k2529_15_6 rfl ?_
        refine w_iloadN X k2529_15_8 rfl ?_
        refine w_icmpge X k2529_15_9 (fun hc => absurd (by decide) hc) (fun _ => ?_)
        refine w_aloadN X k2529_15_12 rfl (rfl) ?_
        refine w_iload X k2529_15_13 rfl ?_
        refine w_dup X k2529_15_15 rfl ?_
        refine w_istoreN X #[.val (.ref b), .val (.int (0 : Int32)), .val (.int (4 : Int32)), .val (.int (3 : Int32)), .val (.int (3 : Int32)), .val (.long y2), .second] k2529_15_16 rfl ?_
        refine w_laload X k2529_15_17 A8 (by decide) rfl ?_
        refine w_lstore X #[.val (.ref b), .val (.int (0 : Int32)), .val (.int (4 : Int32)), .val (.int (3 : Int32)), .val (.int (3 : Int32)), .val (.long y3), .second] k2529_15_18 rfl ?_
        refine w_lload X k2529_15_20 rfl ?_
        refine w_aloadN X k2529_15_22 rfl (rfl) ?_
        refine w_iloadN X k2529_15_23 rfl ?_
        refine w_iconst X (1 : Int32) k2529_15_24 rfl ?_
        refine w_isub X k2529_15_25 ?_
        refine w_laload X k2529_15_26 A8 (by decide) rfl ?_
        refine w_lge X k2529_15_27 k2529_15_28 (fun (hc28_2 : ¬ y3 < y1) => ?_) (fun (hc28_2 : y3 < y1) => ?_)
        · refine w_goto X k2529_15_66 ?_
          refine w_iinc X (1 : Int32) #[.val (.ref b), .val (.int (0 : Int32)), .val (.int (4 : Int32)), .val (.int (3 : Int32)), .val (.int (4 : Int32)), .val (.long y3), .second] k2529_15_3 rfl rfl rfl ?_
          refine w_iload X k2529_15_6 rfl ?_
          refine w_iloadN X k2529_15_8 rfl ?_
          refine w_icmpge X k2529_15_9 (fun _ => ?_) (fun hc => absurd hc Int32.lt_irrefl)
          exact w_retV X k2529_15_69 ⟨rfl, K8, _, _, _, _, A8, by simp only [own_srt, List.foldl_cons, List.foldl_nil, own_insr, hc28, hc28_1, hc45, hc28_2, if_true, if_false, List.reverse_cons, List.reverse_nil, List.nil_append, List.cons_append]⟩ (by decide) (by decide)
        · refine w_iinc X (-1 : Int32) #[.val (.ref b), .val (.int (0 : Int32)), .val (.int (4 : Int32)), .val (.int (2 : Int32)), .val (.int (3 : Int32)), .val (.long y3), .second] k2529_15_31 rfl rfl rfl ?_
          refine w_iloadN X k2529_15_34 rfl ?_
          refine w_iloadN X k2529_15_35 rfl ?_
          refine w_icmplt X k2529_15_36 (fun hc => absurd hc (by decide)) (fun _ => ?_)
          refine w_lload X k2529_15_39 rfl ?_
          refine w_aloadN X k2529_15_41 rfl (rfl) ?_
          refine w_iloadN X k2529_15_42 rfl ?_
          refine w_laload X k2529_15_43 A8 (by decide) rfl ?_
          refine w_lge X k2529_15_44 k2529_15_45 (fun hc => absurd hc28_2 hc) (fun _ => ?_)
          refine w_aloadN X k2529_15_48 rfl (rfl) ?_
          refine w_iloadN X k2529_15_49 rfl ?_
          refine w_iconst X (1 : Int32) k2529_15_50 rfl ?_
          refine w_iadd X k2529_15_51 ?_
          refine w_aloadN X k2529_15_52 rfl (rfl) ?_
          refine w_iloadN X k2529_15_53 rfl ?_
          refine w_laload X k2529_15_54 A8 (by decide) rfl ?_
          refine w_lastore X k2529_15_55 A8 (by decide) rfl gb (.long y1) rfl [(.long y0), (.long y2), (.long y1), (.long y1)] rfl (fun T h9 X W9 A9 => ?_)
          have K9 : Keep h0 h9 [b] := K8.wr W9 (Or.inl (List.mem_of_getElem? (i := 0) rfl))
          refine w_goto X k2529_15_56 ?_
          refine w_iinc X (-1 : Int32) #[.val (.ref b), .val (.int (0 : Int32)), .val (.int (4 : Int32)), .val (.int (1 : Int32)), .val (.int (3 : Int32)), .val (.long y3), .second] k2529_15_31 rfl rfl rfl ?_
          refine w_iloadN X k2529_15_34 rfl ?_
          refine w_iloadN X k2529_15_35 rfl ?_
          refine w_icmplt X k2529_15_36 (fun hc => absurd hc (by decide)) (fun _ => ?_)
          refine w_lload X k2529_15_39 rfl ?_
          refine w_aloadN X k2529_15_41 rfl (rfl) ?_
          refine w_iloadN X k2529_15_42 rfl ?_
          refine w_laload X k2529_15_43 A9 (by decide) rfl ?_
          refine w_lge X k2529_15_44 k2529_15_45 (fun (hc45_1 : ¬ y3 < y2) => ?_) (fun (hc45_1 : y3 < y2) => ?_)
          · refine w_aloadN X k2529_15_59 rfl (rfl) ?_
            refine w_iloadN X k2529_15_60 rfl ?_
            refine w_iconst X (1 : Int32) k2529_15_61 rfl ?_
            refine w_iadd X k2529_15_62 ?_
            refine w_lload X k2529_15_63 rfl ?_
            refine w_lastore X k2529_15_65 A9 (by decide) rfl gb (.long y3) rfl [(.long y0), (.long y2), (.long y3), (.long y1)] rfl (fun T h10 X W10 A10 => ?_)
            have K10 : Keep h0 h10 [b] := K9.wr W10 (Or.inl (List.mem_of_getElem? (i := 0) rfl))
            refine w_goto X k2529_15_66 ?_
            refine w_iinc X (1 : Int32) #[.val (.ref b), .val (.int (0 : Int32)), .val (.int (4 : Int32)), .val (.int (1 : Int32)), .val (.int (4 : Int32)), .val (.long y3), .second] k2529_15_3 rfl rfl rfl ?_
            refine w_iload X k2529_15_6 rfl ?_
            refine w_iloadN X k2529_15_8 rfl ?_
            refine w_icmpge X k2529_15_9 (fun _ => ?_) (fun hc => absurd hc Int32.lt_irrefl)
            exact w_retV X k2529_15_69 ⟨rfl, K10, _, _, _, _, A10, by simp only [own_srt, List.foldl_cons, List.foldl_nil, own_insr, hc28, hc28_1, hc45, hc28_2, hc45_1, if_true, if_false, List.reverse_cons, List.reverse_nil, List.nil_append, List.cons_append]⟩ (by decide) (by decide)
          · refine w_aloadN X k2529_15_48 rfl (rfl) ?_
            refine w_iloadN X k2529_15_49 rfl ?_
            refine w_iconst X (1 : Int32) k2529_15_50 rfl ?_
            refine w_iadd X k2529_15_51 ?_
            refine w_aloadN X k2529_15_52 rfl (rfl) ?_
            refine w_iloadN X k2529_15_53 rfl ?_
            refine w_laload X k2529_15_54 A9 (by decide) rfl ?_
            refine w_lastore X k2529_15_55 A9 (by decide) rfl gb (.long y2) rfl [(.long y0), (.long y2), (.long y2), (.long y1)] rfl (fun T h11 X W11 A11 => ?_)
            have K11 : Keep h0 h11 [b] := K9.wr W11 (Or.inl (List.mem_of_getElem? (i := 0) rfl))
            refine w_goto X k2529_15_56 ?_
            refine w_iinc X (-1 : Int32) #[.val (.ref b), .val (.int (0 : Int32)), .val (.int (4 : Int32)), .val (.int (0 : Int32)), .val (.int (3 : Int32)), .val (.long y3), .second] k2529_15_31 rfl rfl rfl ?_
            refine w_iloadN X k2529_15_34 rfl ?_
            refine w_iloadN X k2529_15_35 rfl ?_
            refine w_icmplt X k2529_15_36 (fun hc => absurd hc Int32.lt_irrefl) (fun _ => ?_)
            refine w_lload X k2529_15_39 rfl ?_
            refine w_aloadN X k2529_15_41 rfl (rfl) ?_
            refine w_iloadN X k2529_15_42 rfl ?_
            refine w_laload X k2529_15_43 A11 (by decide) rfl ?_
            refine w_lge X k2529_15_44 k2529_15_45 (fun (hc45_2 : ¬ y3 < y0) => ?_) (fun (hc45_2 : y3 < y0) => ?_)
            · refine w_aloadN X k2529_15_59 rfl (rfl) ?_
              refine w_iloadN X k2529_15_60 rfl ?_
              refine w_iconst X (1 : Int32) k2529_15_61 rfl ?_
              refine w_iadd X k2529_15_62 ?_
              refine w_lload X k2529_15_63 rfl ?_
              refine w_lastore X k2529_15_65 A11 (by decide) rfl gb (.long y3) rfl [(.long y0), (.long y3), (.long y2), (.long y1)] rfl (fun T h12 X W12 A12 => ?_)
              have K12 : Keep h0 h12 [b] := K11.wr W12 (Or.inl (List.mem_of_getElem? (i := 0) rfl))
              refine w_goto X k2529_15_66 ?_
              refine w_iinc X (1 : Int32) #[.val (.ref b), .val (.int (0 : Int32)), .val (.int (4 : Int32)), .val (.int (0 : Int32)), .val (.int (4 : Int32)), .val (.long y3), .second] k2529_15_3 rfl rfl rfl ?_
              refine w_iload X k2529_15_6 rfl ?_
              refine w_iloadN X k2529_15_8 rfl ?_
              refine w_icmpge X k2529_15_9 (fun _ => ?_) (fun hc => absurd hc Int32.lt_irrefl)
              exact w_retV X k2529_15_69 ⟨rfl, K12, _, _, _, _, A12, by simp only [own_srt, List.foldl_cons, List.foldl_nil, own_insr, hc28, hc28_1, hc45, hc28_2, hc45_1, hc45_2, if_true, if_false, List.reverse_cons, List.reverse_nil, List.nil_append, List.cons_append]⟩ (by decide) (by decide)
            · refine w_aloadN X k2529_15_48 rfl (rfl) ?_
              refine w_iloadN X k2529_15_49 rfl ?_
              refine w_iconst X (1 : Int32) k2529_15_50 rfl ?_
              refine w_iadd X k2529_15_51 ?_
              refine w_aloadN X k2529_15_52 rfl (rfl) ?_
              refine w_iloadN X k2529_15_53 rfl ?_
              refine w_laload X k2529_15_54 A11 (by decide) rfl ?_
              refine w_lastore X k2529_15_55 A11 (by decide) rfl gb (.long y0) rfl [(.long y0), (.long y0), (.long y2), (.long y1)] rfl (fun T h13 X W13 A13 => ?_)
              have K13 : Keep h0 h13 [b] := K11.wr W13 (Or.inl (List.mem_of_getElem? (i := 0) rfl))
              refine w_goto X k2529_15_56 ?_
              refine w_iinc X (-1 : Int32) #[.val (.ref b), .val (.int (0 : Int32)), .val (.int (4 : Int32)), .val (.int (-1 : Int32)), .val (.int (3 : Int32)), .val (.long y3), .second] k2529_15_31 rfl rfl rfl ?_
              refine w_iloadN X k2529_15_34 rfl ?_
              refine w_iloadN X k2529_15_35 rfl ?_
              refine w_icmplt X k2529_15_36 (fun _ => ?_) (fun hc => absurd (by decide) hc)
              refine w_aloadN X k2529_15_59 rfl (rfl) ?_
              refine w_iloadN X k2529_15_60 rfl ?_
              refine w_iconst X (1 : Int32) k2529_15_61 rfl ?_
              refine w_iadd X k2529_15_62 ?_
              refine w_lload X k2529_15_63 rfl ?_
              refine w_lastore X k2529_15_65 A13 (by decide) rfl gb (.long y3) rfl [(.long y3), (.long y0), (.long y2), (.long y1)] rfl (fun T h14 X W14 A14 => ?_)
              have K14 : Keep h0 h14 [b] := K13.wr W14 (Or.inl (List.mem_of_getElem? (i := 0) rfl))
              refine w_goto X k2529_15_66 ?_
              refine w_iinc X (1 : Int32) #[.val (.ref b), .val (.int (0 : Int32)), .val (.int (4 : Int32)), .val (.int (-1 : Int32)), .val (.int (4 : Int32)), .val (.long y3), .second] k2529_15_3 rfl rfl rfl ?_
              refine w_iload X k2529_15_6 rfl ?_
              refine w_iloadN X k2529_15_8 rfl ?_
              refine w_icmpge X k2529_15_9 (fun _ => ?_) (fun hc => absurd hc Int32.lt_irrefl)
              exact w_retV X k2529_15_69 ⟨rfl, K14, _, _, _, _, A14, by simp only [own_srt, List.foldl_cons, List.foldl_nil, own_insr, hc28, hc28_1, hc45, hc28_2, hc45_1, hc45_2, if_true, if_false, List.reverse_cons, List.reverse_nil, List.nil_append, List.cons_append]⟩ (by decide) (by decide)
      · refine w_aloadN X k2529_15_48 rfl (rfl) ?_
        refine w_iloadN X k2529_15_49 rfl ?_
        refine w_iconst X (1 : Int32) k2529_15_50 rfl ?_
        refine w_iadd X k2529_15_51 ?_
        refine w_aloadN X k2529_15_52 rfl (rfl) ?_
        refine w_iloadN X k2529_15_53 rfl ?_
        refine w_laload X k2529_15_54 A7 (by decide) rfl ?_
        refine w_lastore X k2529_15_55 A7 (by decide) rfl gb (.long y0) rfl [(.long y0), (.long y0), (.long y1), (.long y3)] rfl (fun T h15 X W15 A15 => ?_)
        have K15 : Keep h0 h15 [b] := K7.wr W15 (Or.inl (List.mem_of_getElem? (i := 0) rfl))
        refine w_goto X k2529_15_56 ?_
        refine w_iinc X (-1 : Int32) #[.val (.ref b), .val (.int (0 : Int32)), .val (.int (4 : Int32)), .val (.int (-1 : Int32)), .val (.int (2 : Int32)), .val (.long y2), .second] k2529_15_31 rfl rfl rfl ?_
        refine w_iloadN X k2529_15_34 rfl ?_
        refine w_iloadN X k2529_15_35 rfl ?_
        refine w_icmplt X k2529_15_36 (fun _ => ?_) (fun hc => absurd (by decide) hc)
        refine w_aloadN X k2529_15_59 rfl (rfl) ?_
        refine w_iloadN X k2529_15_60 rfl ?_
        refine w_iconst X (1 : Int32) k2529_15_61 rfl ?_
        refine w_iadd X k2529_15_62 ?_
        refine w_lload X k2529_15_63 rfl ?_
        refine w_lastore X k2529_15_65 A15 (by decide) rfl gb (.long y2) rfl [(.long y2), (.long y0), (.long y1), (.long y3)] rfl (fun T h16 X W16 A16 => ?_)
        have K16 : Keep h0 h16 [b] := K15.wr W16 (Or.inl (List.mem_of_getElem? (i := 0) rfl))
        refine w_goto X k2529_15_66 ?_
        refine w_iinc X (1 : Int32) #[.val (.ref b), .val (.int (0 : Int32)), .val (.int (4 : Int32)), .val (.int (-1 : Int32)), .val (.int (3 : Int32)), .val (.long y2), .second] k2529_15_3 rfl rfl rfl ?_
        refine w_iload X k2529_15_6 rfl ?_
        refine w_iloadN X k2529_15_8 rfl ?_
        refine w_icmpge X k2529_15_9 (fun hc => absurd (by decide) hc) (fun _ => ?_)
        refine w_aloadN X k2529_15_12 rfl (rfl) ?_
        refine w_iload X k2529_15_13 rfl ?_
        refine w_dup X k2529_15_15 rfl ?_
        refine w_istoreN X #[.val (.ref b), .val (.int (0 : Int32)), .val (.int (4 : Int32)), .val (.int (3 : Int32)), .val (.int (3 : Int32)), .val (.long y2), .second] k2529_15_16 rfl ?_
        refine w_laload X k2529_15_17 A16 (by decide) rfl ?_
        refine w_lstore X #[.val (.ref b), .val (.int (0 : Int32)), .val (.int (4 : Int32)), .val (.int (3 : Int32)), .val (.int (3 : Int32)), .val (.long y3), .second] k2529_15_18 rfl ?_
        refine w_lload X k2529_15_20 rfl ?_
        refine w_aloadN X k2529_15_22 rfl (rfl) ?_
        refine w_iloadN X k2529_15_23 rfl ?_
        refine w_iconst X (1 : Int32) k2529_15_24 rfl ?_
        refine w_isub X k2529_15_25 ?_
        refine w_laload X k2529_15_26 A16 (by decide) rfl ?_
        refine w_lge X k2529_15_27 k2529_15_28 (fun (hc28_2 : ¬ y3 < y1) => ?_) (fun (hc28_2 : y3 < y1) => ?_)
        · refine w_goto X k2529_15_66 ?_
          refine w_iinc X (1 : Int32) #[.val (.ref b), .val (.int (0 : Int32)), .val (.int (4 : Int32)), .val (.int (3 : Int32)), .val (.int (4 : Int32)), .val (.long y3), .second] k2529_15_3 rfl rfl rfl ?_
          refine w_iload X k2529_15_6 rfl ?_
          refine w_iloadN X k2529_15_8 rfl ?_
          refine w_icmpge X k2529_15_9 (fun _ => ?_) (fun hc => absurd hc Int32.lt_irrefl)
          exact w_retV X k2529_15_69 ⟨rfl, K16, _, _, _, _, A16, by simp only [own_srt, List.foldl_cons, List.foldl_nil, own_insr, hc28, hc28_1, hc45, hc28_2, if_true, if_false, List.reverse_cons, List.reverse_nil, List.nil_append, List.cons_append]⟩ (by decide) (by decide)
        · refine w_iinc X (-1 : Int32) #[.val (.ref b), .val (.int (0 : Int32)), .val (.int (4 : Int32)), .val (.int (2 : Int32)), .val (.int (3 : Int32)), .val (.long y3), .second] k2529_15_31 rfl rfl rfl ?_
          refine w_iloadN X k2529_15_34 rfl ?_
          refine w_iloadN X k2529_15_35 rfl ?_
          refine w_icmplt X k2529_15_36 (fun hc => absurd hc (by decide)) (fun _ => ?_)
          refine w_lload X k2529_15_39 rfl ?_
          refine w_aloadN X k2529_15_41 rfl (rfl) ?_
          refine w_iloadN X k2529_15_42 rfl ?_
          refine w_laload X k2529_15_43 A16 (by decide) rfl ?_
          refine w_lge X k2529_15_44 k2529_15_45 (fun hc => absurd hc28_2 hc) (fun _ => ?_)
          refine w_aloadN X k2529_15_48 rfl (rfl) ?_
          refine w_iloadN X k2529_15_49 rfl ?_
          refine w_iconst X (1 : Int32) k2529_15_50 rfl ?_
          refine w_iadd X k2529_15_51 ?_
          refine w_aloadN X k2529_15_52 rfl (rfl) ?_
          refine w_iloadN X k2529_15_53 rfl ?_
          refine w_laload X k2529_15_54 A16 (by decide) rfl ?_
          refine w_lastore X k2529_15_55 A16 (by decide) rfl gb (.long y1) rfl [(.long y2), (.long y0), (.long y1), (.long y1)] rfl (fun T h17 X W17 A17 => ?_)
          have K17 : Keep h0 h17 [b] := K16.wr W17 (Or.inl (List.mem_of_getElem? (i := 0) rfl))
          refine w_goto X k2529_15_56 ?_
          refine w_iinc X (-1 : Int32) #[.val (.ref b), .val (.int (0 : Int32)), .val (.int (4 : Int32)), .val (.int (1 : Int32)), .val (.int (3 : Int32)), .val (.long y3), .second] k2529_15_31 rfl rfl rfl ?_
          refine w_iloadN X k2529_15_34 rfl ?_
          refine w_iloadN X k2529_15_35 rfl ?_
          refine w_icmplt X k2529_15_36 (fun hc => absurd hc (by decide)) (fun _ => ?_)
          refine w_lload X k2529_15_39 rfl ?_
          refine w_aloadN X k2529_15_41 rfl (rfl) ?_
          refine w_iloadN X k2529_15_42 rfl ?_
          refine w_laload X k2529_15_43 A17 (by decide) rfl ?_
          refine w_lge X k2529_15_44 k2529_15_45 (fun (hc45_1 : ¬ y3 < y0) => ?_) (fun (hc45_1 : y3 < y0) => ?_)
          · refine w_aloadN X k2529_15_59 rfl (rfl) ?_
            refine w_iloadN X k2529_15_60 rfl ?_
            refine w_iconst X (1 : Int32) k2529_15_61 rfl ?_
            refine w_iadd X k2529_15_62 ?_
            refine w_lload X k2529_15_63 rfl ?_
            refine w_lastore X k2529_15_65 A17 (by decide) rfl gb (.long y3) rfl [(.long y2), (.long y0), (.long y3), (.long y1)] rfl (fun T h18 X W18 A18 => ?_)
            have K18 : Keep h0 h18 [b] := K17.wr W18 (Or.inl (List.mem_of_getElem? (i := 0) rfl))
            refine w_goto X k2529_15_66 ?_
            refine w_iinc X (1 : Int32) #[.val (.ref b), .val (.int (0 : Int32)), .val (.int (4 : Int32)), .val (.int (1 : Int32)), .val (.int (4 : Int32)), .val (.long y3), .second] k2529_15_3 rfl rfl rfl ?_
            refine w_iload X k2529_15_6 rfl ?_
            refine w_iloadN X k2529_15_8 rfl ?_
            refine w_icmpge X k2529_15_9 (fun _ => ?_) (fun hc => absurd hc Int32.lt_irrefl)
            exact w_retV X k2529_15_69 ⟨rfl, K18, _, _, _, _, A18, by simp only [own_srt, List.foldl_cons, List.foldl_nil, own_insr, hc28, hc28_1, hc45, hc28_2, hc45_1, if_true, if_false, List.reverse_cons, List.reverse_nil, List.nil_append, List.cons_append]⟩ (by decide) (by decide)
          · refine w_aloadN X k2529_15_48 rfl (rfl) ?_
            refine w_iloadN X k2529_15_49 rfl ?_
            refine w_iconst X (1 : Int32) k2529_15_50 rfl ?_
            refine w_iadd X k2529_15_51 ?_
            refine w_aloadN X k2529_15_52 rfl (rfl) ?_
            refine w_iloadN X k2529_15_53 rfl ?_
            refine w_laload X k2529_15_54 A17 (by decide) rfl ?_
            refine w_lastore X k2529_15_55 A17 (by decide) rfl gb (.long y0) rfl [(.long y2), (.long y0), (.long y0), (.long y1)] rfl (fun T h19 X W19 A19 => ?_)
            have K19 : Keep h0 h19 [b] := K17.wr W19 (Or.inl (List.mem_of_getElem? (i := 0) rfl))
            refine w_goto X k2529_15_56 ?_
            refine w_iinc X (-1 : Int32) #[.val (.ref b), .val (.int (0 : Int32)), .val (.int (4 : Int32)), .val (.int (0 : Int32)), .val (.int (3 : Int32)), .val (.long y3), .second] k2529_15_31 rfl rfl rfl ?_
            refine w_iloadN X k2529_15_34 rfl ?_
            refine w_iloadN X k2529_15_35 rfl ?_
            refine w_icmplt X k2529_15_36 (fun hc => absurd hc Int32.lt_irrefl) (fun _ => ?_)
            refine w_lload X k2529_15_39 rfl ?_
            refine w_aloadN X k2529_15_41 rfl (rfl) ?_
            refine w_iloadN X k2529_15_42 rfl ?_
            refine w_laload X k2529_15_43 A19 (by decide) rfl ?_
            refine w_lge X k2529_15_44 k2529_15_45 (fun (hc45_2 : ¬ y3 < y2) => ?_) (fun (hc45_2 : y3 < y2) => ?_)
            · refine w_aloadN X k2529_15_59 rfl (rfl) ?_
              refine w_iloadN X k2529_15_60 rfl ?_
              refine w_iconst X (1 : Int32) k2529_15_61 rfl ?_
              refine w_iadd X k2529_15_62 ?_
              refine w_lload X k2529_15_63 rfl ?_
              refine w_lastore X k2529_15_65 A19 (by decide) rfl gb (.long y3) rfl [(.long y2), (.long y3), (.long y0), (.long y1)] rfl (fun T h20 X W20 A20 => ?_)
              have K20 : Keep h0 h20 [b] := K19.wr W20 (Or.inl (List.mem_of_getElem? (i := 0) rfl))
              refine w_goto X k2529_15_66 ?_
              refine w_iinc X (1 : Int32) #[.val (.ref b), .val (.int (0 : Int32)), .val (.int (4 : Int32)), .val (.int (0 : Int32)), .val (.int (4 : Int32)), .val (.long y3), .second] k2529_15_3 rfl rfl rfl ?_
              refine w_iload X k2529_15_6 rfl ?_
              refine w_iloadN X k2529_15_8 rfl ?_
              refine w_icmpge X k2529_15_9 (fun _ => ?_) (fun hc => absurd hc Int32.lt_irrefl)
              exact w_retV X k2529_15_69 ⟨rfl, K20, _, _, _, _, A20, by simp only [own_srt, List.foldl_cons, List.foldl_nil, own_insr, hc28, hc28_1, hc45, hc28_2, hc45_1, hc45_2, if_true, if_false, List.reverse_cons, List.reverse_nil, List.nil_append, List.cons_append]⟩ (by decide) (by decide)
            · refine w_aloadN X k2529_15_48 rfl (rfl) ?_
              refine w_iloadN X k2529_15_49 rfl ?_
              refine w_iconst X (1 : Int32) k2529_15_50 rfl ?_
              refine w_iadd X k2529_15_51 ?_
              refine w_aloadN X k2529_15_52 rfl (rfl) ?_
              refine w_iloadN X k2529_15_53 rfl ?_
              refine w_laload X k2529_15_54 A19 (by decide) rfl ?_
              refine w_lastore X k2529_15_55 A19 (by decide) rfl gb (.long y2) rfl [(.long y2), (.long y2), (.long y0), (.long y1)] rfl (fun T h21 X W21 A21 => ?_)
              have K21 : Keep h0 h21 [b] := K19.wr W21 (Or.inl (List.mem_of_getElem? (i := 0) rfl))
              refine w_goto X k2529_15_56 ?_
              refine w_iinc X (-1 : Int32) #[.val (.ref b), .val (.int (0 : Int32)), .val (.int (4 : Int32)), .val (.int (-1 : Int32)), .val (.int (3 : Int32)), .val (.long y3), .second] k2529_15_31 rfl rfl rfl ?_
              refine w_iloadN X k2529_15_34 rfl ?_
              refine w_iloadN X k2529_15_35 rfl ?_
              refine w_icmplt X k2529_15_36 (fun _ => ?_) (fun hc => absurd (by decide) hc)
              refine w_aloadN X k2529_15_59 rfl (rfl) ?_
              refine w_iloadN X k2529_15_60 rfl ?_
              refine w_iconst X (1 : Int32) k2529_15_61 rfl ?_
              refine w_iadd X k2529_15_62 ?_
              refine w_lload X k2529_15_63 rfl ?_
              refine w_lastore X k2529_15_65 A21 (by decide) rfl gb (.long y3) rfl [(.long y3), (.long y2), (.long y0), (.long y1)] rfl (fun T h22 X W22 A22 => ?_)
              have K22 : Keep h0 h22 [b] := K21.wr W22 (Or.inl (List.mem_of_getElem? (i := 0) rfl))
              refine w_goto X k2529_15_66 ?_
              refine w_iinc X (1 : Int32) #[.val (.ref b), .val (.int (0 : Int32)), .val (.int (4 : Int32)), .val (.int (-1 : Int32)), .val (.int (4 : Int32)), .val (.long y3), .second] k2529_15_3 rfl rfl rfl ?_
              refine w_iload X k2529_15_6 rfl ?_
              refine w_iloadN X k2529_15_8 rfl ?_
              refine w_icmpge X k2529_15_9 (fun _ => ?_) (fun hc => absurd hc Int32.lt_irrefl)
              exact w_retV X k2529_15_69 ⟨rfl, K22, _, _, _, _, A22, by simp only [own_srt, List.foldl_cons, List.foldl_nil, own_insr, hc28, hc28_1, hc45, hc28_2, hc45_1, hc45_2, if_true, if_false, List.reverse_cons, List.reverse_nil, List.nil_append, List.cons_append]⟩ (by decide) (by decide)
  · refine w_iinc X (-1 : Int32) #[.val (.ref b), .val (.int (0 : Int32)), .val (.int (4 : Int32)), .val (.int (0 : Int32)), .val (.int (1 : Int32)), .val (.long y1), .second] k2529_15_31 rfl rfl rfl ?_
    refine w_iloadN X k2529_15_34 rfl ?_
    refine w_iloadN X k2529_15_35 rfl ?_
    refine w_icmplt X k2529_15_36 (fun hc => absurd hc Int32.lt_irrefl) (fun _ => ?_)
    refine w_lload X k2529_15_39 rfl ?_
    refine w_aloadN X k2529_15_41 rfl (rfl) ?_
    refine w_iloadN X k2529_15_42 rfl ?_
    refine w_laload X k2529_15_43 Ab (by decide) rfl ?_
    refine w_lge X k2529_15_44 k2529_15_45 (fun hc => absurd hc28 hc) (fun _ => ?_)
    refine w_aloadN X k2529_15_48 rfl (rfl) ?_
    refine w_iloadN X k2529_15_49 rfl ?_
    refine w_iconst X (1 : Int32) k2529_15_50 rfl ?_
    refine w_iadd X k2529_15_51 ?_
    refine w_aloadN X k2529_15_52 rfl (rfl) ?_
    refine w_iloadN X k2529_15_53 rfl ?_
    refine w_laload X k2529_15_54 Ab (by decide) rfl ?_
    refine w_lastore X k2529_15_55 Ab (by decide) rfl gb (.long y0) rfl [(.long y0), (.long y0), (.long y2), (.long y3)] rfl (fun T h23 X W23 A23 => ?_)
    have K23 : Keep h0 h23 [b] := (Keep.refl h0 [b]).wr W23 (Or.inl (List.mem_of_getElem? (i := 0) rfl))
    refine w_goto X k2529_15_56 ?_
    refine w_iinc X (-1 : Int32) #[.val (.ref b), .val (.int (0 : Int32)), .val (.int (4 : Int32)), .val (.int (-1 : Int32)), .val (.int (1 : Int32)), .val (.long y1), .second] k2529_15_31 rfl rfl rfl ?_
    refine w_iloadN X k2529_15_34 rfl ?_
    refine w_iloadN X k2529_15_35 rfl ?_
    refine w_icmplt X k2529_15_36 (fun _ => ?_) (fun hc => absurd (by decide) hc)
    refine w_aloadN X k2529_15_59 rfl (rfl) ?_
    refine w_iloadN X k2529_15_60 rfl ?_
    refine w_iconst X (1 : Int32) k2529_15_61 rfl ?_
    refine w_iadd X k2529_15_62 ?_
    refine w_lload X k2529_15_63 rfl ?_
    refine w_lastore X k2529_15_65 A23 (by decide) rfl gb (.long y1) rfl [(.long y1), (.long y0), (.long y2), (.long y3)] rfl (fun T h24 X W24 A24 => ?_)
    have K24 : Keep h0 h24 [b] := K23.wr W24 (Or.inl (List.mem_of_getElem? (i := 0) rfl))
    refine w_goto X k2529_15_66 ?_
    refine w_iinc X (1 : Int32) #[.val (.ref b), .val (.int (0 : Int32)), .val (.int (4 : Int32)), .val (.int (-1 : Int32)), .val (.int (2 : Int32)), .val (.long y1), .second] k2529_15_3 rfl rfl rfl ?_
    refine w_iload X k2529_15_6 rfl ?_
    refine w_iloadN X k2529_15_8 rfl ?_
    refine w_icmpge X k2529_15_9 (fun hc => absurd (by decide) hc) (fun _ => ?_)
    refine w_aloadN X k2529_15_12 rfl (rfl) ?_
    refine w_iload X k2529_15_13 rfl ?_
    refine w_dup X k2529_15_15 rfl ?_
    refine w_istoreN X #[.val (.ref b), .val (.int (0 : Int32)), .val (.int (4 : Int32)), .val (.int (2 : Int32)), .val (.int (2 : Int32)), .val (.long y1), .second] k2529_15_16 rfl ?_
    refine w_laload X k2529_15_17 A24 (by decide) rfl ?_
    refine w_lstore X #[.val (.ref b), .val (.int (0 : Int32)), .val (.int (4 : Int32)), .val (.int (2 : Int32)), .val (.int (2 : Int32)), .val (.long y2), .second] k2529_15_18 rfl ?_
    refine w_lload X k2529_15_20 rfl ?_
    refine w_aloadN X k2529_15_22 rfl (rfl) ?_
    refine w_iloadN X k2529_15_23 rfl ?_
    refine w_iconst X (1 : Int32) k2529_15_24 rfl ?_
    refine w_isub X k2529_15_25 ?_
    refine w_laload X k2529_15_26 A24 (by decide) rfl ?_
    refine w_lge X k2529_15_27 k2529_15_28 (fun (hc28_1 : ¬ y2 < y0) => ?_) (fun (hc28_1 : y2 < y0) => ?_)
    · refine w_goto X k2529_15_66 ?_
      refine w_iinc X (1 : Int32) #[.val (.ref b), .val (.int (0 : Int32)), .val (.int (4 : Int32)), .val (.int (2 : Int32)), .val (.int (3 : Int32)), .val (.long y2), .second] k2529_15_3 rfl rfl rfl ?_
      refine w_iload X k2529_15_6 rfl ?_
      refine w_iloadN X k2529_15_8 rfl ?_
      refine w_icmpge X k2529_15_9 (fun hc => absurd (by decide) hc) (fun _ => ?_)
      refine w_aloadN X k2529_15_12 rfl (rfl) ?_
      refine w_iload X k2529_15_13 rfl ?_
      refine w_dup X k2529_15_15 rfl ?_
      refine w_istoreN X #[.val (.ref b), .val (.int (0 : Int32)), .val (.int (4 : Int32)), .val (.int (3 : Int32)), .val (.int (3 : Int32)), .val (.long y2), .second] k2529_15_16 rfl ?_
      refine w_laload X k2529_15_17 A24 (by decide) rfl ?_
      refine w_lstore X #[.val (.ref b), .val (.int (0 : Int32)), .val (.int (4 : Int32)), .val (.int (3 : Int32)), .val (.int (3 : Int32)), .val (.long y3), .second] k2529_15_18 rfl ?_
      refine w_lload X k2529_15_20 rfl ?_
      refine w_aloadN X k2529_15_22 rfl (rfl) ?_
      refine w_iloadN X k2529_15_23 rfl ?_
      refine w_iconst X (1 : Int32) k2529_15_24 rfl ?_
      refine w_isub X k2529_15_25 ?_
      refine w_laload X k2529_15_26 A24 (by decide) rfl ?_
      refine w_lge X k2529_15_27 k2529_15_28 (fun (hc28_2 : ¬ y3 < y2) => ?_) (fun (hc28_2 : y3 < y2) => ?_)
      · refine w_goto X k2529_15_66 ?_
        refine w_iinc X (1 : Int32) #[.val (.ref b), .val (.int (0 : Int32)), .val (.int (4 : Int32)), .val (.int (3 : Int32)), .val (.int (4 : Int32)), .val (.long y3), .second] k2529_15_3 rfl rfl rfl ?_
        refine w_iload X k2529_15_6 rfl ?_
        refine w_iloadN X k2529_15_8 rfl ?_
        refine w_icmpge X k2529_15_9 (fun _ => ?_) (fun hc => absurd hc Int32.lt_irrefl)
        exact w_retV X k2529_15_69 ⟨rfl, K24, _, _, _, _, A24, by simp only [own_srt, List.foldl_cons, List.foldl_nil, own_insr, hc28, hc28_1, hc28_2, if_true, if_false, List.reverse_cons, List.reverse_nil, List.nil_append, List.cons_append]⟩ (by decide) (by decide)
      · refine w_iinc X (-1 : Int32) #[.val (.ref b), .val (.int (0 : Int32)), .val (.int (4 : Int32)), .val (.int (2 : Int32)), .val (.int (3 : Int32)), .val (.long y3), .second] k2529_15_31 rfl rfl rfl ?_
        refine w_iloadN X k2529_15_34 rfl ?_
        refine w_iloadN X k2529_15_35 rfl ?_
        refine w_icmplt X k2529_15_36 (fun hc => absurd hc (by decide)) (fun _ => ?_)
        refine w_lload X k2529_15_39 rfl ?_
        refine w_aloadN X k2529_15_41 rfl (rfl) ?_
        refine w_iloadN X k2529_15_42 rfl ?_
        refine w_laload X k2529_15_43 A24 (by decide) rfl ?_
        refine w_lge X k2529_15_44 k2529_15_45 (fun hc => absurd hc28_2 hc) (fun _ => ?_)
        refine w_aloadN X k2529_15_48 rfl (rfl) ?_
        refine w_iloadN X k2529_15_49 rfl ?_
        refine w_iconst X (1 : Int32) k2529_15_50 rfl ?_
        refine w_iadd X k2529_15_51 ?_
        refine w_aloadN X k2529_15_52 rfl (rfl) ?_
        refine w_iloadN X k2529_15_53 rfl ?_
        refine w_laload X k2529_15_54 A24 (by decide) rfl ?_
        refine w_lastore X k2529_15_55 A24 (by decide) rfl gb (.long y2) rfl [(.long y1), (.long y0), (.long y2), (.long y2)] rfl (fun T h25 X W25 A25 => ?_)
        have K25 : Keep h0 h25 [b] := K24.wr W25 (Or.inl (List.mem_of_getElem? (i := 0) rfl))
        refine w_goto X k2529_15_56 ?_
        refine w_iinc X (-1 : Int32) #[.val (.ref b), .val (.int (0 : Int32)), .val (.int (4 : Int32)), .val (.int (1 : Int32)), .val (.int (3 : Int32)), .val (.long y3), .second] k2529_15_31 rfl rfl rfl ?_
        refine w_iloadN X k2529_15_34 rfl ?_
        refine w_iloadN X k2529_15_35 rfl ?_
        refine w_icmplt X k2529_15_36 (fun hc => absurd hc (by decide)) (fun _ => ?_)
        refine w_lload X k2529_15_39 rfl ?_
        refine w_aloadN X k2529_15_41 rfl (rfl) ?_
        refine w_iloadN X k2529_15_42 rfl ?_
        refine w_laload X k2529_15_43 A25 (by decide) rfl ?_
        refine w_lge X k2529_15_44 k2529_15_45 (fun (hc45 : ¬ y3 < y0) => ?_) (fun (hc45 : y3 < y0) => ?_)
        · refine w_aloadN X k2529_15_59 rfl (rfl) ?_
          refine w_iloadN X k2529_15_60 rfl ?_
          refine w_iconst X (1 : Int32) k2529_15_61 rfl ?_
          refine w_iadd X k2529_15_62 ?_
          refine w_lload X k2529_15_63 rfl ?_
          refine w_lastore X k2529_15_65 A25 (by decide) rfl gb (.long y3) rfl [(.long y1), (.long y0), (.long y3), (.long y2)] rfl (fun T h26 X W26 A26 => ?_)
          have K26 : Keep h0 h26 [b] := K25.wr W26 (Or.inl (List.mem_of_getElem? (i := 0) rfl))
          refine w_goto X k2529_15_66 ?_
          refine w_iinc X (1 : Int32) #[.val (.ref b), .val (.int (0 : Int32)), .val (.int (4 : Int32)), .val (.int (1 : Int32)), .val (.int (4 : Int32)), .val (.long y3), .second] k2529_15_3 rfl rfl rfl ?_
          refine w_iload X k2529_15_6 rfl ?_
          refine w_iloadN X k2529_15_8 rfl ?_
          refine w_icmpge X k2529_15_9 (fun _ => ?_) (fun hc => absurd hc Int32.lt_irrefl)
          exact w_retV X k2529_15_69 ⟨rfl, K26, _, _, _, _, A26, by simp only [own_srt, List.foldl_cons, List.foldl_nil, own_insr, hc28, hc28_1, hc28_2, hc45, if_true, if_false, List.reverse_cons, List.reverse_nil, List.nil_append, List.cons_append]⟩ (by decide) (by decide)
        · refine w_aloadN X k2529_15_48 rfl (rfl) ?_
          refine w_iloadN X k2529_15_49 rfl ?_
          refine w_iconst X (1 : Int32) k2529_15_50 rfl ?_
          refine w_iadd X k2529_15_51 ?_
          refine w_aloadN X k2529_15_52 rfl (rfl) ?_
          refine w_iloadN X k2529_15_53 rfl ?_
          refine w_laload X k2529_15_54 A25 (by decide) rfl ?_
          refine w_lastore X k2529_15_55 A25 (by decide) rfl gb (.long y0) rfl [(.long y1), (.long y0), (.long y0), (.long y2)] rfl (fun T h27 X W27 A27 => ?_)
          have K27 : Keep h0 h27 [b] := K25.wr W27 (Or.inl (List.mem_of_getElem? (i := 0) rfl))
          refine w_goto X k2529_15_56 ?_
          refine w_iinc X (-1 : Int32) #[.val (.ref b), .val (.int (0 : Int32)), .val (.int (4 : Int32)), .val (.int (0 : Int32)), .val (.int (3 : Int32)), .val (.long y3), .second] k2529_15_31 rfl rfl rfl ?_
          refine w_iloadN X k2529_15_34 rfl ?_
          refine w_iloadN X k2529_15_35 rfl ?_
          refine w_icmplt X k2529_15_36 (fun hc => absurd hc Int32.lt_irrefl) (fun _ => ?_)
          refine w_lload X k2529_15_39 rfl ?_
          refine w_aloadN X k2529_15_41 rfl (rfl) ?_
          refine w_iloadN X k2529_15_42 rfl ?_
          refine w_laload X k2529_15_43 A27 (by decide) rfl ?_
          refine w_lge X k2529_15_44 k2529_15_45 (fun (hc45_1 : ¬ y3 < y1) => ?_) (fun (hc45_1 : y3 < y1) => ?_)
          · refine w_aloadN X k2529_15_59 rfl (rfl) ?_
            refine w_iloadN X k2529_15_60 rfl ?_
            refine w_iconst X (1 : Int32) k2529_15_61 rfl ?_
            refine w_iadd X k2529_15_62 ?_
            refine w_lload X k2529_15_63 rfl ?_
            refine w_lastore X k2529_15_65 A27 (by decide) rfl gb (.long y3) rfl [(.long y1), (.long y3), (.long y0), (.long y2)] rfl (fun T h28 X W28 A28 => ?_)
            have K28 : Keep h0 h28 [b] := K27.wr W28 (Or.inl (List.mem_of_getElem? (i := 0) rfl))
            refine w_goto X k2529_15_66 ?_
            refine w_iinc X (1 : Int32) #[.val (.ref b), .val (.int (0 : Int32)), .val (.int (4 : Int32)), .val (.int (0 : Int32)), .val (.int (4 : Int32)), .val (.long y3), .second] k2529_15_3 rfl rfl rfl ?_
            refine w_iload X k2529_15_6 rfl ?_
            refine w_iloadN X k2529_15_8 rfl ?_
            refine w_icmpge X k2529_15_9 (fun _ => ?_) (fun hc => absurd hc Int32.lt_irrefl)
            exact w_retV X k2529_15_69 ⟨rfl, K28, _, _, _, _, A28, by simp only [own_srt, List.foldl_cons, List.foldl_nil, own_insr, hc28, hc28_1, hc28_2, hc45, hc45_1, if_true, if_false, List.reverse_cons, List.reverse_nil, List.nil_append, List.cons_append]⟩ (by decide) (by decide)
          · refine w_aloadN X k2529_15_48 rfl (rfl) ?_
            refine w_iloadN X k2529_15_49 rfl ?_
            refine w_iconst X (1 : Int32) k2529_15_50 rfl ?_
            refine w_iadd X k2529_15_51 ?_
            refine w_aloadN X k2529_15_52 rfl (rfl) ?_
            refine w_iloadN X k2529_15_53 rfl ?_
            refine w_laload X k2529_15_54 A27 (by decide) rfl ?_
            refine w_lastore X k2529_15_55 A27 (by decide) rfl gb (.long y1) rfl [(.long y1), (.long y1), (.long y0), (.long y2)] rfl (fun T h29 X W29 A29 => ?_)
            have K29 : Keep h0 h29 [b] := K27.wr W29 (Or.inl (List.mem_of_getElem? (i := 0) rfl))
            refine w_goto X k2529_15_56 ?_
            refine w_iinc X (-1 : Int32) #[.val (.ref b), .val (.int (0 : Int32)), .val (.int (4 : Int32)), .val (.int (-1 : Int32)), .val (.int (3 : Int32)), .val (.long y3), .second] k2529_15_31 rfl rfl rfl ?_
            refine w_iloadN X k2529_15_34 rfl ?_
            refine w_iloadN X k2529_15_35 rfl ?_
            refine w_icmplt X k2529_15_36 (fun _ => ?_) (fun hc => absurd (by decide) hc)
            refine w_aloadN X k2529_15_59 rfl (rfl) ?_
            refine w_iloadN X k2529_15_60 rfl ?_
            refine w_iconst X (1 : Int32) k2529_15_61 rfl ?_
            refine w_iadd X k2529_15_62 ?_
            refine w_lload X k2529_15_63 rfl ?_
            refine w_lastore X k2529_15_65 A29 (by decide) rfl gb (.long y3) rfl [(.long y3), (.long y1), (.long y0), (.long y2)] rfl (fun T h30 X W30 A30 => ?_)
            have K30 : Keep h0 h30 [b] := K29.wr W30 (Or.inl (List.mem_of_getElem? (i := 0) rfl))
            refine w_goto X k2529_15_66 ?_
            refine w_iinc X (1 : Int32) #[.val (.ref b), .val (.int (0 : Int32)), .val (.int (4 : Int32)), .val (.int (-1 : Int32)), .val (.int (4 : Int32)), .val (.long y3), .second] k2529_15_3 rfl rfl rfl ?_
            refine w_iload X k2529_15_6 rfl ?_
            refine w_iloadN X k2529_15_8 rfl ?_
            refine w_icmpge X k2529_15_9 (fun _ => ?_) (fun hc => absurd hc Int32.lt_irrefl)
            exact w_retV X k2529_15_69 ⟨rfl, K30, _, _, _, _, A30, by simp only [own_srt, List.foldl_cons, List.foldl_nil, own_insr, hc28, hc28_1, hc28_2, hc45, hc45_1, if_true, if_false, List.reverse_cons, List.reverse_nil, List.nil_append, List.cons_append]⟩ (by decide) (by decide)
    · refine w_iinc X (-1 : Int32) #[.val (.ref b), .val (.int (0 : Int32)), .val (.int (4 : Int32)), .val (.int (1 : Int32)), .val (.int (2 : Int32)), .val (.long y2), .second] k2529_15_31 rfl rfl rfl ?_
      refine w_iloadN X k2529_15_34 rfl ?_
      refine w_iloadN X k2529_15_35 rfl ?_
      refine w_icmplt X k2529_15_36 (fun hc => absurd hc (by decide)) (fun _ => ?_)
      refine w_lload X k2529_15_39 rfl ?_
      refine w_aloadN X k2529_15_41 rfl (rfl) ?_
      refine w_iloadN X k2529_15_42 rfl ?_
      refine w_laload X k2529_15_43 A24 (by decide) rfl ?_
      refine w_lge X k2529_15_44 k2529_15_45 (fun hc => absurd hc28_1 hc) (fun _ => ?_)
      refine w_aloadN X k2529_15_48 rfl (rfl) ?_
      refine w_iloadN X k2529_15_49 rfl ?_
      refine w_iconst X (1 : Int32) k2529_15_50 rfl ?_
      refine w_iadd X k2529_15_51 ?_
      refine w_aloadN X k2529_15_52 rfl (rfl) ?_
      refine w_iloadN X k2529_15_53 rfl ?_
      refine w_laload X k2529_15_54 A24 (by decide) rfl ?_
      refine w_lastore X k2529_15_55 A24 (by decide) rfl gb (.long y0) rfl [(.long y1), (.long y0), (.long y0), (.long y3)] rfl (fun T h31 X W31 A31 => ?_)
      have K31 : Keep h0 h31 [b] := K24.wr W31 (Or.inl (List.mem_of_getElem? (i := 0) rfl))
      refine w_goto X k2529_15_56 ?_
      refine w_iinc X (-1 : Int32) #[.val (.ref b), .val (.int (0 : Int32)), .val (.int (4 : Int32)), .val (.int (0 : Int32)), .val (.int (2 : Int32)), .val (.long y2), .second] k2529_15_31 rfl rfl rfl ?_
      refine w_iloadN X k2529_15_34 rfl ?_
      refine w_iloadN X k2529_15_35 rfl ?_
      refine w_icmplt X k2529_15_36 (fun hc => absurd hc Int32.lt_irrefl) (fun _ => ?_)
      refine w_lload X k2529_15_39 rfl ?_
      refine w_aloadN X k2529_15_41 rfl (rfl) ?_
      refine w_iloadN X k2529_15_42 rfl ?_
      refine w_laload X k2529_15_43 A31 (by decide) rfl ?_
      refine w_lge X k2529_15_44 k2529_15_45 (fun (hc45 : ¬ y2 < y1) => ?_) (fun (hc45 : y2 < y1) => ?_)
      · refine w_aloadN X k2529_15_59 rfl (rfl) ?_
        refine w_iloadN X k2529_15_60 rfl ?_
        refine w_iconst X (1 : Int32) k2529_15_61 rfl ?_
        refine w_iadd X k2529_15_62 ?_
        refine w_lload X k2529_15_63 rfl ?_
        refine w_lastore X k2529_15_65 A31 (by decide) rfl gb (.long y2) rfl [(.long y1), (.long y2), (.long y0), (.long y3)] rfl (fun T h32 X W32 A32 => ?_)
        have K32 : Keep h0 h32 [b] := K31.wr W32 (Or.inl (List.mem_of_getElem? (i := 0) rfl))
        refine w_goto X k2529_15_66 ?_
        refine w_iinc X (1 : Int32) #[.val (.ref b), .val (.int (0 : Int32)), .val (.int (4 : Int32)), .val (.int (0 : Int32)), .val (.int (3 : Int32)), .val (.long y2), .second] k2529_15_3 rfl rfl rfl ?_
        refine w_iload X k2529_15_6 rfl ?_
        refine w_iloadN X k2529_15_8 rfl ?_
        refine w_icmpge X k2529_15_9 (fun hc => absurd (by decide) hc) (fun _ => ?_)
        refine w_aloadN X k2529_15_12 rfl (rfl) ?_
        refine w_iload X k2529_15_13 rfl ?_
        refine w_dup X k2529_15_15 rfl ?_
        refine w_istoreN X #[.val (.ref b), .val (.int (0 : Int32)), .val (.int (4 : Int32)), .val (.int (3 : Int32)), .val (.int (3 : Int32)), .val (.long y2), .second] k2529_15_16 rfl ?_
        refine w_laload X k2529_15_17 A32 (by decide) rfl ?_
        refine w_lstore X #[.val (.ref b), .val (.int (0 : Int32)), .val (.int (4 : Int32)), .val (.int (3 : Int32)), .val (.int (3 : Int32)), .val (.long y3), .second] k2529_15_18 rfl ?_
        refine w_lload X k2529_15_20 rfl ?_
        refine w_aloadN X k2529_15_22 rfl (rfl) ?_
        refine w_iloadN X k2529_15_23 rfl ?_
        refine w_iconst X (1 : Int32) k2529_15_24 rfl ?_
        refine w_isub X k2529_15_25 ?_
        refine w_laload X k2529_15_26 A32 (by decide) rfl ?_
        refine w_lge X k2529_15_27 k2529_15_28 (fun (hc28_2 : ¬ y3 < y0) => ?_) (fun (hc28_2 : y3 < y0) => ?_)
        · refine w_goto X k2529_15_66 ?_
          refine w_iinc X (1 : Int32) #[.val (.ref b), .val (.int (0 : Int32)), .val (.int (4 : Int32)), .val (.int (3 : Int32)), .val (.int (4 : Int32)), .val (.long y3), .second] k2529_15_3 rfl rfl rfl ?_
          refine w_iload X k2529_15_6 rfl ?_
          refine w_iloadN X k2529_15_8 rfl ?_
          refine w_icmpge X k2529_15_9 (fun _ => ?_) (fun hc => absurd hc Int32.lt_irrefl)
          exact w_retV X k2529_15_69 ⟨rfl, K32, _, _, _, _, A32, by simp only [own_srt, List.foldl_cons, List.foldl_nil, own_insr, hc28, hc28_1, hc45, hc28_2, if_true, if_false, List.reverse_cons, List.reverse_nil, List.nil_append, List.cons_append]⟩ (by decide) (by decide)
        · refine w_iinc X (-1 : Int32) #[.val (.ref b), .val (.int (0 : Int32)), .val (.int (4 : Int32)), .val (.int (2 : Int32)), .val (.int (3 : Int32)), .val (.long y3), .second] k2529_15_31 rfl rfl rfl ?_
          refine w_iloadN X k2529_15_34 rfl ?_
          refine w_iloadN X k2529_15_35 rfl ?_
          refine w_icmplt X k2529_15_36 (fun hc => absurd hc (by decide)) (fun _ => ?_)
          refine w_lload X k2529_15_39 rfl ?_
          refine w_aloadN X k2529_15_41 rfl (rfl) ?_
          refine w_iloadN X k2529_15_42 rfl ?_
          refine w_laload X k2529_15_43 A32 (by decide) rfl ?_
          refine w_lge X k2529_15_44 k2529_15_45 (fun hc => absurd hc28_2 hc) (fun _ => ?_)
          refine w_aloadN X k2529_15_48 rfl (rfl) ?_
          refine w_iloadN X k2529_15_49 rfl ?_
          refine w_iconst X (1 : Int32) k2529_15_50 rfl ?_
          refine w_iadd X k2529_15_51 ?_
          refine w_aloadN X k2529_15_52 rfl (rfl) ?_
          refine w_iloadN X k2529_15_53 rfl ?_
          refine w_laload X k2529_15_54 A32 (by decide) rfl ?_
          refine w_lastore X k2529_15_55 A32 (by decide) rfl gb (.long y0) rfl [(.long y1), (.long y2), (.long y0), (.long y0)] rfl (fun T h33 X W33 A33 => ?_)
          have K33 : Keep h0 h33 [b] := K32.wr W33 (Or.inl (List.mem_of_getElem? (i := 0) rfl))
          refine w_goto X k2529_15_56 ?_
          refine w_iinc X (-1 : Int32) #[.val (.ref b), .val (.int (0 : Int32)), .val (.int (4 : Int32)), .val (.int (1 : Int32)), .val (.int (3 : Int32)), .val (.long y3), .second] k2529_15_31 rfl rfl rfl ?_
          refine w_iloadN X k2529_15_34 rfl ?_
          refine w_iloadN X k2529_15_35 rfl ?_
          refine w_icmplt X k2529_15_36 (fun hc => absurd hc (by decide)) (fun _ => ?_)
          refine w_lload X k2529_15_39 rfl ?_
          refine w_aloadN X k2529_15_41 rfl (rfl) ?_
          refine w_iloadN X k2529_15_42 rfl ?_
          refine w_laload X k2529_15_43 A33 (by decide) rfl ?_
          refine w_lge X k2529_15_44 k2529_15_45 (fun (hc45_1 : ¬ y3 < y2) => ?_) (fun (hc45_1 : y3 < y2) => ?_)
          · refine w_aloadN X k2529_15_59 rfl (rfl) ?_
            refine w_iloadN X k2529_15_60 rfl ?_
            refine w_iconst X (1 : Int32) k2529_15_61 rfl ?_
            refine w_iadd X k2529_15_62 ?_
            refine w_lload X k2529_15_63 rfl ?_
            refine w_lastore X k2529_15_65 A33 (by decide) rfl gb (.long y3) rfl [(.long y1), (.long y2), (.long y3), (.long y0)] rfl (fun T h34 X W34 A34 => ?_)
            have K34 : Keep h0 h34 [b] := K33.wr W34 (Or.inl (List.mem_of_getElem? (i := 0) rfl))
            refine w_goto X k2529_15_66 ?_
            refine w_iinc X (1 : Int32) #[.val (.ref b), .val (.int (0 : Int32)), .val (.int (4 : Int32)), .val (.int (1 : Int32)), .val (.int (4 : Int32)), .val (.long y3), .second] k2529_15_3 rfl rfl rfl ?_
            refine w_iload X k2529_15_6 rfl ?_
            refine w_iloadN X k2529_15_8 rfl ?_
            refine w_icmpge X k2529_15_9 (fun _ => ?_) (fun hc => absurd hc Int32.lt_irrefl)
            exact w_retV X k2529_15_69 ⟨rfl, K34, _, _, _, _, A34, by simp only [own_srt, List.foldl_cons, List.foldl_nil, own_insr, hc28, hc28_1, hc45, hc28_2, hc45_1, if_true, if_false, List.reverse_cons, List.reverse_nil, List.nil_append, List.cons_append]⟩ (by decide) (by decide)
          · refine w_aloadN X k2529_15_48 rfl (rfl) ?_
            refine w_iloadN X k2529_15_49 rfl ?_
            refine w_iconst X (1 : Int32) k2529_15_50 rfl ?_
            refine w_iadd X k2529_15_51 ?_
            refine w_aloadN X k2529_15_52 rfl (rfl) ?_
            refine w_iloadN X k2529_15_53 rfl ?_
            refine w_laload X k2529_15_54 A33 (by decide) rfl ?_
            refine w_lastore X k2529_15_55 A33 (by decide) rfl gb (.long y2) rfl [(.long y1), (.long y2), (.long y2), (.long y0)] rfl (fun T h35 X W35 A35 => ?_)
            have K35 : Keep h0 h35 [b] := K33.wr W35 (Or.inl (List.mem_of_getElem? (i := 0) rfl))
            refine w_goto X k2529_15_56 ?_
            refine w_iinc X (-1 : Int32) #[.val (.ref b), .val (.int (0 : Int32)), .val (.int (4 : Int32)), .val (.int (0 : Int32)), .val (.int (3 : Int32)), .val (.long y3), .second] k2529_15_31 rfl rfl rfl ?_
            refine w_iloadN X k2529_15_34 rfl ?_
            refine w_iloadN X k2529_15_35 rfl ?_
            refine w_icmplt X k2529_15_36 (fun hc => absurd hc Int32.lt_irrefl) (fun _ => ?_)
            refine w_lload X k2529_15_39 rfl ?_
            refine w_aloadN X k2529_15_41 rfl (rfl) ?_
            refine w_iloadN X k2529_15_42 rfl ?_
            refine w_laload X k2529_15_43 A35 (by decide) rfl ?_
            refine w_lge X k2529_15_44 k2529_15_45 (fun (hc45_2 : ¬ y3 < y1) => ?_) (fun (hc45_2 : y3 < y1) => ?_)
            · refine w_aloadN X k2529_15_59 rfl (rfl) ?_
              refine w_iloadN X k2529_15_60 rfl ?_
              refine w_iconst X (1 : Int32) k2529_15_61 rfl ?_
              refine w_iadd X k2529_15_62 ?_
              refine w_lload X k2529_15_63 rfl ?_
              refine w_lastore X k2529_15_65 A35 (by decide) rfl gb (.long y3) rfl [(.long y1), (.long y3), (.long y2), (.long y0)] rfl (fun T h36 X W36 A36 => ?_)
              have K36 : Keep h0 h36 [b] := K35.wr W36 (Or.inl (List.mem_of_getElem? (i := 0) rfl))
              refine w_goto X k2529_15_66 ?_
              refine w_iinc X (1 : Int32) #[.val (.ref b), .val (.int (0 : Int32)), .val (.int (4 : Int32)), .val (.int (0 : Int32)), .val (.int (4 : Int32)), .val (.long y3), .second] k2529_15_3 rfl rfl rfl ?_
              refine w_iload X k2529_15_6 rfl ?_
              refine w_iloadN X k2529_15_8 rfl ?_
              refine w_icmpge X k2529_15_9 (fun _ => ?_) (fun hc => absurd hc Int32.lt_irrefl)
              exact w_retV X k2529_15_69 ⟨rfl, K36, _, _, _, _, A36, by simp only [own_srt, List.foldl_cons, List.foldl_nil, own_insr, hc28, hc28_1, hc45, hc28_2, hc45_1, hc45_2, if_true, if_false, List.reverse_cons, List.reverse_nil, List.nil_append, List.cons_append]⟩ (by decide) (by decide)
            · refine w_aloadN X k2529_15_48 rfl (rfl) ?_
              refine w_iloadN X k2529_15_49 rfl ?_
              refine w_iconst X (1 : Int32) k2529_15_50 rfl ?_
              refine w_iadd X k2529_15_51 ?_
              refine w_aloadN X k2529_15_52 rfl (rfl) ?_
              refine w_iloadN X k2529_15_53 rfl ?_
              refine w_laload X k2529_15_54 A35 (by decide) rfl ?_
              refine w_lastore X k2529_15_55 A35 (by decide) rfl gb (.long y1) rfl [(.long y1), (.long y1), (.long y2), (.long y0)] rfl (fun T h37 X W37 A37 => ?_)
              have K37 : Keep h0 h37 [b] := K35.wr W37 (Or.inl (List.mem_of_getElem? (i := 0) rfl))
              refine w_goto X k2529_15_56 ?_
              refine w_iinc X (-1 : Int32) #[.val (.ref b), .val (.int (0 : Int32)), .val (.int (4 : Int32)), .val (.int (-1 : Int32)), .val (.int (3 : Int32)), .val (.long y3), .second] k2529_15_31 rfl rfl rfl ?_
              refine w_iloadN X k2529_15_34 rfl ?_
              refine w_iloadN X k2529_15_35 rfl ?_
              refine w_icmplt X k2529_15_36 (fun _ => ?_) (fun hc => absurd (by decide) hc)
              refine w_aloadN X k2529_15_59 rfl (rfl) ?_
              refine w_iloadN X k2529_15_60 rfl ?_
              refine w_iconst X (1 : Int32) k2529_15_61 rfl ?_
              refine w_iadd X k2529_15_62 ?_
              refine w_lload X k2529_15_63 rfl ?_
              refine w_lastore X k2529_15_65 A37 (by decide) rfl gb (.long y3) rfl [(.long y3), (.long y1), (.long y2), (.long y0)] rfl (fun T h38 X W38 A38 => ?_)
              have K38 : Keep h0 h38 [b] := K37.wr W38 (Or.inl (List.mem_of_getElem? (i := 0) rfl))
              refine w_goto X k2529_15_66 ?_
              refine w_iinc X (1 : Int32) #[.val (.ref b), .val (.int (0 : Int32)), .val (.int (4 : Int32)), .val (.int (-1 : Int32)), .val (.int (4 : Int32)), .val (.long y3), .second] k2529_15_3 rfl rfl rfl ?_
              refine w_iload X k2529_15_6 rfl ?_
              refine w_iloadN X k2529_15_8 rfl ?_
              refine w_icmpge X k2529_15_9 (fun _ => ?_) (fun hc => absurd hc Int32.lt_irrefl)
              exact w_retV X k2529_15_69 ⟨rfl, K38, _, _, _, _, A38, by simp only [own_srt, List.foldl_cons, List.foldl_nil, own_insr, hc28, hc28_1, hc45, hc28_2, hc45_1, hc45_2, if_true, if_false, List.reverse_cons, List.reverse_nil, List.nil_append, List.cons_append]⟩ (by decide) (by decide)
      · refine w_aloadN X k2529_15_48 rfl (rfl) ?_
        refine w_iloadN X k2529_15_49 rfl ?_
        refine w_iconst X (1 : Int32) k2529_15_50 rfl ?_
        refine w_iadd X k2529_15_51 ?_
        refine w_aloadN X k2529_15_52 rfl (rfl) ?_
        refine w_iloadN X k2529_15_53 rfl ?_
        refine w_laload X k2529_15_54 A31 (by decide) rfl ?_
        refine w_lastore X k2529_15_55 A31 (by decide) rfl gb (.long y1) rfl [(.long y1), (.long y1), (.long y0), (.long y3)] rfl (fun T h39 X W39 A39 => ?_)
        have K39 : Keep h0 h39 [b] := K31.wr W39 (Or.inl (List.mem_of_getElem? (i := 0) rfl))
        refine w_goto X k2529_15_56 ?_
        refine w_iinc X (-1 : Int32) #[.val (.ref b), .val (.int (0 : Int32)), .val (.int (4 : Int32)), .val (.int (-1 : Int32)), .val (.int (2 : Int32)), .val (.long y2), .second] k2529_15_31 rfl rfl rfl ?_
        refine w_iloadN X k2529_15_34 rfl ?_
        refine w_iloadN X k2529_15_35 rfl ?_
        refine w_icmplt X k2529_15_36 (fun _ => ?_) (fun hc => absurd (by decide) hc)
        refine w_aloadN X k2529_15_59 rfl (rfl) ?_
        refine w_iloadN X k2529_15_60 rfl ?_
        refine w_iconst X (1 : Int32) k2529_15_61 rfl ?_
        refine w_iadd X k2529_15_62 ?_
        refine w_lload X k2529_15_63 rfl ?_
        refine w_lastore X k2529_15_65 A39 (by decide) rfl gb (.long y2) rfl [(.long y2), (.long y1), (.long y0), (.long y3)] rfl (fun T h40 X W40 A40 => ?_)
        have K40 : Keep h0 h40 [b] := K39.wr W40 (Or.inl (List.mem_of_getElem? (i := 0) rfl))
        refine w_goto X k2529_15_66 ?_
        refine w_iinc X (1 : Int32) #[.val (.ref b), .val (.int (0 : Int32)), .val (.int (4 : Int32)), .val (.int (-1 : Int32)), .val (.int (3 : Int32)), .val (.long y2), .second] k2529_15_3 rfl rfl rfl ?_
        refine w_iload X k2529_15_6 rfl ?_
        refine w_iloadN X k2529_15_8 rfl ?_
        refine w_icmpge X k2529_15_9 (fun hc => absurd (by decide) hc) (fun _ => ?_)
        refine w_aloadN X k2529_15_12 rfl (rfl) ?_
        refine w_iload X k2529_15_13 rfl ?_
        refine w_dup X k2529_15_15 rfl ?_
        refine w_istoreN X #[.val (.ref b), .val (.int (0 : Int32)), .val (.int (4 : Int32)), .val (.int (3 : Int32)), .val (.int (3 : Int32)), .val (.long y2), .second] k2529_15_16 rfl ?_
        refine w_laload X k2529_15_17 A40 (by decide) rfl ?_
        refine w_lstore X #[.val (.ref b), .val (.int (0 : Int32)), .val (.int (4 : Int32)), .val (.int (3 : Int32)), .val (.int (3 : Int32)), .val (.long y3), .second] k2529_15_18 rfl ?_
        refine w_lload X k2529_15_20 rfl ?_
        refine w_aloadN X k2529_15_22 rfl (rfl) ?_
        refine w_iloadN X k2529_15_23 rfl ?_
        refine w_iconst X (1 : Int32) k2529_15_24 rfl ?_
        refine w_isub X k2529_15_25 ?_
        refine w_laload X k2529_15_26 A40 (by decide) rfl ?_
        refine w_lge X k2529_15_27 k2529_15_28 (fun (hc28_2 : ¬ y3 < y0) => ?_) (fun (hc28_2 : y3 < y0) => ?_)
        · refine w_goto X k2529_15_66 ?_
          refine w_iinc X (1 : Int32) #[.val (.ref b), .val (.int (0 : Int32)), .val (.int (4 : Int32)), .val (.int (3 : Int32)), .val (.int (4 : Int32)), .val (.long y3), .second] k2529_15_3 rfl rfl rfl ?_
          refine w_iload X k2529_15_6 rfl ?_
          refine w_iloadN X k2529_15_8 rfl ?_
          refine w_icmpge X k2529_15_9 (fun _ => ?_) (fun hc => absurd hc Int32.lt_irrefl)
          exact w_retV X k2529_15_69 ⟨rfl, K40, _, _, _, _, A40, by simp only [own_srt, List.foldl_cons, List.foldl_nil, own_insr, hc28, hc28_1, hc45, hc28_2, if_true, if_false, List.reverse_cons, List.reverse_nil, List.nil_append, List.cons_append]⟩ (by decide) (by decide)
        · refine w_iinc X (-1 : Int32) #[.val (.ref b), .val (.int (0 : Int32)), .val (.int (4 : Int32)), .val (.int (2 : Int32)), .val (.int (3 : Int32)), .val (.long y3), .second] k2529_15_31 rfl rfl rfl ?_
          refine w_iloadN X k2529_15_34 rfl ?_
          refine w_iloadN X k2529_15_35 rfl ?_
          refine w_icmplt X k2529_15_36 (fun hc => absurd hc (by decide)) (fun _ => ?_)
          refine w_lload X k2529_15_39 rfl ?_
          refine w_aloadN X k2529_15_41 rfl (rfl) ?_
          refine w_iloadN X k2529_15_42 rfl ?_
          refine w_laload X k2529_15_43 A40 (by decide) rfl ?_
          refine w_lge X k2529_15_44 k2529_15_45 (fun hc => absurd hc28_2 hc) (fun _ => ?_)
          refine w_aloadN X k2529_15_48 rfl (rfl) ?_
          refine w_iloadN X k2529_15_49 rfl ?_
          refine w_iconst X (1 : Int32) k2529_15_50 rfl ?_
          refine w_iadd X k2529_15_51 ?_
          refine w_aloadN X k2529_15_52 rfl (rfl) ?_
          refine w_iloadN X k2529_15_53 rfl ?_
          refine w_laload X k2529_15_54 A40 (by decide) rfl ?_
          refine w_lastore X k2529_15_55 A40 (by decide) rfl gb (.long y0) rfl [(.long y2), (.long y1), (.long y0), (.long y0)] rfl (fun T h41 X W41 A41 => ?_)
          have K41 : Keep h0 h41 [b] := K40.wr W41 (Or.inl (List.mem_of_getElem? (i := 0) rfl))
          refine w_goto X k2529_15_56 ?_
          refine w_iinc X (-1 : Int32) #[.val (.ref b), .val (.int (0 : Int32)), .val (.int (4 : Int32)), .val (.int (1 : Int32)), .val (.int (3 : Int32)), .val (.long y3), .second] k2529_15_31 rfl rfl rfl ?_
          refine w_iloadN X k2529_15_34 rfl ?_
          refine w_iloadN X k2529_15_35 rfl ?_
          refine w_icmplt X k2529_15_36 (fun hc => absurd hc (by decide)) (fun _ => ?_)
          refine w_lload X k2529_15_39 rfl ?_
          refine w_aloadN X k2529_15_41 rfl (rfl) ?_
          refine w_iloadN X k2529_15_42 rfl ?_
          refine w_laload X k2529_15_43 A41 (by decide) rfl ?_
          refine w_lge X k2529_15_44 k2529_15_45 (fun (hc45_1 : ¬ y3 < y1) => ?_) (fun (hc45_1 : y3 < y1) => ?_)
          · refine w_aloadN X k2529_15_59 rfl (rfl) ?_
            refine w_iloadN X k2529_15_60 rfl ?_
            refine w_iconst X (1 : Int32) k2529_15_61 rfl ?_
            refine w_iadd X k2529_15_62 ?_
            refine w_lload X k2529_15_63 rfl ?_
            refine w_lastore X k2529_15_65 A41 (by decide) rfl gb (.long y3) rfl [(.long y2), (.long y1), (.long y3), (.long y0)] rfl (fun T h42 X W42 A42 => ?_)
            have K42 : Keep h0 h42 [b] := K41.wr W42 (Or.inl (List.mem_of_getElem? (i := 0) rfl))
            refine w_goto X k2529_15_66 ?_
            refine w_iinc X (1 : Int32) #[.val (.ref b), .val (.int (0 : Int32)), .val (.int (4 : Int32)), .val (.int (1 : Int32)), .val (.int (4 : Int32)), .val (.long y3), .second] k2529_15_3 rfl rfl rfl ?_
            refine w_iload X k2529_15_6 rfl ?_
            refine w_iloadN X k2529_15_8 rfl ?_
            refine w_icmpge X k2529_15_9 (fun _ => ?_) (fun hc => absurd hc Int32.lt_irrefl)
            exact w_retV X k2529_15_69 ⟨rfl, K42, _, _, _, _, A42, by simp only [own_srt, List.foldl_cons, List.foldl_nil, own_insr, hc28, hc28_1, hc45, hc28_2, hc45_1, if_true, if_false, List.reverse_cons, List.reverse_nil, List.nil_append, List.cons_append]⟩ (by decide) (by decide)
          · refine w_aloadN X k2529_15_48 rfl (rfl) ?_
            refine w_iloadN X k2529_15_49 rfl ?_
            refine w_iconst X (1 : Int32) k2529_15_50 rfl ?_
            refine w_iadd X k2529_15_51 ?_
            refine w_aloadN X k2529_15_52 rfl (rfl) ?_
            refine w_iloadN X k2529_15_53 rfl ?_
            refine w_laload X k2529_15_54 A41 (by decide) rfl ?_
            refine w_lastore X k2529_15_55 A41 (by decide) rfl gb (.long y1) rfl [(.long y2), (.long y1), (.long y1), (.long y0)] rfl (fun T h43 X W43 A43 => ?_)
            have K43 : Keep h0 h43 [b] := K41.wr W43 (Or.inl (List.mem_of_getElem? (i := 0) rfl))
            refine w_goto X k2529_15_56 ?_
            refine w_iinc X (-1 : Int32) #[.val (.ref b), .val (.int (0 : Int32)), .val (.int (4 : Int32)), .val (.int (0 : Int32)), .val (.int (3 : Int32)), .val (.long y3), .second] k2529_15_31 rfl rfl rfl ?_
            refine w_iloadN X k2529_15_34 rfl ?_
            refine w_iloadN X k2529_15_35 rfl ?_
            refine w_icmplt X k2529_15_36 (fun hc => absurd hc Int32.lt_irrefl) (fun _ => ?_)
            refine w_lload X k2529_15_39 rfl ?_
            refine w_aloadN X k2529_15_41 rfl (rfl) ?_
            refine w_iloadN X k2529_15_42 rfl ?_
            refine w_laload X k2529_15_43 A43 (by decide) rfl ?_
            refine w_lge X k2529_15_44 k2529_15_45 (fun (hc45_2 : ¬ y3 < y2) => ?_) (fun (hc45_2 : y3 < y2) => ?_)
            · refine w_aloadN X k2529_15_59 rfl (rfl) ?_
              refine w_iloadN X k2529_15_60 rfl ?_
              refine w_iconst X (1 : Int32) k2529_15_61 rfl ?_
              refine w_iadd X k2529_15_62 ?_
              refine w_lload X k2529_15_63 rfl ?_
              refine w_lastore X k2529_15_65 A43 (by decide) rfl gb (.long y3) rfl [(.long y2), (.long y3), (.long y1), (.long y0)] rfl (fun T h44 X W44 A44 => ?_)
              have K44 : Keep h0 h44 [b] := K43.wr W44 (Or.inl (List.mem_of_getElem? (i := 0) rfl))
              refine w_goto X k2529_15_66 ?_
              refine w_iinc X (1 : Int32) #[.val (.ref b), .val (.int (0 : Int32)), .val (.int (4 : Int32)), .val (.int (0 : Int32)), .val (.int (4 : Int32)), .val (.long y3), .second] k2529_15_3 rfl rfl rfl ?_
              refine w_iload X k2529_15_6 rfl ?_
              refine w_iloadN X k2529_15_8 rfl ?_
              refine w_icmpge X k2529_15_9 (fun _ => ?_) (fun hc => absurd hc Int32.lt_irrefl)
              exact w_retV X k2529_15_69 ⟨rfl, K44, _, _, _, _, A44, by simp only [own_srt, List.foldl_cons, List.foldl_nil, own_insr, hc28, hc28_1, hc45, hc28_2, hc45_1, hc45_2, if_true, if_false, List.reverse_cons, List.reverse_nil, List.nil_append, List.cons_append]⟩ (by decide) (by decide)
            · refine w_aloadN X k2529_15_48 rfl (rfl) ?_
              refine w_iloadN X k2529_15_49 rfl ?_
              refine w_iconst X (1 : Int32) k2529_15_50 rfl ?_
              refine w_iadd X k2529_15_51 ?_
              refine w_aloadN X k2529_15_52 rfl (rfl) ?_
              refine w_iloadN X k2529_15_53 rfl ?_
              refine w_laload X k2529_15_54 A43 (by decide) rfl ?_
              refine w_lastore X k2529_15_55 A43 (by decide) rfl gb (.long y2) rfl [(.long y2), (.long y2), (.long y1), (.long y0)] rfl (fun T h45 X W45 A45 => ?_)
              have K45 : Keep h0 h45 [b] := K43.wr W45 (Or.inl (List.mem_of_getElem? (i := 0) rfl))
              refine w_goto X k2529_15_56 ?_
              refine w_iinc X (-1 : Int32) #[.val (.ref b), .val (.int (0 : Int32)), .val (.int (4 : Int32)), .val (.int (-1 : Int32)), .val (.int (3 : Int32)), .val (.long y3), .second] k2529_15_31 rfl rfl rfl ?_
              refine w_iloadN X k2529_15_34 rfl ?_
              refine w_iloadN X k2529_15_35 rfl ?_
              refine w_icmplt X k2529_15_36 (fun _ => ?_) (fun hc => absurd (by decide) hc)
              refine w_aloadN X k2529_15_59 rfl (rfl) ?_
              refine w_iloadN X k2529_15_60 rfl ?_
              refine w_iconst X (1 : Int32) k2529_15_61 rfl ?_
              refine w_iadd X k2529_15_62 ?_
              refine w_lload X k2529_15_63 rfl ?_
              refine w_lastore X k2529_15_65 A45 (by decide) rfl gb (.long y3) rfl [(.long y3), (.long y2), (.long y1), (.long y0)] rfl (fun T h46 X W46 A46 => ?_)
              have K46 : Keep h0 h46 [b] := K45.wr W46 (Or.inl (List.mem_of_getElem? (i := 0) rfl))
              refine w_goto X k2529_15_66 ?_
              refine w_iinc X (1 : Int32) #[.val (.ref b), .val (.int (0 : Int32)), .val (.int (4 : Int32)), .val (.int (-1 : Int32)), .val (.int (4 : Int32)), .val (.long y3), .second] k2529_15_3 rfl rfl rfl ?_
              refine w_iload X k2529_15_6 rfl ?_
              refine w_iloadN X k2529_15_8 rfl ?_
              refine w_icmpge X k2529_15_9 (fun _ => ?_) (fun hc => absurd hc Int32.lt_irrefl)
              exact w_retV X k2529_15_69 ⟨rfl, K46, _, _, _, _, A46, by simp only [own_srt, List.foldl_cons, List.foldl_nil, own_insr, hc28, hc28_1, hc45, hc28_2, hc45_1, hc45_2, if_true, if_false, List.reverse_cons, List.reverse_nil, List.nil_append, List.cons_append]⟩ (by decide) (by decide)
theorem m_srt1_4 {l : Launch} {Z : State} {a0 : Array Value} {n0 : Nat} (hw : own_hw a0 Z) {h0 : Heap} {b : Addr} {y0 y1 y2 y3 : Int64} (gb : n0 ≤ b) (Ab : Ary Z h0 b .long [(.long y0), (.long y1), (.long y2), (.long y3)]) :
    Does l Z n0 ⟨"java/util/DualPivotQuicksort", "sort", "(Ljava/util/DualPivotQuicksort$Sorter;[JIII)V"⟩ jdk_2529_method_13_code 25 none [] { frames := 1, cells := 0, slots := 0, locals := 18 } #[.null, (.ref b), (.int (0 : Int32)), (.int (0 : Int32)), (.int (4 : Int32))] h0 (fun v h => v = none ∧ Keep h0 h [b] ∧ ∃ z0 z1 z2 z3 : Int64, Ary Z h b .long [(.long z0), (.long z1), (.long z2), (.long z3)] ∧ own_srt [y0, y1, y2, y3] = [z0, z1, z2, z3]) := by
  refine Does.start (plainFor_of_name pn_6) ?_
  intro p e s m below meth c T X
  replace X : Sd _ _ _ _ _ "java/util/DualPivotQuicksort" "sort" _ _ _ _ _ _ _ _ _ _ _ _ _ _ _ _ := X
  refine Wp.cast (g' := mkF m 0 #[.val .null, .val (.ref b), .val (.int (0 : Int32)), .val (.int (0 : Int32)), .val (.int (4 : Int32)), .unset, .unset, .unset, .unset, .unset, .unset, .unset, .unset, .unset, .unset, .unset, .unset, .unset, .unset, .unset, .unset, .unset, .unset, .unset, .unset] []) (by first | (simp [entryFrame, mkF, argsToLocals, Value.category, maxLocals]; done) | rfl) ?_
  refine w_iload X k2529_13_0 rfl ?_
  refine w_iconst X (1 : Int32) k2529_13_2 rfl ?_
  refine w_isub X k2529_13_3 ?_
  refine w_istore X #[.val .null, .val (.ref b), .val (.int (0 : Int32)), .val (.int (0 : Int32)), .val (.int (4 : Int32)), .val (.int (3 : Int32)), .unset, .unset, .unset, .unset, .unset, .unset, .unset, .unset, .unset, .unset, .unset, .unset, .unset, .unset, .unset, .unset, .unset, .unset, .unset] k2529_13_4 rfl ?_
  refine w_iload X k2529_13_6 rfl ?_
  refine w_iloadN X k2529_13_8 rfl ?_
  refine w_isub X k2529_13_9 ?_
  refine w_istore X #[.val .null, .val (.ref b), .val (.int (0 : Int32)), .val (.int (0 : Int32)), .val (.int (4 : Int32)), .val (.int (3 : Int32)), .val (.int (4 : Int32)), .unset, .unset, .unset, .unset, .unset, .unset, .unset, .unset, .unset, .unset, .unset, .unset, .unset, .unset, .unset, .unset, .unset, .unset] k2529_13_10 rfl ?_
  refine w_iload X k2529_13_12 rfl ?_
  refine w_bipush X (65 : Int32) k2529_13_14 rfl ?_
  refine w_iloadN X k2529_13_16 rfl ?_
  refine w_iadd X k2529_13_17 ?_
  refine w_icmpge X k2529_13_18 (fun hc => absurd (by decide) hc) (fun _ => ?_)
  refine w_iloadN X k2529_13_21 rfl ?_
  refine w_iconst X (1 : Int32) k2529_13_22 rfl ?_
  refine w_iand X k2529_13_23 ?_
  refine w_ifle X k2529_13_24 (fun _ => ?_) (fun hc => absurd hc Int32.lt_irrefl)
  refine w_iload X k2529_13_46 rfl ?_
  refine w_bipush X (44 : Int32) k2529_13_48 rfl ?_
  refine w_icmpge X k2529_13_50 (fun hc => absurd (by decide) hc) (fun _ => ?_)
  refine w_aloadN X k2529_13_53 rfl (rfl) ?_
  refine w_iloadN X k2529_13_54 rfl ?_
  refine w_iload X k2529_13_55 rfl ?_
  refine w_callS X k2529_13_57 (wd_126 hw) (wd_127 hw) (wd_121 hw) (wd_128 hw) (by decide) (argsL := [(.ref b), (.int (0 : Int32)), (.int (4 : Int32))]) (S := []) (m_ins_4 hw gb Ab) pd_5 rfl rfl rfl (by decide) (Nat.le_of_ble_eq_true rfl) (by decide) (by decide) (fun T h1 v1 L1 X q1 => ?_)
  obtain ⟨rfl, r1⟩ := q1
  show Wp _ _ _ _ (T.setTop (mkF _ _ _ []))
  exact w_retV X k2529_13_60 ⟨rfl, r1⟩ (by decide) (by decide)
theorem m_srt2_4 {l : Launch} {Z : State} {a0 : Array Value} {n0 : Nat} (hw : own_hw a0 Z) {h0 : Heap} {b : Addr} {y0 y1 y2 y3 : Int64} (gb : n0 ≤ b) (Ab : Ary Z h0 b .long [(.long y0), (.long y1), (.long y2), (.long y3)]) :
    Does l Z n0 ⟨"java/util/DualPivotQuicksort", "sort", "([JIII)V"⟩ jdk_2529_method_12_code 7 none [] { frames := 2, cells := 0, slots := 0, locals := 54 } #[(.ref b), (.int (0 : Int32)), (.int (0 : Int32)), (.int (4 : Int32))] h0 (fun v h => v = none ∧ Keep h0 h [b] ∧ ∃ z0 z1 z2 z3 : Int64, Ary Z h b .long [(.long z0), (.long z1), (.long z2), (.long z3)] ∧ own_srt [y0, y1, y2, y3] = [z0, z1, z2, z3]) := by
  refine Does.start (plainFor_of_name pn_6) ?_
  intro p e s m below meth c T X
  replace X : Sd _ _ _ _ _ "java/util/DualPivotQuicksort" "sort" _ _ _ _ _ _ _ _ _ _ _ _ _ _ _ _ := X
  refine Wp.cast (g' := mkF m 0 #[.val (.ref b), .val (.int (0 : Int32)), .val (.int (0 : Int32)), .val (.int (4 : Int32)), .unset, .unset, .unset] []) (by first | (simp [entryFrame, mkF, argsToLocals, Value.category, maxLocals]; done) | rfl) ?_
  refine w_iloadN X k2529_12_0 rfl ?_
  refine w_iloadN X k2529_12_1 rfl ?_
  refine w_isub X k2529_12_2 ?_
  refine w_istore X #[.val (.ref b), .val (.int (0 : Int32)), .val (.int (0 : Int32)), .val (.int (4 : Int32)), .val (.int (4 : Int32)), .unset, .unset] k2529_12_3 rfl ?_
  refine w_iloadN X k2529_12_5 rfl ?_
  refine w_iconst X (1 : Int32) k2529_12_6 rfl ?_
  refine w_icmple X k2529_12_7 (fun _ => ?_) (fun hc => absurd hc (by decide))
  refine w_aconstNull X k2529_12_68 ?_
  refine w_aloadN X k2529_12_69 rfl (rfl) ?_
  refine w_iconst X (0 : Int32) k2529_12_70 rfl ?_
  refine w_iloadN X k2529_12_71 rfl ?_
  refine w_iloadN X k2529_12_72 rfl ?_
  refine w_callS X k2529_12_73 (wd_123 hw) (wd_124 hw) (wd_121 hw) (wd_125 hw) (by decide) (argsL := [.null, (.ref b), (.int (0 : Int32)), (.int (0 : Int32)), (.int (4 : Int32))]) (S := []) (m_srt1_4 hw gb Ab) pd_6 rfl rfl rfl (by decide) (Nat.le_of_ble_eq_true rfl) (by decide) (by decide) (fun T h1 v1 L1 X q1 => ?_)
  obtain ⟨rfl, r1⟩ := q1
  show Wp _ _ _ _ (T.setTop (mkF _ _ _ []))
  exact w_retV X k2529_12_76 ⟨rfl, r1⟩ (by decide) (by decide)
theorem m_srt3_4 {l : Launch} {Z : State} {a0 : Array Value} {n0 : Nat} (hw : own_hw a0 Z) {h0 : Heap} {b : Addr} {y0 y1 y2 y3 : Int64} (gb : n0 ≤ b) (Ab : Ary Z h0 b .long [(.long y0), (.long y1), (.long y2), (.long y3)]) :
    Does l Z n0 ⟨"java/util/Arrays", "sort", "([J)V"⟩ jdk_65_method_4_code 1 none [] { frames := 3, cells := 0, slots := 0, locals := 72 } #[(.ref b)] h0 (fun v h => v = none ∧ Keep h0 h [b] ∧ ∃ z0 z1 z2 z3 : Int64, Ary Z h b .long [(.long z0), (.long z1), (.long z2), (.long z3)] ∧ own_srt [y0, y1, y2, y3] = [z0, z1, z2, z3]) := by
  refine Does.start (plainFor_of_name pn_7) ?_
  intro p e s m below meth c T X
  replace X : Sd _ _ _ _ _ "java/util/Arrays" "sort" _ _ _ _ _ _ _ _ _ _ _ _ _ _ _ _ := X
  refine Wp.cast (g' := mkF m 0 #[.val (.ref b)] []) (by first | (simp [entryFrame, mkF, argsToLocals, Value.category, maxLocals]; done) | rfl) ?_
  refine w_aloadN X k65_4_0 rfl (rfl) ?_
  refine w_iconst X (0 : Int32) k65_4_1 rfl ?_
  refine w_iconst X (0 : Int32) k65_4_2 rfl ?_
  refine w_aloadN X k65_4_3 rfl (rfl) ?_
  refine w_arrlen X (4 : Int32) k65_4_4 Ab rfl ?_
  refine w_callS X k65_4_5 (wd_119 hw) (wd_120 hw) (wd_121 hw) (wd_122 hw) (by decide) (argsL := [(.ref b), (.int (0 : Int32)), (.int (0 : Int32)), (.int (4 : Int32))]) (S := []) (m_srt2_4 hw gb Ab) pd_7 rfl rfl rfl (by decide) (Nat.le_of_ble_eq_true rfl) (by decide) (by decide) (fun T h1 v1 L1 X q1 => ?_)
  obtain ⟨rfl, r1⟩ := q1
  show Wp _ _ _ _ (T.setTop (mkF _ _ _ []))
  exact w_retV X k65_4_8 ⟨rfl, r1⟩ (by decide) (by decide)
theorem m_cd_0 {l : Launch} {Z : State} {a0 : Array Value} {n0 : Nat} (hw : own_hw a0 Z) {h0 : Heap} {a ids pr nm sb en ln se ss : Addr} {x0 x1 x2 x3 : Int32}  (hG : own_GB Z h0 n0 a ids pr nm sb en ln se ss (0 : Int32) x0 x1 x2 x3) (hs : own_srt [] = [])  :
    Does l Z n0 ⟨"com/example/flicker/flicker/game/GameBuilder", "checkDistinct", "()V"⟩ prog_7_method_6_code 6 none [] { frames := 4, cells := 1, slots := 0, locals := 84 } #[(.ref a)] h0 (fun v h => v = none ∧ Keep h0 h [a] ∧ ∃ d, Exa Z h a "com/example/flicker/flicker/game/GameBuilder" ∧ Fld Z h a "com/example/flicker/flicker/game/GameBuilder" "vertexCount" "I" (.int (0 : Int32)) ∧ Fld Z h a "com/example/flicker/flicker/game/GameBuilder" "byId" "[J" (.ref d) ∧ Ary Z h d .long []) := by
  refine Does.start (plainFor_of_name pn_5) ?_
  intro p e s m below meth c T X
  replace X : Sd _ _ _ _ _ "com/example/flicker/flicker/game/GameBuilder" "checkDistinct" _ _ _ _ _ _ _ _ _ _ _ _ _ _ _ _ := X
  refine Wp.cast (g' := mkF m 0 #[.val (.ref a), .unset, .unset, .unset, .unset, .unset] []) (by first | (simp [entryFrame, mkF, argsToLocals, Value.category, maxLocals]; done) | rfl) ?_
  obtain ⟨ga, o0, o1, o2, o3, o4, o5, o6, o7, Ea, F_ids, F_priorities, F_names, F_vertexLines, F_setEnd, F_sets, F_vc, F_sl, Fb, En, Ft, Fe, Fc, Es, Fs, Ai, Ip, Ie, Il, Is, It⟩ := hG
  obtain ⟨pr0, pr1, pr2, pr3, A_pr⟩ := Ip
  obtain ⟨en0, en1, en2, en3, A_en⟩ := Ie
  obtain ⟨ln0, ln1, ln2, ln3, A_ln⟩ := Il
  obtain ⟨se0, se1, se2, se3, A_se⟩ := Is
  obtain ⟨ss0, ss1, ss2, ss3, A_ss⟩ := It
  refine w_aloadN X q7_6_0 rfl (rfl) ?_
  refine w_aloadN X q7_6_1 rfl (rfl) ?_
  refine w_getF X q7_6_2 (host := "") (Or.inl (wd_111 hw)) Via.refl F_vc (fun T X => ?_)
  refine w_newarr X q7_6_5 (wd_46 hw) 0 0 (by decide) (by decide) (by decide) (by decide) (by decide) (by decide) (fun T h1 b1 g1 gn1 X E1 A1 => ?_)
  replace A1 : Ary Z h1 b1 .long [] := A1
  have sz_b1 : h0.size ≤ b1 := Nat.le_trans (Keep.refl h0 [a]).1 (Nat.le_of_eq g1.symm)
  have K1 : Keep h0 h1 [a] := (Keep.refl h0 [a]).ext E1
  have f2 := (Ea.ext E1)
  have f3 := (Fb.ext E1)
  refine w_putF X q7_6_7 (host := "") (Or.inl (wd_113 hw)) Via.refl f3 f2 (Or.inl (wd_114 hw)) (wd_7 hw) (ty := (.array .long)) (by decide) rfl rfl ga (fun T h2 X W2 => ?_)
  have f4 := f3.same W2
  have K5 : Keep h0 h2 [a] := K1.wr W2 (Or.inl (List.mem_of_getElem? (i := 0) rfl))
  refine w_iconst X (0 : Int32) q7_6_10 rfl ?_
  refine w_istoreN X #[.val (.ref a), .val (.int (0 : Int32)), .unset, .unset, .unset, .unset] q7_6_11 rfl ?_
  refine w_iloadN X q7_6_12 rfl ?_
  refine w_aloadN X q7_6_13 rfl (rfl) ?_
  have f6 := ((F_vc.ext E1).other W2 (Or.inr (slot_ne (Or.inl (wd_112 hw)) (Or.inl (wd_114 hw)) (by decide) (t := .int) (t' := (.array .long)) (by decide) (by decide))))
  refine w_getF X q7_6_14 (host := "") (Or.inl (wd_111 hw)) Via.refl f6 (fun T X => ?_)
  refine w_icmpge X q7_6_17 (fun _ => ?_) (fun hc => absurd hc Int32.lt_irrefl)
  refine w_aloadN X q7_6_45 rfl (rfl) ?_
  refine w_getF X q7_6_46 (host := "") (Or.inl (wd_113 hw)) Via.refl f4 (fun T X => ?_)
  have f7 := (A1.other W2 (Ne.symm (Nat.ne_of_lt (Nat.lt_of_lt_of_le Ea.lt (Nat.le_of_eq g1.symm)))))
  refine w_callS X q7_6_49 (wd_115 hw) (wd_116 hw) (wd_117 hw) (wd_118 hw) (by decide) (argsL := [(.ref b1)]) (S := []) (m_srt3_0 hw gn1 f7) pd_8 rfl rfl rfl (by decide) (Nat.le_of_ble_eq_true rfl) (by decide) (by decide) (fun T h3 v3 L3 X q3 => ?_)
  obtain ⟨rfl, Kc3, At3, es3⟩ := q3
  have K8 : Keep h0 h3 [a] := K5.trans Kc3 (fun x hx => by cases List.mem_singleton.mp hx; exact (Or.inr sz_b1))
  show Wp _ _ _ _ (T.setTop (mkF _ _ _ []))
  refine w_iconst X (-1 : Int32) q7_6_52 rfl ?_
  refine w_istoreN X #[.val (.ref a), .val (.int (-1 : Int32)), .unset, .unset, .unset, .unset] q7_6_53 rfl ?_
  refine w_iconst X (-1 : Int32) q7_6_54 rfl ?_
  refine w_istoreN X #[.val (.ref a), .val (.int (-1 : Int32)), .val (.int (-1 : Int32)), .unset, .unset, .unset] q7_6_55 rfl ?_
  refine w_iconst X (1 : Int32) q7_6_56 rfl ?_
  refine w_istoreN X #[.val (.ref a), .val (.int (-1 : Int32)), .val (.int (-1 : Int32)), .val (.int (1 : Int32)), .unset, .unset] q7_6_57 rfl ?_
  refine w_iloadN X q7_6_58 rfl ?_
  refine w_aloadN X q7_6_59 rfl (rfl) ?_
  have f9 := (f6.keep Kc3 (by simp only [List.mem_cons, List.not_mem_nil, or_false]; exact (Nat.ne_of_lt (Nat.lt_of_lt_of_le Ea.lt (Nat.le_of_eq g1.symm)))))
  refine w_getF X q7_6_60 (host := "") (Or.inl (wd_111 hw)) Via.refl f9 (fun T X => ?_)
  refine w_icmpge X q7_6_63 (fun _ => ?_) (fun hc => absurd hc (by decide))
  refine w_iloadN X q7_6_140 rfl ?_
  refine w_iflt X q7_6_141 (fun _ => ?_) (fun hc => absurd (by decide) hc)
  have f10 := ((f2.wr W2).keep Kc3)
  have f11 := (f4.keep Kc3 (by simp only [List.mem_cons, List.not_mem_nil, or_false]; exact (Nat.ne_of_lt (Nat.lt_of_lt_of_le Ea.lt (Nat.le_of_eq g1.symm)))))
  exact w_retV X q7_6_179 ⟨rfl, K8, _, f10, f9, f11, At3⟩ (by decide) (by decide)
theorem m_cd_1 {l : Launch} {Z : State} {a0 : Array Value} {n0 : Nat} (hw : own_hw a0 Z) {h0 : Heap} {a ids pr nm sb en ln se ss : Addr} {x0 x1 x2 x3 : Int32} {z0 : Int64} (hG : own_GB Z h0 n0 a ids pr nm sb en ln se ss (1 : Int32) x0 x1 x2 x3) (hs : own_srt [own_key x0 (0 : Int64)] = [z0])  :
    Does l Z n0 ⟨"com/example/flicker/flicker/game/GameBuilder", "checkDistinct", "()V"⟩ prog_7_method_6_code 6 none [] { frames := 4, cells := 1, slots := 1, locals := 84 } #[(.ref a)] h0 (fun v h => v = none ∧ Keep h0 h [a] ∧ ∃ d, Exa Z h a "com/example/flicker/flicker/game/GameBuilder" ∧ Fld Z h a "com/example/flicker/flicker/game/GameBuilder" "vertexCount" "I" (.int (1 : Int32)) ∧ Fld Z h a "com/example/flicker/flicker/game/GameBuilder" "byId" "[J" (.ref d) ∧ Ary Z h d .long [(.long z0)]) := by
  refine Does.start (plainFor_of_name pn_5) ?_
  intro p e s m below meth c T X
  replace X : Sd _ _ _ _ _ "com/example/flicker/flicker/game/GameBuilder" "checkDistinct" _ _ _ _ _ _ _ _ _ _ _ _ _ _ _ _ := X
  refine Wp.cast (g' := mkF m 0 #[.val (.ref a), .unset, .unset, .unset, .unset, .unset] []) (by first | (simp [entryFrame, mkF, argsToLocals, Value.category, maxLocals]; done) | rfl) ?_
  obtain ⟨ga, o0, o1, o2, o3, o4, o5, o6, o7, Ea, F_ids, F_priorities, F_names, F_vertexLines, F_setEnd, F_sets, F_vc, F_sl, Fb, En, Ft, Fe, Fc, Es, Fs, Ai, Ip, Ie, Il, Is, It⟩ := hG
  obtain ⟨pr0, pr1, pr2, pr3, A_pr⟩ := Ip
  obtain ⟨en0, en1, en2, en3, A_en⟩ := Ie
  obtain ⟨ln0, ln1, ln2, ln3, A_ln⟩ := Il
  obtain ⟨se0, se1, se2, se3, A_se⟩ := Is
  obtain ⟨ss0, ss1, ss2, ss3, A_ss⟩ := It
  refine w_aloadN X q7_6_0 rfl (rfl) ?_
  refine w_aloadN X q7_6_1 rfl (rfl) ?_
  refine w_getF X q7_6_2 (host := "") (Or.inl (wd_111 hw)) Via.refl F_vc (fun T X => ?_)
  refine w_newarr X q7_6_5 (wd_46 hw) 1 1 (by decide) (by decide) (by decide) (by decide) (by decide) (by decide) (fun T h1 b1 g1 gn1 X E1 A1 => ?_)
  replace A1 : Ary Z h1 b1 .long [(.long (0 : Int64))] := A1
  have sz_b1 : h0.size ≤ b1 := Nat.le_trans (Keep.refl h0 [a]).1 (Nat.le_of_eq g1.symm)
  have K1 : Keep h0 h1 [a] := (Keep.refl h0 [a]).ext E1
  have f2 := (Ea.ext E1)
  have f3 := (Fb.ext E1)
  refine w_putF X q7_6_7 (host := "") (Or.inl (wd_113 hw)) Via.refl f3 f2 (Or.inl (wd_114 hw)) (wd_7 hw) (ty := (.array .long)) (by decide) rfl rfl ga (fun T h2 X W2 => ?_)
  have f4 := f3.same W2
  have K5 : Keep h0 h2 [a] := K1.wr W2 (Or.inl (List.mem_of_getElem? (i := 0) rfl))
  refine w_iconst X (0 : Int32) q7_6_10 rfl ?_
  refine w_istoreN X #[.val (.ref a), .val (.int (0 : Int32)), .unset, .unset, .unset, .unset] q7_6_11 rfl ?_
  refine w_iloadN X q7_6_12 rfl ?_
  refine w_aloadN X q7_6_13 rfl (rfl) ?_
  have f6 := ((F_vc.ext E1).other W2 (Or.inr (slot_ne (Or.inl (wd_112 hw)) (Or.inl (wd_114 hw)) (by decide) (t := .int) (t' := (.array .long)) (by decide) (by decide))))
  refine w_getF X q7_6_14 (host := "") (Or.inl (wd_111 hw)) Via.refl f6 (fun T X => ?_)
  refine w_icmpge X q7_6_17 (fun hc => absurd (by decide) hc) (fun _ => ?_)
  refine w_aloadN X q7_6_20 rfl (rfl) ?_
  refine w_getF X q7_6_21 (host := "") (Or.inl (wd_113 hw)) Via.refl f4 (fun T X => ?_)
  refine w_iloadN X q7_6_24 rfl ?_
  refine w_aloadN X q7_6_25 rfl (rfl) ?_
  have f7 := ((F_ids.ext E1).other W2 (Or.inr (slot_ne (Or.inl (wd_24 hw)) (Or.inl (wd_114 hw)) (by decide) (t := (.array .int)) (t' := (.array .long)) (by decide) (by decide))))
  refine w_getF X q7_6_26 (host := "") (Or.inl (wd_23 hw)) Via.refl f7 (fun T X => ?_)
  refine w_iloadN X q7_6_29 rfl ?_
  have f8 := ((Ai.ext E1).other W2 (Ne.symm (Nat.ne_of_lt o0)))
  refine w_iaload X q7_6_30 f8 (by decide) rfl ?_
  refine w_i2l X q7_6_31 ?_
  refine w_bipush X (32 : Int32) q7_6_32 rfl ?_
  refine w_lshl X q7_6_34 ?_
  refine w_iloadN X q7_6_35 rfl ?_
  refine w_i2l X q7_6_36 ?_
  refine w_lor X q7_6_37 ?_
  have f9 := (A1.other W2 (Ne.symm (Nat.ne_of_lt (Nat.lt_of_lt_of_le Ea.lt (Nat.le_of_eq g1.symm)))))
  refine w_lastore X q7_6_38 f9 (by decide) rfl gn1 (.long (((x0.toInt64) <<< ((32 : Int32) &&& 0x3f).toInt64) ||| (0 : Int64))) rfl [(.long (((x0.toInt64) <<< ((32 : Int32) &&& 0x3f).toInt64) ||| (0 : Int64)))] rfl (fun T h3 X W3 A3 => ?_)
  have K10 : Keep h0 h3 [a] := K5.wr W3 (Or.inr sz_b1)
  refine w_iinc X (1 : Int32) #[.val (.ref a), .val (.int (1 : Int32)), .unset, .unset, .unset, .unset] q7_6_39 rfl rfl rfl ?_
  refine w_goto X q7_6_42 ?_
  refine w_iloadN X q7_6_12 rfl ?_
  refine w_aloadN X q7_6_13 rfl (rfl) ?_
  have f11 := (f6.other W3 (Or.inl (Nat.ne_of_lt (Nat.lt_of_lt_of_le Ea.lt (Nat.le_of_eq g1.symm)))))
  refine w_getF X q7_6_14 (host := "") (Or.inl (wd_111 hw)) Via.refl f11 (fun T X => ?_)
  refine w_icmpge X q7_6_17 (fun _ => ?_) (fun hc => absurd hc Int32.lt_irrefl)
  refine w_aloadN X q7_6_45 rfl (rfl) ?_
  have f12 := (f4.other W3 (Or.inl (Nat.ne_of_lt (Nat.lt_of_lt_of_le Ea.lt (Nat.le_of_eq g1.symm)))))
  refine w_getF X q7_6_46 (host := "") (Or.inl (wd_113 hw)) Via.refl f12 (fun T X => ?_)
  refine w_callS X q7_6_49 (wd_115 hw) (wd_116 hw) (wd_117 hw) (wd_118 hw) (by decide) (argsL := [(.ref b1)]) (S := []) (m_srt3_1 hw gn1 A3) pd_8 rfl rfl rfl (by decide) (Nat.le_of_ble_eq_true rfl) (by decide) (by decide) (fun T h4 v4 L4 X q4 => ?_)
  obtain ⟨rfl, Kc4, w4_0, At4, es4⟩ := q4
  have K13 : Keep h0 h4 [a] := K10.trans Kc4 (fun x hx => by cases List.mem_singleton.mp hx; exact (Or.inr sz_b1))
  have e4 := (show own_srt [own_key x0 (0 : Int64)] = _ from es4).symm.trans hs
  simp only [List.cons.injEq, and_true] at e4
  subst e4
  show Wp _ _ _ _ (T.setTop (mkF _ _ _ []))
  refine w_iconst X (-1 : Int32) q7_6_52 rfl ?_
  refine w_istoreN X #[.val (.ref a), .val (.int (-1 : Int32)), .unset, .unset, .unset, .unset] q7_6_53 rfl ?_
  refine w_iconst X (-1 : Int32) q7_6_54 rfl ?_
  refine w_istoreN X #[.val (.ref a), .val (.int (-1 : Int32)), .val (.int (-1 : Int32)), .unset, .unset, .unset] q7_6_55 rfl ?_
  refine w_iconst X (1 : Int32) q7_6_56 rfl ?_
  refine w_istoreN X #[.val (.ref a), .val (.int (-1 : Int32)), .val (.int (-1 : Int32)), .val (.int (1 : Int32)), .unset, .unset] q7_6_57 rfl ?_
  refine w_iloadN X q7_6_58 rfl ?_
  refine w_aloadN X q7_6_59 rfl (rfl) ?_
  have f14 := (f11.keep Kc4 (by simp only [List.mem_cons, List.not_mem_nil, or_false]; exact (Nat.ne_of_lt (Nat.lt_of_lt_of_le Ea.lt (Nat.le_of_eq g1.symm)))))
  refine w_getF X q7_6_60 (host := "") (Or.inl (wd_111 hw)) Via.refl f14 (fun T X => ?_)
  refine w_icmpge X q7_6_63 (fun _ => ?_) (fun hc => absurd hc Int32.lt_irrefl)
  refine w_iloadN X q7_6_140 rfl ?_
  refine w_iflt X q7_6_141 (fun _ => ?_) (fun hc => absurd (by decide) hc)
  have f15 := (((f2.wr W2).wr W3).keep Kc4)
  have f16 := (f12.keep Kc4 (by simp only [List.mem_cons, List.not_mem_nil, or_false]; exact (Nat.ne_of_lt (Nat.lt_of_lt_of_le Ea.lt (Nat.le_of_eq g1.symm)))))
  exact w_retV X q7_6_179 ⟨rfl, K13, _, f15, f14, f16, At4⟩ (by decide) (by decide)
theorem m_cd_2 {l : Launch} {Z : State} {a0 : Array Value} {n0 : Nat} (hw : own_hw a0 Z) {h0 : Heap} {a ids pr nm sb en ln se ss : Addr} {x0 x1 x2 x3 : Int32} {z0 z1 : Int64} (hG : own_GB Z h0 n0 a ids pr nm sb en ln se ss (2 : Int32) x0 x1 x2 x3) (hs : own_srt [own_key x0 (0 : Int64), own_key x1 (1 : Int64)] = [z0, z1]) (hne1 : ¬ own_hi z1 = own_hi z0) :
    Does l Z n0 ⟨"com/example/flicker/flicker/game/GameBuilder", "checkDistinct", "()V"⟩ prog_7_method_6_code 6 none [] { frames := 4, cells := 1, slots := 2, locals := 84 } #[(.ref a)] h0 (fun v h => v = none ∧ Keep h0 h [a] ∧ ∃ d, Exa Z h a "com/example/flicker/flicker/game/GameBuilder" ∧ Fld Z h a "com/example/flicker/flicker/game/GameBuilder" "vertexCount" "I" (.int (2 : Int32)) ∧ Fld Z h a "com/example/flicker/flicker/game/GameBuilder" "byId" "[J" (.ref d) ∧ Ary Z h d .long [(.long z0), (.long z1)]) := by
  refine Does.start (plainFor_of_name pn_5) ?_
  intro p e s m below meth c T X
  replace X : Sd _ _ _ _ _ "com/example/flicker/flicker/game/GameBuilder" "checkDistinct" _ _ _ _ _ _ _ _ _ _ _ _ _ _ _ _ := X
  refine Wp.cast (g' := mkF m 0 #[.val (.ref a), .unset, .unset, .unset, .unset, .unset] []) (by first | (simp [entryFrame, mkF, argsToLocals, Value.category, maxLocals]; done) | rfl) ?_
  obtain ⟨ga, o0, o1, o2, o3, o4, o5, o6, o7, Ea, F_ids, F_priorities, F_names, F_vertexLines, F_setEnd, F_sets, F_vc, F_sl, Fb, En, Ft, Fe, Fc, Es, Fs, Ai, Ip, Ie, Il, Is, It⟩ := hG
  obtain ⟨pr0, pr1, pr2, pr3, A_pr⟩ := Ip
  obtain ⟨en0, en1, en2, en3, A_en⟩ := Ie
  obtain ⟨ln0, ln1, ln2, ln3, A_ln⟩ := Il
  obtain ⟨se0, se1, se2, se3, A_se⟩ := Is
  obtain ⟨ss0, ss1, ss2, ss3, A_ss⟩ := It
  refine w_aloadN X q7_6_0 rfl (rfl) ?_
  refine w_aloadN X q7_6_1 rfl (rfl) ?_
  refine w_getF X q7_6_2 (host := "") (Or.inl (wd_111 hw)) Via.refl F_vc (fun T X => ?_)
  refine w_newarr X q7_6_5 (wd_46 hw) 2 2 (by decide) (by decide) (by decide) (by decide) (by decide) (by decide) (fun T h1 b1 g1 gn1 X E1 A1 => ?_)
  replace A1 : Ary Z h1 b1 .long [(.long (0 : Int64)), (.long (0 : Int64))] := A1
  have sz_b1 : h0.size ≤ b1 := Nat.le_trans (Keep.refl h0 [a]).1 (Nat.le_of_eq g1.symm)
  have K1 : Keep h0 h1 [a] := (Keep.refl h0 [a]).ext E1
  have f2 := (Ea.ext E1)
  have f3 := (Fb.ext E1)
  refine w_putF X q7_6_7 (host := "") (Or.inl (wd_113 hw)) Via.refl f3 f2 (Or.inl (wd_114 hw)) (wd_7 hw) (ty := (.array .long)) (by decide) rfl rfl ga (fun T h2 X W2 => ?_)
  have f4 := f3.same W2
  have K5 : Keep h0 h2 [a] := K1.wr W2 (Or.inl (List.mem_of_getElem? (i := 0) rfl))
  refine w_iconst X (0 : Int32) q7_6_10 rfl ?_
  refine w_istoreN X #[.val (.ref a), .val (.int (0 : Int32)), .unset, .unset, .unset, .unset] q7_6_11 rfl ?_
  refine w_iloadN X q7_6_12 rfl ?_
  refine w_aloadN X q7_6_13 rfl (rfl) ?_
  have f6 := ((F_vc.ext E1).other W2 (Or.inr (slot_ne (Or.inl (wd_112 hw)) (Or.inl (wd_114 hw)) (by decide) (t := .int) (t' := (.array .long)) (by decide) (by decide))))
  refine w_getF X q7_6_14 (host := "") (Or.inl (wd_111 hw)) Via.refl f6 (fun T X => ?_)
  refine w_icmpge X q7_6_17 (fun hc => absurd (by decide) hc) (fun _ => ?_)
  refine w_aloadN X q7_6_20 rfl (rfl) ?_
  refine w_getF X q7_6_21 (host := "") (Or.inl (wd_113 hw)) Via.refl f4 (fun T X => ?_)
  refine w_iloadN X q7_6_24 rfl ?_
  refine w_aloadN X q7_6_25 rfl (rfl) ?_
  have f7 := ((F_ids.ext E1).other W2 (Or.inr (slot_ne (Or.inl (wd_24 hw)) (Or.inl (wd_114 hw)) (by decide) (t := (.array .int)) (t' := (.array .long)) (by decide) (by decide))))
  refine w_getF X q7_6_26 (host := "") (Or.inl (wd_23 hw)) Via.refl f7 (fun T X => ?_)
  refine w_iloadN X q7_6_29 rfl ?_
  have f8 := ((Ai.ext E1).other W2 (Ne.symm (Nat.ne_of_lt o0)))
  refine w_iaload X q7_6_30 f8 (by decide) rfl ?_
  refine w_i2l X q7_6_31 ?_
  refine w_bipush X (32 : Int32) q7_6_32 rfl ?_
  refine w_lshl X q7_6_34 ?_
  refine w_iloadN X q7_6_35 rfl ?_
  refine w_i2l X q7_6_36 ?_
  refine w_lor X q7_6_37 ?_
  have f9 := (A1.other W2 (Ne.symm (Nat.ne_of_lt (Nat.lt_of_lt_of_le Ea.lt (Nat.le_of_eq g1.symm)))))
  refine w_lastore X q7_6_38 f9 (by decide) rfl gn1 (.long (((x0.toInt64) <<< ((32 : Int32) &&& 0x3f).toInt64) ||| (0 : Int64))) rfl [(.long (((x0.toInt64) <<< ((32 : Int32) &&& 0x3f).toInt64) ||| (0 : Int64))), (.long (0 : Int64))] rfl (fun T h3 X W3 A3 => ?_)
  have K10 : Keep h0 h3 [a] := K5.wr W3 (Or.inr sz_b1)
  refine w_iinc X (1 : Int32) #[.val (.ref a), .val (.int (1 : Int32)), .unset, .unset, .unset, .unset] q7_6_39 rfl rfl rfl ?_
  refine w_goto X q7_6_42 ?_
  refine w_iloadN X q7_6_12 rfl ?_
  refine w_aloadN X q7_6_13 rfl (rfl) ?_
  have f11 := (f6.other W3 (Or.inl (Nat.ne_of_lt (Nat.lt_of_lt_of_le Ea.lt (Nat.le_of_eq g1.symm)))))
  refine w_getF X q7_6_14 (host := "") (Or.inl (wd_111 hw)) Via.refl f11 (fun T X => ?_)
  refine w_icmpge X q7_6_17 (fun hc => absurd (by decide) hc) (fun _ => ?_)
  refine w_aloadN X q7_6_20 rfl (rfl) ?_
  have f12 := (f4.other W3 (Or.inl (Nat.ne_of_lt (Nat.lt_of_lt_of_le Ea.lt (Nat.le_of_eq g1.symm)))))
  refine w_getF X q7_6_21 (host := "") (Or.inl (wd_113 hw)) Via.refl f12 (fun T X => ?_)
  refine w_iloadN X q7_6_24 rfl ?_
  refine w_aloadN X q7_6_25 rfl (rfl) ?_
  have f13 := (f7.other W3 (Or.inl (Nat.ne_of_lt (Nat.lt_of_lt_of_le Ea.lt (Nat.le_of_eq g1.symm)))))
  refine w_getF X q7_6_26 (host := "") (Or.inl (wd_23 hw)) Via.refl f13 (fun T X => ?_)
  refine w_iloadN X q7_6_29 rfl ?_
  have f14 := (f8.other W3 (Nat.ne_of_lt (Nat.lt_of_lt_of_le Ai.lt (Nat.le_of_eq g1.symm))))
  refine w_iaload X q7_6_30 f14 (by decide) rfl ?_
  refine w_i2l X q7_6_31 ?_
  refine w_bipush X (32 : Int32) q7_6_32 rfl ?_
  refine w_lshl X q7_6_34 ?_
  refine w_iloadN X q7_6_35 rfl ?_
  refine w_i2l X q7_6_36 ?_
  refine w_lor X q7_6_37 ?_
  refine w_lastore X q7_6_38 A3 (by decide) rfl gn1 (.long (((x1.toInt64) <<< ((32 : Int32) &&& 0x3f).toInt64) ||| (1 : Int64))) rfl [(.long (((x0.toInt64) <<< ((32 : Int32) &&& 0x3f).toInt64) ||| (0 : Int64))), (.long (((x1.toInt64) <<< ((32 : Int32) &&& 0x3f).toInt64) ||| (1 : Int64)))] rfl (fun T h4 X W4 A4 => ?_)
  have K15 : Keep h0 h4 [a] := K10.wr W4 (Or.inr sz_b1)
  refine w_iinc X (1 : Int32) #[.val (.ref a), .val (.int (2 : Int32)), .unset, .unset, .unset, .unset] q7_6_39 rfl rfl rfl ?_
  refine w_goto X q7_6_42 ?_
  refine w_iloadN X q7_6_12 rfl ?_
  refine w_aloadN X q7_6_13 rfl (rfl) ?_
  have f16 := (f11.other W4 (Or.inl (Nat.ne_of_lt (Nat.lt_of_lt_of_le Ea.lt (Nat.le_of_eq g1.symm)))))
  refine w_getF X q7_6_14 (host := "") (Or.inl (wd_111 hw)) Via.refl f16 (fun T X => ?_)
  refine w_icmpge X q7_6_17 (fun _ => ?_) (fun hc => absurd hc Int32.lt_irrefl)
  refine w_aloadN X q7_6_45 rfl (rfl) ?_
  have f17 := (f12.other W4 (Or.inl (Nat.ne_of_lt (Nat.lt_of_lt_of_le Ea.lt (Nat.le_of_eq g1.symm)))))
  refine w_getF X q7_6_46 (host := "") (Or.inl (wd_113 hw)) Via.refl f17 (fun T X => ?_)
  refine w_callS X q7_6_49 (wd_115 hw) (wd_116 hw) (wd_117 hw) (wd_118 hw) (by decide) (argsL := [(.ref b1)]) (S := []) (m_srt3_2 hw gn1 A4) pd_8 rfl rfl rfl (by decide) (Nat.le_of_ble_eq_true rfl) (by decide) (by decide) (fun T h5 v5 L5 X q5 => ?_)
  obtain ⟨rfl, Kc5, w5_0, w5_1, At5, es5⟩ := q5
  have K18 : Keep h0 h5 [a] := K15.trans Kc5 (fun x hx => by cases List.mem_singleton.mp hx; exact (Or.inr sz_b1))
  have e5 := (show own_srt [own_key x0 (0 : Int64), own_key x1 (1 : Int64)] = _ from es5).symm.trans hs
  simp only [List.cons.injEq, and_true] at e5
  obtain ⟨rfl, rfl⟩ := e5
  show Wp _ _ _ _ (T.setTop (mkF _ _ _ []))
  refine w_iconst X (-1 : Int32) q7_6_52 rfl ?_
  refine w_istoreN X #[.val (.ref a), .val (.int (-1 : Int32)), .unset, .unset, .unset, .unset] q7_6_53 rfl ?_
  refine w_iconst X (-1 : Int32) q7_6_54 rfl ?_
  refine w_istoreN X #[.val (.ref a), .val (.int (-1 : Int32)), .val (.int (-1 : Int32)), .unset, .unset, .unset] q7_6_55 rfl ?_
  refine w_iconst X (1 : Int32) q7_6_56 rfl ?_
  refine w_istoreN X #[.val (.ref a), .val (.int (-1 : Int32)), .val (.int (-1 : Int32)), .val (.int (1 : Int32)), .unset, .unset] q7_6_57 rfl ?_
  refine w_iloadN X q7_6_58 rfl ?_
  refine w_aloadN X q7_6_59 rfl (rfl) ?_
  have f19 := (f16.keep Kc5 (by simp only [List.mem_cons, List.not_mem_nil, or_false]; exact (Nat.ne_of_lt (Nat.lt_of_lt_of_le Ea.lt (Nat.le_of_eq g1.symm)))))
  refine w_getF X q7_6_60 (host := "") (Or.inl (wd_111 hw)) Via.refl f19 (fun T X => ?_)
  refine w_icmpge X q7_6_63 (fun hc => absurd (by decide) hc) (fun _ => ?_)
  refine w_aloadN X q7_6_66 rfl (rfl) ?_
  have f20 := (f17.keep Kc5 (by simp only [List.mem_cons, List.not_mem_nil, or_false]; exact (Nat.ne_of_lt (Nat.lt_of_lt_of_le Ea.lt (Nat.le_of_eq g1.symm)))))
  refine w_getF X q7_6_67 (host := "") (Or.inl (wd_113 hw)) Via.refl f20 (fun T X => ?_)
  refine w_iloadN X q7_6_70 rfl ?_
  refine w_laload X q7_6_71 At5 (by decide) rfl ?_
  refine w_l2i X q7_6_72 ?_
  refine w_istore X #[.val (.ref a), .val (.int (-1 : Int32)), .val (.int (-1 : Int32)), .val (.int (1 : Int32)), .val (.int (w5_1.toInt32)), .unset] q7_6_73 rfl ?_
  refine w_aloadN X q7_6_75 rfl (rfl) ?_
  refine w_getF X q7_6_76 (host := "") (Or.inl (wd_113 hw)) Via.refl f20 (fun T X => ?_)
  refine w_iloadN X q7_6_79 rfl ?_
  refine w_laload X q7_6_80 At5 (by decide) rfl ?_
  refine w_bipush X (32 : Int32) q7_6_81 rfl ?_
  refine w_lushr X q7_6_83 ?_
  refine w_aloadN X q7_6_84 rfl (rfl) ?_
  refine w_getF X q7_6_85 (host := "") (Or.inl (wd_113 hw)) Via.refl f20 (fun T X => ?_)
  refine w_iloadN X q7_6_88 rfl ?_
  refine w_iconst X (1 : Int32) q7_6_89 rfl ?_
  refine w_isub X q7_6_90 ?_
  refine w_laload X q7_6_91 At5 (by decide) rfl ?_
  refine w_bipush X (32 : Int32) q7_6_92 rfl ?_
  refine w_lushr X q7_6_94 ?_
  refine w_lne X q7_6_95 q7_6_96 (fun _ => ?_) (fun hc => absurd hc hne1)
  refine w_iconst X (0 : Int32) q7_6_103 rfl ?_
  refine w_istore X #[.val (.ref a), .val (.int (-1 : Int32)), .val (.int (-1 : Int32)), .val (.int (1 : Int32)), .val (.int (w5_1.toInt32)), .val (.int (0 : Int32))] q7_6_104 rfl ?_
  refine w_iload X q7_6_106 rfl ?_
  refine w_ifeq X q7_6_108 (fun _ => ?_) (fun hc => absurd rfl hc)
  refine w_iinc X (1 : Int32) #[.val (.ref a), .val (.int (-1 : Int32)), .val (.int (-1 : Int32)), .val (.int (2 : Int32)), .val (.int (w5_1.toInt32)), .val (.int (0 : Int32))] q7_6_134 rfl rfl rfl ?_
  refine w_goto X q7_6_137 ?_
  refine w_iloadN X q7_6_58 rfl ?_
  refine w_aloadN X q7_6_59 rfl (rfl) ?_
  refine w_getF X q7_6_60 (host := "") (Or.inl (wd_111 hw)) Via.refl f19 (fun T X => ?_)
  refine w_icmpge X q7_6_63 (fun _ => ?_) (fun hc => absurd hc Int32.lt_irrefl)
  refine w_iloadN X q7_6_140 rfl ?_
  refine w_iflt X q7_6_141 (fun _ => ?_) (fun hc => absurd (by decide) hc)
  have f21 := ((((f2.wr W2).wr W3).wr W4).keep Kc5)
  exact w_retV X q7_6_179 ⟨rfl, K18, _, f21, f19, f20, At5⟩ (by decide) (by decide)
theorem m_cd_3 {l : Launch} {Z : State} {a0 : Array Value} {n0 : Nat} (hw : own_hw a0 Z) {h0 : Heap} {a ids pr nm sb en ln se ss : Addr} {x0 x1 x2 x3 : Int32} {z0 z1 z2 : Int64} (hG : own_GB Z h0 n0 a ids pr nm sb en ln se ss (3 : Int32) x0 x1 x2 x3) (hs : own_srt [own_key x0 (0 : Int64), own_key x1 (1 : Int64), own_key x2 (2 : Int64)] = [z0, z1, z2]) (hne1 : ¬ own_hi z1 = own_hi z0) (hne2 : ¬ own_hi z2 = own_hi z1) :
    Does l Z n0 ⟨"com/example/flicker/flicker/game/GameBuilder", "checkDistinct", "()V"⟩ prog_7_method_6_code 6 none [] { frames := 4, cells := 1, slots := 3, locals := 84 } #[(.ref a)] h0 (fun v h => v = none ∧ Keep h0 h [a] ∧ ∃ d, Exa Z h a "com/example/flicker/flicker/game/GameBuilder" ∧ Fld Z h a "com/example/flicker/flicker/game/GameBuilder" "vertexCount" "I" (.int (3 : Int32)) ∧ Fld Z h a "com/example/flicker/flicker/game/GameBuilder" "byId" "[J" (.ref d) ∧ Ary Z h d .long [(.long z0), (.long z1), (.long z2)]) := by
  refine Does.start (plainFor_of_name pn_5) ?_
  intro p e s m below meth c T X
  replace X : Sd _ _ _ _ _ "com/example/flicker/flicker/game/GameBuilder" "checkDistinct" _ _ _ _ _ _ _ _ _ _ _ _ _ _ _ _ := X
  refine Wp.cast (g' := mkF m 0 #[.val (.ref a), .unset, .unset, .unset, .unset, .unset] []) (by first | (simp [entryFrame, mkF, argsToLocals, Value.category, maxLocals]; done) | rfl) ?_
  obtain ⟨ga, o0, o1, o2, o3, o4, o5, o6, o7, Ea, F_ids, F_priorities, F_names, F_vertexLines, F_setEnd, F_sets, F_vc, F_sl, Fb, En, Ft, Fe, Fc, Es, Fs, Ai, Ip, Ie, Il, Is, It⟩ := hG
  obtain ⟨pr0, pr1, pr2, pr3, A_pr⟩ := Ip
  obtain ⟨en0, en1, en2, en3, A_en⟩ := Ie
  obtain ⟨ln0, ln1, ln2, ln3, A_ln⟩ := Il
  obtain ⟨se0, se1, se2, se3, A_se⟩ := Is
  obtain ⟨ss0, ss1, ss2, ss3, A_ss⟩ := It
  refine w_aloadN X q7_6_0 rfl (rfl) ?_
  refine w_aloadN X q7_6_1 rfl (rfl) ?_
  refine w_getF X q7_6_2 (host := "") (Or.inl (wd_111 hw)) Via.refl F_vc (fun T X => ?_)
  refine w_newarr X q7_6_5 (wd_46 hw) 3 3 (by decide) (by decide) (by decide) (by decide) (by decide) (by decide) (fun T h1 b1 g1 gn1 X E1 A1 => ?_)
  replace A1 : Ary Z h1 b1 .long [(.long (0 : Int64)), (.long (0 : Int64)), (.long (0 : Int64))] := A1
  have sz_b1 : h0.size ≤ b1 := Nat.le_trans (Keep.refl h0 [a]).1 (Nat.le_of_eq g1.symm)
  have K1 : Keep h0 h1 [a] := (Keep.refl h0 [a]).ext E1
  have f2 := (Ea.ext E1)
  have f3 := (Fb.ext E1)
  refine w_putF X q7_6_7 (host := "") (Or.inl (wd_113 hw)) Via.refl f3 f2 (Or.inl (wd_114 hw)) (wd_7 hw) (ty := (.array .long)) (by decide) rfl rfl ga (fun T h2 X W2 => ?_)
  have f4 := f3.same W2
  have K5 : Keep h0 h2 [a] := K1.wr W2 (Or.inl (List.mem_of_getElem? (i := 0) rfl))
  refine w_iconst X (0 : Int32) q7_6_10 rfl ?_
  refine w_istoreN X #[.val (.ref a), .val (.int (0 : Int32)), .unset, .unset, .unset, .unset] q7_6_11 rfl ?_
  refine w_iloadN X q7_6_12 rfl ?_
  refine w_aloadN X q7_6_13 rfl (rfl) ?_
  have f6 := ((F_vc.ext E1).other W2 (Or.inr (slot_ne (Or.inl (wd_112 hw)) (Or.inl (wd_114 hw)) (by decide) (t := .int) (t' := (.array .long)) (by decide) (by decide))))
  refine w_getF X q7_6_14 (host := "") (Or.inl (wd_111 hw)) Via.refl f6 (fun T X => ?_)
  refine w_icmpge X q7_6_17 (fun hc => absurd (by decide) hc) (fun _ => ?_)
  refine w_aloadN X q7_6_20 rfl (rfl) ?_
  refine w_getF X q7_6_21 (host := "") (Or.inl (wd_113 hw)) Via.refl f4 (fun T X => ?_)
  refine w_iloadN X q7_6_24 rfl ?_
  refine w_aloadN X q7_6_25 rfl (rfl) ?_
  have f7 := ((F_ids.ext E1).other W2 (Or.inr (slot_ne (Or.inl (wd_24 hw)) (Or.inl (wd_114 hw)) (by decide) (t := (.array .int)) (t' := (.array .long)) (by decide) (by decide))))
  refine w_getF X q7_6_26 (host := "") (Or.inl (wd_23 hw)) Via.refl f7 (fun T X => ?_)
  refine w_iloadN X q7_6_29 rfl ?_
  have f8 := ((Ai.ext E1).other W2 (Ne.symm (Nat.ne_of_lt o0)))
  refine w_iaload X q7_6_30 f8 (by decide) rfl ?_
  refine w_i2l X q7_6_31 ?_
  refine w_bipush X (32 : Int32) q7_6_32 rfl ?_
  refine w_lshl X q7_6_34 ?_
  refine w_iloadN X q7_6_35 rfl ?_
  refine w_i2l X q7_6_36 ?_
  refine w_lor X q7_6_37 ?_
  have f9 := (A1.other W2 (Ne.symm (Nat.ne_of_lt (Nat.lt_of_lt_of_le Ea.lt (Nat.le_of_eq g1.symm)))))
  refine w_lastore X q7_6_38 f9 (by decide) rfl gn1 (.long (((x0.toInt64) <<< ((32 : Int32) &&& 0x3f).toInt64) ||| (0 : Int64))) rfl [(.long (((x0.toInt64) <<< ((32 : Int32) &&& 0x3f).toInt64) ||| (0 : Int64))), (.long (0 : Int64)), (.long (0 : Int64))] rfl (fun T h3 X W3 A3 => ?_)
  have K10 : Keep h0 h3 [a] := K5.wr W3 (Or.inr sz_b1)
  refine w_iinc X (1 : Int32) #[.val (.ref a), .val (.int (1 : Int32)), .unset, .unset, .unset, .unset] q7_6_39 rfl rfl rfl ?_
  refine w_goto X q7_6_42 ?_
  refine w_iloadN X q7_6_12 rfl ?_
  refine w_aloadN X q7_6_13 rfl (rfl) ?_
  have f11 := (f6.other W3 (Or.inl (Nat.ne_of_lt (Nat.lt_of_lt_of_le Ea.lt (Nat.le_of_eq g1.symm)))))
  refine w_getF X q7_6_14 (host := "") (Or.inl (wd_111 hw)) Via.refl f11 (fun T X => ?_)
  refine w_icmpge X q7_6_17 (fun hc => absurd (by decide) hc) (fun _ => ?_)
  refine w_aloadN X q7_6_20 rfl (rfl) ?_
  have f12 := (f4.other W3 (Or.inl (Nat.ne_of_lt (Nat.lt_of_lt_of_le Ea.lt (Nat.le_of_eq g1.symm)))))
  refine w_getF X q7_6_21 (host := "") (Or.inl (wd_113 hw)) Via.refl f12 (fun T X => ?_)
  refine w_iloadN X q7_6_24 rfl ?_
  refine w_aloadN X q7_6_25 rfl (rfl) ?_
  have f13 := (f7.other W3 (Or.inl (Nat.ne_of_lt (Nat.lt_of_lt_of_le Ea.lt (Nat.le_of_eq g1.symm)))))
  refine w_getF X q7_6_26 (host := "") (Or.inl (wd_23 hw)) Via.refl f13 (fun T X => ?_)
  refine w_iloadN X q7_6_29 rfl ?_
  have f14 := (f8.other W3 (Nat.ne_of_lt (Nat.lt_of_lt_of_le Ai.lt (Nat.le_of_eq g1.symm))))
  refine w_iaload X q7_6_30 f14 (by decide) rfl ?_
  refine w_i2l X q7_6_31 ?_
  refine w_bipush X (32 : Int32) q7_6_32 rfl ?_
  refine w_lshl X q7_6_34 ?_
  refine w_iloadN X q7_6_35 rfl ?_
  refine w_i2l X q7_6_36 ?_
  refine w_lor X q7_6_37 ?_
  refine w_lastore X q7_6_38 A3 (by decide) rfl gn1 (.long (((x1.toInt64) <<< ((32 : Int32) &&& 0x3f).toInt64) ||| (1 : Int64))) rfl [(.long (((x0.toInt64) <<< ((32 : Int32) &&& 0x3f).toInt64) ||| (0 : Int64))), (.long (((x1.toInt64) <<< ((32 : Int32) &&& 0x3f).toInt64) ||| (1 : Int64))), (.long (0 : Int64))] rfl (fun T h4 X W4 A4 => ?_)
  have K15 : Keep h0 h4 [a] := K10.wr W4 (Or.inr sz_b1)
  refine w_iinc X (1 : Int32) #[.val (.ref a), .val (.int (2 : Int32)), .unset, .unset, .unset, .unset] q7_6_39 rfl rfl rfl ?_
  refine w_goto X q7_6_42 ?_
  refine w_iloadN X q7_6_12 rfl ?_
  refine w_aloadN X q7_6_13 rfl (rfl) ?_
  have f16 := (f11.other W4 (Or.inl (Nat.ne_of_lt (Nat.lt_of_lt_of_le Ea.lt (Nat.le_of_eq g1.symm)))))
  refine w_getF X q7_6_14 (host := "") (Or.inl (wd_111 hw)) Via.refl f16 (fun T X => ?_)
  refine w_icmpge X q7_6_17 (fun hc => absurd (by decide) hc) (fun _ => ?_)
  refine w_aloadN X q7_6_20 rfl (rfl) ?_
  have f17 := (f12.other W4 (Or.inl (Nat.ne_of_lt (Nat.lt_of_lt_of_le Ea.lt (Nat.le_of_eq g1.symm)))))
  refine w_getF X q7_6_21 (host := "") (Or.inl (wd_113 hw)) Via.refl f17 (fun T X => ?_)
  refine w_iloadN X q7_6_24 rfl ?_
  refine w_aloadN X q7_6_25 rfl (rfl) ?_
  have f18 := (f13.other W4 (Or.inl (Nat.ne_of_lt (Nat.lt_of_lt_of_le Ea.lt (Nat.le_of_eq g1.symm)))))
  refine w_getF X q7_6_26 (host := "") (Or.inl (wd_23 hw)) Via.refl f18 (fun T X => ?_)
  refine w_iloadN X q7_6_29 rfl ?_
  have f19 := (f14.other W4 (Nat.ne_of_lt (Nat.lt_of_lt_of_le Ai.lt (Nat.le_of_eq g1.symm))))
  refine w_iaload X q7_6_30 f19 (by decide) rfl ?_
  refine w_i2l X q7_6_31 ?_
  refine w_bipush X (32 : Int32) q7_6_32 rfl ?_
  refine w_lshl X q7_6_34 ?_
  refine w_iloadN X q7_6_35 rfl ?_
  refine w_i2l X q7_6_36 ?_
  refine w_lor X q7_6_37 ?_
  refine w_lastore X q7_6_38 A4 (by decide) rfl gn1 (.long (((x2.toInt64) <<< ((32 : Int32) &&& 0x3f).toInt64) ||| (2 : Int64))) rfl [(.long (((x0.toInt64) <<< ((32 : Int32) &&& 0x3f).toInt64) ||| (0 : Int64))), (.long (((x1.toInt64) <<< ((32 : Int32) &&& 0x3f).toInt64) ||| (1 : Int64))), (.long (((x2.toInt64) <<< ((32 : Int32) &&& 0x3f).toInt64) ||| (2 : Int64)))] rfl (fun T h5 X W5 A5 => ?_)
  have K20 : Keep h0 h5 [a] := K15.wr W5 (Or.inr sz_b1)
  refine w_iinc X (1 : Int32) #[.val (.ref a), .val (.int (3 : Int32)), .unset, .unset, .unset, .unset] q7_6_39 rfl rfl rfl ?_
  refine w_goto X q7_6_42 ?_
  refine w_iloadN X q7_6_12 rfl ?_
  refine w_aloadN X q7_6_13 rfl (rfl) ?_
  have f21 := (f16.other W5 (Or.inl (Nat.ne_of_lt (Nat.lt_of_lt_of_le Ea.lt (Nat.le_of_eq g1.symm)))))
  refine w_getF X q7_6_14 (host := "") (Or.inl (wd_111 hw)) Via.refl f21 (fun T X => ?_)
  refine w_icmpge X q7_6_17 (fun _ => ?_) (fun hc => absurd hc Int32.lt_irrefl)
  refine w_aloadN X q7_6_45 rfl (rfl) ?_
  have f22 := (f17.other W5 (Or.inl (Nat.ne_of_lt (Nat.lt_of_lt_of_le Ea.lt (Nat.le_of_eq g1.symm)))))
  refine w_getF X q7_6_46 (host := "") (Or.inl (wd_113 hw)) Via.refl f22 (fun T X => ?_)
  refine w_callS X q7_6_49 (wd_115 hw) (wd_116 hw) (wd_117 hw) (wd_118 hw) (by decide) (argsL := [(.ref b1)]) (S := []) (m_srt3_3 hw gn1 A5) pd_8 rfl rfl rfl (by decide) (Nat.le_of_ble_eq_true rfl) (by decide) (by decide) (fun T h6 v6 L6 X q6 => ?_)
  obtain ⟨rfl, Kc6, w6_0, w6_1, w6_2, At6, es6⟩ := q6
  have K23 : Keep h0 h6 [a] := K20.trans Kc6 (fun x hx => by cases List.mem_singleton.mp hx; exact (Or.inr sz_b1))
  have e6 := (show own_srt [own_key x0 (0 : Int64), own_key x1 (1 : Int64), own_key x2 (2 : Int64)] = _ from es6).symm.trans hs
  simp only [List.cons.injEq, and_true] at e6
  obtain ⟨rfl, rfl, rfl⟩ := e6
  show Wp _ _ _ _ (T.setTop (mkF _ _ _ []))
  refine w_iconst X (-1 : Int32) q7_6_52 rfl ?_
  refine w_istoreN X #[.val (.ref a), .val (.int (-1 : Int32)), .unset, .unset, .unset, .unset] q7_6_53 rfl ?_
  refine w_iconst X (-1 : Int32) q7_6_54 rfl ?_
  refine w_istoreN X #[.val (.ref a), .val (.int (-1 : Int32)), .val (.int (-1 : Int32)), .unset, .unset, .unset] q7_6_55 rfl ?_
  refine w_iconst X (1 : Int32) q7_6_56 rfl ?_
  refine w_istoreN X #[.val (.ref a), .val (.int (-1 : Int32)), .val (.int (-1 : Int32)), .val (.int (1 : Int32)), .unset, .unset] q7_6_57 rfl ?_
  refine w_iloadN X q7_6_58 rfl ?_
  refine w_aloadN X q7_6_59 rfl (rfl) ?_
  have f24 := (f21.keep Kc6 (by simp only [List.mem_cons, List.not_mem_nil, or_false]; exact (Nat.ne_of_lt (Nat.lt_of_lt_of_le Ea.lt (Nat.le_of_eq g1.symm)))))
  refine w_getF X q7_6_60 (host := "") (Or.inl (wd_111 hw)) Via.refl f24 (fun T X => ?_)
  refine w_icmpge X q7_6_63 (fun hc => absurd (by decide) hc) (fun _ => ?_)
  refine w_aloadN X q7_6_66 rfl (rfl) ?_
  have f25 := (f22.keep Kc6 (by simp only [List.mem_cons, List.not_mem_nil, or_false]; exact (Nat.ne_of_lt (Nat.lt_of_lt_of_le Ea.lt (Nat.le_of_eq g1.symm)))))
  refine w_getF X q7_6_67 (host := "") (Or.inl (wd_113 hw)) Via.refl f25 (fun T X => ?_)
  refine w_iloadN X q7_6_70 rfl ?_
  refine w_laload X q7_6_71 At6 (by decide) rfl ?_
  refine w_l2i X q7_6_72 ?_
  refine w_istore X #[.val (.ref a), .val (.int (-1 : Int32)), .val (.int (-1 : Int32)), .val (.int (1 : Int32)), .val (.int (w6_1.toInt32)), .unset] q7_6_73 rfl ?_
  refine w_aloadN X q7_6_75 rfl (rfl) ?_
  refine w_getF X q7_6_76 (host := "") (Or.inl (wd_113 hw)) Via.refl f25 (fun T X => ?_)
  refine w_iloadN X q7_6_79 rfl ?_
  refine w_laload X q7_6_80 At6 (by decide) rfl ?_
  refine w_bipush X (32 : Int32) q7_6_81 rfl ?_
  refine w_lushr X q7_6_83 ?_
  refine w_aloadN X q7_6_84 rfl (rfl) ?_
  refine w_getF X q7_6_85 (host := "") (Or.inl (wd_113 hw)) Via.refl f25 (fun T X => ?_)
  refine w_iloadN X q7_6_88 rfl ?_
  refine w_iconst X (1 : Int32) q7_6_89 rfl ?_
  refine w_isub X q7_6_90 ?_
  refine w_laload X q7_6_91 At6 (by decide) rfl ?_
  refine w_bipush X (32 : Int32) q7_6_92 rfl ?_
  refine w_lushr X q7_6_94 ?_
  refine w_lne X q7_6_95 q7_6_96 (fun _ => ?_) (fun hc => absurd hc hne1)
  refine w_iconst X (0 : Int32) q7_6_103 rfl ?_
  refine w_istore X #[.val (.ref a), .val (.int (-1 : Int32)), .val (.int (-1 : Int32)), .val (.int (1 : Int32)), .val (.int (w6_1.toInt32)), .val (.int (0 : Int32))] q7_6_104 rfl ?_
  refine w_iload X q7_6_106 rfl ?_
  refine w_ifeq X q7_6_108 (fun _ => ?_) (fun hc => absurd rfl hc)
  refine w_iinc X (1 : Int32) #[.val (.ref a), .val (.int (-1 : Int32)), .val (.int (-1 : Int32)), .val (.int (2 : Int32)), .val (.int (w6_1.toInt32)), .val (.int (0 : Int32))] q7_6_134 rfl rfl rfl ?_
  refine w_goto X q7_6_137 ?_
  refine w_iloadN X q7_6_58 rfl ?_
  refine w_aloadN X q7_6_59 rfl (rfl) ?_
  refine w_getF X q7_6_60 (host := "") (Or.inl (wd_111 hw)) Via.refl f24 (fun T X => ?_)
  refine w_icmpge X q7_6_63 (fun hc => absurd (by decide) hc) (fun _ => ?_)
  refine w_aloadN X q7_6_66 rfl (rfl) ?_
  refine w_getF X q7_6_67 (host := "") (Or.inl (wd_113 hw)) Via.refl f25 (fun T X => ?_)
  refine w_iloadN X q7_6_70 rfl ?_
  refine w_laload X q7_6_71 At6 (by decide) rfl ?_
  refine w_l2i X q7_6_72 ?_
  refine w_istore X #[.val (.ref a), .val (.int (-1 : Int32)), .val (.int (-1 : Int32)), .val (.int (2 : Int32)), .val (.int (w6_2.toInt32)), .val (.int (0 : Int32))] q7_6_73 rfl ?_
  refine w_aloadN X q7_6_75 rfl (rfl) ?_
  refine w_getF X q7_6_76 (host := "") (Or.inl (wd_113 hw)) Via.refl f25 (fun T X => ?_)
  refine w_iloadN X q7_6_79 rfl ?_
  refine w_laload X q7_6_80 At6 (by decide) rfl ?_
  refine w_bipush X (32 : Int32) q7_6_81 rfl ?_
  refine w_lushr X q7_6_83 ?_
  refine w_aloadN X q7_6_84 rfl (rfl) ?_
  refine w_getF X q7_6_85 (host := "") (Or.inl (wd_113 hw)) Via.refl f25 (fun T X => ?_)
  refine w_iloadN X q7_6_88 rfl ?_
  refine w_iconst X (1 : Int32) q7_6_89 rfl ?_
  refine w_isub X q7_6_90 ?_
  refine w_laload X q7_6_91 At6 (by decide) rfl ?_
  refine w_bipush X (32 : Int32) q7_6_92 rfl ?_
  refine w_lushr X q7_6_94 ?_
  refine w_lne X q7_6_95 q7_6_96 (fun _ => ?_) (fun hc => absurd hc hne2)
  refine w_iconst X (0 : Int32) q7_6_103 rfl ?_
  refine w_istore X #[.val (.ref a), .val (.int (-1 : Int32)), .val (.int (-1 : Int32)), .val (.int (2 : Int32)), .val (.int (w6_2.toInt32)), .val (.int (0 : Int32))] q7_6_104 rfl ?_
  refine w_iload X q7_6_106 rfl ?_
  refine w_ifeq X q7_6_108 (fun _ => ?_) (fun hc => absurd rfl hc)
  refine w_iinc X (1 : Int32) #[.val (.ref a), .val (.int (-1 : Int32)), .val (.int (-1 : Int32)), .val (.int (3 : Int32)), .val (.int (w6_2.toInt32)), .val (.int (0 : Int32))] q7_6_134 rfl rfl rfl ?_
  refine w_goto X q7_6_137 ?_
  refine w_iloadN X q7_6_58 rfl ?_
  refine w_aloadN X q7_6_59 rfl (rfl) ?_
  refine w_getF X q7_6_60 (host := "") (Or.inl (wd_111 hw)) Via.refl f24 (fun T X => ?_)
  refine w_icmpge X q7_6_63 (fun _ => ?_) (fun hc => absurd hc Int32.lt_irrefl)
  refine w_iloadN X q7_6_140 rfl ?_
  refine w_iflt X q7_6_141 (fun _ => ?_) (fun hc => absurd (by decide) hc)
  have f26 := (((((f2.wr W2).wr W3).wr W4).wr W5).keep Kc6)
  exact w_retV X q7_6_179 ⟨rfl, K23, _, f26, f24, f25, At6⟩ (by decide) (by decide)
theorem m_cd_4 {l : Launch} {Z : State} {a0 : Array Value} {n0 : Nat} (hw : own_hw a0 Z) {h0 : Heap} {a ids pr nm sb en ln se ss : Addr} {x0 x1 x2 x3 : Int32} {z0 z1 z2 z3 : Int64} (hG : own_GB Z h0 n0 a ids pr nm sb en ln se ss (4 : Int32) x0 x1 x2 x3) (hs : own_srt [own_key x0 (0 : Int64), own_key x1 (1 : Int64), own_key x2 (2 : Int64), own_key x3 (3 : Int64)] = [z0, z1, z2, z3]) (hne1 : ¬ own_hi z1 = own_hi z0) (hne2 : ¬ own_hi z2 = own_hi z1) (hne3 : ¬ own_hi z3 = own_hi z2) :
    Does l Z n0 ⟨"com/example/flicker/flicker/game/GameBuilder", "checkDistinct", "()V"⟩ prog_7_method_6_code 6 none [] { frames := 4, cells := 1, slots := 4, locals := 84 } #[(.ref a)] h0 (fun v h => v = none ∧ Keep h0 h [a] ∧ ∃ d, Exa Z h a "com/example/flicker/flicker/game/GameBuilder" ∧ Fld Z h a "com/example/flicker/flicker/game/GameBuilder" "vertexCount" "I" (.int (4 : Int32)) ∧ Fld Z h a "com/example/flicker/flicker/game/GameBuilder" "byId" "[J" (.ref d) ∧ Ary Z h d .long [(.long z0), (.long z1), (.long z2), (.long z3)]) := by
  refine Does.start (plainFor_of_name pn_5) ?_
  intro p e s m below meth c T X
  replace X : Sd _ _ _ _ _ "com/example/flicker/flicker/game/GameBuilder" "checkDistinct" _ _ _ _ _ _ _ _ _ _ _ _ _ _ _ _ := X
  refine Wp.cast (g' := mkF m 0 #[.val (.ref a), .unset, .unset, .unset, .unset, .unset] []) (by first | (simp [entryFrame, mkF, argsToLocals, Value.category, maxLocals]; done) | rfl) ?_
  obtain ⟨ga, o0, o1, o2, o3, o4, o5, o6, o7, Ea, F_ids, F_priorities, F_names, F_vertexLines, F_setEnd, F_sets, F_vc, F_sl, Fb, En, Ft, Fe, Fc, Es, Fs, Ai, Ip, Ie, Il, Is, It⟩ := hG
  obtain ⟨pr0, pr1, pr2, pr3, A_pr⟩ := Ip
  obtain ⟨en0, en1, en2, en3, A_en⟩ := Ie
  obtain ⟨ln0, ln1, ln2, ln3, A_ln⟩ := Il
  obtain ⟨se0, se1, se2, se3, A_se⟩ := Is
  obtain ⟨ss0, ss1, ss2, ss3, A_ss⟩ := It
  refine w_aloadN X q7_6_0 rfl (rfl) ?_
  refine w_aloadN X q7_6_1 rfl (rfl) ?_
  refine w_getF X q7_6_2 (host := "") (Or.inl (wd_111 hw)) Via.refl F_vc (fun T X => ?_)
  refine w_newarr X q7_6_5 (wd_46 hw) 4 4 (by decide) (by decide) (by decide) (by decide) (by decide) (by decide) (fun T h1 b1 g1 gn1 X E1 A1 => ?_)
  replace A1 : Ary Z h1 b1 .long [(.long (0 : Int64)), (.long (0 : Int64)), (.long (0 : Int64)), (.long (0 : Int64))] := A1
  have sz_b1 : h0.size ≤ b1 := Nat.le_trans (Keep.refl h0 [a]).1 (Nat.le_of_eq g1.symm)
  have K1 : Keep h0 h1 [a] := (Keep.refl h0 [a]).ext E1
  have f2 := (Ea.ext E1)
  have f3 := (Fb.ext E1)
  refine w_putF X q7_6_7 (host := "") (Or.inl (wd_113 hw)) Via.refl f3 f2 (Or.inl (wd_114 hw)) (wd_7 hw) (ty := (.array .long)) (by decide) rfl rfl ga (fun T h2 X W2 => ?_)
  have f4 := f3.same W2
  have K5 : Keep h0 h2 [a] := K1.wr W2 (Or.inl (List.mem_of_getElem? (i := 0) rfl))
  refine w_iconst X (0 : Int32) q7_6_10 rfl ?_
  refine w_istoreN X #[.val (.ref a), .val (.int (0 : Int32)), .unset, .unset, .unset, .unset] q7_6_11 rfl ?_
  refine w_iloadN X q7_6_12 rfl ?_
  refine w_aloadN X q7_6_13 rfl (rfl) ?_
  have f6 := ((F_vc.ext E1).other W2 (Or.inr (slot_ne (Or.inl (wd_112 hw)) (Or.inl (wd_114 hw)) (by decide) (t := .int) (t' := (.array .long)) (by decide) (by decide))))
  refine w_getF X q7_6_14 (host := "") (Or.inl (wd_111 hw)) Via.refl f6 (fun T X => ?_)
  refine w_icmpge X q7_6_17 (fun hc => absurd (by decide) hc) (fun _ => ?_)
  refine w_aloadN X q7_6_20 rfl (rfl) ?_
  refine w_getF X q7_6_21 (host := "") (Or.inl (wd_113 hw)) Via.refl f4 (fun T X => ?_)
  refine w_iloadN X q7_6_24 rfl ?_
  refine w_aloadN X q7_6_25 rfl (rfl) ?_
  have f7 := ((F_ids.ext E1).other W2 (Or.inr (slot_ne (Or.inl (wd_24 hw)) (Or.inl (wd_114 hw)) (by decide) (t := (.array .int)) (t' := (.array .long)) (by decide) (by decide))))
  refine w_getF X q7_6_26 (host := "") (Or.inl (wd_23 hw)) Via.refl f7 (fun T X => ?_)
  refine w_iloadN X q7_6_29 rfl ?_
  have f8 := ((Ai.ext E1).other W2 (Ne.symm (Nat.ne_of_lt o0)))
  refine w_iaload X q7_6_30 f8 (by decide) rfl ?_
  refine w_i2l X q7_6_31 ?_
  refine w_bipush X (32 : Int32) q7_6_32 rfl ?_
  refine w_lshl X q7_6_34 ?_
  refine w_iloadN X q7_6_35 rfl ?_
  refine w_i2l X q7_6_36 ?_
  refine w_lor X q7_6_37 ?_
  have f9 := (A1.other W2 (Ne.symm (Nat.ne_of_lt (Nat.lt_of_lt_of_le Ea.lt (Nat.le_of_eq g1.symm)))))
  refine w_lastore X q7_6_38 f9 (by decide) rfl gn1 (.long (((x0.toInt64) <<< ((32 : Int32) &&& 0x3f).toInt64) ||| (0 : Int64))) rfl [(.long (((x0.toInt64) <<< ((32 : Int32) &&& 0x3f).toInt64) ||| (0 : Int64))), (.long (0 : Int64)), (.long (0 : Int64)), (.long (0 : Int64))] rfl (fun T h3 X W3 A3 => ?_)
  have K10 : Keep h0 h3 [a] := K5.wr W3 (Or.inr sz_b1)
  refine w_iinc X (1 : Int32) #[.val (.ref a), .val (.int (1 : Int32)), .unset, .unset, .unset, .unset] q7_6_39 rfl rfl rfl ?_
  refine w_goto X q7_6_42 ?_
  refine w_iloadN X q7_6_12 rfl ?_
  refine w_aloadN X q7_6_13 rfl (rfl) ?_
  have f11 := (f6.other W3 (Or.inl (Nat.ne_of_lt (Nat.lt_of_lt_of_le Ea.lt (Nat.le_of_eq g1.symm)))))
  refine w_getF X q7_6_14 (host := "") (Or.inl (wd_111 hw)) Via.refl f11 (fun T X => ?_)
  refine w_icmpge X q7_6_17 (fun hc => absurd (by decide) hc) (fun _ => ?_)
  refine w_aloadN X q7_6_20 rfl (rfl) ?_
  have f12 := (f4.other W3 (Or.inl (Nat.ne_of_lt (Nat.lt_of_lt_of_le Ea.lt (Nat.le_of_eq g1.symm)))))
  refine w_getF X q7_6_21 (host := "") (Or.inl (wd_113 hw)) Via.refl f12 (fun T X => ?_)
  refine w_iloadN X q7_6_24 rfl ?_
  refine w_aloadN X q7_6_25 rfl (rfl) ?_
  have f13 := (f7.other W3 (Or.inl (Nat.ne_of_lt (Nat.lt_of_lt_of_le Ea.lt (Nat.le_of_eq g1.symm)))))
  refine w_getF X q7_6_26 (host := "") (Or.inl (wd_23 hw)) Via.refl f13 (fun T X => ?_)
  refine w_iloadN X q7_6_29 rfl ?_
  have f14 := (f8.other W3 (Nat.ne_of_lt (Nat.lt_of_lt_of_le Ai.lt (Nat.le_of_eq g1.symm))))
  refine w_iaload X q7_6_30 f14 (by decide) rfl ?_
  refine w_i2l X q7_6_31 ?_
  refine w_bipush X (32 : Int32) q7_6_32 rfl ?_
  refine w_lshl X q7_6_34 ?_
  refine w_iloadN X q7_6_35 rfl ?_
  refine w_i2l X q7_6_36 ?_
  refine w_lor X q7_6_37 ?_
  refine w_lastore X q7_6_38 A3 (by decide) rfl gn1 (.long (((x1.toInt64) <<< ((32 : Int32) &&& 0x3f).toInt64) ||| (1 : Int64))) rfl [(.long (((x0.toInt64) <<< ((32 : Int32) &&& 0x3f).toInt64) ||| (0 : Int64))), (.long (((x1.toInt64) <<< ((32 : Int32) &&& 0x3f).toInt64) ||| (1 : Int64))), (.long (0 : Int64)), (.long (0 : Int64))] rfl (fun T h4 X W4 A4 => ?_)
  have K15 : Keep h0 h4 [a] := K10.wr W4 (Or.inr sz_b1)
  refine w_iinc X (1 : Int32) #[.val (.ref a), .val (.int (2 : Int32)), .unset, .unset, .unset, .unset] q7_6_39 rfl rfl rfl ?_
  refine w_goto X q7_6_42 ?_
  refine w_iloadN X q7_6_12 rfl ?_
  refine w_aloadN X q7_6_13 rfl (rfl) ?_
  have f16 := (f11.other W4 (Or.inl (Nat.ne_of_lt (Nat.lt_of_lt_of_le Ea.lt (Nat.le_of_eq g1.symm)))))
  refine w_getF X q7_6_14 (host := "") (Or.inl (wd_111 hw)) Via.refl f16 (fun T X => ?_)
  refine w_icmpge X q7_6_17 (fun hc => absurd (by decide) hc) (fun _ => ?_)
  refine w_aloadN X q7_6_20 rfl (rfl) ?_
  have f17 := (f12.other W4 (Or.inl (Nat.ne_of_lt (Nat.lt_of_lt_of_le Ea.lt (Nat.le_of_eq g1.symm)))))
  refine w_getF X q7_6_21 (host := "") (Or.inl (wd_113 hw)) Via.refl f17 (fun T X => ?_)
  refine w_iloadN X q7_6_24 rfl ?_
  refine w_aloadN X q7_6_25 rfl (rfl) ?_
  have f18 := (f13.other W4 (Or.inl (Nat.ne_of_lt (Nat.lt_of_lt_of_le Ea.lt (Nat.le_of_eq g1.symm)))))
  refine w_getF X q7_6_26 (host := "") (Or.inl (wd_23 hw)) Via.refl f18 (fun T X => ?_)
  refine w_iloadN X q7_6_29 rfl ?_
  have f19 := (f14.other W4 (Nat.ne_of_lt (Nat.lt_of_lt_of_le Ai.lt (Nat.le_of_eq g1.symm))))
  refine w_iaload X q7_6_30 f19 (by decide) rfl ?_
  refine w_i2l X q7_6_31 ?_
  refine w_bipush X (32 : Int32) q7_6_32 rfl ?_
  refine w_lshl X q7_6_34 ?_
  refine w_iloadN X q7_6_35 rfl ?_
  refine w_i2l X q7_6_36 ?_
  refine w_lor X q7_6_37 ?_
  refine w_lastore X q7_6_38 A4 (by decide) rfl gn1 (.long (((x2.toInt64) <<< ((32 : Int32) &&& 0x3f).toInt64) ||| (2 : Int64))) rfl [(.long (((x0.toInt64) <<< ((32 : Int32) &&& 0x3f).toInt64) ||| (0 : Int64))), (.long (((x1.toInt64) <<< ((32 : Int32) &&& 0x3f).toInt64) ||| (1 : Int64))), (.long (((x2.toInt64) <<< ((32 : Int32) &&& 0x3f).toInt64) ||| (2 : Int64))), (.long (0 : Int64))] rfl (fun T h5 X W5 A5 => ?_)
  have K20 : Keep h0 h5 [a] := K15.wr W5 (Or.inr sz_b1)
  refine w_iinc X (1 : Int32) #[.val (.ref a), .val (.int (3 : Int32)), .unset, .unset, .unset, .unset] q7_6_39 rfl rfl rfl ?_
  refine w_goto X q7_6_42 ?_
  refine w_iloadN X q7_6_12 rfl ?_
  refine w_aloadN X q7_6_13 rfl (rfl) ?_
  have f21 := (f16.other W5 (Or.inl (Nat.ne_of_lt (Nat.lt_of_lt_of_le Ea.lt (Nat.le_of_eq g1.symm)))))
  refine w_getF X q7_6_14 (host := "") (Or.inl (wd_111 hw)) Via.refl f21 (fun T X => ?_)
  refine w_icmpge X q7_6_17 (fun hc => absurd (by decide) hc) (fun _ => ?_)
  refine w_aloadN X q7_6_20 rfl (rfl) ?_
  have f22 := (f17.other W5 (Or.inl (Nat.ne_of_lt (Nat.lt_of_lt_of_le Ea.lt (Nat.le_of_eq g1.symm)))))
  refine w_getF X q7_6_21 (host := "") (Or.inl (wd_113 hw)) Via.refl f22 (fun T X => ?_)
  refine w_iloadN X q7_6_24 rfl ?_
  refine w_aloadN X q7_6_25 rfl (rfl) ?_
  have f23 := (f18.other W5 (Or.inl (Nat.ne_of_lt (Nat.lt_of_lt_of_le Ea.lt (Nat.le_of_eq g1.symm)))))
  refine w_getF X q7_6_26 (host := "") (Or.inl (wd_23 hw)) Via.refl f23 (fun T X => ?_)
  refine w_iloadN X q7_6_29 rfl ?_
  have f24 := (f19.other W5 (Nat.ne_of_lt (Nat.lt_of_lt_of_le Ai.lt (Nat.le_of_eq g1.symm))))
  refine w_iaload X q7_6_30 f24 (by decide) rfl ?_
  refine w_i2l X q7_6_31 ?_
  refine w_bipush X (32 : Int32) q7_6_32 rfl ?_
  refine w_lshl X q7_6_34 ?_
  refine w_iloadN X q7_6_35 rfl ?_
  refine w_i2l X q7_6_36 ?_
  refine w_lor X q7_6_37 ?_
  refine w_lastore X q7_6_38 A5 (by decide) rfl gn1 (.long (((x3.toInt64) <<< ((32 : Int32) &&& 0x3f).toInt64) ||| (3 : Int64))) rfl [(.long (((x0.toInt64) <<< ((32 : Int32) &&& 0x3f).toInt64) ||| (0 : Int64))), (.long (((x1.toInt64) <<< ((32 : Int32) &&& 0x3f).toInt64) ||| (1 : Int64))), (.long (((x2.toInt64) <<< ((32 : Int32) &&& 0x3f).toInt64) ||| (2 : Int64))), (.long (((x3.toInt64) <<< ((32 : Int32) &&& 0x3f).toInt64) ||| (3 : Int64)))] rfl (fun T h6 X W6 A6 => ?_)
  have K25 : Keep h0 h6 [a] := K20.wr W6 (Or.inr sz_b1)
  refine w_iinc X (1 : Int32) #[.val (.ref a), .val (.int (4 : Int32)), .unset, .unset, .unset, .unset] q7_6_39 rfl rfl rfl ?_
  refine w_goto X q7_6_42 ?_
  refine w_iloadN X q7_6_12 rfl ?_
  refine w_aloadN X q7_6_13 rfl (rfl) ?_
  have f26 := (f21.other W6 (Or.inl (Nat.ne_of_lt (Nat.lt_of_lt_of_le Ea.lt (Nat.le_of_eq g1.symm)))))
  refine w_getF X q7_6_14 (host := "") (Or.inl (wd_111 hw)) Via.refl f26 (fun T X => ?_)
  refine w_icmpge X q7_6_17 (fun _ => ?_) (fun hc => absurd hc Int32.lt_irrefl)
  refine w_aloadN X q7_6_45 rfl (rfl) ?_
  have f27 := (f22.other W6 (Or.inl (Nat.ne_of_lt (Nat.lt_of_lt_of_le Ea.lt (Nat.le_of_eq g1.symm)))))
  refine w_getF X q7_6_46 (host := "") (Or.inl (wd_113 hw)) Via.refl f27 (fun T X => ?_)
  refine w_callS X q7_6_49 (wd_115 hw) (wd_116 hw) (wd_117 hw) (wd_118 hw) (by decide) (argsL := [(.ref b1)]) (S := []) (m_srt3_4 hw gn1 A6) pd_8 rfl rfl rfl (by decide) (Nat.le_of_ble_eq_true rfl) (by decide) (by decide) (fun T h7 v7 L7 X q7 => ?_)
  obtain ⟨rfl, Kc7, w7_0, w7_1, w7_2, w7_3, At7, es7⟩ := q7
  have K28 : Keep h0 h7 [a] := K25.trans Kc7 (fun x hx => by cases List.mem_singleton.mp hx; exact (Or.inr sz_b1))
  have e7 := (show own_srt [own_key x0 (0 : Int64), own_key x1 (1 : Int64), own_key x2 (2 : Int64), own_key x3 (3 : Int64)] = _ from es7).symm.trans hs
  simp only [List.cons.injEq, and_true] at e7
  obtain ⟨rfl, rfl, rfl, rfl⟩ := e7
  show Wp _ _ _ _ (T.setTop (mkF _ _ _ []))
  refine w_iconst X (-1 : Int32) q7_6_52 rfl ?_
  refine w_istoreN X #[.val (.ref a), .val (.int (-1 : Int32)), .unset, .unset, .unset, .unset] q7_6_53 rfl ?_
  refine w_iconst X (-1 : Int32) q7_6_54 rfl ?_
  refine w_istoreN X #[.val (.ref a), .val (.int (-1 : Int32)), .val (.int (-1 : Int32)), .unset, .unset, .unset] q7_6_55 rfl ?_
  refine w_iconst X (1 : Int32) q7_6_56 rfl ?_
  refine w_istoreN X #[.val (.ref a), .val (.int (-1 : Int32)), .val (.int (-1 : Int32)), .val (.int (1 : Int32)), .unset, .unset] q7_6_57 rfl ?_
  refine w_iloadN X q7_6_58 rfl ?_
  refine w_aloadN X q7_6_59 rfl (rfl) ?_
  have f29 := (f26.keep Kc7 (by simp only [List.mem_cons, List.not_mem_nil, or_false]; exact (Nat.ne_of_lt (Nat.lt_of_lt_of_le Ea.lt (Nat.le_of_eq g1.symm)))))
  refine w_getF X q7_6_60 (host := "") (Or.inl (wd_111 hw)) Via.refl f29 (fun T X => ?_)
  refine w_icmpge X q7_6_63 (fun hc => absurd (by decide) hc) (fun _ => ?_)
  refine w_aloadN X q7_6_66 rfl (rfl) ?_
  have f30 := (f27.keep Kc7 (by simp only [List.mem_cons, List.not_mem_nil, or_false]; exact (Nat.ne_of_lt (Nat.lt_of_lt_of_le Ea.lt (Nat.le_of_eq g1.symm)))))
  refine w_getF X q7_6_67 (host := "") (Or.inl (wd_113 hw)) Via.refl f30 (fun T X => ?_)
  refine w_iloadN X q7_6_70 rfl ?_
  refine w_laload X q7_6_71 At7 (by decide) rfl ?_
  refine w_l2i X q7_6_72 ?_
  refine w_istore X #[.val (.ref a), .val (.int (-1 : Int32)), .val (.int (-1 : Int32)), .val (.int (1 : Int32)), .val (.int (w7_1.toInt32)), .unset] q7_6_73 rfl ?_
  refine w_aloadN X q7_6_75 rfl (rfl) ?_
  refine w_getF X q7_6_76 (host := "") (Or.inl (wd_113 hw)) Via.refl f30 (fun T X => ?_)
  refine w_iloadN X q7_6_79 rfl ?_
  refine w_laload X q7_6_80 At7 (by decide) rfl ?_
  refine w_bipush X (32 : Int32) q7_6_81 rfl ?_
  refine w_lushr X q7_6_83 ?_
  refine w_aloadN X q7_6_84 rfl (rfl) ?_
  refine w_getF X q7_6_85 (host := "") (Or.inl (wd_113 hw)) Via.refl f30 (fun T X => ?_)
  refine w_iloadN X q7_6_88 rfl ?_
  refine w_iconst X (1 : Int32) q7_6_89 rfl ?_
  refine w_isub X q7_6_90 ?_
  refine w_laload X q7_6_91 At7 (by decide) rfl ?_
  refine w_bipush X (32 : Int32) q7_6_92 rfl ?_
  refine w_lushr X q7_6_94 ?_
  refine w_lne X q7_6_95 q7_6_96 (fun _ => ?_) (fun hc => absurd hc hne1)
  refine w_iconst X (0 : Int32) q7_6_103 rfl ?_
  refine w_istore X #[.val (.ref a), .val (.int (-1 : Int32)), .val (.int (-1 : Int32)), .val (.int (1 : Int32)), .val (.int (w7_1.toInt32)), .val (.int (0 : Int32))] q7_6_104 rfl ?_
  refine w_iload X q7_6_106 rfl ?_
  refine w_ifeq X q7_6_108 (fun _ => ?_) (fun hc => absurd rfl hc)
  refine w_iinc X (1 : Int32) #[.val (.ref a), .val (.int (-1 : Int32)), .val (.int (-1 : Int32)), .val (.int (2 : Int32)), .val (.int (w7_1.toInt32)), .val (.int (0 : Int32))] q7_6_134 rfl rfl rfl ?_
  refine w_goto X q7_6_137 ?_
  refine w_iloadN X q7_6_58 rfl ?_
  refine w_aloadN X q7_6_59 rfl (rfl) ?_
  refine w_getF X q7_6_60 (host := "") (Or.inl (wd_111 hw)) Via.refl f29 (fun T X => ?_)
  refine w_icmpge X q7_6_63 (fun hc => absurd (by decide) hc) (fun _ => ?_)
  refine w_aloadN X q7_6_66 rfl (rfl) ?_
  refine w_getF X q7_6_67 (host := "") (Or.inl (wd_113 hw)) Via.refl f30 (fun T X => ?_)
  refine w_iloadN X q7_6_70 rfl ?_
  refine w_laload X q7_6_71 At7 (by decide) rfl ?_
  refine w_l2i X q7_6_72 ?_
  refine w_istore X #[.val (.ref a), .val (.int (-1 : Int32)), .val (.int (-1 : Int32)), .val (.int (2 : Int32)), .val (.int (w7_2.toInt32)), .val (.int (0 : Int32))] q7_6_73 rfl ?_
  refine w_aloadN X q7_6_75 rfl (rfl) ?_
  refine w_getF X q7_6_76 (host := "") (Or.inl (wd_113 hw)) Via.refl f30 (fun T X => ?_)
  refine w_iloadN X q7_6_79 rfl ?_
  refine w_laload X q7_6_80 At7 (by decide) rfl ?_
  refine w_bipush X (32 : Int32) q7_6_81 rfl ?_
  refine w_lushr X q7_6_83 ?_
  refine w_aloadN X q7_6_84 rfl (rfl) ?_
  refine w_getF X q7_6_85 (host := "") (Or.inl (wd_113 hw)) Via.refl f30 (fun T X => ?_)
  refine w_iloadN X q7_6_88 rfl ?_
  refine w_iconst X (1 : Int32) q7_6_89 rfl ?_
  refine w_isub X q7_6_90 ?_
  refine w_laload X q7_6_91 At7 (by decide) rfl ?_
  refine w_bipush X (32 : Int32) q7_6_92 rfl ?_
  refine w_lushr X q7_6_94 ?_
  refine w_lne X q7_6_95 q7_6_96 (fun _ => ?_) (fun hc => absurd hc hne2)
  refine w_iconst X (0 : Int32) q7_6_103 rfl ?_
  refine w_istore X #[.val (.ref a), .val (.int (-1 : Int32)), .val (.int (-1 : Int32)), .val (.int (2 : Int32)), .val (.int (w7_2.toInt32)), .val (.int (0 : Int32))] q7_6_104 rfl ?_
  refine w_iload X q7_6_106 rfl ?_
  refine w_ifeq X q7_6_108 (fun _ => ?_) (fun hc => absurd rfl hc)
  refine w_iinc X (1 : Int32) #[.val (.ref a), .val (.int (-1 : Int32)), .val (.int (-1 : Int32)), .val (.int (3 : Int32)), .val (.int (w7_2.toInt32)), .val (.int (0 : Int32))] q7_6_134 rfl rfl rfl ?_
  refine w_goto X q7_6_137 ?_
  refine w_iloadN X q7_6_58 rfl ?_
  refine w_aloadN X q7_6_59 rfl (rfl) ?_
  refine w_getF X q7_6_60 (host := "") (Or.inl (wd_111 hw)) Via.refl f29 (fun T X => ?_)
  refine w_icmpge X q7_6_63 (fun hc => absurd (by decide) hc) (fun _ => ?_)
  refine w_aloadN X q7_6_66 rfl (rfl) ?_
  refine w_getF X q7_6_67 (host := "") (Or.inl (wd_113 hw)) Via.refl f30 (fun T X => ?_)
  refine w_iloadN X q7_6_70 rfl ?_
  refine w_laload X q7_6_71 At7 (by decide) rfl ?_
  refine w_l2i X q7_6_72 ?_
  refine w_istore X #[.val (.ref a), .val (.int (-1 : Int32)), .val (.int (-1 : Int32)), .val (.int (3 : Int32)), .val (.int (w7_3.toInt32)), .val (.int (0 : Int32))] q7_6_73 rfl ?_
  refine w_aloadN X q7_6_75 rfl (rfl) ?_
  refine w_getF X q7_6_76 (host := "") (Or.inl (wd_113 hw)) Via.refl f30 (fun T X => ?_)
  refine w_iloadN X q7_6_79 rfl ?_
  refine w_laload X q7_6_80 At7 (by decide) rfl ?_
  refine w_bipush X (32 : Int32) q7_6_81 rfl ?_
  refine w_lushr X q7_6_83 ?_
  refine w_aloadN X q7_6_84 rfl (rfl) ?_
  refine w_getF X q7_6_85 (host := "") (Or.inl (wd_113 hw)) Via.refl f30 (fun T X => ?_)
  refine w_iloadN X q7_6_88 rfl ?_
  refine w_iconst X (1 : Int32) q7_6_89 rfl ?_
  refine w_isub X q7_6_90 ?_
  refine w_laload X q7_6_91 At7 (by decide) rfl ?_
  refine w_bipush X (32 : Int32) q7_6_92 rfl ?_
  refine w_lushr X q7_6_94 ?_
  refine w_lne X q7_6_95 q7_6_96 (fun _ => ?_) (fun hc => absurd hc hne3)
  refine w_iconst X (0 : Int32) q7_6_103 rfl ?_
  refine w_istore X #[.val (.ref a), .val (.int (-1 : Int32)), .val (.int (-1 : Int32)), .val (.int (3 : Int32)), .val (.int (w7_3.toInt32)), .val (.int (0 : Int32))] q7_6_104 rfl ?_
  refine w_iload X q7_6_106 rfl ?_
  refine w_ifeq X q7_6_108 (fun _ => ?_) (fun hc => absurd rfl hc)
  refine w_iinc X (1 : Int32) #[.val (.ref a), .val (.int (-1 : Int32)), .val (.int (-1 : Int32)), .val (.int (4 : Int32)), .val (.int (w7_3.toInt32)), .val (.int (0 : Int32))] q7_6_134 rfl rfl rfl ?_
  refine w_goto X q7_6_137 ?_
  refine w_iloadN X q7_6_58 rfl ?_
  refine w_aloadN X q7_6_59 rfl (rfl) ?_
  refine w_getF X q7_6_60 (host := "") (Or.inl (wd_111 hw)) Via.refl f29 (fun T X => ?_)
  refine w_icmpge X q7_6_63 (fun _ => ?_) (fun hc => absurd hc Int32.lt_irrefl)
  refine w_iloadN X q7_6_140 rfl ?_
  refine w_iflt X q7_6_141 (fun _ => ?_) (fun hc => absurd (by decide) hc)
  have f31 := ((((((f2.wr W2).wr W3).wr W4).wr W5).wr W6).keep Kc7)
  exact w_retV X q7_6_179 ⟨rfl, K28, _, f31, f29, f30, At7⟩ (by decide) (by decide)
theorem m_fm_0 {l : Launch} {Z : State} {a0 : Array Value} {n0 : Nat} (hw : own_hw a0 Z) {h0 : Heap} {a d : Addr}  (Fv : Fld Z h0 a "com/example/flicker/flicker/game/GameBuilder" "vertexCount" "I" (.int (0 : Int32))) (Fd : Fld Z h0 a "com/example/flicker/flicker/game/GameBuilder" "byId" "[J" (.ref d)) (Ad : Ary Z h0 d .long []) :
    Does l Z n0 ⟨"com/example/flicker/flicker/game/GameBuilder", "firstMissingId", "()I"⟩ prog_7_method_7_code 2 (some .int) [] { frames := 0, cells := 0, slots := 0, locals := 0 } #[(.ref a)] h0 (fun v h => v = some (.int own_fm_0) ∧ h0 = h) := by
  refine Does.start (plainFor_of_name pn_5) ?_
  intro p e s m below meth c T X
  replace X : Sd _ _ _ _ _ "com/example/flicker/flicker/game/GameBuilder" "firstMissingId" _ _ _ _ _ _ _ _ _ _ _ _ _ _ _ _ := X
  refine Wp.cast (g' := mkF m 0 #[.val (.ref a), .unset] []) (by first | (simp [entryFrame, mkF, argsToLocals, Value.category, maxLocals]; done) | rfl) ?_
  refine w_iconst X (0 : Int32) q7_7_0 rfl ?_
  refine w_istoreN X #[.val (.ref a), .val (.int (0 : Int32))] q7_7_1 rfl ?_
  refine w_iloadN X q7_7_2 rfl ?_
  refine w_aloadN X q7_7_3 rfl (rfl) ?_
  refine w_getF X q7_7_4 (host := "") (Or.inl (wd_111 hw)) Via.refl Fv (fun T X => ?_)
  refine w_icmpge X q7_7_7 (fun _ => ?_) (fun hc => absurd hc Int32.lt_irrefl)
  refine w_iloadN X q7_7_31 rfl ?_
  exact w_retI X q7_7_32 ⟨rfl, rfl⟩ (by decide) (by decide)
theorem m_fm_1 {l : Launch} {Z : State} {a0 : Array Value} {n0 : Nat} (hw : own_hw a0 Z) {h0 : Heap} {a d : Addr} {z0 : Int64} (Fv : Fld Z h0 a "com/example/flicker/flicker/game/GameBuilder" "vertexCount" "I" (.int (1 : Int32))) (Fd : Fld Z h0 a "com/example/flicker/flicker/game/GameBuilder" "byId" "[J" (.ref d)) (Ad : Ary Z h0 d .long [(.long z0)]) :
    Does l Z n0 ⟨"com/example/flicker/flicker/game/GameBuilder", "firstMissingId", "()I"⟩ prog_7_method_7_code 2 (some .int) [] { frames := 0, cells := 0, slots := 0, locals := 0 } #[(.ref a)] h0 (fun v h => v = some (.int (own_fm_1 z0)) ∧ h0 = h) := by
  refine Does.start (plainFor_of_name pn_5) ?_
  intro p e s m below meth c T X
  replace X : Sd _ _ _ _ _ "com/example/flicker/flicker/game/GameBuilder" "firstMissingId" _ _ _ _ _ _ _ _ _ _ _ _ _ _ _ _ := X
  refine Wp.cast (g' := mkF m 0 #[.val (.ref a), .unset] []) (by first | (simp [entryFrame, mkF, argsToLocals, Value.category, maxLocals]; done) | rfl) ?_
  refine w_iconst X (0 : Int32) q7_7_0 rfl ?_
  refine w_istoreN X #[.val (.ref a), .val (.int (0 : Int32))] q7_7_1 rfl ?_
  refine w_iloadN X q7_7_2 rfl ?_
  refine w_aloadN X q7_7_3 rfl (rfl) ?_
  refine w_getF X q7_7_4 (host := "") (Or.inl (wd_111 hw)) Via.refl Fv (fun T X => ?_)
  refine w_icmpge X q7_7_7 (fun hc => absurd (by decide) hc) (fun _ => ?_)
  refine w_aloadN X q7_7_10 rfl (rfl) ?_
  refine w_getF X q7_7_11 (host := "") (Or.inl (wd_113 hw)) Via.refl Fd (fun T X => ?_)
  refine w_iloadN X q7_7_14 rfl ?_
  refine w_laload X q7_7_15 Ad (by decide) rfl ?_
  refine w_bipush X (32 : Int32) q7_7_16 rfl ?_
  refine w_lushr X q7_7_18 ?_
  refine w_iloadN X q7_7_19 rfl ?_
  refine w_i2l X q7_7_20 ?_
  refine w_lne X q7_7_21 q7_7_22 (fun (hc22 : ¬ ((z0.toUInt64 >>> ((32 : Int32) &&& 0x3f).toInt64.toUInt64).toInt64) = (0 : Int64)) => ?_) (fun (hc22 : ((z0.toUInt64 >>> ((32 : Int32) &&& 0x3f).toInt64.toUInt64).toInt64) = (0 : Int64)) => ?_)
  · refine w_iloadN X q7_7_31 rfl ?_
    exact w_retI X q7_7_32 ⟨by unfold own_fm_1 own_hi; simp only [hc22, if_true, if_false], rfl⟩ (by decide) (by decide)
  · refine w_iinc X (1 : Int32) #[.val (.ref a), .val (.int (1 : Int32))] q7_7_25 rfl rfl rfl ?_
    refine w_goto X q7_7_28 ?_
    refine w_iloadN X q7_7_2 rfl ?_
    refine w_aloadN X q7_7_3 rfl (rfl) ?_
    refine w_getF X q7_7_4 (host := "") (Or.inl (wd_111 hw)) Via.refl Fv (fun T X => ?_)
    refine w_icmpge X q7_7_7 (fun _ => ?_) (fun hc => absurd hc Int32.lt_irrefl)
    refine w_iloadN X q7_7_31 rfl ?_
    exact w_retI X q7_7_32 ⟨by unfold own_fm_1 own_hi; simp only [hc22, if_true, if_false], rfl⟩ (by decide) (by decide)
theorem m_fm_2 {l : Launch} {Z : State} {a0 : Array Value} {n0 : Nat} (hw : own_hw a0 Z) {h0 : Heap} {a d : Addr} {z0 z1 : Int64} (Fv : Fld Z h0 a "com/example/flicker/flicker/game/GameBuilder" "vertexCount" "I" (.int (2 : Int32))) (Fd : Fld Z h0 a "com/example/flicker/flicker/game/GameBuilder" "byId" "[J" (.ref d)) (Ad : Ary Z h0 d .long [(.long z0), (.long z1)]) :
    Does l Z n0 ⟨"com/example/flicker/flicker/game/GameBuilder", "firstMissingId", "()I"⟩ prog_7_method_7_code 2 (some .int) [] { frames := 0, cells := 0, slots := 0, locals := 0 } #[(.ref a)] h0 (fun v h => v = some (.int (own_fm_2 z0 z1)) ∧ h0 = h) := by
  refine Does.start (plainFor_of_name pn_5) ?_
  intro p e s m below meth c T X
  replace X : Sd _ _ _ _ _ "com/example/flicker/flicker/game/GameBuilder" "firstMissingId" _ _ _ _ _ _ _ _ _ _ _ _ _ _ _ _ := X
  refine Wp.cast (g' := mkF m 0 #[.val (.ref a), .unset] []) (by first | (simp [entryFrame, mkF, argsToLocals, Value.category, maxLocals]; done) | rfl) ?_
  refine w_iconst X (0 : Int32) q7_7_0 rfl ?_
  refine w_istoreN X #[.val (.ref a), .val (.int (0 : Int32))] q7_7_1 rfl ?_
  refine w_iloadN X q7_7_2 rfl ?_
  refine w_aloadN X q7_7_3 rfl (rfl) ?_
  refine w_getF X q7_7_4 (host := "") (Or.inl (wd_111 hw)) Via.refl Fv (fun T X => ?_)
  refine w_icmpge X q7_7_7 (fun hc => absurd (by decide) hc) (fun _ => ?_)
  refine w_aloadN X q7_7_10 rfl (rfl) ?_
  refine w_getF X q7_7_11 (host := "") (Or.inl (wd_113 hw)) Via.refl Fd (fun T X => ?_)
  refine w_iloadN X q7_7_14 rfl ?_
  refine w_laload X q7_7_15 Ad (by decide) rfl ?_
  refine w_bipush X (32 : Int32) q7_7_16 rfl ?_
  refine w_lushr X q7_7_18 ?_
  refine w_iloadN X q7_7_19 rfl ?_
  refine w_i2l X q7_7_20 ?_
  refine w_lne X q7_7_21 q7_7_22 (fun (hc22 : ¬ ((z0.toUInt64 >>> ((32 : Int32) &&& 0x3f).toInt64.toUInt64).toInt64) = (0 : Int64)) => ?_) (fun (hc22 : ((z0.toUInt64 >>> ((32 : Int32) &&& 0x3f).toInt64.toUInt64).toInt64) = (0 : Int64)) => ?_)
  · refine w_iloadN X q7_7_31 rfl ?_
    exact w_retI X q7_7_32 ⟨by unfold own_fm_2 own_hi; simp only [hc22, if_true, if_false], rfl⟩ (by decide) (by decide)
  · refine w_iinc X (1 : Int32) #[.val (.ref a), .val (.int (1 : Int32))] q7_7_25 rfl rfl rfl ?_
    refine w_goto X q7_7_28 ?_
    refine w_iloadN X q7_7_2 rfl ?_
    refine w_aloadN X q7_7_3 rfl (rfl) ?_
    refine w_getF X q7_7_4 (host := "") (Or.inl (wd_111 hw)) Via.refl Fv (fun T X => ?_)
    refine w_icmpge X q7_7_7 (fun hc => absurd (by decide) hc) (fun _ => ?_)
    refine w_aloadN X q7_7_10 rfl (rfl) ?_
    refine w_getF X q7_7_11 (host := "") (Or.inl (wd_113 hw)) Via.refl Fd (fun T X => ?_)
    refine w_iloadN X q7_7_14 rfl ?_
    refine w_laload X q7_7_15 Ad (by decide) rfl ?_
    refine w_bipush X (32 : Int32) q7_7_16 rfl ?_
    refine w_lushr X q7_7_18 ?_
    refine w_iloadN X q7_7_19 rfl ?_
    refine w_i2l X q7_7_20 ?_
    refine w_lne X q7_7_21 q7_7_22 (fun (hc22_1 : ¬ ((z1.toUInt64 >>> ((32 : Int32) &&& 0x3f).toInt64.toUInt64).toInt64) = (1 : Int64)) => ?_) (fun (hc22_1 : ((z1.toUInt64 >>> ((32 : Int32) &&& 0x3f).toInt64.toUInt64).toInt64) = (1 : Int64)) => ?_)
    · refine w_iloadN X q7_7_31 rfl ?_
      exact w_retI X q7_7_32 ⟨by unfold own_fm_2 own_hi; simp only [hc22, hc22_1, if_true, if_false], rfl⟩ (by decide) (by decide)
    · refine w_iinc X (1 : Int32) #[.val (.ref a), .val (.int (2 : Int32))] q7_7_25 rfl rfl rfl ?_
      refine w_goto X q7_7_28 ?_
      refine w_iloadN X q7_7_2 rfl ?_
      refine w_aloadN X q7_7_3 rfl (rfl) ?_
      refine w_getF X q7_7_4 (host := "") (Or.inl (wd_111 hw)) Via.refl Fv (fun T X => ?_)
      refine w_icmpge X q7_7_7 (fun _ => ?_) (fun hc => absurd hc Int32.lt_irrefl)
      refine w_iloadN X q7_7_31 rfl ?_
      exact w_retI X q7_7_32 ⟨by unfold own_fm_2 own_hi; simp only [hc22, hc22_1, if_true, if_false], rfl⟩ (by decide) (by decide)
theorem m_fm_3 {l : Launch} {Z : State} {a0 : Array Value} {n0 : Nat} (hw : own_hw a0 Z) {h0 : Heap} {a d : Addr} {z0 z1 z2 : Int64} (Fv : Fld Z h0 a "com/example/flicker/flicker/game/GameBuilder" "vertexCount" "I" (.int (3 : Int32))) (Fd : Fld Z h0 a "com/example/flicker/flicker/game/GameBuilder" "byId" "[J" (.ref d)) (Ad : Ary Z h0 d .long [(.long z0), (.long z1), (.long z2)]) :
    Does l Z n0 ⟨"com/example/flicker/flicker/game/GameBuilder", "firstMissingId", "()I"⟩ prog_7_method_7_code 2 (some .int) [] { frames := 0, cells := 0, slots := 0, locals := 0 } #[(.ref a)] h0 (fun v h => v = some (.int (own_fm_3 z0 z1 z2)) ∧ h0 = h) := by
  refine Does.start (plainFor_of_name pn_5) ?_
  intro p e s m below meth c T X
  replace X : Sd _ _ _ _ _ "com/example/flicker/flicker/game/GameBuilder" "firstMissingId" _ _ _ _ _ _ _ _ _ _ _ _ _ _ _ _ := X
  refine Wp.cast (g' := mkF m 0 #[.val (.ref a), .unset] []) (by first | (simp [entryFrame, mkF, argsToLocals, Value.category, maxLocals]; done) | rfl) ?_
  refine w_iconst X (0 : Int32) q7_7_0 rfl ?_
  refine w_istoreN X #[.val (.ref a), .val (.int (0 : Int32))] q7_7_1 rfl ?_
  refine w_iloadN X q7_7_2 rfl ?_
  refine w_aloadN X q7_7_3 rfl (rfl) ?_
  refine w_getF X q7_7_4 (host := "") (Or.inl (wd_111 hw)) Via.refl Fv (fun T X => ?_)
  refine w_icmpge X q7_7_7 (fun hc => absurd (by decide) hc) (fun _ => ?_)
  refine w_aloadN X q7_7_10 rfl (rfl) ?_
  refine w_getF X q7_7_11 (host := "") (Or.inl (wd_113 hw)) Via.refl Fd (fun T X => ?_)
  refine w_iloadN X q7_7_14 rfl ?_
  refine w_laload X q7_7_15 Ad (by decide) rfl ?_
  refine w_bipush X (32 : Int32) q7_7_16 rfl ?_
  refine w_lushr X q7_7_18 ?_
  refine w_iloadN X q7_7_19 rfl ?_
  refine w_i2l X q7_7_20 ?_
  refine w_lne X q7_7_21 q7_7_22 (fun (hc22 : ¬ ((z0.toUInt64 >>> ((32 : Int32) &&& 0x3f).toInt64.toUInt64).toInt64) = (0 : Int64)) => ?_) (fun (hc22 : ((z0.toUInt64 >>> ((32 : Int32) &&& 0x3f).toInt64.toUInt64).toInt64) = (0 : Int64)) => ?_)
  · refine w_iloadN X q7_7_31 rfl ?_
    exact w_retI X q7_7_32 ⟨by unfold own_fm_3 own_hi; simp only [hc22, if_true, if_false], rfl⟩ (by decide) (by decide)
  · refine w_iinc X (1 : Int32) #[.val (.ref a), .val (.int (1 : Int32))] q7_7_25 rfl rfl rfl ?_
    refine w_goto X q7_7_28 ?_
    refine w_iloadN X q7_7_2 rfl ?_
    refine w_aloadN X q7_7_3 rfl (rfl) ?_
    refine w_getF X q7_7_4 (host := "") (Or.inl (wd_111 hw)) Via.refl Fv (fun T X => ?_)
    refine w_icmpge X q7_7_7 (fun hc => absurd (by decide) hc) (fun _ => ?_)
    refine w_aloadN X q7_7_10 rfl (rfl) ?_
    refine w_getF X q7_7_11 (host := "") (Or.inl (wd_113 hw)) Via.refl Fd (fun T X => ?_)
    refine w_iloadN X q7_7_14 rfl ?_
    refine w_laload X q7_7_15 Ad (by decide) rfl ?_
    refine w_bipush X (32 : Int32) q7_7_16 rfl ?_
    refine w_lushr X q7_7_18 ?_
    refine w_iloadN X q7_7_19 rfl ?_
    refine w_i2l X q7_7_20 ?_
    refine w_lne X q7_7_21 q7_7_22 (fun (hc22_1 : ¬ ((z1.toUInt64 >>> ((32 : Int32) &&& 0x3f).toInt64.toUInt64).toInt64) = (1 : Int64)) => ?_) (fun (hc22_1 : ((z1.toUInt64 >>> ((32 : Int32) &&& 0x3f).toInt64.toUInt64).toInt64) = (1 : Int64)) => ?_)
    · refine w_iloadN X q7_7_31 rfl ?_
      exact w_retI X q7_7_32 ⟨by unfold own_fm_3 own_hi; simp only [hc22, hc22_1, if_true, if_false], rfl⟩ (by decide) (by decide)
    · refine w_iinc X (1 : Int32) #[.val (.ref a), .val (.int (2 : Int32))] q7_7_25 rfl rfl rfl ?_
      refine w_goto X q7_7_28 ?_
      refine w_iloadN X q7_7_2 rfl ?_
      refine w_aloadN X q7_7_3 rfl (rfl) ?_
      refine w_getF X q7_7_4 (host := "") (Or.inl (wd_111 hw)) Via.refl Fv (fun T X => ?_)
      refine w_icmpge X q7_7_7 (fun hc => absurd (by decide) hc) (fun _ => ?_)
      refine w_aloadN X q7_7_10 rfl (rfl) ?_
      refine w_getF X q7_7_11 (host := "") (Or.inl (wd_113 hw)) Via.refl Fd (fun T X => ?_)
      refine w_iloadN X q7_7_14 rfl ?_
      refine w_laload X q7_7_15 Ad (by decide) rfl ?_
      refine w_bipush X (32 : Int32) q7_7_16 rfl ?_
      refine w_lushr X q7_7_18 ?_
      refine w_iloadN X q7_7_19 rfl ?_
      refine w_i2l X q7_7_20 ?_
      refine w_lne X q7_7_21 q7_7_22 (fun (hc22_2 : ¬ ((z2.toUInt64 >>> ((32 : Int32) &&& 0x3f).toInt64.toUInt64).toInt64) = (2 : Int64)) => ?_) (fun (hc22_2 : ((z2.toUInt64 >>> ((32 : Int32) &&& 0x3f).toInt64.toUInt64).toInt64) = (2 : Int64)) => ?_)
      · refine w_iloadN X q7_7_31 rfl ?_
        exact w_retI X q7_7_32 ⟨by unfold own_fm_3 own_hi; simp only [hc22, hc22_1, hc22_2, if_true, if_false], rfl⟩ (by decide) (by decide)
      · refine w_iinc X (1 : Int32) #[.val (.ref a), .val (.int (3 : Int32))] q7_7_25 rfl rfl rfl ?_
        refine w_goto X q7_7_28 ?_
        refine w_iloadN X q7_7_2 rfl ?_
        refine w_aloadN X q7_7_3 rfl (rfl) ?_
        refine w_getF X q7_7_4 (host := "") (Or.inl (wd_111 hw)) Via.refl Fv (fun T X => ?_)
        refine w_icmpge X q7_7_7 (fun _ => ?_) (fun hc => absurd hc Int32.lt_irrefl)
        refine w_iloadN X q7_7_31 rfl ?_
        exact w_retI X q7_7_32 ⟨by unfold own_fm_3 own_hi; simp only [hc22, hc22_1, hc22_2, if_true, if_false], rfl⟩ (by decide) (by decide)
theorem m_fm_4 {l : Launch} {Z : State} {a0 : Array Value} {n0 : Nat} (hw : own_hw a0 Z) {h0 : Heap} {a d : Addr} {z0 z1 z2 z3 : Int64} (Fv : Fld Z h0 a "com/example/flicker/flicker/game/GameBuilder" "vertexCount" "I" (.int (4 : Int32))) (Fd : Fld Z h0 a "com/example/flicker/flicker/game/GameBuilder" "byId" "[J" (.ref d)) (Ad : Ary Z h0 d .long [(.long z0), (.long z1), (.long z2), (.long z3)]) :
    Does l Z n0 ⟨"com/example/flicker/flicker/game/GameBuilder", "firstMissingId", "()I"⟩ prog_7_method_7_code 2 (some .int) [] { frames := 0, cells := 0, slots := 0, locals := 0 } #[(.ref a)] h0 (fun v h => v = some (.int (own_fm_4 z0 z1 z2 z3)) ∧ h0 = h) := by
  refine Does.start (plainFor_of_name pn_5) ?_
  intro p e s m below meth c T X
  replace X : Sd _ _ _ _ _ "com/example/flicker/flicker/game/GameBuilder" "firstMissingId" _ _ _ _ _ _ _ _ _ _ _ _ _ _ _ _ := X
  refine Wp.cast (g' := mkF m 0 #[.val (.ref a), .unset] []) (by first | (simp [entryFrame, mkF, argsToLocals, Value.category, maxLocals]; done) | rfl) ?_
  refine w_iconst X (0 : Int32) q7_7_0 rfl ?_
  refine w_istoreN X #[.val (.ref a), .val (.int (0 : Int32))] q7_7_1 rfl ?_
  refine w_iloadN X q7_7_2 rfl ?_
  refine w_aloadN X q7_7_3 rfl (rfl) ?_
  refine w_getF X q7_7_4 (host := "") (Or.inl (wd_111 hw)) Via.refl Fv (fun T X => ?_)
  refine w_icmpge X q7_7_7 (fun hc => absurd (by decide) hc) (fun _ => ?_)
  refine w_aloadN X q7_7_10 rfl (rfl) ?_
  refine w_getF X q7_7_11 (host := "") (Or.inl (wd_113 hw)) Via.refl Fd (fun T X => ?_)
  refine w_iloadN X q7_7_14 rfl ?_
  refine w_laload X q7_7_15 Ad (by decide) rfl ?_
  refine w_bipush X (32 : Int32) q7_7_16 rfl ?_
  refine w_lushr X q7_7_18 ?_
  refine w_iloadN X q7_7_19 rfl ?_
  refine w_i2l X q7_7_20 ?_
  refine w_lne X q7_7_21 q7_7_22 (fun (hc22 : ¬ ((z0.toUInt64 >>> ((32 : Int32) &&& 0x3f).toInt64.toUInt64).toInt64) = (0 : Int64)) => ?_) (fun (hc22 : ((z0.toUInt64 >>> ((32 : Int32) &&& 0x3f).toInt64.toUInt64).toInt64) = (0 : Int64)) => ?_)
  · refine w_iloadN X q7_7_31 rfl ?_
    exact w_retI X q7_7_32 ⟨by unfold own_fm_4 own_hi; simp only [hc22, if_true, if_false], rfl⟩ (by decide) (by decide)
  · refine w_iinc X (1 : Int32) #[.val (.ref a), .val (.int (1 : Int32))] q7_7_25 rfl rfl rfl ?_
    refine w_goto X q7_7_28 ?_
    refine w_iloadN X q7_7_2 rfl ?_
    refine w_aloadN X q7_7_3 rfl (rfl) ?_
    refine w_getF X q7_7_4 (host := "") (Or.inl (wd_111 hw)) Via.refl Fv (fun T X => ?_)
    refine w_icmpge X q7_7_7 (fun hc => absurd (by decide) hc) (fun _ => ?_)
    refine w_aloadN X q7_7_10 rfl (rfl) ?_
    refine w_getF X q7_7_11 (host := "") (Or.inl (wd_113 hw)) Via.refl Fd (fun T X => ?_)
    refine w_iloadN X q7_7_14 rfl ?_
    refine w_laload X q7_7_15 Ad (by decide) rfl ?_
    refine w_bipush X (32 : Int32) q7_7_16 rfl ?_
    refine w_lushr X q7_7_18 ?_
    refine w_iloadN X q7_7_19 rfl ?_
    refine w_i2l X q7_7_20 ?_
    refine w_lne X q7_7_21 q7_7_22 (fun (hc22_1 : ¬ ((z1.toUInt64 >>> ((32 : Int32) &&& 0x3f).toInt64.toUInt64).toInt64) = (1 : Int64)) => ?_) (fun (hc22_1 : ((z1.toUInt64 >>> ((32 : Int32) &&& 0x3f).toInt64.toUInt64).toInt64) = (1 : Int64)) => ?_)
    · refine w_iloadN X q7_7_31 rfl ?_
      exact w_retI X q7_7_32 ⟨by unfold own_fm_4 own_hi; simp only [hc22, hc22_1, if_true, if_false], rfl⟩ (by decide) (by decide)
    · refine w_iinc X (1 : Int32) #[.val (.ref a), .val (.int (2 : Int32))] q7_7_25 rfl rfl rfl ?_
      refine w_goto X q7_7_28 ?_
      refine w_iloadN X q7_7_2 rfl ?_
      refine w_aloadN X q7_7_3 rfl (rfl) ?_
      refine w_getF X q7_7_4 (host := "") (Or.inl (wd_111 hw)) Via.refl Fv (fun T X => ?_)
      refine w_icmpge X q7_7_7 (fun hc => absurd (by decide) hc) (fun _ => ?_)
      refine w_aloadN X q7_7_10 rfl (rfl) ?_
      refine w_getF X q7_7_11 (host := "") (Or.inl (wd_113 hw)) Via.refl Fd (fun T X => ?_)
      refine w_iloadN X q7_7_14 rfl ?_
      refine w_laload X q7_7_15 Ad (by decide) rfl ?_
      refine w_bipush X (32 : Int32) q7_7_16 rfl ?_
      refine w_lushr X q7_7_18 ?_
      refine w_iloadN X q7_7_19 rfl ?_
      refine w_i2l X q7_7_20 ?_
      refine w_lne X q7_7_21 q7_7_22 (fun (hc22_2 : ¬ ((z2.toUInt64 >>> ((32 : Int32) &&& 0x3f).toInt64.toUInt64).toInt64) = (2 : Int64)) => ?_) (fun (hc22_2 : ((z2.toUInt64 >>> ((32 : Int32) &&& 0x3f).toInt64.toUInt64).toInt64) = (2 : Int64)) => ?_)
      · refine w_iloadN X q7_7_31 rfl ?_
        exact w_retI X q7_7_32 ⟨by unfold own_fm_4 own_hi; simp only [hc22, hc22_1, hc22_2, if_true, if_false], rfl⟩ (by decide) (by decide)
      · refine w_iinc X (1 : Int32) #[.val (.ref a), .val (.int (3 : Int32))] q7_7_25 rfl rfl rfl ?_
        refine w_goto X q7_7_28 ?_
        refine w_iloadN X q7_7_2 rfl ?_
        refine w_aloadN X q7_7_3 rfl (rfl) ?_
        refine w_getF X q7_7_4 (host := "") (Or.inl (wd_111 hw)) Via.refl Fv (fun T X => ?_)
        refine w_icmpge X q7_7_7 (fun hc => absurd (by decide) hc) (fun _ => ?_)
        refine w_aloadN X q7_7_10 rfl (rfl) ?_
        refine w_getF X q7_7_11 (host := "") (Or.inl (wd_113 hw)) Via.refl Fd (fun T X => ?_)
        refine w_iloadN X q7_7_14 rfl ?_
        refine w_laload X q7_7_15 Ad (by decide) rfl ?_
        refine w_bipush X (32 : Int32) q7_7_16 rfl ?_
        refine w_lushr X q7_7_18 ?_
        refine w_iloadN X q7_7_19 rfl ?_
        refine w_i2l X q7_7_20 ?_
        refine w_lne X q7_7_21 q7_7_22 (fun (hc22_3 : ¬ ((z3.toUInt64 >>> ((32 : Int32) &&& 0x3f).toInt64.toUInt64).toInt64) = (3 : Int64)) => ?_) (fun (hc22_3 : ((z3.toUInt64 >>> ((32 : Int32) &&& 0x3f).toInt64.toUInt64).toInt64) = (3 : Int64)) => ?_)
        · refine w_iloadN X q7_7_31 rfl ?_
          exact w_retI X q7_7_32 ⟨by unfold own_fm_4 own_hi; simp only [hc22, hc22_1, hc22_2, hc22_3, if_true, if_false], rfl⟩ (by decide) (by decide)
        · refine w_iinc X (1 : Int32) #[.val (.ref a), .val (.int (4 : Int32))] q7_7_25 rfl rfl rfl ?_
          refine w_goto X q7_7_28 ?_
          refine w_iloadN X q7_7_2 rfl ?_
          refine w_aloadN X q7_7_3 rfl (rfl) ?_
          refine w_getF X q7_7_4 (host := "") (Or.inl (wd_111 hw)) Via.refl Fv (fun T X => ?_)
          refine w_icmpge X q7_7_7 (fun _ => ?_) (fun hc => absurd hc Int32.lt_irrefl)
          refine w_iloadN X q7_7_31 rfl ?_
          exact w_retI X q7_7_32 ⟨by unfold own_fm_4 own_hi; simp only [hc22, hc22_1, hc22_2, hc22_3, if_true, if_false], rfl⟩ (by decide) (by decide)
theorem m_lawq_0 {l : Launch} {Z : State} {a0 : Array Value} {n0 : Nat} (hw : own_hw a0 Z) {h0 : Heap} {a ids pr nm sb en ln se ss : Addr} {x0 x1 x2 x3 : Int32}  {arr : Addr} {cc gg1 gg2 gg3 gg4 w nn rv r0 s0 s1 s2 s3 : Int32} (hnn : nn = (0 : Int32)) (hG : own_GB Z h0 n0 a ids pr nm sb en ln se ss (0 : Int32) x0 x1 x2 x3) (hs : own_srt [] = [])  
    {p : Program} {e : Env} {s : State} {m : MethodId} {args : Array Value} {below : List Frame} {meth : Method} {c : Code} {T : State} {locs : List Loc} {kk : Nat} {u : Vm} (X : Sd Z n0 kk code 16 "com/example/flicker/flicker/game/GameBuilderFirstMissingIdPinLaw" "law" (some .boolean) h0 p l e room_1 (s.setVm u) m args below meth c T locs 20 1215) (Y : s.Since u kk) :
    Wp p e below (PoW Z n0 s (fun v _ => v = some (.int 1)) room_1.cells room_1.slots) (T.setTop (mkF m 238 #[.val (.int cc), .val (.int gg1), .val (.int gg2), .val (.int gg3), .val (.int gg4), .val (.int w), .val (.int nn), .val (.int s0), .val (.int s1), .val (.int s2), .val (.int s3), .val (.ref arr), .val (.int rv), .val (.int r0), .val (.ref a), .unset] [])) := by
  refine w_aload X d_238 rfl (rfl) ?_
  refine w_callV X d_240 (wd_106 hw) (wd_107 hw) (notFace_of_selects (args := #[]) (mvT X.hZ (wd_109 hw))) (wd_109 hw) (wd_108 hw) (wd_8 hw) (wd_110 hw) (by decide) (hG.2.2.2.2.2.2.2.2.2.1) (argsL := []) (S := []) (m_cd_0 hw hG hs ) pd_2 rfl rfl rfl (by decide) (Nat.le_of_ble_eq_true rfl) (by decide) (by decide) (fun T h1 v1 L1 X q1 => ?_)
  obtain ⟨rfl, Kc1, d1, Eq1, Fv1, Fd1, Ad1⟩ := q1
  show Wp _ _ _ _ (T.setTop (mkF _ _ _ []))
  refine w_iconst X (0 : Int32) d_243 rfl ?_
  refine w_istore X #[.val (.int cc), .val (.int gg1), .val (.int gg2), .val (.int gg3), .val (.int gg4), .val (.int w), .val (.int nn), .val (.int s0), .val (.int s1), .val (.int s2), .val (.int s3), .val (.ref arr), .val (.int rv), .val (.int r0), .val (.ref a), .val (.int (0 : Int32))] d_244 rfl ?_
  refine w_iload X d_246 rfl ?_
  refine w_ifle X d_248 (fun _ => ?_) (fun hc => absurd hc (by rw [hnn]; decide))
  refine w_aload X d_304 rfl (rfl) ?_
  refine w_callV X d_306 (wd_129 hw) (wd_130 hw) (notFace_of_selects (args := #[]) (mvT X.hZ (wd_132 hw))) (wd_132 hw) (wd_131 hw) (wd_8 hw) (wd_133 hw) (by decide) Eq1 (argsL := []) (S := []) (m_fm_0 hw Fv1 Fd1 Ad1) pd_3 rfl rfl rfl (by decide) (Nat.le_of_ble_eq_true rfl) (by decide) (by decide) (fun T h2 v2 L2 X q2 => ?_)
  obtain ⟨rfl, rfl⟩ := q2
  show Wp _ _ _ _ (T.setTop (mkF _ _ _ [(.int own_fm_0)]))
  refine w_iload X d_309 rfl ?_
  refine w_icmpne X d_311 (fun hc => absurd rfl hc) (fun _ => ?_)
  refine w_iconst X (1 : Int32) d_314 rfl ?_
  refine w_goto X d_315 ?_
  exact v_ret_boolean X Y (1 : Int32) (by decide) d_319 rfl (by decide) (by decide)
theorem m_lawq_1 {l : Launch} {Z : State} {a0 : Array Value} {n0 : Nat} (hw : own_hw a0 Z) {h0 : Heap} {a ids pr nm sb en ln se ss : Addr} {x0 x1 x2 x3 : Int32} {z0 : Int64} {arr : Addr} {cc gg1 gg2 gg3 gg4 w nn rv r0 s0 s1 s2 s3 : Int32} (hnn : nn = (1 : Int32)) (hG : own_GB Z h0 n0 a ids pr nm sb en ln se ss (1 : Int32) x0 x1 x2 x3) (hs : own_srt [own_key x0 (0 : Int64)] = [z0])  (hz0 : own_hi z0 = s0.toInt64)
    {p : Program} {e : Env} {s : State} {m : MethodId} {args : Array Value} {below : List Frame} {meth : Method} {c : Code} {T : State} {locs : List Loc} {kk : Nat} {u : Vm} (X : Sd Z n0 kk code 16 "com/example/flicker/flicker/game/GameBuilderFirstMissingIdPinLaw" "law" (some .boolean) h0 p l e room_1 (s.setVm u) m args below meth c T locs 20 1215) (Y : s.Since u kk) :
    Wp p e below (PoW Z n0 s (fun v _ => v = some (.int 1)) room_1.cells room_1.slots) (T.setTop (mkF m 238 #[.val (.int cc), .val (.int gg1), .val (.int gg2), .val (.int gg3), .val (.int gg4), .val (.int w), .val (.int nn), .val (.int s0), .val (.int s1), .val (.int s2), .val (.int s3), .val (.ref arr), .val (.int rv), .val (.int r0), .val (.ref a), .unset] [])) := by
  refine w_aload X d_238 rfl (rfl) ?_
  refine w_callV X d_240 (wd_106 hw) (wd_107 hw) (notFace_of_selects (args := #[]) (mvT X.hZ (wd_109 hw))) (wd_109 hw) (wd_108 hw) (wd_8 hw) (wd_110 hw) (by decide) (hG.2.2.2.2.2.2.2.2.2.1) (argsL := []) (S := []) (m_cd_1 hw hG hs ) pd_2 rfl rfl rfl (by decide) (Nat.le_of_ble_eq_true rfl) (by decide) (by decide) (fun T h1 v1 L1 X q1 => ?_)
  obtain ⟨rfl, Kc1, d1, Eq1, Fv1, Fd1, Ad1⟩ := q1
  show Wp _ _ _ _ (T.setTop (mkF _ _ _ []))
  refine w_iconst X (0 : Int32) d_243 rfl ?_
  refine w_istore X #[.val (.int cc), .val (.int gg1), .val (.int gg2), .val (.int gg3), .val (.int gg4), .val (.int w), .val (.int nn), .val (.int s0), .val (.int s1), .val (.int s2), .val (.int s3), .val (.ref arr), .val (.int rv), .val (.int r0), .val (.ref a), .val (.int (0 : Int32))] d_244 rfl ?_
  refine w_iload X d_246 rfl ?_
  refine w_ifle X d_248 (fun hc => absurd (by rw [hnn]; decide) hc) (fun _ => ?_)
  refine w_iload X d_251 rfl ?_
  refine w_ifne X d_253 (fun (hc253 : ¬ s0 = (0 : Int32)) => ?_) (fun (hc253 : s0 = (0 : Int32)) => ?_)
  · refine w_aload X d_304 rfl (rfl) ?_
    refine w_callV X d_306 (wd_129 hw) (wd_130 hw) (notFace_of_selects (args := #[]) (mvT X.hZ (wd_132 hw))) (wd_132 hw) (wd_131 hw) (wd_8 hw) (wd_133 hw) (by decide) Eq1 (argsL := []) (S := []) (m_fm_1 hw Fv1 Fd1 Ad1) pd_3 rfl rfl rfl (by decide) (Nat.le_of_ble_eq_true rfl) (by decide) (by decide) (fun T h2 v2 L2 X q2 => ?_)
    obtain ⟨rfl, rfl⟩ := q2
    show Wp _ _ _ _ (T.setTop (mkF _ _ _ [(.int (own_fm_1 z0))]))
    refine w_iload X d_309 rfl ?_
    refine w_icmpne X d_311 (fun hc => absurd (by unfold own_fm_1; simp only [hz0, own_64_0, hc253, if_true, if_false]) hc) (fun _ => ?_)
    refine w_iconst X (1 : Int32) d_314 rfl ?_
    refine w_goto X d_315 ?_
    exact v_ret_boolean X Y (1 : Int32) (by decide) d_319 rfl (by decide) (by decide)
  · refine w_iconst X (1 : Int32) d_256 rfl ?_
    refine w_istore X #[.val (.int cc), .val (.int gg1), .val (.int gg2), .val (.int gg3), .val (.int gg4), .val (.int w), .val (.int nn), .val (.int s0), .val (.int s1), .val (.int s2), .val (.int s3), .val (.ref arr), .val (.int rv), .val (.int r0), .val (.ref a), .val (.int (1 : Int32))] d_257 rfl ?_
    refine w_iload X d_259 rfl ?_
    refine w_iconst X (1 : Int32) d_261 rfl ?_
    refine w_icmple X d_262 (fun _ => ?_) (fun hc => absurd hc (by rw [hnn]; decide))
    refine w_aload X d_304 rfl (rfl) ?_
    refine w_callV X d_306 (wd_129 hw) (wd_130 hw) (notFace_of_selects (args := #[]) (mvT X.hZ (wd_132 hw))) (wd_132 hw) (wd_131 hw) (wd_8 hw) (wd_133 hw) (by decide) Eq1 (argsL := []) (S := []) (m_fm_1 hw Fv1 Fd1 Ad1) pd_3 rfl rfl rfl (by decide) (Nat.le_of_ble_eq_true rfl) (by decide) (by decide) (fun T h3 v3 L3 X q3 => ?_)
    obtain ⟨rfl, rfl⟩ := q3
    show Wp _ _ _ _ (T.setTop (mkF _ _ _ [(.int (own_fm_1 z0))]))
    refine w_iload X d_309 rfl ?_
    refine w_icmpne X d_311 (fun hc => absurd (by unfold own_fm_1; simp only [hz0, own_64_0, hc253, if_true, if_false]) hc) (fun _ => ?_)
    refine w_iconst X (1 : Int32) d_314 rfl ?_
    refine w_goto X d_315 ?_
    exact v_ret_boolean X Y (1 : Int32) (by decide) d_319 rfl (by decide) (by decide)
theorem m_lawq_2 {l : Launch} {Z : State} {a0 : Array Value} {n0 : Nat} (hw : own_hw a0 Z) {h0 : Heap} {a ids pr nm sb en ln se ss : Addr} {x0 x1 x2 x3 : Int32} {z0 z1 : Int64} {arr : Addr} {cc gg1 gg2 gg3 gg4 w nn rv r0 s0 s1 s2 s3 : Int32} (hnn : nn = (2 : Int32)) (hG : own_GB Z h0 n0 a ids pr nm sb en ln se ss (2 : Int32) x0 x1 x2 x3) (hs : own_srt [own_key x0 (0 : Int64), own_key x1 (1 : Int64)] = [z0, z1]) (hne1 : ¬ own_hi z1 = own_hi z0) (hz0 : own_hi z0 = s0.toInt64) (hz1 : own_hi z1 = s1.toInt64)
    {p : Program} {e : Env} {s : State} {m : MethodId} {args : Array Value} {below : List Frame} {meth : Method} {c : Code} {T : State} {locs : List Loc} {kk : Nat} {u : Vm} (X : Sd Z n0 kk code 16 "com/example/flicker/flicker/game/GameBuilderFirstMissingIdPinLaw" "law" (some .boolean) h0 p l e room_1 (s.setVm u) m args below meth c T locs 20 1215) (Y : s.Since u kk) :
    Wp p e below (PoW Z n0 s (fun v _ => v = some (.int 1)) room_1.cells room_1.slots) (T.setTop (mkF m 238 #[.val (.int cc), .val (.int gg1), .val (.int gg2), .val (.int gg3), .val (.int gg4), .val (.int w), .val (.int nn), .val (.int s0), .val (.int s1), .val (.int s2), .val (.int s3), .val (.ref arr), .val (.int rv), .val (.int r0), .val (.ref a), .unset] [])) := by
  refine w_aload X d_238 rfl (rfl) ?_
  refine w_callV X d_240 (wd_106 hw) (wd_107 hw) (notFace_of_selects (args := #[]) (mvT X.hZ (wd_109 hw))) (wd_109 hw) (wd_108 hw) (wd_8 hw) (wd_110 hw) (by decide) (hG.2.2.2.2.2.2.2.2.2.1) (argsL := []) (S := []) (m_cd_2 hw hG hs hne1) pd_2 rfl rfl rfl (by decide) (Nat.le_of_ble_eq_true rfl) (by decide) (by decide) (fun T h1 v1 L1 X q1 => ?_)
  obtain ⟨rfl, Kc1, d1, Eq1, Fv1, Fd1, Ad1⟩ := q1
  show Wp _ _ _ _ (T.setTop (mkF _ _ _ []))
  refine w_iconst X (0 : Int32) d_243 rfl ?_
  refine w_istore X #[.val (.int cc), .val (.int gg1), .val (.int gg2), .val (.int gg3), .val (.int gg4), .val (.int w), .val (.int nn), .val (.int s0), .val (.int s1), .val (.int s2), .val (.int s3), .val (.ref arr), .val (.int rv), .val (.int r0), .val (.ref a), .val (.int (0 : Int32))] d_244 rfl ?_
  refine w_iload X d_246 rfl ?_
  refine w_ifle X d_248 (fun hc => absurd (by rw [hnn]; decide) hc) (fun _ => ?_)
  refine w_iload X d_251 rfl ?_
  refine w_ifne X d_253 (fun (hc253 : ¬ s0 = (0 : Int32)) => ?_) (fun (hc253 : s0 = (0 : Int32)) => ?_)
  · refine w_aload X d_304 rfl (rfl) ?_
    refine w_callV X d_306 (wd_129 hw) (wd_130 hw) (notFace_of_selects (args := #[]) (mvT X.hZ (wd_132 hw))) (wd_132 hw) (wd_131 hw) (wd_8 hw) (wd_133 hw) (by decide) Eq1 (argsL := []) (S := []) (m_fm_2 hw Fv1 Fd1 Ad1) pd_3 rfl rfl rfl (by decide) (Nat.le_of_ble_eq_true rfl) (by decide) (by decide) (fun T h2 v2 L2 X q2 => ?_)
    obtain ⟨rfl, rfl⟩ := q2
    show Wp _ _ _ _ (T.setTop (mkF _ _ _ [(.int (own_fm_2 z0 z1))]))
    refine w_iload X d_309 rfl ?_
    refine w_icmpne X d_311 (fun hc => absurd (by unfold own_fm_2; simp only [hz0, own_64_0, hz1, own_64_1, hc253, if_true, if_false]) hc) (fun _ => ?_)
    refine w_iconst X (1 : Int32) d_314 rfl ?_
    refine w_goto X d_315 ?_
    exact v_ret_boolean X Y (1 : Int32) (by decide) d_319 rfl (by decide) (by decide)
  · refine w_iconst X (1 : Int32) d_256 rfl ?_
    refine w_istore X #[.val (.int cc), .val (.int gg1), .val (.int gg2), .val (.int gg3), .val (.int gg4), .val (.int w), .val (.int nn), .val (.int s0), .val (.int s1), .val (.int s2), .val (.int s3), .val (.ref arr), .val (.int rv), .val (.int r0), .val (.ref a), .val (.int (1 : Int32))] d_257 rfl ?_
    refine w_iload X d_259 rfl ?_
    refine w_iconst X (1 : Int32) d_261 rfl ?_
    refine w_icmple X d_262 (fun hc => absurd (by rw [hnn]; decide) hc) (fun _ => ?_)
    refine w_iload X d_265 rfl ?_
    refine w_iconst X (1 : Int32) d_267 rfl ?_
    refine w_icmpne X d_268 (fun (hc268 : ¬ s1 = (1 : Int32)) => ?_) (fun (hc268 : s1 = (1 : Int32)) => ?_)
    · refine w_aload X d_304 rfl (rfl) ?_
      refine w_callV X d_306 (wd_129 hw) (wd_130 hw) (notFace_of_selects (args := #[]) (mvT X.hZ (wd_132 hw))) (wd_132 hw) (wd_131 hw) (wd_8 hw) (wd_133 hw) (by decide) Eq1 (argsL := []) (S := []) (m_fm_2 hw Fv1 Fd1 Ad1) pd_3 rfl rfl rfl (by decide) (Nat.le_of_ble_eq_true rfl) (by decide) (by decide) (fun T h3 v3 L3 X q3 => ?_)
      obtain ⟨rfl, rfl⟩ := q3
      show Wp _ _ _ _ (T.setTop (mkF _ _ _ [(.int (own_fm_2 z0 z1))]))
      refine w_iload X d_309 rfl ?_
      refine w_icmpne X d_311 (fun hc => absurd (by unfold own_fm_2; simp only [hz0, own_64_0, hz1, own_64_1, hc253, hc268, if_true, if_false]) hc) (fun _ => ?_)
      refine w_iconst X (1 : Int32) d_314 rfl ?_
      refine w_goto X d_315 ?_
      exact v_ret_boolean X Y (1 : Int32) (by decide) d_319 rfl (by decide) (by decide)
    · refine w_iconst X (2 : Int32) d_271 rfl ?_
      refine w_istore X #[.val (.int cc), .val (.int gg1), .val (.int gg2), .val (.int gg3), .val (.int gg4), .val (.int w), .val (.int nn), .val (.int s0), .val (.int s1), .val (.int s2), .val (.int s3), .val (.ref arr), .val (.int rv), .val (.int r0), .val (.ref a), .val (.int (2 : Int32))] d_272 rfl ?_
      refine w_iload X d_274 rfl ?_
      refine w_iconst X (2 : Int32) d_276 rfl ?_
      refine w_icmple X d_277 (fun _ => ?_) (fun hc => absurd hc (by rw [hnn]; decide))
      refine w_aload X d_304 rfl (rfl) ?_
      refine w_callV X d_306 (wd_129 hw) (wd_130 hw) (notFace_of_selects (args := #[]) (mvT X.hZ (wd_132 hw))) (wd_132 hw) (wd_131 hw) (wd_8 hw) (wd_133 hw) (by decide) Eq1 (argsL := []) (S := []) (m_fm_2 hw Fv1 Fd1 Ad1) pd_3 rfl rfl rfl (by decide) (Nat.le_of_ble_eq_true rfl) (by decide) (by decide) (fun T h4 v4 L4 X q4 => ?_)
      obtain ⟨rfl, rfl⟩ := q4
      show Wp _ _ _ _ (T.setTop (mkF _ _ _ [(.int (own_fm_2 z0 z1))]))
      refine w_iload X d_309 rfl ?_
      refine w_icmpne X d_311 (fun hc => absurd (by unfold own_fm_2; simp only [hz0, own_64_0, hz1, own_64_1, hc253, hc268, if_true, if_false]) hc) (fun _ => ?_)
      refine w_iconst X (1 : Int32) d_314 rfl ?_
      refine w_goto X d_315 ?_
      exact v_ret_boolean X Y (1 : Int32) (by decide) d_319 rfl (by decide) (by decide)
theorem m_lawq_3 {l : Launch} {Z : State} {a0 : Array Value} {n0 : Nat} (hw : own_hw a0 Z) {h0 : Heap} {a ids pr nm sb en ln se ss : Addr} {x0 x1 x2 x3 : Int32} {z0 z1 z2 : Int64} {arr : Addr} {cc gg1 gg2 gg3 gg4 w nn rv r0 s0 s1 s2 s3 : Int32} (hnn : nn = (3 : Int32)) (hG : own_GB Z h0 n0 a ids pr nm sb en ln se ss (3 : Int32) x0 x1 x2 x3) (hs : own_srt [own_key x0 (0 : Int64), own_key x1 (1 : Int64), own_key x2 (2 : Int64)] = [z0, z1, z2]) (hne1 : ¬ own_hi z1 = own_hi z0) (hne2 : ¬ own_hi z2 = own_hi z1) (hz0 : own_hi z0 = s0.toInt64) (hz1 : own_hi z1 = s1.toInt64) (hz2 : own_hi z2 = s2.toInt64)
    {p : Program} {e : Env} {s : State} {m : MethodId} {args : Array Value} {below : List Frame} {meth : Method} {c : Code} {T : State} {locs : List Loc} {kk : Nat} {u : Vm} (X : Sd Z n0 kk code 16 "com/example/flicker/flicker/game/GameBuilderFirstMissingIdPinLaw" "law" (some .boolean) h0 p l e room_1 (s.setVm u) m args below meth c T locs 20 1215) (Y : s.Since u kk) :
    Wp p e below (PoW Z n0 s (fun v _ => v = some (.int 1)) room_1.cells room_1.slots) (T.setTop (mkF m 238 #[.val (.int cc), .val (.int gg1), .val (.int gg2), .val (.int gg3), .val (.int gg4), .val (.int w), .val (.int nn), .val (.int s0), .val (.int s1), .val (.int s2), .val (.int s3), .val (.ref arr), .val (.int rv), .val (.int r0), .val (.ref a), .unset] [])) := by
  refine w_aload X d_238 rfl (rfl) ?_
  refine w_callV X d_240 (wd_106 hw) (wd_107 hw) (notFace_of_selects (args := #[]) (mvT X.hZ (wd_109 hw))) (wd_109 hw) (wd_108 hw) (wd_8 hw) (wd_110 hw) (by decide) (hG.2.2.2.2.2.2.2.2.2.1) (argsL := []) (S := []) (m_cd_3 hw hG hs hne1 hne2) pd_2 rfl rfl rfl (by decide) (Nat.le_of_ble_eq_true rfl) (by decide) (by decide) (fun T h1 v1 L1 X q1 => ?_)
  obtain ⟨rfl, Kc1, d1, Eq1, Fv1, Fd1, Ad1⟩ := q1
  show Wp _ _ _ _ (T.setTop (mkF _ _ _ []))
  refine w_iconst X (0 : Int32) d_243 rfl ?_
  refine w_istore X #[.val (.int cc), .val (.int gg1), .val (.int gg2), .val (.int gg3), .val (.int gg4), .val (.int w), .val (.int nn), .val (.int s0), .val (.int s1), .val (.int s2), .val (.int s3), .val (.ref arr), .val (.int rv), .val (.int r0), .val (.ref a), .val (.int (0 : Int32))] d_244 rfl ?_
  refine w_iload X d_246 rfl ?_
  refine w_ifle X d_248 (fun hc => absurd (by rw [hnn]; decide) hc) (fun _ => ?_)
  refine w_iload X d_251 rfl ?_
  refine w_ifne X d_253 (fun (hc253 : ¬ s0 = (0 : Int32)) => ?_) (fun (hc253 : s0 = (0 : Int32)) => ?_)
  · refine w_aload X d_304 rfl (rfl) ?_
    refine w_callV X d_306 (wd_129 hw) (wd_130 hw) (notFace_of_selects (args := #[]) (mvT X.hZ (wd_132 hw))) (wd_132 hw) (wd_131 hw) (wd_8 hw) (wd_133 hw) (by decide) Eq1 (argsL := []) (S := []) (m_fm_3 hw Fv1 Fd1 Ad1) pd_3 rfl rfl rfl (by decide) (Nat.le_of_ble_eq_true rfl) (by decide) (by decide) (fun T h2 v2 L2 X q2 => ?_)
    obtain ⟨rfl, rfl⟩ := q2
    show Wp _ _ _ _ (T.setTop (mkF _ _ _ [(.int (own_fm_3 z0 z1 z2))]))
    refine w_iload X d_309 rfl ?_
    refine w_icmpne X d_311 (fun hc => absurd (by unfold own_fm_3; simp only [hz0, own_64_0, hz1, own_64_1, hz2, own_64_2, hc253, if_true, if_false]) hc) (fun _ => ?_)
    refine w_iconst X (1 : Int32) d_314 rfl ?_
    refine w_goto X d_315 ?_
    exact v_ret_boolean X Y (1 : Int32) (by decide) d_319 rfl (by decide) (by decide)
  · refine w_iconst X (1 : Int32) d_256 rfl ?_
    refine w_istore X #[.val (.int cc), .val (.int gg1), .val (.int gg2), .val (.int gg3), .val (.int gg4), .val (.int w), .val (.int nn), .val (.int s0), .val (.int s1), .val (.int s2), .val (.int s3), .val (.ref arr), .val (.int rv), .val (.int r0), .val (.ref a), .val (.int (1 : Int32))] d_257 rfl ?_
    refine w_iload X d_259 rfl ?_
    refine w_iconst X (1 : Int32) d_261 rfl ?_
    refine w_icmple X d_262 (fun hc => absurd (by rw [hnn]; decide) hc) (fun _ => ?_)
    refine w_iload X d_265 rfl ?_
    refine w_iconst X (1 : Int32) d_267 rfl ?_
    refine w_icmpne X d_268 (fun (hc268 : ¬ s1 = (1 : Int32)) => ?_) (fun (hc268 : s1 = (1 : Int32)) => ?_)
    · refine w_aload X d_304 rfl (rfl) ?_
      refine w_callV X d_306 (wd_129 hw) (wd_130 hw) (notFace_of_selects (args := #[]) (mvT X.hZ (wd_132 hw))) (wd_132 hw) (wd_131 hw) (wd_8 hw) (wd_133 hw) (by decide) Eq1 (argsL := []) (S := []) (m_fm_3 hw Fv1 Fd1 Ad1) pd_3 rfl rfl rfl (by decide) (Nat.le_of_ble_eq_true rfl) (by decide) (by decide) (fun T h3 v3 L3 X q3 => ?_)
      obtain ⟨rfl, rfl⟩ := q3
      show Wp _ _ _ _ (T.setTop (mkF _ _ _ [(.int (own_fm_3 z0 z1 z2))]))
      refine w_iload X d_309 rfl ?_
      refine w_icmpne X d_311 (fun hc => absurd (by unfold own_fm_3; simp only [hz0, own_64_0, hz1, own_64_1, hz2, own_64_2, hc253, hc268, if_true, if_false]) hc) (fun _ => ?_)
      refine w_iconst X (1 : Int32) d_314 rfl ?_
      refine w_goto X d_315 ?_
      exact v_ret_boolean X Y (1 : Int32) (by decide) d_319 rfl (by decide) (by decide)
    · refine w_iconst X (2 : Int32) d_271 rfl ?_
      refine w_istore X #[.val (.int cc), .val (.int gg1), .val (.int gg2), .val (.int gg3), .val (.int gg4), .val (.int w), .val (.int nn), .val (.int s0), .val (.int s1), .val (.int s2), .val (.int s3), .val (.ref arr), .val (.int rv), .val (.int r0), .val (.ref a), .val (.int (2 : Int32))] d_272 rfl ?_
      refine w_iload X d_274 rfl ?_
      refine w_iconst X (2 : Int32) d_276 rfl ?_
      refine w_icmple X d_277 (fun hc => absurd (by rw [hnn]; decide) hc) (fun _ => ?_)
      refine w_iload X d_280 rfl ?_
      refine w_iconst X (2 : Int32) d_282 rfl ?_
      refine w_icmpne X d_283 (fun (hc283 : ¬ s2 = (2 : Int32)) => ?_) (fun (hc283 : s2 = (2 : Int32)) => ?_)
      · refine w_aload X d_304 rfl (rfl) ?_
        refine w_callV X d_306 (wd_129 hw) (wd_130 hw) (notFace_of_selects (args := #[]) (mvT X.hZ (wd_132 hw))) (wd_132 hw) (wd_131 hw) (wd_8 hw) (wd_133 hw) (by decide) Eq1 (argsL := []) (S := []) (m_fm_3 hw Fv1 Fd1 Ad1) pd_3 rfl rfl rfl (by decide) (Nat.le_of_ble_eq_true rfl) (by decide) (by decide) (fun T h4 v4 L4 X q4 => ?_)
        obtain ⟨rfl, rfl⟩ := q4
        show Wp _ _ _ _ (T.setTop (mkF _ _ _ [(.int (own_fm_3 z0 z1 z2))]))
        refine w_iload X d_309 rfl ?_
        refine w_icmpne X d_311 (fun hc => absurd (by unfold own_fm_3; simp only [hz0, own_64_0, hz1, own_64_1, hz2, own_64_2, hc253, hc268, hc283, if_true, if_false]) hc) (fun _ => ?_)
        refine w_iconst X (1 : Int32) d_314 rfl ?_
        refine w_goto X d_315 ?_
        exact v_ret_boolean X Y (1 : Int32) (by decide) d_319 rfl (by decide) (by decide)
      · refine w_iconst X (3 : Int32) d_286 rfl ?_
        refine w_istore X #[.val (.int cc), .val (.int gg1), .val (.int gg2), .val (.int gg3), .val (.int gg4), .val (.int w), .val (.int nn), .val (.int s0), .val (.int s1), .val (.int s2), .val (.int s3), .val (.ref arr), .val (.int rv), .val (.int r0), .val (.ref a), .val (.int (3 : Int32))] d_287 rfl ?_
        refine w_iload X d_289 rfl ?_
        refine w_iconst X (3 : Int32) d_291 rfl ?_
        refine w_icmple X d_292 (fun _ => ?_) (fun hc => absurd hc (by rw [hnn]; decide))
        refine w_aload X d_304 rfl (rfl) ?_
        refine w_callV X d_306 (wd_129 hw) (wd_130 hw) (notFace_of_selects (args := #[]) (mvT X.hZ (wd_132 hw))) (wd_132 hw) (wd_131 hw) (wd_8 hw) (wd_133 hw) (by decide) Eq1 (argsL := []) (S := []) (m_fm_3 hw Fv1 Fd1 Ad1) pd_3 rfl rfl rfl (by decide) (Nat.le_of_ble_eq_true rfl) (by decide) (by decide) (fun T h5 v5 L5 X q5 => ?_)
        obtain ⟨rfl, rfl⟩ := q5
        show Wp _ _ _ _ (T.setTop (mkF _ _ _ [(.int (own_fm_3 z0 z1 z2))]))
        refine w_iload X d_309 rfl ?_
        refine w_icmpne X d_311 (fun hc => absurd (by unfold own_fm_3; simp only [hz0, own_64_0, hz1, own_64_1, hz2, own_64_2, hc253, hc268, hc283, if_true, if_false]) hc) (fun _ => ?_)
        refine w_iconst X (1 : Int32) d_314 rfl ?_
        refine w_goto X d_315 ?_
        exact v_ret_boolean X Y (1 : Int32) (by decide) d_319 rfl (by decide) (by decide)
theorem m_lawq_4 {l : Launch} {Z : State} {a0 : Array Value} {n0 : Nat} (hw : own_hw a0 Z) {h0 : Heap} {a ids pr nm sb en ln se ss : Addr} {x0 x1 x2 x3 : Int32} {z0 z1 z2 z3 : Int64} {arr : Addr} {cc gg1 gg2 gg3 gg4 w nn rv r0 s0 s1 s2 s3 : Int32} (hnn : nn = (4 : Int32)) (hG : own_GB Z h0 n0 a ids pr nm sb en ln se ss (4 : Int32) x0 x1 x2 x3) (hs : own_srt [own_key x0 (0 : Int64), own_key x1 (1 : Int64), own_key x2 (2 : Int64), own_key x3 (3 : Int64)] = [z0, z1, z2, z3]) (hne1 : ¬ own_hi z1 = own_hi z0) (hne2 : ¬ own_hi z2 = own_hi z1) (hne3 : ¬ own_hi z3 = own_hi z2) (hz0 : own_hi z0 = s0.toInt64) (hz1 : own_hi z1 = s1.toInt64) (hz2 : own_hi z2 = s2.toInt64) (hz3 : own_hi z3 = s3.toInt64)
    {p : Program} {e : Env} {s : State} {m : MethodId} {args : Array Value} {below : List Frame} {meth : Method} {c : Code} {T : State} {locs : List Loc} {kk : Nat} {u : Vm} (X : Sd Z n0 kk code 16 "com/example/flicker/flicker/game/GameBuilderFirstMissingIdPinLaw" "law" (some .boolean) h0 p l e room_1 (s.setVm u) m args below meth c T locs 20 1215) (Y : s.Since u kk) :
    Wp p e below (PoW Z n0 s (fun v _ => v = some (.int 1)) room_1.cells room_1.slots) (T.setTop (mkF m 238 #[.val (.int cc), .val (.int gg1), .val (.int gg2), .val (.int gg3), .val (.int gg4), .val (.int w), .val (.int nn), .val (.int s0), .val (.int s1), .val (.int s2), .val (.int s3), .val (.ref arr), .val (.int rv), .val (.int r0), .val (.ref a), .unset] [])) := by
  refine w_aload X d_238 rfl (rfl) ?_
  refine w_callV X d_240 (wd_106 hw) (wd_107 hw) (notFace_of_selects (args := #[]) (mvT X.hZ (wd_109 hw))) (wd_109 hw) (wd_108 hw) (wd_8 hw) (wd_110 hw) (by decide) (hG.2.2.2.2.2.2.2.2.2.1) (argsL := []) (S := []) (m_cd_4 hw hG hs hne1 hne2 hne3) pd_2 rfl rfl rfl (by decide) (Nat.le_of_ble_eq_true rfl) (by decide) (by decide) (fun T h1 v1 L1 X q1 => ?_)
  obtain ⟨rfl, Kc1, d1, Eq1, Fv1, Fd1, Ad1⟩ := q1
  show Wp _ _ _ _ (T.setTop (mkF _ _ _ []))
  refine w_iconst X (0 : Int32) d_243 rfl ?_
  refine w_istore X #[.val (.int cc), .val (.int gg1), .val (.int gg2), .val (.int gg3), .val (.int gg4), .val (.int w), .val (.int nn), .val (.int s0), .val (.int s1), .val (.int s2), .val (.int s3), .val (.ref arr), .val (.int rv), .val (.int r0), .val (.ref a), .val (.int (0 : Int32))] d_244 rfl ?_
  refine w_iload X d_246 rfl ?_
  refine w_ifle X d_248 (fun hc => absurd (by rw [hnn]; decide) hc) (fun _ => ?_)
  refine w_iload X d_251 rfl ?_
  refine w_ifne X d_253 (fun (hc253 : ¬ s0 = (0 : Int32)) => ?_) (fun (hc253 : s0 = (0 : Int32)) => ?_)
  · refine w_aload X d_304 rfl (rfl) ?_
    refine w_callV X d_306 (wd_129 hw) (wd_130 hw) (notFace_of_selects (args := #[]) (mvT X.hZ (wd_132 hw))) (wd_132 hw) (wd_131 hw) (wd_8 hw) (wd_133 hw) (by decide) Eq1 (argsL := []) (S := []) (m_fm_4 hw Fv1 Fd1 Ad1) pd_3 rfl rfl rfl (by decide) (Nat.le_of_ble_eq_true rfl) (by decide) (by decide) (fun T h2 v2 L2 X q2 => ?_)
    obtain ⟨rfl, rfl⟩ := q2
    show Wp _ _ _ _ (T.setTop (mkF _ _ _ [(.int (own_fm_4 z0 z1 z2 z3))]))
    refine w_iload X d_309 rfl ?_
    refine w_icmpne X d_311 (fun hc => absurd (by unfold own_fm_4; simp only [hz0, own_64_0, hz1, own_64_1, hz2, own_64_2, hz3, own_64_3, hc253, if_true, if_false]) hc) (fun _ => ?_)
    refine w_iconst X (1 : Int32) d_314 rfl ?_
    refine w_goto X d_315 ?_
    exact v_ret_boolean X Y (1 : Int32) (by decide) d_319 rfl (by decide) (by decide)
  · refine w_iconst X (1 : Int32) d_256 rfl ?_
    refine w_istore X #[.val (.int cc), .val (.int gg1), .val (.int gg2), .val (.int gg3), .val (.int gg4), .val (.int w), .val (.int nn), .val (.int s0), .val (.int s1), .val (.int s2), .val (.int s3), .val (.ref arr), .val (.int rv), .val (.int r0), .val (.ref a), .val (.int (1 : Int32))] d_257 rfl ?_
    refine w_iload X d_259 rfl ?_
    refine w_iconst X (1 : Int32) d_261 rfl ?_
    refine w_icmple X d_262 (fun hc => absurd (by rw [hnn]; decide) hc) (fun _ => ?_)
    refine w_iload X d_265 rfl ?_
    refine w_iconst X (1 : Int32) d_267 rfl ?_
    refine w_icmpne X d_268 (fun (hc268 : ¬ s1 = (1 : Int32)) => ?_) (fun (hc268 : s1 = (1 : Int32)) => ?_)
    · refine w_aload X d_304 rfl (rfl) ?_
      refine w_callV X d_306 (wd_129 hw) (wd_130 hw) (notFace_of_selects (args := #[]) (mvT X.hZ (wd_132 hw))) (wd_132 hw) (wd_131 hw) (wd_8 hw) (wd_133 hw) (by decide) Eq1 (argsL := []) (S := []) (m_fm_4 hw Fv1 Fd1 Ad1) pd_3 rfl rfl rfl (by decide) (Nat.le_of_ble_eq_true rfl) (by decide) (by decide) (fun T h3 v3 L3 X q3 => ?_)
      obtain ⟨rfl, rfl⟩ := q3
      show Wp _ _ _ _ (T.setTop (mkF _ _ _ [(.int (own_fm_4 z0 z1 z2 z3))]))
      refine w_iload X d_309 rfl ?_
      refine w_icmpne X d_311 (fun hc => absurd (by unfold own_fm_4; simp only [hz0, own_64_0, hz1, own_64_1, hz2, own_64_2, hz3, own_64_3, hc253, hc268, if_true, if_false]) hc) (fun _ => ?_)
      refine w_iconst X (1 : Int32) d_314 rfl ?_
      refine w_goto X d_315 ?_
      exact v_ret_boolean X Y (1 : Int32) (by decide) d_319 rfl (by decide) (by decide)
    · refine w_iconst X (2 : Int32) d_271 rfl ?_
      refine w_istore X #[.val (.int cc), .val (.int gg1), .val (.int gg2), .val (.int gg3), .val (.int gg4), .val (.int w), .val (.int nn), .val (.int s0), .val (.int s1), .val (.int s2), .val (.int s3), .val (.ref arr), .val (.int rv), .val (.int r0), .val (.ref a), .val (.int (2 : Int32))] d_272 rfl ?_
      refine w_iload X d_274 rfl ?_
      refine w_iconst X (2 : Int32) d_276 rfl ?_
      refine w_icmple X d_277 (fun hc => absurd (by rw [hnn]; decide) hc) (fun _ => ?_)
      refine w_iload X d_280 rfl ?_
      refine w_iconst X (2 : Int32) d_282 rfl ?_
      refine w_icmpne X d_283 (fun (hc283 : ¬ s2 = (2 : Int32)) => ?_) (fun (hc283 : s2 = (2 : Int32)) => ?_)
      · refine w_aload X d_304 rfl (rfl) ?_
        refine w_callV X d_306 (wd_129 hw) (wd_130 hw) (notFace_of_selects (args := #[]) (mvT X.hZ (wd_132 hw))) (wd_132 hw) (wd_131 hw) (wd_8 hw) (wd_133 hw) (by decide) Eq1 (argsL := []) (S := []) (m_fm_4 hw Fv1 Fd1 Ad1) pd_3 rfl rfl rfl (by decide) (Nat.le_of_ble_eq_true rfl) (by decide) (by decide) (fun T h4 v4 L4 X q4 => ?_)
        obtain ⟨rfl, rfl⟩ := q4
        show Wp _ _ _ _ (T.setTop (mkF _ _ _ [(.int (own_fm_4 z0 z1 z2 z3))]))
        refine w_iload X d_309 rfl ?_
        refine w_icmpne X d_311 (fun hc => absurd (by unfold own_fm_4; simp only [hz0, own_64_0, hz1, own_64_1, hz2, own_64_2, hz3, own_64_3, hc253, hc268, hc283, if_true, if_false]) hc) (fun _ => ?_)
        refine w_iconst X (1 : Int32) d_314 rfl ?_
        refine w_goto X d_315 ?_
        exact v_ret_boolean X Y (1 : Int32) (by decide) d_319 rfl (by decide) (by decide)
      · refine w_iconst X (3 : Int32) d_286 rfl ?_
        refine w_istore X #[.val (.int cc), .val (.int gg1), .val (.int gg2), .val (.int gg3), .val (.int gg4), .val (.int w), .val (.int nn), .val (.int s0), .val (.int s1), .val (.int s2), .val (.int s3), .val (.ref arr), .val (.int rv), .val (.int r0), .val (.ref a), .val (.int (3 : Int32))] d_287 rfl ?_
        refine w_iload X d_289 rfl ?_
        refine w_iconst X (3 : Int32) d_291 rfl ?_
        refine w_icmple X d_292 (fun hc => absurd (by rw [hnn]; decide) hc) (fun _ => ?_)
        refine w_iload X d_295 rfl ?_
        refine w_iconst X (3 : Int32) d_297 rfl ?_
        refine w_icmpne X d_298 (fun (hc298 : ¬ s3 = (3 : Int32)) => ?_) (fun (hc298 : s3 = (3 : Int32)) => ?_)
        · refine w_aload X d_304 rfl (rfl) ?_
          refine w_callV X d_306 (wd_129 hw) (wd_130 hw) (notFace_of_selects (args := #[]) (mvT X.hZ (wd_132 hw))) (wd_132 hw) (wd_131 hw) (wd_8 hw) (wd_133 hw) (by decide) Eq1 (argsL := []) (S := []) (m_fm_4 hw Fv1 Fd1 Ad1) pd_3 rfl rfl rfl (by decide) (Nat.le_of_ble_eq_true rfl) (by decide) (by decide) (fun T h5 v5 L5 X q5 => ?_)
          obtain ⟨rfl, rfl⟩ := q5
          show Wp _ _ _ _ (T.setTop (mkF _ _ _ [(.int (own_fm_4 z0 z1 z2 z3))]))
          refine w_iload X d_309 rfl ?_
          refine w_icmpne X d_311 (fun hc => absurd (by unfold own_fm_4; simp only [hz0, own_64_0, hz1, own_64_1, hz2, own_64_2, hz3, own_64_3, hc253, hc268, hc283, hc298, if_true, if_false]) hc) (fun _ => ?_)
          refine w_iconst X (1 : Int32) d_314 rfl ?_
          refine w_goto X d_315 ?_
          exact v_ret_boolean X Y (1 : Int32) (by decide) d_319 rfl (by decide) (by decide)
        · refine w_iconst X (4 : Int32) d_301 rfl ?_
          refine w_istore X #[.val (.int cc), .val (.int gg1), .val (.int gg2), .val (.int gg3), .val (.int gg4), .val (.int w), .val (.int nn), .val (.int s0), .val (.int s1), .val (.int s2), .val (.int s3), .val (.ref arr), .val (.int rv), .val (.int r0), .val (.ref a), .val (.int (4 : Int32))] d_302 rfl ?_
          refine w_aload X d_304 rfl (rfl) ?_
          refine w_callV X d_306 (wd_129 hw) (wd_130 hw) (notFace_of_selects (args := #[]) (mvT X.hZ (wd_132 hw))) (wd_132 hw) (wd_131 hw) (wd_8 hw) (wd_133 hw) (by decide) Eq1 (argsL := []) (S := []) (m_fm_4 hw Fv1 Fd1 Ad1) pd_3 rfl rfl rfl (by decide) (Nat.le_of_ble_eq_true rfl) (by decide) (by decide) (fun T h6 v6 L6 X q6 => ?_)
          obtain ⟨rfl, rfl⟩ := q6
          show Wp _ _ _ _ (T.setTop (mkF _ _ _ [(.int (own_fm_4 z0 z1 z2 z3))]))
          refine w_iload X d_309 rfl ?_
          refine w_icmpne X d_311 (fun hc => absurd (by unfold own_fm_4; simp only [hz0, own_64_0, hz1, own_64_1, hz2, own_64_2, hz3, own_64_3, hc253, hc268, hc283, hc298, if_true, if_false]) hc) (fun _ => ?_)
          refine w_iconst X (1 : Int32) d_314 rfl ?_
          refine w_goto X d_315 ?_
          exact v_ret_boolean X Y (1 : Int32) (by decide) d_319 rfl (by decide) (by decide)
theorem m_lawv_0 {l : Launch} {Z : State} {a0 : Array Value} {n0 : Nat} (hw : own_hw a0 Z) {h0 : Heap} {zc : Int32} {fm : Value} {nw p1 p2 ns : Addr} {cN : Cell} (hS : own_S Z zc fm) (S_nw : Sta Z Z.heap "com/example/flicker/flicker/game/GameBuilder" "NO_WEIGHTS" "[J" (.ref nw)) (S_p1 : Sta Z Z.heap "com/example/flicker/flicker/game/Player" "ONE" "Lcom/example/flicker/flicker/game/Player;" (.ref p1)) (S_ns : Sta Z Z.heap "com/example/flicker/flicker/game/GameBuilder" "NO_SETS" "[I" (.ref ns)) (S_p2 : Sta Z Z.heap "com/example/flicker/flicker/game/Player" "TWO" "Lcom/example/flicker/flicker/game/Player;" (.ref p2)) (np : p1 ≠ p2) (A_ns : Arr Z Z.heap ns cN .int) (hns : cN.slots.size.toInt32 = 0) {a ids pr nm sb en ln se ss arr : Addr} {cc gg1 gg2 gg3 gg4 w nn rv r0 s0 s1 s2 s3 : Int32}   (hnn : nn = (0 : Int32)) (hG : own_GB Z h0 n0 a ids pr nm sb en ln se ss (0 : Int32) (0 : Int32) (0 : Int32) (0 : Int32) (0 : Int32)) (Aa : Ary Z h0 arr .int [(.int s0), (.int s1), (.int s2), (.int s3)]) (hlt : arr < a)  (hs : own_srt [] = [])  
    {p : Program} {e : Env} {s : State} {m : MethodId} {args : Array Value} {below : List Frame} {meth : Method} {c : Code} {T : State} {locs : List Loc} {kk : Nat} {u : Vm} (X : Sd Z n0 kk code 16 "com/example/flicker/flicker/game/GameBuilderFirstMissingIdPinLaw" "law" (some .boolean) h0 p l e room_1 (s.setVm u) m args below meth c T locs 20 1215) (Y : s.Since u kk) :
    Wp p e below (PoW Z n0 s (fun v _ => v = some (.int 1)) room_1.cells room_1.slots) (T.setTop (mkF m 107 #[.val (.int cc), .val (.int gg1), .val (.int gg2), .val (.int gg3), .val (.int gg4), .val (.int w), .val (.int nn), .val (.int s0), .val (.int s1), .val (.int s2), .val (.int s3), .val (.ref arr), .val (.int rv), .val (.int r0), .val (.ref a), .unset] [])) := by
  refine w_iload X d_107 rfl ?_
  refine w_ifle X d_109 (fun _ => ?_) (fun hc => absurd hc (by rw [hnn]; decide))
  refine w_iload X d_139 rfl ?_
  refine w_iconst X (1 : Int32) d_141 rfl ?_
  refine w_icmple X d_142 (fun _ => ?_) (fun hc => absurd hc (by rw [hnn]; decide))
  refine w_iload X d_172 rfl ?_
  refine w_iconst X (2 : Int32) d_174 rfl ?_
  refine w_icmple X d_175 (fun _ => ?_) (fun hc => absurd hc (by rw [hnn]; decide))
  refine w_iload X d_205 rfl ?_
  refine w_iconst X (3 : Int32) d_207 rfl ?_
  refine w_icmple X d_208 (fun _ => ?_) (fun hc => absurd hc (by rw [hnn]; decide))
  exact m_lawq_0 hw hnn hG hs   X Y
theorem m_lawv_1 {l : Launch} {Z : State} {a0 : Array Value} {n0 : Nat} (hw : own_hw a0 Z) {h0 : Heap} {zc : Int32} {fm : Value} {nw p1 p2 ns : Addr} {cN : Cell} (hS : own_S Z zc fm) (S_nw : Sta Z Z.heap "com/example/flicker/flicker/game/GameBuilder" "NO_WEIGHTS" "[J" (.ref nw)) (S_p1 : Sta Z Z.heap "com/example/flicker/flicker/game/Player" "ONE" "Lcom/example/flicker/flicker/game/Player;" (.ref p1)) (S_ns : Sta Z Z.heap "com/example/flicker/flicker/game/GameBuilder" "NO_SETS" "[I" (.ref ns)) (S_p2 : Sta Z Z.heap "com/example/flicker/flicker/game/Player" "TWO" "Lcom/example/flicker/flicker/game/Player;" (.ref p2)) (np : p1 ≠ p2) (A_ns : Arr Z Z.heap ns cN .int) (hns : cN.slots.size.toInt32 = 0) {a ids pr nm sb en ln se ss arr : Addr} {cc gg1 gg2 gg3 gg4 w nn rv r0 s0 s1 s2 s3 : Int32} {k0 y0 : Int32} {z0 : Int64} (hnn : nn = (1 : Int32)) (hG : own_GB Z h0 n0 a ids pr nm sb en ln se ss (0 : Int32) (0 : Int32) (0 : Int32) (0 : Int32) (0 : Int32)) (Aa : Ary Z h0 arr .int [(.int s0), (.int s1), (.int s2), (.int s3)]) (hlt : arr < a) (hk0 : own_place (0 : Int32) nn r0 rv = k0) (hj0 : ¬ k0 < 0) (hv0 : [(Value.int s0), (.int s1), (.int s2), (.int s3)][k0.toNatClampNeg]? = some (.int y0)) (hs : own_srt [own_key y0 (0 : Int64)] = [z0])  (hz0 : own_hi z0 = s0.toInt64)
    {p : Program} {e : Env} {s : State} {m : MethodId} {args : Array Value} {below : List Frame} {meth : Method} {c : Code} {T : State} {locs : List Loc} {kk : Nat} {u : Vm} (X : Sd Z n0 kk code 16 "com/example/flicker/flicker/game/GameBuilderFirstMissingIdPinLaw" "law" (some .boolean) h0 p l e room_1 (s.setVm u) m args below meth c T locs 20 1215) (Y : s.Since u kk) :
    Wp p e below (PoW Z n0 s (fun v _ => v = some (.int 1)) room_1.cells room_1.slots) (T.setTop (mkF m 107 #[.val (.int cc), .val (.int gg1), .val (.int gg2), .val (.int gg3), .val (.int gg4), .val (.int w), .val (.int nn), .val (.int s0), .val (.int s1), .val (.int s2), .val (.int s3), .val (.ref arr), .val (.int rv), .val (.int r0), .val (.ref a), .unset] [])) := by
  refine w_iload X d_107 rfl ?_
  refine w_ifle X d_109 (fun hc => absurd (by rw [hnn]; decide) hc) (fun _ => ?_)
  refine w_aload X d_112 rfl (rfl) ?_
  refine w_aload X d_114 rfl (rfl) ?_
  refine w_iconst X (0 : Int32) d_116 rfl ?_
  refine w_iload X d_117 rfl ?_
  refine w_iload X d_119 rfl ?_
  refine w_iload X d_121 rfl ?_
  refine w_callS X d_123 (wd_135 hw) (wd_136 hw) (wd_3 hw) (wd_137 hw) (by decide) (argsL := [(.int (0 : Int32)), (.int nn), (.int r0), (.int rv)]) (S := [(.ref arr), (.ref a)]) (m_place hw (by rw [hnn]; decide) hk0) pd_10 rfl rfl rfl (by decide) (Nat.le_of_ble_eq_true rfl) (by decide) (by decide) (fun T h1 v1 L1 X q1 => ?_)
  obtain ⟨rfl, rfl⟩ := q1
  show Wp _ _ _ _ (T.setTop (mkF _ _ _ [(.int k0), (.ref arr), (.ref a)]))
  refine w_iaload X d_126 Aa hj0 hv0 ?_
  refine w_getS X d_127 (host := "") (Or.inl (wd_138 hw)) Via.refl (S_p1.ext X.old.2) (fun T X => ?_)
  refine w_iconst X (0 : Int32) d_130 rfl ?_
  refine w_aconstNull X d_131 ?_
  refine w_getS X d_132 (host := "") (Or.inl (wd_141 hw)) Via.refl (S_ns.ext X.old.2) (fun T X => ?_)
  refine w_iconst X (1 : Int32) d_135 rfl ?_
  refine w_callV X d_136 (wd_143 hw) (wd_144 hw) (notFace_of_selects (args := #[]) (mvT X.hZ (wd_146 hw))) (wd_146 hw) (wd_145 hw) (wd_8 hw) (wd_147 hw) (by decide) hG.2.2.2.2.2.2.2.2.2.1 (argsL := [(.int y0), (.ref p1), (.int (0 : Int32)), .null, (.ref ns), (.int (1 : Int32))]) (S := []) (m_vtx_0 hw S_p2 np A_ns hns hG) pd_11 rfl rfl rfl (by decide) (Nat.le_of_ble_eq_true rfl) (by decide) (by decide) (fun T h2 v2 L2 X q2 => ?_)
  obtain ⟨rfl, Kc2, G2⟩ := q2
  have ar2 := Aa.keep Kc2 (by simp only [List.mem_cons, List.not_mem_nil, or_false, not_or]; exact ⟨Nat.ne_of_lt hlt, Nat.ne_of_lt (Nat.lt_trans (Nat.lt_trans (Nat.lt_trans hlt (hG.2.1)) (hG.2.2.1)) (hG.2.2.2.1)), Nat.ne_of_lt (Nat.lt_trans hlt (hG.2.1)), Nat.ne_of_lt (Nat.lt_trans (Nat.lt_trans hlt (hG.2.1)) (hG.2.2.1)), Nat.ne_of_lt (Nat.lt_trans (Nat.lt_trans (Nat.lt_trans (Nat.lt_trans (Nat.lt_trans (Nat.lt_trans hlt (hG.2.1)) (hG.2.2.1)) (hG.2.2.2.1)) (hG.2.2.2.2.1)) (hG.2.2.2.2.2.1)) (hG.2.2.2.2.2.2.1)), Nat.ne_of_lt (Nat.lt_trans (Nat.lt_trans (Nat.lt_trans (Nat.lt_trans (Nat.lt_trans (Nat.lt_trans (Nat.lt_trans hlt (hG.2.1)) (hG.2.2.1)) (hG.2.2.2.1)) (hG.2.2.2.2.1)) (hG.2.2.2.2.2.1)) (hG.2.2.2.2.2.2.1)) (hG.2.2.2.2.2.2.2.1)), Nat.ne_of_lt (Nat.lt_trans (Nat.lt_trans (Nat.lt_trans (Nat.lt_trans (Nat.lt_trans hlt (hG.2.1)) (hG.2.2.1)) (hG.2.2.2.1)) (hG.2.2.2.2.1)) (hG.2.2.2.2.2.1))⟩)
  show Wp _ _ _ _ (T.setTop (mkF _ _ _ []))
  refine w_iload X d_139 rfl ?_
  refine w_iconst X (1 : Int32) d_141 rfl ?_
  refine w_icmple X d_142 (fun _ => ?_) (fun hc => absurd hc (by rw [hnn]; decide))
  refine w_iload X d_172 rfl ?_
  refine w_iconst X (2 : Int32) d_174 rfl ?_
  refine w_icmple X d_175 (fun _ => ?_) (fun hc => absurd hc (by rw [hnn]; decide))
  refine w_iload X d_205 rfl ?_
  refine w_iconst X (3 : Int32) d_207 rfl ?_
  refine w_icmple X d_208 (fun _ => ?_) (fun hc => absurd hc (by rw [hnn]; decide))
  exact m_lawq_1 hw hnn G2 hs  hz0 X Y
theorem m_lawv_2 {l : Launch} {Z : State} {a0 : Array Value} {n0 : Nat} (hw : own_hw a0 Z) {h0 : Heap} {zc : Int32} {fm : Value} {nw p1 p2 ns : Addr} {cN : Cell} (hS : own_S Z zc fm) (S_nw : Sta Z Z.heap "com/example/flicker/flicker/game/GameBuilder" "NO_WEIGHTS" "[J" (.ref nw)) (S_p1 : Sta Z Z.heap "com/example/flicker/flicker/game/Player" "ONE" "Lcom/example/flicker/flicker/game/Player;" (.ref p1)) (S_ns : Sta Z Z.heap "com/example/flicker/flicker/game/GameBuilder" "NO_SETS" "[I" (.ref ns)) (S_p2 : Sta Z Z.heap "com/example/flicker/flicker/game/Player" "TWO" "Lcom/example/flicker/flicker/game/Player;" (.ref p2)) (np : p1 ≠ p2) (A_ns : Arr Z Z.heap ns cN .int) (hns : cN.slots.size.toInt32 = 0) {a ids pr nm sb en ln se ss arr : Addr} {cc gg1 gg2 gg3 gg4 w nn rv r0 s0 s1 s2 s3 : Int32} {k0 y0 k1 y1 : Int32} {z0 z1 : Int64} (hnn : nn = (2 : Int32)) (hG : own_GB Z h0 n0 a ids pr nm sb en ln se ss (0 : Int32) (0 : Int32) (0 : Int32) (0 : Int32) (0 : Int32)) (Aa : Ary Z h0 arr .int [(.int s0), (.int s1), (.int s2), (.int s3)]) (hlt : arr < a) (hk0 : own_place (0 : Int32) nn r0 rv = k0) (hj0 : ¬ k0 < 0) (hv0 : [(Value.int s0), (.int s1), (.int s2), (.int s3)][k0.toNatClampNeg]? = some (.int y0)) (hk1 : own_place (1 : Int32) nn r0 rv = k1) (hj1 : ¬ k1 < 0) (hv1 : [(Value.int s0), (.int s1), (.int s2), (.int s3)][k1.toNatClampNeg]? = some (.int y1)) (hs : own_srt [own_key y0 (0 : Int64), own_key y1 (1 : Int64)] = [z0, z1]) (hne1 : ¬ own_hi z1 = own_hi z0) (hz0 : own_hi z0 = s0.toInt64) (hz1 : own_hi z1 = s1.toInt64)
    {p : Program} {e : Env} {s : State} {m : MethodId} {args : Array Value} {below : List Frame} {meth : Method} {c : Code} {T : State} {locs : List Loc} {kk : Nat} {u : Vm} (X : Sd Z n0 kk code 16 "com/example/flicker/flicker/game/GameBuilderFirstMissingIdPinLaw" "law" (some .boolean) h0 p l e room_1 (s.setVm u) m args below meth c T locs 20 1215) (Y : s.Since u kk) :
    Wp p e below (PoW Z n0 s (fun v _ => v = some (.int 1)) room_1.cells room_1.slots) (T.setTop (mkF m 107 #[.val (.int cc), .val (.int gg1), .val (.int gg2), .val (.int gg3), .val (.int gg4), .val (.int w), .val (.int nn), .val (.int s0), .val (.int s1), .val (.int s2), .val (.int s3), .val (.ref arr), .val (.int rv), .val (.int r0), .val (.ref a), .unset] [])) := by
  refine w_iload X d_107 rfl ?_
  refine w_ifle X d_109 (fun hc => absurd (by rw [hnn]; decide) hc) (fun _ => ?_)
  refine w_aload X d_112 rfl (rfl) ?_
  refine w_aload X d_114 rfl (rfl) ?_
  refine w_iconst X (0 : Int32) d_116 rfl ?_
  refine w_iload X d_117 rfl ?_
  refine w_iload X d_119 rfl ?_
  refine w_iload X d_121 rfl ?_
  refine w_callS X d_123 (wd_135 hw) (wd_136 hw) (wd_3 hw) (wd_137 hw) (by decide) (argsL := [(.int (0 : Int32)), (.int nn), (.int r0), (.int rv)]) (S := [(.ref arr), (.ref a)]) (m_place hw (by rw [hnn]; decide) hk0) pd_10 rfl rfl rfl (by decide) (Nat.le_of_ble_eq_true rfl) (by decide) (by decide) (fun T h1 v1 L1 X q1 => ?_)
  obtain ⟨rfl, rfl⟩ := q1
  show Wp _ _ _ _ (T.setTop (mkF _ _ _ [(.int k0), (.ref arr), (.ref a)]))
  refine w_iaload X d_126 Aa hj0 hv0 ?_
  refine w_getS X d_127 (host := "") (Or.inl (wd_138 hw)) Via.refl (S_p1.ext X.old.2) (fun T X => ?_)
  refine w_iconst X (0 : Int32) d_130 rfl ?_
  refine w_aconstNull X d_131 ?_
  refine w_getS X d_132 (host := "") (Or.inl (wd_141 hw)) Via.refl (S_ns.ext X.old.2) (fun T X => ?_)
  refine w_iconst X (1 : Int32) d_135 rfl ?_
  refine w_callV X d_136 (wd_143 hw) (wd_144 hw) (notFace_of_selects (args := #[]) (mvT X.hZ (wd_146 hw))) (wd_146 hw) (wd_145 hw) (wd_8 hw) (wd_147 hw) (by decide) hG.2.2.2.2.2.2.2.2.2.1 (argsL := [(.int y0), (.ref p1), (.int (0 : Int32)), .null, (.ref ns), (.int (1 : Int32))]) (S := []) (m_vtx_0 hw S_p2 np A_ns hns hG) pd_11 rfl rfl rfl (by decide) (Nat.le_of_ble_eq_true rfl) (by decide) (by decide) (fun T h2 v2 L2 X q2 => ?_)
  obtain ⟨rfl, Kc2, G2⟩ := q2
  have ar2 := Aa.keep Kc2 (by simp only [List.mem_cons, List.not_mem_nil, or_false, not_or]; exact ⟨Nat.ne_of_lt hlt, Nat.ne_of_lt (Nat.lt_trans (Nat.lt_trans (Nat.lt_trans hlt (hG.2.1)) (hG.2.2.1)) (hG.2.2.2.1)), Nat.ne_of_lt (Nat.lt_trans hlt (hG.2.1)), Nat.ne_of_lt (Nat.lt_trans (Nat.lt_trans hlt (hG.2.1)) (hG.2.2.1)), Nat.ne_of_lt (Nat.lt_trans (Nat.lt_trans (Nat.lt_trans (Nat.lt_trans (Nat.lt_trans (Nat.lt_trans hlt (hG.2.1)) (hG.2.2.1)) (hG.2.2.2.1)) (hG.2.2.2.2.1)) (hG.2.2.2.2.2.1)) (hG.2.2.2.2.2.2.1)), Nat.ne_of_lt (Nat.lt_trans (Nat.lt_trans (Nat.lt_trans (Nat.lt_trans (Nat.lt_trans (Nat.lt_trans (Nat.lt_trans hlt (hG.2.1)) (hG.2.2.1)) (hG.2.2.2.1)) (hG.2.2.2.2.1)) (hG.2.2.2.2.2.1)) (hG.2.2.2.2.2.2.1)) (hG.2.2.2.2.2.2.2.1)), Nat.ne_of_lt (Nat.lt_trans (Nat.lt_trans (Nat.lt_trans (Nat.lt_trans (Nat.lt_trans hlt (hG.2.1)) (hG.2.2.1)) (hG.2.2.2.1)) (hG.2.2.2.2.1)) (hG.2.2.2.2.2.1))⟩)
  show Wp _ _ _ _ (T.setTop (mkF _ _ _ []))
  refine w_iload X d_139 rfl ?_
  refine w_iconst X (1 : Int32) d_141 rfl ?_
  refine w_icmple X d_142 (fun hc => absurd (by rw [hnn]; decide) hc) (fun _ => ?_)
  refine w_aload X d_145 rfl (rfl) ?_
  refine w_aload X d_147 rfl (rfl) ?_
  refine w_iconst X (1 : Int32) d_149 rfl ?_
  refine w_iload X d_150 rfl ?_
  refine w_iload X d_152 rfl ?_
  refine w_iload X d_154 rfl ?_
  refine w_callS X d_156 (wd_135 hw) (wd_136 hw) (wd_3 hw) (wd_137 hw) (by decide) (argsL := [(.int (1 : Int32)), (.int nn), (.int r0), (.int rv)]) (S := [(.ref arr), (.ref a)]) (m_place hw (by rw [hnn]; decide) hk1) pd_10 rfl rfl rfl (by decide) (Nat.le_of_ble_eq_true rfl) (by decide) (by decide) (fun T h3 v3 L3 X q3 => ?_)
  obtain ⟨rfl, rfl⟩ := q3
  show Wp _ _ _ _ (T.setTop (mkF _ _ _ [(.int k1), (.ref arr), (.ref a)]))
  refine w_iaload X d_159 ar2 hj1 hv1 ?_
  refine w_getS X d_160 (host := "") (Or.inl (wd_138 hw)) Via.refl (S_p1.ext X.old.2) (fun T X => ?_)
  refine w_iconst X (0 : Int32) d_163 rfl ?_
  refine w_aconstNull X d_164 ?_
  refine w_getS X d_165 (host := "") (Or.inl (wd_141 hw)) Via.refl (S_ns.ext X.old.2) (fun T X => ?_)
  refine w_iconst X (2 : Int32) d_168 rfl ?_
  refine w_callV X d_169 (wd_143 hw) (wd_144 hw) (notFace_of_selects (args := #[]) (mvT X.hZ (wd_146 hw))) (wd_146 hw) (wd_145 hw) (wd_8 hw) (wd_147 hw) (by decide) G2.2.2.2.2.2.2.2.2.2.1 (argsL := [(.int y1), (.ref p1), (.int (0 : Int32)), .null, (.ref ns), (.int (2 : Int32))]) (S := []) (m_vtx_1 hw S_p2 np A_ns hns G2) pd_11 rfl rfl rfl (by decide) (Nat.le_of_ble_eq_true rfl) (by decide) (by decide) (fun T h4 v4 L4 X q4 => ?_)
  obtain ⟨rfl, Kc4, G4⟩ := q4
  have ar4 := ar2.keep Kc4 (by simp only [List.mem_cons, List.not_mem_nil, or_false, not_or]; exact ⟨Nat.ne_of_lt hlt, Nat.ne_of_lt (Nat.lt_trans (Nat.lt_trans (Nat.lt_trans hlt (hG.2.1)) (hG.2.2.1)) (hG.2.2.2.1)), Nat.ne_of_lt (Nat.lt_trans hlt (hG.2.1)), Nat.ne_of_lt (Nat.lt_trans (Nat.lt_trans hlt (hG.2.1)) (hG.2.2.1)), Nat.ne_of_lt (Nat.lt_trans (Nat.lt_trans (Nat.lt_trans (Nat.lt_trans (Nat.lt_trans (Nat.lt_trans hlt (hG.2.1)) (hG.2.2.1)) (hG.2.2.2.1)) (hG.2.2.2.2.1)) (hG.2.2.2.2.2.1)) (hG.2.2.2.2.2.2.1)), Nat.ne_of_lt (Nat.lt_trans (Nat.lt_trans (Nat.lt_trans (Nat.lt_trans (Nat.lt_trans (Nat.lt_trans (Nat.lt_trans hlt (hG.2.1)) (hG.2.2.1)) (hG.2.2.2.1)) (hG.2.2.2.2.1)) (hG.2.2.2.2.2.1)) (hG.2.2.2.2.2.2.1)) (hG.2.2.2.2.2.2.2.1)), Nat.ne_of_lt (Nat.lt_trans (Nat.lt_trans (Nat.lt_trans (Nat.lt_trans (Nat.lt_trans hlt (hG.2.1)) (hG.2.2.1)) (hG.2.2.2.1)) (hG.2.2.2.2.1)) (hG.2.2.2.2.2.1))⟩)
  show Wp _ _ _ _ (T.setTop (mkF _ _ _ []))
  refine w_iload X d_172 rfl ?_
  refine w_iconst X (2 : Int32) d_174 rfl ?_
  refine w_icmple X d_175 (fun _ => ?_) (fun hc => absurd hc (by rw [hnn]; decide))
  refine w_iload X d_205 rfl ?_
  refine w_iconst X (3 : Int32) d_207 rfl ?_
  refine w_icmple X d_208 (fun _ => ?_) (fun hc => absurd hc (by rw [hnn]; decide))
  exact m_lawq_2 hw hnn G4 hs hne1 hz0 hz1 X Y
theorem m_lawv_3 {l : Launch} {Z : State} {a0 : Array Value} {n0 : Nat} (hw : own_hw a0 Z) {h0 : Heap} {zc : Int32} {fm : Value} {nw p1 p2 ns : Addr} {cN : Cell} (hS : own_S Z zc fm) (S_nw : Sta Z Z.heap "com/example/flicker/flicker/game/GameBuilder" "NO_WEIGHTS" "[J" (.ref nw)) (S_p1 : Sta Z Z.heap "com/example/flicker/flicker/game/Player" "ONE" "Lcom/example/flicker/flicker/game/Player;" (.ref p1)) (S_ns : Sta Z Z.heap "com/example/flicker/flicker/game/GameBuilder" "NO_SETS" "[I" (.ref ns)) (S_p2 : Sta Z Z.heap "com/example/flicker/flicker/game/Player" "TWO" "Lcom/example/flicker/flicker/game/Player;" (.ref p2)) (np : p1 ≠ p2) (A_ns : Arr Z Z.heap ns cN .int) (hns : cN.slots.size.toInt32 = 0) {a ids pr nm sb en ln se ss arr : Addr} {cc gg1 gg2 gg3 gg4 w nn rv r0 s0 s1 s2 s3 : Int32} {k0 y0 k1 y1 k2 y2 : Int32} {z0 z1 z2 : Int64} (hnn : nn = (3 : Int32)) (hG : own_GB Z h0 n0 a ids pr nm sb en ln se ss (0 : Int32) (0 : Int32) (0 : Int32) (0 : Int32) (0 : Int32)) (Aa : Ary Z h0 arr .int [(.int s0), (.int s1), (.int s2), (.int s3)]) (hlt : arr < a) (hk0 : own_place (0 : Int32) nn r0 rv = k0) (hj0 : ¬ k0 < 0) (hv0 : [(Value.int s0), (.int s1), (.int s2), (.int s3)][k0.toNatClampNeg]? = some (.int y0)) (hk1 : own_place (1 : Int32) nn r0 rv = k1) (hj1 : ¬ k1 < 0) (hv1 : [(Value.int s0), (.int s1), (.int s2), (.int s3)][k1.toNatClampNeg]? = some (.int y1)) (hk2 : own_place (2 : Int32) nn r0 rv = k2) (hj2 : ¬ k2 < 0) (hv2 : [(Value.int s0), (.int s1), (.int s2), (.int s3)][k2.toNatClampNeg]? = some (.int y2)) (hs : own_srt [own_key y0 (0 : Int64), own_key y1 (1 : Int64), own_key y2 (2 : Int64)] = [z0, z1, z2]) (hne1 : ¬ own_hi z1 = own_hi z0) (hne2 : ¬ own_hi z2 = own_hi z1) (hz0 : own_hi z0 = s0.toInt64) (hz1 : own_hi z1 = s1.toInt64) (hz2 : own_hi z2 = s2.toInt64)
    {p : Program} {e : Env} {s : State} {m : MethodId} {args : Array Value} {below : List Frame} {meth : Method} {c : Code} {T : State} {locs : List Loc} {kk : Nat} {u : Vm} (X : Sd Z n0 kk code 16 "com/example/flicker/flicker/game/GameBuilderFirstMissingIdPinLaw" "law" (some .boolean) h0 p l e room_1 (s.setVm u) m args below meth c T locs 20 1215) (Y : s.Since u kk) :
    Wp p e below (PoW Z n0 s (fun v _ => v = some (.int 1)) room_1.cells room_1.slots) (T.setTop (mkF m 107 #[.val (.int cc), .val (.int gg1), .val (.int gg2), .val (.int gg3), .val (.int gg4), .val (.int w), .val (.int nn), .val (.int s0), .val (.int s1), .val (.int s2), .val (.int s3), .val (.ref arr), .val (.int rv), .val (.int r0), .val (.ref a), .unset] [])) := by
  refine w_iload X d_107 rfl ?_
  refine w_ifle X d_109 (fun hc => absurd (by rw [hnn]; decide) hc) (fun _ => ?_)
  refine w_aload X d_112 rfl (rfl) ?_
  refine w_aload X d_114 rfl (rfl) ?_
  refine w_iconst X (0 : Int32) d_116 rfl ?_
  refine w_iload X d_117 rfl ?_
  refine w_iload X d_119 rfl ?_
  refine w_iload X d_121 rfl ?_
  refine w_callS X d_123 (wd_135 hw) (wd_136 hw) (wd_3 hw) (wd_137 hw) (by decide) (argsL := [(.int (0 : Int32)), (.int nn), (.int r0), (.int rv)]) (S := [(.ref arr), (.ref a)]) (m_place hw (by rw [hnn]; decide) hk0) pd_10 rfl rfl rfl (by decide) (Nat.le_of_ble_eq_true rfl) (by decide) (by decide) (fun T h1 v1 L1 X q1 => ?_)
  obtain ⟨rfl, rfl⟩ := q1
  show Wp _ _ _ _ (T.setTop (mkF _ _ _ [(.int k0), (.ref arr), (.ref a)]))
  refine w_iaload X d_126 Aa hj0 hv0 ?_
  refine w_getS X d_127 (host := "") (Or.inl (wd_138 hw)) Via.refl (S_p1.ext X.old.2) (fun T X => ?_)
  refine w_iconst X (0 : Int32) d_130 rfl ?_
  refine w_aconstNull X d_131 ?_
  refine w_getS X d_132 (host := "") (Or.inl (wd_141 hw)) Via.refl (S_ns.ext X.old.2) (fun T X => ?_)
  refine w_iconst X (1 : Int32) d_135 rfl ?_
  refine w_callV X d_136 (wd_143 hw) (wd_144 hw) (notFace_of_selects (args := #[]) (mvT X.hZ (wd_146 hw))) (wd_146 hw) (wd_145 hw) (wd_8 hw) (wd_147 hw) (by decide) hG.2.2.2.2.2.2.2.2.2.1 (argsL := [(.int y0), (.ref p1), (.int (0 : Int32)), .null, (.ref ns), (.int (1 : Int32))]) (S := []) (m_vtx_0 hw S_p2 np A_ns hns hG) pd_11 rfl rfl rfl (by decide) (Nat.le_of_ble_eq_true rfl) (by decide) (by decide) (fun T h2 v2 L2 X q2 => ?_)
  obtain ⟨rfl, Kc2, G2⟩ := q2
  have ar2 := Aa.keep Kc2 (by simp only [List.mem_cons, List.not_mem_nil, or_false, not_or]; exact ⟨Nat.ne_of_lt hlt, Nat.ne_of_lt (Nat.lt_trans (Nat.lt_trans (Nat.lt_trans hlt (hG.2.1)) (hG.2.2.1)) (hG.2.2.2.1)), Nat.ne_of_lt (Nat.lt_trans hlt (hG.2.1)), Nat.ne_of_lt (Nat.lt_trans (Nat.lt_trans hlt (hG.2.1)) (hG.2.2.1)), Nat.ne_of_lt (Nat.lt_trans (Nat.lt_trans (Nat.lt_trans (Nat.lt_trans (Nat.lt_trans (Nat.lt_trans hlt (hG.2.1)) (hG.2.2.1)) (hG.2.2.2.1)) (hG.2.2.2.2.1)) (hG.2.2.2.2.2.1)) (hG.2.2.2.2.2.2.1)), Nat.ne_of_lt (Nat.lt_trans (Nat.lt_trans (Nat.lt_trans (Nat.lt_trans (Nat.lt_trans (Nat.lt_trans (Nat.lt_trans hlt (hG.2.1)) (hG.2.2.1)) (hG.2.2.2.1)) (hG.2.2.2.2.1)) (hG.2.2.2.2.2.1)) (hG.2.2.2.2.2.2.1)) (hG.2.2.2.2.2.2.2.1)), Nat.ne_of_lt (Nat.lt_trans (Nat.lt_trans (Nat.lt_trans (Nat.lt_trans (Nat.lt_trans hlt (hG.2.1)) (hG.2.2.1)) (hG.2.2.2.1)) (hG.2.2.2.2.1)) (hG.2.2.2.2.2.1))⟩)
  show Wp _ _ _ _ (T.setTop (mkF _ _ _ []))
  refine w_iload X d_139 rfl ?_
  refine w_iconst X (1 : Int32) d_141 rfl ?_
  refine w_icmple X d_142 (fun hc => absurd (by rw [hnn]; decide) hc) (fun _ => ?_)
  refine w_aload X d_145 rfl (rfl) ?_
  refine w_aload X d_147 rfl (rfl) ?_
  refine w_iconst X (1 : Int32) d_149 rfl ?_
  refine w_iload X d_150 rfl ?_
  refine w_iload X d_152 rfl ?_
  refine w_iload X d_154 rfl ?_
  refine w_callS X d_156 (wd_135 hw) (wd_136 hw) (wd_3 hw) (wd_137 hw) (by decide) (argsL := [(.int (1 : Int32)), (.int nn), (.int r0), (.int rv)]) (S := [(.ref arr), (.ref a)]) (m_place hw (by rw [hnn]; decide) hk1) pd_10 rfl rfl rfl (by decide) (Nat.le_of_ble_eq_true rfl) (by decide) (by decide) (fun T h3 v3 L3 X q3 => ?_)
  obtain ⟨rfl, rfl⟩ := q3
  show Wp _ _ _ _ (T.setTop (mkF _ _ _ [(.int k1), (.ref arr), (.ref a)]))
  refine w_iaload X d_159 ar2 hj1 hv1 ?_
  refine w_getS X d_160 (host := "") (Or.inl (wd_138 hw)) Via.refl (S_p1.ext X.old.2) (fun T X => ?_)
  refine w_iconst X (0 : Int32) d_163 rfl ?_
  refine w_aconstNull X d_164 ?_
  refine w_getS X d_165 (host := "") (Or.inl (wd_141 hw)) Via.refl (S_ns.ext X.old.2) (fun T X => ?_)
  refine w_iconst X (2 : Int32) d_168 rfl ?_
  refine w_callV X d_169 (wd_143 hw) (wd_144 hw) (notFace_of_selects (args := #[]) (mvT X.hZ (wd_146 hw))) (wd_146 hw) (wd_145 hw) (wd_8 hw) (wd_147 hw) (by decide) G2.2.2.2.2.2.2.2.2.2.1 (argsL := [(.int y1), (.ref p1), (.int (0 : Int32)), .null, (.ref ns), (.int (2 : Int32))]) (S := []) (m_vtx_1 hw S_p2 np A_ns hns G2) pd_11 rfl rfl rfl (by decide) (Nat.le_of_ble_eq_true rfl) (by decide) (by decide) (fun T h4 v4 L4 X q4 => ?_)
  obtain ⟨rfl, Kc4, G4⟩ := q4
  have ar4 := ar2.keep Kc4 (by simp only [List.mem_cons, List.not_mem_nil, or_false, not_or]; exact ⟨Nat.ne_of_lt hlt, Nat.ne_of_lt (Nat.lt_trans (Nat.lt_trans (Nat.lt_trans hlt (hG.2.1)) (hG.2.2.1)) (hG.2.2.2.1)), Nat.ne_of_lt (Nat.lt_trans hlt (hG.2.1)), Nat.ne_of_lt (Nat.lt_trans (Nat.lt_trans hlt (hG.2.1)) (hG.2.2.1)), Nat.ne_of_lt (Nat.lt_trans (Nat.lt_trans (Nat.lt_trans (Nat.lt_trans (Nat.lt_trans (Nat.lt_trans hlt (hG.2.1)) (hG.2.2.1)) (hG.2.2.2.1)) (hG.2.2.2.2.1)) (hG.2.2.2.2.2.1)) (hG.2.2.2.2.2.2.1)), Nat.ne_of_lt (Nat.lt_trans (Nat.lt_trans (Nat.lt_trans (Nat.lt_trans (Nat.lt_trans (Nat.lt_trans (Nat.lt_trans hlt (hG.2.1)) (hG.2.2.1)) (hG.2.2.2.1)) (hG.2.2.2.2.1)) (hG.2.2.2.2.2.1)) (hG.2.2.2.2.2.2.1)) (hG.2.2.2.2.2.2.2.1)), Nat.ne_of_lt (Nat.lt_trans (Nat.lt_trans (Nat.lt_trans (Nat.lt_trans (Nat.lt_trans hlt (hG.2.1)) (hG.2.2.1)) (hG.2.2.2.1)) (hG.2.2.2.2.1)) (hG.2.2.2.2.2.1))⟩)
  show Wp _ _ _ _ (T.setTop (mkF _ _ _ []))
  refine w_iload X d_172 rfl ?_
  refine w_iconst X (2 : Int32) d_174 rfl ?_
  refine w_icmple X d_175 (fun hc => absurd (by rw [hnn]; decide) hc) (fun _ => ?_)
  refine w_aload X d_178 rfl (rfl) ?_
  refine w_aload X d_180 rfl (rfl) ?_
  refine w_iconst X (2 : Int32) d_182 rfl ?_
  refine w_iload X d_183 rfl ?_
  refine w_iload X d_185 rfl ?_
  refine w_iload X d_187 rfl ?_
  refine w_callS X d_189 (wd_135 hw) (wd_136 hw) (wd_3 hw) (wd_137 hw) (by decide) (argsL := [(.int (2 : Int32)), (.int nn), (.int r0), (.int rv)]) (S := [(.ref arr), (.ref a)]) (m_place hw (by rw [hnn]; decide) hk2) pd_10 rfl rfl rfl (by decide) (Nat.le_of_ble_eq_true rfl) (by decide) (by decide) (fun T h5 v5 L5 X q5 => ?_)
  obtain ⟨rfl, rfl⟩ := q5
  show Wp _ _ _ _ (T.setTop (mkF _ _ _ [(.int k2), (.ref arr), (.ref a)]))
  refine w_iaload X d_192 ar4 hj2 hv2 ?_
  refine w_getS X d_193 (host := "") (Or.inl (wd_138 hw)) Via.refl (S_p1.ext X.old.2) (fun T X => ?_)
  refine w_iconst X (0 : Int32) d_196 rfl ?_
  refine w_aconstNull X d_197 ?_
  refine w_getS X d_198 (host := "") (Or.inl (wd_141 hw)) Via.refl (S_ns.ext X.old.2) (fun T X => ?_)
  refine w_iconst X (3 : Int32) d_201 rfl ?_
  refine w_callV X d_202 (wd_143 hw) (wd_144 hw) (notFace_of_selects (args := #[]) (mvT X.hZ (wd_146 hw))) (wd_146 hw) (wd_145 hw) (wd_8 hw) (wd_147 hw) (by decide) G4.2.2.2.2.2.2.2.2.2.1 (argsL := [(.int y2), (.ref p1), (.int (0 : Int32)), .null, (.ref ns), (.int (3 : Int32))]) (S := []) (m_vtx_2 hw S_p2 np A_ns hns G4) pd_11 rfl rfl rfl (by decide) (Nat.le_of_ble_eq_true rfl) (by decide) (by decide) (fun T h6 v6 L6 X q6 => ?_)
  obtain ⟨rfl, Kc6, G6⟩ := q6
  have ar6 := ar4.keep Kc6 (by simp only [List.mem_cons, List.not_mem_nil, or_false, not_or]; exact ⟨Nat.ne_of_lt hlt, Nat.ne_of_lt (Nat.lt_trans (Nat.lt_trans (Nat.lt_trans hlt (hG.2.1)) (hG.2.2.1)) (hG.2.2.2.1)), Nat.ne_of_lt (Nat.lt_trans hlt (hG.2.1)), Nat.ne_of_lt (Nat.lt_trans (Nat.lt_trans hlt (hG.2.1)) (hG.2.2.1)), Nat.ne_of_lt (Nat.lt_trans (Nat.lt_trans (Nat.lt_trans (Nat.lt_trans (Nat.lt_trans (Nat.lt_trans hlt (hG.2.1)) (hG.2.2.1)) (hG.2.2.2.1)) (hG.2.2.2.2.1)) (hG.2.2.2.2.2.1)) (hG.2.2.2.2.2.2.1)), Nat.ne_of_lt (Nat.lt_trans (Nat.lt_trans (Nat.lt_trans (Nat.lt_trans (Nat.lt_trans (Nat.lt_trans (Nat.lt_trans hlt (hG.2.1)) (hG.2.2.1)) (hG.2.2.2.1)) (hG.2.2.2.2.1)) (hG.2.2.2.2.2.1)) (hG.2.2.2.2.2.2.1)) (hG.2.2.2.2.2.2.2.1)), Nat.ne_of_lt (Nat.lt_trans (Nat.lt_trans (Nat.lt_trans (Nat.lt_trans (Nat.lt_trans hlt (hG.2.1)) (hG.2.2.1)) (hG.2.2.2.1)) (hG.2.2.2.2.1)) (hG.2.2.2.2.2.1))⟩)
  show Wp _ _ _ _ (T.setTop (mkF _ _ _ []))
  refine w_iload X d_205 rfl ?_
  refine w_iconst X (3 : Int32) d_207 rfl ?_
  refine w_icmple X d_208 (fun _ => ?_) (fun hc => absurd hc (by rw [hnn]; decide))
  exact m_lawq_3 hw hnn G6 hs hne1 hne2 hz0 hz1 hz2 X Y
theorem m_lawv_4 {l : Launch} {Z : State} {a0 : Array Value} {n0 : Nat} (hw : own_hw a0 Z) {h0 : Heap} {zc : Int32} {fm : Value} {nw p1 p2 ns : Addr} {cN : Cell} (hS : own_S Z zc fm) (S_nw : Sta Z Z.heap "com/example/flicker/flicker/game/GameBuilder" "NO_WEIGHTS" "[J" (.ref nw)) (S_p1 : Sta Z Z.heap "com/example/flicker/flicker/game/Player" "ONE" "Lcom/example/flicker/flicker/game/Player;" (.ref p1)) (S_ns : Sta Z Z.heap "com/example/flicker/flicker/game/GameBuilder" "NO_SETS" "[I" (.ref ns)) (S_p2 : Sta Z Z.heap "com/example/flicker/flicker/game/Player" "TWO" "Lcom/example/flicker/flicker/game/Player;" (.ref p2)) (np : p1 ≠ p2) (A_ns : Arr Z Z.heap ns cN .int) (hns : cN.slots.size.toInt32 = 0) {a ids pr nm sb en ln se ss arr : Addr} {cc gg1 gg2 gg3 gg4 w nn rv r0 s0 s1 s2 s3 : Int32} {k0 y0 k1 y1 k2 y2 k3 y3 : Int32} {z0 z1 z2 z3 : Int64} (hnn : nn = (4 : Int32)) (hG : own_GB Z h0 n0 a ids pr nm sb en ln se ss (0 : Int32) (0 : Int32) (0 : Int32) (0 : Int32) (0 : Int32)) (Aa : Ary Z h0 arr .int [(.int s0), (.int s1), (.int s2), (.int s3)]) (hlt : arr < a) (hk0 : own_place (0 : Int32) nn r0 rv = k0) (hj0 : ¬ k0 < 0) (hv0 : [(Value.int s0), (.int s1), (.int s2), (.int s3)][k0.toNatClampNeg]? = some (.int y0)) (hk1 : own_place (1 : Int32) nn r0 rv = k1) (hj1 : ¬ k1 < 0) (hv1 : [(Value.int s0), (.int s1), (.int s2), (.int s3)][k1.toNatClampNeg]? = some (.int y1)) (hk2 : own_place (2 : Int32) nn r0 rv = k2) (hj2 : ¬ k2 < 0) (hv2 : [(Value.int s0), (.int s1), (.int s2), (.int s3)][k2.toNatClampNeg]? = some (.int y2)) (hk3 : own_place (3 : Int32) nn r0 rv = k3) (hj3 : ¬ k3 < 0) (hv3 : [(Value.int s0), (.int s1), (.int s2), (.int s3)][k3.toNatClampNeg]? = some (.int y3)) (hs : own_srt [own_key y0 (0 : Int64), own_key y1 (1 : Int64), own_key y2 (2 : Int64), own_key y3 (3 : Int64)] = [z0, z1, z2, z3]) (hne1 : ¬ own_hi z1 = own_hi z0) (hne2 : ¬ own_hi z2 = own_hi z1) (hne3 : ¬ own_hi z3 = own_hi z2) (hz0 : own_hi z0 = s0.toInt64) (hz1 : own_hi z1 = s1.toInt64) (hz2 : own_hi z2 = s2.toInt64) (hz3 : own_hi z3 = s3.toInt64)
    {p : Program} {e : Env} {s : State} {m : MethodId} {args : Array Value} {below : List Frame} {meth : Method} {c : Code} {T : State} {locs : List Loc} {kk : Nat} {u : Vm} (X : Sd Z n0 kk code 16 "com/example/flicker/flicker/game/GameBuilderFirstMissingIdPinLaw" "law" (some .boolean) h0 p l e room_1 (s.setVm u) m args below meth c T locs 20 1215) (Y : s.Since u kk) :
    Wp p e below (PoW Z n0 s (fun v _ => v = some (.int 1)) room_1.cells room_1.slots) (T.setTop (mkF m 107 #[.val (.int cc), .val (.int gg1), .val (.int gg2), .val (.int gg3), .val (.int gg4), .val (.int w), .val (.int nn), .val (.int s0), .val (.int s1), .val (.int s2), .val (.int s3), .val (.ref arr), .val (.int rv), .val (.int r0), .val (.ref a), .unset] [])) := by
  refine w_iload X d_107 rfl ?_
  refine w_ifle X d_109 (fun hc => absurd (by rw [hnn]; decide) hc) (fun _ => ?_)
  refine w_aload X d_112 rfl (rfl) ?_
  refine w_aload X d_114 rfl (rfl) ?_
  refine w_iconst X (0 : Int32) d_116 rfl ?_
  refine w_iload X d_117 rfl ?_
  refine w_iload X d_119 rfl ?_
  refine w_iload X d_121 rfl ?_
  refine w_callS X d_123 (wd_135 hw) (wd_136 hw) (wd_3 hw) (wd_137 hw) (by decide) (argsL := [(.int (0 : Int32)), (.int nn), (.int r0), (.int rv)]) (S := [(.ref arr), (.ref a)]) (m_place hw (by rw [hnn]; decide) hk0) pd_10 rfl rfl rfl (by decide) (Nat.le_of_ble_eq_true rfl) (by decide) (by decide) (fun T h1 v1 L1 X q1 => ?_)
  obtain ⟨rfl, rfl⟩ := q1
  show Wp _ _ _ _ (T.setTop (mkF _ _ _ [(.int k0), (.ref arr), (.ref a)]))
  refine w_iaload X d_126 Aa hj0 hv0 ?_
  refine w_getS X d_127 (host := "") (Or.inl (wd_138 hw)) Via.refl (S_p1.ext X.old.2) (fun T X => ?_)
  refine w_iconst X (0 : Int32) d_130 rfl ?_
  refine w_aconstNull X d_131 ?_
  refine w_getS X d_132 (host := "") (Or.inl (wd_141 hw)) Via.refl (S_ns.ext X.old.2) (fun T X => ?_)
  refine w_iconst X (1 : Int32) d_135 rfl ?_
  refine w_callV X d_136 (wd_143 hw) (wd_144 hw) (notFace_of_selects (args := #[]) (mvT X.hZ (wd_146 hw))) (wd_146 hw) (wd_145 hw) (wd_8 hw) (wd_147 hw) (by decide) hG.2.2.2.2.2.2.2.2.2.1 (argsL := [(.int y0), (.ref p1), (.int (0 : Int32)), .null, (.ref ns), (.int (1 : Int32))]) (S := []) (m_vtx_0 hw S_p2 np A_ns hns hG) pd_11 rfl rfl rfl (by decide) (Nat.le_of_ble_eq_true rfl) (by decide) (by decide) (fun T h2 v2 L2 X q2 => ?_)
  obtain ⟨rfl, Kc2, G2⟩ := q2
  have ar2 := Aa.keep Kc2 (by simp only [List.mem_cons, List.not_mem_nil, or_false, not_or]; exact ⟨Nat.ne_of_lt hlt, Nat.ne_of_lt (Nat.lt_trans (Nat.lt_trans (Nat.lt_trans hlt (hG.2.1)) (hG.2.2.1)) (hG.2.2.2.1)), Nat.ne_of_lt (Nat.lt_trans hlt (hG.2.1)), Nat.ne_of_lt (Nat.lt_trans (Nat.lt_trans hlt (hG.2.1)) (hG.2.2.1)), Nat.ne_of_lt (Nat.lt_trans (Nat.lt_trans (Nat.lt_trans (Nat.lt_trans (Nat.lt_trans (Nat.lt_trans hlt (hG.2.1)) (hG.2.2.1)) (hG.2.2.2.1)) (hG.2.2.2.2.1)) (hG.2.2.2.2.2.1)) (hG.2.2.2.2.2.2.1)), Nat.ne_of_lt (Nat.lt_trans (Nat.lt_trans (Nat.lt_trans (Nat.lt_trans (Nat.lt_trans (Nat.lt_trans (Nat.lt_trans hlt (hG.2.1)) (hG.2.2.1)) (hG.2.2.2.1)) (hG.2.2.2.2.1)) (hG.2.2.2.2.2.1)) (hG.2.2.2.2.2.2.1)) (hG.2.2.2.2.2.2.2.1)), Nat.ne_of_lt (Nat.lt_trans (Nat.lt_trans (Nat.lt_trans (Nat.lt_trans (Nat.lt_trans hlt (hG.2.1)) (hG.2.2.1)) (hG.2.2.2.1)) (hG.2.2.2.2.1)) (hG.2.2.2.2.2.1))⟩)
  show Wp _ _ _ _ (T.setTop (mkF _ _ _ []))
  refine w_iload X d_139 rfl ?_
  refine w_iconst X (1 : Int32) d_141 rfl ?_
  refine w_icmple X d_142 (fun hc => absurd (by rw [hnn]; decide) hc) (fun _ => ?_)
  refine w_aload X d_145 rfl (rfl) ?_
  refine w_aload X d_147 rfl (rfl) ?_
  refine w_iconst X (1 : Int32) d_149 rfl ?_
  refine w_iload X d_150 rfl ?_
  refine w_iload X d_152 rfl ?_
  refine w_iload X d_154 rfl ?_
  refine w_callS X d_156 (wd_135 hw) (wd_136 hw) (wd_3 hw) (wd_137 hw) (by decide) (argsL := [(.int (1 : Int32)), (.int nn), (.int r0), (.int rv)]) (S := [(.ref arr), (.ref a)]) (m_place hw (by rw [hnn]; decide) hk1) pd_10 rfl rfl rfl (by decide) (Nat.le_of_ble_eq_true rfl) (by decide) (by decide) (fun T h3 v3 L3 X q3 => ?_)
  obtain ⟨rfl, rfl⟩ := q3
  show Wp _ _ _ _ (T.setTop (mkF _ _ _ [(.int k1), (.ref arr), (.ref a)]))
  refine w_iaload X d_159 ar2 hj1 hv1 ?_
  refine w_getS X d_160 (host := "") (Or.inl (wd_138 hw)) Via.refl (S_p1.ext X.old.2) (fun T X => ?_)
  refine w_iconst X (0 : Int32) d_163 rfl ?_
  refine w_aconstNull X d_164 ?_
  refine w_getS X d_165 (host := "") (Or.inl (wd_141 hw)) Via.refl (S_ns.ext X.old.2) (fun T X => ?_)
  refine w_iconst X (2 : Int32) d_168 rfl ?_
  refine w_callV X d_169 (wd_143 hw) (wd_144 hw) (notFace_of_selects (args := #[]) (mvT X.hZ (wd_146 hw))) (wd_146 hw) (wd_145 hw) (wd_8 hw) (wd_147 hw) (by decide) G2.2.2.2.2.2.2.2.2.2.1 (argsL := [(.int y1), (.ref p1), (.int (0 : Int32)), .null, (.ref ns), (.int (2 : Int32))]) (S := []) (m_vtx_1 hw S_p2 np A_ns hns G2) pd_11 rfl rfl rfl (by decide) (Nat.le_of_ble_eq_true rfl) (by decide) (by decide) (fun T h4 v4 L4 X q4 => ?_)
  obtain ⟨rfl, Kc4, G4⟩ := q4
  have ar4 := ar2.keep Kc4 (by simp only [List.mem_cons, List.not_mem_nil, or_false, not_or]; exact ⟨Nat.ne_of_lt hlt, Nat.ne_of_lt (Nat.lt_trans (Nat.lt_trans (Nat.lt_trans hlt (hG.2.1)) (hG.2.2.1)) (hG.2.2.2.1)), Nat.ne_of_lt (Nat.lt_trans hlt (hG.2.1)), Nat.ne_of_lt (Nat.lt_trans (Nat.lt_trans hlt (hG.2.1)) (hG.2.2.1)), Nat.ne_of_lt (Nat.lt_trans (Nat.lt_trans (Nat.lt_trans (Nat.lt_trans (Nat.lt_trans (Nat.lt_trans hlt (hG.2.1)) (hG.2.2.1)) (hG.2.2.2.1)) (hG.2.2.2.2.1)) (hG.2.2.2.2.2.1)) (hG.2.2.2.2.2.2.1)), Nat.ne_of_lt (Nat.lt_trans (Nat.lt_trans (Nat.lt_trans (Nat.lt_trans (Nat.lt_trans (Nat.lt_trans (Nat.lt_trans hlt (hG.2.1)) (hG.2.2.1)) (hG.2.2.2.1)) (hG.2.2.2.2.1)) (hG.2.2.2.2.2.1)) (hG.2.2.2.2.2.2.1)) (hG.2.2.2.2.2.2.2.1)), Nat.ne_of_lt (Nat.lt_trans (Nat.lt_trans (Nat.lt_trans (Nat.lt_trans (Nat.lt_trans hlt (hG.2.1)) (hG.2.2.1)) (hG.2.2.2.1)) (hG.2.2.2.2.1)) (hG.2.2.2.2.2.1))⟩)
  show Wp _ _ _ _ (T.setTop (mkF _ _ _ []))
  refine w_iload X d_172 rfl ?_
  refine w_iconst X (2 : Int32) d_174 rfl ?_
  refine w_icmple X d_175 (fun hc => absurd (by rw [hnn]; decide) hc) (fun _ => ?_)
  refine w_aload X d_178 rfl (rfl) ?_
  refine w_aload X d_180 rfl (rfl) ?_
  refine w_iconst X (2 : Int32) d_182 rfl ?_
  refine w_iload X d_183 rfl ?_
  refine w_iload X d_185 rfl ?_
  refine w_iload X d_187 rfl ?_
  refine w_callS X d_189 (wd_135 hw) (wd_136 hw) (wd_3 hw) (wd_137 hw) (by decide) (argsL := [(.int (2 : Int32)), (.int nn), (.int r0), (.int rv)]) (S := [(.ref arr), (.ref a)]) (m_place hw (by rw [hnn]; decide) hk2) pd_10 rfl rfl rfl (by decide) (Nat.le_of_ble_eq_true rfl) (by decide) (by decide) (fun T h5 v5 L5 X q5 => ?_)
  obtain ⟨rfl, rfl⟩ := q5
  show Wp _ _ _ _ (T.setTop (mkF _ _ _ [(.int k2), (.ref arr), (.ref a)]))
  refine w_iaload X d_192 ar4 hj2 hv2 ?_
  refine w_getS X d_193 (host := "") (Or.inl (wd_138 hw)) Via.refl (S_p1.ext X.old.2) (fun T X => ?_)
  refine w_iconst X (0 : Int32) d_196 rfl ?_
  refine w_aconstNull X d_197 ?_
  refine w_getS X d_198 (host := "") (Or.inl (wd_141 hw)) Via.refl (S_ns.ext X.old.2) (fun T X => ?_)
  refine w_iconst X (3 : Int32) d_201 rfl ?_
  refine w_callV X d_202 (wd_143 hw) (wd_144 hw) (notFace_of_selects (args := #[]) (mvT X.hZ (wd_146 hw))) (wd_146 hw) (wd_145 hw) (wd_8 hw) (wd_147 hw) (by decide) G4.2.2.2.2.2.2.2.2.2.1 (argsL := [(.int y2), (.ref p1), (.int (0 : Int32)), .null, (.ref ns), (.int (3 : Int32))]) (S := []) (m_vtx_2 hw S_p2 np A_ns hns G4) pd_11 rfl rfl rfl (by decide) (Nat.le_of_ble_eq_true rfl) (by decide) (by decide) (fun T h6 v6 L6 X q6 => ?_)
  obtain ⟨rfl, Kc6, G6⟩ := q6
  have ar6 := ar4.keep Kc6 (by simp only [List.mem_cons, List.not_mem_nil, or_false, not_or]; exact ⟨Nat.ne_of_lt hlt, Nat.ne_of_lt (Nat.lt_trans (Nat.lt_trans (Nat.lt_trans hlt (hG.2.1)) (hG.2.2.1)) (hG.2.2.2.1)), Nat.ne_of_lt (Nat.lt_trans hlt (hG.2.1)), Nat.ne_of_lt (Nat.lt_trans (Nat.lt_trans hlt (hG.2.1)) (hG.2.2.1)), Nat.ne_of_lt (Nat.lt_trans (Nat.lt_trans (Nat.lt_trans (Nat.lt_trans (Nat.lt_trans (Nat.lt_trans hlt (hG.2.1)) (hG.2.2.1)) (hG.2.2.2.1)) (hG.2.2.2.2.1)) (hG.2.2.2.2.2.1)) (hG.2.2.2.2.2.2.1)), Nat.ne_of_lt (Nat.lt_trans (Nat.lt_trans (Nat.lt_trans (Nat.lt_trans (Nat.lt_trans (Nat.lt_trans (Nat.lt_trans hlt (hG.2.1)) (hG.2.2.1)) (hG.2.2.2.1)) (hG.2.2.2.2.1)) (hG.2.2.2.2.2.1)) (hG.2.2.2.2.2.2.1)) (hG.2.2.2.2.2.2.2.1)), Nat.ne_of_lt (Nat.lt_trans (Nat.lt_trans (Nat.lt_trans (Nat.lt_trans (Nat.lt_trans hlt (hG.2.1)) (hG.2.2.1)) (hG.2.2.2.1)) (hG.2.2.2.2.1)) (hG.2.2.2.2.2.1))⟩)
  show Wp _ _ _ _ (T.setTop (mkF _ _ _ []))
  refine w_iload X d_205 rfl ?_
  refine w_iconst X (3 : Int32) d_207 rfl ?_
  refine w_icmple X d_208 (fun hc => absurd (by rw [hnn]; decide) hc) (fun _ => ?_)
  refine w_aload X d_211 rfl (rfl) ?_
  refine w_aload X d_213 rfl (rfl) ?_
  refine w_iconst X (3 : Int32) d_215 rfl ?_
  refine w_iload X d_216 rfl ?_
  refine w_iload X d_218 rfl ?_
  refine w_iload X d_220 rfl ?_
  refine w_callS X d_222 (wd_135 hw) (wd_136 hw) (wd_3 hw) (wd_137 hw) (by decide) (argsL := [(.int (3 : Int32)), (.int nn), (.int r0), (.int rv)]) (S := [(.ref arr), (.ref a)]) (m_place hw (by rw [hnn]; decide) hk3) pd_10 rfl rfl rfl (by decide) (Nat.le_of_ble_eq_true rfl) (by decide) (by decide) (fun T h7 v7 L7 X q7 => ?_)
  obtain ⟨rfl, rfl⟩ := q7
  show Wp _ _ _ _ (T.setTop (mkF _ _ _ [(.int k3), (.ref arr), (.ref a)]))
  refine w_iaload X d_225 ar6 hj3 hv3 ?_
  refine w_getS X d_226 (host := "") (Or.inl (wd_138 hw)) Via.refl (S_p1.ext X.old.2) (fun T X => ?_)
  refine w_iconst X (0 : Int32) d_229 rfl ?_
  refine w_aconstNull X d_230 ?_
  refine w_getS X d_231 (host := "") (Or.inl (wd_141 hw)) Via.refl (S_ns.ext X.old.2) (fun T X => ?_)
  refine w_iconst X (4 : Int32) d_234 rfl ?_
  refine w_callV X d_235 (wd_143 hw) (wd_144 hw) (notFace_of_selects (args := #[]) (mvT X.hZ (wd_146 hw))) (wd_146 hw) (wd_145 hw) (wd_8 hw) (wd_147 hw) (by decide) G6.2.2.2.2.2.2.2.2.2.1 (argsL := [(.int y3), (.ref p1), (.int (0 : Int32)), .null, (.ref ns), (.int (4 : Int32))]) (S := []) (m_vtx_3 hw S_p2 np A_ns hns G6) pd_11 rfl rfl rfl (by decide) (Nat.le_of_ble_eq_true rfl) (by decide) (by decide) (fun T h8 v8 L8 X q8 => ?_)
  obtain ⟨rfl, Kc8, G8⟩ := q8
  have ar8 := ar6.keep Kc8 (by simp only [List.mem_cons, List.not_mem_nil, or_false, not_or]; exact ⟨Nat.ne_of_lt hlt, Nat.ne_of_lt (Nat.lt_trans (Nat.lt_trans (Nat.lt_trans hlt (hG.2.1)) (hG.2.2.1)) (hG.2.2.2.1)), Nat.ne_of_lt (Nat.lt_trans hlt (hG.2.1)), Nat.ne_of_lt (Nat.lt_trans (Nat.lt_trans hlt (hG.2.1)) (hG.2.2.1)), Nat.ne_of_lt (Nat.lt_trans (Nat.lt_trans (Nat.lt_trans (Nat.lt_trans (Nat.lt_trans (Nat.lt_trans hlt (hG.2.1)) (hG.2.2.1)) (hG.2.2.2.1)) (hG.2.2.2.2.1)) (hG.2.2.2.2.2.1)) (hG.2.2.2.2.2.2.1)), Nat.ne_of_lt (Nat.lt_trans (Nat.lt_trans (Nat.lt_trans (Nat.lt_trans (Nat.lt_trans (Nat.lt_trans (Nat.lt_trans hlt (hG.2.1)) (hG.2.2.1)) (hG.2.2.2.1)) (hG.2.2.2.2.1)) (hG.2.2.2.2.2.1)) (hG.2.2.2.2.2.2.1)) (hG.2.2.2.2.2.2.2.1)), Nat.ne_of_lt (Nat.lt_trans (Nat.lt_trans (Nat.lt_trans (Nat.lt_trans (Nat.lt_trans hlt (hG.2.1)) (hG.2.2.1)) (hG.2.2.2.1)) (hG.2.2.2.2.1)) (hG.2.2.2.2.2.1))⟩)
  show Wp _ _ _ _ (T.setTop (mkF _ _ _ []))
  exact m_lawq_4 hw hnn G8 hs hne1 hne2 hne3 hz0 hz1 hz2 hz3 X Y
theorem m_lawu {l : Launch} {Z : State} {a0 : Array Value} {n0 : Nat} (hw : own_hw a0 Z) {zc : Int32} {fm : Value} {nw p1 p2 ns : Addr} {cN : Cell} (hS : own_S Z zc fm) (S_nw : Sta Z Z.heap "com/example/flicker/flicker/game/GameBuilder" "NO_WEIGHTS" "[J" (.ref nw)) (S_p1 : Sta Z Z.heap "com/example/flicker/flicker/game/Player" "ONE" "Lcom/example/flicker/flicker/game/Player;" (.ref p1)) (S_ns : Sta Z Z.heap "com/example/flicker/flicker/game/GameBuilder" "NO_SETS" "[I" (.ref ns)) (S_p2 : Sta Z Z.heap "com/example/flicker/flicker/game/Player" "TWO" "Lcom/example/flicker/flicker/game/Player;" (.ref p2)) (np : p1 ≠ p2) (A_ns : Arr Z Z.heap ns cN .int) (hns : cN.slots.size.toInt32 = 0) {cc gg1 gg2 gg3 gg4 w nn s0 s1 s2 s3 : Int32} (hn5 : nn = 0 ∨ nn = 1 ∨ nn = 2 ∨ nn = 3 ∨ nn = 4) (hb0 : 0 ≤ s0.toInt) (hb1 : s0.toInt < s1.toInt) (hb2 : s1.toInt < s2.toInt) (hb3 : s2.toInt < s3.toInt)
    {p : Program} {e : Env} {s : State} {m : MethodId} {args : Array Value} {below : List Frame} {meth : Method} {c : Code} {T : State} {locs : List Loc} (X : Sd Z n0 0 code 16 "com/example/flicker/flicker/game/GameBuilderFirstMissingIdPinLaw" "law" (some .boolean) Z.heap p l e room_1 (s.setVm s.vm) m args below meth c T locs 0 0) (Y : s.Since s.vm 0) :
    Wp p e below (PoW Z n0 s (fun v _ => v = some (.int 1)) room_1.cells room_1.slots) (T.setTop (mkF m 48 #[.val (.int cc), .val (.int gg1), .val (.int gg2), .val (.int gg3), .val (.int gg4), .val (.int w), .val (.int nn), .val (.int s0), .val (.int s1), .val (.int s2), .val (.int s3), .unset, .unset, .unset, .unset, .unset] [])) := by
  refine w_iconst X (4 : Int32) d_48 rfl ?_
  refine w_newarr X d_49 (wd_5 hw) 4 4 (by decide) (by decide) (by decide) (by decide) (by decide) (by decide) (fun T h1 b1 g1 gn1 X E1 A1 => ?_)
  replace A1 : Ary Z h1 b1 .int [(.int (0 : Int32)), (.int (0 : Int32)), (.int (0 : Int32)), (.int (0 : Int32))] := A1
  refine w_dup X d_51 rfl ?_
  refine w_iconst X (0 : Int32) d_52 rfl ?_
  refine w_iload X d_53 rfl ?_
  refine w_iastore X d_55 A1 (by decide) rfl gn1 (.int s0) rfl [(.int s0), (.int (0 : Int32)), (.int (0 : Int32)), (.int (0 : Int32))] rfl (fun T h2 X W2 A2 => ?_)
  refine w_dup X d_56 rfl ?_
  refine w_iconst X (1 : Int32) d_57 rfl ?_
  refine w_iload X d_58 rfl ?_
  refine w_iastore X d_60 A2 (by decide) rfl gn1 (.int s1) rfl [(.int s0), (.int s1), (.int (0 : Int32)), (.int (0 : Int32))] rfl (fun T h3 X W3 A3 => ?_)
  refine w_dup X d_61 rfl ?_
  refine w_iconst X (2 : Int32) d_62 rfl ?_
  refine w_iload X d_63 rfl ?_
  refine w_iastore X d_65 A3 (by decide) rfl gn1 (.int s2) rfl [(.int s0), (.int s1), (.int s2), (.int (0 : Int32))] rfl (fun T h4 X W4 A4 => ?_)
  refine w_dup X d_66 rfl ?_
  refine w_iconst X (3 : Int32) d_67 rfl ?_
  refine w_iload X d_68 rfl ?_
  refine w_iastore X d_70 A4 (by decide) rfl gn1 (.int s3) rfl [(.int s0), (.int s1), (.int s2), (.int s3)] rfl (fun T h5 X W5 A5 => ?_)
  refine w_astore X #[.val (.int cc), .val (.int gg1), .val (.int gg2), .val (.int gg3), .val (.int gg4), .val (.int w), .val (.int nn), .val (.int s0), .val (.int s1), .val (.int s2), .val (.int s3), .val (.ref b1), .unset, .unset, .unset, .unset] d_71 (rfl) rfl ?_
  refine w_iload X d_73 rfl ?_
  refine w_iconst X (1 : Int32) d_75 rfl ?_
  refine w_iand X d_76 ?_
  refine w_ifeq X d_77 (fun (hc77 : (w &&& (1 : Int32)) = (0 : Int32)) => ?_) (fun (hc77 : ¬ (w &&& (1 : Int32)) = (0 : Int32)) => ?_)
  · refine w_iconst X (0 : Int32) d_84 rfl ?_
    refine w_istore X #[.val (.int cc), .val (.int gg1), .val (.int gg2), .val (.int gg3), .val (.int gg4), .val (.int w), .val (.int nn), .val (.int s0), .val (.int s1), .val (.int s2), .val (.int s3), .val (.ref b1), .val (.int (0 : Int32)), .unset, .unset, .unset] d_85 rfl ?_
    refine w_iload X d_87 rfl ?_
    refine w_iconst X (1 : Int32) d_89 rfl ?_
    refine w_iushr X d_90 ?_
    refine w_iconst X (3 : Int32) d_91 rfl ?_
    refine w_iand X d_92 ?_
    refine w_istore X #[.val (.int cc), .val (.int gg1), .val (.int gg2), .val (.int gg3), .val (.int gg4), .val (.int w), .val (.int nn), .val (.int s0), .val (.int s1), .val (.int s2), .val (.int s3), .val (.ref b1), .val (.int (0 : Int32)), .val (.int (((w.toUInt32 >>> ((1 : Int32) &&& 31).toUInt32).toInt32) &&& (3 : Int32))), .unset, .unset] d_93 rfl ?_
    refine w_new X d_95 (wd_6 hw) (wd_7 hw) (wd_8 hw) (by decide) (by decide) (fun T h6 b6 g6 gn6 X E6 A6 D6 => ?_)
    refine w_dup X d_98 rfl ?_
    refine v_ldcS X Y d_99 (wd_9 hw) (own_wS hw) 4 (by decide) (by decide) (by decide) (by decide) (fun T h7 u kk a7 X Y E7 => ?_)
    refine w_iconst X (0 : Int32) d_101 rfl ?_
    have f1 := (A6.ext E7)
    have f2 := ((show Fld Z h6 b6 "com/example/flicker/flicker/game/GameBuilder" "ids" "[I" .null from D6 (Or.inl (wd_24 hw)) (ty := (.array .int)) (by decide)).ext E7)
    have f3 := ((show Fld Z h6 b6 "com/example/flicker/flicker/game/GameBuilder" "priorities" "[I" .null from D6 (Or.inl (wd_26 hw)) (ty := (.array .int)) (by decide)).ext E7)
    have f4 := ((show Fld Z h6 b6 "com/example/flicker/flicker/game/GameBuilder" "playerTwo" "Ljava/util/BitSet;" .null from D6 (Or.inr (wd_50 hw)) (ty := (.object "java/util/BitSet")) (by decide)).ext E7)
    have f5 := ((show Fld Z h6 b6 "com/example/flicker/flicker/game/GameBuilder" "names" "Lcom/example/flicker/flicker/game/VertexNames;" .null from D6 (Or.inr (wd_85 hw)) (ty := (.object "com/example/flicker/flicker/game/VertexNames")) (by decide)).ext E7)
    have f6 := ((show Fld Z h6 b6 "com/example/flicker/flicker/game/GameBuilder" "vertexLines" "[I" .null from D6 (Or.inl (wd_87 hw)) (ty := (.array .int)) (by decide)).ext E7)
    have f7 := ((show Fld Z h6 b6 "com/example/flicker/flicker/game/GameBuilder" "setEnd" "[I" .null from D6 (Or.inl (wd_89 hw)) (ty := (.array .int)) (by decide)).ext E7)
    have f8 := ((show Fld Z h6 b6 "com/example/flicker/flicker/game/GameBuilder" "sets" "[I" .null from D6 (Or.inl (wd_91 hw)) (ty := (.array .int)) (by decide)).ext E7)
    have f9 := ((show Fld Z h6 b6 "com/example/flicker/flicker/game/GameBuilder" "tails" "[I" .null from D6 (Or.inl (wd_93 hw)) (ty := (.array .int)) (by decide)).ext E7)
    have f10 := ((show Fld Z h6 b6 "com/example/flicker/flicker/game/GameBuilder" "heads" "[I" .null from D6 (Or.inl (wd_95 hw)) (ty := (.array .int)) (by decide)).ext E7)
    have f11 := ((show Fld Z h6 b6 "com/example/flicker/flicker/game/GameBuilder" "edgeLines" "[I" .null from D6 (Or.inl (wd_97 hw)) (ty := (.array .int)) (by decide)).ext E7)
    have f12 := ((show Fld Z h6 b6 "com/example/flicker/flicker/game/GameBuilder" "weights" "[J" .null from D6 (Or.inl (wd_101 hw)) (ty := (.array .long)) (by decide)).ext E7)
    have f13 := ((show Fld Z h6 b6 "com/example/flicker/flicker/game/GameBuilder" "source" "Ljava/lang/String;" .null from D6 (Or.inr (wd_103 hw)) (ty := (.object "java/lang/String")) (by decide)).ext E7)
    have f14 := ((show Fld Z h6 b6 "com/example/flicker/flicker/game/GameBuilder" "byId" "[J" .null from D6 (Or.inl (wd_114 hw)) (ty := (.array .long)) (by decide)).ext E7)
    have f15 := ((show Fld Z h6 b6 "com/example/flicker/flicker/game/GameBuilder" "dimensions" "I" (.int (0 : Int32)) from D6 (Or.inr (wd_105 hw)) (ty := .int) (by decide)).ext E7)
    have f16 := ((show Fld Z h6 b6 "com/example/flicker/flicker/game/GameBuilder" "vertexCount" "I" (.int (0 : Int32)) from D6 (Or.inl (wd_112 hw)) (ty := .int) (by decide)).ext E7)
    have f17 := ((show Fld Z h6 b6 "com/example/flicker/flicker/game/GameBuilder" "setLength" "I" (.int (0 : Int32)) from D6 (Or.inl (wd_149 hw)) (ty := .int) (by decide)).ext E7)
    refine w_callI X d_102 rfl (wd_17 hw) (wd_18 hw) (wd_8 hw) (wd_19 hw) (by decide) (argsL := [(.ref a7), (.int (0 : Int32))]) (S := [(.ref b6)]) (m_gb hw hS S_nw gn6 f1 f2 f3 f4 f5 f6 f7 f8 f9 f10 f11 f12 f13 f14 f15 f16 f17) pd_9 rfl rfl rfl (by decide) (Nat.le_of_ble_eq_true rfl) (by decide) (by decide) (fun T h8 v8 L8 X q8 => ?_)
    obtain ⟨rfl, Kc8, ids8, pr8, nm8, sb8, en8, ln8, se8, ss8, gi8, G8⟩ := q8
    show Wp _ _ _ _ (T.setTop (mkF _ _ _ [(.ref b6)]))
    refine w_astore X #[.val (.int cc), .val (.int gg1), .val (.int gg2), .val (.int gg3), .val (.int gg4), .val (.int w), .val (.int nn), .val (.int s0), .val (.int s1), .val (.int s2), .val (.int s3), .val (.ref b1), .val (.int (0 : Int32)), .val (.int (((w.toUInt32 >>> ((1 : Int32) &&& 31).toUInt32).toInt32) &&& (3 : Int32))), .val (.ref b6), .unset] d_105 (rfl) rfl ?_
    have f18 := (((A5.ext E6).ext E7).keep Kc8 (by simp only [List.mem_cons, List.not_mem_nil, or_false]; exact (Nat.ne_of_lt (Nat.lt_of_lt_of_le (Nat.lt_of_lt_of_le (Nat.lt_of_lt_of_le (Nat.lt_of_lt_of_le (Nat.lt_of_lt_of_le A1.lt (Nat.le_of_eq W2.size.symm)) (Nat.le_of_eq W3.size.symm)) (Nat.le_of_eq W4.size.symm)) (Nat.le_of_eq W5.size.symm)) (Nat.le_of_eq g6.symm)))))
    rcases hn5 with hn | hn | hn | hn | hn
    · exact m_lawv_0 hw hS S_nw S_p1 S_ns S_p2 np A_ns hns hn G8 f18 (Nat.lt_of_lt_of_le (Nat.lt_of_lt_of_le (Nat.lt_of_lt_of_le (Nat.lt_of_lt_of_le (Nat.lt_of_lt_of_le A1.lt (Nat.le_of_eq W2.size.symm)) (Nat.le_of_eq W3.size.symm)) (Nat.le_of_eq W4.size.symm)) (Nat.le_of_eq W5.size.symm)) (Nat.le_of_eq g6.symm)) rfl X Y
    · rcases own_and3 (w.toUInt32 >>> ((1 : Int32) &&& 31).toUInt32).toInt32 with hr | hr | hr | hr
      · exact m_lawv_1 hw hS S_nw S_p1 S_ns S_p2 np A_ns hns (k0 := (0 : Int32)) (y0 := s0) hn G8 f18 (Nat.lt_of_lt_of_le (Nat.lt_of_lt_of_le (Nat.lt_of_lt_of_le (Nat.lt_of_lt_of_le (Nat.lt_of_lt_of_le A1.lt (Nat.le_of_eq W2.size.symm)) (Nat.le_of_eq W3.size.symm)) (Nat.le_of_eq W4.size.symm)) (Nat.le_of_eq W5.size.symm)) (Nat.le_of_eq g6.symm)) (by rw [hn, hr]; decide) (by decide) rfl (own_s_1_0 hb0 hb1 hb2 hb3)  (own_hiK (by omega) (by decide) (by decide) (by decide)) X Y
      · exact m_lawv_1 hw hS S_nw S_p1 S_ns S_p2 np A_ns hns (k0 := (0 : Int32)) (y0 := s0) hn G8 f18 (Nat.lt_of_lt_of_le (Nat.lt_of_lt_of_le (Nat.lt_of_lt_of_le (Nat.lt_of_lt_of_le (Nat.lt_of_lt_of_le A1.lt (Nat.le_of_eq W2.size.symm)) (Nat.le_of_eq W3.size.symm)) (Nat.le_of_eq W4.size.symm)) (Nat.le_of_eq W5.size.symm)) (Nat.le_of_eq g6.symm)) (by rw [hn, hr]; decide) (by decide) rfl (own_s_1_0 hb0 hb1 hb2 hb3)  (own_hiK (by omega) (by decide) (by decide) (by decide)) X Y
      · exact m_lawv_1 hw hS S_nw S_p1 S_ns S_p2 np A_ns hns (k0 := (0 : Int32)) (y0 := s0) hn G8 f18 (Nat.lt_of_lt_of_le (Nat.lt_of_lt_of_le (Nat.lt_of_lt_of_le (Nat.lt_of_lt_of_le (Nat.lt_of_lt_of_le A1.lt (Nat.le_of_eq W2.size.symm)) (Nat.le_of_eq W3.size.symm)) (Nat.le_of_eq W4.size.symm)) (Nat.le_of_eq W5.size.symm)) (Nat.le_of_eq g6.symm)) (by rw [hn, hr]; decide) (by decide) rfl (own_s_1_0 hb0 hb1 hb2 hb3)  (own_hiK (by omega) (by decide) (by decide) (by decide)) X Y
      · exact m_lawv_1 hw hS S_nw S_p1 S_ns S_p2 np A_ns hns (k0 := (0 : Int32)) (y0 := s0) hn G8 f18 (Nat.lt_of_lt_of_le (Nat.lt_of_lt_of_le (Nat.lt_of_lt_of_le (Nat.lt_of_lt_of_le (Nat.lt_of_lt_of_le A1.lt (Nat.le_of_eq W2.size.symm)) (Nat.le_of_eq W3.size.symm)) (Nat.le_of_eq W4.size.symm)) (Nat.le_of_eq W5.size.symm)) (Nat.le_of_eq g6.symm)) (by rw [hn, hr]; decide) (by decide) rfl (own_s_1_0 hb0 hb1 hb2 hb3)  (own_hiK (by omega) (by decide) (by decide) (by decide)) X Y
    · rcases own_and3 (w.toUInt32 >>> ((1 : Int32) &&& 31).toUInt32).toInt32 with hr | hr | hr | hr
      · exact m_lawv_2 hw hS S_nw S_p1 S_ns S_p2 np A_ns hns (k0 := (0 : Int32)) (y0 := s0) (k1 := (1 : Int32)) (y1 := s1) hn G8 f18 (Nat.lt_of_lt_of_le (Nat.lt_of_lt_of_le (Nat.lt_of_lt_of_le (Nat.lt_of_lt_of_le (Nat.lt_of_lt_of_le A1.lt (Nat.le_of_eq W2.size.symm)) (Nat.le_of_eq W3.size.symm)) (Nat.le_of_eq W4.size.symm)) (Nat.le_of_eq W5.size.symm)) (Nat.le_of_eq g6.symm)) (by rw [hn, hr]; decide) (by decide) rfl (by rw [hn, hr]; decide) (by decide) rfl (own_s_2_01 hb0 hb1 hb2 hb3) (own_hiN (by omega) (by omega) (by decide) (by decide) (by decide) (by decide) (by decide) (by decide) (by omega)) (own_hiK (by omega) (by decide) (by decide) (by decide)) (own_hiK (by omega) (by decide) (by decide) (by decide)) X Y
      · exact m_lawv_2 hw hS S_nw S_p1 S_ns S_p2 np A_ns hns (k0 := (1 : Int32)) (y0 := s1) (k1 := (0 : Int32)) (y1 := s0) hn G8 f18 (Nat.lt_of_lt_of_le (Nat.lt_of_lt_of_le (Nat.lt_of_lt_of_le (Nat.lt_of_lt_of_le (Nat.lt_of_lt_of_le A1.lt (Nat.le_of_eq W2.size.symm)) (Nat.le_of_eq W3.size.symm)) (Nat.le_of_eq W4.size.symm)) (Nat.le_of_eq W5.size.symm)) (Nat.le_of_eq g6.symm)) (by rw [hn, hr]; decide) (by decide) rfl (by rw [hn, hr]; decide) (by decide) rfl (own_s_2_10 hb0 hb1 hb2 hb3) (own_hiN (by omega) (by omega) (by decide) (by decide) (by decide) (by decide) (by decide) (by decide) (by omega)) (own_hiK (by omega) (by decide) (by decide) (by decide)) (own_hiK (by omega) (by decide) (by decide) (by decide)) X Y
      · exact m_lawv_2 hw hS S_nw S_p1 S_ns S_p2 np A_ns hns (k0 := (0 : Int32)) (y0 := s0) (k1 := (1 : Int32)) (y1 := s1) hn G8 f18 (Nat.lt_of_lt_of_le (Nat.lt_of_lt_of_le (Nat.lt_of_lt_of_le (Nat.lt_of_lt_of_le (Nat.lt_of_lt_of_le A1.lt (Nat.le_of_eq W2.size.symm)) (Nat.le_of_eq W3.size.symm)) (Nat.le_of_eq W4.size.symm)) (Nat.le_of_eq W5.size.symm)) (Nat.le_of_eq g6.symm)) (by rw [hn, hr]; decide) (by decide) rfl (by rw [hn, hr]; decide) (by decide) rfl (own_s_2_01 hb0 hb1 hb2 hb3) (own_hiN (by omega) (by omega) (by decide) (by decide) (by decide) (by decide) (by decide) (by decide) (by omega)) (own_hiK (by omega) (by decide) (by decide) (by decide)) (own_hiK (by omega) (by decide) (by decide) (by decide)) X Y
      · exact m_lawv_2 hw hS S_nw S_p1 S_ns S_p2 np A_ns hns (k0 := (1 : Int32)) (y0 := s1) (k1 := (0 : Int32)) (y1 := s0) hn G8 f18 (Nat.lt_of_lt_of_le (Nat.lt_of_lt_of_le (Nat.lt_of_lt_of_le (Nat.lt_of_lt_of_le (Nat.lt_of_lt_of_le A1.lt (Nat.le_of_eq W2.size.symm)) (Nat.le_of_eq W3.size.symm)) (Nat.le_of_eq W4.size.symm)) (Nat.le_of_eq W5.size.symm)) (Nat.le_of_eq g6.symm)) (by rw [hn, hr]; decide) (by decide) rfl (by rw [hn, hr]; decide) (by decide) rfl (own_s_2_10 hb0 hb1 hb2 hb3) (own_hiN (by omega) (by omega) (by decide) (by decide) (by decide) (by decide) (by decide) (by decide) (by omega)) (own_hiK (by omega) (by decide) (by decide) (by decide)) (own_hiK (by omega) (by decide) (by decide) (by decide)) X Y
    · rcases own_and3 (w.toUInt32 >>> ((1 : Int32) &&& 31).toUInt32).toInt32 with hr | hr | hr | hr
      · exact m_lawv_3 hw hS S_nw S_p1 S_ns S_p2 np A_ns hns (k0 := (0 : Int32)) (y0 := s0) (k1 := (1 : Int32)) (y1 := s1) (k2 := (2 : Int32)) (y2 := s2) hn G8 f18 (Nat.lt_of_lt_of_le (Nat.lt_of_lt_of_le (Nat.lt_of_lt_of_le (Nat.lt_of_lt_of_le (Nat.lt_of_lt_of_le A1.lt (Nat.le_of_eq W2.size.symm)) (Nat.le_of_eq W3.size.symm)) (Nat.le_of_eq W4.size.symm)) (Nat.le_of_eq W5.size.symm)) (Nat.le_of_eq g6.symm)) (by rw [hn, hr]; decide) (by decide) rfl (by rw [hn, hr]; decide) (by decide) rfl (by rw [hn, hr]; decide) (by decide) rfl (own_s_3_012 hb0 hb1 hb2 hb3) (own_hiN (by omega) (by omega) (by decide) (by decide) (by decide) (by decide) (by decide) (by decide) (by omega)) (own_hiN (by omega) (by omega) (by decide) (by decide) (by decide) (by decide) (by decide) (by decide) (by omega)) (own_hiK (by omega) (by decide) (by decide) (by decide)) (own_hiK (by omega) (by decide) (by decide) (by decide)) (own_hiK (by omega) (by decide) (by decide) (by decide)) X Y
      · exact m_lawv_3 hw hS S_nw S_p1 S_ns S_p2 np A_ns hns (k0 := (1 : Int32)) (y0 := s1) (k1 := (2 : Int32)) (y1 := s2) (k2 := (0 : Int32)) (y2 := s0) hn G8 f18 (Nat.lt_of_lt_of_le (Nat.lt_of_lt_of_le (Nat.lt_of_lt_of_le (Nat.lt_of_lt_of_le (Nat.lt_of_lt_of_le A1.lt (Nat.le_of_eq W2.size.symm)) (Nat.le_of_eq W3.size.symm)) (Nat.le_of_eq W4.size.symm)) (Nat.le_of_eq W5.size.symm)) (Nat.le_of_eq g6.symm)) (by rw [hn, hr]; decide) (by decide) rfl (by rw [hn, hr]; decide) (by decide) rfl (by rw [hn, hr]; decide) (by decide) rfl (own_s_3_120 hb0 hb1 hb2 hb3) (own_hiN (by omega) (by omega) (by decide) (by decide) (by decide) (by decide) (by decide) (by decide) (by omega)) (own_hiN (by omega) (by omega) (by decide) (by decide) (by decide) (by decide) (by decide) (by decide) (by omega)) (own_hiK (by omega) (by decide) (by decide) (by decide)) (own_hiK (by omega) (by decide) (by decide) (by decide)) (own_hiK (by omega) (by decide) (by decide) (by decide)) X Y
      · exact m_lawv_3 hw hS S_nw S_p1 S_ns S_p2 np A_ns hns (k0 := (2 : Int32)) (y0 := s2) (k1 := (0 : Int32)) (y1 := s0) (k2 := (1 : Int32)) (y2 := s1) hn G8 f18 (Nat.lt_of_lt_of_le (Nat.lt_of_lt_of_le (Nat.lt_of_lt_of_le (Nat.lt_of_lt_of_le (Nat.lt_of_lt_of_le A1.lt (Nat.le_of_eq W2.size.symm)) (Nat.le_of_eq W3.size.symm)) (Nat.le_of_eq W4.size.symm)) (Nat.le_of_eq W5.size.symm)) (Nat.le_of_eq g6.symm)) (by rw [hn, hr]; decide) (by decide) rfl (by rw [hn, hr]; decide) (by decide) rfl (by rw [hn, hr]; decide) (by decide) rfl (own_s_3_201 hb0 hb1 hb2 hb3) (own_hiN (by omega) (by omega) (by decide) (by decide) (by decide) (by decide) (by decide) (by decide) (by omega)) (own_hiN (by omega) (by omega) (by decide) (by decide) (by decide) (by decide) (by decide) (by decide) (by omega)) (own_hiK (by omega) (by decide) (by decide) (by decide)) (own_hiK (by omega) (by decide) (by decide) (by decide)) (own_hiK (by omega) (by decide) (by decide) (by decide)) X Y
      · exact m_lawv_3 hw hS S_nw S_p1 S_ns S_p2 np A_ns hns (k0 := (0 : Int32)) (y0 := s0) (k1 := (1 : Int32)) (y1 := s1) (k2 := (2 : Int32)) (y2 := s2) hn G8 f18 (Nat.lt_of_lt_of_le (Nat.lt_of_lt_of_le (Nat.lt_of_lt_of_le (Nat.lt_of_lt_of_le (Nat.lt_of_lt_of_le A1.lt (Nat.le_of_eq W2.size.symm)) (Nat.le_of_eq W3.size.symm)) (Nat.le_of_eq W4.size.symm)) (Nat.le_of_eq W5.size.symm)) (Nat.le_of_eq g6.symm)) (by rw [hn, hr]; decide) (by decide) rfl (by rw [hn, hr]; decide) (by decide) rfl (by rw [hn, hr]; decide) (by decide) rfl (own_s_3_012 hb0 hb1 hb2 hb3) (own_hiN (by omega) (by omega) (by decide) (by decide) (by decide) (by decide) (by decide) (by decide) (by omega)) (own_hiN (by omega) (by omega) (by decide) (by decide) (by decide) (by decide) (by decide) (by decide) (by omega)) (own_hiK (by omega) (by decide) (by decide) (by decide)) (own_hiK (by omega) (by decide) (by decide) (by decide)) (own_hiK (by omega) (by decide) (by decide) (by decide)) X Y
    · rcases own_and3 (w.toUInt32 >>> ((1 : Int32) &&& 31).toUInt32).toInt32 with hr | hr | hr | hr
      · exact m_lawv_4 hw hS S_nw S_p1 S_ns S_p2 np A_ns hns (k0 := (0 : Int32)) (y0 := s0) (k1 := (1 : Int32)) (y1 := s1) (k2 := (2 : Int32)) (y2 := s2) (k3 := (3 : Int32)) (y3 := s3) hn G8 f18 (Nat.lt_of_lt_of_le (Nat.lt_of_lt_of_le (Nat.lt_of_lt_of_le (Nat.lt_of_lt_of_le (Nat.lt_of_lt_of_le A1.lt (Nat.le_of_eq W2.size.symm)) (Nat.le_of_eq W3.size.symm)) (Nat.le_of_eq W4.size.symm)) (Nat.le_of_eq W5.size.symm)) (Nat.le_of_eq g6.symm)) (by rw [hn, hr]; decide) (by decide) rfl (by rw [hn, hr]; decide) (by decide) rfl (by rw [hn, hr]; decide) (by decide) rfl (by rw [hn, hr]; decide) (by decide) rfl (own_s_4_0123 hb0 hb1 hb2 hb3) (own_hiN (by omega) (by omega) (by decide) (by decide) (by decide) (by decide) (by decide) (by decide) (by omega)) (own_hiN (by omega) (by omega) (by decide) (by decide) (by decide) (by decide) (by decide) (by decide) (by omega)) (own_hiN (by omega) (by omega) (by decide) (by decide) (by decide) (by decide) (by decide) (by decide) (by omega)) (own_hiK (by omega) (by decide) (by decide) (by decide)) (own_hiK (by omega) (by decide) (by decide) (by decide)) (own_hiK (by omega) (by decide) (by decide) (by decide)) (own_hiK (by omega) (by decide) (by decide) (by decide)) X Y
      · exact m_lawv_4 hw hS S_nw S_p1 S_ns S_p2 np A_ns hns (k0 := (1 : Int32)) (y0 := s1) (k1 := (2 : Int32)) (y1 := s2) (k2 := (3 : Int32)) (y2 := s3) (k3 := (0 : Int32)) (y3 := s0) hn G8 f18 (Nat.lt_of_lt_of_le (Nat.lt_of_lt_of_le (Nat.lt_of_lt_of_le (Nat.lt_of_lt_of_le (Nat.lt_of_lt_of_le A1.lt (Nat.le_of_eq W2.size.symm)) (Nat.le_of_eq W3.size.symm)) (Nat.le_of_eq W4.size.symm)) (Nat.le_of_eq W5.size.symm)) (Nat.le_of_eq g6.symm)) (by rw [hn, hr]; decide) (by decide) rfl (by rw [hn, hr]; decide) (by decide) rfl (by rw [hn, hr]; decide) (by decide) rfl (by rw [hn, hr]; decide) (by decide) rfl (own_s_4_1230 hb0 hb1 hb2 hb3) (own_hiN (by omega) (by omega) (by decide) (by decide) (by decide) (by decide) (by decide) (by decide) (by omega)) (own_hiN (by omega) (by omega) (by decide) (by decide) (by decide) (by decide) (by decide) (by decide) (by omega)) (own_hiN (by omega) (by omega) (by decide) (by decide) (by decide) (by decide) (by decide) (by decide) (by omega)) (own_hiK (by omega) (by decide) (by decide) (by decide)) (own_hiK (by omega) (by decide) (by decide) (by decide)) (own_hiK (by omega) (by decide) (by decide) (by decide)) (own_hiK (by omega) (by decide) (by decide) (by decide)) X Y
      · exact m_lawv_4 hw hS S_nw S_p1 S_ns S_p2 np A_ns hns (k0 := (2 : Int32)) (y0 := s2) (k1 := (3 : Int32)) (y1 := s3) (k2 := (0 : Int32)) (y2 := s0) (k3 := (1 : Int32)) (y3 := s1) hn G8 f18 (Nat.lt_of_lt_of_le (Nat.lt_of_lt_of_le (Nat.lt_of_lt_of_le (Nat.lt_of_lt_of_le (Nat.lt_of_lt_of_le A1.lt (Nat.le_of_eq W2.size.symm)) (Nat.le_of_eq W3.size.symm)) (Nat.le_of_eq W4.size.symm)) (Nat.le_of_eq W5.size.symm)) (Nat.le_of_eq g6.symm)) (by rw [hn, hr]; decide) (by decide) rfl (by rw [hn, hr]; decide) (by decide) rfl (by rw [hn, hr]; decide) (by decide) rfl (by rw [hn, hr]; decide) (by decide) rfl (own_s_4_2301 hb0 hb1 hb2 hb3) (own_hiN (by omega) (by omega) (by decide) (by decide) (by decide) (by decide) (by decide) (by decide) (by omega)) (own_hiN (by omega) (by omega) (by decide) (by decide) (by decide) (by decide) (by decide) (by decide) (by omega)) (own_hiN (by omega) (by omega) (by decide) (by decide) (by decide) (by decide) (by decide) (by decide) (by omega)) (own_hiK (by omega) (by decide) (by decide) (by decide)) (own_hiK (by omega) (by decide) (by decide) (by decide)) (own_hiK (by omega) (by decide) (by decide) (by decide)) (own_hiK (by omega) (by decide) (by decide) (by decide)) X Y
      · exact m_lawv_4 hw hS S_nw S_p1 S_ns S_p2 np A_ns hns (k0 := (3 : Int32)) (y0 := s3) (k1 := (0 : Int32)) (y1 := s0) (k2 := (1 : Int32)) (y2 := s1) (k3 := (2 : Int32)) (y3 := s2) hn G8 f18 (Nat.lt_of_lt_of_le (Nat.lt_of_lt_of_le (Nat.lt_of_lt_of_le (Nat.lt_of_lt_of_le (Nat.lt_of_lt_of_le A1.lt (Nat.le_of_eq W2.size.symm)) (Nat.le_of_eq W3.size.symm)) (Nat.le_of_eq W4.size.symm)) (Nat.le_of_eq W5.size.symm)) (Nat.le_of_eq g6.symm)) (by rw [hn, hr]; decide) (by decide) rfl (by rw [hn, hr]; decide) (by decide) rfl (by rw [hn, hr]; decide) (by decide) rfl (by rw [hn, hr]; decide) (by decide) rfl (own_s_4_3012 hb0 hb1 hb2 hb3) (own_hiN (by omega) (by omega) (by decide) (by decide) (by decide) (by decide) (by decide) (by decide) (by omega)) (own_hiN (by omega) (by omega) (by decide) (by decide) (by decide) (by decide) (by decide) (by decide) (by omega)) (own_hiN (by omega) (by omega) (by decide) (by decide) (by decide) (by decide) (by decide) (by decide) (by omega)) (own_hiK (by omega) (by decide) (by decide) (by decide)) (own_hiK (by omega) (by decide) (by decide) (by decide)) (own_hiK (by omega) (by decide) (by decide) (by decide)) (own_hiK (by omega) (by decide) (by decide) (by decide)) X Y
  · refine w_iconst X (1 : Int32) d_80 rfl ?_
    refine w_goto X d_81 ?_
    refine w_istore X #[.val (.int cc), .val (.int gg1), .val (.int gg2), .val (.int gg3), .val (.int gg4), .val (.int w), .val (.int nn), .val (.int s0), .val (.int s1), .val (.int s2), .val (.int s3), .val (.ref b1), .val (.int (1 : Int32)), .unset, .unset, .unset] d_85 rfl ?_
    refine w_iload X d_87 rfl ?_
    refine w_iconst X (1 : Int32) d_89 rfl ?_
    refine w_iushr X d_90 ?_
    refine w_iconst X (3 : Int32) d_91 rfl ?_
    refine w_iand X d_92 ?_
    refine w_istore X #[.val (.int cc), .val (.int gg1), .val (.int gg2), .val (.int gg3), .val (.int gg4), .val (.int w), .val (.int nn), .val (.int s0), .val (.int s1), .val (.int s2), .val (.int s3), .val (.ref b1), .val (.int (1 : Int32)), .val (.int (((w.toUInt32 >>> ((1 : Int32) &&& 31).toUInt32).toInt32) &&& (3 : Int32))), .unset, .unset] d_93 rfl ?_
    refine w_new X d_95 (wd_6 hw) (wd_7 hw) (wd_8 hw) (by decide) (by decide) (fun T h9 b9 g9 gn9 X E9 A9 D9 => ?_)
    refine w_dup X d_98 rfl ?_
    refine v_ldcS X Y d_99 (wd_9 hw) (own_wS hw) 4 (by decide) (by decide) (by decide) (by decide) (fun T h10 u kk a10 X Y E10 => ?_)
    refine w_iconst X (0 : Int32) d_101 rfl ?_
    have f19 := (A9.ext E10)
    have f20 := ((show Fld Z h9 b9 "com/example/flicker/flicker/game/GameBuilder" "ids" "[I" .null from D9 (Or.inl (wd_24 hw)) (ty := (.array .int)) (by decide)).ext E10)
    have f21 := ((show Fld Z h9 b9 "com/example/flicker/flicker/game/GameBuilder" "priorities" "[I" .null from D9 (Or.inl (wd_26 hw)) (ty := (.array .int)) (by decide)).ext E10)
    have f22 := ((show Fld Z h9 b9 "com/example/flicker/flicker/game/GameBuilder" "playerTwo" "Ljava/util/BitSet;" .null from D9 (Or.inr (wd_50 hw)) (ty := (.object "java/util/BitSet")) (by decide)).ext E10)
    have f23 := ((show Fld Z h9 b9 "com/example/flicker/flicker/game/GameBuilder" "names" "Lcom/example/flicker/flicker/game/VertexNames;" .null from D9 (Or.inr (wd_85 hw)) (ty := (.object "com/example/flicker/flicker/game/VertexNames")) (by decide)).ext E10)
    have f24 := ((show Fld Z h9 b9 "com/example/flicker/flicker/game/GameBuilder" "vertexLines" "[I" .null from D9 (Or.inl (wd_87 hw)) (ty := (.array .int)) (by decide)).ext E10)
    have f25 := ((show Fld Z h9 b9 "com/example/flicker/flicker/game/GameBuilder" "setEnd" "[I" .null from D9 (Or.inl (wd_89 hw)) (ty := (.array .int)) (by decide)).ext E10)
    have f26 := ((show Fld Z h9 b9 "com/example/flicker/flicker/game/GameBuilder" "sets" "[I" .null from D9 (Or.inl (wd_91 hw)) (ty := (.array .int)) (by decide)).ext E10)
    have f27 := ((show Fld Z h9 b9 "com/example/flicker/flicker/game/GameBuilder" "tails" "[I" .null from D9 (Or.inl (wd_93 hw)) (ty := (.array .int)) (by decide)).ext E10)
    have f28 := ((show Fld Z h9 b9 "com/example/flicker/flicker/game/GameBuilder" "heads" "[I" .null from D9 (Or.inl (wd_95 hw)) (ty := (.array .int)) (by decide)).ext E10)
    have f29 := ((show Fld Z h9 b9 "com/example/flicker/flicker/game/GameBuilder" "edgeLines" "[I" .null from D9 (Or.inl (wd_97 hw)) (ty := (.array .int)) (by decide)).ext E10)
    have f30 := ((show Fld Z h9 b9 "com/example/flicker/flicker/game/GameBuilder" "weights" "[J" .null from D9 (Or.inl (wd_101 hw)) (ty := (.array .long)) (by decide)).ext E10)
    have f31 := ((show Fld Z h9 b9 "com/example/flicker/flicker/game/GameBuilder" "source" "Ljava/lang/String;" .null from D9 (Or.inr (wd_103 hw)) (ty := (.object "java/lang/String")) (by decide)).ext E10)
    have f32 := ((show Fld Z h9 b9 "com/example/flicker/flicker/game/GameBuilder" "byId" "[J" .null from D9 (Or.inl (wd_114 hw)) (ty := (.array .long)) (by decide)).ext E10)
    have f33 := ((show Fld Z h9 b9 "com/example/flicker/flicker/game/GameBuilder" "dimensions" "I" (.int (0 : Int32)) from D9 (Or.inr (wd_105 hw)) (ty := .int) (by decide)).ext E10)
    have f34 := ((show Fld Z h9 b9 "com/example/flicker/flicker/game/GameBuilder" "vertexCount" "I" (.int (0 : Int32)) from D9 (Or.inl (wd_112 hw)) (ty := .int) (by decide)).ext E10)
    have f35 := ((show Fld Z h9 b9 "com/example/flicker/flicker/game/GameBuilder" "setLength" "I" (.int (0 : Int32)) from D9 (Or.inl (wd_149 hw)) (ty := .int) (by decide)).ext E10)
    refine w_callI X d_102 rfl (wd_17 hw) (wd_18 hw) (wd_8 hw) (wd_19 hw) (by decide) (argsL := [(.ref a10), (.int (0 : Int32))]) (S := [(.ref b9)]) (m_gb hw hS S_nw gn9 f19 f20 f21 f22 f23 f24 f25 f26 f27 f28 f29 f30 f31 f32 f33 f34 f35) pd_9 rfl rfl rfl (by decide) (Nat.le_of_ble_eq_true rfl) (by decide) (by decide) (fun T h11 v11 L11 X q11 => ?_)
    obtain ⟨rfl, Kc11, ids11, pr11, nm11, sb11, en11, ln11, se11, ss11, gi11, G11⟩ := q11
    show Wp _ _ _ _ (T.setTop (mkF _ _ _ [(.ref b9)]))
    refine w_astore X #[.val (.int cc), .val (.int gg1), .val (.int gg2), .val (.int gg3), .val (.int gg4), .val (.int w), .val (.int nn), .val (.int s0), .val (.int s1), .val (.int s2), .val (.int s3), .val (.ref b1), .val (.int (1 : Int32)), .val (.int (((w.toUInt32 >>> ((1 : Int32) &&& 31).toUInt32).toInt32) &&& (3 : Int32))), .val (.ref b9), .unset] d_105 (rfl) rfl ?_
    have f36 := (((A5.ext E9).ext E10).keep Kc11 (by simp only [List.mem_cons, List.not_mem_nil, or_false]; exact (Nat.ne_of_lt (Nat.lt_of_lt_of_le (Nat.lt_of_lt_of_le (Nat.lt_of_lt_of_le (Nat.lt_of_lt_of_le (Nat.lt_of_lt_of_le A1.lt (Nat.le_of_eq W2.size.symm)) (Nat.le_of_eq W3.size.symm)) (Nat.le_of_eq W4.size.symm)) (Nat.le_of_eq W5.size.symm)) (Nat.le_of_eq g9.symm)))))
    rcases hn5 with hn | hn | hn | hn | hn
    · exact m_lawv_0 hw hS S_nw S_p1 S_ns S_p2 np A_ns hns hn G11 f36 (Nat.lt_of_lt_of_le (Nat.lt_of_lt_of_le (Nat.lt_of_lt_of_le (Nat.lt_of_lt_of_le (Nat.lt_of_lt_of_le A1.lt (Nat.le_of_eq W2.size.symm)) (Nat.le_of_eq W3.size.symm)) (Nat.le_of_eq W4.size.symm)) (Nat.le_of_eq W5.size.symm)) (Nat.le_of_eq g9.symm)) rfl X Y
    · rcases own_and3 (w.toUInt32 >>> ((1 : Int32) &&& 31).toUInt32).toInt32 with hr | hr | hr | hr
      · exact m_lawv_1 hw hS S_nw S_p1 S_ns S_p2 np A_ns hns (k0 := (0 : Int32)) (y0 := s0) hn G11 f36 (Nat.lt_of_lt_of_le (Nat.lt_of_lt_of_le (Nat.lt_of_lt_of_le (Nat.lt_of_lt_of_le (Nat.lt_of_lt_of_le A1.lt (Nat.le_of_eq W2.size.symm)) (Nat.le_of_eq W3.size.symm)) (Nat.le_of_eq W4.size.symm)) (Nat.le_of_eq W5.size.symm)) (Nat.le_of_eq g9.symm)) (by rw [hn, hr]; decide) (by decide) rfl (own_s_1_0 hb0 hb1 hb2 hb3)  (own_hiK (by omega) (by decide) (by decide) (by decide)) X Y
      · exact m_lawv_1 hw hS S_nw S_p1 S_ns S_p2 np A_ns hns (k0 := (0 : Int32)) (y0 := s0) hn G11 f36 (Nat.lt_of_lt_of_le (Nat.lt_of_lt_of_le (Nat.lt_of_lt_of_le (Nat.lt_of_lt_of_le (Nat.lt_of_lt_of_le A1.lt (Nat.le_of_eq W2.size.symm)) (Nat.le_of_eq W3.size.symm)) (Nat.le_of_eq W4.size.symm)) (Nat.le_of_eq W5.size.symm)) (Nat.le_of_eq g9.symm)) (by rw [hn, hr]; decide) (by decide) rfl (own_s_1_0 hb0 hb1 hb2 hb3)  (own_hiK (by omega) (by decide) (by decide) (by decide)) X Y
      · exact m_lawv_1 hw hS S_nw S_p1 S_ns S_p2 np A_ns hns (k0 := (0 : Int32)) (y0 := s0) hn G11 f36 (Nat.lt_of_lt_of_le (Nat.lt_of_lt_of_le (Nat.lt_of_lt_of_le (Nat.lt_of_lt_of_le (Nat.lt_of_lt_of_le A1.lt (Nat.le_of_eq W2.size.symm)) (Nat.le_of_eq W3.size.symm)) (Nat.le_of_eq W4.size.symm)) (Nat.le_of_eq W5.size.symm)) (Nat.le_of_eq g9.symm)) (by rw [hn, hr]; decide) (by decide) rfl (own_s_1_0 hb0 hb1 hb2 hb3)  (own_hiK (by omega) (by decide) (by decide) (by decide)) X Y
      · exact m_lawv_1 hw hS S_nw S_p1 S_ns S_p2 np A_ns hns (k0 := (0 : Int32)) (y0 := s0) hn G11 f36 (Nat.lt_of_lt_of_le (Nat.lt_of_lt_of_le (Nat.lt_of_lt_of_le (Nat.lt_of_lt_of_le (Nat.lt_of_lt_of_le A1.lt (Nat.le_of_eq W2.size.symm)) (Nat.le_of_eq W3.size.symm)) (Nat.le_of_eq W4.size.symm)) (Nat.le_of_eq W5.size.symm)) (Nat.le_of_eq g9.symm)) (by rw [hn, hr]; decide) (by decide) rfl (own_s_1_0 hb0 hb1 hb2 hb3)  (own_hiK (by omega) (by decide) (by decide) (by decide)) X Y
    · rcases own_and3 (w.toUInt32 >>> ((1 : Int32) &&& 31).toUInt32).toInt32 with hr | hr | hr | hr
      · exact m_lawv_2 hw hS S_nw S_p1 S_ns S_p2 np A_ns hns (k0 := (1 : Int32)) (y0 := s1) (k1 := (0 : Int32)) (y1 := s0) hn G11 f36 (Nat.lt_of_lt_of_le (Nat.lt_of_lt_of_le (Nat.lt_of_lt_of_le (Nat.lt_of_lt_of_le (Nat.lt_of_lt_of_le A1.lt (Nat.le_of_eq W2.size.symm)) (Nat.le_of_eq W3.size.symm)) (Nat.le_of_eq W4.size.symm)) (Nat.le_of_eq W5.size.symm)) (Nat.le_of_eq g9.symm)) (by rw [hn, hr]; decide) (by decide) rfl (by rw [hn, hr]; decide) (by decide) rfl (own_s_2_10 hb0 hb1 hb2 hb3) (own_hiN (by omega) (by omega) (by decide) (by decide) (by decide) (by decide) (by decide) (by decide) (by omega)) (own_hiK (by omega) (by decide) (by decide) (by decide)) (own_hiK (by omega) (by decide) (by decide) (by decide)) X Y
      · exact m_lawv_2 hw hS S_nw S_p1 S_ns S_p2 np A_ns hns (k0 := (0 : Int32)) (y0 := s0) (k1 := (1 : Int32)) (y1 := s1) hn G11 f36 (Nat.lt_of_lt_of_le (Nat.lt_of_lt_of_le (Nat.lt_of_lt_of_le (Nat.lt_of_lt_of_le (Nat.lt_of_lt_of_le A1.lt (Nat.le_of_eq W2.size.symm)) (Nat.le_of_eq W3.size.symm)) (Nat.le_of_eq W4.size.symm)) (Nat.le_of_eq W5.size.symm)) (Nat.le_of_eq g9.symm)) (by rw [hn, hr]; decide) (by decide) rfl (by rw [hn, hr]; decide) (by decide) rfl (own_s_2_01 hb0 hb1 hb2 hb3) (own_hiN (by omega) (by omega) (by decide) (by decide) (by decide) (by decide) (by decide) (by decide) (by omega)) (own_hiK (by omega) (by decide) (by decide) (by decide)) (own_hiK (by omega) (by decide) (by decide) (by decide)) X Y
      · exact m_lawv_2 hw hS S_nw S_p1 S_ns S_p2 np A_ns hns (k0 := (1 : Int32)) (y0 := s1) (k1 := (0 : Int32)) (y1 := s0) hn G11 f36 (Nat.lt_of_lt_of_le (Nat.lt_of_lt_of_le (Nat.lt_of_lt_of_le (Nat.lt_of_lt_of_le (Nat.lt_of_lt_of_le A1.lt (Nat.le_of_eq W2.size.symm)) (Nat.le_of_eq W3.size.symm)) (Nat.le_of_eq W4.size.symm)) (Nat.le_of_eq W5.size.symm)) (Nat.le_of_eq g9.symm)) (by rw [hn, hr]; decide) (by decide) rfl (by rw [hn, hr]; decide) (by decide) rfl (own_s_2_10 hb0 hb1 hb2 hb3) (own_hiN (by omega) (by omega) (by decide) (by decide) (by decide) (by decide) (by decide) (by decide) (by omega)) (own_hiK (by omega) (by decide) (by decide) (by decide)) (own_hiK (by omega) (by decide) (by decide) (by decide)) X Y
      · exact m_lawv_2 hw hS S_nw S_p1 S_ns S_p2 np A_ns hns (k0 := (0 : Int32)) (y0 := s0) (k1 := (1 : Int32)) (y1 := s1) hn G11 f36 (Nat.lt_of_lt_of_le (Nat.lt_of_lt_of_le (Nat.lt_of_lt_of_le (Nat.lt_of_lt_of_le (Nat.lt_of_lt_of_le A1.lt (Nat.le_of_eq W2.size.symm)) (Nat.le_of_eq W3.size.symm)) (Nat.le_of_eq W4.size.symm)) (Nat.le_of_eq W5.size.symm)) (Nat.le_of_eq g9.symm)) (by rw [hn, hr]; decide) (by decide) rfl (by rw [hn, hr]; decide) (by decide) rfl (own_s_2_01 hb0 hb1 hb2 hb3) (own_hiN (by omega) (by omega) (by decide) (by decide) (by decide) (by decide) (by decide) (by decide) (by omega)) (own_hiK (by omega) (by decide) (by decide) (by decide)) (own_hiK (by omega) (by decide) (by decide) (by decide)) X Y
    · rcases own_and3 (w.toUInt32 >>> ((1 : Int32) &&& 31).toUInt32).toInt32 with hr | hr | hr | hr
      · exact m_lawv_3 hw hS S_nw S_p1 S_ns S_p2 np A_ns hns (k0 := (2 : Int32)) (y0 := s2) (k1 := (1 : Int32)) (y1 := s1) (k2 := (0 : Int32)) (y2 := s0) hn G11 f36 (Nat.lt_of_lt_of_le (Nat.lt_of_lt_of_le (Nat.lt_of_lt_of_le (Nat.lt_of_lt_of_le (Nat.lt_of_lt_of_le A1.lt (Nat.le_of_eq W2.size.symm)) (Nat.le_of_eq W3.size.symm)) (Nat.le_of_eq W4.size.symm)) (Nat.le_of_eq W5.size.symm)) (Nat.le_of_eq g9.symm)) (by rw [hn, hr]; decide) (by decide) rfl (by rw [hn, hr]; decide) (by decide) rfl (by rw [hn, hr]; decide) (by decide) rfl (own_s_3_210 hb0 hb1 hb2 hb3) (own_hiN (by omega) (by omega) (by decide) (by decide) (by decide) (by decide) (by decide) (by decide) (by omega)) (own_hiN (by omega) (by omega) (by decide) (by decide) (by decide) (by decide) (by decide) (by decide) (by omega)) (own_hiK (by omega) (by decide) (by decide) (by decide)) (own_hiK (by omega) (by decide) (by decide) (by decide)) (own_hiK (by omega) (by decide) (by decide) (by decide)) X Y
      · exact m_lawv_3 hw hS S_nw S_p1 S_ns S_p2 np A_ns hns (k0 := (0 : Int32)) (y0 := s0) (k1 := (2 : Int32)) (y1 := s2) (k2 := (1 : Int32)) (y2 := s1) hn G11 f36 (Nat.lt_of_lt_of_le (Nat.lt_of_lt_of_le (Nat.lt_of_lt_of_le (Nat.lt_of_lt_of_le (Nat.lt_of_lt_of_le A1.lt (Nat.le_of_eq W2.size.symm)) (Nat.le_of_eq W3.size.symm)) (Nat.le_of_eq W4.size.symm)) (Nat.le_of_eq W5.size.symm)) (Nat.le_of_eq g9.symm)) (by rw [hn, hr]; decide) (by decide) rfl (by rw [hn, hr]; decide) (by decide) rfl (by rw [hn, hr]; decide) (by decide) rfl (own_s_3_021 hb0 hb1 hb2 hb3) (own_hiN (by omega) (by omega) (by decide) (by decide) (by decide) (by decide) (by decide) (by decide) (by omega)) (own_hiN (by omega) (by omega) (by decide) (by decide) (by decide) (by decide) (by decide) (by decide) (by omega)) (own_hiK (by omega) (by decide) (by decide) (by decide)) (own_hiK (by omega) (by decide) (by decide) (by decide)) (own_hiK (by omega) (by decide) (by decide) (by decide)) X Y
      · exact m_lawv_3 hw hS S_nw S_p1 S_ns S_p2 np A_ns hns (k0 := (1 : Int32)) (y0 := s1) (k1 := (0 : Int32)) (y1 := s0) (k2 := (2 : Int32)) (y2 := s2) hn G11 f36 (Nat.lt_of_lt_of_le (Nat.lt_of_lt_of_le (Nat.lt_of_lt_of_le (Nat.lt_of_lt_of_le (Nat.lt_of_lt_of_le A1.lt (Nat.le_of_eq W2.size.symm)) (Nat.le_of_eq W3.size.symm)) (Nat.le_of_eq W4.size.symm)) (Nat.le_of_eq W5.size.symm)) (Nat.le_of_eq g9.symm)) (by rw [hn, hr]; decide) (by decide) rfl (by rw [hn, hr]; decide) (by decide) rfl (by rw [hn, hr]; decide) (by decide) rfl (own_s_3_102 hb0 hb1 hb2 hb3) (own_hiN (by omega) (by omega) (by decide) (by decide) (by decide) (by decide) (by decide) (by decide) (by omega)) (own_hiN (by omega) (by omega) (by decide) (by decide) (by decide) (by decide) (by decide) (by decide) (by omega)) (own_hiK (by omega) (by decide) (by decide) (by decide)) (own_hiK (by omega) (by decide) (by decide) (by decide)) (own_hiK (by omega) (by decide) (by decide) (by decide)) X Y
      · exact m_lawv_3 hw hS S_nw S_p1 S_ns S_p2 np A_ns hns (k0 := (2 : Int32)) (y0 := s2) (k1 := (1 : Int32)) (y1 := s1) (k2 := (0 : Int32)) (y2 := s0) hn G11 f36 (Nat.lt_of_lt_of_le (Nat.lt_of_lt_of_le (Nat.lt_of_lt_of_le (Nat.lt_of_lt_of_le (Nat.lt_of_lt_of_le A1.lt (Nat.le_of_eq W2.size.symm)) (Nat.le_of_eq W3.size.symm)) (Nat.le_of_eq W4.size.symm)) (Nat.le_of_eq W5.size.symm)) (Nat.le_of_eq g9.symm)) (by rw [hn, hr]; decide) (by decide) rfl (by rw [hn, hr]; decide) (by decide) rfl (by rw [hn, hr]; decide) (by decide) rfl (own_s_3_210 hb0 hb1 hb2 hb3) (own_hiN (by omega) (by omega) (by decide) (by decide) (by decide) (by decide) (by decide) (by decide) (by omega)) (own_hiN (by omega) (by omega) (by decide) (by decide) (by decide) (by decide) (by decide) (by decide) (by omega)) (own_hiK (by omega) (by decide) (by decide) (by decide)) (own_hiK (by omega) (by decide) (by decide) (by decide)) (own_hiK (by omega) (by decide) (by decide) (by decide)) X Y
    · rcases own_and3 (w.toUInt32 >>> ((1 : Int32) &&& 31).toUInt32).toInt32 with hr | hr | hr | hr
      · exact m_lawv_4 hw hS S_nw S_p1 S_ns S_p2 np A_ns hns (k0 := (3 : Int32)) (y0 := s3) (k1 := (2 : Int32)) (y1 := s2) (k2 := (1 : Int32)) (y2 := s1) (k3 := (0 : Int32)) (y3 := s0) hn G11 f36 (Nat.lt_of_lt_of_le (Nat.lt_of_lt_of_le (Nat.lt_of_lt_of_le (Nat.lt_of_lt_of_le (Nat.lt_of_lt_of_le A1.lt (Nat.le_of_eq W2.size.symm)) (Nat.le_of_eq W3.size.symm)) (Nat.le_of_eq W4.size.symm)) (Nat.le_of_eq W5.size.symm)) (Nat.le_of_eq g9.symm)) (by rw [hn, hr]; decide) (by decide) rfl (by rw [hn, hr]; decide) (by decide) rfl (by rw [hn, hr]; decide) (by decide) rfl (by rw [hn, hr]; decide) (by decide) rfl (own_s_4_3210 hb0 hb1 hb2 hb3) (own_hiN (by omega) (by omega) (by decide) (by decide) (by decide) (by decide) (by decide) (by decide) (by omega)) (own_hiN (by omega) (by omega) (by decide) (by decide) (by decide) (by decide) (by decide) (by decide) (by omega)) (own_hiN (by omega) (by omega) (by decide) (by decide) (by decide) (by decide) (by decide) (by decide) (by omega)) (own_hiK (by omega) (by decide) (by decide) (by decide)) (own_hiK (by omega) (by decide) (by decide) (by decide)) (own_hiK (by omega) (by decide) (by decide) (by decide)) (own_hiK (by omega) (by decide) (by decide) (by decide)) X Y
      · exact m_lawv_4 hw hS S_nw S_p1 S_ns S_p2 np A_ns hns (k0 := (0 : Int32)) (y0 := s0) (k1 := (3 : Int32)) (y1 := s3) (k2 := (2 : Int32)) (y2 := s2) (k3 := (1 : Int32)) (y3 := s1) hn G11 f36 (Nat.lt_of_lt_of_le (Nat.lt_of_lt_of_le (Nat.lt_of_lt_of_le (Nat.lt_of_lt_of_le (Nat.lt_of_lt_of_le A1.lt (Nat.le_of_eq W2.size.symm)) (Nat.le_of_eq W3.size.symm)) (Nat.le_of_eq W4.size.symm)) (Nat.le_of_eq W5.size.symm)) (Nat.le_of_eq g9.symm)) (by rw [hn, hr]; decide) (by decide) rfl (by rw [hn, hr]; decide) (by decide) rfl (by rw [hn, hr]; decide) (by decide) rfl (by rw [hn, hr]; decide) (by decide) rfl (own_s_4_0321 hb0 hb1 hb2 hb3) (own_hiN (by omega) (by omega) (by decide) (by decide) (by decide) (by decide) (by decide) (by decide) (by omega)) (own_hiN (by omega) (by omega) (by decide) (by decide) (by decide) (by decide) (by decide) (by decide) (by omega)) (own_hiN (by omega) (by omega) (by decide) (by decide) (by decide) (by decide) (by decide) (by decide) (by omega)) (own_hiK (by omega) (by decide) (by decide) (by decide)) (own_hiK (by omega) (by decide) (by decide) (by decide)) (own_hiK (by omega) (by decide) (by decide) (by decide)) (own_hiK (by omega) (by decide) (by decide) (by decide)) X Y
      · exact m_lawv_4 hw hS S_nw S_p1 S_ns S_p2 np A_ns hns (k0 := (1 : Int32)) (y0 := s1) (k1 := (0 : Int32)) (y1 := s0) (k2 := (3 : Int32)) (y2 := s3) (k3 := (2 : Int32)) (y3 := s2) hn G11 f36 (Nat.lt_of_lt_of_le (Nat.lt_of_lt_of_le (Nat.lt_of_lt_of_le (Nat.lt_of_lt_of_le (Nat.lt_of_lt_of_le A1.lt (Nat.le_of_eq W2.size.symm)) (Nat.le_of_eq W3.size.symm)) (Nat.le_of_eq W4.size.symm)) (Nat.le_of_eq W5.size.symm)) (Nat.le_of_eq g9.symm)) (by rw [hn, hr]; decide) (by decide) rfl (by rw [hn, hr]; decide) (by decide) rfl (by rw [hn, hr]; decide) (by decide) rfl (by rw [hn, hr]; decide) (by decide) rfl (own_s_4_1032 hb0 hb1 hb2 hb3) (own_hiN (by omega) (by omega) (by decide) (by decide) (by decide) (by decide) (by decide) (by decide) (by omega)) (own_hiN (by omega) (by omega) (by decide) (by decide) (by decide) (by decide) (by decide) (by decide) (by omega)) (own_hiN (by omega) (by omega) (by decide) (by decide) (by decide) (by decide) (by decide) (by decide) (by omega)) (own_hiK (by omega) (by decide) (by decide) (by decide)) (own_hiK (by omega) (by decide) (by decide) (by decide)) (own_hiK (by omega) (by decide) (by decide) (by decide)) (own_hiK (by omega) (by decide) (by decide) (by decide)) X Y
      · exact m_lawv_4 hw hS S_nw S_p1 S_ns S_p2 np A_ns hns (k0 := (2 : Int32)) (y0 := s2) (k1 := (1 : Int32)) (y1 := s1) (k2 := (0 : Int32)) (y2 := s0) (k3 := (3 : Int32)) (y3 := s3) hn G11 f36 (Nat.lt_of_lt_of_le (Nat.lt_of_lt_of_le (Nat.lt_of_lt_of_le (Nat.lt_of_lt_of_le (Nat.lt_of_lt_of_le A1.lt (Nat.le_of_eq W2.size.symm)) (Nat.le_of_eq W3.size.symm)) (Nat.le_of_eq W4.size.symm)) (Nat.le_of_eq W5.size.symm)) (Nat.le_of_eq g9.symm)) (by rw [hn, hr]; decide) (by decide) rfl (by rw [hn, hr]; decide) (by decide) rfl (by rw [hn, hr]; decide) (by decide) rfl (by rw [hn, hr]; decide) (by decide) rfl (own_s_4_2103 hb0 hb1 hb2 hb3) (own_hiN (by omega) (by omega) (by decide) (by decide) (by decide) (by decide) (by decide) (by decide) (by omega)) (own_hiN (by omega) (by omega) (by decide) (by decide) (by decide) (by decide) (by decide) (by decide) (by omega)) (own_hiN (by omega) (by omega) (by decide) (by decide) (by decide) (by decide) (by decide) (by decide) (by omega)) (own_hiK (by omega) (by decide) (by decide) (by decide)) (own_hiK (by omega) (by decide) (by decide) (by decide)) (own_hiK (by omega) (by decide) (by decide) (by decide)) (own_hiK (by omega) (by decide) (by decide) (by decide)) X Y
theorem m_law {l : Launch} {Z : State} {a0 : Array Value} {n0 : Nat} (hw : own_hw a0 Z) (hZs : Z.heap.size = n0) {zc : Int32} {fm : Value} {nw p1 p2 ns : Addr} {cN : Cell} (q0 q1 q2 q3 q4 q5 : Int32) (hS : own_S Z zc fm) (S_nw : Sta Z Z.heap "com/example/flicker/flicker/game/GameBuilder" "NO_WEIGHTS" "[J" (.ref nw)) (S_p1 : Sta Z Z.heap "com/example/flicker/flicker/game/Player" "ONE" "Lcom/example/flicker/flicker/game/Player;" (.ref p1)) (S_ns : Sta Z Z.heap "com/example/flicker/flicker/game/GameBuilder" "NO_SETS" "[I" (.ref ns)) (S_p2 : Sta Z Z.heap "com/example/flicker/flicker/game/Player" "TWO" "Lcom/example/flicker/flicker/game/Player;" (.ref p2)) (np : p1 ≠ p2) (A_ns : Arr Z Z.heap ns cN .int) (hns : cN.slots.size.toInt32 = 0) :
    DoesL l Z n0 x code maxLocals ret tables_1 room_1 #[(.int q0), (.int q1), (.int q2), (.int q3), (.int q4), (.int q5)] (fun v _ => v = some (.int 1)) := by
  refine DoesL.start hZs (plainFor_of_name pn_0) ?_
  obtain ⟨S_zc, hzc, S_fm, hfm⟩ := id hS
  intro p e s m below meth c T X Y hsZ
  replace X : Sd _ _ _ _ _ "com/example/flicker/flicker/game/GameBuilderFirstMissingIdPinLaw" "law" _ _ _ _ _ _ _ _ _ _ _ _ _ _ _ _ := X
  have hs0 : s.heap.size = n0 := by rw [hsZ]; exact hZs
  have hkp : ∀ (b : Addr) (cl : Cell), Z.heap[b]? = some cl → s.heap[b]? = some cl := by rw [hsZ]; exact fun _ _ q => q
  have I0 : IB Z s.vm [] := by rw [hsZ]; exact IB.start
  refine Wp.cast (g' := mkF m 0 #[.val (.int q0), .val (.int q1), .val (.int q2), .val (.int q3), .val (.int q4), .val (.int q5), .unset, .unset, .unset, .unset, .unset, .unset, .unset, .unset, .unset, .unset] []) (by first | (simp [entryFrame, mkF, argsToLocals, Value.category, maxLocals]; done) | rfl) ?_
  refine w_iloadN X d_0 rfl ?_
  refine w_ldcI X d_1 (wd_0 hw) ?_
  refine w_iand X d_3 ?_
  refine w_iconst X (5 : Int32) d_4 rfl ?_
  refine w_irem X d_5 (by decide) ?_
  refine w_istore X #[.val (.int q0), .val (.int q1), .val (.int q2), .val (.int q3), .val (.int q4), .val (.int q5), .val (.int ((q0 &&& (2147483647 : Int32)) % (5 : Int32))), .unset, .unset, .unset, .unset, .unset, .unset, .unset, .unset, .unset] d_6 rfl ?_
  refine w_iloadN X d_8 rfl ?_
  refine w_callS X d_9 (wd_1 hw) (wd_2 hw) (wd_3 hw) (wd_4 hw) (by decide) (argsL := [(.int q1)]) (S := []) (m_gap hw (g0 := q1)) pd_0 rfl rfl rfl (by decide) (Nat.le_of_ble_eq_true rfl) (by decide) (by decide) (fun T h1 v1 L1 X q1 => ?_)
  obtain ⟨rfl, rfl⟩ := q1
  show Wp _ _ _ _ (T.setTop (mkF _ _ _ [(.int (own_gap q1))]))
  refine w_istore X #[.val (.int q0), .val (.int q1), .val (.int q2), .val (.int q3), .val (.int q4), .val (.int q5), .val (.int ((q0 &&& (2147483647 : Int32)) % (5 : Int32))), .val (.int (own_gap q1)), .unset, .unset, .unset, .unset, .unset, .unset, .unset, .unset] d_12 rfl ?_
  refine w_iload X d_14 rfl ?_
  refine w_iconst X (1 : Int32) d_16 rfl ?_
  refine w_iadd X d_17 ?_
  refine w_iloadN X d_18 rfl ?_
  refine w_callS X d_19 (wd_1 hw) (wd_2 hw) (wd_3 hw) (wd_4 hw) (by decide) (argsL := [(.int q2)]) (S := [(.int ((own_gap q1) + (1 : Int32)))]) (m_gap hw (g0 := q2)) pd_0 rfl rfl rfl (by decide) (Nat.le_of_ble_eq_true rfl) (by decide) (by decide) (fun T h2 v2 L2 X q2 => ?_)
  obtain ⟨rfl, rfl⟩ := q2
  show Wp _ _ _ _ (T.setTop (mkF _ _ _ [(.int (own_gap q2)), (.int ((own_gap q1) + (1 : Int32)))]))
  refine w_iadd X d_22 ?_
  refine w_istore X #[.val (.int q0), .val (.int q1), .val (.int q2), .val (.int q3), .val (.int q4), .val (.int q5), .val (.int ((q0 &&& (2147483647 : Int32)) % (5 : Int32))), .val (.int (own_gap q1)), .val (.int (((own_gap q1) + (1 : Int32)) + (own_gap q2))), .unset, .unset, .unset, .unset, .unset, .unset, .unset] d_23 rfl ?_
  refine w_iload X d_25 rfl ?_
  refine w_iconst X (1 : Int32) d_27 rfl ?_
  refine w_iadd X d_28 ?_
  refine w_iloadN X d_29 rfl ?_
  refine w_callS X d_30 (wd_1 hw) (wd_2 hw) (wd_3 hw) (wd_4 hw) (by decide) (argsL := [(.int q3)]) (S := [(.int ((((own_gap q1) + (1 : Int32)) + (own_gap q2)) + (1 : Int32)))]) (m_gap hw (g0 := q3)) pd_0 rfl rfl rfl (by decide) (Nat.le_of_ble_eq_true rfl) (by decide) (by decide) (fun T h3 v3 L3 X q3 => ?_)
  obtain ⟨rfl, rfl⟩ := q3
  show Wp _ _ _ _ (T.setTop (mkF _ _ _ [(.int (own_gap q3)), (.int ((((own_gap q1) + (1 : Int32)) + (own_gap q2)) + (1 : Int32)))]))
  refine w_iadd X d_33 ?_
  refine w_istore X #[.val (.int q0), .val (.int q1), .val (.int q2), .val (.int q3), .val (.int q4), .val (.int q5), .val (.int ((q0 &&& (2147483647 : Int32)) % (5 : Int32))), .val (.int (own_gap q1)), .val (.int (((own_gap q1) + (1 : Int32)) + (own_gap q2))), .val (.int (((((own_gap q1) + (1 : Int32)) + (own_gap q2)) + (1 : Int32)) + (own_gap q3))), .unset, .unset, .unset, .unset, .unset, .unset] d_34 rfl ?_
  refine w_iload X d_36 rfl ?_
  refine w_iconst X (1 : Int32) d_38 rfl ?_
  refine w_iadd X d_39 ?_
  refine w_iload X d_40 rfl ?_
  refine w_callS X d_42 (wd_1 hw) (wd_2 hw) (wd_3 hw) (wd_4 hw) (by decide) (argsL := [(.int q4)]) (S := [(.int ((((((own_gap q1) + (1 : Int32)) + (own_gap q2)) + (1 : Int32)) + (own_gap q3)) + (1 : Int32)))]) (m_gap hw (g0 := q4)) pd_0 rfl rfl rfl (by decide) (Nat.le_of_ble_eq_true rfl) (by decide) (by decide) (fun T h4 v4 L4 X q4 => ?_)
  obtain ⟨rfl, rfl⟩ := q4
  show Wp _ _ _ _ (T.setTop (mkF _ _ _ [(.int (own_gap q4)), (.int ((((((own_gap q1) + (1 : Int32)) + (own_gap q2)) + (1 : Int32)) + (own_gap q3)) + (1 : Int32)))]))
  refine w_iadd X d_45 ?_
  refine w_istore X #[.val (.int q0), .val (.int q1), .val (.int q2), .val (.int q3), .val (.int q4), .val (.int q5), .val (.int ((q0 &&& (2147483647 : Int32)) % (5 : Int32))), .val (.int (own_gap q1)), .val (.int (((own_gap q1) + (1 : Int32)) + (own_gap q2))), .val (.int (((((own_gap q1) + (1 : Int32)) + (own_gap q2)) + (1 : Int32)) + (own_gap q3))), .val (.int (((((((own_gap q1) + (1 : Int32)) + (own_gap q2)) + (1 : Int32)) + (own_gap q3)) + (1 : Int32)) + (own_gap q4))), .unset, .unset, .unset, .unset, .unset] d_46 rfl ?_
  have r0 := own_gapR q1
  have r1 := own_step (s := (own_gap q1)) (g := q2) r0.1 r0.2 (by decide)
  have r2 := own_step (s := (((own_gap q1) + (1 : Int32)) + (own_gap q2))) (g := q3) (by omega) r1.2 (by decide)
  have r3 := own_step (s := (((((own_gap q1) + (1 : Int32)) + (own_gap q2)) + (1 : Int32)) + (own_gap q3))) (g := q4) (by omega) r2.2 (by decide)
  exact m_lawu hw hS S_nw S_p1 S_ns S_p2 np A_ns hns (own_mod5 _) r0.1 r1.1 r2.1 r3.1 X Y
theorem own_ordv {s : State} {args : Array Value} {t : Jvm.Term} {a : Addr} {o : Int32} (e : t.eval args s none [] s = s.fieldOf? a "java/lang/Enum" "ordinal" "I") (h : (Jvm.Cond.eq t (Jvm.Term.int o)).value args s none s [] = some true) : Fld s s.heap a "java/lang/Enum" "ordinal" "I" (.int o) := by
  obtain ⟨x, y, h1, h2, k1, k2⟩ := cmp_v (Or.inl h)
  cases h2
  cases x <;> first | (obtain ⟨z, hz⟩ := k2; cases hz; done) | skip
  rename_i z
  have q := gotT (Jvm.RoadKit.own_eqI h1 rfl) h
  subst q
  exact Fld.start (e ▸ h1)
theorem own_len0 {s : State} {args : Array Value} {t : Jvm.Term} {a : Addr} {c : Cell} {ty : FieldType} (e : t.eval args s none [] s = some (.ref a)) (A : Arr s s.heap a c ty) (h : (Jvm.Cond.eq (Jvm.Term.length t) (Jvm.Term.int 0)).value args s none s [] = some true) : c.slots.size.toInt32 = 0 := by
  obtain ⟨x, y, h1, h2, k1, k2⟩ := cmp_v (Or.inl h)
  obtain ⟨a', cell, e1, e2, rfl⟩ := Jvm.Term.length_spec h1
  cases e.symm.trans e1
  cases (A.fin (U := s) (Vm.Alike.refl _)).symm.trans e2
  exact gotT (Jvm.RoadKit.own_eqI h1 rfl) h
theorem own_fne {Z : State} {h : Heap} {a b : Addr} {C n d : String} {v w : Value} (F : Fld Z h a C n d v) (G : Fld Z h b C n d w) (q : v ≠ w) : a ≠ b := fun r => by
  subst r
  obtain ⟨c1, _, _, _, f1, h1, h2, -, -, -, -, h3⟩ := F
  obtain ⟨c2, _, _, _, f2, g1, g2, -, -, -, -, g3⟩ := G
  cases h1.symm.trans g1
  cases h2.symm.trans g2
  cases h3.symm.trans g3
  exact q rfl
theorem comes_1 {Post : Tables → Env → Array Value → State → Outcome → State → Prop} (hpost : ∀ tb e args s v u, (limb_1_1.after args s (.returned v) u = true ∧ limb_1_2.after args s (.returned v) u = true ∧ True) → ReturnedEndW s (.returned v) u (Jvm.fieldLocs frame_1_writes args s ++ Jvm.arrayLocs frame_1_arrays args s ++ Jvm.staticLocs frame_1_statics s) 48 3520 → Post tb e args s (.returned v) u) :
    ArmFor flags0 classFile x code maxLocals ret World_1 tables_1 room_1 Calls_1 rest_1 Pre_1 Post := by
  intro l hfl _ _ p e ha hc hk s m args below hf hA hF happ hP
  obtain ⟨hcalls, hrest, hpre⟩ := hP
  obtain ⟨-, -, -, hnamed, -, -, -, hat⟩ := (Spec.applies_iff hf).mp happ
  obtain ⟨hg, hn⟩ := and_e (Cond.before_iff.mp (show (Jvm.Cond.and given_1 narrow_1).before args s = true from hpre))
  obtain ⟨hcount, hg1⟩ := and_e hg
  obtain ⟨ha0, hg2⟩ := and_e hg1
  obtain ⟨ha1, hg3⟩ := and_e hg2
  obtain ⟨ha2, hg4⟩ := and_e hg3
  obtain ⟨ha3, hg5⟩ := and_e hg4
  obtain ⟨ha4, hg6⟩ := and_e hg5
  have ha5 := hg6
  obtain ⟨w0, w1, w2, w3, w4, w5, rfl⟩ : ∃ w0 w1 w2 w3 w4 w5 : Value, args = #[w0, w1, w2, w3, w4, w5] := by
    have hs : args.size = 6 := by simpa [Cond.value, given_1] using hcount
    obtain ⟨L⟩ := args
    match L, hs with
    | [w0, w1, w2, w3, w4, w5], _ => exact ⟨w0, w1, w2, w3, w4, w5, rfl⟩
  have hw := fun d (hd : d ∈ tables_1) => atoms_spec (ws := Jvm.Cond.code x code maxLocals ret :: tables_1) hat d (List.mem_cons_of_mem _ hd)
  have hfit : Fit s := fun {y c} hc i hi => by
    obtain ⟨ha, rfl⟩ := Array.getElem?_eq_some_iff.mp hc
    have q := List.all_eq_true.mp ((Array.all_eq_true_iff_forall_mem.mp hF) _ (Array.getElem_mem ha)) i (List.mem_range.mpr hi)
    simpa [Array.getElem?_eq_getElem hi] using q
  obtain ⟨hsets, hown0⟩ := atoms_of _ (rest_1_c_eq ▸ (show rest_1_c.before _ s = true from hrest))
  have hr0 := Cond.before_iff.mp hown0
  obtain ⟨i0, ei0⟩ := is_v ha0
  obtain rfl : w0 = (.int i0) := Option.some.inj ei0
  obtain ⟨i1, ei1⟩ := is_v ha1
  obtain rfl : w1 = (.int i1) := Option.some.inj ei1
  obtain ⟨i2, ei2⟩ := is_v ha2
  obtain rfl : w2 = (.int i2) := Option.some.inj ei2
  obtain ⟨i3, ei3⟩ := is_v ha3
  obtain rfl : w3 = (.int i3) := Option.some.inj ei3
  obtain ⟨i4, ei4⟩ := is_v ha4
  obtain rfl : w4 = (.int i4) := Option.some.inj ei4
  obtain ⟨i5, ei5⟩ := is_v ha5
  obtain rfl : w5 = (.int i5) := Option.some.inj ei5
  obtain ⟨zc, ezc⟩ := is_v (Cond.before_iff.mp (hsets _ (List.mem_of_getElem? (i := 1) rfl)))
  have S_zc : Sta s s.heap "java/lang/String" "COMPACT_STRINGS" "Z" (.int zc) := Sta.start ezc (Or.inl (hsets _ (List.mem_of_getElem? (i := 0) rfl)))
  have hcw : Jvm.Lit.compactW.before _ s = true := (hsets _ (List.mem_of_getElem? (i := 2) rfl))
  have hzc : ¬ zc = 0 := gotF (own_eqI ezc rfl) (not_v (Cond.before_iff.mp hcw))
  obtain ⟨fm, efm, hfm⟩ := isR_v (Cond.before_iff.mp (hsets _ (List.mem_of_getElem? (i := 8) rfl)))
  have S_fm : Sta s s.heap "jdk/internal/util/Preconditions" "SIOOBE_FORMATTER" "Ljava/util/function/BiFunction;" fm := Sta.start efm (Or.inl (hsets _ (List.mem_of_getElem? (i := 7) rfl)))
  obtain ⟨a_nw, hn0⟩ := and_e hn
  obtain ⟨l_nw, hn1⟩ := and_e hn0
  obtain ⟨x_p1, hn2⟩ := and_e hn1
  obtain ⟨a_ns, hn3⟩ := and_e hn2
  obtain ⟨x_ns, hn4⟩ := and_e hn3
  obtain ⟨l_ns, hn5⟩ := and_e hn4
  obtain ⟨x_p2, hn6⟩ := and_e hn5
  obtain ⟨o_p1, hn7⟩ := and_e hn6
  have o_p2 := hn7
  obtain ⟨nw, e_nw⟩ := arr_v a_nw
  obtain ⟨ns, e_ns⟩ := arr_v a_ns
  obtain ⟨p1, e_p1⟩ := exa_v x_p1
  obtain ⟨p2, e_p2⟩ := exa_v x_p2
  obtain ⟨cN, A_ns⟩ := Arr.start e_ns a_ns
  have S_nw : Sta s s.heap "com/example/flicker/flicker/game/GameBuilder" "NO_WEIGHTS" "[J" (.ref nw) := Sta.start e_nw (Or.inr ⟨(wd_8 hw), (wd_99 hw)⟩)
  have S_ns : Sta s s.heap "com/example/flicker/flicker/game/GameBuilder" "NO_SETS" "[I" (.ref ns) := Sta.start e_ns (Or.inr ⟨(wd_8 hw), (wd_142 hw)⟩)
  have S_p1 : Sta s s.heap "com/example/flicker/flicker/game/Player" "ONE" "Lcom/example/flicker/flicker/game/Player;" (.ref p1) := Sta.start e_p1 (Or.inr ⟨(wd_139 hw), (wd_140 hw)⟩)
  have S_p2 : Sta s s.heap "com/example/flicker/flicker/game/Player" "TWO" "Lcom/example/flicker/flicker/game/Player;" (.ref p2) := Sta.start e_p2 (Or.inr ⟨(wd_139 hw), (wd_151 hw)⟩)
  have hns := own_len0 e_ns A_ns l_ns
  have np : p1 ≠ p2 := own_fne (own_ordv (fld_at e_p1) o_p1) (own_ordv (fld_at e_p2) o_p2) (by decide)
  obtain ⟨n, o, h1, h2, h3, v, L, rfl, ⟨N, -, -, rfl⟩, hq⟩ := m_law (l := l) (Z := s) (n0 := s.heap.size) hw rfl i0 i1 i2 i3 i4 i5 ⟨S_zc, hzc, S_fm, hfm⟩ S_nw S_p1 S_ns S_p2 np A_ns hns p e ha hc hk s m _ below hf ((Spec.applies_iff_loose hf).mp happ).1 ⟨rfl, rfl⟩ trivial
  refine ⟨n, _, h1, h2, h3, hpost _ _ _ _ _ _ ⟨Cond.after_iff.mpr rfl, Cond.after_iff.mpr (eq_i res_at (Term.int_eval (1)) rfl), trivial⟩ ⟨hq.1, hq.2.1, hq.2.2.1, (hq.2.2.2.sift fun y hy => Or.inr (N y hy)).mono (by decide) (by decide)⟩⟩
theorem main_1_1 : Claimed_1_1 := comes_1 fun _ _ _ _ _ _ h hF => ⟨h.1, hF⟩
theorem main_1_2 : Claimed_1_2 := comes_1 fun _ _ _ _ _ _ h hF => ⟨h.2.1, hF⟩
end Jvm.Pilot.@@N@@
namespace Jvm.Pilot.@@N@@
open Jvm Jvm.ClassFile Sem Op Lib Jvm.Free Jvm.Stand Jvm.Pilot.@@N@@.Jvm.D
/-! MADE BY PROGRAM (witnessworld.py) out of the Statement's table words and the real class files: 29 classes; the members and pool entries that the words name. The judged class is class 1, her method 1. -/
namespace start1
open Jvm.ClassFile
def u (s : String) : CpInfo := .utf8 (stringToUtf16 s)
/-- a pool by its gaps: so many unusable entries, then the entry; so many at the end -/
def gap : Nat → List CpInfo → List CpInfo
  | 0, r => r
  | n + 1, r => .unusable :: gap n r
def poolList (es : List (Nat × CpInfo)) (last : Nat) : List CpInfo := es.foldr (fun e r => gap e.1 (e.2 :: r)) (gap last [])
def pool (es : List (Nat × CpInfo)) (last : Nat) : Array CpInfo := ⟨poolList es last⟩
def fileOf (pool : Array CpInfo) (this : Nat) (attrs : Array Attribute := #[]) (ms : Array MethodInfo := #[]) (fl : Nat := 33) (sup : Nat := 0) (ifs : Array Nat := #[]) (fds : Array FieldInfo := #[]) : ClassFile where
  minorVersion := 0
  majorVersion := 65
  constantPool := pool
  accessFlags := fl
  thisClass := this
  superClass := sup
  interfaces := ifs
  fields := fds
  methods := ms
  attributes := attrs
def plain (name : String) (sup : Option ClassId) : Class where
  name := name
  kind := .ordinary
  loader := none
  accessFlags := 33
  super := sup
  interfaces := #[]
  cf := none
  fields := #[]
  methods := #[]
  instanceTypes := #[]
  staticTypes := #[]
  resolved := #[]
  callSites := []
  init := .initialized
  statics := none
  mirror := none

def pool0 : Array CpInfo := pool [(5, u "<init>"), (0, u "()V"), (1, .class_ 10), (1, u "java/lang/Object")] 113

def k0c0 : Code := { maxStack := 0, maxLocals := 1, code := object_method_1_code, exceptionTable := #[], attributes := #[] }
def k0m0 : Method := { name := "<init>", desc := "()V", sig := { parameters := [], returnType := none }, accessFlags := 1, code := some k0c0 }
/-- java/lang/Object -/
def k0 : Class := { plain "java/lang/Object" none with
  accessFlags := 33
  interfaces := #[]
  cf := some (fileOf pool0 8 #[] #[{ accessFlags := 1, nameIndex := 5, descriptorIndex := 6, attributes := #[] }] 33 0 #[] #[])
  fields := #[]
  methods := #[k0m0]
  instanceTypes := #[]
  staticTypes := #[]
  resolved := Array.replicate 124 none
  statics := none }

def pool1 : Array CpInfo := pool [(2, .class_ 4), (1, u "java/lang/Object"), (0, u "<init>"), (0, u "()V"), (0, .integer 2147483647), (0, .methodref 9 10), (0, .class_ 11), (0, .nameAndType 12 13), (0, u "com/example/flicker/flicker/game/GameBuilderFirstMissingIdPinLaw"), (0, u "gap"), (0, u "(I)I"), (0, .class_ 15), (0, u "com/example/flicker/flicker/game/GameBuilder"), (0, .string 17), (0, u "s"), (0, .methodref 14 19), (0, .nameAndType 5 20), (0, u "(Ljava/lang/String;I)V"), (0, .methodref 9 22), (0, .nameAndType 23 24), (0, u "place"), (0, u "(IIIZ)I"), (0, .fieldref 26 27), (0, .class_ 28), (0, .nameAndType 29 30), (0, u "com/example/flicker/flicker/game/Player"), (0, u "ONE"), (0, u "Lcom/example/flicker/flicker/game/Player;"), (0, .fieldref 14 32), (0, .nameAndType 33 34), (0, u "NO_SETS"), (0, u "[I"), (0, .methodref 14 36), (0, .nameAndType 37 38), (0, u "vertex"), (0, u "(ILcom/example/flicker/flicker/game/Player;ILjava/lang/CharSequence;[II)V"), (0, .methodref 14 40), (0, .nameAndType 41 6), (0, u "checkDistinct"), (0, .methodref 14 43), (0, .nameAndType 44 45), (0, u "firstMissingId"), (0, u "()I"), (0, .integer 268435455), (2, u "law"), (0, u "(IIIIII)Z")] 7

def k1m0 : Method := { name := "<init>", desc := "()V", sig := { parameters := [], returnType := none }, accessFlags := 1, code := none }
def k1c1 : Code := { maxStack := 7, maxLocals := 16, code := code, exceptionTable := #[], attributes := #[] }
def k1m1 : Method := { name := "law", desc := "(IIIIII)Z", sig := { parameters := [.int, .int, .int, .int, .int, .int], returnType := some .boolean }, accessFlags := 9, code := some k1c1 }
def k1c2 : Code := { maxStack := 2, maxLocals := 1, code := method_3_code, exceptionTable := #[], attributes := #[] }
def k1m2 : Method := { name := "gap", desc := "(I)I", sig := { parameters := [.int], returnType := some .int }, accessFlags := 10, code := some k1c2 }
def k1c3 : Code := { maxStack := 2, maxLocals := 5, code := method_4_code, exceptionTable := #[], attributes := #[] }
def k1m3 : Method := { name := "place", desc := "(IIIZ)I", sig := { parameters := [.int, .int, .int, .boolean], returnType := some .int }, accessFlags := 10, code := some k1c3 }
/-- com/example/flicker/flicker/game/GameBuilderFirstMissingIdPinLaw -/
def k1 : Class := { plain "com/example/flicker/flicker/game/GameBuilderFirstMissingIdPinLaw" (some 0) with
  accessFlags := 49
  interfaces := #[]
  cf := some (fileOf pool1 9 #[] #[{ accessFlags := 1, nameIndex := 5, descriptorIndex := 6, attributes := #[] }, { accessFlags := 9, nameIndex := 49, descriptorIndex := 50, attributes := #[] }, { accessFlags := 10, nameIndex := 12, descriptorIndex := 13, attributes := #[] }, { accessFlags := 10, nameIndex := 23, descriptorIndex := 24, attributes := #[] }] 49 2 #[] #[])
  fields := #[]
  methods := #[k1m0, k1m1, k1m2, k1m3]
  instanceTypes := #[]
  staticTypes := #[]
  resolved := Array.replicate 58 none
  statics := none }

def pool2 : Array CpInfo := pool [(3, .methodref 4 5), (0, .class_ 6), (0, .nameAndType 7 8), (0, u "java/lang/Object"), (0, u "<init>"), (0, u "()V"), (0, .fieldref 10 11), (0, .class_ 12), (0, .nameAndType 13 14), (0, u "com/example/flicker/flicker/game/GameBuilder"), (0, u "ids"), (0, u "[I"), (0, .fieldref 10 16), (0, .nameAndType 17 14), (0, u "priorities"), (0, .class_ 19), (0, u "java/util/BitSet"), (0, .methodref 18 5), (0, .fieldref 10 22), (0, .nameAndType 23 24), (0, u "playerTwo"), (0, u "Ljava/util/BitSet;"), (0, .class_ 26), (0, u "com/example/flicker/flicker/game/VertexNames"), (0, .methodref 25 5), (0, .fieldref 10 29), (0, .nameAndType 30 31), (0, u "names"), (0, u "Lcom/example/flicker/flicker/game/VertexNames;"), (0, .fieldref 10 33), (0, .nameAndType 34 14), (0, u "vertexLines"), (0, .fieldref 10 36), (0, .nameAndType 37 14), (0, u "setEnd"), (0, .fieldref 10 39), (0, .nameAndType 40 14), (0, u "sets"), (0, .fieldref 10 42), (0, .nameAndType 43 14), (0, u "tails"), (0, .fieldref 10 45), (0, .nameAndType 46 14), (0, u "heads"), (0, .fieldref 10 48), (0, .nameAndType 49 14), (0, u "edgeLines"), (0, .fieldref 10 51), (0, .nameAndType 52 53), (0, u "NO_WEIGHTS"), (0, u "[J"), (0, .fieldref 10 55), (0, .nameAndType 56 53), (0, u "weights"), (0, .fieldref 10 58), (0, .nameAndType 59 60), (0, u "source"), (0, u "Ljava/lang/String;"), (0, .fieldref 10 62), (0, .nameAndType 63 64), (0, u "dimensions"), (0, u "I"), (0, .fieldref 10 66), (0, .nameAndType 67 64), (0, u "vertexCount"), (1, .class_ 71), (1, u "java/util/Arrays"), (2, .fieldref 10 75), (0, .nameAndType 76 64), (0, u "setLength"), (0, .fieldref 78 79), (0, .class_ 80), (0, .nameAndType 81 82), (0, u "com/example/flicker/flicker/game/Player"), (0, u "TWO"), (0, u "Lcom/example/flicker/flicker/game/Player;"), (4, .methodref 25 88), (0, .nameAndType 89 90), (0, u "add"), (0, u "(Ljava/lang/CharSequence;)V"), (0, .methodref 92 93), (0, .class_ 94), (0, .nameAndType 95 96), (0, u "java/lang/System"), (0, u "arraycopy"), (0, u "(Ljava/lang/Object;ILjava/lang/Object;II)V"), (2, u "edgeCount"), (27, .fieldref 10 128), (0, .nameAndType 129 53), (0, u "byId"), (0, .methodref 69 131), (0, .nameAndType 132 133), (0, u "sort"), (0, u "([J)V"), (10, u "byTail"), (5, u "tailStart"), (23, u "NO_SETS"), (0, u "LONGEST_ARRAY"), (2, u "(Ljava/lang/String;I)V"), (2, u "vertex"), (0, u "(ILcom/example/flicker/flicker/game/Player;ILjava/lang/CharSequence;[II)V"), (3, u "()I"), (0, u "checkDistinct"), (0, u "firstMissingId")] 31

def k2c0 : Code := { maxStack := 3, maxLocals := 3, code := prog_7_method_1_code, exceptionTable := #[], attributes := #[] }
def k2m0 : Method := { name := "<init>", desc := "(Ljava/lang/String;I)V", sig := { parameters := [(.object "java/lang/String"), .int], returnType := none }, accessFlags := 0, code := some k2c0 }
def k2c1 : Code := { maxStack := 5, maxLocals := 8, code := prog_7_method_2_code, exceptionTable := #[], attributes := #[] }
def k2m1 : Method := { name := "vertex", desc := "(ILcom/example/flicker/flicker/game/Player;ILjava/lang/CharSequence;[II)V", sig := { parameters := [.int, (.object "com/example/flicker/flicker/game/Player"), .int, (.object "java/lang/CharSequence"), (.array .int), .int], returnType := none }, accessFlags := 0, code := some k2c1 }
def k2c2 : Code := { maxStack := 7, maxLocals := 6, code := prog_7_method_6_code, exceptionTable := #[], attributes := #[] }
def k2m2 : Method := { name := "checkDistinct", desc := "()V", sig := { parameters := [], returnType := none }, accessFlags := 0, code := some k2c2 }
def k2c3 : Code := { maxStack := 4, maxLocals := 2, code := prog_7_method_7_code, exceptionTable := #[], attributes := #[] }
def k2m3 : Method := { name := "firstMissingId", desc := "()I", sig := { parameters := [], returnType := some .int }, accessFlags := 0, code := some k2c3 }
/-- com/example/flicker/flicker/game/GameBuilder -/
def k2 : Class := { plain "com/example/flicker/flicker/game/GameBuilder" (some 0) with
  accessFlags := 48
  interfaces := #[]
  cf := some (fileOf pool2 10 #[] #[{ accessFlags := 0, nameIndex := 7, descriptorIndex := 178, attributes := #[] }, { accessFlags := 0, nameIndex := 181, descriptorIndex := 182, attributes := #[] }, { accessFlags := 0, nameIndex := 187, descriptorIndex := 8, attributes := #[] }, { accessFlags := 0, nameIndex := 188, descriptorIndex := 186, attributes := #[] }] 48 4 #[] #[{ accessFlags := 26, nameIndex := 175, descriptorIndex := 64, attributes := #[] }, { accessFlags := 24, nameIndex := 174, descriptorIndex := 14, attributes := #[] }, { accessFlags := 26, nameIndex := 52, descriptorIndex := 53, attributes := #[] }, { accessFlags := 18, nameIndex := 59, descriptorIndex := 60, attributes := #[] }, { accessFlags := 18, nameIndex := 63, descriptorIndex := 64, attributes := #[] }, { accessFlags := 2, nameIndex := 67, descriptorIndex := 64, attributes := #[] }, { accessFlags := 2, nameIndex := 13, descriptorIndex := 14, attributes := #[] }, { accessFlags := 2, nameIndex := 17, descriptorIndex := 14, attributes := #[] }, { accessFlags := 18, nameIndex := 23, descriptorIndex := 24, attributes := #[] }, { accessFlags := 18, nameIndex := 30, descriptorIndex := 31, attributes := #[] }, { accessFlags := 2, nameIndex := 34, descriptorIndex := 14, attributes := #[] }, { accessFlags := 2, nameIndex := 37, descriptorIndex := 14, attributes := #[] }, { accessFlags := 2, nameIndex := 40, descriptorIndex := 14, attributes := #[] }, { accessFlags := 2, nameIndex := 76, descriptorIndex := 64, attributes := #[] }, { accessFlags := 2, nameIndex := 99, descriptorIndex := 64, attributes := #[] }, { accessFlags := 2, nameIndex := 43, descriptorIndex := 14, attributes := #[] }, { accessFlags := 2, nameIndex := 46, descriptorIndex := 14, attributes := #[] }, { accessFlags := 2, nameIndex := 49, descriptorIndex := 14, attributes := #[] }, { accessFlags := 2, nameIndex := 56, descriptorIndex := 53, attributes := #[] }, { accessFlags := 2, nameIndex := 129, descriptorIndex := 53, attributes := #[] }, { accessFlags := 2, nameIndex := 150, descriptorIndex := 14, attributes := #[] }, { accessFlags := 2, nameIndex := 144, descriptorIndex := 53, attributes := #[] }])
  fields := #[{ name := "LONGEST_ARRAY", type := .int, accessFlags := 26, slot := 0, constantValue := 0 }, { name := "NO_SETS", type := (.array .int), accessFlags := 24, slot := 1, constantValue := 0 }, { name := "NO_WEIGHTS", type := (.array .long), accessFlags := 26, slot := 2, constantValue := 0 }, { name := "source", type := (.object "java/lang/String"), accessFlags := 18, slot := 0, constantValue := 0 }, { name := "dimensions", type := .int, accessFlags := 18, slot := 1, constantValue := 0 }, { name := "vertexCount", type := .int, accessFlags := 2, slot := 2, constantValue := 0 }, { name := "ids", type := (.array .int), accessFlags := 2, slot := 3, constantValue := 0 }, { name := "priorities", type := (.array .int), accessFlags := 2, slot := 4, constantValue := 0 }, { name := "playerTwo", type := (.object "java/util/BitSet"), accessFlags := 18, slot := 5, constantValue := 0 }, { name := "names", type := (.object "com/example/flicker/flicker/game/VertexNames"), accessFlags := 18, slot := 6, constantValue := 0 }, { name := "vertexLines", type := (.array .int), accessFlags := 2, slot := 7, constantValue := 0 }, { name := "setEnd", type := (.array .int), accessFlags := 2, slot := 8, constantValue := 0 }, { name := "sets", type := (.array .int), accessFlags := 2, slot := 9, constantValue := 0 }, { name := "setLength", type := .int, accessFlags := 2, slot := 10, constantValue := 0 }, { name := "edgeCount", type := .int, accessFlags := 2, slot := 11, constantValue := 0 }, { name := "tails", type := (.array .int), accessFlags := 2, slot := 12, constantValue := 0 }, { name := "heads", type := (.array .int), accessFlags := 2, slot := 13, constantValue := 0 }, { name := "edgeLines", type := (.array .int), accessFlags := 2, slot := 14, constantValue := 0 }, { name := "weights", type := (.array .long), accessFlags := 2, slot := 15, constantValue := 0 }, { name := "byId", type := (.array .long), accessFlags := 2, slot := 16, constantValue := 0 }, { name := "tailStart", type := (.array .int), accessFlags := 2, slot := 17, constantValue := 0 }, { name := "byTail", type := (.array .long), accessFlags := 2, slot := 18, constantValue := 0 }]
  methods := #[k2m0, k2m1, k2m2, k2m3]
  instanceTypes := #[(.object "java/lang/String"), .int, .int, (.array .int), (.array .int), (.object "java/util/BitSet"), (.object "com/example/flicker/flicker/game/VertexNames"), (.array .int), (.array .int), (.array .int), .int, .int, (.array .int), (.array .int), (.array .int), (.array .long), (.array .long), (.array .int), (.array .long)]
  staticTypes := #[.int, (.array .int), (.array .long)]
  resolved := Array.replicate 220 none
  statics := some 0 }

def pool3 : Array CpInfo := pool [(1, .class_ 2), (0, u "java/io/Serializable"), (0, .class_ 4), (0, u "java/lang/Object")] 2

/-- java/io/Serializable -/
def k3 : Class := { plain "java/io/Serializable" (some 0) with
  accessFlags := 1537
  interfaces := #[]
  cf := some (fileOf pool3 1 #[] #[] 1537 3 #[] #[])
  fields := #[]
  methods := #[]
  instanceTypes := #[]
  staticTypes := #[]
  resolved := Array.replicate 7 none
  statics := none }

def pool4 : Array CpInfo := pool [(1, .class_ 2), (0, u "java/lang/Comparable"), (0, .class_ 4), (0, u "java/lang/Object")] 7

/-- java/lang/Comparable -/
def k4 : Class := { plain "java/lang/Comparable" (some 0) with
  accessFlags := 1537
  interfaces := #[]
  cf := some (fileOf pool4 1 #[] #[] 1537 3 #[] #[])
  fields := #[]
  methods := #[]
  instanceTypes := #[]
  staticTypes := #[]
  resolved := Array.replicate 12 none
  statics := none }

def pool5 : Array CpInfo := pool [(2, .class_ 4), (1, u "java/lang/CharSequence"), (42, .class_ 48), (0, u "java/lang/CharSequence$1CodePointIterator"), (10, .class_ 60), (0, u "java/lang/CharSequence$1CharIterator"), (5, .class_ 67), (0, u "java/lang/Object")] 63

/-- java/lang/CharSequence -/
def k5 : Class := { plain "java/lang/CharSequence" (some 0) with
  accessFlags := 1537
  interfaces := #[]
  cf := some (fileOf pool5 2 #[.nestMembers #[47, 59]] #[] 1537 66 #[] #[])
  fields := #[]
  methods := #[]
  instanceTypes := #[]
  staticTypes := #[]
  resolved := Array.replicate 131 none
  statics := none }

def pool6 : Array CpInfo := pool [(1, .class_ 2), (0, u "java/lang/constant/Constable"), (0, .class_ 4), (0, u "java/lang/Object")] 6

/-- java/lang/constant/Constable -/
def k6 : Class := { plain "java/lang/constant/Constable" (some 0) with
  accessFlags := 1537
  interfaces := #[]
  cf := some (fileOf pool6 1 #[] #[] 1537 3 #[] #[])
  fields := #[]
  methods := #[]
  instanceTypes := #[]
  staticTypes := #[]
  resolved := Array.replicate 11 none
  statics := none }

def pool7 : Array CpInfo := pool [(1, .class_ 2), (0, u "java/lang/constant/ConstantDesc"), (0, .class_ 4), (0, u "java/lang/Object")] 32

/-- java/lang/constant/ConstantDesc -/
def k7 : Class := { plain "java/lang/constant/ConstantDesc" (some 0) with
  accessFlags := 1537
  interfaces := #[]
  cf := some (fileOf pool7 1 #[] #[] 1537 3 #[] #[])
  fields := #[]
  methods := #[]
  instanceTypes := #[]
  staticTypes := #[]
  resolved := Array.replicate 37 none
  statics := none }

def pool8 : Array CpInfo := pool [(2, .class_ 4), (1, u "java/lang/Object"), (0, u "<init>"), (0, u "()V"), (3, .class_ 12), (1, u "java/lang/String"), (0, u "value"), (0, u "[B"), (2, u "coder"), (0, u "B"), (2, u "hash"), (0, u "I"), (2, u "hashIsZero"), (0, u "Z"), (13, u "COMPACT_STRINGS"), (534, .class_ 576), (0, u "java/lang/CharSequence"), (22, u "CASE_INSENSITIVE_ORDER"), (0, u "Ljava/util/Comparator;"), (500, u "serialPersistentFields"), (0, u "[Ljava/io/ObjectStreamField;"), (0, .class_ 1104), (0, u "java/lang/String$CaseInsensitiveComparator"), (1, .class_ 1107), (0, u "java/io/Serializable"), (0, .class_ 1109), (0, u "java/lang/Comparable"), (0, .class_ 1111), (0, u "java/lang/constant/Constable"), (0, .class_ 1113), (0, u "java/lang/constant/ConstantDesc"), (2, u "serialVersionUID"), (0, u "J"), (3, u "REPL"), (0, u "C"), (2, u "LATIN1"), (1, u "UTF16")] 323

def k8m0 : Method := { name := "<init>", desc := "()V", sig := { parameters := [], returnType := none }, accessFlags := 1, code := none }
/-- java/lang/String -/
def k8 : Class := { plain "java/lang/String" (some 0) with
  accessFlags := 49
  interfaces := #[3, 4, 5, 6, 7]
  cf := some (fileOf pool8 10 #[.nestMembers #[1103]] #[{ accessFlags := 1, nameIndex := 5, descriptorIndex := 6, attributes := #[] }] 49 2 #[1106, 1108, 575, 1110, 1112] #[{ accessFlags := 18, nameIndex := 13, descriptorIndex := 14, attributes := #[] }, { accessFlags := 18, nameIndex := 17, descriptorIndex := 18, attributes := #[] }, { accessFlags := 2, nameIndex := 21, descriptorIndex := 22, attributes := #[] }, { accessFlags := 2, nameIndex := 25, descriptorIndex := 26, attributes := #[] }, { accessFlags := 26, nameIndex := 1116, descriptorIndex := 1117, attributes := #[] }, { accessFlags := 24, nameIndex := 40, descriptorIndex := 26, attributes := #[] }, { accessFlags := 26, nameIndex := 1101, descriptorIndex := 1102, attributes := #[] }, { accessFlags := 26, nameIndex := 1121, descriptorIndex := 1122, attributes := #[] }, { accessFlags := 25, nameIndex := 599, descriptorIndex := 600, attributes := #[] }, { accessFlags := 24, nameIndex := 1125, descriptorIndex := 18, attributes := #[] }, { accessFlags := 24, nameIndex := 1127, descriptorIndex := 18, attributes := #[] }])
  fields := #[{ name := "value", type := (.array .byte), accessFlags := 18, slot := 0, constantValue := 0 }, { name := "coder", type := .byte, accessFlags := 18, slot := 1, constantValue := 0 }, { name := "hash", type := .int, accessFlags := 2, slot := 2, constantValue := 0 }, { name := "hashIsZero", type := .boolean, accessFlags := 2, slot := 3, constantValue := 0 }, { name := "serialVersionUID", type := .long, accessFlags := 26, slot := 0, constantValue := 0 }, { name := "COMPACT_STRINGS", type := .boolean, accessFlags := 24, slot := 1, constantValue := 0 }, { name := "serialPersistentFields", type := (.array (.object "java/io/ObjectStreamField")), accessFlags := 26, slot := 2, constantValue := 0 }, { name := "REPL", type := .char, accessFlags := 26, slot := 3, constantValue := 0 }, { name := "CASE_INSENSITIVE_ORDER", type := (.object "java/util/Comparator"), accessFlags := 25, slot := 4, constantValue := 0 }, { name := "LATIN1", type := .byte, accessFlags := 24, slot := 5, constantValue := 0 }, { name := "UTF16", type := .byte, accessFlags := 24, slot := 6, constantValue := 0 }]
  methods := #[k8m0]
  instanceTypes := #[(.array .byte), .byte, .int, .boolean]
  staticTypes := #[.long, .boolean, (.array (.object "java/io/ObjectStreamField")), .char, (.object "java/util/Comparator"), .byte, .byte]
  resolved := Array.replicate 1451 none
  statics := some 1 }

def pool9 : Array CpInfo := pool [(1, .class_ 2), (0, u "java/lang/Cloneable"), (0, .class_ 4), (0, u "java/lang/Object")] 2

/-- java/lang/Cloneable -/
def k9 : Class := { plain "java/lang/Cloneable" (some 0) with
  accessFlags := 1537
  interfaces := #[]
  cf := some (fileOf pool9 1 #[] #[] 1537 3 #[] #[])
  fields := #[]
  methods := #[]
  instanceTypes := #[]
  staticTypes := #[]
  resolved := Array.replicate 7 none
  statics := none }

def pool10 : Array CpInfo := pool [(1, .class_ 2), (0, u "java/util/BitSet"), (2, u "$assertionsDisabled"), (0, u "Z"), (0, .fieldref 1 8), (0, .nameAndType 9 10), (0, u "wordsInUse"), (0, u "I"), (0, .fieldref 1 12), (0, .nameAndType 13 14), (0, u "words"), (0, u "[J"), (3, .nameAndType 19 20), (0, u "<init>"), (0, u "()V"), (0, .methodref 22 18), (0, .class_ 23), (0, u "java/lang/Object"), (0, .fieldref 1 25), (0, .nameAndType 26 6), (0, u "sizeIsSticky"), (0, .methodref 1 28), (0, .nameAndType 29 30), (0, u "initWords"), (0, u "(I)V"), (21, .methodref 1 53), (0, .nameAndType 54 55), (0, u "wordIndex"), (0, u "(I)I"), (213, .class_ 270), (0, u "java/util/BitSet$1BitSetSpliterator"), (22, u "serialPersistentFields"), (0, u "[Ljava/io/ObjectStreamField;"), (0, .class_ 296), (0, u "java/lang/Cloneable"), (0, .class_ 298), (0, u "java/io/Serializable"), (0, u "ADDRESS_BITS_PER_WORD"), (2, u "BITS_PER_WORD"), (1, u "BIT_INDEX_MASK"), (1, u "WORD_MASK"), (0, u "J"), (0, u "serialVersionUID")] 108

def k10c0 : Code := { maxStack := 2, maxLocals := 1, code := jdk_92_method_1_code, exceptionTable := #[], attributes := #[] }
def k10m0 : Method := { name := "wordIndex", desc := "(I)I", sig := { parameters := [.int], returnType := some .int }, accessFlags := 10, code := some k10c0 }
def k10c1 : Code := { maxStack := 2, maxLocals := 1, code := jdk_92_method_4_code, exceptionTable := #[], attributes := #[] }
def k10m1 : Method := { name := "<init>", desc := "()V", sig := { parameters := [], returnType := none }, accessFlags := 1, code := some k10c1 }
def k10c2 : Code := { maxStack := 3, maxLocals := 2, code := jdk_92_method_6_code, exceptionTable := #[], attributes := #[] }
def k10m2 : Method := { name := "initWords", desc := "(I)V", sig := { parameters := [.int], returnType := none }, accessFlags := 2, code := some k10c2 }
/-- java/util/BitSet -/
def k10 : Class := { plain "java/util/BitSet" (some 0) with
  accessFlags := 33
  interfaces := #[9, 3]
  cf := some (fileOf pool10 1 #[.nestMembers #[269]] #[{ accessFlags := 10, nameIndex := 54, descriptorIndex := 55, attributes := #[] }, { accessFlags := 1, nameIndex := 19, descriptorIndex := 20, attributes := #[] }, { accessFlags := 2, nameIndex := 29, descriptorIndex := 30, attributes := #[] }] 33 22 #[295, 297] #[{ accessFlags := 26, nameIndex := 299, descriptorIndex := 10, attributes := #[] }, { accessFlags := 26, nameIndex := 302, descriptorIndex := 10, attributes := #[] }, { accessFlags := 26, nameIndex := 304, descriptorIndex := 10, attributes := #[] }, { accessFlags := 26, nameIndex := 306, descriptorIndex := 307, attributes := #[] }, { accessFlags := 26, nameIndex := 293, descriptorIndex := 294, attributes := #[] }, { accessFlags := 2, nameIndex := 13, descriptorIndex := 14, attributes := #[] }, { accessFlags := 130, nameIndex := 9, descriptorIndex := 10, attributes := #[] }, { accessFlags := 130, nameIndex := 26, descriptorIndex := 6, attributes := #[] }, { accessFlags := 26, nameIndex := 308, descriptorIndex := 307, attributes := #[] }, { accessFlags := 4120, nameIndex := 5, descriptorIndex := 6, attributes := #[] }])
  fields := #[{ name := "ADDRESS_BITS_PER_WORD", type := .int, accessFlags := 26, slot := 0, constantValue := 0 }, { name := "BITS_PER_WORD", type := .int, accessFlags := 26, slot := 1, constantValue := 0 }, { name := "BIT_INDEX_MASK", type := .int, accessFlags := 26, slot := 2, constantValue := 0 }, { name := "WORD_MASK", type := .long, accessFlags := 26, slot := 3, constantValue := 0 }, { name := "serialPersistentFields", type := (.array (.object "java/io/ObjectStreamField")), accessFlags := 26, slot := 4, constantValue := 0 }, { name := "words", type := (.array .long), accessFlags := 2, slot := 0, constantValue := 0 }, { name := "wordsInUse", type := .int, accessFlags := 130, slot := 1, constantValue := 0 }, { name := "sizeIsSticky", type := .boolean, accessFlags := 130, slot := 2, constantValue := 0 }, { name := "serialVersionUID", type := .long, accessFlags := 26, slot := 5, constantValue := 0 }, { name := "$assertionsDisabled", type := .boolean, accessFlags := 4120, slot := 6, constantValue := 0 }]
  methods := #[k10m0, k10m1, k10m2]
  instanceTypes := #[(.array .long), .int, .boolean]
  staticTypes := #[.int, .int, .int, .long, (.array (.object "java/io/ObjectStreamField")), .long, .boolean]
  resolved := Array.replicate 417 none
  statics := none }

def pool11 : Array CpInfo := pool [(1, .methodref 2 3), (0, .class_ 4), (0, .nameAndType 5 6), (0, u "java/lang/Object"), (0, u "<init>"), (0, u "()V"), (0, .class_ 8), (0, u "java/lang/StringBuilder"), (0, .methodref 7 3), (0, .fieldref 11 12), (0, .class_ 13), (0, .nameAndType 14 15), (0, u "com/example/flicker/flicker/game/VertexNames"), (0, u "text"), (0, u "Ljava/lang/StringBuilder;"), (0, .fieldref 11 17), (0, .nameAndType 18 19), (0, u "end"), (0, u "[I"), (0, .class_ 21), (0, u "java/util/BitSet"), (0, .methodref 20 3), (0, .fieldref 11 24), (0, .nameAndType 25 26), (0, u "present"), (0, u "Ljava/util/BitSet;"), (0, .fieldref 11 28), (0, .nameAndType 29 30), (0, u "count"), (0, u "I"), (14, .methodref 7 46), (0, .nameAndType 47 48), (0, u "length"), (0, u "()I"), (37, u "add"), (0, u "(Ljava/lang/CharSequence;)V")] 9

def k11c0 : Code := { maxStack := 3, maxLocals := 1, code := prog_23_method_1_code, exceptionTable := #[], attributes := #[] }
def k11m0 : Method := { name := "<init>", desc := "()V", sig := { parameters := [], returnType := none }, accessFlags := 0, code := some k11c0 }
def k11c1 : Code := { maxStack := 4, maxLocals := 2, code := prog_23_method_2_code, exceptionTable := #[], attributes := #[] }
def k11m1 : Method := { name := "add", desc := "(Ljava/lang/CharSequence;)V", sig := { parameters := [(.object "java/lang/CharSequence")], returnType := none }, accessFlags := 0, code := some k11c1 }
/-- com/example/flicker/flicker/game/VertexNames -/
def k11 : Class := { plain "com/example/flicker/flicker/game/VertexNames" (some 0) with
  accessFlags := 48
  interfaces := #[]
  cf := some (fileOf pool11 11 #[] #[{ accessFlags := 0, nameIndex := 5, descriptorIndex := 6, attributes := #[] }, { accessFlags := 0, nameIndex := 86, descriptorIndex := 87, attributes := #[] }] 48 2 #[] #[{ accessFlags := 18, nameIndex := 14, descriptorIndex := 15, attributes := #[] }, { accessFlags := 2, nameIndex := 18, descriptorIndex := 19, attributes := #[] }, { accessFlags := 18, nameIndex := 25, descriptorIndex := 26, attributes := #[] }, { accessFlags := 2, nameIndex := 29, descriptorIndex := 30, attributes := #[] }])
  fields := #[{ name := "text", type := (.object "java/lang/StringBuilder"), accessFlags := 18, slot := 0, constantValue := 0 }, { name := "end", type := (.array .int), accessFlags := 2, slot := 1, constantValue := 0 }, { name := "present", type := (.object "java/util/BitSet"), accessFlags := 18, slot := 2, constantValue := 0 }, { name := "count", type := .int, accessFlags := 2, slot := 3, constantValue := 0 }]
  methods := #[k11m0, k11m1]
  instanceTypes := #[(.object "java/lang/StringBuilder"), (.array .int), (.object "java/util/BitSet"), .int]
  staticTypes := #[]
  resolved := Array.replicate 97 none
  statics := none }

def pool12 : Array CpInfo := pool [(1, .class_ 2), (0, u "java/lang/Appendable"), (0, .class_ 4), (0, u "java/lang/Object")] 9

/-- java/lang/Appendable -/
def k12 : Class := { plain "java/lang/Appendable" (some 0) with
  accessFlags := 1537
  interfaces := #[]
  cf := some (fileOf pool12 1 #[] #[] 1537 3 #[] #[])
  fields := #[]
  methods := #[]
  instanceTypes := #[]
  staticTypes := #[]
  resolved := Array.replicate 14 none
  statics := none }

def pool13 : Array CpInfo := pool [(1, .class_ 2), (0, u "java/lang/String"), (0, .methodref 4 5), (0, .class_ 6), (0, .nameAndType 7 8), (0, u "java/lang/Object"), (0, u "<init>"), (0, u "()V"), (1, .class_ 12), (1, u "java/lang/AbstractStringBuilder"), (0, u "EMPTYVALUE"), (0, u "[B"), (0, .fieldref 10 16), (0, .nameAndType 17 14), (0, u "value"), (0, .fieldref 1 19), (0, .nameAndType 20 21), (0, u "COMPACT_STRINGS"), (0, u "Z"), (0, .fieldref 10 23), (0, .nameAndType 24 25), (0, u "coder"), (0, u "B"), (8, u "length"), (0, u "()I"), (12, .class_ 49), (0, u "java/lang/CharSequence"), (25, u "maybeLatin1"), (3, .fieldref 10 80), (0, .nameAndType 81 82), (0, u "count"), (0, u "I"), (20, u "(I)V"), (340, .class_ 445), (0, u "java/lang/Appendable")] 163

def k13m0 : Method := { name := "<init>", desc := "()V", sig := { parameters := [], returnType := none }, accessFlags := 0, code := none }
def k13c1 : Code := { maxStack := 2, maxLocals := 2, code := jdk_68_method_2_code, exceptionTable := #[], attributes := #[] }
def k13m1 : Method := { name := "<init>", desc := "(I)V", sig := { parameters := [.int], returnType := none }, accessFlags := 0, code := some k13c1 }
def k13c2 : Code := { maxStack := 1, maxLocals := 1, code := jdk_68_method_6_code, exceptionTable := #[], attributes := #[] }
def k13m2 : Method := { name := "length", desc := "()I", sig := { parameters := [], returnType := some .int }, accessFlags := 1, code := some k13c2 }
/-- java/lang/AbstractStringBuilder -/
def k13 : Class := { plain "java/lang/AbstractStringBuilder" (some 0) with
  accessFlags := 1056
  interfaces := #[12, 5]
  cf := some (fileOf pool13 10 #[] #[{ accessFlags := 0, nameIndex := 7, descriptorIndex := 8, attributes := #[] }, { accessFlags := 0, nameIndex := 7, descriptorIndex := 103, attributes := #[] }, { accessFlags := 1, nameIndex := 34, descriptorIndex := 35, attributes := #[] }] 1056 4 #[444, 48] #[{ accessFlags := 0, nameIndex := 17, descriptorIndex := 14, attributes := #[] }, { accessFlags := 0, nameIndex := 24, descriptorIndex := 25, attributes := #[] }, { accessFlags := 0, nameIndex := 75, descriptorIndex := 21, attributes := #[] }, { accessFlags := 0, nameIndex := 81, descriptorIndex := 82, attributes := #[] }, { accessFlags := 26, nameIndex := 13, descriptorIndex := 14, attributes := #[] }])
  fields := #[{ name := "value", type := (.array .byte), accessFlags := 0, slot := 0, constantValue := 0 }, { name := "coder", type := .byte, accessFlags := 0, slot := 1, constantValue := 0 }, { name := "maybeLatin1", type := .boolean, accessFlags := 0, slot := 2, constantValue := 0 }, { name := "count", type := .int, accessFlags := 0, slot := 3, constantValue := 0 }, { name := "EMPTYVALUE", type := (.array .byte), accessFlags := 26, slot := 0, constantValue := 0 }]
  methods := #[k13m0, k13m1, k13m2]
  instanceTypes := #[(.array .byte), .byte, .boolean, .int]
  staticTypes := #[(.array .byte)]
  resolved := Array.replicate 609 none
  statics := none }

def pool14 : Array CpInfo := pool [(1, .methodref 2 3), (0, .class_ 4), (0, .nameAndType 5 6), (0, u "java/lang/AbstractStringBuilder"), (0, u "<init>"), (0, u "(I)V"), (17, .class_ 26), (1, u "java/lang/StringBuilder"), (118, u "()V"), (10, u "()I"), (186, .methodref 2 344), (0, .nameAndType 345 156), (0, u "length"), (3, .class_ 350), (0, u "java/lang/Appendable"), (0, .class_ 352), (0, u "java/io/Serializable"), (0, .class_ 354), (0, u "java/lang/Comparable"), (0, .class_ 356), (0, u "java/lang/CharSequence"), (0, u "serialVersionUID"), (0, u "J")] 63

def k14c0 : Code := { maxStack := 2, maxLocals := 1, code := jdk_67_method_1_code, exceptionTable := #[], attributes := #[] }
def k14m0 : Method := { name := "<init>", desc := "()V", sig := { parameters := [], returnType := none }, accessFlags := 1, code := some k14c0 }
def k14c1 : Code := { maxStack := 1, maxLocals := 1, code := jdk_67_method_93_code, exceptionTable := #[], attributes := #[] }
def k14m1 : Method := { name := "length", desc := "()I", sig := { parameters := [], returnType := some .int }, accessFlags := 4161, code := some k14c1 }
/-- java/lang/StringBuilder -/
def k14 : Class := { plain "java/lang/StringBuilder" (some 13) with
  accessFlags := 49
  interfaces := #[12, 3, 4, 5]
  cf := some (fileOf pool14 24 #[] #[{ accessFlags := 1, nameIndex := 5, descriptorIndex := 145, attributes := #[] }, { accessFlags := 4161, nameIndex := 345, descriptorIndex := 156, attributes := #[] }] 49 2 #[349, 351, 353, 355] #[{ accessFlags := 24, nameIndex := 357, descriptorIndex := 358, attributes := #[] }])
  fields := #[{ name := "serialVersionUID", type := .long, accessFlags := 24, slot := 0, constantValue := 0 }]
  methods := #[k14m0, k14m1]
  instanceTypes := #[(.array .byte), .byte, .boolean, .int]
  staticTypes := #[.long]
  resolved := Array.replicate 422 none
  statics := none }

def pool15 : Array CpInfo := pool [(2, .class_ 4), (1, u "java/lang/Object"), (0, u "<init>"), (0, u "()V"), (1, .class_ 10), (1, u "java/util/DualPivotQuicksort"), (0, u "sort"), (2, .class_ 16), (1, u "java/util/Arrays"), (2, .methodref 8 20), (0, .nameAndType 11 21), (0, u "([JIII)V"), (52, .class_ 76), (1, u "java/util/Arrays$NaturalOrder"), (36, .class_ 115), (1, u "java/util/Arrays$LegacyMergeSort"), (1, u "Z"), (257, .class_ 376), (0, u "java/util/Arrays$ArrayList"), (68, u "$assertionsDisabled"), (269, u "MIN_ARRAY_SORT_GRAN"), (0, u "I"), (2, u "INSERTIONSORT_THRESHOLD"), (11, u "([J)V"), (243, .class_ 976), (0, u "java/util/Arrays$ArrayItr")] 52

def k15m0 : Method := { name := "<init>", desc := "()V", sig := { parameters := [], returnType := none }, accessFlags := 2, code := none }
def k15c1 : Code := { maxStack := 4, maxLocals := 1, code := jdk_65_method_4_code, exceptionTable := #[], attributes := #[] }
def k15m1 : Method := { name := "sort", desc := "([J)V", sig := { parameters := [(.array .long)], returnType := none }, accessFlags := 9, code := some k15c1 }
/-- java/util/Arrays -/
def k15 : Class := { plain "java/util/Arrays" (some 0) with
  accessFlags := 49
  interfaces := #[]
  cf := some (fileOf pool15 14 #[.nestMembers #[975, 375, 113, 74]] #[{ accessFlags := 2, nameIndex := 5, descriptorIndex := 6, attributes := #[] }, { accessFlags := 9, nameIndex := 11, descriptorIndex := 731, attributes := #[] }] 49 2 #[] #[{ accessFlags := 26, nameIndex := 715, descriptorIndex := 716, attributes := #[] }, { accessFlags := 26, nameIndex := 719, descriptorIndex := 716, attributes := #[] }, { accessFlags := 4120, nameIndex := 445, descriptorIndex := 117, attributes := #[] }])
  fields := #[{ name := "MIN_ARRAY_SORT_GRAN", type := .int, accessFlags := 26, slot := 0, constantValue := 0 }, { name := "INSERTIONSORT_THRESHOLD", type := .int, accessFlags := 26, slot := 1, constantValue := 0 }, { name := "$assertionsDisabled", type := .boolean, accessFlags := 4120, slot := 2, constantValue := 0 }]
  methods := #[k15m0, k15m1]
  instanceTypes := #[]
  staticTypes := #[.int, .int, .boolean]
  resolved := Array.replicate 1029 none
  statics := none }

def pool16 : Array CpInfo := pool [(1, .class_ 2), (0, u "java/util/DualPivotQuicksort"), (5, .class_ 10), (1, u "java/lang/Object"), (0, u "<init>"), (0, u "()V"), (4, .class_ 18), (0, u "java/util/DualPivotQuicksort$Sorter"), (9, u "sort"), (7, u "insertionSort"), (31, u "I"), (4, .class_ 74), (0, u "java/util/DualPivotQuicksort$RunMerger"), (10, .class_ 86), (0, u "java/util/DualPivotQuicksort$Merger"), (12, .methodref 1 100), (0, .nameAndType 28 101), (0, u "(Ljava/util/DualPivotQuicksort$Sorter;[JIII)V"), (2, u "([JIII)V"), (0, .methodref 1 106), (0, .nameAndType 36 107), (0, u "([JII)V"), (106, u "MAX_MIXED_INSERTION_SORT_SIZE"), (2, u "MAX_INSERTION_SORT_SIZE"), (1, u "MIN_PARALLEL_SORT_SIZE"), (1, u "MIN_TRY_MERGE_SIZE"), (0, u "MIN_FIRST_RUN_SIZE"), (1, u "MIN_FIRST_RUNS_FACTOR"), (1, u "MAX_RUN_CAPACITY"), (1, u "MIN_RUN_COUNT"), (1, u "MIN_PARALLEL_MERGE_PARTS_SIZE"), (0, u "MIN_BYTE_COUNTING_SORT_SIZE"), (1, u "MIN_SHORT_OR_CHAR_COUNTING_SORT_SIZE"), (1, u "DELTA"), (1, u "MAX_RECURSION_DEPTH"), (1, u "NUM_BYTE_VALUES"), (1, u "MAX_BYTE_INDEX"), (0, u "NUM_CHAR_VALUES"), (0, u "NUM_SHORT_VALUES"), (0, u "MAX_SHORT_INDEX")] 86

def k16m0 : Method := { name := "<init>", desc := "()V", sig := { parameters := [], returnType := none }, accessFlags := 2, code := none }
def k16c1 : Code := { maxStack := 9, maxLocals := 7, code := jdk_2529_method_12_code, exceptionTable := #[], attributes := #[] }
def k16m1 : Method := { name := "sort", desc := "([JIII)V", sig := { parameters := [(.array .long), .int, .int, .int], returnType := none }, accessFlags := 8, code := some k16c1 }
def k16c2 : Code := { maxStack := 6, maxLocals := 25, code := jdk_2529_method_13_code, exceptionTable := #[], attributes := #[] }
def k16m2 : Method := { name := "sort", desc := "(Ljava/util/DualPivotQuicksort$Sorter;[JIII)V", sig := { parameters := [(.object "java/util/DualPivotQuicksort$Sorter"), (.array .long), .int, .int, .int], returnType := none }, accessFlags := 8, code := some k16c2 }
def k16c3 : Code := { maxStack := 5, maxLocals := 7, code := jdk_2529_method_15_code, exceptionTable := #[], attributes := #[] }
def k16m3 : Method := { name := "insertionSort", desc := "([JII)V", sig := { parameters := [(.array .long), .int, .int], returnType := none }, accessFlags := 10, code := some k16c3 }
/-- java/util/DualPivotQuicksort -/
def k16 : Class := { plain "java/util/DualPivotQuicksort" (some 0) with
  accessFlags := 48
  interfaces := #[]
  cf := some (fileOf pool16 1 #[.nestMembers #[73, 85, 17]] #[{ accessFlags := 2, nameIndex := 11, descriptorIndex := 12, attributes := #[] }, { accessFlags := 8, nameIndex := 28, descriptorIndex := 104, attributes := #[] }, { accessFlags := 8, nameIndex := 28, descriptorIndex := 101, attributes := #[] }, { accessFlags := 10, nameIndex := 36, descriptorIndex := 107, attributes := #[] }] 48 8 #[] #[{ accessFlags := 26, nameIndex := 214, descriptorIndex := 68, attributes := #[] }, { accessFlags := 26, nameIndex := 217, descriptorIndex := 68, attributes := #[] }, { accessFlags := 26, nameIndex := 219, descriptorIndex := 68, attributes := #[] }, { accessFlags := 26, nameIndex := 221, descriptorIndex := 68, attributes := #[] }, { accessFlags := 26, nameIndex := 222, descriptorIndex := 68, attributes := #[] }, { accessFlags := 26, nameIndex := 224, descriptorIndex := 68, attributes := #[] }, { accessFlags := 26, nameIndex := 226, descriptorIndex := 68, attributes := #[] }, { accessFlags := 26, nameIndex := 228, descriptorIndex := 68, attributes := #[] }, { accessFlags := 26, nameIndex := 230, descriptorIndex := 68, attributes := #[] }, { accessFlags := 26, nameIndex := 231, descriptorIndex := 68, attributes := #[] }, { accessFlags := 26, nameIndex := 233, descriptorIndex := 68, attributes := #[] }, { accessFlags := 26, nameIndex := 235, descriptorIndex := 68, attributes := #[] }, { accessFlags := 26, nameIndex := 237, descriptorIndex := 68, attributes := #[] }, { accessFlags := 26, nameIndex := 239, descriptorIndex := 68, attributes := #[] }, { accessFlags := 26, nameIndex := 241, descriptorIndex := 68, attributes := #[] }, { accessFlags := 26, nameIndex := 242, descriptorIndex := 68, attributes := #[] }, { accessFlags := 26, nameIndex := 243, descriptorIndex := 68, attributes := #[] }, { accessFlags := 26, nameIndex := 244, descriptorIndex := 68, attributes := #[] }])
  fields := #[{ name := "MAX_MIXED_INSERTION_SORT_SIZE", type := .int, accessFlags := 26, slot := 0, constantValue := 0 }, { name := "MAX_INSERTION_SORT_SIZE", type := .int, accessFlags := 26, slot := 1, constantValue := 0 }, { name := "MIN_PARALLEL_SORT_SIZE", type := .int, accessFlags := 26, slot := 2, constantValue := 0 }, { name := "MIN_TRY_MERGE_SIZE", type := .int, accessFlags := 26, slot := 3, constantValue := 0 }, { name := "MIN_FIRST_RUN_SIZE", type := .int, accessFlags := 26, slot := 4, constantValue := 0 }, { name := "MIN_FIRST_RUNS_FACTOR", type := .int, accessFlags := 26, slot := 5, constantValue := 0 }, { name := "MAX_RUN_CAPACITY", type := .int, accessFlags := 26, slot := 6, constantValue := 0 }, { name := "MIN_RUN_COUNT", type := .int, accessFlags := 26, slot := 7, constantValue := 0 }, { name := "MIN_PARALLEL_MERGE_PARTS_SIZE", type := .int, accessFlags := 26, slot := 8, constantValue := 0 }, { name := "MIN_BYTE_COUNTING_SORT_SIZE", type := .int, accessFlags := 26, slot := 9, constantValue := 0 }, { name := "MIN_SHORT_OR_CHAR_COUNTING_SORT_SIZE", type := .int, accessFlags := 26, slot := 10, constantValue := 0 }, { name := "DELTA", type := .int, accessFlags := 26, slot := 11, constantValue := 0 }, { name := "MAX_RECURSION_DEPTH", type := .int, accessFlags := 26, slot := 12, constantValue := 0 }, { name := "NUM_BYTE_VALUES", type := .int, accessFlags := 26, slot := 13, constantValue := 0 }, { name := "MAX_BYTE_INDEX", type := .int, accessFlags := 26, slot := 14, constantValue := 0 }, { name := "NUM_CHAR_VALUES", type := .int, accessFlags := 26, slot := 15, constantValue := 0 }, { name := "NUM_SHORT_VALUES", type := .int, accessFlags := 26, slot := 16, constantValue := 0 }, { name := "MAX_SHORT_INDEX", type := .int, accessFlags := 26, slot := 17, constantValue := 0 }]
  methods := #[k16m0, k16m1, k16m2, k16m3]
  instanceTypes := #[]
  staticTypes := #[.int, .int, .int, .int, .int, .int, .int, .int, .int, .int, .int, .int, .int, .int, .int, .int, .int, .int]
  resolved := Array.replicate 331 none
  statics := none }

def pool17 : Array CpInfo := pool [(2, .class_ 4), (1, u "java/lang/Enum"), (0, u "name"), (0, u "Ljava/lang/String;"), (2, u "ordinal"), (0, u "I"), (1, .class_ 14), (1, u "java/lang/Object"), (4, u "hash"), (86, .class_ 108), (1, u "java/lang/Enum$EnumDesc"), (2, .class_ 112), (0, u "java/lang/constant/Constable"), (0, .class_ 114), (0, u "java/lang/Comparable"), (0, .class_ 116), (0, u "java/io/Serializable")] 87

/-- java/lang/Enum -/
def k17 : Class := { plain "java/lang/Enum" (some 0) with
  accessFlags := 1057
  interfaces := #[6, 4, 3]
  cf := some (fileOf pool17 2 #[.nestMembers #[106]] #[] 1057 12 #[111, 113, 115] #[{ accessFlags := 18, nameIndex := 5, descriptorIndex := 6, attributes := #[] }, { accessFlags := 18, nameIndex := 9, descriptorIndex := 10, attributes := #[] }, { accessFlags := 2, nameIndex := 19, descriptorIndex := 10, attributes := #[] }])
  fields := #[{ name := "name", type := (.object "java/lang/String"), accessFlags := 18, slot := 0, constantValue := 0 }, { name := "ordinal", type := .int, accessFlags := 18, slot := 1, constantValue := 0 }, { name := "hash", type := .int, accessFlags := 2, slot := 2, constantValue := 0 }]
  methods := #[]
  instanceTypes := #[(.object "java/lang/String"), .int, .int]
  staticTypes := #[]
  resolved := Array.replicate 204 none
  statics := none }

def pool18 : Array CpInfo := pool [(1, .class_ 2), (0, u "com/example/flicker/flicker/game/Player"), (2, u "ONE"), (0, u "Lcom/example/flicker/flicker/game/Player;"), (2, u "TWO"), (2, u "$VALUES"), (0, u "[Lcom/example/flicker/flicker/game/Player;"), (6, .class_ 22), (1, u "java/lang/Enum"), (8, u "number"), (0, u "I")] 25

/-- com/example/flicker/flicker/game/Player -/
def k18 : Class := { plain "com/example/flicker/flicker/game/Player" (some 17) with
  accessFlags := 16433
  interfaces := #[]
  cf := some (fileOf pool18 1 #[] #[] 16433 20 #[] #[{ accessFlags := 16409, nameIndex := 5, descriptorIndex := 6, attributes := #[] }, { accessFlags := 16409, nameIndex := 9, descriptorIndex := 6, attributes := #[] }, { accessFlags := 18, nameIndex := 31, descriptorIndex := 32, attributes := #[] }, { accessFlags := 4122, nameIndex := 12, descriptorIndex := 13, attributes := #[] }])
  fields := #[{ name := "ONE", type := (.object "com/example/flicker/flicker/game/Player"), accessFlags := 16409, slot := 0, constantValue := 0 }, { name := "TWO", type := (.object "com/example/flicker/flicker/game/Player"), accessFlags := 16409, slot := 1, constantValue := 0 }, { name := "number", type := .int, accessFlags := 18, slot := 3, constantValue := 0 }, { name := "$VALUES", type := (.array (.object "com/example/flicker/flicker/game/Player")), accessFlags := 4122, slot := 2, constantValue := 0 }]
  methods := #[]
  instanceTypes := #[(.object "java/lang/String"), .int, .int, .int]
  staticTypes := #[(.object "com/example/flicker/flicker/game/Player"), (.object "com/example/flicker/flicker/game/Player"), (.array (.object "com/example/flicker/flicker/game/Player"))]
  resolved := Array.replicate 58 none
  statics := some 2 }

def pool19 : Array CpInfo := pool [(2, .class_ 4), (1, u "java/lang/Object"), (0, u "<init>"), (0, u "()V"), (1, .class_ 10), (1, u "java/lang/System"), (0, u "allowSecurityManager"), (0, u "I"), (16, u "cons"), (0, u "Ljava/io/Console;"), (77, .class_ 110), (1, u "java/lang/System$CallersHolder"), (43, u "initialErrStream"), (0, u "Ljava/io/PrintStream;"), (19, u "security"), (0, u "Ljava/lang/SecurityManager;"), (31, .class_ 209), (0, u "java/lang/System$1"), (7, u "props"), (0, u "Ljava/util/Properties;"), (2, u "lineSeparator"), (0, u "Ljava/lang/String;"), (96, .class_ 321), (1, u "java/lang/System$LoggerFinder"), (5, .class_ 328), (0, u "java/lang/System$Logger"), (67, u "err"), (2, u "out"), (91, u "notSupportedJnuEncoding"), (15, u "in"), (17, u "initialIn"), (0, u "Ljava/io/InputStream;"), (35, u "bootLayer"), (0, u "Ljava/lang/ModuleLayer;"), (99, .class_ 664), (0, u "java/lang/System$2"), (9, u "NEVER"), (2, u "MAYBE"), (49, u "arraycopy"), (0, u "(Ljava/lang/Object;ILjava/lang/Object;II)V"), (72, .class_ 802), (0, u "java/lang/System$Logger$Level")] 31

def k19m0 : Method := { name := "<init>", desc := "()V", sig := { parameters := [], returnType := none }, accessFlags := 2, code := none }
def k19m1 : Method := { name := "arraycopy", desc := "(Ljava/lang/Object;ILjava/lang/Object;II)V", sig := { parameters := [(.object "java/lang/Object"), .int, (.object "java/lang/Object"), .int, .int], returnType := none }, accessFlags := 265, code := none }
/-- java/lang/System -/
def k19 : Class := { plain "java/lang/System" (some 0) with
  accessFlags := 49
  interfaces := #[]
  cf := some (fileOf pool19 8 #[.nestMembers #[319, 327, 801, 108, 663, 208]] #[{ accessFlags := 2, nameIndex := 5, descriptorIndex := 6, attributes := #[] }, { accessFlags := 265, nameIndex := 727, descriptorIndex := 728, attributes := #[] }] 49 2 #[] #[{ accessFlags := 25, nameIndex := 507, descriptorIndex := 526, attributes := #[] }, { accessFlags := 25, nameIndex := 399, descriptorIndex := 155, attributes := #[] }, { accessFlags := 25, nameIndex := 396, descriptorIndex := 155, attributes := #[] }, { accessFlags := 10, nameIndex := 525, descriptorIndex := 526, attributes := #[] }, { accessFlags := 26, nameIndex := 674, descriptorIndex := 12, attributes := #[] }, { accessFlags := 26, nameIndex := 677, descriptorIndex := 12, attributes := #[] }, { accessFlags := 10, nameIndex := 11, descriptorIndex := 12, attributes := #[] }, { accessFlags := 74, nameIndex := 175, descriptorIndex := 176, attributes := #[] }, { accessFlags := 10, nameIndex := 491, descriptorIndex := 222, attributes := #[] }, { accessFlags := 74, nameIndex := 29, descriptorIndex := 30, attributes := #[] }, { accessFlags := 74, nameIndex := 154, descriptorIndex := 155, attributes := #[] }, { accessFlags := 10, nameIndex := 217, descriptorIndex := 218, attributes := #[] }, { accessFlags := 10, nameIndex := 221, descriptorIndex := 222, attributes := #[] }, { accessFlags := 8, nameIndex := 562, descriptorIndex := 563, attributes := #[] }])
  fields := #[{ name := "in", type := (.object "java/io/InputStream"), accessFlags := 25, slot := 0, constantValue := 0 }, { name := "out", type := (.object "java/io/PrintStream"), accessFlags := 25, slot := 1, constantValue := 0 }, { name := "err", type := (.object "java/io/PrintStream"), accessFlags := 25, slot := 2, constantValue := 0 }, { name := "initialIn", type := (.object "java/io/InputStream"), accessFlags := 10, slot := 3, constantValue := 0 }, { name := "NEVER", type := .int, accessFlags := 26, slot := 4, constantValue := 0 }, { name := "MAYBE", type := .int, accessFlags := 26, slot := 5, constantValue := 0 }, { name := "allowSecurityManager", type := .int, accessFlags := 10, slot := 6, constantValue := 0 }, { name := "security", type := (.object "java/lang/SecurityManager"), accessFlags := 74, slot := 7, constantValue := 0 }, { name := "notSupportedJnuEncoding", type := (.object "java/lang/String"), accessFlags := 10, slot := 8, constantValue := 0 }, { name := "cons", type := (.object "java/io/Console"), accessFlags := 74, slot := 9, constantValue := 0 }, { name := "initialErrStream", type := (.object "java/io/PrintStream"), accessFlags := 74, slot := 10, constantValue := 0 }, { name := "props", type := (.object "java/util/Properties"), accessFlags := 10, slot := 11, constantValue := 0 }, { name := "lineSeparator", type := (.object "java/lang/String"), accessFlags := 10, slot := 12, constantValue := 0 }, { name := "bootLayer", type := (.object "java/lang/ModuleLayer"), accessFlags := 8, slot := 13, constantValue := 0 }]
  methods := #[k19m0, k19m1]
  instanceTypes := #[]
  staticTypes := #[(.object "java/io/InputStream"), (.object "java/io/PrintStream"), (.object "java/io/PrintStream"), (.object "java/io/InputStream"), .int, .int, .int, (.object "java/lang/SecurityManager"), (.object "java/lang/String"), (.object "java/io/Console"), (.object "java/io/PrintStream"), (.object "java/util/Properties"), (.object "java/lang/String"), (.object "java/lang/ModuleLayer")]
  resolved := Array.replicate 834 none
  statics := none }

def pool20 : Array CpInfo := pool [(4, .class_ 6), (1, u "java/lang/Object"), (0, u "<init>"), (0, u "()V"), (5, .class_ 16), (1, u "java/lang/StringLatin1"), (104, u "$assertionsDisabled"), (0, u "Z"), (98, .class_ 223), (1, u "java/lang/StringLatin1$LinesSpliterator"), (166, .class_ 391), (0, u "java/lang/StringLatin1$CharsSpliterator")] 3

def k20m0 : Method := { name := "<init>", desc := "()V", sig := { parameters := [], returnType := none }, accessFlags := 0, code := none }
/-- java/lang/StringLatin1 -/
def k20 : Class := { plain "java/lang/StringLatin1" (some 0) with
  accessFlags := 48
  interfaces := #[]
  cf := some (fileOf pool20 14 #[.nestMembers #[390, 221]] #[{ accessFlags := 0, nameIndex := 7, descriptorIndex := 8, attributes := #[] }] 48 4 #[] #[{ accessFlags := 4120, nameIndex := 121, descriptorIndex := 122, attributes := #[] }])
  fields := #[{ name := "$assertionsDisabled", type := .boolean, accessFlags := 4120, slot := 0, constantValue := 0 }]
  methods := #[k20m0]
  instanceTypes := #[]
  staticTypes := #[.boolean]
  resolved := Array.replicate 395 none
  statics := none }

def pool21 : Array CpInfo := pool [(2, .class_ 4), (1, u "java/lang/Object"), (0, u "<init>"), (0, u "()V"), (17, .class_ 26), (1, u "jdk/internal/util/Preconditions"), (28, .class_ 56), (0, u "jdk/internal/util/Preconditions$4"), (57, .class_ 115), (0, u "jdk/internal/util/Preconditions$1"), (7, u "SIOOBE_FORMATTER"), (0, u "Ljava/util/function/BiFunction;"), (0, .class_ 126), (0, u "jdk/internal/util/Preconditions$2"), (3, u "AIOOBE_FORMATTER"), (0, .class_ 132), (0, u "jdk/internal/util/Preconditions$3"), (3, u "IOOBE_FORMATTER")] 57

def k21m0 : Method := { name := "<init>", desc := "()V", sig := { parameters := [], returnType := none }, accessFlags := 1, code := none }
/-- jdk/internal/util/Preconditions -/
def k21 : Class := { plain "jdk/internal/util/Preconditions" (some 0) with
  accessFlags := 33
  interfaces := #[]
  cf := some (fileOf pool21 24 #[.nestMembers #[55, 131, 125, 114]] #[{ accessFlags := 1, nameIndex := 5, descriptorIndex := 6, attributes := #[] }] 33 2 #[] #[{ accessFlags := 25, nameIndex := 123, descriptorIndex := 124, attributes := #[] }, { accessFlags := 25, nameIndex := 130, descriptorIndex := 124, attributes := #[] }, { accessFlags := 25, nameIndex := 136, descriptorIndex := 124, attributes := #[] }])
  fields := #[{ name := "SIOOBE_FORMATTER", type := (.object "java/util/function/BiFunction"), accessFlags := 25, slot := 0, constantValue := 0 }, { name := "AIOOBE_FORMATTER", type := (.object "java/util/function/BiFunction"), accessFlags := 25, slot := 1, constantValue := 0 }, { name := "IOOBE_FORMATTER", type := (.object "java/util/function/BiFunction"), accessFlags := 25, slot := 2, constantValue := 0 }]
  methods := #[k21m0]
  instanceTypes := #[]
  staticTypes := #[(.object "java/util/function/BiFunction"), (.object "java/util/function/BiFunction"), (.object "java/util/function/BiFunction")]
  resolved := Array.replicate 194 none
  statics := some 3 }

def pool22 : Array CpInfo := pool [(9, u "<init>"), (6, .class_ 18), (1, u "java/lang/Object"), (0, u "()V"), (1, .class_ 23), (1, u "jdk/internal/util/ArraysSupport"), (0, u "LOG2_ARRAY_LONG_INDEX_SCALE"), (0, u "I"), (2, u "U"), (0, u "Ljdk/internal/misc/Unsafe;"), (8, u "BIG_ENDIAN"), (0, u "Z"), (8, u "LOG2_BYTE_BIT_SIZE"), (4, u "LOG2_ARRAY_INT_INDEX_SCALE"), (54, u "JLA"), (0, u "Ljdk/internal/access/JavaLangAccess;"), (11, u "LOG2_ARRAY_BOOLEAN_INDEX_SCALE"), (9, u "LOG2_ARRAY_BYTE_INDEX_SCALE"), (5, u "LOG2_ARRAY_CHAR_INDEX_SCALE"), (5, u "LOG2_ARRAY_SHORT_INDEX_SCALE"), (18, u "LOG2_ARRAY_FLOAT_INDEX_SCALE"), (24, u "LOG2_ARRAY_DOUBLE_INDEX_SCALE"), (89, u "T_BOOLEAN"), (2, u "T_CHAR"), (1, u "T_FLOAT"), (1, u "T_DOUBLE"), (1, u "T_BYTE"), (1, u "T_SHORT"), (1, u "T_INT"), (1, u "T_LONG"), (1, u "SOFT_MAX_ARRAY_LENGTH")] 83

def k22m0 : Method := { name := "<init>", desc := "()V", sig := { parameters := [], returnType := none }, accessFlags := 2, code := none }
/-- jdk/internal/util/ArraysSupport -/
def k22 : Class := { plain "jdk/internal/util/ArraysSupport" (some 0) with
  accessFlags := 33
  interfaces := #[]
  cf := some (fileOf pool22 21 #[] #[{ accessFlags := 2, nameIndex := 9, descriptorIndex := 19, attributes := #[] }] 33 16 #[] #[{ accessFlags := 24, nameIndex := 28, descriptorIndex := 29, attributes := #[] }, { accessFlags := 26, nameIndex := 38, descriptorIndex := 39, attributes := #[] }, { accessFlags := 25, nameIndex := 121, descriptorIndex := 25, attributes := #[] }, { accessFlags := 25, nameIndex := 131, descriptorIndex := 25, attributes := #[] }, { accessFlags := 25, nameIndex := 137, descriptorIndex := 25, attributes := #[] }, { accessFlags := 25, nameIndex := 143, descriptorIndex := 25, attributes := #[] }, { accessFlags := 25, nameIndex := 53, descriptorIndex := 25, attributes := #[] }, { accessFlags := 25, nameIndex := 24, descriptorIndex := 25, attributes := #[] }, { accessFlags := 25, nameIndex := 162, descriptorIndex := 25, attributes := #[] }, { accessFlags := 25, nameIndex := 187, descriptorIndex := 25, attributes := #[] }, { accessFlags := 26, nameIndex := 48, descriptorIndex := 25, attributes := #[] }, { accessFlags := 25, nameIndex := 277, descriptorIndex := 25, attributes := #[] }, { accessFlags := 25, nameIndex := 280, descriptorIndex := 25, attributes := #[] }, { accessFlags := 25, nameIndex := 282, descriptorIndex := 25, attributes := #[] }, { accessFlags := 25, nameIndex := 284, descriptorIndex := 25, attributes := #[] }, { accessFlags := 25, nameIndex := 286, descriptorIndex := 25, attributes := #[] }, { accessFlags := 25, nameIndex := 288, descriptorIndex := 25, attributes := #[] }, { accessFlags := 25, nameIndex := 290, descriptorIndex := 25, attributes := #[] }, { accessFlags := 25, nameIndex := 292, descriptorIndex := 25, attributes := #[] }, { accessFlags := 26, nameIndex := 108, descriptorIndex := 109, attributes := #[] }, { accessFlags := 25, nameIndex := 294, descriptorIndex := 25, attributes := #[] }])
  fields := #[{ name := "U", type := (.object "jdk/internal/misc/Unsafe"), accessFlags := 24, slot := 0, constantValue := 0 }, { name := "BIG_ENDIAN", type := .boolean, accessFlags := 26, slot := 1, constantValue := 0 }, { name := "LOG2_ARRAY_BOOLEAN_INDEX_SCALE", type := .int, accessFlags := 25, slot := 2, constantValue := 0 }, { name := "LOG2_ARRAY_BYTE_INDEX_SCALE", type := .int, accessFlags := 25, slot := 3, constantValue := 0 }, { name := "LOG2_ARRAY_CHAR_INDEX_SCALE", type := .int, accessFlags := 25, slot := 4, constantValue := 0 }, { name := "LOG2_ARRAY_SHORT_INDEX_SCALE", type := .int, accessFlags := 25, slot := 5, constantValue := 0 }, { name := "LOG2_ARRAY_INT_INDEX_SCALE", type := .int, accessFlags := 25, slot := 6, constantValue := 0 }, { name := "LOG2_ARRAY_LONG_INDEX_SCALE", type := .int, accessFlags := 25, slot := 7, constantValue := 0 }, { name := "LOG2_ARRAY_FLOAT_INDEX_SCALE", type := .int, accessFlags := 25, slot := 8, constantValue := 0 }, { name := "LOG2_ARRAY_DOUBLE_INDEX_SCALE", type := .int, accessFlags := 25, slot := 9, constantValue := 0 }, { name := "LOG2_BYTE_BIT_SIZE", type := .int, accessFlags := 26, slot := 10, constantValue := 0 }, { name := "T_BOOLEAN", type := .int, accessFlags := 25, slot := 11, constantValue := 0 }, { name := "T_CHAR", type := .int, accessFlags := 25, slot := 12, constantValue := 0 }, { name := "T_FLOAT", type := .int, accessFlags := 25, slot := 13, constantValue := 0 }, { name := "T_DOUBLE", type := .int, accessFlags := 25, slot := 14, constantValue := 0 }, { name := "T_BYTE", type := .int, accessFlags := 25, slot := 15, constantValue := 0 }, { name := "T_SHORT", type := .int, accessFlags := 25, slot := 16, constantValue := 0 }, { name := "T_INT", type := .int, accessFlags := 25, slot := 17, constantValue := 0 }, { name := "T_LONG", type := .int, accessFlags := 25, slot := 18, constantValue := 0 }, { name := "JLA", type := (.object "jdk/internal/access/JavaLangAccess"), accessFlags := 26, slot := 19, constantValue := 0 }, { name := "SOFT_MAX_ARRAY_LENGTH", type := .int, accessFlags := 25, slot := 20, constantValue := 0 }]
  methods := #[k22m0]
  instanceTypes := #[]
  staticTypes := #[(.object "jdk/internal/misc/Unsafe"), .boolean, .int, .int, .int, .int, .int, .int, .int, .int, .int, .int, .int, .int, .int, .int, .int, .int, .int, (.object "jdk/internal/access/JavaLangAccess"), .int]
  resolved := Array.replicate 378 none
  statics := none }

/-- the primitive byte -/
def k23 : Class := { plain "byte" none with kind := .primitive 'B', accessFlags := 0x411 }
/-- [B -/
def k24 : Class := { plain "[B" (some 0) with kind := .array 23 .byte, interfaces := #[9, 3], accessFlags := 1041 }

/-- the primitive int -/
def k25 : Class := { plain "int" none with kind := .primitive 'I', accessFlags := 0x411 }
/-- [I -/
def k26 : Class := { plain "[I" (some 0) with kind := .array 25 .int, interfaces := #[9, 3], accessFlags := 1041 }

/-- the primitive long -/
def k27 : Class := { plain "long" none with kind := .primitive 'J', accessFlags := 0x411 }
/-- [J -/
def k28 : Class := { plain "[J" (some 0) with kind := .array 27 .long, interfaces := #[9, 3], accessFlags := 1041 }

def heap : Heap := #[{ cls := 2, slots := #[.int 0, .ref 5, .ref 4], vm := .statics 2 },
  { cls := 8, slots := #[.long 0, .int 1, .null, .int 0, .null, .int 0, .int 0], vm := .statics 8 },
  { cls := 18, slots := #[.ref 6, .ref 7, .null], vm := .statics 18 },
  { cls := 21, slots := #[.null, .null, .null], vm := .statics 21 },
  { cls := 28, slots := #[], vm := .none },
  { cls := 26, slots := #[], vm := .none },
  { cls := 18, slots := #[.null, .int 0, .int 0, .int 1], vm := .none },
  { cls := 18, slots := #[.null, .int 1, .int 0, .int 2], vm := .none }]
def classes : Array Class := #[k0, k1, k2, k3, k4, k5, k6, k7, k8, k9, k10, k11, k12, k13, k14, k15, k16, k17, k18, k19, k20, k21, k22, k23, k24, k25, k26, k27, k28]
def interned : List (Array UInt16 × Addr) := []
def slotsUsed : Nat := 24
def theMethod : MethodId := ⟨1, 1⟩
def args0 : Array Value := #[.int 3, .int 5, .int 7, .int 2, .int 1, .int 6]
def aboutOver (below : List Frame) : State where
  vm := { classes := classes, interned := interned.toArray }
  heap := heap
  slotsUsed := slotsUsed
  threads := #[{ frames := .invoking theMethod args0 :: below }]
def below0 : List Frame := [.native { method := ⟨0, 0⟩, args := #[] }]
def about1 : State := aboutOver below0
def p0 : Program := .bare "" "" ""
def e0 : Env := launch0.env 0 0 0
theorem w_frames : about1.frames = Frame.invoking theMethod args0 :: below0 := rfl
set_option maxRecDepth 65536 in
theorem w_args : argsFit about1.vm theMethod args0 = true := by decide +kernel
set_option maxRecDepth 65536 in
theorem w_heap : heapFits about1 = true := by decide +kernel
set_option maxRecDepth 65536 in
theorem w_runnable : about1.curStatus? = some .runnable := by decide +kernel
set_option maxRecDepth 65536 in
theorem w_alone : about1.alone = true := by decide +kernel
set_option maxRecDepth 65536 in
theorem w_named : about1.methodNamed? x = some theMethod := by decide +kernel
set_option maxRecDepth 65536 in
theorem w_hears : about1.hears theMethod below0 = true := by decide +kernel
set_option maxRecDepth 65536 in
theorem w_ripe : about1.ripe theMethod args0 below0 = true := by decide +kernel
theorem w_running : about1.status = .running := rfl
set_option maxRecDepth 65536 in
theorem w_room : about1.hasRoom e0.platform room_1 = true :=
  launch0.hasRoom_least _ room_1 (by decide +kernel) (by decide +kernel) (by decide +kernel) (by decide +kernel) (by decide +kernel) (by decide +kernel)
theorem allAtoms_all (ts : List Jvm.Cond) (a : Array Jvm.Value) (st : Jvm.State) : (allAtoms ts).before a st = ts.all (fun c => c.before a st) := by
  induction ts with
  | nil => rfl
  | cons c t ih =>
    show (Jvm.Cond.and c (allAtoms t)).before a st = _
    rw [Jvm.Cond.before_and, ih, List.all_cons]
def words1 : List Jvm.Cond := Jvm.Cond.code x code maxLocals ret :: tables_1
/-- a 'code' word, met by the world's own term for the bytes: nothing is compared byte by byte -/
theorem code_word {y : MethodName} {bytes : ByteArray} {mx : Nat} {rt : Option FieldType} {a : Array Value} {s : State} {m : MethodId} {meth : Method} {c : Code} (h1 : s.methodNamed? y = some m) (h2 : s.vm.method? m = some meth) (h3 : meth.code = some c) (h4 : c.code = bytes)
    (h5 : (c.maxLocals == mx && c.exceptionTable.isEmpty && decide (c.maxStack ≤ mostOperands) && decide (meth.sig.returnType = rt) && !meth.locks && decide (parseMethodDescriptor y.desc = some meth.sig)) = true) : (Jvm.Cond.code y bytes mx rt).before a s = true := by
  simp only [Bool.and_eq_true, beq_iff_eq, Bool.not_eq_true', decide_eq_true_eq] at h5
  obtain ⟨⟨⟨⟨⟨g1, g2⟩, g3⟩, g4⟩, g5⟩, g6⟩ := h5
  simp [Cond.before, Cond.holds, Cond.value, h1, h2, h3, h4, g1, g2, g3, g4, g5, g6]
def isCode : Jvm.Cond → Bool
  | .code _ _ _ _ => true
  | _ => false
theorem all_split {L : List Jvm.Cond} {P : Jvm.Cond → Bool} (h1 : L.all (fun c => isCode c || P c) = true) (h2 : ∀ c ∈ L.filter isCode, P c = true) : L.all P = true := by
  refine List.all_eq_true.mpr fun c hc => ?_
  have h := List.all_eq_true.mp h1 c hc
  rcases Bool.eq_false_or_eq_true (isCode c) with hi | hi
  · exact h2 c (List.mem_filter.mpr ⟨hc, hi⟩)
  · simpa [hi] using h
set_option maxRecDepth 65536 in
theorem w_c0 : (Jvm.Cond.code x code maxLocals ret).before args0 about1 = true := code_word (m := ⟨1, 1⟩) (meth := k1m1) (c := k1c1) (by decide +kernel) rfl rfl rfl (by decide +kernel)
set_option maxRecDepth 65536 in
theorem w_c1 : (Jvm.Cond.code ({ cls := "com/example/flicker/flicker/game/GameBuilderFirstMissingIdPinLaw", name := "gap", desc := "(I)I" } : Jvm.MethodName) method_3_code (1 : Nat) (Option.some Jvm.ClassFile.FieldType.int)).before args0 about1 = true := code_word (m := ⟨1, 2⟩) (meth := k1m2) (c := k1c2) (by decide +kernel) rfl rfl rfl (by decide +kernel)
set_option maxRecDepth 65536 in
theorem w_c2 : (Jvm.Cond.code ({ cls := "com/example/flicker/flicker/game/GameBuilder", name := "<init>", desc := "(Ljava/lang/String;I)V" } : Jvm.MethodName) prog_7_method_1_code (3 : Nat) (Option.none : Option Jvm.ClassFile.FieldType)).before args0 about1 = true := code_word (m := ⟨2, 0⟩) (meth := k2m0) (c := k2c0) (by decide +kernel) rfl rfl rfl (by decide +kernel)
set_option maxRecDepth 65536 in
theorem w_c3 : (Jvm.Cond.code ({ cls := "java/lang/Object", name := "<init>", desc := "()V" } : Jvm.MethodName) object_method_1_code (1 : Nat) (Option.none : Option Jvm.ClassFile.FieldType)).before args0 about1 = true := code_word (m := ⟨0, 0⟩) (meth := k0m0) (c := k0c0) (by decide +kernel) rfl rfl rfl (by decide +kernel)
set_option maxRecDepth 65536 in
theorem w_c4 : (Jvm.Cond.code ({ cls := "java/util/BitSet", name := "<init>", desc := "()V" } : Jvm.MethodName) jdk_92_method_4_code (1 : Nat) (Option.none : Option Jvm.ClassFile.FieldType)).before args0 about1 = true := code_word (m := ⟨10, 1⟩) (meth := k10m1) (c := k10c1) (by decide +kernel) rfl rfl rfl (by decide +kernel)
set_option maxRecDepth 65536 in
theorem w_c5 : (Jvm.Cond.code ({ cls := "java/util/BitSet", name := "initWords", desc := "(I)V" } : Jvm.MethodName) jdk_92_method_6_code (2 : Nat) (Option.none : Option Jvm.ClassFile.FieldType)).before args0 about1 = true := code_word (m := ⟨10, 2⟩) (meth := k10m2) (c := k10c2) (by decide +kernel) rfl rfl rfl (by decide +kernel)
set_option maxRecDepth 65536 in
theorem w_c6 : (Jvm.Cond.code ({ cls := "java/util/BitSet", name := "wordIndex", desc := "(I)I" } : Jvm.MethodName) jdk_92_method_1_code (1 : Nat) (Option.some Jvm.ClassFile.FieldType.int)).before args0 about1 = true := code_word (m := ⟨10, 0⟩) (meth := k10m0) (c := k10c0) (by decide +kernel) rfl rfl rfl (by decide +kernel)
set_option maxRecDepth 65536 in
theorem w_c7 : (Jvm.Cond.code ({ cls := "com/example/flicker/flicker/game/VertexNames", name := "<init>", desc := "()V" } : Jvm.MethodName) prog_23_method_1_code (1 : Nat) (Option.none : Option Jvm.ClassFile.FieldType)).before args0 about1 = true := code_word (m := ⟨11, 0⟩) (meth := k11m0) (c := k11c0) (by decide +kernel) rfl rfl rfl (by decide +kernel)
set_option maxRecDepth 65536 in
theorem w_c8 : (Jvm.Cond.code ({ cls := "java/lang/StringBuilder", name := "<init>", desc := "()V" } : Jvm.MethodName) jdk_67_method_1_code (1 : Nat) (Option.none : Option Jvm.ClassFile.FieldType)).before args0 about1 = true := code_word (m := ⟨14, 0⟩) (meth := k14m0) (c := k14c0) (by decide +kernel) rfl rfl rfl (by decide +kernel)
set_option maxRecDepth 65536 in
theorem w_c9 : (Jvm.Cond.code ({ cls := "java/lang/AbstractStringBuilder", name := "<init>", desc := "(I)V" } : Jvm.MethodName) jdk_68_method_2_code (2 : Nat) (Option.none : Option Jvm.ClassFile.FieldType)).before args0 about1 = true := code_word (m := ⟨13, 1⟩) (meth := k13m1) (c := k13c1) (by decide +kernel) rfl rfl rfl (by decide +kernel)
set_option maxRecDepth 65536 in
theorem w_c10 : (Jvm.Cond.code ({ cls := "com/example/flicker/flicker/game/GameBuilder", name := "checkDistinct", desc := "()V" } : Jvm.MethodName) prog_7_method_6_code (6 : Nat) (Option.none : Option Jvm.ClassFile.FieldType)).before args0 about1 = true := code_word (m := ⟨2, 2⟩) (meth := k2m2) (c := k2c2) (by decide +kernel) rfl rfl rfl (by decide +kernel)
set_option maxRecDepth 65536 in
theorem w_c11 : (Jvm.Cond.code ({ cls := "java/util/Arrays", name := "sort", desc := "([J)V" } : Jvm.MethodName) jdk_65_method_4_code (1 : Nat) (Option.none : Option Jvm.ClassFile.FieldType)).before args0 about1 = true := code_word (m := ⟨15, 1⟩) (meth := k15m1) (c := k15c1) (by decide +kernel) rfl rfl rfl (by decide +kernel)
set_option maxRecDepth 65536 in
theorem w_c12 : (Jvm.Cond.code ({ cls := "java/util/DualPivotQuicksort", name := "sort", desc := "([JIII)V" } : Jvm.MethodName) jdk_2529_method_12_code (7 : Nat) (Option.none : Option Jvm.ClassFile.FieldType)).before args0 about1 = true := code_word (m := ⟨16, 1⟩) (meth := k16m1) (c := k16c1) (by decide +kernel) rfl rfl rfl (by decide +kernel)
set_option maxRecDepth 65536 in
theorem w_c13 : (Jvm.Cond.code ({ cls := "java/util/DualPivotQuicksort", name := "sort", desc := "(Ljava/util/DualPivotQuicksort$Sorter;[JIII)V" } : Jvm.MethodName) jdk_2529_method_13_code (25 : Nat) (Option.none : Option Jvm.ClassFile.FieldType)).before args0 about1 = true := code_word (m := ⟨16, 2⟩) (meth := k16m2) (c := k16c2) (by decide +kernel) rfl rfl rfl (by decide +kernel)
set_option maxRecDepth 65536 in
theorem w_c14 : (Jvm.Cond.code ({ cls := "java/util/DualPivotQuicksort", name := "insertionSort", desc := "([JII)V" } : Jvm.MethodName) jdk_2529_method_15_code (7 : Nat) (Option.none : Option Jvm.ClassFile.FieldType)).before args0 about1 = true := code_word (m := ⟨16, 3⟩) (meth := k16m3) (c := k16c3) (by decide +kernel) rfl rfl rfl (by decide +kernel)
set_option maxRecDepth 65536 in
theorem w_c15 : (Jvm.Cond.code ({ cls := "com/example/flicker/flicker/game/GameBuilder", name := "firstMissingId", desc := "()I" } : Jvm.MethodName) prog_7_method_7_code (2 : Nat) (Option.some Jvm.ClassFile.FieldType.int)).before args0 about1 = true := code_word (m := ⟨2, 3⟩) (meth := k2m3) (c := k2c3) (by decide +kernel) rfl rfl rfl (by decide +kernel)
set_option maxRecDepth 65536 in
theorem w_c16 : (Jvm.Cond.code ({ cls := "com/example/flicker/flicker/game/GameBuilderFirstMissingIdPinLaw", name := "place", desc := "(IIIZ)I" } : Jvm.MethodName) method_4_code (5 : Nat) (Option.some Jvm.ClassFile.FieldType.int)).before args0 about1 = true := code_word (m := ⟨1, 3⟩) (meth := k1m3) (c := k1c3) (by decide +kernel) rfl rfl rfl (by decide +kernel)
set_option maxRecDepth 65536 in
theorem w_c17 : (Jvm.Cond.code ({ cls := "com/example/flicker/flicker/game/GameBuilder", name := "vertex", desc := "(ILcom/example/flicker/flicker/game/Player;ILjava/lang/CharSequence;[II)V" } : Jvm.MethodName) prog_7_method_2_code (8 : Nat) (Option.none : Option Jvm.ClassFile.FieldType)).before args0 about1 = true := code_word (m := ⟨2, 1⟩) (meth := k2m1) (c := k2c1) (by decide +kernel) rfl rfl rfl (by decide +kernel)
set_option maxRecDepth 65536 in
theorem w_c18 : (Jvm.Cond.code ({ cls := "com/example/flicker/flicker/game/VertexNames", name := "add", desc := "(Ljava/lang/CharSequence;)V" } : Jvm.MethodName) prog_23_method_2_code (2 : Nat) (Option.none : Option Jvm.ClassFile.FieldType)).before args0 about1 = true := code_word (m := ⟨11, 1⟩) (meth := k11m1) (c := k11c1) (by decide +kernel) rfl rfl rfl (by decide +kernel)
set_option maxRecDepth 65536 in
theorem w_c19 : (Jvm.Cond.code ({ cls := "java/lang/StringBuilder", name := "length", desc := "()I" } : Jvm.MethodName) jdk_67_method_93_code (1 : Nat) (Option.some Jvm.ClassFile.FieldType.int)).before args0 about1 = true := code_word (m := ⟨14, 1⟩) (meth := k14m1) (c := k14c1) (by decide +kernel) rfl rfl rfl (by decide +kernel)
set_option maxRecDepth 65536 in
theorem w_c20 : (Jvm.Cond.code ({ cls := "java/lang/AbstractStringBuilder", name := "length", desc := "()I" } : Jvm.MethodName) jdk_68_method_6_code (1 : Nat) (Option.some Jvm.ClassFile.FieldType.int)).before args0 about1 = true := code_word (m := ⟨13, 2⟩) (meth := k13m2) (c := k13c2) (by decide +kernel) rfl rfl rfl (by decide +kernel)
def codes1 : List Jvm.Cond := [Jvm.Cond.code x code maxLocals ret, Jvm.Cond.code ({ cls := "com/example/flicker/flicker/game/GameBuilderFirstMissingIdPinLaw", name := "gap", desc := "(I)I" } : Jvm.MethodName) method_3_code (1 : Nat) (Option.some Jvm.ClassFile.FieldType.int), Jvm.Cond.code ({ cls := "com/example/flicker/flicker/game/GameBuilder", name := "<init>", desc := "(Ljava/lang/String;I)V" } : Jvm.MethodName) prog_7_method_1_code (3 : Nat) (Option.none : Option Jvm.ClassFile.FieldType), Jvm.Cond.code ({ cls := "java/lang/Object", name := "<init>", desc := "()V" } : Jvm.MethodName) object_method_1_code (1 : Nat) (Option.none : Option Jvm.ClassFile.FieldType), Jvm.Cond.code ({ cls := "java/util/BitSet", name := "<init>", desc := "()V" } : Jvm.MethodName) jdk_92_method_4_code (1 : Nat) (Option.none : Option Jvm.ClassFile.FieldType), Jvm.Cond.code ({ cls := "java/util/BitSet", name := "initWords", desc := "(I)V" } : Jvm.MethodName) jdk_92_method_6_code (2 : Nat) (Option.none : Option Jvm.ClassFile.FieldType), Jvm.Cond.code ({ cls := "java/util/BitSet", name := "wordIndex", desc := "(I)I" } : Jvm.MethodName) jdk_92_method_1_code (1 : Nat) (Option.some Jvm.ClassFile.FieldType.int), Jvm.Cond.code ({ cls := "com/example/flicker/flicker/game/VertexNames", name := "<init>", desc := "()V" } : Jvm.MethodName) prog_23_method_1_code (1 : Nat) (Option.none : Option Jvm.ClassFile.FieldType), Jvm.Cond.code ({ cls := "java/lang/StringBuilder", name := "<init>", desc := "()V" } : Jvm.MethodName) jdk_67_method_1_code (1 : Nat) (Option.none : Option Jvm.ClassFile.FieldType), Jvm.Cond.code ({ cls := "java/lang/AbstractStringBuilder", name := "<init>", desc := "(I)V" } : Jvm.MethodName) jdk_68_method_2_code (2 : Nat) (Option.none : Option Jvm.ClassFile.FieldType), Jvm.Cond.code ({ cls := "com/example/flicker/flicker/game/GameBuilder", name := "checkDistinct", desc := "()V" } : Jvm.MethodName) prog_7_method_6_code (6 : Nat) (Option.none : Option Jvm.ClassFile.FieldType), Jvm.Cond.code ({ cls := "java/util/Arrays", name := "sort", desc := "([J)V" } : Jvm.MethodName) jdk_65_method_4_code (1 : Nat) (Option.none : Option Jvm.ClassFile.FieldType), Jvm.Cond.code ({ cls := "java/util/DualPivotQuicksort", name := "sort", desc := "([JIII)V" } : Jvm.MethodName) jdk_2529_method_12_code (7 : Nat) (Option.none : Option Jvm.ClassFile.FieldType), Jvm.Cond.code ({ cls := "java/util/DualPivotQuicksort", name := "sort", desc := "(Ljava/util/DualPivotQuicksort$Sorter;[JIII)V" } : Jvm.MethodName) jdk_2529_method_13_code (25 : Nat) (Option.none : Option Jvm.ClassFile.FieldType), Jvm.Cond.code ({ cls := "java/util/DualPivotQuicksort", name := "insertionSort", desc := "([JII)V" } : Jvm.MethodName) jdk_2529_method_15_code (7 : Nat) (Option.none : Option Jvm.ClassFile.FieldType), Jvm.Cond.code ({ cls := "com/example/flicker/flicker/game/GameBuilder", name := "firstMissingId", desc := "()I" } : Jvm.MethodName) prog_7_method_7_code (2 : Nat) (Option.some Jvm.ClassFile.FieldType.int), Jvm.Cond.code ({ cls := "com/example/flicker/flicker/game/GameBuilderFirstMissingIdPinLaw", name := "place", desc := "(IIIZ)I" } : Jvm.MethodName) method_4_code (5 : Nat) (Option.some Jvm.ClassFile.FieldType.int), Jvm.Cond.code ({ cls := "com/example/flicker/flicker/game/GameBuilder", name := "vertex", desc := "(ILcom/example/flicker/flicker/game/Player;ILjava/lang/CharSequence;[II)V" } : Jvm.MethodName) prog_7_method_2_code (8 : Nat) (Option.none : Option Jvm.ClassFile.FieldType), Jvm.Cond.code ({ cls := "com/example/flicker/flicker/game/VertexNames", name := "add", desc := "(Ljava/lang/CharSequence;)V" } : Jvm.MethodName) prog_23_method_2_code (2 : Nat) (Option.none : Option Jvm.ClassFile.FieldType), Jvm.Cond.code ({ cls := "java/lang/StringBuilder", name := "length", desc := "()I" } : Jvm.MethodName) jdk_67_method_93_code (1 : Nat) (Option.some Jvm.ClassFile.FieldType.int), Jvm.Cond.code ({ cls := "java/lang/AbstractStringBuilder", name := "length", desc := "()I" } : Jvm.MethodName) jdk_68_method_6_code (1 : Nat) (Option.some Jvm.ClassFile.FieldType.int)]
set_option maxRecDepth 65536 in
theorem codes_eq : words1.filter isCode = codes1 := rfl
theorem w_codes : ∀ c ∈ words1.filter isCode, c.before args0 about1 = true := by
  rw [codes_eq]
  intro c hc
  simp only [codes1, List.mem_cons, List.not_mem_nil, or_false] at hc
  rcases hc with rfl | rfl | rfl | rfl | rfl | rfl | rfl | rfl | rfl | rfl | rfl | rfl | rfl | rfl | rfl | rfl | rfl | rfl | rfl | rfl | rfl
  · exact w_c0
  · exact w_c1
  · exact w_c2
  · exact w_c3
  · exact w_c4
  · exact w_c5
  · exact w_c6
  · exact w_c7
  · exact w_c8
  · exact w_c9
  · exact w_c10
  · exact w_c11
  · exact w_c12
  · exact w_c13
  · exact w_c14
  · exact w_c15
  · exact w_c16
  · exact w_c17
  · exact w_c18
  · exact w_c19
  · exact w_c20
set_option maxRecDepth 65536 in
theorem w_t1 : (words1.take 24).all (fun c => isCode c || c.before args0 about1) = true := by decide +kernel
set_option maxRecDepth 65536 in
theorem w_t2 : ((words1.drop 24).take 24).all (fun c => isCode c || c.before args0 about1) = true := by decide +kernel
set_option maxRecDepth 65536 in
theorem w_t3 : (((words1.drop 24).drop 24).take 24).all (fun c => isCode c || c.before args0 about1) = true := by decide +kernel
set_option maxRecDepth 65536 in
theorem w_t4 : ((((words1.drop 24).drop 24).drop 24).take 24).all (fun c => isCode c || c.before args0 about1) = true := by decide +kernel
set_option maxRecDepth 65536 in
theorem w_t5 : (((((words1.drop 24).drop 24).drop 24).drop 24).take 24).all (fun c => isCode c || c.before args0 about1) = true := by decide +kernel
set_option maxRecDepth 65536 in
theorem w_t6 : ((((((words1.drop 24).drop 24).drop 24).drop 24).drop 24).take 24).all (fun c => isCode c || c.before args0 about1) = true := by decide +kernel
set_option maxRecDepth 65536 in
theorem w_t7 : (((((((words1.drop 24).drop 24).drop 24).drop 24).drop 24).drop 24).take 24).all (fun c => isCode c || c.before args0 about1) = true := by decide +kernel
set_option maxRecDepth 65536 in
theorem w_t8 : (((((((words1.drop 24).drop 24).drop 24).drop 24).drop 24).drop 24).drop 24).all (fun c => isCode c || c.before args0 about1) = true := by decide +kernel
theorem w_tables : (allAtoms (Jvm.Cond.code x code maxLocals ret :: tables_1)).before args0 about1 = true := by
  rw [allAtoms_all]
  show words1.all (fun c => c.before args0 about1) = true
  refine all_split ?_ w_codes
  rw [← List.take_append_drop 24 words1, List.all_append, w_t1, ← List.take_append_drop 24 (words1.drop 24), List.all_append, w_t2, ← List.take_append_drop 24 ((words1.drop 24).drop 24), List.all_append, w_t3, ← List.take_append_drop 24 (((words1.drop 24).drop 24).drop 24), List.all_append, w_t4, ← List.take_append_drop 24 ((((words1.drop 24).drop 24).drop 24).drop 24), List.all_append, w_t5, ← List.take_append_drop 24 (((((words1.drop 24).drop 24).drop 24).drop 24).drop 24), List.all_append, w_t6, ← List.take_append_drop 24 ((((((words1.drop 24).drop 24).drop 24).drop 24).drop 24).drop 24), List.all_append, w_t7, w_t8]
  rfl
set_option maxRecDepth 65536 in
theorem w_rest : rest_1_c.before args0 about1 = true := by decide +kernel
set_option maxRecDepth 65536 in
theorem w_case : (Jvm.Cond.and given_1 narrow_1).before args0 about1 = true := by decide +kernel
theorem w_applies : (headSpec (Jvm.Cond.code x code maxLocals ret :: tables_1) room_1).applies x e0.platform about1 = true :=
  (Spec.applies_iff w_frames).mpr ⟨w_running, w_runnable, w_alone, w_named, w_hears, w_ripe, w_room, w_tables⟩
theorem atStart : AtStart classFile x code maxLocals ret World_1 tables_1 room_1 Calls_1 rest_1 Pre_1 launch0 p0 e0 about1 theMethod args0 below0 :=
  ⟨lists_1, trivial, launch0.admits_env _ _ _, launch0.least_env, fairChoices_fair.cas, fairChoices_fair.clock, w_frames, w_args, w_heap, w_applies, trivial, w_rest, w_case⟩
end start1
theorem witness_1 : WitnessClaimed_1 := ⟨start1.p0, start1.e0, start1.about1, start1.theMethod, start1.args0, start1.below0, start1.atStart⟩
end Jvm.Pilot.@@N@@
